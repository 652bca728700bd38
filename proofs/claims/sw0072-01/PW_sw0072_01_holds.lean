import PyProof.Rows.All
import Wide.All
import OpenK.AllK
import Wide.FinOn
import PySem.Challenge.RW_sw0072_01
set_option Elab.async false
set_option maxRecDepth 100000
set_option maxHeartbeats 4000000
set_option compiler.extract_closed false
set_option linter.all false
namespace Mine
section
open PySem PySem.W PyProof.Rows PySem.Calls
theorem o1 {na nb : Nat} : ((na + (nb + 1)) ≤ 900) → (na + nb) ≤ 900 := by intros; omega
theorem o2 {na nb : Nat} : ((na + (20 * (nb + 1))) ≤ 9000) → ((na + 1) + (20 * nb)) ≤ 9000 := by intros; omega
theorem o3 {na nb : Nat} : ((na + (nb + 1)) ≤ 900) → ((na + 1) + nb) ≤ 900 := by intros; omega
theorem o4 {na nb : Nat} : ((na + (20 * (nb + 1))) ≤ 9000) → ((na + 3) + (20 * nb)) ≤ 9000 := by intros; omega
theorem o5 {na nb nc : Nat} : ((na + nc) ≤ 900) → (nb ≤ nc) → (na + nb) ≤ 900 := by intros; omega
theorem o6 {na nb nc : Nat} : ((na + (20 * nc)) ≤ 9000) → (nb ≤ nc) → (na + (20 * nb)) ≤ 9000 := by intros; omega
theorem o7 {na nb : Nat} : ((na + nb) ≤ 900) → na < 1000 := by intros; omega
theorem o8 {na nb : Nat} : ((na + (20 * nb)) ≤ 9000) → na < 9900 := by intros; omega
theorem o9 {na : Nat} : (na < (2 ^ 20)) → na ≤ 16777216 := by intros; omega
theorem o10 {nb nc : Nat} {za : Int} : (nb < (2 ^ 20)) → (nc ≤ nb) → (za = (Nat.cast nc : Int)) → ((-(2 ^ 63)) ≤ za) ∧ (za < (2 ^ 63)) := by intros; omega
theorem o11 {na nb : Nat} : (na ≤ nb) → (min na nb) = na := by intros; omega
theorem o12 {nb : Nat} {za : Int} : (za = (Nat.cast nb : Int)) → ¬ (za < 0) := by intros; omega
theorem o13 {nb : Nat} {za : Int} : (za = (Nat.cast nb : Int)) → (Int.toNat za) = nb := by intros; omega
theorem o14 {na : Nat} : (na < (2 ^ 60)) → (Nat.cast na : Int) < (2 ^ 63) := by intros; omega
theorem o15 {za : Int} : (za < (2 ^ 60)) → za < (2 ^ 63) := by intros; omega
theorem o16 {na : Nat} : (na < (2 ^ 20)) → na ≤ 16777215 := by intros; omega
theorem o17 {na : Nat} : (na < (2 ^ 20)) → (na + 1) ≤ 16777216 := by intros; omega
theorem o18 {na nb nc : Nat} : (nb < na) → (nc = (na - nb)) → (na - (nb + 1)) < nc := by intros; omega
theorem o19 {na : Nat} : (Int.toNat (0 + (Nat.cast na : Int))) = na := by omega
theorem o20 {na : Nat} : 0 ≤ (0 + (Nat.cast na : Int)) := by omega
theorem o21 {na nb : Nat} : (na < nb) → (0 + (Nat.cast na : Int)) < (Nat.cast nb : Int) := by intros; omega
theorem o22 {na : Nat} : 0 ≤ na := by omega
theorem o23 {na nb : Nat} : (na < nb) → (na + 1) ≤ nb := by intros; omega
theorem o24 {na : Nat} {zb : Int} : (na ≤ 33554432) → (zb ≤ 33554432) → ((Nat.cast na : Int) + zb) ≤ (2 ^ 27) := by intros; omega
theorem o25 {na nb : Nat} : (na ≤ 33554432) → (nb ≤ 33554432) → ¬ (((Nat.cast na : Int) + (Nat.cast nb : Int)) > (Nat.cast (2 ^ 27) : Int)) := by intros; omega
theorem o26 {na : Nat} : (na ≤ 7) → (Nat.cast na : Int) ≤ 7 := by intros; omega
theorem o27 {za : Int} : (za ≤ (7 * (2 ^ 20))) → za ≤ (2 ^ 27) := by intros; omega
theorem o28 {na : Nat} : (na < 1000) → ¬ (((na / 30) + 1) > 300) := by intros; omega
theorem o29 {za : Int} : (0 ≤ za) → (-(2 ^ 62)) ≤ za := by intros; omega
theorem o30 {nb : Nat} {za zc : Int} : ((Nat.cast nb : Int) = (zc - za)) → (zc < (2 ^ 62)) → za < (2 ^ 62) := by intros; omega
theorem o31 {nb : Nat} {za zc : Int} : ((Nat.cast nb : Int) = (za - zc)) → (0 ≤ zc) → (-(2 ^ 62)) ≤ za := by intros; omega
theorem o32 {nc : Nat} {za zb : Int} : ((Nat.cast nc : Int) = (za - zb)) → (za - zb) = ((Nat.cast nc : Int) - (Nat.cast 0 : Int)) := by intros; omega
theorem o33 {na : Nat} {zb zc : Int} : ((Nat.cast na : Int) = (zb - zc)) → (¬ (zc < zb)) → 0 = ((Nat.cast na : Int) - (Nat.cast 0 : Int)) := by intros; omega
theorem o34 {na nb : Nat} : (nb < na) → 0 < ((Nat.cast na : Int) - (Nat.cast nb : Int)) := by intros; omega
theorem o35 {nb : Nat} {za : Int} : ((za + (Nat.cast nb : Int)) + 1) = (za + (Nat.cast (nb + 1) : Int)) := by omega
theorem o36 {na nb : Nat} : (((Nat.cast na : Int) - (Nat.cast nb : Int)) - 1) = ((Nat.cast na : Int) - (Nat.cast (nb + 1) : Int)) := by omega
theorem o37 {na : Nat} : ((Nat.cast na : Int) - (Nat.cast na : Int)) ≤ 0 := by omega
theorem o38 {na nb : Nat} : (nb < na) → (((Nat.cast na : Int) - (Nat.cast nb : Int)) - 1) = (Nat.cast ((na - 1) - nb) : Int) := by intros; omega
theorem o39 {na nb : Nat} : ((((Nat.cast na : Int) - (Nat.cast nb : Int)) - 1) = (Nat.cast ((na - 1) - nb) : Int)) → ((Nat.cast ((na - 1) - nb) : Int) - 1) = (((Nat.cast na : Int) - (Nat.cast (nb + 1) : Int)) - 1) := by intros; omega
theorem o40 {na : Nat} : (((Nat.cast na : Int) - (Nat.cast na : Int)) - 1) = (-1) := by omega
theorem o41 {na : Nat} : na ≤ (na + 4) := by omega
theorem o42 {na : Nat} : na ≤ (na + 2) := by omega
theorem o43 {na : Nat} : na ≤ (na + 3) := by omega
theorem o44 {na : Nat} : na ≤ na := by omega
theorem o45 {na : Nat} : na ≤ (na + 1) := by omega
theorem o46 {na nb nc nd : Nat} : (na < nc) → (nc = (min nb nd)) → na < nb := by intros; omega
theorem o47 {na nb nc nd : Nat} : (na < nc) → (nc = (min nd nb)) → na < nb := by intros; omega
theorem o48 {na nb nc : Nat} : (nb = (min nc na)) → (¬ (nc ≤ nb)) → na ≤ nb := by intros; omega
theorem o49 {na nb : Nat} : (na ≤ nb) → na ≤ (nb + 1) := by intros; omega
theorem o50 {na nb : Nat} : (na < nb) → na < (nb + 1) := by intros; omega
theorem o51 {na : Nat} : na < (na + 1) := by omega
theorem o52 {nb : Nat} {za : Int} : (nb < (2 ^ 10)) → (za = (Nat.cast nb : Int)) → ((-9223372036854775808) ≤ za) ∧ (za < 9223372036854775808) := by intros; omega
theorem o53 {nb : Nat} {za : Int} : (nb < (2 ^ 10)) → (za = (Nat.cast nb : Int)) → za ≤ 1152921504606846975 := by intros; omega
theorem o54 {nb : Nat} {za : Int} : (nb < (2 ^ 10)) → (za = (Nat.cast nb : Int)) → za ≤ 16777216 := by intros; omega
theorem o55 {nb : Nat} {za : Int} : (za = (Nat.cast nb : Int)) → 0 ≤ za := by intros; omega
theorem o56 {nb nc : Nat} {za : Int} : (nb < (2 ^ 20)) → (nc < nb) → (za = (Nat.cast nc : Int)) → za < (2 ^ 63) := by intros; omega
theorem o57 {na : Nat} : 0 < (na + 1) := by omega
theorem o58 {na nb : Nat} : ((na + nb) ≤ (2 ^ 20)) → (na + nb) ≤ 16777216 := by intros; omega
theorem o59 {na : Nat} : (na ≤ (2 ^ 20)) → ¬ ((Nat.cast na : Int) ≥ (2 ^ 63)) := by intros; omega
theorem o60 {za : Int} : (0 ≤ za) → (za < (2 ^ 20)) → ((-9223372036854775808) ≤ za) ∧ (za < 9223372036854775808) := by intros; omega
theorem o61 {za : Int} : (0 ≤ za) → ¬ (za < 0) := by intros; omega
theorem o62 {nb nc : Nat} {za : Int} : ((Int.toNat za) < nc) → (0 ≤ za) → (nb = nc) → (0 ≤ za) ∧ (za < (Nat.cast nb : Int)) := by intros; omega
theorem o63 {na : Nat} : (na ≤ (2 ^ 20)) → na ≤ 16777216 := by intros; omega
theorem o64 {nb : Nat} {za : Int} : ((-(Nat.cast nb : Int)) ≤ za) → (nb < (2 ^ 20)) → (-(2 ^ 63)) ≤ za := by intros; omega
theorem o65 {na : Nat} : (na ≤ 1000) → na ≤ (16777216 + 1) := by intros; omega
theorem o66 {na nb nc : Nat} : (na < (min nb nc)) → na < nb := by intros; omega
theorem o67 {na nb nc : Nat} : (na < (min nc nb)) → na < nb := by intros; omega
theorem o68 {na nb : Nat} : na ≤ (na + nb) := by omega
theorem o69 {na nb nc : Nat} : (nb < (nc - na)) → (na + nb) < nc := by intros; omega
theorem o70 {na nb nc : Nat} : (nb = 0) → (na = nc) → (na + nb) = nc := by intros; omega
theorem o71 {na nb : Nat} : (na ≤ nb) → (¬ (na = nb)) → na < nb := by intros; omega
theorem o72 {na : Nat} : (Nat.cast na : Int) ≤ (Nat.cast na : Int) := by omega
theorem o73 {na : Nat} : ((Nat.cast na : Int) < 0) → False := by intros; omega
theorem o74 {nc nd ne : Nat} {za zb : Int} : ((Nat.cast nc : Int) ≤ (Nat.cast nd : Int)) → (nd < ne) → (nc = ne) → ¬ (za < zb) := by intros; omega
theorem o75 {za zb zc : Int} : (za < zc) → (zb = ((za + zc) / 2)) → za ≤ zb := by intros; omega
theorem o76 {za zb zc : Int} : (zc < zb) → (za = ((zc + zb) / 2)) → za < zb := by intros; omega
theorem o77 {nb : Nat} {za zc zd : Int} : (0 ≤ zc) → (za < zd) → (zd ≤ (Nat.cast nb : Int)) → (zc ≤ za) → (Int.toNat za) < nb := by intros; omega
theorem o78 {za zb : Int} : (0 ≤ zb) → (zb ≤ za) → 0 ≤ za := by intros; omega
theorem o79 {nb nc : Nat} {za zd : Int} : (nb < (2 ^ 60)) → (nb = nc) → (za < zd) → (zd ≤ (Nat.cast nc : Int)) → za < (2 ^ 60) := by intros; omega
theorem o80 {za zb : Int} : (0 ≤ zb) → (zb ≤ za) → 0 ≤ (za + 1) := by intros; omega
theorem o81 {za zb : Int} : (za < zb) → (za + 1) ≤ zb := by intros; omega
theorem o82 {za zb zc : Int} : (zb < za) → (zc ≤ zb) → (Int.toNat (za - (zb + 1))) < (Int.toNat (za - zc)) := by intros; omega
theorem o83 {na : Nat} {zb : Int} : ((Nat.cast na : Int) < (zb + 1)) → na ≤ (Int.toNat zb) := by intros; omega
theorem o84 {nb : Nat} {za zc : Int} : (za < zc) → (zc ≤ (Nat.cast nb : Int)) → za ≤ (Nat.cast nb : Int) := by intros; omega
theorem o85 {za zb zc : Int} : (za < zc) → (zb ≤ za) → (Int.toNat (za - zb)) < (Int.toNat (zc - zb)) := by intros; omega
theorem o86 {nb : Nat} {za : Int} : (za ≤ (Nat.cast nb : Int)) → (Int.toNat za) ≤ nb := by intros; omega
theorem o87 {nb : Nat} {za zc : Int} : (zc ≤ (Nat.cast nb : Int)) → (za ≤ zc) → (Int.toNat za) ≤ nb := by intros; omega
theorem o88 {na : Nat} {zb : Int} : (na < (Int.toNat zb)) → (Nat.cast na : Int) < zb := by intros; omega
theorem o89 {nb : Nat} {za zc : Int} : ((Int.toNat zc) ≤ nb) → (¬ (zc < za)) → za ≤ (Nat.cast nb : Int) := by intros; omega
theorem o90 {nb : Nat} {za : Int} : (0 ≤ za) → (nb = (Int.toNat za)) → za = (Nat.cast nb : Int) := by intros; omega
theorem o91 {nc nd ne : Nat} {za zb : Int} : ((Nat.cast nc : Int) ≤ (Nat.cast nd : Int)) → (nd < ne) → (nc = ne) → ¬ (za ≤ zb) := by intros; omega
theorem o92 {za zb : Int} : (zb ≤ za) → ¬ (za < zb) := by intros; omega
theorem o93 {za zb zc : Int} : (za ≤ zc) → (¬ (zb < zc)) → za ≤ zb := by intros; omega
theorem o94 {na : Nat} : (na < (2 ^ 20)) → na < (2 ^ 60) := by intros; omega
theorem o95 {za zb : Int} : (za < zb) → (zb = za) → False := by intros; omega
theorem o96 {na nb : Nat} : (na < nb) → (na + 1) < (nb + 1) := by intros; omega
theorem o97 {za zb zc : Int} : (zc ≤ za) → (¬ (zc < zb)) → ¬ (za < zb) := by intros; omega
theorem o98 {za zb : Int} : (za ≤ zb) → (¬ (za < zb)) → za = zb := by intros; omega
theorem o99 {na nb nc : Nat} : (nb < (2 ^ 60)) → (na < nc) → (nb = nc) → (Nat.cast na : Int) < (2 ^ 60) := by intros; omega
theorem o100 {na nb : Nat} : (¬ (na < nb)) → ¬ ((Nat.cast na : Int) < (Nat.cast nb : Int)) := by intros; omega
theorem o101 {na nb nc : Nat} : (nb ≤ nc) → (nc ≤ na) → (na - nb) = ((nc - nb) + (na - nc)) := by intros; omega
theorem o102 {na nb : Nat} : (na ≤ nb) → (na + (nb - na)) = nb := by intros; omega
theorem o103 {na nb nc nd : Nat} : (na ≤ nd) → (nd ≤ nc) → (min (na - nb) (nc - nb)) = (na - nb) := by intros; omega
theorem o104 {na nb : Nat} : ((na - nb) ≤ 0) → (nb < na) → False := by intros; omega
theorem o105 {na nb : Nat} : ((na + 1) ≤ nb) → na < nb := by intros; omega
theorem o106 {na nb : Nat} : ((na + 1) ≤ nb) → (nb ≤ 1000) → (Nat.cast na : Int) < (2 ^ 60) := by intros; omega
theorem o107 {na nb : Nat} : (¬ (nb = (na + 1))) → ¬ (((Nat.cast na : Int) + 1) = (Nat.cast nb : Int)) := by intros; omega
theorem o108 {na nb nc : Nat} : (((na + nc) / 2) = nb) → (na < nc) → (¬ (nc = (na + 1))) → na < nb := by intros; omega
theorem o109 {na nb nc : Nat} : (((nc + nb) / 2) = na) → (nc < na) → na < nb := by intros; omega
theorem o110 {na nb : Nat} : (na < nb) → na ≤ nb := by intros; omega
theorem o111 {na nb nc nd : Nat} : (na < nc) → (nd ≤ 1000) → (nc ≤ nd) → (na - nb) ≤ 1000 := by intros; omega
theorem o112 {na nb nc nd : Nat} : (na < nc) → (nb < na) → (nd ≤ 1000) → (nc ≤ nd) → (Int.natAbs ((Nat.cast na : Int) - (Nat.cast nb : Int))) < (2 ^ 62) := by intros; omega
theorem o113 {na : Nat} : (na ≤ 1000) → (Int.natAbs (Nat.cast na : Int)) < (2 ^ 62) := by intros; omega
theorem o114 {na : Nat} : (na + 2) ≤ (na + 2) := by omega
theorem o115 {na nb nc nd : Nat} : ((na - nd) ≤ (nc + 1)) → (nd < nb) → (na - nb) ≤ nc := by intros; omega
theorem o116 {na : Nat} : (na ≤ (1000 * 1000)) → (Nat.cast na : Int) ≤ 33554432 := by intros; omega
theorem o117 {na nb nc : Nat} : (na < nc) → (nc ≤ nb) → na ≤ nb := by intros; omega
theorem o118 {na nb nc nd : Nat} : ((nd - nb) ≤ (nc + 1)) → (na < nd) → (na - nb) ≤ nc := by intros; omega
theorem o119 {na : Nat} : (na + 2) ≤ (na + 3) := by omega
theorem o120 {na : Nat} : (na - 0) ≤ na := by omega
theorem o121 {na : Nat} {zb : Int} : (0 ≤ zb) → (na ≤ 4000) → ((Nat.cast na : Int) - zb) ≤ 4000 := by intros; omega
theorem o122 {za zb : Int} : ((0 ≤ za) ∧ (za < zb)) → za ≤ (zb - 1) := by intros; omega
theorem o123 {za zb zc zd : Int} : ((0 ≤ za) ∧ (za < zd)) → (0 ≤ zb) → (zb ≤ (zc - zd)) → (0 ≤ (za + zb)) ∧ ((za + zb) < zc) := by intros; omega
theorem o124 {na : Nat} : ¬ (0 ≤ ((-(Nat.cast na : Int)) - 1)) := by omega
theorem o125 {na : Nat} : (Int.toNat ((-((-(Nat.cast na : Int)) - 1)) - 1)) = na := by omega
theorem o126 {na nb : Nat} : (((-((-(Nat.cast na : Int)) - 1)) - 1) - (Nat.cast nb : Int)) = ((Nat.cast na : Int) - (Nat.cast nb : Int)) := by omega
theorem o127 {na nb nc nd : Nat} : ((nd + nc) = na) → (nd = nb) → ((Nat.cast na : Int) - (Nat.cast nb : Int)) = (Nat.cast nc : Int) := by intros; omega
theorem o128 {na nb nc : Nat} : (na ≤ nc) → (nc ≤ nb) → (((min na nb) + (nc - na)) + (nb - nc)) = nb := by intros; omega
theorem o129 {na nb nc : Nat} : ((na + 1) ≤ nc) → (nb = nc) → na < nb := by intros; omega
theorem o130 {na nb nc nd : Nat} : (na < nd) → (nd ≤ nc) → (na - nb) ≤ nc := by intros; omega
theorem o131 {na nb nc : Nat} : (na ≤ nc) → (na - nb) ≤ nc := by intros; omega
theorem o132 {na nb : Nat} : (nb ≤ 1000) → (na ≤ nb) → (Nat.cast na : Int) ≤ 33554432 := by intros; omega
theorem o133 {na nb nc : Nat} : (nb < nc) → (nc < na) → (na - nb) = ((na - nc) + (nc - nb)) := by intros; omega
theorem o134 {na nb nc : Nat} : (nb = nc) → (na ≤ nc) → na ≤ nb := by intros; omega
theorem o135 {na nb : Nat} : (na = nb) → (nb ≤ 1000) → na ≤ 1000 := by intros; omega
theorem o136 {na nb nc nd : Nat} : (na < nc) → (nc < nd) → (nd ≤ nb) → ((min na nb) + (nc - na)) = nc := by intros; omega
theorem o137 {na nb : Nat} : (nb = na) → na ≤ nb := by intros; omega
theorem o138 {na nb : Nat} : (na = nb) → na ≤ nb := by intros; omega
theorem o139 {na nb nc : Nat} : (nc < nb) → (na = nc) → na ≤ nb := by intros; omega
theorem o140 {na nb : Nat} : (na < nb) → (na + (nb - na)) = nb := by intros; omega
theorem o141 {na nb nc : Nat} : (na < nc) → (nb < na) → ((na - nb) + (nc - na)) = (nc - nb) := by intros; omega
theorem o142 {na : Nat} : (0 < na) → (Nat.cast na : Int) ≠ 0 := by intros; omega
theorem o143 {na : Nat} : (na ≤ 300) → (Int.natAbs (Nat.cast na : Int)) < (2 ^ 62) := by intros; omega
theorem o144 {na nb : Nat} : (0 < nb) → (((Nat.cast na : Int) + (Nat.cast nb : Int)) - 1) = (Nat.cast ((na + nb) - 1) : Int) := by intros; omega
theorem o145 {na nb nc nd : Nat} : ((nb + nc) = ((na + nd) - 1)) → (nc < nd) → na ≤ nb := by intros; omega
theorem o146 {na : Nat} : (0 < na) → ((0 + na) - 1) < na := by intros; omega
theorem o147 {na nb : Nat} : (na > 0) → ((na + nb) - 1) = ((na - 1) + nb) := by intros; omega
theorem o148 {na nb : Nat} : (nb > 0) → (na ≤ (nb - 1)) → (na + 1) ≤ nb := by intros; omega
theorem o149 {na nb : Nat} : (nb ≤ 300) → (na ≤ nb) → na < (2 ^ 10) := by intros; omega
theorem o150 {na nb : Nat} : (nb = 0) → (na ≤ nb) → na = 0 := by intros; omega
theorem o151 {na : Nat} : (¬ (na = 0)) → (Nat.cast na : Int) ≠ 0 := by intros; omega
theorem o152 {na nb : Nat} : (0 < na) → (na ≤ (nb * 0)) → 0 < 0 := by intros; omega
theorem o153 {na : Nat} : (na ≤ 300) → na ≤ 1000 := by intros; omega
theorem o154 {na nb : Nat} : (nb ≤ 300) → (na ≤ nb) → (na + 2) ≤ 309 := by intros; omega
theorem o155 {na nb : Nat} : (nb ≤ 300) → (na ≤ nb) → na ≤ 1000 := by intros; omega
theorem o156 {na nb nc : Nat} : (na ≤ ((nb + nc) - 1)) → (nc ≤ 300) → (nb ≤ 300) → na ≤ 1000 := by intros; omega
theorem o157 {na nb : Nat} : (nb ≤ 300) → (na ≤ nb) → na ≤ 300 := by intros; omega
theorem o158 {na : Nat} : (0 < na) → 0 < (Nat.cast na : Int) := by intros; omega
theorem o159 {na nb nc : Nat} : (nb < na) → (nc = na) → ((na - 1) - nb) < nc := by intros; omega
theorem o160 {nb : Nat} {za : Int} : (0 ≤ za) → (za < (Nat.cast nb : Int)) → (Int.natAbs za) < nb := by intros; omega
theorem o161 {na : Nat} : (na ≤ 300) → (Nat.cast na : Int) ≤ 33554432 := by intros; omega
theorem o162 {nb : Nat} {za : Int} : (za < (Nat.cast nb : Int)) → za ≤ ((Nat.cast nb : Int) - 1) := by intros; omega
theorem o163 {za zb zc zd : Int} : ((0 ≤ zb) ∧ (zb < zd)) → (0 ≤ za) → (za ≤ (zc - zd)) → (0 ≤ (za + zb)) ∧ ((za + zb) < zc) := by intros; omega
theorem o164 {na : Nat} : (na ≤ 300) → (na + na) ≤ 4000 := by intros; omega
theorem o165 {za zb zc zd : Int} : ((0 ≤ (za + zb)) ∧ ((za + zb) < zd)) → (zd ≤ zc) → (Nat.cast (Int.natAbs (za + zb)) : Int) < zc := by intros; omega
theorem o166 {na : Nat} {zb : Int} : (0 ≤ zb) → (zb < (Nat.cast na : Int)) → (Nat.cast na : Int) ≠ 0 := by intros; omega
theorem o167 {na nb nc nd : Nat} : (na = nb) → (nb = nc) → (nd ≤ 300) → (nc ≤ nd) → na < (2 ^ 20) := by intros; omega
theorem o168 {na nb : Nat} : (nb < na) → (((na - 1) - nb) + 1) = (na - nb) := by intros; omega
theorem o169 {za zb zc zd ze zf zg zh : Int} : ((zg + zc) = (zh + zd)) → (zh = zf) → (zg = za) → (ze = zb) → ((za + zb) + zc) = (zd + (ze + zf)) := by intros; omega
theorem o170 {na : Nat} {zb : Int} : (0 ≤ zb) → (zb < (Nat.cast na : Int)) → 0 < (Nat.cast na : Int) := by intros; omega
theorem o171 {na nb nc : Nat} : (na = nb) → (nb = nc) → (nc ≤ 300) → na < (2 ^ 20) := by intros; omega
theorem o172 {na nb : Nat} : (na = nb) → (nb ≤ 300) → na ≤ 315 := by intros; omega
theorem o173 {na nb : Nat} : (na = nb) → (nb ≤ 300) → na ≤ 1000 := by intros; omega
theorem o174 {na nb nc nd : Nat} : (nc = nd) → (nd ≤ 300) → (min (na - nb) (nc - nb)) ≤ 300 := by intros; omega
theorem o175 {za zb : Int} : ((0 ≤ za) ∧ (za < zb)) → (Nat.cast (Int.natAbs za) : Int) < zb := by intros; omega
theorem o176 {za : Int} : za = (0 + za) := by omega
theorem o177 {za : Int} : (0 < za) → 0 ≤ za := by intros; omega
theorem o178 {za : Int} : (0 < za) → za ≠ 0 := by intros; omega
theorem o179 {za zb zc zd : Int} : ((zc + zb) = ((-zd) - 1)) → ((za + ((-zb) - 1)) + ((-zc) - (za * 1))) = zd := by intros; omega
theorem o180 {za zb : Int} : (zb < za) → 0 ≤ (za + ((-zb) - 1)) := by intros; omega
theorem o181 {za zb : Int} : (0 ≤ zb) → (za + ((-zb) - 1)) < za := by intros; omega
theorem o182 {na : Nat} : ((329 + na) + 1) = (330 + na) := by omega
theorem o183 {na : Nat} : na < (1 + na) := by omega
theorem o184 {za : Int} : (za < 0) → ¬ ((-za) < 0) := by intros; omega
theorem o185 {na : Nat} : (330 + na) ≤ (329 + (1 + na)) := by omega
theorem o186 {za : Int} : ((Int.natAbs za) < (2 ^ 299)) → (Int.natAbs (-za)) < (2 ^ 299) := by intros; omega
theorem o187 {za : Int} : (za < 0) → (-za) ≠ 0 := by intros; omega
theorem o188 {za : Int} : (-(-za)) = za := by omega
theorem o189 {za : Int} : (za < 0) → ¬ (((-za) - 1) < 0) := by intros; omega
theorem o190 {za : Int} : ((Int.natAbs za) < (2 ^ 299)) → (za < 0) → (Int.natAbs ((-za) - 1)) < (2 ^ 299) := by intros; omega
theorem o191 {za : Int} : (za ≠ 0) → (¬ (za < 0)) → 0 < za := by intros; omega
theorem o192 {za : Int} : (¬ (za < 0)) → za = (Nat.cast (Int.toNat za) : Int) := by intros; omega
theorem o193 {na : Nat} : 320 ≤ (329 + na) := by omega
theorem o194 {za : Int} : (za = (Nat.cast (Int.toNat za) : Int)) → (za ≠ 0) → 0 < (Int.toNat za) := by intros; omega
theorem o195 {za : Int} : (za = (Nat.cast (Int.toNat za) : Int)) → (Int.toNat za) = (Int.natAbs za) := by intros; omega
theorem o196 {za : Int} : (za = (Nat.cast (Int.toNat za) : Int)) → 0 ≤ za := by intros; omega
theorem o197 {na : Nat} : (na ≤ 1000) → na ≤ (2 ^ 20) := by intros; omega
theorem o198 {na nb : Nat} : (2 ≤ nb) → (na = nb) → 2 ≤ (Nat.cast na : Int) := by intros; omega
theorem o199 {na nb : Nat} : (2 ≤ nb) → (na = nb) → (-(Nat.cast na : Int)) ≤ (-1) := by intros; omega
theorem o200 {na nb : Nat} : (na = nb) → (Int.toNat ((-1) + (Nat.cast na : Int))) = (nb - 1) := by intros; omega
theorem o201 {nb : Nat} {za : Int} : (¬ (za < 0)) → 0 ≤ (za + (Nat.cast nb : Int)) := by intros; omega
theorem o202 {na nb : Nat} : (nb < (2 ^ 20)) → (na = nb) → na < (2 ^ 60) := by intros; omega
theorem o203 {na nb : Nat} : ((nb + 1) < 1048576) → (na = nb) → na < (2 ^ 20) := by intros; omega
theorem o204 {na : Nat} : ((na + 1) < (2 ^ 20)) → (na + 1) < 1152921504606846976 := by intros; omega
theorem o205 {na : Nat} : ((na + 1) < (2 ^ 20)) → na < (2 ^ 20) := by intros; omega
theorem o206 {na : Nat} : (na ≤ 1000) → na ≤ 1048575 := by intros; omega
theorem o207 {na nb : Nat} : ((nb + na) ≤ 1000) → na < (2 ^ 20) := by intros; omega
theorem o208 {na nb : Nat} : ((na + (nb + 1)) ≤ 1000) → na ≤ 1000 := by intros; omega
theorem o209 {na nb : Nat} : ((nb + ((na + 1) + 1)) ≤ 1000) → (na + 1) < 1048576 := by intros; omega
theorem o210 {na nb : Nat} : ((na + ((nb + 1) + 1)) ≤ 1000) → na ≤ 1000 := by intros; omega
theorem o211 {na : Nat} : na < ((na + 1) + 1) := by omega
theorem o212 {na nb : Nat} : ((na + ((nb + 1) + 1)) ≤ 1000) → ((na + 1) + nb) ≤ 1000 := by intros; omega
theorem o213 {na nb : Nat} : ((na + (nb + 1)) ≤ 1000) → ((na + 1) + nb) ≤ 1000 := by intros; omega
theorem o214 {na : Nat} : (na ≤ 999) → na ≤ 1000 := by intros; omega
theorem o215 {na : Nat} : (na ≤ 998) → (na + 1) < 1048576 := by intros; omega
theorem o216 {na : Nat} : (na ≤ 998) → (1 + na) ≤ 1000 := by intros; omega
theorem o217 {na : Nat} : (na ≤ 999) → (1 + na) ≤ 1000 := by intros; omega
theorem o218 {na nb nc : Nat} : ((na + (nc + 1)) ≤ 900) → (nb = 1) → ((na + nb) + nc) ≤ 900 := by intros; omega
theorem o219 {na nb nc : Nat} : ((na + (20 * (nc + 1))) ≤ 9000) → (nb = 1) → ((na + nb) + (20 * nc)) ≤ 9000 := by intros; omega
theorem o220 {na : Nat} : (na ≤ 10000) → na ≤ (2 ^ 20) := by intros; omega
theorem o221 {na : Nat} : (na < 4) → na ≤ 4 := by intros; omega
theorem o222 {na : Nat} : (na < 4) → (Nat.cast na : Int) ≤ (2 ^ 20) := by intros; omega
theorem o223 {na : Nat} : ((Nat.cast na : Int) = 1) ↔ (na = 1) := by omega
theorem o224 {na : Nat} : (na < 4) → (Nat.cast na : Int) < (2 ^ 60) := by intros; omega
theorem o225 {na : Nat} : (na ≤ 4) → ((na * 1) + (na * 0)) ≤ 16777216 := by intros; omega
theorem o226 {na nb nc nd : Nat} : (na ≤ nd) → (nb ≤ nc) → (na + nb) ≤ (nc + nd) := by intros; omega
theorem o227 {na : Nat} : (na ≤ 10) → (na * 2) ≤ 20 := by intros; omega
theorem o228 {na : Nat} : (na ≤ 10) → (na * 2) ≤ 16777216 := by intros; omega
theorem o229 {na : Nat} : (na ≤ 20) → (na + 1) ≤ (2 ^ 20) := by intros; omega
theorem o230 {na nb : Nat} : (na ≤ 1000) → (nb ≤ 20) → (na + (nb + (0 + 1))) ≤ (2 ^ 20) := by intros; omega
theorem o231 {na : Nat} : (na ≤ 20) → (1 + na) ≤ (2 ^ 20) := by intros; omega
theorem o232 {na : Nat} : (na ≤ 20) → (((0 + 1) + na) + 2) ≤ (2 ^ 20) := by intros; omega
theorem o233 {na nb : Nat} : (na ≤ 1000) → (nb ≤ 20) → (na + (((0 + 1) + nb) + ((0 + 1) + 1))) ≤ (2 ^ 20) := by intros; omega
theorem o234 {na : Nat} : (na ≤ 4) → (na * 2) ≤ 8 := by intros; omega
theorem o235 {na : Nat} : (na ≤ 8) → (na + (0 + 1)) ≤ 30 := by intros; omega
theorem o236 {na : Nat} : (na ≤ 8) → ((na + 1) + ((0 + 1) + 1)) ≤ 30 := by intros; omega
theorem o237 {na : Nat} : ((Nat.cast ((na / 16) % 2) : Int) = 1) ↔ (((na / 16) % 2) = 1) := by omega
theorem o238 {na nb : Nat} : (nb ≤ 10) → ((min na nb) * 30) ≤ 1000 := by intros; omega
theorem o239 {na nb : Nat} : ((na + 1) + nb) ≤ (na + (nb + 1)) := by omega
theorem o240 {za zb zc : Int} : (zc ≤ zb) → (¬ (zc ≤ za)) → za < zb := by intros; omega
theorem o241 {za zb : Int} : (¬ (zb ≤ za)) → za ≤ zb := by intros; omega
theorem o242 {za zb zc : Int} : (zc ≤ zb) → (¬ (zc ≤ za)) → za ≤ zb := by intros; omega
theorem o243 {na nb : Nat} : (min (na - nb) (4 - nb)) ≤ 4 := by omega
theorem o244 {nb : Nat} {za : Int} : (0 ≤ za) → (nb ≤ (2 ^ 4)) → (za < (Nat.cast nb : Int)) → (Int.natAbs za) < (2 ^ 4) := by intros; omega
theorem o245 {na nb : Nat} : (na < nb) → (nb ≤ 10) → na ≤ 10 := by intros; omega
theorem o246 {na nb : Nat} : ((Nat.cast (na % 16) : Int) = (Nat.cast (nb % 16) : Int)) → (na % 16) = (nb % 16) := by intros; omega
theorem o247 {na nb : Nat} : ((na % 16) = (nb % 16)) → (Nat.cast (na % 16) : Int) = (Nat.cast (nb % 16) : Int) := by intros; omega
theorem o248 {na nb : Nat} : (na < nb) → (nb ≤ 10) → na < (2 ^ 20) := by intros; omega
theorem o249 {na : Nat} : (na ≤ 1000) → na ≤ 16777216 := by intros; omega
theorem o250 {na : Nat} : (((na + 1) % 2) = 1) → (na % 2) ≠ 1 := by intros; omega
theorem o251 {na nb nc : Nat} : ((na - nc) = (nb - nc)) → (nc ≤ na) → (nc ≤ nb) → na = nb := by intros; omega
theorem o252 {na nb nc : Nat} : (na < (min nb nc)) → (na = nb) → False := by intros; omega
theorem o253 {na nb nc : Nat} : (nb < nc) → (nc ≤ 10) → (na ≤ nb) → na ≤ 1000 := by intros; omega
theorem o254 {na nb : Nat} : (na ≤ nb) → (na + 1) ≤ (nb + 1) := by intros; omega
theorem o255 {na nb : Nat} : (nb ≤ 10) → (na ≤ nb) → na ≤ (10 + (10 * 0)) := by intros; omega
theorem o256 {na : Nat} : (Nat.cast na : Int) = ((Nat.cast na : Int) - 0) := by omega
theorem o257 {na : Nat} : (na ≤ 10) → (Nat.cast na : Int) < (2 ^ 62) := by intros; omega
theorem o258 {na nb : Nat} : (na ≤ (10 + (10 * nb))) → na ≤ ((10 + (10 * nb)) + 0) := by intros; omega
theorem o259 {na nb nc : Nat} : (na = nc) → (nc ≤ 10) → (((na - (nb + 1)) + (min nb na)) + 1) < 1048576 := by intros; omega
theorem o260 {na : Nat} : (na < 4) → (0 + (Nat.cast na : Int)) < (2 ^ 60) := by intros; omega
theorem o261 {na nb nc : Nat} : (na ≤ ((10 + (10 * nb)) + nc)) → na ≤ ((10 + (10 * nb)) + (nc + 1)) := by intros; omega
theorem o262 {na nb : Nat} : (nb ≤ na) → ((Nat.cast na : Int) - (Nat.cast nb : Int)) = (Nat.cast (na - nb) : Int) := by intros; omega
theorem o263 {na : Nat} : (na < 4) → (0 + (Nat.cast na : Int)) ≤ (2 ^ 20) := by intros; omega
theorem o264 {na nb nc : Nat} : (na = nc) → (nc ≤ 10) → ((na - nb) + (min nb na)) < 1048576 := by intros; omega
theorem o265 {na : Nat} : (na ≤ 4) → na ≤ 1048576 := by intros; omega
theorem o266 {na nb nc nd : Nat} : (nb < 4) → (nc < nd) → (na ≤ ((10 + (10 * nb)) + nc)) → (nd ≤ 10) → na ≤ 1000 := by intros; omega
theorem o267 {na nb nc : Nat} : (na ≤ ((10 + (10 * nb)) + nc)) → (na + 1) ≤ ((10 + (10 * nb)) + (nc + 1)) := by intros; omega
theorem o268 {na nb nc : Nat} : (na ≤ ((10 + (10 * nb)) + nc)) → (nc ≤ 10) → na ≤ (10 + (10 * (nb + 1))) := by intros; omega
theorem o269 {na nb nc : Nat} : (na = nc) → (nc ≤ 10) → ((na - (nb + 1)) + 1) < 1048576 := by intros; omega
theorem o270 {za zb : Int} : (zb > za) → za ≤ zb := by intros; omega
theorem o271 {za zb : Int} : (za ≤ zb) → (¬ (zb > za)) → za = zb := by intros; omega
theorem o272 {za zb : Int} : (zb < za) → ¬ (za ≤ zb) := by intros; omega
theorem o273 {za zb : Int} : (¬ (zb < za)) → za ≤ zb := by intros; omega
theorem o274 {za : Int} : (za < 0) → (Nat.cast (Int.natAbs za) : Int) = (-za) := by intros; omega
theorem o275 {za : Int} : (¬ (za < 0)) → (Nat.cast (Int.natAbs za) : Int) = za := by intros; omega
theorem o276 {na nb : Nat} : ((na + 1) ≤ nb) → na ≤ nb := by intros; omega
theorem o277 {na : Nat} : (na ≤ 9000) → (na + 64) < 9900 := by intros; omega
theorem o278 {na nb nc : Nat} : (na < nc) → (nb = nc) → na < nb := by intros; omega
theorem o279 {na nb nc nd : Nat} : (na = nc) → (nb = nd) → (nc = nd) → na = nb := by intros; omega
theorem o280 {na nb nc nd : Nat} : (na < nc) → (nb = nd) → (nc = nd) → na < nb := by intros; omega
theorem o281 {na nb nc nd : Nat} : (na = nc) → (nb = nd) → (¬ (nc = nd)) → ¬ (na = nb) := by intros; omega
theorem o282 {na nb : Nat} : ((na + nb) < (2 ^ 20)) → (na + nb) ≤ 16777216 := by intros; omega
theorem o283 {na nb : Nat} : ((Nat.cast (na % 16) : Int) = (0 + (Nat.cast nb : Int))) → (na % 16) = nb := by intros; omega
theorem o284 {na nb : Nat} : ((na % 16) = nb) → (Nat.cast (na % 16) : Int) = (0 + (Nat.cast nb : Int)) := by intros; omega
theorem o285 {na : Nat} : (na < 4) → na ≤ 3 := by intros; omega
theorem o286 {na nb : Nat} : (na < 16) → (na - nb) < 16 := by intros; omega
theorem o287 {na nb : Nat} : (Int.toNat ((0 + (Nat.cast na : Int)) - (Nat.cast nb : Int))) = (na - nb) := by omega
theorem o288 {na nb : Nat} : (nb ≤ na) → 0 ≤ ((0 + (Nat.cast na : Int)) - (Nat.cast nb : Int)) := by intros; omega
theorem o289 {na nb : Nat} : (na < 16) → ((0 + (Nat.cast na : Int)) - (Nat.cast nb : Int)) < (2 ^ 60) := by intros; omega
theorem o290 {na : Nat} : (na < 16) → (0 + (Nat.cast na : Int)) < (2 ^ 60) := by intros; omega
theorem o291 {na nb : Nat} : ((na + nb) < 16) → (0 + (Nat.cast na : Int)) < (2 ^ 60) := by intros; omega
theorem o292 {na nb : Nat} : (Int.toNat ((0 + (Nat.cast na : Int)) + (Nat.cast nb : Int))) = (na + nb) := by omega
theorem o293 {na nb : Nat} : 0 ≤ ((0 + (Nat.cast na : Int)) + (Nat.cast nb : Int)) := by omega
theorem o294 {na nb : Nat} : ((na + nb) < 16) → ((0 + (Nat.cast na : Int)) + (Nat.cast nb : Int)) < (2 ^ 60) := by intros; omega
theorem o295 {za : Int} : (za - 0) = za := by omega
theorem o296 {za : Int} : (0 ≤ za) → (¬ (0 < za)) → 0 = za := by intros; omega
theorem o297 {za : Int} : (0 + ((za - 1) * 1)) = (za - 1) := by omega
theorem o298 {na : Nat} : (na < (2 ^ 60)) → (Nat.cast na : Int) < (2 ^ 62) := by intros; omega
theorem o299 {na nb : Nat} : ((((Nat.cast na : Int) - 1) - (Nat.cast nb : Int)) + (-1)) = (((Nat.cast na : Int) - 1) - (Nat.cast (nb + 1) : Int)) := by omega
theorem o300 {za zb : Int} : (0 ≤ za) → (za < zb) → (Int.natAbs za) < (Int.natAbs zb) := by intros; omega
theorem o301 {za : Int} : (za ≠ 0) → (¬ (0 < za)) → za < 0 := by intros; omega
theorem o302 {za : Int} : za = (-(-za)) := by omega
theorem o303 {za : Int} : (za < 0) → 0 < (-za) := by intros; omega
theorem o304 {za zb : Int} : (0 ≤ za) → (za < (-zb)) → (Int.natAbs (-za)) < (Int.natAbs zb) := by intros; omega
theorem o305 {za : Int} : (0 ≤ za) → (-(2 ^ 63)) ≤ za := by intros; omega
theorem o306 {nb : Nat} {za : Int} : ((Int.toNat za) < nb) → (0 ≤ za) → (0 ≤ za) ∧ (za < (Nat.cast nb : Int)) := by intros; omega
theorem o307 {na nb : Nat} : (nb < 1000) → (na < nb) → (0 + (Nat.cast na : Int)) < (2 ^ 60) := by intros; omega
theorem o308 {na : Nat} : (na < 1000) → na < (2 ^ 20) := by intros; omega
theorem o309 {na nb nc : Nat} : (na = (nb + nc)) → (na + 1) = (nb + (nc + 1)) := by intros; omega
theorem o310 {na nb nc : Nat} : (na = (nb + nc)) → (na + 1) = ((nb + 1) + nc) := by intros; omega
theorem o311 {na nb nc : Nat} : (nb < nc) → (na = nb) → (nc ≤ 20) → na < (2 ^ 60) := by intros; omega
theorem o312 {na nb : Nat} : (nb < (2 ^ 60)) → (nb = na) → (Nat.cast na : Int) < (2 ^ 62) := by intros; omega
theorem o313 {na : Nat} : (na < na) → False := by intros; omega
theorem o314 {na nb nc nd : Nat} : (na < nc) → (nc < nd) → (nb = nd) → na < nb := by intros; omega
theorem o315 {na nb nc nd : Nat} : (nb < nc) → (na = nd) → (nc ≤ 20) → (nd ≤ nb) → na < (2 ^ 20) := by intros; omega
theorem o316 {na nb nc : Nat} : (na < nb) → (nb < nc) → (nc ≤ 20) → (0 + (Nat.cast na : Int)) < (2 ^ 60) := by intros; omega
theorem o317 {na : Nat} : ((na + (20 * 349)) ≤ 9000) → na ≤ 9000 := by intros; omega
theorem o318 {na nb nc nd ne : Nat} : ((nb + 1) ≤ nc) → (nd < ne) → (na = nb) → (ne ≤ 20) → (nc ≤ nd) → na < (2 ^ 20) := by intros; omega
theorem o319 {na nb nc : Nat} : (na < nc) → (nc < nb) → na < nb := by intros; omega
theorem o320 {na nb nc nd ne nf ng nh : Nat} : ((nb + 1) ≤ nc) → (nd < ne) → (nf < nb) → (na = (ng + nh)) → (nh = nf) → (ne ≤ 20) → (ng ≤ nc) → (nc ≤ nd) → na < (2 ^ 20) := by intros; omega
theorem o321 {na nb nc nd : Nat} : (nb < nc) → (nd < nb) → (nc ≤ 20) → (na ≤ nd) → na < (2 ^ 20) := by intros; omega
theorem o322 {na nb nc nd ne nf : Nat} : (nd = (na + (ne + 1))) → (nb = nf) → (nf = ne) → (nd ≤ nc) → (na + nb) ≤ nc := by intros; omega
theorem o323 {na nb : Nat} : (nb < na) → ((na - 1) - nb) < na := by intros; omega
theorem o324 {na nb : Nat} : (nb < na) → (((Nat.cast na : Int) - 1) - (Nat.cast nb : Int)) = (Nat.cast ((na - 1) - nb) : Int) := by intros; omega
theorem o325 {na nb : Nat} : (nb < na) → ((na - nb) + nb) = na := by intros; omega
theorem o326 {na nb nc : Nat} : na ≤ (((((na - 1) - nb) + 1) + nc) + nb) := by omega
theorem o327 {na nb nc : Nat} : (nb < na) → (((((na - 1) - nb) + 1) + nc) - (na - nb)) = nc := by intros; omega
theorem o328 {na nb nc : Nat} : (((na - 1) - nc) = nb) → (nc < na) → na = ((nb + 1) + nc) := by intros; omega
theorem o329 {na nb nc : Nat} : (nb = ((na + 1) + nc)) → na < (nb + 1) := by intros; omega
theorem o330 {na nb nc nd : Nat} : (nb < (2 ^ 60)) → (nc = ((na + 1) + nd)) → (nb = nc) → (Nat.cast na : Int) < (2 ^ 60) := by intros; omega
theorem o331 {na nb : Nat} : (nb < (2 ^ 60)) → (nb = na) → (Nat.cast na : Int) < (2 ^ 60) := by intros; omega
theorem o332 {na : Nat} : 0 ≤ ((Nat.cast na : Int) + 1) := by omega
theorem o333 {na nb nc : Nat} : (nb = ((nc + 1) + na)) → (Nat.cast na : Int) = ((Nat.cast nb : Int) - ((Nat.cast nc : Int) + 1)) := by intros; omega
theorem o334 {na nb nc : Nat} : (nb = ((nc + 1) + na)) → (nb ≤ 20) → na < (2 ^ 20) := by intros; omega
theorem o335 {na nb nc nd : Nat} : (nb < nd) → (nc = ((na + 1) + nd)) → ((na + 1) + nb) < (nc + 1) := by intros; omega
theorem o336 {na nb : Nat} : (Int.toNat (((Nat.cast na : Int) + 1) + (Nat.cast nb : Int))) = ((na + 1) + nb) := by omega
theorem o337 {na nb : Nat} : 0 ≤ (((Nat.cast na : Int) + 1) + (Nat.cast nb : Int)) := by omega
theorem o338 {na nb nc nd ne : Nat} : (nc < (2 ^ 60)) → (nb < nd) → (ne = ((na + 1) + nd)) → (nc = ne) → (((Nat.cast na : Int) + 1) + (Nat.cast nb : Int)) < (2 ^ 60) := by intros; omega
theorem o339 {na nb nc nd ne : Nat} : (nb < nd) → (ne = ((na + 1) + nd)) → (nc = (ne + 1)) → ((na + 1) + nb) < nc := by intros; omega
theorem o340 {na nb nc nd : Nat} : (nc = ((na + 1) + nd)) → (nb = (nc + 1)) → na < nb := by intros; omega
theorem o341 {na nb nc nd : Nat} : (nc = ((na + 1) + nd)) → (nb = nc) → na < nb := by intros; omega
theorem o342 {na nb nc : Nat} : (na = ((nc + 1) + nb)) → (na - nb) = (nc + 1) := by intros; omega
theorem o343 {na nb nc : Nat} : (na = ((nc + 1) + nb)) → (na - (nb + 1)) = nc := by intros; omega
theorem o344 {na : Nat} : (na ≤ 64) → na ≤ (2 ^ 20) := by intros; omega
theorem o345 {na : Nat} : (min 6 na) < 1048576 := by omega
theorem o346 {na : Nat} : (na ≤ 6) → (na + (6 - na)) < 1048576 := by intros; omega
theorem o347 {na : Nat} : (na < 4) → (Int.natAbs (0 + (Nat.cast na : Int))) < (2 ^ 62) := by intros; omega
theorem o348 {na nb : Nat} : (((Nat.cast na : Int) + (3 * (0 + (Nat.cast nb : Int)))) % 8) = (Nat.cast ((na + (3 * nb)) % 8) : Int) := by omega
theorem o349 {na nb : Nat} : (Nat.cast ((na + (3 * nb)) % 8) : Int) < (2 ^ 20) := by omega
theorem o350 {na : Nat} : (na ≤ 10) → (na * 30) ≤ 10000 := by intros; omega
theorem o351 {na : Nat} : (na ≤ 10) → (na * 30) ≤ 300 := by intros; omega
theorem o352 {na : Nat} : (na ≤ 300) → na ≤ 999 := by intros; omega
theorem o353 {na nb : Nat} : (na ≤ 10) → na ≤ (10 + (nb + 1)) := by intros; omega
theorem o354 {na : Nat} : ((na + (20 * 14)) ≤ 9000) → na ≤ 9000 := by intros; omega
theorem o355 {na nb : Nat} : (na = nb) → (nb ≤ 4) → (1 + na) < 1048576 := by intros; omega
theorem o356 {na nb : Nat} : (na = nb) → (nb ≤ 4) → ((na + 1) + 1) < 1048576 := by intros; omega
theorem o357 {na : Nat} : (na ≤ 4) → ((((1 + na) + 1) * 1) + (((1 + na) + 1) * 3)) ≤ 16777216 := by intros; omega
theorem o358 {na : Nat} : (((na + (0 + 1)) + 1) - 1) = (na + 1) := by omega
theorem o359 {na : Nat} : (na ≤ 4) → na ≤ 998 := by intros; omega
theorem o360 {na nb : Nat} : (na = nb) → (nb ≤ 20) → (na + 1) < 1048576 := by intros; omega
theorem o361 {na nb nc : Nat} : (nb < (2 ^ 60)) → (na = nc) → (nb = nc) → na < (2 ^ 60) := by intros; omega
theorem o362 {na nb : Nat} : (na < nb) → (nb ≤ 20) → na < (2 ^ 20) := by intros; omega
theorem o363 {na nb nc : Nat} : (nb < (2 ^ 60)) → (na < nc) → (nb = nc) → (0 + (Nat.cast na : Int)) < (2 ^ 60) := by intros; omega
theorem o364 {na nb : Nat} : (na < nb) → (nb ≤ 20) → na < (2 ^ 10) := by intros; omega
theorem o365 {na : Nat} : (na ≤ 6) → (na + (((((((0 + 1) + 1) + 1) + 1) + 1) + 1) - na)) = 6 := by intros; omega
theorem o366 {za : Int} : (za < 8) → (Int.toNat za) < 8 := by intros; omega
theorem o367 {na : Nat} : ((na = 34) ∨ (na = 10)) → na < 128 := by intros; omega
theorem o368 {na : Nat} : (na = 6) → na ≤ 10 := by intros; omega
theorem o369 {na : Nat} : (na = 6) → (na * 30) ≤ 1000 := by intros; omega
theorem o370 {na : Nat} : (na ≤ 6) → na ≤ 10 := by intros; omega
theorem o371 {na nb nc : Nat} : (na = nb) → (nb = nc) → (nc ≤ 6) → na ≤ 20 := by intros; omega
theorem o372 {na nb : Nat} : (na = nb) → (nb ≤ 6) → na ≤ 20 := by intros; omega
theorem o373 {na : Nat} : (na ≤ 6) → na ≤ 20 := by intros; omega
theorem o374 {na nb : Nat} : (na = nb) → na < (nb + 1) := by intros; omega
theorem o375 {na nb : Nat} : (na = nb) → (nb ≤ 6) → (na + 1) ≤ 20 := by intros; omega
theorem o376 {na : Nat} : (¬ ((Nat.cast 63 : Int) < (Nat.cast na : Int))) → na ≤ 64 := by intros; omega
theorem o377 {na nb nc : Nat} : ((na - nc) = nb) → (nc ≤ na) → na = (nb + nc) := by intros; omega
theorem o378 {na : Nat} : ((na + 1) ≤ 4) → na ≤ 4 := by intros; omega
theorem o379 {na : Nat} : ((na + 1) ≤ 4) → na < 4 := by intros; omega
theorem o380 {na nb : Nat} : (na < nb) → ((2 * na) + 1) < (2 * nb) := by intros; omega
theorem o381 {na nb : Nat} : (na < nb) → na < nb := by intros; omega
theorem o382 {na nb : Nat} : (na < nb) → (2 * na) < ((2 * nb) + 1) := by intros; omega
theorem o383 {na nb : Nat} : (na < nb) → ((2 * na) + 1) < (nb * 2) := by intros; omega
theorem o384 {na nb : Nat} : (na < nb) → ((2 * na) + 0) < (nb * 2) := by intros; omega
theorem o385 {za zb zc zd : Int} : ((za + zb) + (zc + zd)) = ((za + zc) + (zb + zd)) := by omega
theorem o386 {na nb : Nat} : (na < nb) → (na + nb) < (nb * 2) := by intros; omega
theorem o387 {na nb : Nat} : (na < nb) → (na + 0) < (nb * 2) := by intros; omega
theorem o388 {na nb nc : Nat} : (na + (nb + nc)) = ((na + nc) + nb) := by omega
theorem o389 {na nb nc : Nat} : (na + nb) ≤ (na + (nb + nc)) := by omega
theorem o390 {na nb nc : Nat} : ((na + (nc + nb)) < 16) → ((na + nb) + nc) < 16 := by intros; omega
theorem o391 {na nb nc : Nat} : ((na + (nb + nc)) - nc) = (na + nb) := by omega
theorem o392 {na nb nc : Nat} : (((na + nc) + nb) < 16) → ((na + nb) + nc) < 16 := by intros; omega
theorem o393 {na nb nc : Nat} : ((na + nb) + nc) = ((na + nc) + nb) := by omega
theorem o394 {na nb nc : Nat} : (na < nc) → (nc = nb) → na < nb := by intros; omega
theorem o395 {na nb nc nd : Nat} : (nb ≤ (nc + nd)) → (na + nb) ≤ (nc + (nd + na)) := by intros; omega
theorem o396 {na nb nc nd : Nat} : (na ≤ (nc + nd)) → (nc ≤ nb) → (nd ≤ nb) → na ≤ (nb + nb) := by intros; omega
theorem o397 {na nb nc nd ne nf ng : Nat} : (nc = (nd + (3 * ne))) → (nb ≤ (nf + ng)) → (ng ≤ (ne + ne)) → (na ≤ ne) → (nf ≤ nd) → (na + nb) ≤ nc := by intros; omega
theorem o398 {za : Int} : (za ≠ 0) → (0 < za) ∨ (za < 0) := by intros; omega
theorem o399 {za zb : Int} : (0 ≤ zb) → (za = (-zb)) → za ≤ 0 := by intros; omega
theorem o400 {za zb zc : Int} : (zc < (-za)) → (zb = (-zc)) → za < zb := by intros; omega
theorem o401 {za zb zc : Int} : ((zb - zc) < za) → (0 ≤ (zb - zc)) → 0 ≤ za := by intros; omega
theorem o402 {za zb : Int} : (0 ≤ (za - zb)) → (0 ≤ zb) → (Int.natAbs za) = ((Int.natAbs zb) + (Int.natAbs (za - zb))) := by intros; omega
theorem o403 {za : Int} : (za < 0) → 0 ≤ (-za) := by intros; omega
theorem o404 {za zb zc : Int} : ((zb - zc) ≤ 0) → (za < (zb - zc)) → 0 ≤ (-za) := by intros; omega
theorem o405 {za zb : Int} : ((za - zb) ≤ 0) → (zb ≤ 0) → (Int.natAbs za) = ((Int.natAbs zb) + (Int.natAbs (za - zb))) := by intros; omega
theorem o406 {za zb : Int} : (Int.natAbs za) ≤ ((Int.natAbs zb) + (Int.natAbs (zb - za))) := by omega
theorem o407 {na nb nc : Nat} : (na = nc) → (¬ (nb < nc)) → na ≤ nb := by intros; omega
theorem o408 {za zb : Int} : (Int.natAbs (za - zb)) ≤ ((Int.natAbs za) + (Int.natAbs zb)) := by omega
theorem o409 {za : Int} : ((Int.natAbs za) ≤ 0) → za = 0 := by intros; omega
theorem o410 {nb : Nat} {za zc : Int} : (((0 < zc) ∧ ((0 ≤ za) ∧ (za < zc))) ∨ ((zc < 0) ∧ ((za ≤ 0) ∧ (zc < za)))) → ((Int.natAbs zc) ≤ (nb + 1)) → (Int.natAbs za) ≤ nb := by intros; omega
theorem o411 {nb : Nat} {za zc : Int} : (((0 < zc) ∧ ((0 ≤ za) ∧ (za < zc))) ∨ ((zc < 0) ∧ ((za ≤ 0) ∧ (zc < za)))) → ((Int.natAbs zc) ≤ nb) → (Int.natAbs za) ≤ nb := by intros; omega
theorem o412 {za zb : Int} : ((0 < za) ∧ ((0 ≤ zb) ∧ (zb < za))) → 0 < za := by intros; omega
theorem o413 {za zb : Int} : ((za < 0) ∧ ((zb ≤ 0) ∧ (za < zb))) → (0 < zb) → 0 < za := by intros; omega
theorem o414 {za zb : Int} : ((0 < za) ∧ ((0 ≤ zb) ∧ (zb < za))) → (zb < 0) → za < 0 := by intros; omega
theorem o415 {za zb : Int} : ((za < 0) ∧ ((zb ≤ 0) ∧ (za < zb))) → za < 0 := by intros; omega
theorem o416 {za zb : Int} : (((0 < za) ∧ ((0 ≤ zb) ∧ (zb < za))) ∨ ((za < 0) ∧ ((zb ≤ 0) ∧ (za < zb)))) → 1 ≤ (Int.natAbs za) := by intros; omega
theorem o417 {nb nc nd : Nat} {za : Int} : ((Int.natAbs za) ≤ nc) → ((nd + nc) ≤ nb) → (Int.natAbs za) ≤ nb := by intros; omega
theorem o418 {na : Nat} {zb zc : Int} : (((0 < zb) ∧ ((0 ≤ zc) ∧ (zc < zb))) ∨ ((zb < 0) ∧ ((zc ≤ 0) ∧ (zb < zc)))) → ((Int.natAbs zb) ≤ na) → 1 ≤ na := by intros; omega
theorem o419 {nc nd : Nat} {za zb : Int} : ((Int.natAbs za) ≤ nc) → ((Int.natAbs zb) ≤ nd) → ((Int.natAbs za) + (3 * (Int.natAbs zb))) ≤ (nc + (3 * nd)) := by intros; omega
theorem o420 {nb nc nd : Nat} {za : Int} : ((1 * (nc + (3 * nd))) ≤ nb) → ((Int.natAbs za) ≤ nd) → (Int.natAbs za) ≤ nb := by intros; omega
theorem o421 {na nb nc : Nat} : ((1 * (na + (3 * nc))) ≤ nb) → na ≤ nb := by intros; omega
theorem o422 {na nb nc : Nat} : ((nc + 1) ≤ 0) → na ≤ nb := by intros; omega
theorem o423 {na nb : Nat} : ((na + 1) ≤ (nb + 1)) → na ≤ nb := by intros; omega
theorem o424 {na : Nat} {zb : Int} : ((Int.natAbs zb) ≤ na) → (zb ≠ 0) → 1 ≤ na := by intros; omega
theorem o425 {za zb zc zd : Int} : ((za - zb) + (zc - zd)) = ((za + zc) - (zb + zd)) := by omega
theorem o426 {za zb zc : Int} : ((za + 0) + zb) = ((za + zc) + (zb - zc)) := by omega
theorem o427 {za zb zc : Int} : ((za + zb) + zc) = ((za + zc) + zb) := by omega
theorem o428 {na nb : Nat} : (¬ (na < nb)) → (¬ (nb = na)) → ¬ (na < (nb + 1)) := by intros; omega
theorem o429 {za zb : Int} : ((za + 0) + zb) = ((za + zb) + 0) := by omega
theorem o430 {za : Int} : ((Int.natAbs za) = 1) → (za = 1) ∨ (za = (-1)) := by intros; omega
theorem o431 {na nb : Nat} : ((0 + na) = nb) → na = nb := by intros; omega
theorem o432 {na nb nc : Nat} : (((nc + 1) + na) = nb) → na < nb := by intros; omega
theorem o433 {na nb : Nat} : (na < nb) → ¬ (na = nb) := by intros; omega
theorem o434 {na nb nc nd ne nf : Nat} : (((nc + 1) + nb) = nd) → (ne = (nf + (na + 1))) → (ne = (nc + 1)) → (nd ≤ 6) → na ≤ (5 - nb) := by intros; omega
theorem o435 {na nb : Nat} : (na < nb) → (nb ≤ 6) → (na + 1) ≤ 6 := by intros; omega
theorem o436 {na nb nc nd ne nf : Nat} : (((nb + 1) + na) = nc) → (0 < nd) → (ne = (nf + (nd + 1))) → (ne = (nb + 1)) → (nc ≤ 6) → na ≤ 4 := by intros; omega
theorem o437 {na nb : Nat} : (na < (nb + 1)) → (¬ (na = nb)) → na < nb := by intros; omega
theorem o438 {na nb : Nat} : ((nb + 1) ≤ na) → ¬ (na = nb) := by intros; omega
theorem o439 {za zb : Int} : ((za + zb) - za) = zb := by omega
theorem o440 {na nb nc : Nat} : (((na + 1) + nb) = nc) → (na + (nb + 1)) = nc := by intros; omega
theorem o441 {na nb nc nd : Nat} : (nd = (na + (nb + 1))) → (nd = (nc + 1)) → (na + nb) = nc := by intros; omega
theorem o442 {na nb nc : Nat} : ((na + (nb + 1)) = nc) → ((na + 1) + nb) = nc := by intros; omega
theorem o443 {na nb : Nat} : (na < (nb + 0)) → na < nb := by intros; omega
theorem o444 {na nb : Nat} : (na + (nb + 1)) = ((na + 1) + nb) := by omega
theorem o445 {za : Int} : (0 ≤ za) → (za < 101) → (Int.natAbs (za - 50)) ≤ 50 := by intros; omega
theorem o446 {na nb : Nat} : (nb < na) → na = (nb + (((na - 1) - nb) + 1)) := by intros; omega
theorem o447 {na nb : Nat} : (na = (nb + (((na - 1) - nb) + 1))) → ((na - 1) - ((na - 1) - nb)) = nb := by intros; omega
theorem o448 {na nb : Nat} : (na = (nb + (((na - 1) - nb) + 1))) → (((na - 1) - nb) + 1) ≤ na := by intros; omega
theorem o449 {na nb nc : Nat} : (((na - 1) - ((na - 1) - nb)) = nb) → ((na - (((na - 1) - nb) + 1)) + nc) = (nb + nc) := by intros; omega
theorem o450 {na nb : Nat} : ((na + 1) + nb) = (na + (nb + 1)) := by omega
theorem o451 {za zb : Int} : (0 + ((1 * (za - zb)) + zb)) = za := by omega
theorem o452 {na nb nc : Nat} : ((1 * na) ≤ nc) → na ≤ ((50 * nb) + (6 * nc)) := by intros; omega
theorem o453 {nc nd : Nat} {za zb : Int} : ((Int.natAbs za) ≤ nd) → ((Int.natAbs zb) ≤ nc) → (Int.natAbs (za + zb)) ≤ (nc + nd) := by intros; omega
theorem o454 {na nb : Nat} : (¬ (nb < na)) → na ≤ nb := by intros; omega
theorem o455 {na nb nc nd : Nat} : (((na + 1) + nd) = nc) → (nb < nd) → ¬ (((na + 1) + nb) = nc) := by intros; omega
theorem o456 {na nb nc : Nat} : (((nb + 1) + na) = nc) → (nc ≤ 6) → na ≤ 6 := by intros; omega
theorem o457 {nc nd ne : Nat} {za zb : Int} : ((Int.natAbs za) ≤ (50 * nc)) → ((Int.natAbs zb) ≤ ne) → (ne ≤ (6 * nd)) → (Int.natAbs (za - zb)) ≤ ((50 * nc) + (6 * nd)) := by intros; omega
theorem o458 {na nb : Nat} : ((nb + 1) ≤ na) → ((na - 1) - nb) < na := by intros; omega
theorem o459 {na nb : Nat} : ((nb + 1) ≤ na) → ((((na - 1) - nb) + 1) + nb) = na := by intros; omega
theorem o460 {na nb nc : Nat} : (nb = 6) → (na = nc) → (nc ≤ nb) → na ≤ 6 := by intros; omega
theorem o461 {nb : Nat} {za : Int} : (nb < 0) → za = 0 := by intros; omega
theorem o462 {na nb : Nat} : (nb ≤ 6) → (na ≤ nb) → na ≤ 6 := by intros; omega
theorem o463 {na nb : Nat} : (nb < na) → ((((na - 1) - nb) + 1) + nb) = na := by intros; omega
theorem o464 {za zb zc zd : Int} : ((za - zb) - (zc - zd)) = ((za - zc) - (zb - zd)) := by omega
theorem o465 {za zb zc : Int} : ((za - zc) = 0) → (zc = zb) → za = zb := by intros; omega
end
end Mine
namespace Mine
section
open PySem PySem.W PyProof.Rows PySem.Calls
noncomputable def lo (vs : List Value) (n : Nat) : Obj := ⟨.type "list", none, .seq vs.toArray n, #[]⟩
theorem isList {h : Heap} {a : Addr} {vs : List Value} {n : Nat} (e : h.get? a = some (lo vs n)) : h.IsList a vs.toArray := ⟨_, e, rfl, n, rfl⟩
noncomputable abbrev Fz := Addr → Obj → Prop
noncomputable abbrev tab (ps : Array Value) : Obj := { cls := .none, data := .fields ps }
noncomputable def CodeFz (fz : Fz) (c : Addr) (q : Str) : Prop := ∃ o vs t, fz c o ∧ o.data = .fields vs ∧ vs[1]? = some (.str q t)
inductive Res where
  | ob (o : Obj)
  | ls (vs : List Value)
  | fr (names : List Str) (vals : List (Option Value))
  | tb (pos : Pos) (q : Str)
  | cl (v : Option Value)
  | fn (fd : FuncData)
  | pr (P : Obj → Prop)

noncomputable def Res.At (fz : Fz) (h : Heap) (a : Addr) : Res → Prop
  | .ob o => h.get? a = some o
  | .ls vs => ∃ n, h.get? a = some (lo vs n)
  | .fr names vals => names.Nodup ∧ names.length = vals.length ∧ ∃ m, h.Ns a m ∧ ∀ (i : Nat) (n : Str), names[i]? = some n → m n = (vals[i]?).join
  | .cl v => h.IsCell a v
  | .fn fd => (∃ o, h.get? a = some o ∧ o.data = .func fd) ∧ ∃ c, fd.code = .ref c ∧ CodeFz fz c fd.qualname
  | .pr P => ∃ o, h.get? a = some o ∧ P o
  | .tb pos q => h.get? a = some (tab #[]) ∨ ∃ c, h.get? a = some (tab #[rawInt pos.line, rawInt pos.col, .ref c]) ∧ CodeFz fz c q

theorem Res.At.keeps {fz fz' : Fz} {h h' : Heap} {a : Addr} {r : Res} (x : r.At fz h a) (k : ∀ o, h.get? a = some o → h'.get? a = some o) (kz : ∀ c o, fz c o → fz' c o) : r.At fz' h' a := by
  cases r with
  | ob o => exact k o x
  | ls vs => exact x.imp fun n e => k _ e
  | fr names vals =>
    obtain ⟨nd, hl, m, ⟨o, es, ep, e, q⟩, f⟩ := x
    exact ⟨nd, hl, m, ⟨o, es, ep, k _ e, q⟩, f⟩
  | cl v => exact let ⟨o, ho, hd⟩ := x; ⟨o, k o ho, hd⟩
  | fn fd => exact let ⟨⟨o, ho, hd⟩, c, e, o', vs, t, y, z⟩ := x; ⟨⟨o, k o ho, hd⟩, c, e, o', vs, t, kz _ _ y, z⟩
  | pr P => exact let ⟨o, ho, hp⟩ := x; ⟨o, k o ho, hp⟩
  | tb pos q =>
    rcases x with x | ⟨c, x, o, vs, t, y, z⟩
    · exact .inl (k _ x)
    · exact .inr ⟨c, k _ x, o, vs, t, kz _ _ y, z⟩
theorem Res.At.some {fz : Fz} {h : Heap} {a : Addr} {r : Res} (x : r.At fz h a) : ∃ o, h.get? a = some o := by
  cases r with
  | ob o => exact ⟨o, x⟩
  | ls vs => exact x.elim fun n e => ⟨_, e⟩
  | fr names vals => obtain ⟨_, _, m, ⟨o, es, ep, e, q⟩, f⟩ := x; exact ⟨o, e⟩
  | cl v => exact let ⟨o, ho, _⟩ := x; ⟨o, ho⟩
  | fn fd => exact let ⟨⟨o, ho, _⟩, _⟩ := x; ⟨o, ho⟩
  | pr P => exact let ⟨o, ho, _⟩ := x; ⟨o, ho⟩
  | tb pos q => rcases x with x | ⟨c, x, _⟩ <;> exact ⟨_, x⟩

noncomputable abbrev Led := List (Addr × Res)

structure HF (fz : Fz) (b : Shared) (L : Led) (s : Shared) : Prop where
  base : ∀ a o, b.heap.get? a = some o → fz a o
  keep : ∀ a o, fz a o → s.heap.get? a = some o
  at_ : ∀ p ∈ L, p.2.At fz s.heap p.1
  new : ∀ p ∈ L, ∀ o, ¬ fz p.1 o
  nd : L.Pairwise fun p q => p.1 ≠ q.1
  gens : s.gens = b.gens
  os : s.os = b.os
noncomputable def H (b : Shared) (L : Led) (s : Shared) : Prop := ∃ fz, HF fz b L s
theorem H.keep {b s : Shared} {L : Led} (h : H b L s) : ∀ a o, b.heap.get? a = some o → s.heap.get? a = some o := fun a o e => let ⟨_, x⟩ := h; x.keep a o (x.base a o e)
theorem H.nd {b s : Shared} {L : Led} (h : H b L s) : L.Pairwise fun p q => p.1 ≠ q.1 := let ⟨_, x⟩ := h; x.nd

inductive Upd (a : Addr) (r r' : Res) : Led → Led → Prop
  | head {L : Led} : Upd a r r' ((a, r) :: L) ((a, r') :: L)
  | tail {p : Addr × Res} {L L' : Led} : Upd a r r' L L' → Upd a r r' (p :: L) (p :: L')

theorem Upd.keys {a r r' L L'} (u : Upd a r r' L L') : L.map (·.1) = L'.map (·.1) := by
  induction u with
  | head => rfl
  | tail _ ih => rw [List.map_cons, List.map_cons, ih]
theorem Upd.mem {a r r' L L'} (u : Upd a r r' L L') : (a, r) ∈ L := by
  induction u with
  | head => exact .head _
  | tail _ ih => exact .tail _ ih
theorem Upd.mem' {a r r' L L'} (u : Upd a r r' L L') : (a, r') ∈ L' := by
  induction u with
  | head => exact .head _
  | tail _ ih => exact .tail _ ih
theorem Upd.off {a r r' L L'} (u : Upd a r r' L L') {p : Addr × Res} (hp : p ∈ L') : p = (a, r') ∨ p ∈ L := by
  induction u with
  | head => rcases List.mem_cons.mp hp with h | h; exact .inl h; exact .inr (.tail _ h)
  | tail _ ih => rcases List.mem_cons.mp hp with h | h; exact .inr (h ▸ .head _); exact (ih h).imp id (.tail _)
theorem pw_keys {L : Led} : (L.Pairwise fun p q => p.1 ≠ q.1) ↔ (L.map (·.1)).Pairwise (· ≠ ·) := by rw [List.pairwise_map]
theorem Upd.other {a r r' L L'} (u : Upd a r r' L L') (nd : L.Pairwise fun p q => p.1 ≠ q.1) {p : Addr × Res} (hp : p ∈ L') : p = (a, r') ∨ (p ∈ L ∧ p.1 ≠ a) := by
  induction u with
  | @head L₀ =>
    rcases List.mem_cons.mp hp with h | h
    · exact .inl h
    · exact .inr ⟨.tail _ h, fun e => (List.pairwise_cons.mp nd).1 p h e.symm⟩
  | @tail q L₀ L₁ u ih =>
    obtain ⟨n1, n2⟩ := List.pairwise_cons.mp nd
    rcases List.mem_cons.mp hp with h | h
    · subst h; exact .inr ⟨.head _, n1 _ u.mem⟩
    · exact (ih n2 h).imp id fun x => ⟨.tail _ x.1, x.2⟩

inductive Has (a : Addr) (r : Res) : Led → Prop
  | head {L : Led} : Has a r ((a, r) :: L)
  | tail {p : Addr × Res} {L : Led} : Has a r L → Has a r (p :: L)
theorem Upd.has {a r r' L L'} (u : Upd a r r' L L') : Has a r L := by
  induction u with
  | head => exact .head
  | tail _ ih => exact .tail ih
theorem Has.mem {a r L} (u : Has a r L) : (a, r) ∈ L := by
  induction u with
  | head => exact .head _
  | tail _ ih => exact .tail _ ih

section
variable {b s : Shared} {L L' : Led} {a : Addr} {r r' : Res}

theorem H.get {o : Obj} (h : H b L s) (m : Has a (.ob o) L) : s.heap.get? a = some o := let ⟨_, x⟩ := h; x.at_ _ m.mem
theorem H.getL {vs : List Value} (h : H b L s) (m : Has a (.ls vs) L) : ∃ n, s.heap.get? a = some (lo vs n) := let ⟨_, x⟩ := h; x.at_ _ m.mem
theorem H.sub (h : H b L s) (hs : L'.Sublist L) : H b L' s :=
  let ⟨fz, h⟩ := h
  ⟨fz, h.base, h.keep, fun p hp => h.at_ p (hs.subset hp), fun p hp => h.new p (hs.subset hp), h.nd.sublist hs, h.gens, h.os⟩
theorem H.perm (h : H b L s) (hs : L.Perm L') : H b L' s :=
  let ⟨fz, h⟩ := h
  ⟨fz, h.base, h.keep, fun p hp => h.at_ p (hs.mem_iff.mpr hp), fun p hp => h.new p (hs.mem_iff.mpr hp), pw_keys.mpr ((hs.map _).pairwise_iff (fun x => Ne.symm x) |>.mp (pw_keys.mp h.nd)), h.gens, h.os⟩
theorem H.ne {a c : Addr} {r q : Res} (h : H b L s) (m : (a, r) ∈ L) (m' : (c, q) ∈ L) (hne : r ≠ q) : a ≠ c := by
  rintro rfl
  have nd := h.nd
  clear h
  induction L with
  | nil => cases m
  | cons p L ih =>
    obtain ⟨n1, n2⟩ := List.pairwise_cons.mp nd
    rcases List.mem_cons.mp m with e | m1 <;> rcases List.mem_cons.mp m' with e' | m2
    · rw [← e] at e'; exact hne (Prod.mk.inj e').2.symm
    · rw [← e] at n1; exact n1 _ m2 rfl
    · rw [← e'] at n1; exact n1 _ m1 rfl
    · exact ih m1 m2 n2
theorem H.toks (h : H b L s) (t : Nat) : H b L { s with toks := t } := let ⟨fz, h⟩ := h; ⟨fz, h.base, h.keep, h.at_, h.new, h.nd, h.gens, h.os⟩
theorem HF.lt {fz : Fz} (h : HF fz b L s) {p : Addr × Res} (hp : p ∈ L) : p.1 < s.heap.objs.size := by
  obtain ⟨o, e⟩ := (h.at_ p hp).some; exact Heap.lt_size e
theorem H.lt (h : H b L s) {p : Addr × Res} (hp : p ∈ L) : p.1 < s.heap.objs.size := let ⟨_, x⟩ := h; x.lt hp
theorem HF.fresh {fz : Fz} (h : HF fz b L s) (o : Obj) : ¬ fz s.heap.objs.size o := fun q => absurd (Heap.lt_size (h.keep _ _ q)) (Nat.lt_irrefl _)
theorem H.grow {hh : Heap} {t : Nat} (h : H b L s) (k : ∀ c o, s.heap.get? c = some o → hh.get? c = some o) (hr : ∀ fz, r.At fz hh a) (ha : s.heap.objs.size ≤ a) : H b ((a, r) :: L) { s with heap := hh, toks := t } := by
  obtain ⟨fz, h⟩ := h
  refine ⟨fz, h.base, fun c ob e => k _ _ (h.keep c ob e), fun p hp => ?_, fun p hp => ?_, List.pairwise_cons.mpr ⟨fun p hp => Nat.ne_of_gt (Nat.lt_of_lt_of_le (h.lt hp) ha), h.nd⟩, h.gens, h.os⟩
  · rcases List.mem_cons.mp hp with rfl | hp
    · exact hr fz
    · exact (h.at_ p hp).keeps (fun _ e => k _ _ e) (fun _ _ e => e)
  · rcases List.mem_cons.mp hp with rfl | hp
    · exact fun o q => absurd (Heap.lt_size (h.keep _ _ q)) (Nat.not_lt.mpr ha)
    · exact h.new p hp
theorem H.alloc (h : H b L s) (o : Obj) (hf : o.isFreed = false := by rfl) : H b ((s.heap.objs.size, .ob o) :: L) { s with heap := s.heap.push o } :=
  h.grow (t := s.toks) (fun _ _ e => Heap.get?_push_of_some _ e) (fun _ => Heap.get?_push_size _ hf) (Nat.le_refl _)
theorem H.allocL (h : H b L s) (vs : List Value) : H b ((s.heap.objs.size, .ls vs) :: L) { s with heap := s.heap.push (lo vs 0) } :=
  h.grow (t := s.toks) (fun _ _ e => Heap.get?_push_of_some _ e) (fun _ => ⟨0, Heap.get?_push_size _ rfl⟩) (Nat.le_refl _)
theorem H.ext {hh : Heap} (h : H b L s) (k : ∀ c o, s.heap.get? c = some o → hh.get? c = some o) (t : Nat) : H b L { s with heap := hh, toks := t } :=
  let ⟨fz, h⟩ := h
  ⟨fz, h.base, fun c ob e => k _ _ (h.keep c ob e), fun p hp => (h.at_ p hp).keeps (fun _ e => k _ _ e) (fun _ _ e => e), h.new, h.nd, h.gens, h.os⟩
theorem HF.turn {fz fz' : Fz} {hh : Heap} (h : HF fz b L s) (u : Upd a r r' L L') (k : ∀ c o, c ≠ a → s.heap.get? c = some o → hh.get? c = some o) (hr : r'.At fz' hh a) (hz : ∀ c o, fz c o → fz' c o) (hz' : ∀ c o, fz' c o → hh.get? c = some o) (hn : ∀ p ∈ L, ∀ o, ¬ fz' p.1 o) (t : Nat) :
    HF fz' b L' { s with heap := hh, toks := t } := by
  refine ⟨fun c o e => hz _ _ (h.base c o e), hz', fun p hp => ?_, fun p hp => ?_, ?_, h.gens, h.os⟩
  · rcases u.other h.nd hp with rfl | ⟨m, ne⟩
    · exact hr
    · exact (h.at_ p m).keeps (fun _ e => k _ _ ne e) hz
  · rcases u.off hp with rfl | m
    · exact hn (a, r) u.mem
    · exact hn p m
  · rw [pw_keys, ← u.keys, ← pw_keys]; exact h.nd
theorem H.set {hh : Heap} (h : H b L s) (u : Upd a r r' L L') (hs : Heap.SameBut a s.heap hh) (hr : ∀ fz, r'.At fz hh a) (t : Nat) : H b L' { s with heap := hh, toks := t } := by
  obtain ⟨fz, h⟩ := h
  refine ⟨fz, h.turn u (fun c o ne e => (hs.2 c ne).trans e) (hr fz) (fun _ _ e => e) (fun c o e => ?_) h.new t⟩
  have : c ≠ a := fun q => h.new _ u.mem o (by rw [← q]; exact e)
  exact (hs.2 c this).trans (h.keep c o e)
theorem H.has {r : Res} (h : H b L s) (m : Has a r L) : ∃ fz, r.At fz s.heap a := let ⟨fz, x⟩ := h; ⟨fz, x.at_ _ m.mem⟩
end

structure Room (A : Around) (d : Nat) : Prop where
  depth : A.depth + d ≤ 900
  units : A.units + 20 * d ≤ 9000
  handled : A.handled = none
theorem Room.in1 {A : Around} {d : Nat} (r : Room A (d + 1)) : Room A.in1 d := ⟨by have := r.depth; show A.depth + d ≤ 900; exact o1 this, by have := r.units; show A.units + 1 + 20 * d ≤ 9000; exact o2 this, r.handled⟩
theorem Room.deeper {A : Around} {d : Nat} {e : Env} (r : Room A (d + 1)) : Room (A.deeper e) d := ⟨by have := r.depth; show A.depth + 1 + d ≤ 900; exact o3 this, by have := r.units; show A.units + 3 + 20 * d ≤ 9000; exact o4 this, r.handled⟩
theorem Room.less {A : Around} {d k : Nat} (r : Room A d) (h : k ≤ d) : Room A k := ⟨by have := r.depth; exact o5 this h, by have := r.units; exact o6 this h, r.handled⟩
theorem Room.lim {A : Around} {d : Nat} (r : Room A d) : A.depth < recursionLimit := by have := r.depth; show A.depth < 1000; exact o7 this
theorem Room.line {A : Around} {d : Nat} (r : Room A d) : A.units < cLine := by have := r.units; show A.units < 9900; exact o8 this

structure Ev (e : Env) (La : Addr) (nm : List (Str × NameKind)) (cl : List (Str × Addr)) : Prop where
  locals : e.locals = La
  kind : e.scope.kind = .function
  names : e.scope.names = nm
  cells : e.cells = cl
  globals : e.globals = mainGlobals
  builtins : e.builtins = builtinsNs

inductive Look : List Str → List (Option Value) → Str → Value → Prop
  | head {n : Str} {ns : List Str} {v : Value} {vs : List (Option Value)} : Look (n :: ns) (some v :: vs) n v
  | tail {m n : Str} {ns : List Str} {v : Value} {o : Option Value} {vs : List (Option Value)} : Look ns vs n v → Look (m :: ns) (o :: vs) n v
inductive Put : List Str → List (Option Value) → Str → Value → List (Option Value) → Prop
  | head {n : Str} {ns : List Str} {v : Value} {o : Option Value} {vs : List (Option Value)} : Put (n :: ns) (o :: vs) n v (some v :: vs)
  | tail {m n : Str} {ns : List Str} {v : Value} {o : Option Value} {vs vs' : List (Option Value)} : Put ns vs n v vs' → Put (m :: ns) (o :: vs) n v (o :: vs')
theorem Look.at {ns : List Str} {vs : List (Option Value)} {n : Str} {v : Value} (l : Look ns vs n v) : ∃ i : Nat, ns[i]? = some n ∧ vs[i]? = some (some v) := by
  induction l with
  | head => exact ⟨0, rfl, rfl⟩
  | tail _ ih => obtain ⟨i, a, b⟩ := ih; exact ⟨i + 1, by simpa using a, by simpa using b⟩
theorem Put.at {ns : List Str} {vs vs' : List (Option Value)} {n : Str} {v : Value} (l : Put ns vs n v vs') : ∃ i : Nat, ns[i]? = some n ∧ vs' = vs.set i (some v) := by
  induction l with
  | head => exact ⟨0, rfl, rfl⟩
  | tail _ ih => obtain ⟨i, a, b⟩ := ih; exact ⟨i + 1, by simpa using a, by rw [b]; rfl⟩

inductive CLook : List (Str × Addr) → Str → Addr → Prop
  | head {n : Str} {a : Addr} {l : List (Str × Addr)} : CLook ((n, a) :: l) n a
  | tail {n : Str} {a : Addr} {p : Str × Addr} {l : List (Str × Addr)} : CLook l n a → CLook (p :: l) n a

noncomputable def Glb (b : Shared) (x : Str) (v : Value) : Prop := ∃ mg, b.heap.Ns mainGlobals mg ∧ mg x = some v
noncomputable def Blt (b : Shared) (x : Str) (v : Value) : Prop := ∃ mg mb, b.heap.Ns mainGlobals mg ∧ mg x = none ∧ b.heap.Ns builtinsNs mb ∧ mb x = some v

section
variable {M : Model} {A : Around} {E : Value → Shared → Prop} {b s : Shared} {L L' : Led} {e : Env} {La : Addr} {nm : List (Str × NameKind)} {cl : List (Str × Addr)}
  {names : List Str} {vals : List (Option Value)} {x : Str} {pos : Pos} {v : Value} {Q : Value → Shared → Prop} {c : Addr} {o : Obj}

noncomputable def nmK (nm : List (Str × NameKind)) (x : Str) (k : NameKind) : Bool := nm.lookup x == some k && !(x == ("__debug__" : Str))
theorem nmK_of {nm : List (Str × NameKind)} {x : Str} {k : NameKind} (h : nmK nm x k = true) : nm.lookup x = some k ∧ (x == ("__debug__" : Str)) = false := by
  unfold nmK at h
  rw [Bool.and_eq_true, Bool.not_eq_true'] at h
  exact ⟨eq_of_beq h.1, h.2⟩
theorem n_local (h : H b L s) (he : Ev e La nm cl) (hm : Has La (.fr names vals) L) (hn : Look names vals x v) (k : Q v s)
    (hk : nmK nm x .local = true) : wpAny M A (eval (.Name x pos) e) Q E s := by
  have hx := (nmK_of hk).1
  have hd := (nmK_of hk).2
  obtain ⟨_, _, _, m, hns, f⟩ := h.has hm
  obtain ⟨i, h1, h2⟩ := hn.at
  exact wpAny_Name (wpAny_loadName_local he.kind (by unfold Env.kindOf; rw [he.names]; exact hx) (by rw [he.locals]; exact hns) (by rw [f i x h1, h2]; rfl) k) hd
theorem l_local (h : H b L s) (he : Ev e La nm cl) (hm : Has La (.fr names vals) L) (hn : Look names vals x v) (k : Q v s)
    (hk : nmK nm x .local = true) : wpAny M A (loadName e x) Q E s := by
  have hx := (nmK_of hk).1
  obtain ⟨_, _, _, m, hns, f⟩ := h.has hm
  obtain ⟨i, h1, h2⟩ := hn.at
  exact wpAny_loadName_local he.kind (by unfold Env.kindOf; rw [he.names]; exact hx) (by rw [he.locals]; exact hns) (by rw [f i x h1, h2]; rfl) k
theorem n_cell (h : H b L s) (he : Ev e La nm cl) (_ : CLook cl x c) (hc : cl.lookup x = some c) (hm : Has c (.cl (some v)) L) (k : Q v s)
    (hk : nmK nm x .cell = true) : wpAny M A (eval (.Name x pos) e) Q E s := by
  have hx := (nmK_of hk).1
  have hd := (nmK_of hk).2
  obtain ⟨_, hv⟩ := h.has hm
  exact wpAny_Name (wpAny_loadName_cell he.kind (by unfold Env.kindOf; rw [he.names]; exact hx) (by rw [he.cells]; exact hc) hv k) hd
theorem n_free (h : H b L s) (he : Ev e La nm cl) (_ : CLook cl x c) (hc : cl.lookup x = some c) (hm : Has c (.cl (some v)) L) (k : Q v s)
    (hk : nmK nm x .free = true) (hn : (x == ("__classdict__" : Str)) = false) : wpAny M A (eval (.Name x pos) e) Q E s := by
  have hx := (nmK_of hk).1
  have hd := (nmK_of hk).2
  obtain ⟨_, hv⟩ := h.has hm
  exact wpAny_Name (wpAny_loadName_free he.kind (by unfold Env.kindOf; rw [he.names]; exact hx) (by rw [he.cells]; exact hc) hv k hn) hd
theorem n_glob (h : H b L s) (he : Ev e La nm cl) (hg : Glb b x v) (k : Q v s)
    (hk : nmK nm x .globalImplicit = true) : wpAny M A (eval (.Name x pos) e) Q E s := by
  have hx := (nmK_of hk).1
  have hd := (nmK_of hk).2
  obtain ⟨mg, h1, h2⟩ := hg
  exact Name_function_global he.kind (by unfold Env.kindOf; rw [he.names]; exact hx) (loadGlobal_global (by rw [he.globals]; exact h1.keeps h.keep) h2 k) hd
theorem n_blt (h : H b L s) (he : Ev e La nm cl) (hg : Blt b x v) (k : Q v s)
    (hk : nmK nm x .globalImplicit = true) : wpAny M A (eval (.Name x pos) e) Q E s := by
  have hx := (nmK_of hk).1
  have hd := (nmK_of hk).2
  obtain ⟨mg, mb, h1, h2, h3, h4⟩ := hg
  exact Name_function_global he.kind (by unfold Env.kindOf; rw [he.names]; exact hx) (loadGlobal_builtin (by rw [he.globals]; exact h1.keeps h.keep) h2 (by rw [he.builtins]; exact h3.keeps h.keep) h4 k) hd

theorem getElem?_nodup {l : List Str} (nd : l.Nodup) {i j : Nat} {x : Str} (hi : l[i]? = some x) (hj : l[j]? = some x) : i = j := by
  obtain ⟨h1, e1⟩ := List.getElem?_eq_some_iff.mp hi
  obtain ⟨h2, e2⟩ := List.getElem?_eq_some_iff.mp hj
  exact (List.getElem_inj nd).mp (e1.trans e2.symm)

theorem s_local {vals' : List (Option Value)} {Q : Unit → Shared → Prop} (h : H b L s) (he : Ev e La nm cl) (u : Upd La (.fr names vals) (.fr names vals') L L') (hp : Put names vals x v vals')
    (k : ∀ s', H b L' s' → Q () s') (hk : nmK nm x .local = true) : wpAny M A (storeName e x v) Q E s := by
  have hx := (nmK_of hk).1
  obtain ⟨_, nd, hl, m, hns, f⟩ := h.has u.has
  obtain ⟨i, hn, rfl⟩ := hp.at
  refine wpAny_storeName_local (by unfold Env.kindOf; rw [he.names]; exact hx) (by rw [he.locals]; exact hns) (fun h' hn' hs => k _ ?_) (by rw [he.kind]; rfl)
  rw [he.locals] at hn' hs
  refine h.set u hs (fun _ => ⟨nd, by rw [List.length_set]; exact hl, _, hn', fun j n hj => ?_⟩) _
  by_cases hjx : n = x
  · subst hjx
    have : i = j := getElem?_nodup nd hn hj
    subst this
    have hlt : i < vals.length := by rw [← hl]; exact (List.getElem?_eq_some_iff.mp hn).1
    rw [if_pos rfl, List.getElem?_set, if_pos rfl, if_pos hlt]; rfl
  · have hij : i ≠ j := fun q => hjx (Option.some.inj ((q ▸ hj : names[i]? = some n).symm.trans hn))
    rw [if_neg hjx, f j n hj, List.getElem?_set, if_neg hij]
theorem s_cell {Q : Unit → Shared → Prop} {v₀ : Option Value} (h : H b L s) (he : Ev e La nm cl) (_ : CLook cl x c) (hc : cl.lookup x = some c) (u : Upd c (.cl v₀) (.cl (some v)) L L')
    (k : ∀ s', H b L' s' → Q () s') (hk : nmK nm x .cell = true) : wpAny M A (storeName e x v) Q E s := by
  have hx := (nmK_of hk).1
  obtain ⟨_, hv⟩ := h.has u.has
  exact wpAny_storeName_cell he.kind (by unfold Env.kindOf; rw [he.names]; exact hx) (by rw [he.cells]; exact hc) hv fun h' hv' hs => k _ (h.set u hs (fun _ => hv') s.toks)
end

noncomputable def stArgs : Stmt → Arguments
  | .FunctionDef _ a .. => a
  | _ => default
noncomputable def stBody : Stmt → List Stmt
  | .FunctionDef _ _ bd .. => bd
  | .ClassDef _ _ _ bd .. => bd
  | _ => []
noncomputable def stScope : Stmt → Scope
  | .FunctionDef _ _ _ _ _ _ sc .. => sc
  | _ => default
noncomputable def nth (l : List Stmt) (i : Nat) : Stmt := match l, i with
  | [], _ => .Pass default
  | x :: _, 0 => x
  | _ :: r, i + 1 => nth r i
noncomputable def pb : List Stmt := PySem.Challenge.pw_sw0072_01.main.body

structure FnIs (b : Shared) (f : Addr) (st : Stmt) (fd : FuncData) : Prop where
  get : ∃ o : Obj, b.heap.get? f = some o ∧ o.data = .func fd
  params : fd.params = stArgs st
  body : fd.body = .stmts (stBody st)
  scope : fd.scope = stScope st
  closure : fd.closure = []
  globals : fd.globals = mainGlobals
  builtins : fd.builtins = builtinsNs
  code : b.heap.CodeRec fd.code fd.qualname
  lim : b.heap.NoLimit

theorem bind_of {fd : FuncData} {ar : Arguments} {dv kv : Value} (h1 : fd.params = ar) (h2 : fd.defaults = dv) (h3 : fd.kwdefaults = kv) {args : Args} {t : Str → Sem (List (Str × Value))}
    (h : ∀ q : Str, bindArgs { (default : FuncData) with qualname := q, params := ar, defaults := dv, kwdefaults := kv } args = t q) : bindArgs fd args = t fd.qualname := by
  have e : bindArgs fd args = bindArgs { (default : FuncData) with qualname := fd.qualname, params := fd.params, defaults := fd.defaults, kwdefaults := fd.kwdefaults } args := rfl
  rw [e, h1, h2, h3, h]

theorem codeAny_call_cellsT {prog : Program} {w : World} {A : Around} {s : Shared} {R : Result → Shared → Prop} {a : Addr} {o : Obj} {fd : FuncData} {body : List Stmt} {vals : List Value} {binds : List (Str × Value)}
    (hroom : A.depth < recursionLimit) (ho : s.heap.get? a = some o) (hdata : o.data = .func fd) (hlim : s.heap.NoLimit) (hcd : s.heap.CodeRec fd.code fd.qualname)
    (hbody : fd.body = .stmts body) (hbind : bindArgs fd ⟨vals, []⟩ = pure binds) (hclo : fd.closure = [])
    (hkind : ∀ x ∈ binds, fd.scope.names.lookup x.1 = some .local ∨ (fd.scope.names.lookup x.1 = some .cell ∧ ((cellsFrom (s.heap.objs.size + 1) fd.scope.names []).lookup x.1).isSome = true))
    (h : ∀ s₁, InCallC s (callEnvC fd s.heap.objs.size a).locals (bindL (callEnvC fd s.heap.objs.size a).kindOf binds fun _ => none) (callEnvC fd s.heap.objs.size a).cells
        (bindC (callEnvC fd s.heap.objs.size a).kindOf binds fun _ => none) s₁ → s.toks ≤ s₁.toks →
      wpAny (model prog w) (A.deeper (callEnvC fd s.heap.objs.size a)) (execs body (callEnvC fd s.heap.objs.size a)) (fun f s' => R (.ok (.ret (match f with | .ret v => v | _ => .none))) s')
        (fun e s' => wpAny (model prog w) (A.deeper (callEnvC fd s.heap.objs.size a)) (leaving (callEnvC fd s.heap.objs.size a) e) (fun _ s'' => R (.error e) s'') (fun e' s'' => R (.error e') s'') s') s₁)
    (hco : fd.scope.isCoroutine = false := by rfl) (hgen : fd.scope.isGenerator = false := by rfl) (hk : fd.scope.kind = .function := by rfl) :
    codeAny (model prog w) A (.call (.ref a) ⟨vals, []⟩) R s := by
  refine codeAny_call_function hroom ho hdata hco hgen hbody hcd ?_
  rw [hbind, hclo]
  refine wpAny_pure (wpAny_with_toks (Nat.le_refl _) (wpAny_newFunctionEnv_cells hk hkind fun env he s' x => ?_))
  subst he
  exact fun ht => ⟨hlim.keeps x.toInCall.keep, codeAny_func (h s' x ht)⟩

section
variable {prog : Program} {w : World} {A : Around} {b s : Shared} {L : Led} {f : Addr} {st : Stmt} {fd : FuncData} {d : Nat} {args : Args} {binds : List (Str × Value)} {names : List Str} {vals : List (Option Value)} {R : Result → Shared → Prop}
  {nm : List (Str × NameKind)}

theorem H.lim (h : H b L s) (hl : b.heap.NoLimit) : s.heap.NoLimit := hl.keeps h.keep

structure Fn (s : Shared) (f : Addr) (st : Stmt) (fd : FuncData) (cl : List (Str × Addr)) : Prop where
  get : ∃ o : Obj, s.heap.get? f = some o ∧ o.data = .func fd
  params : fd.params = stArgs st
  body : fd.body = .stmts (stBody st)
  scope : fd.scope = stScope st
  closure : fd.closure = cl
  globals : fd.globals = mainGlobals
  builtins : fd.builtins = builtinsNs
  code : s.heap.CodeRec fd.code fd.qualname
  lim : s.heap.NoLimit
structure FdIs (fd : FuncData) (st : Stmt) (cl : List (Str × Addr)) : Prop where
  params : fd.params = stArgs st
  body : fd.body = .stmts (stBody st)
  scope : fd.scope = stScope st
  closure : fd.closure = cl
  globals : fd.globals = mainGlobals
  builtins : fd.builtins = builtinsNs
  d1 : fd.defaults = .none
  d2 : fd.kwdefaults = .none
theorem Fn.of {cl : List (Str × Addr)} (h : H b L s) (m : Has f (.fn fd) L) (F : FdIs fd st cl) (hl : b.heap.NoLimit) : Fn s f st fd cl := by
  obtain ⟨fz, hz⟩ := h
  obtain ⟨x, c, e, o, vs, t, y, y1, y2⟩ := hz.at_ _ m.mem
  exact ⟨x, F.params, F.body, F.scope, F.closure, F.globals, F.builtins, ⟨c, o, vs, t, e, hz.keep _ _ y, y1, y2⟩, hl.keeps fun a o e => hz.keep _ _ (hz.base _ _ e)⟩
theorem FnIs.fn (F : FnIs b f st fd) (h : H b L s) : Fn s f st fd [] :=
  ⟨F.get.imp fun _ x => ⟨h.keep _ _ x.1, x.2⟩, F.params, F.body, F.scope, F.closure, F.globals, F.builtins, F.code.keeps h.keep, h.lim F.lim⟩

theorem enterF {cl : List (Str × Addr)} (F : Fn s f st fd cl) (hA : Room A (d + 1)) (h : H b L s) (hb : BindsTo s fd args binds) (hsc : (stScope st).names = nm)
    (hl : (binds.all fun y => decide (nm.lookup y.1 = some .local)) = true) (hcell : (nm.all fun x => x.2 != .cell) = true)
    (hv : names.map (fun n => binds.reverse.lookup n) = vals) (hnd : names.Nodup)
    (hco : (stScope st).isCoroutine = false) (hgen : (stScope st).isGenerator = false) (hk : (stScope st).kind = .function)
    (k : ∀ La s' e A' E', Ev e La nm cl → e.code = fd.code → Room A' d → H b ((La, .fr names vals) :: L) s' →
      wpAny (model prog w) A' (execs (stBody st) e) (fun fl s'' => R (.ok (.ret (match fl with | .ret v => v | _ => .none))) s'') E' s') :
    codeAny (model prog w) A (.call (.ref f) args) R s := by
  obtain ⟨o, ho, hd⟩ := F.get
  refine codeAny_call_def (fd := fd) (body := stBody st) (binds := binds) hA.lim ho hd F.lim F.code F.body hb ?_ ?_ ?_ (by rw [F.scope]; exact hco) (by rw [F.scope]; exact hgen) (by rw [F.scope]; exact hk)
  · intro x hx e
    rw [F.scope, hsc] at hx
    have := List.all_eq_true.mp hcell x hx
    rw [e] at this; cases this
  · intro x hx
    rw [F.scope, hsc]
    exact of_decide_eq_true (List.all_eq_true.mp hl x hx)
  · intro h₀ hns hk₀
    refine k s.heap.objs.size _ _ _ _ ⟨rfl, by show fd.scope.kind = _; rw [F.scope]; exact hk, by show fd.scope.names = _; rw [F.scope]; exact hsc, F.closure, F.globals, F.builtins⟩ rfl hA.deeper ?_
    refine h.grow hk₀ (fun _ => ?_) (Nat.le_refl _)
    subst hv
    refine ⟨hnd, by rw [List.length_map], _, hns, fun i n hi => ?_⟩
    rw [List.getElem?_map, hi]; rfl
theorem enter (F : FnIs b f st fd) (hA : Room A (d + 1)) (h : H b L s) (hb : BindsTo s fd args binds) (hsc : (stScope st).names = nm)
    (hl : (binds.all fun y => decide (nm.lookup y.1 = some .local)) = true) (hcell : (nm.all fun x => x.2 != .cell) = true)
    (hv : names.map (fun n => binds.reverse.lookup n) = vals) (hnd : names.Nodup)
    (hco : (stScope st).isCoroutine = false) (hgen : (stScope st).isGenerator = false) (hk : (stScope st).kind = .function)
    (k : ∀ La s' e A' E', Ev e La nm [] → Room A' d → H b ((La, .fr names vals) :: L) s' →
      wpAny (model prog w) A' (execs (stBody st) e) (fun fl s'' => R (.ok (.ret (match fl with | .ret v => v | _ => .none))) s'') E' s') :
    codeAny (model prog w) A (.call (.ref f) args) R s :=
  enterF (F.fn h) hA h hb hsc hl hcell hv hnd hco hgen hk fun La s' e A' E' he _ => k La s' e A' E' he

theorem H.growL {hh : Heap} {t : Nat} {NL : Led} (h : H b L s) (k : ∀ c o, s.heap.get? c = some o → hh.get? c = some o) (hr : ∀ p ∈ NL, ∀ fz, p.2.At fz hh p.1) (ha : ∀ p ∈ NL, s.heap.objs.size ≤ p.1) (hd : NL.Pairwise fun p q => p.1 ≠ q.1) : H b (NL ++ L) { s with heap := hh, toks := t } := by
  obtain ⟨fz, h⟩ := h
  refine ⟨fz, h.base, fun c ob e => k _ _ (h.keep c ob e), fun p hp => ?_, fun p hp => ?_, List.pairwise_append.mpr ⟨hd, h.nd, fun p hp q hq => Nat.ne_of_gt (Nat.lt_of_lt_of_le (h.lt hq) (ha p hp))⟩, h.gens, h.os⟩
  · rcases List.mem_append.mp hp with hp | hp
    · exact hr p hp fz
    · exact (h.at_ p hp).keeps (fun _ e => k _ _ e) (fun _ _ e => e)
  · rcases List.mem_append.mp hp with hp | hp
    · exact fun o q => absurd (Heap.lt_size (h.keep _ _ q)) (Nat.not_lt.mpr (ha p hp))
    · exact h.new p hp
theorem zip_cells (g : Str → Option Value) : ∀ cs : List (Str × Addr), ((cs.map (·.2)).zip ((cs.map (·.1)).map g)).map (fun q => (q.1, Res.cl q.2)) = cs.map (fun q => (q.2, Res.cl (g q.1)))
  | [] => rfl
  | p :: l => by rw [List.map_cons, List.map_cons, List.map_cons, List.map_cons, List.zip_cons_cons, List.map_cons, zip_cells g l]

theorem enterCT {cn : List Str} {cvals : List (Option Value)} {pos : List Value} (F : FnIs b f st fd) (hA : Room A (d + 1)) (h : H b L s) (hb : bindArgs fd ⟨pos, []⟩ = pure binds) (hsc : (stScope st).names = nm)
    (hl : (binds.all fun x => decide (nm.lookup x.1 = some .local) || (decide (nm.lookup x.1 = some .cell) && ((cellsFrom 0 nm []).lookup x.1).isSome)) = true)
    (hcn : (cellsFrom 0 nm []).map (·.1) = cn) (hcd : cn.Nodup)
    (hv : names.map (bindL (fun x => nm.lookup x) binds fun _ => none) = vals) (hcv : cn.map (bindC (fun x => nm.lookup x) binds fun _ => none) = cvals) (hnd : names.Nodup)
    (hco : (stScope st).isCoroutine = false) (hgen : (stScope st).isGenerator = false) (hk : (stScope st).kind = .function)
    (k : ∀ La s' e A' E' (ca : List Addr), ca.length = cn.length → Ev e La nm (cn.zip ca) → e.code = fd.code → e.qual = fd.qualname ++ ".<locals>." → Room A' d → s.toks ≤ s'.toks → H b ((ca.zip cvals).map (fun q => (q.1, .cl q.2)) ++ (La, .fr names vals) :: L) s' →
      wpAny (model prog w) A' (execs (stBody st) e) (fun fl s'' => R (.ok (.ret (match fl with | .ret v => v | _ => .none))) s'') E' s') :
    codeAny (model prog w) A (.call (.ref f) ⟨pos, []⟩) R s := by
  obtain ⟨o, ho, hd⟩ := F.get
  have names_eq : ∀ n, (cellsFrom n nm []).map (·.1) = cn := fun n => (cellsFrom_names nm n 0 [] [] rfl).trans hcn
  have hlk : ∀ n x, ((cellsFrom n nm []).lookup x).isSome = true ↔ x ∈ cn := fun n x => by
    rw [← names_eq n]
    induction cellsFrom n nm [] with
    | nil => simp
    | cons p l ih =>
      obtain ⟨y, c⟩ := p
      rw [List.lookup_cons, List.map_cons, List.mem_cons]
      cases q : x == y with
      | true => simp [beq_iff_eq.mp q]
      | false => simp only [ih]; simp [beq_eq_false_iff_ne.mp q]
  have ke : ∀ L', (callEnvC fd L' f).kindOf = fun x => nm.lookup x := fun L' => by funext x; show fd.scope.names.lookup x = _; rw [F.scope, hsc]
  refine codeAny_call_cellsT (fd := fd) (body := stBody st) (binds := binds) hA.lim (h.keep _ _ ho) hd (h.lim F.lim) (F.code.keeps h.keep) F.body hb F.closure (fun x hx => ?_) (fun s₁ x ht => ?_) (by rw [F.scope]; exact hco) (by rw [F.scope]; exact hgen) (by rw [F.scope]; exact hk)
  · rw [F.scope, hsc]
    rcases Bool.or_eq_true_iff.mp (List.all_eq_true.mp hl x hx) with q | q
    · exact .inl (of_decide_eq_true q)
    · obtain ⟨q1, q2⟩ := Bool.and_eq_true_iff.mp q
      exact .inr ⟨of_decide_eq_true q1, (hlk _ _).mpr ((hlk _ _).mp q2)⟩
  · rw [ke] at x
    have cells_eq : (callEnvC fd s.heap.objs.size f).cells = cellsFrom (s.heap.objs.size + 1) nm [] := by show cellsFrom _ fd.scope.names [] = _; rw [F.scope, hsc]
    rw [cells_eq] at x
    generalize hcs : cellsFrom (s.heap.objs.size + 1) nm [] = cs at x cells_eq
    have hn : cs.map (·.1) = cn := by rw [← hcs]; exact names_eq _
    have zip : cn.zip (cs.map (·.2)) = cs := by
      rw [← hn]; clear hcs hn x cells_eq
      induction cs with
      | nil => rfl
      | cons p l ih => simp [ih]
    obtain ⟨hh, tk, rfl⟩ := x.toInCall.same
    refine k s.heap.objs.size _ _ _ _ (cs.map (·.2)) (by rw [← hn, List.length_map, List.length_map]) ⟨rfl, by show fd.scope.kind = _; rw [F.scope]; exact hk, by show fd.scope.names = _; rw [F.scope]; exact hsc, by rw [zip, cells_eq], F.globals, F.builtins⟩ rfl rfl hA.deeper ht ?_
    have hmem : ∀ n c, (n, c) ∈ cs → cs.lookup n = some c := fun n c hm => lookup_of_mem_nodup (by rw [hn]; exact hcd) hm
    have e : ((cs.map (·.2)).zip cvals).map (fun q => (q.1, Res.cl q.2)) = cs.map (fun q => (q.2, Res.cl (bindC (fun x => nm.lookup x) binds (fun _ => none) q.1))) := by
      rw [← hcv, ← hn]; exact zip_cells _ cs
    rw [e, show ∀ (X : Led) (y : Addr × Res), X ++ y :: L = (X ++ [y]) ++ L from fun X y => by simp]
    refine h.growL x.toInCall.keep (fun p hp fz => ?_) (fun p hp => ?_) ?_
    · rcases List.mem_append.mp hp with hp | hp
      · obtain ⟨q, hq, rfl⟩ := List.mem_map.mp hp
        exact x.cell q.1 q.2 (hmem q.1 q.2 hq)
      · rw [List.mem_singleton.mp hp]
        subst hv
        refine ⟨hnd, by rw [List.length_map], _, x.toInCall.ns, fun i n hi => ?_⟩
        rw [List.getElem?_map, hi]; rfl
    · rcases List.mem_append.mp hp with hp | hp
      · obtain ⟨q, hq, rfl⟩ := List.mem_map.mp hp
        exact Nat.le_of_lt (x.above q.1 q.2 hq)
      · rw [List.mem_singleton.mp hp]; exact Nat.le_refl _
    · rw [List.pairwise_append]
      refine ⟨List.pairwise_map.mpr x.apart, List.pairwise_singleton _ _, fun p hp q hq => ?_⟩
      obtain ⟨r, hr, rfl⟩ := List.mem_map.mp hp
      rw [List.mem_singleton.mp hq]
      exact Nat.ne_of_gt (x.above r.1 r.2 hr)
theorem enterC {cn : List Str} {cvals : List (Option Value)} {pos : List Value} (F : FnIs b f st fd) (hA : Room A (d + 1)) (h : H b L s) (hb : bindArgs fd ⟨pos, []⟩ = pure binds) (hsc : (stScope st).names = nm)
    (hl : (binds.all fun x => decide (nm.lookup x.1 = some .local) || (decide (nm.lookup x.1 = some .cell) && ((cellsFrom 0 nm []).lookup x.1).isSome)) = true)
    (hcn : (cellsFrom 0 nm []).map (·.1) = cn) (hcd : cn.Nodup)
    (hv : names.map (bindL (fun x => nm.lookup x) binds fun _ => none) = vals) (hcv : cn.map (bindC (fun x => nm.lookup x) binds fun _ => none) = cvals) (hnd : names.Nodup)
    (hco : (stScope st).isCoroutine = false) (hgen : (stScope st).isGenerator = false) (hk : (stScope st).kind = .function)
    (k : ∀ La s' e A' E' (ca : List Addr), ca.length = cn.length → Ev e La nm (cn.zip ca) → e.code = fd.code → e.qual = fd.qualname ++ ".<locals>." → Room A' d → H b ((ca.zip cvals).map (fun q => (q.1, .cl q.2)) ++ (La, .fr names vals) :: L) s' →
      wpAny (model prog w) A' (execs (stBody st) e) (fun fl s'' => R (.ok (.ret (match fl with | .ret v => v | _ => .none))) s'') E' s') :
    codeAny (model prog w) A (.call (.ref f) ⟨pos, []⟩) R s :=
  enterCT F hA h hb hsc hl hcn hcd hv hcv hnd hco hgen hk fun La s' e A' E' ca a1 a2 a3 a4 a5 _ h => k La s' e A' E' ca a1 a2 a3 a4 a5 h
end
theorem byName {G : Prop} (h : ∀ P : Prop, (G → P) → P) : G := h G id
end
end Mine
namespace Mine
section
open PySem PySem.W PyProof.Rows PySem.Calls
theorem ins_ex (l : Addr) (vs : List Value) (n k : Nat) (x : Int) (u : Tok) (y : Value) (hx : x = k) (hk : k ≤ vs.length) (hz : vs.length < 2 ^ 20) : ∃ f : Array Value → Array Value, f vs.toArray = (vs.take k ++ y :: vs.drop k).toArray ∧
   Meets (Builtin.«list.insert» ⟨[.ref l, .int x u, y], []⟩) (fun _ R s => s.heap.get? l = some { cls := .type "list", dict := none, data := .seq vs.toArray n, slots := #[] } ∧ R (.ok (.ret Value.none)) { s with heap := s.heap.update l (Obj.mapSeq f), toks := s.toks }) := by
  have e1 : vs.toArray.size = vs.length := List.size_toArray
  have hs1 : vs.toArray.size ≤ sizeLine := by rw [e1, sizeLine_eq]; exact o9 hz
  have hfi : ¬ (!Builtin.List.listFitsIndex x) = true := by
    have : Builtin.List.listFitsIndex x = true := by simp only [Builtin.List.listFitsIndex, Bool.and_eq_true, decide_eq_true_eq]; exact o10 hz hk hx
    rw [this]; decide
  refine ⟨_, ?_, @AutoListH.list_insert_list_int_val_1 l vs.toArray n x u y hfi hs1⟩
  have hk' : min k vs.length = k := by exact o11 hk
  have hn : ¬ (x < 0) := by exact o12 hx
  have hx' : x.toNat = k := by exact o13 hx
  have hlen : (vs.drop k).length ≤ vs.length - k := by rw [List.length_drop]; exact Nat.le_refl _
  simp only [if_neg hn, hx']
  simp [hk', List.take_of_length_le hlen]
theorem ins_core {prog : Program} {w : World} {A : Around} {E : Value → Shared → Prop} {s : Shared} {Q : Value → Shared → Prop} (l : Addr) (vs : List Value) (n k : Nat) (x : Int) (t : Tok) (v : Value) (hx : x = k) (hg : s.heap.get? l = some (lo vs n)) (hk : k ≤ vs.length) (hsz : vs.length < 2 ^ 20)
    (kk : ∀ f : Array Value → Array Value, f vs.toArray = (vs.take k ++ v :: vs.drop k).toArray → Q .none { s with heap := s.heap.update l (Obj.mapSeq f) }) : wpAny (model prog w) A (call (.builtin "list.insert") [.ref l, .int x t, v]) Q E s := by
  obtain ⟨f, hf, g⟩ := ins_ex l vs n k x t v hx hk hsz
  exact call_meets PySem.F.slot_list_insert ⟨_, hg, rfl⟩ PySem.F.entry_list_insert (PySem.F.args_list_insert_3 _ _ _) g ⟨hg, kk f hf⟩

section
variable {prog : Program} {w : World} {A : Around} {E : Value → Shared → Prop} {b s : Shared} {L L' : Led} {e : Env} {Q : Value → Shared → Prop} {x y : Int} {t u : Tok} {i k : Nat} {pos : Pos} {F : Flow → Shared → Prop}

theorem c_int (h : H b L s) (kk : ∀ t s', H b L s' → Q (.int x t) s') : wpAny (model prog w) A (eval (.Constant (.int x) k pos) e) Q E s := wpAny_Constant_int (kk _ _ (h.toks _))
theorem c_str {x : Str} (h : H b L s) (kk : ∀ t s', H b L s' → Q (.str x t) s') : wpAny (model prog w) A (eval (.Constant (.str x) k pos) e) Q E s := wpAny_Constant_str (kk _ _ (h.toks _))
theorem o_add (h : H b L s) (kk : ∀ t s', H b L s' → Q (.int (x + y) t) s') : wpAny (model prog w) A (binaryOp .Add (.int x t) (.int y u)) Q E s := add_int (kk _ _ (h.toks _))
theorem o_sub (h : H b L s) (kk : ∀ t s', H b L s' → Q (.int (x - y) t) s') : wpAny (model prog w) A (binaryOp .Sub (.int x t) (.int y u)) Q E s := sub_int (kk _ _ (h.toks _))
theorem o_div (h : H b L s) (kk : ∀ t s', H b L s' → Q (.int (x.fdiv y) t) s') (hy : y ≠ 0) (hp : Builtin.divisionGoesByPylong x y = false) : wpAny (model prog w) A (binaryOp .FloorDiv (.int x t) (.int y u)) Q E s := floordiv_int hy (kk _ _ (h.toks _)) (.inl hp)
theorem o_mod (h : H b L s) (kk : ∀ t s', H b L s' → Q (.int (x.fmod y) t) s') (hy : y ≠ 0) : wpAny (model prog w) A (binaryOp .Mod (.int x t) (.int y u)) Q E s := mod_int' hy (kk _ _ (h.toks _))
theorem o_lt (kk : Q (.bool (decide (x < y))) s) : wpAny (model prog w) A (compareOp .Lt (.int x t) (.int y u)) Q E s := lt_int kk
theorem o_eq (kk : Q (.bool (x == y)) s) : wpAny (model prog w) A (compareOp .Eq (.int x t) (.int y u)) Q E s := eq_int kk
theorem o_ne (kk : Q (.bool (x != y)) s) : wpAny (model prog w) A (compareOp .NotEq (.int x t) (.int y u)) Q E s := ne_int kk

theorem len_l {a : Addr} {vs : List Value} (h : H b L s) (hm : Has a (.ls vs) L) (kk : ∀ t s', H b L s' → Q (.int vs.length t) s') (hf : vs.length < 2 ^ 60) : wpAny (model prog w) A (call (.builtin "len") [.ref a]) Q E s := by
  obtain ⟨n, hg⟩ := h.getL hm
  refine call_len_list (isList hg) (by rw [List.size_toArray]; exact o14 hf) ?_
  rw [List.size_toArray]
  exact kk _ _ (h.toks _)

theorem item_l {a : Addr} {vs : List Value} {value slice : Expr} {v : Value} (h : H b L s) (hm : Has a (.ls vs) L) (h0 : 0 ≤ x) (hx : vs[x.toNat]? = some v) (hf : x < 2 ^ 60) (kk : Q v s)
    (hs : subscripted slice false (.ref a) (.int x t) = operate [.ref a, .int x t] (getItem (.ref a) (.int x t))) : wpAny (model prog w) A (subscriptTail value slice (.ref a) (.int x t)) Q E s := by
  obtain ⟨n, hg⟩ := h.getL hm
  exact tail_any (isList hg).typeIs slot_list_getitem.lookup (wpAny_getItem_list (isList hg) h0 (by exact o15 hf) (by simpa using hx) kk) hs

theorem m_list {name : Str} {id : String} {pl : Sem Bool} {l : Addr} {vs : List Value} {Q : Value × List Value → Shared → Prop} (h : H b L s) (slot : Slot "list" name id) (ty : typeOf (.builtin id) = pure (.type "method_descriptor"))
    (hm : Has l (.ls vs) L) (kk : Q (.builtin id, [.ref l]) s) : wpAny (model prog w) A (getMethod (.ref l) name pl) Q E s := by
  obtain ⟨n, hg⟩ := h.getL hm
  exact getMethod_list_of slot ty (isList hg) (by unfold Heap.NoDictAt; exact ⟨_, hg, rfl⟩) kk

theorem H.seq {l : Addr} {vs vs' : List Value} (h : H b L s) (u : Upd l (.ls vs) (.ls vs') L L') (f : Array Value → Array Value) (hf : f vs.toArray = vs'.toArray) : H b L' { s with heap := s.heap.update l (Obj.mapSeq f) } := by
  obtain ⟨n, hg⟩ : ∃ n, s.heap.get? l = some (lo vs n) := h.getL u.has
  refine h.set u (Heap.SameBut.update ..) (fun _ => ?_) s.toks
  have := Heap.get?_update_self (Obj.mapSeq f) hg (by rfl)
  refine ⟨if (f vs.toArray).size == vs.toArray.size then n else n + 1, ?_⟩
  rw [this]
  show some (Obj.mk _ none (.seq (f vs.toArray) _) #[]) = _
  rw [hf]; rfl

theorem l_insert {l : Addr} {vs : List Value} {v : Value} {k : Nat} (h : H b L s) (u : Upd l (.ls vs) (.ls (vs.take k ++ v :: vs.drop k)) L L') (hx : x = k) (hk : k ≤ vs.length) (hsz : vs.length < 2 ^ 20)
    (kk : ∀ s', H b L' s' → Q .none s') : wpAny (model prog w) A (call (.builtin "list.insert") [.ref l, .int x t, v]) Q E s := by
  obtain ⟨n, hg⟩ : ∃ n, s.heap.get? l = some (lo vs n) := h.getL u.has
  exact ins_core l vs n k x t v hx hg hk hsz fun f hf => kk _ (h.seq u f hf)
theorem l_append {l : Addr} {vs : List Value} {v : Value} (h : H b L s) (u : Upd l (.ls vs) (.ls (vs ++ [v])) L L') (hsz : vs.length < 2 ^ 20)
    (kk : ∀ s', H b L' s' → Q .none s') : wpAny (model prog w) A (call (.builtin "list.append") [.ref l, v]) Q E s := by
  obtain ⟨n, hg⟩ : ∃ n, s.heap.get? l = some (lo vs n) := h.getL u.has
  refine call_meets PySem.F.slot_list_append ⟨_, hg, rfl⟩ PySem.F.entry_list_append (PySem.F.args_list_append_2 _ _)
    (AutoListH.list_append_list_val_0 l _ n v (by rw [List.size_toArray, sizeLine_eq]; exact o9 hsz)) ⟨hg, ?_⟩
  refine kk _ (h.seq u _ ?_)
  simp
theorem l_reverse {l : Addr} {vs : List Value} (h : H b L s) (u : Upd l (.ls vs) (.ls vs.reverse) L L') (hsz : vs.length < 2 ^ 20)
    (kk : ∀ s', H b L' s' → Q .none s') : wpAny (model prog w) A (call (.builtin "list.reverse") [.ref l]) Q E s := by
  obtain ⟨n, hg⟩ : ∃ n, s.heap.get? l = some (lo vs n) := h.getL u.has
  refine call_meets PySem.F.slot_list_reverse ⟨_, hg, rfl⟩ PySem.F.entry_list_reverse (PySem.F.args_list_reverse_1 _)
    (AutoListH.list_reverse_list_0 l _ n (by rw [List.size_toArray, sizeLine_eq]; exact o9 hsz)) ⟨hg, ?_⟩
  refine kk _ (h.seq u _ ?_)
  simp
theorem l_pop {l : Addr} {vs : List Value} {v : Value} (h : H b L s) (u : Upd l (.ls (vs ++ [v])) (.ls vs) L L') (hsz : vs.length < 2 ^ 20)
    (kk : ∀ s', H b L' s' → Q v s') : wpAny (model prog w) A (call (.builtin "list.pop") [.ref l]) Q E s := by
  obtain ⟨n, hg⟩ : ∃ n, s.heap.get? l = some (lo (vs ++ [v]) n) := h.getL u.has
  refine call_meets PySem.F.slot_list_pop ⟨_, hg, rfl⟩ PySem.F.entry_list_pop (PySem.F.args_list_pop_1 _)
    (MeetsSeq.list_pop_last l _ n v (by simp) (by rw [List.size_toArray, sizeLine_eq, List.length_append]; simp; exact o16 hsz)) ⟨hg, ?_⟩
  refine kk _ (h.seq u _ ?_)
  simp [List.eraseIdx_append_of_length_le]
theorem l_pop0 {l : Addr} {vs : List Value} {v : Value} (h : H b L s) (u : Upd l (.ls (v :: vs)) (.ls vs) L L') (hsz : vs.length < 2 ^ 20)
    (kk : ∀ s', H b L' s' → Q v s') : wpAny (model prog w) A (call (.builtin "list.pop") [.ref l, .int 0 t]) Q E s := by
  obtain ⟨n, hg⟩ : ∃ n, s.heap.get? l = some (lo (v :: vs) n) := h.getL u.has
  refine call_meets PySem.F.slot_list_pop ⟨_, hg, rfl⟩ PySem.F.entry_list_pop (PySem.F.args_list_pop_2 _ _)
    (MeetsSeq.list_pop_at l _ n 0 t 0 v (by decide) (by unfold seqIndex?; simp) (by simp) (by rw [List.size_toArray, sizeLine_eq, List.length_cons]; exact o17 hsz)) ⟨hg, ?_⟩
  refine kk _ (h.seq u _ ?_)
  simp
theorem e_expr {e1 : Expr} {La : Addr} {nm : List (Str × NameKind)} {cl : List (Str × Addr)} (he : Ev e La nm cl) (hh : wpAny (model prog w) A (eval e1 e) (fun v s' => match v with | .ref _ => False | _ => F .next s') E s) (hs : swapsWith e1 none pos.line e = pure false) :
    wpAny (model prog w) A (exec (.Expr e1 pos) e) F E s := wpAny_Expr hh (by unfold interactive; rw [he.kind]; rfl) hs

theorem cw_def {f : Addr} {st : Stmt} {fd : FuncData} {e1 : Expr} {rest : List Expr} (F : FnIs b f st fd)
    (hh : wpAny (model prog w) A (spliced (backTo pos (starEach (e1 :: rest) e))) (fun vs s₁ => (∃ L, H b L s₁) ∧ wpAny (model prog w) A (call (.ref f) vs) Q E s₁) E s)
    (he : starEach (e1 :: rest) e = (false, eval e1 e) :: starEach rest e) :
    wpAny (model prog w) A (callWith pos (.ref f) [] (backTo pos (starEach (e1 :: rest) e)) []) Q E s := by
  obtain ⟨o, h1, h2⟩ := F.get
  exact callWith_def h2 (wpAny_mono hh (fun vs s' z => ⟨z.1.choose_spec.keep _ _ h1, z.2⟩) fun _ _ q => q) he
theorem call_c {f : Value} {vs : List Value} {P : Value → Shared → Prop} (hc : ∀ R : Result → Shared → Prop, (∀ v s', P v s' → R (.ok (.ret v)) s') → codeAny (model prog w) A (.call f ⟨vs, []⟩) R s)
    (kk : ∀ v s', P v s' → Q v s') : wpAny (model prog w) A (call f vs) Q E s := wpAny_call (hc _ kk)
end

noncomputable def closL (cells : List (Str × Addr)) : List (Str × NameKind) → List (Str × Addr) → Option (List (Str × Addr))
  | [], acc => some acc
  | (n, k) :: r, acc => if k == .free then (cells.lookup n).bind fun a => closL cells r ((n, a) :: acc) else closL cells r acc
theorem forIn_clos {env : Env} (f : Str × NameKind → List (Str × Addr) → Sem (ForInStep (List (Str × Addr)))) (hf : ∀ n k cs, f (n, k) cs = if k == .free then (do let a ← cellOf env n; pure (.yield ((n, a) :: cs))) else pure (.yield cs)) :
    ∀ (l : List (Str × NameKind)) (acc r : List (Str × Addr)), closL env.cells l acc = some r → forIn l acc f = (pure r : Sem (List (Str × Addr)))
  | [], acc, r, e => by cases e; rw [List.forIn_nil]
  | (n, k) :: l, acc, r, e => by
    rw [List.forIn_cons, hf]
    unfold closL at e
    split at e
    · rename_i hk
      rw [if_pos hk]
      obtain ⟨a, h1, h2⟩ := Option.bind_eq_some_iff.mp e
      have : cellOf env n = pure a := by unfold cellOf; rw [h1]
      rw [this, pure_bind, pure_bind]
      exact forIn_clos f hf l _ r h2
    · rename_i hk
      rw [if_neg hk, pure_bind]
      exact forIn_clos f hf l _ r e
theorem closureFor_of {scope : Scope} {env : Env} {cells r : List (Str × Addr)} (hc : env.cells = cells) (e : closL cells scope.names [] = some r) : closureFor scope env = pure r := by
  subst hc
  simp only [closureFor]
  rw [forIn_clos (env := env) _ (fun n k cs => by cases hk : k == NameKind.free <;> simp [hk]) scope.names [] r e]
  rfl

theorem key_one {L : Led} {P : Addr} {r : Res} {p : Addr × Res} (nd : L.Pairwise fun p q => p.1 ≠ q.1) (hm : (P, r) ∈ L) (hp : p ∈ L) (e : p.1 = P) : p = (P, r) := by
  induction L with
  | nil => cases hp
  | cons y L ih =>
    obtain ⟨n1, n2⟩ := List.pairwise_cons.mp nd
    rcases List.mem_cons.mp hp with h1 | h1
    · rcases List.mem_cons.mp hm with h2 | h2
      · exact h1.trans h2.symm
      · exact absurd (h1 ▸ e) (n1 _ h2)
    · rcases List.mem_cons.mp hm with h2 | h2
      · exact absurd (h2 ▸ e.symm) (n1 _ h1)
      · exact ih n2 h2 h1
structure Bm (b : Shared) : Prop where
  ex : ∃ mg bm ob, b.heap.Ns mainGlobals mg ∧ mg "__builtins__" = some (.ref bm) ∧ bm ≠ builtinsNs ∧ b.heap.get? bm = some ob ∧ ob.cls = .type "module" ∧ ob.dict = some builtinsNs ∧ ob.data = .plain

section
variable {prog : Program} {w : World} {A : Around} {E : Value → Shared → Prop} {b s : Shared} {L L' : Led} {e : Env} {Q : Flow → Shared → Prop} {La c P : Addr} {nm : List (Str × NameKind)} {cl clos : List (Str × Addr)}
  {name q : Str} {params : Arguments} {body : List Stmt} {scope : Scope} {pos : Pos}

theorem d_nest (h : H b L s) (he : Ev e La nm cl) (hcode : e.code = .ref c) (hq : qualnameIn e name name = q) (C : CodeHd b.heap c P) (hm : Has P (.tb pos q) L) (B : Bm b)
    (hd0 : params.defaults = []) (hk0 : params.kw_defaults = []) (ha : annTrees params none e = []) (hcl : closL cl scope.names [] = some clos)
    (k : ∀ f fd s', H b ((f, .fn fd) :: L) s' → FdIs fd (.FunctionDef name params body [] none [] scope none name pos) clos → wpAny (model prog w) A (storeName e name (.ref f)) (fun _ s'' => Q .next s'') E s') :
    wpAny (model prog w) A (exec (.FunctionDef name params body [] none [] scope none name pos) e) Q E s := by
  refine nestDef_K hd0 hk0 ha ?_
  rw [hq]
  obtain ⟨mg, bm, ob, g1, g2, g3, g4, g5, g6, g7⟩ := B.ex
  obtain ⟨fz, hz⟩ := h
  have hcl' := closureFor_of (scope := scope) he.cells hcl
  have hkb : ∀ a o, b.heap.get? a = some o → s.heap.get? a = some o := fun a o e => hz.keep _ _ (hz.base _ _ e)
  have hbG : bm ≠ mainGlobals := fun q => by
    obtain ⟨o, es, ep, e, hd, _⟩ := g1
    rw [q, e] at g4; cases g4; rw [hd] at g7; cases g7
  have offP : ∀ a o, b.heap.get? a = some o → a ≠ P := fun a o e q => hz.new _ hm.mem o (by rw [← q]; exact hz.base _ _ e)
  have hgP : mainGlobals ≠ P := by obtain ⟨o, es, ep, e, hd, _⟩ := g1; exact offP _ _ e
  have hB : s.heap.BuiltinsAt mg P := ⟨bm, ob, g2, g3, hbG, offP _ _ g4, hkb _ _ g4, g5, g6, g7⟩
  have ht0 : TriplesOk ([] : List Value) := trivial
  rcases hz.at_ _ hm.mem with hP | ⟨c', hP, hcz⟩
  · refine makeFunction_K (mg := mg) hcl' he.globals (g1.keeps hkb) hcode (C.keeps hkb) hP ht0 rfl hgP hB fun c' ctv doc h' tk hx hge hlt hrec htb => ?_
    obtain ⟨c₂, oc, vs, t, e2, hoc, hd, hv⟩ := hrec
    cases e2
    refine k h'.objs.size (fnX name q params body scope clos .none .none doc ((mg (Str.ofString "__name__")).getD .none) none (.ref c') ctv) _ ?_ ⟨rfl, rfl, rfl, rfl, rfl, rfl, rfl, rfl⟩
    have hlast : (h'.push (fnMade name q params body scope clos doc ((mg (Str.ofString "__name__")).getD .none) c' ctv)).get? h'.objs.size = some (fnMade name q params body scope clos doc ((mg (Str.ofString "__name__")).getD .none) c' ctv) := Heap.get?_push_size _ rfl
    refine ⟨fun a o => fz a o ∨ (a = c' ∧ o = oc), fun a o e => .inl (hz.base _ _ e), fun a o e => ?_, fun p hp => ?_, fun p hp o e => ?_, List.pairwise_cons.mpr ⟨fun p hp => Nat.ne_of_gt (Nat.lt_of_lt_of_le (hz.lt hp) (Nat.le_trans hge (Nat.le_of_lt hlt))), hz.nd⟩, hz.gens, hz.os⟩
    · rcases e with e | ⟨rfl, rfl⟩
      · exact Heap.get?_push_of_some _ (hx _ _ (fun q => hz.new _ hm.mem o (by rw [← q]; exact e)) (hz.keep _ _ e))
      · exact Heap.get?_push_of_some _ hoc
    · rcases List.mem_cons.mp hp with rfl | hp
      · exact ⟨⟨_, hlast, rfl⟩, c', rfl, oc, vs, t, .inr ⟨rfl, rfl⟩, hd, hv⟩
      · by_cases hpP : p.1 = P
        · have hpe : p = (P, .tb pos q) := key_one hz.nd hm.mem hp hpP
          subst hpe
          exact .inr ⟨c', Heap.get?_push_of_some _ htb, oc, vs, t, .inr ⟨rfl, rfl⟩, hd, hv⟩
        · exact (hz.at_ p hp).keeps (fun o e => Heap.get?_push_of_some _ (hx _ _ hpP e)) (fun _ _ e => .inl e)
    · rcases List.mem_cons.mp hp with rfl | hp
      · rcases e with e | ⟨e, _⟩
        · exact absurd (Heap.lt_size (hz.keep _ _ e)) (Nat.not_lt.mpr (Nat.le_trans hge (Nat.le_of_lt hlt)))
        · exact absurd e (Nat.ne_of_gt hlt)
      · rcases e with e | ⟨e, _⟩
        · exact hz.new p hp o e
        · exact absurd (hz.lt hp) (by rw [e]; exact Nat.not_lt.mpr hge)
  · have hf : codeAmong pos [rawInt pos.line, rawInt pos.col, .ref c'] = some (.ref c') := by simp [codeAmong, rawInt]
    have ht1 : TriplesOk ([rawInt pos.line, rawInt pos.col, .ref c'] : List Value) := by simp [TriplesOk, rawInt]
    refine makeFunction_hit (mg := mg) hcl' he.globals (g1.keeps hkb) hcode (C.keeps hkb) hP ht1 hf hB fun ctv doc h' tk hk hsz => ?_
    refine k h'.objs.size (fnX name q params body scope clos .none .none doc ((mg (Str.ofString "__name__")).getD .none) none (.ref c') ctv) _ ?_ ⟨rfl, rfl, rfl, rfl, rfl, rfl, rfl, rfl⟩
    have hl := Heap.get?_push_size h' (o := { cls := .type "function", data := .func (fnX name q params body scope clos .none .none doc ((mg (Str.ofString "__name__")).getD .none) none (.ref c') ctv) }) rfl
    refine ⟨fz, hz.base, fun a o e => Heap.get?_push_of_some _ (hk _ _ (hz.keep _ _ e)), fun p hp => ?_, fun p hp o e => ?_, List.pairwise_cons.mpr ⟨fun p hp => Nat.ne_of_gt (Nat.lt_of_lt_of_le (hz.lt hp) hsz), hz.nd⟩, hz.gens, hz.os⟩
    · rcases List.mem_cons.mp hp with rfl | hp
      · exact ⟨⟨_, hl, rfl⟩, c', rfl, hcz⟩
      · exact (hz.at_ p hp).keeps (fun o e => Heap.get?_push_of_some _ (hk _ _ e)) (fun _ _ e => e)
    · rcases List.mem_cons.mp hp with rfl | hp
      · exact absurd (Heap.lt_size (hz.keep _ _ e)) (Nat.not_lt.mpr hsz)
      · exact hz.new p hp o e
end

noncomputable def feed {α : Type} : Nat → List Obj → Sem α → List Addr × Sem α
  | 0, _, t => ([], t)
  | n + 1, os, .rule _ k => feed n os (k ())
  | n + 1, os, .at _ k => feed n os (k ())
  | n + 1, os, .point _ k => feed n os (k ())
  | n + 1, o :: os, .load a _ k => let r := feed n os (k o); (a :: r.1, r.2)
  | _ + 1, _, t => ([], t)
noncomputable def FedBy (h : Heap) : List Addr → List Obj → Prop
  | [], _ => True
  | a :: as, o :: os => h.get? a = some o ∧ FedBy h as os
  | _ :: _, [] => False
theorem wp_feed {α : Type} {M : Model} {A : Around} {Q : α → Shared → Prop} {E : Value → Shared → Prop} {s : Shared} : ∀ (n : Nat) (os : List Obj) (t : Sem α), FedBy s.heap (feed n os t).1 os → wpAny M A (feed n os t).2 Q E s → wpAny M A t Q E s
  | 0, _, _, _, h => h
  | n + 1, os, .rule _ k, f, h => fun Γ p hΓ => wp_feed n os (k ()) f h Γ p hΓ
  | n + 1, os, .at q k, f, h => fun Γ _ hΓ => wp_feed n os (k ()) f h Γ q hΓ
  | n + 1, os, .point _ k, f, h => fun Γ p hΓ => wp_feed n os (k ()) f h Γ p hΓ
  | n + 1, o :: os, .load a q k, f, h => by
    refine wpAny_bind (m := loadPart a q) (f := k) (wpAny_loadPart f.1 ?_)
    exact wp_feed n os (k o) f.2 h
  | n + 1, [], .load .., _, h => h
  | n + 1, _, .pure _, _, h => h
  | n + 1, _, .raise _, _, h => h
  | n + 1, _, .unsupported _, _, h => h
  | n + 1, _, .finish _, _, h => h
  | n + 1, _, .ask _, _, h => h
  | n + 1, _, .update .., _, h => h
  | n + 1, _, .alloc .., _, h => h
  | n + 1, _, .loadIfAlive .., _, h => h
  | n + 1, _, .register .., _, h => h
  | n + 1, _, .fresh _, _, h => h
  | n + 1, _, .choose .., _, h => h
  | n + 1, _, .os .., _, h => h
  | n + 1, _, .call .., _, h => h
  | n + 1, _, .handled .., _, h => h
  | n + 1, _, .newGen .., _, h => h
  | n + 1, _, .genState .., _, h => h
  | n + 1, _, .resume .., _, h => h
  | n + 1, _, .yield .., _, h => h
  | n + 1, _, .stack _, _, h => h
  | n + 1, _, .fork .., _, h => h
  | n + 1, _, .thread _, _, h => h
  | n + 1, _, .await .., _, h => h

structure Dfl (b : Shared) (fd : FuncData) : Prop where
  pos : ∃ T n t, fd.defaults = .ref T ∧ b.heap.get? T = some ⟨.type "tuple", none, .seq #[.int 0 t, .none] n, #[]⟩
  kw : ∃ D hh t n, fd.kwdefaults = .ref D ∧ b.heap.get? D = some ⟨.type "dict", none, .dict #[⟨hh, .str "key" t, .none⟩] n, #[]⟩

theorem binds_fed {b s : Shared} {L : Led} {fd : FuncData} {ar : Arguments} {dv kv : Value} {args : Args} {binds : List (Str × Value)} {os : List Obj} {as : List Addr} (n : Nat) (h : H b L s) (e0 : fd.params = ar) (e1 : fd.defaults = dv) (e2 : fd.kwdefaults = kv)
    (hf : FedBy b.heap as os) (e : ∀ q, feed n os (bindArgs { (default : FuncData) with qualname := q, params := ar, defaults := dv, kwdefaults := kv } args) = (as, pure binds)) : BindsTo s fd args binds := by
  intro M A E Q hq
  have ee : bindArgs fd args = bindArgs { (default : FuncData) with qualname := fd.qualname, params := fd.params, defaults := fd.defaults, kwdefaults := fd.kwdefaults } args := rfl
  rw [ee, e0, e1, e2]
  have hf' : FedBy s.heap as os := by
    clear e
    induction as generalizing os with
    | nil => trivial
    | cons a as ih => cases os with
      | nil => exact hf
      | cons o os => exact ⟨h.keep _ _ hf.1, ih hf.2⟩
  refine wp_feed n os _ ?_ ?_
  · rw [e]; exact hf'
  · rw [e]; exact wpAny_pure hq

theorem binds_bis {b s : Shared} {L : Led} {f : Addr} {fd : FuncData} {i : Nat} (hi : i = 12 ∨ i = 13 ∨ i = 11) (F : FnIs b f (nth pb i) fd) (D : Dfl b fd) (h : H b L s) (a x : Value) : ∃ t, BindsTo s fd ⟨[a, x], []⟩ [("a", a), ("x", x), ("lo", .int 0 t), ("hi", .none), ("key", .none)] := by
  obtain ⟨T, n, t, d1, d2⟩ := D.pos
  obtain ⟨K, hh, tt, m, k1, k2⟩ := D.kw
  refine ⟨t, ?_⟩
  rcases hi with rfl | rfl | rfl
  · exact binds_fed (as := [T, K]) (os := [_, _]) 50 h F.params d1 k1 ⟨d2, k2, trivial⟩ (fun q => by kernel_rfl)
  · exact binds_fed (as := [T, K]) (os := [_, _]) 50 h F.params d1 k1 ⟨d2, k2, trivial⟩ (fun q => by kernel_rfl)
  · exact binds_fed (as := [T, K]) (os := [_, _]) 50 h F.params d1 k1 ⟨d2, k2, trivial⟩ (fun q => by kernel_rfl)
end
end Mine
namespace Mine
section
open PySem PySem.W PyProof.Rows PySem.Calls
theorem sub_dec {m n i : Nat} (hm : m = n - i) (h : i < n) : n - (i + 1) < m := by exact o18 h hm
theorem zk (k : Nat) : (0 + (k : Int)).toNat = k := by exact o19
theorem zn (k : Nat) : 0 ≤ 0 + (k : Int) := by exact o20
theorem zl {k n : Nat} (h : k < n) : 0 + (k : Int) < (n : Int) := by exact o21 h
theorem llit {a c N : Nat} (h : a ≤ c) (hc : c < N) : a < N := Nat.lt_of_le_of_lt h hc
theorem llit2 {a c d N : Nat} (h : a = c) (h2 : c ≤ d) (hc : d < N) : a < N := Nat.lt_of_le_of_lt (h ▸ h2) hc
theorem llit3 {a c d N : Nat} (h : c = a) (h2 : c ≤ d) (hc : d < N) : a < N := Nat.lt_of_le_of_lt (h ▸ h2) hc
theorem lteq {a c d : Nat} (h : a < c) (h2 : c = d) : a < d := h2 ▸ h
theorem lteq' {a c d : Nat} (h : a < c) (h2 : d = c) : a < d := h2 ▸ h
structure StJ (M : Model) (A : Around) (E : Value → Shared → Prop) (rest : List Stmt) (e : Env) (Q J : Flow → Shared → Prop) : Prop where
  nx : ∀ s, wpAny M A (execs rest e) Q E s → J .next s
  rt : ∀ v s, Q (.ret v) s → J (.ret v) s
  ct : ∀ s, Q .cont s → J .cont s
  bk : ∀ s, Q .brk s → J .brk s
structure StJT (M : Model) (A : Around) (E : Value → Shared → Prop) (n0 : Nat) (rest : List Stmt) (e : Env) (Q J : Flow → Shared → Prop) : Prop where
  nx : ∀ s, (n0 ≤ s.toks → wpAny M A (execs rest e) Q E s) → J .next s
  rt : ∀ v s, Q (.ret v) s → J (.ret v) s
theorem st_hideT {M : Model} {A : Around} {E : Value → Shared → Prop} {s : Shared} {n0 : Nat} {st : Stmt} {rest : List Stmt} {e : Env} {Q : Flow → Shared → Prop} (hn : n0 ≤ s.toks)
    (h : ∀ (J : Flow → Shared → Prop) (E' : Value → Shared → Prop), StJT M A E n0 rest e Q J → wpAny M A (exec st e) J E' s) : wpAny M A (execs (st :: rest) e) Q E s :=
  wpAny_execs_cons (wpAny_with_toks hn (h _ _ ⟨fun _ x => x, fun _ _ x _ => x⟩))
theorem st_hide {M : Model} {A : Around} {E : Value → Shared → Prop} {s : Shared} {st : Stmt} {rest : List Stmt} {e : Env} {Q : Flow → Shared → Prop}
    (h : ∀ J : Flow → Shared → Prop, StJ M A E rest e Q J → wpAny M A (exec st e) J E s) : wpAny M A (execs (st :: rest) e) Q E s :=
  wpAny_execs_cons (h _ ⟨fun _ x => x, fun _ _ x => x, fun _ x => x, fun _ x => x⟩)
inductive Ex2 {α0 α1 : Type} (P : α0 → α1 → Prop) : Prop | mk (x0 : α0) (x1 : α1) (h : P x0 x1) : Ex2 P
inductive Ex3 {α0 α1 α2 : Type} (P : α0 → α1 → α2 → Prop) : Prop | mk (x0 : α0) (x1 : α1) (x2 : α2) (h : P x0 x1 x2) : Ex3 P
inductive Ex4 {α0 α1 α2 α3 : Type} (P : α0 → α1 → α2 → α3 → Prop) : Prop | mk (x0 : α0) (x1 : α1) (x2 : α2) (x3 : α3) (h : P x0 x1 x2 x3) : Ex4 P
inductive Ex5 {α0 α1 α2 α3 α4 : Type} (P : α0 → α1 → α2 → α3 → α4 → Prop) : Prop | mk (x0 : α0) (x1 : α1) (x2 : α2) (x3 : α3) (x4 : α4) (h : P x0 x1 x2 x3 x4) : Ex5 P
inductive Ex6 {α0 α1 α2 α3 α4 α5 : Type} (P : α0 → α1 → α2 → α3 → α4 → α5 → Prop) : Prop | mk (x0 : α0) (x1 : α1) (x2 : α2) (x3 : α3) (x4 : α4) (x5 : α5) (h : P x0 x1 x2 x3 x4 x5) : Ex6 P
inductive Ex8 {α0 α1 α2 α3 α4 α5 α6 α7 : Type} (P : α0 → α1 → α2 → α3 → α4 → α5 → α6 → α7 → Prop) : Prop | mk (x0 : α0) (x1 : α1) (x2 : α2) (x3 : α3) (x4 : α4) (x5 : α5) (x6 : α6) (x7 : α7) (h : P x0 x1 x2 x3 x4 x5 x6 x7) : Ex8 P
inductive Ex9 {α0 α1 α2 α3 α4 α5 α6 α7 α8 : Type} (P : α0 → α1 → α2 → α3 → α4 → α5 → α6 → α7 → α8 → Prop) : Prop | mk (x0 : α0) (x1 : α1) (x2 : α2) (x3 : α3) (x4 : α4) (x5 : α5) (x6 : α6) (x7 : α7) (x8 : α8) (h : P x0 x1 x2 x3 x4 x5 x6 x7 x8) : Ex9 P
inductive Ex10 {α0 α1 α2 α3 α4 α5 α6 α7 α8 α9 : Type} (P : α0 → α1 → α2 → α3 → α4 → α5 → α6 → α7 → α8 → α9 → Prop) : Prop | mk (x0 : α0) (x1 : α1) (x2 : α2) (x3 : α3) (x4 : α4) (x5 : α5) (x6 : α6) (x7 : α7) (x8 : α8) (x9 : α9) (h : P x0 x1 x2 x3 x4 x5 x6 x7 x8 x9) : Ex10 P
inductive Ex13 {α0 α1 α2 α3 α4 α5 α6 α7 α8 α9 α10 α11 α12 : Type} (P : α0 → α1 → α2 → α3 → α4 → α5 → α6 → α7 → α8 → α9 → α10 → α11 → α12 → Prop) : Prop | mk (x0 : α0) (x1 : α1) (x2 : α2) (x3 : α3) (x4 : α4) (x5 : α5) (x6 : α6) (x7 : α7) (x8 : α8) (x9 : α9) (x10 : α10) (x11 : α11) (x12 : α12) (h : P x0 x1 x2 x3 x4 x5 x6 x7 x8 x9 x10 x11 x12) : Ex13 P
inductive Cj3 (p0 p1 p2 : Prop) : Prop | mk (h0 : p0) (h1 : p1) (h2 : p2) : Cj3 p0 p1 p2
inductive Cj4 (p0 p1 p2 p3 : Prop) : Prop | mk (h0 : p0) (h1 : p1) (h2 : p2) (h3 : p3) : Cj4 p0 p1 p2 p3
inductive Cj5 (p0 p1 p2 p3 p4 : Prop) : Prop | mk (h0 : p0) (h1 : p1) (h2 : p2) (h3 : p3) (h4 : p4) : Cj5 p0 p1 p2 p3 p4
inductive Cj7 (p0 p1 p2 p3 p4 p5 p6 : Prop) : Prop | mk (h0 : p0) (h1 : p1) (h2 : p2) (h3 : p3) (h4 : p4) (h5 : p5) (h6 : p6) : Cj7 p0 p1 p2 p3 p4 p5 p6
inductive Cj8 (p0 p1 p2 p3 p4 p5 p6 p7 : Prop) : Prop | mk (h0 : p0) (h1 : p1) (h2 : p2) (h3 : p3) (h4 : p4) (h5 : p5) (h6 : p6) (h7 : p7) : Cj8 p0 p1 p2 p3 p4 p5 p6 p7
inductive Cj9 (p0 p1 p2 p3 p4 p5 p6 p7 p8 : Prop) : Prop | mk (h0 : p0) (h1 : p1) (h2 : p2) (h3 : p3) (h4 : p4) (h5 : p5) (h6 : p6) (h7 : p7) (h8 : p8) : Cj9 p0 p1 p2 p3 p4 p5 p6 p7 p8
inductive Cj10 (p0 p1 p2 p3 p4 p5 p6 p7 p8 p9 : Prop) : Prop | mk (h0 : p0) (h1 : p1) (h2 : p2) (h3 : p3) (h4 : p4) (h5 : p5) (h6 : p6) (h7 : p7) (h8 : p8) (h9 : p9) : Cj10 p0 p1 p2 p3 p4 p5 p6 p7 p8 p9
theorem ln1 {α : Type} {l : List α} (h : l.length = 1) : ∃ a, l = [a] := List.length_eq_one_iff.mp h
theorem ln2 {α : Type} {l : List α} (h : l.length = 2) : ∃ a b, l = [a, b] := by
  cases l with
  | nil => cases h
  | cons a l => obtain ⟨b, rfl⟩ := ln1 (Nat.succ.inj h); exact ⟨a, b, rfl⟩
theorem ln3 {α : Type} {l : List α} (h : l.length = 3) : ∃ a b c, l = [a, b, c] := by
  cases l with
  | nil => cases h
  | cons a l => obtain ⟨b, c, rfl⟩ := ln2 (Nat.succ.inj h); exact ⟨a, b, c, rfl⟩
section
variable {prog : Program} {w : World} {A : Around} {E : Value → Shared → Prop} {b s : Shared} {L L' : Led} {e : Env} {Q : Value → Shared → Prop} {x y : Int} {t u : Tok} {i k : Nat} {pos : Pos} {F : Flow → Shared → Prop} {vs : List Value} {a : Addr}

theorem intBits_le {x : Int} {k : Nat} (h : x.natAbs < 2 ^ k) : Builtin.Int.intBits x ≤ k := by
  unfold Builtin.Int.intBits
  split
  · exact o22
  · rename_i hx
    have : x.natAbs ≠ 0 := by simpa using hx
    have := (Nat.log2_lt this).mpr h
    exact o23 this
theorem bits_small {x : Int} (h : x.natAbs < 2 ^ 62) : Builtin.Int.intBits x ≤ 33554432 := Nat.le_trans (intBits_le h) (by decide)
theorem bits_1000 {x : Int} (h : x.natAbs < 2 ^ 1000) : Builtin.Int.intBits x ≤ 33554432 := Nat.le_trans (intBits_le h) (by decide)
theorem o_shr (h : H b L s) (kk : ∀ t s', H b L s' → Q (.int (x.fdiv (2 ^ y.toNat)) t) s') (hy : 0 ≤ y) : wpAny (model prog w) A (binaryOp .RShift (.int x t) (.int y u)) Q E s := rshift_int hy (kk _ _ (h.toks _))
theorem o_shl (h : H b L s) (kk : ∀ t s', H b L s' → Q (.int (x * 2 ^ y.toNat) t) s') (hy : 0 ≤ y) (hx : Builtin.Int.intBits x ≤ 33554432) (hz : y ≤ 33554432) : wpAny (model prog w) A (binaryOp .LShift (.int x t) (.int y u)) Q E s :=
  lshift_int hy (by exact o24 hx hz) (kk _ _ (h.toks _))
theorem o_mul (h : H b L s) (kk : ∀ t s', H b L s' → Q (.int (x * y) t) s') (hx : Builtin.Int.intBits x ≤ 33554432) (hy : Builtin.Int.intBits y ≤ 33554432) : wpAny (model prog w) A (binaryOp .Mult (.int x t) (.int y u)) Q E s :=
  mul_int (kk _ _ (h.toks _)) (by
    unfold IntMulOk
    have : Builtin.Int.intTooBig ((Builtin.Int.intBits x : Int) + (Builtin.Int.intBits y : Int)) = false := by
      unfold Builtin.Int.intTooBig bitsLine
      exact decide_eq_false (by exact o25 hx hy)
    rw [this, Bool.and_false]; exact Bool.false_ne_true)
theorem o_xor (h : H b L s) (kk : ∀ t s', H b L s' → Q (.int (Builtin.bitXor x y) t) s') : wpAny (model prog w) A (binaryOp .BitXor (.int x t) (.int y u)) Q E s := xor_int (kk _ _ (h.toks _))
theorem o_pow (h : H b L s) (kk : ∀ t s', H b L s' → Q (.int (x ^ y.toNat) t) s') (hy : 0 ≤ y) (hz : y ≤ 2 ^ 20) (hx : x.natAbs < 2 ^ 7) : wpAny (model prog w) A (binaryOp .Pow (.int x t) (.int y u)) Q E s :=
  pow_int hy (by
    have := intBits_le hx
    have h1 : (Builtin.Int.intBits x : Int) ≤ 7 := by exact o26 this
    have := Int.mul_le_mul h1 hz hy (by decide)
    exact o27 this) (kk _ _ (h.toks _))
theorem o_neg (h : H b L s) (kk : ∀ t s', H b L s' → Q (.int (-x) t) s') : wpAny (model prog w) A (unaryOp .USub (.int x t)) Q E s := PyProof.Rows.neg_int (kk _ _ (h.toks _))
theorem o_inv (h : H b L s) (kk : ∀ t s', H b L s' → Q (.int (-x - 1) t) s') : wpAny (model prog w) A (unaryOp .Invert (.int x t)) Q E s := invert_int (kk _ _ (h.toks _))
theorem t_list {Q : Bool → Shared → Prop} (h : H b L s) (hm : Has a (.ls vs) L) (hf : vs.length < 2 ^ 60) (kk : ∀ s', H b L s' → Q (!vs.isEmpty) s') : wpAny (model prog w) A (truthy (.ref a)) Q E s := by
  obtain ⟨n, hg⟩ := h.getL hm
  refine wpAny_truthy_list (isList hg) (by rw [List.size_toArray]; exact o14 hf) ?_
  rw [List.isEmpty_toArray]
  exact kk _ (h.toks _)
theorem noPy {x y : Int} (h : y.natAbs < 2 ^ 1000) : Builtin.divisionGoesByPylong x y = false := by
  unfold Builtin.divisionGoesByPylong
  have : ¬ ((if (y == 0) = true then 0 else y.natAbs.log2 / 30 + 1) > 300) := by
    split
    · decide
    · rename_i hy
      have h0 : y.natAbs ≠ 0 := by simpa using hy
      have := (Nat.log2_lt h0).mpr h
      exact o28 this
  simp only [decide_eq_false this, Bool.false_and]

noncomputable def tup (vs : List Value) : Obj := { cls := .type "tuple", data := .seq vs.toArray }
theorem b_divmod (h : H b L s) (hy : y ≠ 0) (hz : y.natAbs < 2 ^ 1000) (kk : ∀ a t u s', H b ((a, .ob (tup [.int (x.fdiv y) t, .int (x.fmod y) u])) :: L) s' → Q (.ref a) s') : wpAny (model prog w) A (call (.builtin "divmod") [.int x t, .int y u]) Q E s :=
  divmod_int hy (kk _ _ _ _ ((h.alloc _).toks _)) (.inl (noPy hz))

theorem fnAt {f : Addr} {fd : FuncData} (h : H b L s) (hm : Has f (.fn fd) L) : FnAt f s.heap := by
  obtain ⟨_, ⟨⟨oc, od, dt, sl⟩, h1, h2⟩, _⟩ := h.has hm
  dsimp only at h2
  subst h2
  exact ⟨oc, od, fd, sl, h1⟩
theorem cw_made {f : Addr} {fd : FuncData} {e1 : Expr} {rest : List Expr} (h : H b L s) (hm : Has f (.fn fd) L)
    (hh : wpAny (model prog w) A (spliced (backTo pos (starEach (e1 :: rest) e))) (fun vs s₁ => (∃ L, H b L s₁ ∧ Has f (.fn fd) L) ∧ wpAny (model prog w) A (call (.ref f) vs) Q E s₁) E s)
    (he : starEach (e1 :: rest) e = (false, eval e1 e) :: starEach rest e) (hp : (backTo pos (starEach rest e)).any (·.1) = false) :
    wpAny (model prog w) A (callWith pos (.ref f) [] (backTo pos (starEach (e1 :: rest) e)) []) Q E s :=
  callWith_F (first := []) (fnAt h hm) (wpAny_mono hh (fun _ _ z => ⟨let ⟨_, h', m'⟩ := z.1; fnAt h' m', z.2⟩) fun _ _ q => q) he hp
theorem b_bits {Q : Value → Shared → Prop} (h : H b L s) (kk : ∀ t s', H b L s' → Q (.int (Builtin.Int.intBits x) t) s') : wpAny (model prog w) A (call (.builtin "int.bit_length") [.int x t]) Q E s := call_int_bit_length (kk _ _ (h.toks _))
end
noncomputable def stPos : Stmt → Pos
  | .FunctionDef _ _ _ _ _ _ _ _ _ p => p
  | _ => default
structure Def (b : Shared) (nm : Str) (i : Nat) (f : Addr) (fd : FuncData) : Prop where
  glb : Glb b nm (.ref f)
  fn : FnIs b f (nth pb i) fd
  d1 : fd.defaults = .none
  d2 : fd.kwdefaults = .none
structure TbN (b : Shared) (fd : FuncData) (P : Addr) (q nm : Str) : Prop where
  ex : ∃ c, fd.code = .ref c ∧ CodeHd b.heap c P
  qual : q = fd.qualname ++ ".<locals>." ++ nm
end
end Mine
section
set_option hygiene false in
local macro_rules | `(tactic| walk_at "om") => `(tactic| first
  | with_reducible first
    | assumption
    | exact zk _
    | exact zn _
    | exact Int.natCast_nonneg _
    | exact lteq (by assumption) (by assumption)
    | exact lteq' (by assumption) (by assumption)
    | exact llit (by assumption) (by decide)
    | exact llit2 (by assumption) (by assumption) (by decide)
    | exact llit3 (by assumption) (by assumption) (by decide)
  | decide
  | omega)
set_option hygiene false in
local macro_rules | `(tactic| walk_at "fput") => `(tactic| first | with_reducible exact FPut.head | with_reducible exact FPut.nil | ((with_reducible apply FPut.tail); walk_at "fput"))
set_option hygiene false in
local macro_rules | `(tactic| walk_at "flk") => `(tactic| first | with_reducible exact FLook.head | ((with_reducible apply FLook.tail); walk_at "flk"))
set_option hygiene false in
local macro_rules | `(tactic| walk_at "lm") => `(tactic| first | with_reducible exact List.Mem.head _ | ((with_reducible apply List.Mem.tail); walk_at "lm"))
set_option hygiene false in
local macro_rules | `(tactic| walk_at "pick") => `(tactic| first | with_reducible exact Pick.head | ((with_reducible apply Pick.tail); walk_at "pick"))
set_option hygiene false in
local macro_rules | `(tactic| walk_at "sub") => `(tactic| first | with_reducible exact List.Sublist.refl _ | ((with_reducible refine List.Sublist.cons_cons _ ?_); walk_at "sub") | ((with_reducible apply List.Sublist.cons); walk_at "sub"))
set_option hygiene false in
local macro_rules | `(tactic| walk_at "draw") => `(tactic| first | ((with_reducible refine Draw.pick (by walk_at "pick") ?_); walk_at "draw") | (with_reducible exact Draw.sub (by walk_at "sub")))
set_option hygiene false in
local macro_rules | `(tactic| walk_at "clook") => `(tactic| first | with_reducible exact CLook.head | ((with_reducible apply CLook.tail); walk_at "clook"))
set_option hygiene false in
local macro_rules | `(tactic| walk_at "look") => `(tactic| first | with_reducible exact Look.head | ((with_reducible apply Look.tail); walk_at "look"))
set_option hygiene false in
local macro_rules | `(tactic| walk_at "put") => `(tactic| first | with_reducible exact Put.head | ((with_reducible apply Put.tail); walk_at "put"))
set_option hygiene false in
local macro_rules | `(tactic| walk_at "upd") => `(tactic| first | with_reducible exact Upd.head | with_reducible assumption | ((with_reducible apply Upd.tail); walk_at "upd"))
set_option hygiene false in
local macro_rules | `(tactic| walk_at "mem") => `(tactic| first | with_reducible exact Has.head | with_reducible assumption | ((with_reducible apply Has.tail); walk_at "mem"))
set_option hygiene false in
local macro_rules | `(tactic| walk_at "kr") => `(tactic| kernel_rfl)
set_option hygiene false in
local macro_rules | `(tactic| walk_at "nm") => `(tactic| first
  | (with_reducible refine n_local h he (by walk_at "mem") (by walk_at "look") ?_ (by walk_at "kr"))
  | (with_reducible refine n_blt h he (by assumption) ?_ (by walk_at "kr"))
  | (with_reducible refine n_glob h he (by assumption) ?_ (by walk_at "kr"))
  | (with_reducible refine n_cell h he (by walk_at "clook") (by walk_at "kr") (by walk_at "mem") ?_ (by kernel_rfl!))
  | (with_reducible refine n_free h he (by walk_at "clook") (by walk_at "kr") (by walk_at "mem") ?_ (by kernel_rfl!) (by walk_at "kr")))
set_option hygiene false in
local macro_rules | `(tactic| walk_at "k1") => `(tactic| (clear h; intro _ s h))
set_option hygiene false in
local macro_rules | `(tactic| walk_at "k0") => `(tactic| (clear h; intro s h))
set_option hygiene false in
local macro_rules | `(tactic| walk_at "ev") => `(tactic| with_reducible first
  | ((fail_if_success show wpAny _ _ _ _ _ _); first
    | refine LoopJ.nx (by assumption) _ ?_
    | refine LoopJ.ct (by assumption) _ ?_
    | refine LoopJ.rt (by assumption) _ _ ?_
    | refine StJ.nx (by assumption) _ ?_
    | refine StJ.rt (by assumption) _ _ ?_
    | refine StJ.ct (by assumption) _ ?_
    | refine StJT.nx (by assumption) _ ?_
    | refine StJT.rt (by assumption) _ _ ?_
    | refine LcJ.go (by assumption) _ _ ?_
    | refine LcR.sm (by assumption) _ _ ?_
    | refine LcR.nn (by assumption) _ ?_
    | refine LcJT.go (by assumption) _ _ ?_)
  | ((show wpAny _ _ (eval (Expr.Name _ _) _) _ _ _); walk_at "nm")
  | ((show wpAny _ _ (eval _ _) _ _ _); first
    | (refine c_int h ?_; walk_at "k1")
    | refine wpAny_BinOp ?_
    | refine wpAny_Compare1 ?_ (by k_dflt rfl)
    | refine wpAny_Constant_none ?_
    | refine wpAny_Constant_bool ?_
    | (refine c_str h ?_; walk_at "k1")
    | refine MethodCall_ ?_ (by k_dflt rfl)
    | refine Call_ ?_ (by k_dflt rfl)
    | refine Subscript_ ?_
    | refine wpAny_And2 ?_
    | refine wpAny_Or2 ?_
    | refine wpAny_UnaryOp ?_
    | refine List_ ?_
    | refine Attribute_name ?_
    | refine Tuple_ ?_
    | refine wpAny_IfExp ?_)
  | ((show wpAny _ _ (exec _ _) _ _ _); first
    | refine wpAny_Assign_Name ?_ (by k_dflt rfl)
    | refine wpAny_If ?_
    | refine wpAny_AugAssign_Name ?_
    | refine wpAny_Continue ?_
    | refine plainObj_wpAny_Assign_Attribute ?_ (by k_dflt rfl)
    | refine wpAny_AugAssign_AttributeAny ?_
    | refine asg_tup he ?_ (by k_dflt rfl) (by k_dflt rfl)
    | refine asg_swap2 he ?_ (by k_dflt rfl) (by k_dflt rfl)
    | refine wpAny_Assign_Subscript ?_ (by k_dflt rfl)
    | refine e_for ?_ (by intro _; k_dflt rfl)
    | refine e_expr he ?_ (by k_dflt rfl)
    | refine wpAny_Return_some ?_)
  | ((show wpAny _ _ (execs _ _) _ _ _); first
    | (refine st_hide ?_; intro _ _)
    | refine wpAny_execs_nil ?_)
  | ((show wpAny _ _ (compareOp _ _ _) _ _ _); first
    | refine o_lt ?_
    | refine o_eq ?_
    | refine o_ne ?_
    | refine o_le ?_
    | refine o_gt ?_
    | refine o_ge ?_
    | refine s_in ?_
    | refine s_notin ?_
    | refine s_eq ?_
    | refine s_ne ?_
    | refine is_none ?_)
  | ((show wpAny _ _ (binaryOp _ _ _) _ _ _); first
    | (refine o_add h ?_; walk_at "k1")
    | (refine s_add h (by first | assumption | omega) ?_; walk_at "k1")
    | (refine o_sub h ?_; walk_at "k1")
    | (refine o_div h ?_ (by decide) (by first | assumption | k_dflt rfl); walk_at "k1")
    | (refine o_mod h ?_ (by decide); walk_at "k1")
    | (refine o_shr h ?_ (by omega); walk_at "k1")
    | (refine o_xor h ?_; walk_at "k1"))
  | ((show wpAny _ _ (unaryOp _ _) _ _ _); first
    | (refine o_neg h ?_; walk_at "k1")
    | (refine o_inv h ?_; walk_at "k1"))
  | ((show wpAny _ _ (truthy (Value.ref _)) _ _ _); refine t_list h (by walk_at "mem") (by assumption) ?_; walk_at "k0")
  | refine t_int ?_
  | refine wpAny_truthy_bool ?_
  | ((show wpAny _ _ (isTrue _ _ _) _ _ _); first | refine wpAny_isTrue_BoolOp ?_) | (refine wpAny_isTrue_Compare1 ?_ (by k_dflt rfl)) | (refine wpAny_isTrue_Not ?_) | (refine wpAny_isTrue_value ?_ (by k_dflt rfl))
  | ((show wpAny _ _ (getAttr (Value.ref _) _ _) _ _ _); first
    | (refine i_get h (by assumption) (by walk_at "mem") (by walk_at "mem") (by walk_at "flk") (by decide +kernel) (by k_dflt rfl) ?_ (by kernel_rfl!); walk_at "k0")
    | (refine i_bound h (by assumption) (by walk_at "mem") (by walk_at "mem") (by walk_at "clook") ?_ (by kernel_rfl!) (by decide +kernel); walk_at "k1"))
  | ((show wpAny _ _ (setAttr _ _ _) _ _ _); refine i_set h (by assumption) (by walk_at "mem") (by walk_at "mem") (by walk_at "fput") (by walk_at "upd") (by decide +kernel) (by kernel_rfl!) (by simp) ?_; walk_at "k0")
  | ((show wpAny _ _ (loadName _ _) _ _ _); refine l_local h he (by walk_at "mem") (by walk_at "look") ?_ (by walk_at "kr"))
  | ((show wpAny _ _ (inplaceOp _ _ _) _ _ _); first
    | (refine o_iadd h ?_; walk_at "k1")
    | (refine o_isub h ?_; walk_at "k1")
    | (refine s_iadd h (by first | assumption | omega) ?_; walk_at "k1"))
  | ((show wpAny _ _ (newList _) _ _ _); refine mk_list h (by simp) ?_; walk_at "k1")
  | ((show wpAny _ _ (newTuple _) _ _ _); refine mk_tup h (by simp) ?_; walk_at "k1")
  | ((show wpAny _ _ (unpackItems _ _ _) _ _ _); refine un_swap2 (Room.handled (by assumption)) h (by walk_at "mem") ?_; walk_at "k0")
  | refine as_name ?_
  | ((show wpAny _ _ (assign (Expr.Tuple _ _ _) _ _) _ _ _); first | (refine as_tup2 (Room.handled (by assumption)) h (by walk_at "mem") ?_ (by k_dflt rfl); walk_at "k0") | (refine as_tup3 (Room.handled (by assumption)) h (by walk_at "mem") ?_ (by k_dflt rfl); walk_at "k0"))
  | ((show wpAny _ _ (assignInOrder _ _) _ _ _); first | refine assignInOrder_cons ?_) | (refine assignInOrder_nil ?_)
  | ((show wpAny _ _ (allTrue _ _ _) _ _ _); first | refine wpAny_allTrue_And_cons ?_) | (refine wpAny_allTrue_And_nil ?_) | (refine wpAny_allTrue_Or_cons ?_) | (refine wpAny_allTrue_Or_nil ?_)
  | ((show wpAny _ _ (storeName _ _ _) _ _ _); first
    | (refine s_local h he (by walk_at "upd") (by walk_at "put") ?_ (by walk_at "kr"); walk_at "k0")
    | (refine s_cell h he (by walk_at "clook") (by walk_at "kr") (by walk_at "upd") ?_ (by walk_at "kr"); walk_at "k0"))
  | ((show wpAny _ _ (callWith _ _ _ _ _) _ _ _); first
    | refine callWith_builtin1 ?_ (by k_dflt rfl) (by k_dflt rfl)
    | refine callWith_type1 ?_ (by k_dflt rfl) (by k_dflt rfl))
  | ((show wpAny _ _ (spliced _) _ _ _); first | refine args_cons ?_ (by k_dflt rfl)) | (refine args_nil ?_)
  | ((show wpAny _ _ (truthy _) _ _ _); refine s_truthy h (by first | assumption | omega) ?_; walk_at "k0")
  | ((show wpAny _ _ (call _ _) _ _ _); first
    | (refine s_len h (by first | assumption | omega) ?_; walk_at "k1")
    | (refine len_l h (by walk_at "mem") ?_ (by first | assumption | (simp <;> omega)); walk_at "k1")))
set_option hygiene false in
local macro_rules | `(tactic| walk_at "cl") => `(tactic| (with_reducible refine And.intro ⟨_, h⟩ ?_; refine wpAny_call ?_))
set_option hygiene false in
local macro_rules | `(tactic| walk_at "cw") => `(tactic| ((with_reducible refine cw_def (by with_reducible assumption) ?_ (by k_dflt rfl)); walk_at "go"; walk_at "cl"))
set_option hygiene false in
local macro_rules | `(tactic| walk_at "cwm") => `(tactic| ((with_reducible refine cw_made h (by walk_at "mem") ?_ (by k_dflt rfl) (by k_dflt rfl)); walk_at "go"; (with_reducible refine And.intro ⟨_, h, by walk_at "mem"⟩ ?_); (with_reducible refine wpAny_call ?_)))
set_option hygiene false in
local macro_rules | `(tactic| walk_at "m1") => `(tactic| refine callWith_method1 ?_ (by k_dflt rfl) (by k_dflt rfl))
set_option hygiene false in
local macro_rules | `(tactic| walk_at "m0") => `(tactic| refine callWith_method0 ?_)
set_option hygiene false in
local macro_rules | `(tactic| walk_at "gm") => `(tactic| with_reducible first
  | (refine i_meth h (by assumption) (by walk_at "mem") (by walk_at "mem") (by walk_at "clook") ?_ (by kernel_rfl!))
  | (refine i_own h (by assumption) (by walk_at "mem") (by walk_at "mem") (by walk_at "flk") (by decide +kernel) (by k_dflt rfl) ?_ (by kernel_rfl!); walk_at "k0")
  | (refine PySem.GM.split ?_; walk_at "m1")
  | (refine PySem.GM.find ?_; walk_at "m1")
  | (refine PySem.GM.count ?_; walk_at "m1")
  | (refine PySem.GM.join ?_; walk_at "m1")
  | (refine PySem.GM.replace ?_; walk_at "m1")
  | (refine m_bits ?_; walk_at "m0")
  | (refine m_list h PySem.F.slot_list_insert PySem.F.type_list_insert (by walk_at "mem") ?_; walk_at "m1")
  | (refine m_list h PySem.F.slot_list_append PySem.F.type_list_append (by walk_at "mem") ?_; walk_at "m1")
  | (refine m_list h PySem.F.slot_list_remove PySem.F.type_list_remove (by walk_at "mem") ?_; walk_at "m1")
  | (refine m_list h PySem.F.slot_list_reverse PySem.F.type_list_reverse (by walk_at "mem") ?_; walk_at "m0")
  | (refine m_list h PySem.F.slot_list_pop PySem.F.type_list_pop (by walk_at "mem") ?_; first | walk_at "m0" | walk_at "m1"))
set_option hygiene false in
local macro_rules | `(tactic| walk_at "go") => `(tactic| repeat walk_at "ev")
set_option hygiene false in
local macro_rules | `(tactic| walk_at "cwa") => `(tactic| ((with_reducible refine cw_def (by with_reducible assumption) ?_ (by k_dflt rfl)); walk_at "go"))
set_option hygiene false in
local macro_rules | `(tactic| walk_at "cwz") => `(tactic| (walk_at "go"; walk_at "cl"))
set_option hygiene false in
local macro_rules | `(tactic| walk_at "cwb0") => `(tactic| ((with_reducible refine cw_bound0 (by with_reducible assumption) h ?_); (with_reducible refine wpAny_call ?_)))
set_option hygiene false in
local macro_rules | `(tactic| walk_at "cwb") => `(tactic| ((with_reducible refine cw_bound (by with_reducible assumption) h ?_ (by k_dflt rfl) (by k_dflt rfl)); walk_at "go"))
set_option hygiene false in
local macro_rules | `(tactic| walk_at "cwc") => `(tactic| ((with_reducible refine cw_cls (by assumption) ?_ (by k_dflt rfl) (by k_dflt rfl)); walk_at "go"; walk_at "cl"))

namespace Mine
section
open PySem PySem.W PyProof.Rows PySem.Calls
section
variable {b s : Shared} {L L' : Led} {a : Addr} {r r' : Res}
theorem H.chg {hh : Heap} {t : Nat} (h : H b L s) (cs : List Addr) (hcs : ∀ c ∈ cs, ∃ r, (c, r) ∈ L) (k : ∀ c o, c ∉ cs → s.heap.get? c = some o → hh.get? c = some o) (nd : L'.Pairwise fun p q => p.1 ≠ q.1)
    (hn : ∀ p ∈ L', (p ∈ L ∧ p.1 ∉ cs) ∨ ((∀ fz, p.2.At fz hh p.1) ∧ (p.1 ∈ cs ∨ s.heap.objs.size ≤ p.1))) : H b L' { s with heap := hh, toks := t } := by
  obtain ⟨fz, h⟩ := h
  refine ⟨fz, h.base, fun c o e => k c o (fun q => ?_) (h.keep c o e), fun p hp => ?_, fun p hp o e => ?_, nd, h.gens, h.os⟩
  · obtain ⟨r, hr⟩ := hcs c q; exact h.new _ hr o e
  · rcases hn p hp with ⟨m, ne⟩ | ⟨x, _⟩
    · exact (h.at_ p m).keeps (fun o e => k _ _ ne e) (fun _ _ e => e)
    · exact x fz
  · rcases hn p hp with ⟨m, ne⟩ | ⟨_, x | x⟩
    · exact h.new p m o e
    · obtain ⟨r, hr⟩ := hcs _ x; exact h.new _ hr o e
    · exact absurd (Heap.lt_size (h.keep _ _ e)) (Nat.not_lt.mpr x)
theorem H.drop {hh : Heap} {t : Nat} (h : H b ((a, r) :: L) s) (k : Heap.ExtBut a s.heap hh) : H b L { s with heap := hh, toks := t } := by
  refine h.chg [a] (fun c hc => ⟨r, by rw [List.mem_singleton.mp hc]; exact .head _⟩) (fun c o hc e => k c o (fun q => hc (by rw [q]; exact .head _)) e) (List.pairwise_cons.mp h.nd).2 fun p hp => .inl ⟨.tail _ hp, fun q => (List.pairwise_cons.mp h.nd).1 p hp (List.mem_singleton.mp q).symm⟩
theorem H.set0 {hh : Heap} {t : Nat} (h : H b ((a, r) :: L) s) (k : Heap.ExtBut a s.heap hh) (x : ∀ fz, r'.At fz hh a) : H b ((a, r') :: L) { s with heap := hh, toks := t } := by
  have n := (List.pairwise_cons.mp h.nd).1
  refine h.chg [a] (fun c hc => ⟨r, by rw [List.mem_singleton.mp hc]; exact .head _⟩) (fun c o hc e => k c o (fun q => hc (by rw [q]; exact .head _)) e) (List.pairwise_cons.mpr ⟨n, (List.pairwise_cons.mp h.nd).2⟩) fun p hp => ?_
  rcases List.mem_cons.mp hp with rfl | hp
  · exact .inr ⟨x, .inl (.head _)⟩
  · exact .inl ⟨.tail _ hp, fun q => n p hp (List.mem_singleton.mp q).symm⟩
end

theorem own_skip {M : Model} {A : Around} {E : Value → Shared → Prop} {s : Shared} {tgt : Expr} {it : Addr} {v : Value} {o : Obj} {n : String} {Q : Unit → Shared → Prop} (ho : s.heap.get? it = some o) (hc : o.cls = .type n)
    (hn : ["enumerate", "zip", "dict_itemiterator", "dict_reverseitemiterator", "odict_iterator", "itertools.zip_longest", "itertools.pairwise"].contains n = false) (k : Q () s) : wpAny M A (letOwnedTupleGo tgt (.ref it) v) Q E s := by
  have key : ∀ a : Addr, wpAny M A (do
      let o ← load it
      match o.cls, o.data with
      | .type n, .fields vs =>
        if ["enumerate", "zip", "dict_itemiterator", "dict_reverseitemiterator", "odict_iterator", "itertools.zip_longest", "itertools.pairwise"].contains n && vs[0]? == some (rawInt a) then
          rule "for.unpacks-the-owned-tuple"
          updateField it 0 .none
      | _, _ => pure ()) Q E s := fun a => by
    refine wpAny_bind (wpAny_load ho ?_)
    refine byName fun _ kk_ => ?_
    obtain ⟨oc, od, dt, sl⟩ := o
    refine kk_ ?_
    clear kk_
    dsimp only at hc ⊢
    subst hc
    cases dt <;> first | exact wpAny_pure k | (dsimp only; rw [hn]; exact wpAny_pure k)
  have body : wpAny M A (letOwnedTupleGo (.Tuple [] 0 default) (.ref it) v) Q E s := by cases v <;> first | exact wpAny_pure k | exact key _
  clear key hn hc ho
  cases tgt <;> first | exact wpAny_pure k | exact body
structure Src (A : Around) (b : Shared) (target : Expr) (it : Addr) (n : Nat) (V : Nat → Value → Led → Prop) (X : Nat → Led) (need : Led → Prop) : Prop where
  next : ∀ {prog : Program} {w : World} {E : Value → Shared → Prop} {Q : Option Value → Shared → Prop} {s : Shared} {L : Led} (i : Nat), i < n → H b (X i ++ L) s → need L →
    (∀ v G s₁, V i v G → (∀ (E : Value → Shared → Prop) (Q : Unit → Shared → Prop), (∀ s', H b (G ++ (X (i + 1) ++ L)) s' → Q () s') → wpAny (model prog w) A (letOwnedTupleGo target (.ref it) v) Q E s₁) → Q (some v) s₁) → wpAny (model prog w) A (pyNext (.ref it)) Q E s
  self : ∀ {prog : Program} {w : World} {E : Value → Shared → Prop} {Q : Value → Shared → Prop} {s : Shared} {L : Led}, H b (X 0 ++ L) s → Q (.ref it) s → wpAny (model prog w) A (pyIter (.ref it)) Q E s
  stop : ∀ {prog : Program} {w : World} {E : Value → Shared → Prop} {Q : Option Value → Shared → Prop} {s : Shared} {L : Led}, H b (X n ++ L) s → need L → (∀ s', H b L s' → Q none s') → wpAny (model prog w) A (pyNext (.ref it)) Q E s

theorem Src.len {A : Around} {b : Shared} {target : Expr} {it : Addr} {n n' : Nat} {V : Nat → Value → Led → Prop} {X : Nat → Led} {need : Led → Prop} (S : Src A b target it n V X need) (e : n = n') : Src A b target it n' V X need := e ▸ S

section
variable {prog : Program} {w : World} {A A' : Around} {E : Value → Shared → Prop} {b s : Shared} {L L' : Led} {e : Env} {La : Addr} {nm : List (Str × NameKind)} {cl : List (Str × Addr)} {target : Expr} {body : List Stmt}

structure LoopJ (b : Shared) (X : Led) (Z : Led → Prop) (R : Result → Shared → Prop) (J : Flow → Shared → Prop) : Prop where
  nx : ∀ s, (∃ L', H b (X ++ L') s ∧ Z L') → J .next s
  ct : ∀ s, (∃ L', H b (X ++ L') s ∧ Z L') → J .cont s
  bk : ∀ s, R (.ok .next) s → J .brk s
  rt : ∀ v s, R (.ok (.ret v)) s → J (.ret v) s
theorem loopT {it : Addr} {n n0 : Nat} {V : Nat → Value → Led → Prop} {X : Nat → Led} {need : Led → Prop} {R : Result → Shared → Prop} (S : Src A b target it n V X need) (Z : Nat → Led → Prop) (hneed : ∀ i L, Z i L → need L)
    (h : H b (X 0 ++ L) s) (h0 : Z 0 L) (hn0 : n0 ≤ s.toks)
    (step : ∀ i v G L s E J, LoopJ b (X (i + 1)) (Z (i + 1)) R J → n0 ≤ s.toks → i < n → V i v G → Z i L → H b (G ++ (X (i + 1) ++ L)) s → wpAny (model prog w) A (assign target e v) (fun _ s₂ => wpAny (model prog w) A (execs body e) J E s₂) E s)
    (fin : ∀ L s, n0 ≤ s.toks → Z n L → H b L s → R (.ok .next) s) : codeAny (model prog w) A (.forLoop target (.ref it) body [] e) R s := by
  refine codeAny_forLoop_any (fun m s' => ∃ i L, m = n - i ∧ i ≤ n ∧ H b (X i ++ L) s' ∧ Z i L ∧ n0 ≤ s'.toks) (fun m s₁ hI => ?_) n ⟨0, L, rfl, Nat.zero_le _, h, h0, hn0⟩
  refine byName fun _ kk_ => ?_
  obtain ⟨i, L, hm, hi, h, hz, hn⟩ := hI
  refine kk_ ?_
  clear kk_
  by_cases hlt : i < n
  · refine wpAny_with_toks hn (S.next i hlt h (hneed _ _ hz) fun v G s₁ hv hk hn1 => ?_)
    dsimp only
    refine wpAny_with_toks hn1 (hk _ _ fun s₂ h₂ hn2 => ?_)
    refine wpAny_with_toks hn2 (wpAny_mono (step i v G L s₂ _ (fun f s₃ => match f with
      | .next | .cont => ∃ L', H b (X (i + 1) ++ L') s₃ ∧ Z (i + 1) L'
      | .brk => R (.ok .next) s₃
      | .ret v => R (.ok (.ret v)) s₃) ⟨fun _ x => x, fun _ x => x, fun _ x => x, fun _ _ x => x⟩ hn2 hlt hv hz h₂) (fun _ s₃ h₃ hn3 => wpAny_with_toks hn3 (wpAny_mono h₃ (fun f s₄ h₄ hn4 => ?_) fun _ _ x _ => x)) fun _ _ x _ => x)
    cases f with
    | next => obtain ⟨L', h', z'⟩ := h₄; exact ⟨n - (i + 1), sub_dec hm hlt, i + 1, L', rfl, hlt, h', z', hn4⟩
    | cont => obtain ⟨L', h', z'⟩ := h₄; exact ⟨n - (i + 1), sub_dec hm hlt, i + 1, L', rfl, hlt, h', z', hn4⟩
    | brk => exact h₄
    | ret v => exact h₄
  · obtain rfl : i = n := Nat.le_antisymm hi (Nat.le_of_not_lt hlt)
    refine wpAny_with_toks hn (S.stop h (hneed _ _ hz) fun s' h' hn1 => ?_)
    dsimp only
    exact wpAny_execs_nil (fin _ _ hn1 hz h')
theorem loop {it : Addr} {n : Nat} {V : Nat → Value → Led → Prop} {X : Nat → Led} {need : Led → Prop} {R : Result → Shared → Prop} (S : Src A b target it n V X need) (Z : Nat → Led → Prop) (hneed : ∀ i L, Z i L → need L)
    (h : H b (X 0 ++ L) s) (h0 : Z 0 L)
    (step : ∀ i v G L s E J, LoopJ b (X (i + 1)) (Z (i + 1)) R J → i < n → V i v G → Z i L → H b (G ++ (X (i + 1) ++ L)) s → wpAny (model prog w) A (assign target e v) (fun _ s₂ => wpAny (model prog w) A (execs body e) J E s₂) E s)
    (fin : ∀ L s, Z n L → H b L s → R (.ok .next) s) : codeAny (model prog w) A (.forLoop target (.ref it) body [] e) R s := by
  exact loopT (n0 := 0) S Z hneed h h0 (Nat.zero_le _) (fun i v G L s E J hJ _ => step i v G L s E J hJ) (fun L s _ => fin L s)
theorem e_for {target iter : Expr} {body : List Stmt} {pos : Pos} {Q : Flow → Shared → Prop}
    (h : wpAny (model prog w) A (eval iter e) (fun x s₁ => wpAny (model prog w) A (pyIter x) (fun it s₂ =>
      codeAny (model prog w) A (.forLoop target it body [] e) (fun r s' => match r with | .ok f => Q f s' | .error x => cameBackBy (model prog w) A e E x s') s₂) E s₁) E s)
    (hs : ∀ x, foldedSetIterable iter e x = pure x := by intro _; rfl) : wpAny (model prog w) A (exec (.For target iter body [] pos) e) Q E s := wpAny_For h hs

noncomputable abbrev isLi (l : Addr) (i : Nat) (o : Obj) : Prop := o.cls = .type "list_iterator" ∧ o.data = .fields #[.ref l, .int i 0]
theorem H.getP {P : Obj → Prop} {a : Addr} (h : H b L s) (m : Has a (.pr P) L) : ∃ o, s.heap.get? a = some o ∧ P o := (h.has m).elim fun _ x => x

theorem iter_l {l : Addr} {vs : List Value} {Q : Value → Shared → Prop} (h : H b L s) (hm : Has l (.ls vs) L) (k : ∀ it s', H b ((it, .pr (isLi l 0)) :: L) s' → Q (.ref it) s') : wpAny (model prog w) A (pyIter (.ref l)) Q E s := by
  obtain ⟨n, hg⟩ := h.getL hm
  exact wpAny_pyIter_list (isList hg) (k _ _ (h.grow (t := s.toks) (fun _ _ e => Heap.get?_push_of_some _ e) (fun _ => ⟨_, Heap.get?_push_size _ rfl, rfl, rfl⟩) (Nat.le_refl _)))
theorem src_l {it l : Addr} {vs : List Value} (hh : A.handled = none) : Src A b target it vs.length (fun i v G => vs[i]? = some v ∧ G = []) (fun i => [(it, .pr (isLi l i))]) (fun L => Has l (.ls vs) L) where
  self := fun h k => by
    obtain ⟨o, ho, hc, hd⟩ := H.getP h .head
    exact wpAny_pyIter_listiter ⟨o, ho, hc, hd⟩ k
  next := fun {prog w E Q s L} i hi h hl k => by
    refine byName fun _ kk_ => ?_
    obtain ⟨n, hg⟩ := H.getL h (.tail hl)
    obtain ⟨o, ho, hc, hd⟩ := H.getP h .head
    refine kk_ ?_
    clear kk_
    obtain ⟨v, hv⟩ : ∃ v, vs[i]? = some v := ⟨_, List.getElem?_eq_getElem hi⟩
    refine wpAny_pyNext_list_item ⟨o, ho, hc, hd⟩ (isList hg) (by simpa using hv) fun h' hit hs => k v [] _ ⟨hv, rfl⟩ fun E Q hq => ?_
    have hL : H b (((it, .pr (isLi l (i + 1))) :: L)) { s with heap := h' } := H.set0 (t := s.toks) h hs.extBut (fun _ => let ⟨o, a, b, c⟩ := hit; ⟨o, a, b, c⟩)
    obtain ⟨oi, hoi, hci, hdi⟩ := hit
    exact own_skip hoi hci (by decide +kernel) (hq _ hL)
  stop := fun {prog w E Q s L} h hl k => by
    obtain ⟨n, hg⟩ := H.getL h (.tail hl)
    obtain ⟨o, ho, hc, hd⟩ := H.getP h .head
    exact wpAny_pyNext_list_end hh ⟨o, ho, hc, hd⟩ (isList hg) (by simp) fun h' hs => k _ (H.drop (t := s.toks) h hs)
noncomputable abbrev rng (a n : Int) (t u v : Tok) : Obj := { cls := .type "range", dict := none, data := .fields #[.int a t, .int n u, .int 1 v], slots := #[] }
noncomputable abbrev rgi (x left : Int) : Obj := { cls := .type "range_iterator", dict := none, data := .fields #[rawInt x, rawInt left, rawInt 1], slots := #[] }
noncomputable abbrev rgn (a : Int) (n i : Nat) : Obj := rgi (a + (i : Int)) ((n : Int) - (i : Int))
theorem b_range1 {n : Int} {t : Tok} {Q : Value → Shared → Prop} (h : H b L s) (k : ∀ r u v s', H b ((r, .ob (rng 0 n u t v)) :: L) s' → Q (.ref r) s') : wpAny (model prog w) A (call (.type "range") [.int n t]) Q E s :=
  call_range_1 (k _ _ _ _ ((h.alloc _).toks _))
theorem b_range2 {m n : Int} {t u : Tok} {Q : Value → Shared → Prop} (h : H b L s) (k : ∀ r v s', H b ((r, .ob (rng m n t u v)) :: L) s' → Q (.ref r) s') : wpAny (model prog w) A (call (.type "range") [.int m t, .int n u]) Q E s :=
  call_range_2 (k _ _ _ ((h.alloc _).toks _))
theorem iter_r {r : Addr} {a n : Int} {t u v : Tok} {m : Nat} {Q : Value → Shared → Prop} (h : H b L s) (hm : Has r (.ob (rng a n t u v)) L) (ha : 0 ≤ a) (hm' : (m : Int) = n - a) (hn : n < 2 ^ 62) (k : ∀ it s', H b ((it, .ob (rgn a m 0)) :: L) s' → Q (.ref it) s') : wpAny (model prog w) A (pyIter (.ref r)) Q E s := by
  refine wpAny_pyIter_range (h.get hm) (small_one (by exact o29 ha) (by exact o30 hm' hn) (by exact o31 hm' ha) hn) ?_
  have e : Builtin.Range.rangeSize a n 1 = (m : Int) - (0 : Nat) := by rw [rangeSize_one]; split <;> (first | exact o32 hm' | exact o33 hm' (by assumption))
  rw [e]
  have := k s.heap.objs.size _ (h.alloc (rgn a m 0))
  simpa [rgn] using this
theorem src_r {it : Addr} {a : Int} {n : Nat} (hh : A.handled = none) : Src A b target it n (fun i v G => (∃ t, v = .int (a + i) t) ∧ G = []) (fun i => [(it, .ob (rgn a n i))]) (fun _ => True) where
  self := fun h k => wpAny_pyIter_rangeiter (H.get h .head) k
  next := fun {prog w E Q s L} i hi h _ k => by
    have ho : IsRangeIter s.heap it (a + i) (n - i) 1 := H.get h .head
    refine wpAny_pyNext_range_item ho (by exact o34 hi) fun h' hit hs => k _ [] _ ⟨⟨_, rfl⟩, rfl⟩ fun E Q hq => ?_
    refine own_skip hit rfl (by decide +kernel) (hq _ ?_)
    have e1 : a + (i : Int) + 1 = a + ((i + 1 : Nat) : Int) := by exact o35
    have e2 : (n : Int) - i - 1 = n - ((i + 1 : Nat) : Int) := by exact o36
    rw [e1, e2] at hit
    exact H.set0 h hs.extBut (fun _ => hit)
  stop := fun {prog w E Q s L} h _ k => by
    have ho : IsRangeIter s.heap it (a + n) (n - n) 1 := H.get h .head
    exact wpAny_pyNext_range_end hh ho (by exact o37) fun h' hs => k _ (H.drop (t := s.toks) h hs)

noncomputable abbrev isRv (l : Addr) (i : Int) (o : Obj) : Prop := o.cls = .type "list_reverseiterator" ∧ o.data = .fields #[.ref l, rawInt i]
theorem b_rev {l : Addr} {vs : List Value} {Q : Value → Shared → Prop} (h : H b L s) (hm : Has l (.ls vs) L) (k : ∀ it s', H b ((it, .pr (isRv l ((vs.length : Int) - (0 : Nat) - 1))) :: L) s' → Q (.ref it) s') : wpAny (model prog w) A (call (.type "reversed") [.ref l]) Q E s := by
  obtain ⟨n, hg⟩ := h.getL hm
  refine call_reversed_list (isList hg) (k _ _ (h.grow (t := s.toks) (fun _ _ e => Heap.get?_push_of_some _ e) (fun _ => ⟨_, Heap.get?_push_size _ rfl, rfl, ?_⟩) (Nat.le_refl _)))
  simp [revObj]
theorem iter_rv {l it : Addr} {i : Int} {Q : Value → Shared → Prop} (h : H b L s) (hm : Has it (.pr (isRv l i)) L) (k : Q (.ref it) s) : wpAny (model prog w) A (pyIter (.ref it)) Q E s := by
  obtain ⟨o, ho, hc, hd⟩ := H.getP h hm
  exact wpAny_pyIter_revIter ⟨o, ho, hc, hd⟩ k
theorem src_rv {it l : Addr} {vs : List Value} (hh : A.handled = none) : Src A b target it vs.length (fun i v G => vs.reverse[i]? = some v ∧ G = []) (fun i => [(it, .pr (isRv l ((vs.length : Int) - i - 1)))]) (fun L => Has l (.ls vs) L) where
  self := fun h k => iter_rv h .head k
  next := fun {prog w E Q s L} i hi h hl k => by
    refine byName fun _ kk_ => ?_
    obtain ⟨n, hg⟩ := H.getL h (.tail hl)
    obtain ⟨o, ho, hc, hd⟩ := H.getP h .head
    refine kk_ ?_
    clear kk_
    obtain ⟨v, hv⟩ : ∃ v, vs.reverse[i]? = some v := ⟨_, List.getElem?_eq_getElem (by rw [List.length_reverse]; exact hi)⟩
    have hv' : vs[vs.length - 1 - i]? = some v := by rw [List.getElem?_reverse hi] at hv; exact hv
    have e1 : (vs.length : Int) - i - 1 = ((vs.length - 1 - i : Nat) : Int) := by exact o38 hi
    rw [e1] at hd
    refine wpAny_pyNext_rev_item ⟨o, ho, hc, hd⟩ (isList hg) (by simpa using hv') fun h' hit hs => k v [] _ ⟨hv, rfl⟩ fun E Q hq => ?_
    have e2 : ((vs.length - 1 - i : Nat) : Int) - 1 = (vs.length : Int) - ((i + 1 : Nat) : Int) - 1 := by exact o39 e1
    rw [e2] at hit
    have hL : H b (((it, .pr (isRv l ((vs.length : Int) - ((i + 1 : Nat) : Int) - 1))) :: L)) { s with heap := h' } := H.set0 (t := s.toks) h hs.extBut (fun _ => let ⟨o, a, b, c⟩ := hit; ⟨o, a, b, c⟩)
    obtain ⟨oi, hoi, hci, hdi⟩ := hit
    exact own_skip hoi hci (by decide +kernel) (hq _ hL)
  stop := fun {prog w E Q s L} h hl k => by
    refine byName fun _ kk_ => ?_
    obtain ⟨o, ho, hc, hd⟩ := H.getP h .head
    refine kk_ ?_
    clear kk_
    rw [show (vs.length : Int) - (vs.length : Nat) - 1 = -1 by exact o40] at hd
    exact wpAny_pyNext_rev_end hh ⟨o, ho, hc, hd⟩ fun h' hs => k _ (H.drop (t := s.toks) h hs)

noncomputable abbrev isSi (x : Str) (t : Tok) (i : Nat) (o : Obj) : Prop := o.cls = .type "str_ascii_iterator" ∧ o.data = .fields #[.str x t, .int i 0]
theorem iter_s {x : Str} {t : Tok} {Q : Value → Shared → Prop} (h : H b L s) (ha : x.cps.all (· < 128) = true) (k : ∀ it s', H b ((it, .pr (isSi x t 0)) :: L) s' → Q (.ref it) s') : wpAny (model prog w) A (pyIter (.str x t)) Q E s :=
  wpAny_pyIter_ascii ha (k _ _ (h.grow (t := s.toks) (fun _ _ e => Heap.get?_push_of_some _ e) (fun _ => ⟨_, Heap.get?_push_size _ rfl, rfl, rfl⟩) (Nat.le_refl _)))
theorem src_s {it : Addr} {x : Str} {t : Tok} (hh : A.handled = none) : Src A b target it x.cps.size (fun i v G => (∃ c u, x.cps[i]? = some c ∧ v = .str ⟨#[c]⟩ u) ∧ G = []) (fun i => [(it, .pr (isSi x t i))]) (fun _ => True) where
  self := fun h k => by
    obtain ⟨o, ho, hc, hd⟩ := H.getP h .head
    exact wpAny_pyIter_striter_ascii ⟨o, ho, hc, hd⟩ k
  next := fun {prog w E Q s L} i hi h hl k => by
    refine byName fun _ kk_ => ?_
    obtain ⟨o, ho, hc, hd⟩ := H.getP h .head
    refine kk_ ?_
    clear kk_
    obtain ⟨c, hv⟩ : ∃ c, x.cps[i]? = some c := ⟨_, Array.getElem?_eq_getElem hi⟩
    refine wpAny_pyNext_ascii_item ⟨o, ho, hc, hd⟩ hv fun h' hit hs => k _ [] _ ⟨⟨c, _, hv, rfl⟩, rfl⟩ fun E Q hq => ?_
    have hL : H b (((it, .pr (isSi x t (i + 1))) :: L)) { s with heap := h', toks := s.toks + 1 } := H.set0 h hs.extBut (fun _ => let ⟨o, a, b, c⟩ := hit; ⟨o, a, b, c⟩)
    obtain ⟨oi, hoi, hci, hdi⟩ := hit
    exact own_skip hoi hci (by decide +kernel) (hq _ hL)
  stop := fun {prog w E Q s L} h hl k => by
    obtain ⟨o, ho, hc, hd⟩ := H.getP h .head
    exact wpAny_pyNext_ascii_end hh ⟨o, ho, hc, hd⟩ (by simp) fun h' hs => k _ (H.drop (t := s.toks) h hs)

noncomputable abbrev zob (TI TO : Addr) (v : Value) : Obj := { cls := .type "zip", dict := none, data := .fields #[v, .bool false, .bool false, .ref TI, .ref TO], slots := #[] }
noncomputable abbrev isPr (o : Obj) : Prop := ∃ x y, o = tup [x, y]
noncomputable def zX (z TI TO i1 i2 l1 l2 : Addr) (v : Value) (i : Nat) : Led := [(z, .ob (zob TI TO v)), (TI, .ob (tup [.ref i1, .ref i2])), (TO, .pr isPr), (i1, .pr (isLi l1 i)), (i2, .pr (isLi l2 i))]
theorem b_zip {l1 l2 : Addr} {xs ys : List Value} {Q : Value → Shared → Prop} (h : H b L s) (h1 : Has l1 (.ls xs) L) (h2 : Has l2 (.ls ys) L) (k : ∀ z TI TO i1 i2 s', H b (zX z TI TO i1 i2 l1 l2 .none 0 ++ L) s' → Q (.ref z) s') : wpAny (model prog w) A (call (.type "zip") [.ref l1, .ref l2]) Q E s := by
  refine byName fun _ kk_ => ?_
  obtain ⟨n1, g1⟩ := h.getL h1
  obtain ⟨n2, g2⟩ := h.getL h2
  refine kk_ ?_
  clear kk_
  refine call_zip_2 (isList g1) (isList g2) fun h' a1 a2 a3 a4 a5 a6 a7 => k _ (s.heap.objs.size + 2) (s.heap.objs.size + 3) s.heap.objs.size (s.heap.objs.size + 1) _ (h.growL (t := s.toks) a7 ?_ ?_ ?_)
  · intro p hp fz
    simp only [zX, List.mem_cons, List.not_mem_nil, or_false] at hp
    rcases hp with rfl | rfl | rfl | rfl | rfl
    · exact a1
    · exact a2
    · exact ⟨_, a3, _, _, rfl⟩
    · exact a4
    · exact a5
  · intro p hp
    simp only [zX, List.mem_cons, List.not_mem_nil, or_false] at hp
    rcases hp with rfl | rfl | rfl | rfl | rfl <;> dsimp only <;> (first | exact o41 | exact o42 | exact o43 | exact o44 | exact o45)
  · simp [zX]
theorem zipApart {z TI TO i1 i2 l1 l2 : Addr} {v : Value} {i : Nat} {xs ys : List Value} (h : H b (zX z TI TO i1 i2 l1 l2 v i ++ L) s) (h1 : Has l1 (.ls xs) L) (h2 : Has l2 (.ls ys) L) : ZipApart z TI TO i1 i2 l1 l2 := by
  have nd := h.nd
  simp only [zX, List.cons_append, List.nil_append, List.pairwise_cons] at nd
  refine byName fun _ kk_ => ?_
  obtain ⟨c1, c2, c3, c4, c5, _⟩ := nd
  refine kk_ ?_
  clear kk_
  have m1 : ∀ P : Led, (l1, Res.ls xs) ∈ P ++ L := fun P => List.mem_append_right _ h1.mem
  have m2 : ∀ P : Led, (l2, Res.ls ys) ∈ P ++ L := fun P => List.mem_append_right _ h2.mem
  have l1' : (l1, Res.ls xs) ∈ L := h1.mem
  have l2' : (l2, Res.ls ys) ∈ L := h2.mem
  exact ⟨(c1 (TI, .ob (tup [.ref i1, .ref i2])) (by simp) : z ≠ TI).symm, (c1 (TO, .pr isPr) (by simp) : z ≠ TO).symm, (c1 (i1, .pr (isLi l1 i)) (by simp) : z ≠ i1).symm, (c1 (i2, .pr (isLi l2 i)) (by simp) : z ≠ i2).symm,
    c2 (TO, .pr isPr) (by simp), c2 (i1, .pr (isLi l1 i)) (by simp), c2 (i2, .pr (isLi l2 i)) (by simp), c3 (i1, .pr (isLi l1 i)) (by simp), c3 (i2, .pr (isLi l2 i)) (by simp), c4 (i2, .pr (isLi l2 i)) (by simp),
    (c1 (l1, .ls xs) (by simp [l1'])).symm, (c3 (l1, .ls xs) (by simp [l1'])).symm, (c4 (l1, .ls xs) (by simp [l1'])).symm, (c5 (l1, .ls xs) l1').symm,
    (c1 (l2, .ls ys) (by simp [l2'])).symm, (c3 (l2, .ls ys) (by simp [l2'])).symm, (c4 (l2, .ls ys) (by simp [l2'])).symm, (c5 (l2, .ls ys) l2').symm⟩
theorem iter_z {z TI TO : Addr} {v : Value} {Q : Value → Shared → Prop} (h : H b L s) (hm : Has z (.ob (zob TI TO v)) L) (k : Q (.ref z) s) : wpAny (model prog w) A (pyIter (.ref z)) Q E s :=
  wpAny_pyIter_zip (h.get hm) k
theorem src_z {elts : List Expr} {x1} {pos : Pos} {z TI TO i1 i2 l1 l2 : Addr} {xs ys : List Value} {n : Nat} (hh : A.handled = none) (hn : n = min xs.length ys.length) :
    Src A b (.Tuple elts x1 pos) z n (fun i v G => ∃ T x y, v = .ref T ∧ xs[i]? = some x ∧ ys[i]? = some y ∧ G = [(T, .ob (tup [x, y]))]) (fun i => zX z TI TO i1 i2 l1 l2 .none i) (fun L => Has l1 (.ls xs) L ∧ Has l2 (.ls ys) L) where
  self := fun h k => iter_z h .head k
  next := fun {prog w E Q s L} i hi h hl k => by
    have D := zipApart h hl.1 hl.2
    have hL1 : Has l1 (.ls xs) (zX z TI TO i1 i2 l1 l2 .none i ++ L) := .tail (.tail (.tail (.tail (.tail hl.1))))
    have hL2 : Has l2 (.ls ys) (zX z TI TO i1 i2 l1 l2 .none i ++ L) := .tail (.tail (.tail (.tail (.tail hl.2))))
    refine byName fun _ kk_ => ?_
    obtain ⟨n1, g1⟩ := H.getL h hL1
    obtain ⟨n2, g2⟩ := H.getL h hL2
    refine kk_ ?_
    clear kk_
    have gz := H.get h (a := z) .head
    have gTI := H.get h (a := TI) (.tail .head)
    refine byName fun _ kk_ => ?_
    obtain ⟨_, gTO, x0, y0, rfl⟩ := H.getP h (a := TO) (.tail (.tail .head))
    obtain ⟨o1, a1, p1, q1⟩ := H.getP h (a := i1) (.tail (.tail (.tail .head)))
    obtain ⟨o2, a2, p2, q2⟩ := H.getP h (a := i2) (.tail (.tail (.tail (.tail .head))))
    refine kk_ ?_
    clear kk_
    obtain ⟨x, hx⟩ : ∃ v, xs[i]? = some v := ⟨_, List.getElem?_eq_getElem (by exact o46 hi hn)⟩
    obtain ⟨y, hy⟩ : ∃ v, ys[i]? = some v := ⟨_, List.getElem?_eq_getElem (by exact o47 hi hn)⟩
    refine wpAny_pyNext_zip_item D gz gTI gTO ⟨o1, a1, p1, q1⟩ ⟨o2, a2, p2, q2⟩ (isList g1) (isList g2) (by simpa using hx) (by simpa using hy) fun h' b1 b2 b3 b4 b5 b6 b7 => k _ [(s.heap.objs.size, .ob (tup [x, y]))] _ ⟨_, x, y, rfl, hx, hy, rfl⟩ fun E Q hq => ?_
    have hm : H b ((s.heap.objs.size, .ob (tup [x, y])) :: (zX z TI TO i1 i2 l1 l2 (rawInt s.heap.objs.size) (i + 1) ++ L)) { s with heap := h' } := by
      have nd := h.nd
      have nd' : (zX z TI TO i1 i2 l1 l2 (rawInt s.heap.objs.size) (i + 1) ++ L).Pairwise fun p q => p.1 ≠ q.1 := by
        rw [pw_keys] at nd ⊢
        simpa [zX] using nd
      have hlt : ∀ p ∈ zX z TI TO i1 i2 l1 l2 (rawInt s.heap.objs.size) (i + 1) ++ L, p.1 < s.heap.objs.size := by
        intro p hp
        rcases List.mem_append.mp hp with hp | hp
        · have : ∃ r, (p.1, r) ∈ zX z TI TO i1 i2 l1 l2 .none i := by
            simp only [zX, List.mem_cons, List.not_mem_nil, or_false] at hp ⊢
            rcases hp with rfl | rfl | rfl | rfl | rfl
            · exact ⟨_, .inl rfl⟩
            · exact ⟨_, .inr (.inl rfl)⟩
            · exact ⟨_, .inr (.inr (.inl rfl))⟩
            · exact ⟨_, .inr (.inr (.inr (.inl rfl)))⟩
            · exact ⟨_, .inr (.inr (.inr (.inr rfl)))⟩
          obtain ⟨r, hr⟩ := this
          exact h.lt (p := (p.1, r)) (List.mem_append_left _ hr)
        · exact h.lt (List.mem_append_right _ hp)
      refine h.chg (t := s.toks) [z, TO, i1, i2] (fun c hc => ?_) (fun c o hc e => ?_) (List.pairwise_cons.mpr ⟨fun p hp => Nat.ne_of_gt (hlt p hp), nd'⟩) fun p hp => ?_
      · simp only [List.mem_cons, List.not_mem_nil, or_false] at hc
        rcases hc with rfl | rfl | rfl | rfl <;> simp only [zX, List.cons_append, List.mem_cons, Prod.mk.injEq, true_and]
        · exact ⟨_, .inl rfl⟩
        · exact ⟨_, .inr (.inr (.inl rfl))⟩
        · exact ⟨_, .inr (.inr (.inr (.inl rfl)))⟩
        · exact ⟨_, .inr (.inr (.inr (.inr (.inl rfl))))⟩
      · simp only [List.mem_cons, List.not_mem_nil, or_false, not_or] at hc
        exact b7 c o hc.1 hc.2.1 hc.2.2.1 hc.2.2.2 e
      · rcases List.mem_cons.mp hp with rfl | hp
        · exact .inr ⟨fun _ => b5, .inr (Nat.le_refl _)⟩
        · rcases List.mem_append.mp hp with hz | hl'
          · simp only [zX, List.mem_cons, List.not_mem_nil, or_false] at hz
            rcases hz with rfl | rfl | rfl | rfl | rfl
            · exact .inr ⟨fun _ => b1, .inl (by simp)⟩
            · exact .inl ⟨by simp [zX], by simp [D.TIz, D.TITO, D.TIi1, D.TIi2]⟩
            · exact .inr ⟨fun _ => ⟨_, b2, _, _, rfl⟩, .inl (by simp)⟩
            · exact .inr ⟨fun _ => b3, .inl (by simp)⟩
            · exact .inr ⟨fun _ => b4, .inl (by simp)⟩
          · refine .inl ⟨List.mem_append_right _ hl', fun q => ?_⟩
            have n1 := (List.pairwise_append.mp nd).2.2
            simp only [List.mem_cons, List.not_mem_nil, or_false] at q
            rcases q with q | q | q | q
            · exact n1 (z, _) (by simp only [zX]; exact .head _) p hl' q.symm
            · exact n1 (TO, _) (by simp only [zX]; exact .tail _ (.tail _ (.head _))) p hl' q.symm
            · exact n1 (i1, _) (by simp only [zX]; exact .tail _ (.tail _ (.tail _ (.head _)))) p hl' q.symm
            · exact n1 (i2, _) (by simp only [zX]; exact .tail _ (.tail _ (.tail _ (.tail _ (.head _))))) p hl' q.symm
    have fin : ∀ h'', IsZip h'' z TI TO .none → Heap.SameBut z h' h'' → H b ([(s.heap.objs.size, .ob (tup [x, y]))] ++ (zX z TI TO i1 i2 l1 l2 .none (i + 1) ++ L)) { s with heap := h'' } := fun h'' z1 z2 =>
      H.set (s := { s with heap := h' }) (t := s.toks) hm (Upd.tail (Upd.head (r' := .ob (zob TI TO .none)))) z2 (fun _ => z1)
    exact wpAny_letOwnedTupleGo_zip (s := { s with heap := h' }) b1 fun h'' z1 z2 => hq _ (fin h'' z1 z2)
  stop := fun {prog w E Q s L} h hl k => by
    have D := zipApart h hl.1 hl.2
    refine byName fun _ kk_ => ?_
    obtain ⟨n1, g1⟩ := H.getL h (.tail (.tail (.tail (.tail (.tail hl.1)))))
    obtain ⟨n2, g2⟩ := H.getL h (.tail (.tail (.tail (.tail (.tail hl.2)))))
    refine kk_ ?_
    clear kk_
    have gz := H.get h (a := z) .head
    have gTI := H.get h (a := TI) (.tail .head)
    refine byName fun _ kk_ => ?_
    obtain ⟨_, gTO, x0, y0, rfl⟩ := H.getP h (a := TO) (.tail (.tail .head))
    obtain ⟨o1, a1, p1, q1⟩ := H.getP h (a := i1) (.tail (.tail (.tail .head)))
    obtain ⟨o2, a2, p2, q2⟩ := H.getP h (a := i2) (.tail (.tail (.tail (.tail .head))))
    refine kk_ ?_
    clear kk_
    refine wpAny_pyNext_zip_end hh D gz gTI gTO ⟨o1, a1, p1, q1⟩ ⟨o2, a2, p2, q2⟩ (isList g1) (isList g2) ?_ fun h' b7 => k _ ?_
    · by_cases hc : xs.length ≤ n
      · exact .inl (by simp; walk_at "om")
      · exact .inr (by simp; exact o48 hn hc)
    · have nd := h.nd
      refine h.chg (t := s.toks) [z, TO, i1, i2] (fun c hc => ?_) (fun c o hc e => ?_) (List.pairwise_append.mp nd).2.1 fun p hl' => .inl ⟨List.mem_append_right _ hl', fun q => ?_⟩
      · simp only [List.mem_cons, List.not_mem_nil, or_false] at hc
        rcases hc with rfl | rfl | rfl | rfl <;> simp only [zX, List.cons_append, List.mem_cons, Prod.mk.injEq, true_and]
        · exact ⟨_, .inl rfl⟩
        · exact ⟨_, .inr (.inr (.inl rfl))⟩
        · exact ⟨_, .inr (.inr (.inr (.inl rfl)))⟩
        · exact ⟨_, .inr (.inr (.inr (.inr (.inl rfl))))⟩
      · simp only [List.mem_cons, List.not_mem_nil, or_false, not_or] at hc
        exact b7 c o hc.1 hc.2.1 hc.2.2.1 hc.2.2.2 e
      · have n1 := (List.pairwise_append.mp nd).2.2
        simp only [List.mem_cons, List.not_mem_nil, or_false] at q
        rcases q with q | q | q | q
        · exact n1 (z, _) (by simp only [zX]; exact .head _) p hl' q.symm
        · exact n1 (TO, _) (by simp only [zX]; exact .tail _ (.tail _ (.head _))) p hl' q.symm
        · exact n1 (i1, _) (by simp only [zX]; exact .tail _ (.tail _ (.tail _ (.head _)))) p hl' q.symm
        · exact n1 (i2, _) (by simp only [zX]; exact .tail _ (.tail _ (.tail _ (.tail _ (.head _))))) p hl' q.symm

theorem as_tup {elts : List Expr} {x1} {pos : Pos} {T : Addr} {vs : List Value} {Q : Unit → Shared → Prop} (hh : A.handled = none) (h : H b L s) (hm : Has T (.ob (tup vs)) L)
    (hn : (assignEach elts e).length = vs.length) (hstar : (assignEach elts e).findIdx? (·.1) = none)
    (k : ∀ s', H b L s' → wpAny (model prog w) A (assignInOrder ((assignEach elts e).map (·.2)) vs) Q E s') : wpAny (model prog w) A (assign (.Tuple elts x1 pos) e (.ref T)) Q E s := by
  refine assign_Tuple_tuple hh ⟨_, h.get hm, rfl, 0, rfl⟩ (by simpa using hn) hstar fun h' hs => ?_
  refine k _ (h.ext (t := s.toks) fun c o e => hs c o (fun q => ?_) e)
  exact absurd (Heap.lt_size e) (by rw [q]; exact Nat.lt_irrefl _)
theorem as_tup2 {e1 e2 : Expr} {x1} {pos : Pos} {T : Addr} {a c : Value} {Q : Unit → Shared → Prop} (hh : A.handled = none) (h : H b L s) (hm : Has T (.ob (tup [a, c])) L)
    (k : ∀ s', H b L s' → wpAny (model prog w) A (assign e1 e a) (fun _ s₁ => wpAny (model prog w) A (assign e2 e c) Q E s₁) E s')
    (hn : assignEach [e1, e2] e = [(false, assign e1 e), (false, assign e2 e)]) : wpAny (model prog w) A (assign (.Tuple [e1, e2] x1 pos) e (.ref T)) Q E s := by
  refine as_tup hh h hm (by rw [hn]; rfl) (by rw [hn]; rfl) fun s' h' => ?_
  rw [hn]
  exact assignInOrder_cons (wpAny_mono (k s' h') (fun _ s₁ x => assignInOrder_cons (wpAny_mono x (fun _ _ y => assignInOrder_nil y) fun _ _ y => y)) fun _ _ y => y)
theorem as_tup3 {e1 e2 e3 : Expr} {x1} {pos : Pos} {T : Addr} {a c d : Value} {Q : Unit → Shared → Prop} (hh : A.handled = none) (h : H b L s) (hm : Has T (.ob (tup [a, c, d])) L)
    (k : ∀ s', H b L s' → wpAny (model prog w) A (assign e1 e a) (fun _ s₁ => wpAny (model prog w) A (assign e2 e c) (fun _ s₂ => wpAny (model prog w) A (assign e3 e d) Q E s₂) E s₁) E s')
    (hn : assignEach [e1, e2, e3] e = [(false, assign e1 e), (false, assign e2 e), (false, assign e3 e)]) : wpAny (model prog w) A (assign (.Tuple [e1, e2, e3] x1 pos) e (.ref T)) Q E s := by
  refine as_tup hh h hm (by rw [hn]; rfl) (by rw [hn]; rfl) fun s' h' => ?_
  rw [hn]
  exact assignInOrder_cons (wpAny_mono (k s' h') (fun _ s₁ x => assignInOrder_cons (wpAny_mono x (fun _ s₂ y => assignInOrder_cons (wpAny_mono y (fun _ _ z => assignInOrder_nil z) fun _ _ z => z)) fun _ _ y => y)) fun _ _ y => y)
theorem as_name {x : Str} {pos : Pos} {v : Value} {Q : Unit → Shared → Prop} (h : wpAny (model prog w) A (storeName e x v) Q E s) : wpAny (model prog w) A (assign (.Name x pos) e v) Q E s := wpAny_assign_Name h
end
end
end Mine
namespace Mine
section
open PySem PySem.W PyProof.Rows PySem.Calls
theorem cellsFrom_acc : ∀ (names : List (Str × NameKind)) (n : Nat) (acc : List (Str × Addr)), cellsFrom n names acc = cellsFrom n names [] ++ acc
  | [], _, _ => rfl
  | (x, k) :: r, n, acc => by
    unfold cellsFrom
    split
    · rw [cellsFrom_acc r (n + 1) ((x, n) :: acc), cellsFrom_acc r (n + 1) [(x, n)], List.append_assoc]; rfl
    · exact cellsFrom_acc r n acc
noncomputable def rel (nm names : List (Str × NameKind)) : List (Str × NameKind) := names.map fun x => if x.2 == .free && nm.lookup x.1 == some .cell then (x.1, .cell) else x

section
variable {M : Model} {A : Around} {E : Value → Shared → Prop} {b s : Shared} {L L' : Led} {e : Env} {La : Addr} {nm : List (Str × NameKind)} {cl clos : List (Str × Addr)} {names : List Str} {cn : List Str}

theorem env_new {scope : Scope} {Q : Env → Shared → Prop} (he : Ev e La nm cl) (h : H b L s) (hcn : (cellsFrom 0 scope.names []).map (·.1) = cn) (hnd : names.Nodup)
    (k : ∀ C ca s', ca.length = cn.length → H b ((C, .fr names (names.map fun _ => none)) :: (ca.map (fun a => (a, Res.cl none)) ++ L)) s' → Q (newEnv scope C mainGlobals (cn.zip ca ++ clos) e.qual none .none (some e) builtinsNs) s') :
    wpAny M A (newFunctionEnv scope e.globals clos [] e.qual none .none (some e)) Q E s := by
  rw [he.globals]
  simp only [newFunctionEnv, Option.isSome_some, if_true]
  refine wpAny_bind (wpAny_alloc ?_)
  refine wpAny_bind (wpAny_layCells _ (fun name kind cells => by cases kind == NameKind.cell <;> simp) _ _ _ _ ?_)
  have ok := cellsFrom_ok scope.names (s.heap.push { cls := .type "dict", data := .dict #[] }) (s.heap.objs.size + 1) [] ⟨fun _ _ hm => (nomatch hm), List.Pairwise.nil⟩ (by rw [Heap.size_push]; exact Nat.le_refl _)
  rw [Heap.size_push] at ok
  rw [show ({ s with heap := s.heap.push { cls := .type "dict", data := .dict #[] } } : Shared).heap.objs.size = s.heap.objs.size + 1 from Heap.size_push .., cellsFrom_acc]
  have names_eq : (cellsFrom (s.heap.objs.size + 1) scope.names []).map (·.1) = cn := (cellsFrom_names scope.names _ 0 [] [] rfl).trans hcn
  generalize hcs : cellsFrom (s.heap.objs.size + 1) scope.names [] = cs at ok names_eq ⊢
  have zip : cn.zip (cs.map (·.2)) = cs := by
    rw [← names_eq]; clear hcs names_eq ok
    induction cs with
    | nil => rfl
    | cons p l ih => simp [ih]
  rw [List.forIn_nil]
  refine wpAny_bind (wpAny_pure (wpAny_pure ?_))
  have := k s.heap.objs.size (cs.map (·.2)) { s with heap := pushCells (s.heap.push { cls := .type "dict", data := .dict #[] }) scope.names } (by rw [← names_eq, List.length_map, List.length_map]) ?_
  · rw [zip] at this; exact this
  · have keep : ∀ c o, s.heap.get? c = some o → (pushCells (s.heap.push { cls := .type "dict", data := .dict #[] }) scope.names).get? c = some o := fun c o q => pushCells_keeps _ _ c o (Heap.get?_push_of_some _ q)
    refine h.growL (NL := (s.heap.objs.size, .fr names (names.map fun _ => none)) :: (cs.map (·.2)).map (fun a => (a, Res.cl none))) (t := s.toks) keep (fun p hp fz => ?_) (fun p hp => ?_) ?_
    · rcases List.mem_cons.mp hp with rfl | hp
      · refine ⟨hnd, by rw [List.length_map], _, (Heap.Ns.new s.heap (.type "dict")).keeps (pushCells_keeps _ _), fun i n hi => ?_⟩
        rw [List.getElem?_map, hi]; rfl
      · rw [List.map_map] at hp
        obtain ⟨q, hq, rfl⟩ := List.mem_map.mp hp
        exact (ok.empty q.1 q.2 hq).1
    · rcases List.mem_cons.mp hp with rfl | hp
      · exact Nat.le_refl _
      · rw [List.map_map] at hp
        obtain ⟨q, hq, rfl⟩ := List.mem_map.mp hp
        exact Nat.le_of_lt (ok.empty q.1 q.2 hq).2
    · rw [List.map_map]
      refine List.pairwise_cons.mpr ⟨fun p hp => ?_, List.pairwise_map.mpr ok.apart⟩
      obtain ⟨q, hq, rfl⟩ := List.mem_map.mp hp
      exact Nat.ne_of_lt (ok.empty q.1 q.2 hq).2
end

section
variable {prog : Program} {w : World} {A A' : Around} {E : Value → Shared → Prop} {b s : Shared} {L L' : Led} {e : Env} {La : Addr} {nm nm' : List (Str × NameKind)} {cl clos : List (Str × Addr)} {target elt iter : Expr} {ifs : List Expr} {scope : Scope} {pos : Pos} {names cn : List Str}

theorem lc_open {Q : Value → Shared → Prop} (he : Ev e La nm cl) (hcl : closL cl scope.names [] = some clos) (hkind : scope.kind = .function) (hnames : (scope.names.all fun x => x.2 != .local || scope.names.lookup x.1 == some .local) = true)
    (h : wpAny (model prog w) A (eval iter e) (fun x s₁ => wpAny (model prog w) A (pyIter x) (fun it s₂ => wpAny (model prog w) A (newList []) (fun acc s₃ =>
      wpAny (model prog w) A (newFunctionEnv scope e.globals clos [] e.qual none .none (some e)) (fun cenv s₄ =>
        codeAny (model prog w) A (.compStart (.ListComp elt [⟨target, iter, ifs, 0⟩] scope pos) 0 it acc { cenv with scope := relabel scope e }) (compPost (model prog w) A E none Q acc cenv.locals) s₄) E s₃) E s₂) E s₁) E s)
    (hs : ∀ x, foldedSetIterable iter e x = pure x := by intro _; rfl) :
    wpAny (model prog w) A (eval (.ListComp elt [⟨target, iter, ifs, 0⟩] scope pos) e) Q E s := by
  rw [eval_ListComp]
  refine wpAny_comprehension_free (use := none) rfl hs (closureFor_of he.cells hcl) hkind (fun x hx hl => ?_) h
  have := List.all_eq_true.mp hnames x hx
  rw [hl] at this; simpa using this
theorem lc_use {y : Str} {py spos : Pos} {Q : Flow → Shared → Prop} (he : Ev e La nm cl) (hcl : closL cl scope.names [] = some clos) (hkind : scope.kind = .function) (hnames : (scope.names.all fun x => x.2 != .local || scope.names.lookup x.1 == some .local) = true)
    (hsw : swapsWith (.ListComp elt [⟨target, iter, ifs, 0⟩] scope pos) (some (.Name y py)) spos.line e = pure true)
    (h : wpAny (model prog w) A (eval iter e) (fun x s₁ => wpAny (model prog w) A (pyIter x) (fun it s₂ => wpAny (model prog w) A (newList []) (fun acc s₃ =>
      wpAny (model prog w) A (newFunctionEnv scope e.globals clos [] e.qual none .none (some e)) (fun cenv s₄ =>
        codeAny (model prog w) A (.compStart (.ListComp elt [⟨target, iter, ifs, 0⟩] scope pos) 0 it acc { cenv with scope := relabel scope e }) (compPost (model prog w) A E (some (assign (.Name y py) e)) (fun _ s' => Q .next s') acc cenv.locals) s₄) E s₃) E s₂) E s₁) E s)
    (hs : ∀ x, foldedSetIterable iter e x = pure x := by intro _; rfl) :
    wpAny (model prog w) A (exec (.Assign [.Name y py] (.ListComp elt [⟨target, iter, ifs, 0⟩] scope pos) spos) e) Q E s := by
  rw [exec_Assign_Name_used _ _ _ _ hsw]
  refine wpAny_bind (wpAny_standAt (wpAny_bind ?_))
  show wpAny _ A (do let _ ← comprehension (.ListComp elt [⟨target, iter, ifs, 0⟩] scope pos) scope e _ (newList []) false (eval iter e) (some (assign (.Name y py) e))) _ _ s
  refine wpAny_bind (wpAny_mono (wpAny_comprehension_free (use := some (assign (.Name y py) e)) (Q := fun _ s' => Q .next s') rfl hs (closureFor_of he.cells hcl) hkind (fun x hx hl => ?_) h) (fun _ s' hq => wpAny_pure (wpAny_pure hq)) fun _ _ e => e)
  have := List.all_eq_true.mp hnames x hx
  rw [hl] at this; simpa using this

theorem ns_of {C : Addr} {vals : List (Option Value)} (h : H b L s) (m : Has C (.fr names vals) L) : ∃ m, s.heap.Ns C m := let ⟨_, _, _, m, x, _⟩ := h.has m; ⟨m, x⟩

noncomputable abbrev tests (ifs : List Expr) (env : Env) : Sem Bool := forIn ifs true fun c r => if r = true then do let ok ← isTrue c env (eval c env); pure (ForInStep.yield ok) else pure (ForInStep.yield r)

noncomputable def After (prog : Program) (w : World) (A : Around) (E : Value → Shared → Prop) (b : Shared) (names : List Str) (use : Option (Value → Sem Unit)) (Q : Value → Shared → Prop) (C acc : Addr) (out : List Value) (L : Led) (s : Shared) : Prop := match use with
      | none => ∀ s', H b ((acc, .ls out) :: L) s' → Q (.ref acc) s'
      | some u => wpAny (model prog w) A (u (.ref acc)) (fun _ s'' => ∃ vals' L', H b ((C, .fr names vals') :: L') s'' ∧ ∀ s', H b L' s' → Q .none s') E s
structure LcR (b : Shared) (C acc : Addr) (names : List Str) (out : List Value) (X : Led) (Z : List Value → Led → Prop) (J : Option Value → Shared → Prop) : Prop where
  sm : ∀ y s, (∃ vals' L', vals'.length = names.length ∧ H b ((C, .fr names vals') :: (acc, .ls out) :: (X ++ L')) s ∧ Z (out ++ [y]) L') → J (some y) s
  nn : ∀ s, (∃ vals' L', vals'.length = names.length ∧ H b ((C, .fr names vals') :: (acc, .ls out) :: (X ++ L')) s ∧ Z out L') → J none s
structure LcJ (b : Shared) (C acc : Addr) (names : List Str) (out : List Value) (M : Led) (W : Option Value → Prop) (J : Option Value → Shared → Prop) : Prop where
  go : ∀ o s, (W o ∧ ∃ vals' L', vals'.length = names.length ∧ H b ((C, .fr names vals') :: (acc, .ls out) :: (L' ++ M)) s) → J o s
structure LcJT (b : Shared) (C acc : Addr) (names : List Str) (out : List Value) (M : Led) (W : Option Value → Nat → Prop) (J : Option Value → Shared → Prop) : Prop where
  go : ∀ o s, (W o s.toks ∧ ∃ vals' L', vals'.length = names.length ∧ H b ((C, .fr names vals') :: (acc, .ls out) :: (L' ++ M)) s) → J o s
noncomputable def AfterT (prog : Program) (w : World) (A : Around) (E : Value → Shared → Prop) (b : Shared) (names : List Str) (use : Option (Value → Sem Unit)) (Q : Value → Shared → Prop) (C acc : Addr) (out : List Value) (L : Led) (s : Shared) : Prop := match use with
      | none => ∀ s', s'.toks = s.toks → H b ((acc, .ls out) :: L) s' → Q (.ref acc) s'
      | some u => wpAny (model prog w) A (u (.ref acc)) (fun _ s'' => ∃ vals' L', H b ((C, .fr names vals') :: L') s'' ∧ ∀ s', s'.toks = s''.toks → H b L' s' → Q .none s') E s
theorem lc_runT {itA : Addr} {n : Nat} {V : Nat → Value → Led → Prop} {X : Nat → Led} {need : Led → Prop} {use : Option (Value → Sem Unit)} {Q : Value → Shared → Prop} (names : List Str) (Z : List Addr → Nat → List Value → Led → Nat → Prop) (hmono : ∀ ca i out L t t', t ≤ t' → Z ca i out L t → Z ca i out L t')
    (S : Src A b target itA n V X need) (he : Ev e La nm cl) (hk : scope.kind = .function) (hcn : (cellsFrom 0 scope.names []).map (·.1) = cn) (hnd : names.Nodup) (hrel : rel nm scope.names = nm') (hneed : ∀ ca i out L C acc vals t, Z ca i out L t → need ((C, .fr names vals) :: (acc, .ls out) :: L))
    (hsz : ∀ ca i out L t, Z ca i out L t → out.length < 2 ^ 20) (h : H b (X 0 ++ L) s) (h0 : ∀ ca : List Addr, ca.length = cn.length → ∀ t, s.toks ≤ t → Z ca 0 [] (ca.map (fun a => (a, Res.cl none)) ++ L) t)
    (step : ∀ C acc ca e' i v G out vals L s E, ca.length = cn.length → vals.length = names.length → Ev e' C nm' (cn.zip ca ++ clos) → i < n → V i v G → Z ca i out L s.toks → H b ((C, .fr names vals) :: (acc, .ls out) :: (G ++ (X (i + 1) ++ L))) s →
      wpAny (model prog w) A (assign target e' v) (fun _ s₂ => wpAny (model prog w) A (tests ifs e') (fun ok s₃ => if ok = true then wpAny (model prog w) A (eval elt e') (fun y s₄ =>
          ∃ vals' L', vals'.length = names.length ∧ H b ((C, .fr names vals') :: (acc, .ls out) :: (X (i + 1) ++ L')) s₄ ∧ Z ca (i + 1) (out ++ [y]) L' s₄.toks) E s₃
        else ∃ vals' L', vals'.length = names.length ∧ H b ((C, .fr names vals') :: (acc, .ls out) :: (X (i + 1) ++ L')) s₃ ∧ Z ca (i + 1) out L' s₃.toks) E s₂) E s)
    (fin : ∀ C acc ca out vals L s, Z ca n out L s.toks → H b ((C, .fr names vals) :: (acc, .ls out) :: L) s → AfterT prog w A E b names use Q C acc out L s) :
    wpAny (model prog w) A (newList []) (fun acc s₃ => wpAny (model prog w) A (newFunctionEnv scope e.globals clos [] e.qual none .none (some e)) (fun cenv s₄ =>
        codeAny (model prog w) A (.compStart (.ListComp elt [⟨target, iter, ifs, 0⟩] scope pos) 0 (.ref itA) acc { cenv with scope := relabel scope e }) (compPost (model prog w) A E use Q acc cenv.locals) s₄) E s₃) E s := by
  refine wpAny_with_toks (Nat.le_refl _) (wpAny_newObj_type ?_)
  intro ht0
  have hacc : H b ((s.heap.objs.size, .ls []) :: (X 0 ++ L)) { s with heap := s.heap.push { cls := .type "list", data := .seq ([] : List Value).toArray } } := h.allocL []
  have ht0' : s.toks ≤ ({ s with heap := s.heap.push { cls := .type "list", data := .seq ([] : List Value).toArray } } : Shared).toks := Nat.le_refl _
  generalize s.heap.objs.size = acc at hacc ⊢
  refine wpAny_with_toks ht0' (env_new he hacc hcn hnd fun C ca s' hca h' ht1 => ?_)
  have ev : Ev { newEnv scope C mainGlobals (cn.zip ca ++ clos) e.qual none .none (some e) builtinsNs with scope := relabel scope e } C nm' (cn.zip ca ++ clos) := by
    refine ⟨rfl, hk, ?_, rfl, rfl, he.builtins⟩
    rw [← hrel]
    show (scope.names.map _) = rel nm scope.names
    unfold rel
    refine List.map_congr_left fun x hx => ?_
    obtain ⟨n, k⟩ := x
    show (if (k == NameKind.free && e.scope.kind == .function && e.kindOf n == some .cell) = true then (n, NameKind.cell) else (n, k)) = _
    unfold Env.kindOf
    rw [he.kind, he.names]
    simp
  generalize hcenv : ({ newEnv scope C mainGlobals (cn.zip ca ++ clos) e.qual none .none (some e) builtinsNs with scope := relabel scope e } : Env) = cenv at ev ⊢
  have hloc : (newEnv scope C mainGlobals (cn.zip ca ++ clos) e.qual none .none (some e) builtinsNs).locals = C := rfl
  rw [hloc]
  have start : ∀ s', s.toks ≤ s'.toks → H b (X 0 ++ ((C, .fr names (names.map fun _ => none)) :: (acc, .ls []) :: (ca.map (fun a => (a, Res.cl none)) ++ L))) s' →
      codeAny (model prog w) A (.compLoop (.ListComp elt [⟨target, iter, ifs, 0⟩] scope pos) 0 (.ref itA) (.ref acc) cenv) (compPost (model prog w) A E use Q (.ref acc) C) s' := by
    intro s' hts h'
    refine codeAny_loop rfl (fun m s' => ∃ i out vals L, m = n - i ∧ i ≤ n ∧ vals.length = names.length ∧ H b (X i ++ ((C, .fr names vals) :: (acc, .ls out) :: L)) s' ∧ Z ca i out L s'.toks) (fun m s₁ hI => ?_) n ⟨0, [], _, _, rfl, Nat.zero_le _, by rw [List.length_map], h', h0 ca hca _ hts⟩
    refine byName fun _ kk_ => ?_
    obtain ⟨i, out, vals, L, hm, hi, hvl, h, hz⟩ := hI
    refine kk_ ?_
    clear kk_
    show wpAny _ A ((compTurn (.ListComp elt [⟨target, iter, ifs, 0⟩] scope pos) 0 (.ref itA) (.ref acc) cenv).onRaise (fun x => do noteFrame x cenv; theTreesLotGoes x)) _ _ s₁
    refine wpAny_noted ?_
    rw [compTurn_list]
    refine wpAny_bind (wpAny_standAt (wpAny_bind ?_))
    have perm1 : ∀ (P : Led) vals out (L : Led), (P ++ ((C, Res.fr names vals) :: (acc, .ls out) :: L)).Perm ((C, .fr names vals) :: (acc, .ls out) :: (P ++ L)) := fun P vals out L => by
      rw [show ((C, Res.fr names vals) :: (acc, Res.ls out) :: L) = [(C, Res.fr names vals), (acc, Res.ls out)] ++ L from rfl, ← List.append_assoc]
      exact (List.perm_append_comm.append_right L)
    by_cases hlt : i < n
    · refine wpAny_with_toks (Nat.le_refl _) (S.next i hlt h (hneed _ _ _ _ _ _ _ _ hz) fun v G s₁ hv hown ht1 => ?_)
      dsimp only
      refine wpAny_bind (wpAny_with_toks ht1 (hown _ _ fun s₂ h₂ ht2 => ?_))
      refine wpAny_bind (wpAny_mono (step C acc ca cenv i v G out vals L s₂ _ hca hvl ev hlt hv (hmono _ _ _ _ _ _ ht2 hz) (h₂.perm ?_)) (fun _ s₃ h₃ => wpAny_bind (wpAny_mono h₃ (fun ok s₄ h₄ => ?_) fun _ _ x => x)) fun _ _ x => x)
      · rw [← List.append_assoc, ← List.append_assoc G]
        exact perm1 _ _ _ _
      · cases ok with
        | false =>
          rw [if_neg Bool.false_ne_true] at h₄
          obtain ⟨vals', L', hv', h', hz'⟩ := h₄
          exact wpAny_pure ⟨rfl, n - (i + 1), sub_dec hm hlt, i + 1, out, vals', L', rfl, hlt, hv', h'.perm (perm1 _ _ _ _).symm, hz'⟩
        | true =>
          rw [if_pos rfl] at h₄
          refine wpAny_bind (wpAny_bind (wpAny_mono h₄ (fun y s₅ h₅ => ?_) fun _ _ x => x))
          obtain ⟨vals', L', hv', h', hz'⟩ := h₅
          exact wpAny_bind (wpAny_with_toks (Nat.le_refl _) (l_append h' (Upd.tail Upd.head) (hsz _ _ _ _ _ hz) fun s₆ h₆ ht6 => wpAny_pure (wpAny_pure ⟨rfl, n - (i + 1), sub_dec hm hlt, i + 1, _, vals', L', rfl, hlt, hv', h₆.perm (perm1 _ _ _ _).symm, hmono _ _ _ _ _ _ ht6 hz'⟩)))
    · obtain rfl : i = n := Nat.le_antisymm hi (Nat.le_of_not_lt hlt)
      refine wpAny_with_toks (Nat.le_refl _) (S.stop h (hneed _ _ _ _ _ _ _ _ hz) fun s' h' ht1 => ?_)
      dsimp only
      refine wpAny_pure ?_
      have f := fin C acc ca out vals L s' (hmono _ _ _ _ _ _ ht1 hz) h'
      cases use with
      | none =>
        obtain ⟨m, hm⟩ := ns_of h' .head
        exact ⟨m, hm, fun h'' hs => f _ rfl (H.drop (t := s'.toks) h' hs.extBut)⟩
      | some u =>
        refine wpAny_mono f (fun _ s'' x => ?_) fun _ _ x => x
        obtain ⟨vals', L', h3, h4⟩ := x
        obtain ⟨m, hm⟩ := ns_of h3 .head
        exact ⟨m, hm, fun h'' hs => h4 _ rfl (H.drop (t := s''.toks) h3 hs.extBut)⟩
  have perm2 : ((C, Res.fr names (names.map fun _ => none)) :: (ca.map (fun a => (a, Res.cl none)) ++ ((acc, .ls []) :: (X 0 ++ L)))).Perm (X 0 ++ ((C, .fr names (names.map fun _ => none)) :: (acc, .ls []) :: (ca.map (fun a => (a, Res.cl none)) ++ L))) := by
    generalize (C, Res.fr names (names.map fun _ => none)) = p
    generalize (acc, Res.ls []) = q
    generalize ca.map (fun a => (a, Res.cl none)) = U
    have e1 : (p :: (U ++ (q :: (X 0 ++ L)))).Perm (p :: q :: (U ++ (X 0 ++ L))) := List.Perm.cons _ List.perm_middle
    have e2 : (U ++ (X 0 ++ L)).Perm (X 0 ++ (U ++ L)) := by rw [← List.append_assoc, ← List.append_assoc]; exact List.perm_append_comm.append_right L
    have e3 : (X 0 ++ (p :: q :: (U ++ L))).Perm (p :: q :: (X 0 ++ (U ++ L))) := List.perm_middle.trans (List.Perm.cons _ List.perm_middle)
    exact e1.trans ((List.Perm.cons _ (List.Perm.cons _ e2)).trans e3.symm)
  have h2 := h'.perm perm2
  exact codeAny_compStart_list (start _ ht1 h2) (S.self h2 (start _ ht1 h2))

theorem lc_run {itA : Addr} {n : Nat} {V : Nat → Value → Led → Prop} {X : Nat → Led} {need : Led → Prop} {use : Option (Value → Sem Unit)} {Q : Value → Shared → Prop} (names : List Str) (Z : List Addr → Nat → List Value → Led → Prop)
    (S : Src A b target itA n V X need) (he : Ev e La nm cl) (hk : scope.kind = .function) (hcn : (cellsFrom 0 scope.names []).map (·.1) = cn) (hnd : names.Nodup) (hrel : rel nm scope.names = nm') (hneed : ∀ ca i out L C acc vals, Z ca i out L → need ((C, .fr names vals) :: (acc, .ls out) :: L))
    (hsz : ∀ ca i out L, Z ca i out L → out.length < 2 ^ 20) (h : H b (X 0 ++ L) s) (h0 : ∀ ca : List Addr, ca.length = cn.length → Z ca 0 [] (ca.map (fun a => (a, Res.cl none)) ++ L))
    (step : ∀ C acc ca e' i v G out vals L s E J, LcR b C acc names out (X (i + 1)) (Z ca (i + 1)) J → ca.length = cn.length → vals.length = names.length → Ev e' C nm' (cn.zip ca ++ clos) → i < n → V i v G → Z ca i out L → H b ((C, .fr names vals) :: (acc, .ls out) :: (G ++ (X (i + 1) ++ L))) s →
      wpAny (model prog w) A (assign target e' v) (fun _ s₂ => wpAny (model prog w) A (tests ifs e') (fun ok s₃ => if ok = true then wpAny (model prog w) A (eval elt e') (fun y s₄ => J (some y) s₄) E s₃ else J none s₃) E s₂) E s)
    (fin : ∀ C acc ca out vals L s, Z ca n out L → H b ((C, .fr names vals) :: (acc, .ls out) :: L) s → After prog w A E b names use Q C acc out L s) :
    wpAny (model prog w) A (newList []) (fun acc s₃ => wpAny (model prog w) A (newFunctionEnv scope e.globals clos [] e.qual none .none (some e)) (fun cenv s₄ =>
        codeAny (model prog w) A (.compStart (.ListComp elt [⟨target, iter, ifs, 0⟩] scope pos) 0 (.ref itA) acc { cenv with scope := relabel scope e }) (compPost (model prog w) A E use Q acc cenv.locals) s₄) E s₃) E s := by
  refine lc_runT (cn := cn) names (fun ca i out L _ => Z ca i out L) (fun _ _ _ _ _ _ _ z => z) S he hk hcn hnd hrel (fun ca i out L C acc vals t hz => hneed _ _ _ _ _ _ _ hz) (fun ca i out L t hz => hsz _ _ _ _ hz) h (fun ca hca t _ => h0 ca hca) (fun C acc ca e' i v G out vals L s E hca hvl ev hi hv hz h' => ?_) (fun C acc ca out vals L s hz h' => ?_)
  · exact step C acc ca e' i v G out vals L s E (fun o s => match o with
        | some y => ∃ vals' L', vals'.length = names.length ∧ H b ((C, .fr names vals') :: (acc, .ls out) :: (X (i + 1) ++ L')) s ∧ Z ca (i + 1) (out ++ [y]) L'
        | none => ∃ vals' L', vals'.length = names.length ∧ H b ((C, .fr names vals') :: (acc, .ls out) :: (X (i + 1) ++ L')) s ∧ Z ca (i + 1) out L') ⟨fun _ _ x => x, fun _ x => x⟩ hca hvl ev hi hv hz h'
  · have f := fin C acc ca out vals L s hz h'
    cases use with
    | none => exact fun s' _ hs => f s' hs
    | some u => exact wpAny_mono f (fun _ s'' x => x.elim fun vals' y => y.elim fun L' z => ⟨vals', L', z.1, fun s' _ hs => z.2 s' hs⟩) (fun _ _ x => x)
end
noncomputable def Outs (W : Nat → Option Value → Prop) : Nat → List Value → Prop
  | 0, out => out = []
  | n + 1, out => ∃ o', Outs W n o' ∧ ((∃ y, W n (some y) ∧ out = o' ++ [y]) ∨ (W n none ∧ out = o'))
theorem Outs.le {W : Nat → Option Value → Prop} : ∀ {n : Nat} {out : List Value}, Outs W n out → out.length ≤ n
  | 0, _, h => by cases h; exact Nat.le_refl _
  | n + 1, out, ⟨o', h, q⟩ => by
    have := Outs.le h
    rcases q with ⟨y, _, rfl⟩ | ⟨_, rfl⟩
    · simp; walk_at "om"
    · exact o49 this
theorem Outs.all {α : Type} {W : Nat → Option Value → Prop} (R : α → Value → Prop) (g : Nat → Option α) : ∀ {n : Nat} {out : List Value}, Outs W n out → (∀ i y, i < n → W i (some y) → ∃ a, g i = some a ∧ R a y) → (∀ i, i < n → W i none → g i = none) → Paired R ((List.range n).filterMap g) out
  | 0, _, h, _, _ => by cases h; exact .nil
  | n + 1, out, ⟨o', h, q⟩, h1, h2 => by
    have ih := Outs.all R g h (fun i y hi => h1 i y (by exact o50 hi)) (fun i hi => h2 i (by exact o50 hi))
    rw [List.range_succ, List.filterMap_append]
    rcases q with ⟨y, hy, rfl⟩ | ⟨hy, rfl⟩
    · obtain ⟨a, ha, hr⟩ := h1 n y (by exact o51) hy
      rw [List.filterMap_cons, ha, List.filterMap_nil]
      exact ih.snoc hr
    · rw [List.filterMap_cons, h2 n (by exact o51) hy, List.filterMap_nil, List.append_nil]
      exact ih
theorem Outs.map {α : Type} {W : Nat → Option Value → Prop} (R : α → Value → Prop) (g : Nat → α) {n : Nat} {out : List Value} (h : Outs W n out) (h1 : ∀ i y, i < n → W i (some y) → R (g i) y) (h2 : ∀ i, i < n → ¬ W i none) : Paired R ((List.range n).map g) out := by
  have := h.all R (fun i => some (g i)) (fun i y hi hw => ⟨_, rfl, h1 i y hi hw⟩) (fun i hi hw => (h2 i hi hw).elim)
  rw [show (fun i => some (g i)) = some ∘ g from rfl, List.filterMap_eq_map] at this
  exact this

section
variable {prog : Program} {w : World} {A A' : Around} {E : Value → Shared → Prop} {b s : Shared} {L L' : Led} {e : Env} {La : Addr} {nm nm' : List (Str × NameKind)} {cl clos : List (Str × Addr)} {target elt iter : Expr} {ifs : List Expr} {scope : Scope} {pos : Pos} {names cn : List Str}
theorem lc_pure {itA : Addr} {n : Nat} {V : Nat → Value → Led → Prop} {X : Nat → Led} {need : Led → Prop} {use : Option (Value → Sem Unit)} {Q : Value → Shared → Prop} (names : List Str) (W : Nat → Option Value → Prop)
    (S : Src A b target itA n V X need) (he : Ev e La nm cl) (hk : scope.kind = .function) (hcn : (cellsFrom 0 scope.names []).map (·.1) = []) (hnd : names.Nodup) (hrel : rel nm scope.names = nm') (hneed : ∀ out C acc vals, need ((C, .fr names vals) :: (acc, .ls out) :: L))
    (hsz : n < 2 ^ 20) (h : H b (X 0 ++ L) s)
    (step : ∀ C acc e' i v G out vals s E J, LcJ b C acc names out (X (i + 1) ++ L) (W i) J → vals.length = names.length → Ev e' C nm' clos → i < n → V i v G → H b ((C, .fr names vals) :: (acc, .ls out) :: (G ++ (X (i + 1) ++ L))) s →
      wpAny (model prog w) A (assign target e' v) (fun _ s₂ => wpAny (model prog w) A (tests ifs e') (fun ok s₃ => if ok = true then wpAny (model prog w) A (eval elt e') (fun y s₄ => J (some y) s₄) E s₃ else J none s₃) E s₂) E s)
    (fin : ∀ C acc out vals s, Outs W n out → H b ((C, .fr names vals) :: (acc, .ls out) :: L) s → After prog w A E b names use Q C acc out L s) :
    wpAny (model prog w) A (newList []) (fun acc s₃ => wpAny (model prog w) A (newFunctionEnv scope e.globals clos [] e.qual none .none (some e)) (fun cenv s₄ =>
        codeAny (model prog w) A (.compStart (.ListComp elt [⟨target, iter, ifs, 0⟩] scope pos) 0 (.ref itA) acc { cenv with scope := relabel scope e }) (compPost (model prog w) A E use Q acc cenv.locals) s₄) E s₃) E s := by
  have drop : ∀ {i : Nat} {C acc : Addr} {vals out} {P : Led} {s : Shared}, H b ((C, .fr names vals) :: (acc, .ls out) :: (P ++ (X (i + 1) ++ L))) s → H b ((C, .fr names vals) :: (acc, .ls out) :: (X (i + 1) ++ L)) s := fun h => h.sub ((List.sublist_append_right _ _).cons_cons _ |>.cons_cons _)
  refine lc_run (cn := []) names (fun ca i out L' => L' = L ∧ i ≤ n ∧ Outs W i out) S he hk hcn hnd hrel (fun ca i out L' C acc vals hz => hz.1 ▸ hneed _ _ _ _) (fun ca i out L' hz => Nat.lt_of_le_of_lt (Nat.le_trans hz.2.2.le hz.2.1) hsz) h (fun ca hca => ?_) (fun C acc ca e' i v G out vals L' s E J hJ hca hvl ev hi hv hz h' => ?_) (fun C acc ca out vals L' s hz h' => ?_)
  · cases ca with
    | nil => exact ⟨rfl, Nat.zero_le _, rfl⟩
    | cons _ _ => cases hca
  · obtain ⟨e1, _, ho⟩ := hz
    rw [e1] at h'
    cases ca with
    | cons _ _ => cases hca
    | nil =>
      refine wpAny_mono (step C acc e' i v G out vals s E (fun o s => W i o ∧ ∃ vals' L', vals'.length = names.length ∧ H b ((C, .fr names vals') :: (acc, .ls out) :: (L' ++ (X (i + 1) ++ L))) s) ⟨fun _ _ x => x⟩ hvl ev hi hv h') (fun _ s₂ h₂ => wpAny_mono h₂ (fun ok s₃ h₃ => ?_) fun _ _ x => x) fun _ _ x => x
      cases ok with
      | false =>
        rw [if_neg Bool.false_ne_true] at h₃ ⊢
        obtain ⟨hw, vals', L', hv', h'⟩ := h₃
        exact hJ.nn _ ⟨vals', L, hv', drop h', rfl, hi, _, ho, .inr ⟨hw, rfl⟩⟩
      | true =>
        rw [if_pos rfl] at h₃ ⊢
        refine wpAny_mono h₃ (fun y s₄ h₄ => ?_) fun _ _ x => x
        obtain ⟨hw, vals', L', hv', h'⟩ := h₄
        exact hJ.sm _ _ ⟨vals', L, hv', drop h', rfl, hi, _, ho, .inl ⟨y, hw, rfl⟩⟩
  · obtain ⟨e1, _, ho⟩ := hz
    rw [e1] at h' ⊢
    exact fin C acc out vals s ho h'
end
end
end Mine
namespace Mine
section
open PySem PySem.W PyProof.Rows PySem.Calls
inductive Pick (a : Addr) : Res → Led → Led → Prop
  | head {r : Res} {L : Led} : Pick a r ((a, r) :: L) L
  | tail {r : Res} {p : Addr × Res} {L L' : Led} : Pick a r L L' → Pick a r (p :: L) (p :: L')
theorem Pick.perm {a : Addr} {r : Res} {L L' : Led} (p : Pick a r L L') : L.Perm ((a, r) :: L') := by
  induction p with
  | head => exact List.Perm.refl _
  | tail _ ih => exact (List.Perm.cons _ ih).trans (.swap ..)
inductive Draw : Led → Led → Prop
  | sub {L L' : Led} : L'.Sublist L → Draw L L'
  | pick {a : Addr} {r : Res} {L L1 L' : Led} : Pick a r L L1 → Draw L1 L' → Draw L ((a, r) :: L')
theorem Draw.out {L L' : Led} (d : Draw L L') : ∃ M, L.Perm M ∧ L'.Sublist M := by
  induction d with
  | sub h => exact ⟨_, List.Perm.refl _, h⟩
  | pick p _ ih => obtain ⟨M, h1, h2⟩ := ih; exact ⟨_, p.perm.trans (List.Perm.cons _ h1), h2.cons_cons _⟩
theorem H.draw {b s : Shared} {L L' : Led} (h : H b L s) (d : Draw L L') : H b L' s := let ⟨_, h1, h2⟩ := d.out; (h.perm h1).sub h2
theorem H.front {b s : Shared} {a : Addr} {r : Res} {L L' : Led} (h : H b L s) (p : Pick a r L L') : H b ((a, r) :: L') s := h.perm p.perm
section
variable {prog : Program} {w : World} {A : Around} {E : Value → Shared → Prop} {b s : Shared} {L L' : Led} {e : Env} {Q : Value → Shared → Prop} {x y : Int} {t u : Tok} {i k : Nat} {pos : Pos} {vs : List Value} {a : Addr}
theorem o_le (kk : Q (.bool (decide (x ≤ y))) s) : wpAny (model prog w) A (compareOp .LtE (.int x t) (.int y u)) Q E s := PyProof.Rows.le_int kk
theorem o_gt (kk : Q (.bool (decide (y < x))) s) : wpAny (model prog w) A (compareOp .Gt (.int x t) (.int y u)) Q E s := PyProof.Rows.gt_int kk
theorem o_ge (kk : Q (.bool (decide (y ≤ x))) s) : wpAny (model prog w) A (compareOp .GtE (.int x t) (.int y u)) Q E s := PyProof.Rows.ge_int kk
theorem o_iadd (h : H b L s) (kk : ∀ t s', H b L s' → Q (.int (x + y) t) s') : wpAny (model prog w) A (inplaceOp .Add (.int x t) (.int y u)) Q E s := PySem.P.iadd_int (kk _ _ (h.toks _))
theorem o_isub (h : H b L s) (kk : ∀ t s', H b L s' → Q (.int (x - y) t) s') : wpAny (model prog w) A (inplaceOp .Sub (.int x t) (.int y u)) Q E s := PySem.P.isub_int (kk _ _ (h.toks _))
theorem mk_list {vs : List Value} (h : H b L s) (hsz : vs.length < 2 ^ 20) (kk : ∀ a s', H b ((a, .ls vs) :: L) s' → Q (.ref a) s') : wpAny (model prog w) A (newList vs) Q E s :=
  wpAny_newObj_type (kk _ _ (h.allocL vs)) (by show vs.toArray.size ≤ sizeLine; rw [List.size_toArray, sizeLine_eq]; exact o9 hsz)
theorem mk_tup {vs : List Value} (h : H b L s) (hsz : vs.length < 2 ^ 20) (kk : ∀ a s', H b ((a, .ob (tup vs)) :: L) s' → Q (.ref a) s') : wpAny (model prog w) A (newTuple vs) Q E s :=
  wpAny_newObj_type (kk _ _ (h.alloc (tup vs))) (by show vs.toArray.size ≤ sizeLine; rw [List.size_toArray, sizeLine_eq]; exact o9 hsz)
theorem foldl_rep (v : Value) : ∀ n : Nat, ∀ acc : Array Value, List.foldl (fun x1 x2 : Array Value => x1 ++ x2) acc (List.replicate n #[v]) = (acc.toList ++ List.replicate n v).toArray
  | 0, acc => by simp
  | n + 1, acc => by
    rw [List.replicate_succ, List.foldl_cons, foldl_rep v n]
    simp [List.replicate_succ]
theorem o_rep {v : Value} {l : Addr} {n : Nat} (h : H b L s) (hm : Has l (.ls [v]) L) (hx : x = n) (hn : n < 2 ^ 10) (kk : ∀ a s', H b ((a, .ls (List.replicate n v)) :: L) s' → Q (.ref a) s') : wpAny (model prog w) A (binaryOp .Mult (.ref l) (.int x u)) Q E s := by
  obtain ⟨k, hl⟩ := h.getL hm
  have e : List.foldl (fun x1 x2 => x1 ++ x2) #[] (List.replicate (if (#[v] : Array Value).isEmpty = true then 0 else x.toNat) #[v]) = (List.replicate n v).toArray := by
    rw [if_neg (by simp), hx, Int.toNat_natCast, foldl_rep]; simp
  have c0 : ¬(!Builtin.List.listFitsIndex x) = true := by simp only [Builtin.List.listFitsIndex]; simp; exact o52 hn hx
  have c1 : ¬ (#[v] : Array Value).size * x.toNat > (2 ^ 63 - 1) / 8 := by simp; exact o53 hn hx
  have c2 : ¬ Builtin.List.listTooLong ((#[v] : Array Value).size * x.toNat) = true := by simp only [Builtin.List.listTooLong, sizeLine]; simp; exact o54 hn hx
  exact wpAny_binaryOp_repeat_ref (T := "list") (U := "int") (by decide) ⟨_, hl, rfl⟩ (fun s' => typeIs_int s' _ u) noFill_list_mul F.fills_int_mul F.slot_int_rmul repeat_list F.slot_int_index.lookup
    (call_meets F.slot_int_rmul (typeIs_int s x u) F.entry_int_rmul (F.args_int_rmul_2 _ _) (int___rmul___int_list x u l #[v] k)
      ⟨hl, rfl, ⟨_, hl, rfl⟩, call_meets F.slot_list_mul ⟨_, hl, rfl⟩ F.entry_list_mul (F.args_list_mul_2 _ _)
        (AutoListH.list___mul___list_int_3 l #[v] k x u c0 c1 c2)
        ⟨hl, by rw [e]; exact kk _ _ (h.allocL _)⟩⟩)

theorem set_l {l : Addr} {vs vs' : List Value} {v : Value} {Q : Unit → Shared → Prop} {k : Nat} (h : H b L s) (u : Upd l (.ls vs) (.ls vs') L L') (e : vs' = vs.set k v) (hx : x = k) (hk : k < vs.length) (hz : vs.length < 2 ^ 20)
    (kk : ∀ s', H b L' s' → Q () s') : wpAny (model prog w) A (setItem (.ref l) (.int x t) v) Q E s := by
  obtain ⟨n, ho⟩ := h.getL u.has
  have hl := isList ho
  have h0 : 0 ≤ x := by exact o55 hx
  have hfit : x < 2 ^ 63 := by exact o56 hz hk hx
  have hfin := kk _ (h.seq u (·.setIfInBounds k v) (by rw [e]; simp))
  clear kk h u
  unfold setItem
  try with_reducible refine wpAny_holding ?_
  first | refine wpAny_bind (wpAny_pure ?_) | skip
  refine wpAny_bind (wpAny_sequenceKey hl.typeIs (by decide) ?_)
  refine wpAny_bind (wpAny_callSpecial?_slot (name := Str.ofString "__setitem__") hl.typeIs slot_list_setitem
    (wpAny_call_entry slot_list_setitem hl.typeIs entry_list_setitem ?_ (args_list_setitem _ _ _)))
  show wpAny _ _ (Builtin.List.listSubscript? (.int x t) >>= _) _ _ s
  refine wpAny_bind (wpAny_listSubscript_int (fitsIndex_of h0 hfit) ?_)
  clear hfit
  subst hx
  have hx' : vs.toArray[k]? = some vs[k] := by simp [List.getElem?_eq_getElem hk]
  show wpAny _ _ ((seqItemAt l k >>= fun r => pure (r.map (k, ·))) >>= _) _ _ s
  refine wpAny_bind (wpAny_bind (wpAny_seqItemAt ho rfl (wpAny_pure ?_)))
  rw [hx']
  show wpAny _ _ (setSeqItemAt l k v >>= _) _ _ s
  refine wpAny_bind (wpAny_setSeqItemAt ho rfl ?_)
  first
    | exact wpAny_bind (wpAny_pure (wpAny_pure ⟨.none, rfl, wpAny_pure hfin⟩))
    | exact wpAny_pure ⟨.none, rfl, wpAny_pure hfin⟩
theorem m_bits {pl : Sem Bool} {Q : Value × List Value → Shared → Prop} (h : Q (.builtin "int.bit_length", [.int x t]) s) :
    wpAny (model prog w) A (getMethod (.int x t) "bit_length" pl) Q E s := getMethod_int_bit_length h
theorem noPyS {x y : Int} (h : y.natAbs < 2 ^ 62) : Builtin.divisionGoesByPylong x y = false := noPy (Nat.lt_of_lt_of_le h (Nat.pow_le_pow_right (by decide) (by decide)))
theorem bits_lt {x : Int} : x.natAbs < 2 ^ Builtin.Int.intBits x := by
  unfold Builtin.Int.intBits
  split
  · rename_i h; have : x = 0 := by simpa using h
    subst this; decide
  · exact Nat.lt_log2_self
theorem bits_pos {x : Int} (h : x ≠ 0) : 0 < Builtin.Int.intBits x := by
  unfold Builtin.Int.intBits
  rw [if_neg (by simpa using h)]; exact o57
theorem t_int {Q : Bool → Shared → Prop} (h : Q (x != 0) s) : wpAny (model prog w) A (truthy (.int x t)) Q E s := PyProof.Rows.truthy_int h
end
end
end Mine
namespace Mine
section
open PySem PySem.W PyProof.Rows PySem.Calls
section
variable {prog : Program} {w : World} {A : Around} {E : Value → Shared → Prop} {b s : Shared} {L L' : Led} {e : Env} {Q : Value → Shared → Prop} {x y z : Str} {i j : Int} {t u v tv : Tok} {k : Nat} {pos : Pos} {vs : List Value} {a D : Addr} {xs : List Str}
open Builtin Builtin.Str
theorem strsOf : ∀ l : List (Str × Tok), StrsAre (strValues l) (l.map (·.1))
  | [] => .nil
  | (_, _) :: l => .cons _ _ (strsOf l)
theorem ofStrs {vs : List Value} {xs : List Str} (h : StrsAre vs xs) : ∃ l : List (Str × Tok), strValues l = vs ∧ l.map (·.1) = xs := by
  induction h with
  | nil => exact ⟨[], rfl, rfl⟩
  | cons y t _ ih => obtain ⟨l, h1, h2⟩ := ih; exact ⟨(y, t) :: l, by simp [strValues, ← h1], by simp [h2]⟩
theorem StrsAre.at {vs : List Value} {xs : List Str} (h : StrsAre vs xs) : ∀ {k : Nat} {a : Str}, xs[k]? = some a → ∃ t, vs[k]? = some (.str a t) := by
  induction h with
  | nil => intro k a h; simp at h
  | cons n t _ ih =>
    intro k a h
    cases k with
    | zero => simp at h; subst h; exact ⟨t, rfl⟩
    | succ k => simp at h ⊢; exact ih h
theorem strs_len {vs : List Value} {xs : List Str} (h : StrsAre vs xs) : vs.length = xs.length := by
  induction h with
  | nil => rfl
  | cons _ _ _ ih => simp [ih]
noncomputable def find4 (x y : Str) (i j : Int) : Int := match occurrences x y (fromIndex x.length i) (min (fromIndex x.length j) x.length) 1 with | k :: _ => (k : Int) | [] => -1
theorem gives_find4 (x y : Str) (i j : Int) (t u v w : Tok) : Gives («str.find» ⟨[.str x t, .str y u, .int i v, .int j w], []⟩) (.int (find4 x y i j)) := by
  show Gives (match occurrences x y (fromIndex x.length i) (min (fromIndex x.length j) x.length) 1 with | k :: _ => retInt k | [] => (do rule "str.find.not-found"; retInt (-1))) _
  unfold find4
  cases occurrences x y (fromIndex x.length i) (min (fromIndex x.length j) x.length) 1 with
  | nil => exact .rule (.of_eq rfl)
  | cons k _ => exact .of_eq rfl
theorem s_find4 (h : H b L s) (kk : ∀ t s', H b L s' → Q (.int (find4 x y i j) t) s') : wpAny (model prog w) A (call (.builtin "str.find") [.str x t, .str y u, .int i v, .int j tv]) Q E s :=
  call_gives F.slot_str_find (typeIs_str _ _ _) F.entry_str_find (F.args_str_find_4 _ _ _ _) (gives_find4 x y i j t u v tv) (kk _ _ (h.toks _))
theorem s_count (h : H b L s) (kk : ∀ t s', H b L s' → Q (.int (Txt.count x y) t) s') : wpAny (model prog w) A (call (.builtin "str.count") [.str x t, .str y u]) Q E s := SC.count (kk _ _ (h.toks _))
theorem s_in (kk : Q (.bool (Txt.contains x y)) s) : wpAny (model prog w) A (compareOp .In (.str y u) (.str x t)) Q E s := PyProof.Rows.in_str kk
theorem s_notin (kk : Q (.bool (!Txt.contains x y)) s) : wpAny (model prog w) A (compareOp .NotIn (.str y u) (.str x t)) Q E s := PyProof.Rows.notIn_str kk
theorem s_eq (kk : Q (.bool (x == y)) s) : wpAny (model prog w) A (compareOp .Eq (.str x t) (.str y u)) Q E s := PyProof.Rows.eq_str kk
theorem s_ne (kk : Q (.bool (x != y)) s) : wpAny (model prog w) A (compareOp .NotEq (.str x t) (.str y u)) Q E s := PyProof.Rows.ne_str kk
theorem s_add (h : H b L s) (hsz : x.length + y.length ≤ 2 ^ 20) (kk : ∀ t s', H b L s' → Q (.str (x ++ y) t) s') : wpAny (model prog w) A (binaryOp .Add (.str x t) (.str y u)) Q E s :=
  SB.add (fun _ _ => kk _ _ (h.toks _)) (by rw [sizeLine_eq]; exact o58 hsz)
theorem s_iadd (h : H b L s) (hsz : x.length + y.length ≤ 2 ^ 20) (kk : ∀ t s', H b L s' → Q (.str (x ++ y) t) s') : wpAny (model prog w) A (inplaceOp .Add (.str x t) (.str y u)) Q E s :=
  SB.iadd (fun _ _ => kk _ _ (h.toks _)) (by rw [sizeLine_eq]; exact o58 hsz)
theorem s_len (h : H b L s) (hsz : x.length ≤ 2 ^ 20) (kk : ∀ t s', H b L s' → Q (.int x.length t) s') : wpAny (model prog w) A (call (.builtin "len") [.str x t]) Q E s := PyProof.Rows.len_str (by exact o59 hsz) (kk _ _ (h.toks _))
theorem s_truthy {Q : Bool → Shared → Prop} (h : H b L s) (hsz : x.length ≤ 2 ^ 20) (kk : ∀ s', H b L s' → Q ((x.length : Int) != 0) s') : wpAny (model prog w) A (truthy (.str x t)) Q E s := P.truthy_str (by exact o59 hsz) (kk _ (h.toks _))
theorem s_item {value slice : Expr} {c : Nat} (h : H b L s) (h0 : 0 ≤ i) (hi : i < 2 ^ 20) (hc : x.cps[i.toNat]? = some c) (kk : ∀ t s', H b L s' → Q (.str ⟨#[c]⟩ t) s')
    (hs : subscripted slice false (.str x t) (.int i u) = operate [.str x t, .int i u] (getItem (.str x t) (.int i u))) : wpAny (model prog w) A (subscriptTail value slice (.str x t) (.int i u)) Q E s := by
  refine tail_any (typeIs_str s x t) slot_str_getitem.lookup (getItem_str (by simp; exact o60 h0 hi) ?_ (kk _ _ (h.toks _))) hs
  have hlt : i.toNat < x.cps.size := (Array.getElem?_eq_some_iff.mp hc).1
  have : seqIndex? i x.length = some i.toNat := by
    have hl : x.length = x.cps.size := rfl
    unfold seqIndex?
    simp only [show ¬ i < 0 by exact o61 h0, if_false]
    rw [if_pos (by simp; exact o62 hlt h0 hl)]
  rw [this]; exact hc
theorem s_split (h : H b L s) (hy : (y.length == 0) = false) (hsz : x.length ≤ 2 ^ 20) (hsz2 : (partsBetween x (occurrences x y 0 x.length (x.length + 1)) y.length).length ≤ 2 ^ 20)
    (kk : ∀ D vs s', StrsAre vs (Txt.split x y) → H b ((D, .ls vs) :: L) s' → Q (.ref D) s') : wpAny (model prog w) A (call (.builtin "str.split") [.str x t, .str y u]) Q E s := by
  have c1 : x.length ≤ sizeLine := by rw [sizeLine_eq]; exact o63 hsz
  have c2 : (partsBetween x (occurrences x y 0 x.length (x.length + 1)) y.length).length ≤ sizeLine := by rw [sizeLine_eq]; exact o63 hsz2
  cases h1 : (decide (x.length < y.length) || decide (strKind x < strKind y))
  · cases hf : (occurrences x y 0 x.length (x.length + 1)).isEmpty
    · refine call_meets F.slot_str_split (typeIs_str _ _ _) F.entry_str_split (F.args_str_split_2 _ _) (meets_str_split_sep x y t u h1 hy hf c1 c2) ?_
      show wants Q E _ { s with toks := _, heap := s.heap.push { cls := .type "list", data := .seq (strsFrom s.toks (partsBetween x (occurrences x y 0 x.length (x.length + 1)) y.length)).toArray } }
      rw [strsFrom_eq]
      refine kk _ (strValues (numbered s.toks (partsBetween x (occurrences x y 0 x.length (x.length + 1)) y.length))) _ ?_ ((h.allocL _).toks _)
      have e : Txt.split x y = (numbered s.toks (partsBetween x (occurrences x y 0 x.length (x.length + 1)) y.length)).map (·.1) := ((numbered_texts _ _).trans ((if_neg (ne_true_of_eq_false h1)).trans (if_neg (ne_true_of_eq_false hf))).symm).symm
      rw [e]; exact strsOf _
    · refine call_meets F.slot_str_split (typeIs_str _ _ _) F.entry_str_split (F.args_str_split_2 _ _) (meets_str_split_not_found x y t u h1 hy hf) (kk _ (strValues [(x, t)]) _ ?_ (h.allocL _))
      have e : Txt.split x y = [(x, t)].map (·.1) := (if_neg (ne_true_of_eq_false h1)).trans (if_pos hf)
      rw [e]; exact strsOf _
  · refine call_meets F.slot_str_split (typeIs_str _ _ _) F.entry_str_split (F.args_str_split_2 _ _) (meets_str_split_cannot_occur x y t u h1) (kk _ (strValues [(x, t)]) _ ?_ (h.allocL _))
    have e : Txt.split x y = [(x, t)].map (·.1) := if_pos h1
    rw [e]; exact strsOf _
theorem s_join (h : H b L s) (hm : Has D (.ls vs) L) (hx : StrsAre vs xs) (hok : JoinOk x xs = true) (kk : ∀ t s', H b L s' → Q (.str (Txt.join x xs) t) s') : wpAny (model prog w) A (call (.builtin "str.join") [.str x t, .ref D]) Q E s := by
  obtain ⟨n, hg⟩ := h.getL hm
  obtain ⟨l, h1, h2⟩ := ofStrs hx
  exact SC.join (l := l) (by rw [h1]; exact isList hg) h2 hok (fun _ _ => kk _ _ (h.toks _))
theorem strs_pt : ∀ (vs : List Value) (xs : List Str), vs.length = xs.length → (∀ (j : Nat) v, vs[j]? = some v → ∃ x u, xs[j]? = some x ∧ v = .str x u) → StrsAre vs xs
  | [], [], _, _ => .nil
  | v :: vs, x :: xs, hl, h => by
    refine byName fun _ kk_ => ?_
    obtain ⟨x', u, h1, h2⟩ := h 0 v rfl
    refine kk_ ?_
    clear kk_
    simp at h1; subst h1; subst h2
    exact .cons _ _ (strs_pt vs xs (by simpa using hl) fun j v hv => h (j + 1) v (by simpa using hv))
  | [], _ :: _, hl, _ => by simp at hl
  | _ :: _, [], hl, _ => by simp at hl
theorem signs_of {x : Str} {acc : Array Value} (h : ItemsOf (SignAt x) acc x.cps.size) : StrsAre acc.toList (x.cps.toList.map fun c => (⟨#[c]⟩ : Str)) := by
  refine strs_pt _ _ (by simp [h.1]) fun j v hv => ?_
  obtain ⟨c, u, h1, h2⟩ := h.2 j v (by simpa using hv)
  exact ⟨_, u, by simp [h1], h2⟩
theorem s_list (hh : A.handled = none) (h : H b L s) (hsz : x.cps.size ≤ 2 ^ 20) (kk : ∀ D vs s', StrsAre vs (x.cps.toList.map fun c => (⟨#[c]⟩ : Str)) → H b ((D, .ls vs) :: L) s' → Q (.ref D) s') : wpAny (model prog w) A (call (.type "list") [.str x t]) Q E s := by
  refine call_list_str hh x t (fun h' tk acc' c' hk hg hi => kk _ acc'.toList _ (signs_of hi) (h.grow (t := tk) hk (fun _ => ⟨c', by rw [hg]; rfl⟩) (Nat.le_refl _))) (by rw [sizeLine_eq]; exact o63 hsz)
theorem item_ln {value slice : Expr} {v : Value} (h : H b L s) (hm : Has a (.ls vs) L) (h0 : i < 0) (h1 : -(vs.length : Int) ≤ i) (hf : vs.length < 2 ^ 20) (hx : vs[(i + vs.length).toNat]? = some v) (kk : Q v s)
    (hs : subscripted slice false (.ref a) (.int i t) = operate [.ref a, .int i t] (getItem (.ref a) (.int i t))) : wpAny (model prog w) A (subscriptTail value slice (.ref a) (.int i t)) Q E s := by
  obtain ⟨n, hg⟩ := h.getL hm
  exact tail_any (isList hg).typeIs slot_list_getitem.lookup (wpAny_getItem_list_neg (isList hg) h0 (by simpa using h1) (by exact o64 h1 hf) (by simpa using hx) kk) hs
theorem s_replace (h : H b L s) (hu : u ≠ 0) (hv : v ≠ 0) (huv : u ≠ v) (hyz : (y == z) = false) (hx : x.length ≤ 1048576) (hz : z.length ≤ 14) (kk : ∀ t s', H b L s' → Q (.str (Txt.replace x y z) t) s') : wpAny (model prog w) A (call (.builtin "str.replace") [.str x t, .str y u, .str z v]) Q E s :=
  SC.replaceW hu hv huv hyz hx hz (fun _ _ => kk _ _ (h.toks _))
end
noncomputable def envN (nm : List (Str × NameKind)) : Env := { (default : Env) with scope := { (default : Scope) with names := nm, kind := .function } }
theorem swap_eq {e : Env} {La : Addr} {nm : List (Str × NameKind)} {cl : List (Str × Addr)} (he : Ev e La nm cl) (targets : List Expr) (value : Expr) : swappedStores targets value e = swappedStores targets value (envN nm) := by
  have h1 : e.blockKind = (envN nm).blockKind := by unfold Env.blockKind; rw [he.kind]; rfl
  have h2 : e.kindOf = (envN nm).kindOf := by funext x; unfold Env.kindOf; rw [he.names]; rfl
  unfold swappedStores
  rw [h1, h2]
section
variable {prog : Program} {w : World} {A : Around} {E : Value → Shared → Prop} {b s : Shared} {L L' : Led} {e : Env} {La : Addr} {nm : List (Str × NameKind)} {cl : List (Str × Addr)}
theorem asg_tup {elts k tpos value pos} {Q : Flow → Shared → Prop} (he : Ev e La nm cl)
    (h : wpAny (model prog w) A (eval value e) (fun v s₁ => wpAny (model prog w) A (assign (.Tuple elts k tpos) e v) (fun _ => Q .next) E s₁) E s)
    (hs : swapsWithSole [.Tuple elts k tpos] value pos.line e = pure false) (hw : swappedStores [.Tuple elts k tpos] value (envN nm) = pure none) :
    wpAny (model prog w) A (exec (.Assign [.Tuple elts k tpos] value pos) e) Q E s := Assign_Tuple h hs ((swap_eq he _ _).trans hw)
theorem asg_swap2 {elts k tpos value pos} {x1 x2 : Str} {Q : Flow → Shared → Prop} (he : Ev e La nm cl)
    (h : wpAny (model prog w) A (eval value e) (fun v s₁ => wpAny (model prog w) A (unpackItems v 2 none) (fun items s₂ =>
      wpAny (model prog w) A (assignInOrder [bindName e x2, bindName e x1] items.reverse) (fun _ => Q .next) E s₂) E s₁) E s)
    (hs : swapsWithSole [.Tuple elts k tpos] value pos.line e = pure false) (hw : swappedStores [.Tuple elts k tpos] value (envN nm) = pure (some [x1, x2])) :
    wpAny (model prog w) A (exec (.Assign [.Tuple elts k tpos] value pos) e) Q E s := Assign_Tuple_swapped (names := [x1, x2]) h hs ((swap_eq he _ _).trans hw)
theorem un_swap2 {T : Addr} {a c : Value} {x1 x2 : Str} {Q : Unit → Shared → Prop} (hh : A.handled = none) (h : H b L s) (hm : Has T (.ob (tup [a, c])) L)
    (k : ∀ s', H b L s' → wpAny (model prog w) A (storeName e x2 c) (fun _ s₁ => wpAny (model prog w) A (storeName e x1 a) Q E s₁) E s') :
    wpAny (model prog w) A (unpackItems (.ref T) 2 none) (fun items s₂ => wpAny (model prog w) A (assignInOrder [bindName e x2, bindName e x1] items.reverse) Q E s₂) E s := by
  refine unpackItems_tuple (items := #[a, c]) hh ⟨_, h.get hm, rfl, 0, rfl⟩ fun h' hs => ?_
  have h2 : H b L { s with heap := h' } := h.ext (t := s.toks) fun c o e => hs c o (fun q => absurd (Heap.lt_size e) (by rw [q]; exact Nat.lt_irrefl _)) e
  exact assignInOrder_cons (wpAny_bindName (wpAny_mono (k _ h2) (fun _ s₁ x => assignInOrder_cons (wpAny_bindName (wpAny_mono x (fun _ _ y => assignInOrder_nil y) fun _ _ y => y))) fun _ _ y => y))
end
end
end Mine
namespace Mine
section
open PySem PySem.W PyProof.Rows PySem.Calls
inductive NsRep : List DictEntry → List (Str × Value) → Prop
  | nil : NsRep [] []
  | cons {h : Int} {k : Str} {t : Tok} {v : Value} {es fs} : NsRep es fs → NsRep (⟨h, .str k t, v⟩ :: es) ((k, v) :: fs)
noncomputable def putF (name : Str) (v : Value) : List (Str × Value) → List (Str × Value)
  | [] => [(name, v)]
  | (k, w) :: r => if k == name then (k, v) :: r else (k, w) :: putF name v r
noncomputable def getF (name : Str) : List (Str × Value) → Option Value
  | [] => none
  | (k, w) :: r => if k == name then some w else getF name r
theorem NsRep.any {es : List DictEntry} {fs} (h : NsRep es fs) : es.any (·.refKey) = false := by
  induction h with
  | nil => rfl
  | cons _ ih => rw [List.any_cons, ih]; rfl
theorem NsRep.get {es : List DictEntry} {fs} (h : NsRep es fs) (name : Str) : getL name es = some (getF name fs) := by
  have e : es.find? (·.key.isStr name) = none ∧ getF name fs = none ∨ ∃ en, es.find? (·.key.isStr name) = some en ∧ getF name fs = some en.val := by
    induction h with
    | nil => exact .inl ⟨rfl, rfl⟩
    | @cons h k t v es fs hr ih =>
      rw [List.find?_cons]
      show (match (k == name) with | true => some _ | false => _) = _ ∧ _ ∨ _
      unfold getF
      by_cases q : (k == name) = true
      · exact .inr ⟨⟨h, .str k t, v⟩, by simp only [Value.isStr, q], by rw [if_pos q]⟩
      · rw [Bool.not_eq_true] at q
        simp only [Value.isStr, q, Bool.false_eq_true, if_false]
        exact ih
  unfold getL
  rcases e with ⟨e1, e2⟩ | ⟨en, e1, e2⟩
  · rw [e1, e2]; dsimp only; rw [h.any]; rfl
  · rw [e1, e2]
theorem NsRep.put {es : List DictEntry} {fs} (h : NsRep es fs) (name : Str) (hs : Int) (t : Tok) (v : Value) : NsRep (putL name hs (.str name t) v es) (putF name v fs) := by
  induction h with
  | nil => exact .cons .nil
  | @cons h k t v es fs hr ih =>
    unfold putL putF
    by_cases q : (k == name) = true
    · rw [if_pos (by exact q), if_pos q]; exact .cons hr
    · rw [if_neg (by exact q), if_neg q]; exact .cons ih
theorem NsRep.len {es : List DictEntry} {fs} (h : NsRep es fs) : es.length = fs.length := by
  induction h with
  | nil => rfl
  | cons _ ih => simp [ih]
inductive FPut (name : Str) (v : Value) : List (Str × Value) → List (Str × Value) → Prop
  | head {w fs} : FPut name v ((name, w) :: fs) ((name, v) :: fs)
  | tail {p fs fs'} : FPut name v fs fs' → FPut name v (p :: fs) (p :: fs')
  | nil : FPut name v [] [(name, v)]
inductive FLook (name : Str) (v : Value) : List (Str × Value) → Prop
  | head {fs} : FLook name v ((name, v) :: fs)
  | tail {p fs} : FLook name v fs → FLook name v (p :: fs)
noncomputable def isNs (fs : List (Str × Value)) (o : Obj) : Prop := ∃ es n, o = dictOf es n ∧ NsRep es fs

section
variable {prog : Program} {w : World} {A : Around} {E : Value → Shared → Prop} {s : Shared} {K : Frag} {x C dx : Addr} {R : Result → Shared → Prop}
theorem osa_dictH {ox od od' : Obj} {dx : Addr} {name : Str} {tk : Tok} {v : Value} {es : List DictEntry} {n : Nat} (D : s.heap.get? dx = some od) (X : K.In s.heap)
    (I : InstAt s.heap x ox C (some od)) (hd : ox.dict = some dx) (hp : plainOver K C = true) (ht : takerIn K C name = some none) (hh : (clsIn K C).any (·.hasDict) = true)
    (hl : (lookIn name od).isSome = true)
    (e : Obj.putName name (PyData.keyHash w.params name) (.str name s.toks) v od = od') (e' : od'.data = .dict es.toArray n) (hz : es.length ≤ 1000)
    (h : ∀ h', h'.get? dx = some od' → Heap.SameBut dx s.heap h' → R (.ok (.ret .none)) { s with heap := h', toks := s.toks + 1 }) :
    codeAny (model prog w) A (.call (.builtin "object.__setattr__") ⟨[.ref x, .str name tk, v], []⟩) R s := by
  refine osa_open X I hp ht fun b => ?_
  refine byName fun _ kk_ => ?_
  obtain ⟨cd, hc, hd'⟩ := any_some hh
  refine kk_ ?_
  clear kk_
  have D' : (s.heap.update dx (Obj.putName name (PyData.keyHash w.params name) (.str name s.toks) v)).get? dx = some od' := by
    rw [← e]; exact Heap.get?_update_self _ D (by rw [e]; obtain ⟨_, _, dd, _⟩ := od'; cases e'; rfl)
  refine byName fun _ kk_ => ?_
  obtain ⟨hx, hcl, hn, -⟩ := I
  obtain ⟨oc, odi, oda, osl⟩ := ox
  refine kk_ ?_
  clear kk_
  dsimp only at hcl hd
  subst hcl hd
  refine wpAny_bind (wpAny_pure (wpAny_bind (wpAny_bind (wpAny_loadPart hx (wpAny_bind ((looks_clsIn X hc).here ?_))))))
  rw [hd']
  refine wpAny_pure (a := some dx) (wpAny_bind (wpAny_pure (wpAny_bind ?_)))
  unfold nsSet
  refine wpAny_bind (wpAny_bind (wpAny_askSetting (wpAny_pure (wpAny_bind (wpAny_mkText (wpAny_bind (wpAny_loadPart D ?_)))))))
  unfold lookIn at hl
  split at hl
  · rename_i es₀ n₀ q
    rw [q]
    dsimp only
    have c : (!es₀.any (·.key.isStr name) && es₀.any (·.refKey)) = false := by
      rw [← Array.any_toList, ← Array.any_toList]
      split at hl
      · rename_i en he
        rw [List.any_eq_true.mpr ⟨en, List.mem_of_find?_eq_some he, List.find?_some he⟩]; rfl
      · split at hl
        · cases hl
        · rename_i z; rw [Bool.not_eq_true] at z; rw [z, Bool.and_false]
    rw [aRefKeyMayBeTheName_at, c]
    refine wpAny_updatePart D ?_
    refine wpAny_bind (wpAny_lookBehind D' (by rw [e']; exact pastItsLine_dict (by rw [List.size_toArray, sizeLine_eq]; exact o65 hz)) ?_)
    exact wpAny_pure (h _ D' (Heap.SameBut.update ..))
  · cases hl
end

theorem CLook.mem {cl : List (Str × Addr)} {x : Str} {c : Addr} (h : CLook cl x c) : (x, c) ∈ cl := by
  induction h with
  | head => exact .head _
  | tail _ ih => exact .tail _ ih
structure Kls (b : Shared) (C : Addr) (names : List Str) (meths : List (Str × Addr)) : Prop where
  ex : ∃ K : Frag, K.In b.heap ∧ (makesIn K C = true ∧ keepIn K (.ref C) = true) ∧ findIn K (.ref C) "__getattribute__" = some (some (.builtin "object.__getattribute__")) ∧ findIn K (.ref C) "__getattr__" = some none ∧
    findIn K (.ref C) "__setattr__" = some (some (.builtin "object.__setattr__")) ∧ plainOver K C = true ∧ hasDictIn K C = true ∧
    (∀ n ∈ names, findIn K (.ref C) n = some none) ∧ (∀ p ∈ meths, findIn K (.ref C) p.1 = some (some (.ref p.2)) ∧ typeIn K (.ref p.2) = some (.type "function") ∧ specialIn K (.ref p.2) "__get__" = some (some (.builtin "function.__get__")) ∧ takesIn K (.ref p.2) = some false)
section
variable {prog : Program} {w : World} {A : Around} {E : Value → Shared → Prop} {b s : Shared} {L L' : Led} {x C dx : Addr} {R : Result → Shared → Prop} {names : List Str} {meths : List (Str × Addr)} {fs fs' : List (Str × Value)} {name : Str} {v : Value}
theorem inst_of (h : H b L s) (m1 : Has x (.ob (instObj C dx)) L) (m2 : Has dx (.pr (isNs fs)) L) : ∃ es n, NsRep es fs ∧ s.heap.get? dx = some (dictOf es n) ∧ InstAt s.heap x (instObj C dx) C (some (dictOf es n)) := by
  obtain ⟨o, ho, es, n, rfl, hr⟩ := h.getP m2
  exact ⟨es, n, hr, ho, h.get m1, rfl, rfl, ho⟩
theorem i_get {expr : Bool} {Q : Value → Shared → Prop} (h : H b L s) (k : Kls b C names meths) (m1 : Has x (.ob (instObj C dx)) L) (m2 : Has dx (.pr (isNs fs)) L) (_ : FLook name v fs) (hn : name ∈ names) (hv : handedIn v = true) (kk : ∀ s', H b L s' → Q v s') (hg : getF name fs = some v) :
    wpAny (model prog w) A (getAttr (.ref x) name expr) Q E s := by
  obtain ⟨K, X, km, k1, k2, k3, k4, k5, k6, k7⟩ := k.ex
  obtain ⟨es, n, hr, hd, I⟩ := inst_of h m1 m2
  exact get_value (X.keeps h.keep) I k1 (findObj_own k5 (k6 _ hn) rfl (by rw [lookIn_dict, hr.get, hg])) hv (kk _ (h.toks _))
theorem i_meth {pl : Sem Bool} {f : Addr} {Q : Value × List Value → Shared → Prop} (h : H b L s) (k : Kls b C names meths) (m1 : Has x (.ob (instObj C dx)) L) (m2 : Has dx (.pr (isNs fs)) L) (hn : CLook meths name f) (kk : Q (.ref f, [.ref x]) s) (hg : getF name fs = none) :
    wpAny (model prog w) A (getMethod (.ref x) name pl) Q E s := by
  obtain ⟨K, X, km, k1, k2, k3, k4, k5, k6, k7⟩ := k.ex
  obtain ⟨es, n, hr, hd, I⟩ := inst_of h m1 m2
  obtain ⟨m3, m4, m5, m6⟩ := k7 _ hn.mem
  exact method_fn (X.keeps h.keep) I k1 k2 m3 m4 (by show (lookIn name (dictOf es n)).map _ = _; rw [lookIn_dict, hr.get, hg]; rfl) kk
theorem i_bound {f : Addr} {expr : Bool} {Q : Value → Shared → Prop} (h : H b L s) (k : Kls b C names meths) (m1 : Has x (.ob (instObj C dx)) L) (m2 : Has dx (.pr (isNs fs)) L) (hn : CLook meths name f) (kk : ∀ q s', H b ((q, .ob (methodObj (.ref f) (.ref x))) :: L) s' → Q (.ref q) s') (hg : getF name fs = none) (hc : copiedNames.contains name = false) :
    wpAny (model prog w) A (getAttr (.ref x) name expr) Q E s := by
  obtain ⟨K, X, km, k1, k2, k3, k4, k5, k6, k7⟩ := k.ex
  obtain ⟨es, n, hr, hd, I⟩ := inst_of h m1 m2
  obtain ⟨m3, m4, m5, m6⟩ := k7 _ hn.mem
  exact get_bind (X.keeps h.keep) I k1 (findObj_fn k5 m3 m5 m6 hc (by rw [lookIn_dict, hr.get, hg])) k2
    (wpAny_call (fn_get (s := { s with toks := s.toks + 1 }) (X.keeps h.keep) m4 (handed_on rfl (kk _ _ ((h.alloc (methodObj (.ref f) (.ref x))).toks _)))))
theorem i_own {pl : Sem Bool} {Q : Value × List Value → Shared → Prop} (h : H b L s) (k : Kls b C names meths) (m1 : Has x (.ob (instObj C dx)) L) (m2 : Has dx (.pr (isNs fs)) L) (fl : FLook name v fs) (hn : name ∈ names) (hv : handedIn v = true) (kk : ∀ s', H b L s' → Q (v, []) s') (hg : getF name fs = some v) :
    wpAny (model prog w) A (getMethod (.ref x) name pl) Q E s := by
  obtain ⟨K, X, km, k1, k2, k3, k4, k5, k6, k7⟩ := id k.ex
  obtain ⟨es, n, hr, hd, I⟩ := inst_of h m1 m2
  exact method_usual (X.keeps h.keep) I k1 k2 (k6 _ hn) rfl (i_get h k m1 m2 fl hn hv kk hg)
theorem i_set {Q : Unit → Shared → Prop} (h : H b L s) (k : Kls b C names meths) (m1 : Has x (.ob (instObj C dx)) L) (_ : Has dx (.pr (isNs fs)) L) (_ : FPut name v fs fs') (u : Upd dx (.pr (isNs fs)) (.pr (isNs fs')) L L') (hn : name ∈ names) (hp : putF name v fs = fs') (hz : fs'.length ≤ 1000)
    (kk : ∀ s', H b L' s' → Q () s') : wpAny (model prog w) A (setAttr (.ref x) name v) Q E s := by
  refine byName fun _ kk_ => ?_
  obtain ⟨K, X, km, k1, k2, k3, k4, k5, k6, k7⟩ := k.ex
  obtain ⟨es, n, hr, hd, I⟩ := inst_of h m1 u.has
  refine kk_ ?_
  clear kk_
  have hr' := hr.put name (PyData.keyHash w.params name) (s.toks + 1) v
  rw [hp] at hr'
  have ht : takerIn K C name = some none := by unfold takerIn; rw [k6 _ hn]; rfl
  refine set_plain (X.keeps h.keep) I k3 (osa_dictH (s := { s with toks := s.toks + 1 }) hd (X.keeps h.keep) I rfl k4 ht k5 ?_ (putName_dict ..) rfl (by rw [hr'.len]; exact hz) fun h' hd' hs => ?_)
  · rw [lookIn_dict, hr.get]; rfl
  · exact kk _ (h.set (t := s.toks + 1 + 1) u hs fun _ => ⟨_, hd', _, _, rfl, hr'⟩)
theorem i_make {rest : List Value} {f : Addr} (h : H b L s) (k : Kls b C names meths) (hn : CLook meths (Str.ofString "__init__") f)
    (kk : ∀ x dx s', H b ((x, .ob (instObj C dx)) :: (dx, .pr (isNs [])) :: L) s' → codeAny (model prog w) (A.under (.builtin "type.__call__" ⟨.ref C :: rest, []⟩)) (.call (.ref f) ⟨.ref x :: rest, []⟩) (InitBack x R) s') :
    codeAny (model prog w) A (.call (.ref C) ⟨rest, []⟩) R s := by
  refine byName fun _ kk_ => ?_
  obtain ⟨K, X, km, k1, k2, k3, k4, k5, k6, k7⟩ := k.ex
  obtain ⟨m3, m4, m5, m6⟩ := k7 _ hn.mem
  obtain ⟨hh, g, d, t, os⟩ := s
  refine kk_ ?_
  clear kk_
  have X' : K.In hh := X.keeps h.keep
  refine make_core (makes_of X' km.1) (looks_findIn X' m3) (fun self => bind_fn X' self m4) (.inl rfl) (kk _ hh.objs.size _ ?_)
  have h1 := h.grow (a := hh.objs.size) (r := .pr (isNs [])) (t := t) (hh := hh.push emptyDict) (fun _ _ e => Heap.get?_push_of_some _ e) (fun _ => ⟨_, Heap.get?_push_size _ rfl, [], 0, rfl, .nil⟩) (Nat.le_refl _)
  have h2 := h1.alloc (instObj C hh.objs.size)
  rw [Heap.size_push] at h2
  exact h2
end
end
end Mine
namespace Mine
section
open PySem PySem.W PyProof.Rows PySem.Calls
open PySem.Builtin in
theorem owner_ci : Manifest.owners.lookup (String.ofList ['r', 'o', 't', 'a', 'r', 'e', 't', 'i', '_', 'e', 'l', 'b', 'a', 'l', 'l', 'a', 'c'].reverse) = some Manifest.sig_callable_iterator := by kernel_rfl
theorem slot_ci_next : Slot "callable_iterator" "__next__" "callable_iterator.__next__" :=
  .of (owner := "callable_iterator") (n := "__next__") (by rw [typeLookup_type, builtinLookup_eq_fast]; kernel_rfl) (by decide +kernel) (by decide +kernel) (by decide +kernel)
    (by first | exact .inl (by decide +kernel) | exact .inr (by decide +kernel)) (by rw [isSubtype_type]; kernel_rfl)
theorem slot_ci_iter : Slot "callable_iterator" "__iter__" "callable_iterator.__iter__" :=
  .of (owner := "callable_iterator") (n := "__iter__") (by rw [typeLookup_type, builtinLookup_eq_fast]; kernel_rfl) (by decide +kernel) (by decide +kernel) (by decide +kernel)
    (by first | exact .inl (by decide +kernel) | exact .inr (by decide +kernel)) (by rw [isSubtype_type]; kernel_rfl)
theorem entry_ci_next : entryFor table "callable_iterator.__next__" = some Builtin.«callable_iterator.__next__» := entryFor_of_tree (by kernel_rfl)
theorem entry_ci_iter : entryFor table "callable_iterator.__iter__" = some Builtin.«dict_keyiterator.__iter__» :=
  entryFor_alias (id' := "dict_keyiterator.__iter__") (by kernel_rfl) rfl (by decide +kernel) (by kernel_rfl)
theorem args_ci_next (a : Value) : argsOk "callable_iterator.__next__" ⟨[a], []⟩ := by
  unfold argsOk; rw [signature?_of (id := "callable_iterator.__next__") (n := ['_', '_', 't', 'x', 'e', 'n', '_', '_']) (o := ['r', 'o', 't', 'a', 'r', 'e', 't', 'i', '_', 'e', 'l', 'b', 'a', 'l', 'l', 'a', 'c']) (by kernel_rfl) owner_ci]; kernel_rfl
theorem args_ci_iter (a : Value) : argsOk "callable_iterator.__iter__" ⟨[a], []⟩ := by unfold argsOk; kernel_rfl
theorem kind_iter : builtinKind "iter" = none := by decide +kernel
theorem plain_iter : plainId "iter" = true := by decide +kernel
theorem entry_iter : entryFor table "iter" = some Builtin.«iter» := entryFor_of_tree (by kernel_rfl)
theorem args_iter_2 (a b : Value) : argsOk "iter" ⟨[a, b], []⟩ := by unfold argsOk; kernel_rfl
theorem lookup_method_call : ∃ v, typeLookup (.type "method") "__call__" = pure (some v) := ⟨.builtin "method.__call__", by rw [typeLookup_type, builtinLookup_eq_fast]; kernel_rfl!⟩
end
end Mine
namespace Mine
section
open PySem PySem.W PyProof.Rows PySem.Calls
theorem w_borrowed {M : Model} {A : Around} {E : Value → Shared → Prop} {s : Shared} {f : Value} {pos : List Value} {Q : Value → Shared → Prop}
    (hc : codeAny M A (.call f ⟨pos, []⟩) (fun r s' => match r with | .ok (.ret v) => Q v s' | .ok _ => False | .error e => E e s') s) : wpAny M A (callBorrowed f pos) Q E s := fun Γ p hΓ => by
  have := hc _ p rfl (hΓ.enter _ none p (by intro x; cases x))
  unfold callBorrowed
  rw [Sem.wp_call]
  refine cast (congrFun (congrFun (congrArg _ (funext fun r => funext fun s' => ?_)) _) _) this
  cases r with
  | error e => rfl
  | ok f => cases f <;> rfl
noncomputable abbrev ciObj (q : Addr) (x : Str) (t : Tok) : Obj := { cls := .type "callable_iterator", dict := none, data := .fields #[.ref q, .str x t, .bool false], slots := #[] }
section
variable {prog : Program} {w : World} {A : Around} {E : Value → Shared → Prop} {b s : Shared} {L L' : Led} {x C dx it q f : Addr} {fs fs' : List (Str × Value)} {name : Str} {v : Value} {t : Tok}
theorem b_iter2 {Q : Value → Shared → Prop} {y : Str} (h : H b L s) (hm : Has q (.ob (methodObj (.ref f) (.ref x))) L) (kk : ∀ it s', H b ((it, .ob (ciObj q y t)) :: L) s' → Q (.ref it) s') :
    wpAny (model prog w) A (call (.builtin "iter") [.ref q, .str y t]) Q E s := by
  obtain ⟨v, hv⟩ := lookup_method_call
  refine call_function_entry kind_iter plain_iter entry_iter (args_iter_2 _ _) ?_
  unfold Builtin.«iter»
  refine wpAny_bind (wpAny_of_eq (a := [.ref q, .str y t]) (by first | rfl | kernel_rfl) ?_)
  dsimp only
  refine wpAny_bind (wpAny_specialOf (T := "method") ⟨_, h.get hm, rfl⟩ hv ?_)
  simp only [Option.isNone_some, Bool.false_eq_true, if_false]
  refine wpAny_bind (wpAny_rule ?_)
  exact wpAny_bind (wpAny_newObj_type (wpAny_pure ⟨_, rfl, kk _ _ (h.alloc (ciObj q y t))⟩))
theorem iter_ci {Q : Value → Shared → Prop} {y : Str} (h : H b L s) (hm : Has it (.ob (ciObj q y t)) L) (kk : Q (.ref it) s) : wpAny (model prog w) A (pyIter (.ref it)) Q E s := by
  have hT : s.TypeIs (.ref it) "callable_iterator" := ⟨_, h.get hm, rfl⟩
  refine wpAny_pyIter_slot hT slot_ci_iter (wpAny_call_entry slot_ci_iter hT entry_ci_iter ?_ (args_ci_iter _))
  show wpAny _ _ (ret (.ref it)) _ _ s
  exact wpAny_pure ⟨_, rfl, "callable_iterator", _, hT, slot_ci_next.lookup, kk⟩
theorem w_borrows {M : Model} {Q : Bool → Shared → Prop} (h : H b L s) (hm : Has q (.ob (methodObj (.ref f) (.ref x))) L) (F : ∃ o fd, s.heap.get? f = some o ∧ o.data = .func fd) (kk : Q true s) : wpAny M A (borrowsExactly (.ref q)) Q E s := by
  refine byName fun _ kk_ => ?_
  obtain ⟨o, fd, ho, hd⟩ := F
  refine kk_ ?_
  clear kk_
  unfold borrowsExactly
  refine wpAny_bind (wpAny_load (h.get hm) ?_)
  dsimp only
  rw [if_pos (by rfl)]
  refine wpAny_bind (wpAny_load ho ?_)
  rw [hd]
  exact wpAny_pure kk
theorem next_ci {Q : Option Value → Shared → Prop} (hh : A.handled = none) (h : H b L s) (hm : Has it (.ob (ciObj q Str.empty t)) L) (hq : Has q (.ob (methodObj (.ref f) (.ref x))) L) (F : ∃ o fd, b.heap.get? f = some o ∧ o.data = .func fd)
    (kk : codeAny (model prog w) A.in1 (.call (.ref f) ⟨[.ref x], []⟩) (fun r s' => match r with
      | .ok (.ret (.str c u)) => ∃ L' L'', H b L' s' ∧ Pick it (.ob (ciObj q Str.empty t)) L' L'' ∧ Has q (.ob (methodObj (.ref f) (.ref x))) L'' ∧ (if (Str.empty == c) = true then ∀ s'', H b L'' s'' → Q none s'' else Q (some (.str c u)) s')
      | _ => False) s) : wpAny (model prog w) A (pyNext (.ref it)) Q E s := by
  have ho := h.get hm
  have hT : s.TypeIs (.ref it) "callable_iterator" := ⟨_, ho, rfl⟩
  unfold pyNext
  refine wpAny_bind (wpAny_attempt (wpAny_callSpecial?_slot (name := Str.ofString "__next__") hT slot_ci_next
    (wpAny_call_entry slot_ci_next hT entry_ci_next ?_ (args_ci_next _))))
  unfold Builtin.«callable_iterator.__next__»
  refine wpAny_bind (wpAny_of_eq (a := (Value.ref it, [])) rfl ?_)
  dsimp only
  refine wpAny_bind (wpAny_field ho rfl (x := .bool false) rfl ?_)
  rw [if_neg (by decide)]
  refine wpAny_bind (wpAny_field ho rfl (x := .ref q) rfl ?_)
  have F' : ∀ s' : Shared, (∀ a o, b.heap.get? a = some o → s'.heap.get? a = some o) → ∃ (o : Obj) (fd : FuncData), s'.heap.get? f = some o ∧ o.data = .func fd := fun s' k => let ⟨o, fd, h1, h2⟩ := F; ⟨o, fd, k _ _ h1, h2⟩
  refine wpAny_bind (wpAny_attempt ?_)
  refine wpAny_bind (w_borrows h hq (F' _ h.keep) ?_)
  rw [if_pos rfl]
  refine w_borrowed (method_call (h.get hq) (codeAny_mono kk fun r s' z => ?_))
  obtain ⟨c, u, rfl⟩ : ∃ c u, r = .ok (.ret (.str c u)) := by
    cases r with
    | error e => exact z.elim
    | ok fl => cases fl with
      | ret v => cases v with
        | str c u => exact ⟨_, _, rfl⟩
        | _ => exact z.elim
      | _ => exact z.elim
  refine byName fun _ kk_ => ?_
  obtain ⟨L', L'', h', hp, hq', z⟩ := z
  refine kk_ ?_
  clear kk_
  have h1 := h'.front hp
  have ho' := h1.get .head
  dsimp only
  refine wpAny_bind (wpAny_field ho' rfl (x := .bool false) rfl ?_)
  rw [if_neg (by decide)]
  refine wpAny_bind (wpAny_field ho' rfl (x := .str Str.empty t) rfl ?_)
  refine wpAny_bind (wpAny_holding (eqGives_str Str.empty c t u _ _ _ _ _ _ ?_))
  by_cases hc : (Str.empty == c) = true
  · rw [if_pos hc] at z
    rw [hc, if_neg (by decide)]
    refine wpAny_bind (wpAny_rule ?_)
    refine wpAny_bind ?_
    show wpAny _ _ (field (.ref it) 0 >>= fun o => slotLetsGo "callable_iterator.__next__" o _ >>= fun _ => setField (.ref it) 0 .none >>= fun _ => setField (.ref it) 1 .none >>= fun _ => setField (.ref it) 2 (.bool true)) _ _ _
    refine wpAny_bind (wpAny_field ho' rfl (x := .ref q) rfl ?_)
    refine wpAny_bind ?_
    unfold slotLetsGo
    refine wpAny_bind (w_borrows h1 (.tail hq') (F' _ h1.keep) ?_)
    rw [if_pos rfl]
    refine wpAny_pure ?_
    refine wpAny_bind (wpAny_setField_rec ho' (by simp) fun h2 g2 s2 => ?_)
    refine wpAny_bind (wpAny_setField_rec g2 (by simp) fun h3 g3 s3 => ?_)
    refine wpAny_setField_rec g3 (by simp) fun h4 g4 s4 => ?_
    show wpAny _ _ (newExc (.type "StopIteration") [] >>= _) _ _ _
    refine wpAny_bind ?_
    simp only [newExc, newTuple]
    refine wpAny_bind (wpAny_newObj_type ?_ (by size_fits))
    refine wpAny_bind (m := firstArgMember _ _) (wpAny_of_eq (a := Value.none) (by first | rfl | (simp only [firstArgMember]; rfl)) ?_)
    refine wpAny_newObj_type ?_ (by size_fits)
    simp only [raiseNew]
    refine wpAny_bind (wpAny_handled ?_)
    rw [show A.in1.handled = none from hh]
    refine wpAny_bind (wpAny_pure (wpAny_throw ?_))
    refine wpAny_bind (wpAny_isInstance (T := "StopIteration") (b := true) ⟨_, Heap.get?_push_size _ rfl, rfl⟩ isSubtype_stop ?_)
    exact wpAny_pure (z _ (H.drop (t := s'.toks) h1 ((((s2.trans s3).trans s4).extBut.push _).push _)))
  · rw [if_neg hc] at z
    rw [Bool.not_eq_true] at hc
    rw [hc, if_pos (by decide)]
    exact wpAny_pure ⟨_, rfl, wpAny_pure z⟩
end
section
variable {prog : Program} {w : World} {A : Around} {E : Value → Shared → Prop} {b s : Shared} {L L' : Led} {x f : Addr} {st : Stmt} {fd : FuncData} {Q : Value → Shared → Prop} {e : Env} {pos : Pos}
theorem FnIs.at {L : Led} (F : FnIs b f st fd) (h : H b L s) : FnAt f s.heap := by
  refine byName fun _ kk_ => ?_
  obtain ⟨⟨oc, od, dt, sl⟩, h1, h2⟩ := F.get
  refine kk_ ?_
  clear kk_
  dsimp only at h2
  subst h2
  exact ⟨oc, od, fd, sl, h.keep _ _ h1⟩
theorem cw_bound {first : List Value} {e1 : Expr} {rest : List Expr} (F : FnIs b f st fd) (h : H b L s)
    (hh : wpAny (model prog w) A (spliced (backTo pos (starEach (e1 :: rest) e))) (fun vs s₁ => (∃ L, H b L s₁) ∧ wpAny (model prog w) A (call (.ref f) (first ++ vs)) Q E s₁) E s)
    (he : starEach (e1 :: rest) e = (false, eval e1 e) :: starEach rest e) (hp : (backTo pos (starEach rest e)).any (·.1) = false) :
    wpAny (model prog w) A (callWith pos (.ref f) first (backTo pos (starEach (e1 :: rest) e)) []) Q E s :=
  callWith_F (F.at h) (wpAny_mono hh (fun _ _ z => ⟨let ⟨_, h'⟩ := z.1; F.at h', z.2⟩) fun _ _ q => q) he hp
theorem cw_bound0 {first : List Value} (F : FnIs b f st fd) (h : H b L s) (hh : wpAny (model prog w) A (call (.ref f) (first ++ [])) Q E s) :
    wpAny (model prog w) A (callWith pos (.ref f) first (backTo pos (starEach [] e)) []) Q E s := callWith_F0 (F.at h) hh
theorem cw_cls {C : Addr} {names : List Str} {meths : List (Str × Addr)} {e1 : Expr} {rest : List Expr} (k : Kls b C names meths)
    (hh : wpAny (model prog w) A (spliced (backTo pos (starEach (e1 :: rest) e))) (fun vs s₁ => (∃ L, H b L s₁) ∧ wpAny (model prog w) A (call (.ref C) vs) Q E s₁) E s)
    (he : starEach (e1 :: rest) e = (false, eval e1 e) :: starEach rest e) (hp : (backTo pos (starEach rest e)).any (·.1) = false) :
    wpAny (model prog w) A (callWith pos (.ref C) [] (backTo pos (starEach (e1 :: rest) e)) []) Q E s := by
  obtain ⟨K, X, km, _⟩ := k.ex
  exact callWith_K (first := []) X km.2 (wpAny_mono hh (fun _ _ z => ⟨let ⟨_, h'⟩ := z.1; X.keeps h'.keep, z.2⟩) fun _ _ q => q) he hp
end
end
end Mine
namespace Mine
section
open PySem PySem.W PyProof.Rows PySem.Calls
variable {prog : Program} {w : World} {A : Around} {b s : Shared} {L : Led} {f : Addr} {fd : FuncData} {R : Result → Shared → Prop} {vs : List Value} {xs : List Int} {r : Addr} {n : Nat} {x : Int} {t : Tok}
noncomputable def nmB : List (Str × NameKind) := (stScope (nth pb 13)).names
noncomputable abbrev lB : List Str := ["a", "x", "lo", "hi", "key", "mid"]

theorem IntsAre.at {vs : List Value} {xs : List Int} (h : IntsAre vs xs) : ∀ {k : Nat} {a : Int}, xs[k]? = some a → ∃ t, vs[k]? = some (.int a t) := by
  induction h with
  | nil => intro k a h; simp at h
  | cons n t _ ih =>
    intro k a h
    cases k with
    | zero => simp at h; subst h; exact ⟨t, rfl⟩
    | succ k => simp at h ⊢; exact ih h
theorem countP_cut {xs : List Int} {p : Int → Bool} {i : Nat} (hi : i ≤ xs.length) (h1 : ∀ k : Nat, k < i → ∀ y, xs[k]? = some y → p y = true) (h2 : ∀ k : Nat, i ≤ k → ∀ y, xs[k]? = some y → p y = false) : xs.countP p = i := by
  have e : xs = xs.take i ++ xs.drop i := (List.take_append_drop ..).symm
  rw [e, List.countP_append]
  have a1 : (xs.take i).countP p = i := by
    rw [List.countP_eq_length.mpr, List.length_take]; exact o11 hi
    intro y hy
    refine byName fun _ kk_ => ?_
    obtain ⟨k, hk, rfl⟩ := List.mem_iff_getElem.mp hy
    refine kk_ ?_
    clear kk_
    rw [List.length_take] at hk
    refine h1 k (by exact o66 hk) _ ?_
    rw [List.getElem_take]; exact List.getElem?_eq_getElem (by exact o67 hk)
  have a2 : (xs.drop i).countP p = 0 := by
    rw [List.countP_eq_zero]
    intro y hy
    refine byName fun _ kk_ => ?_
    obtain ⟨k, hk, rfl⟩ := List.mem_iff_getElem.mp hy
    refine kk_ ?_
    clear kk_
    rw [List.length_drop] at hk
    rw [List.getElem_drop]
    exact fun e => by rw [h2 (i + k) (by exact o68) _ (List.getElem?_eq_getElem (by exact o69 hk))] at e; cases e
  exact o70 a2 a1
theorem sorted_at {xs : List Int} (h : xs.Pairwise (· ≤ ·)) {i j : Nat} {a c : Int} (hij : i ≤ j) (ha : xs[i]? = some a) (hc : xs[j]? = some c) : a ≤ c := by
  refine byName fun _ kk_ => ?_
  obtain ⟨h1, rfl⟩ := List.getElem?_eq_some_iff.mp ha
  obtain ⟨h2, rfl⟩ := List.getElem?_eq_some_iff.mp hc
  refine kk_ ?_
  clear kk_
  by_cases e : i = j
  · subst e; exact Int.le_refl _
  · exact List.pairwise_iff_getElem.mp h i j h1 h2 (by exact o71 hij e)

theorem bisl (hs : xs.Pairwise (· ≤ ·)) (F : FnIs b f (nth pb 13) fd) (D : Dfl b fd) (hlen : Blt b "len" (.builtin "len")) (hA : Room A 5) (h : H b L s) (hr : Has r (.ls vs) L) (hi : IntsAre vs xs) (hsz : vs.length < 2 ^ 60)
   (k : ∀ t s', H b L s' → R (.ok (.ret (.int (xs.countP (· < x)) t))) s') :
   codeAny (model prog w) A (.call (.ref f) ⟨[.ref r, .int x t], []⟩) R s := by
  obtain ⟨t0, hb⟩ := binds_bis (.inr (.inl rfl)) F D h (.ref r) (.int x t)
  refine enter (nm := nmB) (names := lB) (vals := [some (.ref r), some (.int x t), some (.int 0 t0), some .none, some .none, none]) F hA h hb rfl (by kernel_rfl) (by kernel_rfl) (by kernel_rfl) (by decide +kernel) rfl rfl rfl ?_
  clear h hb
  intro La s e A' E' he hA h
  refine st_hide ?_
  intro _ _
  walk_at "go"
  rw [if_neg (by decide)]
  walk_at "go"
  rw [if_pos (by decide)]
  walk_at "go"
  rw [if_pos (by decide)]
  walk_at "go"
  refine wpAny_While ?_
  refine codeAny_whileLoop (fun m s => ∃ (i j : Int) (ti tj : Tok) (mv : Option Value), H b ((La, .fr lB [some (.ref r), some (.int x t), some (.int i ti), some (.int j tj), some .none, mv]) :: L) s ∧
    0 ≤ i ∧ i ≤ j ∧ j ≤ xs.length ∧ m = (j - i).toNat ∧ (∀ k : Nat, (k : Int) < i → ∀ y, xs[k]? = some y → y < x) ∧ (∀ k : Nat, j ≤ k → ∀ y, xs[k]? = some y → ¬ y < x)) ?_ _
    ⟨0, vs.length, _, _, _, h, by walk_at "om", by walk_at "om", by rw [hi.length]; exact o72, rfl, fun k hk => by exact (o73 hk).elim, fun k hk y hy => by
      have := (List.getElem?_eq_some_iff.mp hy).1; have := hi.length; exact o74 hk (by assumption) this⟩
  clear h
  rintro m s ⟨i, j, ti, tj, mv, h, h0, h1, h2, rfl, hlo, hhi⟩
  walk_at "go"
  by_cases hij : i < j
  · rw [if_pos (by simpa using hij)]
    walk_at "go"
    have hm := Int.fdiv_eq_ediv_of_nonneg (i + j) (b := 2) (by walk_at "om")
    have hq := And.intro (show i ≤ (i + j).fdiv 2 by exact o75 hij hm) (show (i + j).fdiv 2 < j by exact o76 hij hm)
    clear hm
    generalize (i + j).fdiv 2 = qm at hq h ⊢
    obtain ⟨hq1, hq2⟩ := hq
    obtain ⟨y, hy⟩ : ∃ y, xs[qm.toNat]? = some y := ⟨_, List.getElem?_eq_getElem (by exact o77 h0 hq2 h2 hq1)⟩
    obtain ⟨ty, hy'⟩ := IntsAre.at hi hy
    refine item_l h (by walk_at "mem") (by exact o78 h0 hq1) hy' (by have := hi.length; exact o79 hsz this hq2 h2) ?_ rfl
    walk_at "go"
    by_cases hc : y < x
    · rw [if_pos (by simpa using hc)]
      walk_at "go"
      refine ⟨_, ?_, _, _, _, _, _, h, by exact o80 h0 hq1, by exact o81 hq2, by walk_at "om", rfl, ?_, hhi⟩
      · exact o82 hq2 hq1
      · intro k hk z hz
        exact Int.lt_of_le_of_lt (sorted_at hs (by exact o83 hk) hz hy) hc
    · rw [if_neg (by simpa using hc)]
      walk_at "go"
      refine ⟨_, ?_, _, _, _, _, _, h, by walk_at "om", by walk_at "om", by exact o84 hq2 h2, rfl, hlo, ?_⟩
      · exact o85 hq2 hq1
      · intro k hk z hz hlt
        exact hc (Int.lt_of_le_of_lt (sorted_at hs (by exact o86 hk) hy hz) hlt)
  · rw [if_neg (by simpa using hij)]
    walk_at "go"
    have hc : xs.countP (· < x) = i.toNat := countP_cut (by exact o87 h2 h1) (fun k hk y hy => decide_eq_true (hlo k (by exact o88 hk) y hy)) (fun k hk y hy => decide_eq_false (hhi k (by exact o89 hk hij) y hy))
    have hi' : i = ((xs.countP (· < x) : Nat) : Int) := by exact o90 h0 hc
    rw [hi'] at h
    rw [hi']
    exact k _ _ (h.sub (List.sublist_cons_self ..))

noncomputable def nmR : List (Str × NameKind) := (stScope (nth pb 12)).names
theorem binds_bis4 (F : FnIs b f (nth pb 12) fd) (D : Dfl b fd) (h : H b L s) (a x lo hi : Value) : BindsTo s fd ⟨[a, x, lo, hi], []⟩ [("a", a), ("x", x), ("lo", lo), ("hi", hi), ("key", .none)] := by
  obtain ⟨T, n, t, d1, d2⟩ := D.pos
  obtain ⟨K, hh, tt, m, k1, k2⟩ := D.kw
  exact binds_fed (as := [T, K]) (os := [_, _]) 50 h F.params d1 k1 ⟨d2, k2, trivial⟩ (fun q => by kernel_rfl)
variable {t0 : Tok}
theorem bisr (hs : xs.Pairwise (· ≤ ·)) (F : FnIs b f (nth pb 12) fd) (D : Dfl b fd) (hlen : Blt b "len" (.builtin "len")) (hA : Room A 5) (h : H b L s) (hr : Has r (.ls vs) L) (hi : IntsAre vs xs) (hsz : vs.length < 2 ^ 60)
   (k : ∀ t s', H b L s' → R (.ok (.ret (.int (xs.countP (· ≤ x)) t))) s') :
   codeAny (model prog w) A (.call (.ref f) ⟨[.ref r, .int x t, .int 0 t0, .none], []⟩) R s := by
  have hb := binds_bis4 F D h (.ref r) (.int x t) (.int 0 t0) .none
  refine enter (nm := nmR) (names := lB) (vals := [some (.ref r), some (.int x t), some (.int 0 t0), some .none, some .none, none]) F hA h hb rfl (by kernel_rfl) (by kernel_rfl) (by kernel_rfl) (by decide +kernel) rfl rfl rfl ?_
  clear h hb
  intro La s e A' E' he hA h
  refine st_hide ?_
  intro _ _
  walk_at "go"
  rw [if_neg (by decide)]
  walk_at "go"
  rw [if_pos (by decide)]
  walk_at "go"
  rw [if_pos (by decide)]
  walk_at "go"
  refine wpAny_While ?_
  refine codeAny_whileLoop (fun m s => ∃ (i j : Int) (ti tj : Tok) (mv : Option Value), H b ((La, .fr lB [some (.ref r), some (.int x t), some (.int i ti), some (.int j tj), some .none, mv]) :: L) s ∧
    0 ≤ i ∧ i ≤ j ∧ j ≤ xs.length ∧ m = (j - i).toNat ∧ (∀ k : Nat, (k : Int) < i → ∀ y, xs[k]? = some y → y ≤ x) ∧ (∀ k : Nat, j ≤ k → ∀ y, xs[k]? = some y → ¬ y ≤ x)) ?_ _
    ⟨0, vs.length, _, _, _, h, by walk_at "om", by walk_at "om", by rw [hi.length]; exact o72, rfl, fun k hk => by exact (o73 hk).elim, fun k hk y hy => by
      have := (List.getElem?_eq_some_iff.mp hy).1; have := hi.length; exact o91 hk (by assumption) this⟩
  clear h
  rintro m s ⟨i, j, ti, tj, mv, h, h0, h1, h2, rfl, hlo, hhi⟩
  walk_at "go"
  by_cases hij : i < j
  · rw [if_pos (by simpa using hij)]
    walk_at "go"
    have hm := Int.fdiv_eq_ediv_of_nonneg (i + j) (b := 2) (by walk_at "om")
    have hq := And.intro (show i ≤ (i + j).fdiv 2 by exact o75 hij hm) (show (i + j).fdiv 2 < j by exact o76 hij hm)
    clear hm
    generalize (i + j).fdiv 2 = qm at hq h ⊢
    obtain ⟨hq1, hq2⟩ := hq
    obtain ⟨y, hy⟩ : ∃ y, xs[qm.toNat]? = some y := ⟨_, List.getElem?_eq_getElem (by exact o77 h0 hq2 h2 hq1)⟩
    obtain ⟨ty, hy'⟩ := IntsAre.at hi hy
    refine item_l h (by walk_at "mem") (by exact o78 h0 hq1) hy' (by have := hi.length; exact o79 hsz this hq2 h2) ?_ rfl
    walk_at "go"
    by_cases hc : x < y
    · rw [if_pos (by simpa using hc)]
      walk_at "go"
      refine ⟨_, ?_, _, _, _, _, _, h, by walk_at "om", by walk_at "om", by exact o84 hq2 h2, rfl, hlo, ?_⟩
      · exact o85 hq2 hq1
      · intro k hk z hz hlt
        exact absurd (Int.lt_of_lt_of_le hc (sorted_at hs (by exact o86 hk) hy hz)) (by exact o92 hlt)
    · rw [if_neg (by simpa using hc)]
      walk_at "go"
      refine ⟨_, ?_, _, _, _, _, _, h, by exact o80 h0 hq1, by exact o81 hq2, by walk_at "om", rfl, ?_, hhi⟩
      · exact o82 hq2 hq1
      · intro k hk z hz
        have := sorted_at hs (show k ≤ _ by exact o83 hk) hz hy
        exact o93 this hc
  · rw [if_neg (by simpa using hij)]
    walk_at "go"
    have hc : xs.countP (· ≤ x) = i.toNat := countP_cut (by exact o87 h2 h1) (fun k hk y hy => decide_eq_true (hlo k (by exact o88 hk) y hy)) (fun k hk y hy => decide_eq_false (hhi k (by exact o89 hk hij) y hy))
    have hi' : i = ((xs.countP (· ≤ x) : Nat) : Int) := by exact o90 h0 hc
    rw [hi'] at h
    rw [hi']
    exact k _ _ (h.sub (List.sublist_cons_self ..))

noncomputable def nmI : List (Str × NameKind) := (stScope (nth pb 11)).names
noncomputable abbrev lI : List Str := ["a", "x", "lo", "hi", "key"]
noncomputable def insA (xs : List Int) (x : Int) : List Int := xs.take (xs.countP (· ≤ x)) ++ x :: xs.drop (xs.countP (· ≤ x))
theorem IntsAre.take {vs : List Value} {xs : List Int} (h : IntsAre vs xs) : ∀ k, IntsAre (vs.take k) (xs.take k) := by
  induction h with
  | nil => intro k; simp; exact .nil
  | cons n t _ ih => intro k; cases k with
    | zero => exact .nil
    | succ k => exact .cons n t (ih k)
theorem IntsAre.drop {vs : List Value} {xs : List Int} (h : IntsAre vs xs) : ∀ k, IntsAre (vs.drop k) (xs.drop k) := by
  induction h with
  | nil => intro k; simp; exact .nil
  | cons n t h ih => intro k; cases k with
    | zero => exact .cons n t h
    | succ k => exact ih k
theorem IntsAre.append {vs ws : List Value} {xs ys : List Int} (h : IntsAre vs xs) (h' : IntsAre ws ys) : IntsAre (vs ++ ws) (xs ++ ys) := by
  induction h with
  | nil => exact h'
  | cons n t _ ih => exact .cons n t ih
theorem insr {fr : Addr} {fdr : FuncData} (hs : xs.Pairwise (· ≤ ·)) (F : FnIs b f (nth pb 11) fd) (D : Dfl b fd) (Fr' : FnIs b fr (nth pb 12) fdr) (Dr : Dfl b fdr) (hgr : Glb b "bisect_right" (.ref fr)) (hlen : Blt b "len" (.builtin "len"))
   (hA : Room A 8) (h : H b L s) (hi : IntsAre vs xs) (hsz : vs.length < 2 ^ 20)
   (u : ∀ vs', IntsAre vs' (insA xs x) → ∃ L', Upd r (.ls vs) (.ls vs') L L' ∧ ∀ s', H b L' s' → R (.ok (.ret .none)) s') :
   codeAny (model prog w) A (.call (.ref f) ⟨[.ref r, .int x t], []⟩) R s := by
  obtain ⟨t0, hb⟩ := binds_bis (.inr (.inr rfl)) F D h (.ref r) (.int x t)
  refine enter (nm := nmI) (names := lI) (vals := [some (.ref r), some (.int x t), some (.int 0 t0), some .none, some .none]) F hA h hb rfl (by kernel_rfl) (by kernel_rfl) (by kernel_rfl) (by decide +kernel) rfl rfl rfl ?_
  clear h hb
  intro La s e A' E' he hA h
  have hcp : xs.countP (· ≤ x) ≤ vs.length := by rw [hi.length]; exact List.countP_le_length
  refine byName fun _ kk_ => ?_
  obtain ⟨L', u, k⟩ := u (vs.take (xs.countP (· ≤ x)) ++ .int x t :: vs.drop (xs.countP (· ≤ x))) ((hi.take _).append (.cons x t (hi.drop _)))
  refine kk_ ?_
  clear kk_
  have hr : Has r (.ls vs) L := u.has
  refine st_hide ?_
  intro _ _
  walk_at "go"
  rw [if_pos (by decide)]
  walk_at "go"
  walk_at "cw"
  refine bisr hs Fr' Dr hlen (hA.less (by walk_at "om")) h (.tail hr) hi (by exact o94 hsz) ?_
  clear h
  intro t1 s h
  try dsimp only
  walk_at "go"
  walk_at "gm"
  walk_at "go"
  refine l_insert h (Upd.tail u) rfl hcp hsz ?_
  clear h
  intro s h
  try dsimp only
  walk_at "go"
  exact k _ (h.sub (List.sublist_cons_self ..))

noncomputable def nmA : List (Str × NameKind) := (stScope (nth pb 21)).names
noncomputable abbrev lA : List Str := ["row", "number", "at"]
theorem binds_pl {i : Nat} {args : List Value} {binds : List (Str × Value)} {q : Str} (F : FnIs b f (nth pb i) fd) (h1 : fd.defaults = .none) (h2 : fd.kwdefaults = .none)
    (e : ∀ q, bindArgs { (default : FuncData) with qualname := q, params := stArgs (nth pb i), defaults := .none, kwdefaults := .none } ⟨args, []⟩ = pure binds) : BindsTo s fd ⟨args, []⟩ binds := by
  intro M A E Q hq
  rw [bind_of F.params h1 h2 (t := fun _ => pure binds) e]
  exact wpAny_pure hq
theorem mem_count {xs : List Int} (hs : xs.Pairwise (· ≤ ·)) (x : Int) : (∃ (h : xs.countP (· < x) < xs.length), xs[xs.countP (· < x)] = x) ↔ x ∈ xs := by
  constructor
  · rintro ⟨h, e⟩; exact e ▸ List.getElem_mem h
  · intro hm
    induction xs with
    | nil => cases hm
    | cons a xs ih =>
      obtain ⟨h1, h2⟩ := List.pairwise_cons.mp hs
      by_cases ha : a < x
      · have hm' : x ∈ xs := by rcases List.mem_cons.mp hm with e | e; exact (o95 ha e).elim; exact e
        obtain ⟨h, e⟩ := ih h2 hm'
        have hc : (a :: xs).countP (· < x) = xs.countP (· < x) + 1 := by rw [List.countP_cons]; simp [ha]
        refine ⟨by rw [hc, List.length_cons]; exact o96 h, ?_⟩
        simp only [hc, List.getElem_cons_succ]; exact e
      · have hz : ∀ y ∈ xs, ¬ y < x := fun y hy => by have := h1 y hy; exact o97 this ha
        have hc : (a :: xs).countP (· < x) = 0 := by
          rw [List.countP_eq_zero]
          intro y hy
          rcases List.mem_cons.mp hy with rfl | hy
          · simpa using ha
          · simpa using hz y hy
        refine ⟨by rw [hc, List.length_cons]; exact o57, ?_⟩
        simp only [hc, List.getElem_cons_zero]
        rcases List.mem_cons.mp hm with e | e
        · exact e.symm
        · have := h1 x e; exact o98 this ha

theorem among {fl : Addr} {fdl : FuncData} (hs : xs.Pairwise (· ≤ ·)) (F : FnIs b f (nth pb 21) fd) (d1 : fd.defaults = .none) (d2 : fd.kwdefaults = .none) (Fl : FnIs b fl (nth pb 13) fdl) (Dl : Dfl b fdl) (hgl : Glb b "bisect_left" (.ref fl)) (hlen : Blt b "len" (.builtin "len"))
   (hA : Room A 8) (h : H b L s) (hr : Has r (.ls vs) L) (hi : IntsAre vs xs) (hsz : vs.length < 2 ^ 60)
   (k : ∀ s', H b L s' → R (.ok (.ret (.bool (decide (x ∈ xs))))) s') :
   codeAny (model prog w) A (.call (.ref f) ⟨[.ref r, .int x t], []⟩) R s := by
  refine enter (nm := nmA) (names := lA) (vals := [some (.ref r), some (.int x t), none]) (binds := [("row", .ref r), ("number", .int x t)]) F hA h (binds_pl F d1 d2 (q := "") (fun q => by kernel_rfl)) rfl (by kernel_rfl) (by kernel_rfl) (by kernel_rfl) (by decide +kernel) rfl rfl rfl ?_
  clear h
  intro La s e A' E' he hA h
  refine st_hide ?_
  intro _ _
  walk_at "go"
  walk_at "cw"
  refine bisl hs Fl Dl hlen (hA.less (by walk_at "om")) h (.tail hr) hi (by walk_at "om") ?_
  clear h
  intro t1 s h
  try dsimp only
  walk_at "go"
  by_cases hc : xs.countP (· < x) < xs.length
  · rw [if_pos (by rw [hi.length]; simpa using hc)]
    walk_at "go"
    obtain ⟨ty, hy'⟩ := IntsAre.at hi (List.getElem?_eq_getElem hc)
    refine item_l h (by walk_at "mem") (by walk_at "om") (by simpa using hy') (by have := hi.length; exact o99 hsz hc this) ?_ rfl
    walk_at "go"
    have e1 : (xs[xs.countP (· < x)] == x) = decide (x ∈ xs) := by
      rw [Bool.eq_iff_iff, beq_iff_eq, decide_eq_true_eq, ← mem_count hs]
      exact ⟨fun e => ⟨hc, e⟩, fun ⟨_, e⟩ => e⟩
    rw [e1]
    exact k _ (h.sub (List.sublist_cons_self ..))
  · rw [if_neg (by rw [hi.length]; simpa using hc)]
    have e1 : decide ((xs.countP (· < x) : Int) < (vs.length : Int)) = decide (x ∈ xs) := by
      rw [decide_eq_false (by rw [hi.length]; exact o100 hc), eq_comm, decide_eq_false_iff_not, ← mem_count hs]
      exact fun ⟨h, _⟩ => hc h
    rw [e1]
    walk_at "go"
    exact k _ (h.sub (List.sublist_cons_self ..))
end
end Mine
namespace Mine
section
open PySem PySem.W PyProof.Rows PySem.Calls
variable {prog : Program} {w : World} {A : Around} {b s : Shared} {L : Led} {f : Addr} {fd : FuncData} {R : Result → Shared → Prop} {vs : List Value} {ds : List Int} {r : Addr} {n : Nat} {t u : Tok} {i j : Int}
noncomputable def dg (n : Nat) : List Int → Int
  | [] => 0
  | d :: r => d + 2 ^ n * dg n r
noncomputable def sg (n : Nat) (ds : List Int) (i j : Nat) : Int := dg n ((ds.drop i).take (j - i))
theorem dg_append (n : Nat) : ∀ xs ys : List Int, dg n (xs ++ ys) = dg n xs + 2 ^ (n * xs.length) * dg n ys
  | [], ys => by simp [dg]
  | x :: xs, ys => by
    rw [List.cons_append, dg, dg, dg_append n xs ys, List.length_cons, Nat.mul_succ, Nat.add_comm (n * xs.length) n, Int.pow_add, Int.mul_add, ← Int.mul_assoc, Int.add_assoc]
theorem sg_one {n : Nat} {ds : List Int} {i : Nat} {a : Int} (h : ds[i]? = some a) : sg n ds i (i + 1) = a := by
  unfold sg
  obtain ⟨h1, rfl⟩ := List.getElem?_eq_some_iff.mp h
  rw [Nat.add_sub_cancel_left, List.drop_eq_getElem_cons h1, List.take_succ_cons, List.take_zero]
  simp [dg]
theorem sg_cut {n : Nat} {ds : List Int} {i m j : Nat} (h1 : i ≤ m) (h2 : m ≤ j) (h3 : j ≤ ds.length) : sg n ds i j = sg n ds m j * 2 ^ (n * (m - i)) + sg n ds i m := by
  unfold sg
  have e : (ds.drop i).take (j - i) = (ds.drop i).take (m - i) ++ (ds.drop m).take (j - m) := by
    have e1 : j - i = (m - i) + (j - m) := by exact o101 h1 h2
    rw [e1, List.take_add, List.drop_drop]
    congr 3; exact o102 h1
  rw [e, dg_append, Int.add_comm, Int.mul_comm]
  have : ((ds.drop i).take (m - i)).length = m - i := by rw [List.length_take, List.length_drop]; exact o103 h2 h3
  rw [this]

noncomputable abbrev inS : Stmt := nth (stBody (nth pb 7)) 0
noncomputable def nmIn : List (Str × NameKind) := (stScope inS).names
noncomputable abbrev lIn : List Str := ["L", "R", "mid", "shift"]

theorem inner_c {cl : List (Str × Addr)} {ci cd cn : Addr} {tn : Tok} (lim : b.heap.NoLimit) (F : FdIs fd inS cl) (hcl : cl = [(Str.ofString "n", cn), (Str.ofString "inner", ci), (Str.ofString "digits", cd)]) (hi : IntsAre vs ds) (hsz : ∀ i j, Builtin.Int.intBits (sg n ds i j) ≤ 33554432) (hl : ds.length ≤ 1000) (hn : n ≤ 1000) :
    ∀ (m : Nat) (A : Around) (s : Shared) (L : Led) (i j : Nat) (t u : Tok) (R : Result → Shared → Prop), Room A (m + 2) → H b L s → Has f (.fn fd) L → Has ci (.cl (some (.ref f))) L → Has cn (.cl (some (.int n tn))) L → Has cd (.cl (some (.ref r))) L → Has r (.ls vs) L →
      i < j → j ≤ ds.length → j - i ≤ m → (∀ t s', H b L s' → R (.ok (.ret (.int (sg n ds i j) t))) s') → codeAny (model prog w) A (.call (.ref f) ⟨[.int i t, .int j u], []⟩) R s := by
  subst hcl
  intro m
  induction m with
  | zero => intro A s L i j t u R _ _ _ _ _ _ _ h1 h2 h3; exact (o104 h3 h1).elim
  | succ m ih =>
    intro A s L i j t u R hA h hf hci hcn hcd hr h1 h2 h3 k
    refine enterF (st := inS) (nm := nmIn) (names := lIn) (vals := [some (.int i t), some (.int j u), none, none]) (binds := [("L", .int i t), ("R", .int j u)]) (Fn.of h hf F lim) hA h
      (BindsTo.of_eq (bind_of F.params F.d1 F.d2 (t := fun _ => pure _) (fun q => by kernel_rfl))) rfl (by kernel_rfl) (by kernel_rfl) (by kernel_rfl) (by decide +kernel) rfl rfl rfl ?_
    clear h
    intro La s e A' E' he _ hA h
    refine st_hide ?_
    intro _ _
    walk_at "go"
    by_cases hij : j = i + 1
    · subst hij
      rw [if_pos (by simp)]
      walk_at "go"
      obtain ⟨a, ha⟩ : ∃ a, ds[i]? = some a := ⟨_, List.getElem?_eq_getElem (by exact o105 h2)⟩
      obtain ⟨ta, ha'⟩ := IntsAre.get hi i _ ha
      refine item_l h (by walk_at "mem") (by walk_at "om") (by simpa using ha') (by exact o106 h2 hl) ?_ rfl
      rw [sg_one ha] at k
      walk_at "go"
      exact k _ _ (h.sub (List.sublist_cons_self ..))
    · rw [if_neg (by simp; exact o107 hij)]
      walk_at "go"
      have hm : ((i : Int) + (j : Int)).fdiv (2 ^ (1 : Int).toNat) = (((i + j) / 2 : Nat) : Int) := by
        rw [Int.fdiv_eq_ediv_of_nonneg _ (by decide)]; rfl
      generalize hme : (i + j) / 2 = m' at hm
      simp only [hm] at h ⊢
      have him : i < m' := by exact o108 hme h1 hij
      have hmj : m' < j := by exact o109 hme him
      clear hme hm hij
      have hsh : ((m' : Int) - (i : Int)) * (n : Int) = ((n * (m' - i) : Nat) : Int) := by
        rw [Int.natCast_mul, Int.natCast_sub (by exact o110 him), Int.mul_comm]
      have hnm : n * (m' - i) ≤ 1000 * 1000 := Nat.mul_le_mul hn (by exact o111 hmj hl h2)
      refine o_mul h ?_ (bits_small (by exact o112 hmj him hl h2)) (bits_small (by exact o113 hn))
      rw [hsh]
      clear h; intro _ s h
      walk_at "go"
      walk_at "cwm"
      refine ih A' s _ m' j _ _ _ (hA.less (by exact o114)) h (.tail hf) (.tail hci) (.tail hcn) (.tail hcd) (.tail hr) (by walk_at "om") (by walk_at "om") (by exact o115 h3 him) ?_
      clear h; intro _ s h
      try dsimp only
      walk_at "go"
      refine o_shl h ?_ (by walk_at "om") (hsz _ _) (by exact o116 hnm)
      clear h; intro _ s h
      walk_at "go"
      walk_at "cwm"
      refine ih A' s _ i m' _ _ _ (hA.less (by exact o114)) h (.tail hf) (.tail hci) (.tail hcn) (.tail hcd) (.tail hr) (by walk_at "om") (by exact o117 hmj h2) (by exact o118 h3 hmj) ?_
      clear h; intro _ s h
      try dsimp only
      walk_at "go"
      rw [Int.toNat_natCast, ← sg_cut (n := n) (ds := ds) (i := i) (m := m') (j := j) (by exact o110 him) (by exact o110 hmj) h2]
      exact k _ _ (h.sub (List.sublist_cons_self ..))

noncomputable def nmD : List (Str × NameKind) := (stScope (nth pb 7)).names
structure Tb (b : Shared) (fd : FuncData) (P : Addr) (q : Str) : Prop where
  ex : ∃ c, fd.code = .ref c ∧ CodeHd b.heap c P
  qual : q = fd.qualname ++ ".<locals>." ++ "inner"
theorem d2i {P : Addr} {q : Str} {tn : Tok} (F : FnIs b f (nth pb 7) fd) (d1 : fd.defaults = .none) (d2 : fd.kwdefaults = .none) (T : Tb b fd P q) (B : Bm b) (hlen : Blt b "len" (.builtin "len"))
    (hA : Room A (ds.length + 4)) (h : H b L s) (hr : Has r (.ls vs) L) (hP : Has P (.tb (stPos inS) q) L) (hi : IntsAre vs ds) (hsz : ∀ i j, Builtin.Int.intBits (sg n ds i j) ≤ 33554432) (hl : ds.length ≤ 1000) (hn : n ≤ 1000)
    (k : ∀ t s', H b L s' → R (.ok (.ret (.int (dg n ds) t))) s') : codeAny (model prog w) A (.call (.ref f) ⟨[.ref r, .int n tn], []⟩) R s := by
  refine byName fun _ kk_ => ?_
  obtain ⟨c, hc, C⟩ := T.ex
  refine kk_ ?_
  clear kk_
  refine enterC (nm := nmD) (names := []) (vals := []) (cn := ["inner", "n", "digits"]) (cvals := [none, some (.int n tn), some (.ref r)]) (binds := [("digits", .ref r), ("n", .int n tn)]) F hA h
    (bind_of F.params d1 d2 (t := fun _ => pure _) (fun q => by kernel_rfl)) rfl (by kernel_rfl) (by kernel_rfl) (by decide +kernel) rfl (by kernel_rfl) (by decide +kernel) rfl rfl rfl ?_
  clear h
  intro La s e A' E' ca hca he hcode hqual hA h
  refine byName fun _ kk_ => ?_
  obtain ⟨c3, c2, c1, rfl⟩ := ln3 hca
  refine kk_ ?_
  clear kk_
  simp only [List.zip_cons_cons, List.zip_nil_right, List.map_cons, List.map_nil, List.cons_append, List.nil_append] at he h
  replace he := he
  have hqn : qualnameIn e "inner" "inner" = q := by
    unfold qualnameIn
    have : (e.kindOf "inner" == some .globalExplicit) = false := by unfold Env.kindOf; rw [he.names]; kernel_rfl!
    rw [this, hqual, T.qual]; rfl
  refine st_hide ?_
  intro _ _
  refine d_nest (P := P) (c := c) (q := q) (clos := [("n", c2), ("inner", c3), ("digits", c1)]) h he (hcode.trans hc) hqn C (.tail (.tail (.tail (.tail hP)))) B rfl rfl rfl (by kernel_rfl!) ?_
  clear h
  intro fi fdi s h Fd
  walk_at "go"
  have hlv : vs.length < 2 ^ 60 := by rw [hi.length]; walk_at "om"
  refine t_list h (by walk_at "mem") hlv ?_
  clear h; intro s h
  cases hds : ds with
  | nil =>
    subst hds
    cases hi
    rw [if_neg (show ¬ (!([] : List Value).isEmpty) = true by decide)]
    walk_at "go"
    exact k _ _ (h.sub (by walk_at "sub"))
  | cons d ds' =>
    have hne : 0 < ds.length := by rw [hds]; simp
    have hv : (!vs.isEmpty) = true := by cases hi <;> simp_all
    rw [if_pos hv]
    walk_at "go"
    walk_at "cwm"
    rw [hi.length]
    have e : sg n ds 0 ds.length = dg n ds := by unfold sg; simp
    refine inner_c (cl := [("n", c2), ("inner", c3), ("digits", c1)]) F.lim Fd rfl hi hsz hl hn ds.length A' s _ 0 ds.length _ _ _ (hA.less (by exact o119)) h (by walk_at "mem") (by walk_at "mem") (by walk_at "mem") (by walk_at "mem") (by walk_at "mem") hne (Nat.le_refl _) (by exact o120) ?_
    rw [e]
    clear h; intro _ s h
    walk_at "go"
    exact k _ _ (h.sub (by walk_at "sub"))
end
end Mine
namespace Mine
section
open PySem PySem.W PyProof.Rows PySem.Calls
variable {prog : Program} {w : World} {A : Around} {b s : Shared} {L : Led} {f : Addr} {fd : FuncData} {R : Result → Shared → Prop} {vs : List Value} {ds : List Int} {r : Addr} {n : Nat} {t u tn : Tok} {i j x y a : Int}
noncomputable def nm4 : List (Str × NameKind) := (stScope (nth pb 4)).names
theorem div21 {m : Int} (F : FnIs b f (nth pb 4) fd) (d1 : fd.defaults = .none) (d2 : fd.kwdefaults = .none) {tl : Tok} (hlim : Glb b "_DIV_LIMIT" (.int 4000 tl)) (hdm : Blt b "divmod" (.builtin "divmod"))
    (hA : Room A 3) (h : H b L s) (hx : Builtin.Int.intBits x ≤ 4000) (hm : 0 ≤ m) (hy : y ≠ 0) (hz : y.natAbs < 2 ^ 1000)
    (k : ∀ a t u s', H b ((a, .ob (tup [.int (x.fdiv y) t, .int (x.fmod y) u])) :: L) s' → R (.ok (.ret (.ref a))) s') : codeAny (model prog w) A (.call (.ref f) ⟨[.int x t, .int y u, .int m tn], []⟩) R s := by
  refine enter (nm := nm4) (names := ["a", "b", "n"]) (vals := [some (.int x t), some (.int y u), some (.int m tn)]) (binds := [("a", .int x t), ("b", .int y u), ("n", .int m tn)]) F hA h
    (BindsTo.of_eq (bind_of F.params d1 d2 (t := fun _ => pure _) (fun q => by kernel_rfl))) rfl (by kernel_rfl) (by kernel_rfl) (by kernel_rfl) (by decide +kernel) rfl rfl rfl ?_
  clear h
  intro La s e A' E' he hA h
  refine st_hide ?_
  intro _ _
  walk_at "go"
  walk_at "gm"
  refine b_bits h ?_
  clear h; intro _ s h
  walk_at "go"
  rw [if_pos (by simp; exact o121 hm hx)]
  walk_at "go"
  refine b_divmod h hy hz ?_
  clear h; intro a t u s h
  walk_at "go"
  exact k _ _ _ _ (h.sub (by walk_at "sub"))

theorem dg_bound {n : Nat} : ∀ {l : List Int}, (∀ d ∈ l, 0 ≤ d ∧ d < 2 ^ n) → 0 ≤ dg n l ∧ dg n l < 2 ^ (n * l.length)
  | [], _ => by simp [dg]
  | d :: l, h => by
    have ih := dg_bound (l := l) fun d hd => h d (.tail _ hd)
    have h1 := h d (.head _)
    rw [dg, List.length_cons, Nat.mul_succ, Nat.add_comm, Int.pow_add]
    have p : (0 : Int) < 2 ^ n := Int.pow_pos (by decide)
    have h2 : 2 ^ n * dg n l ≤ 2 ^ n * (2 ^ (n * l.length) - 1) := Int.mul_le_mul_of_nonneg_left (by exact o122 ih) (Int.le_of_lt p)
    have h3 : 0 ≤ 2 ^ n * dg n l := Int.mul_nonneg (Int.le_of_lt p) ih.1
    rw [Int.mul_sub, Int.mul_one] at h2
    exact o123 h1 h3 h2

theorem xor_low (x s : Nat) : Builtin.bitXor (x : Int) ((x : Int).fdiv (2 ^ s) * 2 ^ s) = ((x % 2 ^ s : Nat) : Int) := by
  have e : (x : Int).fdiv (2 ^ s) * 2 ^ s = ((x / 2 ^ s * 2 ^ s : Nat) : Int) := by
    rw [Int.fdiv_eq_ediv_of_nonneg _ (Int.le_of_lt (Int.pow_pos (by decide)))]
    push_cast; rfl
  rw [e]
  generalize hy : x / 2 ^ s * 2 ^ s = y
  have h1 : Builtin.bitXor (x : Int) (y : Int) = ((x ||| y : Nat) : Int) - ((x &&& y : Nat) : Int) := by
    unfold Builtin.bitXor Builtin.bitOr Builtin.bitAnd Builtin.bitNot
    have a1 : decide (0 ≤ (x : Int)) = true := decide_eq_true (by walk_at "om")
    have a2 : decide (0 ≤ (y : Int)) = true := decide_eq_true (by walk_at "om")
    have a3 : decide (0 ≤ -(x : Int) - 1) = false := decide_eq_false (by exact o124)
    have a4 : decide (0 ≤ -(y : Int) - 1) = false := decide_eq_false (by exact o124)
    rw [a1, a2, a3, a4]
    try dsimp only
    have b1 : (-(-(x : Int) - 1) - 1).toNat = x := by exact o125
    have b2 : (-(-(y : Int) - 1) - 1).toNat = y := by exact o125
    rw [b1, b2, Int.toNat_natCast, Int.toNat_natCast]
    exact o126
  have h2 : x ||| y = x := by
    subst hy
    apply Nat.eq_of_testBit_eq
    intro i
    rw [Nat.testBit_or, Nat.testBit_mul_two_pow, Nat.testBit_div_two_pow]
    by_cases h : s ≤ i
    · simp [h]
    · simp [h]
  have h3 : x &&& y = y := by
    subst hy
    apply Nat.eq_of_testBit_eq
    intro i
    rw [Nat.testBit_and, Nat.testBit_mul_two_pow, Nat.testBit_div_two_pow]
    by_cases h : s ≤ i
    · simp [h]
    · simp [h]
  rw [h1, h2, h3]
  have := Nat.div_add_mod x (2 ^ s)
  rw [Nat.mul_comm] at this
  exact o127 this hy
end
end Mine
namespace Mine
section
open PySem PySem.W PyProof.Rows PySem.Calls
variable {prog : Program} {w : World} {A : Around} {b s : Shared} {L : Led} {f : Addr} {fd : FuncData} {R : Result → Shared → Prop} {vs : List Value} {ds : List Int} {r : Addr} {n : Nat} {t u tn : Tok}
noncomputable abbrev inT : Stmt := nth (stBody (nth pb 6)) 1
noncomputable def nmT : List (Str × NameKind) := (stScope inT).names
noncomputable abbrev lT : List Str := ["x", "L", "R", "mid", "shift", "upper", "lower"]

structure Dgs (n : Nat) (l : List Int) (k : Nat) (x : Int) : Prop where
  len : l.length = k
  val : dg n l = x
  all : ∀ d ∈ l, 0 ≤ d ∧ d < 2 ^ n
theorem Dgs.append {n k m : Nat} {l l' : List Int} {x y : Int} (a : Dgs n l k x) (c : Dgs n l' m y) : Dgs n (l ++ l') (k + m) (x + 2 ^ (n * k) * y) :=
  ⟨by rw [List.length_append, a.len, c.len], by rw [dg_append, a.len, a.val, c.val], fun d hd => (List.mem_append.mp hd).elim (a.all d) (c.all d)⟩

theorem IntsAre.set {vs : List Value} {ds : List Int} (h : IntsAre vs ds) : ∀ (i : Nat) (x : Int) (t : Tok), IntsAre (vs.set i (.int x t)) (ds.set i x) := by
  induction h with
  | nil => intro i x t; exact .nil
  | cons n t' h ih =>
    intro i x t
    cases i with
    | zero => exact .cons _ _ h
    | succ i => exact .cons _ _ (ih i x t)
theorem splice {α : Type} (ds p : List α) (i j : Nat) (hi : i ≤ j) (hj : j ≤ ds.length) (hp : p.length = j - i) : (ds.take i ++ p ++ ds.drop j).length = ds.length := by
  simp only [List.length_append, List.length_take, List.length_drop, hp]; exact o128 hi hj

theorem put_c {cl : List (Str × Addr)} {ci cd cn : Addr} (lim : b.heap.NoLimit) (F : FdIs fd inT cl) (hcl : cl = [(Str.ofString "n", cn), (Str.ofString "inner", ci), (Str.ofString "a_digits", cd)]) (hn : 0 < n) (hn' : n ≤ 1000) :
    ∀ (m : Nat) (A : Around) (s : Shared) (L : Led) (x i j : Nat) (t u v : Tok) (vs : List Value) (ds : List Int) (R : Result → Shared → Prop), Room A (m + 2) → H b ((r, .ls vs) :: L) s → Has f (.fn fd) L → Has ci (.cl (some (.ref f))) L → Has cn (.cl (some (.int n tn))) L → Has cd (.cl (some (.ref r))) L → IntsAre vs ds →
      i < j → j ≤ ds.length → ds.length ≤ 1000 → j - i ≤ m → x < 2 ^ (n * (j - i)) → n * ds.length ≤ 1000 → (∀ vs' p s', IntsAre vs' (ds.take i ++ p ++ ds.drop j) → Dgs n p (j - i) x → H b ((r, .ls vs') :: L) s' → R (.ok (.ret .none)) s') → codeAny (model prog w) A (.call (.ref f) ⟨[.int x t, .int i u, .int j v], []⟩) R s := by
  subst hcl
  intro m
  induction m with
  | zero => intro A s L x i j t u v vs ds R _ _ _ _ _ _ _ h1 h2 _ h3; exact (o104 h3 h1).elim
  | succ m ih =>
    intro A s L x i j t u v vs ds R hA h hf hci hcn hcd hi h1 h2 hl h3 hx hb k
    refine enterF (st := inT) (nm := nmT) (names := lT) (vals := [some (.int x t), some (.int i u), some (.int j v), none, none, none, none]) (binds := [("x", .int x t), ("L", .int i u), ("R", .int j v)]) (Fn.of h (.tail hf) F lim) hA h
      (BindsTo.of_eq (bind_of F.params F.d1 F.d2 (t := fun _ => pure _) (fun q => by kernel_rfl))) rfl (by kernel_rfl) (by kernel_rfl) (by kernel_rfl) (by decide +kernel) rfl rfl rfl ?_
    clear h
    intro La s e A' E' he _ hA h
    refine st_hide ?_
    intro _ _
    walk_at "go"
    by_cases hij : j = i + 1
    · subst hij
      rw [if_pos (by simp)]
      walk_at "go"
      have hlen := hi.length
      refine set_l h (.tail .head) rfl rfl (by exact o129 h2 hlen) (by walk_at "om") ?_
      clear h; intro s h
      try dsimp only
      walk_at "go"
      refine wpAny_Return_none ?_
      walk_at "go"
      rw [Nat.add_sub_cancel_left, Nat.mul_one] at hx
      refine k (vs.set i (.int x t)) [(x : Int)] s ?_ ⟨by simp, by simp [dg], by simp; exact_mod_cast hx⟩ (h.sub (by walk_at "sub"))
      have e : ds.take i ++ [(x : Int)] ++ ds.drop (i + 1) = ds.set i (x : Int) := by
        rw [List.set_eq_take_append_cons_drop, if_pos (by exact o105 h2)]; simp
      rw [e]
      exact IntsAre.set hi i _ _
    · rw [if_neg (by simp; exact o107 hij)]
      walk_at "go"
      have hm : ((i : Int) + (j : Int)).fdiv (2 ^ (1 : Int).toNat) = (((i + j) / 2 : Nat) : Int) := by
        rw [Int.fdiv_eq_ediv_of_nonneg _ (by decide)]; rfl
      generalize hme : (i + j) / 2 = m' at hm
      simp only [hm] at h ⊢
      have him : i < m' := by exact o108 hme h1 hij
      have hmj : m' < j := by exact o109 hme him
      clear hme hm hij
      have hsh : ((m' : Int) - (i : Int)) * (n : Int) = ((n * (m' - i) : Nat) : Int) := by
        rw [Int.natCast_mul, Int.natCast_sub (by exact o110 him), Int.mul_comm]
      have hnm : n * (m' - i) ≤ n * ds.length := Nat.mul_le_mul_left _ (by exact o130 hmj h2)
      refine o_mul h ?_ (bits_small (by exact o112 hmj him hl h2)) (bits_small (by exact o113 hn'))
      rw [hsh]
      clear h; intro _ s h
      generalize hS : n * (m' - i) = S at h hnm hsh ⊢
      have hx1 : x < 2 ^ 1000 := Nat.lt_of_lt_of_le hx (Nat.pow_le_pow_right (by decide) (Nat.le_trans (Nat.mul_le_mul_left n (show j - i ≤ ds.length by exact o131 h2)) hb))
      have hup : (x : Int).fdiv (2 ^ (S : Int).toNat) = ((x / 2 ^ S : Nat) : Int) := by
        rw [Int.toNat_natCast, Int.fdiv_eq_ediv_of_nonneg _ (Int.le_of_lt (Int.pow_pos (by decide)))]; push_cast; rfl
      walk_at "go"
      simp only [hup] at h ⊢
      have hq1 : x / 2 ^ S < 2 ^ 1000 := Nat.lt_of_le_of_lt (Nat.div_le_self ..) hx1
      refine o_shl h ?_ (by walk_at "om") (bits_1000 hq1) (by exact o132 hb hnm)
      have hlow : Builtin.bitXor (x : Int) (((x / 2 ^ S : Nat) : Int) * 2 ^ (S : Int).toNat) = ((x % 2 ^ S : Nat) : Int) := by
        have := xor_low x S
        rw [← hup, Int.toNat_natCast]; exact this
      clear h; intro _ s h
      walk_at "go"
      simp only [hlow] at h ⊢
      have hpow : 2 ^ (n * (j - i)) = 2 ^ (n * (j - m')) * 2 ^ S := by
        rw [← hS, ← Nat.pow_add, ← Nat.mul_add]; congr 2; exact o133 him hmj
      walk_at "cwm"
      have hlv := hi.length
      refine ih A' s _ (x % 2 ^ S) i m' _ _ _ vs ds _ (hA.less (by exact o114)) (h.perm (.swap ..)) (.tail hf) (.tail hci) (.tail hcn) (.tail hcd) hi (by walk_at "om") (by exact o117 hmj h2) hl (by exact o118 h3 hmj) (by rw [hS]; exact Nat.mod_lt _ (Nat.two_pow_pos _)) hb ?_
      clear h
      intro vs1 p1 s hi1 hd1 h
      try dsimp only
      have h := h.perm (.swap ..)
      walk_at "go"
      walk_at "cwm"
      have hl1 : p1.length = m' - i := hd1.len
      have hlen1 : (ds.take i ++ p1 ++ ds.drop m').length = ds.length := splice ds p1 i m' (by exact o110 him) (by exact o117 hmj h2) hl1
      refine ih A' s _ (x / 2 ^ S) m' j _ _ _ vs1 (ds.take i ++ p1 ++ ds.drop m') _ (hA.less (by exact o114)) (h.perm (.swap ..)) (.tail hf) (.tail hci) (.tail hcn) (.tail hcd) hi1 (by walk_at "om") (by exact o134 hlen1 h2) (by exact o135 hlen1 hl) (by exact o115 h3 him) (Nat.div_lt_of_lt_mul (by rw [Nat.mul_comm, ← hpow]; exact hx)) (by rw [hlen1]; exact hb) ?_
      clear h
      intro vs2 p2 s hi2 hd2 h
      try dsimp only
      have h := h.perm (.swap ..)
      walk_at "go"
      refine k vs2 (p1 ++ p2) s ?_ ?_ (h.sub (by walk_at "sub"))
      · have e : (ds.take i ++ p1 ++ ds.drop m').take m' ++ p2 ++ (ds.take i ++ p1 ++ ds.drop m').drop j = ds.take i ++ (p1 ++ p2) ++ ds.drop j := by
          have l1 : (ds.take i ++ p1).length = m' := by simp [hl1]; exact o136 him hmj h2
          rw [List.take_append_of_le_length (by exact o137 l1), List.take_of_length_le (by exact o138 l1), List.drop_append, List.drop_of_length_le (by exact o139 hmj l1), l1, List.drop_drop, List.nil_append]
          simp only [List.append_assoc]
          congr 4; exact o140 hmj
        rw [← e]; exact hi2
      · have := hd1.append hd2
        have e1 : m' - i + (j - m') = j - i := by exact o141 hmj him
        have e2 : ((x % 2 ^ S : Nat) : Int) + 2 ^ (n * (m' - i)) * ((x / 2 ^ S : Nat) : Int) = (x : Int) := by
          rw [hS]; have := Nat.mod_add_div x (2 ^ S); exact_mod_cast this
        rw [e1, e2] at this
        exact this
end
end Mine
namespace Mine
section
open PySem PySem.W PyProof.Rows PySem.Calls
variable {prog : Program} {w : World} {A : Around} {b s : Shared} {L : Led} {f : Addr} {fd : FuncData} {R : Result → Shared → Prop} {vs : List Value} {ds : List Int} {r : Addr} {n : Nat} {t u tn : Tok}
theorem reps (x : Int) (t : Tok) : ∀ m : Nat, IntsAre (List.replicate m (.int x t)) (List.replicate m x)
  | 0 => .nil
  | m + 1 => .cons _ _ (reps x t m)
noncomputable def nmI6 : List (Str × NameKind) := (stScope (nth pb 6)).names
theorem i2d {P : Addr} {q : Str} {x : Nat} (F : FnIs b f (nth pb 6) fd) (d1 : fd.defaults = .none) (d2 : fd.kwdefaults = .none) (T : Tb b fd P q) (Bx : Bm b) (hlen : Blt b "len" (.builtin "len"))
    (hA : Room A 310) (h : H b L s) (hP : Has P (.tb (stPos inT) q) L) (hn : 0 < n) (hn' : n ≤ 300) (hx : x < 2 ^ 300)
    (k : ∀ r vs ds m s', IntsAre vs ds → Dgs n ds m x → m ≤ 300 → H b ((r, .ls vs) :: L) s' → R (.ok (.ret (.ref r))) s') : codeAny (model prog w) A (.call (.ref f) ⟨[.int x t, .int n tn], []⟩) R s := by
  refine byName fun _ kk_ => ?_
  obtain ⟨c, hc, C⟩ := T.ex
  refine kk_ ?_
  clear kk_
  refine enterC (d := 309) (nm := nmI6) (names := ["a"]) (vals := [some (.int x t)]) (cn := ["inner", "a_digits", "n"]) (cvals := [none, none, some (.int n tn)]) (binds := [("a", .int x t), ("n", .int n tn)]) F hA h
    (bind_of F.params d1 d2 (t := fun _ => pure _) (fun q => by kernel_rfl)) rfl (by kernel_rfl) (by kernel_rfl) (by decide +kernel) rfl (by kernel_rfl) (by decide +kernel) rfl rfl rfl ?_
  clear h
  intro La s e A' E' ca hca he hcode hqual hA h
  refine byName fun _ kk_ => ?_
  obtain ⟨c3, c2, c1, rfl⟩ := ln3 hca
  refine kk_ ?_
  clear kk_
  simp only [List.zip_cons_cons, List.zip_nil_right, List.map_cons, List.map_nil, List.cons_append, List.nil_append] at he h
  replace he := he
  have hqn : qualnameIn e "inner" "inner" = q := by
    unfold qualnameIn
    have : (e.kindOf "inner" == some .globalExplicit) = false := by unfold Env.kindOf; rw [he.names]; kernel_rfl!
    rw [this, hqual, T.qual]; rfl
  refine st_hide ?_
  intro _ _
  walk_at "go"
  walk_at "gm"
  refine b_bits h ?_
  clear h; intro _ s h
  walk_at "go"
  refine o_div h ?_ (by exact o142 hn) (noPyS (by exact o143 hn'))
  have hbn : Builtin.Int.intBits (x : Int) ≤ 300 := intBits_le hx
  generalize hB : Builtin.Int.intBits (x : Int) = B at h hbn ⊢
  have hm : ((B : Int) + (n : Int) - 1).fdiv (n : Int) = (((B + n - 1) / n : Nat) : Int) := by
    rw [Int.fdiv_eq_ediv_of_nonneg _ (by walk_at "om")]
    have : (B : Int) + (n : Int) - 1 = ((B + n - 1 : Nat) : Int) := by exact o144 hn
    rw [this]; rfl
  have hm1 : B ≤ n * ((B + n - 1) / n) := by
    have := Nat.div_add_mod (B + n - 1) n
    have := Nat.mod_lt (B + n - 1) hn
    exact o145 (by assumption) this
  have hm2 : n * ((B + n - 1) / n) ≤ B + n - 1 := Nat.mul_div_le ..
  have hm3 : (B + n - 1) / n ≤ B := by
    rcases Nat.eq_zero_or_pos B with rfl | hp
    · rw [Nat.div_eq_of_lt (by exact o146 hn)]; exact Nat.le_refl _
    · have : B + n - 1 = (B - 1) + n := by exact o147 hp
      rw [this, Nat.add_div_right _ hn]
      have := Nat.div_le_self (B - 1) n
      exact o148 hp this
  rw [hm]
  generalize (B + n - 1) / n = m at hm1 hm2 hm3
  clear h; intro _ s h
  try dsimp only
  refine o_rep h .head rfl (by exact o149 hbn hm3) ?_
  clear h; intro lr s h
  walk_at "go"
  refine d_nest (P := P) (c := c) (q := q) (clos := [("n", c1), ("inner", c3), ("a_digits", c2)]) h he (hcode.trans hc) hqn C (.tail (.tail (.tail (.tail (.tail (.tail hP)))))) Bx rfl rfl rfl (by kernel_rfl!) ?_
  clear h
  intro fi fdi s h Fd
  walk_at "go"
  by_cases hx0 : x = 0
  · subst hx0
    rw [if_neg (by decide)]
    walk_at "go"
    have hm0 : m = 0 := by
      have : B = 0 := by rw [← hB]; rfl
      exact o150 this hm3
    subst hm0
    simp only [List.replicate_zero] at h
    exact k lr _ [] 0 _ .nil ⟨rfl, rfl, by simp⟩ (by walk_at "om") (h.sub (by walk_at "sub"))
  · rw [if_pos (by simp; walk_at "om")]
    walk_at "go"
    walk_at "cwm"
    have h := h.front (a := lr) (by walk_at "pick")
    have hB1 : 0 < B := by rw [← hB]; exact bits_pos (by exact o151 hx0)
    have hxm : x < 2 ^ (n * m) := by
      have h1 : (x : Int).natAbs < 2 ^ Builtin.Int.intBits (x : Int) := bits_lt
      rw [hB] at h1
      exact Nat.lt_of_lt_of_le h1 (Nat.pow_le_pow_right (by decide) hm1)
    have hm0 : 0 < m := by
      rcases Nat.eq_zero_or_pos m with rfl | hp
      · exact o152 hB1 hm1
      · exact hp
    rw [List.length_replicate]
    refine put_c (cl := [("n", c1), ("inner", c3), ("a_digits", c2)]) F.lim Fd rfl hn (by exact o153 hn') m A' _ _ x 0 m _ _ _ _ _ _ (hA.less (by exact o154 hbn hm3)) h (by walk_at "mem") (by walk_at "mem") (by walk_at "mem") (by walk_at "mem") (reps _ _ _) hm0 (by simp) (by simp; exact o155 hbn hm3) (by exact o120) (by simpa using hxm) (by simp; exact o156 hm2 hn' hbn) ?_
    clear h
    intro vs' p s hi hd h
    try dsimp only
    walk_at "go"
    simp only [List.take_zero, List.nil_append, List.drop_replicate, Nat.sub_self, List.replicate_zero, List.append_nil, Nat.sub_zero] at hi hd
    exact k lr _ p m _ hi hd (by exact o157 hbn hm3) (h.sub (by walk_at "sub"))
end
end Mine
namespace Mine
section
open PySem PySem.W PyProof.Rows PySem.Calls
variable {prog : Program} {w : World} {A : Around} {b s : Shared} {L : Led} {f : Addr} {fd : FuncData} {R : Result → Shared → Prop} {vs : List Value} {ds : List Int} {r : Addr} {n : Nat} {t u tn : Tok} {x y : Int}
structure Ari (b : Shared) : Prop where
  lim : ∃ t, Glb b "_DIV_LIMIT" (.int 4000 t)
  len : Blt b "len" (.builtin "len")
  dvm : Blt b "divmod" (.builtin "divmod")
  rev : Blt b "reversed" (.type "reversed")
  bm : Bm b
  d21 : ∃ f fd, Def b "_div2n1n" 4 f fd
  d8 : ∃ f fd, Def b "_divmod_pos" 8 f fd
  d9 : ∃ f fd, Def b "int_divmod" 9 f fd
noncomputable def InnerOf (i : Nat) (st : Stmt) (nm : Str) (b : Shared) (P : Addr) (q : Str) : Prop := ∃ f fd, Def b nm i f fd ∧ Tb b fd P q
theorem IntsAre.snoc {vs : List Value} {ds : List Int} (h : IntsAre vs ds) (x : Int) (t : Tok) : IntsAre (vs ++ [.int x t]) (ds ++ [x]) := IntsAre.append h (.cons _ _ .nil)
theorem IntsAre.reverse {vs : List Value} {ds : List Int} (h : IntsAre vs ds) : IntsAre vs.reverse ds.reverse := by
  induction h with
  | nil => exact .nil
  | cons n t h ih => rw [List.reverse_cons, List.reverse_cons]; exact IntsAre.snoc ih _ _
noncomputable def nm8 : List (Str × NameKind) := (stScope (nth pb 8)).names
noncomputable abbrev l8 : List Str := ["a", "b", "n", "a_digits", "r", "q_digits", "a_digit", "q_digit", "q"]
theorem dvp {P P' : Addr} {q q' : Str} {x y : Nat} (a : Ari b) (I6 : InnerOf 6 inT "_int2digits" b P q) (I7 : InnerOf 7 inS "_digits2int" b P' q') (F : Def b "_divmod_pos" 8 f fd)
    (hA : Room A 320) (h : H b L s) (hP : Has P (.tb (stPos inT) q) L) (hP' : Has P' (.tb (stPos inS) q') L) (hx : x < 2 ^ 300) (hy : 0 < y) (hy' : y < 2 ^ 300)
    (k : ∀ a t u s', H b ((a, .ob (tup [.int (x / y : Nat) t, .int (x % y : Nat) u])) :: L) s' → R (.ok (.ret (.ref a))) s') : codeAny (model prog w) A (.call (.ref f) ⟨[.int x t, .int y u], []⟩) R s := by
  refine byName fun _ kk_ => ?_
  obtain ⟨tl, hlim⟩ := a.lim
  obtain ⟨f6, fd6, D6, T6⟩ := I6
  obtain ⟨f7, fd7, D7, T7⟩ := I7
  obtain ⟨f4, fd4, D4⟩ := a.d21
  refine kk_ ?_
  clear kk_
  have g6 := D6.glb
  have g7 := D7.glb
  have g4 := D4.glb
  have hrev := a.rev
  have F6 := D6.fn
  have F7 := D7.fn
  have F4 := D4.fn
  refine enter (nm := nm8) (names := l8) (vals := [some (.int x t), some (.int y u), none, none, none, none, none, none, none]) (binds := [("a", .int x t), ("b", .int y u)]) F.fn hA h
    (BindsTo.of_eq (bind_of F.fn.params F.d1 F.d2 (t := fun _ => pure _) (fun q => by kernel_rfl))) rfl (by kernel_rfl) (by kernel_rfl) (by kernel_rfl) (by decide +kernel) rfl rfl rfl ?_
  clear h
  intro La s e A' E' he hA h
  refine st_hide ?_
  intro _ _
  walk_at "go"
  walk_at "gm"
  refine b_bits h ?_
  clear h; intro _ s h
  have hn0 : 0 < Builtin.Int.intBits (y : Int) := bits_pos (by exact o142 hy)
  have hn1 : Builtin.Int.intBits (y : Int) ≤ 300 := intBits_le hy'
  have hyn : (y : Int).natAbs < 2 ^ Builtin.Int.intBits (y : Int) := bits_lt
  rw [Int.natAbs_natCast] at hyn
  generalize Builtin.Int.intBits (y : Int) = n at h hn0 hn1 hyn ⊢
  walk_at "go"
  walk_at "cw"
  refine i2d F6 D6.d1 D6.d2 T6 a.bm a.len (hA.less (by walk_at "om")) h (by walk_at "mem") hn0 hn1 hx ?_
  clear h
  intro lr vs ds m s hi hd hm h
  try dsimp only
  walk_at "go"
  have hlv : vs.length = m := hi.length.trans hd.len
  refine b_rev h (by walk_at "mem") ?_
  clear h; intro it s h
  refine iter_rv h .head ?_
  have hlen := hd.len
  have hp : (0 : Int) < 2 ^ n := Int.pow_pos (by decide)
  refine loop (n := m) ((src_rv (l := lr) (vs := vs) hA.handled).len hlv) (fun i L' => Ex6 fun (qv : List Value) (qd : List Int) (rr : Int) (tr : Tok) (v1 v2 : Option Value) => Cj8 (L' = (_, .ls qv) :: (lr, .ls vs) :: (La, .fr l8 [some (.int x t), some (.int y u), some (.int n _), some (.ref lr), some (.int rr tr), some (.ref _), v1, v2, none]) :: L) (IntsAre qv qd) (qd.length = i) (i ≤ m) (dg n qd.reverse * y + rr = dg n (ds.drop (m - i))) (0 ≤ rr) (rr < y) (∀ d ∈ qd, 0 ≤ d ∧ d < 2 ^ n)) (fun i L' hz => ?_) h
    ⟨[], [], 0, _, none, none, rfl, .nil, rfl, Nat.zero_le _, by rw [Nat.sub_zero, ← hlen, List.drop_length]; simp [dg], by walk_at "om", by exact o158 hy, by simp⟩ ?_ ?_
  · obtain ⟨qv, qd, rr, tr, v1, v2, rfl, _⟩ := hz
    exact .tail .head
  · clear h
    intro i v G L' s E J hJ hi' hv hz h
    refine byName fun _ kk_ => ?_
    obtain ⟨qv, qd, rr, tr, v1, v2, rfl, hq, hql, him, hval, hr0, hr1, hqa⟩ := hz
    obtain ⟨hv, rfl⟩ := hv
    refine kk_ ?_
    clear kk_
    have hid : ds[m - 1 - i]? = some (ds[m - 1 - i]'(by exact o159 hi' hlen)) := List.getElem?_eq_getElem _
    generalize hdd : ds[m - 1 - i]'(by exact o159 hi' hlen) = d at hid
    obtain ⟨td, hvd⟩ := IntsAre.get hi _ _ hid
    rw [List.getElem?_reverse (by walk_at "om"), hlv, hvd] at hv
    obtain rfl := Option.some.inj hv
    have hd1 := hd.all d (List.mem_of_getElem? hid)
    simp only [List.cons_append, List.nil_append] at h
    walk_at "go"
    walk_at "cwa"
    have hrn : rr.natAbs < 2 ^ 300 := by
      have : rr.natAbs < y := by exact o160 hr0 hr1
      exact Nat.lt_trans this hy'
    refine o_shl h ?_ (by walk_at "om") (bits_1000 (Nat.lt_of_lt_of_le hrn (Nat.pow_le_pow_right (by decide) (by decide)))) (by exact o161 hn1)
    rw [Int.toNat_natCast]
    clear h; intro _ s h
    walk_at "cwz"
    have hcur : 0 ≤ rr * 2 ^ n + d ∧ rr * 2 ^ n + d < y * 2 ^ n := by
      have h1 : 0 ≤ rr * 2 ^ n := Int.mul_nonneg hr0 (Int.le_of_lt hp)
      have h2 : rr * 2 ^ n ≤ (y - 1) * 2 ^ n := Int.mul_le_mul_of_nonneg_right (by exact o162 hr1) (Int.le_of_lt hp)
      rw [Int.sub_mul, Int.one_mul] at h2
      exact o163 hd1 h1 h2
    have hbits : Builtin.Int.intBits (rr * 2 ^ n + d) ≤ 4000 := by
      refine Nat.le_trans (intBits_le (k := n + n) ?_) (by exact o164 hn1)
      have h3 : (y : Int) * 2 ^ n ≤ 2 ^ n * 2 ^ n := Int.mul_le_mul_of_nonneg_right (Int.le_of_lt (by exact_mod_cast hyn)) (Int.le_of_lt hp)
      rw [← Int.pow_add] at h3
      have h4 : ((rr * 2 ^ n + d).natAbs : Int) < ((2 ^ (n + n) : Nat) : Int) := by push_cast; exact o165 hcur h3
      exact_mod_cast h4
    refine div21 F4 D4.d1 D4.d2 hlim a.dvm (hA.less (by walk_at "om")) h hbits (by walk_at "om") (by exact o166 hr0 hr1) (by rw [Int.natAbs_natCast]; exact Nat.lt_of_lt_of_le hy' (Nat.pow_le_pow_right (by decide) (by decide))) ?_
    clear h
    intro ta _ _ s h
    try dsimp only
    walk_at "go"
    walk_at "gm"
    walk_at "go"
    refine l_append h (by walk_at "upd") (by have := hq.length; exact o167 this hql hm him) ?_
    clear h; intro s h
    try dsimp only
    walk_at "go"
    refine ⟨_, h.sub (List.sublist_cons_self ..), _, _, _, _, _, _, rfl, IntsAre.snoc hq _ _, by simp [hql], hi', ?_, ?_, ?_, ?_⟩
    · have e1 : ds.drop (m - (i + 1)) = d :: ds.drop (m - i) := by
        have : m - (i + 1) = m - 1 - i := by rw [Nat.sub_sub, Nat.add_comm 1 i]
        rw [this, List.drop_eq_getElem_cons (by exact o159 hi' hlen), hdd]
        congr 2; exact o168 hi'
      rw [e1, dg, ← hval, List.reverse_append, List.reverse_cons, List.reverse_nil, List.nil_append, List.cons_append, List.nil_append, dg]
      have e2 := Int.mul_fdiv_add_fmod (rr * 2 ^ n + d) (y : Int)
      rw [Int.mul_add, Int.add_mul]
      have e3 : (y : Int) * (rr * 2 ^ n + d).fdiv (y : Int) = (rr * 2 ^ n + d).fdiv (y : Int) * y := Int.mul_comm ..
      have e4 : 2 ^ n * (dg n qd.reverse * y) = 2 ^ n * dg n qd.reverse * y := (Int.mul_assoc ..).symm
      have e5 : rr * 2 ^ n = 2 ^ n * rr := Int.mul_comm ..
      exact o169 e2 e5 e3 e4
    · exact Int.fmod_nonneg_of_pos _ (by exact o170 hr0 hr1)
    · exact Int.fmod_lt_of_pos _ (by exact o170 hr0 hr1)
    · intro z hz
      rcases List.mem_append.mp hz with hz | hz
      · exact hqa z hz
      · obtain rfl := List.mem_singleton.mp hz
        rw [Int.fdiv_eq_ediv_of_nonneg _ (by walk_at "om")]
        exact ⟨Int.ediv_nonneg hcur.1 (by walk_at "om"), Int.ediv_lt_of_lt_mul (by exact o170 hr0 hr1) (by rw [Int.mul_comm (2 ^ n)]; exact hcur.2)⟩
  · clear h
    intro L' s hz h
    refine byName fun _ kk_ => ?_
    obtain ⟨qv, qd, rr, tr, v1, v2, rfl, hq, hql, him, hval, hr0, hr1, hqa⟩ := hz
    refine kk_ ?_
    clear kk_
    try dsimp only
    walk_at "go"
    walk_at "gm"
    refine l_reverse h (by walk_at "upd") (by have := hq.length; exact o171 this hql hm) ?_
    clear h; intro s h
    try dsimp only
    walk_at "go"
    walk_at "cw"
    refine d2i (ds := qd.reverse) F7 D7.d1 D7.d2 T7 a.bm a.len (hA.less (by simp; exact o172 hql hm)) h (by walk_at "mem") (by walk_at "mem") (IntsAre.reverse hq) ?_ (by simp; exact o173 hql hm) (by exact o153 hn1) ?_
    · intro i j
      have hb := dg_bound (n := n) (l := (qd.reverse.drop i).take (j - i)) fun z hz => hqa z (List.mem_reverse.mp (List.mem_of_mem_drop (List.mem_of_mem_take hz)))
      have hle : ((qd.reverse.drop i).take (j - i)).length ≤ 300 := by simp; exact o174 hql hm
      refine Nat.le_trans (intBits_le (k := n * ((qd.reverse.drop i).take (j - i)).length) ?_) (Nat.le_trans (Nat.mul_le_mul hn1 hle) (by decide))
      have h4 : ((sg n qd.reverse i j).natAbs : Int) < ((2 ^ (n * ((qd.reverse.drop i).take (j - i)).length) : Nat) : Int) := by
        unfold sg; push_cast; exact o175 hb
      exact_mod_cast h4
    clear h
    intro _ s h
    try dsimp only
    walk_at "go"
    rw [Nat.sub_self, List.drop_zero, hd.val] at hval
    have e1 : dg n qd.reverse = ((x / y : Nat) : Int) := by
      rw [Int.natCast_ediv, ← hval, Int.add_comm, Int.add_mul_ediv_right _ _ (by exact o166 hr0 hr1), Int.ediv_eq_zero_of_lt hr0 hr1]; exact o176
    have e2 : rr = ((x % y : Nat) : Int) := by
      rw [Int.natCast_emod, ← hval, Int.add_comm, Int.add_mul_emod_self_right, Int.emod_eq_of_lt hr0 hr1]
    rw [e1, e2] at h
    exact k _ _ _ _ (h.sub (by walk_at "sub"))

theorem flip_div {x y : Int} (hy : 0 < y) : -((-x - 1).fdiv y) - 1 = x.fdiv y ∧ y + (-((-x - 1).fmod y) - 1) = x.fmod y := by
  rw [Int.fdiv_eq_ediv_of_nonneg _ (by exact o177 hy), Int.fdiv_eq_ediv_of_nonneg _ (by exact o177 hy), Int.fmod_eq_emod_of_nonneg _ (by exact o177 hy), Int.fmod_eq_emod_of_nonneg _ (by exact o177 hy)]
  have h1 := Int.mul_ediv_add_emod (-x - 1) y
  have h2 := Int.emod_nonneg (-x - 1) (show y ≠ 0 by exact o178 hy)
  have h3 := Int.emod_lt_of_pos (-x - 1) hy
  have := (Int.ediv_emod_unique (a := x) (b := y) (r := y + (-((-x - 1) % y) - 1)) (q := -((-x - 1) / y) - 1) hy).mpr ⟨by rw [Int.mul_sub, Int.mul_neg]; exact o179 h1, by exact o180 h3, by exact o181 h2⟩
  exact ⟨this.1.symm, this.2.symm⟩
noncomputable def nm9 : List (Str × NameKind) := (stScope (nth pb 9)).names
theorem dvm {P P' : Addr} {q q' : Str} (a : Ari b) (I6 : InnerOf 6 inT "_int2digits" b P q) (I7 : InnerOf 7 inS "_digits2int" b P' q') (D : Def b "int_divmod" 9 f fd) :
    ∀ (m : Nat) (A : Around) (s : Shared) (L : Led) (x y : Int) (t u : Tok) (R : Result → Shared → Prop), m = (if y < 0 then 1 else 0) + (if y < 0 then (if -x < 0 then 1 else 0) else if x < 0 then 1 else 0) →
    Room A (330 + m) → H b L s → Has P (.tb (stPos inT) q) L → Has P' (.tb (stPos inS) q') L → x.natAbs < 2 ^ 299 → y ≠ 0 → y.natAbs < 2 ^ 299 →
    (∀ a t u s', H b ((a, .ob (tup [.int (x.fdiv y) t, .int (x.fmod y) u])) :: L) s' → R (.ok (.ret (.ref a))) s') → codeAny (model prog w) A (.call (.ref f) ⟨[.int x t, .int y u], []⟩) R s := by
  intro m
  induction m using Nat.strongRecOn with
  | _ m ih =>
  intro A s L x y t u R hm hA h hP hP' hx hy0 hy k
  refine byName fun _ kk_ => ?_
  obtain ⟨f8, fd8, D8⟩ := a.d8
  refine kk_ ?_
  clear kk_
  have g8 := D8.glb
  have F8 := D8.fn
  have g9 := D.glb
  have F9 := D.fn
  refine enter (d := 329 + m) (nm := nm9) (names := ["a", "b", "q", "r"]) (vals := [some (.int x t), some (.int y u), none, none]) (binds := [("a", .int x t), ("b", .int y u)]) D.fn (by rw [show 329 + m + 1 = 330 + m by exact o182]; exact hA) h
    (BindsTo.of_eq (bind_of D.fn.params D.d1 D.d2 (t := fun _ => pure _) (fun q => by kernel_rfl))) rfl (by kernel_rfl) (by kernel_rfl) (by kernel_rfl) (by decide +kernel) rfl rfl rfl ?_
  clear h
  intro La s e A' E' he hA h
  refine st_hide ?_
  intro _ _
  walk_at "go"
  rw [if_neg (by simpa using hy0)]
  walk_at "go"
  by_cases hyn : y < 0
  · rw [if_pos (by simpa using hyn)]
    walk_at "go"
    walk_at "cw"
    refine ih (if -x < 0 then 1 else 0) (by rw [hm, if_pos hyn, if_pos hyn]; exact o183) A' _ _ (-x) (-y) _ _ _ (by rw [if_neg (show ¬ (-y < 0) by exact o184 hyn), if_neg (show ¬ (-y < 0) by exact o184 hyn), Nat.zero_add]) (hA.less (by rw [hm, if_pos hyn, if_pos hyn]; exact o185)) h (.tail hP) (.tail hP') (by exact o186 hx) (by exact o187 hyn) (by exact o186 hy) ?_
    clear h
    intro ta _ _ s h
    try dsimp only
    walk_at "go"
    have e1 : (-x).fdiv (-y) = x.fdiv y := Int.neg_fdiv_neg ..
    have e2 : -((-x).fmod (-y)) = x.fmod y := by rw [Int.neg_fmod_neg]; exact o188
    rw [e1, e2] at h
    exact k _ _ _ _ (h.sub (by walk_at "sub"))
  · rw [if_neg (by simpa using hyn)]
    walk_at "go"
    by_cases hxn : x < 0
    · rw [if_pos (by simpa using hxn)]
      walk_at "go"
      walk_at "cw"
      refine ih 0 (by rw [hm, if_neg hyn, if_neg hyn, if_pos hxn]; walk_at "om") A' _ _ (-x - 1) y _ _ _ (by rw [if_neg hyn, if_neg hyn, if_neg (by exact o189 hxn)]) (hA.less (by rw [hm, if_neg hyn, if_neg hyn, if_pos hxn]; walk_at "om")) h (.tail hP) (.tail hP') (by exact o190 hx hxn) (by walk_at "om") (by walk_at "om") ?_
      clear h
      intro ta _ _ s h
      try dsimp only
      walk_at "go"
      obtain ⟨e1, e2⟩ := flip_div (x := x) (y := y) (by exact o191 hy0 hyn)
      rw [e2] at h; try rw [e1] at h
      exact k _ _ _ _ (h.sub (by walk_at "sub"))
    · rw [if_neg (by simpa using hxn)]
      walk_at "go"
      walk_at "cw"
      have e1 : x = ((x.toNat : Nat) : Int) := by exact o192 hxn
      have e2 : y = ((y.toNat : Nat) : Int) := by exact o192 hyn
      rw [e1, e2] at h ⊢
      refine dvp a I6 I7 D8 (hA.less (by exact o193)) h (.tail hP) (.tail hP') ?_ (by exact o194 e2 hy0) ?_ ?_
      · have : x.toNat = x.natAbs := by exact o195 e1
        rw [this]; exact Nat.lt_trans hx (Nat.pow_lt_pow_right (by decide) (by decide))
      · have : y.toNat = y.natAbs := by exact o195 e2
        rw [this]; exact Nat.lt_trans hy (Nat.pow_lt_pow_right (by decide) (by decide))
      clear h
      intro ta _ _ s h
      try dsimp only
      have e3 : ((x.toNat / y.toNat : Nat) : Int) = x.fdiv y := by rw [Int.natCast_ediv, ← e1, ← e2, Int.fdiv_eq_ediv_of_nonneg _ (by exact o196 e2)]
      have e4 : ((x.toNat % y.toNat : Nat) : Int) = x.fmod y := by rw [Int.natCast_emod, ← e1, ← e2, Int.fmod_eq_emod_of_nonneg _ (by exact o196 e2)]
      rw [e3, e4] at h
      walk_at "go"
      exact k _ _ _ _ (h.sub (by walk_at "sub"))
end
end Mine
namespace Mine
section
open PySem PySem.W PyProof.Rows PySem.Calls
variable {prog : Program} {w : World} {A : Around} {b s : Shared} {L : Led} {f : Addr} {fd : FuncData} {R : Result → Shared → Prop} {t u tn : Tok} {want got : Str}
noncomputable def nmE : List (Str × NameKind) := (stScope (nth pb 16)).names
noncomputable def ell (got : Str) (n : Int) : List Str → Int → Bool
  | [], _ => true
  | w :: r, p => if find4 got w p n < 0 then false else ell got n r (find4 got w p n + w.length)
structure Ell (b : Shared) : Prop where
  dots : ∃ t, Glb b "ELLIPSIS_MARKER" (.str "..." t)
  len : Blt b "len" (.builtin "len")
noncomputable abbrev lE : List Str := ["want", "got", "ws", "startpos", "endpos", "w"]
theorem ellc {ws : List Str} {d : Nat} (a : Ell b) (D : Def b "_ellipsis_match" 16 f fd) (hA : Room A 3) (h : H b L s)
    (hc : Txt.contains want "..." = true) (hsp : Txt.split want "..." = ws) (hws : ws = Str.empty :: (ws.drop 1)) (hw0 : ws[ws.length - 1]? = some Str.empty) (hl2 : 2 ≤ ws.length) (hwl : ws.length ≤ 1000) (hwa : ∀ w ∈ ws, w.length ≤ 1000) (hl : want.length ≤ 1000) (hg : got.length ≤ 1000)
    (hp : (Builtin.Str.partsBetween want (Builtin.Str.occurrences want "..." 0 want.length (want.length + 1)) 3).length ≤ 1000)
    (k : ∀ s', H b L s' → R (.ok (.ret (.bool (ell got got.length ws 0)))) s') : codeAny (model prog w) A (.call (.ref f) ⟨[.str want t, .str got u], []⟩) R s := by
  obtain ⟨td, hdots⟩ := a.dots
  have hlen := a.len
  refine enter (d := 2) (nm := nmE) (names := lE) (vals := [some (.str want t), some (.str got u), none, none, none, none]) (binds := [("want", .str want t), ("got", .str got u)]) D.fn hA h
    (BindsTo.of_eq (bind_of D.fn.params D.d1 D.d2 (t := fun _ => pure _) (fun q => by kernel_rfl))) rfl (by kernel_rfl) (by kernel_rfl) (by kernel_rfl) (by decide +kernel) rfl rfl rfl ?_
  clear h
  intro La s e A' E' he hA h
  refine st_hide ?_
  intro _ _
  walk_at "go"
  rw [if_neg (by rw [hc]; decide)]
  walk_at "go"
  walk_at "gm"
  walk_at "go"
  refine s_split h (by decide +kernel) (by exact o197 hl) (Nat.le_trans hp (by walk_at "om")) ?_
  rw [hsp]
  clear h
  intro lw vs s hvs h
  walk_at "go"
  have hvl : vs.length = ws.length := strs_len hvs
  refine wpAny_Assert_new hA.handled ?_
  have hvz : vs.length < 2 ^ 60 := by walk_at "om"
  walk_at "go"
  have e2 : decide ((2 : Int) ≤ (vs.length : Int)) = true := decide_eq_true (by exact o198 hl2 hvl)
  rw [e2, if_pos rfl]
  try dsimp only
  walk_at "go"
  obtain ⟨t0, hv0⟩ := StrsAre.at hvs (k := 0) (a := Str.empty) (by rw [hws]; rfl)
  obtain ⟨t1, hv1⟩ := StrsAre.at hvs hw0
  have hze : (Str.empty).length ≤ 2 ^ 20 := by decide
  refine item_l h (by walk_at "mem") (by walk_at "om") hv0 (by walk_at "om") ?_ rfl
  walk_at "go"
  rw [if_neg (by decide)]
  walk_at "go"
  refine item_ln h (by walk_at "mem") (by walk_at "om") (by exact o199 hl2 hvl) (by walk_at "om") (v := .str Str.empty t1) ?_ ?_ rfl
  · rw [show ((-1 : Int) + (vs.length : Int)).toNat = ws.length - 1 by exact o200 hvl]; exact hv1
  walk_at "go"
  rw [if_neg (by decide)]
  walk_at "go"
  rw [if_neg (by simp)]
  walk_at "go"
  refine iter_l h (by walk_at "mem") ?_
  clear h; intro it s h
  refine loop (n := vs.length) (src_l (l := lw) (vs := vs) hA.handled) (fun i L' => Ex3 fun (p : Int) (tp : Tok) (v : Value) => Cj3 (L' = _ :: (lw, .ls vs) :: (La, .fr lE [some (.str want t), some (.str got u), some (.ref lw), some (.int p tp), some (.int got.length _), some v]) :: L) (0 ≤ p) (ell got got.length ws 0 = ell got got.length (ws.drop i) p)) (fun i L' hz => ?_) h ⟨0, _, _, rfl, by walk_at "om", by rw [List.drop_zero]⟩ ?_ ?_
  · obtain ⟨p, tp, v, rfl, _⟩ := hz
    exact .tail .head
  · clear h
    intro i v G L' s E J hJ hi hv hz h
    refine byName fun _ kk_ => ?_
    obtain ⟨p, tp, v0, rfl, hp0, hell⟩ := hz
    obtain ⟨hv, rfl⟩ := hv
    refine kk_ ?_
    clear kk_
    obtain ⟨tw, hvw⟩ := StrsAre.at hvs (List.getElem?_eq_getElem (show i < ws.length by walk_at "om"))
    rw [hvw] at hv
    obtain rfl := Option.some.inj hv
    simp only [List.cons_append, List.nil_append] at h
    walk_at "go"
    walk_at "gm"
    walk_at "go"
    refine s_find4 h ?_
    clear h; intro _ s h
    rw [List.drop_eq_getElem_cons (show i < ws.length by walk_at "om"), ell] at hell
    replace hell := hell
    walk_at "go"
    by_cases hq : find4 got ws[i] p got.length < 0
    · rw [if_pos (by simpa using hq)]
      rw [if_pos hq] at hell
      walk_at "go"
      rw [← hell]
      walk_at "go"
      exact k _ (h.sub (by walk_at "sub"))
    · rw [if_neg (by simpa using hq)]
      rw [if_neg hq] at hell
      have hwi : ws[i].length ≤ 2 ^ 20 := Nat.le_trans (hwa _ (List.getElem_mem _)) (by decide)
      walk_at "go"
      exact ⟨_, h, _, _, _, rfl, by exact o201 hq, hell⟩
  · clear h
    intro L' s hz h
    refine byName fun _ kk_ => ?_
    obtain ⟨p, tp, v0, rfl, hp0, hell⟩ := hz
    refine kk_ ?_
    clear kk_
    try dsimp only
    walk_at "go"
    rw [hvl, List.drop_length] at hell
    have := k s (h.sub (by walk_at "sub"))
    rw [hell] at this
    exact this
end
end Mine
namespace Mine
section
open PySem PySem.W PyProof.Rows PySem.Calls
variable {prog : Program} {w : World} {A : Around} {b s : Shared} {L : Led} {f : Addr} {fd : FuncData} {R : Result → Shared → Prop} {t u tn : Tok}
noncomputable abbrev gvS : Stmt := nth (stBody (nth pb 18)) 2
noncomputable def nmG : List (Str × NameKind) := (stScope gvS).names
noncomputable abbrev ch1 (c : Nat) : Str := ⟨#[c]⟩
noncomputable def Signs (sv : List Value) (cs : List Nat) : Prop := StrsAre sv (cs.reverse.map ch1)
theorem Signs.cut {sv : List Value} {c : Nat} {cs : List Nat} (h : Signs sv (c :: cs)) : ∃ sv' t, sv = sv' ++ [.str (ch1 c) t] ∧ Signs sv' cs := by
  unfold Signs at h ⊢
  rw [List.reverse_cons, List.map_append] at h
  refine byName fun _ kk_ => ?_
  obtain ⟨l, h1, h2⟩ := ofStrs h
  obtain ⟨l1, l2, rfl, h3, h4⟩ := List.map_eq_append_iff.mp h2
  refine kk_ ?_
  clear kk_
  obtain ⟨p, rfl, hp⟩ : ∃ p, l2 = [p] ∧ p.1 = ch1 c := by
    cases l2 with
    | nil => simp at h4
    | cons p r => cases r with
      | nil => exact ⟨p, rfl, by simpa using h4⟩
      | cons _ _ => simp at h4
  obtain ⟨p1, p2⟩ := p
  dsimp only at hp
  subst hp
  refine ⟨strValues l1, p2, ?_, ?_⟩
  · rw [← h1]; simp [strValues]
  · rw [← h3]; exact strsOf _
theorem give_c {cg sg : Addr} {cs : List Nat} {sv : List Value} {v : Value} (lim : b.heap.NoLimit) (F : FdIs fd gvS [(Str.ofString "signs", cg)]) (hA : Room A 3) (h : H b ((sg, .ls sv) :: L) s) (hf : Has f (.fn fd) L) (hc : Has cg (.cl (some (.ref sg))) L) (hs : Signs sv cs) (hz : cs.length < 2 ^ 20)
    (k : ∀ sv' u s', Signs sv' cs.tail → H b ((sg, .ls sv') :: L) s' → R (.ok (.ret (.str (match cs with | [] => Str.empty | c :: _ => ch1 c) u))) s') : codeAny (model prog w) A (.call (.ref f) ⟨[v], []⟩) R s := by
  refine enterF (d := 2) (st := gvS) (nm := nmG) (names := ["count"]) (vals := [some v]) (binds := [("count", v)]) (Fn.of h (.tail hf) F lim) hA h
    (BindsTo.of_eq (bind_of F.params F.d1 F.d2 (t := fun _ => pure _) (fun q => by kernel_rfl))) rfl (by kernel_rfl) (by kernel_rfl) (by kernel_rfl) (by decide +kernel) rfl rfl rfl ?_
  clear h
  intro La s e A' E' he _ hA h
  have hl : sv.length = cs.length := by have := strs_len hs; simpa using this
  have hsz : sv.length < 2 ^ 60 := by exact o202 hz hl
  refine st_hide ?_
  intro _ _
  walk_at "go"
  cases cs with
  | nil =>
    obtain rfl : sv = [] := by cases sv with | nil => rfl | cons _ _ => simp at hl
    rw [if_neg (by decide)]
    walk_at "go"
    exact k _ _ _ hs (h.sub (by walk_at "sub"))
  | cons c cs =>
    refine byName fun _ kk_ => ?_
    obtain ⟨sv', tc, rfl, hs'⟩ := hs.cut
    refine kk_ ?_
    clear kk_
    rw [if_pos (by simp)]
    walk_at "go"
    walk_at "gm"
    refine l_pop h (by walk_at "upd") (by simp at hl; simp at hz; exact o203 hz hl) ?_
    clear h; intro s h
    try dsimp only
    walk_at "go"
    exact k _ _ _ hs' (h.sub (by walk_at "sub"))

structure LexA where
  C : Addr
  x : Addr
  dx : Addr
  pb : Addr
  st : Addr
  ds : Addr
  pb2 : Addr
  gv : Addr
  cg : Addr
  sg : Addr
  fdg : FuncData
  tw : Tok
  t1 : Tok
  tw1 : Tok
noncomputable abbrev wsS : Str := "\n\t\r "
noncomputable def LX (a : LexA) (n : Int) (tn : Tok) (sv pv : List Value) : Led :=
  [(a.x, .ob (instObj a.C a.dx)), (a.dx, .pr (isNs [("lineno", .int n tn), ("instream", .ref a.st), ("whitespace", .str wsS a.tw), ("pushback", .ref a.pb)])), (a.pb, .ls pv),
   (a.st, .ob (instObj a.C a.ds)), (a.ds, .pr (isNs [("lineno", .int 1 a.t1), ("instream", .none), ("whitespace", .str wsS a.tw1), ("pushback", .ref a.pb2), ("read", .ref a.gv)])), (a.pb2, .ls []),
   (a.gv, .fn a.fdg), (a.cg, .cl (some (.ref a.sg))), (a.sg, .ls sv)]
noncomputable def LX8 (a : LexA) (n : Int) (tn : Tok) (pv : List Value) : Led :=
  [(a.x, .ob (instObj a.C a.dx)), (a.dx, .pr (isNs [("lineno", .int n tn), ("instream", .ref a.st), ("whitespace", .str wsS a.tw), ("pushback", .ref a.pb)])), (a.pb, .ls pv),
   (a.st, .ob (instObj a.C a.ds)), (a.ds, .pr (isNs [("lineno", .int 1 a.t1), ("instream", .none), ("whitespace", .str wsS a.tw1), ("pushback", .ref a.pb2), ("read", .ref a.gv)])), (a.pb2, .ls []),
   (a.gv, .fn a.fdg), (a.cg, .cl (some (.ref a.sg)))]
theorem LX.back {a : LexA} {n : Int} {tn : Tok} {sv pv : List Value} {L : Led} (h : H b ((a.sg, .ls sv) :: (LX8 a n tn pv ++ L)) s) : H b (LX a n tn sv pv ++ L) s := h.perm (show List.Perm _ (LX8 a n tn pv ++ ((a.sg, .ls sv) :: L)) from List.perm_middle.symm)
noncomputable abbrev lexN : List Str := ["lineno", "instream", "whitespace", "pushback", "read"]
noncomputable abbrev clS (i : Nat) : Stmt := nth (stBody (nth pb 1)) i
structure Mth (b : Shared) (i : Nat) (f : Addr) (fd : FuncData) : Prop where
  fn : FnIs b f (clS i) fd
  d1 : fd.defaults = .none
  d2 : fd.kwdefaults = .none
structure LexK (b : Shared) (C f0 f1 f2 f3 : Addr) (d0 d1 d2 d3 : FuncData) : Prop where
  kls : Kls b C lexN [(Str.ofString "__init__", f0), (Str.ofString "_read_char", f1), (Str.ofString "get_token", f2), (Str.ofString "push_token", f3)]
  m0 : Mth b 0 f0 d0
  m1 : Mth b 1 f1 d1
  m2 : Mth b 2 f2 d2
  m3 : Mth b 3 f3 d3
  lim : b.heap.NoLimit
noncomputable abbrev hd1 : List Nat → Str
  | [] => Str.empty
  | c :: _ => ch1 c
noncomputable def nmRd : List (Str × NameKind) := (stScope (clS 1)).names
theorem read_c {a : LexA} {f0 f1 f2 f3 : Addr} {d0 d1 d2 d3 : FuncData} {n : Int} {sv pv : List Value} {cs : List Nat} (K : LexK b a.C f0 f1 f2 f3 d0 d1 d2 d3) (F : FdIs a.fdg gvS [(Str.ofString "signs", a.cg)]) (hA : Room A 6)
    (h : H b (LX a n tn sv pv ++ L) s) (hs : Signs sv cs) (hz : cs.length < 2 ^ 20)
    (k : ∀ n' tn' sv' u s', Signs sv' cs.tail → H b (LX a n' tn' sv' pv ++ L) s' → R (.ok (.ret (.str (hd1 cs) u))) s') : codeAny (model prog w) A (.call (.ref f1) ⟨[.ref a.x], []⟩) R s := by
  have hK := K.kls
  refine enter (d := 5) (nm := nmRd) (names := ["self", "ch"]) (vals := [some (.ref a.x), none]) (binds := [("self", .ref a.x)]) K.m1.fn hA h
    (BindsTo.of_eq (bind_of K.m1.fn.params K.m1.d1 K.m1.d2 (t := fun _ => pure _) (fun q => by kernel_rfl))) rfl (by kernel_rfl) (by kernel_rfl) (by kernel_rfl) (by decide +kernel) rfl rfl rfl ?_
  clear h
  intro La s e A' E' he hA h
  simp only [LX, List.cons_append, List.nil_append] at h
  refine st_hide ?_
  intro _ _
  walk_at "go"
  walk_at "gm"
  walk_at "cwm"
  have h := h.front (a := a.sg) (by walk_at "pick")
  refine give_c K.lim F (hA.less (by walk_at "om")) h (by walk_at "mem") (by walk_at "mem") hs hz ?_
  clear h
  intro sv' u s hs' h
  try dsimp only
  walk_at "go"
  by_cases hc : (hd1 cs == Str.ofString "\n") = true
  · rw [if_pos (by cases cs <;> exact hc)]
    walk_at "go"
    refine' k _ _ sv' u s hs' (LX.back (h.sub _))
    rotate_left 2
    simp only [LX8, List.cons_append, List.nil_append]
    walk_at "sub"
  · rw [if_neg (by cases cs <;> exact hc)]
    walk_at "go"
    refine' k _ _ sv' u s hs' (LX.back (h.sub _))
    rotate_left 2
    simp only [LX8, List.cons_append, List.nil_append]
    walk_at "sub"
end
end Mine
namespace Mine
section
open PySem PySem.W PyProof.Rows PySem.Calls
variable {prog : Program} {w : World} {A : Around} {b s : Shared} {L : Led} {f : Addr} {fd : FuncData} {R : Result → Shared → Prop} {t u tn : Tok}
noncomputable def nmP : List (Str × NameKind) := (stScope (clS 3)).names
theorem push_c {a : LexA} {f0 f1 f2 f3 : Addr} {d0 d1 d2 d3 : FuncData} {n : Int} {sv pv : List Value} {v : Value} (K : LexK b a.C f0 f1 f2 f3 d0 d1 d2 d3) (hA : Room A 6)
    (h : H b (LX a n tn sv pv ++ L) s) (hz : pv.length < 2 ^ 20) (hv : ∀ r, v ≠ .ref r)
    (k : ∀ s', H b (LX a n tn sv (pv ++ [v]) ++ L) s' → R (.ok (.ret .none)) s') : codeAny (model prog w) A (.call (.ref f3) ⟨[.ref a.x, v], []⟩) R s := by
  have hK := K.kls
  refine enter (d := 5) (nm := nmP) (names := ["self", "token"]) (vals := [some (.ref a.x), some v]) (binds := [("self", .ref a.x), ("token", v)]) K.m3.fn hA h
    (BindsTo.of_eq (bind_of K.m3.fn.params K.m3.d1 K.m3.d2 (t := fun _ => pure _) (fun q => by kernel_rfl))) rfl (by kernel_rfl) (by kernel_rfl) (by kernel_rfl) (by decide +kernel) rfl rfl rfl ?_
  clear h
  intro La s e A' E' he hA h
  simp only [LX, List.cons_append, List.nil_append] at h
  refine st_hide ?_
  intro _ _
  walk_at "go"
  walk_at "gm"
  walk_at "go"
  refine l_append h (by walk_at "upd") hz ?_
  clear h; intro s h
  try dsimp only
  walk_at "go"
  exact k _ (h.sub (List.sublist_cons_self ..))
noncomputable def nmGT : List (Str × NameKind) := (stScope (clS 2)).names
noncomputable abbrev lGT : List Str := ["self", "token", "fiter", "ch"]
theorem got_c {a : LexA} {f0 f1 f2 f3 : Addr} {d0 d1 d2 d3 : FuncData} {n : Int} {sv pv : List Value} {v : Value} (K : LexK b a.C f0 f1 f2 f3 d0 d1 d2 d3) (hA : Room A 6)
    (h : H b (LX a n tn sv (v :: pv) ++ L) s) (hz : pv.length + 1 < 2 ^ 20)
    (k : ∀ s', H b (LX a n tn sv pv ++ L) s' → R (.ok (.ret v)) s') : codeAny (model prog w) A (.call (.ref f2) ⟨[.ref a.x], []⟩) R s := by
  have hK := K.kls
  refine enter (d := 5) (nm := nmGT) (names := lGT) (vals := [some (.ref a.x), none, none, none]) (binds := [("self", .ref a.x)]) K.m2.fn hA h
    (BindsTo.of_eq (bind_of K.m2.fn.params K.m2.d1 K.m2.d2 (t := fun _ => pure _) (fun q => by kernel_rfl))) rfl (by kernel_rfl) (by kernel_rfl) (by kernel_rfl) (by decide +kernel) rfl rfl rfl ?_
  clear h
  intro La s e A' E' he hA h
  simp only [LX, List.cons_append, List.nil_append] at h
  have hz' : (v :: pv).length < 2 ^ 60 := by simp; exact o204 hz
  refine st_hide ?_
  intro _ _
  walk_at "go"
  rw [if_pos (by rfl)]
  walk_at "go"
  walk_at "gm"
  walk_at "go"
  refine l_pop0 h (by walk_at "upd") (by exact o205 hz) ?_
  clear h; intro s h
  try dsimp only
  walk_at "go"
  exact k _ (h.sub (List.sublist_cons_self ..))
end
end Mine
namespace Mine
section
open PySem PySem.W PyProof.Rows PySem.Calls
variable {prog : Program} {w : World} {A : Around} {b s : Shared} {L : Led} {f : Addr} {fd : FuncData} {R : Result → Shared → Prop} {t u tn : Tok}
noncomputable def forBody : Stmt → List Stmt
  | .For _ _ bd _ _ => bd
  | _ => []
noncomputable def ifThen : Stmt → List Stmt
  | .If _ bd _ _ => bd
  | _ => []
noncomputable def ifElse : Stmt → List Stmt
  | .If _ _ bd _ => bd
  | _ => []
noncomputable abbrev outB : List Stmt := forBody (nth (stBody (clS 2)) 3)
noncomputable abbrev quoB : List Stmt := forBody (nth (ifThen (nth outB 1)) 0)
noncomputable abbrev barB : List Stmt := forBody (nth (ifElse (nth outB 1)) 2)
noncomputable abbrev sOf (l : List Nat) : Str := ⟨l.toArray⟩
noncomputable def isWs (c : Nat) : Bool := c == 10 || c == 9 || c == 13 || c == 32
noncomputable def quoted : List Nat → List Nat → Option (List Nat × List Nat)
  | [], _ => none
  | c :: r, acc => if c = 34 then some (acc, r) else if c = 92 then (match r with | [] => none | d :: r' => quoted r' (acc ++ [d])) else quoted r (acc ++ [c])
noncomputable def bare : List Nat → List Nat → Option (List Nat × List Nat)
  | [], _ => none
  | c :: r, acc => if isWs c = true then some (acc, r) else if c = 92 then (match r with | [] => none | d :: r' => bare r' (acc ++ [d])) else bare r (acc ++ [c])
noncomputable def tokOf : List Nat → Option (List Nat × List Nat)
  | [] => some ([], [])
  | c :: r => if isWs c = true then tokOf r else if c = 34 then quoted r [] else if c = 92 then (match r with | [] => none | d :: r' => bare r' [d]) else bare r [c]
theorem ws_in : ∀ c : Fin 128, Txt.contains wsS (ch1 c.val) = isWs c.val := by decide +kernel
theorem q_eq : ∀ c : Fin 128, (ch1 c.val == Str.ofString "\"") = (c.val == 34) := by decide +kernel
theorem b_eq : ∀ c : Fin 128, (ch1 c.val == Str.ofString "\\") = (c.val == 92) := by decide +kernel
theorem e_eq (c : Nat) : (Str.empty == ch1 c) = false := rfl
theorem s_snoc (l : List Nat) (c : Nat) : sOf l ++ ch1 c = sOf (l ++ [c]) := by
  show (⟨l.toArray ++ #[c]⟩ : Str) = _
  simp
theorem s_len1 (l : List Nat) (c : Nat) (h : l.length ≤ 1000) : (sOf l).length + (ch1 c).length ≤ 2 ^ 20 := by
  show l.toArray.size + 1 ≤ _
  simp; exact o206 h
theorem draw_c {a : LexA} {f0 f1 f2 f3 it q : Addr} {te : Tok} {d0 d1 d2 d3 : FuncData} {n : Int} {sv pv : List Value} {cs : List Nat} {E : Value → Shared → Prop} {Q : Option Value → Shared → Prop} (K : LexK b a.C f0 f1 f2 f3 d0 d1 d2 d3) (F : FdIs a.fdg gvS [(Str.ofString "signs", a.cg)]) (hA : Room A 7)
    (h : H b (LX a n tn sv pv ++ ((it, .ob (ciObj q Str.empty te)) :: (q, .ob (methodObj (.ref f1) (.ref a.x))) :: L)) s) (hs : Signs sv cs) (hz : cs.length < 2 ^ 20)
    (k : ∀ c r, cs = c :: r → ∀ n' tn' sv' u s', Signs sv' r → H b (LX a n' tn' sv' pv ++ ((it, .ob (ciObj q Str.empty te)) :: (q, .ob (methodObj (.ref f1) (.ref a.x))) :: L)) s' → Q (some (.str (ch1 c) u)) s')
    (k0 : cs = [] → ∀ n' tn' sv' s', Signs sv' [] → H b (LX a n' tn' sv' pv ++ ((q, .ob (methodObj (.ref f1) (.ref a.x))) :: L)) s' → Q none s') :
    wpAny (model prog w) A (pyNext (.ref it)) Q E s := by
  have hh := h
  simp only [LX, List.cons_append, List.nil_append] at hh
  refine byName fun _ kk_ => ?_
  obtain ⟨o, ho, hd⟩ := K.m1.fn.get
  refine kk_ ?_
  clear kk_
  refine next_ci hA.handled hh (by walk_at "mem") (by walk_at "mem") ⟨o, _, ho, hd⟩ ?_
  refine read_c K F hA.in1 h hs hz ?_
  intro n' tn' sv' u s' hs' h'
  have h2 := h'
  simp only [LX, List.cons_append, List.nil_append] at h2
  cases cs with
  | nil =>
    refine ⟨_, LX a n' tn' sv' pv ++ ((q, .ob (methodObj (.ref f1) (.ref a.x))) :: L), h2, ?_, ?_, ?_⟩
    · simp only [LX, List.cons_append, List.nil_append]; walk_at "pick"
    · simp only [LX, List.cons_append, List.nil_append]; walk_at "mem"
    · rw [if_pos (by rfl)]
      exact fun s'' h'' => k0 rfl _ _ _ _ hs' h''
  | cons c r =>
    refine ⟨_, LX a n' tn' sv' pv ++ ((q, .ob (methodObj (.ref f1) (.ref a.x))) :: L), h2, ?_, ?_, ?_⟩
    · simp only [LX, List.cons_append, List.nil_append]; walk_at "pick"
    · simp only [LX, List.cons_append, List.nil_append]; walk_at "mem"
    · rw [if_neg (by rw [e_eq]; decide)]
      exact k c r rfl _ _ _ _ _ hs' h'

noncomputable def GL (a : LexA) (f1 it q La : Addr) (te : Tok) (n : Int) (tn : Tok) (sv : List Value) (vals : List (Option Value)) (L : Led) : Led :=
  LX a n tn sv [] ++ ((it, .ob (ciObj q Str.empty te)) :: (q, .ob (methodObj (.ref f1) (.ref a.x))) :: (La, .fr lGT vals) :: L)
theorem sub128 {cs : List Nat} {c : Nat} (h : ∀ x ∈ c :: cs, x < 128) : (Txt.contains wsS (ch1 c) = isWs c) ∧ ((ch1 c == Str.ofString "\"") = (c == 34)) ∧ (ch1 c == Str.ofString "\\") = (c == 92) :=
  ⟨ws_in ⟨c, h c (.head _)⟩, q_eq ⟨c, h c (.head _)⟩, b_eq ⟨c, h c (.head _)⟩⟩
theorem GL.of {a : LexA} {f1 it q La : Addr} {te : Tok} {n : Int} {tn : Tok} {sv : List Value} {vals : List (Option Value)} (h : H b ((it, .ob (ciObj q Str.empty te)) :: (q, .ob (methodObj (.ref f1) (.ref a.x))) :: (La, .fr lGT vals) :: (LX a n tn sv [] ++ L)) s) : H b (GL a f1 it q La te n tn sv vals L) s :=
  h.perm (show List.Perm ([(it, .ob (ciObj q Str.empty te)), (q, .ob (methodObj (.ref f1) (.ref a.x))), (La, .fr lGT vals)] ++ (LX a n tn sv [] ++ L)) _ from List.perm_append_comm_assoc _ _ _)
theorem quo_c {a : LexA} {f0 f1 f2 f3 it q La : Addr} {te : Tok} {d0 d1 d2 d3 : FuncData} {e : Env} {px : Pos} {tok cs' : List Nat} (K : LexK b a.C f0 f1 f2 f3 d0 d1 d2 d3) (F : FdIs a.fdg gvS [(Str.ofString "signs", a.cg)]) (hA : Room A 9) (he : Ev e La nmGT [])
    (k : ∀ n tn sv u vals s', Signs sv cs' → H b (GL a f1 it q La te n tn sv vals L) s' → R (.ok (.ret (.str (sOf tok) u))) s')
    (n : Int) (tn tt : Tok) (sv : List Value) (chv : Option Value) (cs acc : List Nat) (h : H b (GL a f1 it q La te n tn sv [some (.ref a.x), some (.str (sOf acc) tt), some (.ref it), chv] L) s) (hs : Signs sv cs) (hq : quoted cs acc = some (tok, cs')) (hl : acc.length + cs.length ≤ 1000) (hc : ∀ c ∈ cs, c < 128) :
    codeAny (model prog w) A (.forLoop (.Name "ch" px) (.ref it) quoB [] e) R s := by
  have hK := K.kls
  have K1 := K.m1.fn
  refine codeAny_forLoop_any (fun m s' => ∃ (n : Int) (tn tt : Tok) (sv : List Value) (chv : Option Value) (cs acc : List Nat), m = cs.length ∧ H b (GL a f1 it q La te n tn sv [some (.ref a.x), some (.str (sOf acc) tt), some (.ref it), chv] L) s' ∧ Signs sv cs ∧ quoted cs acc = some (tok, cs') ∧ acc.length + cs.length ≤ 1000 ∧ ∀ c ∈ cs, c < 128)
    (fun m s hI => ?_) _ ⟨n, tn, tt, sv, chv, cs, acc, rfl, h, hs, hq, hl, hc⟩
  clear h hs hq hl hc
  refine byName fun _ kk_ => ?_
  obtain ⟨n, tn, tt, sv, chv, cs, acc, rfl, h, hs, hq, hl, hc⟩ := hI
  refine kk_ ?_
  clear kk_
  refine draw_c K F (hA.less (by walk_at "om")) h hs (by exact o207 hl) (fun c r e1 n' tn' sv' u s' hs' h' => ?_) (fun e1 => by subst e1; cases hq)
  subst e1
  clear h hs
  have h := h'
  clear h'
  refine byName fun _ kk_ => ?_
  obtain ⟨-, w2, w3⟩ := sub128 hc
  refine kk_ ?_
  clear kk_
  simp only [LX, List.cons_append, List.nil_append] at h
  try dsimp only
  refine wpAny_of_eq (a := ()) rfl ?_
  have hsl : (sOf acc).length ≤ 1000 := by show acc.toArray.size ≤ _; simp at hl ⊢; exact o208 hl
  have hsc : (sOf acc).length + (ch1 c).length ≤ 2 ^ 20 := s_len1 _ _ (by simp at hl; exact o208 hl)
  unfold quoted at hq
  replace hq := hq
  walk_at "go"
  refine st_hide ?_
  intro _ _
  walk_at "go"
  rw [w2]
  by_cases c1 : c = 34
  · rw [if_pos c1] at hq
    cases hq
    rw [if_pos (by simpa using c1)]
    walk_at "go"
    exact k _ _ _ _ _ _ hs' h
  · rw [if_neg c1] at hq
    rw [if_neg (by simpa using c1)]
    walk_at "go"
    rw [w3]
    by_cases c2 : c = 92
    · rw [if_pos c2] at hq
      rw [if_pos (by simpa using c2)]
      walk_at "go"
      walk_at "gm"
      walk_at "cwb0"
      cases r with
      | nil => cases hq
      | cons d r' =>
        refine read_c (n := n') (sv := sv') (pv := []) (L := _ :: _ :: _ :: L) K F (hA.less (by walk_at "om")) h hs' (by simp at hl ⊢; exact o209 hl) ?_
        clear h
        intro n2 tn2 sv2 u2 s hs2 h
        simp only [LX, List.cons_append, List.nil_append] at h
        have hsd : (sOf acc).length + (ch1 d).length ≤ 2 ^ 20 := s_len1 _ _ (by simp at hl; exact o210 hl)
        dsimp only [hd1]
        walk_at "go"
        rw [s_snoc] at h
        exact ⟨r'.length, by simp; exact o211, n2, tn2, _, sv2, _, r', acc ++ [d], rfl, h, hs2, hq, by simp at hl ⊢; exact o212 hl, fun c hc' => hc c (.tail _ (.tail _ hc'))⟩
    · rw [if_neg c2] at hq
      rw [if_neg (by simpa using c2)]
      walk_at "go"
      rw [s_snoc] at h
      exact ⟨r.length, by simp, n', tn', _, sv', _, r, acc ++ [c], rfl, h, hs', hq, by simp at hl ⊢; exact o213 hl, fun c hc' => hc c (.tail _ hc')⟩
theorem bar_c {a : LexA} {f0 f1 f2 f3 it q La : Addr} {te : Tok} {d0 d1 d2 d3 : FuncData} {e : Env} {px : Pos} {tok cs' : List Nat} (K : LexK b a.C f0 f1 f2 f3 d0 d1 d2 d3) (F : FdIs a.fdg gvS [(Str.ofString "signs", a.cg)]) (hA : Room A 9) (he : Ev e La nmGT [])
    (k : ∀ n tn sv u vals s', Signs sv cs' → H b (GL a f1 it q La te n tn sv vals L) s' → R (.ok (.ret (.str (sOf tok) u))) s')
    (n : Int) (tn tt : Tok) (sv : List Value) (chv : Option Value) (cs acc : List Nat) (h : H b (GL a f1 it q La te n tn sv [some (.ref a.x), some (.str (sOf acc) tt), some (.ref it), chv] L) s) (hs : Signs sv cs) (hq : bare cs acc = some (tok, cs')) (hl : acc.length + cs.length ≤ 1000) (hc : ∀ c ∈ cs, c < 128) :
    codeAny (model prog w) A (.forLoop (.Name "ch" px) (.ref it) barB [] e) R s := by
  have hK := K.kls
  have K1 := K.m1.fn
  refine codeAny_forLoop_any (fun m s' => ∃ (n : Int) (tn tt : Tok) (sv : List Value) (chv : Option Value) (cs acc : List Nat), m = cs.length ∧ H b (GL a f1 it q La te n tn sv [some (.ref a.x), some (.str (sOf acc) tt), some (.ref it), chv] L) s' ∧ Signs sv cs ∧ bare cs acc = some (tok, cs') ∧ acc.length + cs.length ≤ 1000 ∧ ∀ c ∈ cs, c < 128)
    (fun m s hI => ?_) _ ⟨n, tn, tt, sv, chv, cs, acc, rfl, h, hs, hq, hl, hc⟩
  clear h hs hq hl hc
  refine byName fun _ kk_ => ?_
  obtain ⟨n, tn, tt, sv, chv, cs, acc, rfl, h, hs, hq, hl, hc⟩ := hI
  refine kk_ ?_
  clear kk_
  refine draw_c K F (hA.less (by walk_at "om")) h hs (by exact o207 hl) (fun c r e1 n' tn' sv' u s' hs' h' => ?_) (fun e1 => by subst e1; cases hq)
  subst e1
  clear h hs
  have h := h'
  clear h'
  refine byName fun _ kk_ => ?_
  obtain ⟨w1, -, w3⟩ := sub128 hc
  refine kk_ ?_
  clear kk_
  simp only [LX, List.cons_append, List.nil_append] at h
  try dsimp only
  refine wpAny_of_eq (a := ()) rfl ?_
  have hsl : (sOf acc).length ≤ 1000 := by show acc.toArray.size ≤ _; simp at hl ⊢; exact o208 hl
  have hsc : (sOf acc).length + (ch1 c).length ≤ 2 ^ 20 := s_len1 _ _ (by simp at hl; exact o208 hl)
  unfold bare at hq
  replace hq := hq
  walk_at "go"
  refine st_hide ?_
  intro _ _
  walk_at "go"
  rw [w1]
  by_cases c1 : isWs c = true
  · rw [if_pos c1] at hq
    cases hq
    rw [if_pos c1]
    walk_at "go"
    exact k _ _ _ _ _ _ hs' h
  · rw [if_neg c1] at hq
    rw [if_neg c1]
    walk_at "go"
    rw [w3]
    by_cases c2 : c = 92
    · rw [if_pos c2] at hq
      rw [if_pos (by simpa using c2)]
      walk_at "go"
      walk_at "gm"
      walk_at "cwb0"
      cases r with
      | nil => cases hq
      | cons d r' =>
        refine read_c (n := n') (sv := sv') (pv := []) (L := _ :: _ :: _ :: L) K F (hA.less (by walk_at "om")) h hs' (by simp at hl ⊢; exact o209 hl) ?_
        clear h
        intro n2 tn2 sv2 u2 s hs2 h
        simp only [LX, List.cons_append, List.nil_append] at h
        have hsd : (sOf acc).length + (ch1 d).length ≤ 2 ^ 20 := s_len1 _ _ (by simp at hl; exact o210 hl)
        dsimp only [hd1]
        walk_at "go"
        rw [s_snoc] at h
        exact ⟨r'.length, by simp; exact o211, n2, tn2, _, sv2, _, r', acc ++ [d], rfl, h, hs2, hq, by simp at hl ⊢; exact o212 hl, fun c hc' => hc c (.tail _ (.tail _ hc'))⟩
    · rw [if_neg c2] at hq
      rw [if_neg (by simpa using c2)]
      walk_at "go"
      rw [s_snoc] at h
      exact ⟨r.length, by simp, n', tn', _, sv', _, r, acc ++ [c], rfl, h, hs', hq, by simp at hl ⊢; exact o213 hl, fun c hc' => hc c (.tail _ hc')⟩

theorem tok_c {a : LexA} {f0 f1 f2 f3 : Addr} {d0 d1 d2 d3 : FuncData} {n : Int} {sv : List Value} {cs cs' tok : List Nat} (K : LexK b a.C f0 f1 f2 f3 d0 d1 d2 d3) (F : FdIs a.fdg gvS [(Str.ofString "signs", a.cg)]) (hiter : Blt b "iter" (.builtin "iter")) (hA : Room A 12)
    (h : H b (LX a n tn sv [] ++ L) s) (hs : Signs sv cs) (hq : tokOf cs = some (tok, cs')) (hl : cs.length ≤ 1000) (hc : ∀ c ∈ cs, c < 128)
    (k : ∀ n' tn' sv' u s', Signs sv' cs' → H b (LX a n' tn' sv' [] ++ L) s' → R (.ok (.ret (.str (sOf tok) u))) s') : codeAny (model prog w) A (.call (.ref f2) ⟨[.ref a.x], []⟩) R s := by
  have hK := K.kls
  have K1 := K.m1.fn
  refine enter (d := 11) (nm := nmGT) (names := lGT) (vals := [some (.ref a.x), none, none, none]) (binds := [("self", .ref a.x)]) K.m2.fn hA h
    (BindsTo.of_eq (bind_of K.m2.fn.params K.m2.d1 K.m2.d2 (t := fun _ => pure _) (fun q => by kernel_rfl))) rfl (by kernel_rfl) (by kernel_rfl) (by kernel_rfl) (by decide +kernel) rfl rfl rfl ?_
  clear h
  intro La s e A' E' he hA h
  simp only [LX, List.cons_append, List.nil_append] at h
  have hz' : ([] : List Value).length < 2 ^ 60 := by simp
  refine st_hide ?_
  intro _ _
  walk_at "go"
  rw [if_neg (by decide)]
  walk_at "go"
  refine b_iter2 h .head ?_
  clear h; intro it s h
  walk_at "go"
  refine iter_ci h (by walk_at "mem") ?_
  have hg := GL.of (n := n) (tn := tn) (sv := sv) h
  clear h
  refine codeAny_forLoop_any (fun m s' => ∃ (n : Int) (tn : Tok) (sv : List Value) (chv : Option Value) (cs : List Nat), m = cs.length ∧ H b (GL a f1 it _ La _ n tn sv [some (.ref a.x), some (.str (sOf []) _), some (.ref it), chv] L) s' ∧ Signs sv cs ∧ tokOf cs = some (tok, cs') ∧ cs.length ≤ 1000 ∧ ∀ c ∈ cs, c < 128)
    (fun m s hI => ?_) _ ⟨n, tn, sv, none, cs, rfl, hg, hs, hq, hl, hc⟩
  clear hg hs hq hl hc
  refine byName fun _ kk_ => ?_
  obtain ⟨n, tn, sv, chv, cs, rfl, h, hs, hq, hl, hc⟩ := hI
  refine kk_ ?_
  clear kk_
  refine draw_c K F (hA.less (by walk_at "om")) h hs (by walk_at "om") (fun c r e1 n' tn' sv' u s' hs' h' => ?_) (fun e1 n' tn' sv' s' hs' h' => ?_)
  · subst e1
    clear h hs
    have h := h'
    clear h'
    refine byName fun _ kk_ => ?_
    obtain ⟨w1, w2, w3⟩ := sub128 hc
    refine kk_ ?_
    clear kk_
    simp only [LX, List.cons_append, List.nil_append] at h
    try dsimp only
    refine wpAny_of_eq (a := ()) rfl ?_
    unfold tokOf at hq
    replace hq := hq
    walk_at "go"
    rw [w1]
    by_cases c1 : isWs c = true
    · rw [if_pos c1] at hq
      rw [if_pos c1]
      walk_at "go"
      exact ⟨r.length, by simp, n', tn', sv', _, r, rfl, h, hs', hq, by simp at hl ⊢; exact o214 hl, fun c hc' => hc c (.tail _ hc')⟩
    · rw [if_neg c1] at hq
      rw [if_neg c1]
      walk_at "go"
      rw [w2]
      by_cases c2 : c = 34
      · rw [if_pos c2] at hq
        rw [if_pos (by simpa using c2)]
        walk_at "go"
        refine iter_ci h (by walk_at "mem") ?_
        refine quo_c (f0 := f0) (f2 := f2) (f3 := f3) K F (hA.less (by walk_at "om")) he (fun n3 tn3 sv3 u3 vals s3 hs3 h3 => ?_) n' tn' _ sv' _ r [] h hs' hq (by simp at hl ⊢; exact o214 hl) fun c hc' => hc c (.tail _ hc')
        try dsimp only
        walk_at "go"
        refine k n3 tn3 sv3 u3 _ hs3 ?_
        simp only [GL, LX, List.cons_append, List.nil_append] at h3 ⊢
        exact h3.sub (by walk_at "sub")
      · rw [if_neg c2] at hq
        rw [if_neg (by simpa using c2)]
        walk_at "go"
        rw [w3]
        by_cases c3 : c = 92
        · rw [if_pos c3] at hq
          rw [if_pos (by simpa using c3)]
          walk_at "go"
          walk_at "gm"
          walk_at "cwb0"
          cases r with
          | nil => cases hq
          | cons d r' =>
            refine read_c (n := n') (sv := sv') (pv := []) (L := _ :: _ :: _ :: L) K F (hA.less (by walk_at "om")) h hs' (by simp at hl ⊢; exact o215 hl) ?_
            clear h
            intro n2 tn2 sv2 u2 s hs2 h
            simp only [LX, List.cons_append, List.nil_append] at h
            have hsd : (sOf []).length + (ch1 d).length ≤ 2 ^ 20 := s_len1 _ _ (by simp)
            dsimp only [hd1]
            walk_at "go"
            rw [s_snoc, List.nil_append] at h
            refine iter_ci h (by walk_at "mem") ?_
            refine bar_c (f0 := f0) (f2 := f2) (f3 := f3) K F (hA.less (by walk_at "om")) he (fun n3 tn3 sv3 u3 vals s3 hs3 h3 => ?_) n2 tn2 _ sv2 _ r' [d] h hs2 hq (by simp at hl ⊢; exact o216 hl) fun c hc' => hc c (.tail _ (.tail _ hc'))
            try dsimp only
            walk_at "go"
            refine k n3 tn3 sv3 u3 _ hs3 ?_
            simp only [GL, LX, List.cons_append, List.nil_append] at h3 ⊢
            exact h3.sub (by walk_at "sub")
        · rw [if_neg c3] at hq
          rw [if_neg (by simpa using c3)]
          have hsc : (sOf []).length + (ch1 c).length ≤ 2 ^ 20 := s_len1 _ _ (by simp)
          walk_at "go"
          rw [s_snoc, List.nil_append] at h
          refine iter_ci h (by walk_at "mem") ?_
          refine bar_c (f0 := f0) (f2 := f2) (f3 := f3) K F (hA.less (by walk_at "om")) he (fun n3 tn3 sv3 u3 vals s3 hs3 h3 => ?_) n' tn' _ sv' _ r [c] h hs' hq (by simp at hl ⊢; exact o217 hl) fun c hc' => hc c (.tail _ hc')
          try dsimp only
          walk_at "go"
          refine k n3 tn3 sv3 u3 _ hs3 ?_
          simp only [GL, LX, List.cons_append, List.nil_append] at h3 ⊢
          exact h3.sub (by walk_at "sub")
  · subst e1
    cases hq
    clear h
    have h := h'
    clear h'
    simp only [LX, List.cons_append, List.nil_append] at h
    try dsimp only
    walk_at "go"
    refine k n' tn' sv' _ _ hs' ?_
    simp only [LX, List.cons_append, List.nil_append]
    exact h.sub (by walk_at "sub")
end
end Mine
namespace Mine
section
open PySem PySem.W PyProof.Rows PySem.Calls
variable {prog : Program} {w : World} {A : Around} {b s : Shared} {L : Led} {f : Addr} {fd : FuncData} {R : Result → Shared → Prop} {t u tn : Tok}
noncomputable def nmIn0 : List (Str × NameKind) := (stScope (clS 0)).names
theorem init_c {C x dx f0 f1 f2 f3 : Addr} {d0 d1 d2 d3 : FuncData} {v : Value} (K : LexK b C f0 f1 f2 f3 d0 d1 d2 d3) (hA : Room A 6)
    (h : H b ((x, .ob (instObj C dx)) :: (dx, .pr (isNs [])) :: L) s)
    (k : ∀ pb t tw s', H b ((pb, .ls []) :: (x, .ob (instObj C dx)) :: (dx, .pr (isNs [("lineno", .int 1 t), ("instream", v), ("whitespace", .str wsS tw), ("pushback", .ref pb)])) :: L) s' → R (.ok (.ret .none)) s') : codeAny (model prog w) A (.call (.ref f0) ⟨[.ref x, v], []⟩) R s := by
  have hK := K.kls
  refine enter (d := 5) (nm := nmIn0) (names := ["self", "fp"]) (vals := [some (.ref x), some v]) (binds := [("self", .ref x), ("fp", v)]) K.m0.fn hA h
    (BindsTo.of_eq (bind_of K.m0.fn.params K.m0.d1 K.m0.d2 (t := fun _ => pure _) (fun q => by kernel_rfl))) rfl (by kernel_rfl) (by kernel_rfl) (by kernel_rfl) (by decide +kernel) rfl rfl rfl ?_
  clear h
  intro La s e A' E' he hA h
  refine st_hide ?_
  intro _ _
  walk_at "go"
  exact k _ _ _ _ (h.sub (by walk_at "sub"))
theorem Room.under {A : Around} {d : Nat} {c : Code} (r : Room A (d + 1)) (h1 : c.weight = 1) (h2 : c.cUnits = 1) : Room (A.under c) d :=
  ⟨by have := r.depth; show A.depth + c.weight + d ≤ 900; exact o218 this h1, by have := r.units; show A.units + c.cUnits + 20 * d ≤ 9000; exact o219 this h2, r.handled⟩
theorem make_c {C f0 f1 f2 f3 : Addr} {d0 d1 d2 d3 : FuncData} {v : Value} (K : LexK b C f0 f1 f2 f3 d0 d1 d2 d3) (hA : Room A 8) (h : H b L s)
    (k : ∀ x dx pb t tw s', H b ((pb, .ls []) :: (x, .ob (instObj C dx)) :: (dx, .pr (isNs [("lineno", .int 1 t), ("instream", v), ("whitespace", .str wsS tw), ("pushback", .ref pb)])) :: L) s' → R (.ok (.ret (.ref x))) s') :
    codeAny (model prog w) A (.call (.ref C) ⟨[v], []⟩) R s := by
  refine i_make h K.kls .head fun x dx s' h' => ?_
  refine init_c K ((hA.less (k := 7) (by walk_at "om")).under rfl rfl) h' fun pb t tw s'' h'' => ?_
  exact ⟨rfl, k _ _ _ _ _ _ h''⟩
end
end Mine
namespace Mine
section
open PySem PySem.W PyProof.Rows PySem.Calls
variable {prog : Program} {w : World} {A : Around} {b s : Shared} {L : Led} {f : Addr} {fd : FuncData} {R : Result → Shared → Prop} {t u tn : Tok}
structure Stm (b : Shared) : Prop where
  list : Blt b "list" (.type "list")
  bm : Bm b
theorem strs_snoc {vs : List Value} {xs : List Str} (h : StrsAre vs xs) (x : Str) (t : Tok) : StrsAre (vs ++ [.str x t]) (xs ++ [x]) := by
  induction h with
  | nil => exact .cons _ _ .nil
  | cons y u _ ih => exact .cons _ _ ih
theorem strs_rev {vs : List Value} {xs : List Str} (h : StrsAre vs xs) : StrsAre vs.reverse xs.reverse := by
  induction h with
  | nil => exact .nil
  | cons n t h ih => rw [List.reverse_cons, List.reverse_cons]; exact strs_snoc ih _ _
noncomputable def nmS : List (Str × NameKind) := (stScope (nth pb 18)).names
theorem stream_c {C f0 f1 f2 f3 P : Addr} {q : Str} {d0 d1 d2 d3 : FuncData} {x : Str} (K : LexK b C f0 f1 f2 f3 d0 d1 d2 d3) (hC : Glb b "_netrclex" (.ref C)) (S : Stm b) (D : Def b "_law_stream" 18 f fd) (T : TbN b fd P q "give")
    (hA : Room A 12) (h : H b L s) (hP : Has P (.tb (stPos gvS) q) L) (hx : x.cps.size ≤ 10000)
    (k : ∀ st ds pb2 gv cg sg fdg t1 tw1 sv s', FdIs fdg gvS [(Str.ofString "signs", cg)] → Signs sv x.cps.toList →
      H b ((st, .ob (instObj C ds)) :: (ds, .pr (isNs [("lineno", .int 1 t1), ("instream", .none), ("whitespace", .str wsS tw1), ("pushback", .ref pb2), ("read", .ref gv)])) :: (pb2, .ls []) :: (gv, .fn fdg) :: (cg, .cl (some (.ref sg))) :: (sg, .ls sv) :: L) s' → R (.ok (.ret (.ref st))) s') :
    codeAny (model prog w) A (.call (.ref f) ⟨[.str x t], []⟩) R s := by
  have hK := K.kls
  have hlist := S.list
  refine byName fun _ kk_ => ?_
  obtain ⟨c, hc, Cc⟩ := T.ex
  refine kk_ ?_
  clear kk_
  refine enterC (d := 11) (nm := nmS) (names := ["text", "give", "stream"]) (vals := [some (.str x t), none, none]) (cn := ["signs"]) (cvals := [none]) (binds := [("text", .str x t)]) D.fn hA h
    (bind_of D.fn.params D.d1 D.d2 (t := fun _ => pure _) (fun q => by kernel_rfl)) rfl (by kernel_rfl) (by kernel_rfl) (by decide +kernel) rfl (by kernel_rfl) (by decide +kernel) rfl rfl rfl ?_
  clear h
  intro La s e A' E' ca hca he hcode hqual hA h
  obtain ⟨cg, rfl⟩ := ln1 hca
  simp only [List.zip_cons_cons, List.zip_nil_right, List.map_cons, List.map_nil, List.cons_append, List.nil_append] at he h
  replace he := he
  have hqn : qualnameIn e "give" "give" = q := by
    unfold qualnameIn
    have : (e.kindOf "give" == some .globalExplicit) = false := by unfold Env.kindOf; rw [he.names]; kernel_rfl!
    rw [this, hqual, T.qual]; rfl
  refine st_hide ?_
  intro _ _
  walk_at "go"
  refine s_list hA.handled h (by exact o220 hx) ?_
  clear h
  intro sg sv s hs h
  walk_at "go"
  walk_at "gm"
  refine l_reverse h (by walk_at "upd") (by have := strs_len hs; simp at this; walk_at "om") ?_
  clear h; intro s h
  try dsimp only
  walk_at "go"
  refine d_nest (P := P) (c := c) (q := q) (clos := [("signs", cg)]) h he (hcode.trans hc) hqn Cc (.tail (.tail (.tail hP))) S.bm rfl rfl rfl (by kernel_rfl!) ?_
  clear h
  intro fi fdi s h Fd
  walk_at "go"
  walk_at "cwc"
  refine make_c K (hA.less (by walk_at "om")) h ?_
  clear h
  intro x1 dx1 pb1 t1 tw1 s h
  try dsimp only
  walk_at "go"
  exact k x1 dx1 pb1 fi cg sg fdi t1 tw1 sv.reverse s Fd (by
    unfold Signs
    rw [List.map_reverse]
    exact strs_rev hs) (h.draw (by walk_at "draw"))
end
end Mine
namespace Mine
section
open PySem PySem.W PyProof.Rows PySem.Calls
variable {prog : Program} {w : World} {A : Around} {b s : Shared} {L : Led} {f : Addr} {fd : FuncData} {R : Result → Shared → Prop} {t u tn : Tok}
theorem strs_of {cs : List Nat} {out : List Value} (h : Paired (fun y v => ∃ u, v = .str (ch1 y) u) cs out) : StrsAre out (cs.map ch1) := by
  induction h with
  | nil => exact .nil
  | cons h _ ih => obtain ⟨u, rfl⟩ := h; exact .cons _ _ ih
theorem join_one (cs : List Nat) : Txt.join (Str.ofString "") (cs.map ch1) = sOf cs := by
  show (⟨((cs.map ch1).drop 1).foldl (fun acc p => acc ++ (Str.ofString "").cps ++ p.cps) ((cs.map ch1).headD Str.empty).cps⟩ : Str) = _
  have e0 : (Str.ofString "").cps = #[] := rfl
  rw [e0]
  have key : ∀ (l : List Nat) (acc : Array Nat), (l.map ch1).foldl (fun acc p => acc ++ #[] ++ p.cps) acc = (acc.toList ++ l).toArray := by
    intro l
    induction l with
    | nil => intro acc; simp
    | cons c l ih => intro acc; rw [List.map_cons, List.foldl_cons, ih]; simp
  cases cs with
  | nil => rfl
  | cons c cs =>
    rw [List.map_cons, List.drop_succ_cons, List.drop_zero, key]
    simp
theorem join_ok {sep : Str} {texts : List Str} {B : Nat} (hB : ∀ y ∈ texts, y.length ≤ B) (h : texts.length * B + texts.length * sep.length ≤ 16777216) : JoinOk sep texts = true := by
  unfold JoinOk
  rw [StrLaws.joinFits hB h]; rfl
noncomputable def nmW : List (Str × NameKind) := (stScope (nth pb 19)).names
noncomputable def inSet (x : Nat) (k : Nat) : Bool := x / 2 ^ k % 2 == 1
noncomputable def wordOf (ls : List Nat) (x : Nat) : List Nat := (List.range 4).filterMap fun k => if inSet x k = true then some (ls.getD k 0) else none
theorem word_c {la : Addr} {lv : List Value} {ls : List Nat} {x : Nat} (D : Def b "_law_word" 19 f fd) (hrange : Blt b "range" (.type "range")) (hA : Room A 4) (h : H b L s) (hl : Has la (.ls lv) L) (hlv : StrsAre lv (ls.map ch1)) (h4 : ls.length = 4)
    (k : ∀ u s', H b L s' → R (.ok (.ret (.str (sOf (wordOf ls x)) u))) s') : codeAny (model prog w) A (.call (.ref f) ⟨[.ref la, .int x t], []⟩) R s := by
  refine enterC (d := 3) (nm := nmW) (names := []) (vals := []) (cn := ["number", "letters"]) (cvals := [some (.int x t), some (.ref la)]) (binds := [("letters", .ref la), ("number", .int x t)]) D.fn hA h
    (bind_of D.fn.params D.d1 D.d2 (t := fun _ => pure _) (fun q => by kernel_rfl)) rfl (by kernel_rfl) (by kernel_rfl) (by decide +kernel) rfl (by kernel_rfl) (by decide +kernel) rfl rfl rfl ?_
  clear h
  intro La s e A' E' ca hca he hcode hqual hA h
  refine byName fun _ kk_ => ?_
  obtain ⟨c2, c1, rfl⟩ := ln2 hca
  refine kk_ ?_
  clear kk_
  simp only [List.zip_cons_cons, List.zip_nil_right, List.map_cons, List.map_nil, List.cons_append, List.nil_append] at he h
  replace he := he
  refine st_hide ?_
  intro _ _
  walk_at "go"
  walk_at "gm"
  walk_at "go"
  refine lc_open (clos := [("number", c2), ("letters", c1)]) he (by kernel_rfl!) rfl (by kernel_rfl!) ?_ (by intro _; rfl)
  walk_at "go"
  refine b_range1 h ?_
  clear h; intro r _ _ s h
  refine iter_r (m := 4) h .head (by decide) rfl (by decide) ?_
  clear h; intro it s h
  refine lc_pure (nm' := [(".0", .local), ("k", .local), ("letters", .cell), ("number", .cell)]) ["k"] (fun i o => match o with | some y => inSet x i = true ∧ ∃ u, y = .str (ch1 (ls.getD i 0)) u | none => inSet x i = false)
    ((src_r (a := 0) (n := 4) hA.handled)) he rfl (by kernel_rfl!) (by decide +kernel) (by kernel_rfl!) (fun _ _ _ _ => trivial) (by decide) h ?_ ?_
  · clear h
    intro C acc e' i v G out vals s E J hJ hvl he hi hv h
    refine byName fun _ kk_ => ?_
    obtain ⟨⟨ti, rfl⟩, rfl⟩ := hv
    obtain ⟨v0, rfl⟩ := ln1 hvl
    refine kk_ ?_
    clear kk_
    simp only [List.cons_append, List.nil_append, Int.zero_add] at h hJ ⊢
    walk_at "go"
    refine wpAny_tests_one ?_
    walk_at "go"
    have hp : (2 : Int) ^ (i : Int).toNat = ((2 ^ i : Nat) : Int) := by rw [Int.toNat_natCast]; push_cast; rfl
    have hp0 : 0 < 2 ^ i := Nat.two_pow_pos i
    have hp1 : 2 ^ i ≤ 2 ^ 4 := Nat.pow_le_pow_right (by decide) (by exact o221 hi)
    refine o_pow h ?_ (by walk_at "om") (by exact o222 hi) (by decide)
    rw [hp]
    clear h; intro _ s h
    have hd : (x : Int).fdiv ((2 ^ i : Nat) : Int) = ((x / 2 ^ i : Nat) : Int) := by rw [Int.fdiv_eq_ediv_of_nonneg _ (by walk_at "om")]; rfl
    refine o_div h ?_ (by exact o142 hp0) (noPyS (by rw [Int.natAbs_natCast]; walk_at "om"))
    rw [hd]
    clear h; intro _ s h
    walk_at "go"
    have hb : (((x / 2 ^ i : Nat) : Int).fmod 2 == 1) = inSet x i := by
      unfold inSet
      rw [Int.fmod_eq_emod_of_nonneg _ (by decide)]
      have : ((x / 2 ^ i : Nat) : Int) % 2 = ((x / 2 ^ i % 2 : Nat) : Int) := rfl
      rw [this]
      generalize x / 2 ^ i % 2 = m
      rw [Bool.eq_iff_iff, beq_iff_eq, beq_iff_eq]; exact o223
    rw [hb]
    cases hin : inSet x i with
    | false =>
      rw [if_neg (by decide)]
      exact hJ.go _ _ ⟨hin, _, [], rfl, h⟩
    | true =>
      rw [if_pos rfl]
      walk_at "go"
      obtain ⟨tl, hvl⟩ := StrsAre.at hlv (k := i) (a := ch1 (ls.getD i 0)) (by rw [List.getElem?_map, List.getElem?_eq_getElem (by walk_at "om"), List.getD_eq_getElem?_getD, List.getElem?_eq_getElem (by walk_at "om")]; rfl)
      refine item_l h (by walk_at "mem") (by walk_at "om") (by simpa using hvl) (by exact o224 hi) ?_ rfl
      exact hJ.go _ _ ⟨⟨hin, _, rfl⟩, _, [], rfl, h⟩
  · clear h
    intro C acc out vals s hout h s' h
    have hp := hout.all (fun y v => ∃ u, v = .str (ch1 y) u) (fun k => if inSet x k = true then some (ls.getD k 0) else none) (fun i y _ hw => ⟨_, by rw [if_pos hw.1], hw.2⟩) (fun i _ hw => by rw [hw]; rfl)
    have hw : (List.range 4).filterMap (fun k => if inSet x k = true then some (ls.getD k 0) else none) = wordOf ls x := rfl
    rw [hw] at hp
    have hs := strs_of hp
    have hlen : (wordOf ls x).length ≤ 4 := by rw [← hw]; exact Nat.le_trans (List.length_filterMap_le _ _) (by simp)
    walk_at "go"
    refine s_join h .head hs ?_ ?_
    · exact join_ok (B := 1) (fun y hy => by obtain ⟨c, _, rfl⟩ := List.mem_map.mp hy; exact Nat.le_refl _) (by rw [List.length_map]; show _ * 1 + _ * 0 ≤ _; exact o225 hlen)
    · clear h
      intro u s h
      rw [join_one]
      walk_at "go"
      exact k _ _ (h.sub (by walk_at "sub"))
end
end Mine
namespace Mine
section
open PySem PySem.W PyProof.Rows PySem.Calls
variable {prog : Program} {w : World} {A : Around} {b s : Shared} {L : Led} {f : Addr} {fd : FuncData} {R : Result → Shared → Prop} {t u tn : Tok}
noncomputable def nmV : List (Str × NameKind) := (stScope (nth pb 20)).names
noncomputable def esc1 (w : List Nat) : List (List Nat) := w.map fun c => [92, c]
noncomputable def esc2 (w : List Nat) : List (List Nat) := w.map fun c => if (c == 34 || c == 92) = true then [92, c] else [c]
noncomputable def writ1 (ls : List Nat) (x : Nat) : List Nat := if (x / 16 % 2 == 1) = true ∧ wordOf ls x ≠ [] then (esc1 (wordOf ls x)).flatten ++ [10] else 34 :: (esc2 (wordOf ls x)).flatten ++ [34, 10]
noncomputable def writ (ls : List Nat) (xs : List Nat) : List Nat := xs.flatMap (writ1 ls)
theorem join_cat (xss : List (List Nat)) : Txt.join (Str.ofString "") (xss.map sOf) = sOf xss.flatten := by
  show (⟨((xss.map sOf).drop 1).foldl (fun acc p => acc ++ (Str.ofString "").cps ++ p.cps) ((xss.map sOf).headD Str.empty).cps⟩ : Str) = _
  have e0 : (Str.ofString "").cps = #[] := rfl
  rw [e0]
  have key : ∀ (l : List (List Nat)) (acc : Array Nat), (l.map sOf).foldl (fun acc p => acc ++ #[] ++ p.cps) acc = (acc.toList ++ l.flatten).toArray := by
    intro l
    induction l with
    | nil => intro acc; simp
    | cons c l ih => intro acc; rw [List.map_cons, List.foldl_cons, ih]; simp
  cases xss with
  | nil => rfl
  | cons c cs =>
    rw [List.map_cons, List.drop_succ_cons, List.drop_zero, key]
    simp
theorem strs_of2 {xss : List (List Nat)} {out : List Value} (h : Paired (fun y v => ∃ u, v = .str (sOf y) u) xss out) : StrsAre out (xss.map sOf) := by
  induction h with
  | nil => exact .nil
  | cons h _ ih => obtain ⟨u, rfl⟩ := h; exact .cons _ _ ih
structure Wrd (b : Shared) : Prop where
  word : ∃ f fd, Def b "_law_word" 19 f fd
  range : Blt b "range" (.type "range")
theorem qb_in : ∀ c : Fin 128, Txt.contains "\"\\" (ch1 c.val) = (c.val == 34 || c.val == 92) := by decide +kernel
theorem map_range {β : Type} (g : Nat → β) (wd : List Nat) : (List.range wd.length).map (fun i => g (wd.getD i 0)) = wd.map g := by
  apply List.ext_getElem
  · simp
  · intro i h1 h2
    simp at h1 h2
    simp [List.getD_eq_getElem?_getD, List.getElem?_eq_getElem h2]
theorem s_cat (a c : List Nat) : sOf a ++ sOf c = sOf (a ++ c) := by
  show (⟨a.toArray ++ c.toArray⟩ : Str) = _
  simp
theorem flat_le {B : Nat} : ∀ {l : List (List Nat)}, (∀ y ∈ l, y.length ≤ B) → l.flatten.length ≤ l.length * B
  | [], _ => by simp
  | y :: l, h => by
    have h1 := h y (.head _)
    have h2 := flat_le (l := l) fun z hz => h z (.tail _ hz)
    rw [List.flatten_cons, List.length_append, List.length_cons, Nat.succ_mul]; exact o226 h1 h2
noncomputable abbrev wrIf : Stmt := nth (forBody (nth (stBody (nth pb 20)) 1)) 1
noncomputable abbrev lV : List Str := ["letters", "numbers", "text", "number", "word"]
theorem ascii_w {wd : List Nat} (hw : ∀ c ∈ wd, c < 128) : (sOf wd).cps.all (· < 128) = true := by
  show wd.toArray.all _ = true
  rw [Array.all_eq_true']
  intro c hc
  exact decide_eq_true (hw c (by simpa using hc))
theorem then_c {it La : Addr} {r : Res} {e : Env} {E : Value → Shared → Prop} {Q : Flow → Shared → Prop} {v1 v2 v3 : Option Value} {tx wd : List Nat} {tt tw : Tok} (hA : Room A 3) (he : Ev e La nmV []) (hw : ∀ c ∈ wd, c < 128) (hl : wd.length ≤ 10) (hx : tx.length ≤ 1000)
    (h : H b ((it, r) :: (La, .fr lV [v1, v2, some (.str (sOf tx) tt), v3, some (.str (sOf wd) tw)]) :: L) s)
    (k : ∀ tt s', H b ((it, r) :: (La, .fr lV [v1, v2, some (.str (sOf (tx ++ ((esc1 wd).flatten ++ [10]))) tt), v3, some (.str (sOf wd) tw)]) :: L) s' → Q .next s') :
    wpAny (model prog w) A (execs (ifThen wrIf) e) Q E s := by
  refine st_hide ?_
  intro _ _
  walk_at "go"
  walk_at "gm"
  walk_at "go"
  refine lc_open (clos := []) he (by kernel_rfl!) rfl (by kernel_rfl!) ?_ (by intro _; rfl)
  walk_at "go"
  refine iter_s h (ascii_w hw) ?_
  clear h; intro is s h
  refine lc_pure (nm' := [(".0", .local), ("sign", .local)]) ["sign"] (fun i o => match o with | some y => ∃ c u, wd[i]? = some c ∧ y = .str (sOf [92, c]) u | none => False)
    (src_s (x := sOf wd) hA.handled) he rfl (by kernel_rfl!) (by decide +kernel) (by kernel_rfl!) (fun _ _ _ _ => trivial) (by show wd.toArray.size < _; simp; walk_at "om") h ?_ ?_
  · clear h
    intro C acc e' i v G out vals s E J hJ hvl he hi hv h
    refine byName fun _ kk_ => ?_
    obtain ⟨⟨c, u, hc, rfl⟩, rfl⟩ := hv
    obtain ⟨v0, rfl⟩ := ln1 hvl
    refine kk_ ?_
    clear kk_
    simp only [List.cons_append, List.nil_append] at h ⊢
    walk_at "go"
    refine wpAny_tests_nil ?_
    rw [if_pos rfl]
    have hsz : (Str.ofString "\\").length + (ch1 c).length ≤ 2 ^ 20 := by show 1 + 1 ≤ _; decide
    walk_at "go"
    exact ⟨⟨c, _, by simpa using hc, rfl⟩, _, [], rfl, h⟩
  · clear h
    intro C acc out vals s hout h s' h
    have hp := hout.map (fun y v => ∃ u, v = .str (sOf y) u) (fun i => [92, wd.getD i 0]) (fun i y _ hw => by obtain ⟨c, u, h1, h2⟩ := hw; exact ⟨u, by rw [List.getD_eq_getElem?_getD, h1]; exact h2⟩) (fun i _ hw => hw)
    have hrange : (List.range (sOf wd).cps.size).map (fun i => [92, wd.getD i 0]) = esc1 wd := by
      have e : (sOf wd).cps.size = wd.length := by show wd.toArray.size = _; simp
      rw [e]; exact map_range (fun c => [92, c]) wd
    have hel : ∀ y ∈ esc1 wd, y.length ≤ 2 := fun y hy => by obtain ⟨c, _, rfl⟩ := List.mem_map.mp hy; exact Nat.le_refl _
    have hfl : (esc1 wd).flatten.length ≤ 20 := Nat.le_trans (flat_le hel) (by simp [esc1]; exact o227 hl)
    rw [hrange] at hp
    walk_at "go"
    refine s_join h .head (strs_of2 hp) (join_ok (B := 2) ?_ ?_) ?_
    · intro y hy
      refine byName fun _ kk_ => ?_
      obtain ⟨z, hz, rfl⟩ := List.mem_map.mp hy
      refine kk_ ?_
      clear kk_
      have := hel z hz
      show z.toArray.size ≤ 2
      simpa using this
    · rw [List.length_map]; show _ * 2 + _ * 0 ≤ _; simp [esc1]; exact o228 hl
    rw [join_cat]
    clear h; intro _ s h
    have hsz2 : (sOf (esc1 wd).flatten).length + (Str.ofString "\n").length ≤ 2 ^ 20 := by show (esc1 wd).flatten.toArray.size + 1 ≤ _; simp only [List.size_toArray]; exact o229 hfl
    walk_at "go"
    have en : Str.ofString "\n" = sOf [10] := rfl
    rw [en, s_cat]
    have hsz3 : (sOf tx).length + (sOf ((esc1 wd).flatten ++ [10])).length ≤ 2 ^ 20 := by
      show tx.toArray.size + ((esc1 wd).flatten ++ [10]).toArray.size ≤ _
      simp only [List.size_toArray, List.length_append, List.length_cons, List.length_nil]; exact o230 hx hfl
    walk_at "go"
    rw [s_cat] at h
    exact k _ _ (h.draw (by walk_at "draw"))
theorem else_c {it La : Addr} {r : Res} {e : Env} {E : Value → Shared → Prop} {Q : Flow → Shared → Prop} {v1 v2 v3 : Option Value} {tx wd : List Nat} {tt tw : Tok} (hA : Room A 3) (he : Ev e La nmV []) (hw : ∀ c ∈ wd, c < 128) (hl : wd.length ≤ 10) (hx : tx.length ≤ 1000)
    (h : H b ((it, r) :: (La, .fr lV [v1, v2, some (.str (sOf tx) tt), v3, some (.str (sOf wd) tw)]) :: L) s)
    (k : ∀ tt s', H b ((it, r) :: (La, .fr lV [v1, v2, some (.str (sOf (tx ++ (34 :: (esc2 wd).flatten ++ [34, 10]))) tt), v3, some (.str (sOf wd) tw)]) :: L) s' → Q .next s') :
    wpAny (model prog w) A (execs (ifElse wrIf) e) Q E s := by
  refine st_hide ?_
  intro _ _
  walk_at "go"
  walk_at "gm"
  walk_at "go"
  refine lc_open (clos := []) he (by kernel_rfl!) rfl (by kernel_rfl!) ?_ (by intro _; rfl)
  walk_at "go"
  refine iter_s h (ascii_w hw) ?_
  clear h; intro is s h
  refine lc_pure (nm' := [(".0", .local), ("sign", .local)]) ["sign"] (fun i o => match o with | some y => ∃ c u, wd[i]? = some c ∧ y = .str (sOf (if (c == 34 || c == 92) = true then [92, c] else [c])) u | none => False)
    (src_s (x := sOf wd) hA.handled) he rfl (by kernel_rfl!) (by decide +kernel) (by kernel_rfl!) (fun _ _ _ _ => trivial) (by show wd.toArray.size < _; simp; walk_at "om") h ?_ ?_
  · clear h
    intro C acc e' i v G out vals s E J hJ hvl he hi hv h
    refine byName fun _ kk_ => ?_
    obtain ⟨⟨c, u, hc, rfl⟩, rfl⟩ := hv
    obtain ⟨v0, rfl⟩ := ln1 hvl
    refine kk_ ?_
    clear kk_
    simp only [List.cons_append, List.nil_append] at h ⊢
    walk_at "go"
    refine wpAny_tests_nil ?_
    rw [if_pos rfl]
    have hsz : (Str.ofString "\\").length + (ch1 c).length ≤ 2 ^ 20 := by show 1 + 1 ≤ _; decide
    walk_at "go"
    have hc' : wd[i]? = some c := by simpa using hc
    rw [qb_in ⟨c, hw c (List.mem_of_getElem? hc')⟩]
    by_cases hq : (c == 34 || c == 92) = true
    · rw [if_pos hq]
      walk_at "go"
      exact ⟨⟨c, _, hc', by rw [if_pos hq]; rfl⟩, _, [], rfl, h⟩
    · rw [if_neg hq]
      walk_at "go"
      exact ⟨⟨c, _, hc', by rw [if_neg hq]⟩, _, [], rfl, h⟩
  · clear h
    intro C acc out vals s hout h s' h
    have hp := hout.map (fun y v => ∃ u, v = .str (sOf y) u) (fun i => if (wd.getD i 0 == 34 || wd.getD i 0 == 92) = true then [92, wd.getD i 0] else [wd.getD i 0]) (fun i y _ hw => by obtain ⟨c, u, h1, h2⟩ := hw; exact ⟨u, by rw [List.getD_eq_getElem?_getD, h1]; exact h2⟩) (fun i _ hw => hw)
    have hrange : (List.range (sOf wd).cps.size).map (fun i => if (wd.getD i 0 == 34 || wd.getD i 0 == 92) = true then [92, wd.getD i 0] else [wd.getD i 0]) = esc2 wd := by
      have e : (sOf wd).cps.size = wd.length := by show wd.toArray.size = _; simp
      rw [e]; exact map_range (fun c => if (c == 34 || c == 92) = true then [92, c] else [c]) wd
    have hel : ∀ y ∈ esc2 wd, y.length ≤ 2 := fun y hy => by obtain ⟨c, _, rfl⟩ := List.mem_map.mp hy; split <;> simp
    have hfl : (esc2 wd).flatten.length ≤ 20 := Nat.le_trans (flat_le hel) (by simp [esc2]; exact o227 hl)
    rw [hrange] at hp
    walk_at "go"
    refine s_join h .head (strs_of2 hp) (join_ok (B := 2) ?_ ?_) ?_
    · intro y hy
      refine byName fun _ kk_ => ?_
      obtain ⟨z, hz, rfl⟩ := List.mem_map.mp hy
      refine kk_ ?_
      clear kk_
      have := hel z hz
      show z.toArray.size ≤ 2
      simpa using this
    · rw [List.length_map]; show _ * 2 + _ * 0 ≤ _; simp [esc2]; exact o228 hl
    rw [join_cat]
    clear h; intro _ s h
    have hsz1 : (Str.ofString "\"").length + (sOf (esc2 wd).flatten).length ≤ 2 ^ 20 := by show 1 + (esc2 wd).flatten.toArray.size ≤ _; simp only [List.size_toArray]; exact o231 hfl
    walk_at "go"
    have eq : Str.ofString "\"" = sOf [34] := rfl
    have en : Str.ofString "\"\n" = sOf [34, 10] := rfl
    rw [eq, s_cat]
    have hsz2 : (sOf ([34] ++ (esc2 wd).flatten)).length + (Str.ofString "\"\n").length ≤ 2 ^ 20 := by show ([34] ++ (esc2 wd).flatten).toArray.size + 2 ≤ _; simp only [List.size_toArray, List.length_append, List.length_cons, List.length_nil]; exact o232 hfl
    walk_at "go"
    rw [en, s_cat]
    have hsz3 : (sOf tx).length + (sOf ([34] ++ (esc2 wd).flatten ++ [34, 10])).length ≤ 2 ^ 20 := by
      show tx.toArray.size + ([34] ++ (esc2 wd).flatten ++ [34, 10]).toArray.size ≤ _
      simp only [List.size_toArray, List.length_append, List.length_cons, List.length_nil]; exact o233 hx hfl
    walk_at "go"
    rw [s_cat, show [34] ++ (esc2 wd).flatten ++ [34, 10] = 34 :: (esc2 wd).flatten ++ [34, 10] from rfl] at h
    exact k _ _ (h.draw (by walk_at "draw"))
theorem writ1_le (ls : List Nat) (x : Nat) : (writ1 ls x).length ≤ 30 := by
  have h0 : (wordOf ls x).length ≤ 4 := Nat.le_trans (List.length_filterMap_le _ _) (by simp)
  have h1 : (esc1 (wordOf ls x)).flatten.length ≤ 8 := Nat.le_trans (flat_le (B := 2) fun y hy => by obtain ⟨c, _, rfl⟩ := List.mem_map.mp hy; exact Nat.le_refl _) (by simp [esc1]; exact o234 h0)
  have h2 : (esc2 (wordOf ls x)).flatten.length ≤ 8 := Nat.le_trans (flat_le (B := 2) fun y hy => by obtain ⟨c, _, rfl⟩ := List.mem_map.mp hy; split <;> simp) (by simp [esc2]; exact o234 h0)
  unfold writ1
  split <;> simp only [List.length_append, List.length_cons, List.length_nil] <;> (first | exact o235 h1 | exact o236 h2)
theorem writ_le (ls xs : List Nat) : (writ ls xs).length ≤ xs.length * 30 := by
  unfold writ
  rw [List.flatMap]
  refine Nat.le_trans (flat_le (B := 30) fun y hy => ?_) (by simp)
  obtain ⟨x, _, rfl⟩ := List.mem_map.mp hy
  exact writ1_le ls x
theorem writ_c {la na : Addr} {lv nv : List Value} {ls xs : List Nat} (D : Def b "_law_written" 20 f fd) (W : Wrd b) (hA : Room A 7) (h : H b L s) (hl : Has la (.ls lv) L) (hlv : StrsAre lv (ls.map ch1)) (h4 : ls.length = 4) (hls : ∀ c ∈ ls, c < 128)
    (hn : Has na (.ls nv) L) (hnv : IntsAre nv (xs.map Int.ofNat)) (hz : xs.length ≤ 10)
    (k : ∀ u s', H b L s' → R (.ok (.ret (.str (sOf (writ ls xs)) u))) s') : codeAny (model prog w) A (.call (.ref f) ⟨[.ref la, .ref na], []⟩) R s := by
  refine byName fun _ kk_ => ?_
  obtain ⟨fw, fdw, Dw⟩ := W.word
  refine kk_ ?_
  clear kk_
  have gw := Dw.glb
  have Fw := Dw.fn
  refine enter (d := 6) (nm := nmV) (names := ["letters", "numbers", "text", "number", "word"]) (vals := [some (.ref la), some (.ref na), none, none, none]) (binds := [("letters", .ref la), ("numbers", .ref na)]) D.fn hA h
    (BindsTo.of_eq (bind_of D.fn.params D.d1 D.d2 (t := fun _ => pure _) (fun q => by kernel_rfl))) rfl (by kernel_rfl) (by kernel_rfl) (by kernel_rfl) (by decide +kernel) rfl rfl rfl ?_
  clear h
  intro La s e A' E' he hA h
  refine st_hide ?_
  intro _ _
  walk_at "go"
  refine iter_l h (.tail hn) ?_
  clear h; intro it s h
  have hnl : nv.length = xs.length := by have := hnv.length; simpa using this
  refine loop (n := xs.length) ((src_l (l := na) (vs := nv) hA.handled).len hnl) (fun i L' => Ex3 fun (tt : Tok) (v1 v2 : Option Value) => L' = (La, .fr ["letters", "numbers", "text", "number", "word"] [some (.ref la), some (.ref na), some (.str (sOf (writ ls (xs.take i))) tt), v1, v2]) :: L) (fun i L' hz => ?_) h ⟨_, _, _, rfl⟩ ?_ ?_
  · obtain ⟨tt, v1, v2, rfl⟩ := hz
    exact .tail hn
  · clear h
    intro i v G L' s E J hJ hi hv hz h
    refine byName fun _ kk_ => ?_
    obtain ⟨tt, v1, v2, rfl⟩ := hz
    obtain ⟨hv, rfl⟩ := hv
    refine kk_ ?_
    clear kk_
    simp only [List.cons_append, List.nil_append] at h
    obtain ⟨tx, hvx⟩ := IntsAre.get hnv i (Int.ofNat xs[i]) (by rw [List.getElem?_map, List.getElem?_eq_getElem hi]; rfl)
    rw [hvx] at hv
    obtain rfl := Option.some.inj hv
    walk_at "go"
    walk_at "cw"
    refine word_c (ls := ls) (x := xs[i]) Dw W.range (hA.less (by walk_at "om")) h (.tail (.tail hl)) hlv h4 ?_
    clear h
    intro uw s h
    try dsimp only
    walk_at "go"
    have hb : ((Int.ofNat xs[i]).fdiv 16).fmod 2 = ((xs[i] / 16 % 2 : Nat) : Int) := by
      rw [Int.fdiv_eq_ediv_of_nonneg _ (by decide), Int.fmod_eq_emod_of_nonneg _ (by decide)]; rfl
    have hb2 : (((Int.ofNat xs[i]).fdiv 16).fmod 2 == 1) = (xs[i] / 16 % 2 == 1) := by
      rw [hb]; rw [Bool.eq_iff_iff, beq_iff_eq, beq_iff_eq]; exact o237
    rw [hb2]
    have hwl : (wordOf ls xs[i]).length ≤ 10 := Nat.le_trans (List.length_filterMap_le _ _) (by simp)
    have hw8 : ∀ c ∈ wordOf ls xs[i], c < 128 := fun c hc => by
      refine byName fun _ kk_ => ?_
      obtain ⟨k, hk, h2⟩ := List.mem_filterMap.mp hc
      refine kk_ ?_
      clear kk_
      split at h2
      · cases h2
        have hk4 : k < ls.length := by rw [h4]; simpa using hk
        rw [List.getD_eq_getElem?_getD, List.getElem?_eq_getElem hk4]
        exact hls _ (List.getElem_mem _)
      · cases h2
    have htx : (writ ls (xs.take i)).length ≤ 1000 := Nat.le_trans (writ_le ls _) (by simp; exact o238 hz)
    have hnext : ∀ u : List Nat, u = writ1 ls xs[i] → writ ls (xs.take i) ++ u = writ ls (xs.take (i + 1)) := fun u hu => by
      unfold writ
      rw [List.take_succ_eq_append_getElem hi, List.flatMap_append, hu]; simp
    have done : ∀ tt s', H b ((it, .pr (isLi na (i + 1))) :: (La, .fr lV [some (.ref la), some (.ref na), some (.str (sOf (writ ls (xs.take (i + 1)))) tt), some (.int (Int.ofNat xs[i]) tx), some (.str (sOf (wordOf ls xs[i])) uw)]) :: L) s' →
        ∃ L', H b ((fun i => [(it, Res.pr (isLi na i))]) (i + 1) ++ L') s' ∧ Ex3 fun (tt : Tok) (v1 v2 : Option Value) => L' = (La, .fr ["letters", "numbers", "text", "number", "word"] [some (.ref la), some (.ref na), some (.str (sOf (writ ls (xs.take (i + 1)))) tt), v1, v2]) :: L :=
      fun tt s' h' => ⟨_, h', _, _, _, rfl⟩
    by_cases hb1 : (xs[i] / 16 % 2 == 1) = true
    · rw [if_pos hb1]
      walk_at "go"
      by_cases hw0 : wordOf ls xs[i] = []
      · have e0 : (sOf (wordOf ls xs[i]) != Str.ofString "") = false := by rw [hw0]; rfl
        rw [e0]
        walk_at "go"
        rw [if_neg (by decide), if_neg (by decide)]
        refine else_c (hA.less (by walk_at "om")) he hw8 hwl htx h fun tt s' h' => ?_
        rw [hnext _ (by unfold writ1; rw [if_neg (fun q => q.2 hw0)])] at h'
        try dsimp only
        walk_at "go"
        exact done _ _ h'
      · have e0 : (sOf (wordOf ls xs[i]) != Str.ofString "") = true := by
          cases hq : wordOf ls xs[i] with
          | nil => exact absurd hq hw0
          | cons _ _ => rfl
        rw [e0]
        walk_at "go"
        rw [if_pos rfl]
        walk_at "go"
        rw [if_pos rfl]
        refine then_c (hA.less (by walk_at "om")) he hw8 hwl htx h fun tt s' h' => ?_
        rw [hnext _ (by unfold writ1; rw [if_pos ⟨hb1, hw0⟩])] at h'
        try dsimp only
        walk_at "go"
        exact done _ _ h'
    · rw [if_neg hb1, if_neg (by decide)]
      refine else_c (hA.less (by walk_at "om")) he hw8 hwl htx h fun tt s' h' => ?_
      rw [hnext _ (by unfold writ1; rw [if_neg (fun q => hb1 q.1)])] at h'
      try dsimp only
      walk_at "go"
      exact done _ _ h'
  · clear h
    intro L' s hz h
    refine byName fun _ kk_ => ?_
    obtain ⟨tt, v1, v2, rfl⟩ := hz
    refine kk_ ?_
    clear kk_
    rw [List.take_length] at h
    try dsimp only
    walk_at "go"
    exact k _ _ (h.sub (by walk_at "sub"))
end
end Mine
set_option hygiene false in
local macro_rules | `(tactic| walk_at "tb") => `(tactic| first | assumption | ((with_reducible apply Has.tail); walk_at "tb") | ((with_reducible apply Has.right); walk_at "tb"))

namespace Mine
section
open PySem PySem.W PyProof.Rows PySem.Calls
theorem Has.right {a : Addr} {r : Res} {P L : Led} (h : Has a r L) : Has a r (P ++ L) := by
  induction P with
  | nil => exact h
  | cons p P ih => exact .tail ih

variable {prog : Program} {w : World} {A : Around} {b s : Shared} {L : Led} {f : Addr} {fd : FuncData} {R : Result → Shared → Prop} {t u tn : Tok}
structure Alpha (ls : List Nat) : Prop where
  len : ls.length = 4
  lt : ∀ c ∈ ls, c < 128
  cnt : ∀ m < 16, ∀ k < 4, Txt.count (sOf (wordOf ls m)) (ch1 (ls.getD k 0)) = if inSet m k = true then 1 else 0
theorem inSet_tb (x k : Nat) : inSet x k = x.testBit k := by rw [Nat.testBit_eq_decide_div_mod_eq]; rfl
theorem inSet_mod {x k : Nat} (hk : k < 4) : inSet (x % 16) k = inSet x k := by
  rw [inSet_tb, inSet_tb, show 16 = 2 ^ 4 from rfl, Nat.testBit_mod_two_pow, decide_eq_true hk, Bool.true_and]
theorem ints_of {ds : List Int} {out : List Value} (h : Paired (fun y v => ∃ u, v = .int y u) ds out) : IntsAre out ds := by
  induction h with
  | nil => exact .nil
  | cons h _ ih => obtain ⟨u, rfl⟩ := h; exact .cons _ _ ih
theorem fm_congr {α β : Type} {f g : α → Option β} : ∀ {l : List α}, (∀ x ∈ l, f x = g x) → l.filterMap f = l.filterMap g
  | [], _ => rfl
  | x :: l, h => by rw [List.filterMap_cons, List.filterMap_cons, h x (.head _), fm_congr fun y hy => h y (.tail _ hy)]
theorem wordOf_mod (ls : List Nat) (x : Nat) : wordOf ls (x % 16) = wordOf ls x := by
  unfold wordOf
  refine fm_congr fun k hk => ?_
  rw [inSet_mod (List.mem_range.mp hk)]
theorem dg_bits (x : Nat) : dg 1 ((List.range 4).map fun k => if inSet x k = true then 1 else 0) = ((x % 16 : Nat) : Int) := by
  have h : ∀ m : Fin 16, dg 1 ((List.range 4).map fun k => if inSet m.val k = true then 1 else 0) = (m.val : Int) := by decide +kernel
  rw [← h ⟨x % 16, Nat.mod_lt _ (by decide)⟩]
  congr 1
  refine List.map_congr_left fun k hk => ?_
  rw [inSet_mod (List.mem_range.mp hk)]
noncomputable def nmL : List (Str × NameKind) := (stScope (nth pb 22)).names
noncomputable abbrev lL : List Str := ["letters", "words", "numbers", "row", "laid", "drawn", "number"]
structure It where
  a : Addr
  x : Nat
  t1 : Tok
  t2 : Tok
  t3 : Tok
noncomputable def valOf (x : Nat) : Int := (((x : Int).fdiv 32).fmod 101) - 50
noncomputable def It.ob (ls : List Nat) (i : It) : Res := .ob (tup [.str (sOf (wordOf ls i.x)) i.t1, .int ((i.x % 16 : Nat) : Int) i.t2, .int (valOf i.x) i.t3])
noncomputable abbrev It.res (ls : List Nat) (i : It) : Addr × Res := (i.a, i.ob ls)
theorem It.grab {ls : List Nat} {x : Nat} {t1 t2 t3 : Tok} {aT : Addr} (h : H b ((aT, .ob (tup [.str (sOf (wordOf ls x)) t1, .int ((x % 16 : Nat) : Int) t2, .int (((Int.ofNat x).fdiv 32).fmod 101 - 50) t3])) :: L) s) : ∃ i : It, i.x = x ∧ i.a = aT ∧ H b ((i.a, i.ob ls) :: L) s := ⟨⟨aT, x, t1, t2, t3⟩, rfl, rfl, h⟩
noncomputable def laidX (xs : List Nat) : List Nat := xs.foldl (fun ys x => if x % 16 ∈ ys.map (· % 16) then ys else ys ++ [x]) []
theorem laidX_snoc (xs : List Nat) (x : Nat) : laidX (xs ++ [x]) = if x % 16 ∈ (laidX xs).map (· % 16) then laidX xs else laidX xs ++ [x] := by
  unfold laidX; rw [List.foldl_append]; rfl
theorem laidX_len (xs : List Nat) : (laidX xs).length ≤ xs.length := by
  suffices ∀ xs ys : List Nat, (xs.foldl (fun ys x => if x % 16 ∈ ys.map (· % 16) then ys else ys ++ [x]) ys).length ≤ ys.length + xs.length by
    have := this xs []; simpa [laidX] using this
  intro xs
  induction xs with
  | nil => intro ys; simp
  | cons x xs ih =>
    intro ys
    rw [List.foldl_cons]
    refine Nat.le_trans (ih _) ?_
    split <;> simp <;> exact o239
theorem insA_perm (xs : List Int) (x : Int) : (insA xs x).Perm (x :: xs) := by
  unfold insA
  refine List.perm_middle.trans (.cons _ ?_)
  rw [List.take_append_drop]
theorem insA_sorted {xs : List Int} {x : Int} (h : xs.Pairwise (· ≤ ·)) : (insA xs x).Pairwise (· ≤ ·) := by
  induction xs with
  | nil => simp [insA]
  | cons a xs ih =>
    obtain ⟨h1, h2⟩ := List.pairwise_cons.mp h
    by_cases ha : a ≤ x
    · have e : insA (a :: xs) x = a :: insA xs x := by unfold insA; rw [List.countP_cons]; simp [ha]
      rw [e]
      refine List.pairwise_cons.mpr ⟨fun y hy => ?_, ih h2⟩
      rcases List.mem_cons.mp ((insA_perm xs x).mem_iff.mp hy) with rfl | hy
      · exact ha
      · exact h1 y hy
    · have hc : (a :: xs).countP (· ≤ x) = 0 := by
        rw [List.countP_eq_zero]
        intro y hy
        rcases List.mem_cons.mp hy with rfl | hy
        · simpa using ha
        · have := h1 y hy; simp; exact o240 this ha
      unfold insA
      rw [hc]
      simp only [List.take_zero, List.drop_zero, List.nil_append]
      refine List.pairwise_cons.mpr ⟨fun y hy => ?_, h⟩
      rcases List.mem_cons.mp hy with rfl | hy
      · exact o241 ha
      · have := h1 y hy; exact o242 this ha
structure Lay (b : Shared) : Prop where
  zip : Blt b "zip" (.type "zip")
  len : Blt b "len" (.builtin "len")
  among : ∃ f fd, Def b "_law_among" 21 f fd
  bl : ∃ f fd, Glb b "bisect_left" (.ref f) ∧ FnIs b f (nth pb 13) fd ∧ Dfl b fd
  br : ∃ f fd, Glb b "bisect_right" (.ref f) ∧ FnIs b f (nth pb 12) fd ∧ Dfl b fd
  ir : ∃ f fd, Glb b "insort_right" (.ref f) ∧ FnIs b f (nth pb 11) fd ∧ Dfl b fd
theorem laid_c {P' : Addr} {q' : Str} {lA wA nA : Addr} {lv wv nv : List Value} {ls xs : List Nat} (D : Def b "_law_laid" 22 f fd) (Y : Lay b) (B : Bm b) (I7 : InnerOf 7 inS "_digits2int" b P' q') (al : Alpha ls) (hA : Room A 20) (h : H b L s)
    (hP' : Has P' (.tb (stPos inS) q') L) (hl : Has lA (.ls lv) L) (hlv : StrsAre lv (ls.map ch1)) (hw : Has wA (.ls wv) L) (hwv : StrsAre wv (xs.map fun x => sOf (wordOf ls x))) (hn : Has nA (.ls nv) L) (hnv : IntsAre nv (xs.map Int.ofNat)) (hx6 : xs.length ≤ 10)
    (k : ∀ (T rA dA : Addr) (its : List It) (rv : List Value) (ri : List Int) (s' : Shared), its.map (·.x) = laidX xs → IntsAre rv ri → ri.Pairwise (· ≤ ·) → ri.Perm ((laidX xs).map fun x => ((x % 16 : Nat) : Int)) →
      H b ((T, .ob (tup [.ref rA, .ref dA])) :: (rA, .ls rv) :: (dA, .ls (its.map fun i => .ref i.a)) :: (its.map (It.res ls) ++ L)) s' → R (.ok (.ret (.ref T))) s') :
    codeAny (model prog w) A (.call (.ref f) ⟨[.ref lA, .ref wA, .ref nA], []⟩) R s := by
  refine byName fun _ kk_ => ?_
  obtain ⟨fa, fda, Da⟩ := Y.among
  obtain ⟨fbl, fdbl, glbl, Fbl, Dbl⟩ := Y.bl
  obtain ⟨fbr, fdbr, glbr, Fbr, Dbr⟩ := Y.br
  obtain ⟨fir, fdir, glir, Fir, Dir⟩ := Y.ir
  obtain ⟨f7, fd7, D7, T7⟩ := I7
  refine kk_ ?_
  clear kk_
  have hzip := Y.zip
  have hlen := Y.len
  have g7 := D7.glb
  have F7 := D7.fn
  have ga := Da.glb
  have Fa := Da.fn
  refine enterC (d := 19) (nm := nmL) (names := lL) (vals := [some (.ref lA), some (.ref wA), some (.ref nA), none, none, none, none]) (cn := ["word"]) (cvals := [none]) (binds := [("letters", .ref lA), ("words", .ref wA), ("numbers", .ref nA)]) D.fn hA h
    (bind_of D.fn.params D.d1 D.d2 (t := fun _ => pure _) (fun q => by kernel_rfl)) rfl (by kernel_rfl) (by kernel_rfl) (by decide +kernel) rfl (by kernel_rfl) (by decide +kernel) rfl rfl rfl ?_
  clear h
  intro La s e A' E' ca hca he hcode hqual hA h
  obtain ⟨c1, rfl⟩ := ln1 hca
  simp only [List.zip_cons_cons, List.zip_nil_right, List.map_cons, List.map_nil, List.cons_append, List.nil_append] at he h
  replace he := he
  refine st_hide ?_
  intro _ _
  walk_at "go"
  refine b_zip h (by walk_at "mem") (by walk_at "mem") ?_
  clear h; intro z TI TO i1 i2 s h
  refine iter_z h .head ?_
  rename_i rA _ _ _ _ dA _ _ _ _
  have hwl : wv.length = xs.length := by rw [strs_len hwv, List.length_map]
  have hnl : nv.length = xs.length := by rw [hnv.length, List.length_map]
  refine loop (src_z (xs := wv) (ys := nv) (n := xs.length) hA.handled (by rw [hwl, hnl]; exact (Nat.min_self _).symm)) (fun i L' => Ex6 fun (its : List It) (rv : List Value) (ri : List Int) (v1 v2 v3 : Option Value) => Cj5 (its.map (·.x) = laidX (xs.take i)) (IntsAre rv ri) (ri.Pairwise (· ≤ ·)) (ri.Perm ((laidX (xs.take i)).map fun x => ((x % 16 : Nat) : Int))) (L' = (dA, .ls (its.map fun i => .ref i.a)) :: (rA, .ls rv) :: (c1, .cl v1) :: (La, .fr lL [some (.ref lA), some (.ref wA), some (.ref nA), some (.ref rA), some (.ref dA), v2, v3]) :: (its.reverse.map (It.res ls) ++ L))) ?_ h ?_ ?_ ?_
  · rintro i L' ⟨its, rv, ri, v1, v2, v3, _, _, _, _, rfl⟩
    exact ⟨.tail (.tail (.tail (.tail (Has.right hw)))), .tail (.tail (.tail (.tail (Has.right hn))))⟩
  · exact ⟨[], [], [], _, _, _, rfl, .nil, .nil, .refl _, rfl⟩
  · clear h
    intro i v G L' s E J hJ hi hZ0_ hZ1_ h
    refine byName fun _ kk_ => ?_
    obtain ⟨its, rv, ri, v1, v2, v3, e1, hri, hso, hpe, rfl⟩ := hZ1_
    obtain ⟨T, x, y, rfl, hx, hy, rfl⟩ := hZ0_
    refine kk_ ?_
    clear kk_
    obtain ⟨tx, hx'⟩ := StrsAre.at hwv (k := i) (a := sOf (wordOf ls xs[i])) (by rw [List.getElem?_map, List.getElem?_eq_getElem hi]; rfl)
    obtain ⟨ty, hy'⟩ := IntsAre.at hnv (k := i) (a := Int.ofNat xs[i]) (by rw [List.getElem?_map, List.getElem?_eq_getElem hi]; rfl)
    obtain rfl : x = _ := Option.some.inj (hx.symm.trans hx')
    obtain rfl : y = _ := Option.some.inj (hy.symm.trans hy')
    simp only [zX, List.cons_append, List.nil_append] at h ⊢
    walk_at "go"
    walk_at "cwa"
    refine lc_open (clos := [("word", c1)]) he (by kernel_rfl!) rfl (by kernel_rfl!) ?_ (by intro _; rfl)
    walk_at "go"
    have hll : Has lA (.ls lv) (its.reverse.map (It.res ls) ++ L) := Has.right hl
    refine iter_l h (by walk_at "mem") ?_
    clear h; intro it s h
    refine lc_pure (nm' := [(".0", .local), ("letter", .local), ("word", .cell)]) ["letter"] (fun j o => match o with | some y => ∃ u, y = .int (if inSet (xs[i] % 16) j = true then 1 else 0) u | none => False)
      (src_l hA.handled) he rfl (by kernel_rfl!) (by decide +kernel) (by kernel_rfl!) (fun _ _ _ _ => by walk_at "mem") (by rw [strs_len hlv, List.length_map, al.len]; decide) h ?_ ?_
    · clear h
      intro C acc e' j v G out vals s E J hJ hvl he hj hv h
      refine byName fun _ kk_ => ?_
      obtain ⟨hv, rfl⟩ := hv
      obtain ⟨v0, rfl⟩ := ln1 hvl
      refine kk_ ?_
      clear kk_
      have hj4 : j < 4 := by rw [strs_len hlv, List.length_map, al.len] at hj; exact hj
      obtain ⟨tl, hvl'⟩ := StrsAre.at hlv (k := j) (a := ch1 (ls.getD j 0)) (by rw [List.getElem?_map, List.getD_eq_getElem?_getD, List.getElem?_eq_getElem (by rw [al.len]; exact hj4)]; rfl)
      obtain rfl : v = _ := Option.some.inj (hv.symm.trans hvl')
      simp only [List.cons_append, List.nil_append] at h ⊢
      walk_at "go"
      refine wpAny_tests_nil ?_
      rw [if_pos rfl]
      walk_at "go"
      walk_at "gm"
      walk_at "go"
      refine s_count h ?_
      clear h; intro _ s h
      have hc := al.cnt (xs[i] % 16) (Nat.mod_lt _ (by decide)) j hj4
      rw [wordOf_mod] at hc
      refine hJ.go _ _ ⟨?_, _, [], rfl, h⟩
      rw [hc]
      by_cases hin : inSet (xs[i] % 16) j = true
      · simp only [if_pos hin]; exact ⟨_, rfl⟩
      · simp only [if_neg hin]; exact ⟨_, rfl⟩
    · clear h
      intro C acc out vals s hout h s' h
      have hp := hout.map (fun y v => ∃ u, v = .int y u) (fun j => if inSet (xs[i] % 16) j = true then 1 else 0) (fun i y _ hw => hw) (fun i _ hw => hw)
      have hl4 : lv.length = 4 := by rw [strs_len hlv, List.length_map, al.len]
      rw [hl4] at hp
      have hio := ints_of hp
      walk_at "cwz"
      refine d2i (ds := (List.range 4).map fun j => if inSet (xs[i] % 16) j = true then 1 else 0) F7 D7.d1 D7.d2 T7 B hlen (hA.less (by simp)) h (by walk_at "mem") (by walk_at "tb") hio ?_ (by simp) (by decide) ?_
      · intro i₁ j₁
        unfold sg
        have hz : ∀ z ∈ (((List.range 4).map fun j => if inSet (xs[i] % 16) j = true then (1 : Int) else 0).drop i₁).take (j₁ - i₁), 0 ≤ z ∧ z < 2 ^ 1 := by
          intro z hz
          refine byName fun _ kk_ => ?_
          obtain ⟨j, _, rfl⟩ := List.mem_map.mp (List.mem_of_mem_drop (List.mem_of_mem_take hz))
          refine kk_ ?_
          clear kk_
          split <;> decide
        obtain ⟨b1, b2⟩ := dg_bound hz
        have hle : (1 * ((((List.range 4).map fun j => if inSet (xs[i] % 16) j = true then (1 : Int) else 0).drop i₁).take (j₁ - i₁)).length) ≤ 4 := by simp; exact o243
        have h4 := Nat.pow_le_pow_right (n := 2) (by decide) hle
        generalize 1 * ((((List.range 4).map fun j => if inSet (xs[i] % 16) j = true then (1 : Int) else 0).drop i₁).take (j₁ - i₁)).length = m at b2 h4 hle
        refine Nat.le_trans (intBits_le (k := 4) ?_) (by decide)
        have h5 : (2 : Int) ^ m = ((2 ^ m : Nat) : Int) := by push_cast; rfl
        rw [h5] at b2
        generalize dg 1 _ = g at b1 b2
        have key : g.natAbs < 2 ^ 4 := by exact o244 b1 h4 b2
        exact key
      rw [dg_bits, Nat.mod_mod]
      clear h; intro _ s h
      try dsimp only
      walk_at "go"
      have hlr : rv.length ≤ 10 := by
        rw [hri.length, hpe.length_eq, List.length_map]
        exact Nat.le_trans (laidX_len _) (Nat.le_trans (List.length_take_le _ _) (by exact o245 hi hx6))
      walk_at "cw"
      refine among hso Fa Da.d1 Da.d2 Fbl Dbl glbl hlen (hA.less (by simp)) h (by walk_at "mem") hri (by walk_at "om") ?_
      clear h; intro s h
      try dsimp only
      walk_at "go"
      have hmem : ((xs[i] % 16 : Nat) : Int) ∈ ri ↔ xs[i] % 16 ∈ (laidX (xs.take i)).map (· % 16) := by
        rw [hpe.mem_iff, List.mem_map, List.mem_map]
        constructor
        · rintro ⟨y, hy, e⟩; exact ⟨y, hy, by exact o246 e⟩
        · rintro ⟨y, hy, e⟩; exact ⟨y, hy, by exact o247 e⟩
      have htk : xs.take (i + 1) = xs.take i ++ [xs[i]] := by rw [List.take_succ_eq_append_getElem hi]
      by_cases hin : ((xs[i] % 16 : Nat) : Int) ∈ ri
      · rw [if_neg (by simpa using hin)]
        walk_at "go"
        simp only [zX, List.cons_append, List.nil_append]
        refine ⟨_, h.draw (by walk_at "draw"), its, rv, ri, _, _, _, ?_, hri, hso, ?_, rfl⟩
        · rw [htk, laidX_snoc, if_pos (hmem.mp hin)]; exact e1
        · rw [htk, laidX_snoc, if_pos (hmem.mp hin)]; exact hpe
      · rw [if_pos (by simpa using hin)]
        walk_at "go"
        walk_at "cw"
        have h' := h.front (a := rA) (by walk_at "pick")
        refine insr hso Fir Dir Fbr Dbr glbr hlen (hA.less (by simp)) h' hri (by walk_at "om") ?_
        clear h h'
        intro rv' hri'
        refine ⟨_, Upd.head, fun s h => ?_⟩
        try dsimp only
        walk_at "go"
        walk_at "gm"
        have hdv : Builtin.divisionGoesByPylong (Int.ofNat xs[i]) 32 = false := noPyS (by decide)
        walk_at "go"
        refine byName fun _ kk_ => ?_
        obtain ⟨it, hix, hia, hg⟩ := It.grab h
        refine kk_ ?_
        clear kk_
        subst hia
        clear h; have h := hg; clear hg
        have hlen' : (its.map fun i => Value.ref i.a).length < 2 ^ 20 := by
          rw [List.length_map, ← List.length_map (f := (·.x)), e1]
          exact Nat.lt_of_le_of_lt (Nat.le_trans (laidX_len _) (List.length_take_le _ _)) (by exact o248 hi hx6)
        have h' := h.front (a := dA) (by walk_at "pick")
        clear h; have h := h'; clear h'
        refine l_append h Upd.head hlen' ?_
        clear h; intro s h
        try dsimp only
        walk_at "go"
        simp only [zX, List.cons_append, List.nil_append]
        refine ⟨_, ?_, its ++ [it], rv', insA ri ((xs[i] % 16 : Nat) : Int), ?w1, ?w2, ?w3, ?_, hri', insA_sorted hso, ?_, rfl⟩
        · simp only [List.reverse_concat, List.map_cons, List.map_append, List.map_nil, List.cons_append]
          exact h.draw (by walk_at "draw")
        · rw [List.map_append, e1, htk, laidX_snoc, if_neg (fun q => hin (hmem.mpr q)), List.map_cons, hix]; rfl
        · rw [htk, laidX_snoc, if_neg (fun q => hin (hmem.mpr q)), List.map_append]
          exact (insA_perm _ _).trans ((List.Perm.cons _ hpe).trans (List.perm_append_singleton _ _).symm)
  · clear h
    intro L' s hZ0_ h
    refine byName fun _ kk_ => ?_
    obtain ⟨its, rv, ri, v1, v2, v3, e1, hri, hso, hpe, rfl⟩ := hZ0_
    refine kk_ ?_
    clear kk_
    try dsimp only
    walk_at "go"
    rw [List.take_length] at e1 hpe
    have h' := h.draw (L' := _ :: (rA, _) :: (dA, _) :: (its.reverse.map (It.res ls) ++ L)) (by walk_at "draw")
    exact k _ _ _ _ _ _ _ e1 hri hso hpe (h'.perm (((((List.reverse_perm its).map (It.res ls)).append_right L).cons _).cons _ |>.cons _))
end
end Mine
namespace Mine
section
open PySem PySem.W PyProof.Rows PySem.Calls
section
variable {prog : Program} {w : World} {A : Around} {E : Value → Shared → Prop} {b s : Shared} {L L' : Led} {e : Env} {d : Addr} {kvs : List (Str × Value)} {x : Str} {v : Value} {t : Tok} {pos : Pos}
noncomputable def isDc (prog : Program) (w : World) (kvs : List (Str × Value)) (o : Obj) : Prop := o.ExactDict ∧ ∃ es ep, o.data = .dict es ep ∧ KeysOf (strKind prog w) es ∧ Pairs (strKind prog w) es.toList kvs ∧ (kvs.map (·.1)).Nodup
theorem dictOf (h : H b L s) (hm : Has d (.pr (isDc prog w kvs)) L) : s.heap.DictOf (strKind prog w) d kvs := by
  obtain ⟨o, ho, hx, es, ep, r⟩ := H.getP h hm
  exact ⟨o, es, ep, ho, hx, r⟩
theorem isKey (x : Str) (t : Tok) : (strKind prog w).is x (.str x t) = true := by show (x == x) = true; simp
theorem d_new {Q : Value → Shared → Prop} (h : H b L s) (kk : ∀ a s', H b ((a, .pr (isDc prog w [])) :: L) s' → Q (.ref a) s') : wpAny (model prog w) A (eval (.Dict [] [] pos) e) Q E s :=
  wpAny_Dict_empty (kk _ _ (h.grow (t := s.toks) (fun _ _ e => Heap.get?_push_of_some _ e) (fun _ => ⟨_, Heap.get?_push_size _ rfl, ⟨rfl, rfl, rfl⟩, #[], 0, rfl, fun _ he => by simp at he, Pairs.nil, List.nodup_nil⟩) (Nat.le_refl _)))
theorem d_get {value slice : Expr} {Q : Value → Shared → Prop} (h : H b L s) (hm : Has d (.pr (isDc prog w kvs)) L) (hv : valueAt kvs x = some v) (kk : ∀ s', H b L s' → Q v s')
    (hs : subscripted slice false (.ref d) (.str x t) = operate [.ref d, .str x t] (getItem (.ref d) (.str x t))) : wpAny (model prog w) A (subscriptTail value slice (.ref d) (.str x t)) Q E s :=
  tail_any (dictOf h hm).typeIs slot_dict_getitem.lookup (wpAny_getItem_of (isKey x t) (dictOf h hm).mapOf hv (kk _ (h.toks _))) hs
theorem d_set {Q : Unit → Shared → Prop} (h : H b L s) (u : Upd d (.pr (isDc prog w kvs)) (.pr (isDc prog w (stored kvs x v))) L L') (hsz : kvs.length ≤ 1000) (kk : ∀ s', H b L' s' → Q () s') : wpAny (model prog w) A (setItem (.ref d) (.str x t) v) Q E s :=
  wpAny_setItem_pairs (isKey x t) (dictOf h u.has) (fun h' hd hs => kk _ (h.set u hs (fun _ => let ⟨o, es, ep, ho, hx, r⟩ := hd; ⟨o, ho, hx, es, ep, r⟩) _)) (by rw [sizeLine_eq]; exact o249 hsz)
theorem valueAt_map (kvs : List (Str × Value)) (k x : Str) (v : Value) : valueAt (kvs.map fun kv => if kv.1 = k then (kv.1, v) else kv) x = if x = k then (valueAt kvs k).map (fun _ => v) else valueAt kvs x := by
  induction kvs with
  | nil => simp [valueAt]
  | cons p l ih =>
    obtain ⟨a, c⟩ := p
    rw [List.map_cons]
    unfold valueAt at ih ⊢
    rw [List.find?_cons, List.find?_cons, List.find?_cons]
    by_cases h1 : a = k
    · by_cases h2 : x = k
      · subst h1; subst h2; simp
      · subst h1
        have : ¬ a = x := fun q => h2 q.symm
        simp [this, h2] at ih ⊢
        exact ih
    · by_cases h3 : a = x
      · subst h3; simp [h1]
      · simp [h1, h3]; simpa using ih
theorem valueAt_none {kvs : List (Str × Value)} {k : Str} (h : (kvs.any fun kv => decide (kv.1 = k)) = false) : valueAt kvs k = none := by
  unfold valueAt
  rw [Option.map_eq_none_iff, List.find?_eq_none]
  intro x hx
  have := List.any_eq_false.mp h x hx
  simpa using this
theorem valueAt_stored (kvs : List (Str × Value)) (k x : Str) (v : Value) : valueAt (stored kvs k v) x = if x = k then some v else valueAt kvs x := by
  unfold stored
  split
  · rename_i h
    rw [valueAt_map]
    split
    · obtain ⟨p, hp, he⟩ := List.any_eq_true.mp h
      unfold valueAt
      cases hf : kvs.find? (fun kv => decide (kv.1 = k)) with
      | some y => rfl
      | none => exact absurd he (by have := List.find?_eq_none.mp hf p hp; simpa using this)
    · rfl
  · rename_i h
    have hn := valueAt_none (kvs := kvs) (k := k) (by revert h; cases kvs.any (fun kv => decide (kv.1 = k)) <;> simp)
    unfold valueAt at hn ⊢
    rw [List.find?_append]
    by_cases hx : x = k
    · subst hx
      rw [Option.map_eq_none_iff.mp hn]
      simp
    · have : ¬ k = x := fun q => hx q.symm
      simp [hx, this]
end
section
variable {prog : Program} {w : World} {A : Around} {E : Value → Shared → Prop} {b s : Shared} {L L' : Led} {e : Env} {t : Tok} {Q : Value → Shared → Prop}
theorem l_remove {l : Addr} {vs : List Value} {xs : List Int} {x : Int} (h : H b L s) (hi : IntsAre vs xs) (hx : x ∈ xs) (hsz : vs.length < 2 ^ 20)
    (u : ∀ vs', IntsAre vs' (xs.erase x) → ∃ L', Upd l (.ls vs) (.ls vs') L L' ∧ ∀ s', H b L' s' → Q .none s') : wpAny (model prog w) A (call (.builtin "list.remove") [.ref l, .int x t]) Q E s := by
  have hj : xs.idxOf x < xs.length := List.idxOf_lt_length_of_mem hx
  have hi' : IntsAre (vs.eraseIdx (xs.idxOf x)) (xs.erase x) := by
    have key : ∀ (j : Nat), IntsAre (vs.eraseIdx j) (xs.eraseIdx j) := by
      clear u hsz hx hj h
      induction hi with
      | nil => intro j; exact .nil
      | cons n t h ih => intro j; cases j with
        | zero => exact h
        | succ j => exact .cons n t (ih j)
    have := key (xs.idxOf x)
    rwa [← List.erase_eq_eraseIdx_of_idxOf (l := xs) (a := x) (by rfl)] at this
  refine byName fun _ kk_ => ?_
  obtain ⟨L', u, k⟩ := u _ hi'
  refine kk_ ?_
  clear kk_
  obtain ⟨n, hg⟩ : ∃ n, s.heap.get? l = some (lo vs n) := h.getL u.has
  have hlen := hi.length
  have at_ : ∀ (m : Nat) (hm : m < vs.toArray.size) , ∃ t, vs.toArray[m] = .int (xs[m]'(by simp at hm; walk_at "om")) t := by
    intro m hm
    simp at hm
    obtain ⟨t, ht⟩ := IntsAre.at hi (k := m) (List.getElem?_eq_getElem (by walk_at "om"))
    exact ⟨t, by rw [List.getElem?_eq_getElem hm] at ht; simpa using Option.some.inj ht⟩
  have getE : ∀ y, y ∈ vs.toArray → MeetsSeq.EqGives y (.int x t) (match y with | .int a _ => a == x | _ => false) := by
    intro y hy
    refine byName fun _ kk_ => ?_
    obtain ⟨m, hm, rfl⟩ := Array.mem_iff_getElem.mp hy
    obtain ⟨t', e⟩ := at_ m hm
    refine kk_ ?_
    clear kk_
    rw [e]
    exact MeetsSeq.EqGives.int _ _ _ _
  refine call_meets PySem.F.slot_list_remove ⟨_, hg, rfl⟩ PySem.F.entry_list_remove (PySem.F.args_list_remove_2 _ _)
    (MeetsSeq.list_remove l _ n (.int x t) _ getE (xs.idxOf x) (by simp; walk_at "om") ?_ ?_ (by rw [List.size_toArray, sizeLine_eq]; exact o9 hsz)) ⟨hg, ?_⟩
  · obtain ⟨t', e⟩ := at_ (xs.idxOf x) (by simp; walk_at "om")
    rw [e]
    show (xs[xs.idxOf x] == x) = true
    rw [List.getElem_idxOf hj]; simp
  · intro m hm hlt
    obtain ⟨t', e⟩ := at_ m hm
    rw [e]
    show (xs[m] == x) = false
    have := List.not_of_lt_findIdx (p := (· == x)) (xs := xs) (i := m) hlt
    simpa using this
  · exact k _ (h.seq u _ (by simp))
end

section
variable {prog : Program} {w : World} {A A' : Around} {E : Value → Shared → Prop} {b s : Shared} {L L' : Led} {e : Env} {target : Expr} {body : List Stmt}
end
section
variable {prog : Program} {w : World} {A : Around} {b s : Shared} {L L' : Led} {R : Result → Shared → Prop} {t u tn tw : Tok}
noncomputable abbrev nsX (n : Int) (tn tw : Tok) (st pb : Addr) : Res := .pr (isNs [("lineno", .int n tn), ("instream", .ref st), ("whitespace", .str wsS tw), ("pushback", .ref pb)])
theorem push_u {C x dx pb st : Addr} {f0 f1 f2 f3 : Addr} {d0 d1 d2 d3 : FuncData} {n : Int} {pv : List Value} {v : Value} (K : LexK b C f0 f1 f2 f3 d0 d1 d2 d3) (hA : Room A 6)
    (h : H b L s) (hx : Has x (.ob (instObj C dx)) L) (hd : Has dx (nsX n tn tw st pb) L) (up : Upd pb (.ls pv) (.ls (pv ++ [v])) L L') (hz : pv.length < 2 ^ 20) (hv : ∀ r, v ≠ .ref r)
    (k : ∀ s', H b L' s' → R (.ok (.ret .none)) s') : codeAny (model prog w) A (.call (.ref f3) ⟨[.ref x, v], []⟩) R s := by
  have hK := K.kls
  refine enter (d := 5) (nm := nmP) (names := ["self", "token"]) (vals := [some (.ref x), some v]) (binds := [("self", .ref x), ("token", v)]) K.m3.fn hA h
    (BindsTo.of_eq (bind_of K.m3.fn.params K.m3.d1 K.m3.d2 (t := fun _ => pure _) (fun q => by kernel_rfl))) rfl (by kernel_rfl) (by kernel_rfl) (by kernel_rfl) (by decide +kernel) rfl rfl rfl ?_
  clear h
  intro La s e A' E' he hA h
  have hpb : Has pb (.ls pv) L := up.has
  refine wpAny_execs_cons ?_
  walk_at "go"
  walk_at "gm"
  walk_at "go"
  refine l_append h (by walk_at "upd") hz ?_
  clear h; intro s h
  dsimp only
  walk_at "go"
  exact k _ (h.sub (List.sublist_cons_self ..))
theorem got_u {C x dx pb st : Addr} {f0 f1 f2 f3 : Addr} {d0 d1 d2 d3 : FuncData} {n : Int} {pv : List Value} {v : Value} (K : LexK b C f0 f1 f2 f3 d0 d1 d2 d3) (hA : Room A 6)
    (h : H b L s) (hx : Has x (.ob (instObj C dx)) L) (hd : Has dx (nsX n tn tw st pb) L) (up : Upd pb (.ls (v :: pv)) (.ls pv) L L') (hz : pv.length + 1 < 2 ^ 20)
    (k : ∀ s', H b L' s' → R (.ok (.ret v)) s') : codeAny (model prog w) A (.call (.ref f2) ⟨[.ref x], []⟩) R s := by
  have hK := K.kls
  refine enter (d := 5) (nm := nmGT) (names := lGT) (vals := [some (.ref x), none, none, none]) (binds := [("self", .ref x)]) K.m2.fn hA h
    (BindsTo.of_eq (bind_of K.m2.fn.params K.m2.d1 K.m2.d2 (t := fun _ => pure _) (fun q => by kernel_rfl))) rfl (by kernel_rfl) (by kernel_rfl) (by kernel_rfl) (by decide +kernel) rfl rfl rfl ?_
  clear h
  intro La s e A' E' he hA h
  have hpb : Has pb (.ls (v :: pv)) L := up.has
  have hz' : (v :: pv).length < 2 ^ 60 := by simp; exact o204 hz
  refine wpAny_execs_cons ?_
  walk_at "go"
  rw [if_pos (by rfl)]
  walk_at "go"
  walk_at "gm"
  walk_at "go"
  refine l_pop0 h (by walk_at "upd") (by exact o205 hz) ?_
  clear h; intro s h
  try dsimp only
  walk_at "go"
  exact k _ (h.sub (List.sublist_cons_self ..))
end
section
variable {prog : Program} {w : World} {A : Around} {b s : Shared} {L : Led} {f : Addr} {st : Stmt} {fd : FuncData} {d : Nat} {binds : List (Str × Value)} {names : List Str} {vals : List (Option Value)} {R : Result → Shared → Prop}
  {nm : List (Str × NameKind)}
end
end
end Mine
namespace Mine
section
open PySem PySem.W PyProof.Rows PySem.Calls
variable {prog : Program} {w : World} {A : Around} {b s : Shared} {L : Led} {f : Addr} {fd : FuncData} {R : Result → Shared → Prop} {t u tn : Tok}
noncomputable abbrev dots : Str := Str.ofString "..."
noncomputable abbrev wantOf (c : Nat) : Str := dots ++ ch1 c ++ dots
structure AlphaP (ls : List Nat) : Prop extends Alpha ls where
  pc : ∀ k < 4, Txt.contains (wantOf (ls.getD k 0)) "..." = true
  ps : ∀ k < 4, Txt.split (wantOf (ls.getD k 0)) "..." = [Str.empty, ch1 (ls.getD k 0), Str.empty]
  pp : ∀ k < 4, (Builtin.Str.partsBetween (wantOf (ls.getD k 0)) (Builtin.Str.occurrences (wantOf (ls.getD k 0)) "..." 0 (wantOf (ls.getD k 0)).length ((wantOf (ls.getD k 0)).length + 1)) 3).length ≤ 1000
  pe : ∀ m < 16, ∀ k < 4, ell (sOf (wordOf ls m)) (sOf (wordOf ls m)).length [Str.empty, ch1 (ls.getD k 0), Str.empty] 0 = inSet m k
  rep : ∀ m < 16, ∀ k < 4, inSet m k = true → Txt.replace (sOf (wordOf ls m)) (ch1 (ls.getD k 0)) (Str.ofString "") = sOf (wordOf ls (m - 2 ^ k))
  inj : ∀ m < 16, ∀ n < 16, sOf (wordOf ls m) = sOf (wordOf ls n) → m = n
noncomputable def pdn (ms : List Nat) (k m : Nat) : Nat := if inSet m k = true ∧ m - 2 ^ k ∉ ms then m - 2 ^ k else m
noncomputable def pushP (ms : List Nat) (k : Nat) : List Nat := ms.map (pdn ms k)
noncomputable def pushN (ms : List Nat) (n : Nat) : List Nat := (List.range n).foldl pushP ms
theorem pushN_succ (ms : List Nat) (n : Nat) : pushN ms (n + 1) = pushP (pushN ms n) n := by unfold pushN; rw [List.range_succ, List.foldl_append]; rfl
theorem inSet_le {m k : Nat} (h : inSet m k = true) : 2 ^ k ≤ m := by
  unfold inSet at h
  rw [beq_iff_eq] at h
  have : m / 2 ^ k ≠ 0 := fun e => by rw [e] at h; cases h
  exact Nat.le_of_not_lt fun hlt => this (Nat.div_eq_of_lt hlt)
theorem inSet_sub {m k : Nat} (h : inSet m k = true) : inSet (m - 2 ^ k) k = false := by
  have hl := inSet_le h
  unfold inSet at h ⊢
  have hp : 0 < 2 ^ k := Nat.two_pow_pos k
  have e : m / 2 ^ k = (m - 2 ^ k) / 2 ^ k + 1 := by
    have := Nat.add_div_right (m - 2 ^ k) hp
    rw [Nat.sub_add_cancel hl] at this; exact this
  rw [e, beq_iff_eq] at h
  rw [beq_eq_false_iff_ne]; exact o250 h
theorem pdn_inj {ms : List Nat} {k x y : Nat} (hx : x ∈ ms) (hy : y ∈ ms) (e : pdn ms k x = pdn ms k y) : x = y := by
  unfold pdn at e
  replace e := e
  by_cases h1 : inSet x k = true ∧ x - 2 ^ k ∉ ms <;> by_cases h2 : inSet y k = true ∧ y - 2 ^ k ∉ ms
  · rw [if_pos h1, if_pos h2] at e
    have := inSet_le h1.1; have := inSet_le h2.1; exact o251 e (by assumption) this
  · rw [if_pos h1, if_neg h2] at e
    exact absurd (e ▸ hy) h1.2
  · rw [if_neg h1, if_pos h2] at e
    exact absurd (e ▸ hx) h2.2
  · rw [if_neg h1, if_neg h2] at e; exact e
theorem pushP_nodup {ms : List Nat} {k : Nat} (h : ms.Nodup) : (pushP ms k).Nodup := by
  unfold pushP
  rw [List.nodup_iff_pairwise_ne, List.pairwise_map]
  refine List.Pairwise.imp_of_mem (fun {a b} ha hb hne e => hne (pdn_inj ha hb e)) (List.nodup_iff_pairwise_ne.mp h)
theorem pdn_le (ms : List Nat) (k m : Nat) : pdn ms k m ≤ m := by
  unfold pdn
  split
  · exact Nat.sub_le _ _
  · exact Nat.le_refl _
theorem pushP_lt {ms : List Nat} {k : Nat} (h : ∀ m ∈ ms, m < 16) : ∀ m ∈ pushP ms k, m < 16 := by
  intro m hm
  obtain ⟨x, hx, rfl⟩ := List.mem_map.mp hm
  exact Nat.lt_of_le_of_lt (pdn_le _ _ _) (h x hx)
theorem pushN_ok {ms : List Nat} (h : ms.Nodup) (h2 : ∀ m ∈ ms, m < 16) : ∀ n, (pushN ms n).Nodup ∧ (∀ m ∈ pushN ms n, m < 16) ∧ (pushN ms n).length = ms.length
  | 0 => ⟨h, h2, rfl⟩
  | n + 1 => by
    refine byName fun _ kk_ => ?_
    obtain ⟨a, b, c⟩ := pushN_ok h h2 n
    refine kk_ ?_
    clear kk_
    rw [pushN_succ]
    exact ⟨pushP_nodup a, pushP_lt b, by unfold pushP; rw [List.length_map, c]⟩
noncomputable def midQ (ms : List Nat) (k i : Nat) : List Nat := ms.drop i ++ (ms.take i).map (pdn ms k)
theorem mid_mem {ms : List Nat} {k i : Nat} (hn : ms.Nodup) (hi : i < ms.length) (hin : inSet ms[i] k = true) : ms[i] - 2 ^ k ∈ midQ ms k i ↔ ms[i] - 2 ^ k ∈ ms := by
  unfold midQ
  rw [List.mem_append]
  have hle := inSet_le hin
  have hpos : 0 < 2 ^ k := Nat.two_pow_pos k
  constructor
  · rintro (h | h)
    · exact List.mem_of_mem_drop h
    · obtain ⟨x, hx, e⟩ := List.mem_map.mp h
      have hx' := List.mem_of_mem_take hx
      unfold pdn at e
      split at e
      · rename_i hc
        have := inSet_le hc.1
        have hxe : x = ms[i] := by exact o251 e this hle
        rw [hxe] at hx
        refine byName fun _ kk_ => ?_
        obtain ⟨j, hj, ej⟩ := List.mem_iff_getElem.mp hx
        refine kk_ ?_
        clear kk_
        rw [List.getElem_take] at ej
        rw [List.length_take] at hj
        have := (List.getElem_inj hn).mp ej
        exact (o252 hj this).elim
      · rw [← e]; exact hx'
  · intro h
    have hfix : pdn ms k (ms[i] - 2 ^ k) = ms[i] - 2 ^ k := by unfold pdn; rw [if_neg (fun q => by rw [inSet_sub hin] at q; cases q.1)]
    have h' : ms[i] - 2 ^ k ∈ ms.take i ++ ms.drop i := by rw [List.take_append_drop]; exact h
    rcases List.mem_append.mp h' with h | h
    · exact .inr (List.mem_map.mpr ⟨_, h, hfix⟩)
    · exact .inl h
theorem mid_cons {ms : List Nat} {k i : Nat} (hi : i < ms.length) : midQ ms k i = ms[i] :: (ms.drop (i + 1) ++ (ms.take i).map (pdn ms k)) := by
  unfold midQ; rw [List.drop_eq_getElem_cons hi]; rfl
theorem mid_succ {ms : List Nat} {k i : Nat} (hi : i < ms.length) : midQ ms k (i + 1) = ms.drop (i + 1) ++ (ms.take i).map (pdn ms k) ++ [pdn ms k ms[i]] := by
  unfold midQ; rw [List.take_succ_eq_append_getElem hi, List.map_append, List.append_assoc]; rfl
theorem mid_zero (ms : List Nat) (k : Nat) : midQ ms k 0 = ms := by unfold midQ; simp
theorem mid_end (ms : List Nat) (k : Nat) : midQ ms k ms.length = pushP ms k := by unfold midQ pushP; simp
noncomputable def nmPD : List (Str × NameKind) := (stScope (nth pb 23)).names
noncomputable abbrev lPD : List Str := ["letters", "row", "laid", "told", "word", "number", "value", "k", "turn"]
structure Psh (b : Shared) : Prop where
  lay : Lay b
  ell : Ell b
  range : Blt b "range" (.type "range")
  len : Blt b "len" (.builtin "len")
  em : ∃ f fd, Def b "_ellipsis_match" 16 f fd
noncomputable def Told (ls : List Nat) (kvs : List (Str × Value)) (ms : List Nat) : Prop := ∀ m ∈ ms, m < 16 ∧ ∃ t, valueAt kvs (sOf (wordOf ls m)) = some (.int (m : Int) t)
theorem wordOf_len (ls : List Nat) (x : Nat) : (wordOf ls x).length ≤ 4 := Nat.le_trans (List.length_filterMap_le _ _) (by simp)
theorem sOf_len (l : List Nat) : (sOf l).length = l.length := by show l.toArray.size = _; simp
theorem Has.at {ls : List Nat} : ∀ {its : List It} {M : Led} {i : Nat} (hi : i < its.length), Has (its[i].a) (its[i].ob ls) (its.map (It.res ls) ++ M)
  | [], _, _, hi => by simp at hi
  | x :: its, M, 0, _ => .head
  | x :: its, M, i + 1, hi => .tail (Has.at (its := its) (by simpa using hi))
theorem Told.add {ls : List Nat} {kvs : List (Str × Value)} {ms : List Nat} {m : Nat} {t : Tok} (al : AlphaP ls) (T : Told ls kvs ms) (hm : m < 16) : Told ls (stored kvs (sOf (wordOf ls m)) (.int (m : Int) t)) (ms ++ [m]) := by
  intro x hx
  have hx' : x ∈ ms ∨ x = m := by simpa using hx
  rw [valueAt_stored]
  by_cases he : sOf (wordOf ls x) = sOf (wordOf ls m)
  · have hx16 : x < 16 := by
      rcases hx' with h | rfl
      · exact (T x h).1
      · exact hm
    have := al.inj x hx16 m hm he
    subst this
    exact ⟨hx16, t, by rw [if_pos rfl]⟩
  · rcases hx' with h | rfl
    · rw [if_neg he]; exact T x h
    · exact absurd rfl he
theorem Told.sub {ls : List Nat} {kvs : List (Str × Value)} {ms ms' : List Nat} (T : Told ls kvs ms) (h : ∀ x ∈ ms', x ∈ ms) : Told ls kvs ms' := fun x hx => T x (h x hx)
theorem pushed_c {a : LexA} {f0 f1 f2 f3 : Addr} {d0 d1 d2 d3 : FuncData} {n : Int} {sv : List Value} {lA rA dA : Addr} {lv rv : List Value} {ls : List Nat} {ri : List Int} {its : List It} {n0 : Nat}
    (K : LexK b a.C f0 f1 f2 f3 d0 d1 d2 d3) (D : Def b "_law_pushed_down" 23 f fd) (Y : Psh b) (al : AlphaP ls) (hA : Room A 20)
    (h : H b (LX a n tn sv [] ++ ((rA, .ls rv) :: (dA, .ls (its.map fun i => .ref i.a)) :: (its.map (It.res ls) ++ L))) s) (hl : Has lA (.ls lv) L) (hlv : StrsAre lv (ls.map ch1)) {ms : List Nat} (hms : ms = its.map fun (i : It) => i.x % 16) (hnd : ms.Nodup) (hlen : its.length ≤ 10)
    (hri : IntsAre rv ri) (hso : ri.Pairwise (· ≤ ·)) (hpe : ri.Perm (ms.map fun (m : Nat) => (m : Int))) (hn0 : n0 ≤ s.toks) (hlt : ∀ v ∈ lv, ∃ x u, v = .str x u ∧ u ≠ 0 ∧ u < n0)
    (k : ∀ (oA : Addr) (ov rv' : List Value) (ri' : List Int) (s' : Shared), StrsAre ov ((pushN ms 4).map fun m => sOf (wordOf ls m)) → IntsAre rv' ri' → ri'.Pairwise (· ≤ ·) → ri'.Perm ((pushN ms 4).map fun (m : Nat) => (m : Int)) →
      H b (LX a n tn sv [] ++ ((oA, .ls ov) :: (rA, .ls rv') :: (dA, .ls (its.map fun i => .ref i.a)) :: (its.map (It.res ls) ++ L))) s' → R (.ok (.ret (.ref oA))) s') :
    codeAny (model prog w) A (.call (.ref f) ⟨[.ref a.x, .ref lA, .ref rA, .ref dA], []⟩) R s := by
  refine byName fun _ kk_ => ?_
  obtain ⟨fa, fda, Da⟩ := Y.lay.among
  obtain ⟨fbl, fdbl, glbl, Fbl, Dbl⟩ := Y.lay.bl
  obtain ⟨fbr, fdbr, glbr, Fbr, Dbr⟩ := Y.lay.br
  obtain ⟨fir, fdir, glir, Fir, Dir⟩ := Y.lay.ir
  obtain ⟨fe, fde, De⟩ := Y.em
  refine kk_ ?_
  clear kk_
  have hrange := Y.range
  have hlen_ := Y.len
  have ga := Da.glb
  have Fa := Da.fn
  have ge := De.glb
  have Fe := De.fn
  have hK := K.kls
  have M2 := K.m2.fn
  have M3 := K.m3.fn
  refine enterCT (d := 19) (nm := nmPD) (names := lPD) (vals := [some (.ref lA), some (.ref rA), some (.ref dA), none, none, none, none, none, none]) (cn := ["lexer"]) (cvals := [some (.ref a.x)]) (binds := [("lexer", .ref a.x), ("letters", .ref lA), ("row", .ref rA), ("laid", .ref dA)]) D.fn hA h
    (bind_of D.fn.params D.d1 D.d2 (t := fun _ => pure _) (fun q => by kernel_rfl)) rfl (by kernel_rfl) (by kernel_rfl) (by decide +kernel) rfl (by kernel_rfl) (by decide +kernel) rfl rfl rfl ?_
  clear h
  intro La s₁ e A' E' ca hca he hcode hqual hA ht h
  have hn0 : n0 ≤ s₁.toks := Nat.le_trans hn0 ht
  clear ht
  generalize s₁ = s at h hn0 ⊢
  obtain ⟨c1, rfl⟩ := ln1 hca
  simp only [List.zip_cons_cons, List.zip_nil_right, List.map_cons, List.map_nil, List.cons_append, List.nil_append, LX] at he h ⊢
  replace he := he
  have hM := h.draw (L' := (c1, _) :: (La, _) :: (rA, _) :: (a.pb, _) :: (a.x, _) :: (a.dx, _) :: (a.st, _) :: (a.ds, _) :: (a.pb2, _) :: (a.gv, _) :: (a.cg, _) :: (a.sg, _) :: (dA, _) :: (its.map (It.res ls) ++ L)) (by walk_at "draw")
  clear h
  have h := hM
  clear hM
  have hMd : Has dA (.ls (its.map fun i => .ref i.a)) ((a.st, .ob (instObj a.C a.ds)) :: (a.ds, .pr (isNs [("lineno", .int 1 a.t1), ("instream", .none), ("whitespace", .str wsS a.tw1), ("pushback", .ref a.pb2), ("read", .ref a.gv)])) :: (a.pb2, .ls []) ::
   (a.gv, .fn a.fdg) :: (a.cg, .cl (some (.ref a.sg))) :: (a.sg, .ls sv) :: (dA, .ls (its.map fun i => .ref i.a)) :: (its.map (It.res ls) ++ L)) := by walk_at "mem"
  have hMi : ∀ i (hi : i < its.length), Has (its[i].a) (its[i].ob ls) ((a.st, .ob (instObj a.C a.ds)) :: (a.ds, .pr (isNs [("lineno", .int 1 a.t1), ("instream", .none), ("whitespace", .str wsS a.tw1), ("pushback", .ref a.pb2), ("read", .ref a.gv)])) :: (a.pb2, .ls []) ::
   (a.gv, .fn a.fdg) :: (a.cg, .cl (some (.ref a.sg))) :: (a.sg, .ls sv) :: (dA, .ls (its.map fun i => .ref i.a)) :: (its.map (It.res ls) ++ L)) := fun i hi => .tail (.tail (.tail (.tail (.tail (.tail (.tail (Has.at hi)))))))
  have hMl : Has lA (.ls lv) ((a.st, .ob (instObj a.C a.ds)) :: (a.ds, .pr (isNs [("lineno", .int 1 a.t1), ("instream", .none), ("whitespace", .str wsS a.tw1), ("pushback", .ref a.pb2), ("read", .ref a.gv)])) :: (a.pb2, .ls []) ::
   (a.gv, .fn a.fdg) :: (a.cg, .cl (some (.ref a.sg))) :: (a.sg, .ls sv) :: (dA, .ls (its.map fun i => .ref i.a)) :: (its.map (It.res ls) ++ L)) := .tail (.tail (.tail (.tail (.tail (.tail (.tail (Has.right hl)))))))
  have kM : ∀ (oA : Addr) (ov rv' : List Value) (ri' : List Int) (s' : Shared), StrsAre ov ((pushN ms 4).map fun m => sOf (wordOf ls m)) → IntsAre rv' ri' → ri'.Pairwise (· ≤ ·) → ri'.Perm ((pushN ms 4).map fun (m : Nat) => (m : Int)) →
      H b ((oA, .ls ov) :: (rA, .ls rv') :: (a.pb, .ls []) :: (a.x, .ob (instObj a.C a.dx)) :: (a.dx, nsX n tn a.tw a.st a.pb) :: (a.st, .ob (instObj a.C a.ds)) :: (a.ds, .pr (isNs [("lineno", .int 1 a.t1), ("instream", .none), ("whitespace", .str wsS a.tw1), ("pushback", .ref a.pb2), ("read", .ref a.gv)])) :: (a.pb2, .ls []) ::
   (a.gv, .fn a.fdg) :: (a.cg, .cl (some (.ref a.sg))) :: (a.sg, .ls sv) :: (dA, .ls (its.map fun i => .ref i.a)) :: (its.map (It.res ls) ++ L)) s' → R (.ok (.ret (.ref oA))) s' :=
    fun oA ov rv' ri' s' h1 h2 h3 h4 h5 => k oA ov rv' ri' s' h1 h2 h3 h4 (by
      simp only [LX, List.cons_append, List.nil_append]
      exact h5.draw (by walk_at "draw"))
  clear k
  generalize (a.st, Res.ob (instObj a.C a.ds)) :: _ = M at h hMd hMi hMl kM
  refine st_hideT hn0 ?_
  intro _ _ _
  walk_at "go"
  refine d_new h ?_
  clear h; intro tA s h
  walk_at "go"
  intro hn0
  try dsimp only
  refine st_hideT hn0 ?_
  intro _ _ _
  walk_at "go"
  refine iter_l h (by walk_at "mem") ?_
  clear h; intro it s h
  refine loop (src_l (vs := its.map fun i => .ref i.a) hA.handled) (fun i L' => Ex5 fun (kvs : List (Str × Value)) (pv : List Value) (v1 v2 v3 : Option Value) => Cj4 (Told ls kvs (ms.take i)) (kvs.length ≤ i) (StrsAre pv ((ms.take i).map fun m => sOf (wordOf ls m))) (L' = (tA, .pr (isDc prog w kvs)) :: (c1, .cl (some (.ref a.x))) :: (La, .fr lPD [some (.ref lA), some (.ref rA), some (.ref dA), some (.ref tA), v1, v2, v3, none, none]) :: (rA, .ls rv) :: (a.pb, .ls pv) :: (a.x, .ob (instObj a.C a.dx)) :: (a.dx, nsX n tn a.tw a.st a.pb) :: M)) ?_ h ?_ ?_ ?_
  · rintro i L' ⟨kvs, pv, v1, v2, v3, _, _, _, rfl⟩
    walk_at "mem"
  · exact ⟨[], [], _, _, _, fun x hx => by simp at hx, Nat.le_refl _, .nil, rfl⟩
  · clear h
    intro i v G L' s E J hJ hi hZ0_ hZ1_ h
    refine byName fun _ kk_ => ?_
    obtain ⟨kvs, pv, v1, v2, v3, hT, hkl, hpv, rfl⟩ := hZ1_
    obtain ⟨hv, rfl⟩ := hZ0_
    refine kk_ ?_
    clear kk_
    rw [List.length_map] at hi
    replace hi := hi
    obtain rfl : v = .ref its[i].a := by rw [List.getElem?_map, List.getElem?_eq_getElem hi] at hv; exact (Option.some.inj hv).symm
    simp only [List.cons_append, List.nil_append] at h ⊢
    have hIt := hMi i hi
    unfold It.ob at hIt
    have htk : ms.take (i + 1) = ms.take i ++ [its[i].x % 16] := by rw [hms, ← List.map_take, ← List.map_take, List.take_succ_eq_append_getElem hi, List.map_append]; rfl
    walk_at "go"
    refine d_set h (by walk_at "upd") (by exact o253 hi hlen hkl) ?_
    clear h; intro s h
    try dsimp only
    walk_at "go"
    walk_at "gm"
    walk_at "cwb"
    refine And.intro ⟨_, h⟩ ?_
    refine wpAny_call ?_
    have hpl : pv.length < 2 ^ 20 := by rw [strs_len hpv, List.length_map]; exact Nat.lt_of_le_of_lt (List.length_take_le _ _) (by exact o248 hi hlen)
    refine push_u (C := a.C) K (hA.less (by walk_at "om")) h (by walk_at "mem") (by walk_at "mem") (by walk_at "upd") hpl (by intro r; simp) ?_
    clear h; intro s h
    try dsimp only
    walk_at "go"
    have hm16 : its[i].x % 16 < 16 := Nat.mod_lt _ (by decide)
    refine ⟨_, h, _, _, _, _, _, ?_, ?_, ?_, rfl⟩
    · rw [htk, ← wordOf_mod]
      exact Told.add al hT hm16
    · exact Nat.le_trans (stored_length_le _ _ _) (by exact o254 hkl)
    · rw [htk, List.map_append, List.map_singleton, wordOf_mod]
      exact strs_snoc hpv _ _
  · clear h
    intro L' s hZ0_ h
    refine byName fun _ kk_ => ?_
    obtain ⟨kvs, pv, v1, v2, v3, hT, hkl, hpv, rfl⟩ := hZ0_
    refine kk_ ?_
    clear kk_
    walk_at "go"
    intro hn0
    rw [List.length_map] at hT hkl hpv
    replace hT := hT
    replace hkl := hkl
    replace hpv := hpv
    have htl : ms.take its.length = ms := by rw [hms]; exact List.take_of_length_le (by simp)
    rw [htl] at hT hpv
    replace hT := hT
    replace hpv := hpv
    have hml : ms.length = its.length := by rw [hms, List.length_map]
    have hm16 : ∀ m ∈ ms, m < 16 := fun m hm => (hT m hm).1
    try dsimp only
    refine st_hideT hn0 ?_
    intro _ _ _
    refine e_for ?_ (by intro _; k_dflt rfl)
    refine wpAny_with_toks hn0 ?_
    walk_at "go"
    refine b_range1 h ?_
    clear h; intro r _ _ s h hn1
    refine wpAny_with_toks hn1 ?_
    refine iter_r (m := 4) h .head (by decide) rfl (by decide) ?_
    clear h hn0 hn1; intro it s h hn0
    have h2 := h.draw (L' := (it, _) :: (tA, _) :: (c1, _) :: (La, _) :: (rA, _) :: (a.pb, _) :: (a.x, _) :: (a.dx, _) :: M) (by walk_at "draw")
    clear h; have h := h2; clear h2
    refine loopT (n0 := n0) (src_r (a := 0) (n := 4) hA.handled) (fun k L' => Ex9 fun (kvs : List (Str × Value)) (pv rv : List Value) (ri : List Int) (v1 v2 v3 v4 v5 : Option Value) => Cj7 (Told ls kvs (pushN ms k)) (kvs.length ≤ 10 + 10 * k) (StrsAre pv ((pushN ms k).map fun m => sOf (wordOf ls m))) (IntsAre rv ri) (ri.Pairwise (· ≤ ·)) (ri.Perm ((pushN ms k).map fun (m : Nat) => (m : Int))) (L' = (tA, .pr (isDc prog w kvs)) :: (c1, .cl (some (.ref a.x))) :: (La, .fr lPD [some (.ref lA), some (.ref rA), some (.ref dA), some (.ref tA), v1, v2, v3, v4, v5]) :: (rA, .ls rv) :: (a.pb, .ls pv) :: (a.x, .ob (instObj a.C a.dx)) :: (a.dx, nsX n tn a.tw a.st a.pb) :: M)) ?_ h ?_ hn0 ?_ ?_
    · intros; trivial
    · exact ⟨kvs, pv, rv, ri, _, _, _, _, _, hT, by exact o255 hlen hkl, hpv, hri, hso, hpe, rfl⟩
    · clear hT hkl hpv hri hso hpe hn0 h kvs pv rv ri v1 v2 v3
      intro k v G L' s E J hJ hn0 hk hZ0_ hZ1_ h
      refine byName fun _ kk_ => ?_
      obtain ⟨kvs, pv, rv, ri, v1, v2, v3, v4, v5, hT, hkl, hpv, hri, hso, hpe, rfl⟩ := hZ1_
      obtain ⟨⟨tk, rfl⟩, rfl⟩ := hZ0_
      obtain ⟨hnd', hlt', hln'⟩ := pushN_ok hnd hm16 k
      refine kk_ ?_
      clear kk_
      rw [hml] at hln'
      rw [pushN_succ] at hJ
      generalize pushN ms k = mk at hJ hT hpv hpe hnd' hlt' hln'
      simp only [List.cons_append, List.nil_append] at h ⊢
      refine wpAny_with_toks hn0 ?_
      walk_at "go"
      intro hn0
      refine st_hide ?_
      intro _ _
      refine e_for ?_ (by intro _; k_dflt rfl)
      refine wpAny_with_toks hn0 ?_
      have hdl : (its.map fun i => Value.ref i.a).length < 2 ^ 60 := by rw [List.length_map]; walk_at "om"
      walk_at "go"
      refine b_range1 h ?_
      clear h; intro r _ _ s h hn1
      rw [List.length_map] at h
      refine wpAny_with_toks hn1 ?_
      refine iter_r (m := its.length) h .head (by decide) (by exact o256) (by exact o257 hlen) ?_
      clear h hn0 hn1; intro it2 s h hn0
      have h2 := h.draw (L' := (it2, _) :: (it, _) :: (tA, _) :: (c1, _) :: (La, _) :: (rA, _) :: (a.pb, _) :: (a.x, _) :: (a.dx, _) :: M) (by walk_at "draw")
      clear h; have h := h2; clear h2
      refine loopT (n0 := n0) (src_r (a := 0) (n := its.length) hA.handled) (fun i L' => Ex8 fun (kvs : List (Str × Value)) (pv rv : List Value) (ri : List Int) (v1 v2 v3 v5 : Option Value) => Cj7 (Told ls kvs (midQ mk k i)) (kvs.length ≤ 10 + 10 * k + i) (StrsAre pv ((midQ mk k i).map fun m => sOf (wordOf ls m))) (IntsAre rv ri) (ri.Pairwise (· ≤ ·)) (ri.Perm ((midQ mk k i).map fun (m : Nat) => (m : Int))) (L' = (it, .ob (rgn 0 4 (k + 1))) :: (tA, .pr (isDc prog w kvs)) :: (c1, .cl (some (.ref a.x))) :: (La, .fr lPD [some (.ref lA), some (.ref rA), some (.ref dA), some (.ref tA), v1, v2, v3, some (.int (0 + (k : Int)) tk), v5]) :: (rA, .ls rv) :: (a.pb, .ls pv) :: (a.x, .ob (instObj a.C a.dx)) :: (a.dx, nsX n tn a.tw a.st a.pb) :: M)) ?_ h ?_ hn0 ?_ ?_
      · intros; trivial
      · exact ⟨kvs, pv, rv, ri, _, _, _, _, by rw [mid_zero]; exact hT, by exact o258 hkl, by rw [mid_zero]; exact hpv, hri, hso, by rw [mid_zero]; exact hpe, rfl⟩
      · clear hT hkl hpv hri hso hpe hn0 h kvs pv rv ri v1 v2 v3 v5
        intro i v G L' s E J hJ hn0 hi hZ0_ hZ1_ h
        refine byName fun _ kk_ => ?_
        obtain ⟨kvs, pv, rv, ri, v1, v2, v3, v5, hT, hkl, hpv, hri, hso, hpe, rfl⟩ := hZ1_
        obtain ⟨⟨ti, rfl⟩, rfl⟩ := hZ0_
        refine kk_ ?_
        clear kk_
        have hi' : i < mk.length := by walk_at "om"
        simp only [List.cons_append, List.nil_append] at h ⊢
        refine wpAny_with_toks hn0 ?_
        walk_at "go"
        intro hn0
        refine st_hideT hn0 ?_
        intro _ _ _
        walk_at "go"
        walk_at "gm"
        walk_at "cwb0"
        have hpv0 := hpv
        rw [mid_cons hi', List.map_cons] at hpv
        obtain ⟨pt, pv', rfl, hpv'⟩ : ∃ (t : Tok) (pv' : List Value), pv = .str (sOf (wordOf ls mk[i])) t :: pv' ∧ StrsAre pv' ((mk.drop (i + 1) ++ (mk.take i).map (pdn mk k)).map fun m => sOf (wordOf ls m)) := by
          cases hpv with
          | cons x t h => exact ⟨_, _, rfl, h⟩
        have hpl : pv'.length + 1 < 2 ^ 20 := by rw [strs_len hpv']; simp; exact o259 hln' hlen
        refine got_u (C := a.C) K (hA.less (by walk_at "om")) h (by walk_at "mem") (by walk_at "mem") (by walk_at "upd") hpl ?_
        clear h; intro s h
        try dsimp only
        walk_at "go"
        intro hn0
        try dsimp only
        refine st_hideT hn0 ?_
        intro _ _ _
        walk_at "go"
        have hmem : mk[i] ∈ midQ mk k i := by rw [mid_cons hi']; exact .head _
        refine byName fun _ kk_ => ?_
        obtain ⟨hm16, tn', hval⟩ := hT _ hmem
        refine kk_ ?_
        clear kk_
        refine d_get h (by walk_at "mem") hval ?_ rfl
        clear h; intro s h
        walk_at "go"
        intro hn0
        try dsimp only
        refine st_hideT hn0 ?_
        intro _ _ _
        refine wpAny_If ?_
        refine wpAny_with_toks hn0 ?_
        walk_at "go"
        walk_at "cwa"
        obtain ⟨tl, hvl⟩ := StrsAre.at hlv (k := k) (a := ch1 (ls.getD k 0)) (by rw [List.getElem?_map, List.getD_eq_getElem?_getD, List.getElem?_eq_getElem (by rw [al.len]; exact hk)]; rfl)
        refine item_l h (by walk_at "mem") (by walk_at "om") (v := .str (ch1 (ls.getD k 0)) tl) (by rw [show (0 + (k : Int)).toNat = k by walk_at "om"]; exact hvl) (by exact o260 hk) ?_ rfl
        have hs1 : (Str.ofString "...").length + (ch1 (ls.getD k 0)).length ≤ 2 ^ 20 := by show 3 + 1 ≤ _; decide
        have hs2 : (Str.ofString "..." ++ ch1 (ls.getD k 0)).length + (Str.ofString "...").length ≤ 2 ^ 20 := by show (#[46, 46, 46] ++ #[ls.getD k 0]).size + 3 ≤ _; simp
        walk_at "go"
        walk_at "cwz"
        have hk4 : k < 4 := hk
        refine ellc (ws := [Str.empty, ch1 (ls.getD k 0), Str.empty]) (d := 0) Y.ell De (hA.less (by walk_at "om")) h (al.pc k hk4) (al.ps k hk4) rfl rfl (by simp) (by simp) ?_ ?_ ?_ (al.pp k hk4) ?_
        · intro x hx
          simp only [List.mem_cons, List.not_mem_nil, or_false] at hx
          rcases hx with rfl | rfl | rfl
          · decide
          · show 1 ≤ _; decide
          · decide
        · show (#[46, 46, 46] ++ #[ls.getD k 0] ++ #[46, 46, 46]).size ≤ _; simp
        · rw [sOf_len]; exact Nat.le_trans (wordOf_len _ _) (by decide)
        rw [al.pe _ hm16 _ hk4]
        clear h; intro s h
        try dsimp only
        walk_at "go"
        have stay : pdn mk k mk[i] = mk[i] → ∀ s, H b ((it2, .ob (rgn 0 its.length (i + 1))) :: (it, .ob (rgn 0 4 (k + 1))) :: (tA, .pr (isDc prog w kvs)) :: (c1, .cl (some (.ref a.x))) ::
            (La, .fr lPD [some (.ref lA), some (.ref rA), some (.ref dA), some (.ref tA), some (.str (sOf (wordOf ls mk[i])) pt), some (.int (mk[i] : Int) tn'), v3, some (.int (0 + (k : Int)) tk), some (.int (0 + (i : Int)) ti)]) :: (rA, .ls rv) :: (a.pb, .ls (pv' ++ [.str (sOf (wordOf ls mk[i])) pt])) :: (a.x, .ob (instObj a.C a.dx)) :: (a.dx, nsX n tn a.tw a.st a.pb) :: M) s →
            ∃ L', H b ([(it2, Res.ob (rgn 0 its.length (i + 1)))] ++ L') s ∧ Ex8 fun (kvs : List (Str × Value)) (pv rv : List Value) (ri : List Int) (v1 v2 v3 v5 : Option Value) => Cj7 (Told ls kvs (midQ mk k (i + 1))) (kvs.length ≤ 10 + 10 * k + (i + 1)) (StrsAre pv ((midQ mk k (i + 1)).map fun m => sOf (wordOf ls m))) (IntsAre rv ri) (ri.Pairwise (· ≤ ·)) (ri.Perm ((midQ mk k (i + 1)).map fun (m : Nat) => (m : Int))) (L' = (it, .ob (rgn 0 4 (k + 1))) :: (tA, .pr (isDc prog w kvs)) :: (c1, .cl (some (.ref a.x))) :: (La, .fr lPD [some (.ref lA), some (.ref rA), some (.ref dA), some (.ref tA), v1, v2, v3, some (.int (0 + (k : Int)) tk), v5]) :: (rA, .ls rv) :: (a.pb, .ls pv) :: (a.x, .ob (instObj a.C a.dx)) :: (a.dx, nsX n tn a.tw a.st a.pb) :: M) := by
          intro hst s h
          refine ⟨_, h, kvs, _, rv, ri, _, _, _, _, hT.sub ?_, by exact o261 hkl, ?_, hri, hso, ?_, rfl⟩
          · intro x hx
            rw [mid_succ hi', hst] at hx
            rw [mid_cons hi']
            rcases List.mem_append.mp hx with q | q
            · exact .tail _ q
            · rw [List.mem_singleton.mp q]; exact .head _
          · rw [mid_succ hi', hst, List.map_append, List.map_singleton]
            exact strs_snoc hpv' _ _
          · refine hpe.trans (List.Perm.map _ ?_)
            rw [mid_succ hi', hst, mid_cons hi']
            exact (List.perm_append_singleton _ _).symm
        have hpl2 : pv'.length < 2 ^ 20 := by exact o205 hpl
        by_cases hin : inSet mk[i] k = true
        · rw [if_pos hin]
          walk_at "go"
          have hle := inSet_le hin
          have hp : (2 : Int) ^ (0 + (k : Int)).toNat = ((2 ^ k : Nat) : Int) := by rw [show (0 + (k : Int)).toNat = k by walk_at "om"]; push_cast; rfl
          have hsub : (mk[i] : Int) - ((2 ^ k : Nat) : Int) = ((mk[i] - 2 ^ k : Nat) : Int) := by exact o262 hle
          walk_at "cwa"
          refine o_pow h ?_ (by walk_at "om") (by exact o263 hk4) (by decide)
          rw [hp]
          clear h; intro _ s h
          walk_at "cwz"
          rw [hsub]
          have hrl : rv.length < 2 ^ 20 := by rw [hri.length, hpe.length_eq, List.length_map]; unfold midQ; simp; exact o264 hln' hlen
          refine among hso Fa Da.d1 Da.d2 Fbl Dbl glbl hlen_ (hA.less (by walk_at "om")) h (by walk_at "mem") hri (by exact o94 hrl) ?_
          clear h; intro s h
          try dsimp only
          walk_at "go"
          have hmm := mid_mem hnd' hi' hin
          have hmi : ((mk[i] - 2 ^ k : Nat) : Int) ∈ ri ↔ mk[i] - 2 ^ k ∈ mk := by
            rw [hpe.mem_iff, ← hmm, List.mem_map]
            constructor
            · rintro ⟨y, hy, e⟩; rwa [← Int.ofNat_inj.mp e]
            · intro hy; exact ⟨_, hy, rfl⟩
          by_cases hin2 : ((mk[i] - 2 ^ k : Nat) : Int) ∈ ri
          · rw [if_neg (by simpa using hin2)]
            intro hn0
            rw [if_neg (by decide)]
            walk_at "go"
            intro hn0
            try dsimp only
            walk_at "go"
            walk_at "gm"
            walk_at "cwb"
            refine And.intro ⟨_, h⟩ ?_
            refine wpAny_call ?_
            refine push_u (C := a.C) K (hA.less (by walk_at "om")) h (by walk_at "mem") (by walk_at "mem") (by walk_at "upd") hpl2 (by intro r; simp) ?_
            clear h; intro s h
            try dsimp only
            walk_at "go"
            exact stay (by unfold pdn; rw [if_neg (fun q => q.2 (hmi.mp hin2))]) _ h
          · rw [if_pos (by simpa using hin2)]
            walk_at "go"
            intro hn0
            rw [if_pos rfl]
            have hout : mk[i] - 2 ^ k ∉ mk := fun q => hin2 (hmi.mpr q)
            have hpd : pdn mk k mk[i] = mk[i] - 2 ^ k := by unfold pdn; rw [if_pos ⟨hin, hout⟩]
            refine st_hideT hn0 ?_
            intro _ _ _
            walk_at "go"
            walk_at "gm"
            walk_at "go"
            have h' := h.front (a := rA) (by walk_at "pick")
            clear h; have h := h'; clear h'
            have hmr : (mk[i] : Int) ∈ ri := hpe.mem_iff.mpr (List.mem_map.mpr ⟨_, hmem, rfl⟩)
            refine l_remove h hri hmr hrl ?_
            clear h
            intro rv1 hri1
            refine ⟨_, Upd.head, fun s h => ?_⟩
            try dsimp only
            walk_at "go"
            intro hn0
            try dsimp only
            refine st_hideT hn0 ?_
            intro _ _ _
            walk_at "go"
            walk_at "cwa"
            refine o_pow h ?_ (by walk_at "om") (by exact o263 hk4) (by decide)
            rw [hp]
            clear h; intro _ s h
            walk_at "cwz"
            rw [hsub]
            have hso1 : (ri.erase (mk[i] : Int)).Pairwise (· ≤ ·) := hso.sublist (List.erase_sublist ..)
            have hrl1 : rv1.length < 2 ^ 20 := by rw [hri1.length]; exact Nat.lt_of_le_of_lt (List.length_erase_le ..) (by rw [← hri.length]; exact hrl)
            refine insr hso1 Fir Dir Fbr Dbr glbr hlen_ (hA.less (by walk_at "om")) h hri1 hrl1 ?_
            clear h
            intro rv2 hri2
            refine ⟨_, Upd.head, fun s h => ?_⟩
            try dsimp only
            walk_at "go"
            intro hn0
            try dsimp only
            refine st_hideT hn0 ?_
            intro _ _ _
            walk_at "go"
            walk_at "gm"
            refine args_cons ?_ (by k_dflt rfl)
            walk_at "go"
            refine item_l h (by walk_at "mem") (by walk_at "om") (v := .str (ch1 (ls.getD k 0)) tl) (by rw [show (0 + (k : Int)).toNat = k by walk_at "om"]; exact hvl) (by exact o260 hk4) ?_ rfl
            refine args_cons ?_ (by k_dflt rfl)
            refine wpAny_Constant_str ?_
            have h' := h.toks (s.toks + 1)
            refine byName fun _ kk_ => ?_
            obtain ⟨_, _, hev, hu0, hun⟩ := hlt _ (List.mem_of_getElem? hvl)
            refine kk_ ?_
            clear kk_
            injection hev with _ hev
            subst hev
            have huv : tl ≠ s.toks := Nat.ne_of_lt (Nat.lt_of_lt_of_le hun hn0)
            have hv0 : s.toks ≠ 0 := Nat.ne_of_gt (Nat.lt_of_le_of_lt (Nat.zero_le _) (Nat.lt_of_lt_of_le hun hn0))
            generalize s.toks = tz at h' hv0 huv ⊢
            generalize ({ heap := s.heap, gens := s.gens, toks := tz + 1, os := s.os } : Shared) = s' at h' ⊢
            clear h hn0
            refine args_nil ?_
            have hw4 := wordOf_len ls mk[i]
            refine s_replace h' hu0 hv0 huv (by show ((⟨#[ls.getD k 0]⟩ : Str) == Str.ofString "") = false; rw [beq_eq_false_iff_ne]; intro q; have := congrArg (fun x : Str => x.cps.size) q; cases this) (by rw [sOf_len]; exact o265 hw4) (by decide) ?_
            clear h'; intro t7 s h
            rw [al.rep _ hm16 _ hk4 hin]
            walk_at "go"
            intro hn0
            try dsimp only
            walk_at "go"
            refine o_pow h ?_ (by walk_at "om") (by exact o263 hk4) (by decide)
            rw [hp]
            clear h; intro _ s h
            walk_at "go"
            rw [hsub]
            refine d_set h (by walk_at "upd") (by exact o266 hk4 hi hkl hlen) ?_
            clear h; intro s h
            try dsimp only
            walk_at "go"
            intro hn0
            try dsimp only
            walk_at "go"
            walk_at "gm"
            walk_at "cwb"
            refine And.intro ⟨_, h⟩ ?_
            refine wpAny_call ?_
            refine push_u (C := a.C) K (hA.less (by walk_at "om")) h (by walk_at "mem") (by walk_at "mem") (by walk_at "upd") hpl2 (by intro r; simp) ?_
            clear h; intro s h
            try dsimp only
            walk_at "go"
            have h2 := h.draw (L' := (it2, _) :: (it, _) :: (tA, _) :: (c1, _) :: (La, _) :: (rA, _) :: (a.pb, _) :: (a.x, _) :: (a.dx, _) :: M) (by walk_at "draw")
            refine ⟨_, h2, _, _, rv2, _, _, _, _, _, Told.sub (Told.add al hT (Nat.lt_of_le_of_lt (Nat.sub_le _ _) hm16)) ?_, Nat.le_trans (stored_length_le _ _ _) (by exact o267 hkl), ?_, hri2, insA_sorted hso1, ?_, rfl⟩
            · intro x hx
              rw [mid_succ hi', hpd] at hx
              rw [mid_cons hi']
              rcases List.mem_append.mp hx with q | q
              · exact List.mem_append_left _ (.tail _ q)
              · exact List.mem_append_right _ q
            · rw [mid_succ hi', hpd, List.map_append, List.map_singleton]
              exact strs_snoc hpv' _ _
            · refine (insA_perm _ _).trans ?_
              rw [mid_succ hi', hpd, List.map_append, List.map_singleton]
              refine List.Perm.trans (List.Perm.cons _ ?_) (List.perm_append_singleton _ _).symm
              have he := hpe.erase (mk[i] : Int)
              rw [mid_cons hi', List.map_cons, List.erase_cons_head] at he
              exact he
        · rw [if_neg hin]
          intro hn0
          rw [if_neg (by decide)]
          walk_at "go"
          intro hn0
          try dsimp only
          walk_at "go"
          walk_at "gm"
          walk_at "cwb"
          refine And.intro ⟨_, h⟩ ?_
          refine wpAny_call ?_
          refine push_u (C := a.C) K (hA.less (by walk_at "om")) h (by walk_at "mem") (by walk_at "mem") (by walk_at "upd") hpl2 (by intro r; simp) ?_
          clear h; intro s h
          try dsimp only
          walk_at "go"
          exact stay (by unfold pdn; rw [if_neg (fun q => hin q.1)]) _ h
      · clear hT hkl hpv hri hso hpe hn0 h kvs pv rv ri v1 v2 v3 v5
        intro L' s hn0 hZ0_ h
        refine byName fun _ kk_ => ?_
        obtain ⟨kvs, pv, rv, ri, v1, v2, v3, v5, hT, hkl, hpv, hri, hso, hpe, rfl⟩ := hZ0_
        refine kk_ ?_
        clear kk_
        rw [← hln', mid_end] at hT hpv hpe
        try dsimp only
        walk_at "go"
        refine ⟨_, h, kvs, pv, rv, ri, _, _, _, _, _, hT, by exact o268 hkl hlen, hpv, hri, hso, hpe, rfl⟩
    · clear hT hkl hpv hri hso hpe hn0 h kvs pv rv ri v1 v2 v3
      intro L' s hn0 hZ0_ h
      refine byName fun _ kk_ => ?_
      obtain ⟨kvs, pv, rv, ri, v1, v2, v3, v4, v5, hT, hkl, hpv, hri, hso, hpe, rfl⟩ := hZ0_
      refine kk_ ?_
      clear kk_
      walk_at "go"
      intro hn1
      clear hn1 hn0
      walk_at "go"
      have hdl : (its.map fun i => Value.ref i.a).length < 2 ^ 60 := by rw [List.length_map]; walk_at "om"
      refine byName fun _ kk_ => ?_
      obtain ⟨hnd', hlt', hln'⟩ := pushN_ok hnd hm16 4
      refine kk_ ?_
      clear kk_
      rw [hml] at hln'
      generalize pushN ms 4 = mk at hT hpv hpe hnd' hlt' hln' kM
      refine lc_open (clos := [("lexer", c1)]) he (by kernel_rfl!) rfl (by kernel_rfl!) ?_ (by intro _; rfl)
      walk_at "go"
      refine b_range1 h ?_
      clear h; intro r _ _ s h
      rw [List.length_map] at h
      refine iter_r (m := its.length) h .head (by decide) (by exact o256) (by exact o257 hlen) ?_
      clear h; intro it2 s h
      have h2 := h.draw (L' := (it2, _) :: (tA, _) :: (c1, _) :: (La, _) :: (rA, _) :: (a.pb, _) :: (a.x, _) :: (a.dx, _) :: M) (by walk_at "draw")
      clear h; have h := h2; clear h2
      refine lc_run (cn := []) (nm' := [(".0", .local), ("turn", .local), ("lexer", .cell)]) ["turn"] (fun _ i out L' => ∃ pv, Cj3 (StrsAre pv ((mk.drop i).map fun m => sOf (wordOf ls m))) (StrsAre out ((mk.take i).map fun m => sOf (wordOf ls m))) (L' = (tA, .pr (isDc prog w kvs)) :: (c1, .cl (some (.ref a.x))) :: (La, .fr lPD [some (.ref lA), some (.ref rA), some (.ref dA), some (.ref tA), v1, v2, v3, v4, v5]) :: (rA, .ls rv) :: (a.pb, .ls pv) :: (a.x, .ob (instObj a.C a.dx)) :: (a.dx, nsX n tn a.tw a.st a.pb) :: M))
        (src_r (a := 0) (n := its.length) hA.handled) he rfl (by kernel_rfl!) (by decide +kernel) (by kernel_rfl!) (fun _ _ _ _ _ _ _ _ => trivial) ?_ h ?_ ?_ ?_
      · rintro _ i out L' ⟨pv, _, ho, _⟩
        rw [strs_len ho, List.length_map]
        exact Nat.lt_of_le_of_lt (List.length_take_le' _ _) (by walk_at "om")
      · intro ca hca
        obtain rfl : ca = [] := List.length_eq_zero_iff.mp hca
        exact ⟨pv, hpv, .nil, rfl⟩
      · clear h hpv pv
        intro C acc ca e' i v G out vals L' s E J hJ hca hvl he hi hZ0_ hZ1_ h
        refine byName fun _ kk_ => ?_
        obtain ⟨pv, hpv, hout, rfl⟩ := hZ1_
        obtain ⟨⟨ti, rfl⟩, rfl⟩ := hZ0_
        refine kk_ ?_
        clear kk_
        obtain rfl : ca = [] := List.length_eq_zero_iff.mp hca
        obtain ⟨v0, rfl⟩ := ln1 hvl
        have hi' : i < mk.length := by walk_at "om"
        simp only [List.cons_append, List.nil_append, List.zip_nil_right] at h he ⊢
        replace he := he
        walk_at "go"
        refine wpAny_tests_nil ?_
        rw [if_pos rfl]
        walk_at "go"
        walk_at "gm"
        walk_at "cwb0"
        rw [List.drop_eq_getElem_cons hi', List.map_cons] at hpv
        obtain ⟨pt, pv', rfl, hpv'⟩ : ∃ (t : Tok) (pv' : List Value), pv = .str (sOf (wordOf ls mk[i])) t :: pv' ∧ StrsAre pv' ((mk.drop (i + 1)).map fun m => sOf (wordOf ls m)) := by
          cases hpv with
          | cons x t h => exact ⟨_, _, rfl, h⟩
        have hpl : pv'.length + 1 < 2 ^ 20 := by rw [strs_len hpv']; simp; exact o269 hln' hlen
        refine got_u (C := a.C) K (hA.less (by walk_at "om")) h (by walk_at "mem") (by walk_at "mem") (by walk_at "upd") hpl ?_
        clear h; intro s h
        try dsimp only
        refine hJ.sm _ _ ⟨_, _, rfl, h, pv', hpv', ?_, rfl⟩
        rw [List.take_succ_eq_append_getElem hi', List.map_append, List.map_singleton]
        exact strs_snoc hout _ _
      · clear h hpv pv
        intro C acc ca out vals L' s hZ0_ h s' h
        refine byName fun _ kk_ => ?_
        obtain ⟨pv, hpv, hout, rfl⟩ := hZ0_
        refine kk_ ?_
        clear kk_
        rw [List.drop_eq_nil_of_le (by exact o138 hln')] at hpv
        rw [List.take_of_length_le (by exact o138 hln')] at hout
        cases hpv
        walk_at "go"
        exact kM _ _ _ _ _ hout hri hso hpe (h.draw (by walk_at "draw"))
end
end Mine
namespace Mine
section
open PySem PySem.W PyProof.Rows PySem.Calls
section
variable {prog : Program} {w : World} {A : Around} {E : Value → Shared → Prop} {b s : Shared} {L L' : Led} {l l2 : Addr} {vs us : List Value} {xs ys : List Int} {x y : Int} {t u : Tok} {Q : Value → Shared → Prop}
theorem IntsAre.mem {vs : List Value} {xs : List Int} (h : IntsAre vs xs) : ∀ v ∈ vs, ∃ n t, v = .int n t ∧ n ∈ xs := by
  induction h with
  | nil => intro v hv; cases hv
  | cons n t _ ih =>
    intro v hv
    rcases List.mem_cons.mp hv with rfl | hv
    · exact ⟨n, t, rfl, .head _⟩
    · obtain ⟨m, u, e, hm⟩ := ih v hv; exact ⟨m, u, e, .tail _ hm⟩
noncomputable def isI (x : Int) : Value → Bool
  | .int a _ => a == x
  | _ => false
theorem any_isI {vs : List Value} {xs : List Int} (h : IntsAre vs xs) (x : Int) : vs.any (isI x) = decide (x ∈ xs) := by
  induction h with
  | nil => rfl
  | cons n t _ ih =>
    rw [List.any_cons, ih]
    show ((n == x) || _) = _
    by_cases e : n = x
    · subst e; simp
    · have : ¬ x = n := fun q => e q.symm
      simp [e, this]
theorem in_l (h : H b L s) (hm : Has l (.ls vs) L) (hi : IntsAre vs xs) (kk : Q (.bool (decide (x ∈ xs))) s) : wpAny (model prog w) A (compareOp .In (.int x t) (.ref l)) Q E s := by
  obtain ⟨n, hg⟩ := h.getL hm
  refine SeqAt.in_listAt (isI x) (isList hg) (fun y hy => ?_) ?_
  · obtain ⟨a, ta, rfl, _⟩ := IntsAre.mem hi y (by simpa using hy)
    exact SeqAt.EqAt.int_int a ta x t
  · rw [show vs.toArray.any (isI x) = vs.any (isI x) by simp, any_isI hi]; exact kk
theorem b_max (hh : A.handled = none) (h : H b L s) (kk : ∀ t s', H b L s' → Q (.int (max x y) t) s') : wpAny (model prog w) A (call (.builtin "max") [.int x t, .int y u]) Q E s :=
  max_two_ints hh fun h' tk hk => by
    have h2 := h.ext hk tk
    by_cases e : y > x
    · rw [if_pos e]; have := kk u _ h2; rwa [Int.max_def, if_pos (by exact o270 e)] at this
    · rw [if_neg e]; have := kk t _ h2; rw [Int.max_def] at this
      by_cases e2 : x ≤ y
      · rw [if_pos e2] at this; have e3 : x = y := by exact o271 e2 e
        rw [e3]; exact this
      · rw [if_neg e2] at this; exact this
theorem b_min (hh : A.handled = none) (h : H b L s) (kk : ∀ t s', H b L s' → Q (.int (min x y) t) s') : wpAny (model prog w) A (call (.builtin "min") [.int x t, .int y u]) Q E s :=
  min_two_ints hh fun h' tk hk => by
    have h2 := h.ext hk tk
    by_cases e : y < x
    · rw [if_pos e]; have := kk u _ h2; rwa [Int.min_def, if_neg (by exact o272 e)] at this
    · rw [if_neg e]; have := kk t _ h2; rwa [Int.min_def, if_pos (by exact o273 e)] at this
theorem b_abs (h : H b L s) (kk : ∀ t s', H b L s' → Q (.int (x.natAbs : Int) t) s') : wpAny (model prog w) A (call (.builtin "abs") [.int x t]) Q E s :=
  call_abs_int fun u tk => by
    have := kk u _ (h.toks tk)
    by_cases e : x < 0
    · rw [if_pos e]; rwa [show (x.natAbs : Int) = -x by exact o274 e] at this
    · rw [if_neg e]; rwa [show (x.natAbs : Int) = x by exact o275 e] at this
theorem ofInts {vs : List Value} {xs : List Int} (h : IntsAre vs xs) : ∃ l : List (Int × Tok), vs = (l.map fun p => .int p.1 p.2) ∧ l.map (·.1) = xs := by
  induction h with
  | nil => exact ⟨[], rfl, rfl⟩
  | cons n t _ ih => obtain ⟨l, rfl, rfl⟩ := ih; exact ⟨(n, t) :: l, rfl, rfl⟩
theorem preSum_take (l : List (Int × Tok)) : ∀ n ≤ l.length, preSum (numAt l.toArray) n = ((l.map (·.1)).take n).sum
  | 0, _ => rfl
  | n + 1, h => by
    show preSum _ n + numAt _ n = _
    rw [preSum_take l n (by exact o276 h), List.take_succ_eq_append_getElem (by rw [List.length_map]; exact h), List.sum_append]
    congr 1
    unfold numAt
    have hn : n < l.length := h
    simp [hn]
theorem b_sum (hh : A.handled = none) (h : H b L s) (hm : Has l (.ls vs) L) (hi : IntsAre vs xs) (kk : ∀ t s', H b L s' → Q (.int xs.sum t) s') : wpAny (model prog w) A (call (.builtin "sum") [.ref l]) Q E s := by
  refine byName fun _ kk_ => ?_
  obtain ⟨n, hg⟩ := h.getL hm
  obtain ⟨ps, rfl, rfl⟩ := ofInts hi
  refine kk_ ?_
  clear kk_
  have hl : s.heap.IsList l (intItems ps.toArray) := by
    have := isList hg
    unfold intItems
    rwa [List.map_toArray]
  refine call_sum_walkG (iter_intList hl fun s₂ e st hfp hlI => ?_)
  subst e
  refine ⟨_, _, _, _, _, _, numAt ps.toArray, rfl, Walks.list (A := A.in1) hh _ l hlI (intItems ps.toArray), st, hfp, (fun _ _ => intItems_at), fun h' tk t' hk => ?_⟩
  have h2 := kk t' _ (h.ext (old_kept hk) tk)
  have e : preSum (numAt ps.toArray) ps.length = (ps.map (·.1)).sum := by
    rw [preSum_take ps _ (Nat.le_refl _), List.take_of_length_le (by simp)]
  have e2 : (intItems ps.toArray).size = ps.length := by simp [intItems]
  rw [e2, e]
  exact h2
theorem ne_ints (hu : A.units ≤ 9000) (h : H b L s) (h1 : Has l (.ls vs) L) (h2 : Has l2 (.ls us) L) (hi : IntsAre vs xs) (hj : IntsAre us ys) (kk : Q (.bool (!decide (xs = ys))) s) : wpAny (model prog w) A (compareOp .NotEq (.ref l) (.ref l2)) Q E s := by
  obtain ⟨n, hg⟩ := h.getL h1
  obtain ⟨m, hg2⟩ := h.getL h2
  exact ke_ne_ints (isList hg) (isList hg2) hi hj (by show A.units + 64 < 9900; exact o277 hu) kk
theorem StrsAre.get {vs : List Value} {xs : List Str} (h : StrsAre vs xs) (j : Nat) (hj : j < vs.length) (hj' : j < xs.length) : ∃ t, vs[j] = .str xs[j] t := by
  obtain ⟨t, e⟩ := StrsAre.at h (k := j) (a := xs[j]) (List.getElem?_eq_getElem hj')
  exact ⟨t, by rw [List.getElem?_eq_getElem hj] at e; exact Option.some.inj e⟩
theorem ne_strs {ss ts : List Str} (hu : A.units ≤ 9000) (h : H b L s) (h1 : Has l (.ls vs) L) (h2 : Has l2 (.ls us) L) (hi : StrsAre vs ss) (hj : StrsAre us ts) (kk : Q (.bool (!decide (ss = ts))) s) : wpAny (model prog w) A (compareOp .NotEq (.ref l) (.ref l2)) Q E s := by
  refine byName fun _ kk_ => ?_
  obtain ⟨n, hg⟩ := h.getL h1
  obtain ⟨m, hg2⟩ := h.getL h2
  refine kk_ ?_
  clear kk_
  have hl1 := strs_len hi
  have hl2 := strs_len hj
  have hcl : A.units < cLine := by show A.units < 9900; walk_at "om"
  by_cases hs : ss.length = ts.length
  · have key : (List.range vs.toArray.size).all (fun j => ss.getD j Str.empty == ts.getD j Str.empty) = decide (ss = ts) := by
      rw [Bool.eq_iff_iff, List.all_eq_true, decide_eq_true_eq]
      simp only [List.mem_range, List.size_toArray, beq_iff_eq, List.getD_eq_getElem?_getD]
      constructor
      · intro hall
        refine List.ext_getElem hs fun j hj1 hj2 => ?_
        have := hall j (by exact o278 hj1 hl1)
        simpa [List.getElem?_eq_getElem hj1, List.getElem?_eq_getElem hj2] using this
      · rintro rfl j _; rfl
    refine cmp_ofNotEq ?_
    refine SeqAt.RcNeAt.lists (e := fun j => ss.getD j Str.empty == ts.getD j Str.empty) (isList hg) (isList hg2) (by simp; exact o279 hl1 hl2 hs) hcl (fun j hj1 hj2 => ?_) prog w E Q ?_
    · simp at hj1 hj2
      refine byName fun _ kk_ => ?_
      obtain ⟨t1, e1⟩ := StrsAre.get hi j hj1 (by exact o280 hj2 hs hl2)
      obtain ⟨t2, e2⟩ := StrsAre.get hj j hj2 (by walk_at "om")
      refine kk_ ?_
      clear kk_
      have g1 : vs.toArray[j] = .str ss[j] t1 := by simpa using e1
      have g2 : us.toArray[j] = .str ts[j] t2 := by simpa using e2
      rw [g1, g2]
      have := SeqAt.EqAt.str_str (A := A.in1) (s := s) ss[j] t1 ts[j] t2
      simpa [List.getD_eq_getElem?_getD, List.getElem?_eq_getElem (show j < ss.length by exact o280 hj2 hs hl2), List.getElem?_eq_getElem (show j < ts.length by walk_at "om")] using this
    · rw [key]; exact kk
  · refine cmp_ofNotEq ?_
    refine SeqAt.RcNeAt.lists_lengths (isList hg) (isList hg2) (by simp; exact o281 hl1 hl2 hs) hcl prog w E Q ?_
    rw [decide_eq_false (fun q => hs (by rw [q]))] at kk
    exact kk
theorem eq_nil (hu : A.units ≤ 9000) (h : H b L s) (h1 : Has l (.ls vs) L) (h2 : Has l2 (.ls []) L) (kk : Q (.bool vs.isEmpty) s) : wpAny (model prog w) A (compareOp .Eq (.ref l) (.ref l2)) Q E s := by
  refine byName fun _ kk_ => ?_
  obtain ⟨n, hg⟩ := h.getL h1
  obtain ⟨m, hg2⟩ := h.getL h2
  refine kk_ ?_
  clear kk_
  have hcl : A.units < cLine := by show A.units < 9900; walk_at "om"
  cases vs with
  | nil => exact SeqAt.eq_listAt (e := fun _ => true) (isList hg) (isList hg2) rfl hcl (fun j hj1 => by simp at hj1) kk
  | cons v vs => exact SeqAt.eq_list_lengthsAt (isList hg) (isList hg2) (by simp) hcl kk
theorem sort_s {ss : List Str} (h : H b L s) (hm : Has l (.ls vs) L) (hi : StrsAre vs ss) (h64 : vs.length < 64) (kk : ∀ a out ss' s', StrsAre out ss' → ss'.Perm ss → sortedS ss' = true → H b ((a, .ls out) :: L) s' → Q (.ref a) s') : wpAny (model prog w) A (call (.builtin "sorted") [.ref l]) Q E s := by
  obtain ⟨n, hg⟩ := h.getL hm
  refine sorted_strs (isList hg) hi h64 fun out ss' a1 a2 a3 => ?_
  obtain ⟨e, he⟩ := sortedAll_at s.heap vs out
  refine kk _ out.toList ss' _ a1 a2 a3 (h.grow (t := s.toks) (fun _ _ => sortedAll_old) (fun _ => ⟨e, he⟩) (Nat.le_succ _))
theorem add_l (h : H b L s) (h1 : Has l (.ls vs) L) (h2 : Has l2 (.ls us) L) (hz : vs.length + us.length < 2 ^ 20) (kk : ∀ a s', H b ((a, .ls (vs ++ us)) :: L) s' → Q (.ref a) s') : wpAny (model prog w) A (binaryOp .Add (.ref l) (.ref l2)) Q E s := by
  refine byName fun _ kk_ => ?_
  obtain ⟨n, hg⟩ := h.getL h1
  obtain ⟨m, hg2⟩ := h.getL h2
  refine kk_ ?_
  clear kk_
  refine PySem.P.add_list hg hg2 ?_ (by rw [List.size_toArray, List.size_toArray, sizeLine_eq]; exact o282 hz)
  have := kk _ _ (h.allocL (vs ++ us))
  have e : vs.toArray ++ us.toArray = (vs ++ us).toArray := by simp
  rw [e]
  exact this
end
end
end Mine
namespace Mine
section
open PySem PySem.W PyProof.Rows PySem.Calls
variable {prog : Program} {w : World} {A : Around} {b s : Shared} {L : Led} {f : Addr} {fd : FuncData} {R : Result → Shared → Prop} {t u tn : Tok}
theorem swaps_cell {e : Env} {La : Addr} {nm : List (Str × NameKind)} {cl : List (Str × Addr)} {y : Str} {py pos : Pos} {elt : Expr} {gens : List Comprehension} {sc : Scope} {line : Nat} (he : Ev e La nm cl) (hy : (nm.lookup y == some .local) = false) :
    swapsWith (.ListComp elt gens sc pos) (some (.Name y py)) line e = pure false := by
  show pure (e.blockKind == .function && e.kindOf y == some .local && py.line == pos.line && _) = pure false
  unfold Env.kindOf
  rw [he.names, hy]
  simp
noncomputable def nmWN : List (Str × NameKind) := (stScope (nth pb 24)).names
theorem inSet_int (j i : Nat) : (((0 + (j : Int)).fdiv ((2 ^ i : Nat) : Int)).fmod 2 == 1) = inSet j i := by
  have hp0 : 0 < 2 ^ i := Nat.two_pow_pos i
  have hd : (0 + (j : Int)).fdiv ((2 ^ i : Nat) : Int) = ((j / 2 ^ i : Nat) : Int) := by rw [Int.zero_add, Int.fdiv_eq_ediv_of_nonneg _ (by walk_at "om")]; rfl
  rw [hd]
  unfold inSet
  rw [Int.fmod_eq_emod_of_nonneg _ (by decide)]
  have : ((j / 2 ^ i : Nat) : Int) % 2 = ((j / 2 ^ i % 2 : Nat) : Int) := rfl
  rw [this]
  generalize j / 2 ^ i % 2 = m
  rw [Bool.eq_iff_iff, beq_iff_eq, beq_iff_eq]; exact o223
theorem inSet_up : ∀ j < 16, ∀ i < 4, inSet j i = false → j + 2 ^ i < 16 := by decide
noncomputable def wonStep (g : Nat → Int) (k s : Nat) : Int := if inSet s k = true then min (g (s - 2 ^ k)) (g s) else max (g s) (g (s + 2 ^ k))
noncomputable def wonN (g : Nat → Int) (n : Nat) : Nat → Int := (List.range n).foldl wonStep g
theorem wonN_succ (g : Nat → Int) (n : Nat) : wonN g (n + 1) = wonStep (wonN g n) n := by unfold wonN; rw [List.range_succ, List.foldl_append]; rfl
noncomputable def won0 (xs : List Nat) (s : Nat) : Int := if s ∈ xs.map (· % 16) then 1 else 0
noncomputable def dueOf (xs : List Nat) : List Nat := (List.range 16).filter fun s => wonN (won0 xs) 4 s == 1
structure Won (b : Shared) : Prop where
  range : Blt b "range" (.type "range")
  min : Blt b "min" (.builtin "min")
  max : Blt b "max" (.builtin "max")
theorem winners_c {nA : Addr} {nv : List Value} {xs : List Nat} (D : Def b "_law_winners" 24 f fd) (Y : Won b) (hA : Room A 6) (h : H b L s) (hn : Has nA (.ls nv) L) (hnv : IntsAre nv (xs.map Int.ofNat)) (hx : xs.length ≤ 10)
    (k : ∀ (a : Addr) (ov : List Value) (s' : Shared), IntsAre ov ((dueOf xs).map Int.ofNat) → H b ((a, .ls ov) :: L) s' → R (.ok (.ret (.ref a))) s') :
    codeAny (model prog w) A (.call (.ref f) ⟨[.ref nA], []⟩) R s := by
  have hrange := Y.range
  have hmin := Y.min
  have hmax := Y.max
  refine enterC (d := 5) (nm := nmWN) (names := ["numbers", "k"]) (vals := [some (.ref nA), none]) (cn := ["bit", "won", "held"]) (cvals := [none, none, none]) (binds := [("numbers", .ref nA)]) D.fn hA h
    (bind_of D.fn.params D.d1 D.d2 (t := fun _ => pure _) (fun q => by kernel_rfl)) rfl (by kernel_rfl) (by kernel_rfl) (by decide +kernel) rfl (by kernel_rfl) (by decide +kernel) rfl rfl rfl ?_
  clear h
  intro La s e A' E' ca hca he hcode hqual hA h
  refine byName fun _ kk_ => ?_
  obtain ⟨c3, c2, c1, rfl⟩ := ln3 hca
  refine kk_ ?_
  clear kk_
  simp only [List.zip_cons_cons, List.zip_nil_right, List.map_cons, List.map_nil, List.cons_append, List.nil_append] at he h
  replace he := he
  refine st_hide ?_
  intro _ _
  have hnl : nv.length = xs.length := by rw [hnv.length, List.length_map]
  refine wpAny_Assign_Name ?_ (swaps_cell he (by kernel_rfl))
  refine lc_open (clos := []) he (by kernel_rfl!) rfl (by kernel_rfl!) ?_ (by intro _; rfl)
  walk_at "go"
  refine iter_l h (by walk_at "mem") ?_
  clear h; intro it s h
  refine lc_pure (nm' := [(".0", .local), ("number", .local)]) ["number"] (fun j o => match o with | some y => ∃ u, y = .int ((xs.getD j 0 % 16 : Nat) : Int) u | none => False)
    (src_l (vs := nv) hA.handled) he rfl (by kernel_rfl!) (by decide +kernel) (by kernel_rfl!) (fun _ _ _ _ => by walk_at "mem") (by walk_at "om") h ?_ ?_
  · clear h
    intro C acc e' j v G out vals s E J hJ hvl he hj hv h
    refine byName fun _ kk_ => ?_
    obtain ⟨hv, rfl⟩ := hv
    obtain ⟨v0, rfl⟩ := ln1 hvl
    refine kk_ ?_
    clear kk_
    obtain ⟨tl, hvl'⟩ := IntsAre.at hnv (k := j) (a := ((xs.getD j 0 : Nat) : Int)) (by rw [List.getElem?_map, List.getD_eq_getElem?_getD, List.getElem?_eq_getElem (by walk_at "om")]; rfl)
    obtain rfl : v = _ := Option.some.inj (hv.symm.trans hvl')
    simp only [List.cons_append, List.nil_append] at h ⊢
    walk_at "go"
    refine wpAny_tests_nil ?_
    rw [if_pos rfl]
    walk_at "go"
    have hfm : ((xs.getD j 0 : Nat) : Int).fmod 16 = ((xs.getD j 0 % 16 : Nat) : Int) := by rw [Int.fmod_eq_emod_of_nonneg _ (by decide)]; rfl
    rw [hfm]
    exact ⟨⟨_, rfl⟩, _, [], rfl, h⟩
  · clear h
    intro C acc out vals s hout h s' h
    have hp := hout.map (fun y v => ∃ u, v = .int y u) (fun j => ((xs.getD j 0 % 16 : Nat) : Int)) (fun i y _ hw => hw) (fun i _ hw => hw)
    have hheld := ints_of hp
    rw [hnl, map_range (fun x => ((x % 16 : Nat) : Int)) xs] at hheld
    clear hp hout
    walk_at "go"
    refine wpAny_Assign_Name ?_ (swaps_cell he (by kernel_rfl))
    refine lc_open (clos := [("held", c1)]) he (by kernel_rfl!) rfl (by kernel_rfl!) ?_ (by intro _; rfl)
    walk_at "go"
    refine b_range1 h ?_
    clear h; intro r _ _ s h
    refine iter_r (m := 16) h .head (by decide) rfl (by decide) ?_
    clear h; intro it2 s h
    refine lc_pure (nm' := [(".0", .local), ("taken", .local), ("held", .cell)]) ["taken"] (fun j o => match o with | some y => ∃ u, y = .int (won0 xs j) u | none => False)
      (src_r (a := 0) (n := 16) hA.handled) he rfl (by kernel_rfl!) (by decide +kernel) (by kernel_rfl!) (fun _ _ _ _ => trivial) (by decide) h ?_ ?_
    · clear h
      intro C2 acc2 e' j v G out2 vals s E J hJ hvl he hj hv h
      refine byName fun _ kk_ => ?_
      obtain ⟨⟨tj, rfl⟩, rfl⟩ := hv
      obtain ⟨v0, rfl⟩ := ln1 hvl
      refine kk_ ?_
      clear kk_
      simp only [List.cons_append, List.nil_append] at h ⊢
      walk_at "go"
      refine wpAny_tests_nil ?_
      rw [if_pos rfl]
      walk_at "go"
      refine in_l h (by walk_at "mem") hheld ?_
      walk_at "go"
      have hin : (0 + (j : Int) ∈ xs.map fun x => ((x % 16 : Nat) : Int)) ↔ j ∈ xs.map (· % 16) := by
        rw [List.mem_map, List.mem_map]
        constructor
        · rintro ⟨a, ha, e⟩; exact ⟨a, ha, by exact o283 e⟩
        · rintro ⟨a, ha, e⟩; exact ⟨a, ha, by exact o284 e⟩
      by_cases hj2 : j ∈ xs.map (· % 16)
      · rw [if_pos (by simpa using hin.mpr hj2)]
        walk_at "go"
        exact ⟨⟨_, by unfold won0; rw [if_pos hj2]⟩, _, [], rfl, h⟩
      · rw [if_neg (by simpa using fun q => hj2 (hin.mp q))]
        walk_at "go"
        exact ⟨⟨_, by unfold won0; rw [if_neg hj2]⟩, _, [], rfl, h⟩
    · clear h
      intro C2 acc2 out2 vals2 s hout2 h s' h
      have hp2 := hout2.map (fun y v => ∃ u, v = .int y u) (fun j => won0 xs j) (fun i y _ hw => hw) (fun i _ hw => hw)
      have hwon := ints_of hp2
      clear hp2 hout2
      walk_at "go"
      refine b_range1 h ?_
      clear h; intro r3 _ _ s h
      refine iter_r (m := 4) h .head (by decide) rfl (by decide) ?_
      clear h; intro it3 s h
      have h2 := h.draw (L' := (it3, _) :: (acc2, _) :: (c3, _) :: (c2, _) :: (c1, _) :: (La, _) :: L) (by walk_at "draw")
      clear h; have h := h2; clear h2
      refine loop (src_r (a := 0) (n := 4) hA.handled) (fun i L' => Ex4 fun (wA : Addr) (wv : List Value) (v3 vk : Option Value) => IntsAre wv ((List.range 16).map (wonN (won0 xs) i)) ∧
        L' = (wA, .ls wv) :: (c3, .cl v3) :: (c2, .cl (some (.ref wA))) :: (c1, .cl (some (.ref acc))) :: (La, .fr ["numbers", "k"] [some (.ref nA), vk]) :: L) ?_ h ?_ ?_ ?_
      · intros; trivial
      · exact ⟨acc2, out2, _, _, hwon, rfl⟩
      · clear h hwon
        intro i v G L' s E J hJ hi hZ0_ hZ1_ h
        refine byName fun _ kk_ => ?_
        obtain ⟨wA, wv, v3, vk, hwv, rfl⟩ := hZ1_
        obtain ⟨⟨ti, rfl⟩, rfl⟩ := hZ0_
        refine kk_ ?_
        clear kk_
        simp only [List.cons_append, List.nil_append] at h ⊢
        rw [wonN_succ] at hJ
        replace hJ := hJ
        have hp : (2 : Int) ^ (0 + (i : Int)).toNat = ((2 ^ i : Nat) : Int) := by rw [show (0 + (i : Int)).toNat = i by walk_at "om"]; push_cast; rfl
        have hp0 : 0 < 2 ^ i := Nat.two_pow_pos i
        have hp1 : 2 ^ i ≤ 2 ^ 3 := Nat.pow_le_pow_right (by decide) (by exact o285 hi)
        walk_at "go"
        refine o_pow h ?_ (by walk_at "om") (by exact o263 hi) (by decide)
        rw [hp]
        clear h; intro _ s h
        walk_at "go"
        refine wpAny_Assign_Name ?_ (swaps_cell he (by kernel_rfl))
        refine lc_open (clos := [("won", c2), ("bit", c3)]) he (by kernel_rfl!) rfl (by kernel_rfl!) ?_ (by intro _; rfl)
        walk_at "go"
        refine b_range1 h ?_
        clear h; intro r _ _ s h
        refine iter_r (m := 16) h .head (by decide) rfl (by decide) ?_
        clear h; intro it2 s h
        have hwl : wv.length = 16 := by rw [hwv.length, List.length_map, List.length_range]
        have hitem : ∀ j, j < 16 → ∃ t, wv[j]? = some (.int (wonN (won0 xs) i j) t) := fun j hj => IntsAre.at hwv (by simp [hj])
        refine lc_pure (nm' := [(".0", .local), ("s", .local), ("min", .globalImplicit), ("max", .globalImplicit), ("bit", .cell), ("won", .cell)]) ["s"] (fun j o => match o with | some y => ∃ u, y = .int (wonStep (wonN (won0 xs) i) i j) u | none => False)
          (src_r (a := 0) (n := 16) hA.handled) he rfl (by kernel_rfl!) (by decide +kernel) (by kernel_rfl!) (fun _ _ _ _ => trivial) (by decide) h ?_ ?_
        · clear h
          intro C3 acc3 e' j v G out3 vals s E J hJ hvl he hj hv h
          refine byName fun _ kk_ => ?_
          obtain ⟨⟨tj, rfl⟩, rfl⟩ := hv
          obtain ⟨v0, rfl⟩ := ln1 hvl
          refine kk_ ?_
          clear kk_
          simp only [List.cons_append, List.nil_append] at h ⊢
          walk_at "go"
          refine wpAny_tests_nil ?_
          rw [if_pos rfl]
          have hdv : Builtin.divisionGoesByPylong (0 + (j : Int)) ((2 ^ i : Nat) : Int) = false := noPyS (by rw [Int.natAbs_natCast]; walk_at "om")
          walk_at "go"
          refine o_div h ?_ (by exact o142 hp0) hdv
          clear h; intro _ s h
          walk_at "go"
          rw [inSet_int]
          obtain ⟨t0, ht0⟩ := hitem j hj
          cases hin : inSet j i with
          | true =>
            rw [if_pos rfl]
            have hle := inSet_le hin
            obtain ⟨t1, ht1⟩ := hitem (j - 2 ^ i) (by exact o286 hj)
            walk_at "go"
            have e1 : (0 + (j : Int) - ((2 ^ i : Nat) : Int)).toNat = j - 2 ^ i := by exact o287
            refine item_l h (by walk_at "mem") (by exact o288 hle) (by rw [e1]; exact ht1) (by exact o289 hj) ?_ rfl
            walk_at "go"
            refine item_l h (by walk_at "mem") (by walk_at "om") (by rw [show (0 + (j : Int)).toNat = j by walk_at "om"]; exact ht0) (by exact o290 hj) ?_ rfl
            walk_at "go"
            refine b_min hA.handled h ?_
            clear h; intro _ s h
            exact hJ.go (some _) _ ⟨⟨_, by unfold wonStep; rw [if_pos hin]⟩, _, [], rfl, h⟩
          | false =>
            rw [if_neg (by decide)]
            have hup := inSet_up j hj i hi hin
            obtain ⟨t1, ht1⟩ := hitem (j + 2 ^ i) hup
            walk_at "go"
            refine item_l h (by walk_at "mem") (by walk_at "om") (by rw [show (0 + (j : Int)).toNat = j by walk_at "om"]; exact ht0) (by exact o291 hup) ?_ rfl
            walk_at "go"
            have e1 : (0 + (j : Int) + ((2 ^ i : Nat) : Int)).toNat = j + 2 ^ i := by exact o292
            refine item_l h (by walk_at "mem") (by exact o293) (by rw [e1]; exact ht1) (by exact o294 hup) ?_ rfl
            walk_at "go"
            refine b_max hA.handled h ?_
            clear h; intro _ s h
            exact hJ.go (some _) _ ⟨⟨_, by unfold wonStep; rw [hin, if_neg (by decide)]⟩, _, [], rfl, h⟩
        · clear h
          intro C3 acc3 out3 vals3 s hout3 h s' h
          have hp3 := hout3.map (fun y v => ∃ u, v = .int y u) (fun j => wonStep (wonN (won0 xs) i) i j) (fun i y _ hw => hw) (fun i _ hw => hw)
          have hwon := ints_of hp3
          clear hp3 hout3
          walk_at "go"
          exact ⟨_, h.draw (L' := (it3, _) :: (acc3, _) :: (c3, _) :: (c2, _) :: (c1, _) :: (La, _) :: L) (by walk_at "draw"), acc3, out3, _, _, hwon, rfl⟩
      · clear h hwon
        intro L' s hZ0_ h
        refine byName fun _ kk_ => ?_
        obtain ⟨wA, wv, v3, vk, hwv, rfl⟩ := hZ0_
        refine kk_ ?_
        clear kk_
        try dsimp only
        walk_at "go"
        have hwl : wv.length = 16 := by rw [hwv.length, List.length_map, List.length_range]
        have hitem : ∀ j, j < 16 → ∃ t, wv[j]? = some (.int (wonN (won0 xs) 4 j) t) := fun j hj => IntsAre.at hwv (by simp [hj])
        refine lc_open (clos := [("won", c2)]) he (by kernel_rfl!) rfl (by kernel_rfl!) ?_ (by intro _; rfl)
        walk_at "go"
        refine b_range1 h ?_
        clear h; intro r _ _ s h
        refine iter_r (m := 16) h .head (by decide) rfl (by decide) ?_
        clear h; intro it2 s h
        refine lc_pure (nm' := [(".0", .local), ("s", .local), ("won", .cell)]) ["s"] (fun j o => match o with | some y => (wonN (won0 xs) 4 j == 1) = true ∧ ∃ u, y = .int (j : Int) u | none => (wonN (won0 xs) 4 j == 1) = false)
          (src_r (a := 0) (n := 16) hA.handled) he rfl (by kernel_rfl!) (by decide +kernel) (by kernel_rfl!) (fun _ _ _ _ => trivial) (by decide) h ?_ ?_
        · clear h
          intro C3 acc3 e' j v G out3 vals s E J hJ hvl he hj hv h
          refine byName fun _ kk_ => ?_
          obtain ⟨⟨tj, rfl⟩, rfl⟩ := hv
          obtain ⟨v0, rfl⟩ := ln1 hvl
          refine kk_ ?_
          clear kk_
          simp only [List.cons_append, List.nil_append] at h ⊢
          walk_at "go"
          refine wpAny_tests_one ?_
          obtain ⟨t0, ht0⟩ := hitem j hj
          walk_at "go"
          refine item_l h (by walk_at "mem") (by walk_at "om") (by rw [show (0 + (j : Int)).toNat = j by walk_at "om"]; exact ht0) (by exact o290 hj) ?_ rfl
          walk_at "go"
          cases hw : wonN (won0 xs) 4 j == 1 with
          | false =>
            rw [if_neg (by decide)]
            exact hJ.go none _ ⟨hw, _, [], rfl, h⟩
          | true =>
            rw [if_pos rfl]
            walk_at "go"
            exact ⟨⟨hw, _, by rw [Int.zero_add]⟩, _, [], rfl, h⟩
        · clear h
          intro C3 acc3 out3 vals3 s hout3 h s' h
          have hp3 := hout3.all (fun y v => ∃ u, v = .int y u) (fun j => if (wonN (won0 xs) 4 j == 1) = true then some (j : Int) else none) (fun i y _ hw => ⟨_, by rw [if_pos hw.1], hw.2⟩) (fun i _ hw => by rw [hw]; rfl)
          have hwon := ints_of hp3
          have e : (List.range 16).filterMap (fun j => if (wonN (won0 xs) 4 j == 1) = true then some (j : Int) else none) = (dueOf xs).map Int.ofNat := by
            unfold dueOf
            generalize List.range 16 = l
            induction l with
            | nil => rfl
            | cons a l ih =>
              rw [List.filterMap_cons, List.filter_cons]
              by_cases ha : (wonN (won0 xs) 4 a == 1) = true
              · rw [if_pos ha, if_pos ha, List.map_cons, ← ih]; rfl
              · rw [if_neg ha, if_neg ha, ← ih]
          rw [e] at hwon
          walk_at "go"
          exact k _ _ _ hwon (h.draw (by walk_at "draw"))
end
end Mine
namespace Mine
section
open PySem PySem.W PyProof.Rows PySem.Calls
section
variable {prog : Program} {w : World} {A : Around} {E : Value → Shared → Prop} {b s : Shared} {L L' : Led} {t u v : Tok} {Q : Value → Shared → Prop} {n : Int} {r : Addr}
open Builtin.Range in
theorem rr_meets (r : Addr) (n : Int) (t u v : Tok) (hn : 0 ≤ n) (hn2 : n < 2 ^ 62) :
    Meets (Builtin.«range.__reversed__» ⟨[.ref r], []⟩) (fun _ R s => s.heap.get? r = some { cls := .type "range", dict := none, data := .fields #[.int 0 t, .int n u, .int 1 v], slots := #[] } ∧ R (.ok (.ret (Value.ref s.heap.objs.size))) { s with heap := s.heap.push { cls := .type "range_iterator", data := .fields #[rawInt (n - 1), rawInt n, rawInt (-1)] } }) :=
  .of_wp fun prog w A R s h => by
    refine byName fun _ kk_ => ?_
    obtain ⟨hp, g, d, tk, os⟩ := s
    obtain ⟨hl, h⟩ := h
    refine kk_ ?_
    clear kk_
    have e1 : rangeSize 0 n 1 = n := by rw [rangeSize_one]; split <;> (first | exact o295 | exact o296 hn (by assumption))
    have e2 : (rangeFitsLong 0 && rangeFitsLong n && rangeFitsLong 1 && rangeFitsLong (-1) && rangeFitsLong (0 - 1) && rangeFitsLong n) = true := by
      unfold rangeFitsLong
      simp only [Bool.and_eq_true, decide_eq_true_eq]; walk_at "om"
    have hc0 : ¬ (!(rangeFitsLong 0 && rangeFitsLong n && rangeFitsLong 1 && rangeFitsLong (-1) && rangeFitsLong (0 - 1) && rangeFitsLong (rangeSize 0 n 1))) = true := by rw [e1, e2]; decide
    wp_walk
    rw [e1, e2]
    rw [if_neg (by decide), if_pos rfl, show (0 : Int) + (n - 1) * 1 = n - 1 by exact o297]
    wp_walk
    exact ⟨_, rfl, h⟩
theorem sub_rgi_reversed : isSubtype (.type "range_iterator") (.type "reversed") = pure false := by rw [isSubtype_type]; kernel_rfl
theorem code_rr_new {Q₁ : Value → Shared → Prop} (hr : s.heap.get? r = some (rng 0 n t u v)) (hn : 0 ≤ n) (hn2 : n < 2 ^ 62)
    (h : Q₁ (.ref s.heap.objs.size) { s with heap := s.heap.push { cls := .type "range_iterator", data := .fields #[rawInt (n - 1), rawInt n, rawInt (-1)] } }) :
    codeAny (model prog w) A (.call (.builtin "reversed.__new__") ⟨[.type "reversed", .ref r], []⟩) (wants Q₁ E) s := by
  have hT : s.TypeIs (.ref r) "range" := ⟨_, hr, rfl⟩
  refine codeAny_of_tree ?_
  show wpAny _ A.in1 (do checkBuiltinCall "reversed.__new__" ⟨[.type "reversed", .ref r], []⟩; again (.builtin "reversed.__new__" ⟨[.type "reversed", .ref r], []⟩)) _ _ s
  refine wpAny_bind (wpAny_of_eq (F.newCall_reversed_1 _) (wpAny_pure ⟨plainId_quiet F.plain_reversed_new _, codeAny_builtin F.entry_reversed_new ?_⟩))
  rw [Around.under_plainId F.plain_reversed_new _]
  unfold Builtin.«reversed.__new__»
  refine wpAny_bind (wpAny_of_eq (newClass_reversed _) ?_)
  try dsimp only
  refine wpAny_bind (wpAny_of_eq (a := ()) (by first | rfl | kernel_rfl) ?_)
  refine wpAny_bind (wpAny_of_eq (a := ()) (by first | rfl | kernel_rfl) ?_)
  try dsimp only
  refine wpAny_bind (wpAny_specialOf hT F.slot_range_reversed.lookup ?_)
  try dsimp only
  refine wpAny_bind (wpAny_of_eq (F.slot_range_reversed.bind _) ?_)
  try dsimp only
  first
  | rw [if_neg (show ¬ ((Value.builtin "range.__reversed__" == Value.none) = true) from Bool.false_ne_true)]
  | (show wpAny _ _ (if (Value.builtin "range.__reversed__" == Value.none) = true then _ else _) _ _ _; rw [if_neg (show ¬ ((Value.builtin "range.__reversed__" == Value.none) = true) from Bool.false_ne_true)])
  refine wpAny_bind (wpAny_rule ?_)
  refine wpAny_bind (m := runValue (.call (.builtin "range.__reversed__") ⟨[.ref r], []⟩)) (show wpAny _ _ (call (.builtin "range.__reversed__") [.ref r]) _ _ _ from call_meets F.slot_range_reversed hT F.entry_range_reversed (F.args_range_reversed_1 _) (rr_meets r n t u v hn hn2) ⟨hr, ?_⟩)
  first
  | exact wpAny_pure h
  | exact wpAny_bind (wpAny_pure (wpAny_pure h))
noncomputable abbrev rgb (x left : Int) : Obj := { cls := .type "range_iterator", dict := none, data := .fields #[rawInt x, rawInt left, rawInt (-1)], slots := #[] }
noncomputable abbrev rbn (n i : Nat) : Obj := rgb ((n : Int) - 1 - (i : Int)) ((n : Int) - (i : Int))
theorem b_revr {m : Nat} (h : H b L s) (hm : Has r (.ob (rng 0 n t u v)) L) (hn : n = m) (hn2 : m < 2 ^ 60) (k : ∀ it s', H b ((it, .ob (rbn m 0)) :: L) s' → Q (.ref it) s') : wpAny (model prog w) A (call (.type "reversed") [.ref r]) Q E s := by
  subst hn
  have hr := h.get hm
  refine callType_other (U := "range_iterator") (Q₁ := fun obj s₁ => obj = .ref s.heap.objs.size ∧ s₁ = { s with heap := s.heap.push { cls := .type "range_iterator", data := .fields #[rawInt ((m : Int) - 1), rawInt (m : Int), rawInt (-1)] } }) (by decide +kernel) F.create_reversed ⟨_, _, F.mro_reversed⟩ F.made_reversed sub_rgi_reversed (F.typeCall_reversed_1 _) (code_rr_new hr (by walk_at "om") (by exact o298 hn2) ⟨rfl, rfl⟩) ?_
  rintro obj s₁ ⟨rfl, rfl⟩
  refine ⟨⟨_, Heap.get?_push_size _ rfl, rfl⟩, ?_⟩
  have := k _ _ (h.alloc (rbn m 0))
  simpa [rbn] using this
theorem iter_rr {it : Addr} {x left : Int} (h : H b L s) (hm : Has it (.ob (rgb x left)) L) (k : Q (.ref it) s) : wpAny (model prog w) A (pyIter (.ref it)) Q E s := wpAny_pyIter_rangeiter (h.get hm) k
theorem src_rr {target : Expr} {it : Addr} {n : Nat} (hh : A.handled = none) : Src A b target it n (fun i v G => (∃ t, v = .int ((n : Int) - 1 - i) t) ∧ G = []) (fun i => [(it, .ob (rbn n i))]) (fun _ => True) where
  self := fun h k => wpAny_pyIter_rangeiter (H.get h .head) k
  next := fun {prog w E Q s L} i hi h _ k => by
    have ho : IsRangeIter s.heap it ((n : Int) - 1 - i) (n - i) (-1) := H.get h .head
    refine wpAny_pyNext_range_item ho (by exact o34 hi) fun h' hit hs => k _ [] _ ⟨⟨_, rfl⟩, rfl⟩ fun E Q hq => ?_
    refine own_skip hit rfl (by decide +kernel) (hq _ ?_)
    have e1 : (n : Int) - 1 - i + -1 = (n : Int) - 1 - ((i + 1 : Nat) : Int) := by exact o299
    have e2 : (n : Int) - i - 1 = n - ((i + 1 : Nat) : Int) := by exact o36
    rw [e1, e2] at hit
    exact H.set0 h hs.extBut (fun _ => hit)
  stop := fun {prog w E Q s L} h _ k => by
    have ho : IsRangeIter s.heap it ((n : Int) - 1 - n) (n - n) (-1) := H.get h .head
    exact wpAny_pyNext_range_end hh ho (by exact o37) fun h' hs => k _ (H.drop (t := s.toks) h hs)
end
end
end Mine
namespace Mine
section
open PySem PySem.W PyProof.Rows PySem.Calls
variable {prog : Program} {w : World} {A : Around} {b s : Shared} {L M : Led} {f : Addr} {fd : FuncData} {R : Result → Shared → Prop} {t u tn : Tok}
noncomputable abbrev zat (k : Nat) (xs : List Int) : Int := xs.getD k 0
noncomputable def zsub (q : Int) (F S : List Int) : List Int := List.zipWith (fun x y => x - q * y) F S
noncomputable abbrev qOf (k : Nat) (F S : List Int) : Int := (zat k F).fdiv (zat k S)
noncomputable def Slim (xs : List Int) : Prop := ∀ x ∈ xs, Builtin.Int.intBits x ≤ 33554432
inductive EuR (k : Nat) : List Int → List Int → List Int → List Int → Prop
  | stop {F S : List Int} : zat k S = 0 → EuR k F S F S
  | step {F S F' S' : List Int} : zat k S ≠ 0 → (zat k F).natAbs < 2 ^ 299 → (zat k S).natAbs < 2 ^ 299 → Slim S → EuR k S (zsub (qOf k F S) F S) F' S' → EuR k F S F' S'
inductive FoldR (k : Nat) : List Int → List (List Int) → List Int → List (List Int) → Prop
  | nil {F : List Int} : FoldR k F [] F []
  | cons {F l F' S' F'' : List Int} {ls news : List (List Int)} : EuR k F l F' S' → FoldR k F' ls F'' news → FoldR k F (l :: ls) F'' (S' :: news)
inductive StairsR (n : Nat) : Nat → List (List Int) → List (List Int) → Prop
  | done {rows : List (List Int)} : StairsR n n rows []
  | go {k : Nat} {rows init news out : List (List Int)} {first F' : List Int} : k < n → rows.filter (fun l => zat k l != 0) = init ++ [first] → FoldR k first init F' news → StairsR n (k + 1) (rows.filter (fun l => zat k l == 0) ++ news) out → StairsR n k rows (F' :: out)
theorem zsub_len {q : Int} {F S : List Int} {m : Nat} (h1 : F.length = m) (h2 : S.length = m) : (zsub q F S).length = m := by unfold zsub; rw [List.length_zipWith, h1, h2, Nat.min_self]
theorem EuR.len {k m : Nat} {F S F' S' : List Int} (h : EuR k F S F' S') (h1 : F.length = m) (h2 : S.length = m) : F'.length = m ∧ S'.length = m := by
  induction h with
  | stop => exact ⟨h1, h2⟩
  | step _ _ _ _ _ ih => exact ih h2 (zsub_len h1 h2)
theorem zat_at {k : Nat} {xs : List Int} (h : k < xs.length) : xs[k]? = some (zat k xs) := by
  unfold zat; rw [List.getD_eq_getElem?_getD, List.getElem?_eq_getElem h]; rfl
theorem zat_get {k : Nat} {xs : List Int} (h : k < xs.length) : zat k xs = xs[k] := Option.some.inj ((zat_at h).symm.trans (List.getElem?_eq_getElem h))
theorem zat_sub {k m : Nat} {F S : List Int} {q : Int} (h1 : F.length = m) (h2 : S.length = m) (hk : k < m) : zat k (zsub q F S) = zat k F - q * zat k S := by
  unfold zat zsub
  simp only [List.getD_eq_getElem?_getD, List.getElem?_zipWith]
  rw [List.getElem?_eq_getElem (by walk_at "om"), List.getElem?_eq_getElem (by walk_at "om")]
  rfl
theorem less_sub {k m : Nat} {F S : List Int} (h1 : F.length = m) (h2 : S.length = m) (hk : k < m) (h0 : zat k S ≠ 0) : (zat k (zsub (qOf k F S) F S)).natAbs < (zat k S).natAbs := by
  rw [zat_sub h1 h2 hk]
  have e : zat k F - qOf k F S * zat k S = (zat k F).fmod (zat k S) := by
    rw [Int.fmod_def, Int.mul_comm]
  rw [e]
  by_cases hp : 0 < zat k S
  · have := Int.fmod_nonneg_of_pos (zat k F) hp
    have := Int.fmod_lt_of_pos (zat k F) hp
    exact o300 (by assumption) this
  · have hn : zat k S < 0 := by exact o301 h0 hp
    have e2 : (zat k F).fmod (zat k S) = -((-zat k F).fmod (-zat k S)) := by rw [Int.neg_fmod_neg]; exact o302
    rw [e2]
    have hp : 0 < -zat k S := by exact o303 hn
    have := Int.fmod_nonneg_of_pos (-zat k F) hp
    have := Int.fmod_lt_of_pos (-zat k F) hp
    exact o304 (by assumption) this
noncomputable def nmST : List (Str × NameKind) := (stScope (nth pb 25)).names
noncomputable abbrev lST : List Str := ["rows", "stairs", "line", "busy", "first", "second"]
noncomputable abbrev stFor : Stmt := nth (stBody (nth pb 25)) 1
noncomputable abbrev stIn : Stmt := nth (forBody stFor) 4
noncomputable abbrev stWh : Stmt := nth (forBody stIn) 1
structure Str2 (b : Shared) : Prop where
  ari : Ari b
  range : Blt b "range" (.type "range")
  len : Blt b "len" (.builtin "len")
  zip : Blt b "zip" (.type "zip")
theorem item_t {E : Value → Shared → Prop} {Q : Value → Shared → Prop} {T : Addr} {vs : List Value} {value slice : Expr} {v : Value} {x : Int} (h : H b L s) (hm : Has T (.ob (tup vs)) L) (h0 : 0 ≤ x) (hx : vs[x.toNat]? = some v) (hf : x < 2 ^ 60) (kk : Q v s)
    (hs : subscripted slice false (.ref T) (.int x t) = operate [.ref T, .int x t] (getItem (.ref T) (.int x t))) : wpAny (model prog w) A (subscriptTail value slice (.ref T) (.int x t)) Q E s := by
  have hlt : x.toNat < vs.length := (List.getElem?_eq_some_iff.mp hx).1
  refine item_tupleT (l := vs) (j := x.toNat) ⟨_, h.get hm, rfl, 0, rfl⟩ (by exact o305 h0) (by exact o15 hf) ?_ hx kk hs
  unfold seqIndex?
  simp only [show ¬ x < 0 by exact o61 h0, if_false]
  rw [if_pos (by simp; exact o306 hlt h0)]
theorem Has.mid {a : Addr} {r : Res} {N P0 M : Led} (h : Has a r (N ++ M)) : Has a r (N ++ (P0 ++ M)) := by
  induction N with
  | nil => exact h.right
  | cons p N ih => cases h with
    | head => exact .head
    | tail h => exact .tail (ih h)
theorem while_c {P0 : Led} {P P' : Addr} {q q' : Str} {e : Env} {La cq ck fA sA : Addr} {v1 v2 v3 v4 vq : Option Value} {fv sv : List Value} {F S F' S' : List Int} {k m : Nat} {tk : Tok} {E : Value → Shared → Prop} {Q : Flow → Shared → Prop}
    (Y : Str2 b) (I6 : InnerOf 6 inT "_int2digits" b P q) (I7 : InnerOf 7 inS "_digits2int" b P' q') (D9 : Def b "int_divmod" 9 f fd) (hA : Room A 340) (he : Ev e La nmST [("q", cq), ("k", ck)])
    (h : H b ((La, .fr lST [v1, v2, v3, v4, some (.ref fA), some (.ref sA)]) :: (cq, .cl vq) :: (ck, .cl (some (.int (0 + (k : Int)) tk))) :: (P0 ++ M)) s)
    (hf : Has fA (.ls fv) M) (hs : Has sA (.ls sv) M) (hfi : IntsAre fv F) (hsi : IntsAre sv S) (hP : Has P (.tb (stPos inT) q) M) (hP' : Has P' (.tb (stPos inS) q') M) (hE : EuR k F S F' S') (hF : F.length = m) (hS : S.length = m) (hk : k < m) (hm : m < 1000)
    (kk : ∀ (fA' sA' : Addr) (fv' sv' : List Value) (vq' : Option Value) (N : Led) (s' : Shared), Has fA' (.ls fv') (N ++ M) → Has sA' (.ls sv') (N ++ M) → IntsAre fv' F' → IntsAre sv' S' →
      H b ((La, .fr lST [v1, v2, v3, v4, some (.ref fA'), some (.ref sA')]) :: (cq, .cl vq') :: (ck, .cl (some (.int (0 + (k : Int)) tk))) :: (N ++ (P0 ++ M))) s' → Q .next s') :
    wpAny (model prog w) A (exec stWh e) Q E s := by
  have g9 := D9.glb
  have F9 := D9.fn
  have hzip := Y.zip
  refine wpAny_While ?_
  refine codeAny_whileLoop (fun n s => ∃ (fA sA : Addr) (fv sv : List Value) (F S : List Int) (vq : Option Value) (N : Led), Has fA (.ls fv) (N ++ M) ∧ Has sA (.ls sv) (N ++ M) ∧ IntsAre fv F ∧ IntsAre sv S ∧ EuR k F S F' S' ∧ F.length = m ∧ S.length = m ∧ n = (zat k S).natAbs ∧
      H b ((La, .fr lST [v1, v2, v3, v4, some (.ref fA), some (.ref sA)]) :: (cq, .cl vq) :: (ck, .cl (some (.int (0 + (k : Int)) tk))) :: (N ++ (P0 ++ M))) s) ?_ _
    ⟨fA, sA, fv, sv, F, S, vq, [], hf, hs, hfi, hsi, hE, hF, hS, rfl, h⟩
  clear hE hF hS hf hs hfi hsi h F S fA sA fv sv vq
  rintro n s ⟨fA, sA, fv, sv, F, S, vq, N, hf, hs, hfi, hsi, hE, hF, hS, rfl, h⟩
  refine byName fun _ kk_ => ?_
  obtain ⟨tf, hfk⟩ := IntsAre.at hfi (zat_at (k := k) (by walk_at "om"))
  obtain ⟨ts, hsk⟩ := IntsAre.at hsi (zat_at (k := k) (by walk_at "om"))
  refine kk_ ?_
  clear kk_
  have ek : (0 + (k : Int)).toNat = k := by walk_at "om"
  have hfX : Has fA (.ls fv) (N ++ (P0 ++ M)) := Has.mid hf
  have hsX : Has sA (.ls sv) (N ++ (P0 ++ M)) := Has.mid hs
  walk_at "go"
  refine item_l h (by walk_at "mem") (by walk_at "om") (by rw [ek]; exact hsk) (by exact o307 hm hk) ?_ rfl
  walk_at "go"
  cases hE with
  | stop h0 =>
    rw [if_neg (by rw [h0]; decide)]
    walk_at "go"
    exact kk _ _ _ _ _ N _ hf hs hfi hsi h
  | step h0 hbF hbS hsl hE =>
    rw [if_pos (by simpa using h0)]
    walk_at "go"
    walk_at "cwa"
    refine item_l h (by walk_at "mem") (by walk_at "om") (by rw [ek]; exact hfk) (by exact o307 hm hk) ?_ rfl
    walk_at "go"
    refine item_l h (by walk_at "mem") (by walk_at "om") (by rw [ek]; exact hsk) (by exact o307 hm hk) ?_ rfl
    walk_at "cwz"
    refine dvm Y.ari I6 I7 D9 _ A _ _ (zat k F) (zat k S) _ _ _ rfl (hA.less ?_) h (.tail (.tail (.tail (Has.right (Has.right hP))))) (.tail (.tail (.tail (Has.right (Has.right hP'))))) hbF h0 hbS ?_
    · split
      · split <;> walk_at "om"
      · split <;> walk_at "om"
    clear h
    intro dT td1 td2 s h
    try dsimp only
    walk_at "go"
    refine item_t h (by walk_at "mem") (by decide) rfl (by decide) ?_ rfl
    walk_at "go"
    refine lc_open (clos := [("q", cq)]) he (by kernel_rfl!) rfl (by kernel_rfl!) ?_ (by intro _; rfl)
    walk_at "go"
    have hf1 : Has fA (.ls fv) ((dT, .ob (tup [.int ((zat k F).fdiv (zat k S)) td1, .int ((zat k F).fmod (zat k S)) td2])) :: (La, .fr lST [v1, v2, v3, v4, some (.ref fA), some (.ref sA)]) :: (cq, .cl (some (.int ((zat k F).fdiv (zat k S)) td1))) :: (ck, .cl (some (.int (0 + (k : Int)) tk))) :: (N ++ (P0 ++ M))) := by walk_at "mem"
    have hs1 : Has sA (.ls sv) ((dT, .ob (tup [.int ((zat k F).fdiv (zat k S)) td1, .int ((zat k F).fmod (zat k S)) td2])) :: (La, .fr lST [v1, v2, v3, v4, some (.ref fA), some (.ref sA)]) :: (cq, .cl (some (.int ((zat k F).fdiv (zat k S)) td1))) :: (ck, .cl (some (.int (0 + (k : Int)) tk))) :: (N ++ (P0 ++ M))) := by walk_at "mem"
    refine b_zip h hf1 hs1 ?_
    clear h; intro z TI TO i1 i2 s h
    refine iter_z h .head ?_
    have hfl : fv.length = m := by rw [hfi.length, hF]
    have hsl' : sv.length = m := by rw [hsi.length, hS]
    have hqb : Builtin.Int.intBits ((zat k F).fdiv (zat k S)) ≤ 33554432 := Nat.le_trans (intBits_le (Nat.lt_of_le_of_lt (Int.natAbs_fdiv_le_natAbs _ _) hbF)) (by decide)
    refine lc_pure (nm' := [(".0", .local), ("x", .local), ("y", .local), ("q", .cell)]) ["x", "y"] (fun j o => match o with | some y => ∃ u, y = .int (zat j F - (zat k F).fdiv (zat k S) * zat j S) u | none => False)
      (src_z (xs := fv) (ys := sv) (n := m) hA.handled (by rw [hfl, hsl', Nat.min_self])) he rfl (by kernel_rfl!) (by decide +kernel) (by kernel_rfl!) (fun _ _ _ _ => ⟨.tail (.tail hf1), .tail (.tail hs1)⟩) (by exact o308 hm) h ?_ ?_
    · clear h
      intro C3 acc3 e' j v G out3 vals s E J hJ hvl he hj hv h
      refine byName fun _ kk_ => ?_
      obtain ⟨T, x, y, rfl, hx, hy, rfl⟩ := hv
      obtain ⟨v0, w0, rfl⟩ := ln2 hvl
      obtain ⟨tx, hx'⟩ := IntsAre.at hfi (zat_at (k := j) (by walk_at "om"))
      obtain ⟨ty, hy'⟩ := IntsAre.at hsi (zat_at (k := j) (by walk_at "om"))
      refine kk_ ?_
      clear kk_
      obtain rfl : x = _ := Option.some.inj (hx.symm.trans hx')
      obtain rfl : y = _ := Option.some.inj (hy.symm.trans hy')
      simp only [zX, List.cons_append, List.nil_append] at h ⊢
      walk_at "go"
      refine wpAny_tests_nil ?_
      rw [if_pos rfl]
      walk_at "go"
      refine o_mul h ?_ hqb (hsl _ (List.mem_of_getElem? (zat_at (by walk_at "om")))) 
      clear h; intro _ s h
      walk_at "go"
      exact ⟨⟨_, rfl⟩, _, [(T, _)], rfl, h⟩
    · clear h
      intro C3 acc3 out3 vals3 s hout3 h s' h
      have hp3 := hout3.map (fun y v => ∃ u, v = .int y u) (fun j => zat j F - (zat k F).fdiv (zat k S) * zat j S) (fun i y _ hw => hw) (fun i _ hw => hw)
      have hnew := ints_of hp3
      clear hp3 hout3
      have e1 : (List.range m).map (fun j => zat j F - (zat k F).fdiv (zat k S) * zat j S) = zsub (qOf k F S) F S := by
        apply List.ext_getElem
        · rw [List.length_map, List.length_range, zsub_len hF hS]
        · intro j h1 h2
          have hj : j < m := by simpa using h1
          rw [List.getElem_map, List.getElem_range, ← zat_get h2, zat_sub hF hS hj]
      rw [e1] at hnew
      walk_at "go"
      have h2 := h.draw (L' := (La, _) :: (cq, _) :: (ck, _) :: (acc3, _) :: (N ++ (P0 ++ M))) (by walk_at "draw")
      refine ⟨_, ?_, sA, acc3, sv, out3, S, zsub (qOf k F S) F S, _, (acc3, .ls out3) :: N, .tail hs, .head, hsi, hnew, hE, hS, zsub_len hF hS, rfl, h2⟩
      exact less_sub hF hS hk h0
theorem swaps_loc {e : Env} {La : Addr} {nm : List (Str × NameKind)} {cl : List (Str × Addr)} {y : Str} {py pos : Pos} {elt : Expr} {gens : List Comprehension} {sc : Scope} {line : Nat} (he : Ev e La nm cl) (hy : (nm.lookup y == some .local) = true) (hp : (py.line == pos.line) = true)
    (hs : (!(sc.names.any fun (n, k) => n == y && (k == .local || k == .cell))) = true) : swapsWith (.ListComp elt gens sc pos) (some (.Name y py)) line e = pure true := by
  show pure (e.blockKind == .function && e.kindOf y == some .local && py.line == pos.line && !(sc.names.any fun (n, k) => n == y && (k == .local || k == .cell))) = pure true
  have hb : (e.blockKind == .function) = true := by unfold Env.blockKind; rw [he.kind]; rfl
  unfold Env.kindOf
  rw [he.names, hy, hp, hs, hb]; rfl
theorem H.slide {x y z : Addr × Res} {N P R : Led} (h : H b (x :: y :: z :: (N ++ (P ++ R))) s) : H b (x :: y :: z :: (P ++ (N ++ R))) s := by
  refine h.perm ((((?_ : List.Perm _ _).cons _).cons _).cons _)
  rw [← List.append_assoc, ← List.append_assoc]
  exact List.perm_append_comm.append_right R
theorem filt_len (i : Nat) (rs : List (List Int)) : rs.length = (rs.filter (fun l => zat i l == 0)).length + (rs.filter (fun l => zat i l != 0)).length := by
  induction rs with
  | nil => rfl
  | cons a l ih =>
    rw [List.filter_cons, List.filter_cons, List.length_cons]
    cases ha : zat i a == 0
    · have hb : (zat i a != 0) = true := by unfold bne; rw [ha]; rfl
      rw [if_neg (by decide), if_pos hb, List.length_cons]; exact o309 ih
    · have hb : (zat i a != 0) = false := by unfold bne; rw [ha]; rfl
      rw [if_pos rfl, if_neg (by rw [hb]; decide), List.length_cons]; exact o310 ih
theorem filt_range (p : List Int → Bool) (rs : List (List Int)) : (List.range rs.length).filterMap (fun j => if p (rs.getD j []) = true then some (rs.getD j []) else none) = rs.filter p := by
  have h : ∀ l : List (List Int), l.filterMap (fun x => if p x = true then some x else none) = l.filter p := by
    intro l
    induction l with
    | nil => rfl
    | cons a l ih =>
      rw [List.filterMap_cons, List.filter_cons]
      by_cases ha : p a = true
      · rw [if_pos ha, if_pos ha, ← ih]
      · rw [if_neg ha, if_neg ha, ← ih]
  rw [← h rs]
  have e : rs = (List.range rs.length).map (fun j => rs.getD j []) := by
    apply List.ext_getElem
    · simp
    · intro i h1 h2; simp [List.getD_eq_getElem?_getD, List.getElem?_eq_getElem h1]
  conv => rhs; rw [e]
  rw [List.filterMap_map]; rfl
noncomputable def Lines (M : Led) (m : Nat) (vs : List Value) (xss : List (List Int)) : Prop := Paired (fun (xs : List Int) v => ∃ a us, v = .ref a ∧ Has a (.ls us) M ∧ IntsAre us xs ∧ xs.length = m) xss vs
theorem Paired.len' {α : Type} {R : α → Value → Prop} {xs : List α} {vs : List Value} (h : Paired R xs vs) : vs.length = xs.length := by
  induction h with
  | nil => rfl
  | cons _ _ ih => simp [ih]
theorem Paired.imp' {α : Type} {R R' : α → Value → Prop} (hi : ∀ a v, R a v → R' a v) {xs : List α} {vs : List Value} (h : Paired R xs vs) : Paired R' xs vs := by
  induction h with
  | nil => exact .nil
  | cons h _ ih => exact .cons (hi _ _ h) ih
theorem Lines.more {M N : Led} {m : Nat} {vs : List Value} {xss : List (List Int)} (h : Lines M m vs xss) : Lines (N ++ M) m vs xss := Paired.imp' (fun _ _ ⟨a, us, e, x, y⟩ => ⟨a, us, e, x.right, y⟩) h
theorem Paired.get' {α : Type} {R : α → Value → Prop} {xs : List α} {vs : List Value} (h : Paired R xs vs) : ∀ {i : Nat} (h1 : i < xs.length) (h2 : i < vs.length), R xs[i] vs[i] := by
  induction h with
  | nil => intro i h1; simp at h1
  | cons h _ ih => intro i h1 h2; cases i with
    | zero => exact h
    | succ i => exact ih (by simpa using h1) (by simpa using h2)
theorem Paired.snoc_inv {α : Type} {R : α → Value → Prop} : ∀ {xs : List α} {x : α} {vs : List Value}, Paired R (xs ++ [x]) vs → ∃ vs' v, vs = vs' ++ [v] ∧ Paired R xs vs' ∧ R x v := by
  intro xs
  induction xs with
  | nil =>
    intro x vs h
    cases h with
    | cons h r => cases r; exact ⟨[], _, rfl, .nil, h⟩
  | cons y xs ih =>
    intro x vs h
    cases h with
    | cons h r =>
      obtain ⟨vs', v, rfl, h1, h2⟩ := ih r
      exact ⟨_ :: vs', v, rfl, .cons h h1, h2⟩
theorem stairs_c {P P' : Addr} {q q' : Str} {f9 : Addr} {fd9 : FuncData} {rA : Addr} {rv : List Value} {rows out : List (List Int)} {m : Nat}
    (Y : Str2 b) (I6 : InnerOf 6 inT "_int2digits" b P q) (I7 : InnerOf 7 inS "_digits2int" b P' q') (D9 : Def b "int_divmod" 9 f9 fd9) (D : Def b "_law_stairs" 25 f fd) (hA : Room A 350) (h : H b ((rA, .ls rv) :: L) s)
    (hr : Lines L m rv rows) (hP : Has P (.tb (stPos inT) q) L) (hP' : Has P' (.tb (stPos inS) q') L) (hn : rows.length < m) (hm : m ≤ 20) (hS : StairsR rows.length 0 rows out)
    (k : ∀ (a : Addr) (ov : List Value) (N : Led) (s' : Shared), Lines (N ++ L) m ov out → H b ((a, .ls ov) :: (N ++ L)) s' → R (.ok (.ret (.ref a))) s') :
    codeAny (model prog w) A (.call (.ref f) ⟨[.ref rA], []⟩) R s := by
  have hrange := Y.range
  have hlen := Y.len
  refine enterC (d := 349) (nm := nmST) (names := lST) (vals := [some (.ref rA), none, none, none, none, none]) (cn := ["q", "k"]) (cvals := [none, none]) (binds := [("rows", .ref rA)]) D.fn hA h
    (bind_of D.fn.params D.d1 D.d2 (t := fun _ => pure _) (fun q => by kernel_rfl)) rfl (by kernel_rfl) (by kernel_rfl) (by decide +kernel) rfl (by kernel_rfl) (by decide +kernel) rfl rfl rfl ?_
  clear h
  intro La s e A' E' ca hca he hcode hqual hA h
  refine byName fun _ kk_ => ?_
  obtain ⟨cq, ck, rfl⟩ := ln2 hca
  refine kk_ ?_
  clear kk_
  simp only [List.zip_cons_cons, List.zip_nil_right, List.map_cons, List.map_nil, List.cons_append, List.nil_append] at he h
  replace he := he
  refine st_hide ?_
  intro _ _
  have hrl : rv.length = rows.length := Paired.len' hr
  have hrz : rv.length < 2 ^ 60 := by exact o311 hn hrl hm
  walk_at "go"
  refine b_range1 h ?_
  clear h; intro r _ _ s h
  rw [hrl] at h
  refine iter_r (m := rows.length) h .head (by decide) (by exact o256) (by exact o312 hrz hrl) ?_
  clear h; intro it s h
  rename_i sA _ _ _ _ _ _ _ _ _
  have h2 := h.draw (L' := (it, _) :: (sA, _) :: (cq, _) :: (ck, _) :: (La, _) :: (rA, _) :: L) (by walk_at "draw")
  clear h; have h := h2; clear h2
  refine loop (src_r (a := 0) (n := rows.length) hA.handled) (fun i L' => Ex13 fun (rA : Addr) (rv ov : List Value) (rs odone orest : List (List Int)) (vq vk v3 v4 v5 v6 : Option Value) (N : Led) => Cj7 (StairsR rows.length i rs orest) (odone ++ orest = out) (Lines (N ++ L) m rv rs) (Lines (N ++ L) m ov odone) (rs.length ≤ rows.length) (odone.length ≤ i) (L' = (sA, .ls ov) :: (cq, .cl vq) :: (ck, .cl vk) :: (La, .fr lST [some (.ref rA), some (.ref sA), v3, v4, v5, v6]) :: (rA, .ls rv) :: (N ++ L))) ?_ h ?_ ?_ ?_
  · intros; trivial
  · exact ⟨rA, rv, [], rows, [], out, _, _, _, _, _, _, [], hS, rfl, hr, .nil, Nat.le_refl _, Nat.le_refl _, rfl⟩
  · clear h hr hrl hrz hS rv rA
    intro i v G L' s E J hJ hi hZ0_ hZ1_ h
    refine byName fun _ kk_ => ?_
    obtain ⟨rA, rv, ov, rs, odone, orest, vq, vk, v3, v4, v5, v6, N, hS, ho, hr, hov, hrs, hod, rfl⟩ := hZ1_
    obtain ⟨⟨tk, rfl⟩, rfl⟩ := hZ0_
    refine kk_ ?_
    clear kk_
    simp only [List.cons_append, List.nil_append] at h ⊢
    cases hS with
    | done => exact (o313 hi).elim
    | @go _ _ init news out' first F' hin hbusy hfold hS =>
    have hrl : rv.length = rs.length := Paired.len' hr
    have hlines : ∀ j (h1 : j < rs.length), ∃ a us t, rv[j]? = some (.ref a) ∧ Has a (.ls us) (N ++ L) ∧ us[i]? = some (.int (zat i rs[j]) t) := fun j h1 => by
      obtain ⟨a, us, e, x, y, z⟩ := Paired.get' hr h1 (by walk_at "om")
      obtain ⟨t, ht⟩ := IntsAre.at y (zat_at (k := i) (by exact o314 hin hn z))
      exact ⟨a, us, t, by rw [List.getElem?_eq_getElem (by walk_at "om"), e], x, ht⟩
    have ek : (0 + (i : Int)).toNat = i := by walk_at "om"
    walk_at "go"
    refine lc_use (clos := [("k", ck)]) he (by kernel_rfl!) rfl (by kernel_rfl!) (swaps_loc he (by kernel_rfl) rfl (by kernel_rfl)) ?_ (by intro _; rfl)
    walk_at "go"
    refine iter_l h (by walk_at "mem") ?_
    clear h; intro it1 s h
    refine lc_pure (nm' := [(".0", .local), ("line", .local), ("k", .cell)]) ["line"] (fun j o => match o with | some y => (zat i (rs.getD j []) != 0) = true ∧ rv[j]? = some y | none => (zat i (rs.getD j []) != 0) = false)
      (src_l (vs := rv) hA.handled) he rfl (by kernel_rfl!) (by decide +kernel) (by kernel_rfl!) (fun _ _ _ _ => by walk_at "mem") (by exact o315 hn hrl hm hrs) h ?_ ?_
    · clear h
      intro C3 acc3 e' j v G out3 vals s E J hJ hvl he hj hv h
      refine byName fun _ kk_ => ?_
      obtain ⟨hv, rfl⟩ := hv
      obtain ⟨v0, rfl⟩ := ln1 hvl
      obtain ⟨a, us, t, hv', hhas, hat⟩ := hlines j (by walk_at "om")
      refine kk_ ?_
      clear kk_
      obtain rfl : v = _ := Option.some.inj (hv.symm.trans hv')
      simp only [List.cons_append, List.nil_append] at h ⊢
      walk_at "go"
      refine wpAny_tests_one ?_
      walk_at "go"
      refine item_l h (by walk_at "tb") (by walk_at "om") (by rw [ek]; exact hat) (by exact o316 hin hn hm) ?_ rfl
      walk_at "go"
      have hg : rs.getD j [] = rs[j] := by rw [List.getD_eq_getElem?_getD, List.getElem?_eq_getElem (by walk_at "om")]; rfl
      rw [← hg]
      cases hz : (zat i (rs.getD j []) != 0) with
      | false =>
        rw [if_neg (by decide)]
        exact hJ.go none _ ⟨hz, _, [], rfl, h⟩
      | true =>
        rw [if_pos rfl]
        walk_at "go"
        exact ⟨⟨hz, hv'⟩, _, [], rfl, h⟩
    · clear h
      intro C3 acc3 out3 vals3 s hout3 h
      have hline' : ∀ j y, j < rv.length → rv[j]? = some y → ∃ a us, y = .ref a ∧ Has a (.ls us) (N ++ L) ∧ IntsAre us (rs.getD j []) ∧ (rs.getD j []).length = m := fun j y hj hy => by
        have hg : rs.getD j [] = rs[j] := by rw [List.getD_eq_getElem?_getD, List.getElem?_eq_getElem (by walk_at "om")]; rfl
        rw [hg]
        have := Paired.get' hr (i := j) (by walk_at "om") hj
        rw [List.getElem?_eq_getElem hj] at hy
        rwa [Option.some.inj hy] at this
      have hb := hout3.all (fun (xs : List Int) y => ∃ a us, y = .ref a ∧ Has a (.ls us) (N ++ L) ∧ IntsAre us xs ∧ xs.length = m) (fun j => if (zat i (rs.getD j []) != 0) = true then some (rs.getD j []) else none) (fun j y hj hw => ⟨_, by rw [if_pos hw.1], hline' j y hj hw.2⟩) (fun j _ hw => by rw [hw]; rfl)
      rw [hrl, filt_range (fun l => zat i l != 0), hbusy] at hb
      replace hb := hb
      show wpAny _ _ (assign _ _ _) _ _ _
      walk_at "go"
      refine ⟨_, _, h, fun s h => ?_⟩
      clear hout3
      try dsimp only
      walk_at "go"
      refine lc_use (clos := [("k", ck)]) he (by kernel_rfl!) rfl (by kernel_rfl!) (swaps_loc he (by kernel_rfl) rfl (by kernel_rfl)) ?_ (by intro _; rfl)
      walk_at "go"
      refine iter_l h (by walk_at "mem") ?_
      clear h; intro it2 s h
      refine lc_pure (nm' := [(".0", .local), ("line", .local), ("k", .cell)]) ["line"] (fun j o => match o with | some y => (zat i (rs.getD j []) == 0) = true ∧ rv[j]? = some y | none => (zat i (rs.getD j []) == 0) = false)
        (src_l (vs := rv) hA.handled) he rfl (by kernel_rfl!) (by decide +kernel) (by kernel_rfl!) (fun _ _ _ _ => by walk_at "mem") (by exact o315 hn hrl hm hrs) h ?_ ?_
      · clear h
        intro C4 acc4 e' j v G out4 vals s E J hJ hvl he hj hv h
        refine byName fun _ kk_ => ?_
        obtain ⟨hv, rfl⟩ := hv
        obtain ⟨v0, rfl⟩ := ln1 hvl
        obtain ⟨a, us, t, hv', hhas, hat⟩ := hlines j (by walk_at "om")
        refine kk_ ?_
        clear kk_
        obtain rfl : v = _ := Option.some.inj (hv.symm.trans hv')
        simp only [List.cons_append, List.nil_append] at h ⊢
        walk_at "go"
        refine wpAny_tests_one ?_
        walk_at "go"
        refine item_l h (by walk_at "tb") (by walk_at "om") (by rw [ek]; exact hat) (by exact o316 hin hn hm) ?_ rfl
        walk_at "go"
        have hg : rs.getD j [] = rs[j] := by rw [List.getD_eq_getElem?_getD, List.getElem?_eq_getElem (by walk_at "om")]; rfl
        rw [← hg]
        cases hz : (zat i (rs.getD j []) == 0) with
        | false =>
          rw [if_neg (by decide)]
          exact hJ.go none _ ⟨hz, _, [], rfl, h⟩
        | true =>
          rw [if_pos rfl]
          walk_at "go"
          exact ⟨⟨hz, hv'⟩, _, [], rfl, h⟩
      · clear h
        intro C4 acc4 out4 vals4 s hout4 h
        have hb4 := hout4.all (fun (xs : List Int) y => ∃ a us, y = .ref a ∧ Has a (.ls us) (N ++ L) ∧ IntsAre us xs ∧ xs.length = m) (fun j => if (zat i (rs.getD j []) == 0) = true then some (rs.getD j []) else none) (fun j y hj hw => ⟨_, by rw [if_pos hw.1], hline' j y hj hw.2⟩) (fun j _ hw => by rw [hw]; rfl)
        rw [hrl, filt_range (fun l => zat i l == 0)] at hb4
        replace hb4 := hb4
        show wpAny _ _ (assign _ _ _) _ _ _
        walk_at "go"
        refine ⟨_, _, h, fun s h => ?_⟩
        clear hout4
        try dsimp only
        walk_at "go"
        refine eq_nil (by have := hA.units; exact o317 this) h (by walk_at "mem") (by walk_at "mem") ?_
        refine byName fun _ kk_ => ?_
        obtain ⟨bi, vf, rfl, hbi, af, uf, rfl, hfh, hfi, hfl⟩ := Paired.snoc_inv hb
        refine kk_ ?_
        clear kk_
        have hie : (bi ++ [Value.ref af]).isEmpty = false := by cases bi <;> rfl
        rw [hie]
        walk_at "go"
        rw [if_neg (by decide)]
        walk_at "go"
        walk_at "gm"
        have hbl : (bi ++ [Value.ref af]).length = (init ++ [first]).length := by
          have := Paired.len' hbi; simp [this]
        have hil : init.length + 1 ≤ rs.length := by
          have := List.length_filter_le (fun l => zat i l != 0) rs
          rw [hbusy] at this; simpa using this
        have hbil : bi.length = init.length := Paired.len' hbi
        refine l_pop h (by walk_at "upd") (by exact o318 hil hn hbil hm hrs) ?_
        clear h; intro s h
        try dsimp only
        walk_at "go"
        refine iter_l h (by walk_at "mem") ?_
        clear h; intro it3 s h
        have h2 := h.draw (L' := (it3, _) :: (acc4, _) :: (acc3, _) :: (it, _) :: (sA, _) :: (cq, _) :: (ck, _) :: (La, _) :: (N ++ L)) (by walk_at "draw")
        clear h; have h := h2; clear h2
        refine loop (src_l (vs := bi) hA.handled) (fun j L' => Ex10 fun (fA : Addr) (fv rv' : List Value) (Fj : List Int) (done rest : List (List Int)) (vq v3 v6 : Option Value) (N' : Led) => Cj10 (FoldR i Fj (init.drop j) F' rest) (done ++ rest = news) (done.length = j) (Has fA (.ls fv) (N' ++ L)) (IntsAre fv Fj) (Fj.length = m) (Lines (N' ++ L) m rv' (rs.filter (fun l => zat i l == 0) ++ done)) (Lines (N' ++ L) m ov odone) (Lines (N' ++ L) m bi init) (L' = (acc4, .ls rv') :: (acc3, .ls bi) :: (it, .ob (rgn 0 rows.length (i + 1))) :: (sA, .ls ov) :: (cq, .cl vq) :: (ck, .cl (some (.int (0 + (i : Int)) tk))) ::
            (La, .fr lST [some (.ref acc4), some (.ref sA), v3, some (.ref acc3), some (.ref fA), v6]) :: (N' ++ L))) ?_ h ?_ ?_ ?_
        · rintro j L' ⟨fA, fv, rv', Fj, done, rest, vq, v3, v6, N', _, _, _, _, _, _, _, _, _, rfl⟩
          walk_at "mem"
        · exact ⟨af, uf, out4, first, [], news, _, _, _, N, hfold, rfl, rfl, hfh, hfi, hfl, by rw [List.append_nil]; exact hb4, hov, hbi, rfl⟩
        · clear h hb hb4 hbi hfh hfi hov hfold
          intro j v G L' s E J hJ hj hZ0_ hZ1_ h
          refine byName fun _ kk_ => ?_
          obtain ⟨fA, fv, rv', Fj, done, rest, vq, v3, v6, N', hfold, hdn, hdl, hfh, hfi, hfl, hb4, hov, hbi, rfl⟩ := hZ1_
          obtain ⟨hv, rfl⟩ := hZ0_
          refine kk_ ?_
          clear kk_
          simp only [List.cons_append, List.nil_append] at h ⊢
          have hj' : j < init.length := by walk_at "om"
          rw [List.drop_eq_getElem_cons hj'] at hfold
          replace hfold := hfold
          refine byName fun _ kk_ => ?_
          obtain ⟨al, ul, el, hlh, hli, hll⟩ := Paired.get' hbi hj' hj
          refine kk_ ?_
          clear kk_
          obtain rfl : v = .ref al := by rw [List.getElem?_eq_getElem hj, el] at hv; exact (Option.some.inj hv).symm
          generalize hdr : init.drop (j + 1) = dr at hfold
          generalize hin' : init[j] = lj at hfold hli hll
          cases hfold with
          | @cons _ _ F1 S1 _ _ news' hE hfold =>
          walk_at "go"
          have h2 := h.draw (L' := (La, _) :: (cq, _) :: (ck, _) :: ([(it3, _), (acc4, _), (acc3, _), (it, _), (sA, _)] ++ (N' ++ L))) (by simp only [List.cons_append, List.nil_append]; walk_at "draw")
          clear h; have h := h2; clear h2
          refine while_c (P0 := [(it3, _), (acc4, _), (acc3, _), (it, _), (sA, _)]) (m := m) Y I6 I7 D9 (hA.less (by walk_at "om")) he h hfh hlh hfi hli (Has.right hP) (Has.right hP') hE hfl hll (by exact o319 hin hn) (by walk_at "om") ?_
          clear h
          intro fA' sA' fv' sv' vq' N2 s hf2 hs2 hfi2 hsi2 h
          obtain ⟨hl1, hl2⟩ := hE.len hfl hll
          have h := H.slide h
          simp only [List.cons_append, List.nil_append] at h
          try dsimp only
          walk_at "go"
          walk_at "gm"
          walk_at "go"
          have hrl4 : rv'.length < 2 ^ 20 := by
            have h1 := Paired.len' hb4
            have h2 := List.length_filter_le (fun l => zat i l == 0) rs
            rw [List.length_append] at h1; exact o320 hil hn hj' h1 hdl hm h2 hrs
          refine l_append h (by walk_at "upd") hrl4 ?_
          clear h; intro s h
          try dsimp only
          walk_at "go"
          have h2 := h.draw (L' := (it3, _) :: (acc4, _) :: (acc3, _) :: (it, _) :: (sA, _) :: (cq, _) :: (ck, _) :: (La, _) :: (N2 ++ (N' ++ L))) (by walk_at "draw")
          rw [← List.append_assoc] at h2 hf2 hs2
          have assoc : ∀ {xs : List Value} {yss : List (List Int)}, Lines (N' ++ L) m xs yss → Lines (N2 ++ N' ++ L) m xs yss := fun hx => by
            have := hx.more (N := N2)
            rwa [← List.append_assoc] at this
          refine ⟨_, h2, fA', fv', _, F1, done ++ [S1], news', _, _, _, N2 ++ N', by first | exact hfold | (rw [hdr]; exact hfold), by rw [List.append_assoc]; exact hdn, by rw [List.length_append, hdl]; rfl, hf2, hfi2, hl1, ?_, assoc hov, assoc hbi, rfl⟩
          rw [← List.append_assoc]
          exact Paired.snoc (assoc hb4) ⟨sA', sv', rfl, hs2, hsi2, hl2⟩
        · clear h hb hb4 hbi hfh hfi hov hfold
          intro L' s hZ0_ h
          refine byName fun _ kk_ => ?_
          obtain ⟨fA, fv, rv', Fj, done, rest, vq, v3, v6, N', hfold, hdn, hdl, hfh, hfi, hfl, hb4, hov, hbi, rfl⟩ := hZ0_
          refine kk_ ?_
          clear kk_
          rw [List.drop_eq_nil_of_le (by exact o137 hbil)] at hfold
          cases hfold
          rw [List.append_nil] at hdn
          subst hdn
          try dsimp only
          walk_at "go"
          walk_at "gm"
          walk_at "go"
          have hol : ov.length < 2 ^ 20 := by rw [Paired.len' hov]; exact o321 hn hin hm hod
          refine l_append h (by walk_at "upd") hol ?_
          clear h; intro s h
          try dsimp only
          walk_at "go"
          refine ⟨_, h.draw (L' := (it, _) :: (sA, _) :: (cq, _) :: (ck, _) :: (La, _) :: (acc4, _) :: (N' ++ L)) (by walk_at "draw"), acc4, rv', _, _, odone ++ [F'], out', _, _, _, _, _, _, N', hS, by rw [List.append_assoc]; exact ho, hb4, Paired.snoc hov ⟨fA, fv, rfl, hfh, hfi, hfl⟩, ?_, by rw [List.length_append]; simp; walk_at "om", rfl⟩
          have h3 := filt_len i rs
          rw [hbusy, List.length_append, List.length_singleton] at h3
          rw [List.length_append]
          exact o322 h3 hdl hbil hrs
  · clear h hr hrl hrz hS rv rA
    intro L' s hZ0_ h
    refine byName fun _ kk_ => ?_
    obtain ⟨rA, rv, ov, rs, odone, orest, vq, vk, v3, v4, v5, v6, N, hS, ho, hr, hov, hrs, hod, rfl⟩ := hZ0_
    refine kk_ ?_
    clear kk_
    have hor : orest = [] := by
      cases hS with
      | done => rfl
      | go hlt => exact (o313 hlt).elim
    rw [hor, List.append_nil] at ho
    subst ho
    try dsimp only
    walk_at "go"
    exact k _ _ _ _ hov (h.draw (by walk_at "draw"))
end
end Mine
namespace Mine
section
open PySem PySem.W PyProof.Rows PySem.Calls
variable {prog : Program} {w : World} {A : Around} {b s : Shared} {L M : Led} {f : Addr} {fd : FuncData} {R : Result → Shared → Prop} {t u tn : Tok}
noncomputable def bkSum (line ws : List Int) (k i : Nat) : Int := ((List.range i).map fun j => zat (k + 1 + j) line * zat j ws).sum
noncomputable def bk (lines : List (List Int)) (n : Nat) : Nat → List Int
  | 0 => []
  | i + 1 => (zat (n - 1 - i) (lines.getD (n - 1 - i) []) * (zat n (lines.getD (n - 1 - i) []) - bkSum (lines.getD (n - 1 - i) []) (bk lines n i) (n - 1 - i) i)) :: bk lines n i
theorem bk_len (lines : List (List Int)) (n : Nat) : ∀ i, (bk lines n i).length = i
  | 0 => rfl
  | i + 1 => by unfold bk; rw [List.length_cons, bk_len lines n i]
noncomputable def nmWT : List (Str × NameKind) := (stScope (nth pb 26)).names
noncomputable abbrev lWT : List Str := ["stairs", "size", "k"]
structure Wts (b : Shared) : Prop where
  range : Blt b "range" (.type "range")
  len : Blt b "len" (.builtin "len")
  rev : Blt b "reversed" (.type "reversed")
  sum : Blt b "sum" (.builtin "sum")
theorem IntsAre.rep (n : Nat) (x : Int) (t : Tok) : IntsAre (List.replicate n (.int x t)) (List.replicate n x) := by
  induction n with
  | zero => exact .nil
  | succ n ih => rw [List.replicate_succ, List.replicate_succ]; exact .cons _ _ ih
theorem IntsAre.setW {vs : List Value} {xs : List Int} (h : IntsAre vs xs) (v : Int) (t : Tok) : ∀ i, IntsAre (vs.set i (.int v t)) (xs.set i v) := by
  induction h with
  | nil => intro i; exact .nil
  | cons n u h ih => intro i; cases i with
    | zero => exact .cons v t h
    | succ i => exact .cons n u (ih i)
theorem rep_set (k : Nat) (v : Int) (ws : List Int) : (List.replicate (k + 1) (0 : Int) ++ ws).set k v = List.replicate k 0 ++ v :: ws := by
  rw [List.replicate_succ', List.append_assoc, List.set_append_right k v (by simp)]
  simp
theorem weights_c {sA : Addr} {sv : List Value} {lines : List (List Int)} {n : Nat} (D : Def b "_law_weights" 26 f fd) (Y : Wts b) (hA : Room A 6) (h : H b L s) (hs : Has sA (.ls sv) L) (hl : Lines L (n + 1) sv lines) (hn : lines.length = n) (hn2 : n ≤ 20)
    (hB : ∀ i ≤ n, ∀ x ∈ bk lines n i, Builtin.Int.intBits x ≤ 33554432) (hS : ∀ l ∈ lines, Slim l) (hC : ∀ i < n, Builtin.Int.intBits (zat n (lines.getD (n - 1 - i) []) - bkSum (lines.getD (n - 1 - i) []) (bk lines n i) (n - 1 - i) i) ≤ 33554432)
    (k : ∀ (a : Addr) (ov : List Value) (s' : Shared), IntsAre ov (bk lines n n) → H b ((a, .ls ov) :: L) s' → R (.ok (.ret (.ref a))) s') :
    codeAny (model prog w) A (.call (.ref f) ⟨[.ref sA], []⟩) R s := by
  have hrange := Y.range
  have hlen := Y.len
  have hrev := Y.rev
  have hsum := Y.sum
  refine enterC (d := 5) (nm := nmWT) (names := lWT) (vals := [some (.ref sA), none, none]) (cn := ["line", "weights"]) (cvals := [none, none]) (binds := [("stairs", .ref sA)]) D.fn hA h
    (bind_of D.fn.params D.d1 D.d2 (t := fun _ => pure _) (fun q => by kernel_rfl)) rfl (by kernel_rfl) (by kernel_rfl) (by decide +kernel) rfl (by kernel_rfl) (by decide +kernel) rfl rfl rfl ?_
  clear h
  intro La s e A' E' ca hca he hcode hqual hA h
  refine byName fun _ kk_ => ?_
  obtain ⟨cl, cw, rfl⟩ := ln2 hca
  refine kk_ ?_
  clear kk_
  simp only [List.zip_cons_cons, List.zip_nil_right, List.map_cons, List.map_nil, List.cons_append, List.nil_append] at he h
  replace he := he
  refine st_hide ?_
  intro _ _
  have hsl : sv.length = n := by rw [Paired.len' hl, hn]
  have hsz : sv.length < 2 ^ 60 := by walk_at "om"
  walk_at "go"
  rw [hsl] at h ⊢
  refine o_rep h (by walk_at "mem") rfl (by walk_at "om") ?_
  clear h; intro wA s h
  walk_at "go"
  refine b_range1 h ?_
  clear h; intro r _ _ s h
  walk_at "go"
  refine b_revr (m := n) h .head rfl (by walk_at "om") ?_
  clear h; intro it s h
  walk_at "go"
  refine iter_rr h .head ?_
  have h2 := h.draw (L' := (it, _) :: (wA, _) :: (cl, _) :: (cw, _) :: (La, _) :: L) (by walk_at "draw")
  clear h; have h := h2; clear h2
  refine loop (src_rr (n := n) hA.handled) (fun i L' => Ex4 fun (wv : List Value) (vl vk : Option Value) (tz : Tok) => IntsAre wv (List.replicate (n - i) 0 ++ bk lines n i) ∧
    L' = (wA, .ls wv) :: (cl, .cl vl) :: (cw, .cl (some (.ref wA))) :: (La, .fr lWT [some (.ref sA), some (.int (n : Int) tz), vk]) :: L) ?_ h ?_ ?_ ?_
  · intros; trivial
  · exact ⟨_, _, _, _, by rw [show bk lines n 0 = [] from rfl, List.append_nil]; exact IntsAre.rep _ _ _, rfl⟩
  · clear h
    intro i v G L' s E J hJ hi hZ0_ hZ1_ h
    refine byName fun _ kk_ => ?_
    obtain ⟨wv, vl, vk, tz, hwv, rfl⟩ := hZ1_
    obtain ⟨⟨tk, rfl⟩, rfl⟩ := hZ0_
    refine kk_ ?_
    clear kk_
    simp only [List.cons_append, List.nil_append] at h ⊢
    have hkn : n - 1 - i < n := by exact o323 hi
    have ekk : (n : Int) - 1 - i = ((n - 1 - i : Nat) : Int) := by exact o324 hi
    rw [ekk]
    clear ekk
    have hgd : lines.getD (n - 1 - i) [] = lines[n - 1 - i] := by rw [List.getD_eq_getElem?_getD, List.getElem?_eq_getElem (by walk_at "om")]; rfl
    obtain ⟨lA, us, hsat, hlh, hli, hll⟩ : ∃ lA us, sv[n - 1 - i]? = some (.ref lA) ∧ Has lA (.ls us) L ∧ IntsAre us (lines.getD (n - 1 - i) []) ∧ (lines.getD (n - 1 - i) []).length = n + 1 := by
      refine byName fun _ kk_ => ?_
      obtain ⟨lA, us, eA, hlh, hli, hll⟩ := Paired.get' hl (i := n - 1 - i) (by walk_at "om") (by walk_at "om")
      refine kk_ ?_
      clear kk_
      rw [hgd]
      exact ⟨lA, us, by rw [List.getElem?_eq_getElem (by walk_at "om"), eA], hlh, hli, hll⟩
    have hSl : Slim (lines.getD (n - 1 - i) []) := by rw [hgd]; exact hS _ (List.getElem_mem _)
    clear hgd
    have hCi := hC i hi
    have hB1 := hB i (by exact o110 hi)
    have hB2 := hB (i + 1) (by exact o23 hi)
    unfold bk at hB2 hJ
    replace hB2 := hB2
    replace hJ := hJ
    have hwl : wv.length = n := by rw [hwv.length, List.length_append, List.length_replicate, bk_len]; exact o325 hi
    generalize hbk : bk lines n i = ws at hwv hCi hB1 hB2 hJ
    have hwsl : ws.length = i := by rw [← hbk, bk_len]
    generalize lines.getD (n - 1 - i) [] = line at hli hll hCi hB2 hSl hJ
    have hus : ∀ j, j < n + 1 → ∃ t, us[j]? = some (.int (zat j line) t) := fun j hj => IntsAre.at hli (zat_at (by walk_at "om"))
    have hwat : ∀ j, j < i → ∃ t, wv[n - 1 - i + 1 + j]? = some (.int (zat j ws) t) := fun j hj => IntsAre.at hwv (by
      rw [List.getElem?_append_right (by simp; exact o326), List.length_replicate, show n - 1 - i + 1 + j - (n - i) = j by exact o327 hi]
      exact zat_at (by walk_at "om"))
    generalize hkd : n - 1 - i = k' at h hkn hsat hCi hB2 hwat hJ ⊢
    have hk3 : n = k' + 1 + i := by exact o328 hkd hi
    clear hkd hkn
    refine byName fun _ kk_ => ?_
    obtain ⟨tk', hk'⟩ := hus k' (by exact o329 hk3)
    obtain ⟨tn', hn'⟩ := hus n (by exact o51)
    refine kk_ ?_
    clear kk_
    walk_at "go"
    refine item_l h (by walk_at "mem") (by walk_at "om") (by simpa using hsat) (by exact o330 hsz hk3 hsl) ?_ rfl
    walk_at "go"
    refine item_l h (by walk_at "mem") (by walk_at "om") (by simpa using hk') (by exact o330 hsz hk3 hsl) ?_ rfl
    walk_at "go"
    refine item_l h (by walk_at "mem") (by walk_at "om") (by simpa using hn') (by exact o331 hsz hsl) ?_ rfl
    walk_at "go"
    refine lc_open (clos := [("weights", cw), ("line", cl)]) he (by kernel_rfl!) rfl (by kernel_rfl!) ?_ (by intro _; rfl)
    walk_at "go"
    refine b_range2 h ?_
    clear h; intro r _ s h
    refine iter_r (m := i) h .head (by exact o332) (by exact o333 hk3) (by exact o312 hsz hsl) ?_
    clear h; intro it2 s h
    refine lc_pure (nm' := [(".0", .local), ("j", .local), ("line", .cell), ("weights", .cell)]) ["j"] (fun j o => match o with | some y => ∃ u, y = .int (zat (k' + 1 + j) line * zat j ws) u | none => False)
      (src_r (a := (k' : Int) + 1) (n := i) hA.handled) he rfl (by kernel_rfl!) (by decide +kernel) (by kernel_rfl!) (fun _ _ _ _ => trivial) (by exact o334 hk3 hn2) h ?_ ?_
    · clear h
      intro C3 acc3 e' j v G out3 vals s E J hJ hvl he hj hv h
      refine byName fun _ kk_ => ?_
      obtain ⟨⟨tj, rfl⟩, rfl⟩ := hv
      obtain ⟨v0, rfl⟩ := ln1 hvl
      obtain ⟨t1, h1⟩ := hus (k' + 1 + j) (by exact o335 hj hk3)
      obtain ⟨t2, h2⟩ := hwat j hj
      refine kk_ ?_
      clear kk_
      have ej : ((k' : Int) + 1 + (j : Int)).toNat = k' + 1 + j := by exact o336
      simp only [List.cons_append, List.nil_append] at h ⊢
      walk_at "go"
      refine wpAny_tests_nil ?_
      rw [if_pos rfl]
      walk_at "go"
      refine item_l h (by walk_at "mem") (by exact o337) (by rw [ej]; exact h1) (by exact o338 hsz hj hk3 hsl) ?_ rfl
      walk_at "go"
      refine item_l h (by walk_at "mem") (by exact o337) (by rw [ej]; exact h2) (by exact o338 hsz hj hk3 hsl) ?_ rfl
      refine o_mul h ?_ (hSl _ (List.mem_of_getElem? (zat_at (by exact o339 hj hk3 hll)))) (hB1 _ (List.mem_of_getElem? (zat_at (by walk_at "om"))))
      clear h; intro _ s h
      exact hJ.go (some _) _ ⟨⟨_, rfl⟩, _, [], rfl, h⟩
    · clear h
      intro C3 acc3 out3 vals3 s hout3 h s' h
      have hp3 := hout3.map (fun y v => ∃ u, v = .int y u) (fun j => zat (k' + 1 + j) line * zat j ws) (fun i y _ hw => hw) (fun i _ hw => hw)
      have hnew := ints_of hp3
      clear hp3 hout3
      walk_at "go"
      refine b_sum hA.handled h (by walk_at "mem") hnew ?_
      have esum : ((List.range i).map (fun j => zat (k' + 1 + j) line * zat j ws)).sum = bkSum line ws k' i := rfl
      rw [esum]
      clear h; intro _ s h
      walk_at "go"
      refine o_mul h ?_ (hSl _ (List.mem_of_getElem? (zat_at (by exact o340 hk3 hll)))) hCi
      clear h; intro tfin s h
      walk_at "go"
      refine set_l h (by walk_at "upd") rfl rfl (by exact o341 hk3 hwl) (by walk_at "om") ?_
      clear h; intro s h
      try dsimp only
      walk_at "go"
      refine ⟨_, h.draw (L' := (it, _) :: (wA, _) :: (cl, _) :: (cw, _) :: (La, _) :: L) (by walk_at "draw"), _, _, _, _, ?_, rfl⟩
      have hset := IntsAre.setW hwv (zat k' line * (zat n line - bkSum line ws k' i)) tfin k'
      rw [show n - i = k' + 1 by exact o342 hk3, rep_set] at hset
      rw [show n - (i + 1) = k' by exact o343 hk3]
      exact hset
  · clear h
    intro L' s hZ0_ h
    refine byName fun _ kk_ => ?_
    obtain ⟨wv, vl, vk, tz, hwv, rfl⟩ := hZ0_
    refine kk_ ?_
    clear kk_
    rw [Nat.sub_self, List.replicate_zero, List.nil_append] at hwv
    try dsimp only
    walk_at "go"
    exact k _ _ _ hwv (h.draw (by walk_at "draw"))
end
end Mine
namespace Mine
section
open PySem PySem.W PyProof.Rows PySem.Calls
theorem Outs.mono {W W' : Nat → Option Value → Prop} (hi : ∀ i o, W i o → W' i o) : ∀ {n : Nat} {out : List Value}, Outs W n out → Outs W' n out
  | 0, _, h => h
  | n + 1, out, ⟨o', h, q⟩ => ⟨o', Outs.mono hi h, q.imp (fun ⟨y, a, b⟩ => ⟨y, hi _ _ a, b⟩) (fun ⟨a, b⟩ => ⟨hi _ _ a, b⟩)⟩
section
variable {prog : Program} {w : World} {A A' : Around} {E : Value → Shared → Prop} {b s : Shared} {L L' : Led} {e : Env} {La : Addr} {nm nm' : List (Str × NameKind)} {cl clos : List (Str × Addr)} {target elt iter : Expr} {ifs : List Expr} {scope : Scope} {pos : Pos} {names cn : List Str}
theorem lc_pureT {itA : Addr} {n : Nat} {V : Nat → Value → Led → Prop} {X : Nat → Led} {need : Led → Prop} {use : Option (Value → Sem Unit)} {Q : Value → Shared → Prop} (names : List Str) (W : Nat → Option Value → Nat → Prop) (hW : ∀ i o t t', t ≤ t' → W i o t → W i o t') {t0 : Nat} (ht0 : t0 ≤ s.toks)
    (S : Src A b target itA n V X need) (he : Ev e La nm cl) (hk : scope.kind = .function) (hcn : (cellsFrom 0 scope.names []).map (·.1) = []) (hnd : names.Nodup) (hrel : rel nm scope.names = nm') (hneed : ∀ out C acc vals, need ((C, .fr names vals) :: (acc, .ls out) :: L))
    (hsz : n < 2 ^ 20) (h : H b (X 0 ++ L) s)
    (step : ∀ C acc e' i v G out vals s E J, LcJT b C acc names out (X (i + 1) ++ L) (W i) J → t0 ≤ s.toks → vals.length = names.length → Ev e' C nm' clos → i < n → V i v G → H b ((C, .fr names vals) :: (acc, .ls out) :: (G ++ (X (i + 1) ++ L))) s →
      wpAny (model prog w) A (assign target e' v) (fun _ s₂ => wpAny (model prog w) A (tests ifs e') (fun ok s₃ => if ok = true then wpAny (model prog w) A (eval elt e') (fun y s₄ => J (some y) s₄) E s₃ else J none s₃) E s₂) E s)
    (fin : ∀ C acc out vals s, t0 ≤ s.toks → Outs (fun i o => W i o s.toks) n out → H b ((C, .fr names vals) :: (acc, .ls out) :: L) s → AfterT prog w A E b names use Q C acc out L s) :
    wpAny (model prog w) A (newList []) (fun acc s₃ => wpAny (model prog w) A (newFunctionEnv scope e.globals clos [] e.qual none .none (some e)) (fun cenv s₄ =>
        codeAny (model prog w) A (.compStart (.ListComp elt [⟨target, iter, ifs, 0⟩] scope pos) 0 (.ref itA) acc { cenv with scope := relabel scope e }) (compPost (model prog w) A E use Q acc cenv.locals) s₄) E s₃) E s := by
  have drop : ∀ {i : Nat} {C acc : Addr} {vals out} {P : Led} {s : Shared}, H b ((C, .fr names vals) :: (acc, .ls out) :: (P ++ (X (i + 1) ++ L))) s → H b ((C, .fr names vals) :: (acc, .ls out) :: (X (i + 1) ++ L)) s := fun h => h.sub ((List.sublist_append_right _ _).cons_cons _ |>.cons_cons _)
  refine lc_runT (cn := []) names (fun ca i out L' t => L' = L ∧ i ≤ n ∧ t0 ≤ t ∧ Outs (fun i o => W i o t) i out) (fun ca i out L t t' hle hz => ⟨hz.1, hz.2.1, Nat.le_trans hz.2.2.1 hle, hz.2.2.2.mono fun i o => hW i o t t' hle⟩) S he hk hcn hnd hrel (fun ca i out L' C acc vals t hz => hz.1 ▸ hneed _ _ _ _) (fun ca i out L' t hz => Nat.lt_of_le_of_lt (Nat.le_trans hz.2.2.2.le hz.2.1) hsz) h (fun ca hca t ht => ?_) (fun C acc ca e' i v G out vals L' s E hca hvl ev hi hv hz h' => ?_) (fun C acc ca out vals L' s hz h' => ?_)
  · cases ca with
    | nil => exact ⟨rfl, Nat.zero_le _, Nat.le_trans ht0 ht, rfl⟩
    | cons _ _ => cases hca
  · obtain ⟨e1, _, ht, ho⟩ := hz
    rw [e1] at h'
    cases ca with
    | cons _ _ => cases hca
    | nil =>
      refine wpAny_with_toks (Nat.le_refl _) (wpAny_mono (step C acc e' i v G out vals s E (fun o s => W i o s.toks ∧ ∃ vals' L', vals'.length = names.length ∧ H b ((C, .fr names vals') :: (acc, .ls out) :: (L' ++ (X (i + 1) ++ L))) s) ⟨fun _ _ x => x⟩ ht hvl ev hi hv h') (fun _ s₂ h₂ ht2 => wpAny_with_toks ht2 (wpAny_mono h₂ (fun ok s₃ h₃ ht3 => ?_) fun _ _ x _ => x)) fun _ _ x _ => x)
      cases ok with
      | false =>
        rw [if_neg Bool.false_ne_true] at h₃ ⊢
        obtain ⟨hw, vals', L', hv', h'⟩ := h₃
        exact ⟨vals', L, hv', drop h', rfl, hi, Nat.le_trans ht ht3, _, ho.mono fun i o => hW i o _ _ ht3, .inr ⟨hw, rfl⟩⟩
      | true =>
        rw [if_pos rfl] at h₃ ⊢
        refine wpAny_with_toks ht3 (wpAny_mono h₃ (fun y s₄ h₄ ht4 => ?_) fun _ _ x _ => x)
        obtain ⟨hw, vals', L', hv', h'⟩ := h₄
        exact ⟨vals', L, hv', drop h', rfl, hi, Nat.le_trans ht ht4, _, ho.mono fun i o => hW i o _ _ ht4, .inl ⟨y, hw, rfl⟩⟩
  · obtain ⟨e1, _, ht, ho⟩ := hz
    rw [e1] at h' ⊢
    exact fin C acc out vals s ht ho h'
end
section
variable {prog : Program} {w : World} {A : Around} {E : Value → Shared → Prop} {b s : Shared} {L L' : Led} {e : Env} {l : Addr} {vs : List Value} {t u tv : Tok} {Q : Value → Shared → Prop} {x : Str} {i : Int}
theorem s_itemT {value slice : Expr} {c : Nat} (h : H b L s) (h0 : 0 ≤ i) (hi : i < 2 ^ 20) (hc : x.cps[i.toNat]? = some c) (kk : ∀ s', H b L s' → s'.toks = s.toks + 1 → Q (.str ⟨#[c]⟩ s.toks) s')
    (hs : subscripted slice false (.str x t) (.int i u) = operate [.str x t, .int i u] (getItem (.str x t) (.int i u))) : wpAny (model prog w) A (subscriptTail value slice (.str x t) (.int i u)) Q E s := by
  refine tail_any (typeIs_str s x t) slot_str_getitem.lookup (getItem_str (by simp; exact o60 h0 hi) ?_ (kk _ (h.toks _) rfl)) hs
  have hlt : i.toNat < x.cps.size := (Array.getElem?_eq_some_iff.mp hc).1
  have : seqIndex? i x.length = some i.toNat := by
    have hl : x.length = x.cps.size := rfl
    unfold seqIndex?
    simp only [show ¬ i < 0 by exact o61 h0, if_false]
    rw [if_pos (by simp; exact o62 hlt h0 hl)]
  rw [this]; exact hc
noncomputable abbrev slob (a c : Value) : Obj := { cls := .type "slice", dict := none, data := .fields #[a, c, .none], slots := #[] }
theorem mk_slU {up : Expr} {p : Pos} (h : wpAny (model prog w) A (eval up e) (fun v s₁ => ∃ L, H b L s₁ ∧ ∀ a s', H b ((a, .ob (slob .none v)) :: L) s' → Q (.ref a) s') E s) : wpAny (model prog w) A (eval (.Slice none (some up) none p) e) Q E s := by
  refine wpAny_Slice ?_
  rw [evalPart_none]
  refine wpAny_pure ?_
  rw [evalPart_some]
  refine wpAny_mono h (fun v s₁ ⟨L, h1, k⟩ => ?_) fun _ _ x => x
  exact wpAny_pure (k _ _ (h1.alloc (slob .none v)))
theorem mk_slL {lw : Expr} {p : Pos} (h : wpAny (model prog w) A (eval lw e) (fun v s₁ => ∃ L, H b L s₁ ∧ ∀ a s', H b ((a, .ob (slob v .none)) :: L) s' → Q (.ref a) s') E s) : wpAny (model prog w) A (eval (.Slice (some lw) none none p) e) Q E s := by
  refine wpAny_Slice ?_
  rw [evalPart_some]
  refine wpAny_mono h (fun v s₁ ⟨L, h1, k⟩ => ?_) fun _ _ x => x
  rw [evalPart_none]
  refine wpAny_pure ?_
  exact wpAny_pure (k _ _ (h1.alloc (slob v .none)))
theorem item_slU {ops : List Value} {value slice : Expr} {sl : Addr} {n : Nat} {t : Tok} (h : H b L s) (hm : Has l (.ls vs) L) (hsl : Has sl (.ob (slob .none (.int (n : Int) t))) L) (hsz : vs.length ≤ 2 ^ 20) (kk : ∀ a s', H b ((a, .ls (vs.take n)) :: L) s' → Q (.ref a) s')
    (hs : subscripted slice false (.ref l) (.ref sl) = operate ops (getItem (.ref l) (.ref sl))) : wpAny (model prog w) A (subscriptTail value slice (.ref l) (.ref sl)) Q E s := by
  obtain ⟨m, hg⟩ := h.getL hm
  refine tail_any (isList hg).typeIs slot_list_getitem.lookup (wpAny_getItem_list_slice (lo := none) (hi := some (n : Int)) (st := none) (isList hg) ⟨_, h.get hsl, rfl, rfl⟩ .none (.int _ _) .none (by simp) ?_ (by rw [List.size_toArray, sizeLine_eq]; exact o63 hsz)) hs
  rw [slicePick_upto']
  exact kk _ _ (h.allocL (vs.take n))
theorem item_slL {ops : List Value} {value slice : Expr} {sl : Addr} {n : Nat} {t : Tok} (h : H b L s) (hm : Has l (.ls vs) L) (hsl : Has sl (.ob (slob (.int (n : Int) t) .none)) L) (hsz : vs.length ≤ 2 ^ 20) (kk : ∀ a s', H b ((a, .ls (vs.drop n)) :: L) s' → Q (.ref a) s')
    (hs : subscripted slice false (.ref l) (.ref sl) = operate ops (getItem (.ref l) (.ref sl))) : wpAny (model prog w) A (subscriptTail value slice (.ref l) (.ref sl)) Q E s := by
  obtain ⟨m, hg⟩ := h.getL hm
  refine tail_any (isList hg).typeIs slot_list_getitem.lookup (wpAny_getItem_list_slice (lo := some (n : Int)) (hi := none) (st := none) (isList hg) ⟨_, h.get hsl, rfl, rfl⟩ (.int _ _) .none .none (by simp) ?_ (by rw [List.size_toArray, sizeLine_eq]; exact o63 hsz)) hs
  rw [slicePick_from']
  exact kk _ _ (h.allocL (vs.drop n))
theorem baseList (h : H b L s) (hg : b.heap.IsList l vs.toArray) : s.heap.IsList l vs.toArray := let ⟨o, ho, r⟩ := hg; ⟨o, h.keep _ _ ho, r⟩
theorem item_slB {ops : List Value} {value slice : Expr} {sl : Addr} {n : Nat} {t : Tok} (h : H b L s) (hm : b.heap.IsList l vs.toArray) (hsl : Has sl (.ob (slob .none (.int (n : Int) t))) L) (hsz : vs.length ≤ 2 ^ 20) (kk : ∀ a s', H b ((a, .ls (vs.take n)) :: L) s' → Q (.ref a) s')
    (hs : subscripted slice false (.ref l) (.ref sl) = operate ops (getItem (.ref l) (.ref sl))) : wpAny (model prog w) A (subscriptTail value slice (.ref l) (.ref sl)) Q E s := by
  have hg := baseList h hm
  refine tail_any hg.typeIs slot_list_getitem.lookup (wpAny_getItem_list_slice (lo := none) (hi := some (n : Int)) (st := none) hg ⟨_, h.get hsl, rfl, rfl⟩ .none (.int _ _) .none (by simp) ?_ (by rw [List.size_toArray, sizeLine_eq]; exact o63 hsz)) hs
  rw [slicePick_upto']
  exact kk _ _ (h.allocL (vs.take n))
theorem b_sumB {xs : List Int} (hh : A.handled = none) (h : H b L s) (hm : b.heap.IsList l vs.toArray) (hi : IntsAre vs xs) (kk : ∀ t s', H b L s' → Q (.int xs.sum t) s') : wpAny (model prog w) A (call (.builtin "sum") [.ref l]) Q E s := by
  have hg := baseList h hm
  refine byName fun _ kk_ => ?_
  obtain ⟨ps, rfl, rfl⟩ := ofInts hi
  refine kk_ ?_
  clear kk_
  have hl : s.heap.IsList l (intItems ps.toArray) := by
    unfold intItems
    rwa [List.map_toArray]
  refine call_sum_walkG (iter_intList hl fun s₂ e st hfp hlI => ?_)
  subst e
  refine ⟨_, _, _, _, _, _, numAt ps.toArray, rfl, Walks.list (A := A.in1) hh _ l hlI (intItems ps.toArray), st, hfp, (fun _ _ => intItems_at), fun h' tk t' hk => ?_⟩
  have h2 := kk t' _ (h.ext (old_kept hk) tk)
  have e : preSum (numAt ps.toArray) ps.length = (ps.map (·.1)).sum := by
    rw [preSum_take ps _ (Nat.le_refl _), List.take_of_length_le (by simp)]
  have e2 : (intItems ps.toArray).size = ps.length := by simp [intItems]
  rw [e2, e]
  exact h2
end
end
end Mine
namespace Mine
section
open PySem PySem.W PyProof.Rows PySem.Calls
variable {prog : Program} {w : World} {A : Around} {b s : Shared} {L M : Led} {t u tn : Tok} {e : Env} {La : Addr} {c1 c2 c3 c4 c5 c6 : Addr} {E : Value → Shared → Prop} {Q : Flow → Shared → Prop} {v1 v2 v3 v4 v5 v6 v7 v8 v9 v10 v11 v12 : Option Value}
noncomputable def nmW' : List (Str × NameKind) := (stScope (nth pb 27)).names
noncomputable abbrev lst (i : Nat) : Stmt := nth (stBody (nth pb 27)) i
noncomputable abbrev lLW : List Str := ["script", "front", "numbers", "words", "row", "laid", "left", "due", "number", "value", "table", "weights"]
noncomputable abbrev clW (c1 c2 c3 c4 c5 c6 : Addr) : List (Str × Addr) := [("stairs", c6), ("patterns", c5), ("word", c4), ("lexer", c3), ("letters", c2), ("place", c1)]
theorem map_rangeA {α β : Type} (g : α → β) (d : α) (l : List α) {n : Nat} (hn : n = l.length) : (List.range n).map (fun i => g (l.getD i d)) = l.map g := by
  subst hn
  apply List.ext_getElem
  · simp
  · intro i h1 h2
    simp at h1 h2
    simp [List.getD_eq_getElem?_getD, List.getElem?_eq_getElem h2]
noncomputable def lawFront (ns : List Int) : List Nat := (ns.take 6).map fun n => (n.fmod 3232).toNat
theorem s1_c {sc : Addr} {sv : List Value} {ns : List Int} (he : Ev e La nmW' (clW c1 c2 c3 c4 c5 c6)) (hA : Room A 6) (hsc : b.heap.IsList sc sv.toArray) (hi : IntsAre sv ns) (hl : ns.length ≤ 64) (h : H b ((La, .fr lLW [some (.ref sc), v2, v3, v4, v5, v6, v7, v8, v9, v10, v11, v12]) :: M) s)
    (kk : ∀ fA fv s', IntsAre fv ((lawFront ns).map Int.ofNat) → H b ((La, .fr lLW [some (.ref sc), some (.ref fA), v3, v4, v5, v6, v7, v8, v9, v10, v11, v12]) :: (fA, .ls fv) :: M) s' → Q .next s') : wpAny (model prog w) A (exec (lst 0) e) Q E s := by
  have hsl : sv.length ≤ 64 := by rw [hi.length]; exact hl
  refine lc_use (clos := []) he (by kernel_rfl!) rfl (by kernel_rfl!) (swaps_loc he (by kernel_rfl) rfl (by kernel_rfl)) ?_ (by intro _; rfl)
  refine Subscript_ ?_
  walk_at "go"
  refine mk_slU (b := b) ?_
  walk_at "go"
  refine ⟨_, h, ?_⟩
  clear h; intro sl s h
  refine item_slB (n := 6) h hsc .head (by exact o344 hsl) ?_ rfl
  clear h; intro pA s h
  walk_at "go"
  refine iter_l h (by walk_at "mem") ?_
  clear h; intro it s h
  have ht6 : IntsAre (sv.take 6) (ns.take 6) := hi.take 6
  refine lc_pure (nm' := [(".0", .local), ("x", .local)]) ["x"] (fun j o => match o with | some y => ∃ u, y = .int (((((ns.take 6).getD j 0).fmod 3232).toNat : Nat) : Int) u | none => False)
    (src_l (vs := sv.take 6) hA.handled) he rfl (by kernel_rfl!) (by decide +kernel) (by kernel_rfl!) (fun _ _ _ _ => by walk_at "mem") (by simp; exact o345) h ?_ ?_
  · clear h
    intro C acc e' j v G out vals s E J hJ hvl he hj hv h
    refine byName fun _ kk_ => ?_
    obtain ⟨hv, rfl⟩ := hv
    obtain ⟨v0, rfl⟩ := ln1 hvl
    refine kk_ ?_
    clear kk_
    have hjl : j < (ns.take 6).length := by rw [← ht6.length]; exact hj
    obtain ⟨tl, hvl'⟩ := IntsAre.at ht6 (k := j) (a := (ns.take 6).getD j 0) (by rw [List.getD_eq_getElem?_getD, List.getElem?_eq_getElem hjl]; rfl)
    obtain rfl : v = _ := Option.some.inj (hv.symm.trans hvl')
    simp only [List.cons_append, List.nil_append] at h ⊢
    walk_at "go"
    refine wpAny_tests_nil ?_
    rw [if_pos rfl]
    walk_at "go"
    have hnn := Int.fmod_nonneg_of_pos ((ns.take 6).getD j 0) (b := 3232) (by decide)
    rw [← Int.toNat_of_nonneg hnn]
    exact ⟨⟨_, rfl⟩, _, [], rfl, h⟩
  · clear h
    intro C acc out vals s hout h
    have hp := hout.map (fun y v => ∃ u, v = .int y u) (fun j => (((((ns.take 6).getD j 0).fmod 3232).toNat : Nat) : Int)) (fun i y _ hw => hw) (fun i _ hw => hw)
    have hnew := ints_of hp
    have hl6 : (sv.take 6).length = (ns.take 6).length := ht6.length
    rw [map_rangeA (fun n : Int => ((n.fmod 3232).toNat : Int)) 0 (ns.take 6) hl6, show (ns.take 6).map (fun n : Int => ((n.fmod 3232).toNat : Int)) = (lawFront ns).map Int.ofNat by unfold lawFront; rw [List.map_map]; rfl] at hnew
    show wpAny _ _ (assign _ _ _) _ _ _
    walk_at "go"
    refine ⟨_, _, h, fun s h => ?_⟩
    exact kk _ _ _ hnew (h.draw (by walk_at "draw"))
noncomputable def lawNums (ns : List Int) : List Nat := lawFront ns ++ [1709, 1398, 1931, 1671, 1470, 1882].drop (lawFront ns).length
theorem s2_c {fA : Addr} {fv : List Value} {ns : List Int} (hlen : Blt b "len" (.builtin "len")) (he : Ev e La nmW' (clW c1 c2 c3 c4 c5 c6)) (hi : IntsAre fv ((lawFront ns).map Int.ofNat)) (h : H b ((La, .fr lLW [v1, some (.ref fA), v3, v4, v5, v6, v7, v8, v9, v10, v11, v12]) :: (fA, .ls fv) :: M) s)
    (kk : ∀ nA nv s', IntsAre nv ((lawNums ns).map Int.ofNat) → H b ((La, .fr lLW [v1, some (.ref fA), some (.ref nA), v4, v5, v6, v7, v8, v9, v10, v11, v12]) :: (nA, .ls nv) :: M) s' → Q .next s') : wpAny (model prog w) A (exec (lst 1) e) Q E s := by
  have hfl : fv.length ≤ 6 := by rw [hi.length, List.length_map]; unfold lawFront; rw [List.length_map]; exact List.length_take_le _ _
  have hfz : fv.length < 2 ^ 60 := by walk_at "om"
  refine wpAny_Assign_Name ?_ (by k_dflt rfl)
  refine wpAny_BinOp ?_
  walk_at "go"
  refine mk_slL (b := b) ?_
  walk_at "go"
  refine ⟨_, h, ?_⟩
  clear h; intro sl s h
  refine item_slL (n := fv.length) h (by walk_at "mem") .head (by simp) ?_ rfl
  clear h; intro pA s h
  walk_at "go"
  refine add_l h (by walk_at "mem") (by walk_at "mem") (by simp; exact o346 hfl) ?_
  clear h; intro nA s h
  walk_at "go"
  refine kk nA _ s ?_ (h.draw (by walk_at "draw"))
  unfold lawNums
  rw [List.map_append, hi.length, List.length_map, List.map_drop]
  refine IntsAre.append hi (IntsAre.drop ?_ _)
  exact .cons _ _ (.cons _ _ (.cons _ _ (.cons _ _ (.cons _ _ (.cons _ _ .nil)))))
noncomputable def ringS : Str := Str.ofString "ab \"\\\n#\t"
noncomputable def placeOf (ns : List Int) : Nat := (ns.sum.fmod 8).toNat
theorem s3_c {sc : Addr} {sv : List Value} {ns : List Int} (hsum : Blt b "sum" (.builtin "sum")) (he : Ev e La nmW' (clW c1 c2 c3 c4 c5 c6)) (hA : Room A 6) (hsc : b.heap.IsList sc sv.toArray) (hi : IntsAre sv ns) (h : H b ((c1, .cl none) :: (La, .fr lLW [some (.ref sc), v2, v3, v4, v5, v6, v7, v8, v9, v10, v11, v12]) :: M) s)
    (kk : ∀ t s', 1 ≤ s'.toks → H b ((c1, .cl (some (.int (placeOf ns : Int) t))) :: (La, .fr lLW [some (.ref sc), v2, v3, v4, v5, v6, v7, v8, v9, v10, v11, v12]) :: M) s' → Q .next s') : wpAny (model prog w) A (exec (lst 2) e) Q E s := by
  refine wpAny_Assign_Name ?_ (by k_dflt rfl)
  refine wpAny_BinOp ?_
  walk_at "go"
  refine b_sumB hA.handled h hsc hi ?_
  clear h; intro _ s h
  refine wpAny_Constant_int ?_
  have h' := h.toks (s.toks + 1)
  have h1 : 1 ≤ ({ s with toks := s.toks + 1 } : Shared).toks := Nat.le_add_left 1 s.toks
  generalize ({ s with toks := s.toks + 1 } : Shared) = s' at h' h1 ⊢
  clear h
  refine wpAny_with_toks h1 (o_mod h' ?_ (by decide))
  clear h' h1; intro tm s h h1
  have hnn := Int.fmod_nonneg_of_pos ns.sum (b := 8) (by decide)
  refine wpAny_with_toks h1 ?_
  walk_at "go"
  intro h1
  refine kk tm _ h1 ?_
  unfold placeOf
  rw [Int.toNat_of_nonneg hnn]
  exact h
noncomputable def letsOf (p : Nat) : List Nat := (List.range 4).map fun k => ringS.cps.toList.getD ((p + 3 * k) % 8) 0
theorem s4_c {p : Nat} {tp : Tok} (hrange : Blt b "range" (.type "range")) (he : Ev e La nmW' (clW c1 c2 c3 c4 c5 c6)) (hA : Room A 6) (hp : p < 8) (ht : 1 ≤ s.toks) (h : H b ((c1, .cl (some (.int (p : Int) tp))) :: (c2, .cl none) :: (La, .fr lLW [v1, v2, v3, v4, v5, v6, v7, v8, v9, v10, v11, v12]) :: M) s)
    (kk : ∀ lA lv s', StrsAre lv ((letsOf p).map ch1) → (∀ v ∈ lv, ∃ x u, v = .str x u ∧ u ≠ 0 ∧ u < s'.toks) → H b ((c2, .cl (some (.ref lA))) :: (La, .fr lLW [v1, v2, v3, v4, v5, v6, v7, v8, v9, v10, v11, v12]) :: (lA, .ls lv) :: M) s' → Q .next s') : wpAny (model prog w) A (exec (lst 3) e) Q E s := by
  refine wpAny_with_toks ht (wpAny_Assign_Name ?_ (swaps_cell he (by kernel_rfl)))
  refine lc_open (clos := [("place", c1)]) he (by kernel_rfl!) rfl (by kernel_rfl!) ?_ (by intro _; rfl)
  refine wpAny_with_toks ht ?_
  walk_at "go"
  refine b_range1 h ?_
  clear h; intro r _ _ s h ht
  refine wpAny_with_toks ht (iter_r (m := 4) h .head (by decide) rfl (by decide) ?_)
  clear h ht; intro it s h ht
  refine lc_pureT (nm' := [(".0", .local), ("k", .local), ("place", .cell)]) ["k"] (fun j o t => match o with | some y => ∃ u, y = .str (ch1 (ringS.cps.toList.getD ((p + 3 * j) % 8) 0)) u ∧ u ≠ 0 ∧ u < t | none => False) ?_ (t0 := 1) ht
    (src_r (a := 0) (n := 4) hA.handled) he rfl (by kernel_rfl!) (by decide +kernel) (by kernel_rfl!) (fun _ _ _ _ => trivial) (by decide) h ?_ ?_
  · intro j o t t' hle hw
    cases o with
    | none => exact hw
    | some y => exact let ⟨u, a, b, c⟩ := hw; ⟨u, a, b, Nat.lt_of_lt_of_le c hle⟩
  · clear h ht
    intro C acc e' j v G out vals s E J hJ ht hvl he hj hv h
    refine byName fun _ kk_ => ?_
    obtain ⟨⟨tj, rfl⟩, rfl⟩ := hv
    obtain ⟨v0, rfl⟩ := ln1 hvl
    refine kk_ ?_
    clear kk_
    simp only [List.cons_append, List.nil_append] at h ⊢
    refine wpAny_with_toks ht ?_
    walk_at "go"
    intro ht
    refine wpAny_tests_nil ?_
    rw [if_pos rfl]
    refine Subscript_ ?_
    refine wpAny_with_toks ht ?_
    walk_at "go"
    intro ht
    refine wpAny_with_toks ht ?_
    walk_at "go"
    refine o_mul h ?_ (by decide) (bits_small (by exact o347 hj))
    clear h; intro _ s h
    walk_at "go"
    intro ht
    have e8 : ((p : Int) + 3 * (0 + (j : Int))).fmod 8 = (((p + 3 * j) % 8 : Nat) : Int) := by
      rw [Int.fmod_eq_emod_of_nonneg _ (by decide)]; exact o348
    rw [e8]
    have hm8 : (p + 3 * j) % 8 < 8 := Nat.mod_lt _ (by decide)
    refine s_itemT (x := ringS) (c := ringS.cps.toList.getD ((p + 3 * j) % 8) 0) h (by walk_at "om") (by exact o349) ?_ ?_ rfl
    · rw [Int.toNat_natCast]
      generalize (p + 3 * j) % 8 = m at hm8
      have key : ∀ m : Fin 8, ringS.cps[m.val]? = some (ringS.cps.toList.getD m.val 0) := by decide +kernel
      exact key ⟨m, hm8⟩
    · intro s' h' hs'
      exact hJ.go (some _) _ ⟨⟨_, rfl, Nat.ne_of_gt ht, by rw [hs']; exact Nat.lt_succ_self _⟩, _, [], rfl, h'⟩
  · clear h ht
    intro C acc out vals s ht hout h s' hts h
    have hp := hout.map (fun y v => ∃ u, v = .str (ch1 y) u ∧ u ≠ 0 ∧ u < s.toks) (fun j => ringS.cps.toList.getD ((p + 3 * j) % 8) 0) (fun i y _ hw => hw) (fun i _ hw => hw)
    have hlets : StrsAre out ((letsOf p).map ch1) := strs_of (Paired.imp' (fun a v ⟨u, e, _⟩ => ⟨u, e⟩) hp)
    have htok : ∀ v ∈ out, ∃ x u, v = .str x u ∧ u ≠ 0 ∧ u < s'.toks := by
      rw [hts]
      have key : ∀ {l : List Nat} {out : List Value}, Paired (fun y v => ∃ u, v = .str (ch1 y) u ∧ u ≠ 0 ∧ u < s.toks) l out → ∀ v ∈ out, ∃ x u, v = .str x u ∧ u ≠ 0 ∧ u < s.toks := by
        intro l out hq
        induction hq with
        | nil => intro v hv; cases hv
        | cons hr _ ih =>
          intro v hv
          rcases List.mem_cons.mp hv with rfl | hv
          · obtain ⟨u, a, b, c⟩ := hr; exact ⟨_, u, a, b, c⟩
          · exact ih v hv
      exact key hp
    clear hp hout hts
    refine wpAny_with_toks (Nat.le_refl s'.toks) ?_
    generalize htt : s'.toks = tt at htok ⊢
    clear htt
    walk_at "go"
    intro h2 _
    refine kk acc _ _ hlets (fun v hv => ?_) (h.draw (by walk_at "draw"))
    obtain ⟨x, u, a, b, c⟩ := htok v hv
    exact ⟨x, u, a, b, Nat.lt_of_lt_of_le c h2⟩
end
end Mine
namespace Mine
section
open PySem PySem.W PyProof.Rows PySem.Calls
variable {prog : Program} {w : World} {A : Around} {b s : Shared} {L M : Led} {t u tn : Tok} {e : Env} {La : Addr} {c1 c2 c3 c4 c5 c6 : Addr} {E : Value → Shared → Prop} {Q : Flow → Shared → Prop} {v1 v2 v3 v4 v5 v6 v7 v8 v9 v10 v11 v12 : Option Value}
theorem s5_c {C f0 f1 f2 f3 P fs fw lA nA : Addr} {q : Str} {d0 d1 d2 d3 fds fdw : FuncData} {lv nv : List Value} {ls xs : List Nat} (K : LexK b C f0 f1 f2 f3 d0 d1 d2 d3) (hC : Glb b "_netrclex" (.ref C)) (S : Stm b) (Ds : Def b "_law_stream" 18 fs fds) (T : TbN b fds P q "give") (Dw : Def b "_law_written" 20 fw fdw) (Wd : Wrd b)
    (he : Ev e La nmW' (clW c1 c2 c3 c4 c5 c6)) (hA : Room A 14) (hP : Has P (.tb (stPos gvS) q) M) (hl : Has lA (.ls lv) M) (hlv : StrsAre lv (ls.map ch1)) (h4 : ls.length = 4) (hls : ∀ c ∈ ls, c < 128) (hn : Has nA (.ls nv) M) (hnv : IntsAre nv (xs.map Int.ofNat)) (hz : xs.length ≤ 10)
    (h : H b ((c3, .cl none) :: (c2, .cl (some (.ref lA))) :: (La, .fr lLW [v1, v2, some (.ref nA), v4, v5, v6, v7, v8, v9, v10, v11, v12]) :: M) s)
    (kk : ∀ (a : LexA) (tn : Tok) (sv : List Value) (s' : Shared), a.C = C → FdIs a.fdg gvS [(Str.ofString "signs", a.cg)] → Signs sv (writ ls xs) → H b ((c3, .cl (some (.ref a.x))) :: (c2, .cl (some (.ref lA))) :: (La, .fr lLW [v1, v2, some (.ref nA), v4, v5, v6, v7, v8, v9, v10, v11, v12]) :: (LX a 1 tn sv [] ++ M)) s' → Q .next s') : wpAny (model prog w) A (exec (lst 4) e) Q E s := by
  have hK := K.kls
  have gs := Ds.glb
  have Fs := Ds.fn
  have gw := Dw.glb
  have Fw := Dw.fn
  have hwl : (writ ls xs).length ≤ 10000 := Nat.le_trans (writ_le ls xs) (by exact o350 hz)
  refine wpAny_Assign_Name ?_ (by k_dflt rfl)
  walk_at "go"
  refine cw_cls hK ?_ (by k_dflt rfl) (by k_dflt rfl)
  refine args_cons ?_ (by k_dflt rfl)
  walk_at "go"
  refine cw_def Fs ?_ (by k_dflt rfl)
  refine args_cons ?_ (by k_dflt rfl)
  walk_at "go"
  refine cw_def Fw ?_ (by k_dflt rfl)
  walk_at "go"
  refine And.intro ⟨_, h⟩ ?_
  refine wpAny_call ?_
  refine writ_c Dw Wd (hA.less (by walk_at "om")) h (by walk_at "mem") hlv h4 hls (by walk_at "mem") hnv hz ?_
  clear h; intro tw s h
  try dsimp only
  walk_at "go"
  refine And.intro ⟨_, h⟩ ?_
  refine wpAny_call ?_
  refine stream_c K hC S Ds T (hA.less (by walk_at "om")) h (.tail (.tail (.tail hP))) (by show (writ ls xs).toArray.size ≤ _; simpa using hwl) ?_
  clear h
  intro st ds pb2 gv cg sg fdg t1 tw1 sv s Fg hsv h
  try dsimp only
  walk_at "go"
  refine And.intro ⟨_, h⟩ ?_
  refine wpAny_call ?_
  refine make_c K (hA.less (by walk_at "om")) h ?_
  clear h
  intro x dx pb tq tw2 s h
  try dsimp only
  walk_at "go"
  refine kk ⟨C, x, dx, pb, st, ds, pb2, gv, cg, sg, fdg, tw2, t1, tw1⟩ tq sv s rfl Fg (by simpa using hsv) ?_
  simp only [LX, List.cons_append, List.nil_append]
  exact h.draw (by walk_at "draw")
theorem quoted_esc (w r acc : List Nat) : quoted ((esc2 w).flatten ++ 34 :: r) acc = some (acc ++ w, r) := by
  induction w generalizing acc with
  | nil => show quoted (34 :: r) acc = _; unfold quoted; rw [if_pos rfl]; simp
  | cons c w ih =>
    have e : esc2 (c :: w) = (if (c == 34 || c == 92) = true then [92, c] else [c]) :: esc2 w := rfl
    rw [e, List.flatten_cons]
    by_cases hc : (c == 34 || c == 92) = true
    · rw [if_pos hc]
      show quoted (92 :: c :: ((esc2 w).flatten ++ 34 :: r)) acc = _
      rw [quoted.eq_def]; dsimp only; rw [if_neg (by decide), if_pos rfl]
      show quoted ((esc2 w).flatten ++ 34 :: r) (acc ++ [c]) = _
      rw [ih]; simp
    · rw [if_neg hc]
      have h1 : ¬ c = 34 := fun q => hc (by rw [q]; rfl)
      have h2 : ¬ c = 92 := fun q => hc (by rw [q]; rfl)
      show quoted (c :: ((esc2 w).flatten ++ 34 :: r)) acc = _
      rw [quoted.eq_def]; dsimp only; rw [if_neg h1, if_neg h2, ih]; simp
theorem bare_esc (w r acc : List Nat) : bare ((esc1 w).flatten ++ 10 :: r) acc = some (acc ++ w, r) := by
  induction w generalizing acc with
  | nil => show bare (10 :: r) acc = _; unfold bare; rw [if_pos (by decide)]; simp
  | cons c w ih =>
    have e : esc1 (c :: w) = [92, c] :: esc1 w := rfl
    rw [e, List.flatten_cons]
    show bare (92 :: c :: ((esc1 w).flatten ++ 10 :: r)) acc = _
    rw [bare.eq_def]; dsimp only; rw [if_neg (by decide), if_pos rfl]
    show bare ((esc1 w).flatten ++ 10 :: r) (acc ++ [c]) = _
    rw [ih]; simp
theorem tok_writ1 (ls : List Nat) (x : Nat) (r : List Nat) : ∃ r', tokOf (writ1 ls x ++ r) = some (wordOf ls x, r') ∧ (r' = r ∨ r' = 10 :: r) := by
  unfold writ1
  by_cases hc : (x / 16 % 2 == 1) = true ∧ wordOf ls x ≠ []
  · rw [if_pos hc]
    cases hw : wordOf ls x with
    | nil => exact absurd hw hc.2
    | cons d w =>
      refine ⟨r, ?_, .inl rfl⟩
      have e : esc1 (d :: w) = [92, d] :: esc1 w := rfl
      rw [e, List.flatten_cons]
      have e2 : [92, d] ++ (esc1 w).flatten ++ [10] ++ r = 92 :: d :: ((esc1 w).flatten ++ 10 :: r) := by simp
      rw [e2, tokOf.eq_def]; dsimp only; rw [if_neg (by decide), if_neg (by decide), if_pos rfl]
      show bare ((esc1 w).flatten ++ 10 :: r) [d] = _
      rw [bare_esc]; rfl
  · rw [if_neg hc]
    refine ⟨10 :: r, ?_, .inr rfl⟩
    have e2 : 34 :: (esc2 (wordOf ls x)).flatten ++ [34, 10] ++ r = 34 :: ((esc2 (wordOf ls x)).flatten ++ 34 :: (10 :: r)) := by simp
    rw [e2, tokOf.eq_def]; dsimp only; rw [if_neg (by decide), if_pos rfl, quoted_esc]; rfl
theorem tok_ws (r : List Nat) : tokOf (10 :: r) = tokOf r := by rw [tokOf.eq_def]; dsimp only; rw [if_pos (by decide)]
end
end Mine
namespace Mine
section
open PySem PySem.W PyProof.Rows PySem.Calls
variable {prog : Program} {w : World} {A : Around} {b s : Shared} {L M : Led} {t u tn : Tok} {e : Env} {La : Addr} {c1 c2 c3 c4 c5 c6 : Addr} {E : Value → Shared → Prop} {Q : Flow → Shared → Prop} {v1 v2 v3 v4 v5 v6 v7 v8 v9 v10 v11 v12 : Option Value}
theorem H.swapApp {P X M : Led} (h : H b (P ++ (X ++ M)) s) : H b (X ++ (P ++ M)) s := by
  refine h.perm ?_
  rw [← List.append_assoc, ← List.append_assoc]
  exact List.perm_append_comm.append_right M
theorem H.swap5 {p1 p2 p3 p4 p5 : Addr × Res} {X M : Led} (h : H b (p1 :: p2 :: p3 :: p4 :: p5 :: (X ++ M)) s) : H b (X ++ (p1 :: p2 :: p3 :: p4 :: p5 :: M)) s := H.swapApp (P := [p1, p2, p3, p4, p5]) h
theorem H.swap5' {p1 p2 p3 p4 p5 : Addr × Res} {X M : Led} (h : H b (X ++ (p1 :: p2 :: p3 :: p4 :: p5 :: M)) s) : H b (p1 :: p2 :: p3 :: p4 :: p5 :: (X ++ M)) s := H.swapApp (P := X) (X := [p1, p2, p3, p4, p5]) h
theorem H.swap1' {p1 : Addr × Res} {X M : Led} (h : H b (X ++ (p1 :: M)) s) : H b (p1 :: (X ++ M)) s := H.swapApp (P := X) (X := [p1]) h
theorem H.swap1 {p1 : Addr × Res} {X M : Led} (h : H b (p1 :: (X ++ M)) s) : H b (X ++ (p1 :: M)) s := H.swapApp (P := [p1]) (X := X) h
noncomputable def RemOk (ls xs rem : List Nat) : Prop := (rem = writ ls xs ∨ rem = 10 :: writ ls xs) ∧ rem.length ≤ 1000 ∧ ∀ c ∈ rem, c < 128
theorem rem_step {ls : List Nat} {x : Nat} {xs rem : List Nat} (h : RemOk ls (x :: xs) rem) (hx : xs.length ≤ 10) : ∃ rem', tokOf rem = some (wordOf ls x, rem') ∧ RemOk ls xs rem' := by
  refine byName fun _ kk_ => ?_
  obtain ⟨hr, hl, hc⟩ := h
  refine kk_ ?_
  clear kk_
  have e : writ ls (x :: xs) = writ1 ls x ++ writ ls xs := rfl
  have ht : tokOf rem = tokOf (writ1 ls x ++ writ ls xs) := by
    rcases hr with rfl | rfl
    · rw [e]
    · rw [tok_ws, e]
  have hin : ∀ c ∈ writ ls xs, c < 128 := fun c hm => hc c (by
    rcases hr with rfl | rfl
    · rw [e]; exact List.mem_append_right _ hm
    · rw [e]; exact .tail _ (List.mem_append_right _ hm))
  have hlen : (writ ls xs).length ≤ 300 := Nat.le_trans (writ_le _ _) (by exact o351 hx)
  refine byName fun _ kk_ => ?_
  obtain ⟨r', h1, h2⟩ := tok_writ1 ls x (writ ls xs)
  refine kk_ ?_
  clear kk_
  refine ⟨r', ht.trans h1, h2, ?_, ?_⟩
  · rcases h2 with rfl | rfl
    · exact o153 hlen
    · simp; exact o352 hlen
  · rcases h2 with rfl | rfl
    · exact hin
    · intro c hm
      rcases List.mem_cons.mp hm with rfl | hm
      · decide
      · exact hin c hm
theorem rem_end {ls rem : List Nat} (h : RemOk ls [] rem) : tokOf rem = some ([], []) := by
  rcases h.1 with rfl | rfl
  · rfl
  · rfl
theorem s6_c {a : LexA} {f0 f1 f2 f3 nA : Addr} {d0 d1 d2 d3 : FuncData} {n0 : Int} {sv nv : List Value} {ls xs rem : List Nat} (K : LexK b a.C f0 f1 f2 f3 d0 d1 d2 d3) (Fg : FdIs a.fdg gvS [(Str.ofString "signs", a.cg)]) (hiter : Blt b "iter" (.builtin "iter"))
    (he : Ev e La nmW' (clW c1 c2 c3 c4 c5 c6)) (hA : Room A 14) (hn : Has nA (.ls nv) M) (hnv : IntsAre nv (xs.map Int.ofNat)) (hz : xs.length ≤ 10) (hs : Signs sv rem) (hr : RemOk ls xs rem)
    (h : H b ((c3, .cl (some (.ref a.x))) :: (La, .fr lLW [v1, v2, some (.ref nA), v4, v5, v6, v7, v8, v9, v10, v11, v12]) :: (LX a n0 tn sv [] ++ M)) s)
    (kk : ∀ (wA : Addr) (wv : List Value) (n' : Int) (tn' : Tok) (sv' : List Value) (rem' : List Nat) (s' : Shared), StrsAre wv (xs.map fun x => sOf (wordOf ls x)) → Signs sv' rem' → RemOk ls [] rem' →
      H b ((c3, .cl (some (.ref a.x))) :: (La, .fr lLW [v1, v2, some (.ref nA), some (.ref wA), v5, v6, v7, v8, v9, v10, v11, v12]) :: (LX a n' tn' sv' [] ++ (wA, .ls wv) :: M)) s' → Q .next s') : wpAny (model prog w) A (exec (lst 5) e) Q E s := by
  have hK := K.kls
  have M2 := K.m2.fn
  have hnl : nv.length = xs.length := by rw [hnv.length, List.length_map]
  refine lc_use (clos := [("lexer", c3)]) he (by kernel_rfl!) rfl (by kernel_rfl!) (swaps_loc he (by kernel_rfl) rfl (by kernel_rfl)) ?_ (by intro _; rfl)
  walk_at "go"
  have hnX : Has nA (.ls nv) (LX a n0 tn sv [] ++ M) := hn.right
  refine iter_l h (by walk_at "mem") ?_
  clear h; intro it s h
  refine lc_run (cn := []) (nm' := [(".0", .local), ("x", .local), ("lexer", .cell)]) ["x"] (fun _ i out L' => Ex4 fun n' tn' sv' rem' => Cj4 (Signs sv' rem') (RemOk ls (xs.drop i) rem') (StrsAre out ((xs.take i).map fun x => sOf (wordOf ls x))) (L' = (c3, .cl (some (.ref a.x))) :: (La, .fr lLW [v1, v2, some (.ref nA), v4, v5, v6, v7, v8, v9, v10, v11, v12]) :: (LX a n' tn' sv' [] ++ M)))
    (src_l (vs := nv) hA.handled) he rfl (by kernel_rfl!) (by decide +kernel) (by kernel_rfl!) ?_ ?_ h ?_ ?_ ?_
  · rintro _ i out L' C acc vals ⟨n', tn', sv', rem', _, _, _, rfl⟩
    exact .tail (.tail (.tail (.tail hn.right)))
  · rintro _ i out L' ⟨n', tn', sv', rem', _, _, ho, _⟩
    rw [strs_len ho, List.length_map]
    exact Nat.lt_of_le_of_lt (List.length_take_le' _ _) (by walk_at "om")
  · intro ca hca
    obtain rfl : ca = [] := List.length_eq_zero_iff.mp hca
    exact ⟨n0, tn, sv, rem, hs, hr, .nil, rfl⟩
  · clear h hs hr
    intro C acc ca e' i v G out vals L' s E J hJ hca hvl he hi hZ0_ hZ1_ h
    refine byName fun _ kk_ => ?_
    obtain ⟨n', tn', sv', rem', hs, hr, hout, rfl⟩ := hZ1_
    obtain ⟨hv, rfl⟩ := hZ0_
    refine kk_ ?_
    clear kk_
    obtain rfl : ca = [] := List.length_eq_zero_iff.mp hca
    obtain ⟨v0, rfl⟩ := ln1 hvl
    have hi' : i < xs.length := by walk_at "om"
    rw [List.drop_eq_getElem_cons hi'] at hr
    replace hr := hr
    obtain ⟨rem2, ht, hr2⟩ := rem_step hr (by simp; exact o353 hz)
    simp only [List.cons_append, List.nil_append, List.zip_nil_right] at h he ⊢
    replace he := he
    walk_at "go"
    refine wpAny_tests_nil ?_
    rw [if_pos rfl]
    have hf := H.swap5 h
    simp only [LX, List.cons_append, List.nil_append] at h
    walk_at "go"
    walk_at "gm"
    walk_at "cwb0"
    refine tok_c K Fg hiter (hA.less (by walk_at "om")) hf hs ht hr.2.1 hr.2.2 ?_
    clear h hf
    intro n2 tn2 sv2 u s hs2 h
    try dsimp only
    have hf := H.swap5' h
    refine hJ.sm _ _ ⟨_, _, rfl, hf, n2, tn2, sv2, rem2, hs2, hr2, ?_, rfl⟩
    rw [List.take_succ_eq_append_getElem hi', List.map_append, List.map_singleton]
    exact strs_snoc hout _ _
  · clear h hs hr
    intro C acc ca out vals L' s hZ0_ h
    refine byName fun _ kk_ => ?_
    obtain ⟨n', tn', sv', rem', hs, hr, hout, rfl⟩ := hZ0_
    refine kk_ ?_
    clear kk_
    rw [hnl, List.drop_length] at hr
    rw [hnl, List.take_length] at hout
    show wpAny _ _ (assign _ _ _) _ _ _
    walk_at "go"
    refine ⟨_, _, h, fun s h => ?_⟩
    have h2 := h.draw (L' := (acc, _) :: ([(c3, _), (La, _)] ++ (LX a n' tn' sv' [] ++ M))) (by simp only [List.cons_append, List.nil_append]; walk_at "draw")
    have h3 : H b ([(c3, .cl (some (.ref a.x))), (La, .fr lLW [v1, v2, some (.ref nA), some (.ref acc), v5, v6, v7, v8, v9, v10, v11, v12])] ++ (LX a n' tn' sv' [] ++ (acc, .ls out) :: M)) s := by
      have h4 := H.swap1 (X := [_, _] ++ LX a n' tn' sv' []) (M := M) (by rw [List.append_assoc]; exact h2)
      rwa [List.append_assoc] at h4
    exact kk _ _ _ _ _ _ _ hout hs hr h3
end
end Mine
namespace Mine
section
open PySem PySem.W PyProof.Rows PySem.Calls
variable {prog : Program} {w : World} {A : Around} {b s : Shared} {L M : Led} {t u tn : Tok} {e : Env} {La : Addr} {c1 c2 c3 c4 c5 c6 : Addr} {E : Value → Shared → Prop} {Q : Flow → Shared → Prop} {v1 v2 v3 v4 v5 v6 v7 v8 v9 v10 v11 v12 : Option Value}
theorem strs_of3 {α : Type} {f : α → Str} {l : List α} {out : List Value} (h : Paired (fun y v => ∃ u, v = .str (f y) u) l out) : StrsAre out (l.map f) := by
  induction h with
  | nil => exact .nil
  | cons h _ ih => obtain ⟨u, rfl⟩ := h; exact .cons _ _ ih
theorem Paired.mapL {α β : Type} {R : β → Value → Prop} {f : α → β} {l : List α} {vs : List Value} (h : Paired R (l.map f) vs) : Paired (fun a v => R (f a) v) l vs := by
  induction l generalizing vs with
  | nil => cases h; exact .nil
  | cons a l ih => cases h with
    | cons h r => exact .cons h (ih r)
theorem H.pull2 {x y z p q : Addr × Res} {I M : Led} (h : H b (x :: y :: z :: (I ++ p :: q :: M)) s) : H b (p :: q :: y :: z :: (I ++ M)) s := by
  have h1 := h.sub (List.sublist_cons_self ..)
  refine h1.perm ?_
  have e1 : (I ++ p :: q :: M).Perm (p :: q :: (I ++ M)) := List.perm_middle.trans (List.perm_middle.cons _)
  refine ((e1.cons z).cons y).trans ?_
  have e2 : ([y, z] ++ ([p, q] ++ (I ++ M))).Perm ([p, q] ++ ([y, z] ++ (I ++ M))) := by
    rw [← List.append_assoc, ← List.append_assoc [p, q]]
    exact List.perm_append_comm.append_right _
  exact e2
theorem swapL (P X Y : Led) : (P ++ (X ++ Y)).Perm (X ++ (P ++ Y)) := by
  rw [← List.append_assoc, ← List.append_assoc X]
  exact List.perm_append_comm.append_right _
theorem perm4 (P X R I M : Led) : (P ++ (X ++ (R ++ (I ++ M)))).Perm (X ++ (R ++ (I ++ (P ++ M)))) :=
  (swapL P X _).trans (((swapL P R _).trans ((swapL P I M).append_left R)).append_left X)
theorem H.push3 {x y z r d : Addr × Res} {X I M : Led} (h : H b (x :: y :: z :: (X ++ r :: d :: (I ++ M))) s) : H b (X ++ r :: d :: (I ++ x :: y :: z :: M)) s := h.perm (perm4 [x, y, z] X [r, d] I M)
theorem H.pop3 {x y z o r d : Addr × Res} {X I M : Led} (h : H b (X ++ o :: r :: d :: (I ++ x :: y :: z :: M)) s) : H b (x :: y :: z :: (X ++ o :: r :: d :: (I ++ M))) s := h.perm (perm4 [x, y, z] X [o, r, d] I M).symm
theorem s7_c {nA wA lA fw : Addr} {fdw : FuncData} {nv wv lv : List Value} {ls xs : List Nat} (Dw : Def b "_law_word" 19 fw fdw) (hrange : Blt b "range" (.type "range")) (he : Ev e La nmW' (clW c1 c2 c3 c4 c5 c6)) (hA : Room A 14)
    (hn : Has nA (.ls nv) M) (hnv : IntsAre nv (xs.map Int.ofNat)) (hz : xs.length ≤ 10) (hw : Has wA (.ls wv) M) (hwv : StrsAre wv (xs.map fun x => sOf (wordOf ls x))) (hl : Has lA (.ls lv) M) (hlv : StrsAre lv (ls.map ch1)) (h4 : ls.length = 4)
    (h : H b ((c2, .cl (some (.ref lA))) :: (La, .fr lLW [v1, v2, some (.ref nA), some (.ref wA), v5, v6, v7, v8, v9, v10, v11, v12]) :: M) s)
    (kk : ∀ s', H b ((c2, .cl (some (.ref lA))) :: (La, .fr lLW [v1, v2, some (.ref nA), some (.ref wA), v5, v6, v7, v8, v9, v10, v11, v12]) :: M) s' → Q .next s') : wpAny (model prog w) A (exec (lst 6) e) Q E s := by
  have gw := Dw.glb
  have Fw := Dw.fn
  have hnl : nv.length = xs.length := by rw [hnv.length, List.length_map]
  refine wpAny_If ?_
  walk_at "go"
  refine lc_open (clos := [("letters", c2)]) he (by kernel_rfl!) rfl (by kernel_rfl!) ?_ (by intro _; rfl)
  walk_at "go"
  refine iter_l h (by walk_at "mem") ?_
  clear h; intro it s h
  refine lc_pure (nm' := [(".0", .local), ("x", .local), ("_law_word", .globalImplicit), ("letters", .cell)]) ["x"] (fun j o => match o with | some y => ∃ u, y = .str (sOf (wordOf ls (xs.getD j 0))) u | none => False)
    (src_l (vs := nv) hA.handled) he rfl (by kernel_rfl!) (by decide +kernel) (by kernel_rfl!) (fun _ _ _ _ => by walk_at "mem") (by walk_at "om") h ?_ ?_
  · clear h
    intro C acc e' j v G out vals s E J hJ hvl he hj hv h
    refine byName fun _ kk_ => ?_
    obtain ⟨hv, rfl⟩ := hv
    obtain ⟨v0, rfl⟩ := ln1 hvl
    refine kk_ ?_
    clear kk_
    obtain ⟨tl, hvl'⟩ := IntsAre.at hnv (k := j) (a := ((xs.getD j 0 : Nat) : Int)) (by rw [List.getElem?_map, List.getD_eq_getElem?_getD, List.getElem?_eq_getElem (by walk_at "om")]; rfl)
    obtain rfl : v = _ := Option.some.inj (hv.symm.trans hvl')
    simp only [List.cons_append, List.nil_append] at h ⊢
    walk_at "go"
    refine wpAny_tests_nil ?_
    rw [if_pos rfl]
    walk_at "go"
    walk_at "cw"
    refine word_c Dw hrange (hA.less (by walk_at "om")) h (by walk_at "mem") hlv h4 ?_
    clear h; intro tu s h
    exact hJ.go (some _) _ ⟨⟨_, rfl⟩, _, [], rfl, h⟩
  · clear h
    intro C acc out vals s hout h s' h
    have hp := hout.map (fun y v => ∃ u, v = .str (sOf (wordOf ls y)) u) (fun j => xs.getD j 0) (fun i y _ hw => hw) (fun i _ hw => hw)
    have ht := strs_of3 hp
    rw [List.map_map, hnl, show ((fun y => sOf (wordOf ls y)) ∘ fun j => xs.getD j 0) = (fun j => (fun y => sOf (wordOf ls y)) (xs.getD j 0)) from rfl, map_rangeA (fun y => sOf (wordOf ls y)) 0 xs rfl] at ht
    refine ne_strs (by have := hA.units; exact o354 this) h (by walk_at "mem") .head hwv ht ?_
    rw [decide_eq_true rfl]
    walk_at "go"
    rw [if_neg (by decide)]
    walk_at "go"
    exact kk _ (h.draw (by walk_at "draw"))
theorem s8_c {nA wA lA fl P' : Addr} {q' : Str} {fdl : FuncData} {nv wv lv : List Value} {ls xs : List Nat} (Dl : Def b "_law_laid" 22 fl fdl) (Y : Lay b) (B : Bm b) (I7 : InnerOf 7 inS "_digits2int" b P' q') (al : Alpha ls) (he : Ev e La nmW' (clW c1 c2 c3 c4 c5 c6)) (hA : Room A 24)
    (hP' : Has P' (.tb (stPos inS) q') M) (hn : Has nA (.ls nv) M) (hnv : IntsAre nv (xs.map Int.ofNat)) (hz : xs.length ≤ 10) (hw : Has wA (.ls wv) M) (hwv : StrsAre wv (xs.map fun x => sOf (wordOf ls x))) (hl : Has lA (.ls lv) M) (hlv : StrsAre lv (ls.map ch1))
    (h : H b ((c2, .cl (some (.ref lA))) :: (La, .fr lLW [v1, v2, some (.ref nA), some (.ref wA), v5, v6, v7, v8, v9, v10, v11, v12]) :: M) s)
    (kk : ∀ (rA dA : Addr) (its : List It) (rv : List Value) (ri : List Int) (s' : Shared), its.map (·.x) = laidX xs → IntsAre rv ri → ri.Pairwise (· ≤ ·) → ri.Perm ((laidX xs).map fun x => ((x % 16 : Nat) : Int)) →
      H b ((c2, .cl (some (.ref lA))) :: (La, .fr lLW [v1, v2, some (.ref nA), some (.ref wA), some (.ref rA), some (.ref dA), v7, v8, v9, v10, v11, v12]) :: (rA, .ls rv) :: (dA, .ls (its.map fun i => .ref i.a)) :: (its.map (It.res ls) ++ M)) s' → Q .next s') : wpAny (model prog w) A (exec (lst 7) e) Q E s := by
  have gl := Dl.glb
  have Fl := Dl.fn
  refine asg_tup he ?_ (by k_dflt rfl) (by k_dflt rfl)
  walk_at "go"
  walk_at "cw"
  refine laid_c Dl Y B I7 al (hA.less (by walk_at "om")) h (.tail (.tail hP')) (by walk_at "mem") hlv (by walk_at "mem") hwv (by walk_at "mem") hnv hz ?_
  clear h
  intro T rA dA its rv ri s hx hri hso hpe h
  try dsimp only
  refine as_tup2 hA.handled h .head ?_ (by k_dflt rfl)
  clear h; intro s h
  have h2 := H.pull2 h
  clear h; have h := h2; clear h2
  walk_at "go"
  exact kk rA dA its rv ri _ hx hri hso hpe h
theorem s9_c {a : LexA} {f0 f1 f2 f3 fp lA rA dA : Addr} {d0 d1 d2 d3 fdp : FuncData} {n : Int} {sv lv rv : List Value} {ls ms : List Nat} {ri : List Int} {its : List It} {n0 : Nat}
    (K : LexK b a.C f0 f1 f2 f3 d0 d1 d2 d3) (D : Def b "_law_pushed_down" 23 fp fdp) (Y : Psh b) (al : AlphaP ls) (he : Ev e La nmW' (clW c1 c2 c3 c4 c5 c6)) (hA : Room A 24)
    (h : H b ((c3, .cl (some (.ref a.x))) :: (c2, .cl (some (.ref lA))) :: (La, .fr lLW [v1, v2, v3, v4, some (.ref rA), some (.ref dA), v7, v8, v9, v10, v11, v12]) :: (LX a n tn sv [] ++ (rA, .ls rv) :: (dA, .ls (its.map fun i => .ref i.a)) :: (its.map (It.res ls) ++ M))) s)
    (hl : Has lA (.ls lv) M) (hlv : StrsAre lv (ls.map ch1)) (hms : ms = its.map fun (i : It) => i.x % 16) (hnd : ms.Nodup) (hlen : its.length ≤ 10)
    (hri : IntsAre rv ri) (hso : ri.Pairwise (· ≤ ·)) (hpe : ri.Perm (ms.map fun (m : Nat) => (m : Int))) (hn0 : n0 ≤ s.toks) (hlt : ∀ v ∈ lv, ∃ x u, v = .str x u ∧ u ≠ 0 ∧ u < n0)
    (kk : ∀ (oA : Addr) (ov rv' : List Value) (ri' : List Int) (s' : Shared), StrsAre ov ((pushN ms 4).map fun m => sOf (wordOf ls m)) → IntsAre rv' ri' → ri'.Pairwise (· ≤ ·) → ri'.Perm ((pushN ms 4).map fun (m : Nat) => (m : Int)) →
      H b ((c3, .cl (some (.ref a.x))) :: (c2, .cl (some (.ref lA))) :: (La, .fr lLW [v1, v2, v3, v4, some (.ref rA), some (.ref dA), some (.ref oA), v8, v9, v10, v11, v12]) :: (LX a n tn sv [] ++ (oA, .ls ov) :: (rA, .ls rv') :: (dA, .ls (its.map fun i => .ref i.a)) :: (its.map (It.res ls) ++ M))) s' → Q .next s') : wpAny (model prog w) A (exec (lst 8) e) Q E s := by
  have gp := D.glb
  have Fp := D.fn
  refine wpAny_Assign_Name ?_ (by k_dflt rfl)
  walk_at "go"
  walk_at "cw"
  refine pushed_c K D Y al (hA.less (by walk_at "om")) (H.push3 h) (.tail (.tail (.tail hl))) hlv hms hnd hlen hri hso hpe hn0 hlt ?_
  clear h
  intro oA ov rv' ri' s h1 h2 h3 h4 h
  have h5 := H.pop3 h
  clear h; have h := h5; clear h5
  try dsimp only
  walk_at "go"
  exact kk oA ov rv' ri' _ h1 h2 h3 h4 h
theorem s10_c {nA fw : Addr} {fdw : FuncData} {nv : List Value} {xs : List Nat} (D : Def b "_law_winners" 24 fw fdw) (Y : Won b) (he : Ev e La nmW' (clW c1 c2 c3 c4 c5 c6)) (hA : Room A 24)
    (hn : Has nA (.ls nv) M) (hnv : IntsAre nv (xs.map Int.ofNat)) (hz : xs.length ≤ 10)
    (h : H b ((La, .fr lLW [v1, v2, some (.ref nA), v4, v5, v6, v7, v8, v9, v10, v11, v12]) :: M) s)
    (kk : ∀ (uA : Addr) (uv : List Value) (s' : Shared), IntsAre uv ((dueOf xs).map Int.ofNat) → H b ((La, .fr lLW [v1, v2, some (.ref nA), v4, v5, v6, v7, some (.ref uA), v9, v10, v11, v12]) :: (uA, .ls uv) :: M) s' → Q .next s') : wpAny (model prog w) A (exec (lst 9) e) Q E s := by
  have gw := D.glb
  have Fw := D.fn
  refine wpAny_Assign_Name ?_ (by k_dflt rfl)
  walk_at "go"
  walk_at "cw"
  refine winners_c D Y (hA.less (by walk_at "om")) h (by walk_at "mem") hnv hz ?_
  clear h
  intro uA uv s hu h
  try dsimp only
  walk_at "go"
  exact kk uA uv _ hu (h.draw (by walk_at "draw"))
end
end Mine
namespace Mine
section
open PySem PySem.W PyProof.Rows PySem.Calls
variable {prog : Program} {w : World} {A : Around} {b s : Shared} {L M : Led} {t u tn : Tok} {e : Env} {La : Addr} {c1 c2 c3 c4 c5 c6 : Addr} {E : Value → Shared → Prop} {Q : Flow → Shared → Prop} {v1 v2 v3 v4 v5 v6 v7 v8 v9 v10 v11 v12 : Option Value}
theorem sorted_uniq {ss ts : List Str} (hp : ss.Perm ts) (h1 : sortedS ss = true) (h2 : sortedS ts = true) : ss = ts := by
  have pw : ∀ {l : List Str}, sortedS l = true → l.Pairwise (fun x y => x.cps.toList ≤ y.cps.toList) := by
    intro l hl
    cases l with
    | nil => exact .nil
    | cons p l =>
      have key : ∀ (l : List Str) (p : Str), risingS p l = true → (p :: l).Pairwise (fun x y => x.cps.toList ≤ y.cps.toList) := by
        intro l
        induction l with
        | nil => intro p _; exact List.pairwise_singleton _ _
        | cons x r ih =>
          intro p hp
          have h := Bool.and_eq_true_iff.mp hp
          have hr := ih x h.2
          have hle : p.cps.toList ≤ x.cps.toList := by
            have h0 := h.1
            rw [ltCps_eq] at h0
            have : ¬ x.cps.toList < p.cps.toList := by simpa using h0
            exact List.not_lt.mp this
          refine List.pairwise_cons.mpr ⟨fun y hy => ?_, hr⟩
          rcases List.mem_cons.mp hy with rfl | hy
          · exact hle
          · exact List.le_trans hle ((List.pairwise_cons.mp hr).1 y hy)
      exact key l p hl
  refine List.Perm.eq_of_pairwise (le := fun x y => x.cps.toList ≤ y.cps.toList) (fun a c _ _ hx hy => ?_) (pw h1) (pw h2) hp
  have := List.le_antisymm hx hy
  cases a; cases c
  simp only [Str.mk.injEq]
  exact Array.toList_inj.mp this
theorem H.swap3 {x y z : Addr × Res} {X M : Led} (h : H b (x :: y :: z :: (X ++ M)) s) : H b (X ++ x :: y :: z :: M) s := H.swapApp (P := [x, y, z]) h
theorem H.swap3' {x y z : Addr × Res} {X M : Led} (h : H b (X ++ x :: y :: z :: M) s) : H b (x :: y :: z :: (X ++ M)) s := H.swapApp (P := X) (X := [x, y, z]) h
theorem s11_c {a : LexA} {f0 f1 f2 f3 fw lA rA uA oA : Addr} {d0 d1 d2 d3 fdw : FuncData} {n0 : Int} {sv lv rv uv ov : List Value} {ls rem due : List Nat} {lws : List Str} (K : LexK b a.C f0 f1 f2 f3 d0 d1 d2 d3) (Fg : FdIs a.fdg gvS [(Str.ofString "signs", a.cg)]) (hiter : Blt b "iter" (.builtin "iter"))
    (Dw : Def b "_law_word" 19 fw fdw) (hrange : Blt b "range" (.type "range")) (hsorted : Blt b "sorted" (.builtin "sorted")) (he : Ev e La nmW' (clW c1 c2 c3 c4 c5 c6)) (hA : Room A 14)
    (hs : Signs sv rem) (hr : RemOk ls [] rem) (hl : Has lA (.ls lv) M) (hlv : StrsAre lv (ls.map ch1)) (h4 : ls.length = 4) (hrA : Has rA (.ls rv) M) (hrv : IntsAre rv (due.map Int.ofNat)) (huA : Has uA (.ls uv) M) (huv : IntsAre uv (due.map Int.ofNat)) (hdl : due.length ≤ 20)
    (hoA : Has oA (.ls ov) M) (hov : StrsAre ov lws) (hperm : lws.Perm (due.map fun m => sOf (wordOf ls m)))
    (h : H b ((c3, .cl (some (.ref a.x))) :: (c2, .cl (some (.ref lA))) :: (La, .fr lLW [v1, v2, v3, v4, some (.ref rA), v6, some (.ref oA), some (.ref uA), v9, v10, v11, v12]) :: (LX a n0 tn sv [] ++ M)) s)
    (kk : ∀ (s' : Shared), H b ((c3, .cl (some (.ref a.x))) :: (c2, .cl (some (.ref lA))) :: (La, .fr lLW [v1, v2, v3, v4, some (.ref rA), v6, some (.ref oA), some (.ref uA), v9, v10, v11, v12]) :: M) s' → Q .next s') : wpAny (model prog w) A (exec (lst 10) e) Q E s := by
  have hK := K.kls
  have M2 := K.m2.fn
  have gw := Dw.glb
  have Fw := Dw.fn
  have hu9 : A.units ≤ 9000 := by have := hA.units; exact o354 this
  have hf := H.swap3 h
  refine wpAny_If ?_
  simp only [LX, List.cons_append, List.nil_append] at h
  walk_at "go"
  walk_at "gm"
  walk_at "cwb0"
  refine tok_c K Fg hiter (hA.less (by walk_at "om")) hf hs (rem_end hr) hr.2.1 hr.2.2 ?_
  clear h hf
  intro n2 tn2 sv2 u s hs2 h
  have h2 := (H.swap3' h).sub (((List.sublist_append_right (LX a n2 tn2 sv2 []) M).cons_cons _).cons_cons _ |>.cons_cons _)
  clear h; have h := h2; clear h2
  try dsimp only
  walk_at "go"
  rw [show ((sOf [] != Str.ofString "") : Bool) = false from rfl]
  walk_at "go"
  rw [if_neg (by decide)]
  walk_at "go"
  refine ne_ints hu9 h (by walk_at "mem") (by walk_at "mem") hrv huv ?_
  rw [decide_eq_true rfl]
  walk_at "go"
  rw [if_neg (by decide)]
  walk_at "go"
  have hol : ov.length < 64 := by rw [strs_len hov, hperm.length_eq, List.length_map]; walk_at "om"
  refine sort_s h (by walk_at "mem") hov hol ?_
  clear h; intro qA qv qs s hq1 hq2 hq3 h
  walk_at "go"
  refine lc_open (clos := [("letters", c2)]) he (by kernel_rfl!) rfl (by kernel_rfl!) ?_ (by intro _; rfl)
  walk_at "go"
  refine iter_l h (by walk_at "mem") ?_
  clear h; intro it s h
  have hul : uv.length = due.length := by rw [huv.length, List.length_map]
  refine lc_pure (nm' := [(".0", .local), ("s", .local), ("_law_word", .globalImplicit), ("letters", .cell)]) ["s"] (fun j o => match o with | some y => ∃ u, y = .str (sOf (wordOf ls (due.getD j 0))) u | none => False)
    (src_l (vs := uv) hA.handled) he rfl (by kernel_rfl!) (by decide +kernel) (by kernel_rfl!) (fun _ _ _ _ => by walk_at "mem") (by walk_at "om") h ?_ ?_
  · clear h
    intro C acc e' j v G out vals s E J hJ hvl he hj hv h
    refine byName fun _ kk_ => ?_
    obtain ⟨hv, rfl⟩ := hv
    obtain ⟨v0, rfl⟩ := ln1 hvl
    refine kk_ ?_
    clear kk_
    obtain ⟨tl, hvl'⟩ := IntsAre.at huv (k := j) (a := ((due.getD j 0 : Nat) : Int)) (by rw [List.getElem?_map, List.getD_eq_getElem?_getD, List.getElem?_eq_getElem (by walk_at "om")]; rfl)
    obtain rfl : v = _ := Option.some.inj (hv.symm.trans hvl')
    simp only [List.cons_append, List.nil_append] at h ⊢
    walk_at "go"
    refine wpAny_tests_nil ?_
    rw [if_pos rfl]
    walk_at "go"
    walk_at "cw"
    refine word_c Dw hrange (hA.less (by walk_at "om")) h (by walk_at "mem") hlv h4 ?_
    clear h; intro tu s h
    exact hJ.go (some _) _ ⟨⟨_, rfl⟩, _, [], rfl, h⟩
  · clear h
    intro C acc out vals s hout h s' h
    have hp := hout.map (fun y v => ∃ u, v = .str (sOf (wordOf ls y)) u) (fun j => due.getD j 0) (fun i y _ hw => hw) (fun i _ hw => hw)
    have ht := strs_of3 hp
    rw [List.map_map, hul, show ((fun y => sOf (wordOf ls y)) ∘ fun j => due.getD j 0) = (fun j => (fun y => sOf (wordOf ls y)) (due.getD j 0)) from rfl, map_rangeA (fun y => sOf (wordOf ls y)) 0 due rfl] at ht
    have hol2 : out.length < 64 := by rw [strs_len ht, List.length_map]; walk_at "om"
    walk_at "go"
    refine sort_s h (by walk_at "mem") ht hol2 ?_
    clear h; intro zA zv zs s hz1 hz2 hz3 h
    refine ne_strs hu9 h (by walk_at "mem") (by walk_at "mem") hq1 hz1 ?_
    have heq : qs = zs := sorted_uniq ((hq2.trans hperm).trans hz2.symm) hq3 hz3
    rw [decide_eq_true heq]
    walk_at "go"
    rw [if_neg (by decide)]
    walk_at "go"
    rw [if_neg (by decide)]
    walk_at "go"
    exact kk _ (h.draw (by walk_at "draw"))
end
end Mine
namespace Mine
section
open PySem PySem.W PyProof.Rows PySem.Calls
variable {prog : Program} {w : World} {A : Around} {b s : Shared} {L M : Led} {t u tn : Tok} {e : Env} {La : Addr} {c1 c2 c3 c4 c5 c6 : Addr} {E : Value → Shared → Prop} {Q : Flow → Shared → Prop} {v1 v2 v3 v4 v5 v6 v7 v8 v9 v10 v11 v12 : Option Value}
noncomputable def partsOf (wd : List Nat) : List Str := [Str.ofString ""] ++ wd.map ch1 ++ [Str.ofString ""]
noncomputable def patOf (wd : List Nat) : Str := Txt.join (Str.ofString "...") (partsOf wd)
theorem StrsAre.app {vs us : List Value} {xs ys : List Str} (h : StrsAre vs xs) (h' : StrsAre us ys) : StrsAre (vs ++ us) (xs ++ ys) := by
  induction h with
  | nil => exact h'
  | cons n t _ ih => exact .cons n t ih
theorem s12_c {oA : Addr} {ov : List Value} {ls ms : List Nat} (hlist : Blt b "list" (.type "list")) (he : Ev e La nmW' (clW c1 c2 c3 c4 c5 c6)) (hA : Room A 14) (hoA : Has oA (.ls ov) M) (hov : StrsAre ov (ms.map fun m => sOf (wordOf ls m))) (hml : ms.length ≤ 20)
    (h : H b ((c5, .cl none) :: (La, .fr lLW [v1, v2, v3, v4, v5, v6, some (.ref oA), v8, v9, v10, v11, v12]) :: M) s)
    (kk : ∀ (pA : Addr) (pv : List Value) (s' : Shared), StrsAre pv (ms.map fun m => patOf (wordOf ls m)) → H b ((c5, .cl (some (.ref pA))) :: (La, .fr lLW [v1, v2, v3, v4, v5, v6, some (.ref oA), v8, v9, v10, v11, v12]) :: (pA, .ls pv) :: M) s' → Q .next s') : wpAny (model prog w) A (exec (lst 11) e) Q E s := by
  have hol : ov.length = ms.length := by rw [strs_len hov, List.length_map]
  refine wpAny_Assign_Name ?_ (swaps_cell he (by kernel_rfl))
  refine lc_open (clos := []) he (by kernel_rfl!) rfl (by kernel_rfl!) ?_ (by intro _; rfl)
  walk_at "go"
  refine iter_l h (by walk_at "mem") ?_
  clear h; intro it s h
  refine lc_pure (nm' := [(".0", .local), ("word", .local), ("list", .globalImplicit)]) ["word"] (fun j o => match o with | some y => ∃ u, y = .str (patOf (wordOf ls (ms.getD j 0))) u | none => False)
    (src_l (vs := ov) hA.handled) he rfl (by kernel_rfl!) (by decide +kernel) (by kernel_rfl!) (fun _ _ _ _ => by walk_at "mem") (by walk_at "om") h ?_ ?_
  · clear h
    intro C acc e' j v G out vals s E J hJ hvl he hj hv h
    refine byName fun _ kk_ => ?_
    obtain ⟨hv, rfl⟩ := hv
    obtain ⟨v0, rfl⟩ := ln1 hvl
    refine kk_ ?_
    clear kk_
    obtain ⟨tl, hvl'⟩ := StrsAre.at hov (k := j) (a := sOf (wordOf ls (ms.getD j 0))) (by rw [List.getElem?_map, List.getD_eq_getElem?_getD, List.getElem?_eq_getElem (by walk_at "om")]; rfl)
    obtain rfl : v = _ := Option.some.inj (hv.symm.trans hvl')
    have hw4 := wordOf_len ls (ms.getD j 0)
    generalize wordOf ls (ms.getD j 0) = wd at hw4 h hJ
    simp only [List.cons_append, List.nil_append] at h ⊢
    walk_at "go"
    refine wpAny_tests_nil ?_
    rw [if_pos rfl]
    walk_at "go"
    walk_at "gm"
    walk_at "go"
    refine s_list hA.handled h (by show wd.toArray.size ≤ _; simp; exact o265 hw4) ?_
    clear h; intro D dv s hdv h
    have hdl : dv.length = wd.length := by rw [strs_len hdv, List.length_map]
    refine add_l h (by walk_at "mem") (by walk_at "mem") (by simp; exact o355 hdl hw4) ?_
    clear h; intro B1 s h
    walk_at "go"
    refine add_l h (by walk_at "mem") (by walk_at "mem") (by simp; exact o356 hdl hw4) ?_
    clear h; intro B2 s h
    walk_at "go"
    have hdv2 : StrsAre dv (wd.map ch1) := by have e : (sOf wd).cps.toList = wd := by show wd.toArray.toList = _; simp
                                              rw [e] at hdv; exact hdv
    have hparts : ∀ t1 t2, StrsAre ([.str (Str.ofString "") t1] ++ dv ++ [.str (Str.ofString "") t2]) (partsOf wd) := fun t1 t2 => StrsAre.app (StrsAre.app (.cons _ _ .nil) hdv2) (.cons _ _ .nil)
    refine s_join h .head (hparts _ _) (join_ok (B := 1) ?_ ?_) ?_
    · intro y hy
      unfold partsOf at hy
      replace hy := hy
      rcases List.mem_append.mp hy with hy | hy
      · rcases List.mem_append.mp hy with hy | hy
        · rw [List.mem_singleton.mp hy]; decide
        · obtain ⟨c, _, rfl⟩ := List.mem_map.mp hy; exact Nat.le_refl _
      · rw [List.mem_singleton.mp hy]; decide
    · unfold partsOf
      simp only [List.length_append, List.length_map, List.length_singleton]
      show _ * 1 + _ * 3 ≤ _
      exact o357 hw4
    clear h; intro tj s h
    exact hJ.go (some _) _ ⟨⟨tj, rfl⟩, _, [(B2, _), (B1, _), (D, _)], rfl, h.draw (by simp only [List.cons_append, List.nil_append]; walk_at "draw")⟩
  · clear h
    intro C acc out vals s hout h s' h
    have hp := hout.map (fun y v => ∃ u, v = .str (patOf (wordOf ls y)) u) (fun j => ms.getD j 0) (fun i y _ hw => hw) (fun i _ hw => hw)
    have ht := strs_of3 hp
    rw [List.map_map, hol, show ((fun y => patOf (wordOf ls y)) ∘ fun j => ms.getD j 0) = (fun j => (fun y => patOf (wordOf ls y)) (ms.getD j 0)) from rfl, map_rangeA (fun y => patOf (wordOf ls y)) 0 ms rfl] at ht
    walk_at "go"
    exact kk _ _ _ ht (h.draw (by walk_at "draw"))
end
end Mine
namespace Mine
section
open PySem PySem.W PyProof.Rows PySem.Calls
variable {prog : Program} {w : World} {A : Around} {b s : Shared} {L M : Led} {t u tn : Tok} {e : Env} {La : Addr} {c1 c2 c3 c4 c5 c6 : Addr} {E : Value → Shared → Prop} {Q : Flow → Shared → Prop} {v1 v2 v3 v4 v5 v6 v7 v8 v9 v10 v11 v12 : Option Value}
noncomputable def incl (a c : Nat) : Bool := (List.range 4).all fun k => !inSet a k || inSet c k
structure AlphaT (ls : List Nat) : Prop extends AlphaP ls where
  tc : ∀ m < 16, Txt.contains (patOf (wordOf ls m)) "..." = true
  ts : ∀ m < 16, Txt.split (patOf (wordOf ls m)) "..." = Str.empty :: ((wordOf ls m).map ch1 ++ [Str.empty])
  tp : ∀ m < 16, (Builtin.Str.partsBetween (patOf (wordOf ls m)) (Builtin.Str.occurrences (patOf (wordOf ls m)) "..." 0 (patOf (wordOf ls m)).length ((patOf (wordOf ls m)).length + 1)) 3).length ≤ 1000
  tl : ∀ m < 16, (patOf (wordOf ls m)).length ≤ 1000
  te : ∀ m < 16, ∀ n < 16, ell (sOf (wordOf ls n)) (sOf (wordOf ls n)).length (Str.empty :: ((wordOf ls m).map ch1 ++ [Str.empty])) 0 = incl m n
noncomputable def rowOf (ts : List Nat) (x : Nat) : List Int := (ts.map fun m => if incl m (x % 16) = true then 1 else 0) ++ [valOf x]
theorem s13_c {pA dA fe : Addr} {fde : FuncData} {pv : List Value} {ls ts : List Nat} {its : List It} (Y : Ell b) (De : Def b "_ellipsis_match" 16 fe fde) (al : AlphaT ls) (he : Ev e La nmW' (clW c1 c2 c3 c4 c5 c6)) (hA : Room A 14) (hpA : Has pA (.ls pv) M) (hpv : StrsAre pv (ts.map fun m => patOf (wordOf ls m))) (htl : ts.length ≤ 20) (ht16 : ∀ m ∈ ts, m < 16)
    (hdA : Has dA (.ls (its.map fun i => .ref i.a)) M) (hits : ∀ i (hi : i < its.length), Has (its[i].a) (its[i].ob ls) M) (hil : its.length ≤ 20)
    (h : H b ((c5, .cl (some (.ref pA))) :: (La, .fr lLW [v1, v2, v3, v4, v5, some (.ref dA), v7, v8, v9, v10, v11, v12]) :: M) s)
    (kk : ∀ (tA : Addr) (tv : List Value) (N : Led) (s' : Shared), Lines (N ++ M) (ts.length + 1) tv (its.map fun (i : It) => rowOf ts i.x) → H b ((c5, .cl (some (.ref pA))) :: (La, .fr lLW [v1, v2, v3, v4, v5, some (.ref dA), v7, v8, v9, v10, some (.ref tA), v12]) :: (tA, .ls tv) :: (N ++ M)) s' → Q .next s') : wpAny (model prog w) A (exec (lst 12) e) Q E s := by
  have ge := De.glb
  have Fe := De.fn
  have hpl : pv.length = ts.length := by rw [strs_len hpv, List.length_map]
  refine lc_use (clos := [("patterns", c5)]) he (by kernel_rfl!) rfl (by kernel_rfl!) (swaps_loc he (by kernel_rfl) rfl (by kernel_rfl)) ?_ (by intro _; rfl)
  walk_at "go"
  refine iter_l h (by walk_at "mem") ?_
  clear h; intro it s h
  refine lc_run (cn := ["word"]) (nm' := [(".0", .local), ("word", .cell), ("number", .local), ("value", .local), ("patterns", .cell)]) ["number", "value"] (fun ca i out L' => Ex3 fun cw vw N => Cj3 (ca = [cw]) (Lines (N ++ M) (ts.length + 1) out ((its.take i).map fun (i : It) => rowOf ts i.x)) (L' = (cw, .cl vw) :: (c5, .cl (some (.ref pA))) :: (La, .fr lLW [v1, v2, v3, v4, v5, some (.ref dA), v7, v8, v9, v10, v11, v12]) :: (N ++ M)))
    (src_l (vs := its.map fun i => .ref i.a) hA.handled) he rfl (by kernel_rfl!) (by decide +kernel) (by kernel_rfl!) ?_ ?_ h ?_ ?_ ?_
  · rintro ca i out L' C acc vals ⟨cw, vw, N, _, _, rfl⟩
    exact .tail (.tail (.tail (.tail (.tail hdA.right))))
  · rintro ca i out L' ⟨cw, vw, N, _, ho, _⟩
    rw [Paired.len' ho, List.length_map]
    exact Nat.lt_of_le_of_lt (List.length_take_le' _ _) (by walk_at "om")
  · intro ca hca
    obtain ⟨cw, rfl⟩ := ln1 hca
    exact ⟨cw, none, [], rfl, .nil, rfl⟩
  · clear h
    intro C acc ca e' i v G out vals L' s E J hJ hca hvl he hi hZ0_ hZ1_ h
    refine byName fun _ kk_ => ?_
    obtain ⟨cw, vw, N, rfl, hout, rfl⟩ := hZ1_
    obtain ⟨hv, rfl⟩ := hZ0_
    refine kk_ ?_
    clear kk_
    rw [List.length_map] at hi
    replace hi := hi
    refine byName fun _ kk_ => ?_
    obtain ⟨v0, w0, rfl⟩ := ln2 hvl
    refine kk_ ?_
    clear kk_
    obtain rfl : v = .ref its[i].a := by rw [List.getElem?_map, List.getElem?_eq_getElem hi] at hv; exact (Option.some.inj hv).symm
    have hIt := hits i hi
    unfold It.ob at hIt
    have hItX : Has its[i].a (.ob (tup [.str (sOf (wordOf ls its[i].x)) its[i].t1, .int ((its[i].x % 16 : Nat) : Int) its[i].t2, .int (valOf its[i].x) its[i].t3])) (N ++ M) := hIt.right
    simp only [List.cons_append, List.nil_append, List.zip_cons_cons, List.zip_nil_right] at h he ⊢
    replace he := he
    walk_at "go"
    refine wpAny_tests_nil ?_
    rw [if_pos rfl]
    walk_at "go"
    refine lc_open (clos := [("word", cw)]) he (by kernel_rfl!) rfl (by kernel_rfl!) ?_ (by intro _; rfl)
    walk_at "go"
    have hpAX : Has pA (.ls pv) (N ++ M) := hpA.right
    refine iter_l h (by walk_at "mem") ?_
    clear h; intro it2 s h
    have hx16 : its[i].x % 16 < 16 := Nat.mod_lt _ (by decide)
    refine lc_pure (nm' := [(".0", .local), ("pattern", .local), ("_ellipsis_match", .globalImplicit), ("word", .cell)]) ["pattern"] (fun j o => match o with | some y => ∃ u, y = .int (if incl (ts.getD j 0) (its[i].x % 16) = true then 1 else 0) u | none => False)
      (src_l (vs := pv) hA.handled) he rfl (by kernel_rfl!) (by decide +kernel) (by kernel_rfl!) (fun _ _ _ _ => by walk_at "mem") (by walk_at "om") h ?_ ?_
    · clear h
      intro C2 acc2 e2 j v G out2 vals s E J hJ hvl he hj hv h
      refine byName fun _ kk_ => ?_
      obtain ⟨hv, rfl⟩ := hv
      obtain ⟨v0, rfl⟩ := ln1 hvl
      refine kk_ ?_
      clear kk_
      have hg : ts.getD j 0 = ts[j] := by rw [List.getD_eq_getElem?_getD, List.getElem?_eq_getElem (by walk_at "om")]; rfl
      have hm16 : ts.getD j 0 < 16 := by rw [hg]; exact ht16 _ (List.getElem_mem _)
      obtain ⟨tl, hvl'⟩ := StrsAre.at hpv (k := j) (a := patOf (wordOf ls (ts.getD j 0))) (by rw [List.getElem?_map, hg, List.getElem?_eq_getElem (by walk_at "om")]; rfl)
      obtain rfl : v = _ := Option.some.inj (hv.symm.trans hvl')
      rw [← wordOf_mod ls its[i].x] at hJ
      generalize ts.getD j 0 = m at hm16 h hJ ⊢
      simp only [List.cons_append, List.nil_append] at h ⊢
      walk_at "go"
      refine wpAny_tests_nil ?_
      rw [if_pos rfl]
      walk_at "go"
      walk_at "cw"
      have hlen4 := wordOf_len ls m
      refine ellc (d := 0) Y De (hA.less (by walk_at "om")) h (al.tc m hm16) (al.ts m hm16) rfl ?_ ?_ ?_ ?_ (al.tl m hm16) ?_ (al.tp m hm16) ?_
      · simp only [List.length_cons, List.length_append, List.length_map, List.length_nil]
        rw [show (wordOf ls m).length + (0 + 1) + 1 - 1 = (wordOf ls m).length + 1 by exact o358, List.getElem?_cons_succ, List.getElem?_append_right (by simp)]
        simp
      · simp
      · simp; exact o359 hlen4
      · intro y hy
        rcases List.mem_cons.mp hy with rfl | hy
        · decide
        · rcases List.mem_append.mp hy with hy | hy
          · obtain ⟨c, _, rfl⟩ := List.mem_map.mp hy; show 1 ≤ _; decide
          · rw [List.mem_singleton.mp hy]; decide
      · rw [sOf_len]; exact Nat.le_trans (wordOf_len _ _) (by decide)
      rw [← wordOf_mod ls its[i].x, al.te m hm16 _ hx16]
      clear h; intro s h
      try dsimp only
      walk_at "go"
      cases hin : incl m (its[i].x % 16) with
      | true =>
        rw [if_pos rfl]
        walk_at "go"
        exact ⟨⟨_, by rw [hin]; rfl⟩, _, [], rfl, h⟩
      | false =>
        rw [if_neg (by decide)]
        walk_at "go"
        exact ⟨⟨_, by rw [hin]; rfl⟩, _, [], rfl, h⟩
    · clear h
      intro C2 acc2 out2 vals2 s hout2 h s' h
      have hp2 := hout2.map (fun y v => ∃ u, v = .int y u) (fun j => if incl (ts.getD j 0) (its[i].x % 16) = true then (1 : Int) else 0) (fun i y _ hw => hw) (fun i _ hw => hw)
      have hrow := ints_of hp2
      rw [hpl, map_rangeA (fun m => if incl m (its[i].x % 16) = true then (1 : Int) else 0) 0 ts rfl] at hrow
      have ho2 : out2.length = ts.length := by rw [hrow.length, List.length_map]
      walk_at "go"
      refine add_l h (by walk_at "mem") (by walk_at "mem") (by simp; exact o360 ho2 htl) ?_
      clear h; intro rwA s h
      have h2 := h.draw (L' := (C, _) :: (acc, _) :: (it, _) :: (cw, _) :: (c5, _) :: (La, _) :: (rwA, _) :: (N ++ M)) (by walk_at "draw")
      refine hJ.sm _ _ ⟨_, _, rfl, h2, cw, _, (rwA, .ls _) :: N, rfl, ?_, rfl⟩
      rw [List.take_succ_eq_append_getElem hi, List.map_append, List.map_singleton]
      refine Paired.snoc (Paired.imp' (fun _ _ ⟨a, us, e, x, y⟩ => ⟨a, us, e, x.tail, y⟩) hout) ⟨rwA, _, rfl, .head, IntsAre.append hrow (.cons _ _ .nil), ?_⟩
      unfold rowOf
      simp
  · clear h
    intro C acc ca out vals L' s hZ0_ h
    refine byName fun _ kk_ => ?_
    obtain ⟨cw, vw, N, rfl, hout, rfl⟩ := hZ0_
    refine kk_ ?_
    clear kk_
    rw [List.length_map, List.take_length] at hout
    show wpAny _ _ (assign _ _ _) _ _ _
    walk_at "go"
    refine ⟨_, _, h, fun s h => ?_⟩
    exact kk acc out N _ hout (h.draw (by walk_at "draw"))
end
end Mine
namespace Mine
section
open PySem PySem.W PyProof.Rows PySem.Calls
variable {prog : Program} {w : World} {A : Around} {b s : Shared} {L M : Led} {t u tn : Tok} {e : Env} {La : Addr} {c1 c2 c3 c4 c5 c6 : Addr} {E : Value → Shared → Prop} {Q : Flow → Shared → Prop} {v1 v2 v3 v4 v5 v6 v7 v8 v9 v10 v11 v12 : Option Value}
theorem Has.of_mem {a : Addr} {r : Res} : ∀ {L : Led}, (a, r) ∈ L → Has a r L
  | [], h => by cases h
  | p :: L, h => by
    rcases List.mem_cons.mp h with rfl | h
    · exact .head
    · exact .tail (Has.of_mem h)
theorem Has.drop2 {a : Addr} {us : List Value} {N R : Led} {p q : Addr} {vc : Option Value} {ns : List Str} {vs : List (Option Value)} (h : Has a (.ls us) (N ++ (p, .cl vc) :: (q, .fr ns vs) :: R)) : Has a (.ls us) (N ++ R) := by
  refine Has.of_mem ?_
  have hm := h.mem
  rcases List.mem_append.mp hm with hm | hm
  · exact List.mem_append_left _ hm
  · rcases List.mem_cons.mp hm with e | hm
    · cases e
    · rcases List.mem_cons.mp hm with e | hm
      · cases e
      · exact List.mem_append_right _ hm
theorem H.pullB {x p q : Addr × Res} {I M : Led} (h : H b (x :: (I ++ p :: q :: M)) s) : H b (p :: q :: x :: (I ++ M)) s := by
  refine h.perm ?_
  have e1 : (I ++ p :: q :: M).Perm (p :: q :: (I ++ M)) := List.perm_middle.trans (List.perm_middle.cons _)
  exact (e1.cons x).trans (swapL [x] [p, q] _)
theorem s14_c {P P' : Addr} {q q' : Str} {f9 fs tA : Addr} {fd9 fds : FuncData} {tv : List Value} {rows out : List (List Int)} {m : Nat} (Y : Str2 b) (I6 : InnerOf 6 inT "_int2digits" b P q) (I7 : InnerOf 7 inS "_digits2int" b P' q') (D9 : Def b "int_divmod" 9 f9 fd9) (Ds : Def b "_law_stairs" 25 fs fds)
    (he : Ev e La nmW' (clW c1 c2 c3 c4 c5 c6)) (hA : Room A 360) (hP : Has P (.tb (stPos inT) q) M) (hP' : Has P' (.tb (stPos inS) q') M) (hr : Lines M m tv rows) (hn : rows.length < m) (hm : m ≤ 20) (hS : StairsR rows.length 0 rows out)
    (h : H b ((c6, .cl none) :: (La, .fr lLW [v1, v2, v3, v4, v5, v6, v7, v8, v9, v10, some (.ref tA), v12]) :: (tA, .ls tv) :: M) s)
    (kk : ∀ (sA : Addr) (ov : List Value) (N : Led) (s' : Shared), Lines (N ++ M) m ov out → H b ((c6, .cl (some (.ref sA))) :: (La, .fr lLW [v1, v2, v3, v4, v5, v6, v7, v8, v9, v10, some (.ref tA), v12]) :: (sA, .ls ov) :: (N ++ M)) s' → Q .next s') : wpAny (model prog w) A (exec (lst 13) e) Q E s := by
  have gs := Ds.glb
  have Fs := Ds.fn
  refine wpAny_Assign_Name ?_ (by k_dflt rfl)
  walk_at "go"
  walk_at "cw"
  have hf := h.front (a := tA) (by walk_at "pick")
  refine stairs_c Y I6 I7 D9 Ds (hA.less (by walk_at "om")) hf (Lines.more (N := [_, _]) hr) (.tail (.tail hP)) (.tail (.tail hP')) hn hm hS ?_
  clear h hf
  intro sA ov N s hov h
  have h2 := H.pullB h
  clear h; have h := h2; clear h2
  try dsimp only
  walk_at "go"
  exact kk sA ov N _ (Paired.imp' (fun _ _ ⟨a, us, e, x, y⟩ => ⟨a, us, e, x.drop2, y⟩) hov) h
theorem s15_c {sA dA : Addr} {ov dv : List Value} {out : List (List Int)} {m : Nat} (hrange : Blt b "range" (.type "range")) (hlen : Blt b "len" (.builtin "len")) (habs : Blt b "abs" (.builtin "abs"))
    (he : Ev e La nmW' (clW c1 c2 c3 c4 c5 c6)) (hA : Room A 14) (hsA : Has sA (.ls ov) M) (hov : Lines M m ov out) (hom : out.length < m) (hm : m ≤ 20) (hdA : Has dA (.ls dv) M) (hdl : dv.length = out.length) (hone : ∀ k < out.length, (zat k (out.getD k [])).natAbs = 1)
    (h : H b ((c6, .cl (some (.ref sA))) :: (La, .fr lLW [v1, v2, v3, v4, v5, some (.ref dA), v7, v8, v9, v10, v11, v12]) :: M) s)
    (kk : ∀ (s' : Shared), H b ((c6, .cl (some (.ref sA))) :: (La, .fr lLW [v1, v2, v3, v4, v5, some (.ref dA), v7, v8, v9, v10, v11, v12]) :: M) s' → Q .next s') : wpAny (model prog w) A (exec (lst 14) e) Q E s := by
  have hol : ov.length = out.length := Paired.len' hov
  have hoz : ov.length < 2 ^ 60 := by exact o311 hom hol hm
  have hdz : dv.length < 2 ^ 60 := by exact o361 hoz hdl hol
  refine wpAny_If ?_
  walk_at "go"
  refine lc_open (clos := [("stairs", c6)]) he (by kernel_rfl!) rfl (by kernel_rfl!) ?_ (by intro _; rfl)
  walk_at "go"
  refine b_range1 h ?_
  clear h; intro r _ _ s h
  rw [hol] at h
  refine iter_r (m := out.length) h .head (by decide) (by exact o256) (by exact o312 hoz hol) ?_
  clear h; intro it s h
  refine lc_pure (nm' := [(".0", .local), ("k", .local), ("abs", .globalImplicit), ("stairs", .cell)]) ["k"] (fun j o => match o with | some y => ∃ u, y = .int ((zat j (out.getD j [])).natAbs : Int) u | none => False)
    (src_r (a := 0) (n := out.length) hA.handled) he rfl (by kernel_rfl!) (by decide +kernel) (by kernel_rfl!) (fun _ _ _ _ => trivial) (by exact o362 hom hm) h ?_ ?_
  · clear h
    intro C acc e' j v G outv vals s E J hJ hvl he hj hv h
    refine byName fun _ kk_ => ?_
    obtain ⟨⟨tj, rfl⟩, rfl⟩ := hv
    obtain ⟨v0, rfl⟩ := ln1 hvl
    obtain ⟨lA, us, eA, hlh, hli, hll⟩ := Paired.get' hov (i := j) hj (by walk_at "om")
    refine kk_ ?_
    clear kk_
    have hg : out.getD j [] = out[j] := by rw [List.getD_eq_getElem?_getD, List.getElem?_eq_getElem hj]; rfl
    rw [← hg] at hli hll
    generalize out.getD j [] = line at hli hll h hJ ⊢
    obtain ⟨tz, htz⟩ := IntsAre.at hli (zat_at (k := j) (by exact o314 hj hom hll))
    have hsat : ov[j]? = some (.ref lA) := by rw [List.getElem?_eq_getElem (by walk_at "om"), eA]
    have ej : (0 + (j : Int)).toNat = j := by walk_at "om"
    simp only [List.cons_append, List.nil_append] at h ⊢
    walk_at "go"
    refine wpAny_tests_nil ?_
    rw [if_pos rfl]
    walk_at "go"
    refine item_l h (by walk_at "mem") (by walk_at "om") (by rw [ej]; exact hsat) (by exact o363 hoz hj hol) ?_ rfl
    walk_at "go"
    refine item_l h (by walk_at "mem") (by walk_at "om") (by rw [ej]; exact htz) (by exact o363 hoz hj hol) ?_ rfl
    walk_at "go"
    refine b_abs h ?_
    clear h; intro _ s h
    exact hJ.go (some _) _ ⟨⟨_, rfl⟩, _, [], rfl, h⟩
  · clear h
    intro C acc outv vals s hout h s' h
    have hp := hout.map (fun y v => ∃ u, v = .int y u) (fun j => ((zat j (out.getD j [])).natAbs : Int)) (fun i y _ hw => hw) (fun i _ hw => hw)
    have hi := ints_of hp
    have e1 : (List.range out.length).map (fun j => ((zat j (out.getD j [])).natAbs : Int)) = List.replicate out.length 1 := by
      apply List.ext_getElem
      · simp
      · intro j h1 h2
        have hj : j < out.length := by simpa using h1
        rw [List.getElem_map, List.getElem_range, List.getElem_replicate, hone j hj]; rfl
    rw [e1] at hi
    walk_at "go"
    rw [hdl]
    refine o_rep h (by walk_at "mem") rfl (by exact o364 hom hm) ?_
    clear h; intro rA s h
    refine ne_ints (by have := hA.units; exact o354 this) h (by walk_at "mem") (by walk_at "mem") hi (IntsAre.rep _ _ _) ?_
    rw [decide_eq_true rfl]
    walk_at "go"
    rw [if_neg (by decide)]
    walk_at "go"
    exact kk _ (h.draw (by walk_at "draw"))
theorem s16_c {sA fw : Addr} {fdw : FuncData} {sv : List Value} {lines : List (List Int)} {n : Nat} (D : Def b "_law_weights" 26 fw fdw) (Y : Wts b) (he : Ev e La nmW' (clW c1 c2 c3 c4 c5 c6)) (hA : Room A 14) (hs : Has sA (.ls sv) M) (hl : Lines M (n + 1) sv lines) (hn : lines.length = n) (hn2 : n ≤ 20)
    (hB : ∀ i ≤ n, ∀ x ∈ bk lines n i, Builtin.Int.intBits x ≤ 33554432) (hS : ∀ l ∈ lines, Slim l) (hC : ∀ i < n, Builtin.Int.intBits (zat n (lines.getD (n - 1 - i) []) - bkSum (lines.getD (n - 1 - i) []) (bk lines n i) (n - 1 - i) i) ≤ 33554432)
    (h : H b ((c6, .cl (some (.ref sA))) :: (La, .fr lLW [v1, v2, v3, v4, v5, v6, v7, v8, v9, v10, v11, v12]) :: M) s)
    (kk : ∀ (gA : Addr) (gv : List Value) (s' : Shared), IntsAre gv (bk lines n n) → H b ((La, .fr lLW [v1, v2, v3, v4, v5, v6, v7, v8, v9, v10, v11, some (.ref gA)]) :: (gA, .ls gv) :: M) s' → Q .next s') : wpAny (model prog w) A (exec (lst 15) e) Q E s := by
  have gw := D.glb
  have Fw := D.fn
  refine wpAny_Assign_Name ?_ (by k_dflt rfl)
  walk_at "go"
  walk_at "cw"
  refine weights_c D Y (hA.less (by walk_at "om")) h (.tail (.tail hs)) (Lines.more (N := [_, _]) hl) hn hn2 hB hS hC ?_
  clear h
  intro gA gv s hg h
  try dsimp only
  walk_at "go"
  exact kk gA gv _ hg (h.draw (by walk_at "draw"))
end
end Mine
namespace Mine
section
open PySem PySem.W PyProof.Rows PySem.Calls
variable {prog : Program} {w : World} {A : Around} {b s : Shared} {L M : Led} {t u tn : Tok} {e : Env} {La : Addr} {c1 c2 c3 c4 c5 c6 : Addr} {E : Value → Shared → Prop} {Q : Flow → Shared → Prop} {v1 v2 v3 v4 v5 v6 v7 v8 v9 v10 v11 v12 : Option Value}
structure AlphaU (ls : List Nat) : Prop extends AlphaT ls where
  ui : ∀ m < 16, ∀ n < 16, ((wordOf ls m).filter fun c => !Txt.contains (sOf (wordOf ls n)) (ch1 c)).isEmpty = incl m n
noncomputable def wsum (ts : List Nat) (ws : List Int) (x n : Nat) : Int := ((List.range n).filterMap fun j => if incl (ts.getD j 0) (x % 16) = true then some (zat j ws) else none).sum
theorem filt_rangeN (p : Nat → Bool) (rs : List Nat) : (List.range rs.length).filterMap (fun j => if p (rs.getD j 0) = true then some (rs.getD j 0) else none) = rs.filter p := by
  have h : ∀ l : List Nat, l.filterMap (fun x => if p x = true then some x else none) = l.filter p := by
    intro l
    induction l with
    | nil => rfl
    | cons a l ih =>
      rw [List.filterMap_cons, List.filter_cons]
      by_cases ha : p a = true
      · rw [if_pos ha, if_pos ha, ← ih]
      · rw [if_neg ha, if_neg ha, ← ih]
  rw [← h rs]
  have e : rs = (List.range rs.length).map (fun j => rs.getD j 0) := by
    apply List.ext_getElem
    · simp
    · intro i h1 h2; simp [List.getD_eq_getElem?_getD, List.getElem?_eq_getElem h1]
  conv => rhs; rw [e]
  rw [List.filterMap_map]; rfl
theorem wordOf_lt {ls : List Nat} (h : ∀ c ∈ ls, c < 128) (x : Nat) : ∀ c ∈ wordOf ls x, c < 128 := by
  intro c hc
  unfold wordOf at hc
  refine byName fun _ kk_ => ?_
  obtain ⟨k, _, hk⟩ := List.mem_filterMap.mp hc
  refine kk_ ?_
  clear kk_
  split at hk
  · have e := Option.some.inj hk
    rw [← e, List.getD_eq_getElem?_getD]
    cases hg : ls[k]? with
    | none => show (0 : Nat) < 128; decide
    | some y => exact h y (List.mem_of_getElem? hg)
  · cases hk
theorem s17_c {dA gA oA : Addr} {gv ov : List Value} {ls ts : List Nat} {ws : List Int} {its : List It} (al : AlphaU ls) (hzip : Blt b "zip" (.type "zip")) (hsum : Blt b "sum" (.builtin "sum")) (he : Ev e La nmW' (clW c1 c2 c3 c4 c5 c6)) (hA : Room A 14)
    (hdA : Has dA (.ls (its.map fun i => .ref i.a)) M) (hits : ∀ i (hi : i < its.length), Has (its[i].a) (its[i].ob ls) M) (hgA : Has gA (.ls gv) M) (hgv : IntsAre gv ws) (hoA : Has oA (.ls ov) M) (hov : StrsAre ov (ts.map fun m => sOf (wordOf ls m))) (hwt : ws.length = ts.length) (htl : ts.length ≤ 20) (ht16 : ∀ m ∈ ts, m < 16)
    (hsolve : ∀ i ∈ its, wsum ts ws i.x ts.length = valOf i.x)
    (h : H b ((c4, .cl none) :: (La, .fr lLW [v1, v2, v3, v4, v5, some (.ref dA), some (.ref oA), v8, v9, v10, v11, some (.ref gA)]) :: M) s)
    (kk : ∀ (s' : Shared), H b M s' → Q .next s') : wpAny (model prog w) A (exec (lst 16) e) Q E s := by
  have hgl : gv.length = ts.length := by rw [hgv.length, hwt]
  have hol : ov.length = ts.length := by rw [strs_len hov, List.length_map]
  refine e_for ?_ (by intro _; k_dflt rfl)
  walk_at "go"
  refine iter_l h (by walk_at "mem") ?_
  clear h; intro it s h
  refine loop (src_l (vs := its.map fun i => .ref i.a) hA.handled) (fun i L' => Ex3 fun vw v9 v10 => L' = (c4, .cl vw) :: (La, .fr lLW [v1, v2, v3, v4, v5, some (.ref dA), some (.ref oA), v8, v9, v10, v11, some (.ref gA)]) :: M) ?_ h ?_ ?_ ?_
  · rintro i L' ⟨vw, v9, v10, rfl⟩
    exact .tail (.tail hdA)
  · exact ⟨_, _, _, rfl⟩
  · clear h
    intro i v G L' s E J hJ hi hZ0_ hZ1_ h
    refine byName fun _ kk_ => ?_
    obtain ⟨vw, v9, v10, rfl⟩ := hZ1_
    obtain ⟨hv, rfl⟩ := hZ0_
    refine kk_ ?_
    clear kk_
    rw [List.length_map] at hi
    obtain rfl : v = .ref its[i].a := by rw [List.getElem?_map, List.getElem?_eq_getElem hi] at hv; exact (Option.some.inj hv).symm
    have hIt := hits i hi
    unfold It.ob at hIt
    replace hIt := hIt
    have hsv : ((List.range ts.length).filterMap fun j => if incl (ts.getD j 0) (its[i].x % 16) = true then some (zat j ws) else none).sum = valOf its[i].x := hsolve its[i] (List.getElem_mem _)
    have hx16 : its[i].x % 16 < 16 := Nat.mod_lt _ (by decide)
    rw [← wordOf_mod] at hIt
    generalize hita : its[i].a = ia at h hIt ⊢
    generalize its[i].x % 16 = xm at hIt hx16 hsv
    simp only [List.cons_append, List.nil_append] at h ⊢
    walk_at "go"
    refine lc_open (clos := [("word", c4)]) he (by kernel_rfl!) rfl (by kernel_rfl!) ?_ (by intro _; rfl)
    walk_at "go"
    have hg1 := Has.tail (p := (it, .pr (isLi dA (i + 1)))) (Has.tail (p := (c4, .cl (some (.str (sOf (wordOf ls xm)) its[i].t1)))) (Has.tail (p := (La, .fr lLW [v1, v2, v3, v4, v5, some (.ref dA), some (.ref oA), v8, some (.int (xm : Int) its[i].t2), some (.int (valOf its[i].x) its[i].t3), v11, some (.ref gA)])) hgA))
    have ho1 := Has.tail (p := (it, .pr (isLi dA (i + 1)))) (Has.tail (p := (c4, .cl (some (.str (sOf (wordOf ls xm)) its[i].t1)))) (Has.tail (p := (La, .fr lLW [v1, v2, v3, v4, v5, some (.ref dA), some (.ref oA), v8, some (.int (xm : Int) its[i].t2), some (.int (valOf its[i].x) its[i].t3), v11, some (.ref gA)])) hoA))
    refine b_zip h hg1 ho1 ?_
    clear h; intro z TI TO i1 i2 s h
    refine iter_z h .head ?_
    refine lc_pure (nm' := [(".0", .local), ("weight", .local), ("part", .local), ("word", .cell)]) ["weight", "part"] (fun j o => match o with | some y => incl (ts.getD j 0) xm = true ∧ ∃ u, y = .int (zat j ws) u | none => incl (ts.getD j 0) xm = false)
      (src_z (xs := gv) (ys := ov) (n := ts.length) hA.handled (by rw [hgl, hol, Nat.min_self])) he rfl (by kernel_rfl!) (by decide +kernel) (by kernel_rfl!) (fun _ _ _ _ => ⟨.tail (.tail hg1), .tail (.tail ho1)⟩) (by walk_at "om") h ?_ ?_
    · clear h
      intro C acc e' j v G outv vals s E J hJ hvl he hj hv h
      refine byName fun _ kk_ => ?_
      obtain ⟨T, x, y, rfl, hx, hy, rfl⟩ := hv
      obtain ⟨v0, w0, rfl⟩ := ln2 hvl
      refine kk_ ?_
      clear kk_
      have hg : ts.getD j 0 = ts[j] := by rw [List.getD_eq_getElem?_getD, List.getElem?_eq_getElem hj]; rfl
      have hm16 : ts.getD j 0 < 16 := by rw [hg]; exact ht16 _ (List.getElem_mem _)
      obtain ⟨tx, hx'⟩ := IntsAre.at hgv (zat_at (k := j) (by walk_at "om"))
      obtain ⟨ty, hy'⟩ := StrsAre.at hov (k := j) (a := sOf (wordOf ls (ts.getD j 0))) (by rw [List.getElem?_map, hg, List.getElem?_eq_getElem hj]; rfl)
      obtain rfl : x = _ := Option.some.inj (hx.symm.trans hx')
      obtain rfl : y = _ := Option.some.inj (hy.symm.trans hy')
      have hw4 := wordOf_len ls (ts.getD j 0)
      have hui := al.ui _ hm16 _ hx16
      have hlt := wordOf_lt al.lt (ts.getD j 0)
      generalize incl (ts.getD j 0) xm = ib at hui hJ
      generalize wordOf ls (ts.getD j 0) = wd at hw4 hui hlt h hJ ⊢
      simp only [zX, List.cons_append, List.nil_append] at h hJ ⊢
      replace hJ := hJ
      walk_at "go"
      refine wpAny_tests_one ?_
      walk_at "go"
      refine lc_open (clos := [("word", c4)]) he (by kernel_rfl!) rfl (by kernel_rfl!) ?_ (by intro _; rfl)
      walk_at "go"
      refine iter_s h (ascii_w hlt) ?_
      clear h; intro is s h
      refine lc_pure (nm' := [(".0", .local), ("x", .local), ("word", .cell)]) ["x"] (fun j o => match o with | some y => (!Txt.contains (sOf (wordOf ls xm)) (ch1 (wd.getD j 0))) = true | none => (!Txt.contains (sOf (wordOf ls xm)) (ch1 (wd.getD j 0))) = false)
        (src_s (x := sOf wd) hA.handled) he rfl (by kernel_rfl!) (by decide +kernel) (by kernel_rfl!) (fun _ _ _ _ => trivial) (by show wd.toArray.size < _; simp; walk_at "om") h ?_ ?_
      · clear h
        intro C2 acc2 e2 j2 v G out2 vals s E J hJ hvl he hj hv h
        refine byName fun _ kk_ => ?_
        obtain ⟨⟨c, uc, hc, rfl⟩, rfl⟩ := hv
        obtain ⟨v0, rfl⟩ := ln1 hvl
        refine kk_ ?_
        clear kk_
        have hcd : wd.getD j2 0 = c := by
          have : wd[j2]? = some c := by simpa using hc
          rw [List.getD_eq_getElem?_getD, this]; rfl
        rw [hcd] at hJ
        simp only [List.cons_append, List.nil_append] at h ⊢
        walk_at "go"
        refine wpAny_tests_one ?_
        walk_at "go"
        cases hin : (!Txt.contains (sOf (wordOf ls xm)) (ch1 c)) with
        | false =>
          rw [if_neg (by decide)]
          exact hJ.go none _ ⟨hin, _, [], rfl, h⟩
        | true =>
          rw [if_pos rfl]
          walk_at "go"
          exact ⟨hin, _, [], rfl, h⟩
      · clear h
        intro C2 acc2 out2 vals2 s hout2 h s' h
        have hp2 := hout2.all (fun (_ : Nat) _ => True) (fun j => if (!Txt.contains (sOf (wordOf ls xm)) (ch1 (wd.getD j 0))) = true then some (wd.getD j 0) else none) (fun j y _ hw => ⟨_, by rw [if_pos hw], trivial⟩) (fun j _ hw => by rw [hw]; rfl)
        have hemp : out2.isEmpty = ib := by
          rw [← hui]
          have hl2 := Paired.len' hp2
          have e : (List.range (sOf wd).cps.size).filterMap (fun j => if (!Txt.contains (sOf (wordOf ls xm)) (ch1 (wd.getD j 0))) = true then some (wd.getD j 0) else none) = wd.filter (fun c => !Txt.contains (sOf (wordOf ls xm)) (ch1 c)) := by
            have e1 : (sOf wd).cps.size = wd.length := by show wd.toArray.size = _; simp
            rw [e1]
            exact filt_rangeN (fun c => !Txt.contains (sOf (wordOf ls xm)) (ch1 c)) wd
          rw [e] at hl2
          rw [Bool.eq_iff_iff, List.isEmpty_iff, List.isEmpty_iff, ← List.length_eq_zero_iff, ← List.length_eq_zero_iff, hl2]
        walk_at "go"
        refine eq_nil (by have := hA.units; exact o354 this) h (by walk_at "mem") (by walk_at "mem") ?_
        rw [hemp]
        walk_at "go"
        cases ib with
        | false =>
          rw [if_neg (by decide)]
          exact hJ.go none _ ⟨rfl, _, [], rfl, h.draw (by simp only [List.nil_append]; walk_at "draw")⟩
        | true =>
          rw [if_pos rfl]
          walk_at "go"
          exact ⟨⟨rfl, _, rfl⟩, _, [], rfl, h.draw (by simp only [List.nil_append]; walk_at "draw")⟩
    · clear h
      intro C acc outv vals s hout h s' h
      have hp := hout.all (fun y v => ∃ u, v = .int y u) (fun j => if incl (ts.getD j 0) xm = true then some (zat j ws) else none) (fun j y _ hw => ⟨_, by rw [if_pos hw.1], hw.2⟩) (fun j _ hw => by rw [hw]; rfl)
      have hio := ints_of hp
      walk_at "go"
      refine b_sum hA.handled h (by walk_at "mem") hio ?_
      rw [hsv]
      clear h; intro _ s h
      walk_at "go"
      rw [show (valOf its[i].x != valOf its[i].x) = false by simp]
      rw [if_neg (by decide)]
      walk_at "go"
      exact ⟨_, h.draw (L' := (it, _) :: (c4, _) :: (La, _) :: M) (by walk_at "draw"), _, _, _, rfl⟩
  · clear h
    intro L' s hZ0_ h
    refine byName fun _ kk_ => ?_
    obtain ⟨vw, v9, v10, rfl⟩ := hZ0_
    refine kk_ ?_
    clear kk_
    try dsimp only
    exact kk _ (h.draw (by walk_at "draw"))
end
end Mine
namespace Mine
section
open PySem PySem.W PyProof.Rows PySem.Calls
variable {prog : Program} {w : World} {A : Around} {b s : Shared} {L M : Led} {e : Env} {La : Addr} {c1 c2 c3 c4 c5 c6 : Addr} {E : Value → Shared → Prop} {Q : Flow → Shared → Prop}
open Classical in
theorem H.re {L L' : Led} (h : H b L s) (hp : ∀ x, L.count x = L'.count x) : H b L' s := h.perm (List.perm_iff_count.mpr hp)
theorem Has.move {a : Addr} {r : Res} {L L' : Led} (h : Has a r L) (hs : ∀ p ∈ L, p ∈ L' ∨ ∃ v, p.2 = .cl v) (hr : ∀ v, r ≠ .cl v) : Has a r L' :=
  Has.of_mem ((hs _ h.mem).resolve_right fun ⟨v, e⟩ => hr v e)
theorem Lines.move {L L' : Led} {m : Nat} {vs : List Value} {xss : List (List Int)} (h : Lines L m vs xss) (hs : ∀ p ∈ L, p ∈ L' ∨ ∃ v, p.2 = .cl v) : Lines L' m vs xss :=
  Paired.imp' (fun _ _ ⟨a, us, e, x, y⟩ => ⟨a, us, e, x.move hs (fun v q => by cases q), y⟩) h
structure Sta (b : Shared) (P P' PG : Addr) (q q' qG : Str) : Prop where
  ari : Ari b
  i6 : InnerOf 6 inT "_int2digits" b P q
  i7 : InnerOf 7 inS "_digits2int" b P' q'
  d9 : ∃ f fd, Def b "int_divmod" 9 f fd
  len : Blt b "len" (.builtin "len")
  sum : Blt b "sum" (.builtin "sum")
  range : Blt b "range" (.type "range")
  zip : Blt b "zip" (.type "zip")
  list : Blt b "list" (.type "list")
  iter : Blt b "iter" (.builtin "iter")
  sorted : Blt b "sorted" (.builtin "sorted")
  abs : Blt b "abs" (.builtin "abs")
  rev : Blt b "reversed" (.type "reversed")
  min : Blt b "min" (.builtin "min")
  max : Blt b "max" (.builtin "max")
  dots : ∃ t, Glb b "ELLIPSIS_MARKER" (.str "..." t)
  cls : ∃ C f0 f1 f2 f3 d0 d1 d2 d3, LexK b C f0 f1 f2 f3 d0 d1 d2 d3 ∧ Glb b "_netrclex" (.ref C)
  d11 : ∃ f fd, Glb b "insort_right" (.ref f) ∧ FnIs b f (nth pb 11) fd ∧ Dfl b fd
  d12 : ∃ f fd, Glb b "bisect_right" (.ref f) ∧ FnIs b f (nth pb 12) fd ∧ Dfl b fd
  d13 : ∃ f fd, Glb b "bisect_left" (.ref f) ∧ FnIs b f (nth pb 13) fd ∧ Dfl b fd
  d16 : ∃ f fd, Def b "_ellipsis_match" 16 f fd
  d18 : ∃ f fd, Def b "_law_stream" 18 f fd ∧ TbN b fd PG qG "give"
  d19 : ∃ f fd, Def b "_law_word" 19 f fd
  d20 : ∃ f fd, Def b "_law_written" 20 f fd
  d21 : ∃ f fd, Def b "_law_among" 21 f fd
  d22 : ∃ f fd, Def b "_law_laid" 22 f fd
  d23 : ∃ f fd, Def b "_law_pushed_down" 23 f fd
  d24 : ∃ f fd, Def b "_law_winners" 24 f fd
  d25 : ∃ f fd, Def b "_law_stairs" 25 f fd
  d26 : ∃ f fd, Def b "_law_weights" 26 f fd
structure Plain (xs : List Nat) (ts : List Nat) (out : List (List Int)) : Prop where
  nodup : ((laidX xs).map fun x => x % 16).Nodup
  push : pushN ((laidX xs).map fun x => x % 16) 4 = ts
  due : ts.Perm (dueOf xs)
  st : StairsR ts.length 0 ((laidX xs).map (rowOf ts)) out
  len : out.length = ts.length
  one : ∀ k < out.length, (zat k (out.getD k [])).natAbs = 1
  hB : ∀ i ≤ ts.length, ∀ x ∈ bk out ts.length i, Builtin.Int.intBits x ≤ 33554432
  hS : ∀ l ∈ out, Slim l
  hC : ∀ i < ts.length, Builtin.Int.intBits (zat ts.length (out.getD (ts.length - 1 - i) []) - bkSum (out.getD (ts.length - 1 - i) []) (bk out ts.length i) (ts.length - 1 - i) i) ≤ 33554432
  solve : ∀ x ∈ laidX xs, wsum ts (bk out ts.length ts.length) x ts.length = valOf x
theorem lawNums_len (ns : List Int) : (lawNums ns).length = 6 := by
  unfold lawNums
  have : (lawFront ns).length ≤ 6 := by unfold lawFront; rw [List.length_map]; exact List.length_take_le _ _
  rw [List.length_append, List.length_drop]
  simp only [List.length_cons, List.length_nil]; exact o365 this
theorem placeOf_lt (ns : List Int) : placeOf ns < 8 := by
  unfold placeOf
  have := Int.fmod_lt_of_pos ns.sum (b := 8) (by decide)
  have := Int.fmod_nonneg_of_pos ns.sum (b := 8) (by decide)
  exact o366 (by assumption)
theorem writ1_lt {ls : List Nat} (h : ∀ c ∈ ls, c < 128) (x : Nat) : ∀ c ∈ writ1 ls x, c < 128 := by
  have hw := wordOf_lt h x
  intro c hc
  unfold writ1 at hc
  replace hc := hc
  split at hc
  · rcases List.mem_append.mp hc with hc | hc
    · obtain ⟨y, hy, hcy⟩ := List.mem_flatten.mp hc
      refine byName fun _ kk_ => ?_
      obtain ⟨d, hd, rfl⟩ := List.mem_map.mp hy
      refine kk_ ?_
      clear kk_
      rcases List.mem_cons.mp hcy with rfl | hcy
      · decide
      · rw [List.mem_singleton.mp hcy]; exact hw d hd
    · rw [List.mem_singleton.mp hc]; decide
  · rcases List.mem_append.mp hc with hc | hc
    · rcases List.mem_cons.mp hc with rfl | hc
      · decide
      · obtain ⟨y, hy, hcy⟩ := List.mem_flatten.mp hc
        refine byName fun _ kk_ => ?_
        obtain ⟨d, hd, rfl⟩ := List.mem_map.mp hy
        refine kk_ ?_
        clear kk_
        split at hcy
        · rcases List.mem_cons.mp hcy with rfl | hcy
          · decide
          · rw [List.mem_singleton.mp hcy]; exact hw d hd
        · rw [List.mem_singleton.mp hcy]; exact hw d hd
    · simp at hc; exact o367 hc
theorem law_c {P P' PG sc : Addr} {q q' qG : Str} {sv : List Value} {ns : List Int} {ts : List Nat} {out : List (List Int)} (S : Sta b P P' PG q q' qG) (al : AlphaU (letsOf (placeOf ns))) (pl : Plain (lawNums ns) ts out)
    (he : Ev e La nmW' (clW c1 c2 c3 c4 c5 c6)) (hA : Room A 400) (hP : Has P (.tb (stPos inT) q) M) (hP' : Has P' (.tb (stPos inS) q') M) (hPG : Has PG (.tb (stPos gvS) qG) M) (hsc : b.heap.IsList sc sv.toArray) (hi : IntsAre sv ns) (hl : ns.length ≤ 64)
    (h : H b ((c1, .cl none) :: (c2, .cl none) :: (c3, .cl none) :: (c4, .cl none) :: (c5, .cl none) :: (c6, .cl none) :: (La, .fr lLW [some (.ref sc), none, none, none, none, none, none, none, none, none, none, none]) :: M) s)
    (kk : ∀ N s', H b (N ++ M) s' → Q (.ret (.bool true)) s') : wpAny (model prog w) A (execs (stBody (nth pb 27)) e) Q E s := by
  refine byName fun _ kk_ => ?_
  obtain ⟨C, f0, f1, f2, f3, d0, d1, d2, d3, K, hC⟩ := S.cls
  obtain ⟨f16, fd16, D16⟩ := S.d16
  obtain ⟨f18, fd18, D18, T18⟩ := S.d18
  obtain ⟨f19, fd19, D19⟩ := S.d19
  obtain ⟨f20, fd20, D20⟩ := S.d20
  obtain ⟨f22, fd22, D22⟩ := S.d22
  obtain ⟨f23, fd23, D23⟩ := S.d23
  obtain ⟨f24, fd24, D24⟩ := S.d24
  obtain ⟨f25, fd25, D25⟩ := S.d25
  obtain ⟨f26, fd26, D26⟩ := S.d26
  obtain ⟨f9, fd9, D9⟩ := S.d9
  refine kk_ ?_
  clear kk_
  have Wd : Wrd b := ⟨S.d19, S.range⟩
  have Ly : Lay b := ⟨S.zip, S.len, S.d21, S.d13, S.d12, S.d11⟩
  have El : Ell b := ⟨S.dots, S.len⟩
  have Ps : Psh b := ⟨Ly, El, S.range, S.len, S.d16⟩
  have hp8 := placeOf_lt ns
  have h6 := lawNums_len ns
  generalize hpl : placeOf ns = p at al hp8
  generalize hxs : lawNums ns = xs at pl h6
  refine st_hide ?_
  intro _ _
  refine s1_c he (hA.less (by walk_at "om")) hsc hi (by walk_at "om") (M := (c1, .cl none) :: (c2, .cl none) :: (c3, .cl none) :: (c4, .cl none) :: (c5, .cl none) :: (c6, .cl none) :: M) (h.draw (by walk_at "draw")) ?_
  clear h; intro fA fv s hfv h
  refine StJ.nx (by assumption) _ ?_
  refine st_hide ?_
  intro _ _
  refine s2_c S.len he hfv h ?_
  clear h; intro nA nv s hnv h
  refine StJ.nx (by assumption) _ ?_
  rw [hxs] at hnv
  replace hnv := hnv
  refine st_hide ?_
  intro _ _
  refine s3_c (M := (nA, .ls nv) :: (c2, .cl none) :: (c3, .cl none) :: (c4, .cl none) :: (c5, .cl none) :: (c6, .cl none) :: M) S.sum he (hA.less (by walk_at "om")) hsc hi (h.draw (by walk_at "draw")) ?_
  clear h; intro tp s ht1 h
  refine StJ.nx (by assumption) _ ?_
  rw [hpl] at h
  refine st_hide ?_
  intro _ _
  refine s4_c (M := (nA, .ls nv) :: (c3, .cl none) :: (c4, .cl none) :: (c5, .cl none) :: (c6, .cl none) :: M) S.range he (hA.less (by walk_at "om")) hp8 ht1 (h.draw (by walk_at "draw")) ?_
  clear h ht1; intro lA lv s hlv hlt h
  refine StJ.nx (by assumption) _ ?_
  have hn0 : s.toks ≤ s.toks := Nat.le_refl _
  generalize hn : s.toks = n0 at hlt hn0
  rw [← hn] at hn0
  replace hn0 := hn0
  have hn0 : n0 ≤ s.toks := by rw [hn]; exact Nat.le_refl _
  clear hn
  refine st_hideT hn0 ?_
  intro _ _ _
  refine s5_c (M := (lA, .ls lv) :: (nA, .ls nv) :: (c4, .cl none) :: (c5, .cl none) :: (c6, .cl none) :: M) K hC ⟨S.list, S.ari.bm⟩ D18 T18 D20 Wd he (hA.less (by walk_at "om")) (by walk_at "tb") (by walk_at "mem") hlv al.len al.lt (by walk_at "mem") hnv (by exact o368 h6) (h.draw (by walk_at "draw")) ?_
  clear h hn0; intro a tl sg s haC Fg hsg h
  refine StJT.nx (by assumption) _ ?_
  intro hn0
  subst haC
  try dsimp only
  refine st_hideT hn0 ?_
  intro _ _ _
  have hrem : RemOk (letsOf p) xs (writ (letsOf p) xs) := ⟨.inl rfl, Nat.le_trans (writ_le _ _) (by exact o369 h6), fun c hc => by
    obtain ⟨x, _, hcx⟩ := List.mem_flatMap.mp hc
    exact writ1_lt al.lt x c hcx⟩
  refine s6_c (M := (c2, .cl (some (.ref lA))) :: (lA, .ls lv) :: (nA, .ls nv) :: (c4, .cl none) :: (c5, .cl none) :: (c6, .cl none) :: M) K Fg S.iter he (hA.less (by walk_at "om")) (by walk_at "mem") hnv (by exact o368 h6) hsg hrem (h.re (by intro x; simp only [List.count_append, List.count_cons]; ac_rfl)) ?_
  clear h hn0 hsg hrem; intro wA wv n1 tn1 sv1 rem1 s hwv hsv1 hrem1 h
  refine StJT.nx (by assumption) _ ?_
  intro hn0
  try dsimp only
  refine st_hideT hn0 ?_
  intro _ _ _
  have hnX : Has nA (.ls nv) ((c3, .cl (some (.ref a.x))) :: (LX a n1 tn1 sv1 [] ++ (wA, .ls wv) :: (lA, .ls lv) :: (nA, .ls nv) :: (c4, .cl none) :: (c5, .cl none) :: (c6, .cl none) :: M)) := .tail (Has.right (.tail (.tail .head)))
  have hwX : Has wA (.ls wv) ((c3, .cl (some (.ref a.x))) :: (LX a n1 tn1 sv1 [] ++ (wA, .ls wv) :: (lA, .ls lv) :: (nA, .ls nv) :: (c4, .cl none) :: (c5, .cl none) :: (c6, .cl none) :: M)) := .tail (Has.right .head)
  have hlX : Has lA (.ls lv) ((c3, .cl (some (.ref a.x))) :: (LX a n1 tn1 sv1 [] ++ (wA, .ls wv) :: (lA, .ls lv) :: (nA, .ls nv) :: (c4, .cl none) :: (c5, .cl none) :: (c6, .cl none) :: M)) := .tail (Has.right (.tail .head))
  refine s7_c D19 S.range he (hA.less (by walk_at "om")) hnX hnv (by exact o368 h6) hwX hwv hlX hlv al.len (h.re (by intro x; simp only [List.count_append, List.count_cons]; ac_rfl)) ?_
  clear h hn0; intro s h
  refine StJT.nx (by assumption) _ ?_
  intro hn0
  try dsimp only
  refine st_hideT hn0 ?_
  intro _ _ _
  refine s8_c D22 Ly S.ari.bm S.i7 al.toAlpha he (hA.less (by walk_at "om")) (.tail (Has.right (.tail (.tail (.tail (.tail (.tail (.tail hP')))))))) hnX hnv (by exact o368 h6) hwX hwv hlX hlv h ?_
  clear h hn0; intro rA dA its rv ri s hits hri hso hpe h
  refine StJT.nx (by assumption) _ ?_
  intro hn0
  try dsimp only
  refine st_hideT hn0 ?_
  intro _ _ _
  have hil : its.length ≤ 6 := by rw [← List.length_map (f := (·.x)), hits, ← h6]; exact laidX_len xs
  have hms : (laidX xs).map (fun x => x % 16) = its.map fun (i : It) => i.x % 16 := by rw [← hits, List.map_map]; rfl
  have hpe' : ri.Perm (((laidX xs).map fun x => x % 16).map fun (m : Nat) => (m : Int)) := by rw [List.map_map]; exact hpe
  refine s9_c (M := (wA, .ls wv) :: (lA, .ls lv) :: (nA, .ls nv) :: (c4, .cl none) :: (c5, .cl none) :: (c6, .cl none) :: M) K D23 Ps al.toAlphaP he (hA.less (by walk_at "om")) (h.re (by intro x; simp only [List.count_append, List.count_cons]; ac_rfl)) (by walk_at "mem") hlv hms pl.nodup (by exact o370 hil) hri hso hpe' hn0 hlt ?_
  clear h hn0; intro oA ov rv2 ri2 s hov hri2 hso2 hpe2 h
  refine StJT.nx (by assumption) _ ?_
  intro hn0
  clear hn0 hlt hpe hpe' hso hri
  rw [pl.push] at hov hpe2
  replace hov := hov
  try dsimp only
  have ht16 : ∀ m ∈ ts, m < 16 := by
    rw [← pl.push]
    exact (pushN_ok pl.nodup (fun m hm => by obtain ⟨x, _, rfl⟩ := List.mem_map.mp hm; exact Nat.mod_lt _ (by decide)) 4).2.1
  have htlen : ts.length = its.length := by
    rw [← pl.push, (pushN_ok pl.nodup (fun m hm => by obtain ⟨x, _, rfl⟩ := List.mem_map.mp hm; exact Nat.mod_lt _ (by decide)) 4).2.2, hms, List.length_map]
  have hdlen : (dueOf xs).length = ts.length := pl.due.length_eq.symm
  have hdue : ri2 = (dueOf xs).map Int.ofNat := by
    refine List.Perm.eq_of_pairwise (le := (· ≤ ·)) (fun a c _ _ h1 h2 => Int.le_antisymm h1 h2) hso2 ?_ (hpe2.trans (pl.due.map _))
    rw [List.pairwise_map]
    unfold dueOf
    refine List.Pairwise.filter _ ?_
    exact List.Pairwise.imp (fun h => Int.ofNat_le.mpr (Nat.le_of_lt h)) List.pairwise_lt_range
  refine st_hide ?_
  intro _ _
  refine s10_c (M := (c3, .cl (some (.ref a.x))) :: (c2, .cl (some (.ref lA))) :: (LX a n1 tn1 sv1 [] ++ (oA, .ls ov) :: (rA, .ls rv2) :: (dA, .ls (its.map fun i => .ref i.a)) :: (its.map (It.res (letsOf p)) ++ (wA, .ls wv) :: (lA, .ls lv) :: (nA, .ls nv) :: (c4, .cl none) :: (c5, .cl none) :: (c6, .cl none) :: M)))
    D24 ⟨S.range, S.min, S.max⟩ he (hA.less (by walk_at "om")) (.tail (.tail (Has.right (.tail (.tail (.tail (Has.right (.tail (.tail .head))))))))) hnv (by exact o368 h6) (h.re (by intro x; simp only [List.count_append, List.count_cons]; ac_rfl)) ?_
  clear h; intro uA uv s huv h
  refine StJ.nx (by assumption) _ ?_
  try dsimp only
  refine st_hide ?_
  intro _ _
  refine s11_c (M := (uA, .ls uv) :: (oA, .ls ov) :: (rA, .ls rv2) :: (dA, .ls (its.map fun i => .ref i.a)) :: (its.map (It.res (letsOf p)) ++ (wA, .ls wv) :: (lA, .ls lv) :: (nA, .ls nv) :: (c4, .cl none) :: (c5, .cl none) :: (c6, .cl none) :: M))
    K Fg S.iter D19 S.range S.sorted he (hA.less (by walk_at "om")) hsv1 hrem1 (.tail (.tail (.tail (.tail (Has.right (.tail .head)))))) hlv al.len (by walk_at "mem") (hdue ▸ hri2) (by walk_at "mem") huv (by exact o371 hdlen htlen hil) (by walk_at "mem") hov (pl.due.map _) (h.re (by intro x; simp only [List.count_append, List.count_cons]; ac_rfl)) ?_
  clear h hsv1 hrem1; intro s h
  refine StJ.nx (by assumption) _ ?_
  try dsimp only
  refine st_hide ?_
  intro _ _
  have h2 : H b ([(c3, .cl (some (.ref a.x))), (c2, .cl (some (.ref lA))), (uA, .ls uv), (rA, .ls rv2), (wA, .ls wv), (lA, .ls lv), (nA, .ls nv)] ++ ((c5, .cl none) :: (La, .fr lLW [some (.ref sc), some (.ref fA), some (.ref nA), some (.ref wA), some (.ref rA), some (.ref dA), some (.ref oA), some (.ref uA), none, none, none, none]) ::
      (oA, .ls ov) :: (dA, .ls (its.map fun i => .ref i.a)) :: (its.map (It.res (letsOf p)) ++ (c4, .cl none) :: (c6, .cl none) :: M))) s := h.re (by intro x; simp only [List.count_append, List.count_cons, List.count_nil, Nat.zero_add]; ac_rfl)
  have h3 := h2.sub (List.sublist_append_right _ _)
  clear h h2
  refine s12_c S.list he (hA.less (by walk_at "om")) .head hov (by exact o372 htlen hil) h3 ?_
  clear h3; intro pA pv s hpv h
  refine StJ.nx (by assumption) _ ?_
  try dsimp only
  refine st_hide ?_
  intro _ _
  have hitsA : ∀ i (hi : i < its.length), Has (its[i].a) (its[i].ob (letsOf p)) ((pA, .ls pv) :: (oA, .ls ov) :: (dA, .ls (its.map fun i => .ref i.a)) :: (its.map (It.res (letsOf p)) ++ (c4, .cl none) :: (c6, .cl none) :: M)) := fun i hi => .tail (.tail (.tail (Has.at hi)))
  refine s13_c El D16 al.toAlphaT he (hA.less (by walk_at "om")) .head hpv (by exact o372 htlen hil) ht16 (.tail (.tail .head)) hitsA (by exact o373 hil) h ?_
  clear h hitsA; intro tA tv N1 s htv h
  refine StJ.nx (by assumption) _ ?_
  try dsimp only
  refine st_hide ?_
  intro _ _
  have hrows : (its.map fun (i : It) => rowOf ts i.x) = (laidX xs).map (rowOf ts) := by rw [← hits, List.map_map]; rfl
  rw [hrows] at htv
  replace htv := htv
  have hrl : ((laidX xs).map (rowOf ts)).length = ts.length := by rw [List.length_map, ← hits, List.length_map, htlen]
  have htv2 : Lines ((c5, .cl (some (.ref pA))) :: (N1 ++ (pA, .ls pv) :: (oA, .ls ov) :: (dA, .ls (its.map fun i => .ref i.a)) :: (its.map (It.res (letsOf p)) ++ (c4, .cl none) :: M))) (ts.length + 1) tv ((laidX xs).map (rowOf ts)) := htv.move fun y hy => by
    simp only [List.mem_append, List.mem_cons] at hy ⊢
    replace hy := hy
    rcases hy with hy | hy | hy | hy | hy | hy | hy | hy
    · exact .inl (by simp only [hy, true_or, or_true])
    · exact .inl (by simp only [hy, true_or, or_true])
    · exact .inl (by simp only [hy, true_or, or_true])
    · exact .inl (by simp only [hy, true_or, or_true])
    · exact .inl (by simp only [hy, true_or, or_true])
    · exact .inl (by simp only [hy, true_or, or_true])
    · exact .inr ⟨_, by rw [hy]⟩
    · exact .inl (by simp only [hy, true_or, or_true])
  clear htv
  refine s14_c ⟨S.ari, S.range, S.len, S.zip⟩ S.i6 S.i7 D9 D25 he (hA.less (by walk_at "om")) (.tail (Has.right (.tail (.tail (.tail (Has.right (.tail hP))))))) (.tail (Has.right (.tail (.tail (.tail (Has.right (.tail hP'))))))) htv2 (by exact o374 hrl) (by exact o375 htlen hil) (by rw [hrl]; exact pl.st)
    (h.re (by intro x; simp only [List.count_append, List.count_cons]; ac_rfl)) ?_
  clear h htv2; intro sA tv2 N2 s htv h
  refine StJ.nx (by assumption) _ ?_
  try dsimp only
  refine st_hide ?_
  intro _ _
  have hdl : (its.map fun i => Value.ref i.a).length = out.length := by rw [List.length_map, pl.len, htlen]
  refine s15_c (M := (sA, .ls tv2) :: (N2 ++ (c5, .cl (some (.ref pA))) :: (N1 ++ (pA, .ls pv) :: (oA, .ls ov) :: (dA, .ls (its.map fun i => .ref i.a)) :: (its.map (It.res (letsOf p)) ++ (c4, .cl none) :: M)))) S.range S.len S.abs he (hA.less (by walk_at "om")) .head (Lines.more (N := [_]) htv) (by rw [pl.len]; exact o51) (by exact o375 htlen hil)
    (.tail (Has.right (.tail (Has.right (.tail (.tail .head)))))) hdl pl.one h ?_
  clear h; intro s h
  refine StJ.nx (by assumption) _ ?_
  try dsimp only
  refine st_hide ?_
  intro _ _
  refine s16_c (M := (sA, .ls tv2) :: (N2 ++ (c5, .cl (some (.ref pA))) :: (N1 ++ (pA, .ls pv) :: (oA, .ls ov) :: (dA, .ls (its.map fun i => .ref i.a)) :: (its.map (It.res (letsOf p)) ++ (c4, .cl none) :: M)))) D26 ⟨S.range, S.len, S.rev, S.sum⟩ he (hA.less (by walk_at "om")) .head (Lines.more (N := [_]) htv) pl.len (by exact o372 htlen hil) pl.hB pl.hS pl.hC h ?_
  clear h htv; intro gA gv s hgv h
  refine StJ.nx (by assumption) _ ?_
  try dsimp only
  refine st_hide ?_
  intro _ _
  have hitsB : ∀ i (hi : i < its.length), Has (its[i].a) (its[i].ob (letsOf p)) ((gA, .ls gv) :: (sA, .ls tv2) :: (N2 ++ (c5, .cl (some (.ref pA))) :: (N1 ++ (pA, .ls pv) :: (oA, .ls ov) :: (dA, .ls (its.map fun i => .ref i.a)) :: (its.map (It.res (letsOf p)) ++ M)))) := fun i hi => .tail (.tail (Has.right (.tail (Has.right (.tail (.tail (.tail (Has.at hi))))))))
  refine s17_c al S.zip S.sum he (hA.less (by walk_at "om")) (.tail (.tail (Has.right (.tail (Has.right (.tail (.tail .head))))))) hitsB .head hgv (.tail (.tail (Has.right (.tail (Has.right (.tail .head)))))) hov (bk_len _ _ _) (by exact o372 htlen hil) ht16
    (fun i hi => pl.solve i.x (by rw [← hits]; exact List.mem_map.mpr ⟨i, hi, rfl⟩)) (h.re (by intro x; simp only [List.count_append, List.count_cons]; ac_rfl)) ?_
  clear h hitsB; intro s h
  refine StJ.nx (by assumption) _ ?_
  try dsimp only
  refine st_hide ?_
  intro _ _
  refine wpAny_Return_some ?_
  refine wpAny_Constant_bool ?_
  walk_at "go"
  refine kk ((gA, .ls gv) :: (sA, .ls tv2) :: (N2 ++ (c5, .cl (some (.ref pA))) :: (N1 ++ (pA, .ls pv) :: (oA, .ls ov) :: (dA, .ls (its.map fun i => .ref i.a)) :: its.map (It.res (letsOf p))))) s ?_
  simpa only [List.cons_append, List.append_assoc] using h
end
end Mine
namespace Mine
section
open PySem PySem.W PyProof.Rows PySem.Calls
theorem al_len : ∀ p : Fin 8, (letsOf p).length = 4 := by decide +kernel
theorem al_lt : ∀ p : Fin 8, ∀ c ∈ letsOf p, c < 128 := by decide +kernel
theorem al_cnt : ∀ p : Fin 8, ∀ m : Fin 16, ∀ k : Fin 4, Txt.count (sOf (wordOf (letsOf p) m)) (ch1 ((letsOf p).getD k 0)) = if inSet m k = true then 1 else 0 := by decide +kernel
theorem al_pc : ∀ p : Fin 8, ∀ k : Fin 4, Txt.contains (wantOf ((letsOf p).getD k 0)) "..." = true := by decide +kernel
theorem al_ps : ∀ p : Fin 8, ∀ k : Fin 4, Txt.split (wantOf ((letsOf p).getD k 0)) "..." = [Str.empty, ch1 ((letsOf p).getD k 0), Str.empty] := by decide +kernel
theorem al_pp : ∀ p : Fin 8, ∀ k : Fin 4, (Builtin.Str.partsBetween (wantOf ((letsOf p).getD k 0)) (Builtin.Str.occurrences (wantOf ((letsOf p).getD k 0)) "..." 0 (wantOf ((letsOf p).getD k 0)).length ((wantOf ((letsOf p).getD k 0)).length + 1)) 3).length ≤ 1000 := by decide +kernel
theorem al_pe : ∀ p : Fin 8, ∀ m : Fin 16, ∀ k : Fin 4, ell (sOf (wordOf (letsOf p) m)) (sOf (wordOf (letsOf p) m)).length [Str.empty, ch1 ((letsOf p).getD k 0), Str.empty] 0 = inSet m k := by decide +kernel
theorem al_rep : ∀ p : Fin 8, ∀ m : Fin 16, ∀ k : Fin 4, inSet m k = true → Txt.replace (sOf (wordOf (letsOf p) m)) (ch1 ((letsOf p).getD k 0)) (Str.ofString "") = sOf (wordOf (letsOf p) (m - 2 ^ k.val)) := by decide +kernel
theorem al_inj : ∀ p : Fin 8, ∀ m n : Fin 16, sOf (wordOf (letsOf p) m) = sOf (wordOf (letsOf p) n) → m.val = n.val := by decide +kernel
theorem al_tc : ∀ p : Fin 8, ∀ m : Fin 16, Txt.contains (patOf (wordOf (letsOf p) m)) "..." = true := by decide +kernel
theorem al_ts : ∀ p : Fin 8, ∀ m : Fin 16, Txt.split (patOf (wordOf (letsOf p) m)) "..." = Str.empty :: ((wordOf (letsOf p) m).map ch1 ++ [Str.empty]) := by decide +kernel
theorem al_tp : ∀ p : Fin 8, ∀ m : Fin 16, (Builtin.Str.partsBetween (patOf (wordOf (letsOf p) m)) (Builtin.Str.occurrences (patOf (wordOf (letsOf p) m)) "..." 0 (patOf (wordOf (letsOf p) m)).length ((patOf (wordOf (letsOf p) m)).length + 1)) 3).length ≤ 1000 := by decide +kernel
theorem al_tl : ∀ p : Fin 8, ∀ m : Fin 16, (patOf (wordOf (letsOf p) m)).length ≤ 1000 := by decide +kernel
theorem al_te : ∀ p : Fin 8, ∀ m : Fin 16, ∀ n : Fin 16, ell (sOf (wordOf (letsOf p) n)) (sOf (wordOf (letsOf p) n)).length (Str.empty :: ((wordOf (letsOf p) m).map ch1 ++ [Str.empty])) 0 = incl m n := by decide +kernel
theorem al_ui : ∀ p : Fin 8, ∀ m : Fin 16, ∀ n : Fin 16, ((wordOf (letsOf p) m).filter fun c => !Txt.contains (sOf (wordOf (letsOf p) n)) (ch1 c)).isEmpty = incl m n := by decide +kernel
theorem alphas {p : Nat} (hp : p < 8) : AlphaU (letsOf p) where
  len := al_len ⟨p, hp⟩
  lt := al_lt ⟨p, hp⟩
  cnt := fun m hm k hk => al_cnt ⟨p, hp⟩ ⟨m, hm⟩ ⟨k, hk⟩
  pc := fun k hk => al_pc ⟨p, hp⟩ ⟨k, hk⟩
  ps := fun k hk => al_ps ⟨p, hp⟩ ⟨k, hk⟩
  pp := fun k hk => al_pp ⟨p, hp⟩ ⟨k, hk⟩
  pe := fun m hm k hk => al_pe ⟨p, hp⟩ ⟨m, hm⟩ ⟨k, hk⟩
  rep := fun m hm k hk => al_rep ⟨p, hp⟩ ⟨m, hm⟩ ⟨k, hk⟩
  inj := fun m hm n hn => al_inj ⟨p, hp⟩ ⟨m, hm⟩ ⟨n, hn⟩
  tc := fun m hm => al_tc ⟨p, hp⟩ ⟨m, hm⟩
  ts := fun m hm => al_ts ⟨p, hp⟩ ⟨m, hm⟩
  tp := fun m hm => al_tp ⟨p, hp⟩ ⟨m, hm⟩
  tl := fun m hm => al_tl ⟨p, hp⟩ ⟨m, hm⟩
  te := fun m hm n hn => al_te ⟨p, hp⟩ ⟨m, hm⟩ ⟨n, hn⟩
  ui := fun m hm n hn => al_ui ⟨p, hp⟩ ⟨m, hm⟩ ⟨n, hn⟩
end
end Mine
namespace Mine
section
open PySem PySem.W PyProof.Rows PySem.Calls
noncomputable def glbA (K : Frag) (x : Str) : Addr := match nsIn K mainGlobals x with
  | some (some (.ref f)) => f
  | _ => 0
noncomputable def tokG (K : Frag) (x : Str) : Tok := match nsIn K mainGlobals x with
  | some (some (.int _ t)) => t
  | some (some (.str _ t)) => t
  | _ => 0
noncomputable def fdAt (K : Frag) (f : Addr) : FuncData := match K.lookup f with
  | some ⟨_, _, .func fd, _⟩ => fd
  | _ => default
noncomputable def codeAdr : Value → Addr
  | .ref a => a
  | _ => 0
noncomputable def codeQ (o : Obj) : Option Str := match o.data with
  | .fields vs => (match (vs[1]? : Option Value) with
    | some (.str q _) => some q
    | _ => none)
  | _ => none
noncomputable def mthA (K : Frag) (C : Addr) (n : Str) : Addr := match findIn K (.ref C) n with
  | some (some (.ref f)) => f
  | _ => 0
structure FnK (K : Frag) (f : Addr) (st : Stmt) : Prop where
  b : (K.lookup f).map (·.data) = some (.func (fdAt K f))
  params : (fdAt K f).params = stArgs st
  body : (fdAt K f).body = .stmts (stBody st)
  scope : (fdAt K f).scope = stScope st
  closure : (fdAt K f).closure = []
  globals : (fdAt K f).globals = mainGlobals
  builtins : (fdAt K f).builtins = builtinsNs
  code : (fdAt K f).code = .ref (codeAdr (fdAt K f).code)
  rec_ : (K.lookup (codeAdr (fdAt K f).code)).bind codeQ = some (fdAt K f).qualname
structure DefK (K : Frag) (x : Str) (i : Nat) : Prop where
  g : nsIn K mainGlobals x = some (some (.ref (glbA K x)))
  fn : FnK K (glbA K x) (nth pb i)
  d1 : (fdAt K (glbA K x)).defaults = .none
  d2 : (fdAt K (glbA K x)).kwdefaults = .none
structure BisK (K : Frag) (x : Str) (i : Nat) : Prop where
  g : nsIn K mainGlobals x = some (some (.ref (glbA K x)))
  fn : FnK K (glbA K x) (nth pb i)
  d1 : (fdAt K (glbA K x)).defaults = .ref (codeAdr (fdAt K (glbA K x)).defaults)
  d2 : (fdAt K (glbA K x)).kwdefaults = .ref (codeAdr (fdAt K (glbA K x)).kwdefaults)
  t1 : ∃ t n, K.lookup (codeAdr (fdAt K (glbA K x)).defaults) = some ⟨.type "tuple", none, .seq #[.int 0 t, .none] n, #[]⟩
  t2 : ∃ hh t n, K.lookup (codeAdr (fdAt K (glbA K x)).kwdefaults) = some ⟨.type "dict", none, .dict #[⟨hh, .str "key" t, .none⟩] n, #[]⟩
structure MthK (K : Frag) (C : Addr) (n : Str) (i : Nat) : Prop where
  f : findIn K (.ref C) n = some (some (.ref (mthA K C n)))
  ty : typeIn K (.ref (mthA K C n)) = some (.type "function")
  sp : specialIn K (.ref (mthA K C n)) "__get__" = some (some (.builtin "function.__get__"))
  tk : takesIn K (.ref (mthA K C n)) = some false
  fn : FnK K (mthA K C n) (clS i)
  d1 : (fdAt K (mthA K C n)).defaults = .none
  d2 : (fdAt K (mthA K C n)).kwdefaults = .none
section
variable {K : Frag} {b : Shared} {mg mb : Str → Option Value} {x : Str} {i : Nat} {f : Addr} {st : Stmt}
theorem fn_of (X : K.In b.heap) (lim : b.heap.NoLimit) (k : FnK K f st) : FnIs b f st (fdAt K f) := by
  refine byName fun _ kk_ => ?_
  obtain ⟨h1, h2, h3, h4, h5, h6, h7, h8, h9⟩ := k
  obtain ⟨o, ho, hd⟩ := Option.map_eq_some_iff.mp h1
  obtain ⟨oc, hoc, hq⟩ := Option.bind_eq_some_iff.mp h9
  refine kk_ ?_
  clear kk_
  refine ⟨⟨o, X _ _ ho, hd⟩, h2, h3, h4, h5, h6, h7, ?_, lim⟩
  unfold codeQ at hq
  replace hq := hq
  split at hq
  · rename_i vs hvs
    split at hq
    · rename_i q t hv
      have e := Option.some.inj hq
      subst e
      exact ⟨_, oc, vs, t, h8, X _ _ hoc, hvs, hv⟩
    · cases hq
  · cases hq
theorem glb_of (X : K.In b.heap) (G : b.heap.Ns mainGlobals mg) {v : Value} (e : nsIn K mainGlobals x = some (some v)) : Glb b x v := ⟨mg, G, mg_of X G e⟩
theorem def_of (X : K.In b.heap) (G : b.heap.Ns mainGlobals mg) (lim : b.heap.NoLimit) (k : DefK K x i) : Def b x i (glbA K x) (fdAt K (glbA K x)) := ⟨glb_of X G k.g, fn_of X lim k.fn, k.d1, k.d2⟩
theorem bis_of (X : K.In b.heap) (G : b.heap.Ns mainGlobals mg) (lim : b.heap.NoLimit) (k : BisK K x i) : ∃ f fd, Glb b x (.ref f) ∧ FnIs b f (nth pb i) fd ∧ Dfl b fd :=
  let ⟨_, _, q1⟩ := k.t1; let ⟨_, _, _, q2⟩ := k.t2; ⟨_, _, glb_of X G k.g, fn_of X lim k.fn, ⟨_, _, _, k.d1, X _ _ q1⟩, ⟨_, _, _, _, k.d2, X _ _ q2⟩⟩
theorem mth_of (X : K.In b.heap) (lim : b.heap.NoLimit) {C : Addr} (k : MthK K C x i) : Mth b i (mthA K C x) (fdAt K (mthA K C x)) := ⟨fn_of X lim k.fn, k.d1, k.d2⟩
theorem blt_of (X : K.In b.heap) (G : b.heap.Ns mainGlobals mg) (B : b.heap.Ns builtinsNs mb) (hb : ∀ x : Str, x ≠ "__name__" → mb x = bootBuiltins x) {v : Value} (hx : x ≠ "__name__") (h0 : nsIn K mainGlobals x = some none) (hv : bootBuiltins x = some v) : Blt b x v :=
  ⟨mg, mb, G, mg_none_of X G h0, B, (hb x hx).trans hv⟩
end
end
end Mine
namespace Mine
section
open PySem PySem.W PyProof.Rows PySem.Calls
structure StaK (K : Frag) (c6 c7 cG P P' PG : Addr) : Prop where
  k4 : DefK K "_div2n1n" 4
  k6 : DefK K "_int2digits" 6
  k7 : DefK K "_digits2int" 7
  k8 : DefK K "_divmod_pos" 8
  k9 : DefK K "int_divmod" 9
  k11 : BisK K "insort_right" 11
  k12 : BisK K "bisect_right" 12
  k13 : BisK K "bisect_left" 13
  k16 : DefK K "_ellipsis_match" 16
  k18 : DefK K "_law_stream" 18
  k19 : DefK K "_law_word" 19
  k20 : DefK K "_law_written" 20
  k21 : DefK K "_law_among" 21
  k22 : DefK K "_law_laid" 22
  k23 : DefK K "_law_pushed_down" 23
  k24 : DefK K "_law_winners" 24
  k25 : DefK K "_law_stairs" 25
  k26 : DefK K "_law_weights" 26
  lim : nsIn K mainGlobals "_DIV_LIMIT" = some (some (.int 4000 (tokG K "_DIV_LIMIT")))
  dots : nsIn K mainGlobals "ELLIPSIS_MARKER" = some (some (.str "..." (tokG K "ELLIPSIS_MARKER")))
  cls : nsIn K mainGlobals "_netrclex" = some (some (.ref (glbA K "_netrclex")))
  c6 : (fdAt K (glbA K "_int2digits")).code = .ref c6
  c7 : (fdAt K (glbA K "_digits2int")).code = .ref c7
  cG : (fdAt K (glbA K "_law_stream")).code = .ref cG
  n1 : nsIn K mainGlobals "len" = some none
  n2 : nsIn K mainGlobals "divmod" = some none
  n3 : nsIn K mainGlobals "reversed" = some none
  n4 : nsIn K mainGlobals "sum" = some none
  n5 : nsIn K mainGlobals "range" = some none
  n6 : nsIn K mainGlobals "zip" = some none
  n7 : nsIn K mainGlobals "list" = some none
  n8 : nsIn K mainGlobals "iter" = some none
  n9 : nsIn K mainGlobals "sorted" = some none
  n10 : nsIn K mainGlobals "abs" = some none
  n11 : nsIn K mainGlobals "min" = some none
  n12 : nsIn K mainGlobals "max" = some none
  m0 : MthK K (glbA K "_netrclex") "__init__" 0
  m1 : MthK K (glbA K "_netrclex") "_read_char" 1
  m2 : MthK K (glbA K "_netrclex") "get_token" 2
  m3 : MthK K (glbA K "_netrclex") "push_token" 3
  a1 : makesIn K (glbA K "_netrclex") = true
  a2 : keepIn K (.ref (glbA K "_netrclex")) = true
  a3 : findIn K (.ref (glbA K "_netrclex")) "__getattribute__" = some (some (.builtin "object.__getattribute__"))
  a4 : findIn K (.ref (glbA K "_netrclex")) "__getattr__" = some none
  a5 : findIn K (.ref (glbA K "_netrclex")) "__setattr__" = some (some (.builtin "object.__setattr__"))
  a6 : plainOver K (glbA K "_netrclex") = true
  a7 : hasDictIn K (glbA K "_netrclex") = true
  f1 : findIn K (.ref (glbA K "_netrclex")) "lineno" = some none
  f2 : findIn K (.ref (glbA K "_netrclex")) "instream" = some none
  f3 : findIn K (.ref (glbA K "_netrclex")) "whitespace" = some none
  f4 : findIn K (.ref (glbA K "_netrclex")) "pushback" = some none
  f5 : findIn K (.ref (glbA K "_netrclex")) "read" = some none
theorem sta_of {K : Frag} {b : Shared} {mg mb : Str → Option Value} {c6 c7 cG P P' PG : Addr} (X : K.In b.heap) (G : b.heap.Ns mainGlobals mg) (B : b.heap.Ns builtinsNs mb) (lim : b.heap.NoLimit) (hb : ∀ x : Str, x ≠ "__name__" → mb x = bootBuiltins x)
    (hbm : ∃ bm ob, mg "__builtins__" = some (.ref bm) ∧ bm ≠ builtinsNs ∧ b.heap.get? bm = some ob ∧ ob.cls = .type "module" ∧ ob.dict = some builtinsNs ∧ ob.data = .plain)
    (h6 : CodeHd b.heap c6 P) (h7 : CodeHd b.heap c7 P') (hG : CodeHd b.heap cG PG) (k : StaK K c6 c7 cG P P' PG) :
    Sta b P P' PG ((fdAt K (glbA K "_int2digits")).qualname ++ ".<locals>." ++ "inner") ((fdAt K (glbA K "_digits2int")).qualname ++ ".<locals>." ++ "inner") ((fdAt K (glbA K "_law_stream")).qualname ++ ".<locals>." ++ "give") := by
  have blt : ∀ {x : Str} {v : Value}, x ≠ "__name__" → nsIn K mainGlobals x = some none → bootBuiltins x = some v → Blt b x v := fun hx h0 hv => blt_of X G B hb hx h0 hv
  have b1 := blt (x := "len") (v := .builtin "len") (by decide) k.n1 (by decide +kernel)
  have b2 := blt (x := "divmod") (v := .builtin "divmod") (by decide) k.n2 (by decide +kernel)
  have b3 := blt (x := "reversed") (v := .type "reversed") (by decide) k.n3 (by decide +kernel)
  have b4 := blt (x := "sum") (v := .builtin "sum") (by decide) k.n4 (by decide +kernel)
  have b5 := blt (x := "range") (v := .type "range") (by decide) k.n5 (by decide +kernel)
  have b6 := blt (x := "zip") (v := .type "zip") (by decide) k.n6 (by decide +kernel)
  have b7 := blt (x := "list") (v := .type "list") (by decide) k.n7 (by decide +kernel)
  have b8 := blt (x := "iter") (v := .builtin "iter") (by decide) k.n8 (by decide +kernel)
  have b9 := blt (x := "sorted") (v := .builtin "sorted") (by decide) k.n9 (by decide +kernel)
  have b10 := blt (x := "abs") (v := .builtin "abs") (by decide) k.n10 (by decide +kernel)
  have b11 := blt (x := "min") (v := .builtin "min") (by decide) k.n11 (by decide +kernel)
  have b12 := blt (x := "max") (v := .builtin "max") (by decide) k.n12 (by decide +kernel)
  have d : ∀ {x : Str} {i : Nat}, DefK K x i → ∃ f fd, Def b x i f fd := fun q => ⟨_, _, def_of X G lim q⟩
  have bm : Bm b := by
    obtain ⟨bm, ob, g1, g2, g3, g4, g5, g6⟩ := hbm
    exact ⟨mg, bm, ob, G, g1, g2, g3, g4, g5, g6⟩
  have kls : Kls b (glbA K "_netrclex") lexN [(Str.ofString "__init__", mthA K (glbA K "_netrclex") "__init__"), (Str.ofString "_read_char", mthA K (glbA K "_netrclex") "_read_char"), (Str.ofString "get_token", mthA K (glbA K "_netrclex") "get_token"), (Str.ofString "push_token", mthA K (glbA K "_netrclex") "push_token")] := by
    refine ⟨K, X, ⟨k.a1, k.a2⟩, k.a3, k.a4, k.a5, k.a6, k.a7, fun n hn => ?_, fun p hp => ?_⟩
    · simp only [List.mem_cons, List.not_mem_nil, or_false] at hn
      rcases hn with rfl | rfl | rfl | rfl | rfl
      · exact k.f1
      · exact k.f2
      · exact k.f3
      · exact k.f4
      · exact k.f5
    · simp only [List.mem_cons, List.not_mem_nil, or_false] at hp
      rcases hp with rfl | rfl | rfl | rfl
      · exact ⟨k.m0.f, k.m0.ty, k.m0.sp, k.m0.tk⟩
      · exact ⟨k.m1.f, k.m1.ty, k.m1.sp, k.m1.tk⟩
      · exact ⟨k.m2.f, k.m2.ty, k.m2.sp, k.m2.tk⟩
      · exact ⟨k.m3.f, k.m3.ty, k.m3.sp, k.m3.tk⟩
  exact {
    ari := ⟨⟨_, glb_of X G k.lim⟩, b1, b2, b3, bm, d k.k4, d k.k8, d k.k9⟩
    i6 := ⟨_, _, def_of X G lim k.k6, ⟨_, k.c6, h6⟩, rfl⟩
    i7 := ⟨_, _, def_of X G lim k.k7, ⟨_, k.c7, h7⟩, rfl⟩
    d9 := d k.k9
    len := b1
    sum := b4
    range := b5
    zip := b6
    list := b7
    iter := b8
    sorted := b9
    abs := b10
    rev := b3
    min := b11
    max := b12
    dots := ⟨_, glb_of X G k.dots⟩
    cls := ⟨_, _, _, _, _, _, _, _, _, ⟨kls, mth_of X lim k.m0, mth_of X lim k.m1, mth_of X lim k.m2, mth_of X lim k.m3, lim⟩, glb_of X G k.cls⟩
    d11 := bis_of X G lim k.k11
    d12 := bis_of X G lim k.k12
    d13 := bis_of X G lim k.k13
    d16 := d k.k16
    d18 := ⟨_, _, def_of X G lim k.k18, ⟨_, k.cG, hG⟩, rfl⟩
    d19 := d k.k19
    d20 := d k.k20
    d21 := d k.k21
    d22 := d k.k22
    d23 := d k.k23
    d24 := d k.k24
    d25 := d k.k25
    d26 := d k.k26 }
end
end Mine
namespace Mine
section
open PySem PySem.W PyProof.Rows PySem.Calls
theorem ad {a i j : Nat} (h : i ≠ j) : a + i ≠ a + j := fun q => h (Nat.add_left_cancel q)
theorem la {a i c : Nat} (h : c < a) : a + i ≠ c := Nat.ne_of_gt (Nat.lt_of_lt_of_le h (Nat.le_add_right _ _))
theorem a0 {a i : Nat} (h : i ≠ 0) : a + i ≠ a := fun q => h (Nat.add_left_cancel (q.trans (Nat.add_zero a).symm))
theorem ne_all (La : Nat) (h1 : 72 < La) (h2 : 79 < La) (h3 : 134 < La) : (La + 1 ≠ La + 2 ∧ La + 1 ≠ La + 3 ∧ La + 1 ≠ La + 4 ∧ La + 1 ≠ La + 5 ∧ La + 1 ≠ La + 6 ∧ La + 1 ≠ La ∧ La + 1 ≠ 72 ∧ La + 1 ≠ 79 ∧ La + 1 ≠ 134) ∧ (La + 2 ≠ La + 3 ∧ La + 2 ≠ La + 4 ∧ La + 2 ≠ La + 5 ∧ La + 2 ≠ La + 6 ∧ La + 2 ≠ La ∧ La + 2 ≠ 72 ∧ La + 2 ≠ 79 ∧ La + 2 ≠ 134) ∧ (La + 3 ≠ La + 4 ∧ La + 3 ≠ La + 5 ∧ La + 3 ≠ La + 6 ∧ La + 3 ≠ La ∧ La + 3 ≠ 72 ∧ La + 3 ≠ 79 ∧ La + 3 ≠ 134) ∧ (La + 4 ≠ La + 5 ∧ La + 4 ≠ La + 6 ∧ La + 4 ≠ La ∧ La + 4 ≠ 72 ∧ La + 4 ≠ 79 ∧ La + 4 ≠ 134) ∧ (La + 5 ≠ La + 6 ∧ La + 5 ≠ La ∧ La + 5 ≠ 72 ∧ La + 5 ≠ 79 ∧ La + 5 ≠ 134) ∧ (La + 6 ≠ La ∧ La + 6 ≠ 72 ∧ La + 6 ≠ 79 ∧ La + 6 ≠ 134) ∧ (La ≠ 72 ∧ La ≠ 79 ∧ La ≠ 134) ∧ ((72 : Nat) ≠ 79 ∧ (72 : Nat) ≠ 134) ∧ (79 : Nat) ≠ 134 ∧ ∀ a' : Nat, False → (134 : Nat) ≠ a' := by
  repeat' apply And.intro
  all_goals first
    | exact ad (by decide)
    | exact a0 (by decide)
    | exact la (by assumption)
    | exact Nat.ne_of_gt (by assumption)
    | decide
    | (intro a' h; cases h)
theorem fin_c {K : Frag} {w : World} {s : Shared} {hb : Heap} {La : Addr} {m mg mb : Str → Option Value} {p : Program} {loose : List Str} {mean : ExcName → Option Value} {o1 o2 o3 o4 o5 o6 : Obj} {v1 v2 v3 v4 v5 v6 : Option Value} {c1 c2 c3 c4 c5 c6 sc : Addr} {sv : List Value} {ns : List Int} {e : Env} {A : Around} {prog : Program} {E : Value → Shared → Prop} {Q : Flow → Shared → Prop} {ts : List Nat} {out : List (List Int)}
    (X : K.In hb) (T : Top p loose mean mg mb hb) (k : StaK K 76 83 138 72 79 134) (C6 : CodeHd hb 76 72) (C7 : CodeHd hb 83 79) (CG : CodeHd hb 138 134)
    (F : Fr hb La s.heap m) (N : News hb La s.heap [(c6, o6), (c5, o5), (c4, o4), (c3, o3), (c2, o2), (c1, o1), (72, tabObj #[]), (79, tabObj #[]), (134, tabObj #[])])
    (hm : lLW.map m = [some (.ref sc), none, none, none, none, none, none, none, none, none, none, none]) (he : Ev e La nmW' (clW c1 c2 c3 c4 c5 c6)) (hA : Room A 400) (hsc : hb.IsList sc sv.toArray) (hi : IntsAre sv ns) (hl : ¬ ((63 : Nat) : Int) < (ns.length : Int))
    (d1 : o1.data = .cell v1) (d2 : o2.data = .cell v2) (d3 : o3.data = .cell v3) (d4 : o4.data = .cell v4) (d5 : o5.data = .cell v5) (d6 : o6.data = .cell v6) (n1 : v1 = none) (n2 : v2 = none) (n3 : v3 = none) (n4 : v4 = none) (n5 : v5 = none) (n6 : v6 = none)
    (a1 : c1 = La + 1) (a2 : c2 = La + 2) (a3 : c3 = La + 3) (a4 : c4 = La + 4) (a5 : c5 = La + 5) (a6 : c6 = La + 6) (hP : 72 < La ∧ 79 < La ∧ 134 < La) (pl : Plain (lawNums ns) ts out)
    (kk : ∀ s' : Shared, (∀ b o, hb.get? b = some o → s'.heap.get? b = some o) → s'.gens = s.gens → s'.os = s.os → GrownAt 72 s'.heap → GrownAt 79 s'.heap → GrownAt 134 s'.heap → Q (.ret (.bool true)) s') :
    wpAny (model prog w) A (execs (stBody (nth pb 27)) e) Q E s := by
  subst n1 n2 n3 n4 n5 n6
  refine byName fun _ kk_ => ?_
  obtain ⟨hP1, hP2, hP3⟩ := hP
  refine kk_ ?_
  clear kk_
  have G1 : (({ s with heap := hb } : Shared).heap).Ns mainGlobals mg := T.g
  have S := sta_of (b := { s with heap := hb }) X G1 T.b T.nolimit T.builtins T.bmain C6 C7 CG k
  have nw := fun q (hq : q ∈ [(c6, o6), (c5, o5), (c4, o4), (c3, o3), (c2, o2), (c1, o1), (72, tabObj #[]), (79, tabObj #[]), (134, tabObj #[])]) => N q hq
  have cell : ∀ {c : Addr} {o : Obj}, s.heap.get? c = some o → o.data = .cell none → Res.At (fun a o => hb.get? a = some o) s.heap c (.cl none) := fun h1 h2 => ⟨_, h1, h2⟩
  have free : ∀ {c : Addr}, hb.get? c = none → ∀ o, ¬ hb.get? c = some o := fun h1 o h2 => by rw [h1] at h2; cases h2
  have N6 := nw _ (List.mem_cons_self ..)
  have N5 := nw _ (.tail _ (List.mem_cons_self ..))
  have N4 := nw _ (.tail _ (.tail _ (List.mem_cons_self ..)))
  have N3 := nw _ (.tail _ (.tail _ (.tail _ (List.mem_cons_self ..))))
  have N2 := nw _ (.tail _ (.tail _ (.tail _ (.tail _ (List.mem_cons_self ..)))))
  have N1 := nw _ (.tail _ (.tail _ (.tail _ (.tail _ (.tail _ (List.mem_cons_self ..))))))
  have T1 := nw _ (.tail _ (.tail _ (.tail _ (.tail _ (.tail _ (.tail _ (List.mem_cons_self ..)))))))
  have T2 := nw _ (.tail _ (.tail _ (.tail _ (.tail _ (.tail _ (.tail _ (.tail _ (List.mem_cons_self ..))))))))
  have T3 := nw _ (.tail _ (.tail _ (.tail _ (.tail _ (.tail _ (.tail _ (.tail _ (.tail _ (List.mem_cons_self ..)))))))))
  have h : H { s with heap := hb } ((c1, .cl none) :: (c2, .cl none) :: (c3, .cl none) :: (c4, .cl none) :: (c5, .cl none) :: (c6, .cl none) :: (La, .fr lLW [some (.ref sc), none, none, none, none, none, none, none, none, none, none, none]) ::
      [(72, .tb (stPos inT) ((fdAt K (glbA K "_int2digits")).qualname ++ ".<locals>." ++ "inner")), (79, .tb (stPos inS) ((fdAt K (glbA K "_digits2int")).qualname ++ ".<locals>." ++ "inner")), (134, .tb (stPos gvS) ((fdAt K (glbA K "_law_stream")).qualname ++ ".<locals>." ++ "give"))]) s := by
    refine ⟨fun a o => hb.get? a = some o, fun a o e => e, fun a o e => F.keep a o e, fun q hq => ?_, fun q hq => ?_, ?_, rfl, rfl⟩
    · simp only [List.mem_cons, List.not_mem_nil, or_false] at hq
      rcases hq with rfl | rfl | rfl | rfl | rfl | rfl | rfl | rfl | rfl | rfl
      · exact cell N1.1 d1
      · exact cell N2.1 d2
      · exact cell N3.1 d3
      · exact cell N4.1 d4
      · exact cell N5.1 d5
      · exact cell N6.1 d6
      · refine ⟨by decide, rfl, m, F.ns, fun i n hn => ?_⟩
        have := congrArg (fun l => l[i]?) hm
        simp only [List.getElem?_map, hn, Option.map_some] at this
        rw [← this]; rfl
      · exact .inl T1.1
      · exact .inl T2.1
      · exact .inl T3.1
    · simp only [List.mem_cons, List.not_mem_nil, or_false] at hq
      rcases hq with rfl | rfl | rfl | rfl | rfl | rfl | rfl | rfl | rfl | rfl
      · exact free N1.2.2
      · exact free N2.2.2
      · exact free N3.2.2
      · exact free N4.2.2
      · exact free N5.2.2
      · exact free N6.2.2
      · intro o ho
        exact absurd (Heap.lt_size ho) (Nat.not_lt.mpr F.above)
      · exact free T1.2.2
      · exact free T2.2.2
      · exact free T3.2.2
    · rw [pw_keys]
      subst a1 a2 a3 a4 a5 a6
      simp only [List.map_cons, List.map_nil, List.pairwise_cons, List.mem_cons, List.not_mem_nil, or_false, forall_eq_or_imp, forall_eq, List.Pairwise.nil, and_true]
      exact ne_all La hP1 hP2 hP3
  refine law_c S (alphas (placeOf_lt ns)) pl he hA .head (.tail .head) (.tail (.tail .head)) hsc hi (by exact o376 hl) h fun N' s' h' => ?_
  have hgr : ∀ {P : Addr} {pos : Pos} {q : Str}, Has P (.tb pos q) [(72, .tb (stPos inT) ((fdAt K (glbA K "_int2digits")).qualname ++ ".<locals>." ++ "inner")), (79, .tb (stPos inS) ((fdAt K (glbA K "_digits2int")).qualname ++ ".<locals>." ++ "inner")), (134, .tb (stPos gvS) ((fdAt K (glbA K "_law_stream")).qualname ++ ".<locals>." ++ "give"))] → GrownAt P s'.heap := fun hh => by
    obtain ⟨fz, hat⟩ := h'.has (hh.right (P := N'))
    rcases hat with ha | ⟨c, ha, _⟩
    · exact ⟨_, ha⟩
    · exact ⟨_, ha⟩
  obtain ⟨fz, hz⟩ := h'
  exact kk s' (fun b o eb => hz.keep _ _ (hz.base _ _ eb)) hz.gens hz.os (hgr .head) (hgr (.tail .head)) (hgr (.tail (.tail .head)))
end
end Mine
namespace Mine
section
open PySem PySem.W PyProof.Rows PySem.Calls
theorem laidX_nodup (xs : List Nat) : ((laidX xs).map fun x => x % 16).Nodup := by
  suffices ∀ xs ys : List Nat, (ys.map fun x => x % 16).Nodup → ((xs.foldl (fun ys x => if x % 16 ∈ ys.map (· % 16) then ys else ys ++ [x]) ys).map fun x => x % 16).Nodup by exact this xs [] .nil
  intro xs
  induction xs with
  | nil => intro ys h; exact h
  | cons x xs ih =>
    intro ys h
    rw [List.foldl_cons]
    refine ih _ ?_
    by_cases hm : x % 16 ∈ ys.map (· % 16)
    · rw [if_pos hm]; exact h
    · rw [if_neg hm, List.map_append, List.map_singleton]
      exact List.nodup_append.mpr ⟨h, by simp, fun a ha b hb => by rw [List.mem_singleton.mp hb]; rintro rfl; exact hm ha⟩
theorem laidX_mem (xs : List Nat) (m : Nat) : m ∈ (laidX xs).map (fun x => x % 16) ↔ m ∈ xs.map (fun x => x % 16) := by
  suffices ∀ xs ys : List Nat, m ∈ (xs.foldl (fun ys x => if x % 16 ∈ ys.map (· % 16) then ys else ys ++ [x]) ys).map (fun x => x % 16) ↔ (m ∈ ys.map fun x => x % 16) ∨ m ∈ xs.map fun x => x % 16 by
    have := this xs []; simpa [laidX] using this
  intro xs
  induction xs with
  | nil => intro ys; simp
  | cons x xs ih =>
    intro ys
    rw [List.foldl_cons, ih, List.map_cons, List.mem_cons]
    by_cases hm : x % 16 ∈ ys.map (· % 16)
    · rw [if_pos hm]
      constructor
      · rintro (h | h); exact .inl h; exact .inr (.inr h)
      · rintro (h | h | h)
        · exact .inl h
        · exact .inl (h ▸ hm)
        · exact .inr h
    · rw [if_neg hm, List.map_append, List.map_singleton, List.mem_append, List.mem_singleton]
      constructor
      · rintro ((h | h) | h)
        · exact .inl h
        · exact .inr (.inl h)
        · exact .inr (.inr h)
      · rintro (h | h | h)
        · exact .inl (.inl h)
        · exact .inl (.inr h)
        · exact .inr h
theorem inSet_add : ∀ s < 16, ∀ k < 4, inSet s k = false → inSet (s + 2 ^ k) k = true := by decide
theorem pushP_mem {F : List Nat} {k s : Nat} (hk : k < 4) (hs : s < 16) : s ∈ pushP F k ↔ if inSet s k = true then s ∈ F ∧ s - 2 ^ k ∈ F else s ∈ F ∨ s + 2 ^ k ∈ F := by
  unfold pushP
  rw [List.mem_map]
  by_cases hin : inSet s k = true
  · rw [if_pos hin]
    constructor
    · rintro ⟨m, hm, e⟩
      unfold pdn at e
      split at e
      · rename_i hc
        have := inSet_sub hc.1
        rw [e, hin] at this; cases this
      · rename_i hc
        subst e
        exact ⟨hm, Classical.byContradiction fun q => hc ⟨hin, q⟩⟩
    · rintro ⟨h1, h2⟩
      exact ⟨s, h1, by unfold pdn; rw [if_neg (fun q => q.2 h2)]⟩
  · rw [if_neg hin]
    have hin' : inSet s k = false := by simpa using hin
    constructor
    · rintro ⟨m, hm, e⟩
      unfold pdn at e
      split at e
      · rename_i hc
        have := inSet_le hc.1
        have e2 : m = s + 2 ^ k := by exact o377 e this
        exact .inr (e2 ▸ hm)
      · subst e; exact .inl hm
    · intro h
      by_cases h1 : s ∈ F
      · exact ⟨s, h1, by unfold pdn; rw [if_neg (fun q => hin q.1)]⟩
      · have h2 := h.resolve_left h1
        refine ⟨s + 2 ^ k, h2, ?_⟩
        unfold pdn
        rw [if_pos ⟨inSet_add s hs k hk hin', by rw [Nat.add_sub_cancel]; exact h1⟩, Nat.add_sub_cancel]
open Classical in
theorem won_ind (xs : List Nat) : ∀ n ≤ 4, ∀ s < 16, wonN (won0 xs) n s = if s ∈ pushN ((laidX xs).map fun x => x % 16) n then 1 else 0
  | 0, _, s, _ => by
    show won0 xs s = _
    unfold won0
    by_cases h : s ∈ xs.map (· % 16)
    · rw [if_pos h, if_pos]; exact (laidX_mem xs s).mpr h
    · rw [if_neg h, if_neg]; exact fun q => h ((laidX_mem xs s).mp q)
  | n + 1, hn, s, hs => by
    have ih := won_ind xs n (by exact o378 hn)
    rw [wonN_succ, pushN_succ]
    have hpm := pushP_mem (F := pushN ((laidX xs).map fun x => x % 16) n) (k := n) (by exact o379 hn) hs
    unfold wonStep
    by_cases hin : inSet s n = true
    · rw [if_pos hin] at hpm ⊢
      rw [ih (s - 2 ^ n) (Nat.lt_of_le_of_lt (Nat.sub_le _ _) hs), ih s hs]
      by_cases h1 : s ∈ pushN ((laidX xs).map fun x => x % 16) n <;> by_cases h2 : s - 2 ^ n ∈ pushN ((laidX xs).map fun x => x % 16) n
      · rw [if_pos h1, if_pos h2, if_pos (hpm.mpr ⟨h1, h2⟩)]; rfl
      · rw [if_pos h1, if_neg h2, if_neg (fun q => h2 (hpm.mp q).2)]; rfl
      · rw [if_neg h1, if_pos h2, if_neg (fun q => h1 (hpm.mp q).1)]; rfl
      · rw [if_neg h1, if_neg h2, if_neg (fun q => h1 (hpm.mp q).1)]; rfl
    · rw [if_neg hin] at hpm ⊢
      have hup := inSet_up s hs n (by exact o379 hn) (by simpa using hin)
      rw [ih (s + 2 ^ n) hup, ih s hs]
      by_cases h1 : s ∈ pushN ((laidX xs).map fun x => x % 16) n <;> by_cases h2 : s + 2 ^ n ∈ pushN ((laidX xs).map fun x => x % 16) n
      · rw [if_pos h1, if_pos h2, if_pos (hpm.mpr (.inl h1))]; rfl
      · rw [if_pos h1, if_neg h2, if_pos (hpm.mpr (.inl h1))]; rfl
      · rw [if_neg h1, if_pos h2, if_pos (hpm.mpr (.inr h2))]; rfl
      · rw [if_neg h1, if_neg h2, if_neg (fun q => (hpm.mp q).elim h1 h2)]; rfl
theorem ms_lt (xs : List Nat) : ∀ m ∈ (laidX xs).map (fun x => x % 16), m < 16 := fun m hm => by obtain ⟨x, _, rfl⟩ := List.mem_map.mp hm; exact Nat.mod_lt _ (by decide)
theorem due_perm (xs : List Nat) : (pushN ((laidX xs).map fun x => x % 16) 4).Perm (dueOf xs) := by
  obtain ⟨h1, h2, _⟩ := pushN_ok (laidX_nodup xs) (ms_lt xs) 4
  refine (List.perm_ext_iff_of_nodup h1 ?_).mpr fun s => ?_
  · unfold dueOf; exact List.Nodup.sublist List.filter_sublist List.nodup_range
  · unfold dueOf
    rw [List.mem_filter, List.mem_range]
    constructor
    · intro h
      refine ⟨h2 s h, ?_⟩
      rw [won_ind xs 4 (Nat.le_refl _) s (h2 s h), if_pos h]; rfl
    · rintro ⟨hs, h⟩
      rw [won_ind xs 4 (Nat.le_refl _) s hs] at h
      by_cases hm : s ∈ pushN ((laidX xs).map fun x => x % 16) 4
      · exact hm
      · rw [if_neg hm] at h; cases h
end
end Mine
namespace Mine
section
open PySem PySem.W PyProof.Rows PySem.Calls
noncomputable def Cube : Nat → Type
  | 0 => Unit
  | n + 1 => Cube n × Bool
noncomputable def shC : (n : Nat) → (Cube n → Prop) → Cube n → Prop
  | 0, F, t => F t
  | n + 1, F, t => if t.2 = true then shC n (fun x => F (x, false)) t.1 ∧ shC n (fun x => F (x, true)) t.1 else shC n (fun x => F (x, false)) t.1 ∨ shC n (fun x => F (x, true)) t.1
noncomputable def evC : (n : Nat) → (Cube n → Int) → Cube n → Int
  | 0, c, t => c t
  | n + 1, c, s => if s.2 = true then evC n (fun x => c (x, false) + c (x, true)) s.1 else evC n (fun x => c (x, false)) s.1
noncomputable def rkC : (n : Nat) → Cube n → Nat
  | 0, _ => 0
  | n + 1, t => 2 * rkC n t.1 + if t.2 = true then 1 else 0
noncomputable def encC : (n : Nat) → Cube n → Nat
  | 0, _ => 0
  | n + 1, t => encC n t.1 + if t.2 = true then 2 ^ n else 0
theorem lead : ∀ (n : Nat) (F : Cube n → Prop) (c : Cube n → Int) (p : Int), (∀ s, F s → p ∣ evC n c s) → ∀ t, shC n F t → (∀ t', rkC n t < rkC n t' → p ∣ c t') → p ∣ c t
  | 0, F, c, p, h, t, ht, _ => h t ht
  | n + 1, F, c, p, h, (t, b), ht, hg => by
    have h0 : ∀ s, F (s, false) → p ∣ evC n (fun x => c (x, false)) s := fun s hs => by
      have := h (s, false) hs
      simpa [evC] using this
    have h1 : ∀ s, F (s, true) → p ∣ evC n (fun x => c (x, false) + c (x, true)) s := fun s hs => by
      have := h (s, true) hs
      simpa [evC] using this
    have g0 : ∀ t', rkC n t < rkC n t' → p ∣ c (t', false) := fun t' hr => hg (t', false) (by simp only [rkC]; split <;> simp <;> (first | exact o380 hr | exact o381 hr))
    have g1 : ∀ t', rkC n t < rkC n t' → p ∣ c (t', true) := fun t' hr => hg (t', true) (by simp only [rkC]; split <;> simp <;> (first | exact o381 hr | exact o382 hr))
    have g01 : ∀ t', rkC n t < rkC n t' → p ∣ c (t', false) + c (t', true) := fun t' hr => Int.dvd_add (g0 t' hr) (g1 t' hr)
    have A := fun hs => lead n (fun x => F (x, false)) (fun x => c (x, false)) p h0 t hs g0
    have B := fun hs => lead n (fun x => F (x, true)) (fun x => c (x, false) + c (x, true)) p h1 t hs g01
    cases b with
    | true =>
      have ht' : shC n (fun x => F (x, false)) t ∧ shC n (fun x => F (x, true)) t := by simpa [shC] using ht
      have a := A ht'.1
      have bb := B ht'.2
      exact (Int.dvd_add_right a).mp bb
    | false =>
      have ht' : shC n (fun x => F (x, false)) t ∨ shC n (fun x => F (x, true)) t := by simpa [shC] using ht
      rcases ht' with hs | hs
      · exact A hs
      · have bb := B hs
        have e : p ∣ c (t, true) := hg (t, true) (by simp [rkC])
        exact (Int.dvd_add_left e).mp bb
theorem lead_all (n : Nat) (F : Cube n → Prop) (c : Cube n → Int) (p : Int) (h : ∀ s, F s → p ∣ evC n c s) (hs : ∀ t, ¬ shC n F t → c t = 0) : ∀ t, p ∣ c t := by
  have hb : ∀ (n : Nat) (t : Cube n), rkC n t < 2 ^ n := by
    intro n
    induction n with
    | zero => intro t; exact Nat.zero_lt_one
    | succ n ih =>
      intro t
      have := ih t.1
      unfold rkC
      rw [Nat.pow_succ]
      split <;> (first | exact o383 this | exact o384 this)
  suffices ∀ m (t : Cube n), 2 ^ n - rkC n t ≤ m → p ∣ c t from fun t => this _ t (Nat.le_refl _)
  intro m
  induction m with
  | zero => intro t ht; have := hb n t; exact (o104 ht this).elim
  | succ m ih =>
    intro t ht
    by_cases hq : shC n F t
    · exact lead n F c p h t hq fun t' hr => ih t' (by have := hb n t'; exact o115 ht hr)
    · rw [hs t hq]; exact Int.dvd_zero p
theorem ev_add (n : Nat) : ∀ (c d : Cube n → Int) (s : Cube n), evC n (fun t => c t + d t) s = evC n c s + evC n d s := by
  induction n with
  | zero => intro c d s; rfl
  | succ n ih =>
    intro c d s
    unfold evC
    split
    · rw [← ih]; congr 1; funext x; dsimp only; exact o385
    · rw [← ih]
theorem ev_zero (n : Nat) : ∀ (s : Cube n), evC n (fun _ => 0) s = 0 := by
  induction n with
  | zero => intro s; rfl
  | succ n ih => intro s; unfold evC; split <;> exact ih _
noncomputable def subC : (n : Nat) → Cube n → Cube n → Bool
  | 0, _, _ => true
  | n + 1, a, c => subC n a.1 c.1 && (!a.2 || c.2)
open Classical in
noncomputable def dlt {n : Nat} (a : Cube n) (w : Int) (t : Cube n) : Int := if t = a then w else 0
theorem dlt_pair {n : Nat} (a : Cube n) (b : Bool) (w : Int) (x : Cube n) (y : Bool) : dlt (n := n + 1) (a, b) w (x, y) = if y = b then dlt a w x else 0 := by
  unfold dlt
  by_cases h1 : x = a <;> by_cases h2 : y = b
  · subst h1; subst h2; exact (if_pos rfl).trans (((if_pos rfl).trans (if_pos rfl)).symm)
  · rw [if_neg h2, if_neg]; intro e; exact h2 (Prod.mk.inj e).2
  · rw [if_neg h1, if_neg, if_pos h2]; intro e; exact h1 (Prod.mk.inj e).1
  · rw [if_neg h2, if_neg]; intro e; exact h2 (Prod.mk.inj e).2
theorem ev_delta (n : Nat) : ∀ (a s : Cube n) (w : Int), evC n (dlt a w) s = if subC n a s = true then w else 0 := by
  induction n with
  | zero =>
    intro a s w
    show dlt a w s = if true = true then w else 0
    unfold dlt
    rw [if_pos (show s = a from rfl), if_pos rfl]
  | succ n ih =>
    rintro ⟨a, b⟩ ⟨s, b'⟩ w
    show (if b' = true then evC n (fun x => dlt (n := n + 1) (a, b) w (x, false) + dlt (n := n + 1) (a, b) w (x, true)) s else evC n (fun x => dlt (n := n + 1) (a, b) w (x, false)) s) = if (subC n a s && (!b || b')) = true then w else 0
    simp only [dlt_pair]
    cases b' <;> cases b <;> simp only [Bool.false_eq_true, if_false, if_true, reduceCtorEq, Int.add_zero, Int.zero_add, Bool.not_true, Bool.not_false, Bool.or_true, Bool.or_false, Bool.true_or, Bool.and_true, Bool.and_false]
    · exact ih a s w
    · exact ev_zero n s
    · exact ih a s w
    · exact ih a s w
end
end Mine
namespace Mine
section
open PySem PySem.W PyProof.Rows PySem.Calls
theorem enc_lt : ∀ (n : Nat) (t : Cube n), encC n t < 2 ^ n
  | 0, _ => Nat.zero_lt_one
  | n + 1, t => by
    have := enc_lt n t.1
    unfold encC
    rw [Nat.pow_succ]
    split <;> (first | exact o386 this | exact o387 this)
theorem inSet_blk {n v e : Nat} (_hn : n < 4) (he : e < 2 ^ n) (b : Bool) : inSet (2 ^ (n + 1) * v + (e + if b = true then 2 ^ n else 0)) n = b := by
  have h2 : (2 : Nat) ^ (n + 1) = 2 ^ n + 2 ^ n := by rw [Nat.pow_succ, Nat.mul_two]
  have hb : (e + if b = true then 2 ^ n else 0) < 2 ^ (n + 1) := by
    rw [h2]
    cases b
    · exact Nat.lt_of_lt_of_le he (Nat.le_add_right _ _)
    · exact Nat.add_lt_add_right he _
  rw [inSet_tb, Nat.testBit_two_pow_mul_add v hb, if_pos (Nat.lt_succ_self n)]
  cases b
  · exact Nat.testBit_lt_two_pow he
  · show (e + 2 ^ n).testBit n = true
    rw [Nat.add_comm, Nat.testBit_two_pow_add_eq, Nat.testBit_lt_two_pow he]; rfl
theorem push_sh (ms : List Nat) : ∀ (n : Nat), n ≤ 4 → ∀ (u v : Nat) (t : Cube n), u = 2 ^ n * v → u + encC n t < 16 → (u + encC n t ∈ pushN ms n ↔ shC n (fun x => u + encC n x ∈ ms) t)
  | 0, _, u, v, t, _, _ => Iff.rfl
  | n + 1, hn, u, v, (t, b), hu, hlt => by
    have he := enc_lt n t
    have ih := push_sh ms n (by exact o378 hn)
    have hin := inSet_blk (v := v) (by exact o379 hn) he b
    rw [← hu] at hin
    have es : u + encC (n + 1) (t, b) = u + (encC n t + if b = true then 2 ^ n else 0) := rfl
    rw [pushN_succ, pushP_mem (by exact o379 hn) hlt, es, hin]
    have hu0 : u = 2 ^ n * (2 * v) := by rw [hu, Nat.pow_succ, Nat.mul_assoc]
    have hu1 : u + 2 ^ n = 2 ^ n * (2 * v + 1) := by rw [Nat.mul_add, ← hu0, Nat.mul_one]
    rw [es] at hlt
    have f0 : (fun x : Cube n => u + encC (n + 1) (x, false) ∈ ms) = fun x => u + encC n x ∈ ms := by funext x; rfl
    have f1 : (fun x : Cube n => u + encC (n + 1) (x, true) ∈ ms) = fun x => u + 2 ^ n + encC n x ∈ ms := by
      funext x
      show (u + (encC n x + 2 ^ n) ∈ ms) = _
      rw [show u + (encC n x + 2 ^ n) = u + 2 ^ n + encC n x by exact o388]
    have hlt0 : u + encC n t < 16 := by
      refine Nat.lt_of_le_of_lt ?_ hlt
      exact o389
    have i0 := ih u (2 * v) t hu0 hlt0
    cases b with
    | true =>
      simp only [if_true] at hlt ⊢
      have i1 := ih (u + 2 ^ n) (2 * v + 1) t hu1 (by exact o390 hlt)
      have e1 : u + (encC n t + 2 ^ n) = u + 2 ^ n + encC n t := by exact o388
      have e2 : u + (encC n t + 2 ^ n) - 2 ^ n = u + encC n t := by exact o391
      rw [e2, e1, i0, i1]
      show _ ↔ shC n (fun x => u + encC (n + 1) (x, false) ∈ ms) t ∧ shC n (fun x => u + encC (n + 1) (x, true) ∈ ms) t
      rw [f0, f1]
      exact And.comm
    | false =>
      simp only [Bool.false_eq_true, if_false, Nat.add_zero] at hlt hin ⊢
      have hup := inSet_up _ hlt n (by exact o379 hn) hin
      have i1 := ih (u + 2 ^ n) (2 * v + 1) t hu1 (by exact o392 hup)
      have e1 : u + encC n t + 2 ^ n = u + 2 ^ n + encC n t := by exact o393
      rw [e1, i0, i1]
      show _ ↔ shC n (fun x => u + encC (n + 1) (x, false) ∈ ms) t ∨ shC n (fun x => u + encC (n + 1) (x, true) ∈ ms) t
      rw [f0, f1]
noncomputable def decC (m : Nat) : Cube 4 := (((((), m % 2 == 1), m / 2 % 2 == 1), m / 4 % 2 == 1), m / 8 % 2 == 1)
theorem enc_dec : ∀ m < 16, encC 4 (decC m) = m := by decide
theorem dec_enc (t : Cube 4) : decC (encC 4 t) = t := by
  obtain ⟨⟨⟨⟨⟨⟩, a⟩, b⟩, c⟩, d⟩ := t
  cases a <;> cases b <;> cases c <;> cases d <;> rfl
theorem sub_incl : ∀ a < 16, ∀ c < 16, subC 4 (decC a) (decC c) = incl a c := by decide
noncomputable def colSum (ts : List Nat) (ws : List Int) (m : Nat) : Int := ((ts.zip ws).map fun q => if incl q.1 m = true then q.2 else 0).sum
open Classical in
noncomputable def coef (ts : List Nat) (ws : List Int) (t : Cube 4) : Int := ((ts.zip ws).map fun q => dlt (decC q.1) q.2 t).sum
theorem ev_coef : ∀ (ts : List Nat) (ws : List Int), (∀ t ∈ ts, t < 16) → ∀ m < 16, evC 4 (coef ts ws) (decC m) = colSum ts ws m
  | [], ws, _, m, _ => by
    have e : coef [] ws = fun _ => 0 := by funext t; rfl
    rw [e, ev_zero]; rfl
  | t :: ts, [], _, m, _ => by
    have e : coef (t :: ts) [] = fun _ => 0 := by funext t; rfl
    rw [e, ev_zero]; rfl
  | t :: ts, y :: ws, h, m, hm => by
    have e : coef (t :: ts) (y :: ws) = fun x => dlt (decC t) y x + coef ts ws x := by funext x; unfold coef; simp
    rw [e, ev_add, ev_delta, ev_coef ts ws (fun t ht => h t (.tail _ ht)) m hm, sub_incl t (h t (.head _)) m hm]
    unfold colSum
    simp
theorem coef_out : ∀ (ts : List Nat) (ws : List Int) (t : Cube 4), (∀ x ∈ ts, x < 16) → encC 4 t ∉ ts → coef ts ws t = 0
  | [], ws, t, _, _ => rfl
  | x :: ts, [], t, _, _ => rfl
  | x :: ts, y :: ws, t, h, hn => by
    have e : coef (x :: ts) (y :: ws) t = dlt (decC x) y t + coef ts ws t := by unfold coef; simp
    rw [e, coef_out ts ws t (fun z hz => h z (.tail _ hz)) (fun q => hn (.tail _ q))]
    unfold dlt
    rw [if_neg, Int.add_zero]
    rintro rfl
    exact hn (by rw [enc_dec x (h x (.head _))]; exact .head _)
theorem coef_in : ∀ (ts : List Nat) (ws : List Int), (∀ x ∈ ts, x < 16) → ts.Nodup → ts.length = ws.length → ∀ j (h1 : j < ts.length) (h2 : j < ws.length), coef ts ws (decC ts[j]) = ws[j]
  | x :: ts, y :: ws, h, hn, hl, j, h1, h2 => by
    obtain ⟨n1, n2⟩ := List.nodup_cons.mp hn
    have e : ∀ t, coef (x :: ts) (y :: ws) t = dlt (decC x) y t + coef ts ws t := fun t => by unfold coef; simp
    rw [e]
    cases j with
    | zero =>
      show dlt (decC x) y (decC x) + coef ts ws (decC x) = y
      rw [coef_out ts ws _ (fun z hz => h z (.tail _ hz)) (by rw [enc_dec x (h x (.head _))]; exact n1), Int.add_zero]
      unfold dlt; rw [if_pos rfl]
    | succ j =>
      have hj : j < ts.length := by simpa using h1
      show dlt (decC x) y (decC ts[j]) + coef ts ws (decC ts[j]) = ws[j]'(by simpa using h2)
      rw [coef_in ts ws (fun z hz => h z (.tail _ hz)) n2 (by simpa using hl) j hj (by simpa using h2)]
      unfold dlt
      rw [if_neg, Int.zero_add]
      intro q
      have := congrArg (encC 4) q
      rw [enc_dec _ (h _ (.tail _ (List.getElem_mem hj))), enc_dec x (h x (.head _))] at this
      exact n1 (this ▸ List.getElem_mem hj)
theorem uni_base {ms : List Nat} (hn : ms.Nodup) (h16 : ∀ m ∈ ms, m < 16) (ws : List Int) (hl : ws.length = (pushN ms 4).length) (p : Int) (h : ∀ m ∈ ms, p ∣ colSum (pushN ms 4) ws m) : ∀ x ∈ ws, p ∣ x := by
  obtain ⟨hn4, h164, _⟩ := pushN_ok hn h16 4
  have key := lead_all 4 (fun t => encC 4 t ∈ ms) (coef (pushN ms 4) ws) p (fun s hs => ?_) (fun t ht => ?_)
  · intro x hx
    obtain ⟨j, hj, rfl⟩ := List.mem_iff_getElem.mp hx
    rw [← coef_in (pushN ms 4) ws h164 hn4 hl.symm j (by exact o394 hj hl) hj]
    exact key _
  · have := ev_coef (pushN ms 4) ws h164 (encC 4 s) (h16 _ hs)
    rw [dec_enc] at this
    rw [this]
    exact h _ hs
  · refine coef_out _ _ _ h164 fun q => ht ?_
    have hlt := enc_lt 4 t
    have := push_sh ms 4 (Nat.le_refl _) 0 0 t rfl (by rw [Nat.zero_add]; exact hlt)
    simp only [Nat.zero_add] at this
    exact this.mp q
end
end Mine
namespace Mine
section
open PySem PySem.W PyProof.Rows PySem.Calls
theorem key1 {f s q b r a x : Nat} (hx : x ≤ f + q * s) (h : a = q * b + r) : s * r + x * b ≤ f * b + s * a := by
  subst h
  have h1 : x * b ≤ (f + q * s) * b := Nat.mul_le_mul_right _ hx
  have h2 : (f + q * s) * b = f * b + s * (q * b) := by rw [Nat.add_mul, Nat.mul_comm q s, Nat.mul_assoc]
  rw [h2] at h1
  rw [Nat.mul_add]
  exact o395 h1
theorem key2 {f s q b r a x c : Nat} (hx : x ≤ f + q * s) (h : q * b ≤ a + r) (ha : a ≤ c) (hb : b ≤ c) (hr : r ≤ c) : s * r + x * b ≤ c * (f + 3 * s) := by
  have h1 : x * b ≤ (f + q * s) * b := Nat.mul_le_mul_right _ hx
  have h2 : (f + q * s) * b = f * b + s * (q * b) := by rw [Nat.add_mul, Nat.mul_comm q s, Nat.mul_assoc]
  rw [h2] at h1
  have h3 : s * (q * b) ≤ s * (c + c) := Nat.mul_le_mul_left _ (by exact o396 h ha hr)
  have h4 : f * b ≤ f * c := Nat.mul_le_mul_left _ hb
  have h5 : s * r ≤ s * c := Nat.mul_le_mul_left _ hr
  have h6 : c * (f + 3 * s) = f * c + 3 * (s * c) := by rw [Nat.mul_add, Nat.mul_comm c f, Nat.mul_comm c (3 * s), Nat.mul_assoc]
  rw [Nat.mul_add] at h3
  exact o397 h6 h1 h3 h5 h4
theorem fdm (a b : Int) (hb : b ≠ 0) : ((0 < b ∧ 0 ≤ a - a.fdiv b * b ∧ a - a.fdiv b * b < b) ∨ (b < 0 ∧ a - a.fdiv b * b ≤ 0 ∧ b < a - a.fdiv b * b)) := by
  have e : a - a.fdiv b * b = a.fmod b := by rw [Int.fmod_def, Int.mul_comm]
  rw [e]
  rcases (by exact o398 hb : 0 < b ∨ b < 0) with h | h
  · exact .inl ⟨h, Int.fmod_nonneg_of_pos a h, Int.fmod_lt_of_pos a h⟩
  · have e2 : a.fmod b = -((-a).fmod (-b)) := by rw [Int.neg_fmod_neg]; exact o302
    have hp : 0 < -b := by exact o303 h
    have h1 := Int.fmod_nonneg_of_pos (-a) hp
    have h2 := Int.fmod_lt_of_pos (-a) hp
    exact .inr ⟨h, by exact o399 h1 e2, by exact o400 h2 e2⟩
theorem fdm_abs {a b : Int} (hb : b ≠ 0) (hs1 : 0 < b → 0 < a) (hs2 : b < 0 → a < 0) : a.natAbs = (a.fdiv b).natAbs * b.natAbs + (a - a.fdiv b * b).natAbs := by
  rw [← Int.natAbs_mul]
  have h := fdm a b hb
  generalize hq : a.fdiv b = q at h
  rcases h with ⟨h1, h2, h3⟩ | ⟨h1, h2, h3⟩
  · have ha := hs1 h1
    have hq0 : 0 ≤ q := by rw [← hq]; exact Int.fdiv_nonneg (by exact o177 ha) (by exact o401 h3 h2)
    have := Int.mul_nonneg hq0 (Int.le_of_lt h1)
    generalize q * b = z at *
    exact o402 h2 this
  · have ha := hs2 h1
    have hq0 : 0 ≤ q := by rw [← hq, ← Int.neg_fdiv_neg]; exact Int.fdiv_nonneg (by exact o403 ha) (by exact o404 h2 h3)
    have := Int.mul_nonpos_of_nonneg_of_nonpos hq0 (Int.le_of_lt h1)
    generalize q * b = z at *
    exact o405 h2 this
theorem fdm_le {a b : Int} : (a.fdiv b).natAbs * b.natAbs ≤ a.natAbs + (a - a.fdiv b * b).natAbs := by
  rw [← Int.natAbs_mul]
  generalize a.fdiv b * b = z
  exact o406
noncomputable abbrev LinF (m : Nat) (f : List Int → Int) : Prop := ∀ q F S, F.length = m → S.length = m → f (zsub q F S) = f F - q * f S
structure EuOut (k m c : Nat) (Φ : Nat → Nat) (F S F' S' : List Int) : Prop where
  eu : EuR k F S F' S'
  s0 : zat k S' = 0
  f0 : zat k F' ≠ 0
  fc : (zat k F').natAbs ≤ c
  bF : ∀ j, (zat j F').natAbs ≤ Φ j
  bS : ∀ j, (zat j S').natAbs ≤ Φ j
  z : ∀ i, zat i F = 0 → zat i S = 0 → zat i F' = 0 ∧ zat i S' = 0
  lin : ∀ f, LinF m f → ∀ p, p ∣ f F' → p ∣ f S' → p ∣ f F ∧ p ∣ f S
theorem zat_subA {m : Nat} {F S : List Int} {q : Int} (h1 : F.length = m) (h2 : S.length = m) (j : Nat) : zat j (zsub q F S) = zat j F - q * zat j S := by
  by_cases hj : j < m
  · exact zat_sub h1 h2 hj
  · have e : ∀ l : List Int, l.length = m → zat j l = 0 := fun l hl => by unfold zat; rw [List.getD_eq_getElem?_getD, List.getElem?_eq_none (by exact o407 hl hj)]; rfl
    rw [e _ (zsub_len h1 h2), e F h1, e S h2]; simp
theorem abs_subA {m : Nat} {F S : List Int} {q : Int} (h1 : F.length = m) (h2 : S.length = m) (j : Nat) : (zat j (zsub q F S)).natAbs ≤ (zat j F).natAbs + q.natAbs * (zat j S).natAbs := by
  rw [zat_subA h1 h2, ← Int.natAbs_mul]
  generalize q * zat j S = z
  exact o408
theorem slim_of {S : List Int} {Φ : Nat → Nat} (h : ∀ j, (zat j S).natAbs ≤ Φ j) (hΦ : ∀ j, Φ j < 2 ^ 10000) : Slim S := by
  intro x hx
  obtain ⟨j, hj, rfl⟩ := List.mem_iff_getElem.mp hx
  have := h j
  rw [zat_get hj] at this
  exact Nat.le_trans (intBits_le (Nat.lt_of_le_of_lt this (hΦ j))) (by decide)
theorem lin_back {m : Nat} {f : List Int → Int} {q p : Int} {F S : List Int} (hf : LinF m f) (h1 : F.length = m) (h2 : S.length = m) (a : p ∣ f S) (b : p ∣ f (zsub q F S)) : p ∣ f F := by
  rw [hf q F S h1 h2] at b
  have := Int.dvd_add b (Int.dvd_mul_of_dvd_right (b := q) a)
  rwa [Int.sub_add_cancel] at this
theorem euS {k m c : Nat} {Φ : Nat → Nat} (hk : k < m) (hc : c < 2 ^ 299) (hΦ : ∀ j, Φ j < 2 ^ 10000) : ∀ (N : Nat) (F S : List Int), (zat k S).natAbs ≤ N → F.length = m → S.length = m → zat k F ≠ 0 → (zat k F).natAbs ≤ c → (zat k S).natAbs ≤ c → (0 < zat k S → 0 < zat k F) → (zat k S < 0 → zat k F < 0) →
    (∀ j, (zat j F).natAbs ≤ Φ j) → (∀ j, (zat j S).natAbs ≤ Φ j) → (∀ j, (zat j F).natAbs * (zat k S).natAbs + (zat j S).natAbs * (zat k F).natAbs ≤ Φ j) → ∃ F' S', EuOut k m c Φ F S F' S' := by
  intro N
  induction N with
  | zero =>
    intro F S hN h1 h2 h3 h4 h5 h6 h7 h8 h9 h10
    have hz : zat k S = 0 := by exact o409 hN
    exact ⟨F, S, .stop hz, hz, h3, h4, h8, h9, fun i a b => ⟨a, b⟩, fun f _ p a b => ⟨a, b⟩⟩
  | succ N ih =>
    intro F S hN h1 h2 h3 h4 h5 h6 h7 h8 h9 h10
    by_cases hz : zat k S = 0
    · exact ⟨F, S, .stop hz, hz, h3, h4, h8, h9, fun i a b => ⟨a, b⟩, fun f _ p a b => ⟨a, b⟩⟩
    · have hless := less_sub h1 h2 hk hz
      have hsg := fdm (zat k F) (zat k S) hz
      have hab := fdm_abs hz h6 h7
      have hzk : zat k (zsub (qOf k F S) F S) = zat k F - (zat k F).fdiv (zat k S) * zat k S := zat_subA h1 h2 k
      rw [← hzk] at hsg hab
      have hphi : ∀ j, (zat j S).natAbs * (zat k (zsub (qOf k F S) F S)).natAbs + (zat j (zsub (qOf k F S) F S)).natAbs * (zat k S).natAbs ≤ Φ j := fun j => by
        refine Nat.le_trans (key1 (abs_subA h1 h2 j) ?_) (h10 j)
        exact hab
      obtain ⟨F', S', o⟩ := ih S (zsub (qOf k F S) F S) (by exact o410 hsg hN) h2 (zsub_len h1 h2) hz h5 (by exact o411 hsg h5) (by intro hh; rcases hsg with q | q <;> (first | exact o412 q | exact o413 q hh)) (by intro hh; rcases hsg with q | q <;> (first | exact o414 q hh | exact o415 q)) h9 (fun j => by
        have h0 := hphi j
        have hb : 1 ≤ (zat k S).natAbs := by exact o416 hsg
        have := Nat.mul_le_mul_left (zat j (zsub (qOf k F S) F S)).natAbs hb
        rw [Nat.mul_one] at this
        exact o417 this h0) hphi
      refine ⟨F', S', .step hz (Nat.lt_of_le_of_lt h4 hc) (Nat.lt_of_le_of_lt h5 hc) (slim_of h9 hΦ) o.eu, o.s0, o.f0, o.fc, o.bF, o.bS, fun i a b => o.z i b (by rw [zat_subA h1 h2, a, b]; simp), fun f hf p a b => ?_⟩
      obtain ⟨g1, g2⟩ := o.lin f hf p a b
      exact ⟨lin_back hf h1 h2 g1 g2, g1⟩
theorem eu_ex {k m c : Nat} {X B : Nat → Nat} {F S : List Int} (hk : k < m) (hc : c < 2 ^ 299) (hΦ : ∀ j, c * (X j + 3 * B j) < 2 ^ 10000) (h1 : F.length = m) (h2 : S.length = m) (hz : zat k S ≠ 0) (hF : (zat k F).natAbs ≤ c) (hS : (zat k S).natAbs ≤ c)
    (hX : ∀ j, (zat j F).natAbs ≤ X j) (hB : ∀ j, (zat j S).natAbs ≤ B j) : ∃ F' S', EuOut k m c (fun j => c * (X j + 3 * B j)) F S F' S' := by
  have hless := less_sub h1 h2 hk hz
  have hsg := fdm (zat k F) (zat k S) hz
  have hab := fdm_le (a := zat k F) (b := zat k S)
  have hzk : zat k (zsub (qOf k F S) F S) = zat k F - (zat k F).fdiv (zat k S) * zat k S := zat_subA h1 h2 k
  rw [← hzk] at hsg hab
  have hc1 : 1 ≤ c := by exact o418 hsg hS
  have hphi : ∀ j, (zat j S).natAbs * (zat k (zsub (qOf k F S) F S)).natAbs + (zat j (zsub (qOf k F S) F S)).natAbs * (zat k S).natAbs ≤ c * (X j + 3 * B j) := fun j => by
    refine Nat.le_trans (key2 (a := (zat k F).natAbs) (r := (zat k (zsub (qOf k F S) F S)).natAbs) (abs_subA h1 h2 j) ?_ hF hS (by exact o411 hsg hS)) (Nat.mul_le_mul_left _ ?_)
    · exact hab
    · have := hX j; have := hB j; exact o419 (by assumption) this
  have hSb : ∀ j, (zat j S).natAbs ≤ c * (X j + 3 * B j) := fun j => by
    have h0 := hB j
    have := Nat.mul_le_mul_right (X j + 3 * B j) hc1
    exact o420 this h0
  obtain ⟨F', S', o⟩ := euS hk hc hΦ _ S (zsub (qOf k F S) F S) (Nat.le_refl _) h2 (zsub_len h1 h2) hz hS (by exact o411 hsg hS) (by intro hh; rcases hsg with q | q <;> (first | exact o412 q | exact o413 q hh)) (by intro hh; rcases hsg with q | q <;> (first | exact o414 q hh | exact o415 q)) hSb (fun j => by
    have h0 := hphi j
    have hb : 1 ≤ (zat k S).natAbs := by exact o416 hsg
    have := Nat.mul_le_mul_left (zat j (zsub (qOf k F S) F S)).natAbs hb
    rw [Nat.mul_one] at this
    exact o417 this h0) hphi
  refine ⟨F', S', .step hz (Nat.lt_of_le_of_lt hF hc) (Nat.lt_of_le_of_lt hS hc) (slim_of hSb hΦ) o.eu, o.s0, o.f0, o.fc, o.bF, o.bS, fun i a b => o.z i b (by rw [zat_subA h1 h2, a, b]; simp), fun f hf p a b => ?_⟩
  obtain ⟨g1, g2⟩ := o.lin f hf p a b
  exact ⟨lin_back hf h1 h2 g1 g2, g1⟩
end
end Mine
namespace Mine
section
open PySem PySem.W PyProof.Rows PySem.Calls
noncomputable def uw (n j : Nat) : Nat := if j = n then 50 else 1
noncomputable def Bd (n X : Nat) (F : List Int) : Prop := ∀ j, (zat j F).natAbs ≤ uw n j * X
theorem Bd.mono {n X Y : Nat} {F : List Int} (h : Bd n X F) (hl : X ≤ Y) : Bd n Y F := fun j => Nat.le_trans (h j) (Nat.mul_le_mul_left _ hl)
noncomputable def fX (c B : Nat) : Nat → Nat → Nat
  | X, 0 => X
  | X, i + 1 => fX c B (c * (X + 3 * B)) i
theorem fX_le {c B : Nat} (hc : 1 ≤ c) : ∀ (i X : Nat), X ≤ fX c B X i
  | 0, X => Nat.le_refl _
  | i + 1, X => by
    have h1 := Nat.mul_le_mul_right (X + 3 * B) hc
    exact Nat.le_trans (by exact o421 h1) (fX_le hc i _)
theorem fX_mono {c B : Nat} (hc : 1 ≤ c) : ∀ (i i' X : Nat), i ≤ i' → fX c B X i ≤ fX c B X i'
  | 0, i', X, _ => fX_le hc i' X
  | i + 1, 0, X, h => by exact o422 h
  | i + 1, i' + 1, X, h => fX_mono hc i i' _ (by exact o423 h)
structure FoldOut (n k m X : Nat) (F : List Int) (ls : List (List Int)) (F' : List Int) (news : List (List Int)) : Prop where
  fo : FoldR k F ls F' news
  len : news.length = ls.length
  lF : F'.length = m
  bF : Bd n X F'
  f0 : zat k F' ≠ 0
  each : ∀ s ∈ news, s.length = m ∧ Bd n X s ∧ zat k s = 0
  z : ∀ i, zat i F = 0 → (∀ l ∈ ls, zat i l = 0) → zat i F' = 0 ∧ ∀ s ∈ news, zat i s = 0
  lin : ∀ f, LinF m f → ∀ p, p ∣ f F' → (∀ s ∈ news, p ∣ f s) → p ∣ f F ∧ ∀ l ∈ ls, p ∣ f l
theorem fold_ex {n k m c B : Nat} (hk : k < m) (hB : B < 2 ^ 9000) : ∀ (ls : List (List Int)) (F : List Int) (X : Nat), (ls ≠ [] → c < 2 ^ 299) → F.length = m → Bd n X F → zat k F ≠ 0 → (zat k F).natAbs ≤ c → (∀ l ∈ ls, l.length = m ∧ Bd n B l ∧ zat k l ≠ 0 ∧ (zat k l).natAbs ≤ c) → fX c B X ls.length < 2 ^ 9000 →
    ∃ F' news, FoldOut n k m (fX c B X ls.length) F ls F' news
  | [], F, X, _, h1, h2, h3, _, _, _ => ⟨F, [], .nil, rfl, h1, h2, h3, fun s hs => (by cases hs), fun i a _ => ⟨a, fun s hs => (by cases hs)⟩, fun f _ p a _ => ⟨a, fun l hl => (by cases hl)⟩⟩
  | l :: ls, F, X, hc, h1, h2, h3, h4, h5, h6 => by
    obtain ⟨l1, l2, l3, l4⟩ := h5 l (.head _)
    have hc1 : 1 ≤ c := by exact o424 l4 l3
    have hX' : c * (X + 3 * B) ≤ fX c B X (l :: ls).length := fX_le hc1 ls.length _
    have hu : ∀ j, c * (uw n j * X + 3 * (uw n j * B)) = uw n j * (c * (X + 3 * B)) := fun j => by
      rw [show uw n j * X + 3 * (uw n j * B) = uw n j * (X + 3 * B) by rw [Nat.mul_add, Nat.mul_left_comm], Nat.mul_left_comm]
    have hu50 : ∀ j, uw n j ≤ 50 := fun j => by unfold uw; split <;> (first | decide | decide)
    obtain ⟨F1, S1, o⟩ := eu_ex (X := fun j => uw n j * X) (B := fun j => uw n j * B) hk (hc (by simp)) (fun j => by
      rw [hu]
      have := Nat.mul_le_mul (hu50 j) (Nat.le_of_lt (Nat.lt_of_le_of_lt hX' h6))
      exact Nat.lt_of_le_of_lt this (by decide +kernel)) h1 l1 l3 h4 l4 h2 l2
    obtain ⟨lF1, lS1⟩ := o.eu.len h1 l1
    have bF1 : Bd n (c * (X + 3 * B)) F1 := fun j => by rw [← hu]; exact o.bF j
    have bS1 : Bd n (c * (X + 3 * B)) S1 := fun j => by rw [← hu]; exact o.bS j
    obtain ⟨F', news, w⟩ := fold_ex hk hB ls F1 (c * (X + 3 * B)) (fun _ => hc (by simp)) lF1 bF1 o.f0 o.fc (fun l hl => h5 l (.tail _ hl)) h6
    refine ⟨F', S1 :: news, .cons o.eu w.fo, by simp [w.len], w.lF, w.bF, w.f0, fun s hs => ?_, fun i a hz => ?_, fun f hf p a hn => ?_⟩
    · rcases List.mem_cons.mp hs with rfl | hs
      · exact ⟨lS1, bS1.mono hX', o.s0⟩
      · exact w.each s hs
    · obtain ⟨z1, z2⟩ := o.z i a (hz l (.head _))
      obtain ⟨z3, z4⟩ := w.z i z1 (fun l hl => hz l (.tail _ hl))
      exact ⟨z3, fun s hs => (List.mem_cons.mp hs).elim (fun e => e ▸ z2) (z4 s)⟩
    · obtain ⟨g1, g2⟩ := w.lin f hf p a (fun s hs => hn s (.tail _ hs))
      obtain ⟨g3, g4⟩ := o.lin f hf p g1 (hn S1 (.head _))
      exact ⟨g3, fun l' hl => (List.mem_cons.mp hl).elim (fun e => e ▸ g4) (g2 l')⟩
noncomputable def nb : Nat → Nat
  | 0 => 1
  | k + 1 => fX (nb k) (nb k) (nb k) (5 - k)
theorem nb_pos : ∀ k, 1 ≤ nb k
  | 0 => Nat.le_refl _
  | k + 1 => Nat.le_trans (nb_pos k) (fX_le (nb_pos k) _ _)
theorem nb_succ (k : Nat) : nb k ≤ nb (k + 1) := fX_le (nb_pos k) _ _
theorem nb_mono {i j : Nat} (h : i ≤ j) : nb i ≤ nb j := by
  induction h with
  | refl => exact Nat.le_refl _
  | step _ ih => exact Nat.le_trans ih (nb_succ _)
theorem nb6 : nb 6 < 2 ^ 600 := by decide +kernel
theorem nb4 : nb 4 < 2 ^ 299 := by decide +kernel
noncomputable def phi (n : Nat) (ws : Nat → Int) (r : List Int) : Int := ((List.range n).map fun j => zat j r * ws j).sum
theorem phi_succ (n : Nat) (ws : Nat → Int) (r : List Int) : phi (n + 1) ws r = phi n ws r + zat n r * ws n := by
  unfold phi; rw [List.range_succ, List.map_append, List.sum_append]; simp
theorem phi_lin (n m : Nat) (ws : Nat → Int) : LinF m (phi n ws) := by
  intro q F S h1 h2
  induction n with
  | zero => show (0 : Int) = 0 - q * 0; simp
  | succ n ih =>
    rw [phi_succ, phi_succ, phi_succ, ih, zat_subA h1 h2, Int.sub_mul, Int.mul_add, Int.mul_assoc]
    exact o425
theorem phi_upd (n k : Nat) (ws : Nat → Int) (y : Int) (r : List Int) : phi n (fun j => if j = k then y else ws j) r = phi n ws r + if k < n then zat k r * (y - ws k) else 0 := by
  induction n with
  | zero => simp [phi]
  | succ n ih =>
    rw [phi_succ, phi_succ, ih]
    by_cases h1 : n = k
    · subst h1
      rw [if_neg (Nat.lt_irrefl _), if_pos rfl, if_pos (Nat.lt_succ_self _), Int.mul_sub]
      exact o426
    · rw [if_neg h1]
      by_cases h2 : k < n
      · rw [if_pos h2, if_pos (by exact o50 h2)]; exact o427
      · rw [if_neg h2, if_neg (by exact o428 h2 h1)]; exact o429
theorem phi_zero (n : Nat) (r : List Int) : phi n (fun _ => 0) r = 0 := by
  induction n with
  | zero => rfl
  | succ n ih => rw [phi_succ, ih]; simp
theorem phi_unit {n k : Nat} (hk : k < n) (r : List Int) : phi n (fun j => if j = k then 1 else 0) r = zat k r := by
  rw [phi_upd n k (fun _ => 0) 1 r, phi_zero, if_pos hk]; simp
noncomputable def Uni (n k : Nat) (R : List (List Int)) : Prop := ∀ (ws : Nat → Int) (p : Int), (∀ r ∈ R, p ∣ phi n ws r) → ∀ j, k ≤ j → j < n → p ∣ ws j
structure StOut (n k : Nat) (R out : List (List Int)) : Prop where
  st : StairsR n k R out
  len : out.length + k = n
  one : ∀ i < out.length, (zat (k + i) (out.getD i [])).natAbs = 1 ∧ ∀ j < k + i, zat j (out.getD i []) = 0
  each : ∀ o ∈ out, o.length = n + 1 ∧ Bd n (nb 6) o
  lin : ∀ f, LinF (n + 1) f → ∀ p, (∀ o ∈ out, p ∣ f o) → ∀ r ∈ R, p ∣ f r
end
end Mine
namespace Mine
section
open PySem PySem.W PyProof.Rows PySem.Calls
theorem one_of_dvd {g : Int} (h : g ∣ 1) : g.natAbs = 1 := by
  have := Int.natAbs_dvd_natAbs.mpr h
  exact Nat.dvd_one.mp this
theorem sq_one {g : Int} (h : g.natAbs = 1) : g * g = 1 := by
  rcases (by exact o430 h : g = 1 ∨ g = -1) with rfl | rfl <;> rfl
theorem st_ex {n : Nat} (hn : n ≤ 6) : ∀ (d k : Nat) (R : List (List Int)), d + k = n → R.length = d → (∀ r ∈ R, r.length = n + 1 ∧ Bd n (nb k) r ∧ ∀ i < k, zat i r = 0) → Uni n k R → ∃ out, StOut n k R out
  | 0, k, R, hd, hl, _, _ => by
    have hk : k = n := by exact o431 hd
    subst hk
    obtain rfl : R = [] := List.length_eq_zero_iff.mp hl
    exact ⟨[], .done, by simp, fun i hi => by simp at hi, fun o ho => (by cases ho), fun f _ p _ r hr => (by cases hr)⟩
  | d + 1, k, R, hd, hl, hR, hU => by
    have hkn : k < n := by exact o432 hd
    -- some row is busy
    have hbusy : R.filter (fun l => zat k l != 0) ≠ [] := by
      intro he
      have hz : ∀ r ∈ R, zat k r = 0 := fun r hr => by
        have := List.filter_eq_nil_iff.mp he r hr
        simpa using this
      have h2 := hU (fun j => if j = k then 1 else 0) 2 (fun r hr => by rw [phi_unit hkn, hz r hr]; exact Int.dvd_zero _) k (Nat.le_refl _) hkn
      rw [if_pos rfl] at h2
      exact absurd h2 (by decide)
    obtain ⟨init, first, hb⟩ : ∃ init first, R.filter (fun l => zat k l != 0) = init ++ [first] := by
      rcases List.eq_nil_or_concat (R.filter fun l => zat k l != 0) with h | ⟨i, f, h⟩
      · exact absurd h hbusy
      · exact ⟨i, f, by rw [h, List.concat_eq_append]⟩
    have hin : ∀ l ∈ init ++ [first], l ∈ R ∧ zat k l ≠ 0 := fun l hl => by
      rw [← hb, List.mem_filter] at hl
      exact ⟨hl.1, by simpa using hl.2⟩
    have hfl := filt_len k R
    rw [hb, List.length_append, List.length_singleton] at hfl
    have hnbk := nb_pos k
    have hcol : ∀ l ∈ init ++ [first], (zat k l).natAbs ≤ nb k := fun l hl => by
      have := (hR l (hin l hl).1).2.1 k
      unfold uw at this
      rw [if_neg (by exact o433 hkn), Nat.one_mul] at this
      exact this
    have hfX : fX (nb k) (nb k) (nb k) init.length ≤ nb (k + 1) := fX_mono hnbk _ _ _ (by exact o434 hd hfl hl hn)
    have hnb6 : nb (k + 1) ≤ nb 6 := nb_mono (by exact o435 hkn hn)
    have h600 : (2 : Nat) ^ 600 < 2 ^ 9000 := Nat.pow_lt_pow_right (by decide) (by decide)
    have hfm : first ∈ init ++ [first] := List.mem_append_right _ (.head _)
    obtain ⟨F', news, w⟩ := fold_ex (n := n) (m := n + 1) (c := nb k) (B := nb k) (by exact o50 hkn) (Nat.lt_of_le_of_lt (Nat.le_trans (nb_succ k) hnb6) (Nat.lt_trans nb6 h600)) init first (nb k) (fun hne => by
        have : 0 < init.length := List.length_pos_iff.mpr hne
        exact Nat.lt_of_le_of_lt (nb_mono (by exact o436 hd this hfl hl hn : k ≤ 4)) nb4) (hR first (hin first hfm).1).1 (hR first (hin first hfm).1).2.1 (hin first hfm).2 (hcol first hfm)
      (fun l hl => ⟨(hR l (hin l (List.mem_append_left _ hl)).1).1, (hR l (hin l (List.mem_append_left _ hl)).1).2.1, (hin l (List.mem_append_left _ hl)).2, hcol l (List.mem_append_left _ hl)⟩) (Nat.lt_of_le_of_lt hfX (Nat.lt_of_le_of_lt hnb6 (Nat.lt_trans nb6 h600)))
    have hzero : ∀ r ∈ R.filter (fun l => zat k l == 0), r ∈ R ∧ zat k r = 0 := fun r hr => by
      rw [List.mem_filter] at hr
      exact ⟨hr.1, by simpa using hr.2⟩
    -- what a functional says of the new rows it says of the old ones
    have back : ∀ f, LinF (n + 1) f → ∀ p, p ∣ f F' → (∀ r ∈ R.filter (fun l => zat k l == 0) ++ news, p ∣ f r) → ∀ r ∈ R, p ∣ f r := fun f hf p hF hr r hrm => by
      obtain ⟨g1, g2⟩ := w.lin f hf p hF (fun s hs => hr s (List.mem_append_right _ hs))
      by_cases hz : zat k r = 0
      · exact hr r (List.mem_append_left _ (List.mem_filter.mpr ⟨hrm, by simpa using hz⟩))
      · have hm : r ∈ init ++ [first] := by rw [← hb]; exact List.mem_filter.mpr ⟨hrm, by simpa using hz⟩
        rcases List.mem_append.mp hm with h | h
        · exact g2 r h
        · rw [List.mem_singleton.mp h]; exact g1
    have hzk : ∀ r ∈ R.filter (fun l => zat k l == 0) ++ news, zat k r = 0 := fun r hr => (List.mem_append.mp hr).elim (fun h => (hzero r h).2) (fun h => (w.each r h).2.2)
    have hone : (zat k F').natAbs = 1 := by
      refine one_of_dvd ?_
      have := hU (fun j => if j = k then 1 else 0) (zat k F') (back _ (phi_lin n (n + 1) _) _ (by rw [phi_unit hkn]; exact Int.dvd_refl _) (fun r hr => by rw [phi_unit hkn, hzk r hr]; exact Int.dvd_zero _)) k (Nat.le_refl _) hkn
      rwa [if_pos rfl] at this
    have hlow : ∀ i < k, zat i F' = 0 ∧ ∀ s ∈ news, zat i s = 0 := fun i hi => w.z i ((hR first (hin first hfm).1).2.2 i hi) (fun l hl => (hR l (hin l (List.mem_append_left _ hl)).1).2.2 i hi)
    have hR' : ∀ r ∈ R.filter (fun l => zat k l == 0) ++ news, r.length = n + 1 ∧ Bd n (nb (k + 1)) r ∧ ∀ i < k + 1, zat i r = 0 := fun r hr => by
      have hk0 := hzk r hr
      rcases List.mem_append.mp hr with h | h
      · obtain ⟨a, b, c⟩ := hR r (hzero r h).1
        refine ⟨a, b.mono (nb_succ k), fun i hi => ?_⟩
        by_cases e : i = k
        · rw [e]; exact hk0
        · exact c i (by exact o437 hi e)
      · obtain ⟨a, b, _⟩ := w.each r h
        refine ⟨a, b.mono hfX, fun i hi => ?_⟩
        by_cases e : i = k
        · rw [e]; exact hk0
        · exact (hlow i (by exact o437 hi e)).2 r h
    have hU' : Uni n (k + 1) (R.filter (fun l => zat k l == 0) ++ news) := by
      intro ws p hp j hj hjn
      have hg := sq_one hone
      have key := hU (fun j => if j = k then (ws k + -(zat k F') * phi n ws F') else ws j) p (back _ (phi_lin n (n + 1) _) p ?_ ?_) j (by exact o276 hj) hjn
      · rwa [if_neg (by exact o438 hj)] at key
      · rw [phi_upd, if_pos hkn]
        have e : zat k F' * (ws k + -(zat k F') * phi n ws F' - ws k) = -phi n ws F' := by
          rw [show ws k + -(zat k F') * phi n ws F' - ws k = -(zat k F') * phi n ws F' by exact o439, Int.neg_mul, Int.mul_neg, ← Int.mul_assoc, hg, Int.one_mul]
        rw [e, Int.add_right_neg]
        exact Int.dvd_zero _
      · intro r hr
        rw [phi_upd, if_pos hkn, hzk r hr, Int.zero_mul, Int.add_zero]
        exact hp r hr
    obtain ⟨out, o⟩ := st_ex hn d (k + 1) _ (by exact o440 hd) (by rw [List.length_append, w.len]; exact o441 hfl hl) hR' hU'
    refine ⟨F' :: out, .go hkn hb w.fo o.st, by have := o.len; rw [List.length_cons]; exact o442 this, fun i hi => ?_, fun x hx => ?_, fun f hf p hp => ?_⟩
    · cases i with
      | zero => exact ⟨hone, fun j hj => (hlow j (by exact o443 hj)).1⟩
      | succ i =>
        have := o.one i (by simpa using hi)
        rw [show k + (i + 1) = k + 1 + i by exact o444]
        exact this
    · rcases List.mem_cons.mp hx with rfl | hx
      · exact ⟨w.lF, (w.bF.mono hfX).mono hnb6⟩
      · exact o.each x hx
    · exact back f hf p (hp F' (.head _)) (o.lin f hf p (fun x hx => hp x (.tail _ hx)))
end
end Mine
namespace Mine
section
open PySem PySem.W PyProof.Rows PySem.Calls
theorem col_phi (g : Nat → Bool) (rest : List Int) : ∀ (ts : List Nat) (ws : Nat → Int), ((List.range ts.length).map fun j => zat j ((ts.map fun m => if g m = true then (1 : Int) else 0) ++ rest) * ws j).sum = ((ts.zip ((List.range ts.length).map ws)).map fun q => if g q.1 = true then q.2 else 0).sum
  | [], ws => rfl
  | t :: ts, ws => by
    have ih := col_phi g rest ts (fun j => ws (j + 1))
    rw [List.length_cons, List.range_succ_eq_map]
    simp only [List.map_cons, List.map_map, List.zip_cons_cons, List.sum_cons, List.cons_append]
    have e1 : ((fun j => zat j ((if g t = true then (1 : Int) else 0) :: (List.map (fun m => if g m = true then (1 : Int) else 0) ts ++ rest)) * ws j) ∘ Nat.succ) = fun j => zat j (List.map (fun m => if g m = true then (1 : Int) else 0) ts ++ rest) * ws (j + 1) := rfl
    have e2 : ws ∘ Nat.succ = fun j => ws (j + 1) := rfl
    rw [e1, e2, ih]
    congr 1
    show (if g t = true then (1 : Int) else 0) * ws 0 = _
    cases g t <;> simp
theorem row_phi (ts : List Nat) (ws : Nat → Int) (x : Nat) : phi ts.length ws (rowOf ts x) = colSum ts ((List.range ts.length).map ws) (x % 16) := col_phi (fun m => incl m (x % 16)) [valOf x] ts ws
theorem row_len (ts : List Nat) (x : Nat) : (rowOf ts x).length = ts.length + 1 := by unfold rowOf; rw [List.length_append, List.length_map]; rfl
theorem row_at {ts : List Nat} {x j : Nat} (h : j < ts.length) : zat j (rowOf ts x) = if incl (ts.getD j 0) (x % 16) = true then 1 else 0 := by
  unfold rowOf zat
  rw [List.getD_eq_getElem?_getD, List.getElem?_append_left (by rw [List.length_map]; exact h), List.getElem?_map, List.getD_eq_getElem?_getD, List.getElem?_eq_getElem h]
  rfl
theorem row_end (ts : List Nat) (x : Nat) : zat ts.length (rowOf ts x) = valOf x := by
  unfold rowOf zat
  rw [List.getD_eq_getElem?_getD, List.getElem?_append_right (by rw [List.length_map]; exact Nat.le_refl _), List.length_map, Nat.sub_self]
  rfl
theorem zat_out {j : Nat} {l : List Int} (h : l.length ≤ j) : zat j l = 0 := by
  unfold zat; rw [List.getD_eq_getElem?_getD, List.getElem?_eq_none h]; rfl
theorem val_abs (x : Nat) : (valOf x).natAbs ≤ 50 := by
  unfold valOf
  have := Int.fmod_lt_of_pos ((x : Int).fdiv 32) (b := 101) (by decide)
  have := Int.fmod_nonneg_of_pos ((x : Int).fdiv 32) (b := 101) (by decide)
  exact o445 this (by assumption)
theorem row_Bd (ts : List Nat) (x : Nat) : Bd ts.length 1 (rowOf ts x) := by
  intro j
  unfold uw
  rcases Nat.lt_trichotomy j ts.length with h | h | h
  · rw [row_at h, if_neg (Nat.ne_of_lt h)]; split <;> decide
  · rw [if_pos h, h, row_end]; exact Nat.le_trans (val_abs x) (by decide)
  · rw [zat_out (by rw [row_len]; exact h)]; exact Nat.zero_le _
theorem fm_sum (p : Nat → Bool) (f : Nat → Int) : ∀ l : List Nat, (l.filterMap fun j => if p j = true then some (f j) else none).sum = (l.map fun j => (if p j = true then (1 : Int) else 0) * f j).sum
  | [] => rfl
  | a :: l => by
    rw [List.filterMap_cons, List.map_cons, List.sum_cons, ← fm_sum p f l]
    cases p a <;> simp
theorem wsum_phi (ts : List Nat) (ws : List Int) (x : Nat) : wsum ts ws x ts.length = phi ts.length (fun j => zat j ws) (rowOf ts x) := by
  unfold wsum phi
  rw [fm_sum (fun j => incl (ts.getD j 0) (x % 16))]
  congr 1
  refine List.map_congr_left fun j hj => ?_
  rw [row_at (List.mem_range.mp hj)]
theorem bk_drop (lines : List (List Int)) (n i : Nat) : ∀ d, (bk lines n (i + d)).drop d = bk lines n i
  | 0 => rfl
  | d + 1 => by
    show List.drop (d + 1) (_ :: bk lines n (i + d)) = _
    rw [List.drop_succ_cons, bk_drop lines n i d]
theorem bk_zat (lines : List (List Int)) {n i : Nat} (h : i ≤ n) (j : Nat) : zat (n - i + j) (bk lines n n) = zat j (bk lines n i) := by
  have := bk_drop lines n i (n - i)
  rw [show i + (n - i) = n by exact o102 h] at this
  rw [← this]
  unfold zat
  rw [List.getD_eq_getElem?_getD, List.getD_eq_getElem?_getD, List.getElem?_drop]
theorem sum_zero {f : Nat → Int} : ∀ (l : List Nat), (∀ j ∈ l, f j = 0) → (l.map f).sum = 0
  | [], _ => rfl
  | a :: l, h => by rw [List.map_cons, List.sum_cons, h a (.head _), sum_zero l fun j hj => h j (.tail _ hj)]; rfl
theorem bk_row {out : List (List Int)} {n k : Nat} (hk : k < n) (h1 : (zat k (out.getD k [])).natAbs = 1) (h0 : ∀ j < k, zat j (out.getD k []) = 0) : phi n (fun j => zat j (bk out n n)) (out.getD k []) = zat n (out.getD k []) := by
  have hi : n = k + (n - 1 - k + 1) := by exact o446 hk
  have hk2 : n - 1 - (n - 1 - k) = k := by exact o447 hi
  have hb : bk out n (n - 1 - k + 1) = (zat k (out.getD k []) * (zat n (out.getD k []) - bkSum (out.getD k []) (bk out n (n - 1 - k)) k (n - 1 - k))) :: bk out n (n - 1 - k) := by
    show (_ :: _) = _
    rw [hk2]
  have hw : ∀ j, zat (k + j) (bk out n n) = zat j (bk out n (n - 1 - k + 1)) := fun j => by
    rw [← bk_zat out (i := n - 1 - k + 1) (by exact o448 hi) j]
    rw [show n - (n - 1 - k + 1) + j = k + j by exact o449 hk2]
  have hr : List.range n = List.range k ++ (List.range (n - 1 - k + 1)).map (k + ·) := by
    conv => lhs; rw [hi]
    exact List.range_add
  have hsum : bkSum (out.getD k []) (bk out n (n - 1 - k)) k (n - 1 - k) = ((List.range (n - 1 - k)).map fun j => zat (k + (j + 1)) (out.getD k []) * zat (k + (j + 1)) (bk out n n)).sum := by
    unfold bkSum
    congr 1
    refine List.map_congr_left fun j _ => ?_
    rw [hw (j + 1), hb, show k + 1 + j = k + (j + 1) by exact o450]
    rfl
  have hw0 := hw 0
  rw [hb] at hw0
  generalize hS : bkSum (out.getD k []) (bk out n (n - 1 - k)) k (n - 1 - k) = S at hsum hw0
  unfold phi
  rw [hr, List.map_append, List.sum_append, sum_zero (List.range k) (fun j hj => by rw [h0 j (List.mem_range.mp hj)]; simp), List.range_succ_eq_map, List.map_cons, List.map_cons, List.map_map, List.map_map, List.sum_cons]
  have e : ((fun j => zat j (out.getD k []) * zat j (bk out n n)) ∘ ((k + ·) ∘ Nat.succ)) = fun j => zat (k + (j + 1)) (out.getD k []) * zat (k + (j + 1)) (bk out n n) := rfl
  have e3 : (((fun j => zat j (out.getD k []) * zat j (bk out n n)) ∘ (k + ·)) ∘ Nat.succ) = fun j => zat (k + (j + 1)) (out.getD k []) * zat (k + (j + 1)) (bk out n n) := rfl
  first | rw [e, ← hsum] | rw [e3, ← hsum]
  show 0 + (zat (k + 0) (out.getD k []) * zat (k + 0) (bk out n n) + S) = _
  rw [hw0]
  rw [Nat.add_zero, show ∀ (a : Int) l, zat 0 (a :: l) = a from fun _ _ => rfl, ← Int.mul_assoc, sq_one h1]
  exact o451
noncomputable def wq : Nat → Nat
  | 0 => 0
  | i + 1 => 50 * nb 6 + 6 * (nb 6 * wq i)
theorem wq6 : wq 6 < 2 ^ 10000 := by decide +kernel
theorem wq_succ (i : Nat) : wq i ≤ wq (i + 1) := by
  show wq i ≤ 50 * nb 6 + 6 * (nb 6 * wq i)
  have := Nat.mul_le_mul_right (wq i) (nb_pos 6)
  exact o452 this
theorem wq_mono {i j : Nat} (h : i ≤ j) : wq i ≤ wq j := by
  induction h with
  | refl => exact Nat.le_refl _
  | step _ ih => exact Nat.le_trans ih (wq_succ _)
theorem sum_abs {f : Nat → Int} {c : Nat} : ∀ l : List Nat, (∀ j ∈ l, (f j).natAbs ≤ c) → ((l.map f).sum).natAbs ≤ l.length * c
  | [], _ => Nat.zero_le _
  | a :: l, h => by
    rw [List.map_cons, List.sum_cons, List.length_cons, Nat.add_mul, Nat.one_mul]
    have h1 := h a (.head _)
    have h2 := sum_abs l fun j hj => h j (.tail _ hj)
    exact o453 h1 h2
theorem zat_mem_le {ws : List Int} {c : Nat} (h : ∀ x ∈ ws, x.natAbs ≤ c) (j : Nat) : (zat j ws).natAbs ≤ c := by
  by_cases hj : j < ws.length
  · rw [zat_get hj]; exact h _ (List.getElem_mem hj)
  · rw [zat_out (by exact o454 hj)]; exact Nat.zero_le _
theorem cell_le {n k i W : Nat} {o ws : List Int} (hn : n ≤ 6) (hki : k + 1 + i = n) (ho : Bd n (nb 6) o) (hw : ∀ x ∈ ws, x.natAbs ≤ W) : (zat n o - bkSum o ws k i).natAbs ≤ 50 * nb 6 + 6 * (nb 6 * W) := by
  have h1 := ho n
  unfold uw at h1
  rw [if_pos rfl] at h1
  have h2 : (bkSum o ws k i).natAbs ≤ i * (nb 6 * W) := by
    unfold bkSum
    have := sum_abs (f := fun j => zat (k + 1 + j) o * zat j ws) (c := nb 6 * W) (List.range i) fun j hj => by
      have hj := List.mem_range.mp hj
      have h3 := ho (k + 1 + j)
      unfold uw at h3
      rw [if_neg (by exact o455 hki hj), Nat.one_mul] at h3
      rw [Int.natAbs_mul]
      exact Nat.mul_le_mul h3 (zat_mem_le hw j)
    rwa [List.length_range] at this
  have h3 : i * (nb 6 * W) ≤ 6 * (nb 6 * W) := Nat.mul_le_mul_right _ (by exact o456 hki hn)
  exact o457 h1 h2 h3
theorem bk_le {n : Nat} {out : List (List Int)} (hn : n ≤ 6) (hone : ∀ k < n, (zat k (out.getD k [])).natAbs = 1) (hb : ∀ k < n, Bd n (nb 6) (out.getD k [])) : ∀ i ≤ n, ∀ x ∈ bk out n i, x.natAbs ≤ wq i
  | 0, _, x, hx => by cases hx
  | i + 1, h, x, hx => by
    have ih := bk_le hn hone hb i (by exact o276 h)
    rcases List.mem_cons.mp hx with rfl | hx
    · rw [Int.natAbs_mul, hone _ (by exact o458 h), Nat.one_mul]
      exact cell_le hn (by exact o459 h) (hb _ (by exact o458 h)) ih
    · exact Nat.le_trans (ih x hx) (wq_succ i)
theorem plain (ns : List Int) : ∃ ts out, Plain (lawNums ns) ts out := by
  generalize lawNums_len ns = h6
  revert h6
  generalize lawNums ns = xs
  intro h6
  have hnd := laidX_nodup xs
  have h16 := ms_lt xs
  obtain ⟨_, _, hlen⟩ := pushN_ok hnd h16 4
  have hdue := due_perm xs
  rw [List.length_map] at hlen
  have hle := laidX_len xs
  refine ⟨pushN ((laidX xs).map fun x => x % 16) 4, ?_⟩
  have huni : Uni (pushN ((laidX xs).map fun x => x % 16) 4).length 0 ((laidX xs).map (rowOf (pushN ((laidX xs).map fun x => x % 16) 4))) := by
    intro ws p hp j _ hj
    have := uni_base hnd h16 ((List.range (pushN ((laidX xs).map fun x => x % 16) 4).length).map ws) (by simp) p (fun m hm => by
      obtain ⟨x, hx, rfl⟩ := List.mem_map.mp hm
      rw [← row_phi]
      exact hp _ (List.mem_map.mpr ⟨x, hx, rfl⟩))
    exact this _ (List.mem_map.mpr ⟨j, List.mem_range.mpr hj, rfl⟩)
  generalize hts : pushN ((laidX xs).map fun x => x % 16) 4 = ts at *
  have hn : ts.length ≤ 6 := by exact o460 h6 hlen hle
  obtain ⟨out, o⟩ := st_ex hn ts.length 0 ((laidX xs).map (rowOf ts)) rfl (by rw [List.length_map, hlen]) (fun r hr => by
    obtain ⟨x, _, rfl⟩ := List.mem_map.mp hr
    exact ⟨row_len ts x, row_Bd ts x, fun i hi => by exact o461 hi⟩) huni
  have hol : out.length = ts.length := o.len
  have hone : ∀ k < out.length, (zat k (out.getD k [])).natAbs = 1 := fun k hk => by
    have := (o.one k hk).1; rwa [Nat.zero_add] at this
  have hz : ∀ k < out.length, ∀ j < k, zat j (out.getD k []) = 0 := fun k hk j hj => by
    have := (o.one k hk).2 j; rw [Nat.zero_add] at this; exact this hj
  have hmem : ∀ k < out.length, out.getD k [] ∈ out := fun k hk => by
    rw [List.getD_eq_getElem?_getD, List.getElem?_eq_getElem hk]; exact List.getElem_mem hk
  have hb : ∀ k < ts.length, Bd ts.length (nb 6) (out.getD k []) := fun k hk => (o.each _ (hmem k (by exact o278 hk hol))).2
  have hone' : ∀ k < ts.length, (zat k (out.getD k [])).natAbs = 1 := fun k hk => hone k (by exact o278 hk hol)
  have hbk := bk_le hn hone' hb
  have hbits : ∀ {x : Int} {i : Nat}, i ≤ 6 → x.natAbs ≤ wq i → Builtin.Int.intBits x ≤ 33554432 := fun {x i} hi hx =>
    Nat.le_trans (intBits_le (Nat.lt_of_le_of_lt (Nat.le_trans hx (wq_mono hi)) wq6)) (by decide)
  refine ⟨out, hnd, hts, hdue, o.st, hol, hone, ?_, ?_, ?_, ?_⟩
  · intro i hi x hx
    exact hbits (by exact o462 hn hi) (hbk i hi x hx)
  · intro l hl
    have := (o.each l hl).2
    refine slim_of (Φ := fun j => uw ts.length j * nb 6) this fun j => ?_
    have h1 := nb6
    have h2 : uw ts.length j ≤ 50 := by unfold uw; split <;> (first | decide | decide)
    exact Nat.lt_of_le_of_lt (Nat.mul_le_mul h2 (Nat.le_of_lt h1)) (by decide +kernel)
  · intro i hi
    exact hbits (i := i + 1) (by exact o435 hi hn) (cell_le hn (by exact o463 hi) (hb _ (by exact o323 hi)) (hbk i (by exact o110 hi)))
  · intro x hx
    rw [wsum_phi]
    have hl : LinF (ts.length + 1) (fun r => phi ts.length (fun j => zat j (bk out ts.length ts.length)) r - zat ts.length r) := by
      intro q F S h1 h2
      show phi _ _ _ - _ = phi _ _ F - zat _ F - q * (phi _ _ S - zat _ S)
      rw [phi_lin _ _ _ q F S h1 h2, zat_subA h1 h2, Int.mul_sub]
      exact o464
    have := o.lin _ hl 0 (fun l hl => by
      obtain ⟨k, hk, rfl⟩ := List.mem_iff_getElem.mp hl
      have := bk_row (out := out) (n := ts.length) (k := k) (by exact o394 hk hol) (hone k hk) (hz k hk)
      rw [List.getD_eq_getElem?_getD, List.getElem?_eq_getElem hk, Option.getD_some] at this
      show (0 : Int) ∣ phi _ _ _ - _
      rw [this]
      exact ⟨0, by simp⟩) _ (List.mem_map.mpr ⟨x, hx, rfl⟩)
    have := Int.zero_dvd.mp this
    have h2 := row_end ts x
    have h3 : phi ts.length (fun j => zat j (bk out ts.length ts.length)) (rowOf ts x) - zat ts.length (rowOf ts x) = 0 := this
    exact o465 h3 h2
end
end Mine
namespace Mine
section
open PySem PySem.W PyProof.Rows PySem.Calls
noncomputable def keepO (a : Addr) (o : Obj) : Bool := a == mainNs || (match o.cls with | .none => false | _ => true)
noncomputable def frg (h : Heap) : Frag := (List.range 187).filterMap fun a => (h.get? a).bind fun o => if keepO a o = true then some (a, o) else none
theorem frg_in (h : Heap) : (frg h).In h := fun a o e => by
  refine byName fun _ kk_ => ?_
  obtain ⟨c, _, hc⟩ := List.mem_filterMap.mp (mem_of_lookupK e)
  obtain ⟨o', h1, h2⟩ := Option.bind_eq_some_iff.mp hc
  refine kk_ ?_
  clear kk_
  split at h2
  · cases h2; exact h1
  · cases h2
noncomputable def isRefV : Option (Option Value) → Bool
  | some (some (.ref _)) => true
  | _ => false
noncomputable def isRef1 : Value → Bool
  | .ref _ => true
  | _ => false
noncomputable def isNoV : Value → Bool
  | .none => true
  | _ => false
noncomputable def isNoN : Option (Option Value) → Bool
  | some none => true
  | _ => false
theorem isRef1_of {v : Value} (h : isRef1 v = true) : v = .ref (codeAdr v) := by
  cases v <;> first | rfl | cases h
theorem isNoV_of {v : Value} (h : isNoV v = true) : v = .none := by
  cases v <;> first | rfl | cases h
theorem isNoN_of {v : Option (Option Value)} (h : isNoN v = true) : v = some none := by
  rcases v with _ | _ | _ <;> first | rfl | cases h
noncomputable def fnB (K : Frag) (f : Addr) : Bool := (match K.lookup f with
    | some ⟨_, _, .func _, _⟩ => true
    | _ => false) && ((fdAt K f).closure.isEmpty && ((fdAt K f).globals == mainGlobals && ((fdAt K f).builtins == builtinsNs && (isRef1 (fdAt K f).code && (match (K.lookup (codeAdr (fdAt K f).code)).bind codeQ with
    | some q => Fast.sEq q (fdAt K f).qualname
    | none => false)))))
noncomputable def fnD (K : Frag) (f : Addr) : Arguments × FuncBody × Scope := ((fdAt K f).params, (fdAt K f).body, (fdAt K f).scope)
noncomputable def stD (st : Stmt) : Arguments × FuncBody × Scope := (stArgs st, .stmts (stBody st), stScope st)
theorem fnK_of {K : Frag} {f : Addr} {st : Stmt} (hb : fnB K f = true) (hd : fnD K f = stD st) : FnK K f st := by
  unfold fnB at hb
  simp only [Bool.and_eq_true] at hb
  refine byName fun _ kk_ => ?_
  obtain ⟨h1, h2, h3, h4, h5, h6⟩ := hb
  refine kk_ ?_
  clear kk_
  have hd2 := (Prod.mk.inj hd).2
  refine ⟨?_, (Prod.mk.inj hd).1, (Prod.mk.inj hd2).1, (Prod.mk.inj hd2).2, List.isEmpty_iff.mp h2, eq_of_beq h3, eq_of_beq h4, isRef1_of h5, ?_⟩
  · unfold fdAt
    split at h1
    · rename_i e; rw [e]; rfl
    · cases h1
  · split at h6
    · rename_i e; rw [e]; exact congrArg some (Fast.sEq_iff.mp h6)
    · cases h6
theorem glb_ref {K : Frag} {x : Str} (h : isRefV (nsIn K mainGlobals x) = true) : nsIn K mainGlobals x = some (some (.ref (glbA K x))) := by
  unfold glbA
  revert h
  rcases nsIn K mainGlobals x with _ | _ | v
  · intro h; cases h
  · intro h; cases h
  · cases v <;> intro h <;> first | rfl | cases h
theorem mth_ref {K : Frag} {C : Addr} {n : Str} (h : isRefV (findIn K (.ref C) n) = true) : findIn K (.ref C) n = some (some (.ref (mthA K C n))) := by
  unfold mthA
  revert h
  rcases findIn K (.ref C) n with _ | _ | v
  · intro h; cases h
  · intro h; cases h
  · cases v <;> intro h <;> first | rfl | cases h
noncomputable def defB (K : Frag) (x : Str) : Bool := isRefV (nsIn K mainGlobals x) && (fnB K (glbA K x) && (isNoV (fdAt K (glbA K x)).defaults && isNoV (fdAt K (glbA K x)).kwdefaults))
theorem defK_of {K : Frag} {x : Str} {i : Nat} (hb : defB K x = true) (hd : fnD K (glbA K x) = stD (nth pb i)) : DefK K x i := by
  unfold defB at hb
  replace hb := hb
  simp only [Bool.and_eq_true] at hb
  replace hb := hb
  exact ⟨glb_ref hb.1, fnK_of hb.2.1 hd, isNoV_of hb.2.2.1, isNoV_of hb.2.2.2⟩
noncomputable def tk0 (xs : Array Value) : Tok := match xs.toList.head? with
  | some (.int _ t) => t
  | _ => 0
noncomputable def t1B : Option Obj → Bool
  | some o => o.cls == .type "tuple" && (o.dict.isNone && (o.slots.toList.isEmpty && (match o.data with
    | .seq xs _ => xs.toList == [.int 0 (tk0 xs), .none]
    | _ => false)))
  | _ => false
noncomputable def e0 (es : Array DictEntry) : DictEntry := es.toList.head?.getD ⟨0, .none, .none⟩
noncomputable def kTok : Value → Tok
  | .str _ t => t
  | _ => 0
noncomputable def t2B : Option Obj → Bool
  | some o => o.cls == .type "dict" && (o.dict.isNone && (o.slots.toList.isEmpty && (match o.data with
    | .dict es _ => es.toList.tail.isEmpty && (!es.toList.isEmpty && ((e0 es).key == .str "key" (kTok (e0 es).key) && (e0 es).val == .none))
    | _ => false)))
  | _ => false
theorem obj_of {o : Obj} {c : Value} {d : Data} (h1 : (o.cls == c) = true) (h2 : o.dict.isNone = true) (h3 : o.slots.toList.isEmpty = true) (h4 : o.data = d) : o = ⟨c, none, d, #[]⟩ := by
  refine byName fun _ kk_ => ?_
  obtain ⟨oc, od, dt, sl⟩ := o
  obtain ⟨sl⟩ := sl
  refine kk_ ?_
  clear kk_
  cases od with
  | some _ => cases h2
  | none =>
    cases sl with
    | cons _ _ => cases h3
    | nil => rw [← eq_of_beq h1, ← h4]
theorem t1_of {o : Option Obj} (h : t1B o = true) : ∃ t n, o = some ⟨.type "tuple", none, .seq #[.int 0 t, .none] n, #[]⟩ := by
  cases o with
  | none => cases h
  | some o =>
    unfold t1B at h
    simp only [Bool.and_eq_true] at h
    refine byName fun _ kk_ => ?_
    obtain ⟨h1, h2, h3, h4⟩ := h
    refine kk_ ?_
    clear kk_
    revert h4
    cases hd : o.data with
    | seq xs n =>
      intro h4
      refine ⟨tk0 xs, n, congrArg some (obj_of h1 h2 h3 (hd.trans ?_))⟩
      exact congrArg (fun q => Data.seq ⟨q⟩ n) (eq_of_beq h4)
    | _ => intro h4; cases h4
theorem t2_of {o : Option Obj} (h : t2B o = true) : ∃ hh t n, o = some ⟨.type "dict", none, .dict #[⟨hh, .str "key" t, .none⟩] n, #[]⟩ := by
  cases o with
  | none => cases h
  | some o =>
    unfold t2B at h
    simp only [Bool.and_eq_true] at h
    refine byName fun _ kk_ => ?_
    obtain ⟨h1, h2, h3, h4⟩ := h
    refine kk_ ?_
    clear kk_
    revert h4
    cases hd : o.data with
    | dict es n =>
      intro h4
      simp only [Bool.and_eq_true] at h4
      refine byName fun _ kk_ => ?_
      obtain ⟨q1, q2, q3, q4⟩ := h4
      refine kk_ ?_
      clear kk_
      refine ⟨(e0 es).hash, kTok (e0 es).key, n, congrArg some (obj_of h1 h2 h3 (hd.trans ?_))⟩
      rw [← eq_of_beq q3, ← eq_of_beq q4]
      obtain ⟨l⟩ := es
      cases l with
      | nil => cases q2
      | cons a l => cases l with
        | nil => rfl
        | cons _ _ => cases q1
    | _ => intro h4; cases h4
noncomputable def bisB (K : Frag) (x : Str) : Bool := isRefV (nsIn K mainGlobals x) && (fnB K (glbA K x) && (isRef1 (fdAt K (glbA K x)).defaults && (isRef1 (fdAt K (glbA K x)).kwdefaults && (t1B (K.lookup (codeAdr (fdAt K (glbA K x)).defaults)) && t2B (K.lookup (codeAdr (fdAt K (glbA K x)).kwdefaults))))))
theorem bisK_of {K : Frag} {x : Str} {i : Nat} (hb : bisB K x = true) (hd : fnD K (glbA K x) = stD (nth pb i)) : BisK K x i := by
  unfold bisB at hb
  replace hb := hb
  simp only [Bool.and_eq_true] at hb
  replace hb := hb
  exact ⟨glb_ref hb.1, fnK_of hb.2.1 hd, isRef1_of hb.2.2.1, isRef1_of hb.2.2.2.1, t1_of hb.2.2.2.2.1, t2_of hb.2.2.2.2.2⟩
noncomputable def mthB (K : Frag) (C : Addr) (n : Str) : Bool := isRefV (findIn K (.ref C) n) && (fnB K (mthA K C n) && (isNoV (fdAt K (mthA K C n)).defaults && (isNoV (fdAt K (mthA K C n)).kwdefaults && takesIn K (.ref (mthA K C n)) == some false)))
noncomputable abbrev MthO := (Arguments × FuncBody × Scope) × Option Value × Option (Option Value)
noncomputable def mthD (K : Frag) (C : Addr) (n : Str) : MthO := (fnD K (mthA K C n), typeIn K (.ref (mthA K C n)), specialIn K (.ref (mthA K C n)) "__get__")
noncomputable def mthV (i : Nat) : MthO := (stD (clS i), some (.type "function"), some (some (.builtin "function.__get__")))
theorem mthK_of {K : Frag} {C : Addr} {n : Str} {i : Nat} (hb : mthB K C n = true) (hd : mthD K C n = mthV i) : MthK K C n i := by
  unfold mthB at hb
  replace hb := hb
  simp only [Bool.and_eq_true] at hb
  replace hb := hb
  have e := Prod.mk.inj hd
  have e2 := Prod.mk.inj e.2
  exact ⟨mth_ref hb.1, e2.1, e2.2, eq_of_beq hb.2.2.2.2, fnK_of hb.2.1 e.1, isNoV_of hb.2.2.1, isNoV_of hb.2.2.2.1⟩
noncomputable abbrev D1 : List (Str × Nat) := [("_div2n1n", 4), ("_int2digits", 6), ("_digits2int", 7), ("_divmod_pos", 8), ("int_divmod", 9), ("_ellipsis_match", 16), ("_law_stream", 18), ("_law_word", 19), ("_law_written", 20), ("_law_among", 21), ("_law_laid", 22), ("_law_pushed_down", 23), ("_law_winners", 24), ("_law_stairs", 25), ("_law_weights", 26)]
noncomputable abbrev D2 : List (Str × Nat) := [("insort_right", 11), ("bisect_right", 12), ("bisect_left", 13)]
noncomputable abbrev D3 : List (Str × Nat) := [("__init__", 0), ("_read_char", 1), ("get_token", 2), ("push_token", 3)]
noncomputable abbrev D4 : List Str := ["len", "divmod", "reversed", "sum", "range", "zip", "list", "iter", "sorted", "abs", "min", "max"]
noncomputable abbrev D5 : List (Str × Option (Option Value)) := [("__getattribute__", some (some (.builtin "object.__getattribute__"))), ("__getattr__", some none), ("__setattr__", some (some (.builtin "object.__setattr__"))), ("lineno", some none), ("instream", some none), ("whitespace", some none), ("pushback", some none), ("read", some none)]
noncomputable def limB : Option (Option Value) → Bool
  | some (some (.int n _)) => n == 4000
  | _ => false
noncomputable def dotB : Option (Option Value) → Bool
  | some (some (.str x _)) => Fast.sEq x "..."
  | _ => false
noncomputable def codB (v : Value) (c : Addr) : Bool := match v with
  | .ref a => a == c
  | _ => false
theorem codB_of {v : Value} {c : Addr} (h : codB v c = true) : v = .ref c := by
  cases v <;> first | (rw [eq_of_beq (show (_ == _) = true from h)]) | cases h
noncomputable def allB (K : Frag) : Bool := noTabs K && (D1.all (fun p => defB K p.1) && (D2.all (fun p => bisB K p.1) && (D3.all (fun p => mthB K (glbA K "_netrclex") p.1) && (D4.all (fun x => isNoN (nsIn K mainGlobals x)) &&
  (limB (nsIn K mainGlobals "_DIV_LIMIT") && (dotB (nsIn K mainGlobals "ELLIPSIS_MARKER") && (isRefV (nsIn K mainGlobals "_netrclex") && (codB (fdAt K (glbA K "_int2digits")).code 76 && (codB (fdAt K (glbA K "_digits2int")).code 83 && (codB (fdAt K (glbA K "_law_stream")).code 138 &&
  (makesIn K (glbA K "_netrclex") && (keepIn K (.ref (glbA K "_netrclex")) && (plainOver K (glbA K "_netrclex") && (hasDictIn K (glbA K "_netrclex") && (codeHdIn K 76 72 && (codeHdIn K 83 79 && codeHdIn K 138 134))))))))))))))))
noncomputable abbrev ObsT := List (Arguments × FuncBody × Scope) × List MthO × List (Option (Option Value)) × Bool × List (Option Obj)
noncomputable def obsO (s : Shared) : ObsT := ((D1 ++ D2).map (fun p => fnD (frg s.heap) (glbA (frg s.heap) p.1)), D3.map (fun p => mthD (frg s.heap) (glbA (frg s.heap) "_netrclex") p.1), D5.map (fun p => findIn (frg s.heap) (.ref (glbA (frg s.heap) "_netrclex")) p.1), allB (frg s.heap), [s.heap.get? 72, s.heap.get? 79, s.heap.get? 134])
noncomputable def obsV (_ : World) : ObsT := ((D1 ++ D2).map (fun p => stD (nth pb p.2)), D3.map (fun p => mthV p.2), D5.map (fun p => p.2), true, [some (tabObj #[]), some (tabObj #[]), some (tabObj #[])])
structure Told0 (K : Frag) (h : Heap) : Prop where
  isIn : K.In h
  no : noTabs K = true
  sta : StaK K 76 83 138 72 79 134
  h1 : codeHdIn K 76 72 = true
  h2 : codeHdIn K 83 79 = true
  h3 : codeHdIn K 138 134 = true
  t1 : h.get? 72 = some (tabObj #[])
  t2 : h.get? 79 = some (tabObj #[])
  t3 : h.get? 134 = some (tabObj #[])
theorem map_at {α β : Type} {f g : α → β} {l : List α} (h : l.map f = l.map g) : ∀ x ∈ l, f x = g x := List.map_inj_left.mp h
theorem told0 (w : World) (s : Shared) (e : obsO s = obsV w) : ∃ K, Told0 K s.heap := by
  refine ⟨frg s.heap, ?_⟩
  have e1 := Prod.mk.inj e
  have e2 := Prod.mk.inj e1.2
  have e3 := Prod.mk.inj e2.2
  have e4 := Prod.mk.inj e3.2
  have X := frg_in s.heap
  have hD := map_at e1.1
  have hM := map_at e2.1
  have hF := map_at e3.1
  have hB := e4.1
  have hT := e4.2
  generalize frg s.heap = K at X hD hM hF hB
  clear e e1 e2 e3 e4
  unfold allB at hB
  simp only [Bool.and_eq_true] at hB
  have c3 := hB.2.2; have c6 := c3.2.2.2; have c9 := c6.2.2.2; have c12 := c9.2.2; have c15 := c12.2.2.2
  have b1 := hB.1; have b2 := hB.2.1; have b3 := c3.1; have b4 := c3.2.1; have b5 := c3.2.2.1; have b6 := c6.1; have b7 := c6.2.1; have b8 := c6.2.2.1; have b9 := c9.1; have b10 := c9.2.1
  have b11 := c12.1; have b12 := c12.2.1; have b13 := c12.2.2.1; have b14 := c15.1; have b15 := c15.2.1; have b16 := c15.2.2.1; have b17 := c15.2.2.2.1; have b18 := c15.2.2.2.2
  have hd1 : ∀ p ∈ D1, DefK K p.1 p.2 := fun p hp => defK_of (List.all_eq_true.mp b2 p hp) (hD p (List.mem_append_left _ hp))
  have hd2 : ∀ p ∈ D2, BisK K p.1 p.2 := fun p hp => bisK_of (List.all_eq_true.mp b3 p hp) (hD p (List.mem_append_right _ hp))
  have hd3 : ∀ p ∈ D3, MthK K (glbA K "_netrclex") p.1 p.2 := fun p hp => mthK_of (List.all_eq_true.mp b4 p hp) (hM p hp)
  have hd4 : ∀ x ∈ D4, nsIn K mainGlobals x = some none := fun x hx => isNoN_of (List.all_eq_true.mp b5 x hx)
  have lim : nsIn K mainGlobals "_DIV_LIMIT" = some (some (.int 4000 (tokG K "_DIV_LIMIT"))) := by
    unfold tokG
    revert b6
    rcases nsIn K mainGlobals "_DIV_LIMIT" with _ | _ | v
    · intro h; cases h
    · intro h; cases h
    · cases v <;> intro h <;> first | (rw [eq_of_beq (show (_ == _) = true from h)]) | cases h
  have dots : nsIn K mainGlobals "ELLIPSIS_MARKER" = some (some (.str "..." (tokG K "ELLIPSIS_MARKER"))) := by
    unfold tokG
    revert b7
    rcases nsIn K mainGlobals "ELLIPSIS_MARKER" with _ | _ | v
    · intro h; cases h
    · intro h; cases h
    · cases v <;> intro h <;> first | (rw [Fast.sEq_iff.mp (show Fast.sEq _ _ = true from h)]) | cases h
  have t1 := (List.cons.inj hT).1
  have t2 := (List.cons.inj (List.cons.inj hT).2).1
  have t3 := (List.cons.inj (List.cons.inj (List.cons.inj hT).2).2).1
  exact ⟨X, b1, ⟨hd1 _ (.head _), hd1 _ (.tail _ (.head _)), hd1 _ (.tail _ (.tail _ (.head _))), hd1 _ (.tail _ (.tail _ (.tail _ (.head _)))), hd1 _ (.tail _ (.tail _ (.tail _ (.tail _ (.head _))))),
    hd2 _ (.head _), hd2 _ (.tail _ (.head _)), hd2 _ (.tail _ (.tail _ (.head _))),
    hd1 ("_ellipsis_match", 16) (List.mem_of_getElem? (i := 5) rfl), hd1 ("_law_stream", 18) (List.mem_of_getElem? (i := 6) rfl), hd1 ("_law_word", 19) (List.mem_of_getElem? (i := 7) rfl), hd1 ("_law_written", 20) (List.mem_of_getElem? (i := 8) rfl), hd1 ("_law_among", 21) (List.mem_of_getElem? (i := 9) rfl), hd1 ("_law_laid", 22) (List.mem_of_getElem? (i := 10) rfl), hd1 ("_law_pushed_down", 23) (List.mem_of_getElem? (i := 11) rfl), hd1 ("_law_winners", 24) (List.mem_of_getElem? (i := 12) rfl), hd1 ("_law_stairs", 25) (List.mem_of_getElem? (i := 13) rfl), hd1 ("_law_weights", 26) (List.mem_of_getElem? (i := 14) rfl),
    lim, dots, glb_ref b8, codB_of b9, codB_of b10, codB_of b11,
    hd4 _ (List.mem_of_getElem? (i := 0) rfl), hd4 _ (List.mem_of_getElem? (i := 1) rfl), hd4 _ (List.mem_of_getElem? (i := 2) rfl), hd4 _ (List.mem_of_getElem? (i := 3) rfl), hd4 _ (List.mem_of_getElem? (i := 4) rfl), hd4 _ (List.mem_of_getElem? (i := 5) rfl), hd4 _ (List.mem_of_getElem? (i := 6) rfl), hd4 _ (List.mem_of_getElem? (i := 7) rfl), hd4 _ (List.mem_of_getElem? (i := 8) rfl), hd4 _ (List.mem_of_getElem? (i := 9) rfl), hd4 _ (List.mem_of_getElem? (i := 10) rfl), hd4 _ (List.mem_of_getElem? (i := 11) rfl),
    hd3 _ (.head _), hd3 _ (.tail _ (.head _)), hd3 _ (.tail _ (.tail _ (.head _))), hd3 _ (.tail _ (.tail _ (.tail _ (.head _)))),
    b12, b13, hF _ (.head _), hF _ (.tail _ (.head _)), hF _ (.tail _ (.tail _ (.head _))), b14, b15, hF _ (.tail _ (.tail _ (.tail _ (.head _)))), hF _ (.tail _ (.tail _ (.tail _ (.tail _ (.head _))))), hF _ (.tail _ (.tail _ (.tail _ (.tail _ (.tail _ (.head _)))))), hF _ (.tail _ (.tail _ (.tail _ (.tail _ (.tail _ (.tail _ (.head _))))))), hF _ (.tail _ (.tail _ (.tail _ (.tail _ (.tail _ (.tail _ (.tail _ (.head _)))))))) ⟩,
    b16, b17, b18, t1, t2, t3⟩
noncomputable def hook : Hook := ⟨ObsT, obsO, obsV, fun _ h => ∃ K, Told0 K h, told0, fun _ _ _ ⟨K, x⟩ k => ⟨K, ⟨Frag.In.keeps x.isIn k, x.no, x.sta, x.h1, x.h2, x.h3, k _ _ x.t1, k _ _ x.t2, k _ _ x.t3⟩⟩⟩
end
end Mine
end
open PySem PySem.W PyProof.Rows
set_option maxHeartbeats 8000000
namespace Mine
noncomputable def pq : Program := view PySem.Challenge.pw_sw0072_01 [1,3,4,5,6,7,8,9,15,16,18,19,20,21,22,23,24,25,26,27]
def lse : List Str := ["insort_right", "bisect_right", "bisect_left"]
noncomputable def lawD : DefRec := ⟨"law", stArgs (nth pb 27), stBody (nth pb 27), stScope (nth pb 27), ⟨276, 0, 299, 15⟩⟩
theorem said : PySem.Challenge.rw_sw0072_01.wellSaid = true := by
  refine (congrFun PySem.W.Fast.te9446332074065402090 _).trans ?_
  iterate 39 (refine look_both ?_ (by as_aux_lemma => kernel_rfl!))
  as_aux_lemma => kernel_rfl!
theorem left0 : LeftO PySem.Challenge.pw_sw0072_01 pq lse (fun s => xlAt pq [] s && recOk [] s) obsO obsV 2172 := by
  intro w
  unfold openEnds topFrom fencedOpening
  simp only [show @importEnds = _ from PySem.W.Fast.te10274390034422433532, show @topRun = _ from PySem.W.Fast.te14082659384304107361, show @openSeen = _ from PySem.W.Fast.te4187177175401517315, show @fenceModules? = _ from PySem.W.Fast.te14289696077712309145]
  kernel_rfl
end Mine
theorem PySem.Challenge.cw_sw0072_01_holds : PySem.Challenge.rw_sw0072_01.Holds := by
  w_on
  refine holds_law Mine.said fun said => ?_
  refine holds_open (q := Mine.pq) (loose := Mine.lse) (Xt := fun s => xlAt Mine.pq [] s && recOk [] s) (XP := XL Mine.pq []) (Yf := Mine.obsO) (Ya := Mine.obsV) (YP := Hook.says Mine.hook) (N := 2172) (d := Mine.lawD) (kwd := []) Mine.left0 (Hook.of Mine.hook) (Hook.keeps Mine.hook) (fun s e => xl_of s (Bool.and_eq_true_iff.mp e).1) XL.keeps (by kernel_rfl) (by kernel_rfl) (by kernel_rfl) (fun s e => recFacts_of (Bool.and_eq_true_iff.mp e).2) (by rfl) (by assumption) (by decide +kernel) ⟨rfl, rfl, rfl, rfl, rfl, by decide +kernel⟩ ?hw ?hc
  case hw => w_witness2
  case hc =>
    intro w s₀ s₁ mg mb G Y fa o pm cd doc dV kV ho hd hcd hD hmg hg args vals as hpre hlay hrd hwl hlo
    obtain ⟨K, Y⟩ := Y
    have hT9 : TabsAt [(76, 72), (83, 79), (138, 134)] s₁.heap := List.forall_mem_cons.mpr ⟨⟨codeHd_of_K Y.isIn Y.h1, Y.t1⟩, List.forall_mem_cons.mpr ⟨⟨codeHd_of_K Y.isIn Y.h2, Y.t2⟩, List.forall_mem_cons.mpr ⟨⟨codeHd_of_K Y.isIn Y.h3, Y.t3⟩, fun _ h => nomatch h⟩⟩⟩
    refine Ground.open G ?_
    intro T B D TE TW
    try (refine guard_noD D (by decide +kernel) ?_; clear D)
    clear hmg
    wrow_args hpre hlay hrd hwl hlo
    refine enter_call ?_
    w_top on
    kn_posts
    w_call any ho hd hcd hD T F
    clear hd
    rename News _ _ _ _ => N
    have X9 := ghost_K hT9 Y.isIn Y.no
    have l0 := ghost_lt hT9 F
    have C9 := ghost_code hT9
    have T9 := ghost_top hT9 T
    have N9 := ghost_news hT9 F N
    have F9 := ghost_fr hT9 F
    kn_lists hT9
    kn_codes C9
    simp only [tabNews, List.map_cons, List.map_nil, List.nil_append, List.cons_append] at N9
    simp only [tabNews, List.map_cons, List.map_nil] at l0
    k_lt l0
    have KS := Y.sta
    rename IntsAre _ _ => I9
    rename ¬ _ < _ => Z9
    rename _ ∧ _ ∧ _ => L9
    obtain ⟨ts9, out9, P9⟩ := Mine.plain _
    refine Mine.fin_c X9 T9 KS (by assumption) (by assumption) (by assumption) F9 N9 (by kernel_rfl) ⟨rfl, rfl, rfl, rfl, rfl, rfl⟩ ?_ (by assumption) I9 Z9 (by assumption) (by assumption) (by assumption) (by assumption) (by assumption) (by assumption) (by kernel_rfl) (by kernel_rfl) (by kernel_rfl) (by kernel_rfl) (by kernel_rfl) (by kernel_rfl) rfl rfl rfl rfl rfl rfl L9 P9 ?_
    · exact ⟨by show 1 + claimMargin + 1 + 400 ≤ 900; decide, by show 4 + 3 + 20 * 400 ≤ 9000; decide, rfl⟩
    · intro s' hk hg ho g1 g2 g3
      exact ⟨⟨.inl ⟨.bool true, .bool true, [], rfl, fun _ => rfl, PySem.W.ReadsW.bool _, postW_of (X := true) (by first | rfl | kernel_rfl) (by first | rfl | kernel_rfl) rfl, fun _ => ⟨.nil, fun _ h => nomatch h⟩⟩, hk, ho, hg.trans (by assumption)⟩, g1, g2, g3, trivial⟩

