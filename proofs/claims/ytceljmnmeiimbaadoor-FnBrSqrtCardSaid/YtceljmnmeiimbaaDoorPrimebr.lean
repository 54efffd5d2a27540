import Derived.Test.YtceljmnmeiimbaaDoorNT
namespace NT
theorem pr_110573 : Pr 110573 := pr_small (f := 331) (by decide +kernel) (by decide +kernel) (by decide +kernel)
theorem pr_2653753 : Pr 2653753 := by
  refine pr_of_big (F := 110573 ^ 1) (by decide +kernel) (by decide +kernel) fun r hr hrN => ?_
  have s0 := pock_of (q := 110573) (e := 1) (a := 2) (f := 22) hr hrN (by decide +kernel) pr_110573 (by decide +kernel)
  exact s0
theorem pr_63690073 : Pr 63690073 := by
  refine pr_of_big (F := 2653753 ^ 1) (by decide +kernel) (by decide +kernel) fun r hr hrN => ?_
  have s0 := pock_of (q := 2653753) (e := 1) (a := 2) (f := 26) hr hrN (by decide +kernel) pr_2653753 (by decide +kernel)
  exact s0
theorem pr_254760293 : Pr 254760293 := by
  refine pr_of_big (F := 63690073 ^ 1) (by decide +kernel) (by decide +kernel) fun r hr hrN => ?_
  have s0 := pock_of (q := 63690073) (e := 1) (a := 2) (f := 28) hr hrN (by decide +kernel) pr_63690073 (by decide +kernel)
  exact s0
theorem pr_609743 : Pr 609743 := pr_small (f := 779) (by decide +kernel) (by decide +kernel) (by decide +kernel)
theorem pr_52437899 : Pr 52437899 := by
  refine pr_of_big (F := 609743 ^ 1) (by decide +kernel) (by decide +kernel) fun r hr hrN => ?_
  have s0 := pock_of (q := 609743) (e := 1) (a := 2) (f := 26) hr hrN (by decide +kernel) pr_609743 (by decide +kernel)
  exact s0
theorem pr_18329 : Pr 18329 := pr_small (f := 134) (by decide +kernel) (by decide +kernel) (by decide +kernel)
theorem pr_2529403 : Pr 2529403 := by
  refine pr_of_big (F := 18329 ^ 1) (by decide +kernel) (by decide +kernel) fun r hr hrN => ?_
  have s0 := pock_of (q := 18329) (e := 1) (a := 2) (f := 22) hr hrN (by decide +kernel) pr_18329 (by decide +kernel)
  exact s0
theorem pr_79 : Pr 79 := pr_small (f := 7) (by decide +kernel) (by decide +kernel) (by decide +kernel)
theorem pr_7 : Pr 7 := pr_small (f := 1) (by decide +kernel) (by decide +kernel) (by decide +kernel)
theorem pr_2508409 : Pr 2508409 := by
  refine pr_of_big (F := 79 ^ 1 * 7 ^ 2) (by decide +kernel) (by decide +kernel) fun r hr hrN => ?_
  have s0 := pock_of (q := 79) (e := 1) (a := 2) (f := 22) hr hrN (by decide +kernel) pr_79 (by decide +kernel)
  have s1 := pock_of (q := 7) (e := 2) (a := 2) (f := 22) hr hrN (by decide +kernel) pr_7 (by decide +kernel)
  exact ((coprime_pow pr_79 pr_7 (by decide +kernel)).mul_dvd_of_dvd_of_dvd s0 s1)
theorem pr_906349 : Pr 906349 := pr_small (f := 951) (by decide +kernel) (by decide +kernel) (by decide +kernel)
theorem pr_52435875175126190479447740508185965837690552500527637822603658699938581184513 : Pr 52435875175126190479447740508185965837690552500527637822603658699938581184513 := by
  refine pr_of_big (F := 254760293 ^ 2 * 52437899 ^ 1 * 2529403 ^ 1 * 2508409 ^ 1 * 906349 ^ 2) (by decide +kernel) (by decide +kernel) fun r hr hrN => ?_
  have s0 := pock_of (q := 254760293) (e := 2) (a := 2) (f := 255) hr hrN (by decide +kernel) pr_254760293 (by decide +kernel)
  have s1 := pock_of (q := 52437899) (e := 1) (a := 2) (f := 255) hr hrN (by decide +kernel) pr_52437899 (by decide +kernel)
  have s2 := pock_of (q := 2529403) (e := 1) (a := 2) (f := 255) hr hrN (by decide +kernel) pr_2529403 (by decide +kernel)
  have s3 := pock_of (q := 2508409) (e := 1) (a := 2) (f := 255) hr hrN (by decide +kernel) pr_2508409 (by decide +kernel)
  have s4 := pock_of (q := 906349) (e := 2) (a := 2) (f := 255) hr hrN (by decide +kernel) pr_906349 (by decide +kernel)
  exact ((Nat.Coprime.mul_left (Nat.Coprime.mul_left (Nat.Coprime.mul_left (coprime_pow pr_254760293 pr_906349 (by decide +kernel)) (coprime_pow pr_52437899 pr_906349 (by decide +kernel))) (coprime_pow pr_2529403 pr_906349 (by decide +kernel))) (coprime_pow pr_2508409 pr_906349 (by decide +kernel))).mul_dvd_of_dvd_of_dvd ((Nat.Coprime.mul_left (Nat.Coprime.mul_left (coprime_pow pr_254760293 pr_2508409 (by decide +kernel)) (coprime_pow pr_52437899 pr_2508409 (by decide +kernel))) (coprime_pow pr_2529403 pr_2508409 (by decide +kernel))).mul_dvd_of_dvd_of_dvd ((Nat.Coprime.mul_left (coprime_pow pr_254760293 pr_2529403 (by decide +kernel)) (coprime_pow pr_52437899 pr_2529403 (by decide +kernel))).mul_dvd_of_dvd_of_dvd ((coprime_pow pr_254760293 pr_52437899 (by decide +kernel)).mul_dvd_of_dvd_of_dvd s0 s1) s2) s3) s4)
theorem pr_br : Pr 0x73eda753299d7d483339d80809a1d80553bda402fffe5bfeffffffff00000001 := pr_52435875175126190479447740508185965837690552500527637822603658699938581184513
#print axioms pr_br
end NT
