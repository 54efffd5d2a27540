import Derived.Test.YtajhellohcibiaaDoorNT
namespace NT
theorem pr_1637 : Pr 1637 := pr_small (f := 39) (by decide +kernel) (by decide +kernel) (by decide +kernel)
theorem pr_853 : Pr 853 := pr_small (f := 28) (by decide +kernel) (by decide +kernel) (by decide +kernel)
theorem pr_639533339 : Pr 639533339 := by
  refine pr_of_big (F := 1637 ^ 1 * 853 ^ 1) (by decide +kernel) (by decide +kernel) fun r hr hrN => ?_
  have s0 := pock_of (q := 1637) (e := 1) (a := 2) (f := 30) hr hrN (by decide +kernel) pr_1637 (by decide +kernel)
  have s1 := pock_of (q := 853) (e := 1) (a := 2) (f := 30) hr hrN (by decide +kernel) pr_853 (by decide +kernel)
  exact ((coprime_pow pr_1637 pr_853 (by decide +kernel)).mul_dvd_of_dvd_of_dvd s0 s1)
theorem pr_65865678001877903 : Pr 65865678001877903 := by
  refine pr_of_big (F := 639533339 ^ 1) (by decide +kernel) (by decide +kernel) fun r hr hrN => ?_
  have s0 := pock_of (q := 639533339) (e := 1) (a := 2) (f := 56) hr hrN (by decide +kernel) pr_639533339 (by decide +kernel)
  exact s0
theorem pr_13818364434197438864469338081 : Pr 13818364434197438864469338081 := by
  refine pr_of_big (F := 65865678001877903 ^ 1) (by decide +kernel) (by decide +kernel) fun r hr hrN => ?_
  have s0 := pock_of (q := 65865678001877903) (e := 1) (a := 2) (f := 94) hr hrN (by decide +kernel) pr_65865678001877903 (by decide +kernel)
  exact s0
theorem pr_93001 : Pr 93001 := pr_small (f := 303) (by decide +kernel) (by decide +kernel) (by decide +kernel)
theorem pr_661 : Pr 661 := pr_small (f := 24) (by decide +kernel) (by decide +kernel) (by decide +kernel)
theorem pr_12048837557 : Pr 12048837557 := by
  refine pr_of_big (F := 93001 ^ 1 * 661 ^ 1) (by decide +kernel) (by decide +kernel) fun r hr hrN => ?_
  have s0 := pock_of (q := 93001) (e := 1) (a := 2) (f := 34) hr hrN (by decide +kernel) pr_93001 (by decide +kernel)
  have s1 := pock_of (q := 661) (e := 1) (a := 2) (f := 34) hr hrN (by decide +kernel) pr_661 (by decide +kernel)
  exact ((coprime_pow pr_93001 pr_661 (by decide +kernel)).mul_dvd_of_dvd_of_dvd s0 s1)
theorem pr_5156902474397 : Pr 5156902474397 := by
  refine pr_of_big (F := 12048837557 ^ 1) (by decide +kernel) (by decide +kernel) fun r hr hrN => ?_
  have s0 := pock_of (q := 12048837557) (e := 1) (a := 2) (f := 43) hr hrN (by decide +kernel) pr_12048837557 (by decide +kernel)
  exact s0
theorem pr_1670836401704629 : Pr 1670836401704629 := by
  refine pr_of_big (F := 5156902474397 ^ 1) (by decide +kernel) (by decide +kernel) fun r hr hrN => ?_
  have s0 := pock_of (q := 5156902474397) (e := 1) (a := 2) (f := 51) hr hrN (by decide +kernel) pr_5156902474397 (by decide +kernel)
  exact s0
theorem pr_21888242871839275222246405745257275088548364400416034343698204186575808495617 : Pr 21888242871839275222246405745257275088548364400416034343698204186575808495617 := by
  refine pr_of_big (F := 13818364434197438864469338081 ^ 1 * 1670836401704629 ^ 1) (by decide +kernel) (by decide +kernel) fun r hr hrN => ?_
  have s0 := pock_of (q := 13818364434197438864469338081) (e := 1) (a := 2) (f := 254) hr hrN (by decide +kernel) pr_13818364434197438864469338081 (by decide +kernel)
  have s1 := pock_of (q := 1670836401704629) (e := 1) (a := 2) (f := 254) hr hrN (by decide +kernel) pr_1670836401704629 (by decide +kernel)
  exact ((coprime_pow pr_13818364434197438864469338081 pr_1670836401704629 (by decide +kernel)).mul_dvd_of_dvd_of_dvd s0 s1)
theorem pr_nr : Pr 0x30644e72e131a029b85045b68181585d2833e84879b9709143e1f593f0000001 := pr_21888242871839275222246405745257275088548364400416034343698204186575808495617
#print axioms pr_nr
end NT
