import Derived.Test.YtckjgfagmbnkdaaNT
namespace NT
theorem pr_3557 : Pr 3557 := pr_small (f := 58) (by decide +kernel) (by decide +kernel) (by decide +kernel)
theorem pr_911 : Pr 911 := pr_small (f := 29) (by decide +kernel) (by decide +kernel) (by decide +kernel)
theorem pr_1263766531 : Pr 1263766531 := by
  refine pr_of_big (F := 3557 ^ 1 * 911 ^ 1) (by decide +kernel) (by decide +kernel) fun r hr hrN => ?_
  have s0 := pock_of (q := 3557) (e := 1) (a := 2) (f := 31) hr hrN (by decide +kernel) pr_3557 (by decide +kernel)
  have s1 := pock_of (q := 911) (e := 1) (a := 2) (f := 31) hr hrN (by decide +kernel) pr_911 (by decide +kernel)
  exact ((coprime_pow pr_3557 pr_911 (by decide +kernel)).mul_dvd_of_dvd_of_dvd s0 s1)
theorem pr_35385462869 : Pr 35385462869 := by
  refine pr_of_big (F := 1263766531 ^ 1) (by decide +kernel) (by decide +kernel) fun r hr hrN => ?_
  have s0 := pock_of (q := 1263766531) (e := 1) (a := 2) (f := 36) hr hrN (by decide +kernel) pr_1263766531 (by decide +kernel)
  exact s0
theorem pr_2480874801745591 : Pr 2480874801745591 := by
  refine pr_of_big (F := 35385462869 ^ 1) (by decide +kernel) (by decide +kernel) fun r hr hrN => ?_
  have s0 := pock_of (q := 35385462869) (e := 1) (a := 2) (f := 52) hr hrN (by decide +kernel) pr_35385462869 (by decide +kernel)
  exact s0
theorem pr_13327 : Pr 13327 := pr_small (f := 114) (by decide +kernel) (by decide +kernel) (by decide +kernel)
theorem pr_173171039 : Pr 173171039 := by
  refine pr_of_big (F := 13327 ^ 1) (by decide +kernel) (by decide +kernel) fun r hr hrN => ?_
  have s0 := pock_of (q := 13327) (e := 1) (a := 2) (f := 28) hr hrN (by decide +kernel) pr_13327 (by decide +kernel)
  exact s0
theorem pr_13427688667394608761327070753331941386769 : Pr 13427688667394608761327070753331941386769 := by
  refine pr_of_big (F := 2480874801745591 ^ 1 * 173171039 ^ 1) (by decide +kernel) (by decide +kernel) fun r hr hrN => ?_
  have s0 := pock_of (q := 2480874801745591) (e := 1) (a := 2) (f := 134) hr hrN (by decide +kernel) pr_2480874801745591 (by decide +kernel)
  have s1 := pock_of (q := 173171039) (e := 1) (a := 2) (f := 134) hr hrN (by decide +kernel) pr_173171039 (by decide +kernel)
  exact ((coprime_pow pr_2480874801745591 pr_173171039 (by decide +kernel)).mul_dvd_of_dvd_of_dvd s0 s1)
theorem pr_21888242871839275222246405745257275088696311157297823662689037894645226208583 : Pr 21888242871839275222246405745257275088696311157297823662689037894645226208583 := by
  refine pr_of_big (F := 13427688667394608761327070753331941386769 ^ 1) (by decide +kernel) (by decide +kernel) fun r hr hrN => ?_
  have s0 := pock_of (q := 13427688667394608761327070753331941386769) (e := 1) (a := 2) (f := 254) hr hrN (by decide +kernel) pr_13427688667394608761327070753331941386769 (by decide +kernel)
  exact s0
theorem pr_np : Pr 0x30644e72e131a029b85045b68181585d97816a916871ca8d3c208c16d87cfd47 := pr_21888242871839275222246405745257275088696311157297823662689037894645226208583
#print axioms pr_np
end NT
