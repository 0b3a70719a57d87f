import Derived.Test.Qxb6601273aStrB
import Derived.Test.Qxb6601273aZStr
namespace Go.Proofs.Qxb6601273a
open Go.RowKit

theorem s18 : S18 := by
  intro v vo vk vb bs off os o w hs ho hk hb hm hof hn
  exact f18_of v vo vk vb bs off os o w hs ho hk hb hm _ (strAns_small _ off os o hm).1 (strAns_small _ off os o hm).2
    (fun L base w1 hI hs1 hb1 => (f36_any L base off v bs _ os o w1 hI hs1 hb1 hof hn hm).mono fun e w' h => h.ans)
end Go.Proofs.Qxb6601273a
