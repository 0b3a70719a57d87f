import Derived.Test.Qxb6601273aInd
import Derived.Test.Qxb6601273aIndDecF
namespace Go.Proofs.Qxb6601273a
open Go.RowKit

theorem s20 : S20N := by
  intro v vo vk vb bs off os o w hs ho hk hb hm hof hn
  exact f20_new v vo vk vb bs off os o w hs ho hk hb hm _ (indAns_small bs _ off os o hm).1 (indAns_small bs _ off os o hm).2
    (fun L base w1 hI hs1 hb1 => f37_any L base off v bs _ os o w1 hI hs1 hb1 hof hn hm)
end Go.Proofs.Qxb6601273a
