import Derived.Test.Qxb6003818aBtU1
import Derived.Test.Qxb6003818aBtU2
import Derived.Test.Qxb6003818aBtU4
import Derived.Test.Qxb6003818aBtV
namespace Go.Proofs.Qxb6003818a
set_option linter.unusedVariables false
theorem growAny : GrowAny := fun h lo t k v c vk ck I J itk A B ksk key gr w N hs ha hA hB hlo hP Nk hk hn => grow_any h lo t k v c vk ck I J itk A B ksk key gr w N hs ha hA hB hlo hP Nk hk hn
/-- remove, at every height. -/
theorem remove66 : ∀ h, RemAny h
  | 0 => fun lo t key gr w HT ha hs hn h1 h2 => by
    cases gr with
    | true => exact remove_leaf_gr lo t key w HT ha hs hn (h2 rfl)
    | false => exact remove_leaf_key lo t key w HT ha hs hn
  | h + 1 => fun lo t key gr w HT ha hs hn h1 h2 => by
    cases gr with
    | true => exact remove_inner_gr growAny h (remove66 h) lo t key w HT ha hs hn (h1 (by omega))
    | false => exact remove_inner_key growAny h (remove66 h) lo t key w HT ha hs hn (h1 (by omega))
end Go.Proofs.Qxb6003818a
