import Derived.Test.Qxb6600624aFrame4
import Derived.Test.Qxb6600624aLaw4
namespace Go.Proofs.Qxb6600624a.fnComponentsNumberedSinksFirst
theorem proved : Rows.FnComponentsNumberedSinksFirstSaid := over4 law4
end Go.Proofs.Qxb6600624a.fnComponentsNumberedSinksFirst
