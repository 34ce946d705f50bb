/-
  The walks over the reference (package spec) and the small helpers of the laws: what each returns; the memory stays as it is.
-/
import Derived.Test.YtpjplkgfbjfokaaConv
namespace Go.Proofs.Ytpjplkgfbjfokaa
open Go.RowKit






















end Go.Proofs.Ytpjplkgfbjfokaa
