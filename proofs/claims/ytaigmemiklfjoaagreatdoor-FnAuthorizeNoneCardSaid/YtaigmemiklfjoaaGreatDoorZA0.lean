/- Part of the proof of FnAuthorizeNone: without policies no request is allowed; for every world that comes in. -/
import Derived.Test.YtaigmemiklfjoaaGreatDoorRows
import Derived.LaidByTextLater
import Derived.SevenTiedAt
set_option linter.unusedSimpArgs false
set_option linter.unusedVariables false
set_option linter.unnecessarySimpa false
namespace Go.Proofs.YtaigmemiklfjoaaGreatDoor
open Go
abbrev laidL : List (String × DataW Unit) := [("pub-claviger/pub/cedargo/inner/eval.errArity", Rows.laid_pub_claviger_pub_cedargo_inner_eval_errArity), ("pub-claviger/pub/cedargo/inner/eval.errUnknownExtensionFunction", Rows.laid_pub_claviger_pub_cedargo_inner_eval_errUnknownExtensionFunction), ("pub-claviger/pub/cedargo/inner/mapset.peppercorn", Rows.laid_pub_claviger_pub_cedargo_inner_mapset_peppercorn), ("pub-claviger/pub/cedargo/inner/eval.ErrType", Rows.laid_pub_claviger_pub_cedargo_inner_eval_ErrType), ("strconv.ErrSyntax", Rows.laid_strconv_ErrSyntax), ("strconv.ErrRange", Rows.laid_strconv_ErrRange), ("internal/strconv.uint64pow10", Rows.laid_internal_strconv_uint64pow10), ("math/bits.deBruijn32tab", Rows.laid_math_bits_deBruijn32tab), ("math/bits.deBruijn64tab", Rows.laid_math_bits_deBruijn64tab)]

end Go.Proofs.YtaigmemiklfjoaaGreatDoor
