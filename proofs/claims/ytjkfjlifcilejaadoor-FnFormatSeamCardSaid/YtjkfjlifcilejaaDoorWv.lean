/-
  WALKS, part v: NextChunk.
-/
import Derived.Test.YtjkfjlifcilejaaDoorWo5
import Derived.Test.YtjkfjlifcilejaaDoorWu
import Derived.Test.YtjkfjlifcilejaaDoorFe
namespace Go.Proofs.YtjkfjlifcilejaaDoor
open Go.RowKit
set_option linter.unusedVariables false
attribute [local go_sem] ByteArray.extract_mk get_mk ByteArray.toList_mk ByteArray.mk_append_mk take_drop_len

def chunkV (x : List UInt8 × List UInt8 × List UInt8) : Value := .tuple #[.string ⟨x.1.toArray⟩, .string ⟨x.2.1.toArray⟩, .string ⟨x.2.2.toArray⟩]

end Go.Proofs.YtjkfjlifcilejaaDoor
