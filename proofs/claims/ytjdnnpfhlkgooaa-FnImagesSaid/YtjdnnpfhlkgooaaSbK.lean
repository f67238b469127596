/- A subpacket as data (the kind alone). -/
import Derived.Test.YtjdnnpfhlkgooaaKit
import Derived.Test.YtjdnnpfhlkgooaaMem
import Derived.Test.YtjdnnpfhlkgooaaProg
set_option linter.unusedVariables false
set_option linter.unusedSimpArgs false
namespace Go.Proofs.Ytjdnnpfhlkgooaa.Rd
open Go.RowKit Go.Proofs.YtjdnnpfhlkgooaaW.PrintWords Go.Proofs.YtjdnnpfhlkgooaaW.PrintMore Go.Proofs.Ytjdnnpfhlkgooaa.Kit

/-- A subpacket as data: three in line. -/
def kS : Kd (Int × List Int × List Int) := (Kd.pair (Kd.int .u8) (Kd.pair (Kd.slice 5 (Kd.int .u8)) (Kd.slice 5 (Kd.int .u8))))
theorem infoS3 : (Try.prog.info? 65).map (fun i => (i.zero, i.size, i.bytes)) = some (some (.agg #[.int .u8 0, .slice none 0 0, .slice none 0 0]), 3, 56) := by kernel_rfl
end Go.Proofs.Ytjdnnpfhlkgooaa.Rd
