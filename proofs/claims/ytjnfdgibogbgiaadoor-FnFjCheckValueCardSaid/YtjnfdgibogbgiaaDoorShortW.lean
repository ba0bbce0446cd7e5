/- Short names for words that the printed walks of this seat use often. -/
import Derived.Test.YtjnfdgibogbgiaaDoorProg
import Derived.Test.YtjnfdgibogbgiaaDoorWWords
import Derived.Test.YtjnfdgibogbgiaaDoorWMore
namespace Go.Proofs.YtjnfdgibogbgiaaDoor
open Go.RowKit Go.Proofs.YtjnfdgibogbgiaaDoorW.PrintWords Go.Proofs.YtjnfdgibogbgiaaDoorW.PrintLast Go.Proofs.YtjnfdgibogbgiaaDoorW.PrintMore

abbrev ba := @below_alloc
abbrev bn := @pw_below_drewN
abbrev bw := @below_drew1
abbrev bs := @below_set
abbrev kn := @keep_drewN
abbrev ka := @keep_alloc
abbrev kd := @keep_drew
abbrev ks := @KeepBut.set_
abbrev xn := @blk_drewN
abbrev xa := @blk_alloc
abbrev xd := @blk_drew
abbrev xf := @blk_frozen
abbrev xc := @blk_cell
abbrev am := @Aside0.mk
end Go.Proofs.YtjnfdgibogbgiaaDoor
