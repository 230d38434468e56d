/- What a type assertion on an item of a tree answers. -/
import Derived.Test.YtfejflhgaphilaaGreatDoorC08
import Derived.KernelRfl
set_option linter.all false
set_option maxRecDepth 100000
set_option maxHeartbeats 64000000
open Go.Proofs.Tryz
namespace Go.Proofs.YtfejflhgaphilaaGreatDoor
open Go.RowKit Gm
theorem ij (v:Value) (w:World):(Instr.typeAssert (.iface 263 v) 153 263 true).run prog w=.ok (.tuple #[v,.bool true]) w:=by kernel_rfl
theorem rY (v:Value) (w:World):(Instr.typeAssert (.iface 263 v) 153 265 true).run prog w=.ok (.tuple #[.slice none 0 0,.bool false]) w:=by kernel_rfl
theorem rZ (v:Value) (w:World):(Instr.typeAssert (.iface 263 v) 153 255 true).run prog w=.ok (.tuple #[.pointer none,.bool false]) w:=by kernel_rfl
theorem l0 (v:Value) (w:World):(Instr.typeAssert (.iface 263 v) 153 250 true).run prog w=.ok (.tuple #[.pointer none,.bool false]) w:=by kernel_rfl
theorem NK (v:Value) (w:World):(Instr.typeAssert (.iface 263 v) 153 260 true).run prog w=.ok (.tuple #[.pointer none,.bool false]) w:=by kernel_rfl
theorem wi (v:Value) (w:World):(Instr.typeAssert (.iface 263 v) 153 344 true).run prog w=.ok (.tuple #[.pointer none,.bool false]) w:=by kernel_rfl
theorem wg (v:Value) (w:World):(Instr.typeAssert (.iface 263 v) 153 347 true).run prog w=.ok (.tuple #[.pointer none,.bool false]) w:=by kernel_rfl
theorem we (v:Value) (w:World):(Instr.typeAssert (.iface 263 v) 153 349 true).run prog w=.ok (.tuple #[.pointer none,.bool false]) w:=by kernel_rfl
theorem CQ (v:Value) (w:World):(Instr.typeAssert (.iface 263 v) 153 352 true).run prog w=.ok (.tuple #[.pointer none,.bool false]) w:=by kernel_rfl
theorem NL (v:Value) (w:World):(Instr.typeAssert (.iface 263 v) 153 247 true).run prog w=.ok (.tuple #[.pointer none,.bool false]) w:=by kernel_rfl
theorem NJ (v:Value) (w:World):(Instr.typeAssert (.iface 263 v) 153 331 true).run prog w=.ok (.tuple #[.pointer none,.bool false]) w:=by kernel_rfl
theorem NI (v:Value) (w:World):(Instr.typeAssert (.iface 263 v) 153 334 true).run prog w=.ok (.tuple #[.pointer none,.bool false]) w:=by kernel_rfl
theorem kN (v:Value) (w:World):(Instr.typeAssert (.iface 265 v) 153 263 true).run prog w=.ok (.tuple #[.slice none 0 0,.bool false]) w:=by kernel_rfl
theorem jV (v:Value) (w:World):(Instr.typeAssert (.iface 265 v) 153 265 true).run prog w=.ok (.tuple #[v,.bool true]) w:=by kernel_rfl
theorem pd (v:Value) (w:World):(Instr.typeAssert (.iface 265 v) 153 255 true).run prog w=.ok (.tuple #[.pointer none,.bool false]) w:=by kernel_rfl
theorem kO (v:Value) (w:World):(Instr.typeAssert (.iface 265 v) 153 250 true).run prog w=.ok (.tuple #[.pointer none,.bool false]) w:=by kernel_rfl
theorem CP (v:Value) (w:World):(Instr.typeAssert (.iface 265 v) 153 260 true).run prog w=.ok (.tuple #[.pointer none,.bool false]) w:=by kernel_rfl
theorem wb (v:Value) (w:World):(Instr.typeAssert (.iface 265 v) 153 344 true).run prog w=.ok (.tuple #[.pointer none,.bool false]) w:=by kernel_rfl
theorem vZ (v:Value) (w:World):(Instr.typeAssert (.iface 265 v) 153 347 true).run prog w=.ok (.tuple #[.pointer none,.bool false]) w:=by kernel_rfl
theorem vY (v:Value) (w:World):(Instr.typeAssert (.iface 265 v) 153 349 true).run prog w=.ok (.tuple #[.pointer none,.bool false]) w:=by kernel_rfl
theorem CN (v:Value) (w:World):(Instr.typeAssert (.iface 265 v) 153 352 true).run prog w=.ok (.tuple #[.pointer none,.bool false]) w:=by kernel_rfl
theorem NH (v:Value) (w:World):(Instr.typeAssert (.iface 265 v) 153 247 true).run prog w=.ok (.tuple #[.pointer none,.bool false]) w:=by kernel_rfl
theorem NG (v:Value) (w:World):(Instr.typeAssert (.iface 265 v) 153 331 true).run prog w=.ok (.tuple #[.pointer none,.bool false]) w:=by kernel_rfl
theorem NF (v:Value) (w:World):(Instr.typeAssert (.iface 265 v) 153 334 true).run prog w=.ok (.tuple #[.pointer none,.bool false]) w:=by kernel_rfl
theorem CO (v:Value) (w:World):(Instr.typeAssert (.iface 265 v) 153 342 true).run prog w=.ok (.tuple #[.slice none 0 0,.bool false]) w:=by kernel_rfl
theorem iP (v:Value) (w:World):(Instr.typeAssert (.iface 255 v) 153 263 true).run prog w=.ok (.tuple #[.slice none 0 0,.bool false]) w:=by kernel_rfl
theorem l7 (v:Value) (w:World):(Instr.typeAssert (.iface 255 v) 153 265 true).run prog w=.ok (.tuple #[.slice none 0 0,.bool false]) w:=by kernel_rfl
theorem gV (v:Value) (w:World):(Instr.typeAssert (.iface 255 v) 153 255 true).run prog w=.ok (.tuple #[v,.bool true]) w:=by kernel_rfl
theorem iQ (v:Value) (w:World):(Instr.typeAssert (.iface 255 v) 153 250 true).run prog w=.ok (.tuple #[.pointer none,.bool false]) w:=by kernel_rfl
theorem r9 (v:Value) (w:World):(Instr.typeAssert (.iface 255 v) 153 260 true).run prog w=.ok (.tuple #[.pointer none,.bool false]) w:=by kernel_rfl
theorem CV (v:Value) (w:World):(Instr.typeAssert (.iface 255 v) 153 344 true).run prog w=.ok (.tuple #[.pointer none,.bool false]) w:=by kernel_rfl
theorem CU (v:Value) (w:World):(Instr.typeAssert (.iface 255 v) 153 347 true).run prog w=.ok (.tuple #[.pointer none,.bool false]) w:=by kernel_rfl
theorem wq (v:Value) (w:World):(Instr.typeAssert (.iface 255 v) 153 349 true).run prog w=.ok (.tuple #[.pointer none,.bool false]) w:=by kernel_rfl
theorem NQ (v:Value) (w:World):(Instr.typeAssert (.iface 255 v) 153 352 true).run prog w=.ok (.tuple #[.pointer none,.bool false]) w:=by kernel_rfl
theorem NT (v:Value) (w:World):(Instr.typeAssert (.iface 255 v) 153 247 true).run prog w=.ok (.tuple #[.pointer none,.bool false]) w:=by kernel_rfl
theorem NS (v:Value) (w:World):(Instr.typeAssert (.iface 255 v) 153 331 true).run prog w=.ok (.tuple #[.pointer none,.bool false]) w:=by kernel_rfl
theorem NR (v:Value) (w:World):(Instr.typeAssert (.iface 255 v) 153 334 true).run prog w=.ok (.tuple #[.pointer none,.bool false]) w:=by kernel_rfl
theorem CW (v:Value) (w:World):(Instr.typeAssert (.iface 255 v) 153 342 true).run prog w=.ok (.tuple #[.slice none 0 0,.bool false]) w:=by kernel_rfl
theorem jX (v:Value) (w:World):(Instr.typeAssert (.iface 250 v) 153 263 true).run prog w=.ok (.tuple #[.slice none 0 0,.bool false]) w:=by kernel_rfl
theorem pe (v:Value) (w:World):(Instr.typeAssert (.iface 250 v) 153 265 true).run prog w=.ok (.tuple #[.slice none 0 0,.bool false]) w:=by kernel_rfl
theorem pf (v:Value) (w:World):(Instr.typeAssert (.iface 250 v) 153 255 true).run prog w=.ok (.tuple #[.pointer none,.bool false]) w:=by kernel_rfl
theorem il (v:Value) (w:World):(Instr.typeAssert (.iface 250 v) 153 250 true).run prog w=.ok (.tuple #[v,.bool true]) w:=by kernel_rfl
theorem sd (v:Value) (w:World):(Instr.typeAssert (.iface 250 v) 153 260 true).run prog w=.ok (.tuple #[.pointer none,.bool false]) w:=by kernel_rfl
theorem jW (v:Value) (w:World):(Instr.typeAssert (.iface 260 v) 153 263 true).run prog w=.ok (.tuple #[.slice none 0 0,.bool false]) w:=by kernel_rfl
theorem l5 (v:Value) (w:World):(Instr.typeAssert (.iface 260 v) 153 265 true).run prog w=.ok (.tuple #[.slice none 0 0,.bool false]) w:=by kernel_rfl
theorem nA (v:Value) (w:World):(Instr.typeAssert (.iface 260 v) 153 255 true).run prog w=.ok (.tuple #[.pointer none,.bool false]) w:=by kernel_rfl
theorem l6 (v:Value) (w:World):(Instr.typeAssert (.iface 260 v) 153 250 true).run prog w=.ok (.tuple #[.pointer none,.bool false]) w:=by kernel_rfl
theorem CT (v:Value) (w:World):(Instr.typeAssert (.iface 260 v) 153 260 true).run prog w=.ok (.tuple #[v,.bool true]) w:=by kernel_rfl
theorem wm (v:Value) (w:World):(Instr.typeAssert (.iface 260 v) 153 344 true).run prog w=.ok (.tuple #[.pointer none,.bool false]) w:=by kernel_rfl
theorem wk (v:Value) (w:World):(Instr.typeAssert (.iface 260 v) 153 347 true).run prog w=.ok (.tuple #[.pointer none,.bool false]) w:=by kernel_rfl
theorem wj (v:Value) (w:World):(Instr.typeAssert (.iface 260 v) 153 349 true).run prog w=.ok (.tuple #[.pointer none,.bool false]) w:=by kernel_rfl
theorem CR (v:Value) (w:World):(Instr.typeAssert (.iface 260 v) 153 352 true).run prog w=.ok (.tuple #[.pointer none,.bool false]) w:=by kernel_rfl
theorem NP (v:Value) (w:World):(Instr.typeAssert (.iface 260 v) 153 247 true).run prog w=.ok (.tuple #[.pointer none,.bool false]) w:=by kernel_rfl
theorem NN (v:Value) (w:World):(Instr.typeAssert (.iface 260 v) 153 331 true).run prog w=.ok (.tuple #[.pointer none,.bool false]) w:=by kernel_rfl
theorem NM (v:Value) (w:World):(Instr.typeAssert (.iface 260 v) 153 334 true).run prog w=.ok (.tuple #[.pointer none,.bool false]) w:=by kernel_rfl
theorem CS (v:Value) (w:World):(Instr.typeAssert (.iface 260 v) 153 342 true).run prog w=.ok (.tuple #[.slice none 0 0,.bool false]) w:=by kernel_rfl
theorem kG (v:Value) (w:World):(Instr.typeAssert (.iface 344 v) 153 263 true).run prog w=.ok (.tuple #[.slice none 0 0,.bool false]) w:=by kernel_rfl
theorem nv (v:Value) (w:World):(Instr.typeAssert (.iface 344 v) 153 265 true).run prog w=.ok (.tuple #[.slice none 0 0,.bool false]) w:=by kernel_rfl
theorem lW (v:Value) (w:World):(Instr.typeAssert (.iface 344 v) 153 255 true).run prog w=.ok (.tuple #[.pointer none,.bool false]) w:=by kernel_rfl
theorem kH (v:Value) (w:World):(Instr.typeAssert (.iface 344 v) 153 250 true).run prog w=.ok (.tuple #[.pointer none,.bool false]) w:=by kernel_rfl
theorem CB (v:Value) (w:World):(Instr.typeAssert (.iface 344 v) 153 260 true).run prog w=.ok (.tuple #[.pointer none,.bool false]) w:=by kernel_rfl
theorem vU (v:Value) (w:World):(Instr.typeAssert (.iface 344 v) 153 344 true).run prog w=.ok (.tuple #[v,.bool true]) w:=by kernel_rfl
theorem Nk (v:Value) (w:World):(Instr.typeAssert (.iface 344 v) 153 347 true).run prog w=.ok (.tuple #[.pointer none,.bool false]) w:=by kernel_rfl
theorem Nj (v:Value) (w:World):(Instr.typeAssert (.iface 344 v) 153 349 true).run prog w=.ok (.tuple #[.pointer none,.bool false]) w:=by kernel_rfl
theorem Nq (v:Value) (w:World):(Instr.typeAssert (.iface 344 v) 153 247 true).run prog w=.ok (.tuple #[.pointer none,.bool false]) w:=by kernel_rfl
theorem Np (v:Value) (w:World):(Instr.typeAssert (.iface 344 v) 153 331 true).run prog w=.ok (.tuple #[.pointer none,.bool false]) w:=by kernel_rfl
theorem Nn (v:Value) (w:World):(Instr.typeAssert (.iface 344 v) 153 334 true).run prog w=.ok (.tuple #[.pointer none,.bool false]) w:=by kernel_rfl
theorem Nl (v:Value) (w:World):(Instr.typeAssert (.iface 344 v) 153 342 true).run prog w=.ok (.tuple #[.slice none 0 0,.bool false]) w:=by kernel_rfl
theorem lU (v:Value) (w:World):(Instr.typeAssert (.iface 347 v) 153 263 true).run prog w=.ok (.tuple #[.slice none 0 0,.bool false]) w:=by kernel_rfl
theorem o8 (v:Value) (w:World):(Instr.typeAssert (.iface 347 v) 153 265 true).run prog w=.ok (.tuple #[.slice none 0 0,.bool false]) w:=by kernel_rfl
theorem lV (v:Value) (w:World):(Instr.typeAssert (.iface 347 v) 153 255 true).run prog w=.ok (.tuple #[.pointer none,.bool false]) w:=by kernel_rfl
theorem kF (v:Value) (w:World):(Instr.typeAssert (.iface 347 v) 153 250 true).run prog w=.ok (.tuple #[.pointer none,.bool false]) w:=by kernel_rfl
theorem CA (v:Value) (w:World):(Instr.typeAssert (.iface 347 v) 153 260 true).run prog w=.ok (.tuple #[.pointer none,.bool false]) w:=by kernel_rfl
theorem vS (v:Value) (w:World):(Instr.typeAssert (.iface 347 v) 153 344 true).run prog w=.ok (.tuple #[.pointer none,.bool false]) w:=by kernel_rfl
theorem vR (v:Value) (w:World):(Instr.typeAssert (.iface 347 v) 153 347 true).run prog w=.ok (.tuple #[v,.bool true]) w:=by kernel_rfl
theorem Nf (v:Value) (w:World):(Instr.typeAssert (.iface 347 v) 153 349 true).run prog w=.ok (.tuple #[.pointer none,.bool false]) w:=by kernel_rfl
theorem Ni (v:Value) (w:World):(Instr.typeAssert (.iface 347 v) 153 247 true).run prog w=.ok (.tuple #[.pointer none,.bool false]) w:=by kernel_rfl
theorem Nh (v:Value) (w:World):(Instr.typeAssert (.iface 347 v) 153 331 true).run prog w=.ok (.tuple #[.pointer none,.bool false]) w:=by kernel_rfl
theorem Ng (v:Value) (w:World):(Instr.typeAssert (.iface 347 v) 153 334 true).run prog w=.ok (.tuple #[.pointer none,.bool false]) w:=by kernel_rfl
theorem lR (v:Value) (w:World):(Instr.typeAssert (.iface 349 v) 153 263 true).run prog w=.ok (.tuple #[.slice none 0 0,.bool false]) w:=by kernel_rfl
theorem o7 (v:Value) (w:World):(Instr.typeAssert (.iface 349 v) 153 265 true).run prog w=.ok (.tuple #[.slice none 0 0,.bool false]) w:=by kernel_rfl
theorem lS (v:Value) (w:World):(Instr.typeAssert (.iface 349 v) 153 255 true).run prog w=.ok (.tuple #[.pointer none,.bool false]) w:=by kernel_rfl
theorem kE (v:Value) (w:World):(Instr.typeAssert (.iface 349 v) 153 250 true).run prog w=.ok (.tuple #[.pointer none,.bool false]) w:=by kernel_rfl
theorem Cz (v:Value) (w:World):(Instr.typeAssert (.iface 349 v) 153 260 true).run prog w=.ok (.tuple #[.pointer none,.bool false]) w:=by kernel_rfl
theorem vQ (v:Value) (w:World):(Instr.typeAssert (.iface 349 v) 153 344 true).run prog w=.ok (.tuple #[.pointer none,.bool false]) w:=by kernel_rfl
theorem vP (v:Value) (w:World):(Instr.typeAssert (.iface 349 v) 153 347 true).run prog w=.ok (.tuple #[.pointer none,.bool false]) w:=by kernel_rfl
theorem vO (v:Value) (w:World):(Instr.typeAssert (.iface 349 v) 153 349 true).run prog w=.ok (.tuple #[v,.bool true]) w:=by kernel_rfl
theorem Na (v:Value) (w:World):(Instr.typeAssert (.iface 349 v) 153 352 true).run prog w=.ok (.tuple #[.pointer none,.bool false]) w:=by kernel_rfl
theorem Nd (v:Value) (w:World):(Instr.typeAssert (.iface 349 v) 153 247 true).run prog w=.ok (.tuple #[.pointer none,.bool false]) w:=by kernel_rfl
theorem Nc (v:Value) (w:World):(Instr.typeAssert (.iface 349 v) 153 331 true).run prog w=.ok (.tuple #[.pointer none,.bool false]) w:=by kernel_rfl
theorem Nb (v:Value) (w:World):(Instr.typeAssert (.iface 349 v) 153 334 true).run prog w=.ok (.tuple #[.pointer none,.bool false]) w:=by kernel_rfl
theorem kC (v:Value) (w:World):(Instr.typeAssert (.iface 352 v) 153 263 true).run prog w=.ok (.tuple #[.slice none 0 0,.bool false]) w:=by kernel_rfl
theorem nt (v:Value) (w:World):(Instr.typeAssert (.iface 352 v) 153 265 true).run prog w=.ok (.tuple #[.slice none 0 0,.bool false]) w:=by kernel_rfl
theorem lQ (v:Value) (w:World):(Instr.typeAssert (.iface 352 v) 153 255 true).run prog w=.ok (.tuple #[.pointer none,.bool false]) w:=by kernel_rfl
theorem kD (v:Value) (w:World):(Instr.typeAssert (.iface 352 v) 153 250 true).run prog w=.ok (.tuple #[.pointer none,.bool false]) w:=by kernel_rfl
theorem Cy (v:Value) (w:World):(Instr.typeAssert (.iface 352 v) 153 260 true).run prog w=.ok (.tuple #[.pointer none,.bool false]) w:=by kernel_rfl
theorem vN (v:Value) (w:World):(Instr.typeAssert (.iface 352 v) 153 344 true).run prog w=.ok (.tuple #[.pointer none,.bool false]) w:=by kernel_rfl
theorem vM (v:Value) (w:World):(Instr.typeAssert (.iface 352 v) 153 347 true).run prog w=.ok (.tuple #[.pointer none,.bool false]) w:=by kernel_rfl
theorem vK (v:Value) (w:World):(Instr.typeAssert (.iface 352 v) 153 349 true).run prog w=.ok (.tuple #[.pointer none,.bool false]) w:=by kernel_rfl
theorem Cw (v:Value) (w:World):(Instr.typeAssert (.iface 352 v) 153 352 true).run prog w=.ok (.tuple #[v,.bool true]) w:=by kernel_rfl
theorem M9 (v:Value) (w:World):(Instr.typeAssert (.iface 352 v) 153 247 true).run prog w=.ok (.tuple #[.pointer none,.bool false]) w:=by kernel_rfl
theorem M8 (v:Value) (w:World):(Instr.typeAssert (.iface 352 v) 153 331 true).run prog w=.ok (.tuple #[.pointer none,.bool false]) w:=by kernel_rfl
theorem M7 (v:Value) (w:World):(Instr.typeAssert (.iface 352 v) 153 334 true).run prog w=.ok (.tuple #[.pointer none,.bool false]) w:=by kernel_rfl
theorem M6 (v:Value) (w:World):(Instr.typeAssert (.iface 352 v) 153 342 true).run prog w=.ok (.tuple #[.slice none 0 0,.bool false]) w:=by kernel_rfl
theorem kP (v:Value) (w:World):(Instr.typeAssert (.iface 247 v) 153 263 true).run prog w=.ok (.tuple #[.slice none 0 0,.bool false]) w:=by kernel_rfl
theorem nB (v:Value) (w:World):(Instr.typeAssert (.iface 247 v) 153 265 true).run prog w=.ok (.tuple #[.slice none 0 0,.bool false]) w:=by kernel_rfl
theorem l8 (v:Value) (w:World):(Instr.typeAssert (.iface 247 v) 153 255 true).run prog w=.ok (.tuple #[.pointer none,.bool false]) w:=by kernel_rfl
theorem kQ (v:Value) (w:World):(Instr.typeAssert (.iface 247 v) 153 250 true).run prog w=.ok (.tuple #[.pointer none,.bool false]) w:=by kernel_rfl
theorem C0 (v:Value) (w:World):(Instr.typeAssert (.iface 247 v) 153 260 true).run prog w=.ok (.tuple #[.pointer none,.bool false]) w:=by kernel_rfl
theorem CZ (v:Value) (w:World):(Instr.typeAssert (.iface 247 v) 153 344 true).run prog w=.ok (.tuple #[.pointer none,.bool false]) w:=by kernel_rfl
theorem CY (v:Value) (w:World):(Instr.typeAssert (.iface 247 v) 153 347 true).run prog w=.ok (.tuple #[.pointer none,.bool false]) w:=by kernel_rfl
theorem CX (v:Value) (w:World):(Instr.typeAssert (.iface 247 v) 153 349 true).run prog w=.ok (.tuple #[.pointer none,.bool false]) w:=by kernel_rfl
theorem NU (v:Value) (w:World):(Instr.typeAssert (.iface 247 v) 153 352 true).run prog w=.ok (.tuple #[.pointer none,.bool false]) w:=by kernel_rfl
theorem NZ (v:Value) (w:World):(Instr.typeAssert (.iface 247 v) 153 247 true).run prog w=.ok (.tuple #[v,.bool true]) w:=by kernel_rfl
theorem NY (v:Value) (w:World):(Instr.typeAssert (.iface 247 v) 153 331 true).run prog w=.ok (.tuple #[.pointer none,.bool false]) w:=by kernel_rfl
theorem NW (v:Value) (w:World):(Instr.typeAssert (.iface 247 v) 153 334 true).run prog w=.ok (.tuple #[.pointer none,.bool false]) w:=by kernel_rfl
theorem NV (v:Value) (w:World):(Instr.typeAssert (.iface 247 v) 153 342 true).run prog w=.ok (.tuple #[.slice none 0 0,.bool false]) w:=by kernel_rfl
theorem kL (v:Value) (w:World):(Instr.typeAssert (.iface 331 v) 153 263 true).run prog w=.ok (.tuple #[.slice none 0 0,.bool false]) w:=by kernel_rfl
theorem nz (v:Value) (w:World):(Instr.typeAssert (.iface 331 v) 153 265 true).run prog w=.ok (.tuple #[.slice none 0 0,.bool false]) w:=by kernel_rfl
theorem lZ (v:Value) (w:World):(Instr.typeAssert (.iface 331 v) 153 255 true).run prog w=.ok (.tuple #[.pointer none,.bool false]) w:=by kernel_rfl
theorem kM (v:Value) (w:World):(Instr.typeAssert (.iface 331 v) 153 250 true).run prog w=.ok (.tuple #[.pointer none,.bool false]) w:=by kernel_rfl
theorem CM (v:Value) (w:World):(Instr.typeAssert (.iface 331 v) 153 260 true).run prog w=.ok (.tuple #[.pointer none,.bool false]) w:=by kernel_rfl
theorem CL (v:Value) (w:World):(Instr.typeAssert (.iface 331 v) 153 344 true).run prog w=.ok (.tuple #[.pointer none,.bool false]) w:=by kernel_rfl
theorem CK (v:Value) (w:World):(Instr.typeAssert (.iface 331 v) 153 347 true).run prog w=.ok (.tuple #[.pointer none,.bool false]) w:=by kernel_rfl
theorem CJ (v:Value) (w:World):(Instr.typeAssert (.iface 331 v) 153 349 true).run prog w=.ok (.tuple #[.pointer none,.bool false]) w:=by kernel_rfl
theorem Nz (v:Value) (w:World):(Instr.typeAssert (.iface 331 v) 153 352 true).run prog w=.ok (.tuple #[.pointer none,.bool false]) w:=by kernel_rfl
theorem ND (v:Value) (w:World):(Instr.typeAssert (.iface 331 v) 153 247 true).run prog w=.ok (.tuple #[.pointer none,.bool false]) w:=by kernel_rfl
theorem NC (v:Value) (w:World):(Instr.typeAssert (.iface 331 v) 153 331 true).run prog w=.ok (.tuple #[v,.bool true]) w:=by kernel_rfl
theorem NB (v:Value) (w:World):(Instr.typeAssert (.iface 331 v) 153 334 true).run prog w=.ok (.tuple #[.pointer none,.bool false]) w:=by kernel_rfl
theorem NA (v:Value) (w:World):(Instr.typeAssert (.iface 331 v) 153 342 true).run prog w=.ok (.tuple #[.slice none 0 0,.bool false]) w:=by kernel_rfl
theorem kJ (v:Value) (w:World):(Instr.typeAssert (.iface 334 v) 153 263 true).run prog w=.ok (.tuple #[.slice none 0 0,.bool false]) w:=by kernel_rfl
theorem ny (v:Value) (w:World):(Instr.typeAssert (.iface 334 v) 153 265 true).run prog w=.ok (.tuple #[.slice none 0 0,.bool false]) w:=by kernel_rfl
theorem lY (v:Value) (w:World):(Instr.typeAssert (.iface 334 v) 153 255 true).run prog w=.ok (.tuple #[.pointer none,.bool false]) w:=by kernel_rfl
theorem kK (v:Value) (w:World):(Instr.typeAssert (.iface 334 v) 153 250 true).run prog w=.ok (.tuple #[.pointer none,.bool false]) w:=by kernel_rfl
theorem CI (v:Value) (w:World):(Instr.typeAssert (.iface 334 v) 153 260 true).run prog w=.ok (.tuple #[.pointer none,.bool false]) w:=by kernel_rfl
theorem CH (v:Value) (w:World):(Instr.typeAssert (.iface 334 v) 153 344 true).run prog w=.ok (.tuple #[.pointer none,.bool false]) w:=by kernel_rfl
theorem CG (v:Value) (w:World):(Instr.typeAssert (.iface 334 v) 153 347 true).run prog w=.ok (.tuple #[.pointer none,.bool false]) w:=by kernel_rfl
theorem CF (v:Value) (w:World):(Instr.typeAssert (.iface 334 v) 153 349 true).run prog w=.ok (.tuple #[.pointer none,.bool false]) w:=by kernel_rfl
theorem Nu (v:Value) (w:World):(Instr.typeAssert (.iface 334 v) 153 352 true).run prog w=.ok (.tuple #[.pointer none,.bool false]) w:=by kernel_rfl
theorem Ny (v:Value) (w:World):(Instr.typeAssert (.iface 334 v) 153 247 true).run prog w=.ok (.tuple #[.pointer none,.bool false]) w:=by kernel_rfl
theorem Nx (v:Value) (w:World):(Instr.typeAssert (.iface 334 v) 153 331 true).run prog w=.ok (.tuple #[.pointer none,.bool false]) w:=by kernel_rfl
theorem Nw (v:Value) (w:World):(Instr.typeAssert (.iface 334 v) 153 334 true).run prog w=.ok (.tuple #[v,.bool true]) w:=by kernel_rfl
theorem Nv (v:Value) (w:World):(Instr.typeAssert (.iface 334 v) 153 342 true).run prog w=.ok (.tuple #[.slice none 0 0,.bool false]) w:=by kernel_rfl
theorem jU (v:Value) (w:World):(Instr.typeAssert (.iface 342 v) 153 263 true).run prog w=.ok (.tuple #[.slice none 0 0,.bool false]) w:=by kernel_rfl
theorem o9 (v:Value) (w:World):(Instr.typeAssert (.iface 342 v) 153 265 true).run prog w=.ok (.tuple #[.slice none 0 0,.bool false]) w:=by kernel_rfl
theorem lX (v:Value) (w:World):(Instr.typeAssert (.iface 342 v) 153 255 true).run prog w=.ok (.tuple #[.pointer none,.bool false]) w:=by kernel_rfl
theorem kI (v:Value) (w:World):(Instr.typeAssert (.iface 342 v) 153 250 true).run prog w=.ok (.tuple #[.pointer none,.bool false]) w:=by kernel_rfl
theorem CE (v:Value) (w:World):(Instr.typeAssert (.iface 342 v) 153 260 true).run prog w=.ok (.tuple #[.pointer none,.bool false]) w:=by kernel_rfl
theorem vX (v:Value) (w:World):(Instr.typeAssert (.iface 342 v) 153 344 true).run prog w=.ok (.tuple #[.pointer none,.bool false]) w:=by kernel_rfl
theorem vW (v:Value) (w:World):(Instr.typeAssert (.iface 342 v) 153 347 true).run prog w=.ok (.tuple #[.pointer none,.bool false]) w:=by kernel_rfl
theorem vV (v:Value) (w:World):(Instr.typeAssert (.iface 342 v) 153 349 true).run prog w=.ok (.tuple #[.pointer none,.bool false]) w:=by kernel_rfl
theorem CC (v:Value) (w:World):(Instr.typeAssert (.iface 342 v) 153 352 true).run prog w=.ok (.tuple #[.pointer none,.bool false]) w:=by kernel_rfl
theorem Nt (v:Value) (w:World):(Instr.typeAssert (.iface 342 v) 153 247 true).run prog w=.ok (.tuple #[.pointer none,.bool false]) w:=by kernel_rfl
theorem Ns (v:Value) (w:World):(Instr.typeAssert (.iface 342 v) 153 331 true).run prog w=.ok (.tuple #[.pointer none,.bool false]) w:=by kernel_rfl
theorem Nr (v:Value) (w:World):(Instr.typeAssert (.iface 342 v) 153 334 true).run prog w=.ok (.tuple #[.pointer none,.bool false]) w:=by kernel_rfl
theorem CD (v:Value) (w:World):(Instr.typeAssert (.iface 342 v) 153 342 true).run prog w=.ok (.tuple #[v,.bool true]) w:=by kernel_rfl
end Go.Proofs.YtfejflhgaphilaaGreatDoor
