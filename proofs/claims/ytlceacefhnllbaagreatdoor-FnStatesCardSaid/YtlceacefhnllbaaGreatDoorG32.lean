/- A part of the proof of the statement on the law FnStates, which the last text proves: part G32. -/
import Derived.Test.YtlceacefhnllbaaGreatDoorG31
set_option linter.all false
section
namespace Go.Proofs
open Go.RowKit
open Pl
/-! ## what the network's checks ask of a state's type -/
theorem ta330_295 (a : Addr) (w : World) : (Instr.typeAssert (.iface 330 (.pointer (some a))) 156 295 true).run Tryz.prog w = .ok (.tuple #[.pointer none, .bool false]) w := by kernel_rfl
theorem ta330_173 (a : Addr) (w : World) : (Instr.typeAssert (.iface 330 (.pointer (some a))) 156 173 true).run Tryz.prog w = .ok (.tuple #[.pointer none, .bool false]) w := by kernel_rfl
theorem ta330_301 (a : Addr) (w : World) : (Instr.typeAssert (.iface 330 (.pointer (some a))) 156 301 true).run Tryz.prog w = .ok (.tuple #[.pointer none, .bool false]) w := by kernel_rfl
theorem ta330_253 (a : Addr) (w : World) : (Instr.typeAssert (.iface 330 (.pointer (some a))) 156 253 true).run Tryz.prog w = .ok (.tuple #[.pointer none, .bool false]) w := by kernel_rfl
theorem ta330_268 (a : Addr) (w : World) : (Instr.typeAssert (.iface 330 (.pointer (some a))) 156 268 true).run Tryz.prog w = .ok (.tuple #[.pointer none, .bool false]) w := by kernel_rfl
theorem ta330_264 (a : Addr) (w : World) : (Instr.typeAssert (.iface 330 (.pointer (some a))) 156 264 true).run Tryz.prog w = .ok (.tuple #[.pointer none, .bool false]) w := by kernel_rfl
theorem ta330_269 (a : Addr) (w : World) : (Instr.typeAssert (.iface 330 (.pointer (some a))) 156 269 true).run Tryz.prog w = .ok (.tuple #[.pointer none, .bool false]) w := by kernel_rfl
theorem ta330_309 (a : Addr) (w : World) : (Instr.typeAssert (.iface 330 (.pointer (some a))) 156 309 true).run Tryz.prog w = .ok (.tuple #[.pointer none, .bool false]) w := by kernel_rfl
theorem ta330_257 (a : Addr) (w : World) : (Instr.typeAssert (.iface 330 (.pointer (some a))) 156 257 true).run Tryz.prog w = .ok (.tuple #[.nilIface, .bool false]) w := by exact run_typeAssert_lacksB Tryz.underlying257 (by kernel_rfl) (by kernel_rfl) _ 156 w
theorem ta330_119 (a : Addr) (w : World) : (Instr.typeAssert (.iface 330 (.pointer (some a))) 156 119 true).run Tryz.prog w = .ok (.tuple #[.nilIface, .bool false]) w := by exact run_typeAssert_lacksB Tryz.underlying119 (by kernel_rfl) (by kernel_rfl) _ 156 w
theorem ta268_295 (a : Addr) (w : World) : (Instr.typeAssert (.iface 268 (.pointer (some a))) 156 295 true).run Tryz.prog w = .ok (.tuple #[.pointer none, .bool false]) w := by kernel_rfl
theorem ta268_173 (a : Addr) (w : World) : (Instr.typeAssert (.iface 268 (.pointer (some a))) 156 173 true).run Tryz.prog w = .ok (.tuple #[.pointer none, .bool false]) w := by kernel_rfl
theorem ta268_301 (a : Addr) (w : World) : (Instr.typeAssert (.iface 268 (.pointer (some a))) 156 301 true).run Tryz.prog w = .ok (.tuple #[.pointer none, .bool false]) w := by kernel_rfl
theorem ta268_253 (a : Addr) (w : World) : (Instr.typeAssert (.iface 268 (.pointer (some a))) 156 253 true).run Tryz.prog w = .ok (.tuple #[.pointer none, .bool false]) w := by kernel_rfl
theorem ta268_268 (a : Addr) (w : World) : (Instr.typeAssert (.iface 268 (.pointer (some a))) 156 268 true).run Tryz.prog w = .ok (.tuple #[.pointer (some a), .bool true]) w := by kernel_rfl
theorem ta268_264 (a : Addr) (w : World) : (Instr.typeAssert (.iface 268 (.pointer (some a))) 156 264 true).run Tryz.prog w = .ok (.tuple #[.pointer none, .bool false]) w := by kernel_rfl
theorem ta268_269 (a : Addr) (w : World) : (Instr.typeAssert (.iface 268 (.pointer (some a))) 156 269 true).run Tryz.prog w = .ok (.tuple #[.pointer none, .bool false]) w := by kernel_rfl
theorem ta268_309 (a : Addr) (w : World) : (Instr.typeAssert (.iface 268 (.pointer (some a))) 156 309 true).run Tryz.prog w = .ok (.tuple #[.pointer none, .bool false]) w := by kernel_rfl
theorem ta268_257 (a : Addr) (w : World) : (Instr.typeAssert (.iface 268 (.pointer (some a))) 156 257 true).run Tryz.prog w = .ok (.tuple #[.nilIface, .bool false]) w := by exact run_typeAssert_lacksB Tryz.underlying257 (by kernel_rfl) (by kernel_rfl) _ 156 w
theorem ta268_119 (a : Addr) (w : World) : (Instr.typeAssert (.iface 268 (.pointer (some a))) 156 119 true).run Tryz.prog w = .ok (.tuple #[.nilIface, .bool false]) w := by exact run_typeAssert_lacksB Tryz.underlying119 (by kernel_rfl) (by kernel_rfl) _ 156 w
theorem ta333_295 (a : Addr) (w : World) : (Instr.typeAssert (.iface 333 (.pointer (some a))) 156 295 true).run Tryz.prog w = .ok (.tuple #[.pointer none, .bool false]) w := by kernel_rfl
theorem ta333_173 (a : Addr) (w : World) : (Instr.typeAssert (.iface 333 (.pointer (some a))) 156 173 true).run Tryz.prog w = .ok (.tuple #[.pointer none, .bool false]) w := by kernel_rfl
theorem ta333_301 (a : Addr) (w : World) : (Instr.typeAssert (.iface 333 (.pointer (some a))) 156 301 true).run Tryz.prog w = .ok (.tuple #[.pointer none, .bool false]) w := by kernel_rfl
theorem ta333_253 (a : Addr) (w : World) : (Instr.typeAssert (.iface 333 (.pointer (some a))) 156 253 true).run Tryz.prog w = .ok (.tuple #[.pointer none, .bool false]) w := by kernel_rfl
theorem ta333_268 (a : Addr) (w : World) : (Instr.typeAssert (.iface 333 (.pointer (some a))) 156 268 true).run Tryz.prog w = .ok (.tuple #[.pointer none, .bool false]) w := by kernel_rfl
theorem ta333_264 (a : Addr) (w : World) : (Instr.typeAssert (.iface 333 (.pointer (some a))) 156 264 true).run Tryz.prog w = .ok (.tuple #[.pointer none, .bool false]) w := by kernel_rfl
theorem ta333_269 (a : Addr) (w : World) : (Instr.typeAssert (.iface 333 (.pointer (some a))) 156 269 true).run Tryz.prog w = .ok (.tuple #[.pointer none, .bool false]) w := by kernel_rfl
theorem ta333_309 (a : Addr) (w : World) : (Instr.typeAssert (.iface 333 (.pointer (some a))) 156 309 true).run Tryz.prog w = .ok (.tuple #[.pointer none, .bool false]) w := by kernel_rfl
theorem ta333_257 (a : Addr) (w : World) : (Instr.typeAssert (.iface 333 (.pointer (some a))) 156 257 true).run Tryz.prog w = .ok (.tuple #[.iface 333 (.pointer (some a)), .bool true]) w := by kernel_rfl
theorem ta333_119 (a : Addr) (w : World) : (Instr.typeAssert (.iface 333 (.pointer (some a))) 156 119 true).run Tryz.prog w = .ok (.tuple #[.iface 333 (.pointer (some a)), .bool true]) w := by kernel_rfl
theorem ta295_295 (a : Addr) (w : World) : (Instr.typeAssert (.iface 295 (.pointer (some a))) 156 295 true).run Tryz.prog w = .ok (.tuple #[.pointer (some a), .bool true]) w := by kernel_rfl
theorem ta295_173 (a : Addr) (w : World) : (Instr.typeAssert (.iface 295 (.pointer (some a))) 156 173 true).run Tryz.prog w = .ok (.tuple #[.pointer none, .bool false]) w := by kernel_rfl
theorem ta295_301 (a : Addr) (w : World) : (Instr.typeAssert (.iface 295 (.pointer (some a))) 156 301 true).run Tryz.prog w = .ok (.tuple #[.pointer none, .bool false]) w := by kernel_rfl
theorem ta295_253 (a : Addr) (w : World) : (Instr.typeAssert (.iface 295 (.pointer (some a))) 156 253 true).run Tryz.prog w = .ok (.tuple #[.pointer none, .bool false]) w := by kernel_rfl
theorem ta295_268 (a : Addr) (w : World) : (Instr.typeAssert (.iface 295 (.pointer (some a))) 156 268 true).run Tryz.prog w = .ok (.tuple #[.pointer none, .bool false]) w := by kernel_rfl
theorem ta295_264 (a : Addr) (w : World) : (Instr.typeAssert (.iface 295 (.pointer (some a))) 156 264 true).run Tryz.prog w = .ok (.tuple #[.pointer none, .bool false]) w := by kernel_rfl
theorem ta295_269 (a : Addr) (w : World) : (Instr.typeAssert (.iface 295 (.pointer (some a))) 156 269 true).run Tryz.prog w = .ok (.tuple #[.pointer none, .bool false]) w := by kernel_rfl
theorem ta295_309 (a : Addr) (w : World) : (Instr.typeAssert (.iface 295 (.pointer (some a))) 156 309 true).run Tryz.prog w = .ok (.tuple #[.pointer none, .bool false]) w := by kernel_rfl
theorem ta295_257 (a : Addr) (w : World) : (Instr.typeAssert (.iface 295 (.pointer (some a))) 156 257 true).run Tryz.prog w = .ok (.tuple #[.iface 295 (.pointer (some a)), .bool true]) w := by kernel_rfl
theorem ta295_119 (a : Addr) (w : World) : (Instr.typeAssert (.iface 295 (.pointer (some a))) 156 119 true).run Tryz.prog w = .ok (.tuple #[.iface 295 (.pointer (some a)), .bool true]) w := by kernel_rfl
theorem ta309_295 (a : Addr) (w : World) : (Instr.typeAssert (.iface 309 (.pointer (some a))) 156 295 true).run Tryz.prog w = .ok (.tuple #[.pointer none, .bool false]) w := by kernel_rfl
theorem ta309_173 (a : Addr) (w : World) : (Instr.typeAssert (.iface 309 (.pointer (some a))) 156 173 true).run Tryz.prog w = .ok (.tuple #[.pointer none, .bool false]) w := by kernel_rfl
theorem ta309_301 (a : Addr) (w : World) : (Instr.typeAssert (.iface 309 (.pointer (some a))) 156 301 true).run Tryz.prog w = .ok (.tuple #[.pointer none, .bool false]) w := by kernel_rfl
theorem ta309_253 (a : Addr) (w : World) : (Instr.typeAssert (.iface 309 (.pointer (some a))) 156 253 true).run Tryz.prog w = .ok (.tuple #[.pointer none, .bool false]) w := by kernel_rfl
theorem ta309_268 (a : Addr) (w : World) : (Instr.typeAssert (.iface 309 (.pointer (some a))) 156 268 true).run Tryz.prog w = .ok (.tuple #[.pointer none, .bool false]) w := by kernel_rfl
theorem ta309_264 (a : Addr) (w : World) : (Instr.typeAssert (.iface 309 (.pointer (some a))) 156 264 true).run Tryz.prog w = .ok (.tuple #[.pointer none, .bool false]) w := by kernel_rfl
theorem ta309_269 (a : Addr) (w : World) : (Instr.typeAssert (.iface 309 (.pointer (some a))) 156 269 true).run Tryz.prog w = .ok (.tuple #[.pointer none, .bool false]) w := by kernel_rfl
theorem ta309_309 (a : Addr) (w : World) : (Instr.typeAssert (.iface 309 (.pointer (some a))) 156 309 true).run Tryz.prog w = .ok (.tuple #[.pointer (some a), .bool true]) w := by kernel_rfl
theorem ta309_257 (a : Addr) (w : World) : (Instr.typeAssert (.iface 309 (.pointer (some a))) 156 257 true).run Tryz.prog w = .ok (.tuple #[.iface 309 (.pointer (some a)), .bool true]) w := by kernel_rfl
theorem ta309_119 (a : Addr) (w : World) : (Instr.typeAssert (.iface 309 (.pointer (some a))) 156 119 true).run Tryz.prog w = .ok (.tuple #[.iface 309 (.pointer (some a)), .bool true]) w := by kernel_rfl
theorem ta232_295 (a : Addr) (w : World) : (Instr.typeAssert (.iface 232 (.pointer (some a))) 156 295 true).run Tryz.prog w = .ok (.tuple #[.pointer none, .bool false]) w := by kernel_rfl
theorem ta232_173 (a : Addr) (w : World) : (Instr.typeAssert (.iface 232 (.pointer (some a))) 156 173 true).run Tryz.prog w = .ok (.tuple #[.pointer none, .bool false]) w := by kernel_rfl
theorem ta232_301 (a : Addr) (w : World) : (Instr.typeAssert (.iface 232 (.pointer (some a))) 156 301 true).run Tryz.prog w = .ok (.tuple #[.pointer none, .bool false]) w := by kernel_rfl
theorem ta232_253 (a : Addr) (w : World) : (Instr.typeAssert (.iface 232 (.pointer (some a))) 156 253 true).run Tryz.prog w = .ok (.tuple #[.pointer none, .bool false]) w := by kernel_rfl
theorem ta232_268 (a : Addr) (w : World) : (Instr.typeAssert (.iface 232 (.pointer (some a))) 156 268 true).run Tryz.prog w = .ok (.tuple #[.pointer none, .bool false]) w := by kernel_rfl
theorem ta232_264 (a : Addr) (w : World) : (Instr.typeAssert (.iface 232 (.pointer (some a))) 156 264 true).run Tryz.prog w = .ok (.tuple #[.pointer none, .bool false]) w := by kernel_rfl
theorem ta232_269 (a : Addr) (w : World) : (Instr.typeAssert (.iface 232 (.pointer (some a))) 156 269 true).run Tryz.prog w = .ok (.tuple #[.pointer none, .bool false]) w := by kernel_rfl
theorem ta232_309 (a : Addr) (w : World) : (Instr.typeAssert (.iface 232 (.pointer (some a))) 156 309 true).run Tryz.prog w = .ok (.tuple #[.pointer none, .bool false]) w := by kernel_rfl
theorem ta232_257 (a : Addr) (w : World) : (Instr.typeAssert (.iface 232 (.pointer (some a))) 156 257 true).run Tryz.prog w = .ok (.tuple #[.nilIface, .bool false]) w := by exact run_typeAssert_lacksB Tryz.underlying257 (by kernel_rfl) (by kernel_rfl) _ 156 w
theorem ta232_119 (a : Addr) (w : World) : (Instr.typeAssert (.iface 232 (.pointer (some a))) 156 119 true).run Tryz.prog w = .ok (.tuple #[.iface 232 (.pointer (some a)), .bool true]) w := by kernel_rfl
theorem ta269_295 (a : Addr) (w : World) : (Instr.typeAssert (.iface 269 (.pointer (some a))) 156 295 true).run Tryz.prog w = .ok (.tuple #[.pointer none, .bool false]) w := by kernel_rfl
theorem ta269_173 (a : Addr) (w : World) : (Instr.typeAssert (.iface 269 (.pointer (some a))) 156 173 true).run Tryz.prog w = .ok (.tuple #[.pointer none, .bool false]) w := by kernel_rfl
theorem ta269_301 (a : Addr) (w : World) : (Instr.typeAssert (.iface 269 (.pointer (some a))) 156 301 true).run Tryz.prog w = .ok (.tuple #[.pointer none, .bool false]) w := by kernel_rfl
theorem ta269_253 (a : Addr) (w : World) : (Instr.typeAssert (.iface 269 (.pointer (some a))) 156 253 true).run Tryz.prog w = .ok (.tuple #[.pointer none, .bool false]) w := by kernel_rfl
theorem ta269_268 (a : Addr) (w : World) : (Instr.typeAssert (.iface 269 (.pointer (some a))) 156 268 true).run Tryz.prog w = .ok (.tuple #[.pointer none, .bool false]) w := by kernel_rfl
theorem ta269_264 (a : Addr) (w : World) : (Instr.typeAssert (.iface 269 (.pointer (some a))) 156 264 true).run Tryz.prog w = .ok (.tuple #[.pointer none, .bool false]) w := by kernel_rfl
theorem ta269_269 (a : Addr) (w : World) : (Instr.typeAssert (.iface 269 (.pointer (some a))) 156 269 true).run Tryz.prog w = .ok (.tuple #[.pointer (some a), .bool true]) w := by kernel_rfl
theorem ta269_309 (a : Addr) (w : World) : (Instr.typeAssert (.iface 269 (.pointer (some a))) 156 309 true).run Tryz.prog w = .ok (.tuple #[.pointer none, .bool false]) w := by kernel_rfl
theorem ta269_257 (a : Addr) (w : World) : (Instr.typeAssert (.iface 269 (.pointer (some a))) 156 257 true).run Tryz.prog w = .ok (.tuple #[.nilIface, .bool false]) w := by exact run_typeAssert_lacksB Tryz.underlying257 (by kernel_rfl) (by kernel_rfl) _ 156 w
theorem ta269_119 (a : Addr) (w : World) : (Instr.typeAssert (.iface 269 (.pointer (some a))) 156 119 true).run Tryz.prog w = .ok (.tuple #[.nilIface, .bool false]) w := by exact run_typeAssert_lacksB Tryz.underlying119 (by kernel_rfl) (by kernel_rfl) _ 156 w
theorem ta264_295 (a : Addr) (w : World) : (Instr.typeAssert (.iface 264 (.pointer (some a))) 156 295 true).run Tryz.prog w = .ok (.tuple #[.pointer none, .bool false]) w := by kernel_rfl
theorem ta264_173 (a : Addr) (w : World) : (Instr.typeAssert (.iface 264 (.pointer (some a))) 156 173 true).run Tryz.prog w = .ok (.tuple #[.pointer none, .bool false]) w := by kernel_rfl
theorem ta264_301 (a : Addr) (w : World) : (Instr.typeAssert (.iface 264 (.pointer (some a))) 156 301 true).run Tryz.prog w = .ok (.tuple #[.pointer none, .bool false]) w := by kernel_rfl
theorem ta264_253 (a : Addr) (w : World) : (Instr.typeAssert (.iface 264 (.pointer (some a))) 156 253 true).run Tryz.prog w = .ok (.tuple #[.pointer none, .bool false]) w := by kernel_rfl
theorem ta264_268 (a : Addr) (w : World) : (Instr.typeAssert (.iface 264 (.pointer (some a))) 156 268 true).run Tryz.prog w = .ok (.tuple #[.pointer none, .bool false]) w := by kernel_rfl
theorem ta264_264 (a : Addr) (w : World) : (Instr.typeAssert (.iface 264 (.pointer (some a))) 156 264 true).run Tryz.prog w = .ok (.tuple #[.pointer (some a), .bool true]) w := by kernel_rfl
theorem ta264_269 (a : Addr) (w : World) : (Instr.typeAssert (.iface 264 (.pointer (some a))) 156 269 true).run Tryz.prog w = .ok (.tuple #[.pointer none, .bool false]) w := by kernel_rfl
theorem ta264_309 (a : Addr) (w : World) : (Instr.typeAssert (.iface 264 (.pointer (some a))) 156 309 true).run Tryz.prog w = .ok (.tuple #[.pointer none, .bool false]) w := by kernel_rfl
theorem ta264_257 (a : Addr) (w : World) : (Instr.typeAssert (.iface 264 (.pointer (some a))) 156 257 true).run Tryz.prog w = .ok (.tuple #[.nilIface, .bool false]) w := by exact run_typeAssert_lacksB Tryz.underlying257 (by kernel_rfl) (by kernel_rfl) _ 156 w
theorem ta264_119 (a : Addr) (w : World) : (Instr.typeAssert (.iface 264 (.pointer (some a))) 156 119 true).run Tryz.prog w = .ok (.tuple #[.nilIface, .bool false]) w := by exact run_typeAssert_lacksB Tryz.underlying119 (by kernel_rfl) (by kernel_rfl) _ 156 w
theorem ta301_295 (a : Addr) (w : World) : (Instr.typeAssert (.iface 301 (.pointer (some a))) 156 295 true).run Tryz.prog w = .ok (.tuple #[.pointer none, .bool false]) w := by kernel_rfl
theorem ta301_173 (a : Addr) (w : World) : (Instr.typeAssert (.iface 301 (.pointer (some a))) 156 173 true).run Tryz.prog w = .ok (.tuple #[.pointer none, .bool false]) w := by kernel_rfl
theorem ta301_301 (a : Addr) (w : World) : (Instr.typeAssert (.iface 301 (.pointer (some a))) 156 301 true).run Tryz.prog w = .ok (.tuple #[.pointer (some a), .bool true]) w := by kernel_rfl
theorem ta301_253 (a : Addr) (w : World) : (Instr.typeAssert (.iface 301 (.pointer (some a))) 156 253 true).run Tryz.prog w = .ok (.tuple #[.pointer none, .bool false]) w := by kernel_rfl
theorem ta301_268 (a : Addr) (w : World) : (Instr.typeAssert (.iface 301 (.pointer (some a))) 156 268 true).run Tryz.prog w = .ok (.tuple #[.pointer none, .bool false]) w := by kernel_rfl
theorem ta301_264 (a : Addr) (w : World) : (Instr.typeAssert (.iface 301 (.pointer (some a))) 156 264 true).run Tryz.prog w = .ok (.tuple #[.pointer none, .bool false]) w := by kernel_rfl
theorem ta301_269 (a : Addr) (w : World) : (Instr.typeAssert (.iface 301 (.pointer (some a))) 156 269 true).run Tryz.prog w = .ok (.tuple #[.pointer none, .bool false]) w := by kernel_rfl
theorem ta301_309 (a : Addr) (w : World) : (Instr.typeAssert (.iface 301 (.pointer (some a))) 156 309 true).run Tryz.prog w = .ok (.tuple #[.pointer none, .bool false]) w := by kernel_rfl
theorem ta301_257 (a : Addr) (w : World) : (Instr.typeAssert (.iface 301 (.pointer (some a))) 156 257 true).run Tryz.prog w = .ok (.tuple #[.nilIface, .bool false]) w := by exact run_typeAssert_lacksB Tryz.underlying257 (by kernel_rfl) (by kernel_rfl) _ 156 w
theorem ta301_119 (a : Addr) (w : World) : (Instr.typeAssert (.iface 301 (.pointer (some a))) 156 119 true).run Tryz.prog w = .ok (.tuple #[.nilIface, .bool false]) w := by exact run_typeAssert_lacksB Tryz.underlying119 (by kernel_rfl) (by kernel_rfl) _ 156 w
theorem ta173_295 (a : Addr) (w : World) : (Instr.typeAssert (.iface 173 (.pointer (some a))) 156 295 true).run Tryz.prog w = .ok (.tuple #[.pointer none, .bool false]) w := by kernel_rfl
theorem ta173_173 (a : Addr) (w : World) : (Instr.typeAssert (.iface 173 (.pointer (some a))) 156 173 true).run Tryz.prog w = .ok (.tuple #[.pointer (some a), .bool true]) w := by kernel_rfl
theorem ta173_301 (a : Addr) (w : World) : (Instr.typeAssert (.iface 173 (.pointer (some a))) 156 301 true).run Tryz.prog w = .ok (.tuple #[.pointer none, .bool false]) w := by kernel_rfl
theorem ta173_253 (a : Addr) (w : World) : (Instr.typeAssert (.iface 173 (.pointer (some a))) 156 253 true).run Tryz.prog w = .ok (.tuple #[.pointer none, .bool false]) w := by kernel_rfl
theorem ta173_268 (a : Addr) (w : World) : (Instr.typeAssert (.iface 173 (.pointer (some a))) 156 268 true).run Tryz.prog w = .ok (.tuple #[.pointer none, .bool false]) w := by kernel_rfl
theorem ta173_264 (a : Addr) (w : World) : (Instr.typeAssert (.iface 173 (.pointer (some a))) 156 264 true).run Tryz.prog w = .ok (.tuple #[.pointer none, .bool false]) w := by kernel_rfl
theorem ta173_269 (a : Addr) (w : World) : (Instr.typeAssert (.iface 173 (.pointer (some a))) 156 269 true).run Tryz.prog w = .ok (.tuple #[.pointer none, .bool false]) w := by kernel_rfl
theorem ta173_309 (a : Addr) (w : World) : (Instr.typeAssert (.iface 173 (.pointer (some a))) 156 309 true).run Tryz.prog w = .ok (.tuple #[.pointer none, .bool false]) w := by kernel_rfl
theorem ta173_257 (a : Addr) (w : World) : (Instr.typeAssert (.iface 173 (.pointer (some a))) 156 257 true).run Tryz.prog w = .ok (.tuple #[.nilIface, .bool false]) w := by exact run_typeAssert_lacksB Tryz.underlying257 (by kernel_rfl) (by kernel_rfl) _ 156 w
theorem ta173_119 (a : Addr) (w : World) : (Instr.typeAssert (.iface 173 (.pointer (some a))) 156 119 true).run Tryz.prog w = .ok (.tuple #[.iface 173 (.pointer (some a)), .bool true]) w := by kernel_rfl
theorem ta291_295 (a : Addr) (w : World) : (Instr.typeAssert (.iface 291 (.pointer (some a))) 156 295 true).run Tryz.prog w = .ok (.tuple #[.pointer none, .bool false]) w := by kernel_rfl
theorem ta291_173 (a : Addr) (w : World) : (Instr.typeAssert (.iface 291 (.pointer (some a))) 156 173 true).run Tryz.prog w = .ok (.tuple #[.pointer none, .bool false]) w := by kernel_rfl
theorem ta291_301 (a : Addr) (w : World) : (Instr.typeAssert (.iface 291 (.pointer (some a))) 156 301 true).run Tryz.prog w = .ok (.tuple #[.pointer none, .bool false]) w := by kernel_rfl
theorem ta291_253 (a : Addr) (w : World) : (Instr.typeAssert (.iface 291 (.pointer (some a))) 156 253 true).run Tryz.prog w = .ok (.tuple #[.pointer none, .bool false]) w := by kernel_rfl
theorem ta291_268 (a : Addr) (w : World) : (Instr.typeAssert (.iface 291 (.pointer (some a))) 156 268 true).run Tryz.prog w = .ok (.tuple #[.pointer none, .bool false]) w := by kernel_rfl
theorem ta291_264 (a : Addr) (w : World) : (Instr.typeAssert (.iface 291 (.pointer (some a))) 156 264 true).run Tryz.prog w = .ok (.tuple #[.pointer none, .bool false]) w := by kernel_rfl
theorem ta291_269 (a : Addr) (w : World) : (Instr.typeAssert (.iface 291 (.pointer (some a))) 156 269 true).run Tryz.prog w = .ok (.tuple #[.pointer none, .bool false]) w := by kernel_rfl
theorem ta291_309 (a : Addr) (w : World) : (Instr.typeAssert (.iface 291 (.pointer (some a))) 156 309 true).run Tryz.prog w = .ok (.tuple #[.pointer none, .bool false]) w := by kernel_rfl
theorem ta291_257 (a : Addr) (w : World) : (Instr.typeAssert (.iface 291 (.pointer (some a))) 156 257 true).run Tryz.prog w = .ok (.tuple #[.nilIface, .bool false]) w := by exact run_typeAssert_lacksB Tryz.underlying257 (by kernel_rfl) (by kernel_rfl) _ 156 w
theorem ta291_119 (a : Addr) (w : World) : (Instr.typeAssert (.iface 291 (.pointer (some a))) 156 119 true).run Tryz.prog w = .ok (.tuple #[.iface 291 (.pointer (some a)), .bool true]) w := by kernel_rfl
theorem ta253_295 (a : Addr) (w : World) : (Instr.typeAssert (.iface 253 (.pointer (some a))) 156 295 true).run Tryz.prog w = .ok (.tuple #[.pointer none, .bool false]) w := by kernel_rfl
theorem ta253_173 (a : Addr) (w : World) : (Instr.typeAssert (.iface 253 (.pointer (some a))) 156 173 true).run Tryz.prog w = .ok (.tuple #[.pointer none, .bool false]) w := by kernel_rfl
theorem ta253_301 (a : Addr) (w : World) : (Instr.typeAssert (.iface 253 (.pointer (some a))) 156 301 true).run Tryz.prog w = .ok (.tuple #[.pointer none, .bool false]) w := by kernel_rfl
theorem ta253_253 (a : Addr) (w : World) : (Instr.typeAssert (.iface 253 (.pointer (some a))) 156 253 true).run Tryz.prog w = .ok (.tuple #[.pointer (some a), .bool true]) w := by kernel_rfl
theorem ta253_268 (a : Addr) (w : World) : (Instr.typeAssert (.iface 253 (.pointer (some a))) 156 268 true).run Tryz.prog w = .ok (.tuple #[.pointer none, .bool false]) w := by kernel_rfl
theorem ta253_264 (a : Addr) (w : World) : (Instr.typeAssert (.iface 253 (.pointer (some a))) 156 264 true).run Tryz.prog w = .ok (.tuple #[.pointer none, .bool false]) w := by kernel_rfl
theorem ta253_269 (a : Addr) (w : World) : (Instr.typeAssert (.iface 253 (.pointer (some a))) 156 269 true).run Tryz.prog w = .ok (.tuple #[.pointer none, .bool false]) w := by kernel_rfl
theorem ta253_309 (a : Addr) (w : World) : (Instr.typeAssert (.iface 253 (.pointer (some a))) 156 309 true).run Tryz.prog w = .ok (.tuple #[.pointer none, .bool false]) w := by kernel_rfl
theorem ta253_257 (a : Addr) (w : World) : (Instr.typeAssert (.iface 253 (.pointer (some a))) 156 257 true).run Tryz.prog w = .ok (.tuple #[.nilIface, .bool false]) w := by exact run_typeAssert_lacksB Tryz.underlying257 (by kernel_rfl) (by kernel_rfl) _ 156 w
theorem ta253_119 (a : Addr) (w : World) : (Instr.typeAssert (.iface 253 (.pointer (some a))) 156 119 true).run Tryz.prog w = .ok (.tuple #[.nilIface, .bool false]) w := by exact run_typeAssert_lacksB Tryz.underlying119 (by kernel_rfl) (by kernel_rfl) _ 156 w
theorem ta286_279 (a : Addr) (w : World) : (Instr.typeAssert (.iface 286 (.pointer (some a))) 275 279 true).run Tryz.prog w = .ok (.tuple #[.pointer none, .bool false]) w := by kernel_rfl
theorem ta350_279 (a : Addr) (w : World) : (Instr.typeAssert (.iface 350 (.pointer (some a))) 275 279 true).run Tryz.prog w = .ok (.tuple #[.pointer none, .bool false]) w := by kernel_rfl
theorem ta357_279 (a : Addr) (w : World) : (Instr.typeAssert (.iface 357 (.pointer (some a))) 275 279 true).run Tryz.prog w = .ok (.tuple #[.pointer none, .bool false]) w := by kernel_rfl
theorem taNoRT {T : TypeId} (hT : T ∈ trTypes) (a : Addr) (w : World) : (Instr.typeAssert (.iface T (.pointer (some a))) 275 279 true).run Tryz.prog w = .ok (.tuple #[.pointer none, .bool false]) w := by
  unfold trTypes at hT
  simp only [List.mem_cons, List.not_mem_nil, or_false] at hT
  rcases hT with rfl | rfl | rfl
  · exact ta286_279 a w
  · exact ta350_279 a w
  · exact ta357_279 a w
theorem taNo291 {T : TypeId} (hT : T ∈ stTypes) (hn : T ≠ 291) (a : Addr) (w : World) : (Instr.typeAssert (.iface T (.pointer (some a))) 156 291 true).run Tryz.prog w = .ok (.tuple #[.pointer none, .bool false]) w := by
  unfold stTypes at hT
  simp only [List.mem_cons, List.not_mem_nil, or_false] at hT
  rcases hT with rfl | rfl | rfl | rfl | rfl | rfl | rfl | rfl | rfl | rfl | rfl | rfl
  all_goals first | (exact absurd rfl hn) | kernel_rfl
theorem taYes291 (a : Addr) (w : World) : (Instr.typeAssert (.iface 291 (.pointer (some a))) 156 291 true).run Tryz.prog w = .ok (.tuple #[.pointer (some a), .bool true]) w := by kernel_rfl
theorem taNo295 {T : TypeId} (hT : T ∈ stTypes) (hn : T ≠ 295) (a : Addr) (w : World) : (Instr.typeAssert (.iface T (.pointer (some a))) 156 295 true).run Tryz.prog w = .ok (.tuple #[.pointer none, .bool false]) w := by
  unfold stTypes at hT
  simp only [List.mem_cons, List.not_mem_nil, or_false] at hT
  rcases hT with rfl | rfl | rfl | rfl | rfl | rfl | rfl | rfl | rfl | rfl | rfl | rfl
  all_goals first | (exact absurd rfl hn) | kernel_rfl
theorem taYes295 (a : Addr) (w : World) : (Instr.typeAssert (.iface 295 (.pointer (some a))) 156 295 true).run Tryz.prog w = .ok (.tuple #[.pointer (some a), .bool true]) w := by kernel_rfl
theorem taNo301 {T : TypeId} (hT : T ∈ stTypes) (hn : T ≠ 301) (a : Addr) (w : World) : (Instr.typeAssert (.iface T (.pointer (some a))) 156 301 true).run Tryz.prog w = .ok (.tuple #[.pointer none, .bool false]) w := by
  unfold stTypes at hT
  simp only [List.mem_cons, List.not_mem_nil, or_false] at hT
  rcases hT with rfl | rfl | rfl | rfl | rfl | rfl | rfl | rfl | rfl | rfl | rfl | rfl
  all_goals first | (exact absurd rfl hn) | kernel_rfl
theorem taYes301 (a : Addr) (w : World) : (Instr.typeAssert (.iface 301 (.pointer (some a))) 156 301 true).run Tryz.prog w = .ok (.tuple #[.pointer (some a), .bool true]) w := by kernel_rfl
theorem taNo173 {T : TypeId} (hT : T ∈ stTypes) (hn : T ≠ 173) (a : Addr) (w : World) : (Instr.typeAssert (.iface T (.pointer (some a))) 156 173 true).run Tryz.prog w = .ok (.tuple #[.pointer none, .bool false]) w := by
  unfold stTypes at hT
  simp only [List.mem_cons, List.not_mem_nil, or_false] at hT
  rcases hT with rfl | rfl | rfl | rfl | rfl | rfl | rfl | rfl | rfl | rfl | rfl | rfl
  all_goals first | (exact absurd rfl hn) | kernel_rfl
theorem taYes173 (a : Addr) (w : World) : (Instr.typeAssert (.iface 173 (.pointer (some a))) 156 173 true).run Tryz.prog w = .ok (.tuple #[.pointer (some a), .bool true]) w := by kernel_rfl
theorem taNo253 {T : TypeId} (hT : T ∈ stTypes) (hn : T ≠ 253) (a : Addr) (w : World) : (Instr.typeAssert (.iface T (.pointer (some a))) 156 253 true).run Tryz.prog w = .ok (.tuple #[.pointer none, .bool false]) w := by
  unfold stTypes at hT
  simp only [List.mem_cons, List.not_mem_nil, or_false] at hT
  rcases hT with rfl | rfl | rfl | rfl | rfl | rfl | rfl | rfl | rfl | rfl | rfl | rfl
  all_goals first | (exact absurd rfl hn) | kernel_rfl
theorem taYes253 (a : Addr) (w : World) : (Instr.typeAssert (.iface 253 (.pointer (some a))) 156 253 true).run Tryz.prog w = .ok (.tuple #[.pointer (some a), .bool true]) w := by kernel_rfl
theorem taNo268 {T : TypeId} (hT : T ∈ stTypes) (hn : T ≠ 268) (a : Addr) (w : World) : (Instr.typeAssert (.iface T (.pointer (some a))) 156 268 true).run Tryz.prog w = .ok (.tuple #[.pointer none, .bool false]) w := by
  unfold stTypes at hT
  simp only [List.mem_cons, List.not_mem_nil, or_false] at hT
  rcases hT with rfl | rfl | rfl | rfl | rfl | rfl | rfl | rfl | rfl | rfl | rfl | rfl
  all_goals first | (exact absurd rfl hn) | kernel_rfl
theorem taYes268 (a : Addr) (w : World) : (Instr.typeAssert (.iface 268 (.pointer (some a))) 156 268 true).run Tryz.prog w = .ok (.tuple #[.pointer (some a), .bool true]) w := by kernel_rfl
theorem taNo264 {T : TypeId} (hT : T ∈ stTypes) (hn : T ≠ 264) (a : Addr) (w : World) : (Instr.typeAssert (.iface T (.pointer (some a))) 156 264 true).run Tryz.prog w = .ok (.tuple #[.pointer none, .bool false]) w := by
  unfold stTypes at hT
  simp only [List.mem_cons, List.not_mem_nil, or_false] at hT
  rcases hT with rfl | rfl | rfl | rfl | rfl | rfl | rfl | rfl | rfl | rfl | rfl | rfl
  all_goals first | (exact absurd rfl hn) | kernel_rfl
theorem taYes264 (a : Addr) (w : World) : (Instr.typeAssert (.iface 264 (.pointer (some a))) 156 264 true).run Tryz.prog w = .ok (.tuple #[.pointer (some a), .bool true]) w := by kernel_rfl
theorem chk_any (d : Addr) (s : ByteArray) (w : World) : Calls Tryz.prog 107 #[.pointer (some d), .bool true, .string s] w fun e w' => e = .returned (.tuple #[]) ∧ w = w' := by
  go_enter Tryz.func107, Tryz.ntmps107
  go_wp2_with fail
  go_end0
  exact ⟨rfl, rfl⟩
end Go.Proofs
end
section
namespace Go.Proofs
open Go.RowKit
open Pl
/-! ## the edges that were read -/
def edA (N : Bd) (j : Nat) : LE := N.ed.getD j ⟨0, 0, 0, 0, 0⟩
def outI (N : Bd) (m s : Nat) : List Nat := (List.range m).filter fun j => (edA N j).src == s
def ifT (N : Bd) (tA : Nat → Nat) (j : Nat) : Value := .iface (trTy (edA N j).kind) (.pointer (some ⟨tA j, 0, none⟩))
def epv (N : Bd) (m s : Nat) : Bool := !(outI N m s).isEmpty && (outI N m s).all fun j => decide ((edA N j).kind = 1)
theorem outI_snoc (N : Bd) (m s : Nat) : outI N (m + 1) s = outI N m s ++ if (edA N m).src = s then [m] else [] := by
  unfold outI
  rw [List.range_succ, List.filter_append]
  congr 1
  by_cases h : (edA N m).src = s <;> simp [h]
theorem outI_lt {N : Bd} {m s j : Nat} (h : j ∈ outI N m s) : j < m := by
  unfold outI at h; exact List.mem_range.1 (List.mem_filter.1 h).1
theorem outI_len (N : Bd) (m s : Nat) : (outI N m s).length ≤ m := by
  unfold outI; exact Nat.le_trans (List.length_filter_le _ _) (by simp)
theorem edA_at {N : Bd} {j : Nat} (h : j < N.ed.length) : N.ed[j]? = some (edA N j) := by simp [edA, List.getD, h]
theorem ed_map (N : Bd) : N.ed = (List.range N.ed.length).map (edA N) := by
  apply List.ext_getElem?
  intro i
  rw [List.getElem?_map]
  by_cases h : i < N.ed.length
  · rw [edA_at h]; simp [h]
  · rw [List.getElem?_eq_none (by omega)]; simp [h]
theorem out_map (N : Bd) (s : Nat) : N.out s = (outI N N.ed.length s).map (edA N) := by
  unfold outI Bd.out
  conv => lhs; rw [ed_map N]
  rw [List.filter_map]
  rfl
theorem epv_snoc {N : Bd} {m s : Nat} (h : (edA N m).src = s) : epv N (m + 1) s = if (outI N m s).length = 0 then decide ((edA N m).kind = 1) else epv N m s && decide ((edA N m).kind = 1) := by
  unfold epv
  rw [outI_snoc, if_pos h]
  cases e : outI N m s with
  | nil => simp
  | cons y l => simp [Bool.and_assoc]
theorem epv_ne {N : Bd} {m s : Nat} (h : (edA N m).src ≠ s) : epv N (m + 1) s = epv N m s := by
  unfold epv
  rw [outI_snoc, if_neg h, List.append_nil]
theorem Cs.upd {N : Bd} {A : Nat → Nat} {f : Nat → Array Value} (h : Cs N A f) {s : Nat} {c : Array Value} (hs : c.size = (f s).size) (ho : ∀ j, j ≠ 2 → j ≠ 6 → c[j]? = (f s)[j]?) : Cs N A (upF f s c) := by
  have key : ∀ q j, j ≠ 2 → j ≠ 6 → (upF f s c q)[j]? = (f q)[j]? := by
    intro q j h2 h6
    by_cases e : q = s
    · subst e; rw [upF_self]; exact ho j h2 h6
    · rw [upF_ne _ _ e]
  refine ⟨fun q hq => ?_, fun q hq => ?_, fun q hq => ?_, fun q hq hk => ?_, fun q hq hk => ?_, fun q hq hk => ?_, fun q hq hk => ?_⟩
  · by_cases e : q = s
    · subst e; rw [upF_self, hs, h.sz q hq]
    · rw [upF_ne _ _ e, h.sz q hq]
  · rw [key _ _ (by omega) (by omega), h.ri q hq]
  · rw [key _ _ (by omega) (by omega), h.sn q hq]
  · rw [key _ _ (by omega) (by omega), h.c8 q hq hk]
  · rw [key _ _ (by omega) (by omega), h.c10 q hq hk]
  · rw [key _ _ (by omega) (by omega), h.le7 q hq hk]
  · rw [key _ _ (by omega) (by omega), h.b9 q hq hk]
structure EdI (N : Bd) (ab : Nat) (a : Array Value) (A : Nat → Nat) (vs : Value) (f0 : Nat → Array Value) (g0 : DG) (tA : Nat → Nat) (m : Nat) (g : DG) (f : Nat → Array Value) : Prop where
  ga : GA N ab a g A vs f
  cs : Cs N A f
  tr : ∀ j, j < m → ∃ c, g.bl (2 * j + 2) = some ⟨tA j, trB (edA N j).kind, c⟩ ∧ TrC N A (edA N j) c
  rows : ∀ s, s < N.st.length → ∃ v, (f s)[6]? = some v ∧ g.rw (8 + s) = some ⟨275, 1, v, (outI N m s).length, (outI N m s).map (ifT N tA)⟩
  eps : ∀ s, s < N.st.length → (f s)[2]? = some (.bool (epv N m s))
  fo : ∀ s c, c ≠ 2 → c ≠ 6 → (f s)[c]? = (f0 s)[c]?
  ro : ∀ i, i < 8 → g.rw i = g0.rw i
theorem EdI.init {N : Bd} {ab : Nat} {a : Array Value} {A : Nat → Nat} {vs : Value} {f : Nat → Array Value} {g : DG} (ga : GA N ab a g A vs f) (cs : Cs N A f) (h : ∀ s, s < N.st.length → (f s)[2]? = some (.bool false) ∧ (f s)[6]? = some (.slice none 0 0)) (tA : Nat → Nat) :
    EdI N ab a A vs f g tA 0 g.rows8 f where
  ga := ga.row rfl (by simp [DG.rows8])
  cs := cs
  tr := fun j hj => by omega
  rows := fun s hs => ⟨_, (h s hs).2, by simp [DG.rows8, outI]⟩
  eps := fun s hs => by rw [(h s hs).1]; simp [epv, outI]
  fo := fun _ _ _ _ => rfl
  ro := fun i hi => by simp [DG.rows8]; omega
theorem EdI.next {N : Bd} {ab : Nat} {a : Array Value} {A : Nat → Nat} {vs : Value} {f0 f : Nat → Array Value} {g0 g g3 : DG} {tA : Nat → Nat} {m tb gg cap s : Nat} {c c' : Array Value} (h : EdI N ab a A vs f0 g0 tA m g f) (hsrc : (edA N m).src = s)
    (hbl : g3.bl = upO (upO g.bl (2 * m + 2) ⟨tb, trB (edA N m).kind, c⟩) (2 * s + 1) ⟨A s, bTy (N.kind s), c'⟩) (tc : TrC N A (edA N m) c)
    (hrw : g3.rw = upO g.rw (8 + s) ⟨275, 1, .slice (some ⟨gg, 0, none⟩) ((outI N m s).length + 1) cap, (outI N m s).length + 1, (outI N m s).map (ifT N tA) ++ [.iface (trTy (edA N m).kind) (.pointer (some ⟨tb, 0, none⟩))]⟩)
    (h6 : c'[6]? = some (.slice (some ⟨gg, 0, none⟩) ((outI N m s).length + 1) cap)) (h2 : c'[2]? = some (.bool (if (outI N m s).length = 0 then decide ((edA N m).kind = 1) else epv N m s && decide ((edA N m).kind = 1))))
    (hsz : c'.size = (f s).size) (ho : ∀ j, j ≠ 2 → j ≠ 6 → c'[j]? = (f s)[j]?) :
    EdI N ab a A vs f0 g0 (fun j => if j = m then tb else tA j) (m + 1) g3 (upF f s c') where
  ga := by
    refine ⟨?_, h.ga.a9, h.ga.sz, ?_, fun q hq => ?_⟩
    · rw [hbl, upO_ne _ _ (by omega), upO_ne _ _ (by omega)]; exact h.ga.a1
    · rw [hrw, upO_ne _ _ (by omega)]; exact h.ga.a2
    · rw [hbl]
      by_cases e : q = s
      · subst e; rw [upO_self, upF_self]
      · rw [upO_ne _ _ (by omega), upO_ne _ _ (by omega), upF_ne _ _ e]; exact h.ga.st q hq
  cs := h.cs.upd hsz ho
  tr := fun j hj => by
    by_cases e : j = m
    · subst e; refine ⟨c, ?_, tc⟩
      rw [hbl, upO_ne _ _ (by omega), upO_self]; simp
    · obtain ⟨c2, h1, h2⟩ := h.tr j (by omega)
      refine ⟨c2, ?_, h2⟩
      rw [hbl, upO_ne _ _ (by omega), upO_ne _ _ (by omega), h1]; simp [e]
  rows := fun q hq => by
    have em : (outI N m q).map (ifT N fun j => if j = m then tb else tA j) = (outI N m q).map (ifT N tA) := by
      refine List.map_congr_left fun j hj => ?_
      have := outI_lt hj
      simp [ifT, show j ≠ m by omega]
    by_cases e : q = s
    · subst e
      refine ⟨_, by rw [upF_self]; exact h6, ?_⟩
      rw [hrw, upO_self, outI_snoc, if_pos hsrc, List.map_append, em]
      simp [ifT]
    · obtain ⟨v, h1, h2⟩ := h.rows q hq
      refine ⟨v, by rw [upF_ne _ _ e]; exact h1, ?_⟩
      rw [hrw, upO_ne _ _ (by omega), outI_snoc, if_neg (by rw [hsrc]; exact fun h => e h.symm), List.append_nil, em, h2]
  eps := fun q hq => by
    by_cases e : q = s
    · subst e; rw [upF_self, h2, epv_snoc hsrc]
    · rw [upF_ne _ _ e, h.eps q hq, epv_ne (by rw [hsrc]; exact fun h => e h.symm)]
  fo := fun q j n2 n6 => by
    by_cases e : q = s
    · subst e; rw [upF_self, ho j n2 n6]; exact h.fo _ j n2 n6
    · rw [upF_ne _ _ e]; exact h.fo q j n2 n6
  ro := fun i hi => by rw [hrw, upO_ne _ _ (by omega)]; exact h.ro i hi
/-- What of the blocks' ends and loops' ways back was told. -/
structure BkI (N : Bd) (ab : Nat) (a : Array Value) (A : Nat → Nat) (vs : Value) (f1 : Nat → Array Value) (g1 : DG) (S8 S4 S10 : Nat → Prop) (g : DG) (f : Nat → Array Value) : Prop where
  ga : GA N ab a g A vs f
  cs : Cs N A f
  bl : ∀ j, g.bl (2 * j + 2) = g1.bl (2 * j + 2)
  rw : g.rw = g1.rw
  fo : ∀ s c, ¬ (N.kind s = 8 ∧ c = 7) → ¬ (N.kind s = 4 ∧ c = 10) → ¬ (N.kind s = 10 ∧ c = 9) → (f s)[c]? = (f1 s)[c]?
  e8 : ∀ s, s < N.st.length → N.kind s = 8 → S8 s → ∃ T u, (f s)[7]? = some (.iface T (.pointer (some u)))
  n8 : ∀ s, s < N.st.length → N.kind s = 8 → ¬ S8 s → (f s)[7]? = some .nilIface
  e4 : ∀ s, s < N.st.length → N.kind s = 4 → S4 s → ∃ T u, (f s)[10]? = some (.iface T (.pointer (some u)))
  e10 : ∀ s, s < N.st.length → N.kind s = 10 → S10 s → ∃ T u, (f s)[9]? = some (.iface T (.pointer (some u)))
theorem BkI.congr {N : Bd} {ab : Nat} {a : Array Value} {A : Nat → Nat} {vs : Value} {f1 f : Nat → Array Value} {g1 g : DG} {S8 S4 S10 T8 T4 T10 : Nat → Prop} (h : BkI N ab a A vs f1 g1 S8 S4 S10 g f) (h8 : ∀ s, S8 s ↔ T8 s) (h4 : ∀ s, T4 s → S4 s) (h10 : ∀ s, T10 s → S10 s) : BkI N ab a A vs f1 g1 T8 T4 T10 g f :=
  ⟨h.ga, h.cs, h.bl, h.rw, h.fo, fun s hs hk ht => h.e8 s hs hk ((h8 s).2 ht), fun s hs hk ht => h.n8 s hs hk (fun hh => ht ((h8 s).1 hh)), fun s hs hk ht => h.e4 s hs hk (h4 s ht), fun s hs hk ht => h.e10 s hs hk (h10 s ht)⟩
theorem BkI.put {N : Bd} {ab : Nat} {a : Array Value} {A : Nat → Nat} {vs : Value} {f1 f : Nat → Array Value} {g1 g : DG} {S8 S4 S10 : Nat → Prop} (h : BkI N ab a A vs f1 g1 S8 S4 S10 g f) {s kk c : Nat} (hs : s < N.st.length) (hk : N.kind s = kk) (hc : (kk = 8 ∧ c = 7) ∨ (kk = 4 ∧ c = 10) ∨ (kk = 10 ∧ c = 9)) (T : TypeId) (u : Addr) :
    BkI N ab a A vs f1 g1 (fun q => S8 q ∨ (kk = 8 ∧ q = s)) (fun q => S4 q ∨ (kk = 4 ∧ q = s)) (fun q => S10 q ∨ (kk = 10 ∧ q = s)) (g.setB (2 * s + 1) ⟨A s, bTy (N.kind s), (f s).setIfInBounds c (.iface T (.pointer (some u)))⟩) (upF f s ((f s).setIfInBounds c (.iface T (.pointer (some u))))) := by
  have hsz : c < (f s).size := by
    rw [h.cs.sz s hs, hk]
    rcases hc with ⟨rfl, rfl⟩ | ⟨rfl, rfl⟩ | ⟨rfl, rfl⟩ <;> decide
  have hnew : (upF f s ((f s).setIfInBounds c (.iface T (.pointer (some u)))) s)[c]? = some (.iface T (.pointer (some u))) := by
    rw [upF_self, Array.getElem?_setIfInBounds_self_of_lt hsz]
  have hold : ∀ q j, ¬ (q = s ∧ j = c) → (upF f s ((f s).setIfInBounds c (.iface T (.pointer (some u)))) q)[j]? = (f q)[j]? := fun q j hh => upF_at _ _ _ _ _ _ hh
  refine ⟨h.ga.set c _, h.cs.set _ ?_, fun j => ?_, h.rw, fun q j h8 h4 h10 => ?_, fun q hq hkq hh => ?_, fun q hq hkq hh => ?_, fun q hq hkq hh => ?_, fun q hq hkq hh => ?_⟩
  · have hnb : kk ≠ 3 → kk ≠ 4 → kk ≠ 5 → isB N s = false := by intro h3 h4 h5; unfold isB; rw [hk]; simp [h3, h4, h5]
    rcases hc with ⟨rfl, rfl⟩ | ⟨rfl, rfl⟩ | ⟨rfl, rfl⟩
    · exact .inr (.inr (.inl ⟨rfl, by omega⟩))
    · exact .inr (.inr (.inr (.inr ⟨rfl, by omega⟩)))
    · exact .inr (.inr (.inr (.inl ⟨rfl, hnb (by omega) (by omega) (by omega)⟩)))
  · rw [DG.setB_bl, upO_ne _ _ (by omega)]; exact h.bl j
  · rw [hold q j (by rintro ⟨rfl, rfl⟩; rcases hc with ⟨rfl, rfl⟩ | ⟨rfl, rfl⟩ | ⟨rfl, rfl⟩ <;> simp_all)]
    exact h.fo q j h8 h4 h10
  · by_cases e : q = s ∧ 7 = c
    · obtain ⟨rfl, rfl⟩ := e; exact ⟨T, u, hnew⟩
    · rw [hold q 7 e]
      refine h.e8 q hq hkq (hh.resolve_right ?_)
      rintro ⟨rfl, rfl⟩
      exact e ⟨rfl, by omega⟩
  · rw [hold q 7 (by rintro ⟨rfl, rfl⟩; exact hh (.inr ⟨by omega, rfl⟩))]
    exact h.n8 q hq hkq (fun h => hh (.inl h))
  · by_cases e : q = s ∧ 10 = c
    · obtain ⟨rfl, rfl⟩ := e; exact ⟨T, u, hnew⟩
    · rw [hold q 10 e]
      refine h.e4 q hq hkq (hh.resolve_right ?_)
      rintro ⟨rfl, rfl⟩
      exact e ⟨rfl, by omega⟩
  · by_cases e : q = s ∧ 9 = c
    · obtain ⟨rfl, rfl⟩ := e; exact ⟨T, u, hnew⟩
    · rw [hold q 9 e]
      refine h.e10 q hq hkq (hh.resolve_right ?_)
      rintro ⟨rfl, rfl⟩
      exact e ⟨rfl, by omega⟩
end Go.Proofs
end
