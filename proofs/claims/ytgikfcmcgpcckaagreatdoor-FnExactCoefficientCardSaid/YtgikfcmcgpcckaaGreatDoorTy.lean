/- Walks through functions of the program: each call comes to what its theorem says. A part of the proofs of FnExactDegree and FnExactCoefficient. -/
import Derived.Test.YtgikfcmcgpcckaaGreatDoorChecked
import Derived.KernelRfl
import Derived.Test.YtgikfcmcgpcckaaGreatDoorLw
namespace Go.Proofs.YtgikfcmcgpcckaaGreatDoor
open Go Go.RowKit Sl
theorem Tryz.szT2 : (Tryz.prog.info? 2).map (fun ti => ti.size) = some 1 := by kernel_rfl
theorem Tryz.szT3 : (Tryz.prog.info? 3).map (fun ti => ti.size) = some 1 := by kernel_rfl
theorem Tryz.szT4 : (Tryz.prog.info? 4).map (fun ti => ti.size) = some 1 := by kernel_rfl
theorem Tryz.szT5 : (Tryz.prog.info? 5).map (fun ti => ti.size) = some 1 := by kernel_rfl
theorem Tryz.szT9 : (Tryz.prog.info? 9).map (fun ti => ti.size) = some 1 := by kernel_rfl
theorem Tryz.szT29 : (Tryz.prog.info? 29).map (fun ti => ti.size) = some 1 := by kernel_rfl
theorem Tryz.szT22 : (Tryz.prog.info? 22).map (fun ti => ti.size) = some 1 := by kernel_rfl
theorem Tryz.szT34 : (Tryz.prog.info? 34).map (fun ti => ti.size) = some 1 := by kernel_rfl
theorem Tryz.szT36 : (Tryz.prog.info? 36).map (fun ti => ti.size) = some 1 := by kernel_rfl
theorem Tryz.szT40 : (Tryz.prog.info? 40).map (fun ti => ti.size) = some 1 := by kernel_rfl
theorem Tryz.szT45 : (Tryz.prog.info? 45).map (fun ti => ti.size) = some 1 := by kernel_rfl
theorem Tryz.szT47 : (Tryz.prog.info? 47).map (fun ti => ti.size) = some 1 := by kernel_rfl
theorem Tryz.szT48 : (Tryz.prog.info? 48).map (fun ti => ti.size) = some 1 := by kernel_rfl
theorem Tryz.szT50 : (Tryz.prog.info? 50).map (fun ti => ti.size) = some 9 := by kernel_rfl
theorem Tryz.szT52 : (Tryz.prog.info? 52).map (fun ti => ti.size) = some 46 := by kernel_rfl
theorem Tryz.szT61 : (Tryz.prog.info? 61).map (fun ti => ti.size) = some 1 := by kernel_rfl
theorem Tryz.szT69 : (Tryz.prog.info? 69).map (fun ti => ti.size) = some 1 := by kernel_rfl
theorem Tryz.szT71 : (Tryz.prog.info? 71).map (fun ti => ti.size) = some 2 := by kernel_rfl
theorem Tryz.szT72 : (Tryz.prog.info? 72).map (fun ti => ti.size) = some 1 := by kernel_rfl
theorem Tryz.szT74 : (Tryz.prog.info? 74).map (fun ti => ti.size) = some 7 := by kernel_rfl
theorem Tryz.szT75 : (Tryz.prog.info? 75).map (fun ti => ti.size) = some 7 := by kernel_rfl
theorem Tryz.szT77 : (Tryz.prog.info? 77).map (fun ti => ti.size) = some 1 := by kernel_rfl
theorem Tryz.szT78 : (Tryz.prog.info? 78).map (fun ti => ti.size) = some 1 := by kernel_rfl
theorem Tryz.szT80 : (Tryz.prog.info? 80).map (fun ti => ti.size) = some 2 := by kernel_rfl
theorem Tryz.szT92 : (Tryz.prog.info? 92).map (fun ti => ti.size) = some 3 := by kernel_rfl
theorem Tryz.szT98 : (Tryz.prog.info? 98).map (fun ti => ti.size) = some 1 := by kernel_rfl
theorem Tryz.szT162 : (Tryz.prog.info? 162).map (fun ti => ti.size) = some 3 := by kernel_rfl
theorem Tryz.szT165 : (Tryz.prog.info? 165).map (fun ti => ti.size) = some 3 := by kernel_rfl
theorem Tryz.szT167 : (Tryz.prog.info? 167).map (fun ti => ti.size) = some 1 := by kernel_rfl
theorem Tryz.szT168 : (Tryz.prog.info? 168).map (fun ti => ti.size) = some 1 := by kernel_rfl
theorem Tryz.szT180 : (Tryz.prog.info? 180).map (fun ti => ti.size) = some 1 := by kernel_rfl
theorem Tryz.infT5 : (Tryz.prog.info? 5).map (fun ti => (ti.size, ti.bytes, ti.zero)) = some (1, 1, some (.int .u8 0)) := by kernel_rfl
theorem Tryz.infT45 : (Tryz.prog.info? 45).map (fun ti => (ti.size, ti.bytes, ti.zero)) = some (1, 16, some .nilIface) := by kernel_rfl
theorem Tryz.infT98 : (Tryz.prog.info? 98).map (fun ti => (ti.size, ti.bytes, ti.zero)) = some (1, 8, some (.int .u64 0)) := by kernel_rfl
theorem Tryz.infT29 : (Tryz.prog.info? 29).map (fun ti => (ti.size, ti.bytes, ti.zero)) = some (1, 24, some (.slice none 0 0)) := by kernel_rfl
theorem Tryz.zeroT50 : (Tryz.prog.info? 50).bind (fun ti => ti.zero) = some (.agg #[.int .u64 0, .int .u64 0, .int .u64 0, .int .u64 0, .int .u64 0, .int .u64 0, .int .u64 0, .int .u64 0, .int .u64 0]) := by kernel_rfl
theorem Tryz.zeroT52 : (Tryz.prog.info? 52).bind (fun ti => ti.zero) = some (.agg #[.int .u64 0, .int .u64 0, .int .u64 0, .int .u64 0, .int .u64 0, .int .u64 0, .int .u64 0, .int .u64 0, .int .u64 0, .int .u64 0, .int .u64 0, .int .u64 0, .int .u64 0, .int .u64 0, .int .u64 0, .int .u64 0, .int .u64 0, .int .u64 0, .int .u64 0, .int .u64 0, .int .u64 0, .int .u64 0, .int .u64 0, .int .u64 0, .int .u64 0, .int .u64 0, .int .u64 0, .int .u64 0, .int .u64 0, .int .u64 0, .int .u64 0, .int .u64 0, .int .u64 0, .int .u64 0, .int .u64 0, .int .u64 0, .int .u64 0, .int .u64 0, .int .u64 0, .int .u64 0, .int .u64 0, .int .u64 0, .int .u64 0, .int .u64 0, .int .u64 0, .int .i64 0]) := by kernel_rfl
theorem Tryz.zeroT36 : (Tryz.prog.info? 36).bind (fun ti => ti.zero) = some (.agg #[.slice none 0 0]) := by kernel_rfl
theorem Tryz.zeroT80 : (Tryz.prog.info? 80).bind (fun ti => ti.zero) = some (.agg #[.bool false, .slice none 0 0]) := by kernel_rfl
end Go.Proofs.YtgikfcmcgpcckaaGreatDoor
