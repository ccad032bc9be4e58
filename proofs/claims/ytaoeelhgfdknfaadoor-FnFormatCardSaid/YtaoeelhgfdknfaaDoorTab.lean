/- What the condition of FnFormat's row gives: the table of tens. -/
import Derived.Test.YtaoeelhgfdknfaaDoorPfParse
import Derived.Test.YtaoeelhgfdknfaaDoorSh3
import Derived.Lib.LaidTab
namespace Go.Proofs.YtaoeelhgfdknfaaDoor
open Go.RowKit

theorem gTen : Tryd.prog.globalNamed "internal/strconv.uint64pow10" = some 3 := by kernel_rfl
theorem tTen : (Tryd.prog.globals[3]?).map (·.type) = some 98 := by kernel_rfl
theorem uTen : Tryd.prog.underlying 98 = some (.array 20 79) := by kernel_rfl
theorem tab_ok {W : World} (h : laidMetH Tryd.prog Rows.fnParseRow.laid W) : Lib.TabIs Tryd.prog W "internal/strconv.uint64pow10" .u64 Lib.pow10Tab := by
  have h1 := h.filter (fun x => x.1 == "internal/strconv.uint64pow10")
  rw [MakeChecks.laidMetH_plain _ _ _ (by kernel_rfl)] at h1
  have e1 : (Rows.fnParseRow.laid.filter (fun x => x.1 == "internal/strconv.uint64pow10")) = [("internal/strconv.uint64pow10", Rows.laid_internal_strconv_uint64pow10)] := by kernel_rfl
  rw [e1] at h1
  exact Lib.tabIs_of_head gTen tTen uTen Tryd.underlying79 (by kernel_rfl) (by kernel_rfl) h1
theorem tab_below {W : World} (h : laidMetH Tryd.prog Rows.fnParseRow.laid W) : Lib.TabBelow Tryd.prog W.heap.size W "internal/strconv.uint64pow10" .u64 Lib.pow10Tab := Lib.tabBelow_of_tabIs (tab_ok h)

end Go.Proofs.YtaoeelhgfdknfaaDoor
