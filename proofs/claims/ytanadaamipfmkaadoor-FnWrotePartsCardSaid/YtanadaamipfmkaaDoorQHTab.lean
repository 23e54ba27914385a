/- The table of powers of ten, out of the row's condition that it is as the program laid it; no other condition. -/
import Derived.Test.YtanadaamipfmkaaDoorQHVtN
import Derived.Lib.LaidTab
import Derived.LaidSub
import Derived.MakeChecks
namespace Go.Proofs.YtanadaamipfmkaaDoor.H
open Go.RowKit
theorem tab_of {W : World} {l : List (String × DataW Unit)} (hf : l.filter (fun x => x.1 == "internal/strconv.uint64pow10") = [("internal/strconv.uint64pow10", Lib.tabData .u64 Lib.pow10Tab)]) (h : laidMetH Tryd.prog l W) : TabH W := by
  have h1 := h.filter (fun x => x.1 == "internal/strconv.uint64pow10")
  rw [hf, MakeChecks.laidMetH_plain _ _ _ (by kernel_rfl)] at h1
  exact Lib.tabIs_of_head (g := 3) (t := 138) (e := 123) (n := 20) (by kernel_rfl) (by kernel_rfl) (by kernel_rfl) (by kernel_rfl) (by kernel_rfl) (by kernel_rfl) h1
end Go.Proofs.YtanadaamipfmkaaDoor.H
