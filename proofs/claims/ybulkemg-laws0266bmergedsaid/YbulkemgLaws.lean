/- Small laws that speak of no program: '==' and '!=' of a pointer and itself. -/
import Derived.LaidEql
import Derived.WalkKit
namespace Go.Proofs.Ybulkemg
open Go Go.RowKit
section
variable {P : Program}

theorem run_equalIn_ptr_same (w : World) (d : Nat) {t te : TypeId} {j : TypeInfo} (a : Addr) (hp : P.underlying t = some (.pointer te)) (hte : P.info? te = some j) :
    (Op.equalIn (d + 1) t (.pointer (some a)) (.pointer (some a))).run P w = .ok true w := by
  simp [Op.equalIn, run_underlying hp, typeInfo, sizeOf, hte, run_sameAddr_same]

theorem run_eql_ptr_same {t te : TypeId} {j : TypeInfo} (hp : P.underlying t = some (.pointer te)) (hte : P.info? te = some j) (a : Addr) (w : World) :
    (binOp .eql t (.pointer (some a)) (.pointer (some a))).run P w = .ok (.bool true) w := by
  simp only [binOp]
  simp [Op.equal, Op.maxDepth, run_equalIn_ptr_same w 9999 a hp hte]

theorem run_neq_ptr_same {t te : TypeId} {j : TypeInfo} (hp : P.underlying t = some (.pointer te)) (hte : P.info? te = some j) (a : Addr) (w : World) :
    (binOp .neq t (.pointer (some a)) (.pointer (some a))).run P w = .ok (.bool false) w := by
  simp only [binOp]
  simp [Op.equal, Op.maxDepth, run_equalIn_ptr_same w 9999 a hp hte]
end

theorem hide {p : Prop} (h : p) : Hid p := h
end Go.Proofs.Ybulkemg
