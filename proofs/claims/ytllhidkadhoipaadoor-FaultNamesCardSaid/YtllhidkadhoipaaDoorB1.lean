/- Which types the errors of this seat have: a code at a place, one wrapped with words, one of an input. -/
import Derived.KernelRfl
namespace Go.Proofs.YtllhidkadhoipaaDoor.Ab
/-- The pointers' types. -/
def errT : Nat × Nat × Nat := (48, 52, 55)
end Go.Proofs.YtllhidkadhoipaaDoor.Ab
