import Derived.Test.Qxb6600341aNew
import Derived.Test.Qxb6600341aKey
import Derived.Test.Qxb6600341aWp
namespace Go.Proofs.Qxb6600341a
open Go.RowKit
theorem Try.info31 : (Try.prog.info? 31).map (fun i => (i.zero, i.size, i.bytes)) = some (some (.slice none 0 0), 1, 24) := by kernel_rfl

/-- the search of one's numbers: zzWorths, then newNumberSearch -/
structure Given (w : World) (aN aD aE aF : Option Addr) (n lf : Nat) (N : Nat → Bool) (D E : Nat → ByteArray) (G : Nat → Int) : Prop where
  make ::
  neg : Row w aN n fun i => .bool (N i)
  dig : Row w aD n fun i => .string (D i)
  exp : Row w aE n fun i => .string (E i)
  few : n ≤ 4096
  digS : ∀ i, i < n → (D i).size ≤ 1048576
  expS : ∀ i, i < n → (E i).size ≤ 1048576
  fr : aF ≠ none → lf = n
  row : Row w aF lf fun i => .int .i64 (G i)
theorem Given.on {w w' : World} {aN aD aE aF : Option Addr} {n lf : Nat} {N : Nat → Bool} {D E : Nat → ByteArray} {G : Nat → Int} (h : Given w aN aD aE aF n lf N D E G) (hb : Below w.heap.size w w') : Given w' aN aD aE aF n lf N D E G :=
  ⟨h.neg.below hb, h.dig.below hb, h.exp.below hb, h.few, h.digS, h.expS, h.fr, h.row.below hb⟩
def fps (N : Nat → Bool) (D E : Nat → ByteArray) (i : Nat) : Int := fp (N i) (D i) (E i)
theorem searched {w w1 : World} {aN aD aE aF : Option Addr} {n lf : Nat} {N : Nat → Bool} {D E : Nat → ByteArray} {G : Nat → Int} (h : Given w aN aD aE aF n lf N D E G) (cF : Nat)
    (hW : Worths w1 w.heap.size w.heap.size n N D E) (hl : w.heap.size < w1.heap.size) (hb : Below w.heap.size w w1) :
    Calls Try.prog 19 #[.slice (some ⟨w.heap.size, 0, none⟩) n n, .slice aF lf cF] w1 fun e w' => Search w1 n (fps N D E) e w' :=
  search_any w.heap.size aF lf cF n G N D E w1 h.few ⟨Nat.zero_le _, hW.2⟩ h.digS h.expS hl h.fr (h.row.below hb)

end Go.Proofs.Qxb6600341a
