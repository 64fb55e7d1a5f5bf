/- The plain side of the laws on read: bytes, digits, underscores. No walk. -/
import Derived.Laws.Bits64
namespace Go.Proofs.Ybulkcdui.LawC

/-- The byte at place k, as a number. -/
def byteI (s : ByteArray) (k : Nat) : Int := if h : k < s.size then ((s[k]'h).toNat : Int) else 0

theorem byteI_eq (s : ByteArray) (k : Nat) (h : k < s.size) : ((s[k]'h).toNat : Int) = byteI s k := by
  unfold byteI
  rw [dif_pos h]

theorem byteI_lt (s : ByteArray) (k : Nat) : 0 ≤ byteI s k ∧ byteI s k < 256 := by
  unfold byteI
  split
  · rename_i h
    have := (s[k]'h).toNat_lt
    omega
  · omega

/-- What digitValue answers. -/
def dvU (c : Int) : Int := if 48 ≤ c ∧ c ≤ 57 then c - 48 else IntKind.u64.wrap (IntKind.u64.wrap (IntKind.u64.wrap (bits .or .u8 c 32) - 97) + 10)

theorem dvU_dec (c : Int) (h : 48 ≤ c ∧ c ≤ 57) : dvU c = c - 48 := by
  unfold dvU
  rw [if_pos h]

theorem dvU_range (c : Int) : 0 ≤ dvU c ∧ dvU c ≤ 18446744073709551615 := by
  unfold dvU
  split
  · omega
  · rw [IntKind.wrap_u64]
    omega

/-- The table of what digitValue answers, byte by byte. -/
def dvT (n : Nat) : Bool :=
  let v := dvU (n : Int)
  (v == 0) == (n == 48) && (!(n == 46) || decide (16 ≤ v)) && (!(n == 95) || decide (16 ≤ v))

theorem dvT_all : ∀ n : Fin 256, dvT n.val = true := by decide +kernel

theorem dvT_at (c : Int) (h0 : 0 ≤ c) (h1 : c < 256) : dvT c.toNat = true := dvT_all ⟨c.toNat, by omega⟩

theorem dvU_zero (c : Int) (h0 : 0 ≤ c) (h1 : c < 256) : dvU c = 0 ↔ c = 48 := by
  have h := dvT_at c h0 h1
  unfold dvT at h
  rw [show ((c.toNat : Nat) : Int) = c by omega] at h
  simp only [Bool.and_eq_true, beq_iff_eq] at h
  have h2 := h.1.1
  constructor
  · intro e
    rw [e] at h2
    simp at h2
    omega
  · intro e
    subst e
    rfl

theorem dvU_dot : 16 ≤ dvU 46 := by decide +kernel
theorem dvU_us : 16 ≤ dvU 95 := by decide +kernel
theorem dvU_48 : dvU 48 = 0 := rfl

/-- Is there a digit at place k? -/
def isD (s : ByteArray) (bs : Int) (k : Nat) : Bool := decide (k < s.size ∧ dvU (byteI s k) < bs)
/-- .. at a place that may lie outside. -/
def isDI (s : ByteArray) (bs : Int) (i : Int) : Bool := decide (0 ≤ i) && isD s bs i.toNat
/-- May the underscore at place k stand there? -/
def us (s : ByteArray) (bs : Int) (k : Nat) : Bool := (isDI s bs ((k : Int) - 1) || (decide (k = 0) && decide (bs = 16))) && isDI s bs ((k : Int) + 1)

theorem isDI_in (s : ByteArray) (bs : Int) (k : Nat) (h : k < s.size) : isDI s bs (k : Int) = decide (dvU (byteI s k) < bs) := by
  unfold isDI isD
  simp [h]

theorem isDI_out (s : ByteArray) (bs : Int) (i : Int) (h : i < 0 ∨ (s.size : Int) ≤ i) : isDI s bs i = false := by
  unfold isDI isD
  rcases h with h | h
  · have : ¬ (0 ≤ i) := by omega
    simp [this]
  · have : ¬ (i.toNat < s.size) := by omega
    simp [this]

end Go.Proofs.Ybulkcdui.LawC
