/- The reading of a mantissa, byte by byte. No walk. -/
import Derived.Test.YbulkcduiPlainC3
namespace Go.Proofs.Ybulkcdui.LawC

/-- What has been read so far. -/
structure St where
  point : Bool
  started : Bool
  zeros : Bool
  trunc : Bool
  dp : Int
  n : Nat
  first : Int
  x : Int

def stepX (bs x v : Int) : Int := IntKind.u64.wrap (IntKind.u64.wrap (x * bs) + v)

def stInit : St := ⟨false, false, false, false, 0, 0, -1, 0⟩

/-- A digit of value v at place k. -/
def digSt (bs : Int) (lim k : Nat) (v : Int) (st : St) : St :=
  if st.started = false ∧ v = 0 then { st with zeros := true, dp := if st.point then st.dp - 1 else st.dp }
  else ⟨st.point, true, st.zeros, if st.n < lim then st.trunc else (st.trunc || v != 0), if st.point then st.dp else st.dp + 1, st.n + 1, if st.started then st.first else (k : Int), if st.n < lim then stepX bs st.x v else st.x⟩

def step (s : ByteArray) (bs : Int) (lim k : Nat) (st : St) : Option St :=
  if dvU (byteI s k) < bs then some (digSt bs lim k (dvU (byteI s k)) st)
  else if byteI s k = 46 ∧ st.point = false then some { st with point := true }
  else if byteI s k = 95 ∧ us s bs k = true then some st
  else none

def run (s : ByteArray) (bs : Int) (lim : Nat) : Nat → Option St
  | 0 => some stInit
  | k + 1 => (run s bs lim k).bind (step s bs lim k)

theorem run_next {s : ByteArray} {bs : Int} {lim k : Nat} {st st' : St} (h : run s bs lim k = some st) (h' : step s bs lim k st = some st') : run s bs lim (k + 1) = some st' := by
  show (run s bs lim k).bind (step s bs lim k) = _
  rw [h]
  exact h'

/-- The reading ends at place i. -/
structure Ends (s : ByteArray) (bs : Int) (lim i : Nat) (st : St) : Prop where
  ran : run s bs lim i = some st
  le : i ≤ s.size
  stop : i = s.size ∨ step s bs lim i st = none

theorem run_none {s : ByteArray} {bs : Int} {lim i : Nat} (h : run s bs lim i = none) (k : Nat) : run s bs lim (i + k) = none := by
  induction k with
  | zero => exact h
  | succ k ih =>
    show (run s bs lim (i + k)).bind _ = none
    rw [ih]
    rfl

theorem Ends.not_lt {s : ByteArray} {bs : Int} {lim i j : Nat} {st st' : St} (h : Ends s bs lim i st) (h' : Ends s bs lim j st') : ¬ i < j := by
  intro hij
  have hs : step s bs lim i st = none := by
    rcases h.stop with e | e
    · have := h'.le; omega
    · exact e
  have hn : run s bs lim (i + 1) = none := by
    show (run s bs lim i).bind _ = none
    rw [h.ran]
    exact hs
  have := run_none hn (j - (i + 1))
  rw [show i + 1 + (j - (i + 1)) = j by omega, h'.ran] at this
  cases this

theorem Ends.same {s : ByteArray} {bs : Int} {lim i j : Nat} {st st' : St} (h : Ends s bs lim i st) (h' : Ends s bs lim j st') : i = j ∧ st = st' := by
  have h1 := h.not_lt h'
  have h2 := h'.not_lt h
  obtain rfl : i = j := by omega
  have := h.ran.symm.trans h'.ran
  exact ⟨rfl, by simpa using this⟩

/-- The mantissa's first, off the state. -/
def firstOf (i : Nat) (st : St) : Int := if st.started then st.first else (i : Int)
def nxOf (lim : Nat) (st : St) : Int := if (lim : Int) < (st.n : Int) then (lim : Int) else (st.n : Int)
def okOf (st : St) : Bool := st.zeros || decide (0 < st.n)

/-! ### The leading zeros -/
def leadSt (p z : Bool) (d : Int) : St := ⟨p, false, z, false, d, 0, -1, 0⟩

theorem lead_zero {s : ByteArray} {bs : Int} {lim k : Nat} {p z : Bool} {d : Int} (h : run s bs lim k = some (leadSt p z d)) (hc : byteI s k = 48) (hb : 10 ≤ bs) : run s bs lim (k + 1) = some (leadSt p true (if p then d - 1 else d)) := by
  refine run_next h ?_
  unfold step
  rw [hc, dvU_48, if_pos (by omega)]
  unfold digSt
  rw [if_pos ⟨rfl, rfl⟩]
  rfl

theorem lead_dot {s : ByteArray} {bs : Int} {lim k : Nat} {z : Bool} {d : Int} (h : run s bs lim k = some (leadSt false z d)) (hc : byteI s k = 46) (hb : bs ≤ 16) : run s bs lim (k + 1) = some (leadSt true z d) := by
  refine run_next h ?_
  unfold step
  rw [hc, if_neg (by have := dvU_dot; omega), if_pos ⟨rfl, rfl⟩]
  rfl

theorem lead_us {s : ByteArray} {bs : Int} {lim k : Nat} {p z : Bool} {d : Int} (h : run s bs lim k = some (leadSt p z d)) (hc : byteI s k = 95) (hu : us s bs k = true) (hb : bs ≤ 16) : run s bs lim (k + 1) = some (leadSt p z d) := by
  refine run_next h ?_
  unfold step
  rw [hc, if_neg (by have := dvU_us; omega), if_neg (by simp), if_pos ⟨rfl, hu⟩]

/-! ### The significant digits -/
def mainSt (z : Bool) (d0 : Int) (first : Nat) (x : Int) (n : Nat) (nInt : Int) (tr : Bool) : St :=
  ⟨decide (0 ≤ nInt), decide (0 < n), z, tr, d0 + (if 0 ≤ nInt then nInt else (n : Int)), n, if 0 < n then (first : Int) else -1, x⟩

/-- What read knows where its second loop stands. -/
structure Mn (s : ByteArray) (bs : Int) (lim : Nat) (z p0 : Bool) (d0 : Int) (first i : Nat) (x : Int) (n : Nat) (nInt : Int) (tr : Bool) : Prop where
  ran : run s bs lim i = some (mainSt z d0 first x n nInt tr)
  le : i ≤ s.size
  nle : n ≤ i
  lo : -1 ≤ nInt
  hi : nInt ≤ n
  start : n = 0 → i = first ∧ decide (0 ≤ nInt) = p0

/-- What stands where the leading zeros end. -/
structure Ef (s : ByteArray) (bs : Int) (p0 : Bool) (first : Nat) : Prop where
  nz : first < s.size → byteI s first ≠ 48
  nd : first < s.size → byteI s first = 46 → p0 = true
  nu : first < s.size → byteI s first = 95 → us s bs first = false

theorem Mn.begin {s : ByteArray} {bs : Int} {lim : Nat} {z p0 : Bool} {d0 : Int} {first : Nat} (h : run s bs lim first = some (leadSt p0 z d0)) (hl : first ≤ s.size) (nInt : Int) (hn : nInt = if p0 then 0 else -1) : Mn s bs lim z p0 d0 first first 0 0 nInt false := by
  subst hn
  cases p0 with
  | true => exact ⟨by rw [h]; simp [mainSt, leadSt], hl, Nat.zero_le _, by simp, by simp, fun _ => ⟨rfl, by simp⟩⟩
  | false => exact ⟨by rw [h]; simp [mainSt, leadSt], hl, Nat.zero_le _, by simp, by simp, fun _ => ⟨rfl, by simp⟩⟩

section
variable {s : ByteArray} {bs : Int} {lim : Nat} {z p0 : Bool} {d0 : Int} {first i : Nat} {x : Int} {n : Nat} {nInt : Int} {tr : Bool}

theorem Mn.digit (h : Mn s bs lim z p0 d0 first i x n nInt tr) (e : Ef s bs p0 first) (hi : i < s.size) (hd : dvU (byteI s i) < bs) :
    Mn s bs lim z p0 d0 first (i + 1) (if n < lim then stepX bs x (dvU (byteI s i)) else x) (n + 1) nInt (if n < lim then tr else (tr || dvU (byteI s i) != 0)) := by
  have hv : n = 0 → dvU (byteI s i) ≠ 0 := by
    intro h0 hz
    obtain ⟨rfl, _⟩ := h.start h0
    have hb := byteI_lt s i
    exact e.nz hi ((dvU_zero _ hb.1 hb.2).1 hz)
  refine ⟨run_next h.ran ?_, by omega, by have := h.nle; omega, h.lo, by have := h.hi; omega, fun h0 => by omega⟩
  unfold step
  rw [if_pos hd]
  unfold digSt
  rw [if_neg (by
    rintro ⟨h1, h2⟩
    have h0 : n = 0 := by
      have : decide (0 < n) = false := h1
      simpa using this
    exact hv h0 h2)]
  have hf : (if decide (0 < n) = true then (if 0 < n then (first : Int) else -1) else (i : Int)) = (if 0 < n + 1 then (first : Int) else -1) := by
    by_cases h0 : 0 < n
    · simp [h0]
    · obtain ⟨rfl, _⟩ := h.start (by omega)
      simp [h0]
  have hdp : (if decide (0 ≤ nInt) = true then d0 + (if 0 ≤ nInt then nInt else (n : Int)) else d0 + (if 0 ≤ nInt then nInt else (n : Int)) + 1) = d0 + (if 0 ≤ nInt then nInt else ((n + 1 : Nat) : Int)) := by
    by_cases h0 : 0 ≤ nInt
    · simp [h0]
    · simp [h0]
      omega
  unfold mainSt
  simp only [hf, hdp, Option.some.injEq, St.mk.injEq, true_and, and_true]
  simp

theorem Mn.dot (h : Mn s bs lim z p0 d0 first i x n nInt tr) (e : Ef s bs p0 first) (hi : i < s.size) (hc : byteI s i = 46) (hn : nInt < 0) (hb : bs ≤ 16) : Mn s bs lim z p0 d0 first (i + 1) x n (n : Int) tr := by
  have h0 : 0 < n := by
    rcases Nat.eq_zero_or_pos n with h0 | h0
    · obtain ⟨rfl, hp⟩ := h.start h0
      have := e.nd hi hc
      rw [this] at hp
      simp at hp
      omega
    · exact h0
  refine ⟨run_next h.ran ?_, by omega, by have := h.nle; omega, by omega, by omega, fun h0' => by omega⟩
  unfold step
  rw [hc, if_neg (by have := dvU_dot; omega), if_pos ⟨rfl, by unfold mainSt; simp; omega⟩]
  unfold mainSt
  rw [if_neg (by omega), if_pos (by omega)]
  simp

theorem Mn.uscore (h : Mn s bs lim z p0 d0 first i x n nInt tr) (e : Ef s bs p0 first) (hi : i < s.size) (hc : byteI s i = 95) (hu : us s bs i = true) (hb : bs ≤ 16) : Mn s bs lim z p0 d0 first (i + 1) x n nInt tr := by
  have h0 : 0 < n := by
    rcases Nat.eq_zero_or_pos n with h0 | h0
    · obtain ⟨rfl, hp⟩ := h.start h0
      have := e.nu hi hc
      rw [this] at hu
      cases hu
    · exact h0
  refine ⟨run_next h.ran ?_, by omega, by have := h.nle; omega, h.lo, h.hi, fun h0' => by omega⟩
  unfold step
  rw [hc, if_neg (by have := dvU_us; omega), if_neg (by simp), if_pos ⟨rfl, hu⟩]

theorem Mn.stop (h : Mn s bs lim z p0 d0 first i x n nInt tr) (hd : ¬ dvU (byteI s i) < bs) (h1 : byteI s i = 46 → 0 ≤ nInt) (h2 : byteI s i = 95 → us s bs i = false) : Ends s bs lim i (mainSt z d0 first x n nInt tr) := by
  refine ⟨h.ran, h.le, .inr ?_⟩
  unfold step
  rw [if_neg hd, if_neg (by
    rintro ⟨a, b⟩
    have := h1 a
    unfold mainSt at b
    simp at b
    omega), if_neg (by
    rintro ⟨a, b⟩
    rw [h2 a] at b
    cases b)]

theorem Mn.full (h : Mn s bs lim z p0 d0 first i x n nInt tr) (hi : i = s.size) : Ends s bs lim i (mainSt z d0 first x n nInt tr) := ⟨h.ran, h.le, .inl hi⟩

end

theorem mainSt_first (z : Bool) (d0 : Int) (first i : Nat) (x : Int) (n : Nat) (nInt : Int) (tr : Bool) (h : n = 0 → i = first) : firstOf i (mainSt z d0 first x n nInt tr) = (first : Int) := by
  unfold firstOf mainSt
  by_cases h0 : 0 < n
  · simp [h0]
  · have := h (by omega)
    simp [h0, this]

end Go.Proofs.Ybulkcdui.LawC
