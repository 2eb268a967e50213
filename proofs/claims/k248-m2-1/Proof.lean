import JvmDerived
import JvmDerived.Pilot.@@N@@Statement
import JvmDerived.Pilot.@@N@@Code
set_option linter.unusedVariables false
set_option linter.unusedSimpArgs false
@@BLOCK:NumsL.lean.txt@@
namespace Jvm.Pilot.@@N@@
open Jvm Jvm.ClassFile Sem Op Lib Jvm.Free Jvm.Stand Jvm.LawKit Jvm.RoadKit Bundle Jvm.Pilot.@@N@@.Jvm.D
theorem own_ne_arr {Z : State} {h : Heap} {a b : Addr} {C : String} {a0 : Array Value} {kk : Nat} {k : ClassId} {ty : FieldType} {n : Int32} {vs : List Value} {d : Value} (F : Exa Z h a C) (wi : (Cond.instantiable C kk).before a0 Z = true) (V : Arv Z h b k ty n vs d) : a ≠ b := by
  obtain ⟨c, A, -⟩ := V
  exact ne_arr F wi A
theorem own_std {p : Program} {l : Launch} {e : Env} {R : Room} {s : State} {m : MethodId} {args : Array Value} {below : List Frame} {meth : Method} {c : Code} {T : State} {locs : List Loc} {c0 s0 cc ss : Nat} (X : Stand p l e R s m args below meth c T locs c0 s0) (h1 : c0 = cc) (h2 : s0 = ss) : Stand p l e R s m args below meth c T locs cc ss := by
  subst h1 h2; exact X
theorem own_rew {s : State} {o : Outcome} {t : State} {L : List Loc} {k n k' n' : Nat} (h : ReturnedEndW s o t L k n) (hk : k ≤ k') (hn : n ≤ n') : ReturnedEndW s o t L k' n' := ⟨h.1, h.2.1, h.2.2.1, h.2.2.2.mono hk hn⟩
theorem own_cast {tb : Tables} {e : Env} {below : List Frame} {t : State} {A : Type} (f : A → State) {a b : A} (h : a = b) (k : Steps tb e below (f b) t) : Steps tb e below (f a) t := h ▸ k
/-! doubles that hold n / 2^k exactly -/
open Jvm.FP.Core (signed inUnits Datum b64 roundRatio) in
def own_D (k : Nat) (n : Int) (x : UInt64) : Prop := ∃ s c q, FP.Core.val64 x = .fin s c q ∧ -1074 ≤ q ∧ signed s (c * 2 ^ (q + 2000).toNat) = n * 2 ^ (2000 - k)
theorem own_sg (s : Bool) (a b : Nat) : FP.Core.signed s (a * b) = FP.Core.signed s a * b := by
  cases s <;> simp [FP.Core.signed, Int.neg_mul]
theorem own_sn (s : Bool) (a : Nat) : (FP.Core.signed s a).natAbs = a := by
  cases s <;> simp [FP.Core.signed]
theorem own_sb (s t : Bool) (a b : Nat) : FP.Core.signed (s != t) (a * b) = FP.Core.signed s a * FP.Core.signed t b := by
  cases s <;> cases t <;> simp [FP.Core.signed, Int.neg_mul, Int.mul_neg]
theorem own_pn (k : Nat) : (0 : Int) < 2 ^ k := Int.pow_pos (by decide)
theorem own_qm : FP.Core.b64.qmin = -1074 := by decide
/-- rounding keeps what has at most 53 digits -/
theorem own_rr {s : Bool} {A B : Nat} {e : Int} {M k : Nat} {n : Int} (hB : 0 < B) (hk : k ≤ 60) (hM : k + 100 ≤ M) (he : 0 ≤ e + M) (hn : n.natAbs < 2 ^ 53) (h : FP.Core.signed s (A * 2 ^ (e + M).toNat) = n * (B * 2 ^ (M - k) : Nat)) :
    ∃ c q, FP.Core.roundRatio FP.Core.b64 s A B e = .fin s c q ∧ -1074 ≤ q ∧ FP.Core.signed s (c * 2 ^ (q + 2000).toNat) = n * 2 ^ (2000 - k) := by
  have ha : A * 2 ^ (e + M).toNat = n.natAbs * (B * 2 ^ (M - k)) := by
    have := congrArg Int.natAbs h
    rw [own_sn, Int.natAbs_mul, Int.natAbs_natCast] at this
    exact this
  by_cases h0 : n = 0
  · subst h0
    have hA : A = 0 := by
      have p := Nat.two_pow_pos (e + M).toNat
      simp only [Int.natAbs_zero, Nat.zero_mul] at ha
      rcases Nat.mul_eq_zero.mp ha with q | q
      · exact q
      · omega
    subst hA
    refine ⟨0, FP.Core.b64.qmin, by simp [FP.Core.roundRatio], by rw [own_qm]; decide, ?_⟩
    rw [Nat.zero_mul, Int.zero_mul]; cases s <;> rfl
  · have hp : 0 < n.natAbs := Int.natAbs_pos.mpr h0
    have l1 := Nat.log2_self_le (Nat.ne_of_gt hp)
    have l2 := Nat.lt_log2_self (n := n.natAbs)
    have l3 : n.natAbs.log2 ≤ 52 := by
      have : 2 ^ n.natAbs.log2 < 2 ^ 53 := Nat.lt_of_le_of_lt l1 hn
      have := (Nat.pow_lt_pow_iff_right (by decide : 1 < 2)).mp this
      omega
    obtain ⟨j, hj⟩ : ∃ j, j + n.natAbs.log2 = 52 := ⟨52 - n.natAbs.log2, by omega⟩
    have hs : FP.Core.signed s (A * 2 ^ (e + M).toNat) = FP.Core.signed s (n.natAbs * (B * 2 ^ (M - k))) := by rw [ha]
    have hfit : FP.Core.fits FP.Core.b64 (.fin s (n.natAbs * 2 ^ j) (-(k : Int) - j)) := by
      refine ⟨?_, ?_, ?_, Or.inr ?_⟩
      · show n.natAbs * 2 ^ j < 2 ^ 53
        have : n.natAbs * 2 ^ j < 2 ^ (n.natAbs.log2 + 1) * 2 ^ j := Nat.mul_lt_mul_of_pos_right l2 (Nat.two_pow_pos j)
        rw [← Nat.pow_add, show n.natAbs.log2 + 1 + j = 53 by omega] at this
        exact this
      · rw [own_qm]; omega
      · have : FP.Core.b64.qmax = 971 := by decide
        rw [this]; omega
      · show 2 ^ 52 ≤ n.natAbs * 2 ^ j
        have : 2 ^ n.natAbs.log2 * 2 ^ j ≤ n.natAbs * 2 ^ j := Nat.mul_le_mul_right _ l1
        rw [← Nat.pow_add, show n.natAbs.log2 + j = 52 by omega] at this
        exact this
    have hr := FP.Core.roundRatio_exact FP.Core.good_b64 (s := s) (A := A) (B := B) (e := e) hB hfit (by
      have e1 : n.natAbs * (B * 2 ^ (M - k)) = n.natAbs * 2 ^ j * B * 2 ^ (M - k - j) := by
        rw [show M - k = j + (M - k - j) by omega, Nat.pow_add]
        simp only [Nat.add_sub_cancel_left, Nat.mul_assoc, Nat.mul_comm, Nat.mul_left_comm]
      have e2 : A * 2 ^ (e + M).toNat = n.natAbs * 2 ^ j * B * 2 ^ (M - k - j) := ha.trans e1
      obtain ⟨mm, x1, x2⟩ : ∃ mm, (e - (-(k : Int) - j)).toNat + mm = (e + M).toNat ∧ (-(k : Int) - j - e).toNat + mm = M - k - j := ⟨min (e + M).toNat (M - k - j), by omega, by omega⟩
      rw [← x1, ← x2, Nat.pow_add, Nat.pow_add, ← Nat.mul_assoc, ← Nat.mul_assoc] at e2
      have := Nat.eq_of_mul_eq_mul_right (Nat.two_pow_pos _) e2
      exact this)
    refine ⟨_, _, hr, by omega, ?_⟩
    have hsn : FP.Core.signed s n.natAbs = n := by
      have hpB : (0 : Int) < ((B * 2 ^ (M - k) : Nat) : Int) := by
        have := Nat.mul_pos hB (Nat.two_pow_pos (M - k)); omega
      have h' := h
      rw [hs, own_sg] at h'
      exact Int.eq_of_mul_eq_mul_right (by omega) h'
    rw [Nat.mul_assoc, ← Nat.pow_add, own_sg, hsn, show j + (-(k : Int) - j + 2000).toNat = 2000 - k by omega]
    norm_cast

theorem own_iu {c : Nat} {q e : Int} (h1 : e ≤ q) (h2 : 0 ≤ e + 2000) : FP.Core.inUnits c q e * 2 ^ (e + 2000).toNat = c * 2 ^ (q + 2000).toNat := by
  unfold FP.Core.inUnits
  rw [Nat.mul_assoc, ← Nat.pow_add, show (q - e).toNat + (e + 2000).toNat = (q + 2000).toNat by omega]
theorem own_units {s : Bool} {c : Nat} {q e : Int} (h1 : e ≤ q) (h2 : 0 ≤ e + 2000) : FP.Core.signed s (FP.Core.inUnits c q e) * (2 ^ (e + 2000).toNat : Nat) = FP.Core.signed s (c * 2 ^ (q + 2000).toNat) := by
  rw [← own_sg, own_iu h1 h2]
theorem own_D.fin {k : Nat} {n : Int} {x : UInt64} (h : own_D k n x) : Jvm.Free.Fl.Fin64 x := by
  obtain ⟨s, c, q, e, -, -⟩ := h
  rw [Jvm.Free.Fl.fin64_core]
  exact ⟨s, c, q, e⟩
theorem own_D.nn {k : Nat} {n : Int} {x : UInt64} (h : own_D k n x) : Jvm.Free.Fl.NoNaN64 x := h.fin.noNaN
theorem own_ofint {i : Int} {x : UInt64} (hx : FP.Core.val64 x = FP.Core.round FP.Core.b64 (FP.Core.ofInt i)) (hi : i.natAbs < 2 ^ 53) : own_D 0 i x := by
  obtain ⟨c, q, e1, e2, e3⟩ := own_rr (s := decide (i < 0)) (A := i.natAbs) (B := 1) (e := 0) (M := 2000) (k := 0) (n := i) (by decide) (by decide) (by decide) (by decide) hi (by
    rw [own_sg, Nat.one_mul]
    have : FP.Core.signed (decide (i < 0)) i.natAbs = i := by
      unfold FP.Core.signed; split <;> rename_i h <;> simp at h <;> omega
    rw [this]; rfl)
  exact ⟨_, c, q, hx.trans e1, e2, e3⟩
theorem own_i2d (a : Int32) : own_D 0 a.toInt (FP.i2d a) := own_ofint (FP.Core.val64_i2d a) (by have := a.toInt_lt; have := a.le_toInt; omega)
theorem own_l2d (a : Int64) (h : a.toInt.natAbs < 2 ^ 53) : own_D 0 a.toInt (FP.l2d a) := own_ofint (FP.Core.val64_l2d a) h
theorem own_Dup {k : Nat} {n : Int} {x : UInt64} (j : Nat) (hk : k + j ≤ 2000) (h : own_D k n x) : own_D (k + j) (n * 2 ^ j) x := by
  obtain ⟨s, c, q, e1, e2, e3⟩ := h
  refine ⟨s, c, q, e1, e2, ?_⟩
  rw [e3, Int.mul_assoc, ← Int.pow_add, show j + (2000 - (k + j)) = 2000 - k by omega]
theorem own_dmul {k k' : Nat} {n n' : Int} {x y : UInt64} (hx : own_D k n x) (hy : own_D k' n' y) (hk : k + k' ≤ 60) (hn : (n * n').natAbs < 2 ^ 53) : own_D (k + k') (n * n') (FP.dmul x y) := by
  obtain ⟨s, c, q, e1, e2, e3⟩ := hx
  obtain ⟨t, d, r, f1, f2, f3⟩ := hy
  have hv : FP.Core.val64 (FP.dmul x y) = FP.Core.roundRatio FP.Core.b64 (s != t) (c * d) 1 (q + r) := by
    rw [show FP.dmul x y = FP.Core.dmul x y from rfl, FP.Core.val64_dmul, e1, f1]; rfl
  obtain ⟨c', q', g1, g2, g3⟩ := own_rr (s := (s != t)) (A := c * d) (B := 1) (e := q + r) (M := 4000) (k := k + k') (n := n * n') (by decide) hk (by omega) (by omega) hn (by
    have : c * d * 2 ^ (q + r + (4000 : Nat)).toNat = (c * 2 ^ (q + 2000).toNat) * (d * 2 ^ (r + 2000).toNat) := by
      rw [show (q + r + (4000 : Nat)).toNat = (q + 2000).toNat + (r + 2000).toNat by omega, Nat.pow_add]
      simp only [Nat.mul_assoc, Nat.mul_comm, Nat.mul_left_comm]
    rw [this, own_sb, e3, f3, Nat.one_mul, show 4000 - (k + k') = (2000 - k) + (2000 - k') by omega, Nat.pow_add]
    push_cast
    simp only [Int.mul_assoc, Int.mul_comm, Int.mul_left_comm])
  exact ⟨_, c', q', hv.trans g1, g2, g3⟩
theorem own_sum {k : Nat} {n n' : Int} {s t : Bool} {c d : Nat} {q r : Int} (e2 : -1074 ≤ q) (f2 : -1074 ≤ r) (e3 : FP.Core.signed s (c * 2 ^ (q + 2000).toNat) = n * 2 ^ (2000 - k)) (f3 : FP.Core.signed t (d * 2 ^ (r + 2000).toNat) = n' * 2 ^ (2000 - k)) (hk : k ≤ 60) (hn : (n + n').natAbs < 2 ^ 53) :
    ∃ u c' q', FP.Core.round FP.Core.b64 (FP.Core.exactSum (.fin s c q) (.fin t d r)) = .fin u c' q' ∧ -1074 ≤ q' ∧ FP.Core.signed u (c' * 2 ^ (q' + 2000).toNat) = (n + n') * 2 ^ (2000 - k) := by
  have hm : -1074 ≤ min q r := by omega
  generalize hv : FP.Core.sumUnits s c q t d r (min q r) = v
  have hval : v * (2 ^ (min q r + 2000).toNat : Nat) = (n + n') * 2 ^ (2000 - k) := by
    rw [← hv, FP.Core.sumUnits, Int.add_mul, own_units (by omega) (by omega), own_units (by omega) (by omega), e3, f3, Int.add_mul]
  obtain ⟨c', q', g1, g2, g3⟩ := own_rr (s := FP.Core.sumSign s t v) (A := v.natAbs) (B := 1) (e := min q r) (M := 2000) (k := k) (n := n + n') (by decide) hk (by omega) (by omega) hn (by
    have : FP.Core.signed (FP.Core.sumSign s t v) v.natAbs = v := by
      unfold FP.Core.signed FP.Core.sumSign
      by_cases h0 : v = 0
      · subst h0; simp
      · rw [if_neg h0]
        split <;> rename_i h <;> simp at h <;> omega
    rw [own_sg, this, Nat.one_mul, show (min q r + ((2000 : Nat) : Int)).toNat = (min q r + 2000).toNat from rfl, hval]
    push_cast; rfl)
  refine ⟨_, c', q', ?_, g2, g3⟩
  rw [← g1, ← hv]; rfl
theorem own_dadd {k : Nat} {n n' : Int} {x y : UInt64} (hx : own_D k n x) (hy : own_D k n' y) (hk : k ≤ 60) (hn : (n + n').natAbs < 2 ^ 53) : own_D k (n + n') (FP.dadd x y) := by
  obtain ⟨s, c, q, e1, e2, e3⟩ := hx
  obtain ⟨t, d, r, f1, f2, f3⟩ := hy
  obtain ⟨u, c', q', g1, g2, g3⟩ := own_sum e2 f2 e3 f3 hk hn
  refine ⟨u, c', q', ?_, g2, g3⟩
  rw [show FP.dadd x y = FP.Core.dadd x y from rfl, FP.Core.val64_dadd, e1, f1, g1]
theorem own_dsub {k : Nat} {n n' : Int} {x y : UInt64} (hx : own_D k n x) (hy : own_D k n' y) (hk : k ≤ 60) (hn : (n - n').natAbs < 2 ^ 53) : own_D k (n - n') (FP.dsub x y) := by
  obtain ⟨s, c, q, e1, e2, e3⟩ := hx
  obtain ⟨t, d, r, f1, f2, f3⟩ := hy
  have f4 : FP.Core.signed (!t) (d * 2 ^ (r + 2000).toNat) = (-n') * 2 ^ (2000 - k) := by
    rw [Int.neg_mul, ← f3]; cases t <;> simp [FP.Core.signed]
  obtain ⟨u, c', q', g1, g2, g3⟩ := own_sum e2 f2 e3 f4 hk (by rw [← Int.sub_eq_add_neg]; exact hn)
  refine ⟨u, c', q', ?_, g2, by rw [g3, ← Int.sub_eq_add_neg]⟩
  rw [show FP.dsub x y = FP.Core.dsub x y from rfl, FP.Core.val64_dsub, e1, f1]; exact g1
/-- by a power of two -/
theorem own_ddiv {k j : Nat} {n : Int} {x y : UInt64} {d : Nat} {r : Int} (hx : own_D k n x) (hy : FP.Core.val64 y = .fin false d r) (hd : 0 < d) (hr : -1074 ≤ r) (hr2 : r ≤ 0) (hj : d * 2 ^ (r + 2000).toNat = 2 ^ (2000 + j)) (hk : k + j ≤ 60) (hn : n.natAbs < 2 ^ 53) : own_D (k + j) n (FP.ddiv x y) := by
  obtain ⟨s, c, q, e1, e2, e3⟩ := hx
  have hv : FP.Core.val64 (FP.ddiv x y) = FP.Core.roundRatio FP.Core.b64 (s != false) c d (q - r) := by
    rw [show FP.ddiv x y = FP.Core.ddiv x y from rfl, FP.Core.val64_ddiv, e1, hy]
    show (if d = 0 then _ else _) = _
    rw [if_neg (by omega)]
  obtain ⟨c', q', g1, g2, g3⟩ := own_rr (s := (s != false)) (A := c) (B := d) (e := q - r) (M := 4000) (k := k + j) (n := n) hd hk (by omega) (by omega) hn (by
    have hs : (s != false) = s := by cases s <;> rfl
    rw [hs, show (q - r + (4000 : Nat)).toNat = (q + 2000).toNat + (2000 - r).toNat by omega, Nat.pow_add, ← Nat.mul_assoc, own_sg, e3]
    have e4 : d * 2 ^ (4000 - (k + j)) = 2 ^ (2000 - k) * 2 ^ (2000 - r).toNat := by
      have h1 : d * 2 ^ (r + 2000).toNat * 2 ^ (2000 - r - k - j).toNat = 2 ^ (2000 + j) * 2 ^ (2000 - r - k - j).toNat := by rw [hj]
      rw [Nat.mul_assoc, ← Nat.pow_add, ← Nat.pow_add] at h1
      rw [show (r + 2000).toNat + (2000 - r - k - j).toNat = 4000 - (k + j) by omega] at h1
      rw [h1, ← Nat.pow_add]; congr 1; omega
    rw [e4]
    push_cast
    rw [Int.mul_assoc])
  exact ⟨_, c', q', hv.trans g1, g2, g3⟩
theorem own_cmp {k : Nat} {n n' : Int} {x y : UInt64} (hx : own_D k n x) (hy : own_D k n' y) : FP.dcmp x y = some (compare n n') := by
  obtain ⟨s, c, q, e1, e2, e3⟩ := hx
  obtain ⟨t, d, r, f1, f2, f3⟩ := hy
  have hm : -1074 ≤ min q r := by omega
  have u1 := own_units (s := s) (c := c) (q := q) (e := min q r) (by omega) (by omega)
  have u2 := own_units (s := t) (c := d) (q := r) (e := min q r) (by omega) (by omega)
  rw [e3] at u1
  rw [f3] at u2
  have hp : (0 : Int) < (2 ^ (min q r + 2000).toNat : Nat) := by have := Nat.two_pow_pos (min q r + 2000).toNat; omega
  have hp2 : (0 : Int) < 2 ^ (2000 - k) := own_pn _
  rw [show FP.dcmp x y = FP.Core.order (FP.Core.val64 x) (FP.Core.val64 y) from rfl, e1, f1]
  show some (compare (FP.Core.signed s (FP.Core.inUnits c q (min q r))) (FP.Core.signed t (FP.Core.inUnits d r (min q r)))) = _
  generalize FP.Core.signed s (FP.Core.inUnits c q (min q r)) = a at *
  generalize FP.Core.signed t (FP.Core.inUnits d r (min q r)) = b at *
  congr 1
  have l1 : a < b ↔ n < n' := by
    constructor
    · intro h
      have := Int.mul_lt_mul_of_pos_right h hp
      rw [u1, u2] at this
      exact Int.lt_of_mul_lt_mul_right this (by omega)
    · intro h
      have := Int.mul_lt_mul_of_pos_right h hp2
      rw [← u1, ← u2] at this
      exact Int.lt_of_mul_lt_mul_right this (by omega)
  have l2 : a = b ↔ n = n' := by
    constructor
    · intro h
      have : n * 2 ^ (2000 - k) = n' * 2 ^ (2000 - k) := by rw [← u1, ← u2, h]
      exact Int.eq_of_mul_eq_mul_right (by omega) this
    · intro h
      have : a * (2 ^ (min q r + 2000).toNat : Nat) = b * (2 ^ (min q r + 2000).toNat : Nat) := by rw [u1, u2, h]
      exact Int.eq_of_mul_eq_mul_right (by omega) this
  show compareOfLessAndEq a b = compareOfLessAndEq n n'
  unfold compareOfLessAndEq
  simp only [l1, l2]

theorem own_nb {x y : Int} {A B : Nat} (h : x.natAbs ≤ A) (h' : y.natAbs ≤ B) : (x * y).natAbs ≤ A * B := by
  rw [Int.natAbs_mul]; exact Nat.mul_le_mul h h'
theorem own_v8 : FP.Core.val64 4620693217682128896 = .fin false (2 ^ 52) (-49) := by decide
theorem own_v64 : FP.Core.val64 4634204016564240384 = .fin false (2 ^ 52) (-46) := by decide
theorem own_v1 : FP.Core.val64 FP.dconst1 = .fin false (2 ^ 52) (-52) := by decide
theorem own_v0 : FP.Core.val64 FP.dconst0 = .fin false 0 (-1074) := by decide
theorem own_div8 {n : Int} {x : UInt64} (hx : own_D 0 n x) (hn : n.natAbs < 2 ^ 53) : own_D 3 n (FP.ddiv x (4620693217682128896 : UInt64)) :=
  own_ddiv (k := 0) (j := 3) hx own_v8 (by decide) (by decide) (by decide) (by rw [show ((-49 : Int) + 2000).toNat = 1951 from rfl, ← Nat.pow_add]) (by decide) hn
theorem own_div64 {n : Int} {x : UInt64} (hx : own_D 0 n x) (hn : n.natAbs < 2 ^ 53) : own_D 6 n (FP.ddiv x (4634204016564240384 : UInt64)) :=
  own_ddiv (k := 0) (j := 6) hx own_v64 (by decide) (by decide) (by decide) (by rw [show ((-46 : Int) + 2000).toNat = 1954 from rfl, ← Nat.pow_add]) (by decide) hn
theorem own_zero (k : Nat) : own_D k 0 FP.dconst0 := ⟨_, _, _, own_v0, by decide, by rw [Nat.zero_mul, Int.zero_mul]; rfl⟩
theorem own_one : own_D 3 8 FP.dconst1 := by
  have h : own_D 0 1 FP.dconst1 := ⟨_, _, _, own_v1, by decide, by
    rw [show ((-52 : Int) + 2000).toNat = 1948 from rfl, ← Nat.pow_add, Int.one_mul]
    show ((2 ^ (52 + 1948) : Nat) : Int) = _
    rw [Int.natCast_pow]; rfl⟩
  exact own_Dup 3 (by decide) h
theorem own_dv (a : Int32) : own_D 3 a.toInt (FP.ddiv (FP.i2d a) (4620693217682128896 : UInt64)) := own_div8 (own_i2d a) (by have := a.toInt_lt; have := a.le_toInt; omega)
theorem own_gt {k : Nat} {n n' : Int} {x y : UInt64} (hx : own_D k n x) (hy : own_D k n' y) (h : n' < n) : cmpValue (FP.dcmp x y) .l = 1 := by
  rw [own_cmp hx hy, show compare n n' = .gt from Int.compare_eq_gt.mpr h]; rfl
theorem own_eqd {k : Nat} {n : Int} {x y : UInt64} (hx : own_D k n x) (hy : own_D k n y) : cmpValue (FP.dcmp x y) .l = 0 := by
  rw [own_cmp hx hy, show compare n n = .eq from Int.compare_eq_eq.mpr rfl]; rfl
theorem own_pos1 {k : Nat} {n : Int} {x : UInt64} (h : own_D k n x) (hn : 0 < n) : cmpValue (FP.dcmp x FP.dconst0) .l = 1 := own_gt h (own_zero k) hn
theorem own_pos2 {k : Nat} {n : Int} {x : UInt64} (h : own_D k n x) : cmpValue (FP.dcmp x (9218868437227405312 : UInt64)) .g = -1 := RoadKit.dcmp_pinf h.fin .g
theorem own_m (p : Int32) : 1 ≤ ((p &&& (1023 : Int32)) + (1 : Int32)).toInt ∧ ((p &&& (1023 : Int32)) + (1 : Int32)).toInt ≤ 1024 := by
  have h := Jvm.Kit.i32_mask p 1023 (k := 10) (by decide) (by decide)
  have e1 : (1 : Int32).toInt = 1 := by decide
  have e : ((p &&& (1023 : Int32)) + (1 : Int32)).toInt = (p &&& (1023 : Int32)).toInt + 1 := by rw [Jvm.Kit.i32_add (by omega) (by omega), e1]
  omega
theorem own_m8 {a b : Int32} (ha : 1 ≤ a.toInt ∧ a.toInt ≤ 1024) (hb : 1 ≤ b.toInt ∧ b.toInt ≤ 1024) (h : (8 : Int32) < a + b) : 8 < a.toInt + b.toInt := by
  rw [Int32.lt_iff_toInt_lt, Jvm.Kit.i32_add (by omega) (by omega), show (8 : Int32).toInt = 8 from by decide] at h
  exact h
theorem own_sum1 {a b : Int32} (ha : 1 ≤ a.toInt ∧ a.toInt ≤ 1024) (hb : 1 ≤ b.toInt ∧ b.toInt ≤ 1024) : own_D 3 (a.toInt + b.toInt) (FP.dadd (FP.ddiv (FP.i2d a) (4620693217682128896 : UInt64)) (FP.ddiv (FP.i2d b) (4620693217682128896 : UInt64))) :=
  own_dadd (own_dv a) (own_dv b) (by decide) (by omega)
theorem own_na {n a : Int32} (ha : 1 ≤ a.toInt ∧ a.toInt ≤ 1024) : (n.toInt * a.toInt).natAbs ≤ 2 ^ 31 * 1024 := own_nb (by have := n.toInt_lt; have := n.le_toInt; omega) (by omega)
theorem own_t1 {n a : Int32} {x : UInt64} (hx : own_D 3 a.toInt x) (ha : 1 ≤ a.toInt ∧ a.toInt ≤ 1024) : own_D 3 (n.toInt * a.toInt) (FP.dmul (FP.i2d n) x) :=
  own_dmul (k := 0) (k' := 3) (own_i2d n) hx (by decide) (by have := own_na (n := n) ha; omega)
theorem own_t2 {n a b : Int32} {x y : UInt64} (hx : own_D 3 a.toInt x) (ha : 1 ≤ a.toInt ∧ a.toInt ≤ 1024) (hy : own_D 3 b.toInt y) (hb : 1 ≤ b.toInt ∧ b.toInt ≤ 1024) : own_D 3 (n.toInt * a.toInt + b.toInt) (FP.dadd (FP.dmul (FP.i2d n) x) y) :=
  own_dadd (own_t1 hx ha) hy (by decide) (by have := own_na (n := n) ha; omega)
theorem own_t3 {n a b : Int32} {x y : UInt64} (hx : own_D 3 a.toInt x) (ha : 1 ≤ a.toInt ∧ a.toInt ≤ 1024) (hy : own_D 3 b.toInt y) (hb : 1 ≤ b.toInt ∧ b.toInt ≤ 1024) : own_D 3 (n.toInt * a.toInt + b.toInt - 8) (FP.dsub (FP.dadd (FP.dmul (FP.i2d n) x) y) FP.dconst1) :=
  own_dsub (own_t2 hx ha hy hb) own_one (by decide) (by have := own_na (n := n) ha; omega)
theorem own_nc {n a b c : Int32} (ha : 1 ≤ a.toInt ∧ a.toInt ≤ 1024) (hb : 1 ≤ b.toInt ∧ b.toInt ≤ 1024) (hc : 1 ≤ c.toInt ∧ c.toInt ≤ 1024) : ((n.toInt * a.toInt + b.toInt - 8) * c.toInt).natAbs ≤ (2 ^ 31 * 1024 + 2000) * 1024 := own_nb (by have := own_na (n := n) ha; omega) (by omega)
theorem own_t4 {n a b c : Int32} {x y z : UInt64} (hx : own_D 3 a.toInt x) (ha : 1 ≤ a.toInt ∧ a.toInt ≤ 1024) (hy : own_D 3 b.toInt y) (hb : 1 ≤ b.toInt ∧ b.toInt ≤ 1024) (hz : own_D 3 c.toInt z) (hc : 1 ≤ c.toInt ∧ c.toInt ≤ 1024) : own_D 6 ((n.toInt * a.toInt + b.toInt - 8) * c.toInt) (FP.dmul (FP.dsub (FP.dadd (FP.dmul (FP.i2d n) x) y) FP.dconst1) z) :=
  own_dmul (k := 3) (k' := 3) (own_t3 hx ha hy hb) hz (by decide) (by have := own_nc (n := n) ha hb hc; omega)
theorem own_ex {n a b c : Int32} (ha : 1 ≤ a.toInt ∧ a.toInt ≤ 1024) (hb : 1 ≤ b.toInt ∧ b.toInt ≤ 1024) (hc : 1 ≤ c.toInt ∧ c.toInt ≤ 1024) : own_D 6 ((n.toInt * a.toInt + b.toInt - 8) * c.toInt) (FP.ddiv (FP.l2d (((n.toInt64 * a.toInt64) + b.toInt64 - (8 : Int64)) * c.toInt64)) (4634204016564240384 : UInt64)) := by
  have h1 := own_na (n := n) ha
  have h2 := own_nc (n := n) ha hb hc
  have e8 : (8 : Int64).toInt = 8 := by decide
  have e1 : (n.toInt64 * a.toInt64).toInt = n.toInt * a.toInt := by rw [Jvm.Kit.i64_mul (by simp only [Jvm.Kit.i64_of_i32]; omega) (by simp only [Jvm.Kit.i64_of_i32]; omega)]; simp only [Jvm.Kit.i64_of_i32]
  have e2 : (n.toInt64 * a.toInt64 + b.toInt64).toInt = n.toInt * a.toInt + b.toInt := by rw [Jvm.Kit.i64_add (by rw [e1]; simp only [Jvm.Kit.i64_of_i32]; omega) (by rw [e1]; simp only [Jvm.Kit.i64_of_i32]; omega), e1]; simp only [Jvm.Kit.i64_of_i32]
  have e3 : (n.toInt64 * a.toInt64 + b.toInt64 - (8 : Int64)).toInt = n.toInt * a.toInt + b.toInt - 8 := by rw [Jvm.Kit.i64_sub (by rw [e2, e8]; omega) (by rw [e2, e8]; omega), e2, e8]
  have e4 : ((n.toInt64 * a.toInt64 + b.toInt64 - (8 : Int64)) * c.toInt64).toInt = (n.toInt * a.toInt + b.toInt - 8) * c.toInt := by
    rw [Jvm.Kit.i64_mul (by rw [e3]; simp only [Jvm.Kit.i64_of_i32]; omega) (by rw [e3]; simp only [Jvm.Kit.i64_of_i32]; omega), e3]; simp only [Jvm.Kit.i64_of_i32]
  have q := own_div64 (own_l2d _ (by rw [e4]; omega)) (by rw [e4]; omega)
  rw [e4] at q
  exact q

theorem d2_0 : decode jdk_30_method_1_code 0 = .ok (.aload_n 0, 1) := by decide +kernel
theorem d2_1 : decode jdk_30_method_1_code 1 = .ok (.invokespecial 1, 3) := by decide +kernel
theorem d2_4 : decode jdk_30_method_1_code 4 = .ok (.return_, 1) := by decide +kernel
theorem ef_rmRec (m : MethodId) (x0 : Addr) : entryFrame m #[(.ref x0)] 1 = mkF m 0 #[.val (.ref x0)] [] := by first | (simp [entryFrame, mkF, argsToLocals, Value.category]; done) | rfl
def QRec (Z : State) (b : Addr) (h0 : Heap) (n0 : Nat) (v : Option Value) (h : Heap) (L : List Loc) : Prop := v = none ∧ Fr n0 L ∧ h = h0
theorem pn_0 : plainName "java/lang/Record" = true := by first | (simp [plainName, overriddenIn]; done) | decide +kernel
set_option maxRecDepth 65536 in
set_option maxHeartbeats 40000000 in
theorem rmRec (l : Launch) (Z : State) (a0 : Array Value) (hw : ∀ d ∈ tables_1, d.before a0 Z = true) (ws : List Jvm.Cond) (b : Addr) (h0 : Heap) (n0 : Nat) (Z0 : n0 ≤ h0.size)  :
    MetFree l (⟨"java/lang/Record", "<init>", "()V"⟩ : MethodName) (head1 (Jvm.Cond.code (⟨"java/lang/Record", "<init>", "()V"⟩ : MethodName) jdk_30_method_1_code 1 none :: ws) ({ frames := 1, cells := 0, slots := 0, locals := 12 } : Room)) (fun aA uU => aA = #[(.ref b)] ∧ Z.Warmed39 uU.vm ∧ uU.heap = h0) (fun _ _ _ _ _ => True) (fun _ uU oO uU' => ∃ vV lL, oO = .returned vV ∧ QRec Z b h0 n0 vV uU'.heap lL ∧ FrameEnd uU oO uU' lL ({ frames := 1, cells := 0, slots := 0, locals := 12 } : Room).cells ({ frames := 1, cells := 0, slots := 0, locals := 12 } : Room).slots) := by
  refine MetFree.of_bodySF (plainFor_of_name pn_0) hisR ?_
  intro p e s m args below meth c s₁ Bd hml0 hP hK
  obtain ⟨rfl, hZ, hh⟩ := hP
  have hx := Bd.exec
  have hby := Bd.bytes
  have hml : c.maxLocals = 1 := hml0
  have hown : s.vm.findClass "java/lang/Record" = some m.cls := findClass_of_methodNamed Bd.named
  have hnm := (name_of_methodNamed Bd.named Bd.method).1
  have X0 : Stand p l e ({ frames := 1, cells := 0, slots := 0, locals := 12 } : Room) s m #[(.ref b)] below meth c s₁ [] 0 0 := Stand.of_body Bd
  have e0 : s₁.heap = h0 := by rw [← hh, Bd.state]; rfl
  have N0 := Fr.nil n0
  have pre0 : ∀ t, Steps p.tables e below (s₁.setTop (mkF m 0 #[.val (.ref b)] [])) t → Steps p.tables e below (s₁.setTop (entryFrame m #[(.ref b)] 1)) t := fun t kk => castTop (ef_rmRec m b) kk
  obtain ⟨T1, X1, e1, st1⟩ := initO X0 hx hZ hown (hw _ (List.mem_of_getElem? (i := 15) rfl)) (hw _ (List.mem_of_getElem? (i := 16) rfl)) (hw _ (List.mem_of_getElem? (i := 17) rfl)) e0 (g := (mkF m 1 #[.val (.ref b)] [(.ref b)])) rfl (by rw [hml]; rfl) rfl (hb hby d2_1) (by decide) (W := 0) (by show 2 * 0 + _ ≤ _; exact Nat.le_of_eq rfl) (by decide)
  have pre2 : ∀ t, Steps p.tables e below (T1.setTop (mkF m 4 #[.val (.ref b)] [])) t → Steps p.tables e below (s₁.setTop (entryFrame m #[(.ref b)] 1)) t := fun t kk => pre0 t (by
      show Steps p.tables e below (s₁.setTop (mkF m 0 #[.val (.ref b)] [])) _
      refine XS.aloadN X0.here hx rfl (hb hby d2_0) rfl rfl ?_
      show Steps p.tables e below (s₁.setTop (mkF m 1 #[.val (.ref b)] [(.ref b)])) _
      refine st1 _ ?_
      exact kk)
  obtain ⟨fs, hr, hrun, hended, hW, hsame⟩ := X1.leave (v := none) (fun _ => rfl)
  refine ⟨_, _, pre2 _ ?_, hrun, hended, _, _, rfl, ?_, ⟨_, rfl⟩, hW, hsame.mono (by decide) (by decide)⟩
  · show Steps p.tables e below (T1.setTop (mkF m 4 #[.val (.ref b)] [])) _
    exact X1.returnOut hx Bd.returns (hb hby d2_4) hr
  · show QRec Z b h0 n0 _ T1.heap _
    rw [e1]
    exact ⟨rfl, N0, rfl⟩
theorem d1_0 : decode prog_69_method_1_code 0 = .ok (.aload_n 0, 1) := by decide +kernel
theorem d1_1 : decode prog_69_method_1_code 1 = .ok (.invokespecial 1, 3) := by decide +kernel
theorem pd_0 : parseMethodDescriptor "()V" = some ⟨[], none⟩ := by decide +kernel
theorem d1_4 : decode prog_69_method_1_code 4 = .ok (.dload_n 1, 1) := by decide +kernel
theorem d1_5 : decode prog_69_method_1_code 5 = .ok (.dconst 0, 1) := by decide +kernel
theorem d1_6 : decode prog_69_method_1_code 6 = .ok (.dcmp .l, 1) := by decide +kernel
theorem d1_7 : decode prog_69_method_1_code 7 = .ok (.ifCond .le 11, 3) := by decide +kernel
theorem d1_10 : decode prog_69_method_1_code 10 = .ok (.dload_n 1, 1) := by decide +kernel
theorem d1_11 : decode prog_69_method_1_code 11 = .ok (.ldc2_w 9, 3) := by decide +kernel
theorem d1_14 : decode prog_69_method_1_code 14 = .ok (.dcmp .g, 1) := by decide +kernel
theorem d1_15 : decode prog_69_method_1_code 15 = .ok (.ifCond .lt 13, 3) := by decide +kernel
theorem d1_28 : decode prog_69_method_1_code 28 = .ok (.dload_n 3, 1) := by decide +kernel
theorem d1_29 : decode prog_69_method_1_code 29 = .ok (.dconst 0, 1) := by decide +kernel
theorem d1_30 : decode prog_69_method_1_code 30 = .ok (.dcmp .l, 1) := by decide +kernel
theorem d1_31 : decode prog_69_method_1_code 31 = .ok (.ifCond .le 11, 3) := by decide +kernel
theorem d1_34 : decode prog_69_method_1_code 34 = .ok (.dload_n 3, 1) := by decide +kernel
theorem d1_35 : decode prog_69_method_1_code 35 = .ok (.ldc2_w 9, 3) := by decide +kernel
theorem d1_38 : decode prog_69_method_1_code 38 = .ok (.dcmp .g, 1) := by decide +kernel
theorem d1_39 : decode prog_69_method_1_code 39 = .ok (.ifCond .lt 13, 3) := by decide +kernel
theorem d1_52 : decode prog_69_method_1_code 52 = .ok (.aload_n 0, 1) := by decide +kernel
theorem d1_53 : decode prog_69_method_1_code 53 = .ok (.dload_n 1, 1) := by decide +kernel
theorem d1_54 : decode prog_69_method_1_code 54 = .ok (.putfield 20, 3) := by decide +kernel
theorem d1_57 : decode prog_69_method_1_code 57 = .ok (.aload_n 0, 1) := by decide +kernel
theorem d1_58 : decode prog_69_method_1_code 58 = .ok (.dload_n 3, 1) := by decide +kernel
theorem d1_59 : decode prog_69_method_1_code 59 = .ok (.putfield 26, 3) := by decide +kernel
theorem d1_62 : decode prog_69_method_1_code 62 = .ok (.return_, 1) := by decide +kernel
theorem ef_rmWei (m : MethodId) (x0 : Addr) (x1 : UInt64) (x2 : UInt64) : entryFrame m #[(.ref x0), (.double x1), (.double x2)] 5 = mkF m 0 #[.val (.ref x0), .val (.double x1), .second, .val (.double x2), .second] [] := by first | (simp [entryFrame, mkF, argsToLocals, Value.category]; done) | rfl
def QWei (Z : State) (b : Addr) (u1 : UInt64) (u2 : UInt64) (h0 : Heap) (n0 : Nat) (v : Option Value) (h : Heap) (L : List Loc) : Prop := v = none ∧ Fr n0 L ∧ Keep h0 h [b] ∧ Exa Z h b "com/example/even_keel/evenkeel/failures/WeibullDistribution"
theorem pn_1 : plainName "com/example/even_keel/evenkeel/failures/WeibullDistribution" = true := by first | (simp [plainName, overriddenIn]; done) | decide +kernel
set_option maxRecDepth 65536 in
set_option maxHeartbeats 40000000 in
theorem rmWei (l : Launch) (Z : State) (a0 : Array Value) (hw : ∀ d ∈ tables_1, d.before a0 Z = true) (ws : List Jvm.Cond) (b : Addr) (u1 : UInt64) (u2 : UInt64) (h0 : Heap) (n0 : Nat) (Z0 : n0 ≤ h0.size) (E_b : Exa Z h0 b "com/example/even_keel/evenkeel/failures/WeibullDistribution") (F_scale_b : Fld Z h0 b "com/example/even_keel/evenkeel/failures/WeibullDistribution" "scale" "D" (.double (0 : UInt64))) (F_shape_b : Fld Z h0 b "com/example/even_keel/evenkeel/failures/WeibullDistribution" "shape" "D" (.double (0 : UInt64))) (hu11 : cmpValue (FP.dcmp u1 FP.dconst0) .l = 1) (hu12 : cmpValue (FP.dcmp u1 (9218868437227405312 : UInt64)) .g = -1) (hu21 : cmpValue (FP.dcmp u2 FP.dconst0) .l = 1) (hu22 : cmpValue (FP.dcmp u2 (9218868437227405312 : UInt64)) .g = -1) (g_b : n0 ≤ b) :
    MetFree l (⟨"com/example/even_keel/evenkeel/failures/WeibullDistribution", "<init>", "(DD)V"⟩ : MethodName) (head1 (Jvm.Cond.code (⟨"com/example/even_keel/evenkeel/failures/WeibullDistribution", "<init>", "(DD)V"⟩ : MethodName) prog_69_method_1_code 5 none :: ws) ({ frames := 2, cells := 0, slots := 0, locals := 24 } : Room)) (fun aA uU => aA = #[(.ref b), (.double u1), (.double u2)] ∧ Z.Warmed39 uU.vm ∧ uU.heap = h0) (fun _ _ _ _ _ => True) (fun _ uU oO uU' => ∃ vV lL, oO = .returned vV ∧ QWei Z b u1 u2 h0 n0 vV uU'.heap lL ∧ FrameEnd uU oO uU' lL ({ frames := 2, cells := 0, slots := 0, locals := 24 } : Room).cells ({ frames := 2, cells := 0, slots := 0, locals := 24 } : Room).slots) := by
  refine MetFree.of_bodySF (plainFor_of_name pn_1) hisR ?_
  intro p e s m args below meth c s₁ Bd hml0 hP hK
  obtain ⟨rfl, hZ, hh⟩ := hP
  have hx := Bd.exec
  have hby := Bd.bytes
  have hml : c.maxLocals = 5 := hml0
  have hown : s.vm.findClass "com/example/even_keel/evenkeel/failures/WeibullDistribution" = some m.cls := findClass_of_methodNamed Bd.named
  have hnm := (name_of_methodNamed Bd.named Bd.method).1
  have X0 : Stand p l e ({ frames := 2, cells := 0, slots := 0, locals := 24 } : Room) s m #[(.ref b), (.double u1), (.double u2)] below meth c s₁ [] 0 0 := Stand.of_body Bd
  have e0 : s₁.heap = h0 := by rw [← hh, Bd.state]; rfl
  have N0 := Fr.nil n0
  have pre0 : ∀ t, Steps p.tables e below (s₁.setTop (mkF m 0 #[.val (.ref b), .val (.double u1), .second, .val (.double u2), .second] [])) t → Steps p.tables e below (s₁.setTop (entryFrame m #[(.ref b), (.double u1), (.double u2)] 5)) t := fun t kk => castTop (ef_rmWei m b u1 u2) kk
  obtain ⟨_, _, ⟨T3, L3, k3, n3⟩, -, X3, ⟨Lc3, hQ3, l3, y3, z3⟩, st3⟩ := X0.specialBack hx (y := (⟨"java/lang/Record", "<init>", "()V"⟩ : MethodName)) rfl hown (mvT hZ (hw _ (List.mem_of_getElem? (i := 10) rfl))) (mvT hZ (hw _ (List.mem_of_getElem? (i := 11) rfl))) (mvT hZ (hw _ (List.mem_of_getElem? (i := 14) rfl))) (by decide) (backOf (W := 0) (rmRec l Z a0 hw [] b h0 n0 Z0) hZ (hw _ (List.mem_of_getElem? (i := 14) rfl)) (hw _ (List.mem_of_getElem? (i := 13) rfl)) (by decide) (by decide)) (g := (mkF m 1 #[.val (.ref b), .val (.double u1), .second, .val (.double u2), .second] [(.ref b)])) rfl (by rw [hml]; rfl) (Steps.refl _) (a := b) (argsL := []) (rest := []) (lenOf pd_0 rfl) rfl (by show 2 * 0 + _ ≤ _; exact Nat.le_of_eq rfl) (hb hby d1_1) (fun _ _ => ⟨rfl, e0, (by decide : 0 + 0 ≤ _), (by decide : 0 + 0 ≤ _)⟩)
  dsimp only [Pt.U, Pt.locs, Pt.cells, Pt.slots] at X3 l3 y3 z3 st3 hQ3
  rw [l3, y3, z3] at X3
  replace X3 := own_std X3 (cc := 0) (ss := 0) rfl rfl
  obtain ⟨rfl, N3q, e3⟩ := hQ3
  have N3 := Fr.app N0 N3q
  obtain ⟨T4, h4, X4, e4, W4, st4⟩ := putF X3 hx hZ hown (host := "") (Or.inl (hw _ (List.mem_of_getElem? (i := 19) rfl))) Via.refl e3 F_scale_b E_b (Or.inr ⟨(hw _ (List.mem_of_getElem? (i := 20) rfl)), rfl, hnm⟩) (hw _ (List.mem_of_getElem? (i := 5) rfl)) (ty := .double) (by decide) rfl rfl (g := (mkF m 54 #[.val (.ref b), .val (.double u1), .second, .val (.double u2), .second] [(.double u1), (.ref b)])) rfl rfl (hb hby d1_54)
  have Ex5 : Exa Z h4 b "com/example/even_keel/evenkeel/failures/WeibullDistribution" := (E_b.wr W4)
  have F6 : Fld Z h4 b "com/example/even_keel/evenkeel/failures/WeibullDistribution" "shape" "D" (.double (0 : UInt64)) := (F_shape_b.other W4 (Or.inr (slot_ne (Or.inr (hw _ (List.mem_of_getElem? (i := 22) rfl))) (Or.inr (hw _ (List.mem_of_getElem? (i := 20) rfl))) (by decide) (t := .double) (t' := .double) (by decide) (by decide))))
  have K7 : Keep h0 h4 [b] := (Keep.refl h0 _).wr W4 (Or.inl (List.mem_of_getElem? (i := 0) rfl))
  have N8 := Fr.snoc X4 N3 g_b
  have F9 : Fld Z h4 b "com/example/even_keel/evenkeel/failures/WeibullDistribution" "scale" "D" (.double u1) := F_scale_b.same W4
  obtain ⟨T10, h10, X10, e10, W10, st10⟩ := putF X4 hx hZ hown (host := "") (Or.inl (hw _ (List.mem_of_getElem? (i := 21) rfl))) Via.refl e4 F6 Ex5 (Or.inr ⟨(hw _ (List.mem_of_getElem? (i := 22) rfl)), rfl, hnm⟩) (hw _ (List.mem_of_getElem? (i := 5) rfl)) (ty := .double) (by decide) rfl rfl (g := (mkF m 59 #[.val (.ref b), .val (.double u1), .second, .val (.double u2), .second] [(.double u2), (.ref b)])) rfl rfl (hb hby d1_59)
  have Ex11 : Exa Z h10 b "com/example/even_keel/evenkeel/failures/WeibullDistribution" := (Ex5.wr W10)
  have F12 : Fld Z h10 b "com/example/even_keel/evenkeel/failures/WeibullDistribution" "scale" "D" (.double u1) := (F9.other W10 (Or.inr (slot_ne (Or.inr (hw _ (List.mem_of_getElem? (i := 20) rfl))) (Or.inr (hw _ (List.mem_of_getElem? (i := 22) rfl))) (by decide) (t := .double) (t' := .double) (by decide) (by decide))))
  have K13 : Keep h0 h10 [b] := K7.wr W10 (Or.inl (List.mem_of_getElem? (i := 0) rfl))
  have N14 := Fr.snoc X10 N8 g_b
  have F15 : Fld Z h10 b "com/example/even_keel/evenkeel/failures/WeibullDistribution" "shape" "D" (.double u2) := F6.same W10
  have pre16 : ∀ t, Steps p.tables e below (T10.setTop (mkF m 62 #[.val (.ref b), .val (.double u1), .second, .val (.double u2), .second] [])) t → Steps p.tables e below (s₁.setTop (entryFrame m #[(.ref b), (.double u1), (.double u2)] 5)) t := fun t kk => pre0 t (by
      show Steps p.tables e below (s₁.setTop (mkF m 0 #[.val (.ref b), .val (.double u1), .second, .val (.double u2), .second] [])) _
      refine XS.aloadN X0.here hx rfl (hb hby d1_0) rfl rfl ?_
      show Steps p.tables e below (s₁.setTop (mkF m 1 #[.val (.ref b), .val (.double u1), .second, .val (.double u2), .second] [(.ref b)])) _
      refine st3.trans ?_
      show Steps p.tables e below (T3.setTop (mkF m 4 #[.val (.ref b), .val (.double u1), .second, .val (.double u2), .second] [])) _
      refine XS.dloadN X3.here hx rfl (hb hby d1_4) rfl ?_
      show Steps p.tables e below (T3.setTop (mkF m 5 #[.val (.ref b), .val (.double u1), .second, .val (.double u2), .second] [(.double u1)])) _
      refine XS.dconst0 X3.here hx rfl (hb hby d1_5) rfl ?_
      show Steps p.tables e below (T3.setTop (mkF m 6 #[.val (.ref b), .val (.double u1), .second, .val (.double u2), .second] [(.double FP.dconst0), (.double u1)])) _
      refine XS.dcmpS X3.here hx rfl (hb hby d1_6) rfl (v := (1 : Int32)) hu11 ?_
      show Steps p.tables e below (T3.setTop (mkF m 7 #[.val (.ref b), .val (.double u1), .second, .val (.double u2), .second] [(.int (1 : Int32))])) _
      refine XS.ifNo X3.here hx rfl (hb hby d1_7) rfl ((if0 _ _).trans (tlt (by decide : (0 : Int32) < (1 : Int32))).2.2.2) ?_
      show Steps p.tables e below (T3.setTop (mkF m 10 #[.val (.ref b), .val (.double u1), .second, .val (.double u2), .second] [])) _
      refine XS.dloadN X3.here hx rfl (hb hby d1_10) rfl ?_
      show Steps p.tables e below (T3.setTop (mkF m 11 #[.val (.ref b), .val (.double u1), .second, .val (.double u2), .second] [(.double u1)])) _
      refine X3.ldc2DoubleC hx hown (mvT hZ (hw _ (List.mem_of_getElem? (i := 18) rfl))) (g := (mkF m 11 #[.val (.ref b), .val (.double u1), .second, .val (.double u2), .second] [(.double u1)])) rfl (hb hby d1_11) _ ?_
      show Steps p.tables e below (T3.setTop (mkF m 14 #[.val (.ref b), .val (.double u1), .second, .val (.double u2), .second] [(.double (9218868437227405312 : UInt64)), (.double u1)])) _
      refine XS.dcmpS X3.here hx rfl (hb hby d1_14) rfl (v := (-1 : Int32)) hu12 ?_
      show Steps p.tables e below (T3.setTop (mkF m 15 #[.val (.ref b), .val (.double u1), .second, .val (.double u2), .second] [(.int (-1 : Int32))])) _
      refine XS.ifYes X3.here hx rfl (pc0 := 15) (pc' := 28) rfl (hb hby d1_15) rfl ((if0 _ _).trans (tlt (by decide : (-1 : Int32) < (0 : Int32))).1) (by decide) (by decide) ?_
      show Steps p.tables e below (T3.setTop (mkF m 28 #[.val (.ref b), .val (.double u1), .second, .val (.double u2), .second] [])) _
      refine XS.dloadN X3.here hx rfl (hb hby d1_28) rfl ?_
      show Steps p.tables e below (T3.setTop (mkF m 29 #[.val (.ref b), .val (.double u1), .second, .val (.double u2), .second] [(.double u2)])) _
      refine XS.dconst0 X3.here hx rfl (hb hby d1_29) rfl ?_
      show Steps p.tables e below (T3.setTop (mkF m 30 #[.val (.ref b), .val (.double u1), .second, .val (.double u2), .second] [(.double FP.dconst0), (.double u2)])) _
      refine XS.dcmpS X3.here hx rfl (hb hby d1_30) rfl (v := (1 : Int32)) hu21 ?_
      show Steps p.tables e below (T3.setTop (mkF m 31 #[.val (.ref b), .val (.double u1), .second, .val (.double u2), .second] [(.int (1 : Int32))])) _
      refine XS.ifNo X3.here hx rfl (hb hby d1_31) rfl ((if0 _ _).trans (tlt (by decide : (0 : Int32) < (1 : Int32))).2.2.2) ?_
      show Steps p.tables e below (T3.setTop (mkF m 34 #[.val (.ref b), .val (.double u1), .second, .val (.double u2), .second] [])) _
      refine XS.dloadN X3.here hx rfl (hb hby d1_34) rfl ?_
      show Steps p.tables e below (T3.setTop (mkF m 35 #[.val (.ref b), .val (.double u1), .second, .val (.double u2), .second] [(.double u2)])) _
      refine X3.ldc2DoubleC hx hown (mvT hZ (hw _ (List.mem_of_getElem? (i := 18) rfl))) (g := (mkF m 35 #[.val (.ref b), .val (.double u1), .second, .val (.double u2), .second] [(.double u2)])) rfl (hb hby d1_35) _ ?_
      show Steps p.tables e below (T3.setTop (mkF m 38 #[.val (.ref b), .val (.double u1), .second, .val (.double u2), .second] [(.double (9218868437227405312 : UInt64)), (.double u2)])) _
      refine XS.dcmpS X3.here hx rfl (hb hby d1_38) rfl (v := (-1 : Int32)) hu22 ?_
      show Steps p.tables e below (T3.setTop (mkF m 39 #[.val (.ref b), .val (.double u1), .second, .val (.double u2), .second] [(.int (-1 : Int32))])) _
      refine XS.ifYes X3.here hx rfl (pc0 := 39) (pc' := 52) rfl (hb hby d1_39) rfl ((if0 _ _).trans (tlt (by decide : (-1 : Int32) < (0 : Int32))).1) (by decide) (by decide) ?_
      show Steps p.tables e below (T3.setTop (mkF m 52 #[.val (.ref b), .val (.double u1), .second, .val (.double u2), .second] [])) _
      refine XS.aloadN X3.here hx rfl (hb hby d1_52) rfl rfl ?_
      show Steps p.tables e below (T3.setTop (mkF m 53 #[.val (.ref b), .val (.double u1), .second, .val (.double u2), .second] [(.ref b)])) _
      refine XS.dloadN X3.here hx rfl (hb hby d1_53) rfl ?_
      show Steps p.tables e below (T3.setTop (mkF m 54 #[.val (.ref b), .val (.double u1), .second, .val (.double u2), .second] [(.double u1), (.ref b)])) _
      refine st4 _ ?_
      show Steps p.tables e below (T4.setTop (mkF m 57 #[.val (.ref b), .val (.double u1), .second, .val (.double u2), .second] [])) _
      refine XS.aloadN X4.here hx rfl (hb hby d1_57) rfl rfl ?_
      show Steps p.tables e below (T4.setTop (mkF m 58 #[.val (.ref b), .val (.double u1), .second, .val (.double u2), .second] [(.ref b)])) _
      refine XS.dloadN X4.here hx rfl (hb hby d1_58) rfl ?_
      show Steps p.tables e below (T4.setTop (mkF m 59 #[.val (.ref b), .val (.double u1), .second, .val (.double u2), .second] [(.double u2), (.ref b)])) _
      refine st10 _ ?_
      exact kk)
  obtain ⟨fs, hr, hrun, hended, hW, hsame⟩ := X10.leave (v := none) (fun _ => rfl)
  refine ⟨_, _, pre16 _ ?_, hrun, hended, _, _, rfl, ?_, ⟨_, rfl⟩, hW, hsame.mono (by decide) (by decide)⟩
  · show Steps p.tables e below (T10.setTop (mkF m 62 #[.val (.ref b), .val (.double u1), .second, .val (.double u2), .second] [])) _
    exact X10.returnOut hx Bd.returns (hb hby d1_62) hr
  · show QWei Z b u1 u2 h0 n0 _ T10.heap _
    rw [e10]
    exact ⟨rfl, N14, K13, Ex11⟩
theorem d5_0 : decode prog_60_method_2_code 0 = .ok (.dload_n 1, 1) := by decide +kernel
theorem d5_1 : decode prog_60_method_2_code 1 = .ok (.dconst 0, 1) := by decide +kernel
theorem d5_2 : decode prog_60_method_2_code 2 = .ok (.dcmp .l, 1) := by decide +kernel
theorem d5_3 : decode prog_60_method_2_code 3 = .ok (.ifCond .le 11, 3) := by decide +kernel
theorem d5_6 : decode prog_60_method_2_code 6 = .ok (.dload_n 1, 1) := by decide +kernel
theorem d5_7 : decode prog_60_method_2_code 7 = .ok (.ldc2_w 9, 3) := by decide +kernel
theorem d5_10 : decode prog_60_method_2_code 10 = .ok (.dcmp .g, 1) := by decide +kernel
theorem d5_11 : decode prog_60_method_2_code 11 = .ok (.ifCond .lt 17, 3) := by decide +kernel
theorem d5_28 : decode prog_60_method_2_code 28 = .ok (.return_, 1) := by decide +kernel
theorem ef_rmReq (m : MethodId) (x0 : Addr) (x1 : UInt64) : entryFrame m #[(.ref x0), (.double x1)] 3 = mkF m 0 #[.val (.ref x0), .val (.double x1), .second] [] := by first | (simp [entryFrame, mkF, argsToLocals, Value.category]; done) | rfl
def QReq (Z : State) (b : Addr) (u1 : UInt64) (h0 : Heap) (n0 : Nat) (v : Option Value) (h : Heap) (L : List Loc) : Prop := v = none ∧ Fr n0 L ∧ h = h0
theorem pn_2 : plainName "com/example/even_keel/evenkeel/estimation/Parameters" = true := by first | (simp [plainName, overriddenIn]; done) | decide +kernel
set_option maxRecDepth 65536 in
set_option maxHeartbeats 40000000 in
theorem rmReq (l : Launch) (Z : State) (a0 : Array Value) (hw : ∀ d ∈ tables_1, d.before a0 Z = true) (ws : List Jvm.Cond) (b : Addr) (u1 : UInt64) (h0 : Heap) (n0 : Nat) (Z0 : n0 ≤ h0.size) (hu11 : cmpValue (FP.dcmp u1 FP.dconst0) .l = 1) (hu12 : cmpValue (FP.dcmp u1 (9218868437227405312 : UInt64)) .g = -1) :
    MetFree l (⟨"com/example/even_keel/evenkeel/estimation/Parameters", "requirePositive", "(Ljava/lang/String;D)V"⟩ : MethodName) (head1 (Jvm.Cond.code (⟨"com/example/even_keel/evenkeel/estimation/Parameters", "requirePositive", "(Ljava/lang/String;D)V"⟩ : MethodName) prog_60_method_2_code 3 none :: ws) ({ frames := 0, cells := 0, slots := 0, locals := 0 } : Room)) (fun aA uU => aA = #[(.ref b), (.double u1)] ∧ Z.Warmed39 uU.vm ∧ uU.heap = h0) (fun _ _ _ _ _ => True) (fun _ uU oO uU' => ∃ vV lL, oO = .returned vV ∧ QReq Z b u1 h0 n0 vV uU'.heap lL ∧ FrameEnd uU oO uU' lL ({ frames := 0, cells := 0, slots := 0, locals := 0 } : Room).cells ({ frames := 0, cells := 0, slots := 0, locals := 0 } : Room).slots) := by
  refine MetFree.of_bodySF (plainFor_of_name pn_2) hisR ?_
  intro p e s m args below meth c s₁ Bd hml0 hP hK
  obtain ⟨rfl, hZ, hh⟩ := hP
  have hx := Bd.exec
  have hby := Bd.bytes
  have hml : c.maxLocals = 3 := hml0
  have hown : s.vm.findClass "com/example/even_keel/evenkeel/estimation/Parameters" = some m.cls := findClass_of_methodNamed Bd.named
  have hnm := (name_of_methodNamed Bd.named Bd.method).1
  have X0 : Stand p l e ({ frames := 0, cells := 0, slots := 0, locals := 0 } : Room) s m #[(.ref b), (.double u1)] below meth c s₁ [] 0 0 := Stand.of_body Bd
  have e0 : s₁.heap = h0 := by rw [← hh, Bd.state]; rfl
  have N0 := Fr.nil n0
  have pre0 : ∀ t, Steps p.tables e below (s₁.setTop (mkF m 0 #[.val (.ref b), .val (.double u1), .second] [])) t → Steps p.tables e below (s₁.setTop (entryFrame m #[(.ref b), (.double u1)] 3)) t := fun t kk => castTop (ef_rmReq m b u1) kk
  have pre17 : ∀ t, Steps p.tables e below (s₁.setTop (mkF m 28 #[.val (.ref b), .val (.double u1), .second] [])) t → Steps p.tables e below (s₁.setTop (entryFrame m #[(.ref b), (.double u1)] 3)) t := fun t kk => pre0 t (by
      show Steps p.tables e below (s₁.setTop (mkF m 0 #[.val (.ref b), .val (.double u1), .second] [])) _
      refine XS.dloadN X0.here hx rfl (hb hby d5_0) rfl ?_
      show Steps p.tables e below (s₁.setTop (mkF m 1 #[.val (.ref b), .val (.double u1), .second] [(.double u1)])) _
      refine XS.dconst0 X0.here hx rfl (hb hby d5_1) rfl ?_
      show Steps p.tables e below (s₁.setTop (mkF m 2 #[.val (.ref b), .val (.double u1), .second] [(.double FP.dconst0), (.double u1)])) _
      refine XS.dcmpS X0.here hx rfl (hb hby d5_2) rfl (v := (1 : Int32)) hu11 ?_
      show Steps p.tables e below (s₁.setTop (mkF m 3 #[.val (.ref b), .val (.double u1), .second] [(.int (1 : Int32))])) _
      refine XS.ifNo X0.here hx rfl (hb hby d5_3) rfl ((if0 _ _).trans (tlt (by decide : (0 : Int32) < (1 : Int32))).2.2.2) ?_
      show Steps p.tables e below (s₁.setTop (mkF m 6 #[.val (.ref b), .val (.double u1), .second] [])) _
      refine XS.dloadN X0.here hx rfl (hb hby d5_6) rfl ?_
      show Steps p.tables e below (s₁.setTop (mkF m 7 #[.val (.ref b), .val (.double u1), .second] [(.double u1)])) _
      refine X0.ldc2DoubleC hx hown (mvT hZ (hw _ (List.mem_of_getElem? (i := 39) rfl))) (g := (mkF m 7 #[.val (.ref b), .val (.double u1), .second] [(.double u1)])) rfl (hb hby d5_7) _ ?_
      show Steps p.tables e below (s₁.setTop (mkF m 10 #[.val (.ref b), .val (.double u1), .second] [(.double (9218868437227405312 : UInt64)), (.double u1)])) _
      refine XS.dcmpS X0.here hx rfl (hb hby d5_10) rfl (v := (-1 : Int32)) hu12 ?_
      show Steps p.tables e below (s₁.setTop (mkF m 11 #[.val (.ref b), .val (.double u1), .second] [(.int (-1 : Int32))])) _
      refine XS.ifYes X0.here hx rfl (pc0 := 11) (pc' := 28) rfl (hb hby d5_11) rfl ((if0 _ _).trans (tlt (by decide : (-1 : Int32) < (0 : Int32))).1) (by decide) (by decide) ?_
      exact kk)
  obtain ⟨fs, hr, hrun, hended, hW, hsame⟩ := X0.leave (v := none) (fun _ => rfl)
  refine ⟨_, _, pre17 _ ?_, hrun, hended, _, _, rfl, ?_, ⟨_, rfl⟩, hW, hsame.mono (by decide) (by decide)⟩
  · show Steps p.tables e below (s₁.setTop (mkF m 28 #[.val (.ref b), .val (.double u1), .second] [])) _
    exact X0.returnOut hx Bd.returns (hb hby d5_28) hr
  · show QReq Z b u1 h0 n0 _ s₁.heap _
    rw [e0]
    exact ⟨rfl, N0, rfl⟩
theorem d4_0 : decode prog_55_method_1_code 0 = .ok (.aload_n 0, 1) := by decide +kernel
theorem d4_1 : decode prog_55_method_1_code 1 = .ok (.invokespecial 1, 3) := by decide +kernel
theorem d4_4 : decode prog_55_method_1_code 4 = .ok (.ldc 7, 2) := by decide +kernel
theorem own_sat {Z : State} {a0 : Array Value} (hw : ∀ d ∈ tables_1, d.before a0 Z = true) : ∀ a ∈ Bundle.stringAtoms, a.before a0 Z = true := by
  intro a ha
  simp only [Bundle.stringAtoms, List.mem_cons, List.not_mem_nil, or_false] at ha
  rcases ha with rfl | rfl | rfl | rfl | rfl | rfl | rfl
  · exact (hw _ (List.mem_of_getElem? (i := 28) rfl))
  · exact (hw _ (List.mem_of_getElem? (i := 29) rfl))
  · exact (hw _ (List.mem_of_getElem? (i := 30) rfl))
  · exact (hw _ (List.mem_of_getElem? (i := 31) rfl))
  · exact (hw _ (List.mem_of_getElem? (i := 32) rfl))
  · exact (hw _ (List.mem_of_getElem? (i := 33) rfl))
  · exact (hw _ (List.mem_of_getElem? (i := 34) rfl))
theorem d4_6 : decode prog_55_method_1_code 6 = .ok (.dload_n 1, 1) := by decide +kernel
theorem d4_7 : decode prog_55_method_1_code 7 = .ok (.invokestatic 9, 3) := by decide +kernel
theorem pd_1 : parseMethodDescriptor "(Ljava/lang/String;D)V" = some ⟨[(.object "java/lang/String"), .double], none⟩ := by decide +kernel
theorem d4_10 : decode prog_55_method_1_code 10 = .ok (.ldc 15, 2) := by decide +kernel
theorem d4_12 : decode prog_55_method_1_code 12 = .ok (.dload_n 3, 1) := by decide +kernel
theorem d4_13 : decode prog_55_method_1_code 13 = .ok (.invokestatic 9, 3) := by decide +kernel
theorem d4_16 : decode prog_55_method_1_code 16 = .ok (.dload_n 1, 1) := by decide +kernel
theorem d4_17 : decode prog_55_method_1_code 17 = .ok (.dload_n 3, 1) := by decide +kernel
theorem d4_18 : decode prog_55_method_1_code 18 = .ok (.dadd, 1) := by decide +kernel
theorem d4_19 : decode prog_55_method_1_code 19 = .ok (.dconst 1, 1) := by decide +kernel
theorem d4_20 : decode prog_55_method_1_code 20 = .ok (.dcmp .l, 1) := by decide +kernel
theorem d4_21 : decode prog_55_method_1_code 21 = .ok (.ifCond .gt 13, 3) := by decide +kernel
theorem d4_34 : decode prog_55_method_1_code 34 = .ok (.ldc 24, 2) := by decide +kernel
theorem d4_36 : decode prog_55_method_1_code 36 = .ok (.dload 5, 2) := by decide +kernel
theorem d4_38 : decode prog_55_method_1_code 38 = .ok (.invokestatic 9, 3) := by decide +kernel
theorem d4_41 : decode prog_55_method_1_code 41 = .ok (.aload_n 0, 1) := by decide +kernel
theorem d4_42 : decode prog_55_method_1_code 42 = .ok (.dload_n 1, 1) := by decide +kernel
theorem d4_43 : decode prog_55_method_1_code 43 = .ok (.putfield 26, 3) := by decide +kernel
theorem d4_46 : decode prog_55_method_1_code 46 = .ok (.aload_n 0, 1) := by decide +kernel
theorem d4_47 : decode prog_55_method_1_code 47 = .ok (.dload_n 3, 1) := by decide +kernel
theorem d4_48 : decode prog_55_method_1_code 48 = .ok (.putfield 32, 3) := by decide +kernel
theorem d4_51 : decode prog_55_method_1_code 51 = .ok (.aload_n 0, 1) := by decide +kernel
theorem d4_52 : decode prog_55_method_1_code 52 = .ok (.dload 5, 2) := by decide +kernel
theorem d4_54 : decode prog_55_method_1_code 54 = .ok (.putfield 35, 3) := by decide +kernel
theorem d4_57 : decode prog_55_method_1_code 57 = .ok (.aload_n 0, 1) := by decide +kernel
theorem d4_58 : decode prog_55_method_1_code 58 = .ok (.aload 7, 2) := by decide +kernel
theorem d4_60 : decode prog_55_method_1_code 60 = .ok (.putfield 38, 3) := by decide +kernel
theorem d4_63 : decode prog_55_method_1_code 63 = .ok (.return_, 1) := by decide +kernel
theorem ef_rmCost (m : MethodId) (x0 : Addr) (x1 : UInt64) (x2 : UInt64) (x3 : UInt64) (x4 : Addr) : entryFrame m #[(.ref x0), (.double x1), (.double x2), (.double x3), (.ref x4)] 8 = mkF m 0 #[.val (.ref x0), .val (.double x1), .second, .val (.double x2), .second, .val (.double x3), .second, .val (.ref x4)] [] := by first | (simp [entryFrame, mkF, argsToLocals, Value.category]; done) | rfl
def QCost (Z : State) (b : Addr) (u1 : UInt64) (u2 : UInt64) (u3 : UInt64) (b2 : Addr) (h0 : Heap) (n0 : Nat) (v : Option Value) (h : Heap) (L : List Loc) : Prop := v = none ∧ Fr n0 L ∧ Keep h0 h [b] ∧ Exa Z h b "com/example/even_keel/evenkeel/estimation/DurationCost" ∧ Fld Z h b "com/example/even_keel/evenkeel/estimation/DurationCost" "runtimeShape" "D" (.double u1) ∧ Fld Z h b "com/example/even_keel/evenkeel/estimation/DurationCost" "overheadShape" "D" (.double u2) ∧ Fld Z h b "com/example/even_keel/evenkeel/estimation/DurationCost" "scale" "D" (.double u3)
theorem pn_3 : plainName "com/example/even_keel/evenkeel/estimation/DurationCost" = true := by first | (simp [plainName, overriddenIn]; done) | decide +kernel
set_option maxRecDepth 65536 in
set_option maxHeartbeats 40000000 in
theorem rmCost (l : Launch) (Z : State) (a0 : Array Value) (hw : ∀ d ∈ tables_1, d.before a0 Z = true) (ws : List Jvm.Cond) (b : Addr) (u1 : UInt64) (u2 : UInt64) (u3 : UInt64) (b2 : Addr) (h0 : Heap) (n0 : Nat) (Z0 : n0 ≤ h0.size) (E_b : Exa Z h0 b "com/example/even_keel/evenkeel/estimation/DurationCost") (E_b2 : Exa Z h0 b2 "com/example/even_keel/evenkeel/failures/WeibullDistribution") (F_runtimeShape_b : Fld Z h0 b "com/example/even_keel/evenkeel/estimation/DurationCost" "runtimeShape" "D" (.double (0 : UInt64))) (F_overheadShape_b : Fld Z h0 b "com/example/even_keel/evenkeel/estimation/DurationCost" "overheadShape" "D" (.double (0 : UInt64))) (F_scale_b : Fld Z h0 b "com/example/even_keel/evenkeel/estimation/DurationCost" "scale" "D" (.double (0 : UInt64))) (F_failures_b : Fld Z h0 b "com/example/even_keel/evenkeel/estimation/DurationCost" "failures" "Lcom/example/even_keel/evenkeel/failures/WeibullDistribution;" .null) (hu11 : cmpValue (FP.dcmp u1 FP.dconst0) .l = 1) (hu12 : cmpValue (FP.dcmp u1 (9218868437227405312 : UInt64)) .g = -1) (hu21 : cmpValue (FP.dcmp u2 FP.dconst0) .l = 1) (hu22 : cmpValue (FP.dcmp u2 (9218868437227405312 : UInt64)) .g = -1) (hu31 : cmpValue (FP.dcmp u3 FP.dconst0) .l = 1) (hu32 : cmpValue (FP.dcmp u3 (9218868437227405312 : UInt64)) .g = -1) (hsn : Jvm.Free.Fl.NoNaN64 (FP.dadd u1 u2)) (hs1 : cmpValue (FP.dcmp (FP.dadd u1 u2) FP.dconst1) .l = 1) (g_b : n0 ≤ b) :
    MetFree l (⟨"com/example/even_keel/evenkeel/estimation/DurationCost", "<init>", "(DDDLcom/example/even_keel/evenkeel/failures/WeibullDistribution;)V"⟩ : MethodName) (head1 (Jvm.Cond.code (⟨"com/example/even_keel/evenkeel/estimation/DurationCost", "<init>", "(DDDLcom/example/even_keel/evenkeel/failures/WeibullDistribution;)V"⟩ : MethodName) prog_55_method_1_code 8 none :: ws) ({ frames := 2, cells := 6, slots := 188, locals := 24 } : Room)) (fun aA uU => aA = #[(.ref b), (.double u1), (.double u2), (.double u3), (.ref b2)] ∧ Z.Warmed39 uU.vm ∧ uU.heap = h0) (fun _ _ _ _ _ => True) (fun _ uU oO uU' => ∃ vV lL, oO = .returned vV ∧ QCost Z b u1 u2 u3 b2 h0 n0 vV uU'.heap lL ∧ ReturnedEndW uU oO uU' lL ({ frames := 2, cells := 6, slots := 188, locals := 24 } : Room).cells ({ frames := 2, cells := 6, slots := 188, locals := 24 } : Room).slots) := by
  refine MetFree.of_bodySF (plainFor_of_name pn_3) hisR ?_
  intro p e s m args below meth c s₁ Bd hml0 hP hK
  obtain ⟨rfl, hZ, hh⟩ := hP
  have hx := Bd.exec
  have hby := Bd.bytes
  have hml : c.maxLocals = 8 := hml0
  have hown : s.vm.findClass "com/example/even_keel/evenkeel/estimation/DurationCost" = some m.cls := findClass_of_methodNamed Bd.named
  have hnm := (name_of_methodNamed Bd.named Bd.method).1
  have X0 : Stand p l e ({ frames := 2, cells := 6, slots := 188, locals := 24 } : Room) s m #[(.ref b), (.double u1), (.double u2), (.double u3), (.ref b2)] below meth c s₁ [] 0 0 := Stand.of_body Bd
  have e0 : s₁.heap = h0 := by rw [← hh, Bd.state]; rfl
  have N0 := Fr.nil n0
  have pre0 : ∀ t, Steps p.tables e below (s₁.setTop (mkF m 0 #[.val (.ref b), .val (.double u1), .second, .val (.double u2), .second, .val (.double u3), .second, .val (.ref b2)] [])) t → Steps p.tables e below (s₁.setTop (entryFrame m #[(.ref b), (.double u1), (.double u2), (.double u3), (.ref b2)] 8)) t := fun t kk => castTop (ef_rmCost m b u1 u2 u3 b2) kk
  obtain ⟨_, _, ⟨T18, L18, k18, n18⟩, -, X18, ⟨Lc18, hQ18, l18, y18, z18⟩, st18⟩ := X0.specialBack hx (y := (⟨"java/lang/Record", "<init>", "()V"⟩ : MethodName)) rfl hown (mvT hZ (hw _ (List.mem_of_getElem? (i := 26) rfl))) (mvT hZ (hw _ (List.mem_of_getElem? (i := 11) rfl))) (mvT hZ (hw _ (List.mem_of_getElem? (i := 14) rfl))) (by decide) (backOf (W := 0) (rmRec l Z a0 hw [] b h0 n0 Z0) hZ (hw _ (List.mem_of_getElem? (i := 14) rfl)) (hw _ (List.mem_of_getElem? (i := 13) rfl)) (by decide) (by decide)) (g := (mkF m 1 #[.val (.ref b), .val (.double u1), .second, .val (.double u2), .second, .val (.double u3), .second, .val (.ref b2)] [(.ref b)])) rfl (by rw [hml]; rfl) (Steps.refl _) (a := b) (argsL := []) (rest := []) (lenOf pd_0 rfl) rfl (by show 2 * 0 + _ ≤ _; exact Nat.le_of_eq rfl) (hb hby d4_1) (fun _ _ => ⟨rfl, e0, (by decide : 0 + 0 ≤ _), (by decide : 0 + 0 ≤ _)⟩)
  dsimp only [Pt.U, Pt.locs, Pt.cells, Pt.slots] at X18 l18 y18 z18 st18 hQ18
  rw [l18, y18, z18] at X18
  replace X18 := own_std X18 (cc := 0) (ss := 0) rfl rfl
  obtain ⟨rfl, N18q, e18⟩ := hQ18
  have N18 := Fr.app N0 N18q
  have pre19 : ∀ t, Steps p.tables e below (T18.setTop (mkF m 4 #[.val (.ref b), .val (.double u1), .second, .val (.double u2), .second, .val (.double u3), .second, .val (.ref b2)] [])) t → Steps p.tables e below (s₁.setTop (entryFrame m #[(.ref b), (.double u1), (.double u2), (.double u3), (.ref b2)] 8)) t := fun t kk => pre0 t (by
      show Steps p.tables e below (s₁.setTop (mkF m 0 #[.val (.ref b), .val (.double u1), .second, .val (.double u2), .second, .val (.double u3), .second, .val (.ref b2)] [])) _
      refine XS.aloadN X0.here hx rfl (hb hby d4_0) rfl rfl ?_
      show Steps p.tables e below (s₁.setTop (mkF m 1 #[.val (.ref b), .val (.double u1), .second, .val (.double u2), .second, .val (.double u3), .second, .val (.ref b2)] [(.ref b)])) _
      refine st18.trans ?_
      exact kk)
  obtain ⟨a20, T20, h20, k20, X20, e20, E20, hS20, hk20, hZ20, ho20, st20⟩ := ldcS (s := s) (vm0 := s.vm) X18 hx hZ hown (hw _ (List.mem_of_getElem? (i := 27) rfl)) (own_sat hw) e18 ((State.WarmedH.refl s).since 0) (Nat.zero_le _) (g := (mkF m 4 #[.val (.ref b), .val (.double u1), .second, .val (.double u2), .second, .val (.double u3), .second, .val (.ref b2)] [])) rfl (hb hby d4_4) (n := 68) (by decide) (by decide) (by decide) (by decide)
  have Ex21 : Exa Z h20 b "com/example/even_keel/evenkeel/estimation/DurationCost" := (E_b.ext E20)
  have Ex22 : Exa Z h20 b2 "com/example/even_keel/evenkeel/failures/WeibullDistribution" := (E_b2.ext E20)
  have F23 : Fld Z h20 b "com/example/even_keel/evenkeel/estimation/DurationCost" "runtimeShape" "D" (.double (0 : UInt64)) := (F_runtimeShape_b.ext E20)
  have F24 : Fld Z h20 b "com/example/even_keel/evenkeel/estimation/DurationCost" "overheadShape" "D" (.double (0 : UInt64)) := (F_overheadShape_b.ext E20)
  have F25 : Fld Z h20 b "com/example/even_keel/evenkeel/estimation/DurationCost" "scale" "D" (.double (0 : UInt64)) := (F_scale_b.ext E20)
  have F26 : Fld Z h20 b "com/example/even_keel/evenkeel/estimation/DurationCost" "failures" "Lcom/example/even_keel/evenkeel/failures/WeibullDistribution;" .null := (F_failures_b.ext E20)
  have K27 : Keep h0 h20 [b] := (Keep.refl h0 _).ext E20
  have pre28 : ∀ t, Steps p.tables e below (T20.setTop (mkF m 6 #[.val (.ref b), .val (.double u1), .second, .val (.double u2), .second, .val (.double u3), .second, .val (.ref b2)] [(.ref a20)])) t → Steps p.tables e below (s₁.setTop (entryFrame m #[(.ref b), (.double u1), (.double u2), (.double u3), (.ref b2)] 8)) t := fun t kk => pre19 t (by
      show Steps p.tables e below (T18.setTop (mkF m 4 #[.val (.ref b), .val (.double u1), .second, .val (.double u2), .second, .val (.double u3), .second, .val (.ref b2)] [])) _
      refine st20 _ ?_
      exact kk)
  have hZ := hZ20
  have hown := ho20
  have hp30 : cmpValue (FP.dcmp u1 FP.dconst0) .l = 1 := hu11
  have hp31 : cmpValue (FP.dcmp u1 (9218868437227405312 : UInt64)) .g = -1 := hu12
  obtain ⟨_, _, ⟨T29, L29, k29, n29⟩, -, X29, ⟨Lc29, hQ29, l29, y29, z29⟩, st29⟩ := Jvm.LawKit.callS X20 hx (y := (⟨"com/example/even_keel/evenkeel/estimation/Parameters", "requirePositive", "(Ljava/lang/String;D)V"⟩ : MethodName)) hown (mvT hZ (hw _ (List.mem_of_getElem? (i := 35) rfl))) (mvT hZ (hw _ (List.mem_of_getElem? (i := 36) rfl))) (mvT hZ (hw _ (List.mem_of_getElem? (i := 37) rfl))) (mvT hZ (hw _ (List.mem_of_getElem? (i := 38) rfl))) (by decide) (backOf (W := 0) (rmReq l Z a0 hw [] a20 u1 h20 n0 (Nat.le_trans Z0 K27.1) hp30 hp31) hZ (hw _ (List.mem_of_getElem? (i := 38) rfl)) (hw _ (List.mem_of_getElem? (i := 37) rfl)) (by decide) (by decide)) (g := (mkF m 7 #[.val (.ref b), .val (.double u1), .second, .val (.double u2), .second, .val (.double u3), .second, .val (.ref b2)] [(.double u1), (.ref a20)])) rfl (by rw [hml]; rfl) (argsL := [(.ref a20), (.double u1)]) (rest := []) (lenOf pd_1 rfl) rfl (by show 2 * 0 + _ ≤ _; exact Nat.le_of_eq rfl) (hb hby d4_7) (fun _ _ => ⟨rfl, e20, (by decide : 2 + 0 ≤ _), (by decide : 72 + 0 ≤ _)⟩)
  dsimp only [Pt.U, Pt.locs, Pt.cells, Pt.slots] at X29 l29 y29 z29 st29 hQ29
  rw [l29, y29, z29] at X29
  replace X29 := own_std X29 (cc := 2) (ss := 72) rfl rfl
  obtain ⟨rfl, N29q, e29⟩ := hQ29
  have N29 := Fr.app N18 N29q
  have pre32 : ∀ t, Steps p.tables e below (T29.setTop (mkF m 10 #[.val (.ref b), .val (.double u1), .second, .val (.double u2), .second, .val (.double u3), .second, .val (.ref b2)] [])) t → Steps p.tables e below (s₁.setTop (entryFrame m #[(.ref b), (.double u1), (.double u2), (.double u3), (.ref b2)] 8)) t := fun t kk => pre28 t (by
      show Steps p.tables e below (T20.setTop (mkF m 6 #[.val (.ref b), .val (.double u1), .second, .val (.double u2), .second, .val (.double u3), .second, .val (.ref b2)] [(.ref a20)])) _
      refine XS.dloadN X20.here hx rfl (hb hby d4_6) rfl ?_
      show Steps p.tables e below (T20.setTop (mkF m 7 #[.val (.ref b), .val (.double u1), .second, .val (.double u2), .second, .val (.double u3), .second, .val (.ref b2)] [(.double u1), (.ref a20)])) _
      refine st29 _ ?_
      exact kk)
  obtain ⟨a33, T33, h33, k33, X33, e33, E33, hS33, hk33, hZ33, ho33, st33⟩ := ldcS (s := s) (vm0 := T20.vm) X29 hx hZ hown (hw _ (List.mem_of_getElem? (i := 40) rfl)) (own_sat hw) e29 hS20 hk20 (g := (mkF m 10 #[.val (.ref b), .val (.double u1), .second, .val (.double u2), .second, .val (.double u3), .second, .val (.ref b2)] [])) rfl (hb hby d4_10) (n := 72) (by decide) (by decide) (by decide) (by decide)
  have Ex34 : Exa Z h33 b "com/example/even_keel/evenkeel/estimation/DurationCost" := (Ex21.ext E33)
  have Ex35 : Exa Z h33 b2 "com/example/even_keel/evenkeel/failures/WeibullDistribution" := (Ex22.ext E33)
  have F36 : Fld Z h33 b "com/example/even_keel/evenkeel/estimation/DurationCost" "runtimeShape" "D" (.double (0 : UInt64)) := (F23.ext E33)
  have F37 : Fld Z h33 b "com/example/even_keel/evenkeel/estimation/DurationCost" "overheadShape" "D" (.double (0 : UInt64)) := (F24.ext E33)
  have F38 : Fld Z h33 b "com/example/even_keel/evenkeel/estimation/DurationCost" "scale" "D" (.double (0 : UInt64)) := (F25.ext E33)
  have F39 : Fld Z h33 b "com/example/even_keel/evenkeel/estimation/DurationCost" "failures" "Lcom/example/even_keel/evenkeel/failures/WeibullDistribution;" .null := (F26.ext E33)
  have K40 : Keep h0 h33 [b] := K27.ext E33
  have pre41 : ∀ t, Steps p.tables e below (T33.setTop (mkF m 12 #[.val (.ref b), .val (.double u1), .second, .val (.double u2), .second, .val (.double u3), .second, .val (.ref b2)] [(.ref a33)])) t → Steps p.tables e below (s₁.setTop (entryFrame m #[(.ref b), (.double u1), (.double u2), (.double u3), (.ref b2)] 8)) t := fun t kk => pre32 t (by
      show Steps p.tables e below (T29.setTop (mkF m 10 #[.val (.ref b), .val (.double u1), .second, .val (.double u2), .second, .val (.double u3), .second, .val (.ref b2)] [])) _
      refine st33 _ ?_
      exact kk)
  have hZ := hZ33
  have hown := ho33
  have hp43 : cmpValue (FP.dcmp u2 FP.dconst0) .l = 1 := hu21
  have hp44 : cmpValue (FP.dcmp u2 (9218868437227405312 : UInt64)) .g = -1 := hu22
  obtain ⟨_, _, ⟨T42, L42, k42, n42⟩, -, X42, ⟨Lc42, hQ42, l42, y42, z42⟩, st42⟩ := Jvm.LawKit.callS X33 hx (y := (⟨"com/example/even_keel/evenkeel/estimation/Parameters", "requirePositive", "(Ljava/lang/String;D)V"⟩ : MethodName)) hown (mvT hZ (hw _ (List.mem_of_getElem? (i := 35) rfl))) (mvT hZ (hw _ (List.mem_of_getElem? (i := 36) rfl))) (mvT hZ (hw _ (List.mem_of_getElem? (i := 37) rfl))) (mvT hZ (hw _ (List.mem_of_getElem? (i := 38) rfl))) (by decide) (backOf (W := 0) (rmReq l Z a0 hw [] a33 u2 h33 n0 (Nat.le_trans Z0 K40.1) hp43 hp44) hZ (hw _ (List.mem_of_getElem? (i := 38) rfl)) (hw _ (List.mem_of_getElem? (i := 37) rfl)) (by decide) (by decide)) (g := (mkF m 13 #[.val (.ref b), .val (.double u1), .second, .val (.double u2), .second, .val (.double u3), .second, .val (.ref b2)] [(.double u2), (.ref a33)])) rfl (by rw [hml]; rfl) (argsL := [(.ref a33), (.double u2)]) (rest := []) (lenOf pd_1 rfl) rfl (by show 2 * 0 + _ ≤ _; exact Nat.le_of_eq rfl) (hb hby d4_13) (fun _ _ => ⟨rfl, e33, (by decide : 4 + 0 ≤ _), (by decide : 148 + 0 ≤ _)⟩)
  dsimp only [Pt.U, Pt.locs, Pt.cells, Pt.slots] at X42 l42 y42 z42 st42 hQ42
  rw [l42, y42, z42] at X42
  replace X42 := own_std X42 (cc := 4) (ss := 148) rfl rfl
  obtain ⟨rfl, N42q, e42⟩ := hQ42
  have N42 := Fr.app N29 N42q
  have pre45 : ∀ t, Steps p.tables e below (T42.setTop (mkF m 34 #[.val (.ref b), .val (.double u1), .second, .val (.double u2), .second, .val (.double u3), .second, .val (.ref b2)] [])) t → Steps p.tables e below (s₁.setTop (entryFrame m #[(.ref b), (.double u1), (.double u2), (.double u3), (.ref b2)] 8)) t := fun t kk => pre41 t (by
      show Steps p.tables e below (T33.setTop (mkF m 12 #[.val (.ref b), .val (.double u1), .second, .val (.double u2), .second, .val (.double u3), .second, .val (.ref b2)] [(.ref a33)])) _
      refine XS.dloadN X33.here hx rfl (hb hby d4_12) rfl ?_
      show Steps p.tables e below (T33.setTop (mkF m 13 #[.val (.ref b), .val (.double u1), .second, .val (.double u2), .second, .val (.double u3), .second, .val (.ref b2)] [(.double u2), (.ref a33)])) _
      refine st42 _ ?_
      show Steps p.tables e below (T42.setTop (mkF m 16 #[.val (.ref b), .val (.double u1), .second, .val (.double u2), .second, .val (.double u3), .second, .val (.ref b2)] [])) _
      refine XS.dloadN X42.here hx rfl (hb hby d4_16) rfl ?_
      show Steps p.tables e below (T42.setTop (mkF m 17 #[.val (.ref b), .val (.double u1), .second, .val (.double u2), .second, .val (.double u3), .second, .val (.ref b2)] [(.double u1)])) _
      refine XS.dloadN X42.here hx rfl (hb hby d4_17) rfl ?_
      show Steps p.tables e below (T42.setTop (mkF m 18 #[.val (.ref b), .val (.double u1), .second, .val (.double u2), .second, .val (.double u3), .second, .val (.ref b2)] [(.double u2), (.double u1)])) _
      refine XS.daddS X42.here hx rfl (hb hby d4_18) rfl hsn rfl ?_
      show Steps p.tables e below (T42.setTop (mkF m 19 #[.val (.ref b), .val (.double u1), .second, .val (.double u2), .second, .val (.double u3), .second, .val (.ref b2)] [(.double (FP.dadd u1 u2))])) _
      refine XS.dconst1 X42.here hx rfl (hb hby d4_19) rfl ?_
      show Steps p.tables e below (T42.setTop (mkF m 20 #[.val (.ref b), .val (.double u1), .second, .val (.double u2), .second, .val (.double u3), .second, .val (.ref b2)] [(.double FP.dconst1), (.double (FP.dadd u1 u2))])) _
      refine XS.dcmpS X42.here hx rfl (hb hby d4_20) rfl (v := (1 : Int32)) hs1 ?_
      show Steps p.tables e below (T42.setTop (mkF m 21 #[.val (.ref b), .val (.double u1), .second, .val (.double u2), .second, .val (.double u3), .second, .val (.ref b2)] [(.int (1 : Int32))])) _
      refine XS.ifYes X42.here hx rfl (pc0 := 21) (pc' := 34) rfl (hb hby d4_21) rfl ((if0 _ _).trans (tlt (by decide : (0 : Int32) < (1 : Int32))).2.2.1) (by decide) (by decide) ?_
      exact kk)
  obtain ⟨a46, T46, h46, k46, X46, e46, E46, hS46, hk46, hZ46, ho46, st46⟩ := ldcS (s := s) (vm0 := T33.vm) X42 hx hZ hown (hw _ (List.mem_of_getElem? (i := 41) rfl)) (own_sat hw) e42 hS33 hk33 (g := (mkF m 34 #[.val (.ref b), .val (.double u1), .second, .val (.double u2), .second, .val (.double u3), .second, .val (.ref b2)] [])) rfl (hb hby d4_34) (n := 36) (by decide) (by decide) (by decide) (by decide)
  have Ex47 : Exa Z h46 b "com/example/even_keel/evenkeel/estimation/DurationCost" := (Ex34.ext E46)
  have Ex48 : Exa Z h46 b2 "com/example/even_keel/evenkeel/failures/WeibullDistribution" := (Ex35.ext E46)
  have F49 : Fld Z h46 b "com/example/even_keel/evenkeel/estimation/DurationCost" "runtimeShape" "D" (.double (0 : UInt64)) := (F36.ext E46)
  have F50 : Fld Z h46 b "com/example/even_keel/evenkeel/estimation/DurationCost" "overheadShape" "D" (.double (0 : UInt64)) := (F37.ext E46)
  have F51 : Fld Z h46 b "com/example/even_keel/evenkeel/estimation/DurationCost" "scale" "D" (.double (0 : UInt64)) := (F38.ext E46)
  have F52 : Fld Z h46 b "com/example/even_keel/evenkeel/estimation/DurationCost" "failures" "Lcom/example/even_keel/evenkeel/failures/WeibullDistribution;" .null := (F39.ext E46)
  have K53 : Keep h0 h46 [b] := K40.ext E46
  have pre54 : ∀ t, Steps p.tables e below (T46.setTop (mkF m 36 #[.val (.ref b), .val (.double u1), .second, .val (.double u2), .second, .val (.double u3), .second, .val (.ref b2)] [(.ref a46)])) t → Steps p.tables e below (s₁.setTop (entryFrame m #[(.ref b), (.double u1), (.double u2), (.double u3), (.ref b2)] 8)) t := fun t kk => pre45 t (by
      show Steps p.tables e below (T42.setTop (mkF m 34 #[.val (.ref b), .val (.double u1), .second, .val (.double u2), .second, .val (.double u3), .second, .val (.ref b2)] [])) _
      refine st46 _ ?_
      exact kk)
  have hZ := hZ46
  have hown := ho46
  have hp56 : cmpValue (FP.dcmp u3 FP.dconst0) .l = 1 := hu31
  have hp57 : cmpValue (FP.dcmp u3 (9218868437227405312 : UInt64)) .g = -1 := hu32
  obtain ⟨_, _, ⟨T55, L55, k55, n55⟩, -, X55, ⟨Lc55, hQ55, l55, y55, z55⟩, st55⟩ := Jvm.LawKit.callS X46 hx (y := (⟨"com/example/even_keel/evenkeel/estimation/Parameters", "requirePositive", "(Ljava/lang/String;D)V"⟩ : MethodName)) hown (mvT hZ (hw _ (List.mem_of_getElem? (i := 35) rfl))) (mvT hZ (hw _ (List.mem_of_getElem? (i := 36) rfl))) (mvT hZ (hw _ (List.mem_of_getElem? (i := 37) rfl))) (mvT hZ (hw _ (List.mem_of_getElem? (i := 38) rfl))) (by decide) (backOf (W := 0) (rmReq l Z a0 hw [] a46 u3 h46 n0 (Nat.le_trans Z0 K53.1) hp56 hp57) hZ (hw _ (List.mem_of_getElem? (i := 38) rfl)) (hw _ (List.mem_of_getElem? (i := 37) rfl)) (by decide) (by decide)) (g := (mkF m 38 #[.val (.ref b), .val (.double u1), .second, .val (.double u2), .second, .val (.double u3), .second, .val (.ref b2)] [(.double u3), (.ref a46)])) rfl (by rw [hml]; rfl) (argsL := [(.ref a46), (.double u3)]) (rest := []) (lenOf pd_1 rfl) rfl (by show 2 * 0 + _ ≤ _; exact Nat.le_of_eq rfl) (hb hby d4_38) (fun _ _ => ⟨rfl, e46, (by decide : 6 + 0 ≤ _), (by decide : 188 + 0 ≤ _)⟩)
  dsimp only [Pt.U, Pt.locs, Pt.cells, Pt.slots] at X55 l55 y55 z55 st55 hQ55
  rw [l55, y55, z55] at X55
  replace X55 := own_std X55 (cc := 6) (ss := 188) rfl rfl
  obtain ⟨rfl, N55q, e55⟩ := hQ55
  have N55 := Fr.app N42 N55q
  obtain ⟨T58, h58, X58, e58, W58, st58⟩ := putF X55 hx hZ hown (host := "") (Or.inl (hw _ (List.mem_of_getElem? (i := 42) rfl))) Via.refl e55 F49 Ex47 (Or.inr ⟨(hw _ (List.mem_of_getElem? (i := 43) rfl)), rfl, hnm⟩) (hw _ (List.mem_of_getElem? (i := 2) rfl)) (ty := .double) (by decide) rfl rfl (g := (mkF m 43 #[.val (.ref b), .val (.double u1), .second, .val (.double u2), .second, .val (.double u3), .second, .val (.ref b2)] [(.double u1), (.ref b)])) rfl rfl (hb hby d4_43)
  have hk59 := Nat.le_trans hk46 (Nat.le_of_eq W58.size.symm)
  have Ex60 : Exa Z h58 b "com/example/even_keel/evenkeel/estimation/DurationCost" := (Ex47.wr W58)
  have Ex61 : Exa Z h58 b2 "com/example/even_keel/evenkeel/failures/WeibullDistribution" := (Ex48.wr W58)
  have F62 : Fld Z h58 b "com/example/even_keel/evenkeel/estimation/DurationCost" "overheadShape" "D" (.double (0 : UInt64)) := (F50.other W58 (Or.inr (slot_ne (Or.inr (hw _ (List.mem_of_getElem? (i := 45) rfl))) (Or.inr (hw _ (List.mem_of_getElem? (i := 43) rfl))) (by decide) (t := .double) (t' := .double) (by decide) (by decide))))
  have F63 : Fld Z h58 b "com/example/even_keel/evenkeel/estimation/DurationCost" "scale" "D" (.double (0 : UInt64)) := (F51.other W58 (Or.inr (slot_ne (Or.inr (hw _ (List.mem_of_getElem? (i := 47) rfl))) (Or.inr (hw _ (List.mem_of_getElem? (i := 43) rfl))) (by decide) (t := .double) (t' := .double) (by decide) (by decide))))
  have F64 : Fld Z h58 b "com/example/even_keel/evenkeel/estimation/DurationCost" "failures" "Lcom/example/even_keel/evenkeel/failures/WeibullDistribution;" .null := (F52.other W58 (Or.inr (slot_ne (Or.inr (hw _ (List.mem_of_getElem? (i := 49) rfl))) (Or.inr (hw _ (List.mem_of_getElem? (i := 43) rfl))) (by decide) (t := (.object "com/example/even_keel/evenkeel/failures/WeibullDistribution")) (t' := .double) (by decide) (by decide))))
  have K65 : Keep h0 h58 [b] := K53.wr W58 (Or.inl (List.mem_of_getElem? (i := 0) rfl))
  have N66 := Fr.snoc X58 N55 g_b
  have F67 : Fld Z h58 b "com/example/even_keel/evenkeel/estimation/DurationCost" "runtimeShape" "D" (.double u1) := F49.same W58
  obtain ⟨T68, h68, X68, e68, W68, st68⟩ := putF X58 hx hZ hown (host := "") (Or.inl (hw _ (List.mem_of_getElem? (i := 44) rfl))) Via.refl e58 F62 Ex60 (Or.inr ⟨(hw _ (List.mem_of_getElem? (i := 45) rfl)), rfl, hnm⟩) (hw _ (List.mem_of_getElem? (i := 2) rfl)) (ty := .double) (by decide) rfl rfl (g := (mkF m 48 #[.val (.ref b), .val (.double u1), .second, .val (.double u2), .second, .val (.double u3), .second, .val (.ref b2)] [(.double u2), (.ref b)])) rfl rfl (hb hby d4_48)
  have hk69 := Nat.le_trans hk59 (Nat.le_of_eq W68.size.symm)
  have Ex70 : Exa Z h68 b "com/example/even_keel/evenkeel/estimation/DurationCost" := (Ex60.wr W68)
  have Ex71 : Exa Z h68 b2 "com/example/even_keel/evenkeel/failures/WeibullDistribution" := (Ex61.wr W68)
  have F72 : Fld Z h68 b "com/example/even_keel/evenkeel/estimation/DurationCost" "scale" "D" (.double (0 : UInt64)) := (F63.other W68 (Or.inr (slot_ne (Or.inr (hw _ (List.mem_of_getElem? (i := 47) rfl))) (Or.inr (hw _ (List.mem_of_getElem? (i := 45) rfl))) (by decide) (t := .double) (t' := .double) (by decide) (by decide))))
  have F73 : Fld Z h68 b "com/example/even_keel/evenkeel/estimation/DurationCost" "failures" "Lcom/example/even_keel/evenkeel/failures/WeibullDistribution;" .null := (F64.other W68 (Or.inr (slot_ne (Or.inr (hw _ (List.mem_of_getElem? (i := 49) rfl))) (Or.inr (hw _ (List.mem_of_getElem? (i := 45) rfl))) (by decide) (t := (.object "com/example/even_keel/evenkeel/failures/WeibullDistribution")) (t' := .double) (by decide) (by decide))))
  have F74 : Fld Z h68 b "com/example/even_keel/evenkeel/estimation/DurationCost" "runtimeShape" "D" (.double u1) := (F67.other W68 (Or.inr (slot_ne (Or.inr (hw _ (List.mem_of_getElem? (i := 43) rfl))) (Or.inr (hw _ (List.mem_of_getElem? (i := 45) rfl))) (by decide) (t := .double) (t' := .double) (by decide) (by decide))))
  have K75 : Keep h0 h68 [b] := K65.wr W68 (Or.inl (List.mem_of_getElem? (i := 0) rfl))
  have N76 := Fr.snoc X68 N66 g_b
  have F77 : Fld Z h68 b "com/example/even_keel/evenkeel/estimation/DurationCost" "overheadShape" "D" (.double u2) := F62.same W68
  obtain ⟨T78, h78, X78, e78, W78, st78⟩ := putF X68 hx hZ hown (host := "") (Or.inl (hw _ (List.mem_of_getElem? (i := 46) rfl))) Via.refl e68 F72 Ex70 (Or.inr ⟨(hw _ (List.mem_of_getElem? (i := 47) rfl)), rfl, hnm⟩) (hw _ (List.mem_of_getElem? (i := 2) rfl)) (ty := .double) (by decide) rfl rfl (g := (mkF m 54 #[.val (.ref b), .val (.double u1), .second, .val (.double u2), .second, .val (.double u3), .second, .val (.ref b2)] [(.double u3), (.ref b)])) rfl rfl (hb hby d4_54)
  have hk79 := Nat.le_trans hk69 (Nat.le_of_eq W78.size.symm)
  have Ex80 : Exa Z h78 b "com/example/even_keel/evenkeel/estimation/DurationCost" := (Ex70.wr W78)
  have Ex81 : Exa Z h78 b2 "com/example/even_keel/evenkeel/failures/WeibullDistribution" := (Ex71.wr W78)
  have F82 : Fld Z h78 b "com/example/even_keel/evenkeel/estimation/DurationCost" "failures" "Lcom/example/even_keel/evenkeel/failures/WeibullDistribution;" .null := (F73.other W78 (Or.inr (slot_ne (Or.inr (hw _ (List.mem_of_getElem? (i := 49) rfl))) (Or.inr (hw _ (List.mem_of_getElem? (i := 47) rfl))) (by decide) (t := (.object "com/example/even_keel/evenkeel/failures/WeibullDistribution")) (t' := .double) (by decide) (by decide))))
  have F83 : Fld Z h78 b "com/example/even_keel/evenkeel/estimation/DurationCost" "runtimeShape" "D" (.double u1) := (F74.other W78 (Or.inr (slot_ne (Or.inr (hw _ (List.mem_of_getElem? (i := 43) rfl))) (Or.inr (hw _ (List.mem_of_getElem? (i := 47) rfl))) (by decide) (t := .double) (t' := .double) (by decide) (by decide))))
  have F84 : Fld Z h78 b "com/example/even_keel/evenkeel/estimation/DurationCost" "overheadShape" "D" (.double u2) := (F77.other W78 (Or.inr (slot_ne (Or.inr (hw _ (List.mem_of_getElem? (i := 45) rfl))) (Or.inr (hw _ (List.mem_of_getElem? (i := 47) rfl))) (by decide) (t := .double) (t' := .double) (by decide) (by decide))))
  have K85 : Keep h0 h78 [b] := K75.wr W78 (Or.inl (List.mem_of_getElem? (i := 0) rfl))
  have N86 := Fr.snoc X78 N76 g_b
  have F87 : Fld Z h78 b "com/example/even_keel/evenkeel/estimation/DurationCost" "scale" "D" (.double u3) := F72.same W78
  obtain ⟨T88, h88, X88, e88, W88, st88⟩ := putF X78 hx hZ hown (host := "") (Or.inl (hw _ (List.mem_of_getElem? (i := 48) rfl))) Via.refl e78 F82 Ex80 (Or.inr ⟨(hw _ (List.mem_of_getElem? (i := 49) rfl)), rfl, hnm⟩) (hw _ (List.mem_of_getElem? (i := 2) rfl)) (ty := (.object "com/example/even_keel/evenkeel/failures/WeibullDistribution")) (by decide) rfl rfl (g := (mkF m 60 #[.val (.ref b), .val (.double u1), .second, .val (.double u2), .second, .val (.double u3), .second, .val (.ref b2)] [(.ref b2), (.ref b)])) rfl rfl (hb hby d4_60)
  have hk89 := Nat.le_trans hk79 (Nat.le_of_eq W88.size.symm)
  have Ex90 : Exa Z h88 b "com/example/even_keel/evenkeel/estimation/DurationCost" := (Ex80.wr W88)
  have Ex91 : Exa Z h88 b2 "com/example/even_keel/evenkeel/failures/WeibullDistribution" := (Ex81.wr W88)
  have F92 : Fld Z h88 b "com/example/even_keel/evenkeel/estimation/DurationCost" "runtimeShape" "D" (.double u1) := (F83.other W88 (Or.inr (slot_ne (Or.inr (hw _ (List.mem_of_getElem? (i := 43) rfl))) (Or.inr (hw _ (List.mem_of_getElem? (i := 49) rfl))) (by decide) (t := .double) (t' := (.object "com/example/even_keel/evenkeel/failures/WeibullDistribution")) (by decide) (by decide))))
  have F93 : Fld Z h88 b "com/example/even_keel/evenkeel/estimation/DurationCost" "overheadShape" "D" (.double u2) := (F84.other W88 (Or.inr (slot_ne (Or.inr (hw _ (List.mem_of_getElem? (i := 45) rfl))) (Or.inr (hw _ (List.mem_of_getElem? (i := 49) rfl))) (by decide) (t := .double) (t' := (.object "com/example/even_keel/evenkeel/failures/WeibullDistribution")) (by decide) (by decide))))
  have F94 : Fld Z h88 b "com/example/even_keel/evenkeel/estimation/DurationCost" "scale" "D" (.double u3) := (F87.other W88 (Or.inr (slot_ne (Or.inr (hw _ (List.mem_of_getElem? (i := 47) rfl))) (Or.inr (hw _ (List.mem_of_getElem? (i := 49) rfl))) (by decide) (t := .double) (t' := (.object "com/example/even_keel/evenkeel/failures/WeibullDistribution")) (by decide) (by decide))))
  have K95 : Keep h0 h88 [b] := K85.wr W88 (Or.inl (List.mem_of_getElem? (i := 0) rfl))
  have N96 := Fr.snoc X88 N86 g_b
  have F97 : Fld Z h88 b "com/example/even_keel/evenkeel/estimation/DurationCost" "failures" "Lcom/example/even_keel/evenkeel/failures/WeibullDistribution;" (.ref b2) := F82.same W88
  have pre98 : ∀ t, Steps p.tables e below (T88.setTop (mkF m 63 #[.val (.ref b), .val (.double u1), .second, .val (.double u2), .second, .val (.double u3), .second, .val (.ref b2)] [])) t → Steps p.tables e below (s₁.setTop (entryFrame m #[(.ref b), (.double u1), (.double u2), (.double u3), (.ref b2)] 8)) t := fun t kk => pre54 t (by
      show Steps p.tables e below (T46.setTop (mkF m 36 #[.val (.ref b), .val (.double u1), .second, .val (.double u2), .second, .val (.double u3), .second, .val (.ref b2)] [(.ref a46)])) _
      refine XS.dload X46.here hx rfl (hb hby d4_36) rfl ?_
      show Steps p.tables e below (T46.setTop (mkF m 38 #[.val (.ref b), .val (.double u1), .second, .val (.double u2), .second, .val (.double u3), .second, .val (.ref b2)] [(.double u3), (.ref a46)])) _
      refine st55 _ ?_
      show Steps p.tables e below (T55.setTop (mkF m 41 #[.val (.ref b), .val (.double u1), .second, .val (.double u2), .second, .val (.double u3), .second, .val (.ref b2)] [])) _
      refine XS.aloadN X55.here hx rfl (hb hby d4_41) rfl rfl ?_
      show Steps p.tables e below (T55.setTop (mkF m 42 #[.val (.ref b), .val (.double u1), .second, .val (.double u2), .second, .val (.double u3), .second, .val (.ref b2)] [(.ref b)])) _
      refine XS.dloadN X55.here hx rfl (hb hby d4_42) rfl ?_
      show Steps p.tables e below (T55.setTop (mkF m 43 #[.val (.ref b), .val (.double u1), .second, .val (.double u2), .second, .val (.double u3), .second, .val (.ref b2)] [(.double u1), (.ref b)])) _
      refine st58 _ ?_
      show Steps p.tables e below (T58.setTop (mkF m 46 #[.val (.ref b), .val (.double u1), .second, .val (.double u2), .second, .val (.double u3), .second, .val (.ref b2)] [])) _
      refine XS.aloadN X58.here hx rfl (hb hby d4_46) rfl rfl ?_
      show Steps p.tables e below (T58.setTop (mkF m 47 #[.val (.ref b), .val (.double u1), .second, .val (.double u2), .second, .val (.double u3), .second, .val (.ref b2)] [(.ref b)])) _
      refine XS.dloadN X58.here hx rfl (hb hby d4_47) rfl ?_
      show Steps p.tables e below (T58.setTop (mkF m 48 #[.val (.ref b), .val (.double u1), .second, .val (.double u2), .second, .val (.double u3), .second, .val (.ref b2)] [(.double u2), (.ref b)])) _
      refine st68 _ ?_
      show Steps p.tables e below (T68.setTop (mkF m 51 #[.val (.ref b), .val (.double u1), .second, .val (.double u2), .second, .val (.double u3), .second, .val (.ref b2)] [])) _
      refine XS.aloadN X68.here hx rfl (hb hby d4_51) rfl rfl ?_
      show Steps p.tables e below (T68.setTop (mkF m 52 #[.val (.ref b), .val (.double u1), .second, .val (.double u2), .second, .val (.double u3), .second, .val (.ref b2)] [(.ref b)])) _
      refine XS.dload X68.here hx rfl (hb hby d4_52) rfl ?_
      show Steps p.tables e below (T68.setTop (mkF m 54 #[.val (.ref b), .val (.double u1), .second, .val (.double u2), .second, .val (.double u3), .second, .val (.ref b2)] [(.double u3), (.ref b)])) _
      refine st78 _ ?_
      show Steps p.tables e below (T78.setTop (mkF m 57 #[.val (.ref b), .val (.double u1), .second, .val (.double u2), .second, .val (.double u3), .second, .val (.ref b2)] [])) _
      refine XS.aloadN X78.here hx rfl (hb hby d4_57) rfl rfl ?_
      show Steps p.tables e below (T78.setTop (mkF m 58 #[.val (.ref b), .val (.double u1), .second, .val (.double u2), .second, .val (.double u3), .second, .val (.ref b2)] [(.ref b)])) _
      refine XS.aload X78.here hx rfl (hb hby d4_58) rfl rfl ?_
      show Steps p.tables e below (T78.setTop (mkF m 60 #[.val (.ref b), .val (.double u1), .second, .val (.double u2), .second, .val (.double u3), .second, .val (.ref b2)] [(.ref b2), (.ref b)])) _
      refine st88 _ ?_
      exact kk)
  obtain ⟨fs, hr, hrun, hended, hRE⟩ := X88.leaveW (s := s) hS46 (by rw [e88]; exact hk89) (v := none) (fun _ => rfl)
  refine ⟨_, _, pre98 _ ?_, hrun, hended, _, _, rfl, ?_, own_rew hRE (by decide) (by decide)⟩
  · show Steps p.tables e below (T88.setTop (mkF m 63 #[.val (.ref b), .val (.double u1), .second, .val (.double u2), .second, .val (.double u3), .second, .val (.ref b2)] [])) _
    exact X88.returnOut hx Bd.returns (hb hby d4_63) hr
  · show QCost Z b u1 u2 u3 b2 h0 n0 _ T88.heap _
    rw [e88]
    exact ⟨rfl, N96, K95, Ex90, F92, F93, F94⟩
theorem d6_0 : decode prog_55_method_2_code 0 = .ok (.iload_n 1, 1) := by decide +kernel
theorem d6_1 : decode prog_55_method_2_code 1 = .ok (.i2d, 1) := by decide +kernel
theorem d6_2 : decode prog_55_method_2_code 2 = .ok (.aload_n 0, 1) := by decide +kernel
theorem d6_3 : decode prog_55_method_2_code 3 = .ok (.getfield 26, 3) := by decide +kernel
theorem d6_6 : decode prog_55_method_2_code 6 = .ok (.dmul, 1) := by decide +kernel
theorem d6_7 : decode prog_55_method_2_code 7 = .ok (.aload_n 0, 1) := by decide +kernel
theorem d6_8 : decode prog_55_method_2_code 8 = .ok (.getfield 32, 3) := by decide +kernel
theorem d6_11 : decode prog_55_method_2_code 11 = .ok (.dadd, 1) := by decide +kernel
theorem d6_12 : decode prog_55_method_2_code 12 = .ok (.dconst 1, 1) := by decide +kernel
theorem d6_13 : decode prog_55_method_2_code 13 = .ok (.dsub, 1) := by decide +kernel
theorem d6_14 : decode prog_55_method_2_code 14 = .ok (.aload_n 0, 1) := by decide +kernel
theorem d6_15 : decode prog_55_method_2_code 15 = .ok (.getfield 35, 3) := by decide +kernel
theorem d6_18 : decode prog_55_method_2_code 18 = .ok (.dmul, 1) := by decide +kernel
theorem d6_19 : decode prog_55_method_2_code 19 = .ok (.dreturn, 1) := by decide +kernel
theorem ef_rmDur (m : MethodId) (x0 : Addr) (x1 : Int32) : entryFrame m #[(.ref x0), (.int x1)] 2 = mkF m 0 #[.val (.ref x0), .val (.int x1)] [] := by first | (simp [entryFrame, mkF, argsToLocals, Value.category]; done) | rfl
def QDur (Z : State) (b : Addr) (k1 : Int32) (u1 : UInt64) (u2 : UInt64) (u3 : UInt64) (h0 : Heap) (n0 : Nat) (v : Option Value) (h : Heap) (L : List Loc) : Prop := v = some (.double (FP.dmul (FP.dsub (FP.dadd (FP.dmul (FP.i2d k1) u1) u2) FP.dconst1) u3)) ∧ Fr n0 L ∧ h = h0
set_option maxRecDepth 65536 in
set_option maxHeartbeats 40000000 in
theorem rmDur (l : Launch) (Z : State) (a0 : Array Value) (hw : ∀ d ∈ tables_1, d.before a0 Z = true) (ws : List Jvm.Cond) (b : Addr) (k1 : Int32) (u1 : UInt64) (u2 : UInt64) (u3 : UInt64) (h0 : Heap) (n0 : Nat) (Z0 : n0 ≤ h0.size) (F_runtimeShape_b : Fld Z h0 b "com/example/even_keel/evenkeel/estimation/DurationCost" "runtimeShape" "D" (.double u1)) (F_overheadShape_b : Fld Z h0 b "com/example/even_keel/evenkeel/estimation/DurationCost" "overheadShape" "D" (.double u2)) (F_scale_b : Fld Z h0 b "com/example/even_keel/evenkeel/estimation/DurationCost" "scale" "D" (.double u3)) (hn1 : Jvm.Free.Fl.NoNaN64 (FP.dmul (FP.i2d k1) u1)) (hn2 : Jvm.Free.Fl.NoNaN64 (FP.dadd (FP.dmul (FP.i2d k1) u1) u2)) (hn3 : Jvm.Free.Fl.NoNaN64 (FP.dsub (FP.dadd (FP.dmul (FP.i2d k1) u1) u2) FP.dconst1)) (hn4 : Jvm.Free.Fl.NoNaN64 (FP.dmul (FP.dsub (FP.dadd (FP.dmul (FP.i2d k1) u1) u2) FP.dconst1) u3)) :
    MetFree l (⟨"com/example/even_keel/evenkeel/estimation/DurationCost", "duration", "(I)D"⟩ : MethodName) (head1 (Jvm.Cond.code (⟨"com/example/even_keel/evenkeel/estimation/DurationCost", "duration", "(I)D"⟩ : MethodName) prog_55_method_2_code 2 (some .double) :: ws) ({ frames := 0, cells := 0, slots := 0, locals := 0 } : Room)) (fun aA uU => aA = #[(.ref b), (.int k1)] ∧ Z.Warmed39 uU.vm ∧ uU.heap = h0) (fun _ _ _ _ _ => True) (fun _ uU oO uU' => ∃ vV lL, oO = .returned vV ∧ QDur Z b k1 u1 u2 u3 h0 n0 vV uU'.heap lL ∧ FrameEnd uU oO uU' lL ({ frames := 0, cells := 0, slots := 0, locals := 0 } : Room).cells ({ frames := 0, cells := 0, slots := 0, locals := 0 } : Room).slots) := by
  refine MetFree.of_bodySF (plainFor_of_name pn_3) hisR ?_
  intro p e s m args below meth c s₁ Bd hml0 hP hK
  obtain ⟨rfl, hZ, hh⟩ := hP
  have hx := Bd.exec
  have hby := Bd.bytes
  have hml : c.maxLocals = 2 := hml0
  have hown : s.vm.findClass "com/example/even_keel/evenkeel/estimation/DurationCost" = some m.cls := findClass_of_methodNamed Bd.named
  have hnm := (name_of_methodNamed Bd.named Bd.method).1
  have X0 : Stand p l e ({ frames := 0, cells := 0, slots := 0, locals := 0 } : Room) s m #[(.ref b), (.int k1)] below meth c s₁ [] 0 0 := Stand.of_body Bd
  have e0 : s₁.heap = h0 := by rw [← hh, Bd.state]; rfl
  have N0 := Fr.nil n0
  have pre0 : ∀ t, Steps p.tables e below (s₁.setTop (mkF m 0 #[.val (.ref b), .val (.int k1)] [])) t → Steps p.tables e below (s₁.setTop (entryFrame m #[(.ref b), (.int k1)] 2)) t := fun t kk => castTop (ef_rmDur m b k1) kk
  obtain ⟨T99, X99, e99, st99⟩ := getF X0 hx hZ hown (host := "") (Or.inl (hw _ (List.mem_of_getElem? (i := 42) rfl))) Via.refl e0 F_runtimeShape_b (g := (mkF m 3 #[.val (.ref b), .val (.int k1)] [(.ref b), (.double (FP.i2d k1))])) rfl rfl (hb hby d6_3)
  obtain ⟨T100, X100, e100, st100⟩ := getF X99 hx hZ hown (host := "") (Or.inl (hw _ (List.mem_of_getElem? (i := 44) rfl))) Via.refl e99 F_overheadShape_b (g := (mkF m 8 #[.val (.ref b), .val (.int k1)] [(.ref b), (.double (FP.dmul (FP.i2d k1) u1))])) rfl rfl (hb hby d6_8)
  obtain ⟨T101, X101, e101, st101⟩ := getF X100 hx hZ hown (host := "") (Or.inl (hw _ (List.mem_of_getElem? (i := 46) rfl))) Via.refl e100 F_scale_b (g := (mkF m 15 #[.val (.ref b), .val (.int k1)] [(.ref b), (.double (FP.dsub (FP.dadd (FP.dmul (FP.i2d k1) u1) u2) FP.dconst1))])) rfl rfl (hb hby d6_15)
  have pre102 : ∀ t, Steps p.tables e below (T101.setTop (mkF m 19 #[.val (.ref b), .val (.int k1)] [(.double (FP.dmul (FP.dsub (FP.dadd (FP.dmul (FP.i2d k1) u1) u2) FP.dconst1) u3))])) t → Steps p.tables e below (s₁.setTop (entryFrame m #[(.ref b), (.int k1)] 2)) t := fun t kk => pre0 t (by
      show Steps p.tables e below (s₁.setTop (mkF m 0 #[.val (.ref b), .val (.int k1)] [])) _
      refine XS.iloadN X0.here hx rfl (hb hby d6_0) rfl ?_
      show Steps p.tables e below (s₁.setTop (mkF m 1 #[.val (.ref b), .val (.int k1)] [(.int k1)])) _
      refine XS.i2dS X0.here hx rfl (hb hby d6_1) rfl rfl ?_
      show Steps p.tables e below (s₁.setTop (mkF m 2 #[.val (.ref b), .val (.int k1)] [(.double (FP.i2d k1))])) _
      refine XS.aloadN X0.here hx rfl (hb hby d6_2) rfl rfl ?_
      show Steps p.tables e below (s₁.setTop (mkF m 3 #[.val (.ref b), .val (.int k1)] [(.ref b), (.double (FP.i2d k1))])) _
      refine st99 _ ?_
      show Steps p.tables e below (T99.setTop (mkF m 6 #[.val (.ref b), .val (.int k1)] [(.double u1), (.double (FP.i2d k1))])) _
      refine XS.dmulS X99.here hx rfl (hb hby d6_6) rfl hn1 rfl ?_
      show Steps p.tables e below (T99.setTop (mkF m 7 #[.val (.ref b), .val (.int k1)] [(.double (FP.dmul (FP.i2d k1) u1))])) _
      refine XS.aloadN X99.here hx rfl (hb hby d6_7) rfl rfl ?_
      show Steps p.tables e below (T99.setTop (mkF m 8 #[.val (.ref b), .val (.int k1)] [(.ref b), (.double (FP.dmul (FP.i2d k1) u1))])) _
      refine st100 _ ?_
      show Steps p.tables e below (T100.setTop (mkF m 11 #[.val (.ref b), .val (.int k1)] [(.double u2), (.double (FP.dmul (FP.i2d k1) u1))])) _
      refine XS.daddS X100.here hx rfl (hb hby d6_11) rfl hn2 rfl ?_
      show Steps p.tables e below (T100.setTop (mkF m 12 #[.val (.ref b), .val (.int k1)] [(.double (FP.dadd (FP.dmul (FP.i2d k1) u1) u2))])) _
      refine XS.dconst1 X100.here hx rfl (hb hby d6_12) rfl ?_
      show Steps p.tables e below (T100.setTop (mkF m 13 #[.val (.ref b), .val (.int k1)] [(.double FP.dconst1), (.double (FP.dadd (FP.dmul (FP.i2d k1) u1) u2))])) _
      refine XS.dsubS X100.here hx rfl (hb hby d6_13) rfl hn3 rfl ?_
      show Steps p.tables e below (T100.setTop (mkF m 14 #[.val (.ref b), .val (.int k1)] [(.double (FP.dsub (FP.dadd (FP.dmul (FP.i2d k1) u1) u2) FP.dconst1))])) _
      refine XS.aloadN X100.here hx rfl (hb hby d6_14) rfl rfl ?_
      show Steps p.tables e below (T100.setTop (mkF m 15 #[.val (.ref b), .val (.int k1)] [(.ref b), (.double (FP.dsub (FP.dadd (FP.dmul (FP.i2d k1) u1) u2) FP.dconst1))])) _
      refine st101 _ ?_
      show Steps p.tables e below (T101.setTop (mkF m 18 #[.val (.ref b), .val (.int k1)] [(.double u3), (.double (FP.dsub (FP.dadd (FP.dmul (FP.i2d k1) u1) u2) FP.dconst1))])) _
      refine XS.dmulS X101.here hx rfl (hb hby d6_18) rfl hn4 rfl ?_
      exact kk)
  obtain ⟨fs, hr, hrun, hended, hW, hsame⟩ := X101.leave (v := some (.double (FP.dmul (FP.dsub (FP.dadd (FP.dmul (FP.i2d k1) u1) u2) FP.dconst1) u3))) (fun h => by rw [Bd.returns] at h; cases h)
  refine ⟨_, _, pre102 _ ?_, hrun, hended, _, _, rfl, ?_, ⟨_, rfl⟩, hW, hsame.mono (by decide) (by decide)⟩
  · show Steps p.tables e below (T101.setTop (mkF m 19 #[.val (.ref b), .val (.int k1)] [(.double (FP.dmul (FP.dsub (FP.dadd (FP.dmul (FP.i2d k1) u1) u2) FP.dconst1) u3))])) _
    exact retOut X101 hx Bd.returns rfl (Or.inr (Or.inr (Or.inl ⟨rfl, rfl, _, rfl⟩))) (hb hby d6_19) hr
  · show QDur Z b k1 u1 u2 u3 h0 n0 _ T101.heap _
    rw [e101]
    exact ⟨rfl, N0, rfl⟩
theorem pd_2 : parseMethodDescriptor "(DD)V" = some ⟨[.double, .double], none⟩ := by decide +kernel
theorem pd_3 : parseMethodDescriptor "(DDDLcom/example/even_keel/evenkeel/failures/WeibullDistribution;)V" = some ⟨[.double, .double, .double, (.object "com/example/even_keel/evenkeel/failures/WeibullDistribution")], none⟩ := by decide +kernel
theorem pd_4 : parseMethodDescriptor "(I)D" = some ⟨[.int], some .double⟩ := by decide +kernel
theorem ef_rm0 (m : MethodId) (x0 : Int32) (x1 : Int32) (x2 : Int32) (x3 : Int32) : entryFrame m #[(.int x0), (.int x1), (.int x2), (.int x3)] maxLocals = mkF m 0 #[.val (.int x0), .val (.int x1), .val (.int x2), .val (.int x3), .unset, .unset, .unset, .unset, .unset, .unset, .unset, .unset, .unset, .unset, .unset, .unset, .unset, .unset, .unset, .unset, .unset, .unset] [] := by first | (simp [entryFrame, mkF, argsToLocals, Value.category, maxLocals]; done) | rfl
def Q0 (Z : State) (p0 : Int32) (p1 : Int32) (p2 : Int32) (p3 : Int32) (h0 : Heap) (n0 : Nat) (v : Option Value) (h : Heap) (L : List Loc) : Prop := v = some (.int (1 : Int32)) ∧ Fr n0 L ∧ Keep h0 h []
theorem pn_4 : plainName "com/example/even_keel/evenkeel/estimation/DurationCostDurationPinLaw" = true := by first | (simp [plainName, overriddenIn]; done) | decide +kernel
set_option maxRecDepth 65536 in
set_option maxHeartbeats 40000000 in
theorem rm0 (l : Launch) (Z : State) (a0 : Array Value) (hw : ∀ d ∈ tables_1, d.before a0 Z = true) (ws : List Jvm.Cond) (p0 : Int32) (p1 : Int32) (p2 : Int32) (p3 : Int32) (h0 : Heap) (n0 : Nat) (Z0 : n0 ≤ h0.size)  :
    MetFree l x (head1 (Jvm.Cond.code x code maxLocals ret :: ws) room_1) (fun aA uU => aA = #[(.int p0), (.int p1), (.int p2), (.int p3)] ∧ Z.Warmed39 uU.vm ∧ uU.heap = h0) (fun _ _ _ _ _ => True) (fun _ uU oO uU' => ∃ vV lL, oO = .returned vV ∧ Q0 Z p0 p1 p2 p3 h0 n0 vV uU'.heap lL ∧ ReturnedEndW uU oO uU' lL room_1.cells room_1.slots) := by
  refine MetFree.of_bodySF (plainFor_of_name pn_4) hisR ?_
  intro p e s m args below meth c s₁ Bd hml0 hP hK
  obtain ⟨rfl, hZ, hh⟩ := hP
  have hx := Bd.exec
  have hby := Bd.bytes
  have hml : c.maxLocals = 22 := hml0
  have hown : s.vm.findClass "com/example/even_keel/evenkeel/estimation/DurationCostDurationPinLaw" = some m.cls := findClass_of_methodNamed Bd.named
  have hnm := (name_of_methodNamed Bd.named Bd.method).1
  have X0 : Stand p l e room_1 s m #[(.int p0), (.int p1), (.int p2), (.int p3)] below meth c s₁ [] 0 0 := Stand.of_body Bd
  have e0 : s₁.heap = h0 := by rw [← hh, Bd.state]; rfl
  have N0 := Fr.nil n0
  have pre0 : ∀ t, Steps p.tables e below (s₁.setTop (mkF m 0 #[.val (.int p0), .val (.int p1), .val (.int p2), .val (.int p3), .unset, .unset, .unset, .unset, .unset, .unset, .unset, .unset, .unset, .unset, .unset, .unset, .unset, .unset, .unset, .unset, .unset, .unset] [])) t → Steps p.tables e below (s₁.setTop (entryFrame m #[(.int p0), (.int p1), (.int p2), (.int p3)] maxLocals)) t := fun t kk => castTop (ef_rm0 m p0 p1 p2 p3) kk
  have pre103 : ∀ t, Steps p.tables e below (s₁.setTop (mkF m 27 #[.val (.int p0), .val (.int p1), .val (.int p2), .val (.int p3), .val (.int ((p1 &&& (1023 : Int32)) + (1 : Int32))), .val (.int ((p2 &&& (1023 : Int32)) + (1 : Int32))), .val (.int ((p3 &&& (1023 : Int32)) + (1 : Int32))), .unset, .unset, .unset, .unset, .unset, .unset, .unset, .unset, .unset, .unset, .unset, .unset, .unset, .unset, .unset] [])) t → Steps p.tables e below (s₁.setTop (entryFrame m #[(.int p0), (.int p1), (.int p2), (.int p3)] maxLocals)) t := fun t kk => pre0 t (by
      show Steps p.tables e below (s₁.setTop (mkF m 0 #[.val (.int p0), .val (.int p1), .val (.int p2), .val (.int p3), .unset, .unset, .unset, .unset, .unset, .unset, .unset, .unset, .unset, .unset, .unset, .unset, .unset, .unset, .unset, .unset, .unset, .unset] [])) _
      refine XS.iloadN X0.here hx rfl (hb hby at_0) rfl ?_
      show Steps p.tables e below (s₁.setTop (mkF m 1 #[.val (.int p0), .val (.int p1), .val (.int p2), .val (.int p3), .unset, .unset, .unset, .unset, .unset, .unset, .unset, .unset, .unset, .unset, .unset, .unset, .unset, .unset, .unset, .unset, .unset, .unset] [(.int p1)])) _
      refine XS.sipush X0.here hx rfl (hb hby at_1) ?_
      show Steps p.tables e below (s₁.setTop (mkF m 4 #[.val (.int p0), .val (.int p1), .val (.int p2), .val (.int p3), .unset, .unset, .unset, .unset, .unset, .unset, .unset, .unset, .unset, .unset, .unset, .unset, .unset, .unset, .unset, .unset, .unset, .unset] [(.int (1023 : Int32)), (.int p1)])) _
      refine XS.iand X0.here hx rfl (hb hby at_4) rfl ?_
      show Steps p.tables e below (s₁.setTop (mkF m 5 #[.val (.int p0), .val (.int p1), .val (.int p2), .val (.int p3), .unset, .unset, .unset, .unset, .unset, .unset, .unset, .unset, .unset, .unset, .unset, .unset, .unset, .unset, .unset, .unset, .unset, .unset] [(.int (p1 &&& (1023 : Int32)))])) _
      refine XS.iconst X0.here hx rfl (hb hby at_5) ?_
      show Steps p.tables e below (s₁.setTop (mkF m 6 #[.val (.int p0), .val (.int p1), .val (.int p2), .val (.int p3), .unset, .unset, .unset, .unset, .unset, .unset, .unset, .unset, .unset, .unset, .unset, .unset, .unset, .unset, .unset, .unset, .unset, .unset] [(.int (1 : Int32)), (.int (p1 &&& (1023 : Int32)))])) _
      refine XS.iadd X0.here hx rfl (hb hby at_6) rfl ?_
      show Steps p.tables e below (s₁.setTop (mkF m 7 #[.val (.int p0), .val (.int p1), .val (.int p2), .val (.int p3), .unset, .unset, .unset, .unset, .unset, .unset, .unset, .unset, .unset, .unset, .unset, .unset, .unset, .unset, .unset, .unset, .unset, .unset] [(.int ((p1 &&& (1023 : Int32)) + (1 : Int32)))])) _
      refine XS.istore X0.here hx rfl (hb hby at_7) rfl (l' := #[.val (.int p0), .val (.int p1), .val (.int p2), .val (.int p3), .val (.int ((p1 &&& (1023 : Int32)) + (1 : Int32))), .unset, .unset, .unset, .unset, .unset, .unset, .unset, .unset, .unset, .unset, .unset, .unset, .unset, .unset, .unset, .unset, .unset]) rfl ?_
      show Steps p.tables e below (s₁.setTop (mkF m 9 #[.val (.int p0), .val (.int p1), .val (.int p2), .val (.int p3), .val (.int ((p1 &&& (1023 : Int32)) + (1 : Int32))), .unset, .unset, .unset, .unset, .unset, .unset, .unset, .unset, .unset, .unset, .unset, .unset, .unset, .unset, .unset, .unset, .unset] [])) _
      refine XS.iloadN X0.here hx rfl (hb hby at_9) rfl ?_
      show Steps p.tables e below (s₁.setTop (mkF m 10 #[.val (.int p0), .val (.int p1), .val (.int p2), .val (.int p3), .val (.int ((p1 &&& (1023 : Int32)) + (1 : Int32))), .unset, .unset, .unset, .unset, .unset, .unset, .unset, .unset, .unset, .unset, .unset, .unset, .unset, .unset, .unset, .unset, .unset] [(.int p2)])) _
      refine XS.sipush X0.here hx rfl (hb hby at_10) ?_
      show Steps p.tables e below (s₁.setTop (mkF m 13 #[.val (.int p0), .val (.int p1), .val (.int p2), .val (.int p3), .val (.int ((p1 &&& (1023 : Int32)) + (1 : Int32))), .unset, .unset, .unset, .unset, .unset, .unset, .unset, .unset, .unset, .unset, .unset, .unset, .unset, .unset, .unset, .unset, .unset] [(.int (1023 : Int32)), (.int p2)])) _
      refine XS.iand X0.here hx rfl (hb hby at_13) rfl ?_
      show Steps p.tables e below (s₁.setTop (mkF m 14 #[.val (.int p0), .val (.int p1), .val (.int p2), .val (.int p3), .val (.int ((p1 &&& (1023 : Int32)) + (1 : Int32))), .unset, .unset, .unset, .unset, .unset, .unset, .unset, .unset, .unset, .unset, .unset, .unset, .unset, .unset, .unset, .unset, .unset] [(.int (p2 &&& (1023 : Int32)))])) _
      refine XS.iconst X0.here hx rfl (hb hby at_14) ?_
      show Steps p.tables e below (s₁.setTop (mkF m 15 #[.val (.int p0), .val (.int p1), .val (.int p2), .val (.int p3), .val (.int ((p1 &&& (1023 : Int32)) + (1 : Int32))), .unset, .unset, .unset, .unset, .unset, .unset, .unset, .unset, .unset, .unset, .unset, .unset, .unset, .unset, .unset, .unset, .unset] [(.int (1 : Int32)), (.int (p2 &&& (1023 : Int32)))])) _
      refine XS.iadd X0.here hx rfl (hb hby at_15) rfl ?_
      show Steps p.tables e below (s₁.setTop (mkF m 16 #[.val (.int p0), .val (.int p1), .val (.int p2), .val (.int p3), .val (.int ((p1 &&& (1023 : Int32)) + (1 : Int32))), .unset, .unset, .unset, .unset, .unset, .unset, .unset, .unset, .unset, .unset, .unset, .unset, .unset, .unset, .unset, .unset, .unset] [(.int ((p2 &&& (1023 : Int32)) + (1 : Int32)))])) _
      refine XS.istore X0.here hx rfl (hb hby at_16) rfl (l' := #[.val (.int p0), .val (.int p1), .val (.int p2), .val (.int p3), .val (.int ((p1 &&& (1023 : Int32)) + (1 : Int32))), .val (.int ((p2 &&& (1023 : Int32)) + (1 : Int32))), .unset, .unset, .unset, .unset, .unset, .unset, .unset, .unset, .unset, .unset, .unset, .unset, .unset, .unset, .unset, .unset]) rfl ?_
      show Steps p.tables e below (s₁.setTop (mkF m 18 #[.val (.int p0), .val (.int p1), .val (.int p2), .val (.int p3), .val (.int ((p1 &&& (1023 : Int32)) + (1 : Int32))), .val (.int ((p2 &&& (1023 : Int32)) + (1 : Int32))), .unset, .unset, .unset, .unset, .unset, .unset, .unset, .unset, .unset, .unset, .unset, .unset, .unset, .unset, .unset, .unset] [])) _
      refine XS.iloadN X0.here hx rfl (hb hby at_18) rfl ?_
      show Steps p.tables e below (s₁.setTop (mkF m 19 #[.val (.int p0), .val (.int p1), .val (.int p2), .val (.int p3), .val (.int ((p1 &&& (1023 : Int32)) + (1 : Int32))), .val (.int ((p2 &&& (1023 : Int32)) + (1 : Int32))), .unset, .unset, .unset, .unset, .unset, .unset, .unset, .unset, .unset, .unset, .unset, .unset, .unset, .unset, .unset, .unset] [(.int p3)])) _
      refine XS.sipush X0.here hx rfl (hb hby at_19) ?_
      show Steps p.tables e below (s₁.setTop (mkF m 22 #[.val (.int p0), .val (.int p1), .val (.int p2), .val (.int p3), .val (.int ((p1 &&& (1023 : Int32)) + (1 : Int32))), .val (.int ((p2 &&& (1023 : Int32)) + (1 : Int32))), .unset, .unset, .unset, .unset, .unset, .unset, .unset, .unset, .unset, .unset, .unset, .unset, .unset, .unset, .unset, .unset] [(.int (1023 : Int32)), (.int p3)])) _
      refine XS.iand X0.here hx rfl (hb hby at_22) rfl ?_
      show Steps p.tables e below (s₁.setTop (mkF m 23 #[.val (.int p0), .val (.int p1), .val (.int p2), .val (.int p3), .val (.int ((p1 &&& (1023 : Int32)) + (1 : Int32))), .val (.int ((p2 &&& (1023 : Int32)) + (1 : Int32))), .unset, .unset, .unset, .unset, .unset, .unset, .unset, .unset, .unset, .unset, .unset, .unset, .unset, .unset, .unset, .unset] [(.int (p3 &&& (1023 : Int32)))])) _
      refine XS.iconst X0.here hx rfl (hb hby at_23) ?_
      show Steps p.tables e below (s₁.setTop (mkF m 24 #[.val (.int p0), .val (.int p1), .val (.int p2), .val (.int p3), .val (.int ((p1 &&& (1023 : Int32)) + (1 : Int32))), .val (.int ((p2 &&& (1023 : Int32)) + (1 : Int32))), .unset, .unset, .unset, .unset, .unset, .unset, .unset, .unset, .unset, .unset, .unset, .unset, .unset, .unset, .unset, .unset] [(.int (1 : Int32)), (.int (p3 &&& (1023 : Int32)))])) _
      refine XS.iadd X0.here hx rfl (hb hby at_24) rfl ?_
      show Steps p.tables e below (s₁.setTop (mkF m 25 #[.val (.int p0), .val (.int p1), .val (.int p2), .val (.int p3), .val (.int ((p1 &&& (1023 : Int32)) + (1 : Int32))), .val (.int ((p2 &&& (1023 : Int32)) + (1 : Int32))), .unset, .unset, .unset, .unset, .unset, .unset, .unset, .unset, .unset, .unset, .unset, .unset, .unset, .unset, .unset, .unset] [(.int ((p3 &&& (1023 : Int32)) + (1 : Int32)))])) _
      refine XS.istore X0.here hx rfl (hb hby at_25) rfl (l' := #[.val (.int p0), .val (.int p1), .val (.int p2), .val (.int p3), .val (.int ((p1 &&& (1023 : Int32)) + (1 : Int32))), .val (.int ((p2 &&& (1023 : Int32)) + (1 : Int32))), .val (.int ((p3 &&& (1023 : Int32)) + (1 : Int32))), .unset, .unset, .unset, .unset, .unset, .unset, .unset, .unset, .unset, .unset, .unset, .unset, .unset, .unset, .unset]) rfl ?_
      exact kk)
  obtain ⟨a1, hv_a1⟩ : ∃ z : Int32, z = ((p1 &&& (1023 : Int32)) + (1 : Int32)) := ⟨_, rfl⟩
  have pre104 : ∀ t, Steps p.tables e below (s₁.setTop (mkF m 27 #[.val (.int p0), .val (.int p1), .val (.int p2), .val (.int p3), .val (.int a1), .val (.int ((p2 &&& (1023 : Int32)) + (1 : Int32))), .val (.int ((p3 &&& (1023 : Int32)) + (1 : Int32))), .unset, .unset, .unset, .unset, .unset, .unset, .unset, .unset, .unset, .unset, .unset, .unset, .unset, .unset, .unset] [])) t → Steps p.tables e below (s₁.setTop (entryFrame m #[(.int p0), (.int p1), (.int p2), (.int p3)] maxLocals)) t := by subst hv_a1; exact pre103
  obtain ⟨b1, hv_b1⟩ : ∃ z : Int32, z = ((p2 &&& (1023 : Int32)) + (1 : Int32)) := ⟨_, rfl⟩
  have pre105 : ∀ t, Steps p.tables e below (s₁.setTop (mkF m 27 #[.val (.int p0), .val (.int p1), .val (.int p2), .val (.int p3), .val (.int a1), .val (.int b1), .val (.int ((p3 &&& (1023 : Int32)) + (1 : Int32))), .unset, .unset, .unset, .unset, .unset, .unset, .unset, .unset, .unset, .unset, .unset, .unset, .unset, .unset, .unset] [])) t → Steps p.tables e below (s₁.setTop (entryFrame m #[(.int p0), (.int p1), (.int p2), (.int p3)] maxLocals)) t := by subst hv_b1; exact pre104
  obtain ⟨c1, hv_c1⟩ : ∃ z : Int32, z = ((p3 &&& (1023 : Int32)) + (1 : Int32)) := ⟨_, rfl⟩
  have pre106 : ∀ t, Steps p.tables e below (s₁.setTop (mkF m 27 #[.val (.int p0), .val (.int p1), .val (.int p2), .val (.int p3), .val (.int a1), .val (.int b1), .val (.int c1), .unset, .unset, .unset, .unset, .unset, .unset, .unset, .unset, .unset, .unset, .unset, .unset, .unset, .unset, .unset] [])) t → Steps p.tables e below (s₁.setTop (entryFrame m #[(.int p0), (.int p1), (.int p2), (.int p3)] maxLocals)) t := by subst hv_c1; exact pre105
  have ma1 : 1 ≤ a1.toInt ∧ a1.toInt ≤ 1024 := by rw [hv_a1]; exact own_m p1
  have mb1 : 1 ≤ b1.toInt ∧ b1.toInt ≤ 1024 := by rw [hv_b1]; exact own_m p2
  have mc1 : 1 ≤ c1.toInt ∧ c1.toInt ≤ 1024 := by rw [hv_c1]; exact own_m p3
  have pre107 : ∀ t, Steps p.tables e below (s₁.setTop (mkF m 34 #[.val (.int p0), .val (.int p1), .val (.int p2), .val (.int p3), .val (.int a1), .val (.int b1), .val (.int c1), .unset, .unset, .unset, .unset, .unset, .unset, .unset, .unset, .unset, .unset, .unset, .unset, .unset, .unset, .unset] [(.int (8 : Int32)), (.int (a1 + b1))])) t → Steps p.tables e below (s₁.setTop (entryFrame m #[(.int p0), (.int p1), (.int p2), (.int p3)] maxLocals)) t := fun t kk => pre106 t (by
      show Steps p.tables e below (s₁.setTop (mkF m 27 #[.val (.int p0), .val (.int p1), .val (.int p2), .val (.int p3), .val (.int a1), .val (.int b1), .val (.int c1), .unset, .unset, .unset, .unset, .unset, .unset, .unset, .unset, .unset, .unset, .unset, .unset, .unset, .unset, .unset] [])) _
      refine XS.iload X0.here hx rfl (hb hby at_27) rfl ?_
      show Steps p.tables e below (s₁.setTop (mkF m 29 #[.val (.int p0), .val (.int p1), .val (.int p2), .val (.int p3), .val (.int a1), .val (.int b1), .val (.int c1), .unset, .unset, .unset, .unset, .unset, .unset, .unset, .unset, .unset, .unset, .unset, .unset, .unset, .unset, .unset] [(.int a1)])) _
      refine XS.iload X0.here hx rfl (hb hby at_29) rfl ?_
      show Steps p.tables e below (s₁.setTop (mkF m 31 #[.val (.int p0), .val (.int p1), .val (.int p2), .val (.int p3), .val (.int a1), .val (.int b1), .val (.int c1), .unset, .unset, .unset, .unset, .unset, .unset, .unset, .unset, .unset, .unset, .unset, .unset, .unset, .unset, .unset] [(.int b1), (.int a1)])) _
      refine XS.iadd X0.here hx rfl (hb hby at_31) rfl ?_
      show Steps p.tables e below (s₁.setTop (mkF m 32 #[.val (.int p0), .val (.int p1), .val (.int p2), .val (.int p3), .val (.int a1), .val (.int b1), .val (.int c1), .unset, .unset, .unset, .unset, .unset, .unset, .unset, .unset, .unset, .unset, .unset, .unset, .unset, .unset, .unset] [(.int (a1 + b1))])) _
      refine XS.bipush X0.here hx rfl (hb hby at_32) ?_
      exact kk)
  by_cases h8 : (8 : Int32) < (a1 + b1)
  · have g8 : 8 < a1.toInt + b1.toInt := own_m8 ma1 mb1 h8
    have pre108 : ∀ t, Steps p.tables e below (s₁.setTop (mkF m 66 #[.val (.int p0), .val (.int p1), .val (.int p2), .val (.int p3), .val (.int a1), .val (.int b1), .val (.int c1), .val (.double (FP.ddiv (FP.i2d a1) (4620693217682128896 : UInt64))), .second, .val (.double (FP.ddiv (FP.i2d b1) (4620693217682128896 : UInt64))), .second, .val (.double (FP.ddiv (FP.i2d c1) (4620693217682128896 : UInt64))), .second, .unset, .unset, .unset, .unset, .unset, .unset, .unset, .unset, .unset] [])) t → Steps p.tables e below (s₁.setTop (entryFrame m #[(.int p0), (.int p1), (.int p2), (.int p3)] maxLocals)) t := fun t kk => pre107 t (by
        show Steps p.tables e below (s₁.setTop (mkF m 34 #[.val (.int p0), .val (.int p1), .val (.int p2), .val (.int p3), .val (.int a1), .val (.int b1), .val (.int c1), .unset, .unset, .unset, .unset, .unset, .unset, .unset, .unset, .unset, .unset, .unset, .unset, .unset, .unset, .unset] [(.int (8 : Int32)), (.int (a1 + b1))])) _
        refine XS.icmpYes X0.here hx rfl (pc0 := 34) (pc' := 39) rfl (hb hby at_34) rfl (tlt h8).2.2.1 (by decide) (by decide) ?_
        show Steps p.tables e below (s₁.setTop (mkF m 39 #[.val (.int p0), .val (.int p1), .val (.int p2), .val (.int p3), .val (.int a1), .val (.int b1), .val (.int c1), .unset, .unset, .unset, .unset, .unset, .unset, .unset, .unset, .unset, .unset, .unset, .unset, .unset, .unset, .unset] [])) _
        refine XS.iload X0.here hx rfl (hb hby at_39) rfl ?_
        show Steps p.tables e below (s₁.setTop (mkF m 41 #[.val (.int p0), .val (.int p1), .val (.int p2), .val (.int p3), .val (.int a1), .val (.int b1), .val (.int c1), .unset, .unset, .unset, .unset, .unset, .unset, .unset, .unset, .unset, .unset, .unset, .unset, .unset, .unset, .unset] [(.int a1)])) _
        refine XS.i2dS X0.here hx rfl (hb hby at_41) rfl rfl ?_
        show Steps p.tables e below (s₁.setTop (mkF m 42 #[.val (.int p0), .val (.int p1), .val (.int p2), .val (.int p3), .val (.int a1), .val (.int b1), .val (.int c1), .unset, .unset, .unset, .unset, .unset, .unset, .unset, .unset, .unset, .unset, .unset, .unset, .unset, .unset, .unset] [(.double (FP.i2d a1))])) _
        refine X0.ldc2DoubleC hx hown (mvT hZ (hw _ (List.mem_of_getElem? (i := 0) rfl))) (g := (mkF m 42 #[.val (.int p0), .val (.int p1), .val (.int p2), .val (.int p3), .val (.int a1), .val (.int b1), .val (.int c1), .unset, .unset, .unset, .unset, .unset, .unset, .unset, .unset, .unset, .unset, .unset, .unset, .unset, .unset, .unset] [(.double (FP.i2d a1))])) rfl (hb hby at_42) _ ?_
        show Steps p.tables e below (s₁.setTop (mkF m 45 #[.val (.int p0), .val (.int p1), .val (.int p2), .val (.int p3), .val (.int a1), .val (.int b1), .val (.int c1), .unset, .unset, .unset, .unset, .unset, .unset, .unset, .unset, .unset, .unset, .unset, .unset, .unset, .unset, .unset] [(.double (4620693217682128896 : UInt64)), (.double (FP.i2d a1))])) _
        refine XS.ddivS X0.here hx rfl (hb hby at_45) rfl (own_dv a1).nn rfl ?_
        show Steps p.tables e below (s₁.setTop (mkF m 46 #[.val (.int p0), .val (.int p1), .val (.int p2), .val (.int p3), .val (.int a1), .val (.int b1), .val (.int c1), .unset, .unset, .unset, .unset, .unset, .unset, .unset, .unset, .unset, .unset, .unset, .unset, .unset, .unset, .unset] [(.double (FP.ddiv (FP.i2d a1) (4620693217682128896 : UInt64)))])) _
        refine XS.dstore X0.here hx rfl (hb hby at_46) rfl (l' := #[.val (.int p0), .val (.int p1), .val (.int p2), .val (.int p3), .val (.int a1), .val (.int b1), .val (.int c1), .val (.double (FP.ddiv (FP.i2d a1) (4620693217682128896 : UInt64))), .second, .unset, .unset, .unset, .unset, .unset, .unset, .unset, .unset, .unset, .unset, .unset, .unset, .unset]) rfl ?_
        show Steps p.tables e below (s₁.setTop (mkF m 48 #[.val (.int p0), .val (.int p1), .val (.int p2), .val (.int p3), .val (.int a1), .val (.int b1), .val (.int c1), .val (.double (FP.ddiv (FP.i2d a1) (4620693217682128896 : UInt64))), .second, .unset, .unset, .unset, .unset, .unset, .unset, .unset, .unset, .unset, .unset, .unset, .unset, .unset] [])) _
        refine XS.iload X0.here hx rfl (hb hby at_48) rfl ?_
        show Steps p.tables e below (s₁.setTop (mkF m 50 #[.val (.int p0), .val (.int p1), .val (.int p2), .val (.int p3), .val (.int a1), .val (.int b1), .val (.int c1), .val (.double (FP.ddiv (FP.i2d a1) (4620693217682128896 : UInt64))), .second, .unset, .unset, .unset, .unset, .unset, .unset, .unset, .unset, .unset, .unset, .unset, .unset, .unset] [(.int b1)])) _
        refine XS.i2dS X0.here hx rfl (hb hby at_50) rfl rfl ?_
        show Steps p.tables e below (s₁.setTop (mkF m 51 #[.val (.int p0), .val (.int p1), .val (.int p2), .val (.int p3), .val (.int a1), .val (.int b1), .val (.int c1), .val (.double (FP.ddiv (FP.i2d a1) (4620693217682128896 : UInt64))), .second, .unset, .unset, .unset, .unset, .unset, .unset, .unset, .unset, .unset, .unset, .unset, .unset, .unset] [(.double (FP.i2d b1))])) _
        refine X0.ldc2DoubleC hx hown (mvT hZ (hw _ (List.mem_of_getElem? (i := 0) rfl))) (g := (mkF m 51 #[.val (.int p0), .val (.int p1), .val (.int p2), .val (.int p3), .val (.int a1), .val (.int b1), .val (.int c1), .val (.double (FP.ddiv (FP.i2d a1) (4620693217682128896 : UInt64))), .second, .unset, .unset, .unset, .unset, .unset, .unset, .unset, .unset, .unset, .unset, .unset, .unset, .unset] [(.double (FP.i2d b1))])) rfl (hb hby at_51) _ ?_
        show Steps p.tables e below (s₁.setTop (mkF m 54 #[.val (.int p0), .val (.int p1), .val (.int p2), .val (.int p3), .val (.int a1), .val (.int b1), .val (.int c1), .val (.double (FP.ddiv (FP.i2d a1) (4620693217682128896 : UInt64))), .second, .unset, .unset, .unset, .unset, .unset, .unset, .unset, .unset, .unset, .unset, .unset, .unset, .unset] [(.double (4620693217682128896 : UInt64)), (.double (FP.i2d b1))])) _
        refine XS.ddivS X0.here hx rfl (hb hby at_54) rfl (own_dv b1).nn rfl ?_
        show Steps p.tables e below (s₁.setTop (mkF m 55 #[.val (.int p0), .val (.int p1), .val (.int p2), .val (.int p3), .val (.int a1), .val (.int b1), .val (.int c1), .val (.double (FP.ddiv (FP.i2d a1) (4620693217682128896 : UInt64))), .second, .unset, .unset, .unset, .unset, .unset, .unset, .unset, .unset, .unset, .unset, .unset, .unset, .unset] [(.double (FP.ddiv (FP.i2d b1) (4620693217682128896 : UInt64)))])) _
        refine XS.dstore X0.here hx rfl (hb hby at_55) rfl (l' := #[.val (.int p0), .val (.int p1), .val (.int p2), .val (.int p3), .val (.int a1), .val (.int b1), .val (.int c1), .val (.double (FP.ddiv (FP.i2d a1) (4620693217682128896 : UInt64))), .second, .val (.double (FP.ddiv (FP.i2d b1) (4620693217682128896 : UInt64))), .second, .unset, .unset, .unset, .unset, .unset, .unset, .unset, .unset, .unset, .unset, .unset]) rfl ?_
        show Steps p.tables e below (s₁.setTop (mkF m 57 #[.val (.int p0), .val (.int p1), .val (.int p2), .val (.int p3), .val (.int a1), .val (.int b1), .val (.int c1), .val (.double (FP.ddiv (FP.i2d a1) (4620693217682128896 : UInt64))), .second, .val (.double (FP.ddiv (FP.i2d b1) (4620693217682128896 : UInt64))), .second, .unset, .unset, .unset, .unset, .unset, .unset, .unset, .unset, .unset, .unset, .unset] [])) _
        refine XS.iload X0.here hx rfl (hb hby at_57) rfl ?_
        show Steps p.tables e below (s₁.setTop (mkF m 59 #[.val (.int p0), .val (.int p1), .val (.int p2), .val (.int p3), .val (.int a1), .val (.int b1), .val (.int c1), .val (.double (FP.ddiv (FP.i2d a1) (4620693217682128896 : UInt64))), .second, .val (.double (FP.ddiv (FP.i2d b1) (4620693217682128896 : UInt64))), .second, .unset, .unset, .unset, .unset, .unset, .unset, .unset, .unset, .unset, .unset, .unset] [(.int c1)])) _
        refine XS.i2dS X0.here hx rfl (hb hby at_59) rfl rfl ?_
        show Steps p.tables e below (s₁.setTop (mkF m 60 #[.val (.int p0), .val (.int p1), .val (.int p2), .val (.int p3), .val (.int a1), .val (.int b1), .val (.int c1), .val (.double (FP.ddiv (FP.i2d a1) (4620693217682128896 : UInt64))), .second, .val (.double (FP.ddiv (FP.i2d b1) (4620693217682128896 : UInt64))), .second, .unset, .unset, .unset, .unset, .unset, .unset, .unset, .unset, .unset, .unset, .unset] [(.double (FP.i2d c1))])) _
        refine X0.ldc2DoubleC hx hown (mvT hZ (hw _ (List.mem_of_getElem? (i := 0) rfl))) (g := (mkF m 60 #[.val (.int p0), .val (.int p1), .val (.int p2), .val (.int p3), .val (.int a1), .val (.int b1), .val (.int c1), .val (.double (FP.ddiv (FP.i2d a1) (4620693217682128896 : UInt64))), .second, .val (.double (FP.ddiv (FP.i2d b1) (4620693217682128896 : UInt64))), .second, .unset, .unset, .unset, .unset, .unset, .unset, .unset, .unset, .unset, .unset, .unset] [(.double (FP.i2d c1))])) rfl (hb hby at_60) _ ?_
        show Steps p.tables e below (s₁.setTop (mkF m 63 #[.val (.int p0), .val (.int p1), .val (.int p2), .val (.int p3), .val (.int a1), .val (.int b1), .val (.int c1), .val (.double (FP.ddiv (FP.i2d a1) (4620693217682128896 : UInt64))), .second, .val (.double (FP.ddiv (FP.i2d b1) (4620693217682128896 : UInt64))), .second, .unset, .unset, .unset, .unset, .unset, .unset, .unset, .unset, .unset, .unset, .unset] [(.double (4620693217682128896 : UInt64)), (.double (FP.i2d c1))])) _
        refine XS.ddivS X0.here hx rfl (hb hby at_63) rfl (own_dv c1).nn rfl ?_
        show Steps p.tables e below (s₁.setTop (mkF m 64 #[.val (.int p0), .val (.int p1), .val (.int p2), .val (.int p3), .val (.int a1), .val (.int b1), .val (.int c1), .val (.double (FP.ddiv (FP.i2d a1) (4620693217682128896 : UInt64))), .second, .val (.double (FP.ddiv (FP.i2d b1) (4620693217682128896 : UInt64))), .second, .unset, .unset, .unset, .unset, .unset, .unset, .unset, .unset, .unset, .unset, .unset] [(.double (FP.ddiv (FP.i2d c1) (4620693217682128896 : UInt64)))])) _
        refine XS.dstore X0.here hx rfl (hb hby at_64) rfl (l' := #[.val (.int p0), .val (.int p1), .val (.int p2), .val (.int p3), .val (.int a1), .val (.int b1), .val (.int c1), .val (.double (FP.ddiv (FP.i2d a1) (4620693217682128896 : UInt64))), .second, .val (.double (FP.ddiv (FP.i2d b1) (4620693217682128896 : UInt64))), .second, .val (.double (FP.ddiv (FP.i2d c1) (4620693217682128896 : UInt64))), .second, .unset, .unset, .unset, .unset, .unset, .unset, .unset, .unset, .unset]) rfl ?_
        exact kk)
    obtain ⟨x1, hv_x1⟩ : ∃ z : UInt64, z = (FP.ddiv (FP.i2d a1) (4620693217682128896 : UInt64)) := ⟨_, rfl⟩
    have pre109 : ∀ t, Steps p.tables e below (s₁.setTop (mkF m 66 #[.val (.int p0), .val (.int p1), .val (.int p2), .val (.int p3), .val (.int a1), .val (.int b1), .val (.int c1), .val (.double x1), .second, .val (.double (FP.ddiv (FP.i2d b1) (4620693217682128896 : UInt64))), .second, .val (.double (FP.ddiv (FP.i2d c1) (4620693217682128896 : UInt64))), .second, .unset, .unset, .unset, .unset, .unset, .unset, .unset, .unset, .unset] [])) t → Steps p.tables e below (s₁.setTop (entryFrame m #[(.int p0), (.int p1), (.int p2), (.int p3)] maxLocals)) t := by subst hv_x1; exact pre108
    have dx1 : own_D 3 a1.toInt x1 := by rw [hv_x1]; exact own_dv a1
    obtain ⟨y1, hv_y1⟩ : ∃ z : UInt64, z = (FP.ddiv (FP.i2d b1) (4620693217682128896 : UInt64)) := ⟨_, rfl⟩
    have pre110 : ∀ t, Steps p.tables e below (s₁.setTop (mkF m 66 #[.val (.int p0), .val (.int p1), .val (.int p2), .val (.int p3), .val (.int a1), .val (.int b1), .val (.int c1), .val (.double x1), .second, .val (.double y1), .second, .val (.double (FP.ddiv (FP.i2d c1) (4620693217682128896 : UInt64))), .second, .unset, .unset, .unset, .unset, .unset, .unset, .unset, .unset, .unset] [])) t → Steps p.tables e below (s₁.setTop (entryFrame m #[(.int p0), (.int p1), (.int p2), (.int p3)] maxLocals)) t := by subst hv_y1; exact pre109
    have dy1 : own_D 3 b1.toInt y1 := by rw [hv_y1]; exact own_dv b1
    obtain ⟨z1, hv_z1⟩ : ∃ z : UInt64, z = (FP.ddiv (FP.i2d c1) (4620693217682128896 : UInt64)) := ⟨_, rfl⟩
    have pre111 : ∀ t, Steps p.tables e below (s₁.setTop (mkF m 66 #[.val (.int p0), .val (.int p1), .val (.int p2), .val (.int p3), .val (.int a1), .val (.int b1), .val (.int c1), .val (.double x1), .second, .val (.double y1), .second, .val (.double z1), .second, .unset, .unset, .unset, .unset, .unset, .unset, .unset, .unset, .unset] [])) t → Steps p.tables e below (s₁.setTop (entryFrame m #[(.int p0), (.int p1), (.int p2), (.int p3)] maxLocals)) t := by subst hv_z1; exact pre110
    have dz1 : own_D 3 c1.toInt z1 := by rw [hv_z1]; exact own_dv c1
    have dxy : own_D 3 (a1.toInt + b1.toInt) (FP.dadd x1 y1) := own_dadd dx1 dy1 (by decide) (by omega)
    obtain ⟨T112, h112, X112, e112, E112, A112, D112, -, st112⟩ := newO X0 hx hZ hown (hw _ (List.mem_of_getElem? (i := 1) rfl)) (hw _ (List.mem_of_getElem? (i := 2) rfl)) (hw _ (List.mem_of_getElem? (i := 3) rfl)) e0 (g := (mkF m 66 #[.val (.int p0), .val (.int p1), .val (.int p2), .val (.int p3), .val (.int a1), .val (.int b1), .val (.int c1), .val (.double x1), .second, .val (.double y1), .second, .val (.double z1), .second, .unset, .unset, .unset, .unset, .unset, .unset, .unset, .unset, .unset] [])) rfl (hb hby at_66) (by decide) (by decide)
    obtain ⟨b112, gq112⟩ : ∃ z, z = h0.size := ⟨_, rfl⟩
    rw [← gq112] at A112 D112 st112
    have g_b112 : n0 ≤ b112 := Nat.le_trans Z0 (Nat.le_of_eq gq112.symm)
    have sz_b112 : h0.size ≤ b112 := Nat.le_trans (Nat.le_refl _) (Nat.le_of_eq gq112.symm)
    have K113 : Keep h0 h112 [] := (Keep.refl h0 _).ext E112
    have F114 : Fld Z h112 b112 "com/example/even_keel/evenkeel/estimation/DurationCost" "runtimeShape" "D" (.double (0 : UInt64)) := D112 (Or.inr (hw _ (List.mem_of_getElem? (i := 43) rfl))) (ty := .double) (by decide)
    have F115 : Fld Z h112 b112 "com/example/even_keel/evenkeel/estimation/DurationCost" "overheadShape" "D" (.double (0 : UInt64)) := D112 (Or.inr (hw _ (List.mem_of_getElem? (i := 45) rfl))) (ty := .double) (by decide)
    have F116 : Fld Z h112 b112 "com/example/even_keel/evenkeel/estimation/DurationCost" "scale" "D" (.double (0 : UInt64)) := D112 (Or.inr (hw _ (List.mem_of_getElem? (i := 47) rfl))) (ty := .double) (by decide)
    have F117 : Fld Z h112 b112 "com/example/even_keel/evenkeel/estimation/DurationCost" "failures" "Lcom/example/even_keel/evenkeel/failures/WeibullDistribution;" .null := D112 (Or.inr (hw _ (List.mem_of_getElem? (i := 49) rfl))) (ty := (.object "com/example/even_keel/evenkeel/failures/WeibullDistribution")) (by decide)
    obtain ⟨T118, h118, X118, e118, E118, A118, D118, -, st118⟩ := newO X112 hx hZ hown (hw _ (List.mem_of_getElem? (i := 4) rfl)) (hw _ (List.mem_of_getElem? (i := 5) rfl)) (hw _ (List.mem_of_getElem? (i := 6) rfl)) e112 (g := (mkF m 76 #[.val (.int p0), .val (.int p1), .val (.int p2), .val (.int p3), .val (.int a1), .val (.int b1), .val (.int c1), .val (.double x1), .second, .val (.double y1), .second, .val (.double z1), .second, .unset, .unset, .unset, .unset, .unset, .unset, .unset, .unset, .unset] [(.double z1), (.double y1), (.double x1), (.ref b112), (.ref b112)])) rfl (hb hby at_76) (by decide) (by decide)
    obtain ⟨b118, gq118⟩ : ∃ z, z = h112.size := ⟨_, rfl⟩
    rw [← gq118] at A118 D118 st118
    have ne119 : b112 ≠ b118 := Nat.ne_of_lt (Nat.lt_of_lt_of_le A112.lt (Nat.le_of_eq gq118.symm))
    have g_b118 : n0 ≤ b118 := Nat.le_trans (Nat.le_trans Z0 K113.1) (Nat.le_of_eq gq118.symm)
    have sz_b118 : h0.size ≤ b118 := Nat.le_trans K113.1 (Nat.le_of_eq gq118.symm)
    have Ex120 : Exa Z h118 b112 "com/example/even_keel/evenkeel/estimation/DurationCost" := (A112.ext E118)
    have F121 : Fld Z h118 b112 "com/example/even_keel/evenkeel/estimation/DurationCost" "runtimeShape" "D" (.double (0 : UInt64)) := (F114.ext E118)
    have F122 : Fld Z h118 b112 "com/example/even_keel/evenkeel/estimation/DurationCost" "overheadShape" "D" (.double (0 : UInt64)) := (F115.ext E118)
    have F123 : Fld Z h118 b112 "com/example/even_keel/evenkeel/estimation/DurationCost" "scale" "D" (.double (0 : UInt64)) := (F116.ext E118)
    have F124 : Fld Z h118 b112 "com/example/even_keel/evenkeel/estimation/DurationCost" "failures" "Lcom/example/even_keel/evenkeel/failures/WeibullDistribution;" .null := (F117.ext E118)
    have K125 : Keep h0 h118 [] := K113.ext E118
    have F126 : Fld Z h118 b118 "com/example/even_keel/evenkeel/failures/WeibullDistribution" "scale" "D" (.double (0 : UInt64)) := D118 (Or.inr (hw _ (List.mem_of_getElem? (i := 20) rfl))) (ty := .double) (by decide)
    have F127 : Fld Z h118 b118 "com/example/even_keel/evenkeel/failures/WeibullDistribution" "shape" "D" (.double (0 : UInt64)) := D118 (Or.inr (hw _ (List.mem_of_getElem? (i := 22) rfl))) (ty := .double) (by decide)
    have hp129 : cmpValue (FP.dcmp FP.dconst1 FP.dconst0) .l = 1 := own_pos1 own_one (by decide)
    have hp130 : cmpValue (FP.dcmp FP.dconst1 (9218868437227405312 : UInt64)) .g = -1 := own_pos2 own_one
    have hp131 : cmpValue (FP.dcmp FP.dconst1 FP.dconst0) .l = 1 := own_pos1 own_one (by decide)
    have hp132 : cmpValue (FP.dcmp FP.dconst1 (9218868437227405312 : UInt64)) .g = -1 := own_pos2 own_one
    obtain ⟨_, _, ⟨T128, L128, k128, n128⟩, -, X128, ⟨Lc128, hQ128, l128, y128, z128⟩, st128⟩ := X118.specialBack hx (y := (⟨"com/example/even_keel/evenkeel/failures/WeibullDistribution", "<init>", "(DD)V"⟩ : MethodName)) rfl hown (mvT hZ (hw _ (List.mem_of_getElem? (i := 7) rfl))) (mvT hZ (hw _ (List.mem_of_getElem? (i := 8) rfl))) (mvT hZ (hw _ (List.mem_of_getElem? (i := 9) rfl))) (by decide) (backOf (W := 9) (rmWei l Z a0 hw [] b118 FP.dconst1 FP.dconst1 h118 n0 (Nat.le_trans Z0 K125.1) A118 F126 F127 hp129 hp130 hp131 hp132 g_b118) hZ (hw _ (List.mem_of_getElem? (i := 9) rfl)) (hw _ (List.mem_of_getElem? (i := 6) rfl)) (by decide) (by decide)) (g := (mkF m 82 #[.val (.int p0), .val (.int p1), .val (.int p2), .val (.int p3), .val (.int a1), .val (.int b1), .val (.int c1), .val (.double x1), .second, .val (.double y1), .second, .val (.double z1), .second, .unset, .unset, .unset, .unset, .unset, .unset, .unset, .unset, .unset] [(.double FP.dconst1), (.double FP.dconst1), (.ref b118), (.ref b118), (.double z1), (.double y1), (.double x1), (.ref b112), (.ref b112)])) rfl (by rw [hml]; rfl) (Steps.refl _) (a := b118) (argsL := [(.double FP.dconst1), (.double FP.dconst1)]) (rest := [(.ref b118), (.double z1), (.double y1), (.double x1), (.ref b112), (.ref b112)]) (lenOf pd_2 rfl) rfl (by show 2 * 0 + _ ≤ _; exact Nat.le_of_eq rfl) (hb hby at_82) (fun _ _ => ⟨rfl, e118, (by decide : 2 + 0 ≤ _), (by decide : 6 + 0 ≤ _)⟩)
    dsimp only [Pt.U, Pt.locs, Pt.cells, Pt.slots] at X128 l128 y128 z128 st128 hQ128
    rw [l128, y128, z128] at X128
    replace X128 := own_std X128 (cc := 2) (ss := 6) rfl rfl
    obtain ⟨rfl, N128q, K128q, P128_0⟩ := hQ128
    have N128 := Fr.app N0 N128q
    have Ex133 : Exa Z T128.heap b112 "com/example/even_keel/evenkeel/estimation/DurationCost" := (Ex120.keep K128q)
    have F134 : Fld Z T128.heap b112 "com/example/even_keel/evenkeel/estimation/DurationCost" "runtimeShape" "D" (.double (0 : UInt64)) := (F121.keep K128q (ninS ne119 nin0))
    have F135 : Fld Z T128.heap b112 "com/example/even_keel/evenkeel/estimation/DurationCost" "overheadShape" "D" (.double (0 : UInt64)) := (F122.keep K128q (ninS ne119 nin0))
    have F136 : Fld Z T128.heap b112 "com/example/even_keel/evenkeel/estimation/DurationCost" "scale" "D" (.double (0 : UInt64)) := (F123.keep K128q (ninS ne119 nin0))
    have F137 : Fld Z T128.heap b112 "com/example/even_keel/evenkeel/estimation/DurationCost" "failures" "Lcom/example/even_keel/evenkeel/failures/WeibullDistribution;" .null := (F124.keep K128q (ninS ne119 nin0))
    have Ex138 : Exa Z T128.heap b118 "com/example/even_keel/evenkeel/failures/WeibullDistribution" := (A118.keep K128q)
    have K139 : Keep h0 T128.heap [] := K125.trans K128q (allS (Or.inr sz_b118) all0)
    have hp141 : cmpValue (FP.dcmp x1 FP.dconst0) .l = 1 := own_pos1 dx1 (by omega)
    have hp142 : cmpValue (FP.dcmp x1 (9218868437227405312 : UInt64)) .g = -1 := own_pos2 dx1
    have hp143 : cmpValue (FP.dcmp y1 FP.dconst0) .l = 1 := own_pos1 dy1 (by omega)
    have hp144 : cmpValue (FP.dcmp y1 (9218868437227405312 : UInt64)) .g = -1 := own_pos2 dy1
    have hp145 : cmpValue (FP.dcmp z1 FP.dconst0) .l = 1 := own_pos1 dz1 (by omega)
    have hp146 : cmpValue (FP.dcmp z1 (9218868437227405312 : UInt64)) .g = -1 := own_pos2 dz1
    have hp147 : Jvm.Free.Fl.NoNaN64 (FP.dadd x1 y1) := dxy.nn
    have hp148 : cmpValue (FP.dcmp (FP.dadd x1 y1) FP.dconst1) .l = 1 := own_gt dxy own_one (by omega)
    obtain ⟨_, _, ⟨T140, L140, k140, n140⟩, -, X140, hS140, hgr140, ⟨Lc140, hQ140, l140, y140, z140⟩, st140⟩ := X128.specialBackS hx (y := (⟨"com/example/even_keel/evenkeel/estimation/DurationCost", "<init>", "(DDDLcom/example/even_keel/evenkeel/failures/WeibullDistribution;)V"⟩ : MethodName)) rfl hown (mvT hZ (hw _ (List.mem_of_getElem? (i := 23) rfl))) (mvT hZ (hw _ (List.mem_of_getElem? (i := 24) rfl))) (mvT hZ (hw _ (List.mem_of_getElem? (i := 25) rfl))) (by decide) (backOfS (W := 1) (rmCost l Z a0 hw [] b112 x1 y1 z1 b118 T128.heap n0 (Nat.le_trans Z0 K139.1) Ex133 P128_0 F134 F135 F136 F137 hp141 hp142 hp143 hp144 hp145 hp146 hp147 hp148 g_b112) hZ (hw _ (List.mem_of_getElem? (i := 25) rfl)) (hw _ (List.mem_of_getElem? (i := 3) rfl)) (by decide) (by decide)) (g := (mkF m 85 #[.val (.int p0), .val (.int p1), .val (.int p2), .val (.int p3), .val (.int a1), .val (.int b1), .val (.int c1), .val (.double x1), .second, .val (.double y1), .second, .val (.double z1), .second, .unset, .unset, .unset, .unset, .unset, .unset, .unset, .unset, .unset] [(.ref b118), (.double z1), (.double y1), (.double x1), (.ref b112), (.ref b112)])) rfl (by rw [hml]; rfl) (Steps.refl _) (a := b112) (argsL := [(.double x1), (.double y1), (.double z1), (.ref b118)]) (rest := [(.ref b112)]) (lenOf pd_3 rfl) rfl (by show 2 * 0 + _ ≤ _; exact Nat.le_of_eq rfl) (hb hby at_85) (fun _ _ => ⟨rfl, rfl, (by decide : 2 + 6 ≤ _), (by decide : 6 + 188 ≤ _)⟩)
    dsimp only [Pt.U, Pt.locs, Pt.cells, Pt.slots] at X140 l140 y140 z140 st140 hQ140
    rw [l140, y140, z140] at X140
    replace X140 := own_std X140 (cc := 8) (ss := 194) rfl rfl
    obtain ⟨rfl, N140q, K140q, P140_0, P140_1, P140_2, P140_3⟩ := hQ140
    have N140 := Fr.app N128 N140q
    have Ex149 : Exa Z T140.heap b112 "com/example/even_keel/evenkeel/estimation/DurationCost" := (Ex133.keep K140q)
    have Ex150 : Exa Z T140.heap b118 "com/example/even_keel/evenkeel/failures/WeibullDistribution" := (P128_0.keep K140q)
    have K151 : Keep h0 T140.heap [] := K139.trans K140q (allS (Or.inr sz_b112) all0)
    have pre152 : ∀ t, Steps p.tables e below (T140.setTop (mkF m 88 #[.val (.int p0), .val (.int p1), .val (.int p2), .val (.int p3), .val (.int a1), .val (.int b1), .val (.int c1), .val (.double x1), .second, .val (.double y1), .second, .val (.double z1), .second, .unset, .unset, .unset, .unset, .unset, .unset, .unset, .unset, .unset] [(.ref b112)])) t → Steps p.tables e below (s₁.setTop (entryFrame m #[(.int p0), (.int p1), (.int p2), (.int p3)] maxLocals)) t := fun t kk => pre111 t (by
        show Steps p.tables e below (s₁.setTop (mkF m 66 #[.val (.int p0), .val (.int p1), .val (.int p2), .val (.int p3), .val (.int a1), .val (.int b1), .val (.int c1), .val (.double x1), .second, .val (.double y1), .second, .val (.double z1), .second, .unset, .unset, .unset, .unset, .unset, .unset, .unset, .unset, .unset] [])) _
        refine st112 _ ?_
        show Steps p.tables e below (T112.setTop (mkF m 69 #[.val (.int p0), .val (.int p1), .val (.int p2), .val (.int p3), .val (.int a1), .val (.int b1), .val (.int c1), .val (.double x1), .second, .val (.double y1), .second, .val (.double z1), .second, .unset, .unset, .unset, .unset, .unset, .unset, .unset, .unset, .unset] [(.ref b112)])) _
        refine XS.dup X112.here hx rfl (hb hby at_69) rfl rfl ?_
        show Steps p.tables e below (T112.setTop (mkF m 70 #[.val (.int p0), .val (.int p1), .val (.int p2), .val (.int p3), .val (.int a1), .val (.int b1), .val (.int c1), .val (.double x1), .second, .val (.double y1), .second, .val (.double z1), .second, .unset, .unset, .unset, .unset, .unset, .unset, .unset, .unset, .unset] [(.ref b112), (.ref b112)])) _
        refine XS.dload X112.here hx rfl (hb hby at_70) rfl ?_
        show Steps p.tables e below (T112.setTop (mkF m 72 #[.val (.int p0), .val (.int p1), .val (.int p2), .val (.int p3), .val (.int a1), .val (.int b1), .val (.int c1), .val (.double x1), .second, .val (.double y1), .second, .val (.double z1), .second, .unset, .unset, .unset, .unset, .unset, .unset, .unset, .unset, .unset] [(.double x1), (.ref b112), (.ref b112)])) _
        refine XS.dload X112.here hx rfl (hb hby at_72) rfl ?_
        show Steps p.tables e below (T112.setTop (mkF m 74 #[.val (.int p0), .val (.int p1), .val (.int p2), .val (.int p3), .val (.int a1), .val (.int b1), .val (.int c1), .val (.double x1), .second, .val (.double y1), .second, .val (.double z1), .second, .unset, .unset, .unset, .unset, .unset, .unset, .unset, .unset, .unset] [(.double y1), (.double x1), (.ref b112), (.ref b112)])) _
        refine XS.dload X112.here hx rfl (hb hby at_74) rfl ?_
        show Steps p.tables e below (T112.setTop (mkF m 76 #[.val (.int p0), .val (.int p1), .val (.int p2), .val (.int p3), .val (.int a1), .val (.int b1), .val (.int c1), .val (.double x1), .second, .val (.double y1), .second, .val (.double z1), .second, .unset, .unset, .unset, .unset, .unset, .unset, .unset, .unset, .unset] [(.double z1), (.double y1), (.double x1), (.ref b112), (.ref b112)])) _
        refine st118 _ ?_
        show Steps p.tables e below (T118.setTop (mkF m 79 #[.val (.int p0), .val (.int p1), .val (.int p2), .val (.int p3), .val (.int a1), .val (.int b1), .val (.int c1), .val (.double x1), .second, .val (.double y1), .second, .val (.double z1), .second, .unset, .unset, .unset, .unset, .unset, .unset, .unset, .unset, .unset] [(.ref b118), (.double z1), (.double y1), (.double x1), (.ref b112), (.ref b112)])) _
        refine XS.dup X118.here hx rfl (hb hby at_79) rfl rfl ?_
        show Steps p.tables e below (T118.setTop (mkF m 80 #[.val (.int p0), .val (.int p1), .val (.int p2), .val (.int p3), .val (.int a1), .val (.int b1), .val (.int c1), .val (.double x1), .second, .val (.double y1), .second, .val (.double z1), .second, .unset, .unset, .unset, .unset, .unset, .unset, .unset, .unset, .unset] [(.ref b118), (.ref b118), (.double z1), (.double y1), (.double x1), (.ref b112), (.ref b112)])) _
        refine XS.dconst1 X118.here hx rfl (hb hby at_80) rfl ?_
        show Steps p.tables e below (T118.setTop (mkF m 81 #[.val (.int p0), .val (.int p1), .val (.int p2), .val (.int p3), .val (.int a1), .val (.int b1), .val (.int c1), .val (.double x1), .second, .val (.double y1), .second, .val (.double z1), .second, .unset, .unset, .unset, .unset, .unset, .unset, .unset, .unset, .unset] [(.double FP.dconst1), (.ref b118), (.ref b118), (.double z1), (.double y1), (.double x1), (.ref b112), (.ref b112)])) _
        refine XS.dconst1 X118.here hx rfl (hb hby at_81) rfl ?_
        show Steps p.tables e below (T118.setTop (mkF m 82 #[.val (.int p0), .val (.int p1), .val (.int p2), .val (.int p3), .val (.int a1), .val (.int b1), .val (.int c1), .val (.double x1), .second, .val (.double y1), .second, .val (.double z1), .second, .unset, .unset, .unset, .unset, .unset, .unset, .unset, .unset, .unset] [(.double FP.dconst1), (.double FP.dconst1), (.ref b118), (.ref b118), (.double z1), (.double y1), (.double x1), (.ref b112), (.ref b112)])) _
        refine st128.trans ?_
        show Steps p.tables e below (T128.setTop (mkF m 85 #[.val (.int p0), .val (.int p1), .val (.int p2), .val (.int p3), .val (.int a1), .val (.int b1), .val (.int c1), .val (.double x1), .second, .val (.double y1), .second, .val (.double z1), .second, .unset, .unset, .unset, .unset, .unset, .unset, .unset, .unset, .unset] [(.ref b118), (.double z1), (.double y1), (.double x1), (.ref b112), (.ref b112)])) _
        refine st140.trans ?_
        exact kk)
    have hZ : Z.Warmed39 (s.setVm T140.vm).vm := State.Warmed39.trans (t := s) hZ hS140.1
    have hown : (s.setVm T140.vm).vm.findClass "com/example/even_keel/evenkeel/estimation/DurationCostDurationPinLaw" = some m.cls := by rw [show (s.setVm T140.vm).vm = T140.vm from rfl, hS140.1.alike.findClass]; exact hown
    have hp154 : Jvm.Free.Fl.NoNaN64 (FP.dmul (FP.i2d p0) x1) := (own_t1 dx1 ma1).nn
    have hp155 : Jvm.Free.Fl.NoNaN64 (FP.dadd (FP.dmul (FP.i2d p0) x1) y1) := (own_t2 dx1 ma1 dy1 mb1).nn
    have hp156 : Jvm.Free.Fl.NoNaN64 (FP.dsub (FP.dadd (FP.dmul (FP.i2d p0) x1) y1) FP.dconst1) := (own_t3 dx1 ma1 dy1 mb1).nn
    have hp157 : Jvm.Free.Fl.NoNaN64 (FP.dmul (FP.dsub (FP.dadd (FP.dmul (FP.i2d p0) x1) y1) FP.dconst1) z1) := (own_t4 dx1 ma1 dy1 mb1 dz1 mc1).nn
    obtain ⟨cq153, kq153, q153a, q153b, q153c⟩ := isOf hZ rfl P140_0
    obtain ⟨_, _, ⟨T153, L153, k153, n153⟩, -, X153, ⟨Lc153, hQ153, l153, y153, z153⟩, st153⟩ := X140.virtualBack hx (y := (⟨"com/example/even_keel/evenkeel/estimation/DurationCost", "duration", "(I)D"⟩ : MethodName)) (z := (⟨"com/example/even_keel/evenkeel/estimation/DurationCost", "duration", "(I)D"⟩ : MethodName)) hown (mvT hZ (hw _ (List.mem_of_getElem? (i := 50) rfl))) (mvT hZ (hw _ (List.mem_of_getElem? (i := 51) rfl))) (notFace_of_selects (args := #[]) (mvT hZ (hw _ (List.mem_of_getElem? (i := 53) rfl)))) (mvT hZ (hw _ (List.mem_of_getElem? (i := 53) rfl))) (mvT hZ (hw _ (List.mem_of_getElem? (i := 52) rfl))) (by decide) (backOf (W := 0) (rmDur l Z a0 hw [] b112 p0 x1 y1 z1 T140.heap n0 (Nat.le_trans Z0 K151.1) P140_1 P140_2 P140_3 hp154 hp155 hp156 hp157) hZ (hw _ (List.mem_of_getElem? (i := 54) rfl)) (hw _ (List.mem_of_getElem? (i := 3) rfl)) (by decide) (by decide)) q153a q153c (g := (mkF m 93 #[.val (.int p0), .val (.int p1), .val (.int p2), .val (.int p3), .val (.int a1), .val (.int b1), .val (.int c1), .val (.double x1), .second, .val (.double y1), .second, .val (.double z1), .second, .val (.ref b112), .unset, .unset, .unset, .unset, .unset, .unset, .unset, .unset] [(.int p0), (.ref b112)])) rfl (by rw [hml]; rfl) (Steps.refl _) (argsL := [(.int p0)]) (rest := []) (lenOf pd_4 rfl) rfl (by show 2 * 0 + _ ≤ _; exact Nat.le_of_eq rfl) (hb hby at_93) (fun _ _ => ⟨rfl, rfl, (by decide : 8 + 0 ≤ _), (by decide : 194 + 0 ≤ _)⟩)
    dsimp only [Pt.U, Pt.locs, Pt.cells, Pt.slots] at X153 l153 y153 z153 st153 hQ153
    rw [l153, y153, z153] at X153
    replace X153 := own_std X153 (cc := 8) (ss := 194) rfl rfl
    obtain ⟨rfl, N153q, e153⟩ := hQ153
    have N153 := Fr.app N140 N153q
    have pre158 : ∀ t, Steps p.tables e below (T153.setTop (mkF m 144 #[.val (.int p0), .val (.int p1), .val (.int p2), .val (.int p3), .val (.int a1), .val (.int b1), .val (.int c1), .val (.double x1), .second, .val (.double y1), .second, .val (.double z1), .second, .val (.ref b112), .val (.double (FP.dmul (FP.dsub (FP.dadd (FP.dmul (FP.i2d p0) x1) y1) FP.dconst1) z1)), .second, .val (.long ((((p0.toInt64) * (a1.toInt64)) + (b1.toInt64)) - (8 : Int64))), .second, .val (.long (((((p0.toInt64) * (a1.toInt64)) + (b1.toInt64)) - (8 : Int64)) * (c1.toInt64))), .second, .val (.double (FP.ddiv (FP.l2d (((((p0.toInt64) * (a1.toInt64)) + (b1.toInt64)) - (8 : Int64)) * (c1.toInt64))) (4634204016564240384 : UInt64))), .second] [(.int (1 : Int32))])) t → Steps p.tables e below (s₁.setTop (entryFrame m #[(.int p0), (.int p1), (.int p2), (.int p3)] maxLocals)) t := fun t kk => pre152 t (by
        show Steps p.tables e below (T140.setTop (mkF m 88 #[.val (.int p0), .val (.int p1), .val (.int p2), .val (.int p3), .val (.int a1), .val (.int b1), .val (.int c1), .val (.double x1), .second, .val (.double y1), .second, .val (.double z1), .second, .unset, .unset, .unset, .unset, .unset, .unset, .unset, .unset, .unset] [(.ref b112)])) _
        refine XS.astore X140.here hx rfl (hb hby at_88) rfl rfl (l' := #[.val (.int p0), .val (.int p1), .val (.int p2), .val (.int p3), .val (.int a1), .val (.int b1), .val (.int c1), .val (.double x1), .second, .val (.double y1), .second, .val (.double z1), .second, .val (.ref b112), .unset, .unset, .unset, .unset, .unset, .unset, .unset, .unset]) rfl ?_
        show Steps p.tables e below (T140.setTop (mkF m 90 #[.val (.int p0), .val (.int p1), .val (.int p2), .val (.int p3), .val (.int a1), .val (.int b1), .val (.int c1), .val (.double x1), .second, .val (.double y1), .second, .val (.double z1), .second, .val (.ref b112), .unset, .unset, .unset, .unset, .unset, .unset, .unset, .unset] [])) _
        refine XS.aload X140.here hx rfl (hb hby at_90) rfl rfl ?_
        show Steps p.tables e below (T140.setTop (mkF m 92 #[.val (.int p0), .val (.int p1), .val (.int p2), .val (.int p3), .val (.int a1), .val (.int b1), .val (.int c1), .val (.double x1), .second, .val (.double y1), .second, .val (.double z1), .second, .val (.ref b112), .unset, .unset, .unset, .unset, .unset, .unset, .unset, .unset] [(.ref b112)])) _
        refine XS.iloadN X140.here hx rfl (hb hby at_92) rfl ?_
        show Steps p.tables e below (T140.setTop (mkF m 93 #[.val (.int p0), .val (.int p1), .val (.int p2), .val (.int p3), .val (.int a1), .val (.int b1), .val (.int c1), .val (.double x1), .second, .val (.double y1), .second, .val (.double z1), .second, .val (.ref b112), .unset, .unset, .unset, .unset, .unset, .unset, .unset, .unset] [(.int p0), (.ref b112)])) _
        refine st153.trans ?_
        show Steps p.tables e below (T153.setTop (mkF m 96 #[.val (.int p0), .val (.int p1), .val (.int p2), .val (.int p3), .val (.int a1), .val (.int b1), .val (.int c1), .val (.double x1), .second, .val (.double y1), .second, .val (.double z1), .second, .val (.ref b112), .unset, .unset, .unset, .unset, .unset, .unset, .unset, .unset] [(.double (FP.dmul (FP.dsub (FP.dadd (FP.dmul (FP.i2d p0) x1) y1) FP.dconst1) z1))])) _
        refine XS.dstore X153.here hx rfl (hb hby at_96) rfl (l' := #[.val (.int p0), .val (.int p1), .val (.int p2), .val (.int p3), .val (.int a1), .val (.int b1), .val (.int c1), .val (.double x1), .second, .val (.double y1), .second, .val (.double z1), .second, .val (.ref b112), .val (.double (FP.dmul (FP.dsub (FP.dadd (FP.dmul (FP.i2d p0) x1) y1) FP.dconst1) z1)), .second, .unset, .unset, .unset, .unset, .unset, .unset]) rfl ?_
        show Steps p.tables e below (T153.setTop (mkF m 98 #[.val (.int p0), .val (.int p1), .val (.int p2), .val (.int p3), .val (.int a1), .val (.int b1), .val (.int c1), .val (.double x1), .second, .val (.double y1), .second, .val (.double z1), .second, .val (.ref b112), .val (.double (FP.dmul (FP.dsub (FP.dadd (FP.dmul (FP.i2d p0) x1) y1) FP.dconst1) z1)), .second, .unset, .unset, .unset, .unset, .unset, .unset] [])) _
        refine XS.iloadN X153.here hx rfl (hb hby at_98) rfl ?_
        show Steps p.tables e below (T153.setTop (mkF m 99 #[.val (.int p0), .val (.int p1), .val (.int p2), .val (.int p3), .val (.int a1), .val (.int b1), .val (.int c1), .val (.double x1), .second, .val (.double y1), .second, .val (.double z1), .second, .val (.ref b112), .val (.double (FP.dmul (FP.dsub (FP.dadd (FP.dmul (FP.i2d p0) x1) y1) FP.dconst1) z1)), .second, .unset, .unset, .unset, .unset, .unset, .unset] [(.int p0)])) _
        refine XS.i2l X153.here hx rfl (hb hby at_99) rfl ?_
        show Steps p.tables e below (T153.setTop (mkF m 100 #[.val (.int p0), .val (.int p1), .val (.int p2), .val (.int p3), .val (.int a1), .val (.int b1), .val (.int c1), .val (.double x1), .second, .val (.double y1), .second, .val (.double z1), .second, .val (.ref b112), .val (.double (FP.dmul (FP.dsub (FP.dadd (FP.dmul (FP.i2d p0) x1) y1) FP.dconst1) z1)), .second, .unset, .unset, .unset, .unset, .unset, .unset] [(.long (p0.toInt64))])) _
        refine XS.iload X153.here hx rfl (hb hby at_100) rfl ?_
        show Steps p.tables e below (T153.setTop (mkF m 102 #[.val (.int p0), .val (.int p1), .val (.int p2), .val (.int p3), .val (.int a1), .val (.int b1), .val (.int c1), .val (.double x1), .second, .val (.double y1), .second, .val (.double z1), .second, .val (.ref b112), .val (.double (FP.dmul (FP.dsub (FP.dadd (FP.dmul (FP.i2d p0) x1) y1) FP.dconst1) z1)), .second, .unset, .unset, .unset, .unset, .unset, .unset] [(.int a1), (.long (p0.toInt64))])) _
        refine XS.i2l X153.here hx rfl (hb hby at_102) rfl ?_
        show Steps p.tables e below (T153.setTop (mkF m 103 #[.val (.int p0), .val (.int p1), .val (.int p2), .val (.int p3), .val (.int a1), .val (.int b1), .val (.int c1), .val (.double x1), .second, .val (.double y1), .second, .val (.double z1), .second, .val (.ref b112), .val (.double (FP.dmul (FP.dsub (FP.dadd (FP.dmul (FP.i2d p0) x1) y1) FP.dconst1) z1)), .second, .unset, .unset, .unset, .unset, .unset, .unset] [(.long (a1.toInt64)), (.long (p0.toInt64))])) _
        refine XS.lmul X153.here hx rfl (hb hby at_103) rfl ?_
        show Steps p.tables e below (T153.setTop (mkF m 104 #[.val (.int p0), .val (.int p1), .val (.int p2), .val (.int p3), .val (.int a1), .val (.int b1), .val (.int c1), .val (.double x1), .second, .val (.double y1), .second, .val (.double z1), .second, .val (.ref b112), .val (.double (FP.dmul (FP.dsub (FP.dadd (FP.dmul (FP.i2d p0) x1) y1) FP.dconst1) z1)), .second, .unset, .unset, .unset, .unset, .unset, .unset] [(.long ((p0.toInt64) * (a1.toInt64)))])) _
        refine XS.iload X153.here hx rfl (hb hby at_104) rfl ?_
        show Steps p.tables e below (T153.setTop (mkF m 106 #[.val (.int p0), .val (.int p1), .val (.int p2), .val (.int p3), .val (.int a1), .val (.int b1), .val (.int c1), .val (.double x1), .second, .val (.double y1), .second, .val (.double z1), .second, .val (.ref b112), .val (.double (FP.dmul (FP.dsub (FP.dadd (FP.dmul (FP.i2d p0) x1) y1) FP.dconst1) z1)), .second, .unset, .unset, .unset, .unset, .unset, .unset] [(.int b1), (.long ((p0.toInt64) * (a1.toInt64)))])) _
        refine XS.i2l X153.here hx rfl (hb hby at_106) rfl ?_
        show Steps p.tables e below (T153.setTop (mkF m 107 #[.val (.int p0), .val (.int p1), .val (.int p2), .val (.int p3), .val (.int a1), .val (.int b1), .val (.int c1), .val (.double x1), .second, .val (.double y1), .second, .val (.double z1), .second, .val (.ref b112), .val (.double (FP.dmul (FP.dsub (FP.dadd (FP.dmul (FP.i2d p0) x1) y1) FP.dconst1) z1)), .second, .unset, .unset, .unset, .unset, .unset, .unset] [(.long (b1.toInt64)), (.long ((p0.toInt64) * (a1.toInt64)))])) _
        refine XS.ladd X153.here hx rfl (hb hby at_107) rfl ?_
        show Steps p.tables e below (T153.setTop (mkF m 108 #[.val (.int p0), .val (.int p1), .val (.int p2), .val (.int p3), .val (.int a1), .val (.int b1), .val (.int c1), .val (.double x1), .second, .val (.double y1), .second, .val (.double z1), .second, .val (.ref b112), .val (.double (FP.dmul (FP.dsub (FP.dadd (FP.dmul (FP.i2d p0) x1) y1) FP.dconst1) z1)), .second, .unset, .unset, .unset, .unset, .unset, .unset] [(.long (((p0.toInt64) * (a1.toInt64)) + (b1.toInt64)))])) _
        refine X153.ldc2Long hx hown (mvT hZ (hw _ (List.mem_of_getElem? (i := 55) rfl))) (g := (mkF m 108 #[.val (.int p0), .val (.int p1), .val (.int p2), .val (.int p3), .val (.int a1), .val (.int b1), .val (.int c1), .val (.double x1), .second, .val (.double y1), .second, .val (.double z1), .second, .val (.ref b112), .val (.double (FP.dmul (FP.dsub (FP.dadd (FP.dmul (FP.i2d p0) x1) y1) FP.dconst1) z1)), .second, .unset, .unset, .unset, .unset, .unset, .unset] [(.long (((p0.toInt64) * (a1.toInt64)) + (b1.toInt64)))])) rfl (hb hby at_108) _ ?_
        show Steps p.tables e below (T153.setTop (mkF m 111 #[.val (.int p0), .val (.int p1), .val (.int p2), .val (.int p3), .val (.int a1), .val (.int b1), .val (.int c1), .val (.double x1), .second, .val (.double y1), .second, .val (.double z1), .second, .val (.ref b112), .val (.double (FP.dmul (FP.dsub (FP.dadd (FP.dmul (FP.i2d p0) x1) y1) FP.dconst1) z1)), .second, .unset, .unset, .unset, .unset, .unset, .unset] [(.long (8 : Int64)), (.long (((p0.toInt64) * (a1.toInt64)) + (b1.toInt64)))])) _
        refine XS.lsub X153.here hx rfl (hb hby at_111) rfl ?_
        show Steps p.tables e below (T153.setTop (mkF m 112 #[.val (.int p0), .val (.int p1), .val (.int p2), .val (.int p3), .val (.int a1), .val (.int b1), .val (.int c1), .val (.double x1), .second, .val (.double y1), .second, .val (.double z1), .second, .val (.ref b112), .val (.double (FP.dmul (FP.dsub (FP.dadd (FP.dmul (FP.i2d p0) x1) y1) FP.dconst1) z1)), .second, .unset, .unset, .unset, .unset, .unset, .unset] [(.long ((((p0.toInt64) * (a1.toInt64)) + (b1.toInt64)) - (8 : Int64)))])) _
        refine XS.lstore X153.here hx rfl (hb hby at_112) rfl (l' := #[.val (.int p0), .val (.int p1), .val (.int p2), .val (.int p3), .val (.int a1), .val (.int b1), .val (.int c1), .val (.double x1), .second, .val (.double y1), .second, .val (.double z1), .second, .val (.ref b112), .val (.double (FP.dmul (FP.dsub (FP.dadd (FP.dmul (FP.i2d p0) x1) y1) FP.dconst1) z1)), .second, .val (.long ((((p0.toInt64) * (a1.toInt64)) + (b1.toInt64)) - (8 : Int64))), .second, .unset, .unset, .unset, .unset]) rfl ?_
        show Steps p.tables e below (T153.setTop (mkF m 114 #[.val (.int p0), .val (.int p1), .val (.int p2), .val (.int p3), .val (.int a1), .val (.int b1), .val (.int c1), .val (.double x1), .second, .val (.double y1), .second, .val (.double z1), .second, .val (.ref b112), .val (.double (FP.dmul (FP.dsub (FP.dadd (FP.dmul (FP.i2d p0) x1) y1) FP.dconst1) z1)), .second, .val (.long ((((p0.toInt64) * (a1.toInt64)) + (b1.toInt64)) - (8 : Int64))), .second, .unset, .unset, .unset, .unset] [])) _
        refine XS.lload X153.here hx rfl (hb hby at_114) rfl ?_
        show Steps p.tables e below (T153.setTop (mkF m 116 #[.val (.int p0), .val (.int p1), .val (.int p2), .val (.int p3), .val (.int a1), .val (.int b1), .val (.int c1), .val (.double x1), .second, .val (.double y1), .second, .val (.double z1), .second, .val (.ref b112), .val (.double (FP.dmul (FP.dsub (FP.dadd (FP.dmul (FP.i2d p0) x1) y1) FP.dconst1) z1)), .second, .val (.long ((((p0.toInt64) * (a1.toInt64)) + (b1.toInt64)) - (8 : Int64))), .second, .unset, .unset, .unset, .unset] [(.long ((((p0.toInt64) * (a1.toInt64)) + (b1.toInt64)) - (8 : Int64)))])) _
        refine XS.iload X153.here hx rfl (hb hby at_116) rfl ?_
        show Steps p.tables e below (T153.setTop (mkF m 118 #[.val (.int p0), .val (.int p1), .val (.int p2), .val (.int p3), .val (.int a1), .val (.int b1), .val (.int c1), .val (.double x1), .second, .val (.double y1), .second, .val (.double z1), .second, .val (.ref b112), .val (.double (FP.dmul (FP.dsub (FP.dadd (FP.dmul (FP.i2d p0) x1) y1) FP.dconst1) z1)), .second, .val (.long ((((p0.toInt64) * (a1.toInt64)) + (b1.toInt64)) - (8 : Int64))), .second, .unset, .unset, .unset, .unset] [(.int c1), (.long ((((p0.toInt64) * (a1.toInt64)) + (b1.toInt64)) - (8 : Int64)))])) _
        refine XS.i2l X153.here hx rfl (hb hby at_118) rfl ?_
        show Steps p.tables e below (T153.setTop (mkF m 119 #[.val (.int p0), .val (.int p1), .val (.int p2), .val (.int p3), .val (.int a1), .val (.int b1), .val (.int c1), .val (.double x1), .second, .val (.double y1), .second, .val (.double z1), .second, .val (.ref b112), .val (.double (FP.dmul (FP.dsub (FP.dadd (FP.dmul (FP.i2d p0) x1) y1) FP.dconst1) z1)), .second, .val (.long ((((p0.toInt64) * (a1.toInt64)) + (b1.toInt64)) - (8 : Int64))), .second, .unset, .unset, .unset, .unset] [(.long (c1.toInt64)), (.long ((((p0.toInt64) * (a1.toInt64)) + (b1.toInt64)) - (8 : Int64)))])) _
        refine XS.lmul X153.here hx rfl (hb hby at_119) rfl ?_
        show Steps p.tables e below (T153.setTop (mkF m 120 #[.val (.int p0), .val (.int p1), .val (.int p2), .val (.int p3), .val (.int a1), .val (.int b1), .val (.int c1), .val (.double x1), .second, .val (.double y1), .second, .val (.double z1), .second, .val (.ref b112), .val (.double (FP.dmul (FP.dsub (FP.dadd (FP.dmul (FP.i2d p0) x1) y1) FP.dconst1) z1)), .second, .val (.long ((((p0.toInt64) * (a1.toInt64)) + (b1.toInt64)) - (8 : Int64))), .second, .unset, .unset, .unset, .unset] [(.long (((((p0.toInt64) * (a1.toInt64)) + (b1.toInt64)) - (8 : Int64)) * (c1.toInt64)))])) _
        refine XS.lstore X153.here hx rfl (hb hby at_120) rfl (l' := #[.val (.int p0), .val (.int p1), .val (.int p2), .val (.int p3), .val (.int a1), .val (.int b1), .val (.int c1), .val (.double x1), .second, .val (.double y1), .second, .val (.double z1), .second, .val (.ref b112), .val (.double (FP.dmul (FP.dsub (FP.dadd (FP.dmul (FP.i2d p0) x1) y1) FP.dconst1) z1)), .second, .val (.long ((((p0.toInt64) * (a1.toInt64)) + (b1.toInt64)) - (8 : Int64))), .second, .val (.long (((((p0.toInt64) * (a1.toInt64)) + (b1.toInt64)) - (8 : Int64)) * (c1.toInt64))), .second, .unset, .unset]) rfl ?_
        show Steps p.tables e below (T153.setTop (mkF m 122 #[.val (.int p0), .val (.int p1), .val (.int p2), .val (.int p3), .val (.int a1), .val (.int b1), .val (.int c1), .val (.double x1), .second, .val (.double y1), .second, .val (.double z1), .second, .val (.ref b112), .val (.double (FP.dmul (FP.dsub (FP.dadd (FP.dmul (FP.i2d p0) x1) y1) FP.dconst1) z1)), .second, .val (.long ((((p0.toInt64) * (a1.toInt64)) + (b1.toInt64)) - (8 : Int64))), .second, .val (.long (((((p0.toInt64) * (a1.toInt64)) + (b1.toInt64)) - (8 : Int64)) * (c1.toInt64))), .second, .unset, .unset] [])) _
        refine XS.lload X153.here hx rfl (hb hby at_122) rfl ?_
        show Steps p.tables e below (T153.setTop (mkF m 124 #[.val (.int p0), .val (.int p1), .val (.int p2), .val (.int p3), .val (.int a1), .val (.int b1), .val (.int c1), .val (.double x1), .second, .val (.double y1), .second, .val (.double z1), .second, .val (.ref b112), .val (.double (FP.dmul (FP.dsub (FP.dadd (FP.dmul (FP.i2d p0) x1) y1) FP.dconst1) z1)), .second, .val (.long ((((p0.toInt64) * (a1.toInt64)) + (b1.toInt64)) - (8 : Int64))), .second, .val (.long (((((p0.toInt64) * (a1.toInt64)) + (b1.toInt64)) - (8 : Int64)) * (c1.toInt64))), .second, .unset, .unset] [(.long (((((p0.toInt64) * (a1.toInt64)) + (b1.toInt64)) - (8 : Int64)) * (c1.toInt64)))])) _
        refine XS.l2dS X153.here hx rfl (hb hby at_124) rfl rfl ?_
        show Steps p.tables e below (T153.setTop (mkF m 125 #[.val (.int p0), .val (.int p1), .val (.int p2), .val (.int p3), .val (.int a1), .val (.int b1), .val (.int c1), .val (.double x1), .second, .val (.double y1), .second, .val (.double z1), .second, .val (.ref b112), .val (.double (FP.dmul (FP.dsub (FP.dadd (FP.dmul (FP.i2d p0) x1) y1) FP.dconst1) z1)), .second, .val (.long ((((p0.toInt64) * (a1.toInt64)) + (b1.toInt64)) - (8 : Int64))), .second, .val (.long (((((p0.toInt64) * (a1.toInt64)) + (b1.toInt64)) - (8 : Int64)) * (c1.toInt64))), .second, .unset, .unset] [(.double (FP.l2d (((((p0.toInt64) * (a1.toInt64)) + (b1.toInt64)) - (8 : Int64)) * (c1.toInt64))))])) _
        refine X153.ldc2DoubleC hx hown (mvT hZ (hw _ (List.mem_of_getElem? (i := 56) rfl))) (g := (mkF m 125 #[.val (.int p0), .val (.int p1), .val (.int p2), .val (.int p3), .val (.int a1), .val (.int b1), .val (.int c1), .val (.double x1), .second, .val (.double y1), .second, .val (.double z1), .second, .val (.ref b112), .val (.double (FP.dmul (FP.dsub (FP.dadd (FP.dmul (FP.i2d p0) x1) y1) FP.dconst1) z1)), .second, .val (.long ((((p0.toInt64) * (a1.toInt64)) + (b1.toInt64)) - (8 : Int64))), .second, .val (.long (((((p0.toInt64) * (a1.toInt64)) + (b1.toInt64)) - (8 : Int64)) * (c1.toInt64))), .second, .unset, .unset] [(.double (FP.l2d (((((p0.toInt64) * (a1.toInt64)) + (b1.toInt64)) - (8 : Int64)) * (c1.toInt64))))])) rfl (hb hby at_125) _ ?_
        show Steps p.tables e below (T153.setTop (mkF m 128 #[.val (.int p0), .val (.int p1), .val (.int p2), .val (.int p3), .val (.int a1), .val (.int b1), .val (.int c1), .val (.double x1), .second, .val (.double y1), .second, .val (.double z1), .second, .val (.ref b112), .val (.double (FP.dmul (FP.dsub (FP.dadd (FP.dmul (FP.i2d p0) x1) y1) FP.dconst1) z1)), .second, .val (.long ((((p0.toInt64) * (a1.toInt64)) + (b1.toInt64)) - (8 : Int64))), .second, .val (.long (((((p0.toInt64) * (a1.toInt64)) + (b1.toInt64)) - (8 : Int64)) * (c1.toInt64))), .second, .unset, .unset] [(.double (4634204016564240384 : UInt64)), (.double (FP.l2d (((((p0.toInt64) * (a1.toInt64)) + (b1.toInt64)) - (8 : Int64)) * (c1.toInt64))))])) _
        refine XS.ddivS X153.here hx rfl (hb hby at_128) rfl (own_ex (n := p0) ma1 mb1 mc1).nn rfl ?_
        show Steps p.tables e below (T153.setTop (mkF m 129 #[.val (.int p0), .val (.int p1), .val (.int p2), .val (.int p3), .val (.int a1), .val (.int b1), .val (.int c1), .val (.double x1), .second, .val (.double y1), .second, .val (.double z1), .second, .val (.ref b112), .val (.double (FP.dmul (FP.dsub (FP.dadd (FP.dmul (FP.i2d p0) x1) y1) FP.dconst1) z1)), .second, .val (.long ((((p0.toInt64) * (a1.toInt64)) + (b1.toInt64)) - (8 : Int64))), .second, .val (.long (((((p0.toInt64) * (a1.toInt64)) + (b1.toInt64)) - (8 : Int64)) * (c1.toInt64))), .second, .unset, .unset] [(.double (FP.ddiv (FP.l2d (((((p0.toInt64) * (a1.toInt64)) + (b1.toInt64)) - (8 : Int64)) * (c1.toInt64))) (4634204016564240384 : UInt64)))])) _
        refine XS.dstore X153.here hx rfl (hb hby at_129) rfl (l' := #[.val (.int p0), .val (.int p1), .val (.int p2), .val (.int p3), .val (.int a1), .val (.int b1), .val (.int c1), .val (.double x1), .second, .val (.double y1), .second, .val (.double z1), .second, .val (.ref b112), .val (.double (FP.dmul (FP.dsub (FP.dadd (FP.dmul (FP.i2d p0) x1) y1) FP.dconst1) z1)), .second, .val (.long ((((p0.toInt64) * (a1.toInt64)) + (b1.toInt64)) - (8 : Int64))), .second, .val (.long (((((p0.toInt64) * (a1.toInt64)) + (b1.toInt64)) - (8 : Int64)) * (c1.toInt64))), .second, .val (.double (FP.ddiv (FP.l2d (((((p0.toInt64) * (a1.toInt64)) + (b1.toInt64)) - (8 : Int64)) * (c1.toInt64))) (4634204016564240384 : UInt64))), .second]) rfl ?_
        show Steps p.tables e below (T153.setTop (mkF m 131 #[.val (.int p0), .val (.int p1), .val (.int p2), .val (.int p3), .val (.int a1), .val (.int b1), .val (.int c1), .val (.double x1), .second, .val (.double y1), .second, .val (.double z1), .second, .val (.ref b112), .val (.double (FP.dmul (FP.dsub (FP.dadd (FP.dmul (FP.i2d p0) x1) y1) FP.dconst1) z1)), .second, .val (.long ((((p0.toInt64) * (a1.toInt64)) + (b1.toInt64)) - (8 : Int64))), .second, .val (.long (((((p0.toInt64) * (a1.toInt64)) + (b1.toInt64)) - (8 : Int64)) * (c1.toInt64))), .second, .val (.double (FP.ddiv (FP.l2d (((((p0.toInt64) * (a1.toInt64)) + (b1.toInt64)) - (8 : Int64)) * (c1.toInt64))) (4634204016564240384 : UInt64))), .second] [])) _
        refine XS.dload X153.here hx rfl (hb hby at_131) rfl ?_
        show Steps p.tables e below (T153.setTop (mkF m 133 #[.val (.int p0), .val (.int p1), .val (.int p2), .val (.int p3), .val (.int a1), .val (.int b1), .val (.int c1), .val (.double x1), .second, .val (.double y1), .second, .val (.double z1), .second, .val (.ref b112), .val (.double (FP.dmul (FP.dsub (FP.dadd (FP.dmul (FP.i2d p0) x1) y1) FP.dconst1) z1)), .second, .val (.long ((((p0.toInt64) * (a1.toInt64)) + (b1.toInt64)) - (8 : Int64))), .second, .val (.long (((((p0.toInt64) * (a1.toInt64)) + (b1.toInt64)) - (8 : Int64)) * (c1.toInt64))), .second, .val (.double (FP.ddiv (FP.l2d (((((p0.toInt64) * (a1.toInt64)) + (b1.toInt64)) - (8 : Int64)) * (c1.toInt64))) (4634204016564240384 : UInt64))), .second] [(.double (FP.dmul (FP.dsub (FP.dadd (FP.dmul (FP.i2d p0) x1) y1) FP.dconst1) z1))])) _
        refine XS.dload X153.here hx rfl (hb hby at_133) rfl ?_
        show Steps p.tables e below (T153.setTop (mkF m 135 #[.val (.int p0), .val (.int p1), .val (.int p2), .val (.int p3), .val (.int a1), .val (.int b1), .val (.int c1), .val (.double x1), .second, .val (.double y1), .second, .val (.double z1), .second, .val (.ref b112), .val (.double (FP.dmul (FP.dsub (FP.dadd (FP.dmul (FP.i2d p0) x1) y1) FP.dconst1) z1)), .second, .val (.long ((((p0.toInt64) * (a1.toInt64)) + (b1.toInt64)) - (8 : Int64))), .second, .val (.long (((((p0.toInt64) * (a1.toInt64)) + (b1.toInt64)) - (8 : Int64)) * (c1.toInt64))), .second, .val (.double (FP.ddiv (FP.l2d (((((p0.toInt64) * (a1.toInt64)) + (b1.toInt64)) - (8 : Int64)) * (c1.toInt64))) (4634204016564240384 : UInt64))), .second] [(.double (FP.ddiv (FP.l2d (((((p0.toInt64) * (a1.toInt64)) + (b1.toInt64)) - (8 : Int64)) * (c1.toInt64))) (4634204016564240384 : UInt64))), (.double (FP.dmul (FP.dsub (FP.dadd (FP.dmul (FP.i2d p0) x1) y1) FP.dconst1) z1))])) _
        refine XS.dcmpS X153.here hx rfl (hb hby at_135) rfl (v := (0 : Int32)) (own_eqd (own_t4 dx1 ma1 dy1 mb1 dz1 mc1) (own_ex (n := p0) ma1 mb1 mc1)) ?_
        show Steps p.tables e below (T153.setTop (mkF m 136 #[.val (.int p0), .val (.int p1), .val (.int p2), .val (.int p3), .val (.int a1), .val (.int b1), .val (.int c1), .val (.double x1), .second, .val (.double y1), .second, .val (.double z1), .second, .val (.ref b112), .val (.double (FP.dmul (FP.dsub (FP.dadd (FP.dmul (FP.i2d p0) x1) y1) FP.dconst1) z1)), .second, .val (.long ((((p0.toInt64) * (a1.toInt64)) + (b1.toInt64)) - (8 : Int64))), .second, .val (.long (((((p0.toInt64) * (a1.toInt64)) + (b1.toInt64)) - (8 : Int64)) * (c1.toInt64))), .second, .val (.double (FP.ddiv (FP.l2d (((((p0.toInt64) * (a1.toInt64)) + (b1.toInt64)) - (8 : Int64)) * (c1.toInt64))) (4634204016564240384 : UInt64))), .second] [(.int (0 : Int32))])) _
        refine XS.ifNo X153.here hx rfl (hb hby at_136) rfl ((if0 _ _).trans (teq (by decide : (0 : Int32) = (0 : Int32))).2) ?_
        show Steps p.tables e below (T153.setTop (mkF m 139 #[.val (.int p0), .val (.int p1), .val (.int p2), .val (.int p3), .val (.int a1), .val (.int b1), .val (.int c1), .val (.double x1), .second, .val (.double y1), .second, .val (.double z1), .second, .val (.ref b112), .val (.double (FP.dmul (FP.dsub (FP.dadd (FP.dmul (FP.i2d p0) x1) y1) FP.dconst1) z1)), .second, .val (.long ((((p0.toInt64) * (a1.toInt64)) + (b1.toInt64)) - (8 : Int64))), .second, .val (.long (((((p0.toInt64) * (a1.toInt64)) + (b1.toInt64)) - (8 : Int64)) * (c1.toInt64))), .second, .val (.double (FP.ddiv (FP.l2d (((((p0.toInt64) * (a1.toInt64)) + (b1.toInt64)) - (8 : Int64)) * (c1.toInt64))) (4634204016564240384 : UInt64))), .second] [])) _
        refine XS.iconst X153.here hx rfl (hb hby at_139) ?_
        show Steps p.tables e below (T153.setTop (mkF m 140 #[.val (.int p0), .val (.int p1), .val (.int p2), .val (.int p3), .val (.int a1), .val (.int b1), .val (.int c1), .val (.double x1), .second, .val (.double y1), .second, .val (.double z1), .second, .val (.ref b112), .val (.double (FP.dmul (FP.dsub (FP.dadd (FP.dmul (FP.i2d p0) x1) y1) FP.dconst1) z1)), .second, .val (.long ((((p0.toInt64) * (a1.toInt64)) + (b1.toInt64)) - (8 : Int64))), .second, .val (.long (((((p0.toInt64) * (a1.toInt64)) + (b1.toInt64)) - (8 : Int64)) * (c1.toInt64))), .second, .val (.double (FP.ddiv (FP.l2d (((((p0.toInt64) * (a1.toInt64)) + (b1.toInt64)) - (8 : Int64)) * (c1.toInt64))) (4634204016564240384 : UInt64))), .second] [(.int (1 : Int32))])) _
        refine XS.goto X153.here hx rfl (pc0 := 140) (pc' := 144) rfl (hb hby at_140) (by decide) (by decide) ?_
        exact kk)
    obtain ⟨fs, hr, hrun, hended, hRE⟩ := X153.leaveW (s := s) hS140 (by rw [e153]; exact (Nat.le_refl _)) (v := some (.int (1 : Int32))) (fun h => by rw [Bd.returns] at h; cases h)
    refine ⟨_, _, pre158 _ ?_, hrun, hended, _, _, rfl, ?_, own_rew hRE (by decide) (by decide)⟩
    · show Steps p.tables e below (T153.setTop (mkF m 144 #[.val (.int p0), .val (.int p1), .val (.int p2), .val (.int p3), .val (.int a1), .val (.int b1), .val (.int c1), .val (.double x1), .second, .val (.double y1), .second, .val (.double z1), .second, .val (.ref b112), .val (.double (FP.dmul (FP.dsub (FP.dadd (FP.dmul (FP.i2d p0) x1) y1) FP.dconst1) z1)), .second, .val (.long ((((p0.toInt64) * (a1.toInt64)) + (b1.toInt64)) - (8 : Int64))), .second, .val (.long (((((p0.toInt64) * (a1.toInt64)) + (b1.toInt64)) - (8 : Int64)) * (c1.toInt64))), .second, .val (.double (FP.ddiv (FP.l2d (((((p0.toInt64) * (a1.toInt64)) + (b1.toInt64)) - (8 : Int64)) * (c1.toInt64))) (4634204016564240384 : UInt64))), .second] [(.int (1 : Int32))])) _
      exact retN X153 hx (t := .boolean) Bd.returns (by simp) (hb hby at_144) hr
    · show Q0 Z p0 p1 p2 p3 h0 n0 _ T153.heap _
      rw [e153]
      exact ⟨rfl, N153, K151⟩
  · have pre159 : ∀ t, Steps p.tables e below (s₁.setTop (mkF m 38 #[.val (.int p0), .val (.int p1), .val (.int p2), .val (.int p3), .val (.int a1), .val (.int b1), .val (.int c1), .unset, .unset, .unset, .unset, .unset, .unset, .unset, .unset, .unset, .unset, .unset, .unset, .unset, .unset, .unset] [(.int (1 : Int32))])) t → Steps p.tables e below (s₁.setTop (entryFrame m #[(.int p0), (.int p1), (.int p2), (.int p3)] maxLocals)) t := fun t kk => pre107 t (by
        show Steps p.tables e below (s₁.setTop (mkF m 34 #[.val (.int p0), .val (.int p1), .val (.int p2), .val (.int p3), .val (.int a1), .val (.int b1), .val (.int c1), .unset, .unset, .unset, .unset, .unset, .unset, .unset, .unset, .unset, .unset, .unset, .unset, .unset, .unset, .unset] [(.int (8 : Int32)), (.int (a1 + b1))])) _
        refine XS.icmpNo X0.here hx rfl (hb hby at_34) rfl (flt h8).2.2.1 ?_
        show Steps p.tables e below (s₁.setTop (mkF m 37 #[.val (.int p0), .val (.int p1), .val (.int p2), .val (.int p3), .val (.int a1), .val (.int b1), .val (.int c1), .unset, .unset, .unset, .unset, .unset, .unset, .unset, .unset, .unset, .unset, .unset, .unset, .unset, .unset, .unset] [])) _
        refine XS.iconst X0.here hx rfl (hb hby at_37) ?_
        exact kk)
    obtain ⟨fs, hr, hrun, hended, hRE⟩ := X0.leaveW (s := s) ((State.WarmedH.refl s).since 0) (by rw [e0]; exact (Nat.zero_le _)) (v := some (.int (1 : Int32))) (fun h => by rw [Bd.returns] at h; cases h)
    refine ⟨_, _, pre159 _ ?_, hrun, hended, _, _, rfl, ?_, own_rew hRE (by decide) (by decide)⟩
    · show Steps p.tables e below (s₁.setTop (mkF m 38 #[.val (.int p0), .val (.int p1), .val (.int p2), .val (.int p3), .val (.int a1), .val (.int b1), .val (.int c1), .unset, .unset, .unset, .unset, .unset, .unset, .unset, .unset, .unset, .unset, .unset, .unset, .unset, .unset, .unset] [(.int (1 : Int32))])) _
      exact retN X0 hx (t := .boolean) Bd.returns (by simp) (hb hby at_38) hr
    · show Q0 Z p0 p1 p2 p3 h0 n0 _ s₁.heap _
      rw [e0]
      exact ⟨rfl, N0, Keep.refl _ _⟩
set_option maxRecDepth 65536 in
set_option maxHeartbeats 40000000 in
theorem comes_1 {Post : Tables → Env → Array Value → State → Outcome → State → Prop} (hpost : ∀ tb e args s v u, (limb_1_1.after args s (.returned v) u = true ∧ limb_1_2.after args s (.returned v) u = true ∧ True) → ReturnedEndW s (.returned v) u (Jvm.fieldLocs frame_1_writes args s ++ Jvm.arrayLocs frame_1_arrays args s ++ Jvm.staticLocs frame_1_statics s) 24 3200 → Post tb e args s (.returned v) u) :
    ArmFor flags0 classFile x code maxLocals ret World_1 tables_1 room_1 Calls_1 rest_1 Pre_1 Post := by
  intro l hfl _ _ p e ha hc hk s m args below hf hA hF happ hP
  obtain ⟨hcalls, hrest, hpre⟩ := hP
  obtain ⟨-, -, -, hnamed, -, -, -, hat⟩ := (Spec.applies_iff hf).mp happ
  obtain ⟨hg, hn⟩ := and_e (Cond.before_iff.mp (show (Jvm.Cond.and given_1 narrow_1).before args s = true from hpre))
  obtain ⟨gg160, gg161⟩ := and_e hg
  obtain ⟨gg162, gg163⟩ := and_e gg161
  obtain ⟨gg164, gg165⟩ := and_e gg163
  obtain ⟨gg166, gg167⟩ := and_e gg165
  obtain ⟨w0, w1, w2, w3, rfl⟩ : ∃ w0 w1 w2 w3 : Value, args = #[w0, w1, w2, w3] := by
    have hs : args.size = 4 := by simpa [Cond.value, given_1] using gg160
    obtain ⟨L⟩ := args
    match L, hs with
    | [w0, w1, w2, w3], _ => exact ⟨w0, w1, w2, w3, rfl⟩
  have hw := fun d (hd : d ∈ tables_1) => atoms_spec (ws := Jvm.Cond.code x code maxLocals ret :: tables_1) hat d (List.mem_cons_of_mem _ hd)
  have hfit : Fit s := fun {y c} hc i hi => by
    obtain ⟨ha, rfl⟩ := Array.getElem?_eq_some_iff.mp hc
    have q := List.all_eq_true.mp ((Array.all_eq_true_iff_forall_mem.mp hF) _ (Array.getElem_mem ha)) i (List.mem_range.mpr hi)
    simpa [Array.getElem?_eq_getElem hi] using q
  obtain ⟨i0, ei0⟩ := is_v gg162
  obtain rfl : w0 = (.int i0) := Option.some.inj ei0
  obtain ⟨i1, ei1⟩ := is_v gg164
  obtain rfl : w1 = (.int i1) := Option.some.inj ei1
  obtain ⟨i2, ei2⟩ := is_v gg166
  obtain rfl : w2 = (.int i2) := Option.some.inj ei2
  obtain ⟨i3, ei3⟩ := is_v gg167
  obtain rfl : w3 = (.int i3) := Option.some.inj ei3
  obtain ⟨n, o, h1, h2, h3, _, L, rfl, ⟨rfl, N, -⟩, hq⟩ := rm0 l s _ hw tables_1 i0 i1 i2 i3  s.heap s.heap.size (Nat.le_refl _)  p e ha hc hk s m _ below hf ((Spec.applies_iff_loose hf).mp happ).1 ⟨rfl, State.Warmed39.refl s, rfl⟩ trivial
  refine ⟨n, _, h1, h2, h3, hpost _ _ _ _ _ _ ⟨Cond.after_iff.mpr rfl, Cond.after_iff.mpr (eq_i res_at (Term.int_eval (1)) rfl), trivial⟩ ⟨hq.1, hq.2.1, hq.2.2.1, (hq.2.2.2.sift fun y hy => Or.inr (N y hy)).mono (by decide) (by decide)⟩⟩
theorem main_1_1 : Claimed_1_1 := comes_1 fun _ _ _ _ _ _ h hF => ⟨h.1, hF⟩
theorem main_1_2 : Claimed_1_2 := comes_1 fun _ _ _ _ _ _ h hF => ⟨h.2.1, hF⟩
end Jvm.Pilot.@@N@@
namespace Jvm.Pilot.@@N@@
open Jvm Jvm.ClassFile Sem Op Lib Jvm.Free Jvm.Stand Jvm.Pilot.@@N@@.Jvm.D
/-! MADE BY PROGRAM (witnessworld.py) out of the Statement's table words and the real class files: 18 classes; the members and pool entries that the words name. The judged class is class 1, her method 1. -/
namespace start1
open Jvm.ClassFile
def u (s : String) : CpInfo := .utf8 (stringToUtf16 s)
/-- a pool by its gaps: so many unusable entries, then the entry; so many at the end -/
def gap : Nat → List CpInfo → List CpInfo
  | 0, r => r
  | n + 1, r => .unusable :: gap n r
def poolList (es : List (Nat × CpInfo)) (last : Nat) : List CpInfo := es.foldr (fun e r => gap e.1 (e.2 :: r)) (gap last [])
def pool (es : List (Nat × CpInfo)) (last : Nat) : Array CpInfo := ⟨poolList es last⟩
def fileOf (pool : Array CpInfo) (this : Nat) (attrs : Array Attribute := #[]) (ms : Array MethodInfo := #[]) (fl : Nat := 33) (sup : Nat := 0) (ifs : Array Nat := #[]) (fds : Array FieldInfo := #[]) : ClassFile where
  minorVersion := 0
  majorVersion := 65
  constantPool := pool
  accessFlags := fl
  thisClass := this
  superClass := sup
  interfaces := ifs
  fields := fds
  methods := ms
  attributes := attrs
def plain (name : String) (sup : Option ClassId) : Class where
  name := name
  kind := .ordinary
  loader := none
  accessFlags := 33
  super := sup
  interfaces := #[]
  cf := none
  fields := #[]
  methods := #[]
  instanceTypes := #[]
  staticTypes := #[]
  resolved := #[]
  callSites := []
  init := .initialized
  statics := none
  mirror := none

def pool0 : Array CpInfo := pool [(5, u "<init>"), (0, u "()V"), (1, .class_ 10), (1, u "java/lang/Object")] 113

def k0c0 : Code := { maxStack := 0, maxLocals := 1, code := object_method_1_code, exceptionTable := #[], attributes := #[] }
def k0m0 : Method := { name := "<init>", desc := "()V", sig := { parameters := [], returnType := none }, accessFlags := 1, code := some k0c0 }
/-- java/lang/Object -/
def k0 : Class := { plain "java/lang/Object" none with
  accessFlags := 33
  interfaces := #[]
  cf := some (fileOf pool0 8 #[] #[{ accessFlags := 1, nameIndex := 5, descriptorIndex := 6, attributes := #[] }] 33 0 #[] #[])
  fields := #[]
  methods := #[k0m0]
  instanceTypes := #[]
  staticTypes := #[]
  resolved := Array.replicate 124 none
  statics := none }

def pool1 : Array CpInfo := pool [(2, .class_ 4), (1, u "java/lang/Object"), (0, u "<init>"), (0, u "()V"), (0, .double 4620693217682128896), (1, .class_ 10), (0, u "com/example/even_keel/evenkeel/estimation/DurationCost"), (0, .class_ 12), (0, u "com/example/even_keel/evenkeel/failures/WeibullDistribution"), (0, .methodref 11 14), (0, .nameAndType 5 15), (0, u "(DD)V"), (0, .methodref 9 17), (0, .nameAndType 5 18), (0, u "(DDDLcom/example/even_keel/evenkeel/failures/WeibullDistribution;)V"), (0, .methodref 9 20), (0, .nameAndType 21 22), (0, u "duration"), (0, u "(I)D"), (0, .long 8), (1, .double 4634204016564240384), (1, .class_ 28), (0, u "com/example/even_keel/evenkeel/estimation/DurationCostDurationPinLaw"), (2, u "law"), (0, u "(IIII)Z")] 3

def k1m0 : Method := { name := "<init>", desc := "()V", sig := { parameters := [], returnType := none }, accessFlags := 1, code := none }
def k1c1 : Code := { maxStack := 14, maxLocals := 22, code := code, exceptionTable := #[], attributes := #[] }
def k1m1 : Method := { name := "law", desc := "(IIII)Z", sig := { parameters := [.int, .int, .int, .int], returnType := some .boolean }, accessFlags := 9, code := some k1c1 }
/-- com/example/even_keel/evenkeel/estimation/DurationCostDurationPinLaw -/
def k1 : Class := { plain "com/example/even_keel/evenkeel/estimation/DurationCostDurationPinLaw" (some 0) with
  accessFlags := 49
  interfaces := #[]
  cf := some (fileOf pool1 27 #[] #[{ accessFlags := 1, nameIndex := 5, descriptorIndex := 6, attributes := #[] }, { accessFlags := 9, nameIndex := 31, descriptorIndex := 32, attributes := #[] }] 49 2 #[] #[])
  fields := #[]
  methods := #[k1m0, k1m1]
  instanceTypes := #[]
  staticTypes := #[]
  resolved := Array.replicate 36 none
  statics := none }

def pool2 : Array CpInfo := pool [(1, .methodref 2 3), (0, .class_ 4), (0, .nameAndType 5 6), (0, u "java/lang/Object"), (0, u "<init>"), (0, u "()V"), (0, .class_ 8), (0, u "java/lang/Record")] 13

def k2c0 : Code := { maxStack := 1, maxLocals := 1, code := jdk_30_method_1_code, exceptionTable := #[], attributes := #[] }
def k2m0 : Method := { name := "<init>", desc := "()V", sig := { parameters := [], returnType := none }, accessFlags := 4, code := some k2c0 }
/-- java/lang/Record -/
def k2 : Class := { plain "java/lang/Record" (some 0) with
  accessFlags := 1057
  interfaces := #[]
  cf := some (fileOf pool2 7 #[] #[{ accessFlags := 4, nameIndex := 5, descriptorIndex := 6, attributes := #[] }] 1057 2 #[] #[])
  fields := #[]
  methods := #[k2m0]
  instanceTypes := #[]
  staticTypes := #[]
  resolved := Array.replicate 22 none
  statics := none }

def pool3 : Array CpInfo := pool [(10, .class_ 12), (1, u "com/example/even_keel/evenkeel/estimation/TasksPerJobCost"), (4, .class_ 18), (0, u "java/lang/Object")] 7

/-- com/example/even_keel/evenkeel/estimation/TasksPerJobCost -/
def k3 : Class := { plain "com/example/even_keel/evenkeel/estimation/TasksPerJobCost" (some 0) with
  accessFlags := 1537
  interfaces := #[]
  cf := some (fileOf pool3 10 #[] #[] 1537 17 #[] #[])
  fields := #[]
  methods := #[]
  instanceTypes := #[]
  staticTypes := #[]
  resolved := Array.replicate 26 none
  statics := none }

def pool4 : Array CpInfo := pool [(1, .methodref 2 3), (0, .class_ 4), (0, .nameAndType 5 6), (0, u "java/lang/Record"), (0, u "<init>"), (0, u "()V"), (0, .string 8), (0, u "the runtime shape"), (0, .methodref 10 11), (0, .class_ 12), (0, .nameAndType 13 14), (0, u "com/example/even_keel/evenkeel/estimation/Parameters"), (0, u "requirePositive"), (0, u "(Ljava/lang/String;D)V"), (0, .string 16), (0, u "the overhead shape"), (7, .string 25), (0, u "the scale"), (0, .fieldref 27 28), (0, .class_ 29), (0, .nameAndType 30 31), (0, u "com/example/even_keel/evenkeel/estimation/DurationCost"), (0, u "runtimeShape"), (0, u "D"), (0, .fieldref 27 33), (0, .nameAndType 34 31), (0, u "overheadShape"), (0, .fieldref 27 36), (0, .nameAndType 37 31), (0, u "scale"), (0, .fieldref 27 39), (0, .nameAndType 40 41), (0, u "failures"), (0, u "Lcom/example/even_keel/evenkeel/failures/WeibullDistribution;"), (2, u "duration"), (0, u "(I)D"), (23, .class_ 70), (0, u "com/example/even_keel/evenkeel/estimation/TasksPerJobCost"), (0, u "(DDDLcom/example/even_keel/evenkeel/failures/WeibullDistribution;)V")] 33

def k4c0 : Code := { maxStack := 4, maxLocals := 8, code := prog_55_method_1_code, exceptionTable := #[], attributes := #[] }
def k4m0 : Method := { name := "<init>", desc := "(DDDLcom/example/even_keel/evenkeel/failures/WeibullDistribution;)V", sig := { parameters := [.double, .double, .double, (.object "com/example/even_keel/evenkeel/failures/WeibullDistribution")], returnType := none }, accessFlags := 1, code := some k4c0 }
def k4c1 : Code := { maxStack := 4, maxLocals := 2, code := prog_55_method_2_code, exceptionTable := #[], attributes := #[] }
def k4m1 : Method := { name := "duration", desc := "(I)D", sig := { parameters := [.int], returnType := some .double }, accessFlags := 1, code := some k4c1 }
/-- com/example/even_keel/evenkeel/estimation/DurationCost -/
def k4 : Class := { plain "com/example/even_keel/evenkeel/estimation/DurationCost" (some 2) with
  accessFlags := 49
  interfaces := #[3]
  cf := some (fileOf pool4 27 #[] #[{ accessFlags := 1, nameIndex := 5, descriptorIndex := 71, attributes := #[] }, { accessFlags := 1, nameIndex := 44, descriptorIndex := 45, attributes := #[] }] 49 2 #[69] #[{ accessFlags := 18, nameIndex := 30, descriptorIndex := 31, attributes := #[] }, { accessFlags := 18, nameIndex := 34, descriptorIndex := 31, attributes := #[] }, { accessFlags := 18, nameIndex := 37, descriptorIndex := 31, attributes := #[] }, { accessFlags := 18, nameIndex := 40, descriptorIndex := 41, attributes := #[] }])
  fields := #[{ name := "runtimeShape", type := .double, accessFlags := 18, slot := 0, constantValue := 0 }, { name := "overheadShape", type := .double, accessFlags := 18, slot := 1, constantValue := 0 }, { name := "scale", type := .double, accessFlags := 18, slot := 2, constantValue := 0 }, { name := "failures", type := (.object "com/example/even_keel/evenkeel/failures/WeibullDistribution"), accessFlags := 18, slot := 3, constantValue := 0 }]
  methods := #[k4m0, k4m1]
  instanceTypes := #[.double, .double, .double, (.object "com/example/even_keel/evenkeel/failures/WeibullDistribution")]
  staticTypes := #[]
  resolved := Array.replicate 105 none
  statics := none }

def pool5 : Array CpInfo := pool [(1, .methodref 2 3), (0, .class_ 4), (0, .nameAndType 5 6), (0, u "java/lang/Record"), (0, u "<init>"), (0, u "()V"), (2, .double 9218868437227405312), (10, .fieldref 21 22), (0, .class_ 23), (0, .nameAndType 24 25), (0, u "com/example/even_keel/evenkeel/failures/WeibullDistribution"), (0, u "scale"), (0, u "D"), (0, .fieldref 21 27), (0, .nameAndType 28 25), (0, u "shape"), (25, u "(DD)V")] 30

def k5c0 : Code := { maxStack := 4, maxLocals := 5, code := prog_69_method_1_code, exceptionTable := #[], attributes := #[] }
def k5m0 : Method := { name := "<init>", desc := "(DD)V", sig := { parameters := [.double, .double], returnType := none }, accessFlags := 1, code := some k5c0 }
/-- com/example/even_keel/evenkeel/failures/WeibullDistribution -/
def k5 : Class := { plain "com/example/even_keel/evenkeel/failures/WeibullDistribution" (some 2) with
  accessFlags := 49
  interfaces := #[]
  cf := some (fileOf pool5 21 #[] #[{ accessFlags := 1, nameIndex := 5, descriptorIndex := 54, attributes := #[] }] 49 2 #[] #[{ accessFlags := 18, nameIndex := 24, descriptorIndex := 25, attributes := #[] }, { accessFlags := 18, nameIndex := 28, descriptorIndex := 25, attributes := #[] }])
  fields := #[{ name := "scale", type := .double, accessFlags := 18, slot := 0, constantValue := 0 }, { name := "shape", type := .double, accessFlags := 18, slot := 1, constantValue := 0 }]
  methods := #[k5m0]
  instanceTypes := #[.double, .double]
  staticTypes := #[]
  resolved := Array.replicate 85 none
  statics := none }

def pool6 : Array CpInfo := pool [(1, .class_ 2), (0, u "java/io/Serializable"), (0, .class_ 4), (0, u "java/lang/Object")] 2

/-- java/io/Serializable -/
def k6 : Class := { plain "java/io/Serializable" (some 0) with
  accessFlags := 1537
  interfaces := #[]
  cf := some (fileOf pool6 1 #[] #[] 1537 3 #[] #[])
  fields := #[]
  methods := #[]
  instanceTypes := #[]
  staticTypes := #[]
  resolved := Array.replicate 7 none
  statics := none }

def pool7 : Array CpInfo := pool [(1, .class_ 2), (0, u "java/lang/Comparable"), (0, .class_ 4), (0, u "java/lang/Object")] 7

/-- java/lang/Comparable -/
def k7 : Class := { plain "java/lang/Comparable" (some 0) with
  accessFlags := 1537
  interfaces := #[]
  cf := some (fileOf pool7 1 #[] #[] 1537 3 #[] #[])
  fields := #[]
  methods := #[]
  instanceTypes := #[]
  staticTypes := #[]
  resolved := Array.replicate 12 none
  statics := none }

def pool8 : Array CpInfo := pool [(2, .class_ 4), (1, u "java/lang/CharSequence"), (42, .class_ 48), (0, u "java/lang/CharSequence$1CodePointIterator"), (10, .class_ 60), (0, u "java/lang/CharSequence$1CharIterator"), (5, .class_ 67), (0, u "java/lang/Object")] 63

/-- java/lang/CharSequence -/
def k8 : Class := { plain "java/lang/CharSequence" (some 0) with
  accessFlags := 1537
  interfaces := #[]
  cf := some (fileOf pool8 2 #[.nestMembers #[47, 59]] #[] 1537 66 #[] #[])
  fields := #[]
  methods := #[]
  instanceTypes := #[]
  staticTypes := #[]
  resolved := Array.replicate 131 none
  statics := none }

def pool9 : Array CpInfo := pool [(1, .class_ 2), (0, u "java/lang/constant/Constable"), (0, .class_ 4), (0, u "java/lang/Object")] 6

/-- java/lang/constant/Constable -/
def k9 : Class := { plain "java/lang/constant/Constable" (some 0) with
  accessFlags := 1537
  interfaces := #[]
  cf := some (fileOf pool9 1 #[] #[] 1537 3 #[] #[])
  fields := #[]
  methods := #[]
  instanceTypes := #[]
  staticTypes := #[]
  resolved := Array.replicate 11 none
  statics := none }

def pool10 : Array CpInfo := pool [(1, .class_ 2), (0, u "java/lang/constant/ConstantDesc"), (0, .class_ 4), (0, u "java/lang/Object")] 32

/-- java/lang/constant/ConstantDesc -/
def k10 : Class := { plain "java/lang/constant/ConstantDesc" (some 0) with
  accessFlags := 1537
  interfaces := #[]
  cf := some (fileOf pool10 1 #[] #[] 1537 3 #[] #[])
  fields := #[]
  methods := #[]
  instanceTypes := #[]
  staticTypes := #[]
  resolved := Array.replicate 37 none
  statics := none }

def pool11 : Array CpInfo := pool [(2, .class_ 4), (1, u "java/lang/Object"), (0, u "<init>"), (0, u "()V"), (3, .class_ 12), (1, u "java/lang/String"), (0, u "value"), (0, u "[B"), (2, u "coder"), (0, u "B"), (2, u "hash"), (0, u "I"), (2, u "hashIsZero"), (0, u "Z"), (13, u "COMPACT_STRINGS"), (534, .class_ 576), (0, u "java/lang/CharSequence"), (22, u "CASE_INSENSITIVE_ORDER"), (0, u "Ljava/util/Comparator;"), (500, u "serialPersistentFields"), (0, u "[Ljava/io/ObjectStreamField;"), (0, .class_ 1104), (0, u "java/lang/String$CaseInsensitiveComparator"), (1, .class_ 1107), (0, u "java/io/Serializable"), (0, .class_ 1109), (0, u "java/lang/Comparable"), (0, .class_ 1111), (0, u "java/lang/constant/Constable"), (0, .class_ 1113), (0, u "java/lang/constant/ConstantDesc"), (2, u "serialVersionUID"), (0, u "J"), (3, u "REPL"), (0, u "C"), (2, u "LATIN1"), (1, u "UTF16")] 323

def k11m0 : Method := { name := "<init>", desc := "()V", sig := { parameters := [], returnType := none }, accessFlags := 1, code := none }
/-- java/lang/String -/
def k11 : Class := { plain "java/lang/String" (some 0) with
  accessFlags := 49
  interfaces := #[6, 7, 8, 9, 10]
  cf := some (fileOf pool11 10 #[.nestMembers #[1103]] #[{ accessFlags := 1, nameIndex := 5, descriptorIndex := 6, attributes := #[] }] 49 2 #[1106, 1108, 575, 1110, 1112] #[{ accessFlags := 18, nameIndex := 13, descriptorIndex := 14, attributes := #[] }, { accessFlags := 18, nameIndex := 17, descriptorIndex := 18, attributes := #[] }, { accessFlags := 2, nameIndex := 21, descriptorIndex := 22, attributes := #[] }, { accessFlags := 2, nameIndex := 25, descriptorIndex := 26, attributes := #[] }, { accessFlags := 26, nameIndex := 1116, descriptorIndex := 1117, attributes := #[] }, { accessFlags := 24, nameIndex := 40, descriptorIndex := 26, attributes := #[] }, { accessFlags := 26, nameIndex := 1101, descriptorIndex := 1102, attributes := #[] }, { accessFlags := 26, nameIndex := 1121, descriptorIndex := 1122, attributes := #[] }, { accessFlags := 25, nameIndex := 599, descriptorIndex := 600, attributes := #[] }, { accessFlags := 24, nameIndex := 1125, descriptorIndex := 18, attributes := #[] }, { accessFlags := 24, nameIndex := 1127, descriptorIndex := 18, attributes := #[] }])
  fields := #[{ name := "value", type := (.array .byte), accessFlags := 18, slot := 0, constantValue := 0 }, { name := "coder", type := .byte, accessFlags := 18, slot := 1, constantValue := 0 }, { name := "hash", type := .int, accessFlags := 2, slot := 2, constantValue := 0 }, { name := "hashIsZero", type := .boolean, accessFlags := 2, slot := 3, constantValue := 0 }, { name := "serialVersionUID", type := .long, accessFlags := 26, slot := 0, constantValue := 0 }, { name := "COMPACT_STRINGS", type := .boolean, accessFlags := 24, slot := 1, constantValue := 0 }, { name := "serialPersistentFields", type := (.array (.object "java/io/ObjectStreamField")), accessFlags := 26, slot := 2, constantValue := 0 }, { name := "REPL", type := .char, accessFlags := 26, slot := 3, constantValue := 0 }, { name := "CASE_INSENSITIVE_ORDER", type := (.object "java/util/Comparator"), accessFlags := 25, slot := 4, constantValue := 0 }, { name := "LATIN1", type := .byte, accessFlags := 24, slot := 5, constantValue := 0 }, { name := "UTF16", type := .byte, accessFlags := 24, slot := 6, constantValue := 0 }]
  methods := #[k11m0]
  instanceTypes := #[(.array .byte), .byte, .int, .boolean]
  staticTypes := #[.long, .boolean, (.array (.object "java/io/ObjectStreamField")), .char, (.object "java/util/Comparator"), .byte, .byte]
  resolved := Array.replicate 1451 none
  statics := none }

def pool12 : Array CpInfo := pool [(2, .class_ 4), (1, u "java/lang/Object"), (0, u "<init>"), (0, u "()V"), (2, .double 9218868437227405312), (10, .class_ 21), (0, u "com/example/even_keel/evenkeel/estimation/Parameters"), (2, u "requirePositive"), (0, u "(Ljava/lang/String;D)V")] 18

def k12m0 : Method := { name := "<init>", desc := "()V", sig := { parameters := [], returnType := none }, accessFlags := 2, code := none }
def k12c1 : Code := { maxStack := 4, maxLocals := 3, code := prog_60_method_2_code, exceptionTable := #[], attributes := #[] }
def k12m1 : Method := { name := "requirePositive", desc := "(Ljava/lang/String;D)V", sig := { parameters := [(.object "java/lang/String"), .double], returnType := none }, accessFlags := 8, code := some k12c1 }
/-- com/example/even_keel/evenkeel/estimation/Parameters -/
def k12 : Class := { plain "com/example/even_keel/evenkeel/estimation/Parameters" (some 0) with
  accessFlags := 32
  interfaces := #[]
  cf := some (fileOf pool12 20 #[] #[{ accessFlags := 2, nameIndex := 5, descriptorIndex := 6, attributes := #[] }, { accessFlags := 8, nameIndex := 24, descriptorIndex := 25, attributes := #[] }] 32 2 #[] #[])
  fields := #[]
  methods := #[k12m0, k12m1]
  instanceTypes := #[]
  staticTypes := #[]
  resolved := Array.replicate 44 none
  statics := none }

def pool13 : Array CpInfo := pool [(1, u "java/lang/Cloneable"), (0, .class_ 1), (0, u "java/lang/Object"), (0, .class_ 3)] 3

/-- java/lang/Cloneable -/
def k13 : Class := { plain "java/lang/Cloneable" (some 0) with
  accessFlags := 1537
  interfaces := #[]
  cf := some (fileOf pool13 2 #[] #[] 1537 4 #[] #[])
  fields := #[]
  methods := #[]
  instanceTypes := #[]
  staticTypes := #[]
  resolved := Array.replicate 8 none
  statics := none }

/-- the primitive byte -/
def k14 : Class := { plain "byte" none with kind := .primitive 'B', accessFlags := 0x411 }
/-- [B -/
def k15 : Class := { plain "[B" (some 0) with kind := .array 14 .byte, interfaces := #[13, 6], accessFlags := 1041 }

/-- the primitive int -/
def k16 : Class := { plain "int" none with kind := .primitive 'I', accessFlags := 0x411 }
/-- [I -/
def k17 : Class := { plain "[I" (some 0) with kind := .array 16 .int, interfaces := #[13, 6], accessFlags := 1041 }

def heap : Heap := #[]
def classes : Array Class := #[k0, k1, k2, k3, k4, k5, k6, k7, k8, k9, k10, k11, k12, k13, k14, k15, k16, k17]
def interned : List (Array UInt16 × Addr) := []
def slotsUsed : Nat := 0
def theMethod : MethodId := ⟨1, 1⟩
def args0 : Array Value := #[.int 5, .int 6, .int 7, .int 8]
def aboutOver (below : List Frame) : State where
  vm := { classes := classes, interned := interned.toArray }
  heap := heap
  slotsUsed := slotsUsed
  threads := #[{ frames := .invoking theMethod args0 :: below }]
def below0 : List Frame := [.native { method := ⟨0, 0⟩, args := #[] }]
def about1 : State := aboutOver below0
def p0 : Program := .bare "" "" ""
def e0 : Env := launch0.env 0 0 0
theorem w_frames : about1.frames = Frame.invoking theMethod args0 :: below0 := rfl
set_option maxRecDepth 65536 in
theorem w_args : argsFit about1.vm theMethod args0 = true := by decide +kernel
set_option maxRecDepth 65536 in
theorem w_heap : heapFits about1 = true := by decide +kernel
set_option maxRecDepth 65536 in
theorem w_runnable : about1.curStatus? = some .runnable := by decide +kernel
set_option maxRecDepth 65536 in
theorem w_alone : about1.alone = true := by decide +kernel
set_option maxRecDepth 65536 in
theorem w_named : about1.methodNamed? x = some theMethod := by decide +kernel
set_option maxRecDepth 65536 in
theorem w_hears : about1.hears theMethod below0 = true := by decide +kernel
set_option maxRecDepth 65536 in
theorem w_ripe : about1.ripe theMethod args0 below0 = true := by decide +kernel
theorem w_running : about1.status = .running := rfl
set_option maxRecDepth 65536 in
theorem w_room : about1.hasRoom e0.platform room_1 = true :=
  launch0.hasRoom_least _ room_1 (by decide +kernel) (by decide +kernel) (by decide +kernel) (by decide +kernel) (by decide +kernel) (by decide +kernel)
theorem allAtoms_all (ts : List Jvm.Cond) (a : Array Jvm.Value) (st : Jvm.State) : (allAtoms ts).before a st = ts.all (fun c => c.before a st) := by
  induction ts with
  | nil => rfl
  | cons c t ih =>
    show (Jvm.Cond.and c (allAtoms t)).before a st = _
    rw [Jvm.Cond.before_and, ih, List.all_cons]
def words1 : List Jvm.Cond := Jvm.Cond.code x code maxLocals ret :: tables_1
/-- a 'code' word, met by the world's own term for the bytes: nothing is compared byte by byte -/
theorem code_word {y : MethodName} {bytes : ByteArray} {mx : Nat} {rt : Option FieldType} {a : Array Value} {s : State} {m : MethodId} {meth : Method} {c : Code} (h1 : s.methodNamed? y = some m) (h2 : s.vm.method? m = some meth) (h3 : meth.code = some c) (h4 : c.code = bytes)
    (h5 : (c.maxLocals == mx && c.exceptionTable.isEmpty && decide (c.maxStack ≤ mostOperands) && decide (meth.sig.returnType = rt) && !meth.locks && decide (parseMethodDescriptor y.desc = some meth.sig)) = true) : (Jvm.Cond.code y bytes mx rt).before a s = true := by
  simp only [Bool.and_eq_true, beq_iff_eq, Bool.not_eq_true', decide_eq_true_eq] at h5
  obtain ⟨⟨⟨⟨⟨g1, g2⟩, g3⟩, g4⟩, g5⟩, g6⟩ := h5
  simp [Cond.before, Cond.holds, Cond.value, h1, h2, h3, h4, g1, g2, g3, g4, g5, g6]
def isCode : Jvm.Cond → Bool
  | .code _ _ _ _ => true
  | _ => false
theorem all_split {L : List Jvm.Cond} {P : Jvm.Cond → Bool} (h1 : L.all (fun c => isCode c || P c) = true) (h2 : ∀ c ∈ L.filter isCode, P c = true) : L.all P = true := by
  refine List.all_eq_true.mpr fun c hc => ?_
  have h := List.all_eq_true.mp h1 c hc
  rcases Bool.eq_false_or_eq_true (isCode c) with hi | hi
  · exact h2 c (List.mem_filter.mpr ⟨hc, hi⟩)
  · simpa [hi] using h
set_option maxRecDepth 65536 in
theorem w_c0 : (Jvm.Cond.code x code maxLocals ret).before args0 about1 = true := code_word (m := ⟨1, 1⟩) (meth := k1m1) (c := k1c1) (by decide +kernel) rfl rfl rfl (by decide +kernel)
set_option maxRecDepth 65536 in
theorem w_c1 : (Jvm.Cond.code ({ cls := "com/example/even_keel/evenkeel/failures/WeibullDistribution", name := "<init>", desc := "(DD)V" } : Jvm.MethodName) prog_69_method_1_code (5 : Nat) (Option.none : Option Jvm.ClassFile.FieldType)).before args0 about1 = true := code_word (m := ⟨5, 0⟩) (meth := k5m0) (c := k5c0) (by decide +kernel) rfl rfl rfl (by decide +kernel)
set_option maxRecDepth 65536 in
theorem w_c2 : (Jvm.Cond.code ({ cls := "java/lang/Record", name := "<init>", desc := "()V" } : Jvm.MethodName) jdk_30_method_1_code (1 : Nat) (Option.none : Option Jvm.ClassFile.FieldType)).before args0 about1 = true := code_word (m := ⟨2, 0⟩) (meth := k2m0) (c := k2c0) (by decide +kernel) rfl rfl rfl (by decide +kernel)
set_option maxRecDepth 65536 in
theorem w_c3 : (Jvm.Cond.code ({ cls := "java/lang/Object", name := "<init>", desc := "()V" } : Jvm.MethodName) object_method_1_code (1 : Nat) (Option.none : Option Jvm.ClassFile.FieldType)).before args0 about1 = true := code_word (m := ⟨0, 0⟩) (meth := k0m0) (c := k0c0) (by decide +kernel) rfl rfl rfl (by decide +kernel)
set_option maxRecDepth 65536 in
theorem w_c4 : (Jvm.Cond.code ({ cls := "com/example/even_keel/evenkeel/estimation/DurationCost", name := "<init>", desc := "(DDDLcom/example/even_keel/evenkeel/failures/WeibullDistribution;)V" } : Jvm.MethodName) prog_55_method_1_code (8 : Nat) (Option.none : Option Jvm.ClassFile.FieldType)).before args0 about1 = true := code_word (m := ⟨4, 0⟩) (meth := k4m0) (c := k4c0) (by decide +kernel) rfl rfl rfl (by decide +kernel)
set_option maxRecDepth 65536 in
theorem w_c5 : (Jvm.Cond.code ({ cls := "com/example/even_keel/evenkeel/estimation/Parameters", name := "requirePositive", desc := "(Ljava/lang/String;D)V" } : Jvm.MethodName) prog_60_method_2_code (3 : Nat) (Option.none : Option Jvm.ClassFile.FieldType)).before args0 about1 = true := code_word (m := ⟨12, 1⟩) (meth := k12m1) (c := k12c1) (by decide +kernel) rfl rfl rfl (by decide +kernel)
set_option maxRecDepth 65536 in
theorem w_c6 : (Jvm.Cond.code ({ cls := "com/example/even_keel/evenkeel/estimation/DurationCost", name := "duration", desc := "(I)D" } : Jvm.MethodName) prog_55_method_2_code (2 : Nat) (Option.some Jvm.ClassFile.FieldType.double)).before args0 about1 = true := code_word (m := ⟨4, 1⟩) (meth := k4m1) (c := k4c1) (by decide +kernel) rfl rfl rfl (by decide +kernel)
def codes1 : List Jvm.Cond := [Jvm.Cond.code x code maxLocals ret, Jvm.Cond.code ({ cls := "com/example/even_keel/evenkeel/failures/WeibullDistribution", name := "<init>", desc := "(DD)V" } : Jvm.MethodName) prog_69_method_1_code (5 : Nat) (Option.none : Option Jvm.ClassFile.FieldType), Jvm.Cond.code ({ cls := "java/lang/Record", name := "<init>", desc := "()V" } : Jvm.MethodName) jdk_30_method_1_code (1 : Nat) (Option.none : Option Jvm.ClassFile.FieldType), Jvm.Cond.code ({ cls := "java/lang/Object", name := "<init>", desc := "()V" } : Jvm.MethodName) object_method_1_code (1 : Nat) (Option.none : Option Jvm.ClassFile.FieldType), Jvm.Cond.code ({ cls := "com/example/even_keel/evenkeel/estimation/DurationCost", name := "<init>", desc := "(DDDLcom/example/even_keel/evenkeel/failures/WeibullDistribution;)V" } : Jvm.MethodName) prog_55_method_1_code (8 : Nat) (Option.none : Option Jvm.ClassFile.FieldType), Jvm.Cond.code ({ cls := "com/example/even_keel/evenkeel/estimation/Parameters", name := "requirePositive", desc := "(Ljava/lang/String;D)V" } : Jvm.MethodName) prog_60_method_2_code (3 : Nat) (Option.none : Option Jvm.ClassFile.FieldType), Jvm.Cond.code ({ cls := "com/example/even_keel/evenkeel/estimation/DurationCost", name := "duration", desc := "(I)D" } : Jvm.MethodName) prog_55_method_2_code (2 : Nat) (Option.some Jvm.ClassFile.FieldType.double)]
set_option maxRecDepth 65536 in
theorem codes_eq : words1.filter isCode = codes1 := rfl
theorem w_codes : ∀ c ∈ words1.filter isCode, c.before args0 about1 = true := by
  rw [codes_eq]
  intro c hc
  simp only [codes1, List.mem_cons, List.not_mem_nil, or_false] at hc
  rcases hc with rfl | rfl | rfl | rfl | rfl | rfl | rfl
  · exact w_c0
  · exact w_c1
  · exact w_c2
  · exact w_c3
  · exact w_c4
  · exact w_c5
  · exact w_c6
set_option maxRecDepth 65536 in
theorem w_t1 : (words1.take 24).all (fun c => isCode c || c.before args0 about1) = true := by decide +kernel
set_option maxRecDepth 65536 in
theorem w_t2 : ((words1.drop 24).take 24).all (fun c => isCode c || c.before args0 about1) = true := by decide +kernel
set_option maxRecDepth 65536 in
theorem w_t3 : ((words1.drop 24).drop 24).all (fun c => isCode c || c.before args0 about1) = true := by decide +kernel
theorem w_tables : (allAtoms (Jvm.Cond.code x code maxLocals ret :: tables_1)).before args0 about1 = true := by
  rw [allAtoms_all]
  show words1.all (fun c => c.before args0 about1) = true
  refine all_split ?_ w_codes
  rw [← List.take_append_drop 24 words1, List.all_append, w_t1, ← List.take_append_drop 24 (words1.drop 24), List.all_append, w_t2, w_t3]
  rfl
set_option maxRecDepth 65536 in
theorem w_case : (Jvm.Cond.and given_1 narrow_1).before args0 about1 = true := by decide +kernel
theorem w_applies : (headSpec (Jvm.Cond.code x code maxLocals ret :: tables_1) room_1).applies x e0.platform about1 = true :=
  (Spec.applies_iff w_frames).mpr ⟨w_running, w_runnable, w_alone, w_named, w_hears, w_ripe, w_room, w_tables⟩
theorem atStart : AtStart classFile x code maxLocals ret World_1 tables_1 room_1 Calls_1 rest_1 Pre_1 launch0 p0 e0 about1 theMethod args0 below0 :=
  ⟨lists_1, trivial, launch0.admits_env _ _ _, launch0.least_env, fairChoices_fair.cas, fairChoices_fair.clock, w_frames, w_args, w_heap, w_applies, trivial, trivial, w_case⟩
end start1
theorem witness_1 : WitnessClaimed_1 := ⟨start1.p0, start1.e0, start1.about1, start1.theMethod, start1.args0, start1.below0, start1.atStart⟩
end Jvm.Pilot.@@N@@
