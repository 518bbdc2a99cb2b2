import JvmDerived
import JvmDerived.Pilot.@@N@@Statement
import JvmDerived.Pilot.@@N@@Code
set_option linter.unusedVariables false
set_option linter.unusedSimpArgs false
namespace Jvm.RoadKit
open Sem ClassFile Op Lib Jvm.Stand Jvm.Free Jvm.LawKit
section New
variable {p : Program} {l : Launch} {e : Env} {R : Room} {s : State} {m : MethodId} {args : Array Value} {below : List Frame} {meth : Method} {c : Code} {T : State} {locs : List Loc} {cells slots : Nat}
theorem retI (X : Stand p l e R s m args below meth c T locs cells slots) (hx : p.tables.exec = Jvm.exec) {pc : Nat} {Ls : Array Slot} {z : Int32} {rest : List Value} (hret : meth.sig.returnType = some .int) (hd : decode c.code pc = .ok (.ireturn, 1)) {fs : List Frame}
    (hl : ∀ (f : JFrame) (acts : List Action), f.method = m → f.locked = none → f.entered = [] → (doReturn e (T.setTop f) acts (some (.int z))).1 = T.setFrames fs) : Steps p.tables e below (T.setTop (mkF m pc Ls (.int z :: rest))) (T.setFrames fs) := by
  have hm' : T.vm.method? m = some meth := X.method'
  have hn : narrow .int (.int z) = .int z := rfl
  show Steps p.tables e below (T.setTop { method := m, pc := pc, locals := Ls, stack := _ :: rest, locked := none }) _
  jvm_step X.here [X.here.top, hx, hd, hm', hret, hn]
  first | (intro acts; rw [hl _ acts rfl rfl rfl]) | rw [hl _ _ rfl rfl rfl]
  exact Steps.refl _
end New
end Jvm.RoadKit
namespace Jvm.Pilot.@@N@@
open Jvm Jvm.ClassFile Sem Op Lib Jvm.Free Jvm.Stand Jvm.LawKit Jvm.RoadKit Bundle Jvm.Pilot.@@N@@.Jvm.D
theorem pd0 : parseMethodDescriptor "(ID)D" = some ⟨[.int, .double], some .double⟩ := by decide +kernel
section OwnFloat
open Jvm.FP.Core (val64 val64_fits val64_dmul val64_dadd val64_dsub val64_ddiv val64_inj good_b64 roundRatio_exact round roundRatio zval zmag inUnits dcmp_zval l2d_whole l2d_shape Whole Small53 val64_dconst0 val64_dconst1)
theorem own_qmin : Jvm.FP.Core.Fmt.qmin Jvm.FP.Core.b64 = -1074 := by decide
theorem own_qmax : Jvm.FP.Core.Fmt.qmax Jvm.FP.Core.b64 = 971 := by decide
theorem own_tails : Jvm.FP.Core.Fmt.tails Jvm.FP.Core.b64 = 2 ^ 52 := by decide
theorem own_fitsq {c : Nat} {q : Int} (h : c < 2 ^ 53) (hc : 2 ^ 52 ≤ c) (h1 : -1074 ≤ q) (h2 : q ≤ 971) : Jvm.FP.Core.fits Jvm.FP.Core.b64 (.fin false c q) := by
  refine ⟨h, ?_, ?_, Or.inr ?_⟩
  · rw [own_qmin]; exact h1
  · rw [own_qmax]; exact h2
  · rw [own_tails]; exact hc
theorem own_cut {x : UInt64} {c : Nat} {q : Int} (hx : val64 x = .fin false c q) : c < 2 ^ 53 ∧ -1074 ≤ q ∧ q ≤ 971 ∧ (q = -1074 ∨ 2 ^ 52 ≤ c) := by
  have hf := val64_fits x
  rw [hx] at hf
  obtain ⟨h1, h2, h3, h4⟩ := hf
  rw [own_qmin] at h2 h4
  rw [own_qmax] at h3
  rw [own_tails] at h4
  exact ⟨h1, h2, h3, h4⟩
theorem own_notnan {x : UInt64} {c : Nat} {q : Int} (hx : val64 x = .fin false c q) : val64 x ≠ .nan := by
  rw [hx]; exact fun h => nomatch h
theorem own_nnan {x : UInt64} (hx : val64 x ≠ .nan) : Jvm.Free.Fl.NoNaN64 x := (Jvm.Free.Fl.dcmp_some (Jvm.FP.Core.dcmp_self hx)).1
/-- the finite double of A units of 2^-1074 -/
def Pz (x : UInt64) (A : Nat) : Prop := ∃ c q, val64 x = .fin false c q ∧ c * 2 ^ (q + 1074).toNat = A
theorem Pz.ok {x : UInt64} {A : Nat} (h : Pz x A) : val64 x ≠ .nan := by obtain ⟨c, q, h1, -⟩ := h; exact own_notnan h1
theorem Pz.z {x : UInt64} {A : Nat} (h : Pz x A) : zval Jvm.FP.Core.b64 (val64 x) = (A : Int) := by
  obtain ⟨c, q, h1, h2⟩ := h
  rw [h1, ← h2]
  show ((c * 2 ^ (q - Jvm.FP.Core.b64.qmin).toNat : Nat) : Int) = _
  rw [own_qmin, show q - -1074 = q + 1074 by omega]
/-- the numbers k * 2^t units are of the format -/
theorem own_V (k t : Nat) (hk : 0 < k) (hk2 : k < 2 ^ 53) (ht : 52 ≤ t) (ht2 : t ≤ 2000) : ∃ c q, Jvm.FP.Core.fits Jvm.FP.Core.b64 (.fin false c q) ∧ c * 2 ^ (q + 1074).toNat = k * 2 ^ t ∧ -1074 ≤ q ∧ q ≤ 971 := by
  have h1 : 2 ^ k.log2 ≤ k := Nat.log2_self_le (by omega)
  have h2 : k < 2 ^ (k.log2 + 1) := Nat.lt_log2_self
  have h3 : k.log2 < 53 := (Nat.log2_lt (by omega)).mpr hk2
  obtain ⟨j, hj⟩ : ∃ j, j + k.log2 = 52 := ⟨52 - k.log2, by omega⟩
  have a1 : 2 ^ 52 ≤ k * 2 ^ j := by
    rw [← hj, Nat.add_comm j, Nat.pow_add]
    exact Nat.mul_le_mul_right _ h1
  have a2 : k * 2 ^ j < 2 ^ 53 := by
    rw [show 53 = (k.log2 + 1) + j by omega, Nat.pow_add]
    exact Nat.mul_lt_mul_of_pos_right h2 (Nat.two_pow_pos _)
  refine ⟨k * 2 ^ j, (t : Int) - j - 1074, own_fitsq a2 a1 (by omega) (by omega), ?_, by omega, by omega⟩
  rw [show ((t : Int) - j - 1074 + 1074).toNat = t - j by omega, Nat.mul_assoc, ← Nat.pow_add, show j + (t - j) = t by omega]
theorem own_cancel {X Y : Nat} {e q : Int} {M : Nat} (he : -(M : Int) ≤ e) (hq : -(M : Int) ≤ q) (h : X * 2 ^ (e + M).toNat = Y * 2 ^ (q + M).toNat) : X * 2 ^ (e - q).toNat = Y * 2 ^ (q - e).toNat := by
  by_cases hc : q ≤ e
  · rw [show (e + M).toNat = (e - q).toNat + (q + M).toNat by omega, Nat.pow_add, ← Nat.mul_assoc] at h
    rw [show (q - e).toNat = 0 by omega, Nat.pow_zero, Nat.mul_one]
    exact Nat.eq_of_mul_eq_mul_right (Nat.two_pow_pos _) h
  · rw [show (q + M).toNat = (q - e).toNat + (e + M).toNat by omega, Nat.pow_add, ← Nat.mul_assoc] at h
    rw [show (e - q).toNat = 0 by omega, Nat.pow_zero, Nat.mul_one]
    exact Nat.eq_of_mul_eq_mul_right (Nat.two_pow_pos _) h
theorem own_round {C : Nat} {e : Int} {k t M : Nat} (he : -(M : Int) ≤ e) (hM : 1074 ≤ M) (h : C * 2 ^ (e + M).toNat = k * 2 ^ t * 2 ^ (M - 1074)) (hk : 0 < k) (hk2 : k < 2 ^ 53) (ht : 52 ≤ t) (ht2 : t ≤ 2000) : ∃ c q, roundRatio Jvm.FP.Core.b64 false C 1 e = .fin false c q ∧ c * 2 ^ (q + 1074).toNat = k * 2 ^ t := by
  obtain ⟨c, q, hf, hv, hq1, hq2⟩ := own_V k t hk hk2 ht ht2
  refine ⟨c, q, roundRatio_exact good_b64 (by decide) hf ?_, hv⟩
  rw [Nat.mul_one]
  refine own_cancel (M := M) he (by omega) ?_
  rw [h, ← hv, Nat.mul_assoc, ← Nat.pow_add, show (q + 1074).toNat + (M - 1074) = (q + M).toNat by omega]
theorem Pz.mul {x y : UInt64} {A B k t : Nat} (hx : Pz x A) (hy : Pz y B) (h : A * B = k * 2 ^ t * 2 ^ 1074) (hk : 0 < k) (hk2 : k < 2 ^ 53) (ht : 52 ≤ t) (ht2 : t ≤ 2000) : Pz (FP.dmul x y) (k * 2 ^ t) := by
  obtain ⟨c, q, h1, h2⟩ := hx
  obtain ⟨d, r, g1, g2⟩ := hy
  obtain ⟨-, a1, a2, -⟩ := own_cut h1
  obtain ⟨-, b1, b2, -⟩ := own_cut g1
  have e : (c * d) * 2 ^ (q + r + (2148 : Nat)).toNat = k * 2 ^ t * 2 ^ (2148 - 1074) := by
    rw [← h, ← h2, ← g2, show (q + r + (2148 : Nat)).toNat = (q + 1074).toNat + (r + 1074).toNat by omega, Nat.pow_add]
    ac_rfl
  obtain ⟨c', q', r1, r2⟩ := own_round (by omega) (by decide) e hk hk2 ht ht2
  refine ⟨c', q', ?_, r2⟩
  show val64 (Jvm.FP.Core.dmul x y) = _
  rw [val64_dmul, h1, g1]
  exact r1
theorem own_un {c : Nat} {q e : Int} (h : e ≤ q) (h1 : -1074 ≤ e) : inUnits c q e * 2 ^ (e + 1074).toNat = c * 2 ^ (q + 1074).toNat := by
  unfold inUnits
  rw [Nat.mul_assoc, ← Nat.pow_add, show (q - e).toNat + (e + 1074).toNat = (q + 1074).toNat by omega]
theorem Pz.add {x y : UInt64} {A B k t : Nat} (hx : Pz x A) (hy : Pz y B) (h : A + B = k * 2 ^ t) (hk : 0 < k) (hk2 : k < 2 ^ 53) (ht : 52 ≤ t) (ht2 : t ≤ 2000) : Pz (FP.dadd x y) (k * 2 ^ t) := by
  obtain ⟨c, q, h1, h2⟩ := hx
  obtain ⟨d, r, g1, g2⟩ := hy
  obtain ⟨-, a1, a2, -⟩ := own_cut h1
  obtain ⟨-, b1, b2, -⟩ := own_cut g1
  obtain ⟨e, he⟩ : ∃ e, e = min q r := ⟨_, rfl⟩
  have e1 := own_un (c := c) (q := q) (e := e) (by omega) (by omega)
  have e2 := own_un (c := d) (q := r) (e := e) (by omega) (by omega)
  have ee : (inUnits c q e + inUnits d r e) * 2 ^ (e + (1074 : Nat)).toNat = k * 2 ^ t * 2 ^ (1074 - 1074) := by
    rw [Nat.add_mul, show (e + (1074 : Nat)).toNat = (e + 1074).toNat by omega, e1, e2, h2, g2, h]
    simp
  obtain ⟨c', q', r1, r2⟩ := own_round (by omega) (by decide) ee hk hk2 ht ht2
  refine ⟨c', q', ?_, r2⟩
  show val64 (Jvm.FP.Core.dadd x y) = _
  rw [val64_dadd, h1, g1]
  show round Jvm.FP.Core.b64 (.fin (Jvm.FP.Core.sumSign false false (Jvm.FP.Core.sumUnits false c q false d r (min q r))) (Jvm.FP.Core.sumUnits false c q false d r (min q r)).natAbs (min q r)) = _
  rw [← he]
  have su : Jvm.FP.Core.sumUnits false c q false d r e = ((inUnits c q e + inUnits d r e : Nat) : Int) := by
    simp [Jvm.FP.Core.sumUnits, Jvm.FP.Core.signed]
  rw [su]
  have ss : Jvm.FP.Core.sumSign false false ((inUnits c q e + inUnits d r e : Nat) : Int) = false := by
    unfold Jvm.FP.Core.sumSign
    split
    · rfl
    · first | (simp; done) | (simp; omega)
  rw [ss, Int.natAbs_natCast]
  exact r1
theorem Pz.sub {x y : UInt64} {A B k t : Nat} (hx : Pz x A) (hy : Pz y B) (h : A = B + k * 2 ^ t) (hk : 0 < k) (hk2 : k < 2 ^ 53) (ht : 52 ≤ t) (ht2 : t ≤ 2000) : Pz (FP.dsub x y) (k * 2 ^ t) := by
  obtain ⟨c, q, h1, h2⟩ := hx
  obtain ⟨d, r, g1, g2⟩ := hy
  obtain ⟨-, a1, a2, -⟩ := own_cut h1
  obtain ⟨-, b1, b2, -⟩ := own_cut g1
  obtain ⟨e, he⟩ : ∃ e, e = min q r := ⟨_, rfl⟩
  have e1 := own_un (c := c) (q := q) (e := e) (by omega) (by omega)
  have e2 := own_un (c := d) (q := r) (e := e) (by omega) (by omega)
  have hpos : 0 < k * 2 ^ t := Nat.mul_pos hk (Nat.two_pow_pos _)
  have hlt : inUnits d r e < inUnits c q e := by
    refine Nat.lt_of_mul_lt_mul_right (a := 2 ^ (e + 1074).toNat) ?_
    rw [e1, e2, h2, g2]
    omega
  have ee : (inUnits c q e - inUnits d r e) * 2 ^ (e + (1074 : Nat)).toNat = k * 2 ^ t * 2 ^ (1074 - 1074) := by
    rw [Nat.sub_mul, show (e + (1074 : Nat)).toNat = (e + 1074).toNat by omega, e1, e2, h2, g2, h]
    simp
  obtain ⟨c', q', r1, r2⟩ := own_round (by omega) (by decide) ee hk hk2 ht ht2
  refine ⟨c', q', ?_, r2⟩
  show val64 (Jvm.FP.Core.dsub x y) = _
  rw [val64_dsub, h1, g1]
  show round Jvm.FP.Core.b64 (.fin (Jvm.FP.Core.sumSign false true (Jvm.FP.Core.sumUnits false c q true d r (min q r))) (Jvm.FP.Core.sumUnits false c q true d r (min q r)).natAbs (min q r)) = _
  rw [← he]
  have su : Jvm.FP.Core.sumUnits false c q true d r e = ((inUnits c q e - inUnits d r e : Nat) : Int) := by
    simp [Jvm.FP.Core.sumUnits, Jvm.FP.Core.signed]
    omega
  rw [su]
  have ss : Jvm.FP.Core.sumSign false true ((inUnits c q e - inUnits d r e : Nat) : Int) = false := by
    unfold Jvm.FP.Core.sumSign
    split
    · rfl
    · first | (simp; done) | (simp; omega)
  rw [ss, Int.natAbs_natCast]
  exact r1
/-- a quotient lies on the side of a number of the format on which the exact one lies -/
theorem Pz.div {x y : UInt64} {A B : Nat} (hx : Pz x A) (hy : Pz y B) (hB : 0 < B) : val64 (FP.ddiv x y) ≠ .nan ∧ (∀ k t : Nat, 0 < k → k < 2 ^ 53 → 52 ≤ t → t ≤ 2000 → A * 2 ^ 1074 ≤ k * 2 ^ t * B → zval Jvm.FP.Core.b64 (val64 (FP.ddiv x y)) ≤ ((k * 2 ^ t : Nat) : Int)) ∧ (∀ k t : Nat, 0 < k → k < 2 ^ 53 → 52 ≤ t → t ≤ 2000 → k * 2 ^ t * B ≤ A * 2 ^ 1074 → ((k * 2 ^ t : Nat) : Int) ≤ zval Jvm.FP.Core.b64 (val64 (FP.ddiv x y))) := by
  obtain ⟨c, q, h1, h2⟩ := hx
  obtain ⟨d, r, g1, g2⟩ := hy
  obtain ⟨-, a1, a2, -⟩ := own_cut h1
  obtain ⟨-, b1, b2, -⟩ := own_cut g1
  have hd : 0 < d := by
    refine Nat.pos_of_ne_zero fun hz => ?_
    rw [hz, Nat.zero_mul] at g2
    omega
  have hv : val64 (FP.ddiv x y) = roundRatio Jvm.FP.Core.b64 false c d (q - r) := by
    show val64 (Jvm.FP.Core.ddiv x y) = _
    rw [val64_ddiv, h1, g1]
    show (if d = 0 then _ else roundRatio Jvm.FP.Core.b64 false c d (q - r)) = _
    rw [if_neg (by omega)]
  have hz : zval Jvm.FP.Core.b64 (val64 (FP.ddiv x y)) = (zmag Jvm.FP.Core.b64 (roundRatio Jvm.FP.Core.b64 false c d (q - r)) : Int) := by
    rw [hv]
    show Jvm.FP.Core.signed (Jvm.FP.Core.sgn _) _ = _
    rw [Jvm.FP.Core.sgn_roundRatio]
    rfl
  have key : ∀ M : Nat, (inUnits c (q - r) (-2048) * 2 ^ (r + 1074).toNat = A * 2 ^ 2048) ∧ (M * 2 ^ (Jvm.FP.Core.b64.qmin - -2048).toNat * d * 2 ^ (r + 1074).toNat = M * B * 2 ^ 974) := by
    intro M
    constructor
    · unfold inUnits
      rw [← h2, Nat.mul_assoc, ← Nat.pow_add, Nat.mul_assoc, ← Nat.pow_add, show (q - r - -2048).toNat + (r + 1074).toNat = (q + 1074).toNat + 2048 by omega]
    · rw [own_qmin, ← g2, show ((-1074 : Int) - -2048).toNat = 974 by decide]
      generalize (2 ^ 974 : Nat) = P
      generalize (2 ^ (r + 1074).toNat : Nat) = R
      ac_rfl
  refine ⟨by rw [hv]; exact Jvm.FP.Core.roundRatio_ne_nan _ _ _ _ _, ?_, ?_⟩
  · intro k t hk hk2 ht ht2 h
    obtain ⟨c', q', hf, hv', hq1, hq2⟩ := own_V k t hk hk2 ht ht2
    have hm : zmag Jvm.FP.Core.b64 (.fin false c' q') = k * 2 ^ t := by
      show c' * 2 ^ (q' - Jvm.FP.Core.b64.qmin).toNat = _
      rw [own_qmin, show q' - -1074 = q' + 1074 by omega, hv']
    rw [hz]
    have := Jvm.FP.Core.zmag_roundRatio_le good_b64 (s := false) (A := c) (B := d) (e := q - r) (e0 := -2048) (V := .fin false c' q') hd hf (fun h => nomatch h) (by rw [own_qmin]; decide) (by omega) (by
      rw [hm]
      refine Nat.le_of_mul_le_mul_right (c := 2 ^ (r + 1074).toNat) ?_ (Nat.two_pow_pos _)
      rw [(key 0).1, (key (k * 2 ^ t)).2]
      have h' := Nat.mul_le_mul_right (2 ^ 974) h
      rw [Nat.mul_assoc, ← Nat.pow_add] at h'
      exact h')
    rw [hm] at this
    exact_mod_cast this
  · intro k t hk hk2 ht ht2 h
    obtain ⟨c', q', hf, hv', hq1, hq2⟩ := own_V k t hk hk2 ht ht2
    have hm : zmag Jvm.FP.Core.b64 (.fin false c' q') = k * 2 ^ t := by
      show c' * 2 ^ (q' - Jvm.FP.Core.b64.qmin).toNat = _
      rw [own_qmin, show q' - -1074 = q' + 1074 by omega, hv']
    rw [hz]
    have := Jvm.FP.Core.zmag_roundRatio_ge good_b64 (s := false) (A := c) (B := d) (e := q - r) (e0 := -2048) (V := .fin false c' q') hd hf (by rw [own_qmin]; decide) (by omega) (by
      rw [hm]
      refine Nat.le_of_mul_le_mul_right (c := 2 ^ (r + 1074).toNat) ?_ (Nat.two_pow_pos _)
      rw [(key 0).1, (key (k * 2 ^ t)).2]
      have h' := Nat.mul_le_mul_right (2 ^ 974) h
      rw [Nat.mul_assoc (A), ← Nat.pow_add] at h'
      exact h')
    rw [hm] at this
    exact_mod_cast this
theorem own_i2d (m : Int32) (N : Nat) (h : m.toInt = (N : Int)) : Pz (FP.i2d m) (N * 2 ^ 1074) := by
  have hi := Jvm.FP.Core.i2d_int m
  obtain ⟨c, q, hx⟩ := l2d_shape m.toInt64
  rw [← Jvm.FP.Core.i2d_l2d] at hx
  have hx' : val64 (FP.i2d m) = .fin false c q := by
    refine hx.trans ?_
    rw [show decide (m.toInt64.toInt < 0) = false from by rw [Int32.toInt_toInt64, h]; first | (simp; done) | (simp; omega)]
  obtain ⟨g1, g2, g3, g4⟩ := own_cut hx'
  have hw : (c : Int) * 2 ^ q.toNat = (N : Int) * 2 ^ (-q).toNat := by
    have q' : Whole m.toInt (val64 (Jvm.FP.Core.i2d m)) := hi
    rw [show val64 (Jvm.FP.Core.i2d m) = .fin false c q from hx', h] at q'
    simpa [Whole, Jvm.FP.Core.signed] using q'
  have hw3 : c * 2 ^ q.toNat = N * 2 ^ (-q).toNat := by exact_mod_cast hw
  refine ⟨c, q, hx', ?_⟩
  by_cases hq : 0 ≤ q
  · rw [show (-q).toNat = 0 by omega, Nat.pow_zero, Nat.mul_one] at hw3
    rw [show (q + 1074).toNat = q.toNat + 1074 by omega, Nat.pow_add, ← Nat.mul_assoc, hw3]
  · rw [show q.toNat = 0 by omega, Nat.pow_zero, Nat.mul_one] at hw3
    rw [hw3, Nat.mul_assoc, ← Nat.pow_add, show (-q).toNat + (q + 1074).toNat = 1074 by omega]
theorem own_one : Pz FP.dconst1 (2 ^ 1074) := ⟨2 ^ 52, -52, val64_dconst1, by decide +kernel⟩
theorem own_two : Pz (4611686018427387904 : UInt64) (2 * 2 ^ 1074) := ⟨2 ^ 52, -51, by decide +kernel, by decide +kernel⟩
theorem own_u53 : Pz (4368491638549381120 : UInt64) (2 ^ 1021) := ⟨2 ^ 52, -105, by decide +kernel, by decide +kernel⟩
theorem own_u24 : Pz (4499096027743125504 : UInt64) (2 ^ 1050) := ⟨2 ^ 52, -76, by decide +kernel, by decide +kernel⟩
theorem own_x53 (m : Int32) (N : Nat) (h : m.toInt = (N : Int)) (h0 : 0 < N) (h1 : N ≤ 8388608) : Pz (FP.dmul (FP.i2d m) (4368491638549381120 : UInt64)) (N * 2 ^ 1021) :=
  (own_i2d m N h).mul own_u53 (Nat.mul_right_comm _ _ _) h0 (by omega) (by decide) (by decide)
theorem own_x24 (m : Int32) (N : Nat) (h : m.toInt = (N : Int)) (h0 : 0 < N) (h1 : N ≤ 8388608) : Pz (FP.dmul (FP.i2d m) (4499096027743125504 : UInt64)) (N * 2 ^ 1050) :=
  (own_i2d m N h).mul own_u24 (Nat.mul_right_comm _ _ _) h0 (by omega) (by decide) (by decide)
theorem own_s53 (m : Int32) (N : Nat) (h : m.toInt = (N : Int)) (h0 : 0 < N) (h1 : N ≤ 8388608) : Pz (FP.dsub FP.dconst1 (FP.dmul (FP.i2d m) (4368491638549381120 : UInt64))) ((2 ^ 53 - N) * 2 ^ 1021) := by
  refine own_one.sub (own_x53 m N h h0 h1) ?_ (by omega) (by omega) (by decide) (by decide)
  rw [← Nat.add_mul, show N + (2 ^ 53 - N) = 2 ^ 53 by omega, ← Nat.pow_add]
theorem own_s24 (m : Int32) (N : Nat) (h : m.toInt = (N : Int)) (h0 : 0 < N) (h1 : N ≤ 8388608) : Pz (FP.dsub FP.dconst1 (FP.dmul (FP.i2d m) (4499096027743125504 : UInt64))) ((2 ^ 24 - N) * 2 ^ 1050) := by
  refine own_one.sub (own_x24 m N h h0 h1) ?_ (by omega) (by omega) (by decide) (by decide)
  rw [← Nat.add_mul, show N + (2 ^ 24 - N) = 2 ^ 24 by omega, ← Nat.pow_add]
end OwnFloat
section OwnGamma
open Jvm.FP.Core (val64 zval)
def own_X (u : UInt64) (m : Int32) : UInt64 := FP.dmul (FP.i2d m) u
def own_S (u : UInt64) (m : Int32) : UInt64 := FP.dsub FP.dconst1 (own_X u m)
def own_G (u : UInt64) (m : Int32) : UInt64 := FP.ddiv (own_X u m) (own_S u m)
def own_z (x : UInt64) : Int := zval Jvm.FP.Core.b64 (val64 x)
theorem own_p53 : (2 : Nat) ^ 1074 = 2 ^ 53 * 2 ^ 1021 := by rw [← Nat.pow_add]
theorem own_p24 : (2 : Nat) ^ 1074 = 2 ^ 24 * 2 ^ 1050 := by rw [← Nat.pow_add]
theorem own_p26 : (2 : Nat) ^ 1074 = 2 ^ 24 * 2 ^ 24 * 2 ^ 1026 := by rw [← Nat.pow_add, ← Nat.pow_add]
theorem own_q26 : (2 : Nat) ^ 1050 = 2 ^ 24 * 2 ^ 1026 := by rw [← Nat.pow_add]
theorem own_g53 (m : Int32) (N : Nat) (h : m.toInt = (N : Int)) (h0 : 0 < N) (h1 : N ≤ 8388608) : val64 (own_G 4368491638549381120 m) ≠ .nan ∧ (∀ k t : Nat, 0 < k → k < 2 ^ 53 → 52 ≤ t → t ≤ 2000 → N * 2 ^ 1074 ≤ k * 2 ^ t * (2 ^ 53 - N) → own_z (own_G 4368491638549381120 m) ≤ ((k * 2 ^ t : Nat) : Int)) ∧ (∀ k t : Nat, 0 < k → k < 2 ^ 53 → 52 ≤ t → t ≤ 2000 → k * 2 ^ t * (2 ^ 53 - N) ≤ N * 2 ^ 1074 → ((k * 2 ^ t : Nat) : Int) ≤ own_z (own_G 4368491638549381120 m)) := by
  obtain ⟨a, b, c⟩ := (own_x53 m N h h0 h1).div (own_s53 m N h h0 h1) (Nat.mul_pos (by omega) (Nat.two_pow_pos _))
  refine ⟨a, fun k t e1 e2 e3 e4 e5 => b k t e1 e2 e3 e4 ?_, fun k t e1 e2 e3 e4 e5 => c k t e1 e2 e3 e4 ?_⟩
  · have q := Nat.mul_le_mul_right (2 ^ 1021) e5
    rw [Nat.mul_right_comm, ← Nat.mul_assoc]
    exact q
  · have q := Nat.mul_le_mul_right (2 ^ 1021) e5
    rw [Nat.mul_right_comm N, ← Nat.mul_assoc]
    exact q
theorem own_g24 (m : Int32) (N : Nat) (h : m.toInt = (N : Int)) (h0 : 0 < N) (h1 : N ≤ 8388608) : val64 (own_G 4499096027743125504 m) ≠ .nan ∧ (∀ k t : Nat, 0 < k → k < 2 ^ 53 → 52 ≤ t → t ≤ 2000 → N * 2 ^ 1074 ≤ k * 2 ^ t * (2 ^ 24 - N) → own_z (own_G 4499096027743125504 m) ≤ ((k * 2 ^ t : Nat) : Int)) ∧ (∀ k t : Nat, 0 < k → k < 2 ^ 53 → 52 ≤ t → t ≤ 2000 → k * 2 ^ t * (2 ^ 24 - N) ≤ N * 2 ^ 1074 → ((k * 2 ^ t : Nat) : Int) ≤ own_z (own_G 4499096027743125504 m)) := by
  obtain ⟨a, b, c⟩ := (own_x24 m N h h0 h1).div (own_s24 m N h h0 h1) (Nat.mul_pos (by omega) (Nat.two_pow_pos _))
  refine ⟨a, fun k t e1 e2 e3 e4 e5 => b k t e1 e2 e3 e4 ?_, fun k t e1 e2 e3 e4 e5 => c k t e1 e2 e3 e4 ?_⟩
  · have q := Nat.mul_le_mul_right (2 ^ 1050) e5
    rw [Nat.mul_right_comm, ← Nat.mul_assoc]
    exact q
  · have q := Nat.mul_le_mul_right (2 ^ 1050) e5
    rw [Nat.mul_right_comm N, ← Nat.mul_assoc]
    exact q
/-- gamma(n) is at most the next product -/
theorem own_D1 (m : Int32) (N : Nat) (h : m.toInt = (N : Int)) (h0 : 0 < N) (h1 : N ≤ 8388607) : own_z (own_G 4368491638549381120 m) ≤ (((N + 1) * 2 ^ 1021 : Nat) : Int) := by
  refine (own_g53 m N h h0 (by omega)).2.1 (N + 1) 1021 (by omega) (by omega) (by decide) (by decide) ?_
  obtain ⟨d, hd⟩ : ∃ d, N + d = 2 ^ 53 := ⟨2 ^ 53 - N, by omega⟩
  have hN : N * N ≤ 8388607 * 8388607 := Nat.mul_le_mul h1 h1
  rw [own_p53, show 2 ^ 53 - N = d by omega, Nat.mul_right_comm (N + 1), ← Nat.mul_assoc]
  refine Nat.mul_le_mul_right _ ?_
  rw [← hd, Nat.mul_add, Nat.add_mul]
  omega
theorem own_D3 (m : Int32) (N : Nat) (h : m.toInt = (N : Int)) (h0 : 0 < N) (h1 : N ≤ 8388608) : own_z (own_G 4368491638549381120 m) ≤ ((2 * N * 2 ^ 1021 : Nat) : Int) := by
  refine (own_g53 m N h h0 h1).2.1 (2 * N) 1021 (by omega) (by omega) (by decide) (by decide) ?_
  rw [own_p53, Nat.mul_right_comm (2 * N), ← Nat.mul_assoc]
  refine Nat.mul_le_mul_right _ ?_
  rw [Nat.mul_comm 2 N, Nat.mul_assoc]
  exact Nat.mul_le_mul_left _ (by omega)
theorem own_D2 (m : Int32) (N : Nat) (h : m.toInt = (N : Int)) (h0 : 0 < N) (h1 : N ≤ 8388608) : ((N * 2 ^ 1021 : Nat) : Int) < own_z (own_G 4368491638549381120 m) := by
  by_cases hN1 : N = 1
  · subst hN1
    have : m = 1 := Int32.toInt_inj.mp (by rw [h]; decide)
    subst this
    unfold own_z
    decide +kernel
  have l1 : 2 ^ N.log2 ≤ N := Nat.log2_self_le (by omega)
  have l2 : N < 2 ^ (N.log2 + 1) := Nat.lt_log2_self
  have l3 : N.log2 < 24 := (Nat.log2_lt (by omega)).mpr (by omega)
  have l4 : 1 ≤ N.log2 := by
    refine Nat.pos_of_ne_zero fun hz => ?_
    rw [hz] at l2
    omega
  obtain ⟨l, hl⟩ : ∃ l, l = N.log2 := ⟨_, rfl⟩
  rw [← hl] at l1 l2 l3 l4
  obtain ⟨j, hj⟩ : ∃ j, j + l = 52 := ⟨52 - l, by omega⟩
  have hk : N * 2 ^ j + 1 < 2 ^ 53 := by
    have e : (2 : Nat) ^ 53 = 2 ^ (l + 1) * 2 ^ j := by rw [← Nat.pow_add]; congr 1; omega
    have e2 : (N + 1) * 2 ^ j ≤ 2 ^ (l + 1) * 2 ^ j := Nat.mul_le_mul_right _ l2
    have e3 : 2 ^ 1 ≤ 2 ^ j := Nat.pow_le_pow_right (by decide) (by omega)
    rw [Nat.add_mul, Nat.one_mul] at e2
    rw [e]
    omega
  have hv : (N * 2 ^ j + 1) * 2 ^ (969 + l) = N * 2 ^ 1021 + 2 ^ (969 + l) := by
    rw [Nat.add_mul, Nat.one_mul, Nat.mul_assoc, ← Nat.pow_add, show j + (969 + l) = 1021 by omega]
  have key : (N * 2 ^ j + 1) * 2 ^ (969 + l) * (2 ^ 53 - N) ≤ N * 2 ^ 1074 := by
    obtain ⟨d, hd⟩ : ∃ d, N + d = 2 ^ 53 := ⟨2 ^ 53 - N, by omega⟩
    rw [hv, own_p53, show 2 ^ 53 - N = d by omega, ← hd, Nat.add_mul, Nat.mul_right_comm N, ← Nat.mul_assoc, Nat.mul_add, Nat.add_mul]
    have e1 : 2 ^ (969 + l) * d ≤ 2 ^ (969 + l) * 2 ^ 53 := Nat.mul_le_mul_left _ (by omega)
    have e2 : (2 : Nat) ^ (969 + l) * 2 ^ 53 = 2 ^ (l + 1) * 2 ^ 1021 := by rw [← Nat.pow_add, ← Nat.pow_add]; congr 1; omega
    have e3 : 2 ^ (l + 1) ≤ N * N := by
      have a1 : 2 ^ l * 2 ^ l ≤ N * N := Nat.mul_le_mul l1 l1
      rw [← Nat.pow_add] at a1
      exact Nat.le_trans (Nat.pow_le_pow_right (by decide) (by omega)) a1
    have e4 := Nat.mul_le_mul_right (2 ^ 1021) e3
    omega
  have q := (own_g53 m N h h0 h1).2.2 (N * 2 ^ j + 1) (969 + l) (by omega) hk (by omega) (by omega) key
  rw [hv] at q
  have p : 0 < 2 ^ (969 + l) := Nat.two_pow_pos _
  have : ((N * 2 ^ 1021 : Nat) : Int) < ((N * 2 ^ 1021 + 2 ^ (969 + l) : Nat) : Int) := by exact_mod_cast Nat.lt_add_of_pos_right p
  exact Int.lt_of_lt_of_le this q
theorem own_F2 (m : Int32) (N : Nat) (h : m.toInt = (N : Int)) (h0 : 0 < N) (h1 : N ≤ 8388608) : (((N * 2 ^ 24 + N * N) * 2 ^ 1026 : Nat) : Int) ≤ own_z (own_G 4499096027743125504 m) := by
  have hN : N * N ≤ 8388608 * 8388608 := Nat.mul_le_mul h1 h1
  refine (own_g24 m N h h0 h1).2.2 (N * 2 ^ 24 + N * N) 1026 (by omega) (by omega) (by decide) (by decide) ?_
  obtain ⟨d, hd⟩ : ∃ d, N + d = 2 ^ 24 := ⟨2 ^ 24 - N, by omega⟩
  rw [own_p26, show 2 ^ 24 - N = d by omega, Nat.mul_right_comm _ (2 ^ 1026), ← Nat.mul_assoc]
  refine Nat.mul_le_mul_right _ ?_
  rw [← hd, ← Nat.mul_add, Nat.mul_assoc]
  refine Nat.mul_le_mul_left _ ?_
  rw [Nat.add_mul, Nat.add_mul, Nat.add_mul, Nat.mul_add, Nat.mul_add, Nat.mul_comm d N]
  omega
theorem own_F3 (m : Int32) (N : Nat) (h : m.toInt = (N : Int)) (h0 : 0 < N) (h1 : N ≤ 8388608) : own_z (own_G 4499096027743125504 m) ≤ (((N * 2 ^ 24 + 2 * (N * N)) * 2 ^ 1026 : Nat) : Int) := by
  have hN : N * N ≤ 8388608 * 8388608 := Nat.mul_le_mul h1 h1
  refine (own_g24 m N h h0 h1).2.1 (N * 2 ^ 24 + 2 * (N * N)) 1026 (by omega) (by omega) (by decide) (by decide) ?_
  obtain ⟨d, hd⟩ : ∃ d, N + d = 2 ^ 24 := ⟨2 ^ 24 - N, by omega⟩
  have hNd : N * N ≤ N * d := Nat.mul_le_mul_left _ (by omega)
  rw [own_p26, show 2 ^ 24 - N = d by omega, Nat.mul_right_comm _ (2 ^ 1026), ← Nat.mul_assoc]
  refine Nat.mul_le_mul_right _ ?_
  rw [← hd, show 2 * (N * N) = N * (2 * N) by rw [Nat.mul_left_comm], ← Nat.mul_add, Nat.mul_assoc]
  refine Nat.mul_le_mul_left _ ?_
  rw [Nat.add_mul, Nat.add_mul, Nat.add_mul, Nat.mul_add, Nat.mul_add, Nat.mul_comm d N, Nat.mul_assoc 2]
  omega
theorem own_F1 (m m' : Int32) (N : Nat) (h : m.toInt = (N : Int)) (h' : m'.toInt = ((N + 1 : Nat) : Int)) (h0 : 0 < N) (h1 : N ≤ 8388607) : own_z (own_G 4499096027743125504 m) ≤ own_z (own_G 4499096027743125504 m') := by
  obtain ⟨D, hD⟩ : ∃ D, N + 1 + D = 2 ^ 24 := ⟨2 ^ 24 - N - 1, by omega⟩
  obtain ⟨v, hv⟩ : ∃ v, v = (N + 1) * 2 ^ 24 / D := ⟨_, rfl⟩
  have hdm := Nat.div_add_mod ((N + 1) * 2 ^ 24) D
  have hr : (N + 1) * 2 ^ 24 % D < D := Nat.mod_lt _ (by omega)
  rw [← hv] at hdm
  have hv1 : v ≤ 2 ^ 24 := by
    rw [hv]
    refine Nat.div_le_of_le_mul ?_
    exact Nat.mul_le_mul_right _ (by omega)
  have hv0 : 0 < v := by
    rw [hv]
    exact Nat.div_pos (by omega) (by omega)
  have a := (own_g24 m N h h0 (by omega)).2.1 v 1050 hv0 (by omega) (by decide) (by decide) (by
    rw [own_p24, show 2 ^ 24 - N = D + 1 by omega, Nat.mul_right_comm v, ← Nat.mul_assoc]
    refine Nat.mul_le_mul_right _ ?_
    rw [Nat.mul_add, Nat.mul_comm v D, Nat.mul_one]
    omega)
  have b := (own_g24 m' (N + 1) h' (by omega) (by omega)).2.2 v 1050 hv0 (by omega) (by decide) (by decide) (by
    rw [own_p24, show 2 ^ 24 - (N + 1) = D by omega, Nat.mul_right_comm v, ← Nat.mul_assoc]
    refine Nat.mul_le_mul_right _ ?_
    rw [Nat.mul_comm v D]
    omega)
  exact Int.le_trans a b
/-- the law's other numbers -/
theorem own_dbl53 (m : Int32) (N : Nat) (h : m.toInt = (N : Int)) (h0 : 0 < N) (h1 : N ≤ 8388608) : Pz (FP.dmul (4611686018427387904 : UInt64) (own_X 4368491638549381120 m)) (2 * N * 2 ^ 1021) :=
  own_two.mul (own_x53 m N h h0 h1) (by generalize (2 ^ 1074 : Nat) = P; generalize (2 ^ 1021 : Nat) = R; ac_rfl) (by omega) (by omega) (by decide) (by decide)
theorem own_dbl24 (m : Int32) (N : Nat) (h : m.toInt = (N : Int)) (h0 : 0 < N) (h1 : N ≤ 8388608) : Pz (FP.dmul (4611686018427387904 : UInt64) (own_X 4499096027743125504 m)) (2 * N * 2 ^ 1050) :=
  own_two.mul (own_x24 m N h h0 h1) (by generalize (2 ^ 1074 : Nat) = P; generalize (2 ^ 1050 : Nat) = R; ac_rfl) (by omega) (by omega) (by decide) (by decide)
theorem own_sqp : (2 : Nat) ^ 1050 * 2 ^ 1050 = 2 ^ 1026 * 2 ^ 1074 := by rw [← Nat.pow_add, ← Nat.pow_add]
theorem own_sqr (m : Int32) (N : Nat) (h : m.toInt = (N : Int)) (h0 : 0 < N) (h1 : N ≤ 8388608) : Pz (FP.dmul (own_X 4499096027743125504 m) (own_X 4499096027743125504 m)) (N * N * 2 ^ 1026) := by
  have hN : N * N ≤ 8388608 * 8388608 := Nat.mul_le_mul h1 h1
  refine (own_x24 m N h h0 h1).mul (own_x24 m N h h0 h1) ?_ (Nat.mul_pos h0 h0) (by omega) (by decide) (by decide)
  rw [Nat.mul_assoc (N * N), ← own_sqp]
  generalize (2 ^ 1050 : Nat) = R
  ac_rfl
theorem own_tqr (m : Int32) (N : Nat) (h : m.toInt = (N : Int)) (h0 : 0 < N) (h1 : N ≤ 8388608) : Pz (FP.dmul (FP.dmul (4611686018427387904 : UInt64) (own_X 4499096027743125504 m)) (own_X 4499096027743125504 m)) (2 * (N * N) * 2 ^ 1026) := by
  have hN : N * N ≤ 8388608 * 8388608 := Nat.mul_le_mul h1 h1
  have hp := Nat.mul_pos h0 h0
  refine (own_dbl24 m N h h0 h1).mul (own_x24 m N h h0 h1) ?_ (by omega) (by omega) (by decide) (by decide)
  rw [Nat.mul_assoc (2 * (N * N)), ← own_sqp]
  generalize (2 ^ 1050 : Nat) = R
  ac_rfl
theorem own_asr (m : Int32) (N : Nat) (h : m.toInt = (N : Int)) (h0 : 0 < N) (h1 : N ≤ 8388608) : Pz (FP.dadd (own_X 4499096027743125504 m) (FP.dmul (own_X 4499096027743125504 m) (own_X 4499096027743125504 m))) ((N * 2 ^ 24 + N * N) * 2 ^ 1026) := by
  have hN : N * N ≤ 8388608 * 8388608 := Nat.mul_le_mul h1 h1
  refine (own_x24 m N h h0 h1).add (own_sqr m N h h0 h1) ?_ (by omega) (by omega) (by decide) (by decide)
  rw [own_q26, ← Nat.mul_assoc, Nat.add_mul]
theorem own_atr (m : Int32) (N : Nat) (h : m.toInt = (N : Int)) (h0 : 0 < N) (h1 : N ≤ 8388608) : Pz (FP.dadd (own_X 4499096027743125504 m) (FP.dmul (FP.dmul (4611686018427387904 : UInt64) (own_X 4499096027743125504 m)) (own_X 4499096027743125504 m))) ((N * 2 ^ 24 + 2 * (N * N)) * 2 ^ 1026) := by
  have hN : N * N ≤ 8388608 * 8388608 := Nat.mul_le_mul h1 h1
  refine (own_x24 m N h h0 h1).add (own_tqr m N h h0 h1) ?_ (by omega) (by omega) (by decide) (by decide)
  rw [own_q26, ← Nat.mul_assoc, Nat.add_mul]
/-- an int that the law hands to gamma -/
def Ok (m : Int32) : Prop := 0 ≤ m.toInt ∧ m.toInt ≤ 8388608
theorem Ok.cases {m : Int32} (h : Ok m) : m = 0 ∨ ∃ N : Nat, m.toInt = (N : Int) ∧ 0 < N ∧ N ≤ 8388608 := by
  by_cases hz : m.toInt = 0
  · exact Or.inl (Int32.toInt_inj.mp hz)
  · have := h.1
    have := h.2
    exact Or.inr ⟨m.toInt.toNat, by omega, by omega, by omega⟩
theorem own_ok0 (p1 : Int32) : Ok (p1 &&& (8388607 : Int32)) := by
  have h := c_and p1 8388607 (by decide)
  have e : (8388607 : Int32).toInt = 8388607 := by decide
  exact ⟨h.1, by omega⟩
theorem own_suc (p1 : Int32) : ((p1 &&& (8388607 : Int32)) + (1 : Int32)).toInt = (p1 &&& (8388607 : Int32)).toInt + 1 := by
  have h := c_and p1 8388607 (by decide)
  have e : (8388607 : Int32).toInt = 8388607 := by decide
  have q := c_iadd (p1 &&& (8388607 : Int32)) 1
  have r := rng32 ((p1 &&& (8388607 : Int32)) + (1 : Int32))
  have e1 : (1 : Int32).toInt = 1 := by decide
  omega
theorem own_ok1 (p1 : Int32) : Ok ((p1 &&& (8388607 : Int32)) + (1 : Int32)) := by
  have h := c_and p1 8388607 (by decide)
  have e : (8388607 : Int32).toInt = 8388607 := by decide
  have s := own_suc p1
  exact ⟨by omega, by omega⟩
theorem own_nn0 {x : UInt64} (h : x &&& 0x7fffffffffffffff ≤ 0x7ff0000000000000) : Jvm.Free.Fl.NoNaN64 x := h
theorem own_nm53 {m : Int32} (h : Ok m) : Jvm.Free.Fl.NoNaN64 (FP.dmul (FP.i2d m) (4368491638549381120 : UInt64)) := by
  rcases h.cases with rfl | ⟨N, h, h0, h1⟩
  · exact own_nn0 (by decide +kernel)
  · exact own_nnan (own_x53 m N h h0 h1).ok
theorem own_nm24 {m : Int32} (h : Ok m) : Jvm.Free.Fl.NoNaN64 (FP.dmul (FP.i2d m) (4499096027743125504 : UInt64)) := by
  rcases h.cases with rfl | ⟨N, h, h0, h1⟩
  · exact own_nn0 (by decide +kernel)
  · exact own_nnan (own_x24 m N h h0 h1).ok
theorem own_ns53 {m : Int32} (h : Ok m) : Jvm.Free.Fl.NoNaN64 (FP.dsub (FP.dconst1) (FP.dmul (FP.i2d m) (4368491638549381120 : UInt64))) := by
  rcases h.cases with rfl | ⟨N, h, h0, h1⟩
  · exact own_nn0 (by decide +kernel)
  · exact own_nnan (own_s53 m N h h0 h1).ok
theorem own_ns24 {m : Int32} (h : Ok m) : Jvm.Free.Fl.NoNaN64 (FP.dsub (FP.dconst1) (FP.dmul (FP.i2d m) (4499096027743125504 : UInt64))) := by
  rcases h.cases with rfl | ⟨N, h, h0, h1⟩
  · exact own_nn0 (by decide +kernel)
  · exact own_nnan (own_s24 m N h h0 h1).ok
theorem own_nd53 {m : Int32} (h : Ok m) : Jvm.Free.Fl.NoNaN64 (FP.ddiv (FP.dmul (FP.i2d m) (4368491638549381120 : UInt64)) (FP.dsub (FP.dconst1) (FP.dmul (FP.i2d m) (4368491638549381120 : UInt64)))) := by
  rcases h.cases with rfl | ⟨N, h, h0, h1⟩
  · exact own_nn0 (by decide +kernel)
  · exact own_nnan (own_g53 m N h h0 h1).1
theorem own_nd24 {m : Int32} (h : Ok m) : Jvm.Free.Fl.NoNaN64 (FP.ddiv (FP.dmul (FP.i2d m) (4499096027743125504 : UInt64)) (FP.dsub (FP.dconst1) (FP.dmul (FP.i2d m) (4499096027743125504 : UInt64)))) := by
  rcases h.cases with rfl | ⟨N, h, h0, h1⟩
  · exact own_nn0 (by decide +kernel)
  · exact own_nnan (own_g24 m N h h0 h1).1
theorem own_n2x53 {m : Int32} (h : Ok m) : Jvm.Free.Fl.NoNaN64 (FP.dmul (4611686018427387904 : UInt64) (FP.dmul (FP.i2d m) (4368491638549381120 : UInt64))) := by
  rcases h.cases with rfl | ⟨N, h, h0, h1⟩
  · exact own_nn0 (by decide +kernel)
  · exact own_nnan (own_dbl53 m N h h0 h1).ok
theorem own_n2x24 {m : Int32} (h : Ok m) : Jvm.Free.Fl.NoNaN64 (FP.dmul (4611686018427387904 : UInt64) (FP.dmul (FP.i2d m) (4499096027743125504 : UInt64))) := by
  rcases h.cases with rfl | ⟨N, h, h0, h1⟩
  · exact own_nn0 (by decide +kernel)
  · exact own_nnan (own_dbl24 m N h h0 h1).ok
theorem own_sq {m : Int32} (h : Ok m) : Jvm.Free.Fl.NoNaN64 (FP.dmul (FP.dmul (FP.i2d m) (4499096027743125504 : UInt64)) (FP.dmul (FP.i2d m) (4499096027743125504 : UInt64))) := by
  rcases h.cases with rfl | ⟨N, h, h0, h1⟩
  · exact own_nn0 (by decide +kernel)
  · exact own_nnan (own_sqr m N h h0 h1).ok
theorem own_tq {m : Int32} (h : Ok m) : Jvm.Free.Fl.NoNaN64 (FP.dmul (FP.dmul (4611686018427387904 : UInt64) (FP.dmul (FP.i2d m) (4499096027743125504 : UInt64))) (FP.dmul (FP.i2d m) (4499096027743125504 : UInt64))) := by
  rcases h.cases with rfl | ⟨N, h, h0, h1⟩
  · exact own_nn0 (by decide +kernel)
  · exact own_nnan (own_tqr m N h h0 h1).ok
theorem own_as {m : Int32} (h : Ok m) : Jvm.Free.Fl.NoNaN64 (FP.dadd (FP.dmul (FP.i2d m) (4499096027743125504 : UInt64)) (FP.dmul (FP.dmul (FP.i2d m) (4499096027743125504 : UInt64)) (FP.dmul (FP.i2d m) (4499096027743125504 : UInt64)))) := by
  rcases h.cases with rfl | ⟨N, h, h0, h1⟩
  · exact own_nn0 (by decide +kernel)
  · exact own_nnan (own_asr m N h h0 h1).ok
theorem own_at {m : Int32} (h : Ok m) : Jvm.Free.Fl.NoNaN64 (FP.dadd (FP.dmul (FP.i2d m) (4499096027743125504 : UInt64)) (FP.dmul (FP.dmul (4611686018427387904 : UInt64) (FP.dmul (FP.i2d m) (4499096027743125504 : UInt64))) (FP.dmul (FP.i2d m) (4499096027743125504 : UInt64)))) := by
  rcases h.cases with rfl | ⟨N, h, h0, h1⟩
  · exact own_nn0 (by decide +kernel)
  · exact own_nnan (own_atr m N h h0 h1).ok
theorem own_le {a b : UInt64} (na : val64 a ≠ .nan) (nb : val64 b ≠ .nan) (h : own_z a ≤ own_z b) : ¬ (0 : Int32) < cmpValue (FP.dcmp a b) .g := by
  rcases Jvm.FP.Core.dcmp_le.mpr ⟨na, nb, h⟩ with q | q
  · rw [show FP.dcmp a b = some .lt from q]; decide
  · rw [show FP.dcmp a b = some .eq from q]; decide
theorem own_ltv {a b : UInt64} (na : val64 a ≠ .nan) (nb : val64 b ≠ .nan) (h : own_z a < own_z b) : cmpValue (FP.dcmp a b) .g < (0 : Int32) := by
  rw [show FP.dcmp a b = some .lt from Jvm.FP.Core.dcmp_lt.mpr ⟨na, nb, h⟩]; decide
end OwnGamma
theorem d1_0 : decode prog_24_method_2_code 0 = .ok (.iload_n 0, 1) := by decide +kernel
theorem d1_1 : decode prog_24_method_2_code 1 = .ok (.i2d, 1) := by decide +kernel
theorem d1_2 : decode prog_24_method_2_code 2 = .ok (.dload_n 1, 1) := by decide +kernel
theorem d1_3 : decode prog_24_method_2_code 3 = .ok (.dmul, 1) := by decide +kernel
theorem d1_4 : decode prog_24_method_2_code 4 = .ok (.dconst 1, 1) := by decide +kernel
theorem d1_5 : decode prog_24_method_2_code 5 = .ok (.iload_n 0, 1) := by decide +kernel
theorem d1_6 : decode prog_24_method_2_code 6 = .ok (.i2d, 1) := by decide +kernel
theorem d1_7 : decode prog_24_method_2_code 7 = .ok (.dload_n 1, 1) := by decide +kernel
theorem d1_8 : decode prog_24_method_2_code 8 = .ok (.dmul, 1) := by decide +kernel
theorem d1_9 : decode prog_24_method_2_code 9 = .ok (.dsub, 1) := by decide +kernel
theorem d1_10 : decode prog_24_method_2_code 10 = .ok (.ddiv, 1) := by decide +kernel
theorem d1_11 : decode prog_24_method_2_code 11 = .ok (.dreturn, 1) := by decide +kernel
theorem pn_1 : plainName "com/example/nearfield/nearfield/engine/FloatRounding" = true := by first | (simp [plainName, overriddenIn]; done) | decide +kernel
theorem ef_1 (m : MethodId) (p1 : Int32) (r2 : UInt64) : entryFrame m #[(.int p1), (.double r2)] 3 = mkF m 0 #[.val (.int p1), .val (.double r2), .second] [] := by first | (simp [entryFrame, mkF, argsToLocals, Value.category]; done) | rfl
def f1 (p1 : Int32) (r2 : UInt64) : UInt64 := (FP.ddiv (FP.dmul (FP.i2d p1) r2) (FP.dsub (FP.dconst1) (FP.dmul (FP.i2d p1) r2)))
def Q1 (Z : State) (p1 : Int32) (r2 : UInt64) (h0 : Heap) (n0 : Nat) (v : Option Value) (h : Heap) (L : List Loc) : Prop := v = some (.double (f1 p1 r2)) ∧ Fr n0 L ∧ h = h0
set_option maxRecDepth 65536 in
set_option maxHeartbeats 40000000 in
theorem rm1 (l : Launch) (Z : State) (a0 : Array Value) (hw : ∀ d ∈ tables_1, d.before a0 Z = true) (ws : List Jvm.Cond) (p1 : Int32) (r2 : UInt64) (h0 : Heap) (n0 : Nat) (hn1 : Jvm.Free.Fl.NoNaN64 (FP.dmul (FP.i2d p1) r2)) (hn2 : Jvm.Free.Fl.NoNaN64 (FP.dsub (FP.dconst1) (FP.dmul (FP.i2d p1) r2))) (hn3 : Jvm.Free.Fl.NoNaN64 (FP.ddiv (FP.dmul (FP.i2d p1) r2) (FP.dsub (FP.dconst1) (FP.dmul (FP.i2d p1) r2)))) :
    MetFree l (⟨"com/example/nearfield/nearfield/engine/FloatRounding", "gamma", "(ID)D"⟩ : MethodName) (head1 (Jvm.Cond.code (⟨"com/example/nearfield/nearfield/engine/FloatRounding", "gamma", "(ID)D"⟩ : MethodName) prog_24_method_2_code 3 (some .double) :: ws) ({ frames := 0, cells := 0, slots := 0, locals := 0 } : Room)) (fun a U => a = #[(.int p1), (.double r2)] ∧ Z.Warmed39 U.vm ∧ U.heap = h0) (fun _ _ _ _ _ => True) (fun _ U o U' => ∃ v L, o = .returned v ∧ Q1 Z p1 r2 h0 n0 v U'.heap L ∧ FrameEnd U o U' L ({ frames := 0, cells := 0, slots := 0, locals := 0 } : Room).cells ({ frames := 0, cells := 0, slots := 0, locals := 0 } : Room).slots) := by
  refine MetFree.of_bodySF (plainFor_of_name pn_1) hisR ?_
  intro p e s m args below meth c s₁ Bd hml0 hP hK
  obtain ⟨rfl, hZ, hh⟩ := hP
  have hx := Bd.exec
  have hby := Bd.bytes
  have hml : c.maxLocals = 3 := hml0
  have hown0 := findClass_of_methodNamed Bd.named
  have hown : s.vm.findClass "com/example/nearfield/nearfield/engine/FloatRounding" = some m.cls := hown0
  have hnm := (name_of_methodNamed Bd.named Bd.method).1
  have X0 : Stand p l e ({ frames := 0, cells := 0, slots := 0, locals := 0 } : Room) s m #[(.int p1), (.double r2)] below meth c s₁ [] 0 0 := Stand.of_body Bd
  have e0 : s₁.heap = h0 := by rw [← hh, Bd.state]; rfl
  have N0 := Fr.nil n0
  have pre0 : ∀ t, Steps p.tables e below (s₁.setTop (mkF m 0 #[.val (.int p1), .val (.double r2), .second] [])) t → Steps p.tables e below (s₁.setTop (entryFrame m #[(.int p1), (.double r2)] 3)) t := fun t k => castTop (ef_1 m p1 r2) k
  refine Classical.byContradiction fun hneg => ?_
  refine hneg ?_
  obtain ⟨fs, hr, hrun, hended, hW, hsame⟩ := X0.leave (v := some (.double (FP.ddiv (FP.dmul (FP.i2d p1) r2) (FP.dsub (FP.dconst1) (FP.dmul (FP.i2d p1) r2))))) (fun h => by rw [Bd.returns] at h; cases h)
  refine ⟨_, _, pre0 _ ?_, hrun, hended, _, _, rfl, ?_, ⟨_, rfl⟩, hW, hsame.mono (by decide) (by decide)⟩
  · show Steps p.tables e below (s₁.setTop (mkF m 0 #[.val (.int p1), .val (.double r2), .second] [])) _
    refine XS.iloadN X0.here hx rfl (hb hby d1_0) rfl ?_
    show Steps p.tables e below (s₁.setTop (mkF m 1 #[.val (.int p1), .val (.double r2), .second] [(.int p1)])) _
    refine XS.i2dS X0.here hx rfl (hb hby d1_1) rfl rfl ?_
    show Steps p.tables e below (s₁.setTop (mkF m 2 #[.val (.int p1), .val (.double r2), .second] [(.double (FP.i2d p1))])) _
    refine XS.dloadN X0.here hx rfl (hb hby d1_2) rfl ?_
    show Steps p.tables e below (s₁.setTop (mkF m 3 #[.val (.int p1), .val (.double r2), .second] [(.double r2), (.double (FP.i2d p1))])) _
    refine XS.dmulS X0.here hx rfl (hb hby d1_3) rfl hn1 rfl ?_
    show Steps p.tables e below (s₁.setTop (mkF m 4 #[.val (.int p1), .val (.double r2), .second] [(.double (FP.dmul (FP.i2d p1) r2))])) _
    refine XS.dconst1 X0.here hx rfl (hb hby d1_4) rfl ?_
    show Steps p.tables e below (s₁.setTop (mkF m 5 #[.val (.int p1), .val (.double r2), .second] [(.double (FP.dconst1)), (.double (FP.dmul (FP.i2d p1) r2))])) _
    refine XS.iloadN X0.here hx rfl (hb hby d1_5) rfl ?_
    show Steps p.tables e below (s₁.setTop (mkF m 6 #[.val (.int p1), .val (.double r2), .second] [(.int p1), (.double (FP.dconst1)), (.double (FP.dmul (FP.i2d p1) r2))])) _
    refine XS.i2dS X0.here hx rfl (hb hby d1_6) rfl rfl ?_
    show Steps p.tables e below (s₁.setTop (mkF m 7 #[.val (.int p1), .val (.double r2), .second] [(.double (FP.i2d p1)), (.double (FP.dconst1)), (.double (FP.dmul (FP.i2d p1) r2))])) _
    refine XS.dloadN X0.here hx rfl (hb hby d1_7) rfl ?_
    show Steps p.tables e below (s₁.setTop (mkF m 8 #[.val (.int p1), .val (.double r2), .second] [(.double r2), (.double (FP.i2d p1)), (.double (FP.dconst1)), (.double (FP.dmul (FP.i2d p1) r2))])) _
    refine XS.dmulS X0.here hx rfl (hb hby d1_8) rfl hn1 rfl ?_
    show Steps p.tables e below (s₁.setTop (mkF m 9 #[.val (.int p1), .val (.double r2), .second] [(.double (FP.dmul (FP.i2d p1) r2)), (.double (FP.dconst1)), (.double (FP.dmul (FP.i2d p1) r2))])) _
    refine XS.dsubS X0.here hx rfl (hb hby d1_9) rfl hn2 rfl ?_
    show Steps p.tables e below (s₁.setTop (mkF m 10 #[.val (.int p1), .val (.double r2), .second] [(.double (FP.dsub (FP.dconst1) (FP.dmul (FP.i2d p1) r2))), (.double (FP.dmul (FP.i2d p1) r2))])) _
    refine XS.ddivS X0.here hx rfl (hb hby d1_10) rfl hn3 rfl ?_
    show Steps p.tables e below (s₁.setTop (mkF m 11 #[.val (.int p1), .val (.double r2), .second] [(.double (FP.ddiv (FP.dmul (FP.i2d p1) r2) (FP.dsub (FP.dconst1) (FP.dmul (FP.i2d p1) r2))))])) _
    exact retOut X0 hx (t := .double) Bd.returns rfl (Or.inr (Or.inr (Or.inl ⟨rfl, rfl, _, rfl⟩))) (hb hby d1_11) hr
  · show Q1 Z p1 r2 h0 n0 _ s₁.heap _
    rw [e0]
    refine ⟨?_, N0, rfl⟩
    rw [show f1 p1 r2 = (FP.ddiv (FP.dmul (FP.i2d p1) r2) (FP.dsub (FP.dconst1) (FP.dmul (FP.i2d p1) r2))) from (by skip; simp only [f1])]
theorem pn_0 : plainName "com/example/nearfield/nearfield/engine/FloatRoundingGammaPinLaw" = true := by first | (simp [plainName, overriddenIn]; done) | decide +kernel
theorem ef_0 (m : MethodId) (p1 : Int32) (p2 : Int32) : entryFrame m #[(.int p1), (.int p2)] maxLocals = mkF m 0 #[.val (.int p1), .val (.int p2), .unset, .unset, .unset, .unset, .unset, .unset, .unset, .unset, .unset, .unset, .unset, .unset] [] := by first | (simp [entryFrame, mkF, argsToLocals, Value.category, maxLocals]; done) | rfl
def f0 (p1 : Int32) (p2 : Int32) : Int32 := (if (p2 &&& (1 : Int32)) = (0 : Int32) then (if (0 : Int32) < (cmpValue (FP.dcmp (f1 (p1 &&& (8388607 : Int32)) (4499096027743125504 : UInt64)) (f1 ((p1 &&& (8388607 : Int32)) + (1 : Int32)) (4499096027743125504 : UInt64))) .g) then (if (p1 &&& (8388607 : Int32)) = (0 : Int32) then (0 : Int32) else (0 : Int32)) else (if (0 : Int32) < (cmpValue (FP.dcmp (FP.dadd (FP.dmul (FP.i2d ((p1 &&& (8388607 : Int32)) + (1 : Int32))) (4499096027743125504 : UInt64)) (FP.dmul (FP.dmul (FP.i2d ((p1 &&& (8388607 : Int32)) + (1 : Int32))) (4499096027743125504 : UInt64)) (FP.dmul (FP.i2d ((p1 &&& (8388607 : Int32)) + (1 : Int32))) (4499096027743125504 : UInt64)))) (f1 ((p1 &&& (8388607 : Int32)) + (1 : Int32)) (4499096027743125504 : UInt64))) .g) then (if (p1 &&& (8388607 : Int32)) = (0 : Int32) then (0 : Int32) else (0 : Int32)) else (if (0 : Int32) < (cmpValue (FP.dcmp (f1 ((p1 &&& (8388607 : Int32)) + (1 : Int32)) (4499096027743125504 : UInt64)) (FP.dadd (FP.dmul (FP.i2d ((p1 &&& (8388607 : Int32)) + (1 : Int32))) (4499096027743125504 : UInt64)) (FP.dmul (FP.dmul (4611686018427387904 : UInt64) (FP.dmul (FP.i2d ((p1 &&& (8388607 : Int32)) + (1 : Int32))) (4499096027743125504 : UInt64))) (FP.dmul (FP.i2d ((p1 &&& (8388607 : Int32)) + (1 : Int32))) (4499096027743125504 : UInt64))))) .g) then (if (p1 &&& (8388607 : Int32)) = (0 : Int32) then (0 : Int32) else (0 : Int32)) else (if (p1 &&& (8388607 : Int32)) = (0 : Int32) then (if (cmpValue (FP.dcmp (f1 (p1 &&& (8388607 : Int32)) (4499096027743125504 : UInt64)) (FP.dconst0)) .l) = (0 : Int32) then (1 : Int32) else (0 : Int32)) else (if (0 : Int32) < (cmpValue (FP.dcmp (FP.dadd (FP.dmul (FP.i2d (p1 &&& (8388607 : Int32))) (4499096027743125504 : UInt64)) (FP.dmul (FP.dmul (FP.i2d (p1 &&& (8388607 : Int32))) (4499096027743125504 : UInt64)) (FP.dmul (FP.i2d (p1 &&& (8388607 : Int32))) (4499096027743125504 : UInt64)))) (f1 (p1 &&& (8388607 : Int32)) (4499096027743125504 : UInt64))) .g) then (0 : Int32) else (if (0 : Int32) < (cmpValue (FP.dcmp (f1 (p1 &&& (8388607 : Int32)) (4499096027743125504 : UInt64)) (FP.dadd (FP.dmul (FP.i2d (p1 &&& (8388607 : Int32))) (4499096027743125504 : UInt64)) (FP.dmul (FP.dmul (4611686018427387904 : UInt64) (FP.dmul (FP.i2d (p1 &&& (8388607 : Int32))) (4499096027743125504 : UInt64))) (FP.dmul (FP.i2d (p1 &&& (8388607 : Int32))) (4499096027743125504 : UInt64))))) .g) then (0 : Int32) else (1 : Int32))))))) else (if (0 : Int32) < (cmpValue (FP.dcmp (f1 (p1 &&& (8388607 : Int32)) (4368491638549381120 : UInt64)) (f1 ((p1 &&& (8388607 : Int32)) + (1 : Int32)) (4368491638549381120 : UInt64))) .g) then (if (p1 &&& (8388607 : Int32)) = (0 : Int32) then (0 : Int32) else (0 : Int32)) else (if (cmpValue (FP.dcmp (FP.dmul (FP.i2d ((p1 &&& (8388607 : Int32)) + (1 : Int32))) (4368491638549381120 : UInt64)) (f1 ((p1 &&& (8388607 : Int32)) + (1 : Int32)) (4368491638549381120 : UInt64))) .g) < (0 : Int32) then (if (0 : Int32) < (cmpValue (FP.dcmp (f1 ((p1 &&& (8388607 : Int32)) + (1 : Int32)) (4368491638549381120 : UInt64)) (FP.dmul (4611686018427387904 : UInt64) (FP.dmul (FP.i2d ((p1 &&& (8388607 : Int32)) + (1 : Int32))) (4368491638549381120 : UInt64)))) .g) then (if (p1 &&& (8388607 : Int32)) = (0 : Int32) then (0 : Int32) else (0 : Int32)) else (if (p1 &&& (8388607 : Int32)) = (0 : Int32) then (if (cmpValue (FP.dcmp (f1 (p1 &&& (8388607 : Int32)) (4368491638549381120 : UInt64)) (FP.dconst0)) .l) = (0 : Int32) then (1 : Int32) else (0 : Int32)) else (if (cmpValue (FP.dcmp (FP.dmul (FP.i2d (p1 &&& (8388607 : Int32))) (4368491638549381120 : UInt64)) (f1 (p1 &&& (8388607 : Int32)) (4368491638549381120 : UInt64))) .g) < (0 : Int32) then (if (0 : Int32) < (cmpValue (FP.dcmp (f1 (p1 &&& (8388607 : Int32)) (4368491638549381120 : UInt64)) (FP.dmul (4611686018427387904 : UInt64) (FP.dmul (FP.i2d (p1 &&& (8388607 : Int32))) (4368491638549381120 : UInt64)))) .g) then (0 : Int32) else (1 : Int32)) else (0 : Int32)))) else (if (p1 &&& (8388607 : Int32)) = (0 : Int32) then (0 : Int32) else (0 : Int32)))))
def Q0 (Z : State) (p1 : Int32) (p2 : Int32) (h0 : Heap) (n0 : Nat) (v : Option Value) (h : Heap) (L : List Loc) : Prop := v = some (.int (f0 p1 p2)) ∧ Fr n0 L ∧ h = h0
set_option maxRecDepth 65536 in
set_option maxHeartbeats 40000000 in
theorem rm0 (l : Launch) (Z : State) (a0 : Array Value) (hw : ∀ d ∈ tables_1, d.before a0 Z = true) (ws : List Jvm.Cond) (p1 : Int32) (p2 : Int32) (h0 : Heap) (n0 : Nat)  :
    MetFree l x (head1 (Jvm.Cond.code x code maxLocals ret :: ws) room_1) (fun a U => a = #[(.int p1), (.int p2)] ∧ Z.Warmed39 U.vm ∧ U.heap = h0) (fun _ _ _ _ _ => True) (fun _ U o U' => ∃ v L, o = .returned v ∧ Q0 Z p1 p2 h0 n0 v U'.heap L ∧ FrameEnd U o U' L room_1.cells room_1.slots) := by
  refine MetFree.of_bodySF (plainFor_of_name pn_0) hisR ?_
  intro p e s m args below meth c s₁ Bd hml0 hP hK
  obtain ⟨rfl, hZ, hh⟩ := hP
  have hx := Bd.exec
  have hby := Bd.bytes
  have hml : c.maxLocals = 14 := hml0
  have hown0 := findClass_of_methodNamed Bd.named
  have hown : s.vm.findClass "com/example/nearfield/nearfield/engine/FloatRoundingGammaPinLaw" = some m.cls := hown0
  have hnm := (name_of_methodNamed Bd.named Bd.method).1
  have X0 : Stand p l e room_1 s m #[(.int p1), (.int p2)] below meth c s₁ [] 0 0 := Stand.of_body Bd
  have e0 : s₁.heap = h0 := by rw [← hh, Bd.state]; rfl
  have N0 := Fr.nil n0
  have pre0 : ∀ t, Steps p.tables e below (s₁.setTop (mkF m 0 #[.val (.int p1), .val (.int p2), .unset, .unset, .unset, .unset, .unset, .unset, .unset, .unset, .unset, .unset, .unset, .unset] [])) t → Steps p.tables e below (s₁.setTop (entryFrame m #[(.int p1), (.int p2)] maxLocals)) t := fun t k => castTop (ef_0 m p1 p2) k
  refine Classical.byContradiction fun hneg => ?_
  have pre1 : ∀ t, Steps p.tables e below (s₁.setTop (mkF m 8 #[.val (.int p1), .val (.int p2), .val (.int (p1 &&& (8388607 : Int32))), .unset, .unset, .unset, .unset, .unset, .unset, .unset, .unset, .unset, .unset, .unset] [(.int (p2 &&& (1 : Int32)))])) t → Steps p.tables e below (s₁.setTop (entryFrame m #[(.int p1), (.int p2)] maxLocals)) t := by
    intro t k
    refine pre0 t ?_
    show Steps p.tables e below (s₁.setTop (mkF m 0 #[.val (.int p1), .val (.int p2), .unset, .unset, .unset, .unset, .unset, .unset, .unset, .unset, .unset, .unset, .unset, .unset] [])) _
    refine XS.iloadN X0.here hx rfl (hb hby at_0) rfl ?_
    show Steps p.tables e below (s₁.setTop (mkF m 1 #[.val (.int p1), .val (.int p2), .unset, .unset, .unset, .unset, .unset, .unset, .unset, .unset, .unset, .unset, .unset, .unset] [(.int p1)])) _
    refine X0.ldcInt hx hown (mvT hZ (hw _ (List.mem_of_getElem? (i := 0) rfl))) (g := (mkF m 1 #[.val (.int p1), .val (.int p2), .unset, .unset, .unset, .unset, .unset, .unset, .unset, .unset, .unset, .unset, .unset, .unset] [(.int p1)])) rfl (hb hby at_1) _ ?_
    show Steps p.tables e below (s₁.setTop (mkF m 3 #[.val (.int p1), .val (.int p2), .unset, .unset, .unset, .unset, .unset, .unset, .unset, .unset, .unset, .unset, .unset, .unset] [(.int (8388607 : Int32)), (.int p1)])) _
    refine XS.iand X0.here hx rfl (hb hby at_3) rfl ?_
    show Steps p.tables e below (s₁.setTop (mkF m 4 #[.val (.int p1), .val (.int p2), .unset, .unset, .unset, .unset, .unset, .unset, .unset, .unset, .unset, .unset, .unset, .unset] [(.int (p1 &&& (8388607 : Int32)))])) _
    refine XS.istoreN X0.here hx rfl (hb hby at_4) rfl (l' := #[.val (.int p1), .val (.int p2), .val (.int (p1 &&& (8388607 : Int32))), .unset, .unset, .unset, .unset, .unset, .unset, .unset, .unset, .unset, .unset, .unset]) rfl ?_
    show Steps p.tables e below (s₁.setTop (mkF m 5 #[.val (.int p1), .val (.int p2), .val (.int (p1 &&& (8388607 : Int32))), .unset, .unset, .unset, .unset, .unset, .unset, .unset, .unset, .unset, .unset, .unset] [])) _
    refine XS.iloadN X0.here hx rfl (hb hby at_5) rfl ?_
    show Steps p.tables e below (s₁.setTop (mkF m 6 #[.val (.int p1), .val (.int p2), .val (.int (p1 &&& (8388607 : Int32))), .unset, .unset, .unset, .unset, .unset, .unset, .unset, .unset, .unset, .unset, .unset] [(.int p2)])) _
    refine XS.iconst X0.here hx rfl (hb hby at_6) ?_
    show Steps p.tables e below (s₁.setTop (mkF m 7 #[.val (.int p1), .val (.int p2), .val (.int (p1 &&& (8388607 : Int32))), .unset, .unset, .unset, .unset, .unset, .unset, .unset, .unset, .unset, .unset, .unset] [(.int (1 : Int32)), (.int p2)])) _
    refine XS.iand X0.here hx rfl (hb hby at_7) rfl ?_
    exact k
  by_cases hc8_2 : (p2 &&& (1 : Int32)) = (0 : Int32)
  · obtain ⟨_, _, ⟨T3, L3, k3, n3⟩, -, X3, ⟨Lc3, hQ3, l3, y3, z3⟩, st3⟩ := Jvm.LawKit.callS X0 hx (y := (⟨"com/example/nearfield/nearfield/engine/FloatRounding", "gamma", "(ID)D"⟩ : MethodName)) hown (mvT hZ (hw _ (List.mem_of_getElem? (i := 2) rfl))) (mvT hZ (hw _ (List.mem_of_getElem? (i := 3) rfl))) (mvT hZ (hw _ (List.mem_of_getElem? (i := 4) rfl))) (mvT hZ (hw _ (List.mem_of_getElem? (i := 5) rfl))) (by decide) (backOf (W := 0) (rm1 l Z a0 hw [] (p1 &&& (8388607 : Int32)) (4499096027743125504 : UInt64)  h0 n0  (own_nm24 (own_ok0 p1)) (own_ns24 (own_ok0 p1)) (own_nd24 (own_ok0 p1))) hZ (hw _ (List.mem_of_getElem? (i := 5) rfl)) (hw _ (List.mem_of_getElem? (i := 4) rfl)) (by decide) (by decide)) (g := (mkF m 139 #[.val (.int p1), .val (.int p2), .val (.int (p1 &&& (8388607 : Int32))), .val (.double (4499096027743125504 : UInt64)), .second, .unset, .unset, .unset, .unset, .unset, .unset, .unset, .unset, .unset] [(.double (4499096027743125504 : UInt64)), (.int (p1 &&& (8388607 : Int32)))])) rfl (by rw [hml]; rfl) (argsL := [(.int (p1 &&& (8388607 : Int32))), (.double (4499096027743125504 : UInt64))]) (rest := []) (lenOf pd0 rfl) rfl (by show 2 * 0 + _ ≤ _; exact Nat.le_of_eq rfl) (hb hby at_139) (fun _ _ => ⟨rfl, e0, (by decide : 0 + 0 ≤ _), (by decide : 0 + 0 ≤ _)⟩)
    dsimp only [Pt.U, Pt.locs, Pt.cells, Pt.slots] at X3 l3 y3 z3 st3 hQ3
    subst l3 y3 z3
    obtain ⟨rfl, N3q, e3⟩ := hQ3
    have N3 := Fr.app N0 N3q
    obtain ⟨_, _, ⟨T4, L4, k4, n4⟩, -, X4, ⟨Lc4, hQ4, l4, y4, z4⟩, st4⟩ := Jvm.LawKit.callS X3 hx (y := (⟨"com/example/nearfield/nearfield/engine/FloatRounding", "gamma", "(ID)D"⟩ : MethodName)) hown (mvT hZ (hw _ (List.mem_of_getElem? (i := 2) rfl))) (mvT hZ (hw _ (List.mem_of_getElem? (i := 3) rfl))) (mvT hZ (hw _ (List.mem_of_getElem? (i := 4) rfl))) (mvT hZ (hw _ (List.mem_of_getElem? (i := 5) rfl))) (by decide) (backOf (W := 0) (rm1 l Z a0 hw [] ((p1 &&& (8388607 : Int32)) + (1 : Int32)) (4499096027743125504 : UInt64)  h0 n0  (own_nm24 (own_ok1 p1)) (own_ns24 (own_ok1 p1)) (own_nd24 (own_ok1 p1))) hZ (hw _ (List.mem_of_getElem? (i := 5) rfl)) (hw _ (List.mem_of_getElem? (i := 4) rfl)) (by decide) (by decide)) (g := (mkF m 148 #[.val (.int p1), .val (.int p2), .val (.int (p1 &&& (8388607 : Int32))), .val (.double (4499096027743125504 : UInt64)), .second, .val (.double (f1 (p1 &&& (8388607 : Int32)) (4499096027743125504 : UInt64))), .second, .unset, .unset, .unset, .unset, .unset, .unset, .unset] [(.double (4499096027743125504 : UInt64)), (.int ((p1 &&& (8388607 : Int32)) + (1 : Int32)))])) rfl (by rw [hml]; rfl) (argsL := [(.int ((p1 &&& (8388607 : Int32)) + (1 : Int32))), (.double (4499096027743125504 : UInt64))]) (rest := []) (lenOf pd0 rfl) rfl (by show 2 * 0 + _ ≤ _; exact Nat.le_of_eq rfl) (hb hby at_148) (fun _ _ => ⟨rfl, e3, (by decide : 0 + 0 ≤ _), (by decide : 0 + 0 ≤ _)⟩)
    dsimp only [Pt.U, Pt.locs, Pt.cells, Pt.slots] at X4 l4 y4 z4 st4 hQ4
    subst l4 y4 z4
    obtain ⟨rfl, N4q, e4⟩ := hQ4
    have N4 := Fr.app N3 N4q
    have pre5 : ∀ t, Steps p.tables e below (T4.setTop (mkF m 172 #[.val (.int p1), .val (.int p2), .val (.int (p1 &&& (8388607 : Int32))), .val (.double (4499096027743125504 : UInt64)), .second, .val (.double (f1 (p1 &&& (8388607 : Int32)) (4499096027743125504 : UInt64))), .second, .val (.double (f1 ((p1 &&& (8388607 : Int32)) + (1 : Int32)) (4499096027743125504 : UInt64))), .second, .val (.double (FP.dmul (FP.i2d (p1 &&& (8388607 : Int32))) (4499096027743125504 : UInt64))), .second, .val (.double (FP.dmul (FP.i2d ((p1 &&& (8388607 : Int32)) + (1 : Int32))) (4499096027743125504 : UInt64))), .second, .unset] [(.int (cmpValue (FP.dcmp (f1 (p1 &&& (8388607 : Int32)) (4499096027743125504 : UInt64)) (f1 ((p1 &&& (8388607 : Int32)) + (1 : Int32)) (4499096027743125504 : UInt64))) .g))])) t → Steps p.tables e below (s₁.setTop (entryFrame m #[(.int p1), (.int p2)] maxLocals)) t := by
      intro t k
      refine pre1 t ?_
      show Steps p.tables e below (s₁.setTop (mkF m 8 #[.val (.int p1), .val (.int p2), .val (.int (p1 &&& (8388607 : Int32))), .unset, .unset, .unset, .unset, .unset, .unset, .unset, .unset, .unset, .unset, .unset] [(.int (p2 &&& (1 : Int32)))])) _
      refine XS.ifYes X0.here hx rfl (pc0 := 8) (pc' := 133) rfl (hb hby at_8) rfl ((if0 _ _).trans (teq hc8_2).1) (by decide) (by decide) ?_
      show Steps p.tables e below (s₁.setTop (mkF m 133 #[.val (.int p1), .val (.int p2), .val (.int (p1 &&& (8388607 : Int32))), .unset, .unset, .unset, .unset, .unset, .unset, .unset, .unset, .unset, .unset, .unset] [])) _
      refine X0.ldc2DoubleC hx hown (mvT hZ (hw _ (List.mem_of_getElem? (i := 7) rfl))) (g := (mkF m 133 #[.val (.int p1), .val (.int p2), .val (.int (p1 &&& (8388607 : Int32))), .unset, .unset, .unset, .unset, .unset, .unset, .unset, .unset, .unset, .unset, .unset] [])) rfl (hb hby at_133) _ ?_
      show Steps p.tables e below (s₁.setTop (mkF m 136 #[.val (.int p1), .val (.int p2), .val (.int (p1 &&& (8388607 : Int32))), .unset, .unset, .unset, .unset, .unset, .unset, .unset, .unset, .unset, .unset, .unset] [(.double (4499096027743125504 : UInt64))])) _
      refine XS.dstoreN X0.here hx rfl (hb hby at_136) rfl (l' := #[.val (.int p1), .val (.int p2), .val (.int (p1 &&& (8388607 : Int32))), .val (.double (4499096027743125504 : UInt64)), .second, .unset, .unset, .unset, .unset, .unset, .unset, .unset, .unset, .unset]) rfl ?_
      show Steps p.tables e below (s₁.setTop (mkF m 137 #[.val (.int p1), .val (.int p2), .val (.int (p1 &&& (8388607 : Int32))), .val (.double (4499096027743125504 : UInt64)), .second, .unset, .unset, .unset, .unset, .unset, .unset, .unset, .unset, .unset] [])) _
      refine XS.iloadN X0.here hx rfl (hb hby at_137) rfl ?_
      show Steps p.tables e below (s₁.setTop (mkF m 138 #[.val (.int p1), .val (.int p2), .val (.int (p1 &&& (8388607 : Int32))), .val (.double (4499096027743125504 : UInt64)), .second, .unset, .unset, .unset, .unset, .unset, .unset, .unset, .unset, .unset] [(.int (p1 &&& (8388607 : Int32)))])) _
      refine XS.dloadN X0.here hx rfl (hb hby at_138) rfl ?_
      show Steps p.tables e below (s₁.setTop (mkF m 139 #[.val (.int p1), .val (.int p2), .val (.int (p1 &&& (8388607 : Int32))), .val (.double (4499096027743125504 : UInt64)), .second, .unset, .unset, .unset, .unset, .unset, .unset, .unset, .unset, .unset] [(.double (4499096027743125504 : UInt64)), (.int (p1 &&& (8388607 : Int32)))])) _
      refine st3 _ ?_
      show Steps p.tables e below (T3.setTop (mkF m 142 #[.val (.int p1), .val (.int p2), .val (.int (p1 &&& (8388607 : Int32))), .val (.double (4499096027743125504 : UInt64)), .second, .unset, .unset, .unset, .unset, .unset, .unset, .unset, .unset, .unset] [(.double (f1 (p1 &&& (8388607 : Int32)) (4499096027743125504 : UInt64)))])) _
      refine XS.dstore X3.here hx rfl (hb hby at_142) rfl (l' := #[.val (.int p1), .val (.int p2), .val (.int (p1 &&& (8388607 : Int32))), .val (.double (4499096027743125504 : UInt64)), .second, .val (.double (f1 (p1 &&& (8388607 : Int32)) (4499096027743125504 : UInt64))), .second, .unset, .unset, .unset, .unset, .unset, .unset, .unset]) rfl ?_
      show Steps p.tables e below (T3.setTop (mkF m 144 #[.val (.int p1), .val (.int p2), .val (.int (p1 &&& (8388607 : Int32))), .val (.double (4499096027743125504 : UInt64)), .second, .val (.double (f1 (p1 &&& (8388607 : Int32)) (4499096027743125504 : UInt64))), .second, .unset, .unset, .unset, .unset, .unset, .unset, .unset] [])) _
      refine XS.iloadN X3.here hx rfl (hb hby at_144) rfl ?_
      show Steps p.tables e below (T3.setTop (mkF m 145 #[.val (.int p1), .val (.int p2), .val (.int (p1 &&& (8388607 : Int32))), .val (.double (4499096027743125504 : UInt64)), .second, .val (.double (f1 (p1 &&& (8388607 : Int32)) (4499096027743125504 : UInt64))), .second, .unset, .unset, .unset, .unset, .unset, .unset, .unset] [(.int (p1 &&& (8388607 : Int32)))])) _
      refine XS.iconst X3.here hx rfl (hb hby at_145) ?_
      show Steps p.tables e below (T3.setTop (mkF m 146 #[.val (.int p1), .val (.int p2), .val (.int (p1 &&& (8388607 : Int32))), .val (.double (4499096027743125504 : UInt64)), .second, .val (.double (f1 (p1 &&& (8388607 : Int32)) (4499096027743125504 : UInt64))), .second, .unset, .unset, .unset, .unset, .unset, .unset, .unset] [(.int (1 : Int32)), (.int (p1 &&& (8388607 : Int32)))])) _
      refine XS.iadd X3.here hx rfl (hb hby at_146) rfl ?_
      show Steps p.tables e below (T3.setTop (mkF m 147 #[.val (.int p1), .val (.int p2), .val (.int (p1 &&& (8388607 : Int32))), .val (.double (4499096027743125504 : UInt64)), .second, .val (.double (f1 (p1 &&& (8388607 : Int32)) (4499096027743125504 : UInt64))), .second, .unset, .unset, .unset, .unset, .unset, .unset, .unset] [(.int ((p1 &&& (8388607 : Int32)) + (1 : Int32)))])) _
      refine XS.dloadN X3.here hx rfl (hb hby at_147) rfl ?_
      show Steps p.tables e below (T3.setTop (mkF m 148 #[.val (.int p1), .val (.int p2), .val (.int (p1 &&& (8388607 : Int32))), .val (.double (4499096027743125504 : UInt64)), .second, .val (.double (f1 (p1 &&& (8388607 : Int32)) (4499096027743125504 : UInt64))), .second, .unset, .unset, .unset, .unset, .unset, .unset, .unset] [(.double (4499096027743125504 : UInt64)), (.int ((p1 &&& (8388607 : Int32)) + (1 : Int32)))])) _
      refine st4 _ ?_
      show Steps p.tables e below (T4.setTop (mkF m 151 #[.val (.int p1), .val (.int p2), .val (.int (p1 &&& (8388607 : Int32))), .val (.double (4499096027743125504 : UInt64)), .second, .val (.double (f1 (p1 &&& (8388607 : Int32)) (4499096027743125504 : UInt64))), .second, .unset, .unset, .unset, .unset, .unset, .unset, .unset] [(.double (f1 ((p1 &&& (8388607 : Int32)) + (1 : Int32)) (4499096027743125504 : UInt64)))])) _
      refine XS.dstore X4.here hx rfl (hb hby at_151) rfl (l' := #[.val (.int p1), .val (.int p2), .val (.int (p1 &&& (8388607 : Int32))), .val (.double (4499096027743125504 : UInt64)), .second, .val (.double (f1 (p1 &&& (8388607 : Int32)) (4499096027743125504 : UInt64))), .second, .val (.double (f1 ((p1 &&& (8388607 : Int32)) + (1 : Int32)) (4499096027743125504 : UInt64))), .second, .unset, .unset, .unset, .unset, .unset]) rfl ?_
      show Steps p.tables e below (T4.setTop (mkF m 153 #[.val (.int p1), .val (.int p2), .val (.int (p1 &&& (8388607 : Int32))), .val (.double (4499096027743125504 : UInt64)), .second, .val (.double (f1 (p1 &&& (8388607 : Int32)) (4499096027743125504 : UInt64))), .second, .val (.double (f1 ((p1 &&& (8388607 : Int32)) + (1 : Int32)) (4499096027743125504 : UInt64))), .second, .unset, .unset, .unset, .unset, .unset] [])) _
      refine XS.iloadN X4.here hx rfl (hb hby at_153) rfl ?_
      show Steps p.tables e below (T4.setTop (mkF m 154 #[.val (.int p1), .val (.int p2), .val (.int (p1 &&& (8388607 : Int32))), .val (.double (4499096027743125504 : UInt64)), .second, .val (.double (f1 (p1 &&& (8388607 : Int32)) (4499096027743125504 : UInt64))), .second, .val (.double (f1 ((p1 &&& (8388607 : Int32)) + (1 : Int32)) (4499096027743125504 : UInt64))), .second, .unset, .unset, .unset, .unset, .unset] [(.int (p1 &&& (8388607 : Int32)))])) _
      refine XS.i2dS X4.here hx rfl (hb hby at_154) rfl rfl ?_
      show Steps p.tables e below (T4.setTop (mkF m 155 #[.val (.int p1), .val (.int p2), .val (.int (p1 &&& (8388607 : Int32))), .val (.double (4499096027743125504 : UInt64)), .second, .val (.double (f1 (p1 &&& (8388607 : Int32)) (4499096027743125504 : UInt64))), .second, .val (.double (f1 ((p1 &&& (8388607 : Int32)) + (1 : Int32)) (4499096027743125504 : UInt64))), .second, .unset, .unset, .unset, .unset, .unset] [(.double (FP.i2d (p1 &&& (8388607 : Int32))))])) _
      refine XS.dloadN X4.here hx rfl (hb hby at_155) rfl ?_
      show Steps p.tables e below (T4.setTop (mkF m 156 #[.val (.int p1), .val (.int p2), .val (.int (p1 &&& (8388607 : Int32))), .val (.double (4499096027743125504 : UInt64)), .second, .val (.double (f1 (p1 &&& (8388607 : Int32)) (4499096027743125504 : UInt64))), .second, .val (.double (f1 ((p1 &&& (8388607 : Int32)) + (1 : Int32)) (4499096027743125504 : UInt64))), .second, .unset, .unset, .unset, .unset, .unset] [(.double (4499096027743125504 : UInt64)), (.double (FP.i2d (p1 &&& (8388607 : Int32))))])) _
      refine XS.dmulS X4.here hx rfl (hb hby at_156) rfl (own_nm24 (own_ok0 p1)) rfl ?_
      show Steps p.tables e below (T4.setTop (mkF m 157 #[.val (.int p1), .val (.int p2), .val (.int (p1 &&& (8388607 : Int32))), .val (.double (4499096027743125504 : UInt64)), .second, .val (.double (f1 (p1 &&& (8388607 : Int32)) (4499096027743125504 : UInt64))), .second, .val (.double (f1 ((p1 &&& (8388607 : Int32)) + (1 : Int32)) (4499096027743125504 : UInt64))), .second, .unset, .unset, .unset, .unset, .unset] [(.double (FP.dmul (FP.i2d (p1 &&& (8388607 : Int32))) (4499096027743125504 : UInt64)))])) _
      refine XS.dstore X4.here hx rfl (hb hby at_157) rfl (l' := #[.val (.int p1), .val (.int p2), .val (.int (p1 &&& (8388607 : Int32))), .val (.double (4499096027743125504 : UInt64)), .second, .val (.double (f1 (p1 &&& (8388607 : Int32)) (4499096027743125504 : UInt64))), .second, .val (.double (f1 ((p1 &&& (8388607 : Int32)) + (1 : Int32)) (4499096027743125504 : UInt64))), .second, .val (.double (FP.dmul (FP.i2d (p1 &&& (8388607 : Int32))) (4499096027743125504 : UInt64))), .second, .unset, .unset, .unset]) rfl ?_
      show Steps p.tables e below (T4.setTop (mkF m 159 #[.val (.int p1), .val (.int p2), .val (.int (p1 &&& (8388607 : Int32))), .val (.double (4499096027743125504 : UInt64)), .second, .val (.double (f1 (p1 &&& (8388607 : Int32)) (4499096027743125504 : UInt64))), .second, .val (.double (f1 ((p1 &&& (8388607 : Int32)) + (1 : Int32)) (4499096027743125504 : UInt64))), .second, .val (.double (FP.dmul (FP.i2d (p1 &&& (8388607 : Int32))) (4499096027743125504 : UInt64))), .second, .unset, .unset, .unset] [])) _
      refine XS.iloadN X4.here hx rfl (hb hby at_159) rfl ?_
      show Steps p.tables e below (T4.setTop (mkF m 160 #[.val (.int p1), .val (.int p2), .val (.int (p1 &&& (8388607 : Int32))), .val (.double (4499096027743125504 : UInt64)), .second, .val (.double (f1 (p1 &&& (8388607 : Int32)) (4499096027743125504 : UInt64))), .second, .val (.double (f1 ((p1 &&& (8388607 : Int32)) + (1 : Int32)) (4499096027743125504 : UInt64))), .second, .val (.double (FP.dmul (FP.i2d (p1 &&& (8388607 : Int32))) (4499096027743125504 : UInt64))), .second, .unset, .unset, .unset] [(.int (p1 &&& (8388607 : Int32)))])) _
      refine XS.iconst X4.here hx rfl (hb hby at_160) ?_
      show Steps p.tables e below (T4.setTop (mkF m 161 #[.val (.int p1), .val (.int p2), .val (.int (p1 &&& (8388607 : Int32))), .val (.double (4499096027743125504 : UInt64)), .second, .val (.double (f1 (p1 &&& (8388607 : Int32)) (4499096027743125504 : UInt64))), .second, .val (.double (f1 ((p1 &&& (8388607 : Int32)) + (1 : Int32)) (4499096027743125504 : UInt64))), .second, .val (.double (FP.dmul (FP.i2d (p1 &&& (8388607 : Int32))) (4499096027743125504 : UInt64))), .second, .unset, .unset, .unset] [(.int (1 : Int32)), (.int (p1 &&& (8388607 : Int32)))])) _
      refine XS.iadd X4.here hx rfl (hb hby at_161) rfl ?_
      show Steps p.tables e below (T4.setTop (mkF m 162 #[.val (.int p1), .val (.int p2), .val (.int (p1 &&& (8388607 : Int32))), .val (.double (4499096027743125504 : UInt64)), .second, .val (.double (f1 (p1 &&& (8388607 : Int32)) (4499096027743125504 : UInt64))), .second, .val (.double (f1 ((p1 &&& (8388607 : Int32)) + (1 : Int32)) (4499096027743125504 : UInt64))), .second, .val (.double (FP.dmul (FP.i2d (p1 &&& (8388607 : Int32))) (4499096027743125504 : UInt64))), .second, .unset, .unset, .unset] [(.int ((p1 &&& (8388607 : Int32)) + (1 : Int32)))])) _
      refine XS.i2dS X4.here hx rfl (hb hby at_162) rfl rfl ?_
      show Steps p.tables e below (T4.setTop (mkF m 163 #[.val (.int p1), .val (.int p2), .val (.int (p1 &&& (8388607 : Int32))), .val (.double (4499096027743125504 : UInt64)), .second, .val (.double (f1 (p1 &&& (8388607 : Int32)) (4499096027743125504 : UInt64))), .second, .val (.double (f1 ((p1 &&& (8388607 : Int32)) + (1 : Int32)) (4499096027743125504 : UInt64))), .second, .val (.double (FP.dmul (FP.i2d (p1 &&& (8388607 : Int32))) (4499096027743125504 : UInt64))), .second, .unset, .unset, .unset] [(.double (FP.i2d ((p1 &&& (8388607 : Int32)) + (1 : Int32))))])) _
      refine XS.dloadN X4.here hx rfl (hb hby at_163) rfl ?_
      show Steps p.tables e below (T4.setTop (mkF m 164 #[.val (.int p1), .val (.int p2), .val (.int (p1 &&& (8388607 : Int32))), .val (.double (4499096027743125504 : UInt64)), .second, .val (.double (f1 (p1 &&& (8388607 : Int32)) (4499096027743125504 : UInt64))), .second, .val (.double (f1 ((p1 &&& (8388607 : Int32)) + (1 : Int32)) (4499096027743125504 : UInt64))), .second, .val (.double (FP.dmul (FP.i2d (p1 &&& (8388607 : Int32))) (4499096027743125504 : UInt64))), .second, .unset, .unset, .unset] [(.double (4499096027743125504 : UInt64)), (.double (FP.i2d ((p1 &&& (8388607 : Int32)) + (1 : Int32))))])) _
      refine XS.dmulS X4.here hx rfl (hb hby at_164) rfl (own_nm24 (own_ok1 p1)) rfl ?_
      show Steps p.tables e below (T4.setTop (mkF m 165 #[.val (.int p1), .val (.int p2), .val (.int (p1 &&& (8388607 : Int32))), .val (.double (4499096027743125504 : UInt64)), .second, .val (.double (f1 (p1 &&& (8388607 : Int32)) (4499096027743125504 : UInt64))), .second, .val (.double (f1 ((p1 &&& (8388607 : Int32)) + (1 : Int32)) (4499096027743125504 : UInt64))), .second, .val (.double (FP.dmul (FP.i2d (p1 &&& (8388607 : Int32))) (4499096027743125504 : UInt64))), .second, .unset, .unset, .unset] [(.double (FP.dmul (FP.i2d ((p1 &&& (8388607 : Int32)) + (1 : Int32))) (4499096027743125504 : UInt64)))])) _
      refine XS.dstore X4.here hx rfl (hb hby at_165) rfl (l' := #[.val (.int p1), .val (.int p2), .val (.int (p1 &&& (8388607 : Int32))), .val (.double (4499096027743125504 : UInt64)), .second, .val (.double (f1 (p1 &&& (8388607 : Int32)) (4499096027743125504 : UInt64))), .second, .val (.double (f1 ((p1 &&& (8388607 : Int32)) + (1 : Int32)) (4499096027743125504 : UInt64))), .second, .val (.double (FP.dmul (FP.i2d (p1 &&& (8388607 : Int32))) (4499096027743125504 : UInt64))), .second, .val (.double (FP.dmul (FP.i2d ((p1 &&& (8388607 : Int32)) + (1 : Int32))) (4499096027743125504 : UInt64))), .second, .unset]) rfl ?_
      show Steps p.tables e below (T4.setTop (mkF m 167 #[.val (.int p1), .val (.int p2), .val (.int (p1 &&& (8388607 : Int32))), .val (.double (4499096027743125504 : UInt64)), .second, .val (.double (f1 (p1 &&& (8388607 : Int32)) (4499096027743125504 : UInt64))), .second, .val (.double (f1 ((p1 &&& (8388607 : Int32)) + (1 : Int32)) (4499096027743125504 : UInt64))), .second, .val (.double (FP.dmul (FP.i2d (p1 &&& (8388607 : Int32))) (4499096027743125504 : UInt64))), .second, .val (.double (FP.dmul (FP.i2d ((p1 &&& (8388607 : Int32)) + (1 : Int32))) (4499096027743125504 : UInt64))), .second, .unset] [])) _
      refine XS.dload X4.here hx rfl (hb hby at_167) rfl ?_
      show Steps p.tables e below (T4.setTop (mkF m 169 #[.val (.int p1), .val (.int p2), .val (.int (p1 &&& (8388607 : Int32))), .val (.double (4499096027743125504 : UInt64)), .second, .val (.double (f1 (p1 &&& (8388607 : Int32)) (4499096027743125504 : UInt64))), .second, .val (.double (f1 ((p1 &&& (8388607 : Int32)) + (1 : Int32)) (4499096027743125504 : UInt64))), .second, .val (.double (FP.dmul (FP.i2d (p1 &&& (8388607 : Int32))) (4499096027743125504 : UInt64))), .second, .val (.double (FP.dmul (FP.i2d ((p1 &&& (8388607 : Int32)) + (1 : Int32))) (4499096027743125504 : UInt64))), .second, .unset] [(.double (f1 (p1 &&& (8388607 : Int32)) (4499096027743125504 : UInt64)))])) _
      refine XS.dload X4.here hx rfl (hb hby at_169) rfl ?_
      show Steps p.tables e below (T4.setTop (mkF m 171 #[.val (.int p1), .val (.int p2), .val (.int (p1 &&& (8388607 : Int32))), .val (.double (4499096027743125504 : UInt64)), .second, .val (.double (f1 (p1 &&& (8388607 : Int32)) (4499096027743125504 : UInt64))), .second, .val (.double (f1 ((p1 &&& (8388607 : Int32)) + (1 : Int32)) (4499096027743125504 : UInt64))), .second, .val (.double (FP.dmul (FP.i2d (p1 &&& (8388607 : Int32))) (4499096027743125504 : UInt64))), .second, .val (.double (FP.dmul (FP.i2d ((p1 &&& (8388607 : Int32)) + (1 : Int32))) (4499096027743125504 : UInt64))), .second, .unset] [(.double (f1 ((p1 &&& (8388607 : Int32)) + (1 : Int32)) (4499096027743125504 : UInt64))), (.double (f1 (p1 &&& (8388607 : Int32)) (4499096027743125504 : UInt64)))])) _
      refine XS.dcmpS X4.here hx rfl (hb hby at_171) rfl rfl ?_
      exact k
    by_cases hc172_6 : (0 : Int32) < (cmpValue (FP.dcmp (f1 (p1 &&& (8388607 : Int32)) (4499096027743125504 : UInt64)) (f1 ((p1 &&& (8388607 : Int32)) + (1 : Int32)) (4499096027743125504 : UInt64))) .g)
    · have pre7 : ∀ t, Steps p.tables e below (T4.setTop (mkF m 215 #[.val (.int p1), .val (.int p2), .val (.int (p1 &&& (8388607 : Int32))), .val (.double (4499096027743125504 : UInt64)), .second, .val (.double (f1 (p1 &&& (8388607 : Int32)) (4499096027743125504 : UInt64))), .second, .val (.double (f1 ((p1 &&& (8388607 : Int32)) + (1 : Int32)) (4499096027743125504 : UInt64))), .second, .val (.double (FP.dmul (FP.i2d (p1 &&& (8388607 : Int32))) (4499096027743125504 : UInt64))), .second, .val (.double (FP.dmul (FP.i2d ((p1 &&& (8388607 : Int32)) + (1 : Int32))) (4499096027743125504 : UInt64))), .second, .val (.int (0 : Int32))] [(.int (p1 &&& (8388607 : Int32)))])) t → Steps p.tables e below (s₁.setTop (entryFrame m #[(.int p1), (.int p2)] maxLocals)) t := by
        intro t k
        refine pre5 t ?_
        show Steps p.tables e below (T4.setTop (mkF m 172 #[.val (.int p1), .val (.int p2), .val (.int (p1 &&& (8388607 : Int32))), .val (.double (4499096027743125504 : UInt64)), .second, .val (.double (f1 (p1 &&& (8388607 : Int32)) (4499096027743125504 : UInt64))), .second, .val (.double (f1 ((p1 &&& (8388607 : Int32)) + (1 : Int32)) (4499096027743125504 : UInt64))), .second, .val (.double (FP.dmul (FP.i2d (p1 &&& (8388607 : Int32))) (4499096027743125504 : UInt64))), .second, .val (.double (FP.dmul (FP.i2d ((p1 &&& (8388607 : Int32)) + (1 : Int32))) (4499096027743125504 : UInt64))), .second, .unset] [(.int (cmpValue (FP.dcmp (f1 (p1 &&& (8388607 : Int32)) (4499096027743125504 : UInt64)) (f1 ((p1 &&& (8388607 : Int32)) + (1 : Int32)) (4499096027743125504 : UInt64))) .g))])) _
        refine XS.ifYes X4.here hx rfl (pc0 := 172) (pc' := 211) rfl (hb hby at_172) rfl ((if0 _ _).trans (tlt hc172_6).2.2.1) (by decide) (by decide) ?_
        show Steps p.tables e below (T4.setTop (mkF m 211 #[.val (.int p1), .val (.int p2), .val (.int (p1 &&& (8388607 : Int32))), .val (.double (4499096027743125504 : UInt64)), .second, .val (.double (f1 (p1 &&& (8388607 : Int32)) (4499096027743125504 : UInt64))), .second, .val (.double (f1 ((p1 &&& (8388607 : Int32)) + (1 : Int32)) (4499096027743125504 : UInt64))), .second, .val (.double (FP.dmul (FP.i2d (p1 &&& (8388607 : Int32))) (4499096027743125504 : UInt64))), .second, .val (.double (FP.dmul (FP.i2d ((p1 &&& (8388607 : Int32)) + (1 : Int32))) (4499096027743125504 : UInt64))), .second, .unset] [])) _
        refine XS.iconst X4.here hx rfl (hb hby at_211) ?_
        show Steps p.tables e below (T4.setTop (mkF m 212 #[.val (.int p1), .val (.int p2), .val (.int (p1 &&& (8388607 : Int32))), .val (.double (4499096027743125504 : UInt64)), .second, .val (.double (f1 (p1 &&& (8388607 : Int32)) (4499096027743125504 : UInt64))), .second, .val (.double (f1 ((p1 &&& (8388607 : Int32)) + (1 : Int32)) (4499096027743125504 : UInt64))), .second, .val (.double (FP.dmul (FP.i2d (p1 &&& (8388607 : Int32))) (4499096027743125504 : UInt64))), .second, .val (.double (FP.dmul (FP.i2d ((p1 &&& (8388607 : Int32)) + (1 : Int32))) (4499096027743125504 : UInt64))), .second, .unset] [(.int (0 : Int32))])) _
        refine XS.istore X4.here hx rfl (hb hby at_212) rfl (l' := #[.val (.int p1), .val (.int p2), .val (.int (p1 &&& (8388607 : Int32))), .val (.double (4499096027743125504 : UInt64)), .second, .val (.double (f1 (p1 &&& (8388607 : Int32)) (4499096027743125504 : UInt64))), .second, .val (.double (f1 ((p1 &&& (8388607 : Int32)) + (1 : Int32)) (4499096027743125504 : UInt64))), .second, .val (.double (FP.dmul (FP.i2d (p1 &&& (8388607 : Int32))) (4499096027743125504 : UInt64))), .second, .val (.double (FP.dmul (FP.i2d ((p1 &&& (8388607 : Int32)) + (1 : Int32))) (4499096027743125504 : UInt64))), .second, .val (.int (0 : Int32))]) rfl ?_
        show Steps p.tables e below (T4.setTop (mkF m 214 #[.val (.int p1), .val (.int p2), .val (.int (p1 &&& (8388607 : Int32))), .val (.double (4499096027743125504 : UInt64)), .second, .val (.double (f1 (p1 &&& (8388607 : Int32)) (4499096027743125504 : UInt64))), .second, .val (.double (f1 ((p1 &&& (8388607 : Int32)) + (1 : Int32)) (4499096027743125504 : UInt64))), .second, .val (.double (FP.dmul (FP.i2d (p1 &&& (8388607 : Int32))) (4499096027743125504 : UInt64))), .second, .val (.double (FP.dmul (FP.i2d ((p1 &&& (8388607 : Int32)) + (1 : Int32))) (4499096027743125504 : UInt64))), .second, .val (.int (0 : Int32))] [])) _
        refine XS.iloadN X4.here hx rfl (hb hby at_214) rfl ?_
        exact k
      by_cases hc215_8 : (p1 &&& (8388607 : Int32)) = (0 : Int32)
      · refine hneg ?_
        obtain ⟨fs, hr, hrun, hended, hW, hsame⟩ := X4.leave (v := some (.int (0 : Int32))) (fun h => by rw [Bd.returns] at h; cases h)
        refine ⟨_, _, pre7 _ ?_, hrun, hended, _, _, rfl, ?_, ⟨_, rfl⟩, hW, hsame.mono (by decide) (by decide)⟩
        · show Steps p.tables e below (T4.setTop (mkF m 215 #[.val (.int p1), .val (.int p2), .val (.int (p1 &&& (8388607 : Int32))), .val (.double (4499096027743125504 : UInt64)), .second, .val (.double (f1 (p1 &&& (8388607 : Int32)) (4499096027743125504 : UInt64))), .second, .val (.double (f1 ((p1 &&& (8388607 : Int32)) + (1 : Int32)) (4499096027743125504 : UInt64))), .second, .val (.double (FP.dmul (FP.i2d (p1 &&& (8388607 : Int32))) (4499096027743125504 : UInt64))), .second, .val (.double (FP.dmul (FP.i2d ((p1 &&& (8388607 : Int32)) + (1 : Int32))) (4499096027743125504 : UInt64))), .second, .val (.int (0 : Int32))] [(.int (p1 &&& (8388607 : Int32)))])) _
          refine XS.ifNo X4.here hx rfl (hb hby at_215) rfl ((if0 _ _).trans (teq hc215_8).2) ?_
          show Steps p.tables e below (T4.setTop (mkF m 218 #[.val (.int p1), .val (.int p2), .val (.int (p1 &&& (8388607 : Int32))), .val (.double (4499096027743125504 : UInt64)), .second, .val (.double (f1 (p1 &&& (8388607 : Int32)) (4499096027743125504 : UInt64))), .second, .val (.double (f1 ((p1 &&& (8388607 : Int32)) + (1 : Int32)) (4499096027743125504 : UInt64))), .second, .val (.double (FP.dmul (FP.i2d (p1 &&& (8388607 : Int32))) (4499096027743125504 : UInt64))), .second, .val (.double (FP.dmul (FP.i2d ((p1 &&& (8388607 : Int32)) + (1 : Int32))) (4499096027743125504 : UInt64))), .second, .val (.int (0 : Int32))] [])) _
          refine XS.iload X4.here hx rfl (hb hby at_218) rfl ?_
          show Steps p.tables e below (T4.setTop (mkF m 220 #[.val (.int p1), .val (.int p2), .val (.int (p1 &&& (8388607 : Int32))), .val (.double (4499096027743125504 : UInt64)), .second, .val (.double (f1 (p1 &&& (8388607 : Int32)) (4499096027743125504 : UInt64))), .second, .val (.double (f1 ((p1 &&& (8388607 : Int32)) + (1 : Int32)) (4499096027743125504 : UInt64))), .second, .val (.double (FP.dmul (FP.i2d (p1 &&& (8388607 : Int32))) (4499096027743125504 : UInt64))), .second, .val (.double (FP.dmul (FP.i2d ((p1 &&& (8388607 : Int32)) + (1 : Int32))) (4499096027743125504 : UInt64))), .second, .val (.int (0 : Int32))] [(.int (0 : Int32))])) _
          refine XS.ifYes X4.here hx rfl (pc0 := 220) (pc' := 234) rfl (hb hby at_220) rfl ((if0 _ _).trans (teq (by decide : (0 : Int32) = (0 : Int32))).1) (by decide) (by decide) ?_
          show Steps p.tables e below (T4.setTop (mkF m 234 #[.val (.int p1), .val (.int p2), .val (.int (p1 &&& (8388607 : Int32))), .val (.double (4499096027743125504 : UInt64)), .second, .val (.double (f1 (p1 &&& (8388607 : Int32)) (4499096027743125504 : UInt64))), .second, .val (.double (f1 ((p1 &&& (8388607 : Int32)) + (1 : Int32)) (4499096027743125504 : UInt64))), .second, .val (.double (FP.dmul (FP.i2d (p1 &&& (8388607 : Int32))) (4499096027743125504 : UInt64))), .second, .val (.double (FP.dmul (FP.i2d ((p1 &&& (8388607 : Int32)) + (1 : Int32))) (4499096027743125504 : UInt64))), .second, .val (.int (0 : Int32))] [])) _
          refine XS.iconst X4.here hx rfl (hb hby at_234) ?_
          show Steps p.tables e below (T4.setTop (mkF m 235 #[.val (.int p1), .val (.int p2), .val (.int (p1 &&& (8388607 : Int32))), .val (.double (4499096027743125504 : UInt64)), .second, .val (.double (f1 (p1 &&& (8388607 : Int32)) (4499096027743125504 : UInt64))), .second, .val (.double (f1 ((p1 &&& (8388607 : Int32)) + (1 : Int32)) (4499096027743125504 : UInt64))), .second, .val (.double (FP.dmul (FP.i2d (p1 &&& (8388607 : Int32))) (4499096027743125504 : UInt64))), .second, .val (.double (FP.dmul (FP.i2d ((p1 &&& (8388607 : Int32)) + (1 : Int32))) (4499096027743125504 : UInt64))), .second, .val (.int (0 : Int32))] [(.int (0 : Int32))])) _
          exact retN X4 hx (t := .boolean) Bd.returns (by simp) (hb hby at_235) hr
        · show Q0 Z p1 p2 h0 n0 _ T4.heap _
          rw [e4]
          refine ⟨?_, N4, rfl⟩
          rw [show f0 p1 p2 = (0 : Int32) from (by skip; simp only [f0, if_pos hc8_2, if_pos hc172_6, if_pos hc215_8])]
      · refine hneg ?_
        obtain ⟨fs, hr, hrun, hended, hW, hsame⟩ := X4.leave (v := some (.int (0 : Int32))) (fun h => by rw [Bd.returns] at h; cases h)
        refine ⟨_, _, pre7 _ ?_, hrun, hended, _, _, rfl, ?_, ⟨_, rfl⟩, hW, hsame.mono (by decide) (by decide)⟩
        · show Steps p.tables e below (T4.setTop (mkF m 215 #[.val (.int p1), .val (.int p2), .val (.int (p1 &&& (8388607 : Int32))), .val (.double (4499096027743125504 : UInt64)), .second, .val (.double (f1 (p1 &&& (8388607 : Int32)) (4499096027743125504 : UInt64))), .second, .val (.double (f1 ((p1 &&& (8388607 : Int32)) + (1 : Int32)) (4499096027743125504 : UInt64))), .second, .val (.double (FP.dmul (FP.i2d (p1 &&& (8388607 : Int32))) (4499096027743125504 : UInt64))), .second, .val (.double (FP.dmul (FP.i2d ((p1 &&& (8388607 : Int32)) + (1 : Int32))) (4499096027743125504 : UInt64))), .second, .val (.int (0 : Int32))] [(.int (p1 &&& (8388607 : Int32)))])) _
          refine XS.ifYes X4.here hx rfl (pc0 := 215) (pc' := 236) rfl (hb hby at_215) rfl ((if0 _ _).trans (feq hc215_8).2) (by decide) (by decide) ?_
          show Steps p.tables e below (T4.setTop (mkF m 236 #[.val (.int p1), .val (.int p2), .val (.int (p1 &&& (8388607 : Int32))), .val (.double (4499096027743125504 : UInt64)), .second, .val (.double (f1 (p1 &&& (8388607 : Int32)) (4499096027743125504 : UInt64))), .second, .val (.double (f1 ((p1 &&& (8388607 : Int32)) + (1 : Int32)) (4499096027743125504 : UInt64))), .second, .val (.double (FP.dmul (FP.i2d (p1 &&& (8388607 : Int32))) (4499096027743125504 : UInt64))), .second, .val (.double (FP.dmul (FP.i2d ((p1 &&& (8388607 : Int32)) + (1 : Int32))) (4499096027743125504 : UInt64))), .second, .val (.int (0 : Int32))] [])) _
          refine XS.iload X4.here hx rfl (hb hby at_236) rfl ?_
          show Steps p.tables e below (T4.setTop (mkF m 238 #[.val (.int p1), .val (.int p2), .val (.int (p1 &&& (8388607 : Int32))), .val (.double (4499096027743125504 : UInt64)), .second, .val (.double (f1 (p1 &&& (8388607 : Int32)) (4499096027743125504 : UInt64))), .second, .val (.double (f1 ((p1 &&& (8388607 : Int32)) + (1 : Int32)) (4499096027743125504 : UInt64))), .second, .val (.double (FP.dmul (FP.i2d (p1 &&& (8388607 : Int32))) (4499096027743125504 : UInt64))), .second, .val (.double (FP.dmul (FP.i2d ((p1 &&& (8388607 : Int32)) + (1 : Int32))) (4499096027743125504 : UInt64))), .second, .val (.int (0 : Int32))] [(.int (0 : Int32))])) _
          refine XS.ifYes X4.here hx rfl (pc0 := 238) (pc' := 277) rfl (hb hby at_238) rfl ((if0 _ _).trans (teq (by decide : (0 : Int32) = (0 : Int32))).1) (by decide) (by decide) ?_
          show Steps p.tables e below (T4.setTop (mkF m 277 #[.val (.int p1), .val (.int p2), .val (.int (p1 &&& (8388607 : Int32))), .val (.double (4499096027743125504 : UInt64)), .second, .val (.double (f1 (p1 &&& (8388607 : Int32)) (4499096027743125504 : UInt64))), .second, .val (.double (f1 ((p1 &&& (8388607 : Int32)) + (1 : Int32)) (4499096027743125504 : UInt64))), .second, .val (.double (FP.dmul (FP.i2d (p1 &&& (8388607 : Int32))) (4499096027743125504 : UInt64))), .second, .val (.double (FP.dmul (FP.i2d ((p1 &&& (8388607 : Int32)) + (1 : Int32))) (4499096027743125504 : UInt64))), .second, .val (.int (0 : Int32))] [])) _
          refine XS.iconst X4.here hx rfl (hb hby at_277) ?_
          show Steps p.tables e below (T4.setTop (mkF m 278 #[.val (.int p1), .val (.int p2), .val (.int (p1 &&& (8388607 : Int32))), .val (.double (4499096027743125504 : UInt64)), .second, .val (.double (f1 (p1 &&& (8388607 : Int32)) (4499096027743125504 : UInt64))), .second, .val (.double (f1 ((p1 &&& (8388607 : Int32)) + (1 : Int32)) (4499096027743125504 : UInt64))), .second, .val (.double (FP.dmul (FP.i2d (p1 &&& (8388607 : Int32))) (4499096027743125504 : UInt64))), .second, .val (.double (FP.dmul (FP.i2d ((p1 &&& (8388607 : Int32)) + (1 : Int32))) (4499096027743125504 : UInt64))), .second, .val (.int (0 : Int32))] [(.int (0 : Int32))])) _
          exact retN X4 hx (t := .boolean) Bd.returns (by simp) (hb hby at_278) hr
        · show Q0 Z p1 p2 h0 n0 _ T4.heap _
          rw [e4]
          refine ⟨?_, N4, rfl⟩
          rw [show f0 p1 p2 = (0 : Int32) from (by skip; simp only [f0, if_pos hc8_2, if_pos hc172_6, if_neg hc215_8])]
    · have pre9 : ∀ t, Steps p.tables e below (T4.setTop (mkF m 186 #[.val (.int p1), .val (.int p2), .val (.int (p1 &&& (8388607 : Int32))), .val (.double (4499096027743125504 : UInt64)), .second, .val (.double (f1 (p1 &&& (8388607 : Int32)) (4499096027743125504 : UInt64))), .second, .val (.double (f1 ((p1 &&& (8388607 : Int32)) + (1 : Int32)) (4499096027743125504 : UInt64))), .second, .val (.double (FP.dmul (FP.i2d (p1 &&& (8388607 : Int32))) (4499096027743125504 : UInt64))), .second, .val (.double (FP.dmul (FP.i2d ((p1 &&& (8388607 : Int32)) + (1 : Int32))) (4499096027743125504 : UInt64))), .second, .unset] [(.int (cmpValue (FP.dcmp (FP.dadd (FP.dmul (FP.i2d ((p1 &&& (8388607 : Int32)) + (1 : Int32))) (4499096027743125504 : UInt64)) (FP.dmul (FP.dmul (FP.i2d ((p1 &&& (8388607 : Int32)) + (1 : Int32))) (4499096027743125504 : UInt64)) (FP.dmul (FP.i2d ((p1 &&& (8388607 : Int32)) + (1 : Int32))) (4499096027743125504 : UInt64)))) (f1 ((p1 &&& (8388607 : Int32)) + (1 : Int32)) (4499096027743125504 : UInt64))) .g))])) t → Steps p.tables e below (s₁.setTop (entryFrame m #[(.int p1), (.int p2)] maxLocals)) t := by
        intro t k
        refine pre5 t ?_
        show Steps p.tables e below (T4.setTop (mkF m 172 #[.val (.int p1), .val (.int p2), .val (.int (p1 &&& (8388607 : Int32))), .val (.double (4499096027743125504 : UInt64)), .second, .val (.double (f1 (p1 &&& (8388607 : Int32)) (4499096027743125504 : UInt64))), .second, .val (.double (f1 ((p1 &&& (8388607 : Int32)) + (1 : Int32)) (4499096027743125504 : UInt64))), .second, .val (.double (FP.dmul (FP.i2d (p1 &&& (8388607 : Int32))) (4499096027743125504 : UInt64))), .second, .val (.double (FP.dmul (FP.i2d ((p1 &&& (8388607 : Int32)) + (1 : Int32))) (4499096027743125504 : UInt64))), .second, .unset] [(.int (cmpValue (FP.dcmp (f1 (p1 &&& (8388607 : Int32)) (4499096027743125504 : UInt64)) (f1 ((p1 &&& (8388607 : Int32)) + (1 : Int32)) (4499096027743125504 : UInt64))) .g))])) _
        refine XS.ifNo X4.here hx rfl (hb hby at_172) rfl ((if0 _ _).trans (flt hc172_6).2.2.1) ?_
        show Steps p.tables e below (T4.setTop (mkF m 175 #[.val (.int p1), .val (.int p2), .val (.int (p1 &&& (8388607 : Int32))), .val (.double (4499096027743125504 : UInt64)), .second, .val (.double (f1 (p1 &&& (8388607 : Int32)) (4499096027743125504 : UInt64))), .second, .val (.double (f1 ((p1 &&& (8388607 : Int32)) + (1 : Int32)) (4499096027743125504 : UInt64))), .second, .val (.double (FP.dmul (FP.i2d (p1 &&& (8388607 : Int32))) (4499096027743125504 : UInt64))), .second, .val (.double (FP.dmul (FP.i2d ((p1 &&& (8388607 : Int32)) + (1 : Int32))) (4499096027743125504 : UInt64))), .second, .unset] [])) _
        refine XS.dload X4.here hx rfl (hb hby at_175) rfl ?_
        show Steps p.tables e below (T4.setTop (mkF m 177 #[.val (.int p1), .val (.int p2), .val (.int (p1 &&& (8388607 : Int32))), .val (.double (4499096027743125504 : UInt64)), .second, .val (.double (f1 (p1 &&& (8388607 : Int32)) (4499096027743125504 : UInt64))), .second, .val (.double (f1 ((p1 &&& (8388607 : Int32)) + (1 : Int32)) (4499096027743125504 : UInt64))), .second, .val (.double (FP.dmul (FP.i2d (p1 &&& (8388607 : Int32))) (4499096027743125504 : UInt64))), .second, .val (.double (FP.dmul (FP.i2d ((p1 &&& (8388607 : Int32)) + (1 : Int32))) (4499096027743125504 : UInt64))), .second, .unset] [(.double (FP.dmul (FP.i2d ((p1 &&& (8388607 : Int32)) + (1 : Int32))) (4499096027743125504 : UInt64)))])) _
        refine XS.dload X4.here hx rfl (hb hby at_177) rfl ?_
        show Steps p.tables e below (T4.setTop (mkF m 179 #[.val (.int p1), .val (.int p2), .val (.int (p1 &&& (8388607 : Int32))), .val (.double (4499096027743125504 : UInt64)), .second, .val (.double (f1 (p1 &&& (8388607 : Int32)) (4499096027743125504 : UInt64))), .second, .val (.double (f1 ((p1 &&& (8388607 : Int32)) + (1 : Int32)) (4499096027743125504 : UInt64))), .second, .val (.double (FP.dmul (FP.i2d (p1 &&& (8388607 : Int32))) (4499096027743125504 : UInt64))), .second, .val (.double (FP.dmul (FP.i2d ((p1 &&& (8388607 : Int32)) + (1 : Int32))) (4499096027743125504 : UInt64))), .second, .unset] [(.double (FP.dmul (FP.i2d ((p1 &&& (8388607 : Int32)) + (1 : Int32))) (4499096027743125504 : UInt64))), (.double (FP.dmul (FP.i2d ((p1 &&& (8388607 : Int32)) + (1 : Int32))) (4499096027743125504 : UInt64)))])) _
        refine XS.dload X4.here hx rfl (hb hby at_179) rfl ?_
        show Steps p.tables e below (T4.setTop (mkF m 181 #[.val (.int p1), .val (.int p2), .val (.int (p1 &&& (8388607 : Int32))), .val (.double (4499096027743125504 : UInt64)), .second, .val (.double (f1 (p1 &&& (8388607 : Int32)) (4499096027743125504 : UInt64))), .second, .val (.double (f1 ((p1 &&& (8388607 : Int32)) + (1 : Int32)) (4499096027743125504 : UInt64))), .second, .val (.double (FP.dmul (FP.i2d (p1 &&& (8388607 : Int32))) (4499096027743125504 : UInt64))), .second, .val (.double (FP.dmul (FP.i2d ((p1 &&& (8388607 : Int32)) + (1 : Int32))) (4499096027743125504 : UInt64))), .second, .unset] [(.double (FP.dmul (FP.i2d ((p1 &&& (8388607 : Int32)) + (1 : Int32))) (4499096027743125504 : UInt64))), (.double (FP.dmul (FP.i2d ((p1 &&& (8388607 : Int32)) + (1 : Int32))) (4499096027743125504 : UInt64))), (.double (FP.dmul (FP.i2d ((p1 &&& (8388607 : Int32)) + (1 : Int32))) (4499096027743125504 : UInt64)))])) _
        refine XS.dmulS X4.here hx rfl (hb hby at_181) rfl (own_sq (own_ok1 p1)) rfl ?_
        show Steps p.tables e below (T4.setTop (mkF m 182 #[.val (.int p1), .val (.int p2), .val (.int (p1 &&& (8388607 : Int32))), .val (.double (4499096027743125504 : UInt64)), .second, .val (.double (f1 (p1 &&& (8388607 : Int32)) (4499096027743125504 : UInt64))), .second, .val (.double (f1 ((p1 &&& (8388607 : Int32)) + (1 : Int32)) (4499096027743125504 : UInt64))), .second, .val (.double (FP.dmul (FP.i2d (p1 &&& (8388607 : Int32))) (4499096027743125504 : UInt64))), .second, .val (.double (FP.dmul (FP.i2d ((p1 &&& (8388607 : Int32)) + (1 : Int32))) (4499096027743125504 : UInt64))), .second, .unset] [(.double (FP.dmul (FP.dmul (FP.i2d ((p1 &&& (8388607 : Int32)) + (1 : Int32))) (4499096027743125504 : UInt64)) (FP.dmul (FP.i2d ((p1 &&& (8388607 : Int32)) + (1 : Int32))) (4499096027743125504 : UInt64)))), (.double (FP.dmul (FP.i2d ((p1 &&& (8388607 : Int32)) + (1 : Int32))) (4499096027743125504 : UInt64)))])) _
        refine XS.daddS X4.here hx rfl (hb hby at_182) rfl (own_as (own_ok1 p1)) rfl ?_
        show Steps p.tables e below (T4.setTop (mkF m 183 #[.val (.int p1), .val (.int p2), .val (.int (p1 &&& (8388607 : Int32))), .val (.double (4499096027743125504 : UInt64)), .second, .val (.double (f1 (p1 &&& (8388607 : Int32)) (4499096027743125504 : UInt64))), .second, .val (.double (f1 ((p1 &&& (8388607 : Int32)) + (1 : Int32)) (4499096027743125504 : UInt64))), .second, .val (.double (FP.dmul (FP.i2d (p1 &&& (8388607 : Int32))) (4499096027743125504 : UInt64))), .second, .val (.double (FP.dmul (FP.i2d ((p1 &&& (8388607 : Int32)) + (1 : Int32))) (4499096027743125504 : UInt64))), .second, .unset] [(.double (FP.dadd (FP.dmul (FP.i2d ((p1 &&& (8388607 : Int32)) + (1 : Int32))) (4499096027743125504 : UInt64)) (FP.dmul (FP.dmul (FP.i2d ((p1 &&& (8388607 : Int32)) + (1 : Int32))) (4499096027743125504 : UInt64)) (FP.dmul (FP.i2d ((p1 &&& (8388607 : Int32)) + (1 : Int32))) (4499096027743125504 : UInt64)))))])) _
        refine XS.dload X4.here hx rfl (hb hby at_183) rfl ?_
        show Steps p.tables e below (T4.setTop (mkF m 185 #[.val (.int p1), .val (.int p2), .val (.int (p1 &&& (8388607 : Int32))), .val (.double (4499096027743125504 : UInt64)), .second, .val (.double (f1 (p1 &&& (8388607 : Int32)) (4499096027743125504 : UInt64))), .second, .val (.double (f1 ((p1 &&& (8388607 : Int32)) + (1 : Int32)) (4499096027743125504 : UInt64))), .second, .val (.double (FP.dmul (FP.i2d (p1 &&& (8388607 : Int32))) (4499096027743125504 : UInt64))), .second, .val (.double (FP.dmul (FP.i2d ((p1 &&& (8388607 : Int32)) + (1 : Int32))) (4499096027743125504 : UInt64))), .second, .unset] [(.double (f1 ((p1 &&& (8388607 : Int32)) + (1 : Int32)) (4499096027743125504 : UInt64))), (.double (FP.dadd (FP.dmul (FP.i2d ((p1 &&& (8388607 : Int32)) + (1 : Int32))) (4499096027743125504 : UInt64)) (FP.dmul (FP.dmul (FP.i2d ((p1 &&& (8388607 : Int32)) + (1 : Int32))) (4499096027743125504 : UInt64)) (FP.dmul (FP.i2d ((p1 &&& (8388607 : Int32)) + (1 : Int32))) (4499096027743125504 : UInt64)))))])) _
        refine XS.dcmpS X4.here hx rfl (hb hby at_185) rfl rfl ?_
        exact k
      by_cases hc186_10 : (0 : Int32) < (cmpValue (FP.dcmp (FP.dadd (FP.dmul (FP.i2d ((p1 &&& (8388607 : Int32)) + (1 : Int32))) (4499096027743125504 : UInt64)) (FP.dmul (FP.dmul (FP.i2d ((p1 &&& (8388607 : Int32)) + (1 : Int32))) (4499096027743125504 : UInt64)) (FP.dmul (FP.i2d ((p1 &&& (8388607 : Int32)) + (1 : Int32))) (4499096027743125504 : UInt64)))) (f1 ((p1 &&& (8388607 : Int32)) + (1 : Int32)) (4499096027743125504 : UInt64))) .g)
      · have pre11 : ∀ t, Steps p.tables e below (T4.setTop (mkF m 215 #[.val (.int p1), .val (.int p2), .val (.int (p1 &&& (8388607 : Int32))), .val (.double (4499096027743125504 : UInt64)), .second, .val (.double (f1 (p1 &&& (8388607 : Int32)) (4499096027743125504 : UInt64))), .second, .val (.double (f1 ((p1 &&& (8388607 : Int32)) + (1 : Int32)) (4499096027743125504 : UInt64))), .second, .val (.double (FP.dmul (FP.i2d (p1 &&& (8388607 : Int32))) (4499096027743125504 : UInt64))), .second, .val (.double (FP.dmul (FP.i2d ((p1 &&& (8388607 : Int32)) + (1 : Int32))) (4499096027743125504 : UInt64))), .second, .val (.int (0 : Int32))] [(.int (p1 &&& (8388607 : Int32)))])) t → Steps p.tables e below (s₁.setTop (entryFrame m #[(.int p1), (.int p2)] maxLocals)) t := by
          intro t k
          refine pre9 t ?_
          show Steps p.tables e below (T4.setTop (mkF m 186 #[.val (.int p1), .val (.int p2), .val (.int (p1 &&& (8388607 : Int32))), .val (.double (4499096027743125504 : UInt64)), .second, .val (.double (f1 (p1 &&& (8388607 : Int32)) (4499096027743125504 : UInt64))), .second, .val (.double (f1 ((p1 &&& (8388607 : Int32)) + (1 : Int32)) (4499096027743125504 : UInt64))), .second, .val (.double (FP.dmul (FP.i2d (p1 &&& (8388607 : Int32))) (4499096027743125504 : UInt64))), .second, .val (.double (FP.dmul (FP.i2d ((p1 &&& (8388607 : Int32)) + (1 : Int32))) (4499096027743125504 : UInt64))), .second, .unset] [(.int (cmpValue (FP.dcmp (FP.dadd (FP.dmul (FP.i2d ((p1 &&& (8388607 : Int32)) + (1 : Int32))) (4499096027743125504 : UInt64)) (FP.dmul (FP.dmul (FP.i2d ((p1 &&& (8388607 : Int32)) + (1 : Int32))) (4499096027743125504 : UInt64)) (FP.dmul (FP.i2d ((p1 &&& (8388607 : Int32)) + (1 : Int32))) (4499096027743125504 : UInt64)))) (f1 ((p1 &&& (8388607 : Int32)) + (1 : Int32)) (4499096027743125504 : UInt64))) .g))])) _
          refine XS.ifYes X4.here hx rfl (pc0 := 186) (pc' := 211) rfl (hb hby at_186) rfl ((if0 _ _).trans (tlt hc186_10).2.2.1) (by decide) (by decide) ?_
          show Steps p.tables e below (T4.setTop (mkF m 211 #[.val (.int p1), .val (.int p2), .val (.int (p1 &&& (8388607 : Int32))), .val (.double (4499096027743125504 : UInt64)), .second, .val (.double (f1 (p1 &&& (8388607 : Int32)) (4499096027743125504 : UInt64))), .second, .val (.double (f1 ((p1 &&& (8388607 : Int32)) + (1 : Int32)) (4499096027743125504 : UInt64))), .second, .val (.double (FP.dmul (FP.i2d (p1 &&& (8388607 : Int32))) (4499096027743125504 : UInt64))), .second, .val (.double (FP.dmul (FP.i2d ((p1 &&& (8388607 : Int32)) + (1 : Int32))) (4499096027743125504 : UInt64))), .second, .unset] [])) _
          refine XS.iconst X4.here hx rfl (hb hby at_211) ?_
          show Steps p.tables e below (T4.setTop (mkF m 212 #[.val (.int p1), .val (.int p2), .val (.int (p1 &&& (8388607 : Int32))), .val (.double (4499096027743125504 : UInt64)), .second, .val (.double (f1 (p1 &&& (8388607 : Int32)) (4499096027743125504 : UInt64))), .second, .val (.double (f1 ((p1 &&& (8388607 : Int32)) + (1 : Int32)) (4499096027743125504 : UInt64))), .second, .val (.double (FP.dmul (FP.i2d (p1 &&& (8388607 : Int32))) (4499096027743125504 : UInt64))), .second, .val (.double (FP.dmul (FP.i2d ((p1 &&& (8388607 : Int32)) + (1 : Int32))) (4499096027743125504 : UInt64))), .second, .unset] [(.int (0 : Int32))])) _
          refine XS.istore X4.here hx rfl (hb hby at_212) rfl (l' := #[.val (.int p1), .val (.int p2), .val (.int (p1 &&& (8388607 : Int32))), .val (.double (4499096027743125504 : UInt64)), .second, .val (.double (f1 (p1 &&& (8388607 : Int32)) (4499096027743125504 : UInt64))), .second, .val (.double (f1 ((p1 &&& (8388607 : Int32)) + (1 : Int32)) (4499096027743125504 : UInt64))), .second, .val (.double (FP.dmul (FP.i2d (p1 &&& (8388607 : Int32))) (4499096027743125504 : UInt64))), .second, .val (.double (FP.dmul (FP.i2d ((p1 &&& (8388607 : Int32)) + (1 : Int32))) (4499096027743125504 : UInt64))), .second, .val (.int (0 : Int32))]) rfl ?_
          show Steps p.tables e below (T4.setTop (mkF m 214 #[.val (.int p1), .val (.int p2), .val (.int (p1 &&& (8388607 : Int32))), .val (.double (4499096027743125504 : UInt64)), .second, .val (.double (f1 (p1 &&& (8388607 : Int32)) (4499096027743125504 : UInt64))), .second, .val (.double (f1 ((p1 &&& (8388607 : Int32)) + (1 : Int32)) (4499096027743125504 : UInt64))), .second, .val (.double (FP.dmul (FP.i2d (p1 &&& (8388607 : Int32))) (4499096027743125504 : UInt64))), .second, .val (.double (FP.dmul (FP.i2d ((p1 &&& (8388607 : Int32)) + (1 : Int32))) (4499096027743125504 : UInt64))), .second, .val (.int (0 : Int32))] [])) _
          refine XS.iloadN X4.here hx rfl (hb hby at_214) rfl ?_
          exact k
        by_cases hc215_12 : (p1 &&& (8388607 : Int32)) = (0 : Int32)
        · refine hneg ?_
          obtain ⟨fs, hr, hrun, hended, hW, hsame⟩ := X4.leave (v := some (.int (0 : Int32))) (fun h => by rw [Bd.returns] at h; cases h)
          refine ⟨_, _, pre11 _ ?_, hrun, hended, _, _, rfl, ?_, ⟨_, rfl⟩, hW, hsame.mono (by decide) (by decide)⟩
          · show Steps p.tables e below (T4.setTop (mkF m 215 #[.val (.int p1), .val (.int p2), .val (.int (p1 &&& (8388607 : Int32))), .val (.double (4499096027743125504 : UInt64)), .second, .val (.double (f1 (p1 &&& (8388607 : Int32)) (4499096027743125504 : UInt64))), .second, .val (.double (f1 ((p1 &&& (8388607 : Int32)) + (1 : Int32)) (4499096027743125504 : UInt64))), .second, .val (.double (FP.dmul (FP.i2d (p1 &&& (8388607 : Int32))) (4499096027743125504 : UInt64))), .second, .val (.double (FP.dmul (FP.i2d ((p1 &&& (8388607 : Int32)) + (1 : Int32))) (4499096027743125504 : UInt64))), .second, .val (.int (0 : Int32))] [(.int (p1 &&& (8388607 : Int32)))])) _
            refine XS.ifNo X4.here hx rfl (hb hby at_215) rfl ((if0 _ _).trans (teq hc215_12).2) ?_
            show Steps p.tables e below (T4.setTop (mkF m 218 #[.val (.int p1), .val (.int p2), .val (.int (p1 &&& (8388607 : Int32))), .val (.double (4499096027743125504 : UInt64)), .second, .val (.double (f1 (p1 &&& (8388607 : Int32)) (4499096027743125504 : UInt64))), .second, .val (.double (f1 ((p1 &&& (8388607 : Int32)) + (1 : Int32)) (4499096027743125504 : UInt64))), .second, .val (.double (FP.dmul (FP.i2d (p1 &&& (8388607 : Int32))) (4499096027743125504 : UInt64))), .second, .val (.double (FP.dmul (FP.i2d ((p1 &&& (8388607 : Int32)) + (1 : Int32))) (4499096027743125504 : UInt64))), .second, .val (.int (0 : Int32))] [])) _
            refine XS.iload X4.here hx rfl (hb hby at_218) rfl ?_
            show Steps p.tables e below (T4.setTop (mkF m 220 #[.val (.int p1), .val (.int p2), .val (.int (p1 &&& (8388607 : Int32))), .val (.double (4499096027743125504 : UInt64)), .second, .val (.double (f1 (p1 &&& (8388607 : Int32)) (4499096027743125504 : UInt64))), .second, .val (.double (f1 ((p1 &&& (8388607 : Int32)) + (1 : Int32)) (4499096027743125504 : UInt64))), .second, .val (.double (FP.dmul (FP.i2d (p1 &&& (8388607 : Int32))) (4499096027743125504 : UInt64))), .second, .val (.double (FP.dmul (FP.i2d ((p1 &&& (8388607 : Int32)) + (1 : Int32))) (4499096027743125504 : UInt64))), .second, .val (.int (0 : Int32))] [(.int (0 : Int32))])) _
            refine XS.ifYes X4.here hx rfl (pc0 := 220) (pc' := 234) rfl (hb hby at_220) rfl ((if0 _ _).trans (teq (by decide : (0 : Int32) = (0 : Int32))).1) (by decide) (by decide) ?_
            show Steps p.tables e below (T4.setTop (mkF m 234 #[.val (.int p1), .val (.int p2), .val (.int (p1 &&& (8388607 : Int32))), .val (.double (4499096027743125504 : UInt64)), .second, .val (.double (f1 (p1 &&& (8388607 : Int32)) (4499096027743125504 : UInt64))), .second, .val (.double (f1 ((p1 &&& (8388607 : Int32)) + (1 : Int32)) (4499096027743125504 : UInt64))), .second, .val (.double (FP.dmul (FP.i2d (p1 &&& (8388607 : Int32))) (4499096027743125504 : UInt64))), .second, .val (.double (FP.dmul (FP.i2d ((p1 &&& (8388607 : Int32)) + (1 : Int32))) (4499096027743125504 : UInt64))), .second, .val (.int (0 : Int32))] [])) _
            refine XS.iconst X4.here hx rfl (hb hby at_234) ?_
            show Steps p.tables e below (T4.setTop (mkF m 235 #[.val (.int p1), .val (.int p2), .val (.int (p1 &&& (8388607 : Int32))), .val (.double (4499096027743125504 : UInt64)), .second, .val (.double (f1 (p1 &&& (8388607 : Int32)) (4499096027743125504 : UInt64))), .second, .val (.double (f1 ((p1 &&& (8388607 : Int32)) + (1 : Int32)) (4499096027743125504 : UInt64))), .second, .val (.double (FP.dmul (FP.i2d (p1 &&& (8388607 : Int32))) (4499096027743125504 : UInt64))), .second, .val (.double (FP.dmul (FP.i2d ((p1 &&& (8388607 : Int32)) + (1 : Int32))) (4499096027743125504 : UInt64))), .second, .val (.int (0 : Int32))] [(.int (0 : Int32))])) _
            exact retN X4 hx (t := .boolean) Bd.returns (by simp) (hb hby at_235) hr
          · show Q0 Z p1 p2 h0 n0 _ T4.heap _
            rw [e4]
            refine ⟨?_, N4, rfl⟩
            rw [show f0 p1 p2 = (0 : Int32) from (by skip; simp only [f0, if_pos hc8_2, if_neg hc172_6, if_pos hc186_10, if_pos hc215_12])]
        · refine hneg ?_
          obtain ⟨fs, hr, hrun, hended, hW, hsame⟩ := X4.leave (v := some (.int (0 : Int32))) (fun h => by rw [Bd.returns] at h; cases h)
          refine ⟨_, _, pre11 _ ?_, hrun, hended, _, _, rfl, ?_, ⟨_, rfl⟩, hW, hsame.mono (by decide) (by decide)⟩
          · show Steps p.tables e below (T4.setTop (mkF m 215 #[.val (.int p1), .val (.int p2), .val (.int (p1 &&& (8388607 : Int32))), .val (.double (4499096027743125504 : UInt64)), .second, .val (.double (f1 (p1 &&& (8388607 : Int32)) (4499096027743125504 : UInt64))), .second, .val (.double (f1 ((p1 &&& (8388607 : Int32)) + (1 : Int32)) (4499096027743125504 : UInt64))), .second, .val (.double (FP.dmul (FP.i2d (p1 &&& (8388607 : Int32))) (4499096027743125504 : UInt64))), .second, .val (.double (FP.dmul (FP.i2d ((p1 &&& (8388607 : Int32)) + (1 : Int32))) (4499096027743125504 : UInt64))), .second, .val (.int (0 : Int32))] [(.int (p1 &&& (8388607 : Int32)))])) _
            refine XS.ifYes X4.here hx rfl (pc0 := 215) (pc' := 236) rfl (hb hby at_215) rfl ((if0 _ _).trans (feq hc215_12).2) (by decide) (by decide) ?_
            show Steps p.tables e below (T4.setTop (mkF m 236 #[.val (.int p1), .val (.int p2), .val (.int (p1 &&& (8388607 : Int32))), .val (.double (4499096027743125504 : UInt64)), .second, .val (.double (f1 (p1 &&& (8388607 : Int32)) (4499096027743125504 : UInt64))), .second, .val (.double (f1 ((p1 &&& (8388607 : Int32)) + (1 : Int32)) (4499096027743125504 : UInt64))), .second, .val (.double (FP.dmul (FP.i2d (p1 &&& (8388607 : Int32))) (4499096027743125504 : UInt64))), .second, .val (.double (FP.dmul (FP.i2d ((p1 &&& (8388607 : Int32)) + (1 : Int32))) (4499096027743125504 : UInt64))), .second, .val (.int (0 : Int32))] [])) _
            refine XS.iload X4.here hx rfl (hb hby at_236) rfl ?_
            show Steps p.tables e below (T4.setTop (mkF m 238 #[.val (.int p1), .val (.int p2), .val (.int (p1 &&& (8388607 : Int32))), .val (.double (4499096027743125504 : UInt64)), .second, .val (.double (f1 (p1 &&& (8388607 : Int32)) (4499096027743125504 : UInt64))), .second, .val (.double (f1 ((p1 &&& (8388607 : Int32)) + (1 : Int32)) (4499096027743125504 : UInt64))), .second, .val (.double (FP.dmul (FP.i2d (p1 &&& (8388607 : Int32))) (4499096027743125504 : UInt64))), .second, .val (.double (FP.dmul (FP.i2d ((p1 &&& (8388607 : Int32)) + (1 : Int32))) (4499096027743125504 : UInt64))), .second, .val (.int (0 : Int32))] [(.int (0 : Int32))])) _
            refine XS.ifYes X4.here hx rfl (pc0 := 238) (pc' := 277) rfl (hb hby at_238) rfl ((if0 _ _).trans (teq (by decide : (0 : Int32) = (0 : Int32))).1) (by decide) (by decide) ?_
            show Steps p.tables e below (T4.setTop (mkF m 277 #[.val (.int p1), .val (.int p2), .val (.int (p1 &&& (8388607 : Int32))), .val (.double (4499096027743125504 : UInt64)), .second, .val (.double (f1 (p1 &&& (8388607 : Int32)) (4499096027743125504 : UInt64))), .second, .val (.double (f1 ((p1 &&& (8388607 : Int32)) + (1 : Int32)) (4499096027743125504 : UInt64))), .second, .val (.double (FP.dmul (FP.i2d (p1 &&& (8388607 : Int32))) (4499096027743125504 : UInt64))), .second, .val (.double (FP.dmul (FP.i2d ((p1 &&& (8388607 : Int32)) + (1 : Int32))) (4499096027743125504 : UInt64))), .second, .val (.int (0 : Int32))] [])) _
            refine XS.iconst X4.here hx rfl (hb hby at_277) ?_
            show Steps p.tables e below (T4.setTop (mkF m 278 #[.val (.int p1), .val (.int p2), .val (.int (p1 &&& (8388607 : Int32))), .val (.double (4499096027743125504 : UInt64)), .second, .val (.double (f1 (p1 &&& (8388607 : Int32)) (4499096027743125504 : UInt64))), .second, .val (.double (f1 ((p1 &&& (8388607 : Int32)) + (1 : Int32)) (4499096027743125504 : UInt64))), .second, .val (.double (FP.dmul (FP.i2d (p1 &&& (8388607 : Int32))) (4499096027743125504 : UInt64))), .second, .val (.double (FP.dmul (FP.i2d ((p1 &&& (8388607 : Int32)) + (1 : Int32))) (4499096027743125504 : UInt64))), .second, .val (.int (0 : Int32))] [(.int (0 : Int32))])) _
            exact retN X4 hx (t := .boolean) Bd.returns (by simp) (hb hby at_278) hr
          · show Q0 Z p1 p2 h0 n0 _ T4.heap _
            rw [e4]
            refine ⟨?_, N4, rfl⟩
            rw [show f0 p1 p2 = (0 : Int32) from (by skip; simp only [f0, if_pos hc8_2, if_neg hc172_6, if_pos hc186_10, if_neg hc215_12])]
      · have pre13 : ∀ t, Steps p.tables e below (T4.setTop (mkF m 204 #[.val (.int p1), .val (.int p2), .val (.int (p1 &&& (8388607 : Int32))), .val (.double (4499096027743125504 : UInt64)), .second, .val (.double (f1 (p1 &&& (8388607 : Int32)) (4499096027743125504 : UInt64))), .second, .val (.double (f1 ((p1 &&& (8388607 : Int32)) + (1 : Int32)) (4499096027743125504 : UInt64))), .second, .val (.double (FP.dmul (FP.i2d (p1 &&& (8388607 : Int32))) (4499096027743125504 : UInt64))), .second, .val (.double (FP.dmul (FP.i2d ((p1 &&& (8388607 : Int32)) + (1 : Int32))) (4499096027743125504 : UInt64))), .second, .unset] [(.int (cmpValue (FP.dcmp (f1 ((p1 &&& (8388607 : Int32)) + (1 : Int32)) (4499096027743125504 : UInt64)) (FP.dadd (FP.dmul (FP.i2d ((p1 &&& (8388607 : Int32)) + (1 : Int32))) (4499096027743125504 : UInt64)) (FP.dmul (FP.dmul (4611686018427387904 : UInt64) (FP.dmul (FP.i2d ((p1 &&& (8388607 : Int32)) + (1 : Int32))) (4499096027743125504 : UInt64))) (FP.dmul (FP.i2d ((p1 &&& (8388607 : Int32)) + (1 : Int32))) (4499096027743125504 : UInt64))))) .g))])) t → Steps p.tables e below (s₁.setTop (entryFrame m #[(.int p1), (.int p2)] maxLocals)) t := by
          intro t k
          refine pre9 t ?_
          show Steps p.tables e below (T4.setTop (mkF m 186 #[.val (.int p1), .val (.int p2), .val (.int (p1 &&& (8388607 : Int32))), .val (.double (4499096027743125504 : UInt64)), .second, .val (.double (f1 (p1 &&& (8388607 : Int32)) (4499096027743125504 : UInt64))), .second, .val (.double (f1 ((p1 &&& (8388607 : Int32)) + (1 : Int32)) (4499096027743125504 : UInt64))), .second, .val (.double (FP.dmul (FP.i2d (p1 &&& (8388607 : Int32))) (4499096027743125504 : UInt64))), .second, .val (.double (FP.dmul (FP.i2d ((p1 &&& (8388607 : Int32)) + (1 : Int32))) (4499096027743125504 : UInt64))), .second, .unset] [(.int (cmpValue (FP.dcmp (FP.dadd (FP.dmul (FP.i2d ((p1 &&& (8388607 : Int32)) + (1 : Int32))) (4499096027743125504 : UInt64)) (FP.dmul (FP.dmul (FP.i2d ((p1 &&& (8388607 : Int32)) + (1 : Int32))) (4499096027743125504 : UInt64)) (FP.dmul (FP.i2d ((p1 &&& (8388607 : Int32)) + (1 : Int32))) (4499096027743125504 : UInt64)))) (f1 ((p1 &&& (8388607 : Int32)) + (1 : Int32)) (4499096027743125504 : UInt64))) .g))])) _
          refine XS.ifNo X4.here hx rfl (hb hby at_186) rfl ((if0 _ _).trans (flt hc186_10).2.2.1) ?_
          show Steps p.tables e below (T4.setTop (mkF m 189 #[.val (.int p1), .val (.int p2), .val (.int (p1 &&& (8388607 : Int32))), .val (.double (4499096027743125504 : UInt64)), .second, .val (.double (f1 (p1 &&& (8388607 : Int32)) (4499096027743125504 : UInt64))), .second, .val (.double (f1 ((p1 &&& (8388607 : Int32)) + (1 : Int32)) (4499096027743125504 : UInt64))), .second, .val (.double (FP.dmul (FP.i2d (p1 &&& (8388607 : Int32))) (4499096027743125504 : UInt64))), .second, .val (.double (FP.dmul (FP.i2d ((p1 &&& (8388607 : Int32)) + (1 : Int32))) (4499096027743125504 : UInt64))), .second, .unset] [])) _
          refine XS.dload X4.here hx rfl (hb hby at_189) rfl ?_
          show Steps p.tables e below (T4.setTop (mkF m 191 #[.val (.int p1), .val (.int p2), .val (.int (p1 &&& (8388607 : Int32))), .val (.double (4499096027743125504 : UInt64)), .second, .val (.double (f1 (p1 &&& (8388607 : Int32)) (4499096027743125504 : UInt64))), .second, .val (.double (f1 ((p1 &&& (8388607 : Int32)) + (1 : Int32)) (4499096027743125504 : UInt64))), .second, .val (.double (FP.dmul (FP.i2d (p1 &&& (8388607 : Int32))) (4499096027743125504 : UInt64))), .second, .val (.double (FP.dmul (FP.i2d ((p1 &&& (8388607 : Int32)) + (1 : Int32))) (4499096027743125504 : UInt64))), .second, .unset] [(.double (f1 ((p1 &&& (8388607 : Int32)) + (1 : Int32)) (4499096027743125504 : UInt64)))])) _
          refine XS.dload X4.here hx rfl (hb hby at_191) rfl ?_
          show Steps p.tables e below (T4.setTop (mkF m 193 #[.val (.int p1), .val (.int p2), .val (.int (p1 &&& (8388607 : Int32))), .val (.double (4499096027743125504 : UInt64)), .second, .val (.double (f1 (p1 &&& (8388607 : Int32)) (4499096027743125504 : UInt64))), .second, .val (.double (f1 ((p1 &&& (8388607 : Int32)) + (1 : Int32)) (4499096027743125504 : UInt64))), .second, .val (.double (FP.dmul (FP.i2d (p1 &&& (8388607 : Int32))) (4499096027743125504 : UInt64))), .second, .val (.double (FP.dmul (FP.i2d ((p1 &&& (8388607 : Int32)) + (1 : Int32))) (4499096027743125504 : UInt64))), .second, .unset] [(.double (FP.dmul (FP.i2d ((p1 &&& (8388607 : Int32)) + (1 : Int32))) (4499096027743125504 : UInt64))), (.double (f1 ((p1 &&& (8388607 : Int32)) + (1 : Int32)) (4499096027743125504 : UInt64)))])) _
          refine X4.ldc2DoubleC hx hown (mvT hZ (hw _ (List.mem_of_getElem? (i := 6) rfl))) (g := (mkF m 193 #[.val (.int p1), .val (.int p2), .val (.int (p1 &&& (8388607 : Int32))), .val (.double (4499096027743125504 : UInt64)), .second, .val (.double (f1 (p1 &&& (8388607 : Int32)) (4499096027743125504 : UInt64))), .second, .val (.double (f1 ((p1 &&& (8388607 : Int32)) + (1 : Int32)) (4499096027743125504 : UInt64))), .second, .val (.double (FP.dmul (FP.i2d (p1 &&& (8388607 : Int32))) (4499096027743125504 : UInt64))), .second, .val (.double (FP.dmul (FP.i2d ((p1 &&& (8388607 : Int32)) + (1 : Int32))) (4499096027743125504 : UInt64))), .second, .unset] [(.double (FP.dmul (FP.i2d ((p1 &&& (8388607 : Int32)) + (1 : Int32))) (4499096027743125504 : UInt64))), (.double (f1 ((p1 &&& (8388607 : Int32)) + (1 : Int32)) (4499096027743125504 : UInt64)))])) rfl (hb hby at_193) _ ?_
          show Steps p.tables e below (T4.setTop (mkF m 196 #[.val (.int p1), .val (.int p2), .val (.int (p1 &&& (8388607 : Int32))), .val (.double (4499096027743125504 : UInt64)), .second, .val (.double (f1 (p1 &&& (8388607 : Int32)) (4499096027743125504 : UInt64))), .second, .val (.double (f1 ((p1 &&& (8388607 : Int32)) + (1 : Int32)) (4499096027743125504 : UInt64))), .second, .val (.double (FP.dmul (FP.i2d (p1 &&& (8388607 : Int32))) (4499096027743125504 : UInt64))), .second, .val (.double (FP.dmul (FP.i2d ((p1 &&& (8388607 : Int32)) + (1 : Int32))) (4499096027743125504 : UInt64))), .second, .unset] [(.double (4611686018427387904 : UInt64)), (.double (FP.dmul (FP.i2d ((p1 &&& (8388607 : Int32)) + (1 : Int32))) (4499096027743125504 : UInt64))), (.double (f1 ((p1 &&& (8388607 : Int32)) + (1 : Int32)) (4499096027743125504 : UInt64)))])) _
          refine XS.dload X4.here hx rfl (hb hby at_196) rfl ?_
          show Steps p.tables e below (T4.setTop (mkF m 198 #[.val (.int p1), .val (.int p2), .val (.int (p1 &&& (8388607 : Int32))), .val (.double (4499096027743125504 : UInt64)), .second, .val (.double (f1 (p1 &&& (8388607 : Int32)) (4499096027743125504 : UInt64))), .second, .val (.double (f1 ((p1 &&& (8388607 : Int32)) + (1 : Int32)) (4499096027743125504 : UInt64))), .second, .val (.double (FP.dmul (FP.i2d (p1 &&& (8388607 : Int32))) (4499096027743125504 : UInt64))), .second, .val (.double (FP.dmul (FP.i2d ((p1 &&& (8388607 : Int32)) + (1 : Int32))) (4499096027743125504 : UInt64))), .second, .unset] [(.double (FP.dmul (FP.i2d ((p1 &&& (8388607 : Int32)) + (1 : Int32))) (4499096027743125504 : UInt64))), (.double (4611686018427387904 : UInt64)), (.double (FP.dmul (FP.i2d ((p1 &&& (8388607 : Int32)) + (1 : Int32))) (4499096027743125504 : UInt64))), (.double (f1 ((p1 &&& (8388607 : Int32)) + (1 : Int32)) (4499096027743125504 : UInt64)))])) _
          refine XS.dmulS X4.here hx rfl (hb hby at_198) rfl (own_n2x24 (own_ok1 p1)) rfl ?_
          show Steps p.tables e below (T4.setTop (mkF m 199 #[.val (.int p1), .val (.int p2), .val (.int (p1 &&& (8388607 : Int32))), .val (.double (4499096027743125504 : UInt64)), .second, .val (.double (f1 (p1 &&& (8388607 : Int32)) (4499096027743125504 : UInt64))), .second, .val (.double (f1 ((p1 &&& (8388607 : Int32)) + (1 : Int32)) (4499096027743125504 : UInt64))), .second, .val (.double (FP.dmul (FP.i2d (p1 &&& (8388607 : Int32))) (4499096027743125504 : UInt64))), .second, .val (.double (FP.dmul (FP.i2d ((p1 &&& (8388607 : Int32)) + (1 : Int32))) (4499096027743125504 : UInt64))), .second, .unset] [(.double (FP.dmul (4611686018427387904 : UInt64) (FP.dmul (FP.i2d ((p1 &&& (8388607 : Int32)) + (1 : Int32))) (4499096027743125504 : UInt64)))), (.double (FP.dmul (FP.i2d ((p1 &&& (8388607 : Int32)) + (1 : Int32))) (4499096027743125504 : UInt64))), (.double (f1 ((p1 &&& (8388607 : Int32)) + (1 : Int32)) (4499096027743125504 : UInt64)))])) _
          refine XS.dload X4.here hx rfl (hb hby at_199) rfl ?_
          show Steps p.tables e below (T4.setTop (mkF m 201 #[.val (.int p1), .val (.int p2), .val (.int (p1 &&& (8388607 : Int32))), .val (.double (4499096027743125504 : UInt64)), .second, .val (.double (f1 (p1 &&& (8388607 : Int32)) (4499096027743125504 : UInt64))), .second, .val (.double (f1 ((p1 &&& (8388607 : Int32)) + (1 : Int32)) (4499096027743125504 : UInt64))), .second, .val (.double (FP.dmul (FP.i2d (p1 &&& (8388607 : Int32))) (4499096027743125504 : UInt64))), .second, .val (.double (FP.dmul (FP.i2d ((p1 &&& (8388607 : Int32)) + (1 : Int32))) (4499096027743125504 : UInt64))), .second, .unset] [(.double (FP.dmul (FP.i2d ((p1 &&& (8388607 : Int32)) + (1 : Int32))) (4499096027743125504 : UInt64))), (.double (FP.dmul (4611686018427387904 : UInt64) (FP.dmul (FP.i2d ((p1 &&& (8388607 : Int32)) + (1 : Int32))) (4499096027743125504 : UInt64)))), (.double (FP.dmul (FP.i2d ((p1 &&& (8388607 : Int32)) + (1 : Int32))) (4499096027743125504 : UInt64))), (.double (f1 ((p1 &&& (8388607 : Int32)) + (1 : Int32)) (4499096027743125504 : UInt64)))])) _
          refine XS.dmulS X4.here hx rfl (hb hby at_201) rfl (own_tq (own_ok1 p1)) rfl ?_
          show Steps p.tables e below (T4.setTop (mkF m 202 #[.val (.int p1), .val (.int p2), .val (.int (p1 &&& (8388607 : Int32))), .val (.double (4499096027743125504 : UInt64)), .second, .val (.double (f1 (p1 &&& (8388607 : Int32)) (4499096027743125504 : UInt64))), .second, .val (.double (f1 ((p1 &&& (8388607 : Int32)) + (1 : Int32)) (4499096027743125504 : UInt64))), .second, .val (.double (FP.dmul (FP.i2d (p1 &&& (8388607 : Int32))) (4499096027743125504 : UInt64))), .second, .val (.double (FP.dmul (FP.i2d ((p1 &&& (8388607 : Int32)) + (1 : Int32))) (4499096027743125504 : UInt64))), .second, .unset] [(.double (FP.dmul (FP.dmul (4611686018427387904 : UInt64) (FP.dmul (FP.i2d ((p1 &&& (8388607 : Int32)) + (1 : Int32))) (4499096027743125504 : UInt64))) (FP.dmul (FP.i2d ((p1 &&& (8388607 : Int32)) + (1 : Int32))) (4499096027743125504 : UInt64)))), (.double (FP.dmul (FP.i2d ((p1 &&& (8388607 : Int32)) + (1 : Int32))) (4499096027743125504 : UInt64))), (.double (f1 ((p1 &&& (8388607 : Int32)) + (1 : Int32)) (4499096027743125504 : UInt64)))])) _
          refine XS.daddS X4.here hx rfl (hb hby at_202) rfl (own_at (own_ok1 p1)) rfl ?_
          show Steps p.tables e below (T4.setTop (mkF m 203 #[.val (.int p1), .val (.int p2), .val (.int (p1 &&& (8388607 : Int32))), .val (.double (4499096027743125504 : UInt64)), .second, .val (.double (f1 (p1 &&& (8388607 : Int32)) (4499096027743125504 : UInt64))), .second, .val (.double (f1 ((p1 &&& (8388607 : Int32)) + (1 : Int32)) (4499096027743125504 : UInt64))), .second, .val (.double (FP.dmul (FP.i2d (p1 &&& (8388607 : Int32))) (4499096027743125504 : UInt64))), .second, .val (.double (FP.dmul (FP.i2d ((p1 &&& (8388607 : Int32)) + (1 : Int32))) (4499096027743125504 : UInt64))), .second, .unset] [(.double (FP.dadd (FP.dmul (FP.i2d ((p1 &&& (8388607 : Int32)) + (1 : Int32))) (4499096027743125504 : UInt64)) (FP.dmul (FP.dmul (4611686018427387904 : UInt64) (FP.dmul (FP.i2d ((p1 &&& (8388607 : Int32)) + (1 : Int32))) (4499096027743125504 : UInt64))) (FP.dmul (FP.i2d ((p1 &&& (8388607 : Int32)) + (1 : Int32))) (4499096027743125504 : UInt64))))), (.double (f1 ((p1 &&& (8388607 : Int32)) + (1 : Int32)) (4499096027743125504 : UInt64)))])) _
          refine XS.dcmpS X4.here hx rfl (hb hby at_203) rfl rfl ?_
          exact k
        by_cases hc204_14 : (0 : Int32) < (cmpValue (FP.dcmp (f1 ((p1 &&& (8388607 : Int32)) + (1 : Int32)) (4499096027743125504 : UInt64)) (FP.dadd (FP.dmul (FP.i2d ((p1 &&& (8388607 : Int32)) + (1 : Int32))) (4499096027743125504 : UInt64)) (FP.dmul (FP.dmul (4611686018427387904 : UInt64) (FP.dmul (FP.i2d ((p1 &&& (8388607 : Int32)) + (1 : Int32))) (4499096027743125504 : UInt64))) (FP.dmul (FP.i2d ((p1 &&& (8388607 : Int32)) + (1 : Int32))) (4499096027743125504 : UInt64))))) .g)
        · have pre15 : ∀ t, Steps p.tables e below (T4.setTop (mkF m 215 #[.val (.int p1), .val (.int p2), .val (.int (p1 &&& (8388607 : Int32))), .val (.double (4499096027743125504 : UInt64)), .second, .val (.double (f1 (p1 &&& (8388607 : Int32)) (4499096027743125504 : UInt64))), .second, .val (.double (f1 ((p1 &&& (8388607 : Int32)) + (1 : Int32)) (4499096027743125504 : UInt64))), .second, .val (.double (FP.dmul (FP.i2d (p1 &&& (8388607 : Int32))) (4499096027743125504 : UInt64))), .second, .val (.double (FP.dmul (FP.i2d ((p1 &&& (8388607 : Int32)) + (1 : Int32))) (4499096027743125504 : UInt64))), .second, .val (.int (0 : Int32))] [(.int (p1 &&& (8388607 : Int32)))])) t → Steps p.tables e below (s₁.setTop (entryFrame m #[(.int p1), (.int p2)] maxLocals)) t := by
            intro t k
            refine pre13 t ?_
            show Steps p.tables e below (T4.setTop (mkF m 204 #[.val (.int p1), .val (.int p2), .val (.int (p1 &&& (8388607 : Int32))), .val (.double (4499096027743125504 : UInt64)), .second, .val (.double (f1 (p1 &&& (8388607 : Int32)) (4499096027743125504 : UInt64))), .second, .val (.double (f1 ((p1 &&& (8388607 : Int32)) + (1 : Int32)) (4499096027743125504 : UInt64))), .second, .val (.double (FP.dmul (FP.i2d (p1 &&& (8388607 : Int32))) (4499096027743125504 : UInt64))), .second, .val (.double (FP.dmul (FP.i2d ((p1 &&& (8388607 : Int32)) + (1 : Int32))) (4499096027743125504 : UInt64))), .second, .unset] [(.int (cmpValue (FP.dcmp (f1 ((p1 &&& (8388607 : Int32)) + (1 : Int32)) (4499096027743125504 : UInt64)) (FP.dadd (FP.dmul (FP.i2d ((p1 &&& (8388607 : Int32)) + (1 : Int32))) (4499096027743125504 : UInt64)) (FP.dmul (FP.dmul (4611686018427387904 : UInt64) (FP.dmul (FP.i2d ((p1 &&& (8388607 : Int32)) + (1 : Int32))) (4499096027743125504 : UInt64))) (FP.dmul (FP.i2d ((p1 &&& (8388607 : Int32)) + (1 : Int32))) (4499096027743125504 : UInt64))))) .g))])) _
            refine XS.ifYes X4.here hx rfl (pc0 := 204) (pc' := 211) rfl (hb hby at_204) rfl ((if0 _ _).trans (tlt hc204_14).2.2.1) (by decide) (by decide) ?_
            show Steps p.tables e below (T4.setTop (mkF m 211 #[.val (.int p1), .val (.int p2), .val (.int (p1 &&& (8388607 : Int32))), .val (.double (4499096027743125504 : UInt64)), .second, .val (.double (f1 (p1 &&& (8388607 : Int32)) (4499096027743125504 : UInt64))), .second, .val (.double (f1 ((p1 &&& (8388607 : Int32)) + (1 : Int32)) (4499096027743125504 : UInt64))), .second, .val (.double (FP.dmul (FP.i2d (p1 &&& (8388607 : Int32))) (4499096027743125504 : UInt64))), .second, .val (.double (FP.dmul (FP.i2d ((p1 &&& (8388607 : Int32)) + (1 : Int32))) (4499096027743125504 : UInt64))), .second, .unset] [])) _
            refine XS.iconst X4.here hx rfl (hb hby at_211) ?_
            show Steps p.tables e below (T4.setTop (mkF m 212 #[.val (.int p1), .val (.int p2), .val (.int (p1 &&& (8388607 : Int32))), .val (.double (4499096027743125504 : UInt64)), .second, .val (.double (f1 (p1 &&& (8388607 : Int32)) (4499096027743125504 : UInt64))), .second, .val (.double (f1 ((p1 &&& (8388607 : Int32)) + (1 : Int32)) (4499096027743125504 : UInt64))), .second, .val (.double (FP.dmul (FP.i2d (p1 &&& (8388607 : Int32))) (4499096027743125504 : UInt64))), .second, .val (.double (FP.dmul (FP.i2d ((p1 &&& (8388607 : Int32)) + (1 : Int32))) (4499096027743125504 : UInt64))), .second, .unset] [(.int (0 : Int32))])) _
            refine XS.istore X4.here hx rfl (hb hby at_212) rfl (l' := #[.val (.int p1), .val (.int p2), .val (.int (p1 &&& (8388607 : Int32))), .val (.double (4499096027743125504 : UInt64)), .second, .val (.double (f1 (p1 &&& (8388607 : Int32)) (4499096027743125504 : UInt64))), .second, .val (.double (f1 ((p1 &&& (8388607 : Int32)) + (1 : Int32)) (4499096027743125504 : UInt64))), .second, .val (.double (FP.dmul (FP.i2d (p1 &&& (8388607 : Int32))) (4499096027743125504 : UInt64))), .second, .val (.double (FP.dmul (FP.i2d ((p1 &&& (8388607 : Int32)) + (1 : Int32))) (4499096027743125504 : UInt64))), .second, .val (.int (0 : Int32))]) rfl ?_
            show Steps p.tables e below (T4.setTop (mkF m 214 #[.val (.int p1), .val (.int p2), .val (.int (p1 &&& (8388607 : Int32))), .val (.double (4499096027743125504 : UInt64)), .second, .val (.double (f1 (p1 &&& (8388607 : Int32)) (4499096027743125504 : UInt64))), .second, .val (.double (f1 ((p1 &&& (8388607 : Int32)) + (1 : Int32)) (4499096027743125504 : UInt64))), .second, .val (.double (FP.dmul (FP.i2d (p1 &&& (8388607 : Int32))) (4499096027743125504 : UInt64))), .second, .val (.double (FP.dmul (FP.i2d ((p1 &&& (8388607 : Int32)) + (1 : Int32))) (4499096027743125504 : UInt64))), .second, .val (.int (0 : Int32))] [])) _
            refine XS.iloadN X4.here hx rfl (hb hby at_214) rfl ?_
            exact k
          by_cases hc215_16 : (p1 &&& (8388607 : Int32)) = (0 : Int32)
          · refine hneg ?_
            obtain ⟨fs, hr, hrun, hended, hW, hsame⟩ := X4.leave (v := some (.int (0 : Int32))) (fun h => by rw [Bd.returns] at h; cases h)
            refine ⟨_, _, pre15 _ ?_, hrun, hended, _, _, rfl, ?_, ⟨_, rfl⟩, hW, hsame.mono (by decide) (by decide)⟩
            · show Steps p.tables e below (T4.setTop (mkF m 215 #[.val (.int p1), .val (.int p2), .val (.int (p1 &&& (8388607 : Int32))), .val (.double (4499096027743125504 : UInt64)), .second, .val (.double (f1 (p1 &&& (8388607 : Int32)) (4499096027743125504 : UInt64))), .second, .val (.double (f1 ((p1 &&& (8388607 : Int32)) + (1 : Int32)) (4499096027743125504 : UInt64))), .second, .val (.double (FP.dmul (FP.i2d (p1 &&& (8388607 : Int32))) (4499096027743125504 : UInt64))), .second, .val (.double (FP.dmul (FP.i2d ((p1 &&& (8388607 : Int32)) + (1 : Int32))) (4499096027743125504 : UInt64))), .second, .val (.int (0 : Int32))] [(.int (p1 &&& (8388607 : Int32)))])) _
              refine XS.ifNo X4.here hx rfl (hb hby at_215) rfl ((if0 _ _).trans (teq hc215_16).2) ?_
              show Steps p.tables e below (T4.setTop (mkF m 218 #[.val (.int p1), .val (.int p2), .val (.int (p1 &&& (8388607 : Int32))), .val (.double (4499096027743125504 : UInt64)), .second, .val (.double (f1 (p1 &&& (8388607 : Int32)) (4499096027743125504 : UInt64))), .second, .val (.double (f1 ((p1 &&& (8388607 : Int32)) + (1 : Int32)) (4499096027743125504 : UInt64))), .second, .val (.double (FP.dmul (FP.i2d (p1 &&& (8388607 : Int32))) (4499096027743125504 : UInt64))), .second, .val (.double (FP.dmul (FP.i2d ((p1 &&& (8388607 : Int32)) + (1 : Int32))) (4499096027743125504 : UInt64))), .second, .val (.int (0 : Int32))] [])) _
              refine XS.iload X4.here hx rfl (hb hby at_218) rfl ?_
              show Steps p.tables e below (T4.setTop (mkF m 220 #[.val (.int p1), .val (.int p2), .val (.int (p1 &&& (8388607 : Int32))), .val (.double (4499096027743125504 : UInt64)), .second, .val (.double (f1 (p1 &&& (8388607 : Int32)) (4499096027743125504 : UInt64))), .second, .val (.double (f1 ((p1 &&& (8388607 : Int32)) + (1 : Int32)) (4499096027743125504 : UInt64))), .second, .val (.double (FP.dmul (FP.i2d (p1 &&& (8388607 : Int32))) (4499096027743125504 : UInt64))), .second, .val (.double (FP.dmul (FP.i2d ((p1 &&& (8388607 : Int32)) + (1 : Int32))) (4499096027743125504 : UInt64))), .second, .val (.int (0 : Int32))] [(.int (0 : Int32))])) _
              refine XS.ifYes X4.here hx rfl (pc0 := 220) (pc' := 234) rfl (hb hby at_220) rfl ((if0 _ _).trans (teq (by decide : (0 : Int32) = (0 : Int32))).1) (by decide) (by decide) ?_
              show Steps p.tables e below (T4.setTop (mkF m 234 #[.val (.int p1), .val (.int p2), .val (.int (p1 &&& (8388607 : Int32))), .val (.double (4499096027743125504 : UInt64)), .second, .val (.double (f1 (p1 &&& (8388607 : Int32)) (4499096027743125504 : UInt64))), .second, .val (.double (f1 ((p1 &&& (8388607 : Int32)) + (1 : Int32)) (4499096027743125504 : UInt64))), .second, .val (.double (FP.dmul (FP.i2d (p1 &&& (8388607 : Int32))) (4499096027743125504 : UInt64))), .second, .val (.double (FP.dmul (FP.i2d ((p1 &&& (8388607 : Int32)) + (1 : Int32))) (4499096027743125504 : UInt64))), .second, .val (.int (0 : Int32))] [])) _
              refine XS.iconst X4.here hx rfl (hb hby at_234) ?_
              show Steps p.tables e below (T4.setTop (mkF m 235 #[.val (.int p1), .val (.int p2), .val (.int (p1 &&& (8388607 : Int32))), .val (.double (4499096027743125504 : UInt64)), .second, .val (.double (f1 (p1 &&& (8388607 : Int32)) (4499096027743125504 : UInt64))), .second, .val (.double (f1 ((p1 &&& (8388607 : Int32)) + (1 : Int32)) (4499096027743125504 : UInt64))), .second, .val (.double (FP.dmul (FP.i2d (p1 &&& (8388607 : Int32))) (4499096027743125504 : UInt64))), .second, .val (.double (FP.dmul (FP.i2d ((p1 &&& (8388607 : Int32)) + (1 : Int32))) (4499096027743125504 : UInt64))), .second, .val (.int (0 : Int32))] [(.int (0 : Int32))])) _
              exact retN X4 hx (t := .boolean) Bd.returns (by simp) (hb hby at_235) hr
            · show Q0 Z p1 p2 h0 n0 _ T4.heap _
              rw [e4]
              refine ⟨?_, N4, rfl⟩
              rw [show f0 p1 p2 = (0 : Int32) from (by skip; simp only [f0, if_pos hc8_2, if_neg hc172_6, if_neg hc186_10, if_pos hc204_14, if_pos hc215_16])]
          · refine hneg ?_
            obtain ⟨fs, hr, hrun, hended, hW, hsame⟩ := X4.leave (v := some (.int (0 : Int32))) (fun h => by rw [Bd.returns] at h; cases h)
            refine ⟨_, _, pre15 _ ?_, hrun, hended, _, _, rfl, ?_, ⟨_, rfl⟩, hW, hsame.mono (by decide) (by decide)⟩
            · show Steps p.tables e below (T4.setTop (mkF m 215 #[.val (.int p1), .val (.int p2), .val (.int (p1 &&& (8388607 : Int32))), .val (.double (4499096027743125504 : UInt64)), .second, .val (.double (f1 (p1 &&& (8388607 : Int32)) (4499096027743125504 : UInt64))), .second, .val (.double (f1 ((p1 &&& (8388607 : Int32)) + (1 : Int32)) (4499096027743125504 : UInt64))), .second, .val (.double (FP.dmul (FP.i2d (p1 &&& (8388607 : Int32))) (4499096027743125504 : UInt64))), .second, .val (.double (FP.dmul (FP.i2d ((p1 &&& (8388607 : Int32)) + (1 : Int32))) (4499096027743125504 : UInt64))), .second, .val (.int (0 : Int32))] [(.int (p1 &&& (8388607 : Int32)))])) _
              refine XS.ifYes X4.here hx rfl (pc0 := 215) (pc' := 236) rfl (hb hby at_215) rfl ((if0 _ _).trans (feq hc215_16).2) (by decide) (by decide) ?_
              show Steps p.tables e below (T4.setTop (mkF m 236 #[.val (.int p1), .val (.int p2), .val (.int (p1 &&& (8388607 : Int32))), .val (.double (4499096027743125504 : UInt64)), .second, .val (.double (f1 (p1 &&& (8388607 : Int32)) (4499096027743125504 : UInt64))), .second, .val (.double (f1 ((p1 &&& (8388607 : Int32)) + (1 : Int32)) (4499096027743125504 : UInt64))), .second, .val (.double (FP.dmul (FP.i2d (p1 &&& (8388607 : Int32))) (4499096027743125504 : UInt64))), .second, .val (.double (FP.dmul (FP.i2d ((p1 &&& (8388607 : Int32)) + (1 : Int32))) (4499096027743125504 : UInt64))), .second, .val (.int (0 : Int32))] [])) _
              refine XS.iload X4.here hx rfl (hb hby at_236) rfl ?_
              show Steps p.tables e below (T4.setTop (mkF m 238 #[.val (.int p1), .val (.int p2), .val (.int (p1 &&& (8388607 : Int32))), .val (.double (4499096027743125504 : UInt64)), .second, .val (.double (f1 (p1 &&& (8388607 : Int32)) (4499096027743125504 : UInt64))), .second, .val (.double (f1 ((p1 &&& (8388607 : Int32)) + (1 : Int32)) (4499096027743125504 : UInt64))), .second, .val (.double (FP.dmul (FP.i2d (p1 &&& (8388607 : Int32))) (4499096027743125504 : UInt64))), .second, .val (.double (FP.dmul (FP.i2d ((p1 &&& (8388607 : Int32)) + (1 : Int32))) (4499096027743125504 : UInt64))), .second, .val (.int (0 : Int32))] [(.int (0 : Int32))])) _
              refine XS.ifYes X4.here hx rfl (pc0 := 238) (pc' := 277) rfl (hb hby at_238) rfl ((if0 _ _).trans (teq (by decide : (0 : Int32) = (0 : Int32))).1) (by decide) (by decide) ?_
              show Steps p.tables e below (T4.setTop (mkF m 277 #[.val (.int p1), .val (.int p2), .val (.int (p1 &&& (8388607 : Int32))), .val (.double (4499096027743125504 : UInt64)), .second, .val (.double (f1 (p1 &&& (8388607 : Int32)) (4499096027743125504 : UInt64))), .second, .val (.double (f1 ((p1 &&& (8388607 : Int32)) + (1 : Int32)) (4499096027743125504 : UInt64))), .second, .val (.double (FP.dmul (FP.i2d (p1 &&& (8388607 : Int32))) (4499096027743125504 : UInt64))), .second, .val (.double (FP.dmul (FP.i2d ((p1 &&& (8388607 : Int32)) + (1 : Int32))) (4499096027743125504 : UInt64))), .second, .val (.int (0 : Int32))] [])) _
              refine XS.iconst X4.here hx rfl (hb hby at_277) ?_
              show Steps p.tables e below (T4.setTop (mkF m 278 #[.val (.int p1), .val (.int p2), .val (.int (p1 &&& (8388607 : Int32))), .val (.double (4499096027743125504 : UInt64)), .second, .val (.double (f1 (p1 &&& (8388607 : Int32)) (4499096027743125504 : UInt64))), .second, .val (.double (f1 ((p1 &&& (8388607 : Int32)) + (1 : Int32)) (4499096027743125504 : UInt64))), .second, .val (.double (FP.dmul (FP.i2d (p1 &&& (8388607 : Int32))) (4499096027743125504 : UInt64))), .second, .val (.double (FP.dmul (FP.i2d ((p1 &&& (8388607 : Int32)) + (1 : Int32))) (4499096027743125504 : UInt64))), .second, .val (.int (0 : Int32))] [(.int (0 : Int32))])) _
              exact retN X4 hx (t := .boolean) Bd.returns (by simp) (hb hby at_278) hr
            · show Q0 Z p1 p2 h0 n0 _ T4.heap _
              rw [e4]
              refine ⟨?_, N4, rfl⟩
              rw [show f0 p1 p2 = (0 : Int32) from (by skip; simp only [f0, if_pos hc8_2, if_neg hc172_6, if_neg hc186_10, if_pos hc204_14, if_neg hc215_16])]
        · have pre17 : ∀ t, Steps p.tables e below (T4.setTop (mkF m 215 #[.val (.int p1), .val (.int p2), .val (.int (p1 &&& (8388607 : Int32))), .val (.double (4499096027743125504 : UInt64)), .second, .val (.double (f1 (p1 &&& (8388607 : Int32)) (4499096027743125504 : UInt64))), .second, .val (.double (f1 ((p1 &&& (8388607 : Int32)) + (1 : Int32)) (4499096027743125504 : UInt64))), .second, .val (.double (FP.dmul (FP.i2d (p1 &&& (8388607 : Int32))) (4499096027743125504 : UInt64))), .second, .val (.double (FP.dmul (FP.i2d ((p1 &&& (8388607 : Int32)) + (1 : Int32))) (4499096027743125504 : UInt64))), .second, .val (.int (1 : Int32))] [(.int (p1 &&& (8388607 : Int32)))])) t → Steps p.tables e below (s₁.setTop (entryFrame m #[(.int p1), (.int p2)] maxLocals)) t := by
            intro t k
            refine pre13 t ?_
            show Steps p.tables e below (T4.setTop (mkF m 204 #[.val (.int p1), .val (.int p2), .val (.int (p1 &&& (8388607 : Int32))), .val (.double (4499096027743125504 : UInt64)), .second, .val (.double (f1 (p1 &&& (8388607 : Int32)) (4499096027743125504 : UInt64))), .second, .val (.double (f1 ((p1 &&& (8388607 : Int32)) + (1 : Int32)) (4499096027743125504 : UInt64))), .second, .val (.double (FP.dmul (FP.i2d (p1 &&& (8388607 : Int32))) (4499096027743125504 : UInt64))), .second, .val (.double (FP.dmul (FP.i2d ((p1 &&& (8388607 : Int32)) + (1 : Int32))) (4499096027743125504 : UInt64))), .second, .unset] [(.int (cmpValue (FP.dcmp (f1 ((p1 &&& (8388607 : Int32)) + (1 : Int32)) (4499096027743125504 : UInt64)) (FP.dadd (FP.dmul (FP.i2d ((p1 &&& (8388607 : Int32)) + (1 : Int32))) (4499096027743125504 : UInt64)) (FP.dmul (FP.dmul (4611686018427387904 : UInt64) (FP.dmul (FP.i2d ((p1 &&& (8388607 : Int32)) + (1 : Int32))) (4499096027743125504 : UInt64))) (FP.dmul (FP.i2d ((p1 &&& (8388607 : Int32)) + (1 : Int32))) (4499096027743125504 : UInt64))))) .g))])) _
            refine XS.ifNo X4.here hx rfl (hb hby at_204) rfl ((if0 _ _).trans (flt hc204_14).2.2.1) ?_
            show Steps p.tables e below (T4.setTop (mkF m 207 #[.val (.int p1), .val (.int p2), .val (.int (p1 &&& (8388607 : Int32))), .val (.double (4499096027743125504 : UInt64)), .second, .val (.double (f1 (p1 &&& (8388607 : Int32)) (4499096027743125504 : UInt64))), .second, .val (.double (f1 ((p1 &&& (8388607 : Int32)) + (1 : Int32)) (4499096027743125504 : UInt64))), .second, .val (.double (FP.dmul (FP.i2d (p1 &&& (8388607 : Int32))) (4499096027743125504 : UInt64))), .second, .val (.double (FP.dmul (FP.i2d ((p1 &&& (8388607 : Int32)) + (1 : Int32))) (4499096027743125504 : UInt64))), .second, .unset] [])) _
            refine XS.iconst X4.here hx rfl (hb hby at_207) ?_
            show Steps p.tables e below (T4.setTop (mkF m 208 #[.val (.int p1), .val (.int p2), .val (.int (p1 &&& (8388607 : Int32))), .val (.double (4499096027743125504 : UInt64)), .second, .val (.double (f1 (p1 &&& (8388607 : Int32)) (4499096027743125504 : UInt64))), .second, .val (.double (f1 ((p1 &&& (8388607 : Int32)) + (1 : Int32)) (4499096027743125504 : UInt64))), .second, .val (.double (FP.dmul (FP.i2d (p1 &&& (8388607 : Int32))) (4499096027743125504 : UInt64))), .second, .val (.double (FP.dmul (FP.i2d ((p1 &&& (8388607 : Int32)) + (1 : Int32))) (4499096027743125504 : UInt64))), .second, .unset] [(.int (1 : Int32))])) _
            refine XS.goto X4.here hx rfl (pc0 := 208) (pc' := 212) rfl (hb hby at_208) (by decide) (by decide) ?_
            show Steps p.tables e below (T4.setTop (mkF m 212 #[.val (.int p1), .val (.int p2), .val (.int (p1 &&& (8388607 : Int32))), .val (.double (4499096027743125504 : UInt64)), .second, .val (.double (f1 (p1 &&& (8388607 : Int32)) (4499096027743125504 : UInt64))), .second, .val (.double (f1 ((p1 &&& (8388607 : Int32)) + (1 : Int32)) (4499096027743125504 : UInt64))), .second, .val (.double (FP.dmul (FP.i2d (p1 &&& (8388607 : Int32))) (4499096027743125504 : UInt64))), .second, .val (.double (FP.dmul (FP.i2d ((p1 &&& (8388607 : Int32)) + (1 : Int32))) (4499096027743125504 : UInt64))), .second, .unset] [(.int (1 : Int32))])) _
            refine XS.istore X4.here hx rfl (hb hby at_212) rfl (l' := #[.val (.int p1), .val (.int p2), .val (.int (p1 &&& (8388607 : Int32))), .val (.double (4499096027743125504 : UInt64)), .second, .val (.double (f1 (p1 &&& (8388607 : Int32)) (4499096027743125504 : UInt64))), .second, .val (.double (f1 ((p1 &&& (8388607 : Int32)) + (1 : Int32)) (4499096027743125504 : UInt64))), .second, .val (.double (FP.dmul (FP.i2d (p1 &&& (8388607 : Int32))) (4499096027743125504 : UInt64))), .second, .val (.double (FP.dmul (FP.i2d ((p1 &&& (8388607 : Int32)) + (1 : Int32))) (4499096027743125504 : UInt64))), .second, .val (.int (1 : Int32))]) rfl ?_
            show Steps p.tables e below (T4.setTop (mkF m 214 #[.val (.int p1), .val (.int p2), .val (.int (p1 &&& (8388607 : Int32))), .val (.double (4499096027743125504 : UInt64)), .second, .val (.double (f1 (p1 &&& (8388607 : Int32)) (4499096027743125504 : UInt64))), .second, .val (.double (f1 ((p1 &&& (8388607 : Int32)) + (1 : Int32)) (4499096027743125504 : UInt64))), .second, .val (.double (FP.dmul (FP.i2d (p1 &&& (8388607 : Int32))) (4499096027743125504 : UInt64))), .second, .val (.double (FP.dmul (FP.i2d ((p1 &&& (8388607 : Int32)) + (1 : Int32))) (4499096027743125504 : UInt64))), .second, .val (.int (1 : Int32))] [])) _
            refine XS.iloadN X4.here hx rfl (hb hby at_214) rfl ?_
            exact k
          by_cases hc215_18 : (p1 &&& (8388607 : Int32)) = (0 : Int32)
          · have pre19 : ∀ t, Steps p.tables e below (T4.setTop (mkF m 227 #[.val (.int p1), .val (.int p2), .val (.int (p1 &&& (8388607 : Int32))), .val (.double (4499096027743125504 : UInt64)), .second, .val (.double (f1 (p1 &&& (8388607 : Int32)) (4499096027743125504 : UInt64))), .second, .val (.double (f1 ((p1 &&& (8388607 : Int32)) + (1 : Int32)) (4499096027743125504 : UInt64))), .second, .val (.double (FP.dmul (FP.i2d (p1 &&& (8388607 : Int32))) (4499096027743125504 : UInt64))), .second, .val (.double (FP.dmul (FP.i2d ((p1 &&& (8388607 : Int32)) + (1 : Int32))) (4499096027743125504 : UInt64))), .second, .val (.int (1 : Int32))] [(.int (cmpValue (FP.dcmp (f1 (p1 &&& (8388607 : Int32)) (4499096027743125504 : UInt64)) (FP.dconst0)) .l))])) t → Steps p.tables e below (s₁.setTop (entryFrame m #[(.int p1), (.int p2)] maxLocals)) t := by
              intro t k
              refine pre17 t ?_
              show Steps p.tables e below (T4.setTop (mkF m 215 #[.val (.int p1), .val (.int p2), .val (.int (p1 &&& (8388607 : Int32))), .val (.double (4499096027743125504 : UInt64)), .second, .val (.double (f1 (p1 &&& (8388607 : Int32)) (4499096027743125504 : UInt64))), .second, .val (.double (f1 ((p1 &&& (8388607 : Int32)) + (1 : Int32)) (4499096027743125504 : UInt64))), .second, .val (.double (FP.dmul (FP.i2d (p1 &&& (8388607 : Int32))) (4499096027743125504 : UInt64))), .second, .val (.double (FP.dmul (FP.i2d ((p1 &&& (8388607 : Int32)) + (1 : Int32))) (4499096027743125504 : UInt64))), .second, .val (.int (1 : Int32))] [(.int (p1 &&& (8388607 : Int32)))])) _
              refine XS.ifNo X4.here hx rfl (hb hby at_215) rfl ((if0 _ _).trans (teq hc215_18).2) ?_
              show Steps p.tables e below (T4.setTop (mkF m 218 #[.val (.int p1), .val (.int p2), .val (.int (p1 &&& (8388607 : Int32))), .val (.double (4499096027743125504 : UInt64)), .second, .val (.double (f1 (p1 &&& (8388607 : Int32)) (4499096027743125504 : UInt64))), .second, .val (.double (f1 ((p1 &&& (8388607 : Int32)) + (1 : Int32)) (4499096027743125504 : UInt64))), .second, .val (.double (FP.dmul (FP.i2d (p1 &&& (8388607 : Int32))) (4499096027743125504 : UInt64))), .second, .val (.double (FP.dmul (FP.i2d ((p1 &&& (8388607 : Int32)) + (1 : Int32))) (4499096027743125504 : UInt64))), .second, .val (.int (1 : Int32))] [])) _
              refine XS.iload X4.here hx rfl (hb hby at_218) rfl ?_
              show Steps p.tables e below (T4.setTop (mkF m 220 #[.val (.int p1), .val (.int p2), .val (.int (p1 &&& (8388607 : Int32))), .val (.double (4499096027743125504 : UInt64)), .second, .val (.double (f1 (p1 &&& (8388607 : Int32)) (4499096027743125504 : UInt64))), .second, .val (.double (f1 ((p1 &&& (8388607 : Int32)) + (1 : Int32)) (4499096027743125504 : UInt64))), .second, .val (.double (FP.dmul (FP.i2d (p1 &&& (8388607 : Int32))) (4499096027743125504 : UInt64))), .second, .val (.double (FP.dmul (FP.i2d ((p1 &&& (8388607 : Int32)) + (1 : Int32))) (4499096027743125504 : UInt64))), .second, .val (.int (1 : Int32))] [(.int (1 : Int32))])) _
              refine XS.ifNo X4.here hx rfl (hb hby at_220) rfl ((if0 _ _).trans (feq (by decide : ¬ ((1 : Int32) = (0 : Int32)))).1) ?_
              show Steps p.tables e below (T4.setTop (mkF m 223 #[.val (.int p1), .val (.int p2), .val (.int (p1 &&& (8388607 : Int32))), .val (.double (4499096027743125504 : UInt64)), .second, .val (.double (f1 (p1 &&& (8388607 : Int32)) (4499096027743125504 : UInt64))), .second, .val (.double (f1 ((p1 &&& (8388607 : Int32)) + (1 : Int32)) (4499096027743125504 : UInt64))), .second, .val (.double (FP.dmul (FP.i2d (p1 &&& (8388607 : Int32))) (4499096027743125504 : UInt64))), .second, .val (.double (FP.dmul (FP.i2d ((p1 &&& (8388607 : Int32)) + (1 : Int32))) (4499096027743125504 : UInt64))), .second, .val (.int (1 : Int32))] [])) _
              refine XS.dload X4.here hx rfl (hb hby at_223) rfl ?_
              show Steps p.tables e below (T4.setTop (mkF m 225 #[.val (.int p1), .val (.int p2), .val (.int (p1 &&& (8388607 : Int32))), .val (.double (4499096027743125504 : UInt64)), .second, .val (.double (f1 (p1 &&& (8388607 : Int32)) (4499096027743125504 : UInt64))), .second, .val (.double (f1 ((p1 &&& (8388607 : Int32)) + (1 : Int32)) (4499096027743125504 : UInt64))), .second, .val (.double (FP.dmul (FP.i2d (p1 &&& (8388607 : Int32))) (4499096027743125504 : UInt64))), .second, .val (.double (FP.dmul (FP.i2d ((p1 &&& (8388607 : Int32)) + (1 : Int32))) (4499096027743125504 : UInt64))), .second, .val (.int (1 : Int32))] [(.double (f1 (p1 &&& (8388607 : Int32)) (4499096027743125504 : UInt64)))])) _
              refine XS.dconst0 X4.here hx rfl (hb hby at_225) rfl ?_
              show Steps p.tables e below (T4.setTop (mkF m 226 #[.val (.int p1), .val (.int p2), .val (.int (p1 &&& (8388607 : Int32))), .val (.double (4499096027743125504 : UInt64)), .second, .val (.double (f1 (p1 &&& (8388607 : Int32)) (4499096027743125504 : UInt64))), .second, .val (.double (f1 ((p1 &&& (8388607 : Int32)) + (1 : Int32)) (4499096027743125504 : UInt64))), .second, .val (.double (FP.dmul (FP.i2d (p1 &&& (8388607 : Int32))) (4499096027743125504 : UInt64))), .second, .val (.double (FP.dmul (FP.i2d ((p1 &&& (8388607 : Int32)) + (1 : Int32))) (4499096027743125504 : UInt64))), .second, .val (.int (1 : Int32))] [(.double (FP.dconst0)), (.double (f1 (p1 &&& (8388607 : Int32)) (4499096027743125504 : UInt64)))])) _
              refine XS.dcmpS X4.here hx rfl (hb hby at_226) rfl rfl ?_
              exact k
            by_cases hc227_20 : (cmpValue (FP.dcmp (f1 (p1 &&& (8388607 : Int32)) (4499096027743125504 : UInt64)) (FP.dconst0)) .l) = (0 : Int32)
            · refine hneg ?_
              obtain ⟨fs, hr, hrun, hended, hW, hsame⟩ := X4.leave (v := some (.int (1 : Int32))) (fun h => by rw [Bd.returns] at h; cases h)
              refine ⟨_, _, pre19 _ ?_, hrun, hended, _, _, rfl, ?_, ⟨_, rfl⟩, hW, hsame.mono (by decide) (by decide)⟩
              · show Steps p.tables e below (T4.setTop (mkF m 227 #[.val (.int p1), .val (.int p2), .val (.int (p1 &&& (8388607 : Int32))), .val (.double (4499096027743125504 : UInt64)), .second, .val (.double (f1 (p1 &&& (8388607 : Int32)) (4499096027743125504 : UInt64))), .second, .val (.double (f1 ((p1 &&& (8388607 : Int32)) + (1 : Int32)) (4499096027743125504 : UInt64))), .second, .val (.double (FP.dmul (FP.i2d (p1 &&& (8388607 : Int32))) (4499096027743125504 : UInt64))), .second, .val (.double (FP.dmul (FP.i2d ((p1 &&& (8388607 : Int32)) + (1 : Int32))) (4499096027743125504 : UInt64))), .second, .val (.int (1 : Int32))] [(.int (cmpValue (FP.dcmp (f1 (p1 &&& (8388607 : Int32)) (4499096027743125504 : UInt64)) (FP.dconst0)) .l))])) _
                refine XS.ifNo X4.here hx rfl (hb hby at_227) rfl ((if0 _ _).trans (teq hc227_20).2) ?_
                show Steps p.tables e below (T4.setTop (mkF m 230 #[.val (.int p1), .val (.int p2), .val (.int (p1 &&& (8388607 : Int32))), .val (.double (4499096027743125504 : UInt64)), .second, .val (.double (f1 (p1 &&& (8388607 : Int32)) (4499096027743125504 : UInt64))), .second, .val (.double (f1 ((p1 &&& (8388607 : Int32)) + (1 : Int32)) (4499096027743125504 : UInt64))), .second, .val (.double (FP.dmul (FP.i2d (p1 &&& (8388607 : Int32))) (4499096027743125504 : UInt64))), .second, .val (.double (FP.dmul (FP.i2d ((p1 &&& (8388607 : Int32)) + (1 : Int32))) (4499096027743125504 : UInt64))), .second, .val (.int (1 : Int32))] [])) _
                refine XS.iconst X4.here hx rfl (hb hby at_230) ?_
                show Steps p.tables e below (T4.setTop (mkF m 231 #[.val (.int p1), .val (.int p2), .val (.int (p1 &&& (8388607 : Int32))), .val (.double (4499096027743125504 : UInt64)), .second, .val (.double (f1 (p1 &&& (8388607 : Int32)) (4499096027743125504 : UInt64))), .second, .val (.double (f1 ((p1 &&& (8388607 : Int32)) + (1 : Int32)) (4499096027743125504 : UInt64))), .second, .val (.double (FP.dmul (FP.i2d (p1 &&& (8388607 : Int32))) (4499096027743125504 : UInt64))), .second, .val (.double (FP.dmul (FP.i2d ((p1 &&& (8388607 : Int32)) + (1 : Int32))) (4499096027743125504 : UInt64))), .second, .val (.int (1 : Int32))] [(.int (1 : Int32))])) _
                refine XS.goto X4.here hx rfl (pc0 := 231) (pc' := 235) rfl (hb hby at_231) (by decide) (by decide) ?_
                show Steps p.tables e below (T4.setTop (mkF m 235 #[.val (.int p1), .val (.int p2), .val (.int (p1 &&& (8388607 : Int32))), .val (.double (4499096027743125504 : UInt64)), .second, .val (.double (f1 (p1 &&& (8388607 : Int32)) (4499096027743125504 : UInt64))), .second, .val (.double (f1 ((p1 &&& (8388607 : Int32)) + (1 : Int32)) (4499096027743125504 : UInt64))), .second, .val (.double (FP.dmul (FP.i2d (p1 &&& (8388607 : Int32))) (4499096027743125504 : UInt64))), .second, .val (.double (FP.dmul (FP.i2d ((p1 &&& (8388607 : Int32)) + (1 : Int32))) (4499096027743125504 : UInt64))), .second, .val (.int (1 : Int32))] [(.int (1 : Int32))])) _
                exact retN X4 hx (t := .boolean) Bd.returns (by simp) (hb hby at_235) hr
              · show Q0 Z p1 p2 h0 n0 _ T4.heap _
                rw [e4]
                refine ⟨?_, N4, rfl⟩
                rw [show f0 p1 p2 = (1 : Int32) from (by skip; simp only [f0, if_pos hc8_2, if_neg hc172_6, if_neg hc186_10, if_neg hc204_14, if_pos hc215_18, if_pos hc227_20])]
            · refine hneg ?_
              obtain ⟨fs, hr, hrun, hended, hW, hsame⟩ := X4.leave (v := some (.int (0 : Int32))) (fun h => by rw [Bd.returns] at h; cases h)
              refine ⟨_, _, pre19 _ ?_, hrun, hended, _, _, rfl, ?_, ⟨_, rfl⟩, hW, hsame.mono (by decide) (by decide)⟩
              · show Steps p.tables e below (T4.setTop (mkF m 227 #[.val (.int p1), .val (.int p2), .val (.int (p1 &&& (8388607 : Int32))), .val (.double (4499096027743125504 : UInt64)), .second, .val (.double (f1 (p1 &&& (8388607 : Int32)) (4499096027743125504 : UInt64))), .second, .val (.double (f1 ((p1 &&& (8388607 : Int32)) + (1 : Int32)) (4499096027743125504 : UInt64))), .second, .val (.double (FP.dmul (FP.i2d (p1 &&& (8388607 : Int32))) (4499096027743125504 : UInt64))), .second, .val (.double (FP.dmul (FP.i2d ((p1 &&& (8388607 : Int32)) + (1 : Int32))) (4499096027743125504 : UInt64))), .second, .val (.int (1 : Int32))] [(.int (cmpValue (FP.dcmp (f1 (p1 &&& (8388607 : Int32)) (4499096027743125504 : UInt64)) (FP.dconst0)) .l))])) _
                refine XS.ifYes X4.here hx rfl (pc0 := 227) (pc' := 234) rfl (hb hby at_227) rfl ((if0 _ _).trans (feq hc227_20).2) (by decide) (by decide) ?_
                show Steps p.tables e below (T4.setTop (mkF m 234 #[.val (.int p1), .val (.int p2), .val (.int (p1 &&& (8388607 : Int32))), .val (.double (4499096027743125504 : UInt64)), .second, .val (.double (f1 (p1 &&& (8388607 : Int32)) (4499096027743125504 : UInt64))), .second, .val (.double (f1 ((p1 &&& (8388607 : Int32)) + (1 : Int32)) (4499096027743125504 : UInt64))), .second, .val (.double (FP.dmul (FP.i2d (p1 &&& (8388607 : Int32))) (4499096027743125504 : UInt64))), .second, .val (.double (FP.dmul (FP.i2d ((p1 &&& (8388607 : Int32)) + (1 : Int32))) (4499096027743125504 : UInt64))), .second, .val (.int (1 : Int32))] [])) _
                refine XS.iconst X4.here hx rfl (hb hby at_234) ?_
                show Steps p.tables e below (T4.setTop (mkF m 235 #[.val (.int p1), .val (.int p2), .val (.int (p1 &&& (8388607 : Int32))), .val (.double (4499096027743125504 : UInt64)), .second, .val (.double (f1 (p1 &&& (8388607 : Int32)) (4499096027743125504 : UInt64))), .second, .val (.double (f1 ((p1 &&& (8388607 : Int32)) + (1 : Int32)) (4499096027743125504 : UInt64))), .second, .val (.double (FP.dmul (FP.i2d (p1 &&& (8388607 : Int32))) (4499096027743125504 : UInt64))), .second, .val (.double (FP.dmul (FP.i2d ((p1 &&& (8388607 : Int32)) + (1 : Int32))) (4499096027743125504 : UInt64))), .second, .val (.int (1 : Int32))] [(.int (0 : Int32))])) _
                exact retN X4 hx (t := .boolean) Bd.returns (by simp) (hb hby at_235) hr
              · show Q0 Z p1 p2 h0 n0 _ T4.heap _
                rw [e4]
                refine ⟨?_, N4, rfl⟩
                rw [show f0 p1 p2 = (0 : Int32) from (by skip; simp only [f0, if_pos hc8_2, if_neg hc172_6, if_neg hc186_10, if_neg hc204_14, if_pos hc215_18, if_neg hc227_20])]
          · have pre21 : ∀ t, Steps p.tables e below (T4.setTop (mkF m 252 #[.val (.int p1), .val (.int p2), .val (.int (p1 &&& (8388607 : Int32))), .val (.double (4499096027743125504 : UInt64)), .second, .val (.double (f1 (p1 &&& (8388607 : Int32)) (4499096027743125504 : UInt64))), .second, .val (.double (f1 ((p1 &&& (8388607 : Int32)) + (1 : Int32)) (4499096027743125504 : UInt64))), .second, .val (.double (FP.dmul (FP.i2d (p1 &&& (8388607 : Int32))) (4499096027743125504 : UInt64))), .second, .val (.double (FP.dmul (FP.i2d ((p1 &&& (8388607 : Int32)) + (1 : Int32))) (4499096027743125504 : UInt64))), .second, .val (.int (1 : Int32))] [(.int (cmpValue (FP.dcmp (FP.dadd (FP.dmul (FP.i2d (p1 &&& (8388607 : Int32))) (4499096027743125504 : UInt64)) (FP.dmul (FP.dmul (FP.i2d (p1 &&& (8388607 : Int32))) (4499096027743125504 : UInt64)) (FP.dmul (FP.i2d (p1 &&& (8388607 : Int32))) (4499096027743125504 : UInt64)))) (f1 (p1 &&& (8388607 : Int32)) (4499096027743125504 : UInt64))) .g))])) t → Steps p.tables e below (s₁.setTop (entryFrame m #[(.int p1), (.int p2)] maxLocals)) t := by
              intro t k
              refine pre17 t ?_
              show Steps p.tables e below (T4.setTop (mkF m 215 #[.val (.int p1), .val (.int p2), .val (.int (p1 &&& (8388607 : Int32))), .val (.double (4499096027743125504 : UInt64)), .second, .val (.double (f1 (p1 &&& (8388607 : Int32)) (4499096027743125504 : UInt64))), .second, .val (.double (f1 ((p1 &&& (8388607 : Int32)) + (1 : Int32)) (4499096027743125504 : UInt64))), .second, .val (.double (FP.dmul (FP.i2d (p1 &&& (8388607 : Int32))) (4499096027743125504 : UInt64))), .second, .val (.double (FP.dmul (FP.i2d ((p1 &&& (8388607 : Int32)) + (1 : Int32))) (4499096027743125504 : UInt64))), .second, .val (.int (1 : Int32))] [(.int (p1 &&& (8388607 : Int32)))])) _
              refine XS.ifYes X4.here hx rfl (pc0 := 215) (pc' := 236) rfl (hb hby at_215) rfl ((if0 _ _).trans (feq hc215_18).2) (by decide) (by decide) ?_
              show Steps p.tables e below (T4.setTop (mkF m 236 #[.val (.int p1), .val (.int p2), .val (.int (p1 &&& (8388607 : Int32))), .val (.double (4499096027743125504 : UInt64)), .second, .val (.double (f1 (p1 &&& (8388607 : Int32)) (4499096027743125504 : UInt64))), .second, .val (.double (f1 ((p1 &&& (8388607 : Int32)) + (1 : Int32)) (4499096027743125504 : UInt64))), .second, .val (.double (FP.dmul (FP.i2d (p1 &&& (8388607 : Int32))) (4499096027743125504 : UInt64))), .second, .val (.double (FP.dmul (FP.i2d ((p1 &&& (8388607 : Int32)) + (1 : Int32))) (4499096027743125504 : UInt64))), .second, .val (.int (1 : Int32))] [])) _
              refine XS.iload X4.here hx rfl (hb hby at_236) rfl ?_
              show Steps p.tables e below (T4.setTop (mkF m 238 #[.val (.int p1), .val (.int p2), .val (.int (p1 &&& (8388607 : Int32))), .val (.double (4499096027743125504 : UInt64)), .second, .val (.double (f1 (p1 &&& (8388607 : Int32)) (4499096027743125504 : UInt64))), .second, .val (.double (f1 ((p1 &&& (8388607 : Int32)) + (1 : Int32)) (4499096027743125504 : UInt64))), .second, .val (.double (FP.dmul (FP.i2d (p1 &&& (8388607 : Int32))) (4499096027743125504 : UInt64))), .second, .val (.double (FP.dmul (FP.i2d ((p1 &&& (8388607 : Int32)) + (1 : Int32))) (4499096027743125504 : UInt64))), .second, .val (.int (1 : Int32))] [(.int (1 : Int32))])) _
              refine XS.ifNo X4.here hx rfl (hb hby at_238) rfl ((if0 _ _).trans (feq (by decide : ¬ ((1 : Int32) = (0 : Int32)))).1) ?_
              show Steps p.tables e below (T4.setTop (mkF m 241 #[.val (.int p1), .val (.int p2), .val (.int (p1 &&& (8388607 : Int32))), .val (.double (4499096027743125504 : UInt64)), .second, .val (.double (f1 (p1 &&& (8388607 : Int32)) (4499096027743125504 : UInt64))), .second, .val (.double (f1 ((p1 &&& (8388607 : Int32)) + (1 : Int32)) (4499096027743125504 : UInt64))), .second, .val (.double (FP.dmul (FP.i2d (p1 &&& (8388607 : Int32))) (4499096027743125504 : UInt64))), .second, .val (.double (FP.dmul (FP.i2d ((p1 &&& (8388607 : Int32)) + (1 : Int32))) (4499096027743125504 : UInt64))), .second, .val (.int (1 : Int32))] [])) _
              refine XS.dload X4.here hx rfl (hb hby at_241) rfl ?_
              show Steps p.tables e below (T4.setTop (mkF m 243 #[.val (.int p1), .val (.int p2), .val (.int (p1 &&& (8388607 : Int32))), .val (.double (4499096027743125504 : UInt64)), .second, .val (.double (f1 (p1 &&& (8388607 : Int32)) (4499096027743125504 : UInt64))), .second, .val (.double (f1 ((p1 &&& (8388607 : Int32)) + (1 : Int32)) (4499096027743125504 : UInt64))), .second, .val (.double (FP.dmul (FP.i2d (p1 &&& (8388607 : Int32))) (4499096027743125504 : UInt64))), .second, .val (.double (FP.dmul (FP.i2d ((p1 &&& (8388607 : Int32)) + (1 : Int32))) (4499096027743125504 : UInt64))), .second, .val (.int (1 : Int32))] [(.double (FP.dmul (FP.i2d (p1 &&& (8388607 : Int32))) (4499096027743125504 : UInt64)))])) _
              refine XS.dload X4.here hx rfl (hb hby at_243) rfl ?_
              show Steps p.tables e below (T4.setTop (mkF m 245 #[.val (.int p1), .val (.int p2), .val (.int (p1 &&& (8388607 : Int32))), .val (.double (4499096027743125504 : UInt64)), .second, .val (.double (f1 (p1 &&& (8388607 : Int32)) (4499096027743125504 : UInt64))), .second, .val (.double (f1 ((p1 &&& (8388607 : Int32)) + (1 : Int32)) (4499096027743125504 : UInt64))), .second, .val (.double (FP.dmul (FP.i2d (p1 &&& (8388607 : Int32))) (4499096027743125504 : UInt64))), .second, .val (.double (FP.dmul (FP.i2d ((p1 &&& (8388607 : Int32)) + (1 : Int32))) (4499096027743125504 : UInt64))), .second, .val (.int (1 : Int32))] [(.double (FP.dmul (FP.i2d (p1 &&& (8388607 : Int32))) (4499096027743125504 : UInt64))), (.double (FP.dmul (FP.i2d (p1 &&& (8388607 : Int32))) (4499096027743125504 : UInt64)))])) _
              refine XS.dload X4.here hx rfl (hb hby at_245) rfl ?_
              show Steps p.tables e below (T4.setTop (mkF m 247 #[.val (.int p1), .val (.int p2), .val (.int (p1 &&& (8388607 : Int32))), .val (.double (4499096027743125504 : UInt64)), .second, .val (.double (f1 (p1 &&& (8388607 : Int32)) (4499096027743125504 : UInt64))), .second, .val (.double (f1 ((p1 &&& (8388607 : Int32)) + (1 : Int32)) (4499096027743125504 : UInt64))), .second, .val (.double (FP.dmul (FP.i2d (p1 &&& (8388607 : Int32))) (4499096027743125504 : UInt64))), .second, .val (.double (FP.dmul (FP.i2d ((p1 &&& (8388607 : Int32)) + (1 : Int32))) (4499096027743125504 : UInt64))), .second, .val (.int (1 : Int32))] [(.double (FP.dmul (FP.i2d (p1 &&& (8388607 : Int32))) (4499096027743125504 : UInt64))), (.double (FP.dmul (FP.i2d (p1 &&& (8388607 : Int32))) (4499096027743125504 : UInt64))), (.double (FP.dmul (FP.i2d (p1 &&& (8388607 : Int32))) (4499096027743125504 : UInt64)))])) _
              refine XS.dmulS X4.here hx rfl (hb hby at_247) rfl (own_sq (own_ok0 p1)) rfl ?_
              show Steps p.tables e below (T4.setTop (mkF m 248 #[.val (.int p1), .val (.int p2), .val (.int (p1 &&& (8388607 : Int32))), .val (.double (4499096027743125504 : UInt64)), .second, .val (.double (f1 (p1 &&& (8388607 : Int32)) (4499096027743125504 : UInt64))), .second, .val (.double (f1 ((p1 &&& (8388607 : Int32)) + (1 : Int32)) (4499096027743125504 : UInt64))), .second, .val (.double (FP.dmul (FP.i2d (p1 &&& (8388607 : Int32))) (4499096027743125504 : UInt64))), .second, .val (.double (FP.dmul (FP.i2d ((p1 &&& (8388607 : Int32)) + (1 : Int32))) (4499096027743125504 : UInt64))), .second, .val (.int (1 : Int32))] [(.double (FP.dmul (FP.dmul (FP.i2d (p1 &&& (8388607 : Int32))) (4499096027743125504 : UInt64)) (FP.dmul (FP.i2d (p1 &&& (8388607 : Int32))) (4499096027743125504 : UInt64)))), (.double (FP.dmul (FP.i2d (p1 &&& (8388607 : Int32))) (4499096027743125504 : UInt64)))])) _
              refine XS.daddS X4.here hx rfl (hb hby at_248) rfl (own_as (own_ok0 p1)) rfl ?_
              show Steps p.tables e below (T4.setTop (mkF m 249 #[.val (.int p1), .val (.int p2), .val (.int (p1 &&& (8388607 : Int32))), .val (.double (4499096027743125504 : UInt64)), .second, .val (.double (f1 (p1 &&& (8388607 : Int32)) (4499096027743125504 : UInt64))), .second, .val (.double (f1 ((p1 &&& (8388607 : Int32)) + (1 : Int32)) (4499096027743125504 : UInt64))), .second, .val (.double (FP.dmul (FP.i2d (p1 &&& (8388607 : Int32))) (4499096027743125504 : UInt64))), .second, .val (.double (FP.dmul (FP.i2d ((p1 &&& (8388607 : Int32)) + (1 : Int32))) (4499096027743125504 : UInt64))), .second, .val (.int (1 : Int32))] [(.double (FP.dadd (FP.dmul (FP.i2d (p1 &&& (8388607 : Int32))) (4499096027743125504 : UInt64)) (FP.dmul (FP.dmul (FP.i2d (p1 &&& (8388607 : Int32))) (4499096027743125504 : UInt64)) (FP.dmul (FP.i2d (p1 &&& (8388607 : Int32))) (4499096027743125504 : UInt64)))))])) _
              refine XS.dload X4.here hx rfl (hb hby at_249) rfl ?_
              show Steps p.tables e below (T4.setTop (mkF m 251 #[.val (.int p1), .val (.int p2), .val (.int (p1 &&& (8388607 : Int32))), .val (.double (4499096027743125504 : UInt64)), .second, .val (.double (f1 (p1 &&& (8388607 : Int32)) (4499096027743125504 : UInt64))), .second, .val (.double (f1 ((p1 &&& (8388607 : Int32)) + (1 : Int32)) (4499096027743125504 : UInt64))), .second, .val (.double (FP.dmul (FP.i2d (p1 &&& (8388607 : Int32))) (4499096027743125504 : UInt64))), .second, .val (.double (FP.dmul (FP.i2d ((p1 &&& (8388607 : Int32)) + (1 : Int32))) (4499096027743125504 : UInt64))), .second, .val (.int (1 : Int32))] [(.double (f1 (p1 &&& (8388607 : Int32)) (4499096027743125504 : UInt64))), (.double (FP.dadd (FP.dmul (FP.i2d (p1 &&& (8388607 : Int32))) (4499096027743125504 : UInt64)) (FP.dmul (FP.dmul (FP.i2d (p1 &&& (8388607 : Int32))) (4499096027743125504 : UInt64)) (FP.dmul (FP.i2d (p1 &&& (8388607 : Int32))) (4499096027743125504 : UInt64)))))])) _
              refine XS.dcmpS X4.here hx rfl (hb hby at_251) rfl rfl ?_
              exact k
            by_cases hc252_22 : (0 : Int32) < (cmpValue (FP.dcmp (FP.dadd (FP.dmul (FP.i2d (p1 &&& (8388607 : Int32))) (4499096027743125504 : UInt64)) (FP.dmul (FP.dmul (FP.i2d (p1 &&& (8388607 : Int32))) (4499096027743125504 : UInt64)) (FP.dmul (FP.i2d (p1 &&& (8388607 : Int32))) (4499096027743125504 : UInt64)))) (f1 (p1 &&& (8388607 : Int32)) (4499096027743125504 : UInt64))) .g)
            · refine hneg ?_
              obtain ⟨fs, hr, hrun, hended, hW, hsame⟩ := X4.leave (v := some (.int (0 : Int32))) (fun h => by rw [Bd.returns] at h; cases h)
              refine ⟨_, _, pre21 _ ?_, hrun, hended, _, _, rfl, ?_, ⟨_, rfl⟩, hW, hsame.mono (by decide) (by decide)⟩
              · show Steps p.tables e below (T4.setTop (mkF m 252 #[.val (.int p1), .val (.int p2), .val (.int (p1 &&& (8388607 : Int32))), .val (.double (4499096027743125504 : UInt64)), .second, .val (.double (f1 (p1 &&& (8388607 : Int32)) (4499096027743125504 : UInt64))), .second, .val (.double (f1 ((p1 &&& (8388607 : Int32)) + (1 : Int32)) (4499096027743125504 : UInt64))), .second, .val (.double (FP.dmul (FP.i2d (p1 &&& (8388607 : Int32))) (4499096027743125504 : UInt64))), .second, .val (.double (FP.dmul (FP.i2d ((p1 &&& (8388607 : Int32)) + (1 : Int32))) (4499096027743125504 : UInt64))), .second, .val (.int (1 : Int32))] [(.int (cmpValue (FP.dcmp (FP.dadd (FP.dmul (FP.i2d (p1 &&& (8388607 : Int32))) (4499096027743125504 : UInt64)) (FP.dmul (FP.dmul (FP.i2d (p1 &&& (8388607 : Int32))) (4499096027743125504 : UInt64)) (FP.dmul (FP.i2d (p1 &&& (8388607 : Int32))) (4499096027743125504 : UInt64)))) (f1 (p1 &&& (8388607 : Int32)) (4499096027743125504 : UInt64))) .g))])) _
                refine XS.ifYes X4.here hx rfl (pc0 := 252) (pc' := 277) rfl (hb hby at_252) rfl ((if0 _ _).trans (tlt hc252_22).2.2.1) (by decide) (by decide) ?_
                show Steps p.tables e below (T4.setTop (mkF m 277 #[.val (.int p1), .val (.int p2), .val (.int (p1 &&& (8388607 : Int32))), .val (.double (4499096027743125504 : UInt64)), .second, .val (.double (f1 (p1 &&& (8388607 : Int32)) (4499096027743125504 : UInt64))), .second, .val (.double (f1 ((p1 &&& (8388607 : Int32)) + (1 : Int32)) (4499096027743125504 : UInt64))), .second, .val (.double (FP.dmul (FP.i2d (p1 &&& (8388607 : Int32))) (4499096027743125504 : UInt64))), .second, .val (.double (FP.dmul (FP.i2d ((p1 &&& (8388607 : Int32)) + (1 : Int32))) (4499096027743125504 : UInt64))), .second, .val (.int (1 : Int32))] [])) _
                refine XS.iconst X4.here hx rfl (hb hby at_277) ?_
                show Steps p.tables e below (T4.setTop (mkF m 278 #[.val (.int p1), .val (.int p2), .val (.int (p1 &&& (8388607 : Int32))), .val (.double (4499096027743125504 : UInt64)), .second, .val (.double (f1 (p1 &&& (8388607 : Int32)) (4499096027743125504 : UInt64))), .second, .val (.double (f1 ((p1 &&& (8388607 : Int32)) + (1 : Int32)) (4499096027743125504 : UInt64))), .second, .val (.double (FP.dmul (FP.i2d (p1 &&& (8388607 : Int32))) (4499096027743125504 : UInt64))), .second, .val (.double (FP.dmul (FP.i2d ((p1 &&& (8388607 : Int32)) + (1 : Int32))) (4499096027743125504 : UInt64))), .second, .val (.int (1 : Int32))] [(.int (0 : Int32))])) _
                exact retN X4 hx (t := .boolean) Bd.returns (by simp) (hb hby at_278) hr
              · show Q0 Z p1 p2 h0 n0 _ T4.heap _
                rw [e4]
                refine ⟨?_, N4, rfl⟩
                rw [show f0 p1 p2 = (0 : Int32) from (by skip; simp only [f0, if_pos hc8_2, if_neg hc172_6, if_neg hc186_10, if_neg hc204_14, if_neg hc215_18, if_pos hc252_22])]
            · have pre23 : ∀ t, Steps p.tables e below (T4.setTop (mkF m 270 #[.val (.int p1), .val (.int p2), .val (.int (p1 &&& (8388607 : Int32))), .val (.double (4499096027743125504 : UInt64)), .second, .val (.double (f1 (p1 &&& (8388607 : Int32)) (4499096027743125504 : UInt64))), .second, .val (.double (f1 ((p1 &&& (8388607 : Int32)) + (1 : Int32)) (4499096027743125504 : UInt64))), .second, .val (.double (FP.dmul (FP.i2d (p1 &&& (8388607 : Int32))) (4499096027743125504 : UInt64))), .second, .val (.double (FP.dmul (FP.i2d ((p1 &&& (8388607 : Int32)) + (1 : Int32))) (4499096027743125504 : UInt64))), .second, .val (.int (1 : Int32))] [(.int (cmpValue (FP.dcmp (f1 (p1 &&& (8388607 : Int32)) (4499096027743125504 : UInt64)) (FP.dadd (FP.dmul (FP.i2d (p1 &&& (8388607 : Int32))) (4499096027743125504 : UInt64)) (FP.dmul (FP.dmul (4611686018427387904 : UInt64) (FP.dmul (FP.i2d (p1 &&& (8388607 : Int32))) (4499096027743125504 : UInt64))) (FP.dmul (FP.i2d (p1 &&& (8388607 : Int32))) (4499096027743125504 : UInt64))))) .g))])) t → Steps p.tables e below (s₁.setTop (entryFrame m #[(.int p1), (.int p2)] maxLocals)) t := by
                intro t k
                refine pre21 t ?_
                show Steps p.tables e below (T4.setTop (mkF m 252 #[.val (.int p1), .val (.int p2), .val (.int (p1 &&& (8388607 : Int32))), .val (.double (4499096027743125504 : UInt64)), .second, .val (.double (f1 (p1 &&& (8388607 : Int32)) (4499096027743125504 : UInt64))), .second, .val (.double (f1 ((p1 &&& (8388607 : Int32)) + (1 : Int32)) (4499096027743125504 : UInt64))), .second, .val (.double (FP.dmul (FP.i2d (p1 &&& (8388607 : Int32))) (4499096027743125504 : UInt64))), .second, .val (.double (FP.dmul (FP.i2d ((p1 &&& (8388607 : Int32)) + (1 : Int32))) (4499096027743125504 : UInt64))), .second, .val (.int (1 : Int32))] [(.int (cmpValue (FP.dcmp (FP.dadd (FP.dmul (FP.i2d (p1 &&& (8388607 : Int32))) (4499096027743125504 : UInt64)) (FP.dmul (FP.dmul (FP.i2d (p1 &&& (8388607 : Int32))) (4499096027743125504 : UInt64)) (FP.dmul (FP.i2d (p1 &&& (8388607 : Int32))) (4499096027743125504 : UInt64)))) (f1 (p1 &&& (8388607 : Int32)) (4499096027743125504 : UInt64))) .g))])) _
                refine XS.ifNo X4.here hx rfl (hb hby at_252) rfl ((if0 _ _).trans (flt hc252_22).2.2.1) ?_
                show Steps p.tables e below (T4.setTop (mkF m 255 #[.val (.int p1), .val (.int p2), .val (.int (p1 &&& (8388607 : Int32))), .val (.double (4499096027743125504 : UInt64)), .second, .val (.double (f1 (p1 &&& (8388607 : Int32)) (4499096027743125504 : UInt64))), .second, .val (.double (f1 ((p1 &&& (8388607 : Int32)) + (1 : Int32)) (4499096027743125504 : UInt64))), .second, .val (.double (FP.dmul (FP.i2d (p1 &&& (8388607 : Int32))) (4499096027743125504 : UInt64))), .second, .val (.double (FP.dmul (FP.i2d ((p1 &&& (8388607 : Int32)) + (1 : Int32))) (4499096027743125504 : UInt64))), .second, .val (.int (1 : Int32))] [])) _
                refine XS.dload X4.here hx rfl (hb hby at_255) rfl ?_
                show Steps p.tables e below (T4.setTop (mkF m 257 #[.val (.int p1), .val (.int p2), .val (.int (p1 &&& (8388607 : Int32))), .val (.double (4499096027743125504 : UInt64)), .second, .val (.double (f1 (p1 &&& (8388607 : Int32)) (4499096027743125504 : UInt64))), .second, .val (.double (f1 ((p1 &&& (8388607 : Int32)) + (1 : Int32)) (4499096027743125504 : UInt64))), .second, .val (.double (FP.dmul (FP.i2d (p1 &&& (8388607 : Int32))) (4499096027743125504 : UInt64))), .second, .val (.double (FP.dmul (FP.i2d ((p1 &&& (8388607 : Int32)) + (1 : Int32))) (4499096027743125504 : UInt64))), .second, .val (.int (1 : Int32))] [(.double (f1 (p1 &&& (8388607 : Int32)) (4499096027743125504 : UInt64)))])) _
                refine XS.dload X4.here hx rfl (hb hby at_257) rfl ?_
                show Steps p.tables e below (T4.setTop (mkF m 259 #[.val (.int p1), .val (.int p2), .val (.int (p1 &&& (8388607 : Int32))), .val (.double (4499096027743125504 : UInt64)), .second, .val (.double (f1 (p1 &&& (8388607 : Int32)) (4499096027743125504 : UInt64))), .second, .val (.double (f1 ((p1 &&& (8388607 : Int32)) + (1 : Int32)) (4499096027743125504 : UInt64))), .second, .val (.double (FP.dmul (FP.i2d (p1 &&& (8388607 : Int32))) (4499096027743125504 : UInt64))), .second, .val (.double (FP.dmul (FP.i2d ((p1 &&& (8388607 : Int32)) + (1 : Int32))) (4499096027743125504 : UInt64))), .second, .val (.int (1 : Int32))] [(.double (FP.dmul (FP.i2d (p1 &&& (8388607 : Int32))) (4499096027743125504 : UInt64))), (.double (f1 (p1 &&& (8388607 : Int32)) (4499096027743125504 : UInt64)))])) _
                refine X4.ldc2DoubleC hx hown (mvT hZ (hw _ (List.mem_of_getElem? (i := 6) rfl))) (g := (mkF m 259 #[.val (.int p1), .val (.int p2), .val (.int (p1 &&& (8388607 : Int32))), .val (.double (4499096027743125504 : UInt64)), .second, .val (.double (f1 (p1 &&& (8388607 : Int32)) (4499096027743125504 : UInt64))), .second, .val (.double (f1 ((p1 &&& (8388607 : Int32)) + (1 : Int32)) (4499096027743125504 : UInt64))), .second, .val (.double (FP.dmul (FP.i2d (p1 &&& (8388607 : Int32))) (4499096027743125504 : UInt64))), .second, .val (.double (FP.dmul (FP.i2d ((p1 &&& (8388607 : Int32)) + (1 : Int32))) (4499096027743125504 : UInt64))), .second, .val (.int (1 : Int32))] [(.double (FP.dmul (FP.i2d (p1 &&& (8388607 : Int32))) (4499096027743125504 : UInt64))), (.double (f1 (p1 &&& (8388607 : Int32)) (4499096027743125504 : UInt64)))])) rfl (hb hby at_259) _ ?_
                show Steps p.tables e below (T4.setTop (mkF m 262 #[.val (.int p1), .val (.int p2), .val (.int (p1 &&& (8388607 : Int32))), .val (.double (4499096027743125504 : UInt64)), .second, .val (.double (f1 (p1 &&& (8388607 : Int32)) (4499096027743125504 : UInt64))), .second, .val (.double (f1 ((p1 &&& (8388607 : Int32)) + (1 : Int32)) (4499096027743125504 : UInt64))), .second, .val (.double (FP.dmul (FP.i2d (p1 &&& (8388607 : Int32))) (4499096027743125504 : UInt64))), .second, .val (.double (FP.dmul (FP.i2d ((p1 &&& (8388607 : Int32)) + (1 : Int32))) (4499096027743125504 : UInt64))), .second, .val (.int (1 : Int32))] [(.double (4611686018427387904 : UInt64)), (.double (FP.dmul (FP.i2d (p1 &&& (8388607 : Int32))) (4499096027743125504 : UInt64))), (.double (f1 (p1 &&& (8388607 : Int32)) (4499096027743125504 : UInt64)))])) _
                refine XS.dload X4.here hx rfl (hb hby at_262) rfl ?_
                show Steps p.tables e below (T4.setTop (mkF m 264 #[.val (.int p1), .val (.int p2), .val (.int (p1 &&& (8388607 : Int32))), .val (.double (4499096027743125504 : UInt64)), .second, .val (.double (f1 (p1 &&& (8388607 : Int32)) (4499096027743125504 : UInt64))), .second, .val (.double (f1 ((p1 &&& (8388607 : Int32)) + (1 : Int32)) (4499096027743125504 : UInt64))), .second, .val (.double (FP.dmul (FP.i2d (p1 &&& (8388607 : Int32))) (4499096027743125504 : UInt64))), .second, .val (.double (FP.dmul (FP.i2d ((p1 &&& (8388607 : Int32)) + (1 : Int32))) (4499096027743125504 : UInt64))), .second, .val (.int (1 : Int32))] [(.double (FP.dmul (FP.i2d (p1 &&& (8388607 : Int32))) (4499096027743125504 : UInt64))), (.double (4611686018427387904 : UInt64)), (.double (FP.dmul (FP.i2d (p1 &&& (8388607 : Int32))) (4499096027743125504 : UInt64))), (.double (f1 (p1 &&& (8388607 : Int32)) (4499096027743125504 : UInt64)))])) _
                refine XS.dmulS X4.here hx rfl (hb hby at_264) rfl (own_n2x24 (own_ok0 p1)) rfl ?_
                show Steps p.tables e below (T4.setTop (mkF m 265 #[.val (.int p1), .val (.int p2), .val (.int (p1 &&& (8388607 : Int32))), .val (.double (4499096027743125504 : UInt64)), .second, .val (.double (f1 (p1 &&& (8388607 : Int32)) (4499096027743125504 : UInt64))), .second, .val (.double (f1 ((p1 &&& (8388607 : Int32)) + (1 : Int32)) (4499096027743125504 : UInt64))), .second, .val (.double (FP.dmul (FP.i2d (p1 &&& (8388607 : Int32))) (4499096027743125504 : UInt64))), .second, .val (.double (FP.dmul (FP.i2d ((p1 &&& (8388607 : Int32)) + (1 : Int32))) (4499096027743125504 : UInt64))), .second, .val (.int (1 : Int32))] [(.double (FP.dmul (4611686018427387904 : UInt64) (FP.dmul (FP.i2d (p1 &&& (8388607 : Int32))) (4499096027743125504 : UInt64)))), (.double (FP.dmul (FP.i2d (p1 &&& (8388607 : Int32))) (4499096027743125504 : UInt64))), (.double (f1 (p1 &&& (8388607 : Int32)) (4499096027743125504 : UInt64)))])) _
                refine XS.dload X4.here hx rfl (hb hby at_265) rfl ?_
                show Steps p.tables e below (T4.setTop (mkF m 267 #[.val (.int p1), .val (.int p2), .val (.int (p1 &&& (8388607 : Int32))), .val (.double (4499096027743125504 : UInt64)), .second, .val (.double (f1 (p1 &&& (8388607 : Int32)) (4499096027743125504 : UInt64))), .second, .val (.double (f1 ((p1 &&& (8388607 : Int32)) + (1 : Int32)) (4499096027743125504 : UInt64))), .second, .val (.double (FP.dmul (FP.i2d (p1 &&& (8388607 : Int32))) (4499096027743125504 : UInt64))), .second, .val (.double (FP.dmul (FP.i2d ((p1 &&& (8388607 : Int32)) + (1 : Int32))) (4499096027743125504 : UInt64))), .second, .val (.int (1 : Int32))] [(.double (FP.dmul (FP.i2d (p1 &&& (8388607 : Int32))) (4499096027743125504 : UInt64))), (.double (FP.dmul (4611686018427387904 : UInt64) (FP.dmul (FP.i2d (p1 &&& (8388607 : Int32))) (4499096027743125504 : UInt64)))), (.double (FP.dmul (FP.i2d (p1 &&& (8388607 : Int32))) (4499096027743125504 : UInt64))), (.double (f1 (p1 &&& (8388607 : Int32)) (4499096027743125504 : UInt64)))])) _
                refine XS.dmulS X4.here hx rfl (hb hby at_267) rfl (own_tq (own_ok0 p1)) rfl ?_
                show Steps p.tables e below (T4.setTop (mkF m 268 #[.val (.int p1), .val (.int p2), .val (.int (p1 &&& (8388607 : Int32))), .val (.double (4499096027743125504 : UInt64)), .second, .val (.double (f1 (p1 &&& (8388607 : Int32)) (4499096027743125504 : UInt64))), .second, .val (.double (f1 ((p1 &&& (8388607 : Int32)) + (1 : Int32)) (4499096027743125504 : UInt64))), .second, .val (.double (FP.dmul (FP.i2d (p1 &&& (8388607 : Int32))) (4499096027743125504 : UInt64))), .second, .val (.double (FP.dmul (FP.i2d ((p1 &&& (8388607 : Int32)) + (1 : Int32))) (4499096027743125504 : UInt64))), .second, .val (.int (1 : Int32))] [(.double (FP.dmul (FP.dmul (4611686018427387904 : UInt64) (FP.dmul (FP.i2d (p1 &&& (8388607 : Int32))) (4499096027743125504 : UInt64))) (FP.dmul (FP.i2d (p1 &&& (8388607 : Int32))) (4499096027743125504 : UInt64)))), (.double (FP.dmul (FP.i2d (p1 &&& (8388607 : Int32))) (4499096027743125504 : UInt64))), (.double (f1 (p1 &&& (8388607 : Int32)) (4499096027743125504 : UInt64)))])) _
                refine XS.daddS X4.here hx rfl (hb hby at_268) rfl (own_at (own_ok0 p1)) rfl ?_
                show Steps p.tables e below (T4.setTop (mkF m 269 #[.val (.int p1), .val (.int p2), .val (.int (p1 &&& (8388607 : Int32))), .val (.double (4499096027743125504 : UInt64)), .second, .val (.double (f1 (p1 &&& (8388607 : Int32)) (4499096027743125504 : UInt64))), .second, .val (.double (f1 ((p1 &&& (8388607 : Int32)) + (1 : Int32)) (4499096027743125504 : UInt64))), .second, .val (.double (FP.dmul (FP.i2d (p1 &&& (8388607 : Int32))) (4499096027743125504 : UInt64))), .second, .val (.double (FP.dmul (FP.i2d ((p1 &&& (8388607 : Int32)) + (1 : Int32))) (4499096027743125504 : UInt64))), .second, .val (.int (1 : Int32))] [(.double (FP.dadd (FP.dmul (FP.i2d (p1 &&& (8388607 : Int32))) (4499096027743125504 : UInt64)) (FP.dmul (FP.dmul (4611686018427387904 : UInt64) (FP.dmul (FP.i2d (p1 &&& (8388607 : Int32))) (4499096027743125504 : UInt64))) (FP.dmul (FP.i2d (p1 &&& (8388607 : Int32))) (4499096027743125504 : UInt64))))), (.double (f1 (p1 &&& (8388607 : Int32)) (4499096027743125504 : UInt64)))])) _
                refine XS.dcmpS X4.here hx rfl (hb hby at_269) rfl rfl ?_
                exact k
              by_cases hc270_24 : (0 : Int32) < (cmpValue (FP.dcmp (f1 (p1 &&& (8388607 : Int32)) (4499096027743125504 : UInt64)) (FP.dadd (FP.dmul (FP.i2d (p1 &&& (8388607 : Int32))) (4499096027743125504 : UInt64)) (FP.dmul (FP.dmul (4611686018427387904 : UInt64) (FP.dmul (FP.i2d (p1 &&& (8388607 : Int32))) (4499096027743125504 : UInt64))) (FP.dmul (FP.i2d (p1 &&& (8388607 : Int32))) (4499096027743125504 : UInt64))))) .g)
              · refine hneg ?_
                obtain ⟨fs, hr, hrun, hended, hW, hsame⟩ := X4.leave (v := some (.int (0 : Int32))) (fun h => by rw [Bd.returns] at h; cases h)
                refine ⟨_, _, pre23 _ ?_, hrun, hended, _, _, rfl, ?_, ⟨_, rfl⟩, hW, hsame.mono (by decide) (by decide)⟩
                · show Steps p.tables e below (T4.setTop (mkF m 270 #[.val (.int p1), .val (.int p2), .val (.int (p1 &&& (8388607 : Int32))), .val (.double (4499096027743125504 : UInt64)), .second, .val (.double (f1 (p1 &&& (8388607 : Int32)) (4499096027743125504 : UInt64))), .second, .val (.double (f1 ((p1 &&& (8388607 : Int32)) + (1 : Int32)) (4499096027743125504 : UInt64))), .second, .val (.double (FP.dmul (FP.i2d (p1 &&& (8388607 : Int32))) (4499096027743125504 : UInt64))), .second, .val (.double (FP.dmul (FP.i2d ((p1 &&& (8388607 : Int32)) + (1 : Int32))) (4499096027743125504 : UInt64))), .second, .val (.int (1 : Int32))] [(.int (cmpValue (FP.dcmp (f1 (p1 &&& (8388607 : Int32)) (4499096027743125504 : UInt64)) (FP.dadd (FP.dmul (FP.i2d (p1 &&& (8388607 : Int32))) (4499096027743125504 : UInt64)) (FP.dmul (FP.dmul (4611686018427387904 : UInt64) (FP.dmul (FP.i2d (p1 &&& (8388607 : Int32))) (4499096027743125504 : UInt64))) (FP.dmul (FP.i2d (p1 &&& (8388607 : Int32))) (4499096027743125504 : UInt64))))) .g))])) _
                  refine XS.ifYes X4.here hx rfl (pc0 := 270) (pc' := 277) rfl (hb hby at_270) rfl ((if0 _ _).trans (tlt hc270_24).2.2.1) (by decide) (by decide) ?_
                  show Steps p.tables e below (T4.setTop (mkF m 277 #[.val (.int p1), .val (.int p2), .val (.int (p1 &&& (8388607 : Int32))), .val (.double (4499096027743125504 : UInt64)), .second, .val (.double (f1 (p1 &&& (8388607 : Int32)) (4499096027743125504 : UInt64))), .second, .val (.double (f1 ((p1 &&& (8388607 : Int32)) + (1 : Int32)) (4499096027743125504 : UInt64))), .second, .val (.double (FP.dmul (FP.i2d (p1 &&& (8388607 : Int32))) (4499096027743125504 : UInt64))), .second, .val (.double (FP.dmul (FP.i2d ((p1 &&& (8388607 : Int32)) + (1 : Int32))) (4499096027743125504 : UInt64))), .second, .val (.int (1 : Int32))] [])) _
                  refine XS.iconst X4.here hx rfl (hb hby at_277) ?_
                  show Steps p.tables e below (T4.setTop (mkF m 278 #[.val (.int p1), .val (.int p2), .val (.int (p1 &&& (8388607 : Int32))), .val (.double (4499096027743125504 : UInt64)), .second, .val (.double (f1 (p1 &&& (8388607 : Int32)) (4499096027743125504 : UInt64))), .second, .val (.double (f1 ((p1 &&& (8388607 : Int32)) + (1 : Int32)) (4499096027743125504 : UInt64))), .second, .val (.double (FP.dmul (FP.i2d (p1 &&& (8388607 : Int32))) (4499096027743125504 : UInt64))), .second, .val (.double (FP.dmul (FP.i2d ((p1 &&& (8388607 : Int32)) + (1 : Int32))) (4499096027743125504 : UInt64))), .second, .val (.int (1 : Int32))] [(.int (0 : Int32))])) _
                  exact retN X4 hx (t := .boolean) Bd.returns (by simp) (hb hby at_278) hr
                · show Q0 Z p1 p2 h0 n0 _ T4.heap _
                  rw [e4]
                  refine ⟨?_, N4, rfl⟩
                  rw [show f0 p1 p2 = (0 : Int32) from (by skip; simp only [f0, if_pos hc8_2, if_neg hc172_6, if_neg hc186_10, if_neg hc204_14, if_neg hc215_18, if_neg hc252_22, if_pos hc270_24])]
              · refine hneg ?_
                obtain ⟨fs, hr, hrun, hended, hW, hsame⟩ := X4.leave (v := some (.int (1 : Int32))) (fun h => by rw [Bd.returns] at h; cases h)
                refine ⟨_, _, pre23 _ ?_, hrun, hended, _, _, rfl, ?_, ⟨_, rfl⟩, hW, hsame.mono (by decide) (by decide)⟩
                · show Steps p.tables e below (T4.setTop (mkF m 270 #[.val (.int p1), .val (.int p2), .val (.int (p1 &&& (8388607 : Int32))), .val (.double (4499096027743125504 : UInt64)), .second, .val (.double (f1 (p1 &&& (8388607 : Int32)) (4499096027743125504 : UInt64))), .second, .val (.double (f1 ((p1 &&& (8388607 : Int32)) + (1 : Int32)) (4499096027743125504 : UInt64))), .second, .val (.double (FP.dmul (FP.i2d (p1 &&& (8388607 : Int32))) (4499096027743125504 : UInt64))), .second, .val (.double (FP.dmul (FP.i2d ((p1 &&& (8388607 : Int32)) + (1 : Int32))) (4499096027743125504 : UInt64))), .second, .val (.int (1 : Int32))] [(.int (cmpValue (FP.dcmp (f1 (p1 &&& (8388607 : Int32)) (4499096027743125504 : UInt64)) (FP.dadd (FP.dmul (FP.i2d (p1 &&& (8388607 : Int32))) (4499096027743125504 : UInt64)) (FP.dmul (FP.dmul (4611686018427387904 : UInt64) (FP.dmul (FP.i2d (p1 &&& (8388607 : Int32))) (4499096027743125504 : UInt64))) (FP.dmul (FP.i2d (p1 &&& (8388607 : Int32))) (4499096027743125504 : UInt64))))) .g))])) _
                  refine XS.ifNo X4.here hx rfl (hb hby at_270) rfl ((if0 _ _).trans (flt hc270_24).2.2.1) ?_
                  show Steps p.tables e below (T4.setTop (mkF m 273 #[.val (.int p1), .val (.int p2), .val (.int (p1 &&& (8388607 : Int32))), .val (.double (4499096027743125504 : UInt64)), .second, .val (.double (f1 (p1 &&& (8388607 : Int32)) (4499096027743125504 : UInt64))), .second, .val (.double (f1 ((p1 &&& (8388607 : Int32)) + (1 : Int32)) (4499096027743125504 : UInt64))), .second, .val (.double (FP.dmul (FP.i2d (p1 &&& (8388607 : Int32))) (4499096027743125504 : UInt64))), .second, .val (.double (FP.dmul (FP.i2d ((p1 &&& (8388607 : Int32)) + (1 : Int32))) (4499096027743125504 : UInt64))), .second, .val (.int (1 : Int32))] [])) _
                  refine XS.iconst X4.here hx rfl (hb hby at_273) ?_
                  show Steps p.tables e below (T4.setTop (mkF m 274 #[.val (.int p1), .val (.int p2), .val (.int (p1 &&& (8388607 : Int32))), .val (.double (4499096027743125504 : UInt64)), .second, .val (.double (f1 (p1 &&& (8388607 : Int32)) (4499096027743125504 : UInt64))), .second, .val (.double (f1 ((p1 &&& (8388607 : Int32)) + (1 : Int32)) (4499096027743125504 : UInt64))), .second, .val (.double (FP.dmul (FP.i2d (p1 &&& (8388607 : Int32))) (4499096027743125504 : UInt64))), .second, .val (.double (FP.dmul (FP.i2d ((p1 &&& (8388607 : Int32)) + (1 : Int32))) (4499096027743125504 : UInt64))), .second, .val (.int (1 : Int32))] [(.int (1 : Int32))])) _
                  refine XS.goto X4.here hx rfl (pc0 := 274) (pc' := 278) rfl (hb hby at_274) (by decide) (by decide) ?_
                  show Steps p.tables e below (T4.setTop (mkF m 278 #[.val (.int p1), .val (.int p2), .val (.int (p1 &&& (8388607 : Int32))), .val (.double (4499096027743125504 : UInt64)), .second, .val (.double (f1 (p1 &&& (8388607 : Int32)) (4499096027743125504 : UInt64))), .second, .val (.double (f1 ((p1 &&& (8388607 : Int32)) + (1 : Int32)) (4499096027743125504 : UInt64))), .second, .val (.double (FP.dmul (FP.i2d (p1 &&& (8388607 : Int32))) (4499096027743125504 : UInt64))), .second, .val (.double (FP.dmul (FP.i2d ((p1 &&& (8388607 : Int32)) + (1 : Int32))) (4499096027743125504 : UInt64))), .second, .val (.int (1 : Int32))] [(.int (1 : Int32))])) _
                  exact retN X4 hx (t := .boolean) Bd.returns (by simp) (hb hby at_278) hr
                · show Q0 Z p1 p2 h0 n0 _ T4.heap _
                  rw [e4]
                  refine ⟨?_, N4, rfl⟩
                  rw [show f0 p1 p2 = (1 : Int32) from (by skip; simp only [f0, if_pos hc8_2, if_neg hc172_6, if_neg hc186_10, if_neg hc204_14, if_neg hc215_18, if_neg hc252_22, if_neg hc270_24])]
  · obtain ⟨_, _, ⟨T25, L25, k25, n25⟩, -, X25, ⟨Lc25, hQ25, l25, y25, z25⟩, st25⟩ := Jvm.LawKit.callS X0 hx (y := (⟨"com/example/nearfield/nearfield/engine/FloatRounding", "gamma", "(ID)D"⟩ : MethodName)) hown (mvT hZ (hw _ (List.mem_of_getElem? (i := 2) rfl))) (mvT hZ (hw _ (List.mem_of_getElem? (i := 3) rfl))) (mvT hZ (hw _ (List.mem_of_getElem? (i := 4) rfl))) (mvT hZ (hw _ (List.mem_of_getElem? (i := 5) rfl))) (by decide) (backOf (W := 0) (rm1 l Z a0 hw [] (p1 &&& (8388607 : Int32)) (4368491638549381120 : UInt64)  h0 n0  (own_nm53 (own_ok0 p1)) (own_ns53 (own_ok0 p1)) (own_nd53 (own_ok0 p1))) hZ (hw _ (List.mem_of_getElem? (i := 5) rfl)) (hw _ (List.mem_of_getElem? (i := 4) rfl)) (by decide) (by decide)) (g := (mkF m 17 #[.val (.int p1), .val (.int p2), .val (.int (p1 &&& (8388607 : Int32))), .val (.double (4368491638549381120 : UInt64)), .second, .unset, .unset, .unset, .unset, .unset, .unset, .unset, .unset, .unset] [(.double (4368491638549381120 : UInt64)), (.int (p1 &&& (8388607 : Int32)))])) rfl (by rw [hml]; rfl) (argsL := [(.int (p1 &&& (8388607 : Int32))), (.double (4368491638549381120 : UInt64))]) (rest := []) (lenOf pd0 rfl) rfl (by show 2 * 0 + _ ≤ _; exact Nat.le_of_eq rfl) (hb hby at_17) (fun _ _ => ⟨rfl, e0, (by decide : 0 + 0 ≤ _), (by decide : 0 + 0 ≤ _)⟩)
    dsimp only [Pt.U, Pt.locs, Pt.cells, Pt.slots] at X25 l25 y25 z25 st25 hQ25
    subst l25 y25 z25
    obtain ⟨rfl, N25q, e25⟩ := hQ25
    have N25 := Fr.app N0 N25q
    obtain ⟨_, _, ⟨T26, L26, k26, n26⟩, -, X26, ⟨Lc26, hQ26, l26, y26, z26⟩, st26⟩ := Jvm.LawKit.callS X25 hx (y := (⟨"com/example/nearfield/nearfield/engine/FloatRounding", "gamma", "(ID)D"⟩ : MethodName)) hown (mvT hZ (hw _ (List.mem_of_getElem? (i := 2) rfl))) (mvT hZ (hw _ (List.mem_of_getElem? (i := 3) rfl))) (mvT hZ (hw _ (List.mem_of_getElem? (i := 4) rfl))) (mvT hZ (hw _ (List.mem_of_getElem? (i := 5) rfl))) (by decide) (backOf (W := 0) (rm1 l Z a0 hw [] ((p1 &&& (8388607 : Int32)) + (1 : Int32)) (4368491638549381120 : UInt64)  h0 n0  (own_nm53 (own_ok1 p1)) (own_ns53 (own_ok1 p1)) (own_nd53 (own_ok1 p1))) hZ (hw _ (List.mem_of_getElem? (i := 5) rfl)) (hw _ (List.mem_of_getElem? (i := 4) rfl)) (by decide) (by decide)) (g := (mkF m 26 #[.val (.int p1), .val (.int p2), .val (.int (p1 &&& (8388607 : Int32))), .val (.double (4368491638549381120 : UInt64)), .second, .val (.double (f1 (p1 &&& (8388607 : Int32)) (4368491638549381120 : UInt64))), .second, .unset, .unset, .unset, .unset, .unset, .unset, .unset] [(.double (4368491638549381120 : UInt64)), (.int ((p1 &&& (8388607 : Int32)) + (1 : Int32)))])) rfl (by rw [hml]; rfl) (argsL := [(.int ((p1 &&& (8388607 : Int32)) + (1 : Int32))), (.double (4368491638549381120 : UInt64))]) (rest := []) (lenOf pd0 rfl) rfl (by show 2 * 0 + _ ≤ _; exact Nat.le_of_eq rfl) (hb hby at_26) (fun _ _ => ⟨rfl, e25, (by decide : 0 + 0 ≤ _), (by decide : 0 + 0 ≤ _)⟩)
    dsimp only [Pt.U, Pt.locs, Pt.cells, Pt.slots] at X26 l26 y26 z26 st26 hQ26
    subst l26 y26 z26
    obtain ⟨rfl, N26q, e26⟩ := hQ26
    have N26 := Fr.app N25 N26q
    have pre27 : ∀ t, Steps p.tables e below (T26.setTop (mkF m 50 #[.val (.int p1), .val (.int p2), .val (.int (p1 &&& (8388607 : Int32))), .val (.double (4368491638549381120 : UInt64)), .second, .val (.double (f1 (p1 &&& (8388607 : Int32)) (4368491638549381120 : UInt64))), .second, .val (.double (f1 ((p1 &&& (8388607 : Int32)) + (1 : Int32)) (4368491638549381120 : UInt64))), .second, .val (.double (FP.dmul (FP.i2d (p1 &&& (8388607 : Int32))) (4368491638549381120 : UInt64))), .second, .val (.double (FP.dmul (FP.i2d ((p1 &&& (8388607 : Int32)) + (1 : Int32))) (4368491638549381120 : UInt64))), .second, .unset] [(.int (cmpValue (FP.dcmp (f1 (p1 &&& (8388607 : Int32)) (4368491638549381120 : UInt64)) (f1 ((p1 &&& (8388607 : Int32)) + (1 : Int32)) (4368491638549381120 : UInt64))) .g))])) t → Steps p.tables e below (s₁.setTop (entryFrame m #[(.int p1), (.int p2)] maxLocals)) t := by
      intro t k
      refine pre1 t ?_
      show Steps p.tables e below (s₁.setTop (mkF m 8 #[.val (.int p1), .val (.int p2), .val (.int (p1 &&& (8388607 : Int32))), .unset, .unset, .unset, .unset, .unset, .unset, .unset, .unset, .unset, .unset, .unset] [(.int (p2 &&& (1 : Int32)))])) _
      refine XS.ifNo X0.here hx rfl (hb hby at_8) rfl ((if0 _ _).trans (feq hc8_2).1) ?_
      show Steps p.tables e below (s₁.setTop (mkF m 11 #[.val (.int p1), .val (.int p2), .val (.int (p1 &&& (8388607 : Int32))), .unset, .unset, .unset, .unset, .unset, .unset, .unset, .unset, .unset, .unset, .unset] [])) _
      refine X0.ldc2DoubleC hx hown (mvT hZ (hw _ (List.mem_of_getElem? (i := 1) rfl))) (g := (mkF m 11 #[.val (.int p1), .val (.int p2), .val (.int (p1 &&& (8388607 : Int32))), .unset, .unset, .unset, .unset, .unset, .unset, .unset, .unset, .unset, .unset, .unset] [])) rfl (hb hby at_11) _ ?_
      show Steps p.tables e below (s₁.setTop (mkF m 14 #[.val (.int p1), .val (.int p2), .val (.int (p1 &&& (8388607 : Int32))), .unset, .unset, .unset, .unset, .unset, .unset, .unset, .unset, .unset, .unset, .unset] [(.double (4368491638549381120 : UInt64))])) _
      refine XS.dstoreN X0.here hx rfl (hb hby at_14) rfl (l' := #[.val (.int p1), .val (.int p2), .val (.int (p1 &&& (8388607 : Int32))), .val (.double (4368491638549381120 : UInt64)), .second, .unset, .unset, .unset, .unset, .unset, .unset, .unset, .unset, .unset]) rfl ?_
      show Steps p.tables e below (s₁.setTop (mkF m 15 #[.val (.int p1), .val (.int p2), .val (.int (p1 &&& (8388607 : Int32))), .val (.double (4368491638549381120 : UInt64)), .second, .unset, .unset, .unset, .unset, .unset, .unset, .unset, .unset, .unset] [])) _
      refine XS.iloadN X0.here hx rfl (hb hby at_15) rfl ?_
      show Steps p.tables e below (s₁.setTop (mkF m 16 #[.val (.int p1), .val (.int p2), .val (.int (p1 &&& (8388607 : Int32))), .val (.double (4368491638549381120 : UInt64)), .second, .unset, .unset, .unset, .unset, .unset, .unset, .unset, .unset, .unset] [(.int (p1 &&& (8388607 : Int32)))])) _
      refine XS.dloadN X0.here hx rfl (hb hby at_16) rfl ?_
      show Steps p.tables e below (s₁.setTop (mkF m 17 #[.val (.int p1), .val (.int p2), .val (.int (p1 &&& (8388607 : Int32))), .val (.double (4368491638549381120 : UInt64)), .second, .unset, .unset, .unset, .unset, .unset, .unset, .unset, .unset, .unset] [(.double (4368491638549381120 : UInt64)), (.int (p1 &&& (8388607 : Int32)))])) _
      refine st25 _ ?_
      show Steps p.tables e below (T25.setTop (mkF m 20 #[.val (.int p1), .val (.int p2), .val (.int (p1 &&& (8388607 : Int32))), .val (.double (4368491638549381120 : UInt64)), .second, .unset, .unset, .unset, .unset, .unset, .unset, .unset, .unset, .unset] [(.double (f1 (p1 &&& (8388607 : Int32)) (4368491638549381120 : UInt64)))])) _
      refine XS.dstore X25.here hx rfl (hb hby at_20) rfl (l' := #[.val (.int p1), .val (.int p2), .val (.int (p1 &&& (8388607 : Int32))), .val (.double (4368491638549381120 : UInt64)), .second, .val (.double (f1 (p1 &&& (8388607 : Int32)) (4368491638549381120 : UInt64))), .second, .unset, .unset, .unset, .unset, .unset, .unset, .unset]) rfl ?_
      show Steps p.tables e below (T25.setTop (mkF m 22 #[.val (.int p1), .val (.int p2), .val (.int (p1 &&& (8388607 : Int32))), .val (.double (4368491638549381120 : UInt64)), .second, .val (.double (f1 (p1 &&& (8388607 : Int32)) (4368491638549381120 : UInt64))), .second, .unset, .unset, .unset, .unset, .unset, .unset, .unset] [])) _
      refine XS.iloadN X25.here hx rfl (hb hby at_22) rfl ?_
      show Steps p.tables e below (T25.setTop (mkF m 23 #[.val (.int p1), .val (.int p2), .val (.int (p1 &&& (8388607 : Int32))), .val (.double (4368491638549381120 : UInt64)), .second, .val (.double (f1 (p1 &&& (8388607 : Int32)) (4368491638549381120 : UInt64))), .second, .unset, .unset, .unset, .unset, .unset, .unset, .unset] [(.int (p1 &&& (8388607 : Int32)))])) _
      refine XS.iconst X25.here hx rfl (hb hby at_23) ?_
      show Steps p.tables e below (T25.setTop (mkF m 24 #[.val (.int p1), .val (.int p2), .val (.int (p1 &&& (8388607 : Int32))), .val (.double (4368491638549381120 : UInt64)), .second, .val (.double (f1 (p1 &&& (8388607 : Int32)) (4368491638549381120 : UInt64))), .second, .unset, .unset, .unset, .unset, .unset, .unset, .unset] [(.int (1 : Int32)), (.int (p1 &&& (8388607 : Int32)))])) _
      refine XS.iadd X25.here hx rfl (hb hby at_24) rfl ?_
      show Steps p.tables e below (T25.setTop (mkF m 25 #[.val (.int p1), .val (.int p2), .val (.int (p1 &&& (8388607 : Int32))), .val (.double (4368491638549381120 : UInt64)), .second, .val (.double (f1 (p1 &&& (8388607 : Int32)) (4368491638549381120 : UInt64))), .second, .unset, .unset, .unset, .unset, .unset, .unset, .unset] [(.int ((p1 &&& (8388607 : Int32)) + (1 : Int32)))])) _
      refine XS.dloadN X25.here hx rfl (hb hby at_25) rfl ?_
      show Steps p.tables e below (T25.setTop (mkF m 26 #[.val (.int p1), .val (.int p2), .val (.int (p1 &&& (8388607 : Int32))), .val (.double (4368491638549381120 : UInt64)), .second, .val (.double (f1 (p1 &&& (8388607 : Int32)) (4368491638549381120 : UInt64))), .second, .unset, .unset, .unset, .unset, .unset, .unset, .unset] [(.double (4368491638549381120 : UInt64)), (.int ((p1 &&& (8388607 : Int32)) + (1 : Int32)))])) _
      refine st26 _ ?_
      show Steps p.tables e below (T26.setTop (mkF m 29 #[.val (.int p1), .val (.int p2), .val (.int (p1 &&& (8388607 : Int32))), .val (.double (4368491638549381120 : UInt64)), .second, .val (.double (f1 (p1 &&& (8388607 : Int32)) (4368491638549381120 : UInt64))), .second, .unset, .unset, .unset, .unset, .unset, .unset, .unset] [(.double (f1 ((p1 &&& (8388607 : Int32)) + (1 : Int32)) (4368491638549381120 : UInt64)))])) _
      refine XS.dstore X26.here hx rfl (hb hby at_29) rfl (l' := #[.val (.int p1), .val (.int p2), .val (.int (p1 &&& (8388607 : Int32))), .val (.double (4368491638549381120 : UInt64)), .second, .val (.double (f1 (p1 &&& (8388607 : Int32)) (4368491638549381120 : UInt64))), .second, .val (.double (f1 ((p1 &&& (8388607 : Int32)) + (1 : Int32)) (4368491638549381120 : UInt64))), .second, .unset, .unset, .unset, .unset, .unset]) rfl ?_
      show Steps p.tables e below (T26.setTop (mkF m 31 #[.val (.int p1), .val (.int p2), .val (.int (p1 &&& (8388607 : Int32))), .val (.double (4368491638549381120 : UInt64)), .second, .val (.double (f1 (p1 &&& (8388607 : Int32)) (4368491638549381120 : UInt64))), .second, .val (.double (f1 ((p1 &&& (8388607 : Int32)) + (1 : Int32)) (4368491638549381120 : UInt64))), .second, .unset, .unset, .unset, .unset, .unset] [])) _
      refine XS.iloadN X26.here hx rfl (hb hby at_31) rfl ?_
      show Steps p.tables e below (T26.setTop (mkF m 32 #[.val (.int p1), .val (.int p2), .val (.int (p1 &&& (8388607 : Int32))), .val (.double (4368491638549381120 : UInt64)), .second, .val (.double (f1 (p1 &&& (8388607 : Int32)) (4368491638549381120 : UInt64))), .second, .val (.double (f1 ((p1 &&& (8388607 : Int32)) + (1 : Int32)) (4368491638549381120 : UInt64))), .second, .unset, .unset, .unset, .unset, .unset] [(.int (p1 &&& (8388607 : Int32)))])) _
      refine XS.i2dS X26.here hx rfl (hb hby at_32) rfl rfl ?_
      show Steps p.tables e below (T26.setTop (mkF m 33 #[.val (.int p1), .val (.int p2), .val (.int (p1 &&& (8388607 : Int32))), .val (.double (4368491638549381120 : UInt64)), .second, .val (.double (f1 (p1 &&& (8388607 : Int32)) (4368491638549381120 : UInt64))), .second, .val (.double (f1 ((p1 &&& (8388607 : Int32)) + (1 : Int32)) (4368491638549381120 : UInt64))), .second, .unset, .unset, .unset, .unset, .unset] [(.double (FP.i2d (p1 &&& (8388607 : Int32))))])) _
      refine XS.dloadN X26.here hx rfl (hb hby at_33) rfl ?_
      show Steps p.tables e below (T26.setTop (mkF m 34 #[.val (.int p1), .val (.int p2), .val (.int (p1 &&& (8388607 : Int32))), .val (.double (4368491638549381120 : UInt64)), .second, .val (.double (f1 (p1 &&& (8388607 : Int32)) (4368491638549381120 : UInt64))), .second, .val (.double (f1 ((p1 &&& (8388607 : Int32)) + (1 : Int32)) (4368491638549381120 : UInt64))), .second, .unset, .unset, .unset, .unset, .unset] [(.double (4368491638549381120 : UInt64)), (.double (FP.i2d (p1 &&& (8388607 : Int32))))])) _
      refine XS.dmulS X26.here hx rfl (hb hby at_34) rfl (own_nm53 (own_ok0 p1)) rfl ?_
      show Steps p.tables e below (T26.setTop (mkF m 35 #[.val (.int p1), .val (.int p2), .val (.int (p1 &&& (8388607 : Int32))), .val (.double (4368491638549381120 : UInt64)), .second, .val (.double (f1 (p1 &&& (8388607 : Int32)) (4368491638549381120 : UInt64))), .second, .val (.double (f1 ((p1 &&& (8388607 : Int32)) + (1 : Int32)) (4368491638549381120 : UInt64))), .second, .unset, .unset, .unset, .unset, .unset] [(.double (FP.dmul (FP.i2d (p1 &&& (8388607 : Int32))) (4368491638549381120 : UInt64)))])) _
      refine XS.dstore X26.here hx rfl (hb hby at_35) rfl (l' := #[.val (.int p1), .val (.int p2), .val (.int (p1 &&& (8388607 : Int32))), .val (.double (4368491638549381120 : UInt64)), .second, .val (.double (f1 (p1 &&& (8388607 : Int32)) (4368491638549381120 : UInt64))), .second, .val (.double (f1 ((p1 &&& (8388607 : Int32)) + (1 : Int32)) (4368491638549381120 : UInt64))), .second, .val (.double (FP.dmul (FP.i2d (p1 &&& (8388607 : Int32))) (4368491638549381120 : UInt64))), .second, .unset, .unset, .unset]) rfl ?_
      show Steps p.tables e below (T26.setTop (mkF m 37 #[.val (.int p1), .val (.int p2), .val (.int (p1 &&& (8388607 : Int32))), .val (.double (4368491638549381120 : UInt64)), .second, .val (.double (f1 (p1 &&& (8388607 : Int32)) (4368491638549381120 : UInt64))), .second, .val (.double (f1 ((p1 &&& (8388607 : Int32)) + (1 : Int32)) (4368491638549381120 : UInt64))), .second, .val (.double (FP.dmul (FP.i2d (p1 &&& (8388607 : Int32))) (4368491638549381120 : UInt64))), .second, .unset, .unset, .unset] [])) _
      refine XS.iloadN X26.here hx rfl (hb hby at_37) rfl ?_
      show Steps p.tables e below (T26.setTop (mkF m 38 #[.val (.int p1), .val (.int p2), .val (.int (p1 &&& (8388607 : Int32))), .val (.double (4368491638549381120 : UInt64)), .second, .val (.double (f1 (p1 &&& (8388607 : Int32)) (4368491638549381120 : UInt64))), .second, .val (.double (f1 ((p1 &&& (8388607 : Int32)) + (1 : Int32)) (4368491638549381120 : UInt64))), .second, .val (.double (FP.dmul (FP.i2d (p1 &&& (8388607 : Int32))) (4368491638549381120 : UInt64))), .second, .unset, .unset, .unset] [(.int (p1 &&& (8388607 : Int32)))])) _
      refine XS.iconst X26.here hx rfl (hb hby at_38) ?_
      show Steps p.tables e below (T26.setTop (mkF m 39 #[.val (.int p1), .val (.int p2), .val (.int (p1 &&& (8388607 : Int32))), .val (.double (4368491638549381120 : UInt64)), .second, .val (.double (f1 (p1 &&& (8388607 : Int32)) (4368491638549381120 : UInt64))), .second, .val (.double (f1 ((p1 &&& (8388607 : Int32)) + (1 : Int32)) (4368491638549381120 : UInt64))), .second, .val (.double (FP.dmul (FP.i2d (p1 &&& (8388607 : Int32))) (4368491638549381120 : UInt64))), .second, .unset, .unset, .unset] [(.int (1 : Int32)), (.int (p1 &&& (8388607 : Int32)))])) _
      refine XS.iadd X26.here hx rfl (hb hby at_39) rfl ?_
      show Steps p.tables e below (T26.setTop (mkF m 40 #[.val (.int p1), .val (.int p2), .val (.int (p1 &&& (8388607 : Int32))), .val (.double (4368491638549381120 : UInt64)), .second, .val (.double (f1 (p1 &&& (8388607 : Int32)) (4368491638549381120 : UInt64))), .second, .val (.double (f1 ((p1 &&& (8388607 : Int32)) + (1 : Int32)) (4368491638549381120 : UInt64))), .second, .val (.double (FP.dmul (FP.i2d (p1 &&& (8388607 : Int32))) (4368491638549381120 : UInt64))), .second, .unset, .unset, .unset] [(.int ((p1 &&& (8388607 : Int32)) + (1 : Int32)))])) _
      refine XS.i2dS X26.here hx rfl (hb hby at_40) rfl rfl ?_
      show Steps p.tables e below (T26.setTop (mkF m 41 #[.val (.int p1), .val (.int p2), .val (.int (p1 &&& (8388607 : Int32))), .val (.double (4368491638549381120 : UInt64)), .second, .val (.double (f1 (p1 &&& (8388607 : Int32)) (4368491638549381120 : UInt64))), .second, .val (.double (f1 ((p1 &&& (8388607 : Int32)) + (1 : Int32)) (4368491638549381120 : UInt64))), .second, .val (.double (FP.dmul (FP.i2d (p1 &&& (8388607 : Int32))) (4368491638549381120 : UInt64))), .second, .unset, .unset, .unset] [(.double (FP.i2d ((p1 &&& (8388607 : Int32)) + (1 : Int32))))])) _
      refine XS.dloadN X26.here hx rfl (hb hby at_41) rfl ?_
      show Steps p.tables e below (T26.setTop (mkF m 42 #[.val (.int p1), .val (.int p2), .val (.int (p1 &&& (8388607 : Int32))), .val (.double (4368491638549381120 : UInt64)), .second, .val (.double (f1 (p1 &&& (8388607 : Int32)) (4368491638549381120 : UInt64))), .second, .val (.double (f1 ((p1 &&& (8388607 : Int32)) + (1 : Int32)) (4368491638549381120 : UInt64))), .second, .val (.double (FP.dmul (FP.i2d (p1 &&& (8388607 : Int32))) (4368491638549381120 : UInt64))), .second, .unset, .unset, .unset] [(.double (4368491638549381120 : UInt64)), (.double (FP.i2d ((p1 &&& (8388607 : Int32)) + (1 : Int32))))])) _
      refine XS.dmulS X26.here hx rfl (hb hby at_42) rfl (own_nm53 (own_ok1 p1)) rfl ?_
      show Steps p.tables e below (T26.setTop (mkF m 43 #[.val (.int p1), .val (.int p2), .val (.int (p1 &&& (8388607 : Int32))), .val (.double (4368491638549381120 : UInt64)), .second, .val (.double (f1 (p1 &&& (8388607 : Int32)) (4368491638549381120 : UInt64))), .second, .val (.double (f1 ((p1 &&& (8388607 : Int32)) + (1 : Int32)) (4368491638549381120 : UInt64))), .second, .val (.double (FP.dmul (FP.i2d (p1 &&& (8388607 : Int32))) (4368491638549381120 : UInt64))), .second, .unset, .unset, .unset] [(.double (FP.dmul (FP.i2d ((p1 &&& (8388607 : Int32)) + (1 : Int32))) (4368491638549381120 : UInt64)))])) _
      refine XS.dstore X26.here hx rfl (hb hby at_43) rfl (l' := #[.val (.int p1), .val (.int p2), .val (.int (p1 &&& (8388607 : Int32))), .val (.double (4368491638549381120 : UInt64)), .second, .val (.double (f1 (p1 &&& (8388607 : Int32)) (4368491638549381120 : UInt64))), .second, .val (.double (f1 ((p1 &&& (8388607 : Int32)) + (1 : Int32)) (4368491638549381120 : UInt64))), .second, .val (.double (FP.dmul (FP.i2d (p1 &&& (8388607 : Int32))) (4368491638549381120 : UInt64))), .second, .val (.double (FP.dmul (FP.i2d ((p1 &&& (8388607 : Int32)) + (1 : Int32))) (4368491638549381120 : UInt64))), .second, .unset]) rfl ?_
      show Steps p.tables e below (T26.setTop (mkF m 45 #[.val (.int p1), .val (.int p2), .val (.int (p1 &&& (8388607 : Int32))), .val (.double (4368491638549381120 : UInt64)), .second, .val (.double (f1 (p1 &&& (8388607 : Int32)) (4368491638549381120 : UInt64))), .second, .val (.double (f1 ((p1 &&& (8388607 : Int32)) + (1 : Int32)) (4368491638549381120 : UInt64))), .second, .val (.double (FP.dmul (FP.i2d (p1 &&& (8388607 : Int32))) (4368491638549381120 : UInt64))), .second, .val (.double (FP.dmul (FP.i2d ((p1 &&& (8388607 : Int32)) + (1 : Int32))) (4368491638549381120 : UInt64))), .second, .unset] [])) _
      refine XS.dload X26.here hx rfl (hb hby at_45) rfl ?_
      show Steps p.tables e below (T26.setTop (mkF m 47 #[.val (.int p1), .val (.int p2), .val (.int (p1 &&& (8388607 : Int32))), .val (.double (4368491638549381120 : UInt64)), .second, .val (.double (f1 (p1 &&& (8388607 : Int32)) (4368491638549381120 : UInt64))), .second, .val (.double (f1 ((p1 &&& (8388607 : Int32)) + (1 : Int32)) (4368491638549381120 : UInt64))), .second, .val (.double (FP.dmul (FP.i2d (p1 &&& (8388607 : Int32))) (4368491638549381120 : UInt64))), .second, .val (.double (FP.dmul (FP.i2d ((p1 &&& (8388607 : Int32)) + (1 : Int32))) (4368491638549381120 : UInt64))), .second, .unset] [(.double (f1 (p1 &&& (8388607 : Int32)) (4368491638549381120 : UInt64)))])) _
      refine XS.dload X26.here hx rfl (hb hby at_47) rfl ?_
      show Steps p.tables e below (T26.setTop (mkF m 49 #[.val (.int p1), .val (.int p2), .val (.int (p1 &&& (8388607 : Int32))), .val (.double (4368491638549381120 : UInt64)), .second, .val (.double (f1 (p1 &&& (8388607 : Int32)) (4368491638549381120 : UInt64))), .second, .val (.double (f1 ((p1 &&& (8388607 : Int32)) + (1 : Int32)) (4368491638549381120 : UInt64))), .second, .val (.double (FP.dmul (FP.i2d (p1 &&& (8388607 : Int32))) (4368491638549381120 : UInt64))), .second, .val (.double (FP.dmul (FP.i2d ((p1 &&& (8388607 : Int32)) + (1 : Int32))) (4368491638549381120 : UInt64))), .second, .unset] [(.double (f1 ((p1 &&& (8388607 : Int32)) + (1 : Int32)) (4368491638549381120 : UInt64))), (.double (f1 (p1 &&& (8388607 : Int32)) (4368491638549381120 : UInt64)))])) _
      refine XS.dcmpS X26.here hx rfl (hb hby at_49) rfl rfl ?_
      exact k
    by_cases hc50_28 : (0 : Int32) < (cmpValue (FP.dcmp (f1 (p1 &&& (8388607 : Int32)) (4368491638549381120 : UInt64)) (f1 ((p1 &&& (8388607 : Int32)) + (1 : Int32)) (4368491638549381120 : UInt64))) .g)
    · have pre29 : ∀ t, Steps p.tables e below (T26.setTop (mkF m 81 #[.val (.int p1), .val (.int p2), .val (.int (p1 &&& (8388607 : Int32))), .val (.double (4368491638549381120 : UInt64)), .second, .val (.double (f1 (p1 &&& (8388607 : Int32)) (4368491638549381120 : UInt64))), .second, .val (.double (f1 ((p1 &&& (8388607 : Int32)) + (1 : Int32)) (4368491638549381120 : UInt64))), .second, .val (.double (FP.dmul (FP.i2d (p1 &&& (8388607 : Int32))) (4368491638549381120 : UInt64))), .second, .val (.double (FP.dmul (FP.i2d ((p1 &&& (8388607 : Int32)) + (1 : Int32))) (4368491638549381120 : UInt64))), .second, .val (.int (0 : Int32))] [(.int (p1 &&& (8388607 : Int32)))])) t → Steps p.tables e below (s₁.setTop (entryFrame m #[(.int p1), (.int p2)] maxLocals)) t := by
        intro t k
        refine pre27 t ?_
        show Steps p.tables e below (T26.setTop (mkF m 50 #[.val (.int p1), .val (.int p2), .val (.int (p1 &&& (8388607 : Int32))), .val (.double (4368491638549381120 : UInt64)), .second, .val (.double (f1 (p1 &&& (8388607 : Int32)) (4368491638549381120 : UInt64))), .second, .val (.double (f1 ((p1 &&& (8388607 : Int32)) + (1 : Int32)) (4368491638549381120 : UInt64))), .second, .val (.double (FP.dmul (FP.i2d (p1 &&& (8388607 : Int32))) (4368491638549381120 : UInt64))), .second, .val (.double (FP.dmul (FP.i2d ((p1 &&& (8388607 : Int32)) + (1 : Int32))) (4368491638549381120 : UInt64))), .second, .unset] [(.int (cmpValue (FP.dcmp (f1 (p1 &&& (8388607 : Int32)) (4368491638549381120 : UInt64)) (f1 ((p1 &&& (8388607 : Int32)) + (1 : Int32)) (4368491638549381120 : UInt64))) .g))])) _
        refine XS.ifYes X26.here hx rfl (pc0 := 50) (pc' := 77) rfl (hb hby at_50) rfl ((if0 _ _).trans (tlt hc50_28).2.2.1) (by decide) (by decide) ?_
        show Steps p.tables e below (T26.setTop (mkF m 77 #[.val (.int p1), .val (.int p2), .val (.int (p1 &&& (8388607 : Int32))), .val (.double (4368491638549381120 : UInt64)), .second, .val (.double (f1 (p1 &&& (8388607 : Int32)) (4368491638549381120 : UInt64))), .second, .val (.double (f1 ((p1 &&& (8388607 : Int32)) + (1 : Int32)) (4368491638549381120 : UInt64))), .second, .val (.double (FP.dmul (FP.i2d (p1 &&& (8388607 : Int32))) (4368491638549381120 : UInt64))), .second, .val (.double (FP.dmul (FP.i2d ((p1 &&& (8388607 : Int32)) + (1 : Int32))) (4368491638549381120 : UInt64))), .second, .unset] [])) _
        refine XS.iconst X26.here hx rfl (hb hby at_77) ?_
        show Steps p.tables e below (T26.setTop (mkF m 78 #[.val (.int p1), .val (.int p2), .val (.int (p1 &&& (8388607 : Int32))), .val (.double (4368491638549381120 : UInt64)), .second, .val (.double (f1 (p1 &&& (8388607 : Int32)) (4368491638549381120 : UInt64))), .second, .val (.double (f1 ((p1 &&& (8388607 : Int32)) + (1 : Int32)) (4368491638549381120 : UInt64))), .second, .val (.double (FP.dmul (FP.i2d (p1 &&& (8388607 : Int32))) (4368491638549381120 : UInt64))), .second, .val (.double (FP.dmul (FP.i2d ((p1 &&& (8388607 : Int32)) + (1 : Int32))) (4368491638549381120 : UInt64))), .second, .unset] [(.int (0 : Int32))])) _
        refine XS.istore X26.here hx rfl (hb hby at_78) rfl (l' := #[.val (.int p1), .val (.int p2), .val (.int (p1 &&& (8388607 : Int32))), .val (.double (4368491638549381120 : UInt64)), .second, .val (.double (f1 (p1 &&& (8388607 : Int32)) (4368491638549381120 : UInt64))), .second, .val (.double (f1 ((p1 &&& (8388607 : Int32)) + (1 : Int32)) (4368491638549381120 : UInt64))), .second, .val (.double (FP.dmul (FP.i2d (p1 &&& (8388607 : Int32))) (4368491638549381120 : UInt64))), .second, .val (.double (FP.dmul (FP.i2d ((p1 &&& (8388607 : Int32)) + (1 : Int32))) (4368491638549381120 : UInt64))), .second, .val (.int (0 : Int32))]) rfl ?_
        show Steps p.tables e below (T26.setTop (mkF m 80 #[.val (.int p1), .val (.int p2), .val (.int (p1 &&& (8388607 : Int32))), .val (.double (4368491638549381120 : UInt64)), .second, .val (.double (f1 (p1 &&& (8388607 : Int32)) (4368491638549381120 : UInt64))), .second, .val (.double (f1 ((p1 &&& (8388607 : Int32)) + (1 : Int32)) (4368491638549381120 : UInt64))), .second, .val (.double (FP.dmul (FP.i2d (p1 &&& (8388607 : Int32))) (4368491638549381120 : UInt64))), .second, .val (.double (FP.dmul (FP.i2d ((p1 &&& (8388607 : Int32)) + (1 : Int32))) (4368491638549381120 : UInt64))), .second, .val (.int (0 : Int32))] [])) _
        refine XS.iloadN X26.here hx rfl (hb hby at_80) rfl ?_
        exact k
      by_cases hc81_30 : (p1 &&& (8388607 : Int32)) = (0 : Int32)
      · refine hneg ?_
        obtain ⟨fs, hr, hrun, hended, hW, hsame⟩ := X26.leave (v := some (.int (0 : Int32))) (fun h => by rw [Bd.returns] at h; cases h)
        refine ⟨_, _, pre29 _ ?_, hrun, hended, _, _, rfl, ?_, ⟨_, rfl⟩, hW, hsame.mono (by decide) (by decide)⟩
        · show Steps p.tables e below (T26.setTop (mkF m 81 #[.val (.int p1), .val (.int p2), .val (.int (p1 &&& (8388607 : Int32))), .val (.double (4368491638549381120 : UInt64)), .second, .val (.double (f1 (p1 &&& (8388607 : Int32)) (4368491638549381120 : UInt64))), .second, .val (.double (f1 ((p1 &&& (8388607 : Int32)) + (1 : Int32)) (4368491638549381120 : UInt64))), .second, .val (.double (FP.dmul (FP.i2d (p1 &&& (8388607 : Int32))) (4368491638549381120 : UInt64))), .second, .val (.double (FP.dmul (FP.i2d ((p1 &&& (8388607 : Int32)) + (1 : Int32))) (4368491638549381120 : UInt64))), .second, .val (.int (0 : Int32))] [(.int (p1 &&& (8388607 : Int32)))])) _
          refine XS.ifNo X26.here hx rfl (hb hby at_81) rfl ((if0 _ _).trans (teq hc81_30).2) ?_
          show Steps p.tables e below (T26.setTop (mkF m 84 #[.val (.int p1), .val (.int p2), .val (.int (p1 &&& (8388607 : Int32))), .val (.double (4368491638549381120 : UInt64)), .second, .val (.double (f1 (p1 &&& (8388607 : Int32)) (4368491638549381120 : UInt64))), .second, .val (.double (f1 ((p1 &&& (8388607 : Int32)) + (1 : Int32)) (4368491638549381120 : UInt64))), .second, .val (.double (FP.dmul (FP.i2d (p1 &&& (8388607 : Int32))) (4368491638549381120 : UInt64))), .second, .val (.double (FP.dmul (FP.i2d ((p1 &&& (8388607 : Int32)) + (1 : Int32))) (4368491638549381120 : UInt64))), .second, .val (.int (0 : Int32))] [])) _
          refine XS.iload X26.here hx rfl (hb hby at_84) rfl ?_
          show Steps p.tables e below (T26.setTop (mkF m 86 #[.val (.int p1), .val (.int p2), .val (.int (p1 &&& (8388607 : Int32))), .val (.double (4368491638549381120 : UInt64)), .second, .val (.double (f1 (p1 &&& (8388607 : Int32)) (4368491638549381120 : UInt64))), .second, .val (.double (f1 ((p1 &&& (8388607 : Int32)) + (1 : Int32)) (4368491638549381120 : UInt64))), .second, .val (.double (FP.dmul (FP.i2d (p1 &&& (8388607 : Int32))) (4368491638549381120 : UInt64))), .second, .val (.double (FP.dmul (FP.i2d ((p1 &&& (8388607 : Int32)) + (1 : Int32))) (4368491638549381120 : UInt64))), .second, .val (.int (0 : Int32))] [(.int (0 : Int32))])) _
          refine XS.ifYes X26.here hx rfl (pc0 := 86) (pc' := 100) rfl (hb hby at_86) rfl ((if0 _ _).trans (teq (by decide : (0 : Int32) = (0 : Int32))).1) (by decide) (by decide) ?_
          show Steps p.tables e below (T26.setTop (mkF m 100 #[.val (.int p1), .val (.int p2), .val (.int (p1 &&& (8388607 : Int32))), .val (.double (4368491638549381120 : UInt64)), .second, .val (.double (f1 (p1 &&& (8388607 : Int32)) (4368491638549381120 : UInt64))), .second, .val (.double (f1 ((p1 &&& (8388607 : Int32)) + (1 : Int32)) (4368491638549381120 : UInt64))), .second, .val (.double (FP.dmul (FP.i2d (p1 &&& (8388607 : Int32))) (4368491638549381120 : UInt64))), .second, .val (.double (FP.dmul (FP.i2d ((p1 &&& (8388607 : Int32)) + (1 : Int32))) (4368491638549381120 : UInt64))), .second, .val (.int (0 : Int32))] [])) _
          refine XS.iconst X26.here hx rfl (hb hby at_100) ?_
          show Steps p.tables e below (T26.setTop (mkF m 101 #[.val (.int p1), .val (.int p2), .val (.int (p1 &&& (8388607 : Int32))), .val (.double (4368491638549381120 : UInt64)), .second, .val (.double (f1 (p1 &&& (8388607 : Int32)) (4368491638549381120 : UInt64))), .second, .val (.double (f1 ((p1 &&& (8388607 : Int32)) + (1 : Int32)) (4368491638549381120 : UInt64))), .second, .val (.double (FP.dmul (FP.i2d (p1 &&& (8388607 : Int32))) (4368491638549381120 : UInt64))), .second, .val (.double (FP.dmul (FP.i2d ((p1 &&& (8388607 : Int32)) + (1 : Int32))) (4368491638549381120 : UInt64))), .second, .val (.int (0 : Int32))] [(.int (0 : Int32))])) _
          exact retN X26 hx (t := .boolean) Bd.returns (by simp) (hb hby at_101) hr
        · show Q0 Z p1 p2 h0 n0 _ T26.heap _
          rw [e26]
          refine ⟨?_, N26, rfl⟩
          rw [show f0 p1 p2 = (0 : Int32) from (by skip; simp only [f0, if_neg hc8_2, if_pos hc50_28, if_pos hc81_30])]
      · refine hneg ?_
        obtain ⟨fs, hr, hrun, hended, hW, hsame⟩ := X26.leave (v := some (.int (0 : Int32))) (fun h => by rw [Bd.returns] at h; cases h)
        refine ⟨_, _, pre29 _ ?_, hrun, hended, _, _, rfl, ?_, ⟨_, rfl⟩, hW, hsame.mono (by decide) (by decide)⟩
        · show Steps p.tables e below (T26.setTop (mkF m 81 #[.val (.int p1), .val (.int p2), .val (.int (p1 &&& (8388607 : Int32))), .val (.double (4368491638549381120 : UInt64)), .second, .val (.double (f1 (p1 &&& (8388607 : Int32)) (4368491638549381120 : UInt64))), .second, .val (.double (f1 ((p1 &&& (8388607 : Int32)) + (1 : Int32)) (4368491638549381120 : UInt64))), .second, .val (.double (FP.dmul (FP.i2d (p1 &&& (8388607 : Int32))) (4368491638549381120 : UInt64))), .second, .val (.double (FP.dmul (FP.i2d ((p1 &&& (8388607 : Int32)) + (1 : Int32))) (4368491638549381120 : UInt64))), .second, .val (.int (0 : Int32))] [(.int (p1 &&& (8388607 : Int32)))])) _
          refine XS.ifYes X26.here hx rfl (pc0 := 81) (pc' := 102) rfl (hb hby at_81) rfl ((if0 _ _).trans (feq hc81_30).2) (by decide) (by decide) ?_
          show Steps p.tables e below (T26.setTop (mkF m 102 #[.val (.int p1), .val (.int p2), .val (.int (p1 &&& (8388607 : Int32))), .val (.double (4368491638549381120 : UInt64)), .second, .val (.double (f1 (p1 &&& (8388607 : Int32)) (4368491638549381120 : UInt64))), .second, .val (.double (f1 ((p1 &&& (8388607 : Int32)) + (1 : Int32)) (4368491638549381120 : UInt64))), .second, .val (.double (FP.dmul (FP.i2d (p1 &&& (8388607 : Int32))) (4368491638549381120 : UInt64))), .second, .val (.double (FP.dmul (FP.i2d ((p1 &&& (8388607 : Int32)) + (1 : Int32))) (4368491638549381120 : UInt64))), .second, .val (.int (0 : Int32))] [])) _
          refine XS.iload X26.here hx rfl (hb hby at_102) rfl ?_
          show Steps p.tables e below (T26.setTop (mkF m 104 #[.val (.int p1), .val (.int p2), .val (.int (p1 &&& (8388607 : Int32))), .val (.double (4368491638549381120 : UInt64)), .second, .val (.double (f1 (p1 &&& (8388607 : Int32)) (4368491638549381120 : UInt64))), .second, .val (.double (f1 ((p1 &&& (8388607 : Int32)) + (1 : Int32)) (4368491638549381120 : UInt64))), .second, .val (.double (FP.dmul (FP.i2d (p1 &&& (8388607 : Int32))) (4368491638549381120 : UInt64))), .second, .val (.double (FP.dmul (FP.i2d ((p1 &&& (8388607 : Int32)) + (1 : Int32))) (4368491638549381120 : UInt64))), .second, .val (.int (0 : Int32))] [(.int (0 : Int32))])) _
          refine XS.ifYes X26.here hx rfl (pc0 := 104) (pc' := 131) rfl (hb hby at_104) rfl ((if0 _ _).trans (teq (by decide : (0 : Int32) = (0 : Int32))).1) (by decide) (by decide) ?_
          show Steps p.tables e below (T26.setTop (mkF m 131 #[.val (.int p1), .val (.int p2), .val (.int (p1 &&& (8388607 : Int32))), .val (.double (4368491638549381120 : UInt64)), .second, .val (.double (f1 (p1 &&& (8388607 : Int32)) (4368491638549381120 : UInt64))), .second, .val (.double (f1 ((p1 &&& (8388607 : Int32)) + (1 : Int32)) (4368491638549381120 : UInt64))), .second, .val (.double (FP.dmul (FP.i2d (p1 &&& (8388607 : Int32))) (4368491638549381120 : UInt64))), .second, .val (.double (FP.dmul (FP.i2d ((p1 &&& (8388607 : Int32)) + (1 : Int32))) (4368491638549381120 : UInt64))), .second, .val (.int (0 : Int32))] [])) _
          refine XS.iconst X26.here hx rfl (hb hby at_131) ?_
          show Steps p.tables e below (T26.setTop (mkF m 132 #[.val (.int p1), .val (.int p2), .val (.int (p1 &&& (8388607 : Int32))), .val (.double (4368491638549381120 : UInt64)), .second, .val (.double (f1 (p1 &&& (8388607 : Int32)) (4368491638549381120 : UInt64))), .second, .val (.double (f1 ((p1 &&& (8388607 : Int32)) + (1 : Int32)) (4368491638549381120 : UInt64))), .second, .val (.double (FP.dmul (FP.i2d (p1 &&& (8388607 : Int32))) (4368491638549381120 : UInt64))), .second, .val (.double (FP.dmul (FP.i2d ((p1 &&& (8388607 : Int32)) + (1 : Int32))) (4368491638549381120 : UInt64))), .second, .val (.int (0 : Int32))] [(.int (0 : Int32))])) _
          exact retN X26 hx (t := .boolean) Bd.returns (by simp) (hb hby at_132) hr
        · show Q0 Z p1 p2 h0 n0 _ T26.heap _
          rw [e26]
          refine ⟨?_, N26, rfl⟩
          rw [show f0 p1 p2 = (0 : Int32) from (by skip; simp only [f0, if_neg hc8_2, if_pos hc50_28, if_neg hc81_30])]
    · have pre31 : ∀ t, Steps p.tables e below (T26.setTop (mkF m 58 #[.val (.int p1), .val (.int p2), .val (.int (p1 &&& (8388607 : Int32))), .val (.double (4368491638549381120 : UInt64)), .second, .val (.double (f1 (p1 &&& (8388607 : Int32)) (4368491638549381120 : UInt64))), .second, .val (.double (f1 ((p1 &&& (8388607 : Int32)) + (1 : Int32)) (4368491638549381120 : UInt64))), .second, .val (.double (FP.dmul (FP.i2d (p1 &&& (8388607 : Int32))) (4368491638549381120 : UInt64))), .second, .val (.double (FP.dmul (FP.i2d ((p1 &&& (8388607 : Int32)) + (1 : Int32))) (4368491638549381120 : UInt64))), .second, .unset] [(.int (cmpValue (FP.dcmp (FP.dmul (FP.i2d ((p1 &&& (8388607 : Int32)) + (1 : Int32))) (4368491638549381120 : UInt64)) (f1 ((p1 &&& (8388607 : Int32)) + (1 : Int32)) (4368491638549381120 : UInt64))) .g))])) t → Steps p.tables e below (s₁.setTop (entryFrame m #[(.int p1), (.int p2)] maxLocals)) t := by
        intro t k
        refine pre27 t ?_
        show Steps p.tables e below (T26.setTop (mkF m 50 #[.val (.int p1), .val (.int p2), .val (.int (p1 &&& (8388607 : Int32))), .val (.double (4368491638549381120 : UInt64)), .second, .val (.double (f1 (p1 &&& (8388607 : Int32)) (4368491638549381120 : UInt64))), .second, .val (.double (f1 ((p1 &&& (8388607 : Int32)) + (1 : Int32)) (4368491638549381120 : UInt64))), .second, .val (.double (FP.dmul (FP.i2d (p1 &&& (8388607 : Int32))) (4368491638549381120 : UInt64))), .second, .val (.double (FP.dmul (FP.i2d ((p1 &&& (8388607 : Int32)) + (1 : Int32))) (4368491638549381120 : UInt64))), .second, .unset] [(.int (cmpValue (FP.dcmp (f1 (p1 &&& (8388607 : Int32)) (4368491638549381120 : UInt64)) (f1 ((p1 &&& (8388607 : Int32)) + (1 : Int32)) (4368491638549381120 : UInt64))) .g))])) _
        refine XS.ifNo X26.here hx rfl (hb hby at_50) rfl ((if0 _ _).trans (flt hc50_28).2.2.1) ?_
        show Steps p.tables e below (T26.setTop (mkF m 53 #[.val (.int p1), .val (.int p2), .val (.int (p1 &&& (8388607 : Int32))), .val (.double (4368491638549381120 : UInt64)), .second, .val (.double (f1 (p1 &&& (8388607 : Int32)) (4368491638549381120 : UInt64))), .second, .val (.double (f1 ((p1 &&& (8388607 : Int32)) + (1 : Int32)) (4368491638549381120 : UInt64))), .second, .val (.double (FP.dmul (FP.i2d (p1 &&& (8388607 : Int32))) (4368491638549381120 : UInt64))), .second, .val (.double (FP.dmul (FP.i2d ((p1 &&& (8388607 : Int32)) + (1 : Int32))) (4368491638549381120 : UInt64))), .second, .unset] [])) _
        refine XS.dload X26.here hx rfl (hb hby at_53) rfl ?_
        show Steps p.tables e below (T26.setTop (mkF m 55 #[.val (.int p1), .val (.int p2), .val (.int (p1 &&& (8388607 : Int32))), .val (.double (4368491638549381120 : UInt64)), .second, .val (.double (f1 (p1 &&& (8388607 : Int32)) (4368491638549381120 : UInt64))), .second, .val (.double (f1 ((p1 &&& (8388607 : Int32)) + (1 : Int32)) (4368491638549381120 : UInt64))), .second, .val (.double (FP.dmul (FP.i2d (p1 &&& (8388607 : Int32))) (4368491638549381120 : UInt64))), .second, .val (.double (FP.dmul (FP.i2d ((p1 &&& (8388607 : Int32)) + (1 : Int32))) (4368491638549381120 : UInt64))), .second, .unset] [(.double (FP.dmul (FP.i2d ((p1 &&& (8388607 : Int32)) + (1 : Int32))) (4368491638549381120 : UInt64)))])) _
        refine XS.dload X26.here hx rfl (hb hby at_55) rfl ?_
        show Steps p.tables e below (T26.setTop (mkF m 57 #[.val (.int p1), .val (.int p2), .val (.int (p1 &&& (8388607 : Int32))), .val (.double (4368491638549381120 : UInt64)), .second, .val (.double (f1 (p1 &&& (8388607 : Int32)) (4368491638549381120 : UInt64))), .second, .val (.double (f1 ((p1 &&& (8388607 : Int32)) + (1 : Int32)) (4368491638549381120 : UInt64))), .second, .val (.double (FP.dmul (FP.i2d (p1 &&& (8388607 : Int32))) (4368491638549381120 : UInt64))), .second, .val (.double (FP.dmul (FP.i2d ((p1 &&& (8388607 : Int32)) + (1 : Int32))) (4368491638549381120 : UInt64))), .second, .unset] [(.double (f1 ((p1 &&& (8388607 : Int32)) + (1 : Int32)) (4368491638549381120 : UInt64))), (.double (FP.dmul (FP.i2d ((p1 &&& (8388607 : Int32)) + (1 : Int32))) (4368491638549381120 : UInt64)))])) _
        refine XS.dcmpS X26.here hx rfl (hb hby at_57) rfl rfl ?_
        exact k
      by_cases hc58_32 : (cmpValue (FP.dcmp (FP.dmul (FP.i2d ((p1 &&& (8388607 : Int32)) + (1 : Int32))) (4368491638549381120 : UInt64)) (f1 ((p1 &&& (8388607 : Int32)) + (1 : Int32)) (4368491638549381120 : UInt64))) .g) < (0 : Int32)
      · have pre33 : ∀ t, Steps p.tables e below (T26.setTop (mkF m 70 #[.val (.int p1), .val (.int p2), .val (.int (p1 &&& (8388607 : Int32))), .val (.double (4368491638549381120 : UInt64)), .second, .val (.double (f1 (p1 &&& (8388607 : Int32)) (4368491638549381120 : UInt64))), .second, .val (.double (f1 ((p1 &&& (8388607 : Int32)) + (1 : Int32)) (4368491638549381120 : UInt64))), .second, .val (.double (FP.dmul (FP.i2d (p1 &&& (8388607 : Int32))) (4368491638549381120 : UInt64))), .second, .val (.double (FP.dmul (FP.i2d ((p1 &&& (8388607 : Int32)) + (1 : Int32))) (4368491638549381120 : UInt64))), .second, .unset] [(.int (cmpValue (FP.dcmp (f1 ((p1 &&& (8388607 : Int32)) + (1 : Int32)) (4368491638549381120 : UInt64)) (FP.dmul (4611686018427387904 : UInt64) (FP.dmul (FP.i2d ((p1 &&& (8388607 : Int32)) + (1 : Int32))) (4368491638549381120 : UInt64)))) .g))])) t → Steps p.tables e below (s₁.setTop (entryFrame m #[(.int p1), (.int p2)] maxLocals)) t := by
          intro t k
          refine pre31 t ?_
          show Steps p.tables e below (T26.setTop (mkF m 58 #[.val (.int p1), .val (.int p2), .val (.int (p1 &&& (8388607 : Int32))), .val (.double (4368491638549381120 : UInt64)), .second, .val (.double (f1 (p1 &&& (8388607 : Int32)) (4368491638549381120 : UInt64))), .second, .val (.double (f1 ((p1 &&& (8388607 : Int32)) + (1 : Int32)) (4368491638549381120 : UInt64))), .second, .val (.double (FP.dmul (FP.i2d (p1 &&& (8388607 : Int32))) (4368491638549381120 : UInt64))), .second, .val (.double (FP.dmul (FP.i2d ((p1 &&& (8388607 : Int32)) + (1 : Int32))) (4368491638549381120 : UInt64))), .second, .unset] [(.int (cmpValue (FP.dcmp (FP.dmul (FP.i2d ((p1 &&& (8388607 : Int32)) + (1 : Int32))) (4368491638549381120 : UInt64)) (f1 ((p1 &&& (8388607 : Int32)) + (1 : Int32)) (4368491638549381120 : UInt64))) .g))])) _
          refine XS.ifNo X26.here hx rfl (hb hby at_58) rfl ((if0 _ _).trans (tlt hc58_32).2.1) ?_
          show Steps p.tables e below (T26.setTop (mkF m 61 #[.val (.int p1), .val (.int p2), .val (.int (p1 &&& (8388607 : Int32))), .val (.double (4368491638549381120 : UInt64)), .second, .val (.double (f1 (p1 &&& (8388607 : Int32)) (4368491638549381120 : UInt64))), .second, .val (.double (f1 ((p1 &&& (8388607 : Int32)) + (1 : Int32)) (4368491638549381120 : UInt64))), .second, .val (.double (FP.dmul (FP.i2d (p1 &&& (8388607 : Int32))) (4368491638549381120 : UInt64))), .second, .val (.double (FP.dmul (FP.i2d ((p1 &&& (8388607 : Int32)) + (1 : Int32))) (4368491638549381120 : UInt64))), .second, .unset] [])) _
          refine XS.dload X26.here hx rfl (hb hby at_61) rfl ?_
          show Steps p.tables e below (T26.setTop (mkF m 63 #[.val (.int p1), .val (.int p2), .val (.int (p1 &&& (8388607 : Int32))), .val (.double (4368491638549381120 : UInt64)), .second, .val (.double (f1 (p1 &&& (8388607 : Int32)) (4368491638549381120 : UInt64))), .second, .val (.double (f1 ((p1 &&& (8388607 : Int32)) + (1 : Int32)) (4368491638549381120 : UInt64))), .second, .val (.double (FP.dmul (FP.i2d (p1 &&& (8388607 : Int32))) (4368491638549381120 : UInt64))), .second, .val (.double (FP.dmul (FP.i2d ((p1 &&& (8388607 : Int32)) + (1 : Int32))) (4368491638549381120 : UInt64))), .second, .unset] [(.double (f1 ((p1 &&& (8388607 : Int32)) + (1 : Int32)) (4368491638549381120 : UInt64)))])) _
          refine X26.ldc2DoubleC hx hown (mvT hZ (hw _ (List.mem_of_getElem? (i := 6) rfl))) (g := (mkF m 63 #[.val (.int p1), .val (.int p2), .val (.int (p1 &&& (8388607 : Int32))), .val (.double (4368491638549381120 : UInt64)), .second, .val (.double (f1 (p1 &&& (8388607 : Int32)) (4368491638549381120 : UInt64))), .second, .val (.double (f1 ((p1 &&& (8388607 : Int32)) + (1 : Int32)) (4368491638549381120 : UInt64))), .second, .val (.double (FP.dmul (FP.i2d (p1 &&& (8388607 : Int32))) (4368491638549381120 : UInt64))), .second, .val (.double (FP.dmul (FP.i2d ((p1 &&& (8388607 : Int32)) + (1 : Int32))) (4368491638549381120 : UInt64))), .second, .unset] [(.double (f1 ((p1 &&& (8388607 : Int32)) + (1 : Int32)) (4368491638549381120 : UInt64)))])) rfl (hb hby at_63) _ ?_
          show Steps p.tables e below (T26.setTop (mkF m 66 #[.val (.int p1), .val (.int p2), .val (.int (p1 &&& (8388607 : Int32))), .val (.double (4368491638549381120 : UInt64)), .second, .val (.double (f1 (p1 &&& (8388607 : Int32)) (4368491638549381120 : UInt64))), .second, .val (.double (f1 ((p1 &&& (8388607 : Int32)) + (1 : Int32)) (4368491638549381120 : UInt64))), .second, .val (.double (FP.dmul (FP.i2d (p1 &&& (8388607 : Int32))) (4368491638549381120 : UInt64))), .second, .val (.double (FP.dmul (FP.i2d ((p1 &&& (8388607 : Int32)) + (1 : Int32))) (4368491638549381120 : UInt64))), .second, .unset] [(.double (4611686018427387904 : UInt64)), (.double (f1 ((p1 &&& (8388607 : Int32)) + (1 : Int32)) (4368491638549381120 : UInt64)))])) _
          refine XS.dload X26.here hx rfl (hb hby at_66) rfl ?_
          show Steps p.tables e below (T26.setTop (mkF m 68 #[.val (.int p1), .val (.int p2), .val (.int (p1 &&& (8388607 : Int32))), .val (.double (4368491638549381120 : UInt64)), .second, .val (.double (f1 (p1 &&& (8388607 : Int32)) (4368491638549381120 : UInt64))), .second, .val (.double (f1 ((p1 &&& (8388607 : Int32)) + (1 : Int32)) (4368491638549381120 : UInt64))), .second, .val (.double (FP.dmul (FP.i2d (p1 &&& (8388607 : Int32))) (4368491638549381120 : UInt64))), .second, .val (.double (FP.dmul (FP.i2d ((p1 &&& (8388607 : Int32)) + (1 : Int32))) (4368491638549381120 : UInt64))), .second, .unset] [(.double (FP.dmul (FP.i2d ((p1 &&& (8388607 : Int32)) + (1 : Int32))) (4368491638549381120 : UInt64))), (.double (4611686018427387904 : UInt64)), (.double (f1 ((p1 &&& (8388607 : Int32)) + (1 : Int32)) (4368491638549381120 : UInt64)))])) _
          refine XS.dmulS X26.here hx rfl (hb hby at_68) rfl (own_n2x53 (own_ok1 p1)) rfl ?_
          show Steps p.tables e below (T26.setTop (mkF m 69 #[.val (.int p1), .val (.int p2), .val (.int (p1 &&& (8388607 : Int32))), .val (.double (4368491638549381120 : UInt64)), .second, .val (.double (f1 (p1 &&& (8388607 : Int32)) (4368491638549381120 : UInt64))), .second, .val (.double (f1 ((p1 &&& (8388607 : Int32)) + (1 : Int32)) (4368491638549381120 : UInt64))), .second, .val (.double (FP.dmul (FP.i2d (p1 &&& (8388607 : Int32))) (4368491638549381120 : UInt64))), .second, .val (.double (FP.dmul (FP.i2d ((p1 &&& (8388607 : Int32)) + (1 : Int32))) (4368491638549381120 : UInt64))), .second, .unset] [(.double (FP.dmul (4611686018427387904 : UInt64) (FP.dmul (FP.i2d ((p1 &&& (8388607 : Int32)) + (1 : Int32))) (4368491638549381120 : UInt64)))), (.double (f1 ((p1 &&& (8388607 : Int32)) + (1 : Int32)) (4368491638549381120 : UInt64)))])) _
          refine XS.dcmpS X26.here hx rfl (hb hby at_69) rfl rfl ?_
          exact k
        by_cases hc70_34 : (0 : Int32) < (cmpValue (FP.dcmp (f1 ((p1 &&& (8388607 : Int32)) + (1 : Int32)) (4368491638549381120 : UInt64)) (FP.dmul (4611686018427387904 : UInt64) (FP.dmul (FP.i2d ((p1 &&& (8388607 : Int32)) + (1 : Int32))) (4368491638549381120 : UInt64)))) .g)
        · have pre35 : ∀ t, Steps p.tables e below (T26.setTop (mkF m 81 #[.val (.int p1), .val (.int p2), .val (.int (p1 &&& (8388607 : Int32))), .val (.double (4368491638549381120 : UInt64)), .second, .val (.double (f1 (p1 &&& (8388607 : Int32)) (4368491638549381120 : UInt64))), .second, .val (.double (f1 ((p1 &&& (8388607 : Int32)) + (1 : Int32)) (4368491638549381120 : UInt64))), .second, .val (.double (FP.dmul (FP.i2d (p1 &&& (8388607 : Int32))) (4368491638549381120 : UInt64))), .second, .val (.double (FP.dmul (FP.i2d ((p1 &&& (8388607 : Int32)) + (1 : Int32))) (4368491638549381120 : UInt64))), .second, .val (.int (0 : Int32))] [(.int (p1 &&& (8388607 : Int32)))])) t → Steps p.tables e below (s₁.setTop (entryFrame m #[(.int p1), (.int p2)] maxLocals)) t := by
            intro t k
            refine pre33 t ?_
            show Steps p.tables e below (T26.setTop (mkF m 70 #[.val (.int p1), .val (.int p2), .val (.int (p1 &&& (8388607 : Int32))), .val (.double (4368491638549381120 : UInt64)), .second, .val (.double (f1 (p1 &&& (8388607 : Int32)) (4368491638549381120 : UInt64))), .second, .val (.double (f1 ((p1 &&& (8388607 : Int32)) + (1 : Int32)) (4368491638549381120 : UInt64))), .second, .val (.double (FP.dmul (FP.i2d (p1 &&& (8388607 : Int32))) (4368491638549381120 : UInt64))), .second, .val (.double (FP.dmul (FP.i2d ((p1 &&& (8388607 : Int32)) + (1 : Int32))) (4368491638549381120 : UInt64))), .second, .unset] [(.int (cmpValue (FP.dcmp (f1 ((p1 &&& (8388607 : Int32)) + (1 : Int32)) (4368491638549381120 : UInt64)) (FP.dmul (4611686018427387904 : UInt64) (FP.dmul (FP.i2d ((p1 &&& (8388607 : Int32)) + (1 : Int32))) (4368491638549381120 : UInt64)))) .g))])) _
            refine XS.ifYes X26.here hx rfl (pc0 := 70) (pc' := 77) rfl (hb hby at_70) rfl ((if0 _ _).trans (tlt hc70_34).2.2.1) (by decide) (by decide) ?_
            show Steps p.tables e below (T26.setTop (mkF m 77 #[.val (.int p1), .val (.int p2), .val (.int (p1 &&& (8388607 : Int32))), .val (.double (4368491638549381120 : UInt64)), .second, .val (.double (f1 (p1 &&& (8388607 : Int32)) (4368491638549381120 : UInt64))), .second, .val (.double (f1 ((p1 &&& (8388607 : Int32)) + (1 : Int32)) (4368491638549381120 : UInt64))), .second, .val (.double (FP.dmul (FP.i2d (p1 &&& (8388607 : Int32))) (4368491638549381120 : UInt64))), .second, .val (.double (FP.dmul (FP.i2d ((p1 &&& (8388607 : Int32)) + (1 : Int32))) (4368491638549381120 : UInt64))), .second, .unset] [])) _
            refine XS.iconst X26.here hx rfl (hb hby at_77) ?_
            show Steps p.tables e below (T26.setTop (mkF m 78 #[.val (.int p1), .val (.int p2), .val (.int (p1 &&& (8388607 : Int32))), .val (.double (4368491638549381120 : UInt64)), .second, .val (.double (f1 (p1 &&& (8388607 : Int32)) (4368491638549381120 : UInt64))), .second, .val (.double (f1 ((p1 &&& (8388607 : Int32)) + (1 : Int32)) (4368491638549381120 : UInt64))), .second, .val (.double (FP.dmul (FP.i2d (p1 &&& (8388607 : Int32))) (4368491638549381120 : UInt64))), .second, .val (.double (FP.dmul (FP.i2d ((p1 &&& (8388607 : Int32)) + (1 : Int32))) (4368491638549381120 : UInt64))), .second, .unset] [(.int (0 : Int32))])) _
            refine XS.istore X26.here hx rfl (hb hby at_78) rfl (l' := #[.val (.int p1), .val (.int p2), .val (.int (p1 &&& (8388607 : Int32))), .val (.double (4368491638549381120 : UInt64)), .second, .val (.double (f1 (p1 &&& (8388607 : Int32)) (4368491638549381120 : UInt64))), .second, .val (.double (f1 ((p1 &&& (8388607 : Int32)) + (1 : Int32)) (4368491638549381120 : UInt64))), .second, .val (.double (FP.dmul (FP.i2d (p1 &&& (8388607 : Int32))) (4368491638549381120 : UInt64))), .second, .val (.double (FP.dmul (FP.i2d ((p1 &&& (8388607 : Int32)) + (1 : Int32))) (4368491638549381120 : UInt64))), .second, .val (.int (0 : Int32))]) rfl ?_
            show Steps p.tables e below (T26.setTop (mkF m 80 #[.val (.int p1), .val (.int p2), .val (.int (p1 &&& (8388607 : Int32))), .val (.double (4368491638549381120 : UInt64)), .second, .val (.double (f1 (p1 &&& (8388607 : Int32)) (4368491638549381120 : UInt64))), .second, .val (.double (f1 ((p1 &&& (8388607 : Int32)) + (1 : Int32)) (4368491638549381120 : UInt64))), .second, .val (.double (FP.dmul (FP.i2d (p1 &&& (8388607 : Int32))) (4368491638549381120 : UInt64))), .second, .val (.double (FP.dmul (FP.i2d ((p1 &&& (8388607 : Int32)) + (1 : Int32))) (4368491638549381120 : UInt64))), .second, .val (.int (0 : Int32))] [])) _
            refine XS.iloadN X26.here hx rfl (hb hby at_80) rfl ?_
            exact k
          by_cases hc81_36 : (p1 &&& (8388607 : Int32)) = (0 : Int32)
          · refine hneg ?_
            obtain ⟨fs, hr, hrun, hended, hW, hsame⟩ := X26.leave (v := some (.int (0 : Int32))) (fun h => by rw [Bd.returns] at h; cases h)
            refine ⟨_, _, pre35 _ ?_, hrun, hended, _, _, rfl, ?_, ⟨_, rfl⟩, hW, hsame.mono (by decide) (by decide)⟩
            · show Steps p.tables e below (T26.setTop (mkF m 81 #[.val (.int p1), .val (.int p2), .val (.int (p1 &&& (8388607 : Int32))), .val (.double (4368491638549381120 : UInt64)), .second, .val (.double (f1 (p1 &&& (8388607 : Int32)) (4368491638549381120 : UInt64))), .second, .val (.double (f1 ((p1 &&& (8388607 : Int32)) + (1 : Int32)) (4368491638549381120 : UInt64))), .second, .val (.double (FP.dmul (FP.i2d (p1 &&& (8388607 : Int32))) (4368491638549381120 : UInt64))), .second, .val (.double (FP.dmul (FP.i2d ((p1 &&& (8388607 : Int32)) + (1 : Int32))) (4368491638549381120 : UInt64))), .second, .val (.int (0 : Int32))] [(.int (p1 &&& (8388607 : Int32)))])) _
              refine XS.ifNo X26.here hx rfl (hb hby at_81) rfl ((if0 _ _).trans (teq hc81_36).2) ?_
              show Steps p.tables e below (T26.setTop (mkF m 84 #[.val (.int p1), .val (.int p2), .val (.int (p1 &&& (8388607 : Int32))), .val (.double (4368491638549381120 : UInt64)), .second, .val (.double (f1 (p1 &&& (8388607 : Int32)) (4368491638549381120 : UInt64))), .second, .val (.double (f1 ((p1 &&& (8388607 : Int32)) + (1 : Int32)) (4368491638549381120 : UInt64))), .second, .val (.double (FP.dmul (FP.i2d (p1 &&& (8388607 : Int32))) (4368491638549381120 : UInt64))), .second, .val (.double (FP.dmul (FP.i2d ((p1 &&& (8388607 : Int32)) + (1 : Int32))) (4368491638549381120 : UInt64))), .second, .val (.int (0 : Int32))] [])) _
              refine XS.iload X26.here hx rfl (hb hby at_84) rfl ?_
              show Steps p.tables e below (T26.setTop (mkF m 86 #[.val (.int p1), .val (.int p2), .val (.int (p1 &&& (8388607 : Int32))), .val (.double (4368491638549381120 : UInt64)), .second, .val (.double (f1 (p1 &&& (8388607 : Int32)) (4368491638549381120 : UInt64))), .second, .val (.double (f1 ((p1 &&& (8388607 : Int32)) + (1 : Int32)) (4368491638549381120 : UInt64))), .second, .val (.double (FP.dmul (FP.i2d (p1 &&& (8388607 : Int32))) (4368491638549381120 : UInt64))), .second, .val (.double (FP.dmul (FP.i2d ((p1 &&& (8388607 : Int32)) + (1 : Int32))) (4368491638549381120 : UInt64))), .second, .val (.int (0 : Int32))] [(.int (0 : Int32))])) _
              refine XS.ifYes X26.here hx rfl (pc0 := 86) (pc' := 100) rfl (hb hby at_86) rfl ((if0 _ _).trans (teq (by decide : (0 : Int32) = (0 : Int32))).1) (by decide) (by decide) ?_
              show Steps p.tables e below (T26.setTop (mkF m 100 #[.val (.int p1), .val (.int p2), .val (.int (p1 &&& (8388607 : Int32))), .val (.double (4368491638549381120 : UInt64)), .second, .val (.double (f1 (p1 &&& (8388607 : Int32)) (4368491638549381120 : UInt64))), .second, .val (.double (f1 ((p1 &&& (8388607 : Int32)) + (1 : Int32)) (4368491638549381120 : UInt64))), .second, .val (.double (FP.dmul (FP.i2d (p1 &&& (8388607 : Int32))) (4368491638549381120 : UInt64))), .second, .val (.double (FP.dmul (FP.i2d ((p1 &&& (8388607 : Int32)) + (1 : Int32))) (4368491638549381120 : UInt64))), .second, .val (.int (0 : Int32))] [])) _
              refine XS.iconst X26.here hx rfl (hb hby at_100) ?_
              show Steps p.tables e below (T26.setTop (mkF m 101 #[.val (.int p1), .val (.int p2), .val (.int (p1 &&& (8388607 : Int32))), .val (.double (4368491638549381120 : UInt64)), .second, .val (.double (f1 (p1 &&& (8388607 : Int32)) (4368491638549381120 : UInt64))), .second, .val (.double (f1 ((p1 &&& (8388607 : Int32)) + (1 : Int32)) (4368491638549381120 : UInt64))), .second, .val (.double (FP.dmul (FP.i2d (p1 &&& (8388607 : Int32))) (4368491638549381120 : UInt64))), .second, .val (.double (FP.dmul (FP.i2d ((p1 &&& (8388607 : Int32)) + (1 : Int32))) (4368491638549381120 : UInt64))), .second, .val (.int (0 : Int32))] [(.int (0 : Int32))])) _
              exact retN X26 hx (t := .boolean) Bd.returns (by simp) (hb hby at_101) hr
            · show Q0 Z p1 p2 h0 n0 _ T26.heap _
              rw [e26]
              refine ⟨?_, N26, rfl⟩
              rw [show f0 p1 p2 = (0 : Int32) from (by skip; simp only [f0, if_neg hc8_2, if_neg hc50_28, if_pos hc58_32, if_pos hc70_34, if_pos hc81_36])]
          · refine hneg ?_
            obtain ⟨fs, hr, hrun, hended, hW, hsame⟩ := X26.leave (v := some (.int (0 : Int32))) (fun h => by rw [Bd.returns] at h; cases h)
            refine ⟨_, _, pre35 _ ?_, hrun, hended, _, _, rfl, ?_, ⟨_, rfl⟩, hW, hsame.mono (by decide) (by decide)⟩
            · show Steps p.tables e below (T26.setTop (mkF m 81 #[.val (.int p1), .val (.int p2), .val (.int (p1 &&& (8388607 : Int32))), .val (.double (4368491638549381120 : UInt64)), .second, .val (.double (f1 (p1 &&& (8388607 : Int32)) (4368491638549381120 : UInt64))), .second, .val (.double (f1 ((p1 &&& (8388607 : Int32)) + (1 : Int32)) (4368491638549381120 : UInt64))), .second, .val (.double (FP.dmul (FP.i2d (p1 &&& (8388607 : Int32))) (4368491638549381120 : UInt64))), .second, .val (.double (FP.dmul (FP.i2d ((p1 &&& (8388607 : Int32)) + (1 : Int32))) (4368491638549381120 : UInt64))), .second, .val (.int (0 : Int32))] [(.int (p1 &&& (8388607 : Int32)))])) _
              refine XS.ifYes X26.here hx rfl (pc0 := 81) (pc' := 102) rfl (hb hby at_81) rfl ((if0 _ _).trans (feq hc81_36).2) (by decide) (by decide) ?_
              show Steps p.tables e below (T26.setTop (mkF m 102 #[.val (.int p1), .val (.int p2), .val (.int (p1 &&& (8388607 : Int32))), .val (.double (4368491638549381120 : UInt64)), .second, .val (.double (f1 (p1 &&& (8388607 : Int32)) (4368491638549381120 : UInt64))), .second, .val (.double (f1 ((p1 &&& (8388607 : Int32)) + (1 : Int32)) (4368491638549381120 : UInt64))), .second, .val (.double (FP.dmul (FP.i2d (p1 &&& (8388607 : Int32))) (4368491638549381120 : UInt64))), .second, .val (.double (FP.dmul (FP.i2d ((p1 &&& (8388607 : Int32)) + (1 : Int32))) (4368491638549381120 : UInt64))), .second, .val (.int (0 : Int32))] [])) _
              refine XS.iload X26.here hx rfl (hb hby at_102) rfl ?_
              show Steps p.tables e below (T26.setTop (mkF m 104 #[.val (.int p1), .val (.int p2), .val (.int (p1 &&& (8388607 : Int32))), .val (.double (4368491638549381120 : UInt64)), .second, .val (.double (f1 (p1 &&& (8388607 : Int32)) (4368491638549381120 : UInt64))), .second, .val (.double (f1 ((p1 &&& (8388607 : Int32)) + (1 : Int32)) (4368491638549381120 : UInt64))), .second, .val (.double (FP.dmul (FP.i2d (p1 &&& (8388607 : Int32))) (4368491638549381120 : UInt64))), .second, .val (.double (FP.dmul (FP.i2d ((p1 &&& (8388607 : Int32)) + (1 : Int32))) (4368491638549381120 : UInt64))), .second, .val (.int (0 : Int32))] [(.int (0 : Int32))])) _
              refine XS.ifYes X26.here hx rfl (pc0 := 104) (pc' := 131) rfl (hb hby at_104) rfl ((if0 _ _).trans (teq (by decide : (0 : Int32) = (0 : Int32))).1) (by decide) (by decide) ?_
              show Steps p.tables e below (T26.setTop (mkF m 131 #[.val (.int p1), .val (.int p2), .val (.int (p1 &&& (8388607 : Int32))), .val (.double (4368491638549381120 : UInt64)), .second, .val (.double (f1 (p1 &&& (8388607 : Int32)) (4368491638549381120 : UInt64))), .second, .val (.double (f1 ((p1 &&& (8388607 : Int32)) + (1 : Int32)) (4368491638549381120 : UInt64))), .second, .val (.double (FP.dmul (FP.i2d (p1 &&& (8388607 : Int32))) (4368491638549381120 : UInt64))), .second, .val (.double (FP.dmul (FP.i2d ((p1 &&& (8388607 : Int32)) + (1 : Int32))) (4368491638549381120 : UInt64))), .second, .val (.int (0 : Int32))] [])) _
              refine XS.iconst X26.here hx rfl (hb hby at_131) ?_
              show Steps p.tables e below (T26.setTop (mkF m 132 #[.val (.int p1), .val (.int p2), .val (.int (p1 &&& (8388607 : Int32))), .val (.double (4368491638549381120 : UInt64)), .second, .val (.double (f1 (p1 &&& (8388607 : Int32)) (4368491638549381120 : UInt64))), .second, .val (.double (f1 ((p1 &&& (8388607 : Int32)) + (1 : Int32)) (4368491638549381120 : UInt64))), .second, .val (.double (FP.dmul (FP.i2d (p1 &&& (8388607 : Int32))) (4368491638549381120 : UInt64))), .second, .val (.double (FP.dmul (FP.i2d ((p1 &&& (8388607 : Int32)) + (1 : Int32))) (4368491638549381120 : UInt64))), .second, .val (.int (0 : Int32))] [(.int (0 : Int32))])) _
              exact retN X26 hx (t := .boolean) Bd.returns (by simp) (hb hby at_132) hr
            · show Q0 Z p1 p2 h0 n0 _ T26.heap _
              rw [e26]
              refine ⟨?_, N26, rfl⟩
              rw [show f0 p1 p2 = (0 : Int32) from (by skip; simp only [f0, if_neg hc8_2, if_neg hc50_28, if_pos hc58_32, if_pos hc70_34, if_neg hc81_36])]
        · have pre37 : ∀ t, Steps p.tables e below (T26.setTop (mkF m 81 #[.val (.int p1), .val (.int p2), .val (.int (p1 &&& (8388607 : Int32))), .val (.double (4368491638549381120 : UInt64)), .second, .val (.double (f1 (p1 &&& (8388607 : Int32)) (4368491638549381120 : UInt64))), .second, .val (.double (f1 ((p1 &&& (8388607 : Int32)) + (1 : Int32)) (4368491638549381120 : UInt64))), .second, .val (.double (FP.dmul (FP.i2d (p1 &&& (8388607 : Int32))) (4368491638549381120 : UInt64))), .second, .val (.double (FP.dmul (FP.i2d ((p1 &&& (8388607 : Int32)) + (1 : Int32))) (4368491638549381120 : UInt64))), .second, .val (.int (1 : Int32))] [(.int (p1 &&& (8388607 : Int32)))])) t → Steps p.tables e below (s₁.setTop (entryFrame m #[(.int p1), (.int p2)] maxLocals)) t := by
            intro t k
            refine pre33 t ?_
            show Steps p.tables e below (T26.setTop (mkF m 70 #[.val (.int p1), .val (.int p2), .val (.int (p1 &&& (8388607 : Int32))), .val (.double (4368491638549381120 : UInt64)), .second, .val (.double (f1 (p1 &&& (8388607 : Int32)) (4368491638549381120 : UInt64))), .second, .val (.double (f1 ((p1 &&& (8388607 : Int32)) + (1 : Int32)) (4368491638549381120 : UInt64))), .second, .val (.double (FP.dmul (FP.i2d (p1 &&& (8388607 : Int32))) (4368491638549381120 : UInt64))), .second, .val (.double (FP.dmul (FP.i2d ((p1 &&& (8388607 : Int32)) + (1 : Int32))) (4368491638549381120 : UInt64))), .second, .unset] [(.int (cmpValue (FP.dcmp (f1 ((p1 &&& (8388607 : Int32)) + (1 : Int32)) (4368491638549381120 : UInt64)) (FP.dmul (4611686018427387904 : UInt64) (FP.dmul (FP.i2d ((p1 &&& (8388607 : Int32)) + (1 : Int32))) (4368491638549381120 : UInt64)))) .g))])) _
            refine XS.ifNo X26.here hx rfl (hb hby at_70) rfl ((if0 _ _).trans (flt hc70_34).2.2.1) ?_
            show Steps p.tables e below (T26.setTop (mkF m 73 #[.val (.int p1), .val (.int p2), .val (.int (p1 &&& (8388607 : Int32))), .val (.double (4368491638549381120 : UInt64)), .second, .val (.double (f1 (p1 &&& (8388607 : Int32)) (4368491638549381120 : UInt64))), .second, .val (.double (f1 ((p1 &&& (8388607 : Int32)) + (1 : Int32)) (4368491638549381120 : UInt64))), .second, .val (.double (FP.dmul (FP.i2d (p1 &&& (8388607 : Int32))) (4368491638549381120 : UInt64))), .second, .val (.double (FP.dmul (FP.i2d ((p1 &&& (8388607 : Int32)) + (1 : Int32))) (4368491638549381120 : UInt64))), .second, .unset] [])) _
            refine XS.iconst X26.here hx rfl (hb hby at_73) ?_
            show Steps p.tables e below (T26.setTop (mkF m 74 #[.val (.int p1), .val (.int p2), .val (.int (p1 &&& (8388607 : Int32))), .val (.double (4368491638549381120 : UInt64)), .second, .val (.double (f1 (p1 &&& (8388607 : Int32)) (4368491638549381120 : UInt64))), .second, .val (.double (f1 ((p1 &&& (8388607 : Int32)) + (1 : Int32)) (4368491638549381120 : UInt64))), .second, .val (.double (FP.dmul (FP.i2d (p1 &&& (8388607 : Int32))) (4368491638549381120 : UInt64))), .second, .val (.double (FP.dmul (FP.i2d ((p1 &&& (8388607 : Int32)) + (1 : Int32))) (4368491638549381120 : UInt64))), .second, .unset] [(.int (1 : Int32))])) _
            refine XS.goto X26.here hx rfl (pc0 := 74) (pc' := 78) rfl (hb hby at_74) (by decide) (by decide) ?_
            show Steps p.tables e below (T26.setTop (mkF m 78 #[.val (.int p1), .val (.int p2), .val (.int (p1 &&& (8388607 : Int32))), .val (.double (4368491638549381120 : UInt64)), .second, .val (.double (f1 (p1 &&& (8388607 : Int32)) (4368491638549381120 : UInt64))), .second, .val (.double (f1 ((p1 &&& (8388607 : Int32)) + (1 : Int32)) (4368491638549381120 : UInt64))), .second, .val (.double (FP.dmul (FP.i2d (p1 &&& (8388607 : Int32))) (4368491638549381120 : UInt64))), .second, .val (.double (FP.dmul (FP.i2d ((p1 &&& (8388607 : Int32)) + (1 : Int32))) (4368491638549381120 : UInt64))), .second, .unset] [(.int (1 : Int32))])) _
            refine XS.istore X26.here hx rfl (hb hby at_78) rfl (l' := #[.val (.int p1), .val (.int p2), .val (.int (p1 &&& (8388607 : Int32))), .val (.double (4368491638549381120 : UInt64)), .second, .val (.double (f1 (p1 &&& (8388607 : Int32)) (4368491638549381120 : UInt64))), .second, .val (.double (f1 ((p1 &&& (8388607 : Int32)) + (1 : Int32)) (4368491638549381120 : UInt64))), .second, .val (.double (FP.dmul (FP.i2d (p1 &&& (8388607 : Int32))) (4368491638549381120 : UInt64))), .second, .val (.double (FP.dmul (FP.i2d ((p1 &&& (8388607 : Int32)) + (1 : Int32))) (4368491638549381120 : UInt64))), .second, .val (.int (1 : Int32))]) rfl ?_
            show Steps p.tables e below (T26.setTop (mkF m 80 #[.val (.int p1), .val (.int p2), .val (.int (p1 &&& (8388607 : Int32))), .val (.double (4368491638549381120 : UInt64)), .second, .val (.double (f1 (p1 &&& (8388607 : Int32)) (4368491638549381120 : UInt64))), .second, .val (.double (f1 ((p1 &&& (8388607 : Int32)) + (1 : Int32)) (4368491638549381120 : UInt64))), .second, .val (.double (FP.dmul (FP.i2d (p1 &&& (8388607 : Int32))) (4368491638549381120 : UInt64))), .second, .val (.double (FP.dmul (FP.i2d ((p1 &&& (8388607 : Int32)) + (1 : Int32))) (4368491638549381120 : UInt64))), .second, .val (.int (1 : Int32))] [])) _
            refine XS.iloadN X26.here hx rfl (hb hby at_80) rfl ?_
            exact k
          by_cases hc81_38 : (p1 &&& (8388607 : Int32)) = (0 : Int32)
          · have pre39 : ∀ t, Steps p.tables e below (T26.setTop (mkF m 93 #[.val (.int p1), .val (.int p2), .val (.int (p1 &&& (8388607 : Int32))), .val (.double (4368491638549381120 : UInt64)), .second, .val (.double (f1 (p1 &&& (8388607 : Int32)) (4368491638549381120 : UInt64))), .second, .val (.double (f1 ((p1 &&& (8388607 : Int32)) + (1 : Int32)) (4368491638549381120 : UInt64))), .second, .val (.double (FP.dmul (FP.i2d (p1 &&& (8388607 : Int32))) (4368491638549381120 : UInt64))), .second, .val (.double (FP.dmul (FP.i2d ((p1 &&& (8388607 : Int32)) + (1 : Int32))) (4368491638549381120 : UInt64))), .second, .val (.int (1 : Int32))] [(.int (cmpValue (FP.dcmp (f1 (p1 &&& (8388607 : Int32)) (4368491638549381120 : UInt64)) (FP.dconst0)) .l))])) t → Steps p.tables e below (s₁.setTop (entryFrame m #[(.int p1), (.int p2)] maxLocals)) t := by
              intro t k
              refine pre37 t ?_
              show Steps p.tables e below (T26.setTop (mkF m 81 #[.val (.int p1), .val (.int p2), .val (.int (p1 &&& (8388607 : Int32))), .val (.double (4368491638549381120 : UInt64)), .second, .val (.double (f1 (p1 &&& (8388607 : Int32)) (4368491638549381120 : UInt64))), .second, .val (.double (f1 ((p1 &&& (8388607 : Int32)) + (1 : Int32)) (4368491638549381120 : UInt64))), .second, .val (.double (FP.dmul (FP.i2d (p1 &&& (8388607 : Int32))) (4368491638549381120 : UInt64))), .second, .val (.double (FP.dmul (FP.i2d ((p1 &&& (8388607 : Int32)) + (1 : Int32))) (4368491638549381120 : UInt64))), .second, .val (.int (1 : Int32))] [(.int (p1 &&& (8388607 : Int32)))])) _
              refine XS.ifNo X26.here hx rfl (hb hby at_81) rfl ((if0 _ _).trans (teq hc81_38).2) ?_
              show Steps p.tables e below (T26.setTop (mkF m 84 #[.val (.int p1), .val (.int p2), .val (.int (p1 &&& (8388607 : Int32))), .val (.double (4368491638549381120 : UInt64)), .second, .val (.double (f1 (p1 &&& (8388607 : Int32)) (4368491638549381120 : UInt64))), .second, .val (.double (f1 ((p1 &&& (8388607 : Int32)) + (1 : Int32)) (4368491638549381120 : UInt64))), .second, .val (.double (FP.dmul (FP.i2d (p1 &&& (8388607 : Int32))) (4368491638549381120 : UInt64))), .second, .val (.double (FP.dmul (FP.i2d ((p1 &&& (8388607 : Int32)) + (1 : Int32))) (4368491638549381120 : UInt64))), .second, .val (.int (1 : Int32))] [])) _
              refine XS.iload X26.here hx rfl (hb hby at_84) rfl ?_
              show Steps p.tables e below (T26.setTop (mkF m 86 #[.val (.int p1), .val (.int p2), .val (.int (p1 &&& (8388607 : Int32))), .val (.double (4368491638549381120 : UInt64)), .second, .val (.double (f1 (p1 &&& (8388607 : Int32)) (4368491638549381120 : UInt64))), .second, .val (.double (f1 ((p1 &&& (8388607 : Int32)) + (1 : Int32)) (4368491638549381120 : UInt64))), .second, .val (.double (FP.dmul (FP.i2d (p1 &&& (8388607 : Int32))) (4368491638549381120 : UInt64))), .second, .val (.double (FP.dmul (FP.i2d ((p1 &&& (8388607 : Int32)) + (1 : Int32))) (4368491638549381120 : UInt64))), .second, .val (.int (1 : Int32))] [(.int (1 : Int32))])) _
              refine XS.ifNo X26.here hx rfl (hb hby at_86) rfl ((if0 _ _).trans (feq (by decide : ¬ ((1 : Int32) = (0 : Int32)))).1) ?_
              show Steps p.tables e below (T26.setTop (mkF m 89 #[.val (.int p1), .val (.int p2), .val (.int (p1 &&& (8388607 : Int32))), .val (.double (4368491638549381120 : UInt64)), .second, .val (.double (f1 (p1 &&& (8388607 : Int32)) (4368491638549381120 : UInt64))), .second, .val (.double (f1 ((p1 &&& (8388607 : Int32)) + (1 : Int32)) (4368491638549381120 : UInt64))), .second, .val (.double (FP.dmul (FP.i2d (p1 &&& (8388607 : Int32))) (4368491638549381120 : UInt64))), .second, .val (.double (FP.dmul (FP.i2d ((p1 &&& (8388607 : Int32)) + (1 : Int32))) (4368491638549381120 : UInt64))), .second, .val (.int (1 : Int32))] [])) _
              refine XS.dload X26.here hx rfl (hb hby at_89) rfl ?_
              show Steps p.tables e below (T26.setTop (mkF m 91 #[.val (.int p1), .val (.int p2), .val (.int (p1 &&& (8388607 : Int32))), .val (.double (4368491638549381120 : UInt64)), .second, .val (.double (f1 (p1 &&& (8388607 : Int32)) (4368491638549381120 : UInt64))), .second, .val (.double (f1 ((p1 &&& (8388607 : Int32)) + (1 : Int32)) (4368491638549381120 : UInt64))), .second, .val (.double (FP.dmul (FP.i2d (p1 &&& (8388607 : Int32))) (4368491638549381120 : UInt64))), .second, .val (.double (FP.dmul (FP.i2d ((p1 &&& (8388607 : Int32)) + (1 : Int32))) (4368491638549381120 : UInt64))), .second, .val (.int (1 : Int32))] [(.double (f1 (p1 &&& (8388607 : Int32)) (4368491638549381120 : UInt64)))])) _
              refine XS.dconst0 X26.here hx rfl (hb hby at_91) rfl ?_
              show Steps p.tables e below (T26.setTop (mkF m 92 #[.val (.int p1), .val (.int p2), .val (.int (p1 &&& (8388607 : Int32))), .val (.double (4368491638549381120 : UInt64)), .second, .val (.double (f1 (p1 &&& (8388607 : Int32)) (4368491638549381120 : UInt64))), .second, .val (.double (f1 ((p1 &&& (8388607 : Int32)) + (1 : Int32)) (4368491638549381120 : UInt64))), .second, .val (.double (FP.dmul (FP.i2d (p1 &&& (8388607 : Int32))) (4368491638549381120 : UInt64))), .second, .val (.double (FP.dmul (FP.i2d ((p1 &&& (8388607 : Int32)) + (1 : Int32))) (4368491638549381120 : UInt64))), .second, .val (.int (1 : Int32))] [(.double (FP.dconst0)), (.double (f1 (p1 &&& (8388607 : Int32)) (4368491638549381120 : UInt64)))])) _
              refine XS.dcmpS X26.here hx rfl (hb hby at_92) rfl rfl ?_
              exact k
            by_cases hc93_40 : (cmpValue (FP.dcmp (f1 (p1 &&& (8388607 : Int32)) (4368491638549381120 : UInt64)) (FP.dconst0)) .l) = (0 : Int32)
            · refine hneg ?_
              obtain ⟨fs, hr, hrun, hended, hW, hsame⟩ := X26.leave (v := some (.int (1 : Int32))) (fun h => by rw [Bd.returns] at h; cases h)
              refine ⟨_, _, pre39 _ ?_, hrun, hended, _, _, rfl, ?_, ⟨_, rfl⟩, hW, hsame.mono (by decide) (by decide)⟩
              · show Steps p.tables e below (T26.setTop (mkF m 93 #[.val (.int p1), .val (.int p2), .val (.int (p1 &&& (8388607 : Int32))), .val (.double (4368491638549381120 : UInt64)), .second, .val (.double (f1 (p1 &&& (8388607 : Int32)) (4368491638549381120 : UInt64))), .second, .val (.double (f1 ((p1 &&& (8388607 : Int32)) + (1 : Int32)) (4368491638549381120 : UInt64))), .second, .val (.double (FP.dmul (FP.i2d (p1 &&& (8388607 : Int32))) (4368491638549381120 : UInt64))), .second, .val (.double (FP.dmul (FP.i2d ((p1 &&& (8388607 : Int32)) + (1 : Int32))) (4368491638549381120 : UInt64))), .second, .val (.int (1 : Int32))] [(.int (cmpValue (FP.dcmp (f1 (p1 &&& (8388607 : Int32)) (4368491638549381120 : UInt64)) (FP.dconst0)) .l))])) _
                refine XS.ifNo X26.here hx rfl (hb hby at_93) rfl ((if0 _ _).trans (teq hc93_40).2) ?_
                show Steps p.tables e below (T26.setTop (mkF m 96 #[.val (.int p1), .val (.int p2), .val (.int (p1 &&& (8388607 : Int32))), .val (.double (4368491638549381120 : UInt64)), .second, .val (.double (f1 (p1 &&& (8388607 : Int32)) (4368491638549381120 : UInt64))), .second, .val (.double (f1 ((p1 &&& (8388607 : Int32)) + (1 : Int32)) (4368491638549381120 : UInt64))), .second, .val (.double (FP.dmul (FP.i2d (p1 &&& (8388607 : Int32))) (4368491638549381120 : UInt64))), .second, .val (.double (FP.dmul (FP.i2d ((p1 &&& (8388607 : Int32)) + (1 : Int32))) (4368491638549381120 : UInt64))), .second, .val (.int (1 : Int32))] [])) _
                refine XS.iconst X26.here hx rfl (hb hby at_96) ?_
                show Steps p.tables e below (T26.setTop (mkF m 97 #[.val (.int p1), .val (.int p2), .val (.int (p1 &&& (8388607 : Int32))), .val (.double (4368491638549381120 : UInt64)), .second, .val (.double (f1 (p1 &&& (8388607 : Int32)) (4368491638549381120 : UInt64))), .second, .val (.double (f1 ((p1 &&& (8388607 : Int32)) + (1 : Int32)) (4368491638549381120 : UInt64))), .second, .val (.double (FP.dmul (FP.i2d (p1 &&& (8388607 : Int32))) (4368491638549381120 : UInt64))), .second, .val (.double (FP.dmul (FP.i2d ((p1 &&& (8388607 : Int32)) + (1 : Int32))) (4368491638549381120 : UInt64))), .second, .val (.int (1 : Int32))] [(.int (1 : Int32))])) _
                refine XS.goto X26.here hx rfl (pc0 := 97) (pc' := 101) rfl (hb hby at_97) (by decide) (by decide) ?_
                show Steps p.tables e below (T26.setTop (mkF m 101 #[.val (.int p1), .val (.int p2), .val (.int (p1 &&& (8388607 : Int32))), .val (.double (4368491638549381120 : UInt64)), .second, .val (.double (f1 (p1 &&& (8388607 : Int32)) (4368491638549381120 : UInt64))), .second, .val (.double (f1 ((p1 &&& (8388607 : Int32)) + (1 : Int32)) (4368491638549381120 : UInt64))), .second, .val (.double (FP.dmul (FP.i2d (p1 &&& (8388607 : Int32))) (4368491638549381120 : UInt64))), .second, .val (.double (FP.dmul (FP.i2d ((p1 &&& (8388607 : Int32)) + (1 : Int32))) (4368491638549381120 : UInt64))), .second, .val (.int (1 : Int32))] [(.int (1 : Int32))])) _
                exact retN X26 hx (t := .boolean) Bd.returns (by simp) (hb hby at_101) hr
              · show Q0 Z p1 p2 h0 n0 _ T26.heap _
                rw [e26]
                refine ⟨?_, N26, rfl⟩
                rw [show f0 p1 p2 = (1 : Int32) from (by skip; simp only [f0, if_neg hc8_2, if_neg hc50_28, if_pos hc58_32, if_neg hc70_34, if_pos hc81_38, if_pos hc93_40])]
            · refine hneg ?_
              obtain ⟨fs, hr, hrun, hended, hW, hsame⟩ := X26.leave (v := some (.int (0 : Int32))) (fun h => by rw [Bd.returns] at h; cases h)
              refine ⟨_, _, pre39 _ ?_, hrun, hended, _, _, rfl, ?_, ⟨_, rfl⟩, hW, hsame.mono (by decide) (by decide)⟩
              · show Steps p.tables e below (T26.setTop (mkF m 93 #[.val (.int p1), .val (.int p2), .val (.int (p1 &&& (8388607 : Int32))), .val (.double (4368491638549381120 : UInt64)), .second, .val (.double (f1 (p1 &&& (8388607 : Int32)) (4368491638549381120 : UInt64))), .second, .val (.double (f1 ((p1 &&& (8388607 : Int32)) + (1 : Int32)) (4368491638549381120 : UInt64))), .second, .val (.double (FP.dmul (FP.i2d (p1 &&& (8388607 : Int32))) (4368491638549381120 : UInt64))), .second, .val (.double (FP.dmul (FP.i2d ((p1 &&& (8388607 : Int32)) + (1 : Int32))) (4368491638549381120 : UInt64))), .second, .val (.int (1 : Int32))] [(.int (cmpValue (FP.dcmp (f1 (p1 &&& (8388607 : Int32)) (4368491638549381120 : UInt64)) (FP.dconst0)) .l))])) _
                refine XS.ifYes X26.here hx rfl (pc0 := 93) (pc' := 100) rfl (hb hby at_93) rfl ((if0 _ _).trans (feq hc93_40).2) (by decide) (by decide) ?_
                show Steps p.tables e below (T26.setTop (mkF m 100 #[.val (.int p1), .val (.int p2), .val (.int (p1 &&& (8388607 : Int32))), .val (.double (4368491638549381120 : UInt64)), .second, .val (.double (f1 (p1 &&& (8388607 : Int32)) (4368491638549381120 : UInt64))), .second, .val (.double (f1 ((p1 &&& (8388607 : Int32)) + (1 : Int32)) (4368491638549381120 : UInt64))), .second, .val (.double (FP.dmul (FP.i2d (p1 &&& (8388607 : Int32))) (4368491638549381120 : UInt64))), .second, .val (.double (FP.dmul (FP.i2d ((p1 &&& (8388607 : Int32)) + (1 : Int32))) (4368491638549381120 : UInt64))), .second, .val (.int (1 : Int32))] [])) _
                refine XS.iconst X26.here hx rfl (hb hby at_100) ?_
                show Steps p.tables e below (T26.setTop (mkF m 101 #[.val (.int p1), .val (.int p2), .val (.int (p1 &&& (8388607 : Int32))), .val (.double (4368491638549381120 : UInt64)), .second, .val (.double (f1 (p1 &&& (8388607 : Int32)) (4368491638549381120 : UInt64))), .second, .val (.double (f1 ((p1 &&& (8388607 : Int32)) + (1 : Int32)) (4368491638549381120 : UInt64))), .second, .val (.double (FP.dmul (FP.i2d (p1 &&& (8388607 : Int32))) (4368491638549381120 : UInt64))), .second, .val (.double (FP.dmul (FP.i2d ((p1 &&& (8388607 : Int32)) + (1 : Int32))) (4368491638549381120 : UInt64))), .second, .val (.int (1 : Int32))] [(.int (0 : Int32))])) _
                exact retN X26 hx (t := .boolean) Bd.returns (by simp) (hb hby at_101) hr
              · show Q0 Z p1 p2 h0 n0 _ T26.heap _
                rw [e26]
                refine ⟨?_, N26, rfl⟩
                rw [show f0 p1 p2 = (0 : Int32) from (by skip; simp only [f0, if_neg hc8_2, if_neg hc50_28, if_pos hc58_32, if_neg hc70_34, if_pos hc81_38, if_neg hc93_40])]
          · have pre41 : ∀ t, Steps p.tables e below (T26.setTop (mkF m 112 #[.val (.int p1), .val (.int p2), .val (.int (p1 &&& (8388607 : Int32))), .val (.double (4368491638549381120 : UInt64)), .second, .val (.double (f1 (p1 &&& (8388607 : Int32)) (4368491638549381120 : UInt64))), .second, .val (.double (f1 ((p1 &&& (8388607 : Int32)) + (1 : Int32)) (4368491638549381120 : UInt64))), .second, .val (.double (FP.dmul (FP.i2d (p1 &&& (8388607 : Int32))) (4368491638549381120 : UInt64))), .second, .val (.double (FP.dmul (FP.i2d ((p1 &&& (8388607 : Int32)) + (1 : Int32))) (4368491638549381120 : UInt64))), .second, .val (.int (1 : Int32))] [(.int (cmpValue (FP.dcmp (FP.dmul (FP.i2d (p1 &&& (8388607 : Int32))) (4368491638549381120 : UInt64)) (f1 (p1 &&& (8388607 : Int32)) (4368491638549381120 : UInt64))) .g))])) t → Steps p.tables e below (s₁.setTop (entryFrame m #[(.int p1), (.int p2)] maxLocals)) t := by
              intro t k
              refine pre37 t ?_
              show Steps p.tables e below (T26.setTop (mkF m 81 #[.val (.int p1), .val (.int p2), .val (.int (p1 &&& (8388607 : Int32))), .val (.double (4368491638549381120 : UInt64)), .second, .val (.double (f1 (p1 &&& (8388607 : Int32)) (4368491638549381120 : UInt64))), .second, .val (.double (f1 ((p1 &&& (8388607 : Int32)) + (1 : Int32)) (4368491638549381120 : UInt64))), .second, .val (.double (FP.dmul (FP.i2d (p1 &&& (8388607 : Int32))) (4368491638549381120 : UInt64))), .second, .val (.double (FP.dmul (FP.i2d ((p1 &&& (8388607 : Int32)) + (1 : Int32))) (4368491638549381120 : UInt64))), .second, .val (.int (1 : Int32))] [(.int (p1 &&& (8388607 : Int32)))])) _
              refine XS.ifYes X26.here hx rfl (pc0 := 81) (pc' := 102) rfl (hb hby at_81) rfl ((if0 _ _).trans (feq hc81_38).2) (by decide) (by decide) ?_
              show Steps p.tables e below (T26.setTop (mkF m 102 #[.val (.int p1), .val (.int p2), .val (.int (p1 &&& (8388607 : Int32))), .val (.double (4368491638549381120 : UInt64)), .second, .val (.double (f1 (p1 &&& (8388607 : Int32)) (4368491638549381120 : UInt64))), .second, .val (.double (f1 ((p1 &&& (8388607 : Int32)) + (1 : Int32)) (4368491638549381120 : UInt64))), .second, .val (.double (FP.dmul (FP.i2d (p1 &&& (8388607 : Int32))) (4368491638549381120 : UInt64))), .second, .val (.double (FP.dmul (FP.i2d ((p1 &&& (8388607 : Int32)) + (1 : Int32))) (4368491638549381120 : UInt64))), .second, .val (.int (1 : Int32))] [])) _
              refine XS.iload X26.here hx rfl (hb hby at_102) rfl ?_
              show Steps p.tables e below (T26.setTop (mkF m 104 #[.val (.int p1), .val (.int p2), .val (.int (p1 &&& (8388607 : Int32))), .val (.double (4368491638549381120 : UInt64)), .second, .val (.double (f1 (p1 &&& (8388607 : Int32)) (4368491638549381120 : UInt64))), .second, .val (.double (f1 ((p1 &&& (8388607 : Int32)) + (1 : Int32)) (4368491638549381120 : UInt64))), .second, .val (.double (FP.dmul (FP.i2d (p1 &&& (8388607 : Int32))) (4368491638549381120 : UInt64))), .second, .val (.double (FP.dmul (FP.i2d ((p1 &&& (8388607 : Int32)) + (1 : Int32))) (4368491638549381120 : UInt64))), .second, .val (.int (1 : Int32))] [(.int (1 : Int32))])) _
              refine XS.ifNo X26.here hx rfl (hb hby at_104) rfl ((if0 _ _).trans (feq (by decide : ¬ ((1 : Int32) = (0 : Int32)))).1) ?_
              show Steps p.tables e below (T26.setTop (mkF m 107 #[.val (.int p1), .val (.int p2), .val (.int (p1 &&& (8388607 : Int32))), .val (.double (4368491638549381120 : UInt64)), .second, .val (.double (f1 (p1 &&& (8388607 : Int32)) (4368491638549381120 : UInt64))), .second, .val (.double (f1 ((p1 &&& (8388607 : Int32)) + (1 : Int32)) (4368491638549381120 : UInt64))), .second, .val (.double (FP.dmul (FP.i2d (p1 &&& (8388607 : Int32))) (4368491638549381120 : UInt64))), .second, .val (.double (FP.dmul (FP.i2d ((p1 &&& (8388607 : Int32)) + (1 : Int32))) (4368491638549381120 : UInt64))), .second, .val (.int (1 : Int32))] [])) _
              refine XS.dload X26.here hx rfl (hb hby at_107) rfl ?_
              show Steps p.tables e below (T26.setTop (mkF m 109 #[.val (.int p1), .val (.int p2), .val (.int (p1 &&& (8388607 : Int32))), .val (.double (4368491638549381120 : UInt64)), .second, .val (.double (f1 (p1 &&& (8388607 : Int32)) (4368491638549381120 : UInt64))), .second, .val (.double (f1 ((p1 &&& (8388607 : Int32)) + (1 : Int32)) (4368491638549381120 : UInt64))), .second, .val (.double (FP.dmul (FP.i2d (p1 &&& (8388607 : Int32))) (4368491638549381120 : UInt64))), .second, .val (.double (FP.dmul (FP.i2d ((p1 &&& (8388607 : Int32)) + (1 : Int32))) (4368491638549381120 : UInt64))), .second, .val (.int (1 : Int32))] [(.double (FP.dmul (FP.i2d (p1 &&& (8388607 : Int32))) (4368491638549381120 : UInt64)))])) _
              refine XS.dload X26.here hx rfl (hb hby at_109) rfl ?_
              show Steps p.tables e below (T26.setTop (mkF m 111 #[.val (.int p1), .val (.int p2), .val (.int (p1 &&& (8388607 : Int32))), .val (.double (4368491638549381120 : UInt64)), .second, .val (.double (f1 (p1 &&& (8388607 : Int32)) (4368491638549381120 : UInt64))), .second, .val (.double (f1 ((p1 &&& (8388607 : Int32)) + (1 : Int32)) (4368491638549381120 : UInt64))), .second, .val (.double (FP.dmul (FP.i2d (p1 &&& (8388607 : Int32))) (4368491638549381120 : UInt64))), .second, .val (.double (FP.dmul (FP.i2d ((p1 &&& (8388607 : Int32)) + (1 : Int32))) (4368491638549381120 : UInt64))), .second, .val (.int (1 : Int32))] [(.double (f1 (p1 &&& (8388607 : Int32)) (4368491638549381120 : UInt64))), (.double (FP.dmul (FP.i2d (p1 &&& (8388607 : Int32))) (4368491638549381120 : UInt64)))])) _
              refine XS.dcmpS X26.here hx rfl (hb hby at_111) rfl rfl ?_
              exact k
            by_cases hc112_42 : (cmpValue (FP.dcmp (FP.dmul (FP.i2d (p1 &&& (8388607 : Int32))) (4368491638549381120 : UInt64)) (f1 (p1 &&& (8388607 : Int32)) (4368491638549381120 : UInt64))) .g) < (0 : Int32)
            · have pre43 : ∀ t, Steps p.tables e below (T26.setTop (mkF m 124 #[.val (.int p1), .val (.int p2), .val (.int (p1 &&& (8388607 : Int32))), .val (.double (4368491638549381120 : UInt64)), .second, .val (.double (f1 (p1 &&& (8388607 : Int32)) (4368491638549381120 : UInt64))), .second, .val (.double (f1 ((p1 &&& (8388607 : Int32)) + (1 : Int32)) (4368491638549381120 : UInt64))), .second, .val (.double (FP.dmul (FP.i2d (p1 &&& (8388607 : Int32))) (4368491638549381120 : UInt64))), .second, .val (.double (FP.dmul (FP.i2d ((p1 &&& (8388607 : Int32)) + (1 : Int32))) (4368491638549381120 : UInt64))), .second, .val (.int (1 : Int32))] [(.int (cmpValue (FP.dcmp (f1 (p1 &&& (8388607 : Int32)) (4368491638549381120 : UInt64)) (FP.dmul (4611686018427387904 : UInt64) (FP.dmul (FP.i2d (p1 &&& (8388607 : Int32))) (4368491638549381120 : UInt64)))) .g))])) t → Steps p.tables e below (s₁.setTop (entryFrame m #[(.int p1), (.int p2)] maxLocals)) t := by
                intro t k
                refine pre41 t ?_
                show Steps p.tables e below (T26.setTop (mkF m 112 #[.val (.int p1), .val (.int p2), .val (.int (p1 &&& (8388607 : Int32))), .val (.double (4368491638549381120 : UInt64)), .second, .val (.double (f1 (p1 &&& (8388607 : Int32)) (4368491638549381120 : UInt64))), .second, .val (.double (f1 ((p1 &&& (8388607 : Int32)) + (1 : Int32)) (4368491638549381120 : UInt64))), .second, .val (.double (FP.dmul (FP.i2d (p1 &&& (8388607 : Int32))) (4368491638549381120 : UInt64))), .second, .val (.double (FP.dmul (FP.i2d ((p1 &&& (8388607 : Int32)) + (1 : Int32))) (4368491638549381120 : UInt64))), .second, .val (.int (1 : Int32))] [(.int (cmpValue (FP.dcmp (FP.dmul (FP.i2d (p1 &&& (8388607 : Int32))) (4368491638549381120 : UInt64)) (f1 (p1 &&& (8388607 : Int32)) (4368491638549381120 : UInt64))) .g))])) _
                refine XS.ifNo X26.here hx rfl (hb hby at_112) rfl ((if0 _ _).trans (tlt hc112_42).2.1) ?_
                show Steps p.tables e below (T26.setTop (mkF m 115 #[.val (.int p1), .val (.int p2), .val (.int (p1 &&& (8388607 : Int32))), .val (.double (4368491638549381120 : UInt64)), .second, .val (.double (f1 (p1 &&& (8388607 : Int32)) (4368491638549381120 : UInt64))), .second, .val (.double (f1 ((p1 &&& (8388607 : Int32)) + (1 : Int32)) (4368491638549381120 : UInt64))), .second, .val (.double (FP.dmul (FP.i2d (p1 &&& (8388607 : Int32))) (4368491638549381120 : UInt64))), .second, .val (.double (FP.dmul (FP.i2d ((p1 &&& (8388607 : Int32)) + (1 : Int32))) (4368491638549381120 : UInt64))), .second, .val (.int (1 : Int32))] [])) _
                refine XS.dload X26.here hx rfl (hb hby at_115) rfl ?_
                show Steps p.tables e below (T26.setTop (mkF m 117 #[.val (.int p1), .val (.int p2), .val (.int (p1 &&& (8388607 : Int32))), .val (.double (4368491638549381120 : UInt64)), .second, .val (.double (f1 (p1 &&& (8388607 : Int32)) (4368491638549381120 : UInt64))), .second, .val (.double (f1 ((p1 &&& (8388607 : Int32)) + (1 : Int32)) (4368491638549381120 : UInt64))), .second, .val (.double (FP.dmul (FP.i2d (p1 &&& (8388607 : Int32))) (4368491638549381120 : UInt64))), .second, .val (.double (FP.dmul (FP.i2d ((p1 &&& (8388607 : Int32)) + (1 : Int32))) (4368491638549381120 : UInt64))), .second, .val (.int (1 : Int32))] [(.double (f1 (p1 &&& (8388607 : Int32)) (4368491638549381120 : UInt64)))])) _
                refine X26.ldc2DoubleC hx hown (mvT hZ (hw _ (List.mem_of_getElem? (i := 6) rfl))) (g := (mkF m 117 #[.val (.int p1), .val (.int p2), .val (.int (p1 &&& (8388607 : Int32))), .val (.double (4368491638549381120 : UInt64)), .second, .val (.double (f1 (p1 &&& (8388607 : Int32)) (4368491638549381120 : UInt64))), .second, .val (.double (f1 ((p1 &&& (8388607 : Int32)) + (1 : Int32)) (4368491638549381120 : UInt64))), .second, .val (.double (FP.dmul (FP.i2d (p1 &&& (8388607 : Int32))) (4368491638549381120 : UInt64))), .second, .val (.double (FP.dmul (FP.i2d ((p1 &&& (8388607 : Int32)) + (1 : Int32))) (4368491638549381120 : UInt64))), .second, .val (.int (1 : Int32))] [(.double (f1 (p1 &&& (8388607 : Int32)) (4368491638549381120 : UInt64)))])) rfl (hb hby at_117) _ ?_
                show Steps p.tables e below (T26.setTop (mkF m 120 #[.val (.int p1), .val (.int p2), .val (.int (p1 &&& (8388607 : Int32))), .val (.double (4368491638549381120 : UInt64)), .second, .val (.double (f1 (p1 &&& (8388607 : Int32)) (4368491638549381120 : UInt64))), .second, .val (.double (f1 ((p1 &&& (8388607 : Int32)) + (1 : Int32)) (4368491638549381120 : UInt64))), .second, .val (.double (FP.dmul (FP.i2d (p1 &&& (8388607 : Int32))) (4368491638549381120 : UInt64))), .second, .val (.double (FP.dmul (FP.i2d ((p1 &&& (8388607 : Int32)) + (1 : Int32))) (4368491638549381120 : UInt64))), .second, .val (.int (1 : Int32))] [(.double (4611686018427387904 : UInt64)), (.double (f1 (p1 &&& (8388607 : Int32)) (4368491638549381120 : UInt64)))])) _
                refine XS.dload X26.here hx rfl (hb hby at_120) rfl ?_
                show Steps p.tables e below (T26.setTop (mkF m 122 #[.val (.int p1), .val (.int p2), .val (.int (p1 &&& (8388607 : Int32))), .val (.double (4368491638549381120 : UInt64)), .second, .val (.double (f1 (p1 &&& (8388607 : Int32)) (4368491638549381120 : UInt64))), .second, .val (.double (f1 ((p1 &&& (8388607 : Int32)) + (1 : Int32)) (4368491638549381120 : UInt64))), .second, .val (.double (FP.dmul (FP.i2d (p1 &&& (8388607 : Int32))) (4368491638549381120 : UInt64))), .second, .val (.double (FP.dmul (FP.i2d ((p1 &&& (8388607 : Int32)) + (1 : Int32))) (4368491638549381120 : UInt64))), .second, .val (.int (1 : Int32))] [(.double (FP.dmul (FP.i2d (p1 &&& (8388607 : Int32))) (4368491638549381120 : UInt64))), (.double (4611686018427387904 : UInt64)), (.double (f1 (p1 &&& (8388607 : Int32)) (4368491638549381120 : UInt64)))])) _
                refine XS.dmulS X26.here hx rfl (hb hby at_122) rfl (own_n2x53 (own_ok0 p1)) rfl ?_
                show Steps p.tables e below (T26.setTop (mkF m 123 #[.val (.int p1), .val (.int p2), .val (.int (p1 &&& (8388607 : Int32))), .val (.double (4368491638549381120 : UInt64)), .second, .val (.double (f1 (p1 &&& (8388607 : Int32)) (4368491638549381120 : UInt64))), .second, .val (.double (f1 ((p1 &&& (8388607 : Int32)) + (1 : Int32)) (4368491638549381120 : UInt64))), .second, .val (.double (FP.dmul (FP.i2d (p1 &&& (8388607 : Int32))) (4368491638549381120 : UInt64))), .second, .val (.double (FP.dmul (FP.i2d ((p1 &&& (8388607 : Int32)) + (1 : Int32))) (4368491638549381120 : UInt64))), .second, .val (.int (1 : Int32))] [(.double (FP.dmul (4611686018427387904 : UInt64) (FP.dmul (FP.i2d (p1 &&& (8388607 : Int32))) (4368491638549381120 : UInt64)))), (.double (f1 (p1 &&& (8388607 : Int32)) (4368491638549381120 : UInt64)))])) _
                refine XS.dcmpS X26.here hx rfl (hb hby at_123) rfl rfl ?_
                exact k
              by_cases hc124_44 : (0 : Int32) < (cmpValue (FP.dcmp (f1 (p1 &&& (8388607 : Int32)) (4368491638549381120 : UInt64)) (FP.dmul (4611686018427387904 : UInt64) (FP.dmul (FP.i2d (p1 &&& (8388607 : Int32))) (4368491638549381120 : UInt64)))) .g)
              · refine hneg ?_
                obtain ⟨fs, hr, hrun, hended, hW, hsame⟩ := X26.leave (v := some (.int (0 : Int32))) (fun h => by rw [Bd.returns] at h; cases h)
                refine ⟨_, _, pre43 _ ?_, hrun, hended, _, _, rfl, ?_, ⟨_, rfl⟩, hW, hsame.mono (by decide) (by decide)⟩
                · show Steps p.tables e below (T26.setTop (mkF m 124 #[.val (.int p1), .val (.int p2), .val (.int (p1 &&& (8388607 : Int32))), .val (.double (4368491638549381120 : UInt64)), .second, .val (.double (f1 (p1 &&& (8388607 : Int32)) (4368491638549381120 : UInt64))), .second, .val (.double (f1 ((p1 &&& (8388607 : Int32)) + (1 : Int32)) (4368491638549381120 : UInt64))), .second, .val (.double (FP.dmul (FP.i2d (p1 &&& (8388607 : Int32))) (4368491638549381120 : UInt64))), .second, .val (.double (FP.dmul (FP.i2d ((p1 &&& (8388607 : Int32)) + (1 : Int32))) (4368491638549381120 : UInt64))), .second, .val (.int (1 : Int32))] [(.int (cmpValue (FP.dcmp (f1 (p1 &&& (8388607 : Int32)) (4368491638549381120 : UInt64)) (FP.dmul (4611686018427387904 : UInt64) (FP.dmul (FP.i2d (p1 &&& (8388607 : Int32))) (4368491638549381120 : UInt64)))) .g))])) _
                  refine XS.ifYes X26.here hx rfl (pc0 := 124) (pc' := 131) rfl (hb hby at_124) rfl ((if0 _ _).trans (tlt hc124_44).2.2.1) (by decide) (by decide) ?_
                  show Steps p.tables e below (T26.setTop (mkF m 131 #[.val (.int p1), .val (.int p2), .val (.int (p1 &&& (8388607 : Int32))), .val (.double (4368491638549381120 : UInt64)), .second, .val (.double (f1 (p1 &&& (8388607 : Int32)) (4368491638549381120 : UInt64))), .second, .val (.double (f1 ((p1 &&& (8388607 : Int32)) + (1 : Int32)) (4368491638549381120 : UInt64))), .second, .val (.double (FP.dmul (FP.i2d (p1 &&& (8388607 : Int32))) (4368491638549381120 : UInt64))), .second, .val (.double (FP.dmul (FP.i2d ((p1 &&& (8388607 : Int32)) + (1 : Int32))) (4368491638549381120 : UInt64))), .second, .val (.int (1 : Int32))] [])) _
                  refine XS.iconst X26.here hx rfl (hb hby at_131) ?_
                  show Steps p.tables e below (T26.setTop (mkF m 132 #[.val (.int p1), .val (.int p2), .val (.int (p1 &&& (8388607 : Int32))), .val (.double (4368491638549381120 : UInt64)), .second, .val (.double (f1 (p1 &&& (8388607 : Int32)) (4368491638549381120 : UInt64))), .second, .val (.double (f1 ((p1 &&& (8388607 : Int32)) + (1 : Int32)) (4368491638549381120 : UInt64))), .second, .val (.double (FP.dmul (FP.i2d (p1 &&& (8388607 : Int32))) (4368491638549381120 : UInt64))), .second, .val (.double (FP.dmul (FP.i2d ((p1 &&& (8388607 : Int32)) + (1 : Int32))) (4368491638549381120 : UInt64))), .second, .val (.int (1 : Int32))] [(.int (0 : Int32))])) _
                  exact retN X26 hx (t := .boolean) Bd.returns (by simp) (hb hby at_132) hr
                · show Q0 Z p1 p2 h0 n0 _ T26.heap _
                  rw [e26]
                  refine ⟨?_, N26, rfl⟩
                  rw [show f0 p1 p2 = (0 : Int32) from (by skip; simp only [f0, if_neg hc8_2, if_neg hc50_28, if_pos hc58_32, if_neg hc70_34, if_neg hc81_38, if_pos hc112_42, if_pos hc124_44])]
              · refine hneg ?_
                obtain ⟨fs, hr, hrun, hended, hW, hsame⟩ := X26.leave (v := some (.int (1 : Int32))) (fun h => by rw [Bd.returns] at h; cases h)
                refine ⟨_, _, pre43 _ ?_, hrun, hended, _, _, rfl, ?_, ⟨_, rfl⟩, hW, hsame.mono (by decide) (by decide)⟩
                · show Steps p.tables e below (T26.setTop (mkF m 124 #[.val (.int p1), .val (.int p2), .val (.int (p1 &&& (8388607 : Int32))), .val (.double (4368491638549381120 : UInt64)), .second, .val (.double (f1 (p1 &&& (8388607 : Int32)) (4368491638549381120 : UInt64))), .second, .val (.double (f1 ((p1 &&& (8388607 : Int32)) + (1 : Int32)) (4368491638549381120 : UInt64))), .second, .val (.double (FP.dmul (FP.i2d (p1 &&& (8388607 : Int32))) (4368491638549381120 : UInt64))), .second, .val (.double (FP.dmul (FP.i2d ((p1 &&& (8388607 : Int32)) + (1 : Int32))) (4368491638549381120 : UInt64))), .second, .val (.int (1 : Int32))] [(.int (cmpValue (FP.dcmp (f1 (p1 &&& (8388607 : Int32)) (4368491638549381120 : UInt64)) (FP.dmul (4611686018427387904 : UInt64) (FP.dmul (FP.i2d (p1 &&& (8388607 : Int32))) (4368491638549381120 : UInt64)))) .g))])) _
                  refine XS.ifNo X26.here hx rfl (hb hby at_124) rfl ((if0 _ _).trans (flt hc124_44).2.2.1) ?_
                  show Steps p.tables e below (T26.setTop (mkF m 127 #[.val (.int p1), .val (.int p2), .val (.int (p1 &&& (8388607 : Int32))), .val (.double (4368491638549381120 : UInt64)), .second, .val (.double (f1 (p1 &&& (8388607 : Int32)) (4368491638549381120 : UInt64))), .second, .val (.double (f1 ((p1 &&& (8388607 : Int32)) + (1 : Int32)) (4368491638549381120 : UInt64))), .second, .val (.double (FP.dmul (FP.i2d (p1 &&& (8388607 : Int32))) (4368491638549381120 : UInt64))), .second, .val (.double (FP.dmul (FP.i2d ((p1 &&& (8388607 : Int32)) + (1 : Int32))) (4368491638549381120 : UInt64))), .second, .val (.int (1 : Int32))] [])) _
                  refine XS.iconst X26.here hx rfl (hb hby at_127) ?_
                  show Steps p.tables e below (T26.setTop (mkF m 128 #[.val (.int p1), .val (.int p2), .val (.int (p1 &&& (8388607 : Int32))), .val (.double (4368491638549381120 : UInt64)), .second, .val (.double (f1 (p1 &&& (8388607 : Int32)) (4368491638549381120 : UInt64))), .second, .val (.double (f1 ((p1 &&& (8388607 : Int32)) + (1 : Int32)) (4368491638549381120 : UInt64))), .second, .val (.double (FP.dmul (FP.i2d (p1 &&& (8388607 : Int32))) (4368491638549381120 : UInt64))), .second, .val (.double (FP.dmul (FP.i2d ((p1 &&& (8388607 : Int32)) + (1 : Int32))) (4368491638549381120 : UInt64))), .second, .val (.int (1 : Int32))] [(.int (1 : Int32))])) _
                  refine XS.goto X26.here hx rfl (pc0 := 128) (pc' := 132) rfl (hb hby at_128) (by decide) (by decide) ?_
                  show Steps p.tables e below (T26.setTop (mkF m 132 #[.val (.int p1), .val (.int p2), .val (.int (p1 &&& (8388607 : Int32))), .val (.double (4368491638549381120 : UInt64)), .second, .val (.double (f1 (p1 &&& (8388607 : Int32)) (4368491638549381120 : UInt64))), .second, .val (.double (f1 ((p1 &&& (8388607 : Int32)) + (1 : Int32)) (4368491638549381120 : UInt64))), .second, .val (.double (FP.dmul (FP.i2d (p1 &&& (8388607 : Int32))) (4368491638549381120 : UInt64))), .second, .val (.double (FP.dmul (FP.i2d ((p1 &&& (8388607 : Int32)) + (1 : Int32))) (4368491638549381120 : UInt64))), .second, .val (.int (1 : Int32))] [(.int (1 : Int32))])) _
                  exact retN X26 hx (t := .boolean) Bd.returns (by simp) (hb hby at_132) hr
                · show Q0 Z p1 p2 h0 n0 _ T26.heap _
                  rw [e26]
                  refine ⟨?_, N26, rfl⟩
                  rw [show f0 p1 p2 = (1 : Int32) from (by skip; simp only [f0, if_neg hc8_2, if_neg hc50_28, if_pos hc58_32, if_neg hc70_34, if_neg hc81_38, if_pos hc112_42, if_neg hc124_44])]
            · refine hneg ?_
              obtain ⟨fs, hr, hrun, hended, hW, hsame⟩ := X26.leave (v := some (.int (0 : Int32))) (fun h => by rw [Bd.returns] at h; cases h)
              refine ⟨_, _, pre41 _ ?_, hrun, hended, _, _, rfl, ?_, ⟨_, rfl⟩, hW, hsame.mono (by decide) (by decide)⟩
              · show Steps p.tables e below (T26.setTop (mkF m 112 #[.val (.int p1), .val (.int p2), .val (.int (p1 &&& (8388607 : Int32))), .val (.double (4368491638549381120 : UInt64)), .second, .val (.double (f1 (p1 &&& (8388607 : Int32)) (4368491638549381120 : UInt64))), .second, .val (.double (f1 ((p1 &&& (8388607 : Int32)) + (1 : Int32)) (4368491638549381120 : UInt64))), .second, .val (.double (FP.dmul (FP.i2d (p1 &&& (8388607 : Int32))) (4368491638549381120 : UInt64))), .second, .val (.double (FP.dmul (FP.i2d ((p1 &&& (8388607 : Int32)) + (1 : Int32))) (4368491638549381120 : UInt64))), .second, .val (.int (1 : Int32))] [(.int (cmpValue (FP.dcmp (FP.dmul (FP.i2d (p1 &&& (8388607 : Int32))) (4368491638549381120 : UInt64)) (f1 (p1 &&& (8388607 : Int32)) (4368491638549381120 : UInt64))) .g))])) _
                refine XS.ifYes X26.here hx rfl (pc0 := 112) (pc' := 131) rfl (hb hby at_112) rfl ((if0 _ _).trans (flt hc112_42).2.1) (by decide) (by decide) ?_
                show Steps p.tables e below (T26.setTop (mkF m 131 #[.val (.int p1), .val (.int p2), .val (.int (p1 &&& (8388607 : Int32))), .val (.double (4368491638549381120 : UInt64)), .second, .val (.double (f1 (p1 &&& (8388607 : Int32)) (4368491638549381120 : UInt64))), .second, .val (.double (f1 ((p1 &&& (8388607 : Int32)) + (1 : Int32)) (4368491638549381120 : UInt64))), .second, .val (.double (FP.dmul (FP.i2d (p1 &&& (8388607 : Int32))) (4368491638549381120 : UInt64))), .second, .val (.double (FP.dmul (FP.i2d ((p1 &&& (8388607 : Int32)) + (1 : Int32))) (4368491638549381120 : UInt64))), .second, .val (.int (1 : Int32))] [])) _
                refine XS.iconst X26.here hx rfl (hb hby at_131) ?_
                show Steps p.tables e below (T26.setTop (mkF m 132 #[.val (.int p1), .val (.int p2), .val (.int (p1 &&& (8388607 : Int32))), .val (.double (4368491638549381120 : UInt64)), .second, .val (.double (f1 (p1 &&& (8388607 : Int32)) (4368491638549381120 : UInt64))), .second, .val (.double (f1 ((p1 &&& (8388607 : Int32)) + (1 : Int32)) (4368491638549381120 : UInt64))), .second, .val (.double (FP.dmul (FP.i2d (p1 &&& (8388607 : Int32))) (4368491638549381120 : UInt64))), .second, .val (.double (FP.dmul (FP.i2d ((p1 &&& (8388607 : Int32)) + (1 : Int32))) (4368491638549381120 : UInt64))), .second, .val (.int (1 : Int32))] [(.int (0 : Int32))])) _
                exact retN X26 hx (t := .boolean) Bd.returns (by simp) (hb hby at_132) hr
              · show Q0 Z p1 p2 h0 n0 _ T26.heap _
                rw [e26]
                refine ⟨?_, N26, rfl⟩
                rw [show f0 p1 p2 = (0 : Int32) from (by skip; simp only [f0, if_neg hc8_2, if_neg hc50_28, if_pos hc58_32, if_neg hc70_34, if_neg hc81_38, if_neg hc112_42])]
      · have pre45 : ∀ t, Steps p.tables e below (T26.setTop (mkF m 81 #[.val (.int p1), .val (.int p2), .val (.int (p1 &&& (8388607 : Int32))), .val (.double (4368491638549381120 : UInt64)), .second, .val (.double (f1 (p1 &&& (8388607 : Int32)) (4368491638549381120 : UInt64))), .second, .val (.double (f1 ((p1 &&& (8388607 : Int32)) + (1 : Int32)) (4368491638549381120 : UInt64))), .second, .val (.double (FP.dmul (FP.i2d (p1 &&& (8388607 : Int32))) (4368491638549381120 : UInt64))), .second, .val (.double (FP.dmul (FP.i2d ((p1 &&& (8388607 : Int32)) + (1 : Int32))) (4368491638549381120 : UInt64))), .second, .val (.int (0 : Int32))] [(.int (p1 &&& (8388607 : Int32)))])) t → Steps p.tables e below (s₁.setTop (entryFrame m #[(.int p1), (.int p2)] maxLocals)) t := by
          intro t k
          refine pre31 t ?_
          show Steps p.tables e below (T26.setTop (mkF m 58 #[.val (.int p1), .val (.int p2), .val (.int (p1 &&& (8388607 : Int32))), .val (.double (4368491638549381120 : UInt64)), .second, .val (.double (f1 (p1 &&& (8388607 : Int32)) (4368491638549381120 : UInt64))), .second, .val (.double (f1 ((p1 &&& (8388607 : Int32)) + (1 : Int32)) (4368491638549381120 : UInt64))), .second, .val (.double (FP.dmul (FP.i2d (p1 &&& (8388607 : Int32))) (4368491638549381120 : UInt64))), .second, .val (.double (FP.dmul (FP.i2d ((p1 &&& (8388607 : Int32)) + (1 : Int32))) (4368491638549381120 : UInt64))), .second, .unset] [(.int (cmpValue (FP.dcmp (FP.dmul (FP.i2d ((p1 &&& (8388607 : Int32)) + (1 : Int32))) (4368491638549381120 : UInt64)) (f1 ((p1 &&& (8388607 : Int32)) + (1 : Int32)) (4368491638549381120 : UInt64))) .g))])) _
          refine XS.ifYes X26.here hx rfl (pc0 := 58) (pc' := 77) rfl (hb hby at_58) rfl ((if0 _ _).trans (flt hc58_32).2.1) (by decide) (by decide) ?_
          show Steps p.tables e below (T26.setTop (mkF m 77 #[.val (.int p1), .val (.int p2), .val (.int (p1 &&& (8388607 : Int32))), .val (.double (4368491638549381120 : UInt64)), .second, .val (.double (f1 (p1 &&& (8388607 : Int32)) (4368491638549381120 : UInt64))), .second, .val (.double (f1 ((p1 &&& (8388607 : Int32)) + (1 : Int32)) (4368491638549381120 : UInt64))), .second, .val (.double (FP.dmul (FP.i2d (p1 &&& (8388607 : Int32))) (4368491638549381120 : UInt64))), .second, .val (.double (FP.dmul (FP.i2d ((p1 &&& (8388607 : Int32)) + (1 : Int32))) (4368491638549381120 : UInt64))), .second, .unset] [])) _
          refine XS.iconst X26.here hx rfl (hb hby at_77) ?_
          show Steps p.tables e below (T26.setTop (mkF m 78 #[.val (.int p1), .val (.int p2), .val (.int (p1 &&& (8388607 : Int32))), .val (.double (4368491638549381120 : UInt64)), .second, .val (.double (f1 (p1 &&& (8388607 : Int32)) (4368491638549381120 : UInt64))), .second, .val (.double (f1 ((p1 &&& (8388607 : Int32)) + (1 : Int32)) (4368491638549381120 : UInt64))), .second, .val (.double (FP.dmul (FP.i2d (p1 &&& (8388607 : Int32))) (4368491638549381120 : UInt64))), .second, .val (.double (FP.dmul (FP.i2d ((p1 &&& (8388607 : Int32)) + (1 : Int32))) (4368491638549381120 : UInt64))), .second, .unset] [(.int (0 : Int32))])) _
          refine XS.istore X26.here hx rfl (hb hby at_78) rfl (l' := #[.val (.int p1), .val (.int p2), .val (.int (p1 &&& (8388607 : Int32))), .val (.double (4368491638549381120 : UInt64)), .second, .val (.double (f1 (p1 &&& (8388607 : Int32)) (4368491638549381120 : UInt64))), .second, .val (.double (f1 ((p1 &&& (8388607 : Int32)) + (1 : Int32)) (4368491638549381120 : UInt64))), .second, .val (.double (FP.dmul (FP.i2d (p1 &&& (8388607 : Int32))) (4368491638549381120 : UInt64))), .second, .val (.double (FP.dmul (FP.i2d ((p1 &&& (8388607 : Int32)) + (1 : Int32))) (4368491638549381120 : UInt64))), .second, .val (.int (0 : Int32))]) rfl ?_
          show Steps p.tables e below (T26.setTop (mkF m 80 #[.val (.int p1), .val (.int p2), .val (.int (p1 &&& (8388607 : Int32))), .val (.double (4368491638549381120 : UInt64)), .second, .val (.double (f1 (p1 &&& (8388607 : Int32)) (4368491638549381120 : UInt64))), .second, .val (.double (f1 ((p1 &&& (8388607 : Int32)) + (1 : Int32)) (4368491638549381120 : UInt64))), .second, .val (.double (FP.dmul (FP.i2d (p1 &&& (8388607 : Int32))) (4368491638549381120 : UInt64))), .second, .val (.double (FP.dmul (FP.i2d ((p1 &&& (8388607 : Int32)) + (1 : Int32))) (4368491638549381120 : UInt64))), .second, .val (.int (0 : Int32))] [])) _
          refine XS.iloadN X26.here hx rfl (hb hby at_80) rfl ?_
          exact k
        by_cases hc81_46 : (p1 &&& (8388607 : Int32)) = (0 : Int32)
        · refine hneg ?_
          obtain ⟨fs, hr, hrun, hended, hW, hsame⟩ := X26.leave (v := some (.int (0 : Int32))) (fun h => by rw [Bd.returns] at h; cases h)
          refine ⟨_, _, pre45 _ ?_, hrun, hended, _, _, rfl, ?_, ⟨_, rfl⟩, hW, hsame.mono (by decide) (by decide)⟩
          · show Steps p.tables e below (T26.setTop (mkF m 81 #[.val (.int p1), .val (.int p2), .val (.int (p1 &&& (8388607 : Int32))), .val (.double (4368491638549381120 : UInt64)), .second, .val (.double (f1 (p1 &&& (8388607 : Int32)) (4368491638549381120 : UInt64))), .second, .val (.double (f1 ((p1 &&& (8388607 : Int32)) + (1 : Int32)) (4368491638549381120 : UInt64))), .second, .val (.double (FP.dmul (FP.i2d (p1 &&& (8388607 : Int32))) (4368491638549381120 : UInt64))), .second, .val (.double (FP.dmul (FP.i2d ((p1 &&& (8388607 : Int32)) + (1 : Int32))) (4368491638549381120 : UInt64))), .second, .val (.int (0 : Int32))] [(.int (p1 &&& (8388607 : Int32)))])) _
            refine XS.ifNo X26.here hx rfl (hb hby at_81) rfl ((if0 _ _).trans (teq hc81_46).2) ?_
            show Steps p.tables e below (T26.setTop (mkF m 84 #[.val (.int p1), .val (.int p2), .val (.int (p1 &&& (8388607 : Int32))), .val (.double (4368491638549381120 : UInt64)), .second, .val (.double (f1 (p1 &&& (8388607 : Int32)) (4368491638549381120 : UInt64))), .second, .val (.double (f1 ((p1 &&& (8388607 : Int32)) + (1 : Int32)) (4368491638549381120 : UInt64))), .second, .val (.double (FP.dmul (FP.i2d (p1 &&& (8388607 : Int32))) (4368491638549381120 : UInt64))), .second, .val (.double (FP.dmul (FP.i2d ((p1 &&& (8388607 : Int32)) + (1 : Int32))) (4368491638549381120 : UInt64))), .second, .val (.int (0 : Int32))] [])) _
            refine XS.iload X26.here hx rfl (hb hby at_84) rfl ?_
            show Steps p.tables e below (T26.setTop (mkF m 86 #[.val (.int p1), .val (.int p2), .val (.int (p1 &&& (8388607 : Int32))), .val (.double (4368491638549381120 : UInt64)), .second, .val (.double (f1 (p1 &&& (8388607 : Int32)) (4368491638549381120 : UInt64))), .second, .val (.double (f1 ((p1 &&& (8388607 : Int32)) + (1 : Int32)) (4368491638549381120 : UInt64))), .second, .val (.double (FP.dmul (FP.i2d (p1 &&& (8388607 : Int32))) (4368491638549381120 : UInt64))), .second, .val (.double (FP.dmul (FP.i2d ((p1 &&& (8388607 : Int32)) + (1 : Int32))) (4368491638549381120 : UInt64))), .second, .val (.int (0 : Int32))] [(.int (0 : Int32))])) _
            refine XS.ifYes X26.here hx rfl (pc0 := 86) (pc' := 100) rfl (hb hby at_86) rfl ((if0 _ _).trans (teq (by decide : (0 : Int32) = (0 : Int32))).1) (by decide) (by decide) ?_
            show Steps p.tables e below (T26.setTop (mkF m 100 #[.val (.int p1), .val (.int p2), .val (.int (p1 &&& (8388607 : Int32))), .val (.double (4368491638549381120 : UInt64)), .second, .val (.double (f1 (p1 &&& (8388607 : Int32)) (4368491638549381120 : UInt64))), .second, .val (.double (f1 ((p1 &&& (8388607 : Int32)) + (1 : Int32)) (4368491638549381120 : UInt64))), .second, .val (.double (FP.dmul (FP.i2d (p1 &&& (8388607 : Int32))) (4368491638549381120 : UInt64))), .second, .val (.double (FP.dmul (FP.i2d ((p1 &&& (8388607 : Int32)) + (1 : Int32))) (4368491638549381120 : UInt64))), .second, .val (.int (0 : Int32))] [])) _
            refine XS.iconst X26.here hx rfl (hb hby at_100) ?_
            show Steps p.tables e below (T26.setTop (mkF m 101 #[.val (.int p1), .val (.int p2), .val (.int (p1 &&& (8388607 : Int32))), .val (.double (4368491638549381120 : UInt64)), .second, .val (.double (f1 (p1 &&& (8388607 : Int32)) (4368491638549381120 : UInt64))), .second, .val (.double (f1 ((p1 &&& (8388607 : Int32)) + (1 : Int32)) (4368491638549381120 : UInt64))), .second, .val (.double (FP.dmul (FP.i2d (p1 &&& (8388607 : Int32))) (4368491638549381120 : UInt64))), .second, .val (.double (FP.dmul (FP.i2d ((p1 &&& (8388607 : Int32)) + (1 : Int32))) (4368491638549381120 : UInt64))), .second, .val (.int (0 : Int32))] [(.int (0 : Int32))])) _
            exact retN X26 hx (t := .boolean) Bd.returns (by simp) (hb hby at_101) hr
          · show Q0 Z p1 p2 h0 n0 _ T26.heap _
            rw [e26]
            refine ⟨?_, N26, rfl⟩
            rw [show f0 p1 p2 = (0 : Int32) from (by skip; simp only [f0, if_neg hc8_2, if_neg hc50_28, if_neg hc58_32, if_pos hc81_46])]
        · refine hneg ?_
          obtain ⟨fs, hr, hrun, hended, hW, hsame⟩ := X26.leave (v := some (.int (0 : Int32))) (fun h => by rw [Bd.returns] at h; cases h)
          refine ⟨_, _, pre45 _ ?_, hrun, hended, _, _, rfl, ?_, ⟨_, rfl⟩, hW, hsame.mono (by decide) (by decide)⟩
          · show Steps p.tables e below (T26.setTop (mkF m 81 #[.val (.int p1), .val (.int p2), .val (.int (p1 &&& (8388607 : Int32))), .val (.double (4368491638549381120 : UInt64)), .second, .val (.double (f1 (p1 &&& (8388607 : Int32)) (4368491638549381120 : UInt64))), .second, .val (.double (f1 ((p1 &&& (8388607 : Int32)) + (1 : Int32)) (4368491638549381120 : UInt64))), .second, .val (.double (FP.dmul (FP.i2d (p1 &&& (8388607 : Int32))) (4368491638549381120 : UInt64))), .second, .val (.double (FP.dmul (FP.i2d ((p1 &&& (8388607 : Int32)) + (1 : Int32))) (4368491638549381120 : UInt64))), .second, .val (.int (0 : Int32))] [(.int (p1 &&& (8388607 : Int32)))])) _
            refine XS.ifYes X26.here hx rfl (pc0 := 81) (pc' := 102) rfl (hb hby at_81) rfl ((if0 _ _).trans (feq hc81_46).2) (by decide) (by decide) ?_
            show Steps p.tables e below (T26.setTop (mkF m 102 #[.val (.int p1), .val (.int p2), .val (.int (p1 &&& (8388607 : Int32))), .val (.double (4368491638549381120 : UInt64)), .second, .val (.double (f1 (p1 &&& (8388607 : Int32)) (4368491638549381120 : UInt64))), .second, .val (.double (f1 ((p1 &&& (8388607 : Int32)) + (1 : Int32)) (4368491638549381120 : UInt64))), .second, .val (.double (FP.dmul (FP.i2d (p1 &&& (8388607 : Int32))) (4368491638549381120 : UInt64))), .second, .val (.double (FP.dmul (FP.i2d ((p1 &&& (8388607 : Int32)) + (1 : Int32))) (4368491638549381120 : UInt64))), .second, .val (.int (0 : Int32))] [])) _
            refine XS.iload X26.here hx rfl (hb hby at_102) rfl ?_
            show Steps p.tables e below (T26.setTop (mkF m 104 #[.val (.int p1), .val (.int p2), .val (.int (p1 &&& (8388607 : Int32))), .val (.double (4368491638549381120 : UInt64)), .second, .val (.double (f1 (p1 &&& (8388607 : Int32)) (4368491638549381120 : UInt64))), .second, .val (.double (f1 ((p1 &&& (8388607 : Int32)) + (1 : Int32)) (4368491638549381120 : UInt64))), .second, .val (.double (FP.dmul (FP.i2d (p1 &&& (8388607 : Int32))) (4368491638549381120 : UInt64))), .second, .val (.double (FP.dmul (FP.i2d ((p1 &&& (8388607 : Int32)) + (1 : Int32))) (4368491638549381120 : UInt64))), .second, .val (.int (0 : Int32))] [(.int (0 : Int32))])) _
            refine XS.ifYes X26.here hx rfl (pc0 := 104) (pc' := 131) rfl (hb hby at_104) rfl ((if0 _ _).trans (teq (by decide : (0 : Int32) = (0 : Int32))).1) (by decide) (by decide) ?_
            show Steps p.tables e below (T26.setTop (mkF m 131 #[.val (.int p1), .val (.int p2), .val (.int (p1 &&& (8388607 : Int32))), .val (.double (4368491638549381120 : UInt64)), .second, .val (.double (f1 (p1 &&& (8388607 : Int32)) (4368491638549381120 : UInt64))), .second, .val (.double (f1 ((p1 &&& (8388607 : Int32)) + (1 : Int32)) (4368491638549381120 : UInt64))), .second, .val (.double (FP.dmul (FP.i2d (p1 &&& (8388607 : Int32))) (4368491638549381120 : UInt64))), .second, .val (.double (FP.dmul (FP.i2d ((p1 &&& (8388607 : Int32)) + (1 : Int32))) (4368491638549381120 : UInt64))), .second, .val (.int (0 : Int32))] [])) _
            refine XS.iconst X26.here hx rfl (hb hby at_131) ?_
            show Steps p.tables e below (T26.setTop (mkF m 132 #[.val (.int p1), .val (.int p2), .val (.int (p1 &&& (8388607 : Int32))), .val (.double (4368491638549381120 : UInt64)), .second, .val (.double (f1 (p1 &&& (8388607 : Int32)) (4368491638549381120 : UInt64))), .second, .val (.double (f1 ((p1 &&& (8388607 : Int32)) + (1 : Int32)) (4368491638549381120 : UInt64))), .second, .val (.double (FP.dmul (FP.i2d (p1 &&& (8388607 : Int32))) (4368491638549381120 : UInt64))), .second, .val (.double (FP.dmul (FP.i2d ((p1 &&& (8388607 : Int32)) + (1 : Int32))) (4368491638549381120 : UInt64))), .second, .val (.int (0 : Int32))] [(.int (0 : Int32))])) _
            exact retN X26 hx (t := .boolean) Bd.returns (by simp) (hb hby at_132) hr
          · show Q0 Z p1 p2 h0 n0 _ T26.heap _
            rw [e26]
            refine ⟨?_, N26, rfl⟩
            rw [show f0 p1 p2 = (0 : Int32) from (by skip; simp only [f0, if_neg hc8_2, if_neg hc50_28, if_neg hc58_32, if_neg hc81_46])]
theorem own_law (p1 p2 : Int32) : f0 p1 p2 = 1 := by
  have ok := own_ok0 p1
  have sc := own_suc p1
  have okN : (p1 &&& (8388607 : Int32)).toInt ≤ 8388607 := by
    have h := (c_and p1 8388607 (by decide)).2
    have e : (8388607 : Int32).toInt = 8388607 := by decide
    omega
  unfold f0
  generalize (p1 &&& (8388607 : Int32)) = n at *
  obtain ⟨N, hN⟩ : ∃ N : Nat, n.toInt = (N : Int) := ⟨n.toInt.toNat, by have := ok.1; omega⟩
  have hN1 : N ≤ 8388607 := by omega
  have hM : (n + (1 : Int32)).toInt = ((N + 1 : Nat) : Int) := by rw [sc, hN]; omega
  have z0 : n = 0 ∨ 0 < N := by
    by_cases hz : N = 0
    · exact Or.inl (Int32.toInt_inj.mp (by rw [hN, hz]; decide))
    · exact Or.inr (by omega)
  have e53 : ∀ m, f1 m (4368491638549381120 : UInt64) = own_G 4368491638549381120 m := fun _ => rfl
  have e24 : ∀ m, f1 m (4499096027743125504 : UInt64) = own_G 4499096027743125504 m := fun _ => rfl
  have x53 : ∀ m, FP.dmul (FP.i2d m) (4368491638549381120 : UInt64) = own_X 4368491638549381120 m := fun _ => rfl
  have x24 : ∀ m, FP.dmul (FP.i2d m) (4499096027743125504 : UInt64) = own_X 4499096027743125504 m := fun _ => rfl
  simp only [e53, e24, x53, x24]
  have nG53 : ∀ (m : Int32) (K : Nat), m.toInt = (K : Int) → 0 < K → K ≤ 8388608 → Jvm.FP.Core.val64 (own_G 4368491638549381120 m) ≠ .nan := fun m K a b c => (own_g53 m K a b c).1
  have nG24 : ∀ (m : Int32) (K : Nat), m.toInt = (K : Int) → 0 < K → K ≤ 8388608 → Jvm.FP.Core.val64 (own_G 4499096027743125504 m) ≠ .nan := fun m K a b c => (own_g24 m K a b c).1
  have D2 : ∀ (m : Int32) (K : Nat), m.toInt = (K : Int) → 0 < K → K ≤ 8388608 → cmpValue (FP.dcmp (own_X 4368491638549381120 m) (own_G 4368491638549381120 m)) .g < (0 : Int32) := fun m K a b c => own_ltv (own_x53 m K a b c).ok (nG53 m K a b c) (by show Jvm.FP.Core.zval _ _ < _; rw [show Jvm.FP.Core.zval Jvm.FP.Core.b64 (Jvm.FP.Core.val64 (own_X 4368491638549381120 m)) = _ from (own_x53 m K a b c).z]; exact own_D2 m K a b c)
  have D3 : ∀ (m : Int32) (K : Nat), m.toInt = (K : Int) → 0 < K → K ≤ 8388608 → ¬ (0 : Int32) < cmpValue (FP.dcmp (own_G 4368491638549381120 m) (FP.dmul (4611686018427387904 : UInt64) (own_X 4368491638549381120 m))) .g := fun m K a b c => own_le (nG53 m K a b c) (own_dbl53 m K a b c).ok (by show _ ≤ Jvm.FP.Core.zval _ _; rw [(own_dbl53 m K a b c).z]; exact own_D3 m K a b c)
  have F2 : ∀ (m : Int32) (K : Nat), m.toInt = (K : Int) → 0 < K → K ≤ 8388608 → ¬ (0 : Int32) < cmpValue (FP.dcmp (FP.dadd (own_X 4499096027743125504 m) (FP.dmul (own_X 4499096027743125504 m) (own_X 4499096027743125504 m))) (own_G 4499096027743125504 m)) .g := fun m K a b c => own_le (own_asr m K a b c).ok (nG24 m K a b c) (by show Jvm.FP.Core.zval _ _ ≤ _; rw [(own_asr m K a b c).z]; exact own_F2 m K a b c)
  have F3 : ∀ (m : Int32) (K : Nat), m.toInt = (K : Int) → 0 < K → K ≤ 8388608 → ¬ (0 : Int32) < cmpValue (FP.dcmp (own_G 4499096027743125504 m) (FP.dadd (own_X 4499096027743125504 m) (FP.dmul (FP.dmul (4611686018427387904 : UInt64) (own_X 4499096027743125504 m)) (own_X 4499096027743125504 m)))) .g := fun m K a b c => own_le (nG24 m K a b c) (own_atr m K a b c).ok (by show _ ≤ Jvm.FP.Core.zval _ _; rw [(own_atr m K a b c).z]; exact own_F3 m K a b c)
  have D1 : ¬ (0 : Int32) < cmpValue (FP.dcmp (own_G 4368491638549381120 n) (own_G 4368491638549381120 (n + (1 : Int32)))) .g := by
    have g := own_D2 _ (N + 1) hM (by omega) (by omega)
    rcases z0 with rfl | hp
    · refine own_le (by decide +kernel) (nG53 _ (N + 1) hM (by omega) (by omega)) ?_
      rw [show own_z (own_G 4368491638549381120 0) = 0 from by unfold own_z; decide +kernel]
      exact Int.le_of_lt (Int.lt_of_le_of_lt (Int.natCast_nonneg _) g)
    · exact own_le (nG53 n N hN hp (by omega)) (nG53 _ (N + 1) hM (by omega) (by omega)) (Int.le_trans (own_D1 n N hN hp hN1) (Int.le_of_lt g))
  have F1 : ¬ (0 : Int32) < cmpValue (FP.dcmp (own_G 4499096027743125504 n) (own_G 4499096027743125504 (n + (1 : Int32)))) .g := by
    have g := own_F2 _ (N + 1) hM (by omega) (by omega)
    rcases z0 with rfl | hp
    · refine own_le (by decide +kernel) (nG24 _ (N + 1) hM (by omega) (by omega)) ?_
      rw [show own_z (own_G 4499096027743125504 0) = 0 from by unfold own_z; decide +kernel]
      exact Int.le_trans (Int.natCast_nonneg _) g
    · exact own_le (nG24 n N hN hp (by omega)) (nG24 _ (N + 1) hM (by omega) (by omega)) (own_F1 n _ N hN hM hp hN1)
  by_cases hb : (p2 &&& (1 : Int32)) = (0 : Int32)
  · rw [if_pos hb, if_neg F1, if_neg (F2 _ (N + 1) hM (by omega) (by omega)), if_neg (F3 _ (N + 1) hM (by omega) (by omega))]
    by_cases hz : n = (0 : Int32)
    · rw [if_pos hz, hz, if_pos (by decide +kernel)]
    · have hp : 0 < N := z0.resolve_left hz
      rw [if_neg hz, if_neg (F2 n N hN hp (by omega)), if_neg (F3 n N hN hp (by omega))]
  · rw [if_neg hb, if_neg D1, if_pos (D2 _ (N + 1) hM (by omega) (by omega)), if_neg (D3 _ (N + 1) hM (by omega) (by omega))]
    by_cases hz : n = (0 : Int32)
    · rw [if_pos hz, hz, if_pos (by decide +kernel)]
    · have hp : 0 < N := z0.resolve_left hz
      rw [if_neg hz, if_pos (D2 n N hN hp (by omega)), if_neg (D3 n N hN hp (by omega))]
set_option maxRecDepth 65536 in
set_option maxHeartbeats 40000000 in
theorem comes_1 {Post : Tables → Env → Array Value → State → Outcome → State → Prop} (hpost : ∀ tb e args s v u, (limb_1_1.after args s (.returned v) u = true ∧ limb_1_2.after args s (.returned v) u = true ∧ True) → FrameEnd s (.returned v) u (Jvm.fieldLocs frame_1_writes args s ++ Jvm.arrayLocs frame_1_arrays args s ++ Jvm.staticLocs frame_1_statics s) 0 0 → Post tb e args s (.returned v) u) :
    ArmFor flags0 classFile x code maxLocals ret World_1 tables_1 room_1 Calls_1 rest_1 Pre_1 Post := by
  intro l hfl _ _ p e ha hc hk s m args below hf hA hF happ hP
  obtain ⟨hcalls, hrest, hpre⟩ := hP
  obtain ⟨-, -, -, hnamed, -, -, -, hat⟩ := (Spec.applies_iff hf).mp happ
  obtain ⟨hg, hn⟩ := and_e (Cond.before_iff.mp (show (Jvm.Cond.and given_1 narrow_1).before args s = true from hpre))
  obtain ⟨gc, g0⟩ := and_e hg
  obtain ⟨ga0, gb0⟩ := and_e g0
  obtain ⟨w0, w1, rfl⟩ : ∃ w0 w1 : Value, args = #[w0, w1] := by
    have hs : args.size = 2 := by simpa [Cond.value, given_1] using gc
    obtain ⟨L⟩ := args
    match L, hs with
    | [w0, w1], _ => exact ⟨w0, w1, rfl⟩
  have hw := fun d (hd : d ∈ tables_1) => atoms_spec (ws := Jvm.Cond.code x code maxLocals ret :: tables_1) hat d (List.mem_cons_of_mem _ hd)
  have hfit : Fit s := fun {y c} hc i hi => by
    obtain ⟨ha, rfl⟩ := Array.getElem?_eq_some_iff.mp hc
    have q := List.all_eq_true.mp ((Array.all_eq_true_iff_forall_mem.mp hF) _ (Array.getElem_mem ha)) i (List.mem_range.mpr hi)
    simpa [Array.getElem?_eq_getElem hi] using q
  obtain ⟨i0, ei0⟩ := is_v ga0
  obtain rfl : w0 = (.int i0) := Option.some.inj ei0
  obtain ⟨i1, ei1⟩ := is_v gb0
  obtain rfl : w1 = (.int i1) := Option.some.inj ei1
  obtain ⟨n, o, h1, h2, h3, v, L, rfl, ⟨hv1, N, -⟩, hq⟩ := rm0 l s _ hw tables_1 i0 i1 s.heap s.heap.size p e ha hc hk s m _ below hf ((Spec.applies_iff_loose hf).mp happ).1 ⟨rfl, State.Warmed39.refl s, rfl⟩ trivial
  rw [own_law] at hv1
  subst hv1
  refine ⟨n, _, h1, h2, h3, hpost _ _ _ _ _ _ ⟨Cond.after_iff.mpr rfl, Cond.after_iff.mpr (eq_i res_at (Term.int_eval (1)) rfl), trivial⟩ ⟨hq.1, hq.2.1, (hq.2.2.sift fun y hy => Or.inr (N y hy)).mono (by decide) (by decide)⟩⟩
theorem main_1_1 : Claimed_1_1 := comes_1 fun _ _ _ _ _ _ h hF => ⟨h.1, hF⟩
theorem main_1_2 : Claimed_1_2 := comes_1 fun _ _ _ _ _ _ h hF => ⟨h.2.1, hF⟩
end Jvm.Pilot.@@N@@
namespace Jvm.Pilot.@@N@@
open Jvm Jvm.ClassFile Sem Op Lib Jvm.Free Jvm.Stand Jvm.Pilot.@@N@@.Jvm.D
/-! MADE BY PROGRAM (witnessworld.py) out of the Statement's table words and the real class files: 9 classes; the members and pool entries that the words name. The judged class is class 1, her method 1. -/
namespace start1
open Jvm.ClassFile
def u (s : String) : CpInfo := .utf8 (stringToUtf16 s)
/-- a pool by its gaps: so many unusable entries, then the entry; so many at the end -/
def gap : Nat → List CpInfo → List CpInfo
  | 0, r => r
  | n + 1, r => .unusable :: gap n r
def poolList (es : List (Nat × CpInfo)) (last : Nat) : List CpInfo := es.foldr (fun e r => gap e.1 (e.2 :: r)) (gap last [])
def pool (es : List (Nat × CpInfo)) (last : Nat) : Array CpInfo := ⟨poolList es last⟩
def fileOf (pool : Array CpInfo) (this : Nat) (attrs : Array Attribute := #[]) (ms : Array MethodInfo := #[]) (fl : Nat := 33) (sup : Nat := 0) (ifs : Array Nat := #[]) (fds : Array FieldInfo := #[]) : ClassFile where
  minorVersion := 0
  majorVersion := 65
  constantPool := pool
  accessFlags := fl
  thisClass := this
  superClass := sup
  interfaces := ifs
  fields := fds
  methods := ms
  attributes := attrs
def plain (name : String) (sup : Option ClassId) : Class where
  name := name
  kind := .ordinary
  loader := none
  accessFlags := 33
  super := sup
  interfaces := #[]
  cf := none
  fields := #[]
  methods := #[]
  instanceTypes := #[]
  staticTypes := #[]
  resolved := #[]
  callSites := []
  init := .initialized
  statics := none
  mirror := none

def pool0 : Array CpInfo := pool [(5, u "<init>"), (0, u "()V"), (1, .class_ 10), (1, u "java/lang/Object")] 113

def k0m0 : Method := { name := "<init>", desc := "()V", sig := { parameters := [], returnType := none }, accessFlags := 1, code := none }
/-- java/lang/Object -/
def k0 : Class := { plain "java/lang/Object" none with
  accessFlags := 33
  interfaces := #[]
  cf := some (fileOf pool0 8 #[] #[{ accessFlags := 1, nameIndex := 5, descriptorIndex := 6, attributes := #[] }] 33 0 #[] #[])
  fields := #[]
  methods := #[k0m0]
  instanceTypes := #[]
  staticTypes := #[]
  resolved := Array.replicate 124 none
  statics := none }

def pool1 : Array CpInfo := pool [(2, .class_ 4), (1, u "java/lang/Object"), (0, u "<init>"), (0, u "()V"), (0, .integer 8388607), (0, .class_ 9), (0, u "com/example/nearfield/nearfield/engine/FloatRounding"), (0, .double 4368491638549381120), (1, .methodref 8 13), (0, .nameAndType 14 15), (0, u "gamma"), (0, u "(ID)D"), (0, .double 4611686018427387904), (1, .double 4499096027743125504), (1, .class_ 21), (0, u "com/example/nearfield/nearfield/engine/FloatRoundingGammaPinLaw"), (2, u "law"), (0, u "(II)Z")] 3

def k1m0 : Method := { name := "<init>", desc := "()V", sig := { parameters := [], returnType := none }, accessFlags := 2, code := none }
def k1c1 : Code := { maxStack := 8, maxLocals := 14, code := code, exceptionTable := #[], attributes := #[] }
def k1m1 : Method := { name := "law", desc := "(II)Z", sig := { parameters := [.int, .int], returnType := some .boolean }, accessFlags := 9, code := some k1c1 }
/-- com/example/nearfield/nearfield/engine/FloatRoundingGammaPinLaw -/
def k1 : Class := { plain "com/example/nearfield/nearfield/engine/FloatRoundingGammaPinLaw" (some 0) with
  accessFlags := 49
  interfaces := #[]
  cf := some (fileOf pool1 20 #[] #[{ accessFlags := 2, nameIndex := 5, descriptorIndex := 6, attributes := #[] }, { accessFlags := 9, nameIndex := 24, descriptorIndex := 25, attributes := #[] }] 49 2 #[] #[])
  fields := #[]
  methods := #[k1m0, k1m1]
  instanceTypes := #[]
  staticTypes := #[]
  resolved := Array.replicate 29 none
  statics := none }

def pool2 : Array CpInfo := pool [(2, .class_ 4), (1, u "java/lang/Object"), (0, u "<init>"), (0, u "()V"), (0, .class_ 8), (0, u "com/example/nearfield/nearfield/engine/FloatRounding"), (0, u "FLOAT_UNIT"), (0, u "D"), (3, u "DOUBLE_UNIT"), (2, u "UNDERFLOW"), (2, u "BOUND_MARGIN"), (4, u "gamma"), (0, u "(ID)D")] 2

def k2m0 : Method := { name := "<init>", desc := "()V", sig := { parameters := [], returnType := none }, accessFlags := 2, code := none }
def k2c1 : Code := { maxStack := 8, maxLocals := 3, code := prog_24_method_2_code, exceptionTable := #[], attributes := #[] }
def k2m1 : Method := { name := "gamma", desc := "(ID)D", sig := { parameters := [.int, .double], returnType := some .double }, accessFlags := 8, code := some k2c1 }
/-- com/example/nearfield/nearfield/engine/FloatRounding -/
def k2 : Class := { plain "com/example/nearfield/nearfield/engine/FloatRounding" (some 0) with
  accessFlags := 48
  interfaces := #[]
  cf := some (fileOf pool2 7 #[] #[{ accessFlags := 2, nameIndex := 5, descriptorIndex := 6, attributes := #[] }, { accessFlags := 8, nameIndex := 25, descriptorIndex := 26, attributes := #[] }] 48 2 #[] #[{ accessFlags := 24, nameIndex := 9, descriptorIndex := 10, attributes := #[] }, { accessFlags := 24, nameIndex := 14, descriptorIndex := 10, attributes := #[] }, { accessFlags := 24, nameIndex := 17, descriptorIndex := 10, attributes := #[] }, { accessFlags := 24, nameIndex := 20, descriptorIndex := 10, attributes := #[] }])
  fields := #[{ name := "FLOAT_UNIT", type := .double, accessFlags := 24, slot := 0, constantValue := 0 }, { name := "DOUBLE_UNIT", type := .double, accessFlags := 24, slot := 1, constantValue := 0 }, { name := "UNDERFLOW", type := .double, accessFlags := 24, slot := 2, constantValue := 0 }, { name := "BOUND_MARGIN", type := .double, accessFlags := 24, slot := 3, constantValue := 0 }]
  methods := #[k2m0, k2m1]
  instanceTypes := #[]
  staticTypes := #[.double, .double, .double, .double]
  resolved := Array.replicate 29 none
  statics := none }

def pool3 : Array CpInfo := pool [(1, u "java/lang/Cloneable"), (0, .class_ 1), (0, u "java/lang/Object"), (0, .class_ 3)] 3

/-- java/lang/Cloneable -/
def k3 : Class := { plain "java/lang/Cloneable" (some 0) with
  accessFlags := 1537
  interfaces := #[]
  cf := some (fileOf pool3 2 #[] #[] 1537 4 #[] #[])
  fields := #[]
  methods := #[]
  instanceTypes := #[]
  staticTypes := #[]
  resolved := Array.replicate 8 none
  statics := none }

def pool4 : Array CpInfo := pool [(1, u "java/io/Serializable"), (0, .class_ 1), (0, u "java/lang/Object"), (0, .class_ 3)] 3

/-- java/io/Serializable -/
def k4 : Class := { plain "java/io/Serializable" (some 0) with
  accessFlags := 1537
  interfaces := #[]
  cf := some (fileOf pool4 2 #[] #[] 1537 4 #[] #[])
  fields := #[]
  methods := #[]
  instanceTypes := #[]
  staticTypes := #[]
  resolved := Array.replicate 8 none
  statics := none }

/-- the primitive byte -/
def k5 : Class := { plain "byte" none with kind := .primitive 'B', accessFlags := 0x411 }
/-- [B -/
def k6 : Class := { plain "[B" (some 0) with kind := .array 5 .byte, interfaces := #[3, 4], accessFlags := 1041 }

/-- the primitive int -/
def k7 : Class := { plain "int" none with kind := .primitive 'I', accessFlags := 0x411 }
/-- [I -/
def k8 : Class := { plain "[I" (some 0) with kind := .array 7 .int, interfaces := #[3, 4], accessFlags := 1041 }

def heap : Heap := #[]
def classes : Array Class := #[k0, k1, k2, k3, k4, k5, k6, k7, k8]
def interned : List (Array UInt16 × Addr) := []
def slotsUsed : Nat := 0
def theMethod : MethodId := ⟨1, 1⟩
def args0 : Array Value := #[.int 7, .int 1]
def aboutOver (below : List Frame) : State where
  vm := { classes := classes, interned := interned.toArray }
  heap := heap
  slotsUsed := slotsUsed
  threads := #[{ frames := .invoking theMethod args0 :: below }]
def below0 : List Frame := [.native { method := ⟨0, 0⟩, args := #[] }]
def about1 : State := aboutOver below0
def p0 : Program := .bare "" "" ""
def e0 : Env := launch0.env 0 0 0
theorem w_frames : about1.frames = Frame.invoking theMethod args0 :: below0 := rfl
set_option maxRecDepth 65536 in
theorem w_args : argsFit about1.vm theMethod args0 = true := by decide +kernel
set_option maxRecDepth 65536 in
theorem w_heap : heapFits about1 = true := by decide +kernel
set_option maxRecDepth 65536 in
theorem w_runnable : about1.curStatus? = some .runnable := by decide +kernel
set_option maxRecDepth 65536 in
theorem w_alone : about1.alone = true := by decide +kernel
set_option maxRecDepth 65536 in
theorem w_named : about1.methodNamed? x = some theMethod := by decide +kernel
set_option maxRecDepth 65536 in
theorem w_hears : about1.hears theMethod below0 = true := by decide +kernel
set_option maxRecDepth 65536 in
theorem w_ripe : about1.ripe theMethod args0 below0 = true := by decide +kernel
theorem w_running : about1.status = .running := rfl
set_option maxRecDepth 65536 in
theorem w_room : about1.hasRoom e0.platform room_1 = true :=
  launch0.hasRoom_least _ room_1 (by decide +kernel) (by decide +kernel) (by decide +kernel) (by decide +kernel) (by decide +kernel) (by decide +kernel)
theorem allAtoms_all (ts : List Jvm.Cond) (a : Array Jvm.Value) (st : Jvm.State) : (allAtoms ts).before a st = ts.all (fun c => c.before a st) := by
  induction ts with
  | nil => rfl
  | cons c t ih =>
    show (Jvm.Cond.and c (allAtoms t)).before a st = _
    rw [Jvm.Cond.before_and, ih, List.all_cons]
def words1 : List Jvm.Cond := Jvm.Cond.code x code maxLocals ret :: tables_1
/-- a 'code' word, met by the world's own term for the bytes: nothing is compared byte by byte -/
theorem code_word {y : MethodName} {bytes : ByteArray} {mx : Nat} {rt : Option FieldType} {a : Array Value} {s : State} {m : MethodId} {meth : Method} {c : Code} (h1 : s.methodNamed? y = some m) (h2 : s.vm.method? m = some meth) (h3 : meth.code = some c) (h4 : c.code = bytes)
    (h5 : (c.maxLocals == mx && c.exceptionTable.isEmpty && decide (c.maxStack ≤ mostOperands) && decide (meth.sig.returnType = rt) && !meth.locks && decide (parseMethodDescriptor y.desc = some meth.sig)) = true) : (Jvm.Cond.code y bytes mx rt).before a s = true := by
  simp only [Bool.and_eq_true, beq_iff_eq, Bool.not_eq_true', decide_eq_true_eq] at h5
  obtain ⟨⟨⟨⟨⟨g1, g2⟩, g3⟩, g4⟩, g5⟩, g6⟩ := h5
  simp [Cond.before, Cond.holds, Cond.value, h1, h2, h3, h4, g1, g2, g3, g4, g5, g6]
def isCode : Jvm.Cond → Bool
  | .code _ _ _ _ => true
  | _ => false
theorem all_split {L : List Jvm.Cond} {P : Jvm.Cond → Bool} (h1 : L.all (fun c => isCode c || P c) = true) (h2 : ∀ c ∈ L.filter isCode, P c = true) : L.all P = true := by
  refine List.all_eq_true.mpr fun c hc => ?_
  have h := List.all_eq_true.mp h1 c hc
  rcases Bool.eq_false_or_eq_true (isCode c) with hi | hi
  · exact h2 c (List.mem_filter.mpr ⟨hc, hi⟩)
  · simpa [hi] using h
set_option maxRecDepth 65536 in
theorem w_c0 : (Jvm.Cond.code x code maxLocals ret).before args0 about1 = true := code_word (m := ⟨1, 1⟩) (meth := k1m1) (c := k1c1) (by decide +kernel) rfl rfl rfl (by decide +kernel)
set_option maxRecDepth 65536 in
theorem w_c1 : (Jvm.Cond.code ({ cls := "com/example/nearfield/nearfield/engine/FloatRounding", name := "gamma", desc := "(ID)D" } : Jvm.MethodName) prog_24_method_2_code (3 : Nat) (Option.some Jvm.ClassFile.FieldType.double)).before args0 about1 = true := code_word (m := ⟨2, 1⟩) (meth := k2m1) (c := k2c1) (by decide +kernel) rfl rfl rfl (by decide +kernel)
def codes1 : List Jvm.Cond := [Jvm.Cond.code x code maxLocals ret, Jvm.Cond.code ({ cls := "com/example/nearfield/nearfield/engine/FloatRounding", name := "gamma", desc := "(ID)D" } : Jvm.MethodName) prog_24_method_2_code (3 : Nat) (Option.some Jvm.ClassFile.FieldType.double)]
set_option maxRecDepth 65536 in
theorem codes_eq : words1.filter isCode = codes1 := rfl
theorem w_codes : ∀ c ∈ words1.filter isCode, c.before args0 about1 = true := by
  rw [codes_eq]
  intro c hc
  simp only [codes1, List.mem_cons, List.not_mem_nil, or_false] at hc
  rcases hc with rfl | rfl
  · exact w_c0
  · exact w_c1
set_option maxRecDepth 65536 in
theorem w_t1 : words1.all (fun c => isCode c || c.before args0 about1) = true := by decide +kernel
theorem w_tables : (allAtoms (Jvm.Cond.code x code maxLocals ret :: tables_1)).before args0 about1 = true := by
  rw [allAtoms_all]
  show words1.all (fun c => c.before args0 about1) = true
  refine all_split ?_ w_codes
  rw [w_t1]
set_option maxRecDepth 65536 in
theorem w_case : (Jvm.Cond.and given_1 narrow_1).before args0 about1 = true := by decide +kernel
theorem w_applies : (headSpec (Jvm.Cond.code x code maxLocals ret :: tables_1) room_1).applies x e0.platform about1 = true :=
  (Spec.applies_iff w_frames).mpr ⟨w_running, w_runnable, w_alone, w_named, w_hears, w_ripe, w_room, w_tables⟩
theorem atStart : AtStart classFile x code maxLocals ret World_1 tables_1 room_1 Calls_1 rest_1 Pre_1 launch0 p0 e0 about1 theMethod args0 below0 :=
  ⟨lists_1, trivial, launch0.admits_env _ _ _, launch0.least_env, fairChoices_fair.cas, fairChoices_fair.clock, w_frames, w_args, w_heap, w_applies, trivial, trivial, w_case⟩
end start1
theorem witness_1 : WitnessClaimed_1 := ⟨start1.p0, start1.e0, start1.about1, start1.theMethod, start1.args0, start1.below0, start1.atStart⟩
end Jvm.Pilot.@@N@@
