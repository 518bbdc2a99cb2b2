import JvmDerived
import JvmDerived.Pilot.@@N@@Statement
import JvmDerived.Pilot.@@N@@Code
set_option linter.unusedVariables false
set_option linter.unusedSimpArgs false
namespace Jvm.RoadKit
open Sem ClassFile Op Lib Jvm.Stand Jvm.Free Jvm.LawKit
section New
variable {p : Program} {l : Launch} {e : Env} {R : Room} {s : State} {m : MethodId} {args : Array Value} {below : List Frame} {meth : Method} {c : Code} {T : State} {locs : List Loc} {cells slots : Nat}
theorem retI (X : Stand p l e R s m args below meth c T locs cells slots) (hx : p.tables.exec = Jvm.exec) {pc : Nat} {Ls : Array Slot} {z : Int32} {rest : List Value} (hret : meth.sig.returnType = some .int) (hd : decode c.code pc = .ok (.ireturn, 1)) {fs : List Frame}
    (hl : ∀ (f : JFrame) (acts : List Action), f.method = m → f.locked = none → f.entered = [] → (doReturn e (T.setTop f) acts (some (.int z))).1 = T.setFrames fs) : Steps p.tables e below (T.setTop (mkF m pc Ls (.int z :: rest))) (T.setFrames fs) := by
  have hm' : T.vm.method? m = some meth := X.method'
  have hn : narrow .int (.int z) = .int z := rfl
  show Steps p.tables e below (T.setTop { method := m, pc := pc, locals := Ls, stack := _ :: rest, locked := none }) _
  jvm_step X.here [X.here.top, hx, hd, hm', hret, hn]
  first | (intro acts; rw [hl _ acts rfl rfl rfl]) | rw [hl _ _ rfl rfl rfl]
  exact Steps.refl _
end New
end Jvm.RoadKit
namespace Jvm.Pilot.@@N@@
open Jvm Jvm.ClassFile Sem Op Lib Jvm.Free Jvm.Stand Jvm.LawKit Jvm.RoadKit Bundle Jvm.Pilot.@@N@@.Jvm.D
theorem pd0 : parseMethodDescriptor "()J" = some ⟨[], some .long⟩ := by decide +kernel
theorem pd1 : parseMethodDescriptor "(J)V" = some ⟨[.long], none⟩ := by decide +kernel
theorem pd2 : parseMethodDescriptor "()D" = some ⟨[], some .double⟩ := by decide +kernel
section OwnFloat
open Jvm.FP.Core (val64 val64_fits val64_dmul val64_inj good_b64 roundRatio_exact round roundRatio zval zmag inUnits dcmp_zval l2d_whole l2d_shape Whole Small53 val64_dconst0 val64_dconst1)
theorem own_qmin : Jvm.FP.Core.Fmt.qmin Jvm.FP.Core.b64 = -1074 := by decide
theorem own_qmax : Jvm.FP.Core.Fmt.qmax Jvm.FP.Core.b64 = 971 := by decide
theorem own_tails : Jvm.FP.Core.Fmt.tails Jvm.FP.Core.b64 = 2 ^ 52 := by decide
theorem own_p : Jvm.FP.Core.Fmt.p Jvm.FP.Core.b64 = 53 := rfl
theorem own_fitsq {c : Nat} {q : Int} (h : c < 2 ^ 53) (hc : 2 ^ 52 ≤ c) (h1 : -1074 ≤ q) (h2 : q ≤ 971) : Jvm.FP.Core.fits Jvm.FP.Core.b64 (.fin false c q) := by
  refine ⟨h, ?_, ?_, Or.inr ?_⟩
  · rw [own_qmin]; exact h1
  · rw [own_qmax]; exact h2
  · rw [own_tails]; exact hc
theorem own_cut {x : UInt64} {c : Nat} {q : Int} (hx : val64 x = .fin false c q) : c < 2 ^ 53 ∧ -1074 ≤ q ∧ q ≤ 971 ∧ (q = -1074 ∨ 2 ^ 52 ≤ c) := by
  have hf := val64_fits x
  rw [hx] at hf
  obtain ⟨h1, h2, h3, h4⟩ := hf
  rw [own_qmin] at h2 h4
  rw [own_qmax] at h3
  rw [own_tails] at h4
  exact ⟨h1, h2, h3, h4⟩
theorem own_down {x : UInt64} {c : Nat} {q : Int} (hx : val64 x = .fin false c q) (hc : 2 ^ 52 ≤ c) (h1 : -1000 ≤ q) (h2 : q ≤ 900) : val64 (FP.dmul x 4368491638549381120) = .fin false c (q - 53) := by
  have hu : val64 4368491638549381120 = .fin false (2 ^ 52) (-105) := by decide +kernel
  obtain ⟨g1, -, -, -⟩ := own_cut hx
  show val64 (Jvm.FP.Core.dmul x 4368491638549381120) = _
  rw [val64_dmul, hx, hu]
  show roundRatio Jvm.FP.Core.b64 false (c * 2 ^ 52) 1 (q + -105) = _
  refine roundRatio_exact good_b64 (by decide) (own_fitsq g1 hc (by omega) (by omega)) ?_
  rw [show (q + -105 - (q - 53)).toNat = 0 by omega, show (q - 53 - (q + -105)).toNat = 52 by omega]
  omega
theorem own_up {x : UInt64} {c : Nat} {q : Int} (hx : val64 x = .fin false c q) (hc : 2 ^ 52 ≤ c) (h1 : -1000 ≤ q) (h2 : q ≤ 900) : val64 (FP.dmul x 4845873199050653696) = .fin false c (q + 53) := by
  have hu : val64 4845873199050653696 = .fin false (2 ^ 52) 1 := by decide +kernel
  obtain ⟨g1, -, -, -⟩ := own_cut hx
  show val64 (Jvm.FP.Core.dmul x 4845873199050653696) = _
  rw [val64_dmul, hx, hu]
  show roundRatio Jvm.FP.Core.b64 false (c * 2 ^ 52) 1 (q + 1) = _
  refine roundRatio_exact good_b64 (by decide) (own_fitsq g1 hc (by omega) (by omega)) ?_
  rw [show (q + 1 - (q + 53)).toNat = 0 by omega, show (q + 53 - (q + 1)).toNat = 52 by omega]
  omega
theorem own_l2d {n : Int64} (h0 : 0 < n.toInt) (h1 : n.toInt < 2 ^ 53) : ∃ (c j : Nat), val64 (FP.l2d n) = .fin false c (-(j : Int)) ∧ 2 ^ 52 ≤ c ∧ j ≤ 52 ∧ (c : Int) = n.toInt * 2 ^ j := by
  have hs : Small53 n := ⟨by omega, by omega⟩
  have hw := l2d_whole hs
  obtain ⟨c, q, hx⟩ := l2d_shape n
  rw [show decide (n.toInt < 0) = false from by simp; omega] at hx
  obtain ⟨g1, g2, g3, g4⟩ := own_cut (x := FP.l2d n) hx
  have hw2 : (c : Int) * 2 ^ q.toNat = n.toInt * 2 ^ (-q).toNat := by
    have := hw
    rw [show val64 (Jvm.FP.Core.l2d n) = .fin false c q from hx] at this
    simpa [Whole, Jvm.FP.Core.signed] using this
  obtain ⟨N, hN⟩ : ∃ N : Nat, n.toInt = (N : Int) := ⟨n.toInt.toNat, by omega⟩
  rw [hN] at hw2 h0 h1 ⊢
  have hw3 : c * 2 ^ q.toNat = N * 2 ^ (-q).toNat := by exact_mod_cast hw2
  have hN0 : 1 ≤ N := by omega
  have hN1 : N < 2 ^ 53 := by exact_mod_cast h1
  have hq0 : q ≤ 0 := by
    refine Int.not_lt.mp fun hq => ?_
    rw [show (-q).toNat = 0 by omega, Nat.pow_zero, Nat.mul_one] at hw3
    have hc : 2 ^ 52 ≤ c := by rcases g4 with g | g <;> omega
    have : 2 ^ 1 ≤ 2 ^ q.toNat := Nat.pow_le_pow_right (by decide) (by omega)
    have := Nat.mul_le_mul hc this
    omega
  have hw4 : c = N * 2 ^ (-q).toNat := by
    rw [show q.toNat = 0 by omega, Nat.pow_zero, Nat.mul_one] at hw3
    exact hw3
  have hq1 : (-q).toNat ≤ 52 := by
    refine Nat.not_lt.mp fun hq => ?_
    have : 2 ^ 53 ≤ 2 ^ (-q).toNat := Nat.pow_le_pow_right (by decide) hq
    have := Nat.mul_le_mul hN0 this
    omega
  refine ⟨c, (-q).toNat, ?_, ?_, hq1, ?_⟩
  · rw [show (-((-q).toNat : Int)) = q by omega]; exact hx
  · rcases g4 with g | g
    · exfalso; omega
    · exact g
  · exact_mod_cast hw4
theorem own_notnan {x : UInt64} {c : Nat} {q : Int} (hx : val64 x = .fin false c q) : val64 x ≠ .nan := by
  rw [hx]; exact fun h => nomatch h
theorem own_nnan {x : UInt64} (hx : val64 x ≠ .nan) : Jvm.Free.Fl.NoNaN64 x := (Jvm.Free.Fl.dcmp_some (Jvm.FP.Core.dcmp_self hx)).1
def own_top (x : Int64) : Int64 := (x.toUInt64 >>> ((11 : Int32) &&& 0x3f).toInt64.toUInt64).toInt64
theorem own_topr (x : Int64) : 0 ≤ (own_top x).toInt ∧ (own_top x).toInt < 2 ^ 53 := by
  have h := c_lushr x 11 11 (by decide) (by decide)
  unfold own_top
  rw [h]
  constructor
  · omega
  · omega
theorem own_d {n : Int64} (h0 : 0 < n.toInt) (h1 : n.toInt < 2 ^ 53) : ∃ (c j : Nat), val64 (FP.l2d n) = .fin false c (-(j : Int)) ∧ val64 (FP.dmul (FP.l2d n) 4368491638549381120) = .fin false c (-(j : Int) - 53) ∧ val64 (FP.dmul (FP.dmul (FP.l2d n) 4368491638549381120) 4845873199050653696) = .fin false c (-(j : Int)) ∧ 2 ^ 52 ≤ c ∧ j ≤ 52 ∧ (c : Int) = n.toInt * 2 ^ j := by
  obtain ⟨c, j, e1, e2, e3, e4⟩ := own_l2d h0 h1
  have a := own_down e1 e2 (by omega) (by omega)
  have b := own_up a e2 (by omega) (by omega)
  rw [show (-(j : Int) - 53 + 53) = -(j : Int) by omega] at b
  exact ⟨c, j, e1, a, b, e2, e3, e4⟩
theorem own_zero (n : Int64) (h : n.toInt = 0) : n = 0 := Int64.toInt_inj.mp h
theorem own_nnT {n : Int64} (h0 : 0 ≤ n.toInt) (h1 : n.toInt < 2 ^ 53) : Jvm.Free.Fl.NoNaN64 (FP.dmul (FP.l2d n) 4368491638549381120) ∧ Jvm.Free.Fl.NoNaN64 (FP.dmul (FP.dmul (FP.l2d n) 4368491638549381120) 4845873199050653696) ∧ FP.dmul (FP.dmul (FP.l2d n) 4368491638549381120) 4845873199050653696 = FP.l2d n := by
  by_cases hz : n.toInt = 0
  · rw [own_zero n hz]
    refine ⟨?_, ?_, ?_⟩
    · unfold Jvm.Free.Fl.NoNaN64; decide +kernel
    · unfold Jvm.Free.Fl.NoNaN64; decide +kernel
    · decide +kernel
  · obtain ⟨c, j, e1, e2, e3, -, -, -⟩ := own_d (n := n) (by omega) h1
    refine ⟨own_nnan (own_notnan e2), own_nnan (own_notnan e3), ?_⟩
    exact val64_inj (own_notnan e3) (e3.trans e1.symm)
theorem own_nn (x : Int64) : Jvm.Free.Fl.NoNaN64 (FP.dmul (FP.l2d ((x.toUInt64 >>> ((11 : Int32) &&& 0x3f).toInt64.toUInt64).toInt64)) (4368491638549381120 : UInt64)) := (own_nnT (own_topr x).1 (own_topr x).2).1
theorem own_ge {n : Int64} (h0 : 0 ≤ n.toInt) (h1 : n.toInt < 2 ^ 53) : FP.dcmp (FP.dmul (FP.l2d n) 4368491638549381120) FP.dconst0 = some .gt ∨ FP.dcmp (FP.dmul (FP.l2d n) 4368491638549381120) FP.dconst0 = some .eq := by
  by_cases hz : n.toInt = 0
  · rw [own_zero n hz]
    right
    decide +kernel
  · left
    obtain ⟨c, j, e1, e2, e3, e4, e5, e6⟩ := own_d (n := n) (by omega) h1
    refine Jvm.FP.Core.dcmp_gt.mpr ⟨own_notnan e2, by decide +kernel, ?_⟩
    show zval Jvm.FP.Core.b64 (val64 FP.dconst0) < zval Jvm.FP.Core.b64 (val64 (FP.dmul (FP.l2d n) 4368491638549381120))
    rw [e2, show val64 FP.dconst0 = .fin false 0 Jvm.FP.Core.b64.qmin from val64_dconst0]
    show (((0 : Nat) * _ : Nat) : Int) < ((c * 2 ^ _ : Nat) : Int)
    have : 0 < c * 2 ^ (-(j : Int) - 53 - Jvm.FP.Core.b64.qmin).toNat := Nat.mul_pos (by omega) (Nat.two_pow_pos _)
    rw [Nat.zero_mul]
    exact_mod_cast this
theorem own_lt {n : Int64} (h0 : 0 ≤ n.toInt) (h1 : n.toInt < 2 ^ 53) : FP.dcmp (FP.dmul (FP.l2d n) 4368491638549381120) FP.dconst1 = some .lt := by
  by_cases hz : n.toInt = 0
  · rw [own_zero n hz]
    decide +kernel
  · obtain ⟨c, j, e1, e2, e3, e4, e5, e6⟩ := own_d (n := n) (by omega) h1
    refine Jvm.FP.Core.dcmp_lt.mpr ⟨own_notnan e2, by decide +kernel, ?_⟩
    show zval Jvm.FP.Core.b64 (val64 (FP.dmul (FP.l2d n) 4368491638549381120)) < zval Jvm.FP.Core.b64 (val64 FP.dconst1)
    rw [e2, show val64 FP.dconst1 = .fin false (2 ^ 52) (-52) from val64_dconst1]
    show ((c * 2 ^ (-(j : Int) - 53 - Jvm.FP.Core.b64.qmin).toNat : Nat) : Int) < ((2 ^ 52 * 2 ^ (-52 - Jvm.FP.Core.b64.qmin).toNat : Nat) : Int)
    rw [own_qmin, show (-(j : Int) - 53 - -1074).toNat = 1021 - j by omega, show ((-52 : Int) - -1074).toNat = 1022 by omega]
    obtain ⟨N, hN⟩ : ∃ N : Nat, n.toInt = (N : Int) := ⟨n.toInt.toNat, by omega⟩
    rw [hN] at e6 h1
    have hc : c = N * 2 ^ j := by exact_mod_cast e6
    have hN1 : N < 2 ^ 53 := by exact_mod_cast h1
    have q : c * 2 ^ (1021 - j) = N * 2 ^ 1021 := by
      rw [hc, Nat.mul_assoc, ← Nat.pow_add, show j + (1021 - j) = 1021 by omega]
    rw [q]
    have r : N * 2 ^ 1021 < 2 ^ 53 * 2 ^ 1021 := Nat.mul_lt_mul_of_pos_right hN1 (Nat.two_pow_pos _)
    rw [← Nat.pow_add] at r ⊢
    exact_mod_cast r
end OwnFloat
theorem d1_0 : decode prog_32_method_1_code 0 = .ok (.aload_n 0, 1) := by decide +kernel
theorem d1_1 : decode prog_32_method_1_code 1 = .ok (.invokespecial 1, 3) := by decide +kernel
theorem d1_4 : decode prog_32_method_1_code 4 = .ok (.aload_n 0, 1) := by decide +kernel
theorem d1_5 : decode prog_32_method_1_code 5 = .ok (.ldc2_w 9, 3) := by decide +kernel
theorem d1_8 : decode prog_32_method_1_code 8 = .ok (.putfield 11, 3) := by decide +kernel
theorem d1_11 : decode prog_32_method_1_code 11 = .ok (.aload_n 0, 1) := by decide +kernel
theorem d1_12 : decode prog_32_method_1_code 12 = .ok (.lload_n 1, 1) := by decide +kernel
theorem d1_13 : decode prog_32_method_1_code 13 = .ok (.putfield 17, 3) := by decide +kernel
theorem d1_16 : decode prog_32_method_1_code 16 = .ok (.return_, 1) := by decide +kernel
theorem pn_1 : plainName "com/example/nearfield/nearfield/engine/SeededRandom" = true := by first | (simp [plainName, overriddenIn]; done) | decide +kernel
theorem ef_1 (m : MethodId) (a1 : Addr) (q2 : Int64) : entryFrame m #[(.ref a1), (.long q2)] 3 = mkF m 0 #[.val (.ref a1), .val (.long q2), .second] [] := by first | (simp [entryFrame, mkF, argsToLocals, Value.category]; done) | rfl
def Q1 (Z : State) (a1 : Addr) (q2 : Int64) (h0 : Heap) (n0 : Nat) (v : Option Value) (h : Heap) (L : List Loc) : Prop := v = none ∧ Fr n0 L ∧ Keep h0 h [a1] ∧ Exa Z h a1 "com/example/nearfield/nearfield/engine/SeededRandom" ∧ Fld Z h a1 "com/example/nearfield/nearfield/engine/SeededRandom" "spare" "D" (.double (9221120237041090560 : UInt64)) ∧ Fld Z h a1 "com/example/nearfield/nearfield/engine/SeededRandom" "state" "J" (.long q2)
set_option maxRecDepth 65536 in
set_option maxHeartbeats 40000000 in
theorem rm1 (l : Launch) (Z : State) (a0 : Array Value) (hw : ∀ d ∈ tables_1, d.before a0 Z = true) (ws : List Jvm.Cond) (a1 : Addr) (q2 : Int64) (h0 : Heap) (n0 : Nat) (u_spare u_state : Value) (Z0 : n0 ≤ h0.size) (g_a1 : n0 ≤ a1) (E_a1 : Exa Z h0 a1 "com/example/nearfield/nearfield/engine/SeededRandom") (F_spare : Fld Z h0 a1 "com/example/nearfield/nearfield/engine/SeededRandom" "spare" "D" u_spare) (F_state : Fld Z h0 a1 "com/example/nearfield/nearfield/engine/SeededRandom" "state" "J" u_state) :
    MetFree l (⟨"com/example/nearfield/nearfield/engine/SeededRandom", "<init>", "(J)V"⟩ : MethodName) (head1 (Jvm.Cond.code (⟨"com/example/nearfield/nearfield/engine/SeededRandom", "<init>", "(J)V"⟩ : MethodName) prog_32_method_1_code 3 none :: ws) ({ frames := 1, cells := 0, slots := 0, locals := 12 } : Room)) (fun a U => a = #[(.ref a1), (.long q2)] ∧ Z.Warmed39 U.vm ∧ U.heap = h0) (fun _ _ _ _ _ => True) (fun _ U o U' => ∃ v L, o = .returned v ∧ Q1 Z a1 q2 h0 n0 v U'.heap L ∧ FrameEnd U o U' L ({ frames := 1, cells := 0, slots := 0, locals := 12 } : Room).cells ({ frames := 1, cells := 0, slots := 0, locals := 12 } : Room).slots) := by
  refine MetFree.of_bodySF (plainFor_of_name pn_1) hisR ?_
  intro p e s m args below meth c s₁ Bd hml0 hP hK
  obtain ⟨rfl, hZ, hh⟩ := hP
  have hx := Bd.exec
  have hby := Bd.bytes
  have hml : c.maxLocals = 3 := hml0
  have hown0 := findClass_of_methodNamed Bd.named
  have hown : s.vm.findClass "com/example/nearfield/nearfield/engine/SeededRandom" = some m.cls := hown0
  have hnm := (name_of_methodNamed Bd.named Bd.method).1
  have X0 : Stand p l e ({ frames := 1, cells := 0, slots := 0, locals := 12 } : Room) s m #[(.ref a1), (.long q2)] below meth c s₁ [] 0 0 := Stand.of_body Bd
  have e0 : s₁.heap = h0 := by rw [← hh, Bd.state]; rfl
  have N0 := Fr.nil n0
  have pre0 : ∀ t, Steps p.tables e below (s₁.setTop (mkF m 0 #[.val (.ref a1), .val (.long q2), .second] [])) t → Steps p.tables e below (s₁.setTop (entryFrame m #[(.ref a1), (.long q2)] 3)) t := fun t k => castTop (ef_1 m a1 q2) k
  refine Classical.byContradiction fun hneg => ?_
  obtain ⟨T1, X1, e1, st1⟩ := initO X0 hx hZ hown (hw _ (List.mem_of_getElem? (i := 6) rfl)) (hw _ (List.mem_of_getElem? (i := 7) rfl)) (hw _ (List.mem_of_getElem? (i := 8) rfl)) e0 (g := (mkF m 1 #[.val (.ref a1), .val (.long q2), .second] [(.ref a1)])) rfl (by rw [hml]; rfl) rfl (hb hby d1_1) (by decide) (W := 0) (by show 2 * 0 + _ ≤ _; exact Nat.le_of_eq rfl) (by decide)
  obtain ⟨T2, h2, X2, e2, W2, st2⟩ := putF X1 hx hZ hown (host := "") (Or.inl (hw _ (List.mem_of_getElem? (i := 10) rfl))) Via.refl e1 F_spare E_a1 (Or.inl (hw _ (List.mem_of_getElem? (i := 11) rfl))) (hw _ (List.mem_of_getElem? (i := 1) rfl)) (ty := .double) (by decide) rfl rfl (g := (mkF m 8 #[.val (.ref a1), .val (.long q2), .second] [(.double (9221120237041090560 : UInt64)), (.ref a1)])) rfl rfl (hb hby d1_8)
  have E_a1_2 := E_a1.wr W2
  have F_a1_spare_2 := F_spare.same W2
  have F_a1_state_2 := F_state.other W2 (Or.inr (slot_ne (Or.inl (hw _ (List.mem_of_getElem? (i := 13) rfl))) (Or.inl (hw _ (List.mem_of_getElem? (i := 11) rfl))) (by decide) (t := .long) (t' := .double) (by decide) (by decide)))
  have K2 : Keep h0 h2 [a1] := (Keep.refl h0 [a1]).wr W2 (Or.inl (by simp))
  have N2 := Fr.snoc X2 N0 g_a1
  have Z2 : n0 ≤ h2.size := Nat.le_trans Z0 (Keep.of_wr W2).1
  obtain ⟨T3, h3, X3, e3, W3, st3⟩ := putF X2 hx hZ hown (host := "") (Or.inl (hw _ (List.mem_of_getElem? (i := 12) rfl))) Via.refl e2 F_a1_state_2 E_a1_2 (Or.inl (hw _ (List.mem_of_getElem? (i := 13) rfl))) (hw _ (List.mem_of_getElem? (i := 1) rfl)) (ty := .long) (by decide) rfl rfl (g := (mkF m 13 #[.val (.ref a1), .val (.long q2), .second] [(.long q2), (.ref a1)])) rfl rfl (hb hby d1_13)
  have E_a1_3 := E_a1_2.wr W3
  have F_a1_spare_3 := F_a1_spare_2.other W3 (Or.inr (slot_ne (Or.inl (hw _ (List.mem_of_getElem? (i := 11) rfl))) (Or.inl (hw _ (List.mem_of_getElem? (i := 13) rfl))) (by decide) (t := .double) (t' := .long) (by decide) (by decide)))
  have F_a1_state_3 := F_a1_state_2.same W3
  have K3 : Keep h0 h3 [a1] := K2.wr W3 (Or.inl (by simp))
  have N3 := Fr.snoc X3 N2 g_a1
  have Z3 : n0 ≤ h3.size := Nat.le_trans Z2 (Keep.of_wr W3).1
  refine hneg ?_
  obtain ⟨fs, hr, hrun, hended, hW, hsame⟩ := X3.leave (v := none) (fun _ => rfl)
  refine ⟨_, _, pre0 _ ?_, hrun, hended, _, _, rfl, ?_, ⟨_, rfl⟩, hW, hsame.mono (by decide) (by decide)⟩
  · show Steps p.tables e below (s₁.setTop (mkF m 0 #[.val (.ref a1), .val (.long q2), .second] [])) _
    refine XS.aloadN X0.here hx rfl (hb hby d1_0) rfl rfl ?_
    show Steps p.tables e below (s₁.setTop (mkF m 1 #[.val (.ref a1), .val (.long q2), .second] [(.ref a1)])) _
    refine st1 _ ?_
    show Steps p.tables e below (T1.setTop (mkF m 4 #[.val (.ref a1), .val (.long q2), .second] [])) _
    refine XS.aloadN X1.here hx rfl (hb hby d1_4) rfl rfl ?_
    show Steps p.tables e below (T1.setTop (mkF m 5 #[.val (.ref a1), .val (.long q2), .second] [(.ref a1)])) _
    refine X1.ldc2DoubleC hx hown (mvT hZ (hw _ (List.mem_of_getElem? (i := 9) rfl))) (g := (mkF m 5 #[.val (.ref a1), .val (.long q2), .second] [(.ref a1)])) rfl (hb hby d1_5) _ ?_
    show Steps p.tables e below (T1.setTop (mkF m 8 #[.val (.ref a1), .val (.long q2), .second] [(.double (9221120237041090560 : UInt64)), (.ref a1)])) _
    refine st2 _ ?_
    show Steps p.tables e below (T2.setTop (mkF m 11 #[.val (.ref a1), .val (.long q2), .second] [])) _
    refine XS.aloadN X2.here hx rfl (hb hby d1_11) rfl rfl ?_
    show Steps p.tables e below (T2.setTop (mkF m 12 #[.val (.ref a1), .val (.long q2), .second] [(.ref a1)])) _
    refine XS.lloadN X2.here hx rfl (hb hby d1_12) rfl ?_
    show Steps p.tables e below (T2.setTop (mkF m 13 #[.val (.ref a1), .val (.long q2), .second] [(.long q2), (.ref a1)])) _
    refine st3 _ ?_
    show Steps p.tables e below (T3.setTop (mkF m 16 #[.val (.ref a1), .val (.long q2), .second] [])) _
    exact X3.returnOut hx Bd.returns (hb hby d1_16) hr
  · show Q1 Z a1 q2 h0 n0 _ T3.heap _
    rw [e3]
    exact ⟨rfl, N3, K3, E_a1_3, F_a1_spare_3, F_a1_state_3⟩

theorem d4_0 : decode prog_32_method_2_code 0 = .ok (.aload_n 0, 1) := by decide +kernel
theorem d4_1 : decode prog_32_method_2_code 1 = .ok (.dup, 1) := by decide +kernel
theorem d4_2 : decode prog_32_method_2_code 2 = .ok (.getfield 17, 3) := by decide +kernel
theorem d4_5 : decode prog_32_method_2_code 5 = .ok (.ldc2_w 21, 3) := by decide +kernel
theorem d4_8 : decode prog_32_method_2_code 8 = .ok (.ladd, 1) := by decide +kernel
theorem d4_9 : decode prog_32_method_2_code 9 = .ok (.dup2_x1, 1) := by decide +kernel
theorem d4_10 : decode prog_32_method_2_code 10 = .ok (.putfield 17, 3) := by decide +kernel
theorem d4_13 : decode prog_32_method_2_code 13 = .ok (.lstore_n 1, 1) := by decide +kernel
theorem d4_14 : decode prog_32_method_2_code 14 = .ok (.lload_n 1, 1) := by decide +kernel
theorem d4_15 : decode prog_32_method_2_code 15 = .ok (.lload_n 1, 1) := by decide +kernel
theorem d4_16 : decode prog_32_method_2_code 16 = .ok (.bipush 30, 2) := by decide +kernel
theorem d4_18 : decode prog_32_method_2_code 18 = .ok (.lushr, 1) := by decide +kernel
theorem d4_19 : decode prog_32_method_2_code 19 = .ok (.lxor, 1) := by decide +kernel
theorem d4_20 : decode prog_32_method_2_code 20 = .ok (.ldc2_w 23, 3) := by decide +kernel
theorem d4_23 : decode prog_32_method_2_code 23 = .ok (.lmul, 1) := by decide +kernel
theorem d4_24 : decode prog_32_method_2_code 24 = .ok (.lstore_n 1, 1) := by decide +kernel
theorem d4_25 : decode prog_32_method_2_code 25 = .ok (.lload_n 1, 1) := by decide +kernel
theorem d4_26 : decode prog_32_method_2_code 26 = .ok (.lload_n 1, 1) := by decide +kernel
theorem d4_27 : decode prog_32_method_2_code 27 = .ok (.bipush 27, 2) := by decide +kernel
theorem d4_29 : decode prog_32_method_2_code 29 = .ok (.lushr, 1) := by decide +kernel
theorem d4_30 : decode prog_32_method_2_code 30 = .ok (.lxor, 1) := by decide +kernel
theorem d4_31 : decode prog_32_method_2_code 31 = .ok (.ldc2_w 25, 3) := by decide +kernel
theorem d4_34 : decode prog_32_method_2_code 34 = .ok (.lmul, 1) := by decide +kernel
theorem d4_35 : decode prog_32_method_2_code 35 = .ok (.lstore_n 1, 1) := by decide +kernel
theorem d4_36 : decode prog_32_method_2_code 36 = .ok (.lload_n 1, 1) := by decide +kernel
theorem d4_37 : decode prog_32_method_2_code 37 = .ok (.lload_n 1, 1) := by decide +kernel
theorem d4_38 : decode prog_32_method_2_code 38 = .ok (.bipush 31, 2) := by decide +kernel
theorem d4_40 : decode prog_32_method_2_code 40 = .ok (.lushr, 1) := by decide +kernel
theorem d4_41 : decode prog_32_method_2_code 41 = .ok (.lxor, 1) := by decide +kernel
theorem d4_42 : decode prog_32_method_2_code 42 = .ok (.lreturn, 1) := by decide +kernel
theorem pn_4 : plainName "com/example/nearfield/nearfield/engine/SeededRandom" = true := by first | (simp [plainName, overriddenIn]; done) | decide +kernel
theorem ef_4 (m : MethodId) (a1 : Addr) : entryFrame m #[(.ref a1)] 3 = mkF m 0 #[.val (.ref a1), .unset, .unset] [] := by first | (simp [entryFrame, mkF, argsToLocals, Value.category]; done) | rfl
def f4  (w : Int64) : Int64 := ((((((w + (-7046029254386353131 : Int64)) ^^^ (((w + (-7046029254386353131 : Int64)).toUInt64 >>> ((30 : Int32) &&& 0x3f).toInt64.toUInt64).toInt64)) * (-4658895280553007687 : Int64)) ^^^ (((((w + (-7046029254386353131 : Int64)) ^^^ (((w + (-7046029254386353131 : Int64)).toUInt64 >>> ((30 : Int32) &&& 0x3f).toInt64.toUInt64).toInt64)) * (-4658895280553007687 : Int64)).toUInt64 >>> ((27 : Int32) &&& 0x3f).toInt64.toUInt64).toInt64)) * (-7723592293110705685 : Int64)) ^^^ (((((((w + (-7046029254386353131 : Int64)) ^^^ (((w + (-7046029254386353131 : Int64)).toUInt64 >>> ((30 : Int32) &&& 0x3f).toInt64.toUInt64).toInt64)) * (-4658895280553007687 : Int64)) ^^^ (((((w + (-7046029254386353131 : Int64)) ^^^ (((w + (-7046029254386353131 : Int64)).toUInt64 >>> ((30 : Int32) &&& 0x3f).toInt64.toUInt64).toInt64)) * (-4658895280553007687 : Int64)).toUInt64 >>> ((27 : Int32) &&& 0x3f).toInt64.toUInt64).toInt64)) * (-7723592293110705685 : Int64)).toUInt64 >>> ((31 : Int32) &&& 0x3f).toInt64.toUInt64).toInt64))
def Q4 (Z : State) (a1 : Addr) (w : Int64) (h0 : Heap) (n0 : Nat) (v : Option Value) (h : Heap) (L : List Loc) : Prop := v = some (.long (f4 w)) ∧ Fr n0 L ∧ Keep h0 h [a1] ∧ Exa Z h a1 "com/example/nearfield/nearfield/engine/SeededRandom" ∧ Fld Z h a1 "com/example/nearfield/nearfield/engine/SeededRandom" "state" "J" (.long (w + (-7046029254386353131 : Int64)))
set_option maxRecDepth 65536 in
set_option maxHeartbeats 40000000 in
theorem rm4 (l : Launch) (Z : State) (a0 : Array Value) (hw : ∀ d ∈ tables_1, d.before a0 Z = true) (ws : List Jvm.Cond) (a1 : Addr) (h0 : Heap) (n0 : Nat) (w : Int64) (Z0 : n0 ≤ h0.size) (g_a1 : n0 ≤ a1) (E_a1 : Exa Z h0 a1 "com/example/nearfield/nearfield/engine/SeededRandom") (F_state : Fld Z h0 a1 "com/example/nearfield/nearfield/engine/SeededRandom" "state" "J" (.long w)) :
    MetFree l (⟨"com/example/nearfield/nearfield/engine/SeededRandom", "nextLong", "()J"⟩ : MethodName) (head1 (Jvm.Cond.code (⟨"com/example/nearfield/nearfield/engine/SeededRandom", "nextLong", "()J"⟩ : MethodName) prog_32_method_2_code 3 (some .long) :: ws) ({ frames := 0, cells := 0, slots := 0, locals := 0 } : Room)) (fun a U => a = #[(.ref a1)] ∧ Z.Warmed39 U.vm ∧ U.heap = h0) (fun _ _ _ _ _ => True) (fun _ U o U' => ∃ v L, o = .returned v ∧ Q4 Z a1 w h0 n0 v U'.heap L ∧ FrameEnd U o U' L ({ frames := 0, cells := 0, slots := 0, locals := 0 } : Room).cells ({ frames := 0, cells := 0, slots := 0, locals := 0 } : Room).slots) := by
  refine MetFree.of_bodySF (plainFor_of_name pn_4) hisR ?_
  intro p e s m args below meth c s₁ Bd hml0 hP hK
  obtain ⟨rfl, hZ, hh⟩ := hP
  have hx := Bd.exec
  have hby := Bd.bytes
  have hml : c.maxLocals = 3 := hml0
  have hown0 := findClass_of_methodNamed Bd.named
  have hown : s.vm.findClass "com/example/nearfield/nearfield/engine/SeededRandom" = some m.cls := hown0
  have hnm := (name_of_methodNamed Bd.named Bd.method).1
  have X0 : Stand p l e ({ frames := 0, cells := 0, slots := 0, locals := 0 } : Room) s m #[(.ref a1)] below meth c s₁ [] 0 0 := Stand.of_body Bd
  have e0 : s₁.heap = h0 := by rw [← hh, Bd.state]; rfl
  have N0 := Fr.nil n0
  have pre0 : ∀ t, Steps p.tables e below (s₁.setTop (mkF m 0 #[.val (.ref a1), .unset, .unset] [])) t → Steps p.tables e below (s₁.setTop (entryFrame m #[(.ref a1)] 3)) t := fun t k => castTop (ef_4 m a1) k
  refine Classical.byContradiction fun hneg => ?_
  obtain ⟨T1, X1, e1, st1⟩ := getF X0 hx hZ hown (host := "") (Or.inl (hw _ (List.mem_of_getElem? (i := 12) rfl))) Via.refl e0 F_state (g := (mkF m 2 #[.val (.ref a1), .unset, .unset] [(.ref a1), (.ref a1)])) rfl rfl (hb hby d4_2)
  obtain ⟨T2, h2, X2, e2, W2, st2⟩ := putF X1 hx hZ hown (host := "") (Or.inl (hw _ (List.mem_of_getElem? (i := 12) rfl))) Via.refl e1 F_state E_a1 (Or.inl (hw _ (List.mem_of_getElem? (i := 13) rfl))) (hw _ (List.mem_of_getElem? (i := 1) rfl)) (ty := .long) (by decide) rfl rfl (g := (mkF m 10 #[.val (.ref a1), .unset, .unset] [(.long (w + (-7046029254386353131 : Int64))), (.ref a1), (.long (w + (-7046029254386353131 : Int64)))])) rfl rfl (hb hby d4_10)
  have E_a1_2 := E_a1.wr W2
  have F_a1_state_2 := F_state.same W2
  have K2 : Keep h0 h2 [a1] := (Keep.refl h0 [a1]).wr W2 (Or.inl (by simp))
  have N2 := Fr.snoc X2 N0 g_a1
  have Z2 : n0 ≤ h2.size := Nat.le_trans Z0 (Keep.of_wr W2).1
  refine hneg ?_
  obtain ⟨fs, hr, hrun, hended, hW, hsame⟩ := X2.leave (v := some (.long ((((((w + (-7046029254386353131 : Int64)) ^^^ (((w + (-7046029254386353131 : Int64)).toUInt64 >>> ((30 : Int32) &&& 0x3f).toInt64.toUInt64).toInt64)) * (-4658895280553007687 : Int64)) ^^^ (((((w + (-7046029254386353131 : Int64)) ^^^ (((w + (-7046029254386353131 : Int64)).toUInt64 >>> ((30 : Int32) &&& 0x3f).toInt64.toUInt64).toInt64)) * (-4658895280553007687 : Int64)).toUInt64 >>> ((27 : Int32) &&& 0x3f).toInt64.toUInt64).toInt64)) * (-7723592293110705685 : Int64)) ^^^ (((((((w + (-7046029254386353131 : Int64)) ^^^ (((w + (-7046029254386353131 : Int64)).toUInt64 >>> ((30 : Int32) &&& 0x3f).toInt64.toUInt64).toInt64)) * (-4658895280553007687 : Int64)) ^^^ (((((w + (-7046029254386353131 : Int64)) ^^^ (((w + (-7046029254386353131 : Int64)).toUInt64 >>> ((30 : Int32) &&& 0x3f).toInt64.toUInt64).toInt64)) * (-4658895280553007687 : Int64)).toUInt64 >>> ((27 : Int32) &&& 0x3f).toInt64.toUInt64).toInt64)) * (-7723592293110705685 : Int64)).toUInt64 >>> ((31 : Int32) &&& 0x3f).toInt64.toUInt64).toInt64)))) (fun h => by rw [Bd.returns] at h; cases h)
  refine ⟨_, _, pre0 _ ?_, hrun, hended, _, _, rfl, ?_, ⟨_, rfl⟩, hW, hsame.mono (by decide) (by decide)⟩
  · show Steps p.tables e below (s₁.setTop (mkF m 0 #[.val (.ref a1), .unset, .unset] [])) _
    refine XS.aloadN X0.here hx rfl (hb hby d4_0) rfl rfl ?_
    show Steps p.tables e below (s₁.setTop (mkF m 1 #[.val (.ref a1), .unset, .unset] [(.ref a1)])) _
    refine XS.dup X0.here hx rfl (hb hby d4_1) rfl rfl ?_
    show Steps p.tables e below (s₁.setTop (mkF m 2 #[.val (.ref a1), .unset, .unset] [(.ref a1), (.ref a1)])) _
    refine st1 _ ?_
    show Steps p.tables e below (T1.setTop (mkF m 5 #[.val (.ref a1), .unset, .unset] [(.long w), (.ref a1)])) _
    refine X1.ldc2Long hx hown (mvT hZ (hw _ (List.mem_of_getElem? (i := 24) rfl))) (g := (mkF m 5 #[.val (.ref a1), .unset, .unset] [(.long w), (.ref a1)])) rfl (hb hby d4_5) _ ?_
    show Steps p.tables e below (T1.setTop (mkF m 8 #[.val (.ref a1), .unset, .unset] [(.long (-7046029254386353131 : Int64)), (.long w), (.ref a1)])) _
    refine XS.ladd X1.here hx rfl (hb hby d4_8) rfl ?_
    show Steps p.tables e below (T1.setTop (mkF m 9 #[.val (.ref a1), .unset, .unset] [(.long (w + (-7046029254386353131 : Int64))), (.ref a1)])) _
    jvm_step X1.here [X1.here.top, hx, (hb hby d4_9), Value.category]
    show Steps p.tables e below (T1.setTop (mkF m 10 #[.val (.ref a1), .unset, .unset] [(.long (w + (-7046029254386353131 : Int64))), (.ref a1), (.long (w + (-7046029254386353131 : Int64)))])) _
    refine st2 _ ?_
    show Steps p.tables e below (T2.setTop (mkF m 13 #[.val (.ref a1), .unset, .unset] [(.long (w + (-7046029254386353131 : Int64)))])) _
    refine XS.lstoreN X2.here hx rfl (hb hby d4_13) rfl (l' := #[.val (.ref a1), .val (.long (w + (-7046029254386353131 : Int64))), .second]) rfl ?_
    show Steps p.tables e below (T2.setTop (mkF m 14 #[.val (.ref a1), .val (.long (w + (-7046029254386353131 : Int64))), .second] [])) _
    refine XS.lloadN X2.here hx rfl (hb hby d4_14) rfl ?_
    show Steps p.tables e below (T2.setTop (mkF m 15 #[.val (.ref a1), .val (.long (w + (-7046029254386353131 : Int64))), .second] [(.long (w + (-7046029254386353131 : Int64)))])) _
    refine XS.lloadN X2.here hx rfl (hb hby d4_15) rfl ?_
    show Steps p.tables e below (T2.setTop (mkF m 16 #[.val (.ref a1), .val (.long (w + (-7046029254386353131 : Int64))), .second] [(.long (w + (-7046029254386353131 : Int64))), (.long (w + (-7046029254386353131 : Int64)))])) _
    refine XS.bipush X2.here hx rfl (hb hby d4_16) ?_
    show Steps p.tables e below (T2.setTop (mkF m 18 #[.val (.ref a1), .val (.long (w + (-7046029254386353131 : Int64))), .second] [(.int (30 : Int32)), (.long (w + (-7046029254386353131 : Int64))), (.long (w + (-7046029254386353131 : Int64)))])) _
    refine XS.lushr X2.here hx rfl (hb hby d4_18) rfl ?_
    show Steps p.tables e below (T2.setTop (mkF m 19 #[.val (.ref a1), .val (.long (w + (-7046029254386353131 : Int64))), .second] [(.long (((w + (-7046029254386353131 : Int64)).toUInt64 >>> ((30 : Int32) &&& 0x3f).toInt64.toUInt64).toInt64)), (.long (w + (-7046029254386353131 : Int64)))])) _
    refine XS.lxor X2.here hx rfl (hb hby d4_19) rfl ?_
    show Steps p.tables e below (T2.setTop (mkF m 20 #[.val (.ref a1), .val (.long (w + (-7046029254386353131 : Int64))), .second] [(.long ((w + (-7046029254386353131 : Int64)) ^^^ (((w + (-7046029254386353131 : Int64)).toUInt64 >>> ((30 : Int32) &&& 0x3f).toInt64.toUInt64).toInt64)))])) _
    refine X2.ldc2Long hx hown (mvT hZ (hw _ (List.mem_of_getElem? (i := 25) rfl))) (g := (mkF m 20 #[.val (.ref a1), .val (.long (w + (-7046029254386353131 : Int64))), .second] [(.long ((w + (-7046029254386353131 : Int64)) ^^^ (((w + (-7046029254386353131 : Int64)).toUInt64 >>> ((30 : Int32) &&& 0x3f).toInt64.toUInt64).toInt64)))])) rfl (hb hby d4_20) _ ?_
    show Steps p.tables e below (T2.setTop (mkF m 23 #[.val (.ref a1), .val (.long (w + (-7046029254386353131 : Int64))), .second] [(.long (-4658895280553007687 : Int64)), (.long ((w + (-7046029254386353131 : Int64)) ^^^ (((w + (-7046029254386353131 : Int64)).toUInt64 >>> ((30 : Int32) &&& 0x3f).toInt64.toUInt64).toInt64)))])) _
    refine XS.lmul X2.here hx rfl (hb hby d4_23) rfl ?_
    show Steps p.tables e below (T2.setTop (mkF m 24 #[.val (.ref a1), .val (.long (w + (-7046029254386353131 : Int64))), .second] [(.long (((w + (-7046029254386353131 : Int64)) ^^^ (((w + (-7046029254386353131 : Int64)).toUInt64 >>> ((30 : Int32) &&& 0x3f).toInt64.toUInt64).toInt64)) * (-4658895280553007687 : Int64)))])) _
    refine XS.lstoreN X2.here hx rfl (hb hby d4_24) rfl (l' := #[.val (.ref a1), .val (.long (((w + (-7046029254386353131 : Int64)) ^^^ (((w + (-7046029254386353131 : Int64)).toUInt64 >>> ((30 : Int32) &&& 0x3f).toInt64.toUInt64).toInt64)) * (-4658895280553007687 : Int64))), .second]) rfl ?_
    show Steps p.tables e below (T2.setTop (mkF m 25 #[.val (.ref a1), .val (.long (((w + (-7046029254386353131 : Int64)) ^^^ (((w + (-7046029254386353131 : Int64)).toUInt64 >>> ((30 : Int32) &&& 0x3f).toInt64.toUInt64).toInt64)) * (-4658895280553007687 : Int64))), .second] [])) _
    refine XS.lloadN X2.here hx rfl (hb hby d4_25) rfl ?_
    show Steps p.tables e below (T2.setTop (mkF m 26 #[.val (.ref a1), .val (.long (((w + (-7046029254386353131 : Int64)) ^^^ (((w + (-7046029254386353131 : Int64)).toUInt64 >>> ((30 : Int32) &&& 0x3f).toInt64.toUInt64).toInt64)) * (-4658895280553007687 : Int64))), .second] [(.long (((w + (-7046029254386353131 : Int64)) ^^^ (((w + (-7046029254386353131 : Int64)).toUInt64 >>> ((30 : Int32) &&& 0x3f).toInt64.toUInt64).toInt64)) * (-4658895280553007687 : Int64)))])) _
    refine XS.lloadN X2.here hx rfl (hb hby d4_26) rfl ?_
    show Steps p.tables e below (T2.setTop (mkF m 27 #[.val (.ref a1), .val (.long (((w + (-7046029254386353131 : Int64)) ^^^ (((w + (-7046029254386353131 : Int64)).toUInt64 >>> ((30 : Int32) &&& 0x3f).toInt64.toUInt64).toInt64)) * (-4658895280553007687 : Int64))), .second] [(.long (((w + (-7046029254386353131 : Int64)) ^^^ (((w + (-7046029254386353131 : Int64)).toUInt64 >>> ((30 : Int32) &&& 0x3f).toInt64.toUInt64).toInt64)) * (-4658895280553007687 : Int64))), (.long (((w + (-7046029254386353131 : Int64)) ^^^ (((w + (-7046029254386353131 : Int64)).toUInt64 >>> ((30 : Int32) &&& 0x3f).toInt64.toUInt64).toInt64)) * (-4658895280553007687 : Int64)))])) _
    refine XS.bipush X2.here hx rfl (hb hby d4_27) ?_
    show Steps p.tables e below (T2.setTop (mkF m 29 #[.val (.ref a1), .val (.long (((w + (-7046029254386353131 : Int64)) ^^^ (((w + (-7046029254386353131 : Int64)).toUInt64 >>> ((30 : Int32) &&& 0x3f).toInt64.toUInt64).toInt64)) * (-4658895280553007687 : Int64))), .second] [(.int (27 : Int32)), (.long (((w + (-7046029254386353131 : Int64)) ^^^ (((w + (-7046029254386353131 : Int64)).toUInt64 >>> ((30 : Int32) &&& 0x3f).toInt64.toUInt64).toInt64)) * (-4658895280553007687 : Int64))), (.long (((w + (-7046029254386353131 : Int64)) ^^^ (((w + (-7046029254386353131 : Int64)).toUInt64 >>> ((30 : Int32) &&& 0x3f).toInt64.toUInt64).toInt64)) * (-4658895280553007687 : Int64)))])) _
    refine XS.lushr X2.here hx rfl (hb hby d4_29) rfl ?_
    show Steps p.tables e below (T2.setTop (mkF m 30 #[.val (.ref a1), .val (.long (((w + (-7046029254386353131 : Int64)) ^^^ (((w + (-7046029254386353131 : Int64)).toUInt64 >>> ((30 : Int32) &&& 0x3f).toInt64.toUInt64).toInt64)) * (-4658895280553007687 : Int64))), .second] [(.long (((((w + (-7046029254386353131 : Int64)) ^^^ (((w + (-7046029254386353131 : Int64)).toUInt64 >>> ((30 : Int32) &&& 0x3f).toInt64.toUInt64).toInt64)) * (-4658895280553007687 : Int64)).toUInt64 >>> ((27 : Int32) &&& 0x3f).toInt64.toUInt64).toInt64)), (.long (((w + (-7046029254386353131 : Int64)) ^^^ (((w + (-7046029254386353131 : Int64)).toUInt64 >>> ((30 : Int32) &&& 0x3f).toInt64.toUInt64).toInt64)) * (-4658895280553007687 : Int64)))])) _
    refine XS.lxor X2.here hx rfl (hb hby d4_30) rfl ?_
    show Steps p.tables e below (T2.setTop (mkF m 31 #[.val (.ref a1), .val (.long (((w + (-7046029254386353131 : Int64)) ^^^ (((w + (-7046029254386353131 : Int64)).toUInt64 >>> ((30 : Int32) &&& 0x3f).toInt64.toUInt64).toInt64)) * (-4658895280553007687 : Int64))), .second] [(.long ((((w + (-7046029254386353131 : Int64)) ^^^ (((w + (-7046029254386353131 : Int64)).toUInt64 >>> ((30 : Int32) &&& 0x3f).toInt64.toUInt64).toInt64)) * (-4658895280553007687 : Int64)) ^^^ (((((w + (-7046029254386353131 : Int64)) ^^^ (((w + (-7046029254386353131 : Int64)).toUInt64 >>> ((30 : Int32) &&& 0x3f).toInt64.toUInt64).toInt64)) * (-4658895280553007687 : Int64)).toUInt64 >>> ((27 : Int32) &&& 0x3f).toInt64.toUInt64).toInt64)))])) _
    refine X2.ldc2Long hx hown (mvT hZ (hw _ (List.mem_of_getElem? (i := 26) rfl))) (g := (mkF m 31 #[.val (.ref a1), .val (.long (((w + (-7046029254386353131 : Int64)) ^^^ (((w + (-7046029254386353131 : Int64)).toUInt64 >>> ((30 : Int32) &&& 0x3f).toInt64.toUInt64).toInt64)) * (-4658895280553007687 : Int64))), .second] [(.long ((((w + (-7046029254386353131 : Int64)) ^^^ (((w + (-7046029254386353131 : Int64)).toUInt64 >>> ((30 : Int32) &&& 0x3f).toInt64.toUInt64).toInt64)) * (-4658895280553007687 : Int64)) ^^^ (((((w + (-7046029254386353131 : Int64)) ^^^ (((w + (-7046029254386353131 : Int64)).toUInt64 >>> ((30 : Int32) &&& 0x3f).toInt64.toUInt64).toInt64)) * (-4658895280553007687 : Int64)).toUInt64 >>> ((27 : Int32) &&& 0x3f).toInt64.toUInt64).toInt64)))])) rfl (hb hby d4_31) _ ?_
    show Steps p.tables e below (T2.setTop (mkF m 34 #[.val (.ref a1), .val (.long (((w + (-7046029254386353131 : Int64)) ^^^ (((w + (-7046029254386353131 : Int64)).toUInt64 >>> ((30 : Int32) &&& 0x3f).toInt64.toUInt64).toInt64)) * (-4658895280553007687 : Int64))), .second] [(.long (-7723592293110705685 : Int64)), (.long ((((w + (-7046029254386353131 : Int64)) ^^^ (((w + (-7046029254386353131 : Int64)).toUInt64 >>> ((30 : Int32) &&& 0x3f).toInt64.toUInt64).toInt64)) * (-4658895280553007687 : Int64)) ^^^ (((((w + (-7046029254386353131 : Int64)) ^^^ (((w + (-7046029254386353131 : Int64)).toUInt64 >>> ((30 : Int32) &&& 0x3f).toInt64.toUInt64).toInt64)) * (-4658895280553007687 : Int64)).toUInt64 >>> ((27 : Int32) &&& 0x3f).toInt64.toUInt64).toInt64)))])) _
    refine XS.lmul X2.here hx rfl (hb hby d4_34) rfl ?_
    show Steps p.tables e below (T2.setTop (mkF m 35 #[.val (.ref a1), .val (.long (((w + (-7046029254386353131 : Int64)) ^^^ (((w + (-7046029254386353131 : Int64)).toUInt64 >>> ((30 : Int32) &&& 0x3f).toInt64.toUInt64).toInt64)) * (-4658895280553007687 : Int64))), .second] [(.long (((((w + (-7046029254386353131 : Int64)) ^^^ (((w + (-7046029254386353131 : Int64)).toUInt64 >>> ((30 : Int32) &&& 0x3f).toInt64.toUInt64).toInt64)) * (-4658895280553007687 : Int64)) ^^^ (((((w + (-7046029254386353131 : Int64)) ^^^ (((w + (-7046029254386353131 : Int64)).toUInt64 >>> ((30 : Int32) &&& 0x3f).toInt64.toUInt64).toInt64)) * (-4658895280553007687 : Int64)).toUInt64 >>> ((27 : Int32) &&& 0x3f).toInt64.toUInt64).toInt64)) * (-7723592293110705685 : Int64)))])) _
    refine XS.lstoreN X2.here hx rfl (hb hby d4_35) rfl (l' := #[.val (.ref a1), .val (.long (((((w + (-7046029254386353131 : Int64)) ^^^ (((w + (-7046029254386353131 : Int64)).toUInt64 >>> ((30 : Int32) &&& 0x3f).toInt64.toUInt64).toInt64)) * (-4658895280553007687 : Int64)) ^^^ (((((w + (-7046029254386353131 : Int64)) ^^^ (((w + (-7046029254386353131 : Int64)).toUInt64 >>> ((30 : Int32) &&& 0x3f).toInt64.toUInt64).toInt64)) * (-4658895280553007687 : Int64)).toUInt64 >>> ((27 : Int32) &&& 0x3f).toInt64.toUInt64).toInt64)) * (-7723592293110705685 : Int64))), .second]) rfl ?_
    show Steps p.tables e below (T2.setTop (mkF m 36 #[.val (.ref a1), .val (.long (((((w + (-7046029254386353131 : Int64)) ^^^ (((w + (-7046029254386353131 : Int64)).toUInt64 >>> ((30 : Int32) &&& 0x3f).toInt64.toUInt64).toInt64)) * (-4658895280553007687 : Int64)) ^^^ (((((w + (-7046029254386353131 : Int64)) ^^^ (((w + (-7046029254386353131 : Int64)).toUInt64 >>> ((30 : Int32) &&& 0x3f).toInt64.toUInt64).toInt64)) * (-4658895280553007687 : Int64)).toUInt64 >>> ((27 : Int32) &&& 0x3f).toInt64.toUInt64).toInt64)) * (-7723592293110705685 : Int64))), .second] [])) _
    refine XS.lloadN X2.here hx rfl (hb hby d4_36) rfl ?_
    show Steps p.tables e below (T2.setTop (mkF m 37 #[.val (.ref a1), .val (.long (((((w + (-7046029254386353131 : Int64)) ^^^ (((w + (-7046029254386353131 : Int64)).toUInt64 >>> ((30 : Int32) &&& 0x3f).toInt64.toUInt64).toInt64)) * (-4658895280553007687 : Int64)) ^^^ (((((w + (-7046029254386353131 : Int64)) ^^^ (((w + (-7046029254386353131 : Int64)).toUInt64 >>> ((30 : Int32) &&& 0x3f).toInt64.toUInt64).toInt64)) * (-4658895280553007687 : Int64)).toUInt64 >>> ((27 : Int32) &&& 0x3f).toInt64.toUInt64).toInt64)) * (-7723592293110705685 : Int64))), .second] [(.long (((((w + (-7046029254386353131 : Int64)) ^^^ (((w + (-7046029254386353131 : Int64)).toUInt64 >>> ((30 : Int32) &&& 0x3f).toInt64.toUInt64).toInt64)) * (-4658895280553007687 : Int64)) ^^^ (((((w + (-7046029254386353131 : Int64)) ^^^ (((w + (-7046029254386353131 : Int64)).toUInt64 >>> ((30 : Int32) &&& 0x3f).toInt64.toUInt64).toInt64)) * (-4658895280553007687 : Int64)).toUInt64 >>> ((27 : Int32) &&& 0x3f).toInt64.toUInt64).toInt64)) * (-7723592293110705685 : Int64)))])) _
    refine XS.lloadN X2.here hx rfl (hb hby d4_37) rfl ?_
    show Steps p.tables e below (T2.setTop (mkF m 38 #[.val (.ref a1), .val (.long (((((w + (-7046029254386353131 : Int64)) ^^^ (((w + (-7046029254386353131 : Int64)).toUInt64 >>> ((30 : Int32) &&& 0x3f).toInt64.toUInt64).toInt64)) * (-4658895280553007687 : Int64)) ^^^ (((((w + (-7046029254386353131 : Int64)) ^^^ (((w + (-7046029254386353131 : Int64)).toUInt64 >>> ((30 : Int32) &&& 0x3f).toInt64.toUInt64).toInt64)) * (-4658895280553007687 : Int64)).toUInt64 >>> ((27 : Int32) &&& 0x3f).toInt64.toUInt64).toInt64)) * (-7723592293110705685 : Int64))), .second] [(.long (((((w + (-7046029254386353131 : Int64)) ^^^ (((w + (-7046029254386353131 : Int64)).toUInt64 >>> ((30 : Int32) &&& 0x3f).toInt64.toUInt64).toInt64)) * (-4658895280553007687 : Int64)) ^^^ (((((w + (-7046029254386353131 : Int64)) ^^^ (((w + (-7046029254386353131 : Int64)).toUInt64 >>> ((30 : Int32) &&& 0x3f).toInt64.toUInt64).toInt64)) * (-4658895280553007687 : Int64)).toUInt64 >>> ((27 : Int32) &&& 0x3f).toInt64.toUInt64).toInt64)) * (-7723592293110705685 : Int64))), (.long (((((w + (-7046029254386353131 : Int64)) ^^^ (((w + (-7046029254386353131 : Int64)).toUInt64 >>> ((30 : Int32) &&& 0x3f).toInt64.toUInt64).toInt64)) * (-4658895280553007687 : Int64)) ^^^ (((((w + (-7046029254386353131 : Int64)) ^^^ (((w + (-7046029254386353131 : Int64)).toUInt64 >>> ((30 : Int32) &&& 0x3f).toInt64.toUInt64).toInt64)) * (-4658895280553007687 : Int64)).toUInt64 >>> ((27 : Int32) &&& 0x3f).toInt64.toUInt64).toInt64)) * (-7723592293110705685 : Int64)))])) _
    refine XS.bipush X2.here hx rfl (hb hby d4_38) ?_
    show Steps p.tables e below (T2.setTop (mkF m 40 #[.val (.ref a1), .val (.long (((((w + (-7046029254386353131 : Int64)) ^^^ (((w + (-7046029254386353131 : Int64)).toUInt64 >>> ((30 : Int32) &&& 0x3f).toInt64.toUInt64).toInt64)) * (-4658895280553007687 : Int64)) ^^^ (((((w + (-7046029254386353131 : Int64)) ^^^ (((w + (-7046029254386353131 : Int64)).toUInt64 >>> ((30 : Int32) &&& 0x3f).toInt64.toUInt64).toInt64)) * (-4658895280553007687 : Int64)).toUInt64 >>> ((27 : Int32) &&& 0x3f).toInt64.toUInt64).toInt64)) * (-7723592293110705685 : Int64))), .second] [(.int (31 : Int32)), (.long (((((w + (-7046029254386353131 : Int64)) ^^^ (((w + (-7046029254386353131 : Int64)).toUInt64 >>> ((30 : Int32) &&& 0x3f).toInt64.toUInt64).toInt64)) * (-4658895280553007687 : Int64)) ^^^ (((((w + (-7046029254386353131 : Int64)) ^^^ (((w + (-7046029254386353131 : Int64)).toUInt64 >>> ((30 : Int32) &&& 0x3f).toInt64.toUInt64).toInt64)) * (-4658895280553007687 : Int64)).toUInt64 >>> ((27 : Int32) &&& 0x3f).toInt64.toUInt64).toInt64)) * (-7723592293110705685 : Int64))), (.long (((((w + (-7046029254386353131 : Int64)) ^^^ (((w + (-7046029254386353131 : Int64)).toUInt64 >>> ((30 : Int32) &&& 0x3f).toInt64.toUInt64).toInt64)) * (-4658895280553007687 : Int64)) ^^^ (((((w + (-7046029254386353131 : Int64)) ^^^ (((w + (-7046029254386353131 : Int64)).toUInt64 >>> ((30 : Int32) &&& 0x3f).toInt64.toUInt64).toInt64)) * (-4658895280553007687 : Int64)).toUInt64 >>> ((27 : Int32) &&& 0x3f).toInt64.toUInt64).toInt64)) * (-7723592293110705685 : Int64)))])) _
    refine XS.lushr X2.here hx rfl (hb hby d4_40) rfl ?_
    show Steps p.tables e below (T2.setTop (mkF m 41 #[.val (.ref a1), .val (.long (((((w + (-7046029254386353131 : Int64)) ^^^ (((w + (-7046029254386353131 : Int64)).toUInt64 >>> ((30 : Int32) &&& 0x3f).toInt64.toUInt64).toInt64)) * (-4658895280553007687 : Int64)) ^^^ (((((w + (-7046029254386353131 : Int64)) ^^^ (((w + (-7046029254386353131 : Int64)).toUInt64 >>> ((30 : Int32) &&& 0x3f).toInt64.toUInt64).toInt64)) * (-4658895280553007687 : Int64)).toUInt64 >>> ((27 : Int32) &&& 0x3f).toInt64.toUInt64).toInt64)) * (-7723592293110705685 : Int64))), .second] [(.long (((((((w + (-7046029254386353131 : Int64)) ^^^ (((w + (-7046029254386353131 : Int64)).toUInt64 >>> ((30 : Int32) &&& 0x3f).toInt64.toUInt64).toInt64)) * (-4658895280553007687 : Int64)) ^^^ (((((w + (-7046029254386353131 : Int64)) ^^^ (((w + (-7046029254386353131 : Int64)).toUInt64 >>> ((30 : Int32) &&& 0x3f).toInt64.toUInt64).toInt64)) * (-4658895280553007687 : Int64)).toUInt64 >>> ((27 : Int32) &&& 0x3f).toInt64.toUInt64).toInt64)) * (-7723592293110705685 : Int64)).toUInt64 >>> ((31 : Int32) &&& 0x3f).toInt64.toUInt64).toInt64)), (.long (((((w + (-7046029254386353131 : Int64)) ^^^ (((w + (-7046029254386353131 : Int64)).toUInt64 >>> ((30 : Int32) &&& 0x3f).toInt64.toUInt64).toInt64)) * (-4658895280553007687 : Int64)) ^^^ (((((w + (-7046029254386353131 : Int64)) ^^^ (((w + (-7046029254386353131 : Int64)).toUInt64 >>> ((30 : Int32) &&& 0x3f).toInt64.toUInt64).toInt64)) * (-4658895280553007687 : Int64)).toUInt64 >>> ((27 : Int32) &&& 0x3f).toInt64.toUInt64).toInt64)) * (-7723592293110705685 : Int64)))])) _
    refine XS.lxor X2.here hx rfl (hb hby d4_41) rfl ?_
    show Steps p.tables e below (T2.setTop (mkF m 42 #[.val (.ref a1), .val (.long (((((w + (-7046029254386353131 : Int64)) ^^^ (((w + (-7046029254386353131 : Int64)).toUInt64 >>> ((30 : Int32) &&& 0x3f).toInt64.toUInt64).toInt64)) * (-4658895280553007687 : Int64)) ^^^ (((((w + (-7046029254386353131 : Int64)) ^^^ (((w + (-7046029254386353131 : Int64)).toUInt64 >>> ((30 : Int32) &&& 0x3f).toInt64.toUInt64).toInt64)) * (-4658895280553007687 : Int64)).toUInt64 >>> ((27 : Int32) &&& 0x3f).toInt64.toUInt64).toInt64)) * (-7723592293110705685 : Int64))), .second] [(.long ((((((w + (-7046029254386353131 : Int64)) ^^^ (((w + (-7046029254386353131 : Int64)).toUInt64 >>> ((30 : Int32) &&& 0x3f).toInt64.toUInt64).toInt64)) * (-4658895280553007687 : Int64)) ^^^ (((((w + (-7046029254386353131 : Int64)) ^^^ (((w + (-7046029254386353131 : Int64)).toUInt64 >>> ((30 : Int32) &&& 0x3f).toInt64.toUInt64).toInt64)) * (-4658895280553007687 : Int64)).toUInt64 >>> ((27 : Int32) &&& 0x3f).toInt64.toUInt64).toInt64)) * (-7723592293110705685 : Int64)) ^^^ (((((((w + (-7046029254386353131 : Int64)) ^^^ (((w + (-7046029254386353131 : Int64)).toUInt64 >>> ((30 : Int32) &&& 0x3f).toInt64.toUInt64).toInt64)) * (-4658895280553007687 : Int64)) ^^^ (((((w + (-7046029254386353131 : Int64)) ^^^ (((w + (-7046029254386353131 : Int64)).toUInt64 >>> ((30 : Int32) &&& 0x3f).toInt64.toUInt64).toInt64)) * (-4658895280553007687 : Int64)).toUInt64 >>> ((27 : Int32) &&& 0x3f).toInt64.toUInt64).toInt64)) * (-7723592293110705685 : Int64)).toUInt64 >>> ((31 : Int32) &&& 0x3f).toInt64.toUInt64).toInt64)))])) _
    exact retOut X2 hx (t := .long) Bd.returns rfl (Or.inr (Or.inl ⟨rfl, rfl, _, rfl⟩)) (hb hby d4_42) hr
  · show Q4 Z a1 w h0 n0 _ T2.heap _
    rw [e2]
    exact ⟨rfl, N2, K2, E_a1_2, F_a1_state_2⟩

theorem d3_0 : decode prog_32_method_4_code 0 = .ok (.aload_n 0, 1) := by decide +kernel
theorem d3_1 : decode prog_32_method_4_code 1 = .ok (.invokevirtual 27, 3) := by decide +kernel
theorem d3_4 : decode prog_32_method_4_code 4 = .ok (.bipush 11, 2) := by decide +kernel
theorem d3_6 : decode prog_32_method_4_code 6 = .ok (.lushr, 1) := by decide +kernel
theorem d3_7 : decode prog_32_method_4_code 7 = .ok (.l2d, 1) := by decide +kernel
theorem d3_8 : decode prog_32_method_4_code 8 = .ok (.ldc2_w 31, 3) := by decide +kernel
theorem d3_11 : decode prog_32_method_4_code 11 = .ok (.dmul, 1) := by decide +kernel
theorem d3_12 : decode prog_32_method_4_code 12 = .ok (.dreturn, 1) := by decide +kernel
theorem pn_3 : plainName "com/example/nearfield/nearfield/engine/SeededRandom" = true := by first | (simp [plainName, overriddenIn]; done) | decide +kernel
theorem ef_3 (m : MethodId) (a1 : Addr) : entryFrame m #[(.ref a1)] 1 = mkF m 0 #[.val (.ref a1)] [] := by first | (simp [entryFrame, mkF, argsToLocals, Value.category]; done) | rfl
def f3  (w : Int64) : UInt64 := (FP.dmul (FP.l2d (((f4 w).toUInt64 >>> ((11 : Int32) &&& 0x3f).toInt64.toUInt64).toInt64)) (4368491638549381120 : UInt64))
def Q3 (Z : State) (a1 : Addr) (w : Int64) (h0 : Heap) (n0 : Nat) (v : Option Value) (h : Heap) (L : List Loc) : Prop := v = some (.double (f3 w)) ∧ Fr n0 L ∧ Keep h0 h [a1] ∧ Exa Z h a1 "com/example/nearfield/nearfield/engine/SeededRandom" ∧ Fld Z h a1 "com/example/nearfield/nearfield/engine/SeededRandom" "state" "J" (.long (w + (-7046029254386353131 : Int64)))
set_option maxRecDepth 65536 in
set_option maxHeartbeats 40000000 in
theorem rm3 (l : Launch) (Z : State) (a0 : Array Value) (hw : ∀ d ∈ tables_1, d.before a0 Z = true) (ws : List Jvm.Cond) (a1 : Addr) (h0 : Heap) (n0 : Nat) (w : Int64) (Z0 : n0 ≤ h0.size) (g_a1 : n0 ≤ a1) (E_a1 : Exa Z h0 a1 "com/example/nearfield/nearfield/engine/SeededRandom") (F_state : Fld Z h0 a1 "com/example/nearfield/nearfield/engine/SeededRandom" "state" "J" (.long w)) :
    MetFree l (⟨"com/example/nearfield/nearfield/engine/SeededRandom", "nextDouble", "()D"⟩ : MethodName) (head1 (Jvm.Cond.code (⟨"com/example/nearfield/nearfield/engine/SeededRandom", "nextDouble", "()D"⟩ : MethodName) prog_32_method_4_code 1 (some .double) :: ws) ({ frames := 1, cells := 0, slots := 0, locals := 14 } : Room)) (fun a U => a = #[(.ref a1)] ∧ Z.Warmed39 U.vm ∧ U.heap = h0) (fun _ _ _ _ _ => True) (fun _ U o U' => ∃ v L, o = .returned v ∧ Q3 Z a1 w h0 n0 v U'.heap L ∧ FrameEnd U o U' L ({ frames := 1, cells := 0, slots := 0, locals := 14 } : Room).cells ({ frames := 1, cells := 0, slots := 0, locals := 14 } : Room).slots) := by
  refine MetFree.of_bodySF (plainFor_of_name pn_3) hisR ?_
  intro p e s m args below meth c s₁ Bd hml0 hP hK
  obtain ⟨rfl, hZ, hh⟩ := hP
  have hx := Bd.exec
  have hby := Bd.bytes
  have hml : c.maxLocals = 1 := hml0
  have hown0 := findClass_of_methodNamed Bd.named
  have hown : s.vm.findClass "com/example/nearfield/nearfield/engine/SeededRandom" = some m.cls := hown0
  have hnm := (name_of_methodNamed Bd.named Bd.method).1
  have X0 : Stand p l e ({ frames := 1, cells := 0, slots := 0, locals := 14 } : Room) s m #[(.ref a1)] below meth c s₁ [] 0 0 := Stand.of_body Bd
  have e0 : s₁.heap = h0 := by rw [← hh, Bd.state]; rfl
  have N0 := Fr.nil n0
  have pre0 : ∀ t, Steps p.tables e below (s₁.setTop (mkF m 0 #[.val (.ref a1)] [])) t → Steps p.tables e below (s₁.setTop (entryFrame m #[(.ref a1)] 1)) t := fun t k => castTop (ef_3 m a1) k
  refine Classical.byContradiction fun hneg => ?_
  obtain ⟨cq1, kq1, q1a, q1b, q1c⟩ := isOf hZ e0 E_a1
  obtain ⟨_, _, ⟨T1, L1, k1, n1⟩, -, X1, ⟨Lc1, hQ1, l1, y1, z1⟩, st1⟩ := X0.virtualBack hx (y := (⟨"com/example/nearfield/nearfield/engine/SeededRandom", "nextLong", "()J"⟩ : MethodName)) (z := (⟨"com/example/nearfield/nearfield/engine/SeededRandom", "nextLong", "()J"⟩ : MethodName)) hown (mvT hZ (hw _ (List.mem_of_getElem? (i := 19) rfl))) (mvT hZ (hw _ (List.mem_of_getElem? (i := 20) rfl))) (notFace_of_selects (args := #[]) (mvT hZ (hw _ (List.mem_of_getElem? (i := 22) rfl)))) (mvT hZ (hw _ (List.mem_of_getElem? (i := 22) rfl))) (mvT hZ (hw _ (List.mem_of_getElem? (i := 21) rfl))) (by decide) (backOf (W := 0) (rm4 l Z a0 hw [] a1  h0 n0 w Z0 g_a1 E_a1 F_state) hZ (hw _ (List.mem_of_getElem? (i := 23) rfl)) (hw _ (List.mem_of_getElem? (i := 2) rfl)) (by decide) (by decide)) q1a q1c (g := (mkF m 1 #[.val (.ref a1)] [(.ref a1)])) rfl (by rw [hml]; rfl) (Steps.refl _) (argsL := []) (rest := []) (lenOf pd0 rfl) rfl (by show 2 * 0 + _ ≤ _; exact Nat.le_of_eq rfl) (hb hby d3_1) (fun _ _ => ⟨rfl, e0, (by decide : 0 + 0 ≤ _), (by decide : 0 + 0 ≤ _)⟩)
  dsimp only [Pt.U, Pt.locs, Pt.cells, Pt.slots] at X1 l1 y1 z1 st1 hQ1
  subst l1 y1 z1
  obtain ⟨rfl, N1q, K1q, g1_0, g1_1⟩ := hQ1
  have N1 := Fr.app N0 N1q
  have K1 : Keep h0 T1.heap [a1] := (Keep.refl h0 [a1]).trans K1q (by
    intro x hx'
    simp only [List.mem_cons, List.not_mem_nil, or_false] at hx'
    rcases hx' with rfl
    · exact Or.inl (by simp))
  have Z1 : n0 ≤ T1.heap.size := Nat.le_trans Z0 K1q.1
  refine hneg ?_
  obtain ⟨fs, hr, hrun, hended, hW, hsame⟩ := X1.leave (v := some (.double (FP.dmul (FP.l2d (((f4 w).toUInt64 >>> ((11 : Int32) &&& 0x3f).toInt64.toUInt64).toInt64)) (4368491638549381120 : UInt64)))) (fun h => by rw [Bd.returns] at h; cases h)
  refine ⟨_, _, pre0 _ ?_, hrun, hended, _, _, rfl, ?_, ⟨_, rfl⟩, hW, hsame.mono (by decide) (by decide)⟩
  · show Steps p.tables e below (s₁.setTop (mkF m 0 #[.val (.ref a1)] [])) _
    refine XS.aloadN X0.here hx rfl (hb hby d3_0) rfl rfl ?_
    show Steps p.tables e below (s₁.setTop (mkF m 1 #[.val (.ref a1)] [(.ref a1)])) _
    refine st1.trans ?_
    show Steps p.tables e below (T1.setTop (mkF m 4 #[.val (.ref a1)] [(.long (f4 w))])) _
    refine XS.bipush X1.here hx rfl (hb hby d3_4) ?_
    show Steps p.tables e below (T1.setTop (mkF m 6 #[.val (.ref a1)] [(.int (11 : Int32)), (.long (f4 w))])) _
    refine XS.lushr X1.here hx rfl (hb hby d3_6) rfl ?_
    show Steps p.tables e below (T1.setTop (mkF m 7 #[.val (.ref a1)] [(.long (((f4 w).toUInt64 >>> ((11 : Int32) &&& 0x3f).toInt64.toUInt64).toInt64))])) _
    refine XS.l2dS X1.here hx rfl (hb hby d3_7) rfl rfl ?_
    show Steps p.tables e below (T1.setTop (mkF m 8 #[.val (.ref a1)] [(.double (FP.l2d (((f4 w).toUInt64 >>> ((11 : Int32) &&& 0x3f).toInt64.toUInt64).toInt64)))])) _
    refine X1.ldc2DoubleC hx hown (mvT hZ (hw _ (List.mem_of_getElem? (i := 27) rfl))) (g := (mkF m 8 #[.val (.ref a1)] [(.double (FP.l2d (((f4 w).toUInt64 >>> ((11 : Int32) &&& 0x3f).toInt64.toUInt64).toInt64)))])) rfl (hb hby d3_8) _ ?_
    show Steps p.tables e below (T1.setTop (mkF m 11 #[.val (.ref a1)] [(.double (4368491638549381120 : UInt64)), (.double (FP.l2d (((f4 w).toUInt64 >>> ((11 : Int32) &&& 0x3f).toInt64.toUInt64).toInt64)))])) _
    refine XS.dmulS X1.here hx rfl (hb hby d3_11) rfl (own_nn _) rfl ?_
    show Steps p.tables e below (T1.setTop (mkF m 12 #[.val (.ref a1)] [(.double (FP.dmul (FP.l2d (((f4 w).toUInt64 >>> ((11 : Int32) &&& 0x3f).toInt64.toUInt64).toInt64)) (4368491638549381120 : UInt64)))])) _
    exact retOut X1 hx (t := .double) Bd.returns rfl (Or.inr (Or.inr (Or.inl ⟨rfl, rfl, _, rfl⟩))) (hb hby d3_12) hr
  · show Q3 Z a1 w h0 n0 _ T1.heap _
    exact ⟨rfl, N1, K1, g1_0, g1_1⟩
theorem own_nn2 (w : Int64) : Jvm.Free.Fl.NoNaN64 (FP.dmul (f3 w) (4845873199050653696 : UInt64)) := (own_nnT (own_topr (f4 w)).1 (own_topr (f4 w)).2).2.1
theorem pn_0 : plainName "com/example/nearfield/nearfield/engine/SeededRandomNextDoublePinLaw" = true := by first | (simp [plainName, overriddenIn]; done) | decide +kernel
theorem ef_0 (m : MethodId) (q1 : Int64) : entryFrame m #[(.long q1)] maxLocals = mkF m 0 #[.val (.long q1), .second, .unset, .unset, .unset, .unset, .unset, .unset, .unset, .unset, .unset, .unset] [] := by first | (simp [entryFrame, mkF, argsToLocals, Value.category, maxLocals]; done) | rfl
def f0 (q1 : Int64) : Int32 := (if (cmpValue (FP.dcmp (f3 q1) (FP.dconst0)) .l) < (0 : Int32) then (0 : Int32) else (if (cmpValue (FP.dcmp (f3 q1) (FP.dconst1)) .g) < (0 : Int32) then (if (cmpValue (FP.dcmp (FP.l2d (FP.d2l (FP.dmul (f3 q1) (4845873199050653696 : UInt64)))) (FP.dmul (f3 q1) (4845873199050653696 : UInt64))) .l) = (0 : Int32) then (if (lcmpW (FP.d2l (FP.dmul (f3 q1) (4845873199050653696 : UInt64))) (((f4 q1).toUInt64 >>> ((11 : Int32) &&& 0x3f).toInt64.toUInt64).toInt64)) = (0 : Int32) then (if (lcmpW (f4 (q1 + (-7046029254386353131 : Int64))) (f4 (q1 + (-7046029254386353131 : Int64)))) = (0 : Int32) then (1 : Int32) else (0 : Int32)) else (0 : Int32)) else (0 : Int32)) else (0 : Int32)))
def Q0 (Z : State) (q1 : Int64) (h0 : Heap) (n0 : Nat) (v : Option Value) (h : Heap) (L : List Loc) : Prop := v = some (.int (f0 q1)) ∧ Fr n0 L
set_option maxRecDepth 65536 in
set_option maxHeartbeats 40000000 in
theorem rm0 (l : Launch) (Z : State) (a0 : Array Value) (hw : ∀ d ∈ tables_1, d.before a0 Z = true) (ws : List Jvm.Cond) (q1 : Int64) (h0 : Heap) (n0 : Nat) (Z0 : n0 ≤ h0.size) :
    MetFree l x (head1 (Jvm.Cond.code x code maxLocals ret :: ws) room_1) (fun a U => a = #[(.long q1)] ∧ Z.Warmed39 U.vm ∧ U.heap = h0) (fun _ _ _ _ _ => True) (fun _ U o U' => ∃ v L, o = .returned v ∧ Q0 Z q1 h0 n0 v U'.heap L ∧ FrameEnd U o U' L room_1.cells room_1.slots) := by
  refine MetFree.of_bodySF (plainFor_of_name pn_0) hisR ?_
  intro p e s m args below meth c s₁ Bd hml0 hP hK
  obtain ⟨rfl, hZ, hh⟩ := hP
  have hx := Bd.exec
  have hby := Bd.bytes
  have hml : c.maxLocals = 12 := hml0
  have hown0 := findClass_of_methodNamed Bd.named
  have hown : s.vm.findClass "com/example/nearfield/nearfield/engine/SeededRandomNextDoublePinLaw" = some m.cls := hown0
  have hnm := (name_of_methodNamed Bd.named Bd.method).1
  have X0 : Stand p l e room_1 s m #[(.long q1)] below meth c s₁ [] 0 0 := Stand.of_body Bd
  have e0 : s₁.heap = h0 := by rw [← hh, Bd.state]; rfl
  have N0 := Fr.nil n0
  have pre0 : ∀ t, Steps p.tables e below (s₁.setTop (mkF m 0 #[.val (.long q1), .second, .unset, .unset, .unset, .unset, .unset, .unset, .unset, .unset, .unset, .unset] [])) t → Steps p.tables e below (s₁.setTop (entryFrame m #[(.long q1)] maxLocals)) t := fun t k => castTop (ef_0 m q1) k
  refine Classical.byContradiction fun hneg => ?_
  obtain ⟨T1, h1, X1, e1, E1, A1, D1, -, st1⟩ := newO X0 hx hZ hown (hw _ (List.mem_of_getElem? (i := 0) rfl)) (hw _ (List.mem_of_getElem? (i := 1) rfl)) (hw _ (List.mem_of_getElem? (i := 2) rfl)) e0 (g := (mkF m 0 #[.val (.long q1), .second, .unset, .unset, .unset, .unset, .unset, .unset, .unset, .unset, .unset, .unset] [])) rfl (hb hby at_0) (by decide) (by decide)
  obtain ⟨b1, g1⟩ : ∃ z, z = h0.size := ⟨_, rfl⟩
  rw [← g1] at A1 D1 st1
  have g_b1 : n0 ≤ b1 := Nat.le_trans Z0 (Nat.le_of_eq g1.symm)
  have sz_b1 : h0.size ≤ b1 := Nat.le_trans (Keep.refl h0 []).1 (Nat.le_of_eq g1.symm)
  have K1 : Keep h0 h1 [] := (Keep.refl h0 []).ext E1
  have Z1 : n0 ≤ h1.size := Nat.le_trans Z0 E1.1
  have F_spare_b1 : Fld Z h1 b1 "com/example/nearfield/nearfield/engine/SeededRandom" "spare" "D" (.double (0 : UInt64)) := D1 (Or.inl (hw _ (List.mem_of_getElem? (i := 11) rfl))) (ty := .double) (by decide)
  have F_state_b1 : Fld Z h1 b1 "com/example/nearfield/nearfield/engine/SeededRandom" "state" "J" (.long (0 : Int64)) := D1 (Or.inl (hw _ (List.mem_of_getElem? (i := 13) rfl))) (ty := .long) (by decide)
  obtain ⟨_, _, ⟨T2, L2, k2, n2⟩, -, X2, ⟨Lc2, hQ2, l2, y2, z2⟩, st2⟩ := X1.specialBack hx (y := (⟨"com/example/nearfield/nearfield/engine/SeededRandom", "<init>", "(J)V"⟩ : MethodName)) rfl hown (mvT hZ (hw _ (List.mem_of_getElem? (i := 3) rfl))) (mvT hZ (hw _ (List.mem_of_getElem? (i := 4) rfl))) (mvT hZ (hw _ (List.mem_of_getElem? (i := 5) rfl))) (by decide) (backOf (W := 1) (rm1 l Z a0 hw [] b1 q1  h1 n0  _ _ Z1 g_b1 A1 F_spare_b1 F_state_b1) hZ (hw _ (List.mem_of_getElem? (i := 5) rfl)) (hw _ (List.mem_of_getElem? (i := 2) rfl)) (by decide) (by decide)) (g := (mkF m 5 #[.val (.long q1), .second, .unset, .unset, .unset, .unset, .unset, .unset, .unset, .unset, .unset, .unset] [(.long q1), (.ref b1), (.ref b1)])) rfl (by rw [hml]; rfl) (Steps.refl _) (a := b1) (argsL := [(.long q1)]) (rest := [(.ref b1)]) (lenOf pd1 rfl) rfl (by show 2 * 0 + _ ≤ _; exact Nat.le_of_eq rfl) (hb hby at_5) (fun _ _ => ⟨rfl, e1, (by decide : 1 + 0 ≤ _), (by decide : 2 + 0 ≤ _)⟩)
  dsimp only [Pt.U, Pt.locs, Pt.cells, Pt.slots] at X2 l2 y2 z2 st2 hQ2
  subst l2 y2 z2
  obtain ⟨rfl, N2q, K2q, g2_0, g2_1, g2_2⟩ := hQ2
  have N2 := Fr.app N0 N2q
  have K2 : Keep h0 T2.heap [] := K1.trans K2q (by
    intro x hx'
    simp only [List.mem_cons, List.not_mem_nil, or_false] at hx'
    rcases hx' with rfl
    · exact Or.inr sz_b1)
  have Z2 : n0 ≤ T2.heap.size := Nat.le_trans Z1 K2q.1
  obtain ⟨T3, h3, X3, e3, E3, A3, D3, -, st3⟩ := newO X2 hx hZ hown (hw _ (List.mem_of_getElem? (i := 0) rfl)) (hw _ (List.mem_of_getElem? (i := 1) rfl)) (hw _ (List.mem_of_getElem? (i := 2) rfl)) rfl (g := (mkF m 9 #[.val (.long q1), .second, .val (.ref b1), .unset, .unset, .unset, .unset, .unset, .unset, .unset, .unset, .unset] [])) rfl (hb hby at_9) (by decide) (by decide)
  obtain ⟨b3, g3⟩ : ∃ z, z = T2.heap.size := ⟨_, rfl⟩
  rw [← g3] at A3 D3 st3
  have ne_b1_b3 : b1 ≠ b3 := Nat.ne_of_lt (Nat.lt_of_lt_of_le g2_0.lt (Nat.le_of_eq g3.symm))
  have g_b3 : n0 ≤ b3 := Nat.le_trans Z2 (Nat.le_of_eq g3.symm)
  have sz_b3 : h0.size ≤ b3 := Nat.le_trans K2.1 (Nat.le_of_eq g3.symm)
  have E_b1_3 := g2_0.ext E3
  have F_b1_spare_3 := g2_1.ext E3
  have F_b1_state_3 := g2_2.ext E3
  have K3 : Keep h0 h3 [] := K2.ext E3
  have Z3 : n0 ≤ h3.size := Nat.le_trans Z2 E3.1
  have F_spare_b3 : Fld Z h3 b3 "com/example/nearfield/nearfield/engine/SeededRandom" "spare" "D" (.double (0 : UInt64)) := D3 (Or.inl (hw _ (List.mem_of_getElem? (i := 11) rfl))) (ty := .double) (by decide)
  have F_state_b3 : Fld Z h3 b3 "com/example/nearfield/nearfield/engine/SeededRandom" "state" "J" (.long (0 : Int64)) := D3 (Or.inl (hw _ (List.mem_of_getElem? (i := 13) rfl))) (ty := .long) (by decide)
  obtain ⟨_, _, ⟨T4, L4, k4, n4⟩, -, X4, ⟨Lc4, hQ4, l4, y4, z4⟩, st4⟩ := X3.specialBack hx (y := (⟨"com/example/nearfield/nearfield/engine/SeededRandom", "<init>", "(J)V"⟩ : MethodName)) rfl hown (mvT hZ (hw _ (List.mem_of_getElem? (i := 3) rfl))) (mvT hZ (hw _ (List.mem_of_getElem? (i := 4) rfl))) (mvT hZ (hw _ (List.mem_of_getElem? (i := 5) rfl))) (by decide) (backOf (W := 1) (rm1 l Z a0 hw [] b3 q1  h3 n0  _ _ Z3 g_b3 A3 F_spare_b3 F_state_b3) hZ (hw _ (List.mem_of_getElem? (i := 5) rfl)) (hw _ (List.mem_of_getElem? (i := 2) rfl)) (by decide) (by decide)) (g := (mkF m 14 #[.val (.long q1), .second, .val (.ref b1), .unset, .unset, .unset, .unset, .unset, .unset, .unset, .unset, .unset] [(.long q1), (.ref b3), (.ref b3)])) rfl (by rw [hml]; rfl) (Steps.refl _) (a := b3) (argsL := [(.long q1)]) (rest := [(.ref b3)]) (lenOf pd1 rfl) rfl (by show 2 * 0 + _ ≤ _; exact Nat.le_of_eq rfl) (hb hby at_14) (fun _ _ => ⟨rfl, e3, (by decide : 2 + 0 ≤ _), (by decide : 4 + 0 ≤ _)⟩)
  dsimp only [Pt.U, Pt.locs, Pt.cells, Pt.slots] at X4 l4 y4 z4 st4 hQ4
  subst l4 y4 z4
  obtain ⟨rfl, N4q, K4q, g4_0, g4_1, g4_2⟩ := hQ4
  have N4 := Fr.app N2 N4q
  have E_b1_4 := E_b1_3.keep K4q
  have F_b1_spare_4 := F_b1_spare_3.keep K4q (ninS ne_b1_b3 nin0)
  have F_b1_state_4 := F_b1_state_3.keep K4q (ninS ne_b1_b3 nin0)
  have K4 : Keep h0 T4.heap [] := K3.trans K4q (by
    intro x hx'
    simp only [List.mem_cons, List.not_mem_nil, or_false] at hx'
    rcases hx' with rfl
    · exact Or.inr sz_b3)
  have Z4 : n0 ≤ T4.heap.size := Nat.le_trans Z3 K4q.1
  obtain ⟨cq5, kq5, q5a, q5b, q5c⟩ := isOf hZ rfl E_b1_4
  obtain ⟨_, _, ⟨T5, L5, k5, n5⟩, -, X5, ⟨Lc5, hQ5, l5, y5, z5⟩, st5⟩ := X4.virtualBack hx (y := (⟨"com/example/nearfield/nearfield/engine/SeededRandom", "nextDouble", "()D"⟩ : MethodName)) (z := (⟨"com/example/nearfield/nearfield/engine/SeededRandom", "nextDouble", "()D"⟩ : MethodName)) hown (mvT hZ (hw _ (List.mem_of_getElem? (i := 14) rfl))) (mvT hZ (hw _ (List.mem_of_getElem? (i := 15) rfl))) (notFace_of_selects (args := #[]) (mvT hZ (hw _ (List.mem_of_getElem? (i := 17) rfl)))) (mvT hZ (hw _ (List.mem_of_getElem? (i := 17) rfl))) (mvT hZ (hw _ (List.mem_of_getElem? (i := 16) rfl))) (by decide) (backOf (W := 0) (rm3 l Z a0 hw [] b1  T4.heap n0 q1 Z4 g_b1 E_b1_4 F_b1_state_4) hZ (hw _ (List.mem_of_getElem? (i := 18) rfl)) (hw _ (List.mem_of_getElem? (i := 2) rfl)) (by decide) (by decide)) q5a q5c (g := (mkF m 19 #[.val (.long q1), .second, .val (.ref b1), .val (.ref b3), .unset, .unset, .unset, .unset, .unset, .unset, .unset, .unset] [(.ref b1)])) rfl (by rw [hml]; rfl) (Steps.refl _) (argsL := []) (rest := []) (lenOf pd2 rfl) rfl (by show 2 * 0 + _ ≤ _; exact Nat.le_of_eq rfl) (hb hby at_19) (fun _ _ => ⟨rfl, rfl, (by decide : 2 + 0 ≤ _), (by decide : 4 + 0 ≤ _)⟩)
  dsimp only [Pt.U, Pt.locs, Pt.cells, Pt.slots] at X5 l5 y5 z5 st5 hQ5
  subst l5 y5 z5
  obtain ⟨rfl, N5q, K5q, g5_0, g5_1⟩ := hQ5
  have N5 := Fr.app N4 N5q
  have E_b3_5 := g4_0.keep K5q
  have F_b3_spare_5 := g4_1.keep K5q (ninS (Ne.symm ne_b1_b3) nin0)
  have F_b3_state_5 := g4_2.keep K5q (ninS (Ne.symm ne_b1_b3) nin0)
  have K5 : Keep h0 T5.heap [] := K4.trans K5q (by
    intro x hx'
    simp only [List.mem_cons, List.not_mem_nil, or_false] at hx'
    rcases hx' with rfl
    · exact Or.inr sz_b1)
  have Z5 : n0 ≤ T5.heap.size := Nat.le_trans Z4 K5q.1
  obtain ⟨cq6, kq6, q6a, q6b, q6c⟩ := isOf hZ rfl E_b3_5
  obtain ⟨_, _, ⟨T6, L6, k6, n6⟩, -, X6, ⟨Lc6, hQ6, l6, y6, z6⟩, st6⟩ := X5.virtualBack hx (y := (⟨"com/example/nearfield/nearfield/engine/SeededRandom", "nextLong", "()J"⟩ : MethodName)) (z := (⟨"com/example/nearfield/nearfield/engine/SeededRandom", "nextLong", "()J"⟩ : MethodName)) hown (mvT hZ (hw _ (List.mem_of_getElem? (i := 28) rfl))) (mvT hZ (hw _ (List.mem_of_getElem? (i := 20) rfl))) (notFace_of_selects (args := #[]) (mvT hZ (hw _ (List.mem_of_getElem? (i := 22) rfl)))) (mvT hZ (hw _ (List.mem_of_getElem? (i := 22) rfl))) (mvT hZ (hw _ (List.mem_of_getElem? (i := 21) rfl))) (by decide) (backOf (W := 0) (rm4 l Z a0 hw [] b3  T5.heap n0 q1 Z5 g_b3 E_b3_5 F_b3_state_5) hZ (hw _ (List.mem_of_getElem? (i := 23) rfl)) (hw _ (List.mem_of_getElem? (i := 2) rfl)) (by decide) (by decide)) q6a q6c (g := (mkF m 25 #[.val (.long q1), .second, .val (.ref b1), .val (.ref b3), .val (.double (f3 q1)), .second, .unset, .unset, .unset, .unset, .unset, .unset] [(.ref b3)])) rfl (by rw [hml]; rfl) (Steps.refl _) (argsL := []) (rest := []) (lenOf pd0 rfl) rfl (by show 2 * 0 + _ ≤ _; exact Nat.le_of_eq rfl) (hb hby at_25) (fun _ _ => ⟨rfl, rfl, (by decide : 2 + 0 ≤ _), (by decide : 4 + 0 ≤ _)⟩)
  dsimp only [Pt.U, Pt.locs, Pt.cells, Pt.slots] at X6 l6 y6 z6 st6 hQ6
  subst l6 y6 z6
  obtain ⟨rfl, N6q, K6q, g6_0, g6_1⟩ := hQ6
  have N6 := Fr.app N5 N6q
  have E_b1_6 := g5_0.keep K6q
  have F_b1_state_6 := g5_1.keep K6q (ninS ne_b1_b3 nin0)
  have K6 : Keep h0 T6.heap [] := K5.trans K6q (by
    intro x hx'
    simp only [List.mem_cons, List.not_mem_nil, or_false] at hx'
    rcases hx' with rfl
    · exact Or.inr sz_b3)
  have Z6 : n0 ≤ T6.heap.size := Nat.le_trans Z5 K6q.1
  have pre7 : ∀ t, Steps p.tables e below (T6.setTop (mkF m 37 #[.val (.long q1), .second, .val (.ref b1), .val (.ref b3), .val (.double (f3 q1)), .second, .val (.long (((f4 q1).toUInt64 >>> ((11 : Int32) &&& 0x3f).toInt64.toUInt64).toInt64)), .second, .unset, .unset, .unset, .unset] [(.int (cmpValue (FP.dcmp (f3 q1) (FP.dconst0)) .l))])) t → Steps p.tables e below (s₁.setTop (entryFrame m #[(.long q1)] maxLocals)) t := by
    intro t k
    refine pre0 t ?_
    show Steps p.tables e below (s₁.setTop (mkF m 0 #[.val (.long q1), .second, .unset, .unset, .unset, .unset, .unset, .unset, .unset, .unset, .unset, .unset] [])) _
    refine st1 _ ?_
    show Steps p.tables e below (T1.setTop (mkF m 3 #[.val (.long q1), .second, .unset, .unset, .unset, .unset, .unset, .unset, .unset, .unset, .unset, .unset] [(.ref b1)])) _
    refine XS.dup X1.here hx rfl (hb hby at_3) rfl rfl ?_
    show Steps p.tables e below (T1.setTop (mkF m 4 #[.val (.long q1), .second, .unset, .unset, .unset, .unset, .unset, .unset, .unset, .unset, .unset, .unset] [(.ref b1), (.ref b1)])) _
    refine XS.lloadN X1.here hx rfl (hb hby at_4) rfl ?_
    show Steps p.tables e below (T1.setTop (mkF m 5 #[.val (.long q1), .second, .unset, .unset, .unset, .unset, .unset, .unset, .unset, .unset, .unset, .unset] [(.long q1), (.ref b1), (.ref b1)])) _
    refine st2.trans ?_
    show Steps p.tables e below (T2.setTop (mkF m 8 #[.val (.long q1), .second, .unset, .unset, .unset, .unset, .unset, .unset, .unset, .unset, .unset, .unset] [(.ref b1)])) _
    refine XS.astoreN X2.here hx rfl (hb hby at_8) rfl rfl (l' := #[.val (.long q1), .second, .val (.ref b1), .unset, .unset, .unset, .unset, .unset, .unset, .unset, .unset, .unset]) rfl ?_
    show Steps p.tables e below (T2.setTop (mkF m 9 #[.val (.long q1), .second, .val (.ref b1), .unset, .unset, .unset, .unset, .unset, .unset, .unset, .unset, .unset] [])) _
    refine st3 _ ?_
    show Steps p.tables e below (T3.setTop (mkF m 12 #[.val (.long q1), .second, .val (.ref b1), .unset, .unset, .unset, .unset, .unset, .unset, .unset, .unset, .unset] [(.ref b3)])) _
    refine XS.dup X3.here hx rfl (hb hby at_12) rfl rfl ?_
    show Steps p.tables e below (T3.setTop (mkF m 13 #[.val (.long q1), .second, .val (.ref b1), .unset, .unset, .unset, .unset, .unset, .unset, .unset, .unset, .unset] [(.ref b3), (.ref b3)])) _
    refine XS.lloadN X3.here hx rfl (hb hby at_13) rfl ?_
    show Steps p.tables e below (T3.setTop (mkF m 14 #[.val (.long q1), .second, .val (.ref b1), .unset, .unset, .unset, .unset, .unset, .unset, .unset, .unset, .unset] [(.long q1), (.ref b3), (.ref b3)])) _
    refine st4.trans ?_
    show Steps p.tables e below (T4.setTop (mkF m 17 #[.val (.long q1), .second, .val (.ref b1), .unset, .unset, .unset, .unset, .unset, .unset, .unset, .unset, .unset] [(.ref b3)])) _
    refine XS.astoreN X4.here hx rfl (hb hby at_17) rfl rfl (l' := #[.val (.long q1), .second, .val (.ref b1), .val (.ref b3), .unset, .unset, .unset, .unset, .unset, .unset, .unset, .unset]) rfl ?_
    show Steps p.tables e below (T4.setTop (mkF m 18 #[.val (.long q1), .second, .val (.ref b1), .val (.ref b3), .unset, .unset, .unset, .unset, .unset, .unset, .unset, .unset] [])) _
    refine XS.aloadN X4.here hx rfl (hb hby at_18) rfl rfl ?_
    show Steps p.tables e below (T4.setTop (mkF m 19 #[.val (.long q1), .second, .val (.ref b1), .val (.ref b3), .unset, .unset, .unset, .unset, .unset, .unset, .unset, .unset] [(.ref b1)])) _
    refine st5.trans ?_
    show Steps p.tables e below (T5.setTop (mkF m 22 #[.val (.long q1), .second, .val (.ref b1), .val (.ref b3), .unset, .unset, .unset, .unset, .unset, .unset, .unset, .unset] [(.double (f3 q1))])) _
    refine XS.dstore X5.here hx rfl (hb hby at_22) rfl (l' := #[.val (.long q1), .second, .val (.ref b1), .val (.ref b3), .val (.double (f3 q1)), .second, .unset, .unset, .unset, .unset, .unset, .unset]) rfl ?_
    show Steps p.tables e below (T5.setTop (mkF m 24 #[.val (.long q1), .second, .val (.ref b1), .val (.ref b3), .val (.double (f3 q1)), .second, .unset, .unset, .unset, .unset, .unset, .unset] [])) _
    refine XS.aloadN X5.here hx rfl (hb hby at_24) rfl rfl ?_
    show Steps p.tables e below (T5.setTop (mkF m 25 #[.val (.long q1), .second, .val (.ref b1), .val (.ref b3), .val (.double (f3 q1)), .second, .unset, .unset, .unset, .unset, .unset, .unset] [(.ref b3)])) _
    refine st6.trans ?_
    show Steps p.tables e below (T6.setTop (mkF m 28 #[.val (.long q1), .second, .val (.ref b1), .val (.ref b3), .val (.double (f3 q1)), .second, .unset, .unset, .unset, .unset, .unset, .unset] [(.long (f4 q1))])) _
    refine XS.bipush X6.here hx rfl (hb hby at_28) ?_
    show Steps p.tables e below (T6.setTop (mkF m 30 #[.val (.long q1), .second, .val (.ref b1), .val (.ref b3), .val (.double (f3 q1)), .second, .unset, .unset, .unset, .unset, .unset, .unset] [(.int (11 : Int32)), (.long (f4 q1))])) _
    refine XS.lushr X6.here hx rfl (hb hby at_30) rfl ?_
    show Steps p.tables e below (T6.setTop (mkF m 31 #[.val (.long q1), .second, .val (.ref b1), .val (.ref b3), .val (.double (f3 q1)), .second, .unset, .unset, .unset, .unset, .unset, .unset] [(.long (((f4 q1).toUInt64 >>> ((11 : Int32) &&& 0x3f).toInt64.toUInt64).toInt64))])) _
    refine XS.lstore X6.here hx rfl (hb hby at_31) rfl (l' := #[.val (.long q1), .second, .val (.ref b1), .val (.ref b3), .val (.double (f3 q1)), .second, .val (.long (((f4 q1).toUInt64 >>> ((11 : Int32) &&& 0x3f).toInt64.toUInt64).toInt64)), .second, .unset, .unset, .unset, .unset]) rfl ?_
    show Steps p.tables e below (T6.setTop (mkF m 33 #[.val (.long q1), .second, .val (.ref b1), .val (.ref b3), .val (.double (f3 q1)), .second, .val (.long (((f4 q1).toUInt64 >>> ((11 : Int32) &&& 0x3f).toInt64.toUInt64).toInt64)), .second, .unset, .unset, .unset, .unset] [])) _
    refine XS.dload X6.here hx rfl (hb hby at_33) rfl ?_
    show Steps p.tables e below (T6.setTop (mkF m 35 #[.val (.long q1), .second, .val (.ref b1), .val (.ref b3), .val (.double (f3 q1)), .second, .val (.long (((f4 q1).toUInt64 >>> ((11 : Int32) &&& 0x3f).toInt64.toUInt64).toInt64)), .second, .unset, .unset, .unset, .unset] [(.double (f3 q1))])) _
    refine XS.dconst0 X6.here hx rfl (hb hby at_35) rfl ?_
    show Steps p.tables e below (T6.setTop (mkF m 36 #[.val (.long q1), .second, .val (.ref b1), .val (.ref b3), .val (.double (f3 q1)), .second, .val (.long (((f4 q1).toUInt64 >>> ((11 : Int32) &&& 0x3f).toInt64.toUInt64).toInt64)), .second, .unset, .unset, .unset, .unset] [(.double (FP.dconst0)), (.double (f3 q1))])) _
    refine XS.dcmpS X6.here hx rfl (hb hby at_36) rfl rfl ?_
    exact k
  by_cases hc37_8 : (cmpValue (FP.dcmp (f3 q1) (FP.dconst0)) .l) < (0 : Int32)
  · refine hneg ?_
    obtain ⟨fs, hr, hrun, hended, hW, hsame⟩ := X6.leave (v := some (.int (0 : Int32))) (fun h => by rw [Bd.returns] at h; cases h)
    refine ⟨_, _, pre7 _ ?_, hrun, hended, _, _, rfl, ?_, ⟨_, rfl⟩, hW, hsame.mono (by decide) (by decide)⟩
    · show Steps p.tables e below (T6.setTop (mkF m 37 #[.val (.long q1), .second, .val (.ref b1), .val (.ref b3), .val (.double (f3 q1)), .second, .val (.long (((f4 q1).toUInt64 >>> ((11 : Int32) &&& 0x3f).toInt64.toUInt64).toInt64)), .second, .unset, .unset, .unset, .unset] [(.int (cmpValue (FP.dcmp (f3 q1) (FP.dconst0)) .l))])) _
      refine XS.ifYes X6.here hx rfl (pc0 := 37) (pc' := 47) rfl (hb hby at_37) rfl ((if0 _ _).trans (tlt hc37_8).1) (by decide) (by decide) ?_
      show Steps p.tables e below (T6.setTop (mkF m 47 #[.val (.long q1), .second, .val (.ref b1), .val (.ref b3), .val (.double (f3 q1)), .second, .val (.long (((f4 q1).toUInt64 >>> ((11 : Int32) &&& 0x3f).toInt64.toUInt64).toInt64)), .second, .unset, .unset, .unset, .unset] [])) _
      refine XS.iconst X6.here hx rfl (hb hby at_47) ?_
      show Steps p.tables e below (T6.setTop (mkF m 48 #[.val (.long q1), .second, .val (.ref b1), .val (.ref b3), .val (.double (f3 q1)), .second, .val (.long (((f4 q1).toUInt64 >>> ((11 : Int32) &&& 0x3f).toInt64.toUInt64).toInt64)), .second, .unset, .unset, .unset, .unset] [(.int (0 : Int32))])) _
      exact retN X6 hx (t := .boolean) Bd.returns (by simp) (hb hby at_48) hr
    · show Q0 Z q1 h0 n0 _ T6.heap _
      refine ⟨?_, N6⟩
      rw [show f0 q1 = (0 : Int32) from (by simp only [f0, if_pos hc37_8])]
  · have pre9 : ∀ t, Steps p.tables e below (T6.setTop (mkF m 44 #[.val (.long q1), .second, .val (.ref b1), .val (.ref b3), .val (.double (f3 q1)), .second, .val (.long (((f4 q1).toUInt64 >>> ((11 : Int32) &&& 0x3f).toInt64.toUInt64).toInt64)), .second, .unset, .unset, .unset, .unset] [(.int (cmpValue (FP.dcmp (f3 q1) (FP.dconst1)) .g))])) t → Steps p.tables e below (s₁.setTop (entryFrame m #[(.long q1)] maxLocals)) t := by
      intro t k
      refine pre7 t ?_
      show Steps p.tables e below (T6.setTop (mkF m 37 #[.val (.long q1), .second, .val (.ref b1), .val (.ref b3), .val (.double (f3 q1)), .second, .val (.long (((f4 q1).toUInt64 >>> ((11 : Int32) &&& 0x3f).toInt64.toUInt64).toInt64)), .second, .unset, .unset, .unset, .unset] [(.int (cmpValue (FP.dcmp (f3 q1) (FP.dconst0)) .l))])) _
      refine XS.ifNo X6.here hx rfl (hb hby at_37) rfl ((if0 _ _).trans (flt hc37_8).1) ?_
      show Steps p.tables e below (T6.setTop (mkF m 40 #[.val (.long q1), .second, .val (.ref b1), .val (.ref b3), .val (.double (f3 q1)), .second, .val (.long (((f4 q1).toUInt64 >>> ((11 : Int32) &&& 0x3f).toInt64.toUInt64).toInt64)), .second, .unset, .unset, .unset, .unset] [])) _
      refine XS.dload X6.here hx rfl (hb hby at_40) rfl ?_
      show Steps p.tables e below (T6.setTop (mkF m 42 #[.val (.long q1), .second, .val (.ref b1), .val (.ref b3), .val (.double (f3 q1)), .second, .val (.long (((f4 q1).toUInt64 >>> ((11 : Int32) &&& 0x3f).toInt64.toUInt64).toInt64)), .second, .unset, .unset, .unset, .unset] [(.double (f3 q1))])) _
      refine XS.dconst1 X6.here hx rfl (hb hby at_42) rfl ?_
      show Steps p.tables e below (T6.setTop (mkF m 43 #[.val (.long q1), .second, .val (.ref b1), .val (.ref b3), .val (.double (f3 q1)), .second, .val (.long (((f4 q1).toUInt64 >>> ((11 : Int32) &&& 0x3f).toInt64.toUInt64).toInt64)), .second, .unset, .unset, .unset, .unset] [(.double (FP.dconst1)), (.double (f3 q1))])) _
      refine XS.dcmpS X6.here hx rfl (hb hby at_43) rfl rfl ?_
      exact k
    by_cases hc44_10 : (cmpValue (FP.dcmp (f3 q1) (FP.dconst1)) .g) < (0 : Int32)
    · have pre11 : ∀ t, Steps p.tables e below (T6.setTop (mkF m 68 #[.val (.long q1), .second, .val (.ref b1), .val (.ref b3), .val (.double (f3 q1)), .second, .val (.long (((f4 q1).toUInt64 >>> ((11 : Int32) &&& 0x3f).toInt64.toUInt64).toInt64)), .second, .val (.double (FP.dmul (f3 q1) (4845873199050653696 : UInt64))), .second, .val (.long (FP.d2l (FP.dmul (f3 q1) (4845873199050653696 : UInt64)))), .second] [(.int (cmpValue (FP.dcmp (FP.l2d (FP.d2l (FP.dmul (f3 q1) (4845873199050653696 : UInt64)))) (FP.dmul (f3 q1) (4845873199050653696 : UInt64))) .l))])) t → Steps p.tables e below (s₁.setTop (entryFrame m #[(.long q1)] maxLocals)) t := by
        intro t k
        refine pre9 t ?_
        show Steps p.tables e below (T6.setTop (mkF m 44 #[.val (.long q1), .second, .val (.ref b1), .val (.ref b3), .val (.double (f3 q1)), .second, .val (.long (((f4 q1).toUInt64 >>> ((11 : Int32) &&& 0x3f).toInt64.toUInt64).toInt64)), .second, .unset, .unset, .unset, .unset] [(.int (cmpValue (FP.dcmp (f3 q1) (FP.dconst1)) .g))])) _
        refine XS.ifYes X6.here hx rfl (pc0 := 44) (pc' := 49) rfl (hb hby at_44) rfl ((if0 _ _).trans (tlt hc44_10).1) (by decide) (by decide) ?_
        show Steps p.tables e below (T6.setTop (mkF m 49 #[.val (.long q1), .second, .val (.ref b1), .val (.ref b3), .val (.double (f3 q1)), .second, .val (.long (((f4 q1).toUInt64 >>> ((11 : Int32) &&& 0x3f).toInt64.toUInt64).toInt64)), .second, .unset, .unset, .unset, .unset] [])) _
        refine XS.dload X6.here hx rfl (hb hby at_49) rfl ?_
        show Steps p.tables e below (T6.setTop (mkF m 51 #[.val (.long q1), .second, .val (.ref b1), .val (.ref b3), .val (.double (f3 q1)), .second, .val (.long (((f4 q1).toUInt64 >>> ((11 : Int32) &&& 0x3f).toInt64.toUInt64).toInt64)), .second, .unset, .unset, .unset, .unset] [(.double (f3 q1))])) _
        refine X6.ldc2DoubleC hx hown (mvT hZ (hw _ (List.mem_of_getElem? (i := 29) rfl))) (g := (mkF m 51 #[.val (.long q1), .second, .val (.ref b1), .val (.ref b3), .val (.double (f3 q1)), .second, .val (.long (((f4 q1).toUInt64 >>> ((11 : Int32) &&& 0x3f).toInt64.toUInt64).toInt64)), .second, .unset, .unset, .unset, .unset] [(.double (f3 q1))])) rfl (hb hby at_51) _ ?_
        show Steps p.tables e below (T6.setTop (mkF m 54 #[.val (.long q1), .second, .val (.ref b1), .val (.ref b3), .val (.double (f3 q1)), .second, .val (.long (((f4 q1).toUInt64 >>> ((11 : Int32) &&& 0x3f).toInt64.toUInt64).toInt64)), .second, .unset, .unset, .unset, .unset] [(.double (4845873199050653696 : UInt64)), (.double (f3 q1))])) _
        refine XS.dmulS X6.here hx rfl (hb hby at_54) rfl (own_nn2 _) rfl ?_
        show Steps p.tables e below (T6.setTop (mkF m 55 #[.val (.long q1), .second, .val (.ref b1), .val (.ref b3), .val (.double (f3 q1)), .second, .val (.long (((f4 q1).toUInt64 >>> ((11 : Int32) &&& 0x3f).toInt64.toUInt64).toInt64)), .second, .unset, .unset, .unset, .unset] [(.double (FP.dmul (f3 q1) (4845873199050653696 : UInt64)))])) _
        refine XS.dstore X6.here hx rfl (hb hby at_55) rfl (l' := #[.val (.long q1), .second, .val (.ref b1), .val (.ref b3), .val (.double (f3 q1)), .second, .val (.long (((f4 q1).toUInt64 >>> ((11 : Int32) &&& 0x3f).toInt64.toUInt64).toInt64)), .second, .val (.double (FP.dmul (f3 q1) (4845873199050653696 : UInt64))), .second, .unset, .unset]) rfl ?_
        show Steps p.tables e below (T6.setTop (mkF m 57 #[.val (.long q1), .second, .val (.ref b1), .val (.ref b3), .val (.double (f3 q1)), .second, .val (.long (((f4 q1).toUInt64 >>> ((11 : Int32) &&& 0x3f).toInt64.toUInt64).toInt64)), .second, .val (.double (FP.dmul (f3 q1) (4845873199050653696 : UInt64))), .second, .unset, .unset] [])) _
        refine XS.dload X6.here hx rfl (hb hby at_57) rfl ?_
        show Steps p.tables e below (T6.setTop (mkF m 59 #[.val (.long q1), .second, .val (.ref b1), .val (.ref b3), .val (.double (f3 q1)), .second, .val (.long (((f4 q1).toUInt64 >>> ((11 : Int32) &&& 0x3f).toInt64.toUInt64).toInt64)), .second, .val (.double (FP.dmul (f3 q1) (4845873199050653696 : UInt64))), .second, .unset, .unset] [(.double (FP.dmul (f3 q1) (4845873199050653696 : UInt64)))])) _
        refine XS.d2lS X6.here hx rfl (hb hby at_59) rfl rfl ?_
        show Steps p.tables e below (T6.setTop (mkF m 60 #[.val (.long q1), .second, .val (.ref b1), .val (.ref b3), .val (.double (f3 q1)), .second, .val (.long (((f4 q1).toUInt64 >>> ((11 : Int32) &&& 0x3f).toInt64.toUInt64).toInt64)), .second, .val (.double (FP.dmul (f3 q1) (4845873199050653696 : UInt64))), .second, .unset, .unset] [(.long (FP.d2l (FP.dmul (f3 q1) (4845873199050653696 : UInt64))))])) _
        refine XS.lstore X6.here hx rfl (hb hby at_60) rfl (l' := #[.val (.long q1), .second, .val (.ref b1), .val (.ref b3), .val (.double (f3 q1)), .second, .val (.long (((f4 q1).toUInt64 >>> ((11 : Int32) &&& 0x3f).toInt64.toUInt64).toInt64)), .second, .val (.double (FP.dmul (f3 q1) (4845873199050653696 : UInt64))), .second, .val (.long (FP.d2l (FP.dmul (f3 q1) (4845873199050653696 : UInt64)))), .second]) rfl ?_
        show Steps p.tables e below (T6.setTop (mkF m 62 #[.val (.long q1), .second, .val (.ref b1), .val (.ref b3), .val (.double (f3 q1)), .second, .val (.long (((f4 q1).toUInt64 >>> ((11 : Int32) &&& 0x3f).toInt64.toUInt64).toInt64)), .second, .val (.double (FP.dmul (f3 q1) (4845873199050653696 : UInt64))), .second, .val (.long (FP.d2l (FP.dmul (f3 q1) (4845873199050653696 : UInt64)))), .second] [])) _
        refine XS.lload X6.here hx rfl (hb hby at_62) rfl ?_
        show Steps p.tables e below (T6.setTop (mkF m 64 #[.val (.long q1), .second, .val (.ref b1), .val (.ref b3), .val (.double (f3 q1)), .second, .val (.long (((f4 q1).toUInt64 >>> ((11 : Int32) &&& 0x3f).toInt64.toUInt64).toInt64)), .second, .val (.double (FP.dmul (f3 q1) (4845873199050653696 : UInt64))), .second, .val (.long (FP.d2l (FP.dmul (f3 q1) (4845873199050653696 : UInt64)))), .second] [(.long (FP.d2l (FP.dmul (f3 q1) (4845873199050653696 : UInt64))))])) _
        refine XS.l2dS X6.here hx rfl (hb hby at_64) rfl rfl ?_
        show Steps p.tables e below (T6.setTop (mkF m 65 #[.val (.long q1), .second, .val (.ref b1), .val (.ref b3), .val (.double (f3 q1)), .second, .val (.long (((f4 q1).toUInt64 >>> ((11 : Int32) &&& 0x3f).toInt64.toUInt64).toInt64)), .second, .val (.double (FP.dmul (f3 q1) (4845873199050653696 : UInt64))), .second, .val (.long (FP.d2l (FP.dmul (f3 q1) (4845873199050653696 : UInt64)))), .second] [(.double (FP.l2d (FP.d2l (FP.dmul (f3 q1) (4845873199050653696 : UInt64)))))])) _
        refine XS.dload X6.here hx rfl (hb hby at_65) rfl ?_
        show Steps p.tables e below (T6.setTop (mkF m 67 #[.val (.long q1), .second, .val (.ref b1), .val (.ref b3), .val (.double (f3 q1)), .second, .val (.long (((f4 q1).toUInt64 >>> ((11 : Int32) &&& 0x3f).toInt64.toUInt64).toInt64)), .second, .val (.double (FP.dmul (f3 q1) (4845873199050653696 : UInt64))), .second, .val (.long (FP.d2l (FP.dmul (f3 q1) (4845873199050653696 : UInt64)))), .second] [(.double (FP.dmul (f3 q1) (4845873199050653696 : UInt64))), (.double (FP.l2d (FP.d2l (FP.dmul (f3 q1) (4845873199050653696 : UInt64)))))])) _
        refine XS.dcmpS X6.here hx rfl (hb hby at_67) rfl rfl ?_
        exact k
      by_cases hc68_12 : (cmpValue (FP.dcmp (FP.l2d (FP.d2l (FP.dmul (f3 q1) (4845873199050653696 : UInt64)))) (FP.dmul (f3 q1) (4845873199050653696 : UInt64))) .l) = (0 : Int32)
      · have pre13 : ∀ t, Steps p.tables e below (T6.setTop (mkF m 78 #[.val (.long q1), .second, .val (.ref b1), .val (.ref b3), .val (.double (f3 q1)), .second, .val (.long (((f4 q1).toUInt64 >>> ((11 : Int32) &&& 0x3f).toInt64.toUInt64).toInt64)), .second, .val (.double (FP.dmul (f3 q1) (4845873199050653696 : UInt64))), .second, .val (.long (FP.d2l (FP.dmul (f3 q1) (4845873199050653696 : UInt64)))), .second] [(.int (lcmpW (FP.d2l (FP.dmul (f3 q1) (4845873199050653696 : UInt64))) (((f4 q1).toUInt64 >>> ((11 : Int32) &&& 0x3f).toInt64.toUInt64).toInt64)))])) t → Steps p.tables e below (s₁.setTop (entryFrame m #[(.long q1)] maxLocals)) t := by
          intro t k
          refine pre11 t ?_
          show Steps p.tables e below (T6.setTop (mkF m 68 #[.val (.long q1), .second, .val (.ref b1), .val (.ref b3), .val (.double (f3 q1)), .second, .val (.long (((f4 q1).toUInt64 >>> ((11 : Int32) &&& 0x3f).toInt64.toUInt64).toInt64)), .second, .val (.double (FP.dmul (f3 q1) (4845873199050653696 : UInt64))), .second, .val (.long (FP.d2l (FP.dmul (f3 q1) (4845873199050653696 : UInt64)))), .second] [(.int (cmpValue (FP.dcmp (FP.l2d (FP.d2l (FP.dmul (f3 q1) (4845873199050653696 : UInt64)))) (FP.dmul (f3 q1) (4845873199050653696 : UInt64))) .l))])) _
          refine XS.ifYes X6.here hx rfl (pc0 := 68) (pc' := 73) rfl (hb hby at_68) rfl ((if0 _ _).trans (teq hc68_12).1) (by decide) (by decide) ?_
          show Steps p.tables e below (T6.setTop (mkF m 73 #[.val (.long q1), .second, .val (.ref b1), .val (.ref b3), .val (.double (f3 q1)), .second, .val (.long (((f4 q1).toUInt64 >>> ((11 : Int32) &&& 0x3f).toInt64.toUInt64).toInt64)), .second, .val (.double (FP.dmul (f3 q1) (4845873199050653696 : UInt64))), .second, .val (.long (FP.d2l (FP.dmul (f3 q1) (4845873199050653696 : UInt64)))), .second] [])) _
          refine XS.lload X6.here hx rfl (hb hby at_73) rfl ?_
          show Steps p.tables e below (T6.setTop (mkF m 75 #[.val (.long q1), .second, .val (.ref b1), .val (.ref b3), .val (.double (f3 q1)), .second, .val (.long (((f4 q1).toUInt64 >>> ((11 : Int32) &&& 0x3f).toInt64.toUInt64).toInt64)), .second, .val (.double (FP.dmul (f3 q1) (4845873199050653696 : UInt64))), .second, .val (.long (FP.d2l (FP.dmul (f3 q1) (4845873199050653696 : UInt64)))), .second] [(.long (FP.d2l (FP.dmul (f3 q1) (4845873199050653696 : UInt64))))])) _
          refine XS.lload X6.here hx rfl (hb hby at_75) rfl ?_
          show Steps p.tables e below (T6.setTop (mkF m 77 #[.val (.long q1), .second, .val (.ref b1), .val (.ref b3), .val (.double (f3 q1)), .second, .val (.long (((f4 q1).toUInt64 >>> ((11 : Int32) &&& 0x3f).toInt64.toUInt64).toInt64)), .second, .val (.double (FP.dmul (f3 q1) (4845873199050653696 : UInt64))), .second, .val (.long (FP.d2l (FP.dmul (f3 q1) (4845873199050653696 : UInt64)))), .second] [(.long (((f4 q1).toUInt64 >>> ((11 : Int32) &&& 0x3f).toInt64.toUInt64).toInt64)), (.long (FP.d2l (FP.dmul (f3 q1) (4845873199050653696 : UInt64))))])) _
          refine XS.lcmp X6.here hx rfl (hb hby at_77) rfl ?_
          exact k
        by_cases hc78_14 : (lcmpW (FP.d2l (FP.dmul (f3 q1) (4845873199050653696 : UInt64))) (((f4 q1).toUInt64 >>> ((11 : Int32) &&& 0x3f).toInt64.toUInt64).toInt64)) = (0 : Int32)
        · obtain ⟨cq15, kq15, q15a, q15b, q15c⟩ := isOf hZ rfl E_b1_6
          obtain ⟨_, _, ⟨T15, L15, k15, n15⟩, -, X15, ⟨Lc15, hQ15, l15, y15, z15⟩, st15⟩ := X6.virtualBack hx (y := (⟨"com/example/nearfield/nearfield/engine/SeededRandom", "nextLong", "()J"⟩ : MethodName)) (z := (⟨"com/example/nearfield/nearfield/engine/SeededRandom", "nextLong", "()J"⟩ : MethodName)) hown (mvT hZ (hw _ (List.mem_of_getElem? (i := 28) rfl))) (mvT hZ (hw _ (List.mem_of_getElem? (i := 20) rfl))) (notFace_of_selects (args := #[]) (mvT hZ (hw _ (List.mem_of_getElem? (i := 22) rfl)))) (mvT hZ (hw _ (List.mem_of_getElem? (i := 22) rfl))) (mvT hZ (hw _ (List.mem_of_getElem? (i := 21) rfl))) (by decide) (backOf (W := 0) (rm4 l Z a0 hw [] b1  T6.heap n0 (q1 + (-7046029254386353131 : Int64)) Z6 g_b1 E_b1_6 F_b1_state_6) hZ (hw _ (List.mem_of_getElem? (i := 23) rfl)) (hw _ (List.mem_of_getElem? (i := 2) rfl)) (by decide) (by decide)) q15a q15c (g := (mkF m 84 #[.val (.long q1), .second, .val (.ref b1), .val (.ref b3), .val (.double (f3 q1)), .second, .val (.long (((f4 q1).toUInt64 >>> ((11 : Int32) &&& 0x3f).toInt64.toUInt64).toInt64)), .second, .val (.double (FP.dmul (f3 q1) (4845873199050653696 : UInt64))), .second, .val (.long (FP.d2l (FP.dmul (f3 q1) (4845873199050653696 : UInt64)))), .second] [(.ref b1)])) rfl (by rw [hml]; rfl) (Steps.refl _) (argsL := []) (rest := []) (lenOf pd0 rfl) rfl (by show 2 * 0 + _ ≤ _; exact Nat.le_of_eq rfl) (hb hby at_84) (fun _ _ => ⟨rfl, rfl, (by decide : 2 + 0 ≤ _), (by decide : 4 + 0 ≤ _)⟩)
          dsimp only [Pt.U, Pt.locs, Pt.cells, Pt.slots] at X15 l15 y15 z15 st15 hQ15
          subst l15 y15 z15
          obtain ⟨rfl, N15q, K15q, g15_0, g15_1⟩ := hQ15
          have N15 := Fr.app N6 N15q
          have E_b3_15 := g6_0.keep K15q
          have F_b3_state_15 := g6_1.keep K15q (ninS (Ne.symm ne_b1_b3) nin0)
          have K15 : Keep h0 T15.heap [] := K6.trans K15q (by
            intro x hx'
            simp only [List.mem_cons, List.not_mem_nil, or_false] at hx'
            rcases hx' with rfl
            · exact Or.inr sz_b1)
          have Z15 : n0 ≤ T15.heap.size := Nat.le_trans Z6 K15q.1
          obtain ⟨cq16, kq16, q16a, q16b, q16c⟩ := isOf hZ rfl E_b3_15
          obtain ⟨_, _, ⟨T16, L16, k16, n16⟩, -, X16, ⟨Lc16, hQ16, l16, y16, z16⟩, st16⟩ := X15.virtualBack hx (y := (⟨"com/example/nearfield/nearfield/engine/SeededRandom", "nextLong", "()J"⟩ : MethodName)) (z := (⟨"com/example/nearfield/nearfield/engine/SeededRandom", "nextLong", "()J"⟩ : MethodName)) hown (mvT hZ (hw _ (List.mem_of_getElem? (i := 28) rfl))) (mvT hZ (hw _ (List.mem_of_getElem? (i := 20) rfl))) (notFace_of_selects (args := #[]) (mvT hZ (hw _ (List.mem_of_getElem? (i := 22) rfl)))) (mvT hZ (hw _ (List.mem_of_getElem? (i := 22) rfl))) (mvT hZ (hw _ (List.mem_of_getElem? (i := 21) rfl))) (by decide) (backOf (W := 2) (rm4 l Z a0 hw [] b3  T15.heap n0 (q1 + (-7046029254386353131 : Int64)) Z15 g_b3 E_b3_15 F_b3_state_15) hZ (hw _ (List.mem_of_getElem? (i := 23) rfl)) (hw _ (List.mem_of_getElem? (i := 2) rfl)) (by decide) (by decide)) q16a q16c (g := (mkF m 88 #[.val (.long q1), .second, .val (.ref b1), .val (.ref b3), .val (.double (f3 q1)), .second, .val (.long (((f4 q1).toUInt64 >>> ((11 : Int32) &&& 0x3f).toInt64.toUInt64).toInt64)), .second, .val (.double (FP.dmul (f3 q1) (4845873199050653696 : UInt64))), .second, .val (.long (FP.d2l (FP.dmul (f3 q1) (4845873199050653696 : UInt64)))), .second] [(.ref b3), (.long (f4 (q1 + (-7046029254386353131 : Int64))))])) rfl (by rw [hml]; rfl) (Steps.refl _) (argsL := []) (rest := [(.long (f4 (q1 + (-7046029254386353131 : Int64))))]) (lenOf pd0 rfl) rfl (by show 2 * 0 + _ ≤ _; exact Nat.le_of_eq rfl) (hb hby at_88) (fun _ _ => ⟨rfl, rfl, (by decide : 2 + 0 ≤ _), (by decide : 4 + 0 ≤ _)⟩)
          dsimp only [Pt.U, Pt.locs, Pt.cells, Pt.slots] at X16 l16 y16 z16 st16 hQ16
          subst l16 y16 z16
          obtain ⟨rfl, N16q, K16q, g16_0, g16_1⟩ := hQ16
          have N16 := Fr.app N15 N16q
          have E_b1_16 := g15_0.keep K16q
          have F_b1_state_16 := g15_1.keep K16q (ninS ne_b1_b3 nin0)
          have K16 : Keep h0 T16.heap [] := K15.trans K16q (by
            intro x hx'
            simp only [List.mem_cons, List.not_mem_nil, or_false] at hx'
            rcases hx' with rfl
            · exact Or.inr sz_b3)
          have Z16 : n0 ≤ T16.heap.size := Nat.le_trans Z15 K16q.1
          have pre17 : ∀ t, Steps p.tables e below (T16.setTop (mkF m 92 #[.val (.long q1), .second, .val (.ref b1), .val (.ref b3), .val (.double (f3 q1)), .second, .val (.long (((f4 q1).toUInt64 >>> ((11 : Int32) &&& 0x3f).toInt64.toUInt64).toInt64)), .second, .val (.double (FP.dmul (f3 q1) (4845873199050653696 : UInt64))), .second, .val (.long (FP.d2l (FP.dmul (f3 q1) (4845873199050653696 : UInt64)))), .second] [(.int (lcmpW (f4 (q1 + (-7046029254386353131 : Int64))) (f4 (q1 + (-7046029254386353131 : Int64)))))])) t → Steps p.tables e below (s₁.setTop (entryFrame m #[(.long q1)] maxLocals)) t := by
            intro t k
            refine pre13 t ?_
            show Steps p.tables e below (T6.setTop (mkF m 78 #[.val (.long q1), .second, .val (.ref b1), .val (.ref b3), .val (.double (f3 q1)), .second, .val (.long (((f4 q1).toUInt64 >>> ((11 : Int32) &&& 0x3f).toInt64.toUInt64).toInt64)), .second, .val (.double (FP.dmul (f3 q1) (4845873199050653696 : UInt64))), .second, .val (.long (FP.d2l (FP.dmul (f3 q1) (4845873199050653696 : UInt64)))), .second] [(.int (lcmpW (FP.d2l (FP.dmul (f3 q1) (4845873199050653696 : UInt64))) (((f4 q1).toUInt64 >>> ((11 : Int32) &&& 0x3f).toInt64.toUInt64).toInt64)))])) _
            refine XS.ifYes X6.here hx rfl (pc0 := 78) (pc' := 83) rfl (hb hby at_78) rfl ((if0 _ _).trans (teq hc78_14).1) (by decide) (by decide) ?_
            show Steps p.tables e below (T6.setTop (mkF m 83 #[.val (.long q1), .second, .val (.ref b1), .val (.ref b3), .val (.double (f3 q1)), .second, .val (.long (((f4 q1).toUInt64 >>> ((11 : Int32) &&& 0x3f).toInt64.toUInt64).toInt64)), .second, .val (.double (FP.dmul (f3 q1) (4845873199050653696 : UInt64))), .second, .val (.long (FP.d2l (FP.dmul (f3 q1) (4845873199050653696 : UInt64)))), .second] [])) _
            refine XS.aloadN X6.here hx rfl (hb hby at_83) rfl rfl ?_
            show Steps p.tables e below (T6.setTop (mkF m 84 #[.val (.long q1), .second, .val (.ref b1), .val (.ref b3), .val (.double (f3 q1)), .second, .val (.long (((f4 q1).toUInt64 >>> ((11 : Int32) &&& 0x3f).toInt64.toUInt64).toInt64)), .second, .val (.double (FP.dmul (f3 q1) (4845873199050653696 : UInt64))), .second, .val (.long (FP.d2l (FP.dmul (f3 q1) (4845873199050653696 : UInt64)))), .second] [(.ref b1)])) _
            refine st15.trans ?_
            show Steps p.tables e below (T15.setTop (mkF m 87 #[.val (.long q1), .second, .val (.ref b1), .val (.ref b3), .val (.double (f3 q1)), .second, .val (.long (((f4 q1).toUInt64 >>> ((11 : Int32) &&& 0x3f).toInt64.toUInt64).toInt64)), .second, .val (.double (FP.dmul (f3 q1) (4845873199050653696 : UInt64))), .second, .val (.long (FP.d2l (FP.dmul (f3 q1) (4845873199050653696 : UInt64)))), .second] [(.long (f4 (q1 + (-7046029254386353131 : Int64))))])) _
            refine XS.aloadN X15.here hx rfl (hb hby at_87) rfl rfl ?_
            show Steps p.tables e below (T15.setTop (mkF m 88 #[.val (.long q1), .second, .val (.ref b1), .val (.ref b3), .val (.double (f3 q1)), .second, .val (.long (((f4 q1).toUInt64 >>> ((11 : Int32) &&& 0x3f).toInt64.toUInt64).toInt64)), .second, .val (.double (FP.dmul (f3 q1) (4845873199050653696 : UInt64))), .second, .val (.long (FP.d2l (FP.dmul (f3 q1) (4845873199050653696 : UInt64)))), .second] [(.ref b3), (.long (f4 (q1 + (-7046029254386353131 : Int64))))])) _
            refine st16.trans ?_
            show Steps p.tables e below (T16.setTop (mkF m 91 #[.val (.long q1), .second, .val (.ref b1), .val (.ref b3), .val (.double (f3 q1)), .second, .val (.long (((f4 q1).toUInt64 >>> ((11 : Int32) &&& 0x3f).toInt64.toUInt64).toInt64)), .second, .val (.double (FP.dmul (f3 q1) (4845873199050653696 : UInt64))), .second, .val (.long (FP.d2l (FP.dmul (f3 q1) (4845873199050653696 : UInt64)))), .second] [(.long (f4 (q1 + (-7046029254386353131 : Int64)))), (.long (f4 (q1 + (-7046029254386353131 : Int64))))])) _
            refine XS.lcmp X16.here hx rfl (hb hby at_91) rfl ?_
            exact k
          by_cases hc92_18 : (lcmpW (f4 (q1 + (-7046029254386353131 : Int64))) (f4 (q1 + (-7046029254386353131 : Int64)))) = (0 : Int32)
          · refine hneg ?_
            obtain ⟨fs, hr, hrun, hended, hW, hsame⟩ := X16.leave (v := some (.int (1 : Int32))) (fun h => by rw [Bd.returns] at h; cases h)
            refine ⟨_, _, pre17 _ ?_, hrun, hended, _, _, rfl, ?_, ⟨_, rfl⟩, hW, hsame.mono (by decide) (by decide)⟩
            · show Steps p.tables e below (T16.setTop (mkF m 92 #[.val (.long q1), .second, .val (.ref b1), .val (.ref b3), .val (.double (f3 q1)), .second, .val (.long (((f4 q1).toUInt64 >>> ((11 : Int32) &&& 0x3f).toInt64.toUInt64).toInt64)), .second, .val (.double (FP.dmul (f3 q1) (4845873199050653696 : UInt64))), .second, .val (.long (FP.d2l (FP.dmul (f3 q1) (4845873199050653696 : UInt64)))), .second] [(.int (lcmpW (f4 (q1 + (-7046029254386353131 : Int64))) (f4 (q1 + (-7046029254386353131 : Int64)))))])) _
              refine XS.ifNo X16.here hx rfl (hb hby at_92) rfl ((if0 _ _).trans (teq hc92_18).2) ?_
              show Steps p.tables e below (T16.setTop (mkF m 95 #[.val (.long q1), .second, .val (.ref b1), .val (.ref b3), .val (.double (f3 q1)), .second, .val (.long (((f4 q1).toUInt64 >>> ((11 : Int32) &&& 0x3f).toInt64.toUInt64).toInt64)), .second, .val (.double (FP.dmul (f3 q1) (4845873199050653696 : UInt64))), .second, .val (.long (FP.d2l (FP.dmul (f3 q1) (4845873199050653696 : UInt64)))), .second] [])) _
              refine XS.iconst X16.here hx rfl (hb hby at_95) ?_
              show Steps p.tables e below (T16.setTop (mkF m 96 #[.val (.long q1), .second, .val (.ref b1), .val (.ref b3), .val (.double (f3 q1)), .second, .val (.long (((f4 q1).toUInt64 >>> ((11 : Int32) &&& 0x3f).toInt64.toUInt64).toInt64)), .second, .val (.double (FP.dmul (f3 q1) (4845873199050653696 : UInt64))), .second, .val (.long (FP.d2l (FP.dmul (f3 q1) (4845873199050653696 : UInt64)))), .second] [(.int (1 : Int32))])) _
              refine XS.goto X16.here hx rfl (pc0 := 96) (pc' := 100) rfl (hb hby at_96) (by decide) (by decide) ?_
              show Steps p.tables e below (T16.setTop (mkF m 100 #[.val (.long q1), .second, .val (.ref b1), .val (.ref b3), .val (.double (f3 q1)), .second, .val (.long (((f4 q1).toUInt64 >>> ((11 : Int32) &&& 0x3f).toInt64.toUInt64).toInt64)), .second, .val (.double (FP.dmul (f3 q1) (4845873199050653696 : UInt64))), .second, .val (.long (FP.d2l (FP.dmul (f3 q1) (4845873199050653696 : UInt64)))), .second] [(.int (1 : Int32))])) _
              exact retN X16 hx (t := .boolean) Bd.returns (by simp) (hb hby at_100) hr
            · show Q0 Z q1 h0 n0 _ T16.heap _
              refine ⟨?_, N16⟩
              rw [show f0 q1 = (1 : Int32) from (by simp only [f0, if_neg hc37_8, if_pos hc44_10, if_pos hc68_12, if_pos hc78_14, if_pos hc92_18])]
          · refine hneg ?_
            obtain ⟨fs, hr, hrun, hended, hW, hsame⟩ := X16.leave (v := some (.int (0 : Int32))) (fun h => by rw [Bd.returns] at h; cases h)
            refine ⟨_, _, pre17 _ ?_, hrun, hended, _, _, rfl, ?_, ⟨_, rfl⟩, hW, hsame.mono (by decide) (by decide)⟩
            · show Steps p.tables e below (T16.setTop (mkF m 92 #[.val (.long q1), .second, .val (.ref b1), .val (.ref b3), .val (.double (f3 q1)), .second, .val (.long (((f4 q1).toUInt64 >>> ((11 : Int32) &&& 0x3f).toInt64.toUInt64).toInt64)), .second, .val (.double (FP.dmul (f3 q1) (4845873199050653696 : UInt64))), .second, .val (.long (FP.d2l (FP.dmul (f3 q1) (4845873199050653696 : UInt64)))), .second] [(.int (lcmpW (f4 (q1 + (-7046029254386353131 : Int64))) (f4 (q1 + (-7046029254386353131 : Int64)))))])) _
              refine XS.ifYes X16.here hx rfl (pc0 := 92) (pc' := 99) rfl (hb hby at_92) rfl ((if0 _ _).trans (feq hc92_18).2) (by decide) (by decide) ?_
              show Steps p.tables e below (T16.setTop (mkF m 99 #[.val (.long q1), .second, .val (.ref b1), .val (.ref b3), .val (.double (f3 q1)), .second, .val (.long (((f4 q1).toUInt64 >>> ((11 : Int32) &&& 0x3f).toInt64.toUInt64).toInt64)), .second, .val (.double (FP.dmul (f3 q1) (4845873199050653696 : UInt64))), .second, .val (.long (FP.d2l (FP.dmul (f3 q1) (4845873199050653696 : UInt64)))), .second] [])) _
              refine XS.iconst X16.here hx rfl (hb hby at_99) ?_
              show Steps p.tables e below (T16.setTop (mkF m 100 #[.val (.long q1), .second, .val (.ref b1), .val (.ref b3), .val (.double (f3 q1)), .second, .val (.long (((f4 q1).toUInt64 >>> ((11 : Int32) &&& 0x3f).toInt64.toUInt64).toInt64)), .second, .val (.double (FP.dmul (f3 q1) (4845873199050653696 : UInt64))), .second, .val (.long (FP.d2l (FP.dmul (f3 q1) (4845873199050653696 : UInt64)))), .second] [(.int (0 : Int32))])) _
              exact retN X16 hx (t := .boolean) Bd.returns (by simp) (hb hby at_100) hr
            · show Q0 Z q1 h0 n0 _ T16.heap _
              refine ⟨?_, N16⟩
              rw [show f0 q1 = (0 : Int32) from (by simp only [f0, if_neg hc37_8, if_pos hc44_10, if_pos hc68_12, if_pos hc78_14, if_neg hc92_18])]
        · refine hneg ?_
          obtain ⟨fs, hr, hrun, hended, hW, hsame⟩ := X6.leave (v := some (.int (0 : Int32))) (fun h => by rw [Bd.returns] at h; cases h)
          refine ⟨_, _, pre13 _ ?_, hrun, hended, _, _, rfl, ?_, ⟨_, rfl⟩, hW, hsame.mono (by decide) (by decide)⟩
          · show Steps p.tables e below (T6.setTop (mkF m 78 #[.val (.long q1), .second, .val (.ref b1), .val (.ref b3), .val (.double (f3 q1)), .second, .val (.long (((f4 q1).toUInt64 >>> ((11 : Int32) &&& 0x3f).toInt64.toUInt64).toInt64)), .second, .val (.double (FP.dmul (f3 q1) (4845873199050653696 : UInt64))), .second, .val (.long (FP.d2l (FP.dmul (f3 q1) (4845873199050653696 : UInt64)))), .second] [(.int (lcmpW (FP.d2l (FP.dmul (f3 q1) (4845873199050653696 : UInt64))) (((f4 q1).toUInt64 >>> ((11 : Int32) &&& 0x3f).toInt64.toUInt64).toInt64)))])) _
            refine XS.ifNo X6.here hx rfl (hb hby at_78) rfl ((if0 _ _).trans (feq hc78_14).1) ?_
            show Steps p.tables e below (T6.setTop (mkF m 81 #[.val (.long q1), .second, .val (.ref b1), .val (.ref b3), .val (.double (f3 q1)), .second, .val (.long (((f4 q1).toUInt64 >>> ((11 : Int32) &&& 0x3f).toInt64.toUInt64).toInt64)), .second, .val (.double (FP.dmul (f3 q1) (4845873199050653696 : UInt64))), .second, .val (.long (FP.d2l (FP.dmul (f3 q1) (4845873199050653696 : UInt64)))), .second] [])) _
            refine XS.iconst X6.here hx rfl (hb hby at_81) ?_
            show Steps p.tables e below (T6.setTop (mkF m 82 #[.val (.long q1), .second, .val (.ref b1), .val (.ref b3), .val (.double (f3 q1)), .second, .val (.long (((f4 q1).toUInt64 >>> ((11 : Int32) &&& 0x3f).toInt64.toUInt64).toInt64)), .second, .val (.double (FP.dmul (f3 q1) (4845873199050653696 : UInt64))), .second, .val (.long (FP.d2l (FP.dmul (f3 q1) (4845873199050653696 : UInt64)))), .second] [(.int (0 : Int32))])) _
            exact retN X6 hx (t := .boolean) Bd.returns (by simp) (hb hby at_82) hr
          · show Q0 Z q1 h0 n0 _ T6.heap _
            refine ⟨?_, N6⟩
            rw [show f0 q1 = (0 : Int32) from (by simp only [f0, if_neg hc37_8, if_pos hc44_10, if_pos hc68_12, if_neg hc78_14])]
      · refine hneg ?_
        obtain ⟨fs, hr, hrun, hended, hW, hsame⟩ := X6.leave (v := some (.int (0 : Int32))) (fun h => by rw [Bd.returns] at h; cases h)
        refine ⟨_, _, pre11 _ ?_, hrun, hended, _, _, rfl, ?_, ⟨_, rfl⟩, hW, hsame.mono (by decide) (by decide)⟩
        · show Steps p.tables e below (T6.setTop (mkF m 68 #[.val (.long q1), .second, .val (.ref b1), .val (.ref b3), .val (.double (f3 q1)), .second, .val (.long (((f4 q1).toUInt64 >>> ((11 : Int32) &&& 0x3f).toInt64.toUInt64).toInt64)), .second, .val (.double (FP.dmul (f3 q1) (4845873199050653696 : UInt64))), .second, .val (.long (FP.d2l (FP.dmul (f3 q1) (4845873199050653696 : UInt64)))), .second] [(.int (cmpValue (FP.dcmp (FP.l2d (FP.d2l (FP.dmul (f3 q1) (4845873199050653696 : UInt64)))) (FP.dmul (f3 q1) (4845873199050653696 : UInt64))) .l))])) _
          refine XS.ifNo X6.here hx rfl (hb hby at_68) rfl ((if0 _ _).trans (feq hc68_12).1) ?_
          show Steps p.tables e below (T6.setTop (mkF m 71 #[.val (.long q1), .second, .val (.ref b1), .val (.ref b3), .val (.double (f3 q1)), .second, .val (.long (((f4 q1).toUInt64 >>> ((11 : Int32) &&& 0x3f).toInt64.toUInt64).toInt64)), .second, .val (.double (FP.dmul (f3 q1) (4845873199050653696 : UInt64))), .second, .val (.long (FP.d2l (FP.dmul (f3 q1) (4845873199050653696 : UInt64)))), .second] [])) _
          refine XS.iconst X6.here hx rfl (hb hby at_71) ?_
          show Steps p.tables e below (T6.setTop (mkF m 72 #[.val (.long q1), .second, .val (.ref b1), .val (.ref b3), .val (.double (f3 q1)), .second, .val (.long (((f4 q1).toUInt64 >>> ((11 : Int32) &&& 0x3f).toInt64.toUInt64).toInt64)), .second, .val (.double (FP.dmul (f3 q1) (4845873199050653696 : UInt64))), .second, .val (.long (FP.d2l (FP.dmul (f3 q1) (4845873199050653696 : UInt64)))), .second] [(.int (0 : Int32))])) _
          exact retN X6 hx (t := .boolean) Bd.returns (by simp) (hb hby at_72) hr
        · show Q0 Z q1 h0 n0 _ T6.heap _
          refine ⟨?_, N6⟩
          rw [show f0 q1 = (0 : Int32) from (by simp only [f0, if_neg hc37_8, if_pos hc44_10, if_neg hc68_12])]
    · refine hneg ?_
      obtain ⟨fs, hr, hrun, hended, hW, hsame⟩ := X6.leave (v := some (.int (0 : Int32))) (fun h => by rw [Bd.returns] at h; cases h)
      refine ⟨_, _, pre9 _ ?_, hrun, hended, _, _, rfl, ?_, ⟨_, rfl⟩, hW, hsame.mono (by decide) (by decide)⟩
      · show Steps p.tables e below (T6.setTop (mkF m 44 #[.val (.long q1), .second, .val (.ref b1), .val (.ref b3), .val (.double (f3 q1)), .second, .val (.long (((f4 q1).toUInt64 >>> ((11 : Int32) &&& 0x3f).toInt64.toUInt64).toInt64)), .second, .unset, .unset, .unset, .unset] [(.int (cmpValue (FP.dcmp (f3 q1) (FP.dconst1)) .g))])) _
        refine XS.ifNo X6.here hx rfl (hb hby at_44) rfl ((if0 _ _).trans (flt hc44_10).1) ?_
        show Steps p.tables e below (T6.setTop (mkF m 47 #[.val (.long q1), .second, .val (.ref b1), .val (.ref b3), .val (.double (f3 q1)), .second, .val (.long (((f4 q1).toUInt64 >>> ((11 : Int32) &&& 0x3f).toInt64.toUInt64).toInt64)), .second, .unset, .unset, .unset, .unset] [])) _
        refine XS.iconst X6.here hx rfl (hb hby at_47) ?_
        show Steps p.tables e below (T6.setTop (mkF m 48 #[.val (.long q1), .second, .val (.ref b1), .val (.ref b3), .val (.double (f3 q1)), .second, .val (.long (((f4 q1).toUInt64 >>> ((11 : Int32) &&& 0x3f).toInt64.toUInt64).toInt64)), .second, .unset, .unset, .unset, .unset] [(.int (0 : Int32))])) _
        exact retN X6 hx (t := .boolean) Bd.returns (by simp) (hb hby at_48) hr
      · show Q0 Z q1 h0 n0 _ T6.heap _
        refine ⟨?_, N6⟩
        rw [show f0 q1 = (0 : Int32) from (by simp only [f0, if_neg hc37_8, if_neg hc44_10])]
theorem own_law (q1 : Int64) : f0 q1 = 1 := by
  obtain ⟨h0, h1⟩ := own_topr (f4 q1)
  have e : f3 q1 = FP.dmul (FP.l2d (own_top (f4 q1))) 4368491638549381120 := rfl
  have e2 : FP.dmul (f3 q1) (4845873199050653696 : UInt64) = FP.l2d (own_top (f4 q1)) := by rw [e]; exact (own_nnT h0 h1).2.2
  have hb : B53 (own_top (f4 q1)) := ⟨by omega, by omega⟩
  have e3 : FP.d2l (FP.l2d (own_top (f4 q1))) = own_top (f4 q1) := d2l_w hb
  have c1 : ¬ cmpValue (FP.dcmp (f3 q1) (FP.dconst0)) .l < (0 : Int32) := by
    rw [e]
    rcases own_ge h0 h1 with q | q <;> rw [q] <;> decide
  have c2 : cmpValue (FP.dcmp (f3 q1) (FP.dconst1)) .g < (0 : Int32) := by
    rw [e, own_lt h0 h1]
    decide
  have c3 : cmpValue (FP.dcmp (FP.l2d (own_top (f4 q1))) (FP.l2d (own_top (f4 q1)))) .l = (0 : Int32) := dcmpV_self (nn_w rfl) _
  unfold f0
  have c4 : lcmpW (own_top (f4 q1)) (((f4 q1).toUInt64 >>> ((11 : Int32) &&& 0x3f).toInt64.toUInt64).toInt64) = (0 : Int32) := (lw_eq _ _).mpr rfl
  rw [if_neg c1, if_pos c2, e2, e3, if_pos c3, if_pos c4, if_pos ((lw_eq _ _).mpr rfl)]
set_option maxRecDepth 65536 in
set_option maxHeartbeats 40000000 in
theorem comes_1 {Post : Tables → Env → Array Value → State → Outcome → State → Prop} (hpost : ∀ tb e args s v u, (limb_1_1.after args s (.returned v) u = true ∧ limb_1_2.after args s (.returned v) u = true ∧ True) → FrameEnd s (.returned v) u (Jvm.fieldLocs frame_1_writes args s ++ Jvm.arrayLocs frame_1_arrays args s ++ Jvm.staticLocs frame_1_statics s) 16 128 → Post tb e args s (.returned v) u) :
    ArmFor flags0 classFile x code maxLocals ret World_1 tables_1 room_1 Calls_1 rest_1 Pre_1 Post := by
  intro l hfl _ _ p e ha hc hk s m args below hf hA hF happ hP
  obtain ⟨hcalls, hrest, hpre⟩ := hP
  obtain ⟨-, -, -, hnamed, -, -, -, hat⟩ := (Spec.applies_iff hf).mp happ
  obtain ⟨hg, hn⟩ := and_e (Cond.before_iff.mp (show (Jvm.Cond.and given_1 narrow_1).before args s = true from hpre))
  obtain ⟨gc, g0⟩ := and_e hg
  obtain ⟨w0, rfl⟩ : ∃ w0 : Value, args = #[w0] := by
    have hs : args.size = 1 := by simpa [Cond.value, given_1] using gc
    obtain ⟨L⟩ := args
    match L, hs with
    | [w0], _ => exact ⟨w0, rfl⟩
  have hw := fun d (hd : d ∈ tables_1) => atoms_spec (ws := Jvm.Cond.code x code maxLocals ret :: tables_1) hat d (List.mem_cons_of_mem _ hd)
  have hfit : Fit s := fun {y c} hc i hi => by
    obtain ⟨ha, rfl⟩ := Array.getElem?_eq_some_iff.mp hc
    have q := List.all_eq_true.mp ((Array.all_eq_true_iff_forall_mem.mp hF) _ (Array.getElem_mem ha)) i (List.mem_range.mpr hi)
    simpa [Array.getElem?_eq_getElem hi] using q
  obtain ⟨i0, ei0⟩ := isL_v g0
  obtain rfl : w0 = (.long i0) := Option.some.inj ei0
  obtain ⟨n, o, h1, h2, h3, v, L, rfl, ⟨hv1, N⟩, hq⟩ := rm0 l s _ hw tables_1 i0 s.heap s.heap.size (Nat.le_refl _) p e ha hc hk s m _ below hf ((Spec.applies_iff_loose hf).mp happ).1 ⟨rfl, State.Warmed39.refl s, rfl⟩ trivial
  rw [own_law] at hv1
  subst hv1
  refine ⟨n, _, h1, h2, h3, hpost _ _ _ _ _ _ ⟨Cond.after_iff.mpr rfl, Cond.after_iff.mpr (eq_i res_at (Term.int_eval (1)) rfl), trivial⟩ ⟨hq.1, hq.2.1, (hq.2.2.sift fun y hy => Or.inr (N y hy)).mono (by decide) (by decide)⟩⟩
theorem main_1_1 : Claimed_1_1 := comes_1 fun _ _ _ _ _ _ h hF => ⟨h.1, hF⟩
theorem main_1_2 : Claimed_1_2 := comes_1 fun _ _ _ _ _ _ h hF => ⟨h.2.1, hF⟩
end Jvm.Pilot.@@N@@
namespace Jvm.Pilot.@@N@@
open Jvm Jvm.ClassFile Sem Op Lib Jvm.Free Jvm.Stand Jvm.Pilot.@@N@@.Jvm.D
/-! MADE BY PROGRAM (witnessworld.py) out of the Statement's table words and the real class files: 9 classes; the members and pool entries that the words name. The judged class is class 1, her method 1. -/
namespace start1
open Jvm.ClassFile
def u (s : String) : CpInfo := .utf8 (stringToUtf16 s)
/-- a pool by its gaps: so many unusable entries, then the entry; so many at the end -/
def gap : Nat → List CpInfo → List CpInfo
  | 0, r => r
  | n + 1, r => .unusable :: gap n r
def poolList (es : List (Nat × CpInfo)) (last : Nat) : List CpInfo := es.foldr (fun e r => gap e.1 (e.2 :: r)) (gap last [])
def pool (es : List (Nat × CpInfo)) (last : Nat) : Array CpInfo := ⟨poolList es last⟩
def fileOf (pool : Array CpInfo) (this : Nat) (attrs : Array Attribute := #[]) (ms : Array MethodInfo := #[]) (fl : Nat := 33) (sup : Nat := 0) (ifs : Array Nat := #[]) (fds : Array FieldInfo := #[]) : ClassFile where
  minorVersion := 0
  majorVersion := 65
  constantPool := pool
  accessFlags := fl
  thisClass := this
  superClass := sup
  interfaces := ifs
  fields := fds
  methods := ms
  attributes := attrs
def plain (name : String) (sup : Option ClassId) : Class where
  name := name
  kind := .ordinary
  loader := none
  accessFlags := 33
  super := sup
  interfaces := #[]
  cf := none
  fields := #[]
  methods := #[]
  instanceTypes := #[]
  staticTypes := #[]
  resolved := #[]
  callSites := []
  init := .initialized
  statics := none
  mirror := none

def pool0 : Array CpInfo := pool [(5, u "<init>"), (0, u "()V"), (1, .class_ 10), (1, u "java/lang/Object")] 113

def k0c0 : Code := { maxStack := 0, maxLocals := 1, code := object_method_1_code, exceptionTable := #[], attributes := #[] }
def k0m0 : Method := { name := "<init>", desc := "()V", sig := { parameters := [], returnType := none }, accessFlags := 1, code := some k0c0 }
/-- java/lang/Object -/
def k0 : Class := { plain "java/lang/Object" none with
  accessFlags := 33
  interfaces := #[]
  cf := some (fileOf pool0 8 #[] #[{ accessFlags := 1, nameIndex := 5, descriptorIndex := 6, attributes := #[] }] 33 0 #[] #[])
  fields := #[]
  methods := #[k0m0]
  instanceTypes := #[]
  staticTypes := #[]
  resolved := Array.replicate 124 none
  statics := none }

def pool1 : Array CpInfo := pool [(2, .class_ 4), (1, u "java/lang/Object"), (0, u "<init>"), (0, u "()V"), (0, .class_ 8), (0, u "com/example/nearfield/nearfield/engine/SeededRandom"), (0, .methodref 7 10), (0, .nameAndType 5 11), (0, u "(J)V"), (0, .methodref 7 13), (0, .nameAndType 14 15), (0, u "nextDouble"), (0, u "()D"), (0, .methodref 7 17), (0, .nameAndType 18 19), (0, u "nextLong"), (0, u "()J"), (0, .double 4845873199050653696), (1, .class_ 23), (0, u "com/example/nearfield/nearfield/engine/SeededRandomNextDoublePinLaw"), (2, u "law"), (0, u "(J)Z")] 3

def k1m0 : Method := { name := "<init>", desc := "()V", sig := { parameters := [], returnType := none }, accessFlags := 1, code := none }
def k1c1 : Code := { maxStack := 4, maxLocals := 12, code := code, exceptionTable := #[], attributes := #[] }
def k1m1 : Method := { name := "law", desc := "(J)Z", sig := { parameters := [.long], returnType := some .boolean }, accessFlags := 9, code := some k1c1 }
/-- com/example/nearfield/nearfield/engine/SeededRandomNextDoublePinLaw -/
def k1 : Class := { plain "com/example/nearfield/nearfield/engine/SeededRandomNextDoublePinLaw" (some 0) with
  accessFlags := 49
  interfaces := #[]
  cf := some (fileOf pool1 22 #[] #[{ accessFlags := 1, nameIndex := 5, descriptorIndex := 6, attributes := #[] }, { accessFlags := 9, nameIndex := 26, descriptorIndex := 27, attributes := #[] }] 49 2 #[] #[])
  fields := #[]
  methods := #[k1m0, k1m1]
  instanceTypes := #[]
  staticTypes := #[]
  resolved := Array.replicate 31 none
  statics := none }

def pool2 : Array CpInfo := pool [(1, .methodref 2 3), (0, .class_ 4), (0, .nameAndType 5 6), (0, u "java/lang/Object"), (0, u "<init>"), (0, u "()V"), (2, .double 9221120237041090560), (1, .fieldref 12 13), (0, .class_ 14), (0, .nameAndType 15 16), (0, u "com/example/nearfield/nearfield/engine/SeededRandom"), (0, u "spare"), (0, u "D"), (0, .fieldref 12 18), (0, .nameAndType 19 20), (0, u "state"), (0, u "J"), (0, .long 11400714819323198485), (1, .long 13787848793156543929), (1, .long 10723151780598845931), (1, .methodref 12 28), (0, .nameAndType 29 30), (0, u "nextLong"), (0, u "()J"), (0, .double 4368491638549381120), (9, u "nextDouble"), (0, u "()D"), (24, u "(J)V")] 9

def k2c0 : Code := { maxStack := 3, maxLocals := 3, code := prog_32_method_1_code, exceptionTable := #[], attributes := #[] }
def k2m0 : Method := { name := "<init>", desc := "(J)V", sig := { parameters := [.long], returnType := none }, accessFlags := 0, code := some k2c0 }
def k2c1 : Code := { maxStack := 5, maxLocals := 3, code := prog_32_method_2_code, exceptionTable := #[], attributes := #[] }
def k2m1 : Method := { name := "nextLong", desc := "()J", sig := { parameters := [], returnType := some .long }, accessFlags := 0, code := some k2c1 }
def k2c2 : Code := { maxStack := 4, maxLocals := 1, code := prog_32_method_4_code, exceptionTable := #[], attributes := #[] }
def k2m2 : Method := { name := "nextDouble", desc := "()D", sig := { parameters := [], returnType := some .double }, accessFlags := 0, code := some k2c2 }
/-- com/example/nearfield/nearfield/engine/SeededRandom -/
def k2 : Class := { plain "com/example/nearfield/nearfield/engine/SeededRandom" (some 0) with
  accessFlags := 48
  interfaces := #[]
  cf := some (fileOf pool2 12 #[] #[{ accessFlags := 0, nameIndex := 5, descriptorIndex := 67, attributes := #[] }, { accessFlags := 0, nameIndex := 29, descriptorIndex := 30, attributes := #[] }, { accessFlags := 0, nameIndex := 41, descriptorIndex := 42, attributes := #[] }] 48 2 #[] #[{ accessFlags := 2, nameIndex := 19, descriptorIndex := 20, attributes := #[] }, { accessFlags := 2, nameIndex := 15, descriptorIndex := 16, attributes := #[] }])
  fields := #[{ name := "state", type := .long, accessFlags := 2, slot := 0, constantValue := 0 }, { name := "spare", type := .double, accessFlags := 2, slot := 1, constantValue := 0 }]
  methods := #[k2m0, k2m1, k2m2]
  instanceTypes := #[.long, .double]
  staticTypes := #[]
  resolved := Array.replicate 77 none
  statics := none }

def pool3 : Array CpInfo := pool [(1, u "java/lang/Cloneable"), (0, .class_ 1), (0, u "java/lang/Object"), (0, .class_ 3)] 3

/-- java/lang/Cloneable -/
def k3 : Class := { plain "java/lang/Cloneable" (some 0) with
  accessFlags := 1537
  interfaces := #[]
  cf := some (fileOf pool3 2 #[] #[] 1537 4 #[] #[])
  fields := #[]
  methods := #[]
  instanceTypes := #[]
  staticTypes := #[]
  resolved := Array.replicate 8 none
  statics := none }

def pool4 : Array CpInfo := pool [(1, u "java/io/Serializable"), (0, .class_ 1), (0, u "java/lang/Object"), (0, .class_ 3)] 3

/-- java/io/Serializable -/
def k4 : Class := { plain "java/io/Serializable" (some 0) with
  accessFlags := 1537
  interfaces := #[]
  cf := some (fileOf pool4 2 #[] #[] 1537 4 #[] #[])
  fields := #[]
  methods := #[]
  instanceTypes := #[]
  staticTypes := #[]
  resolved := Array.replicate 8 none
  statics := none }

/-- the primitive byte -/
def k5 : Class := { plain "byte" none with kind := .primitive 'B', accessFlags := 0x411 }
/-- [B -/
def k6 : Class := { plain "[B" (some 0) with kind := .array 5 .byte, interfaces := #[3, 4], accessFlags := 1041 }

/-- the primitive int -/
def k7 : Class := { plain "int" none with kind := .primitive 'I', accessFlags := 0x411 }
/-- [I -/
def k8 : Class := { plain "[I" (some 0) with kind := .array 7 .int, interfaces := #[3, 4], accessFlags := 1041 }

def heap : Heap := #[]
def classes : Array Class := #[k0, k1, k2, k3, k4, k5, k6, k7, k8]
def interned : List (Array UInt16 × Addr) := []
def slotsUsed : Nat := 0
def theMethod : MethodId := ⟨1, 1⟩
def args0 : Array Value := #[.long 7]
def aboutOver (below : List Frame) : State where
  vm := { classes := classes, interned := interned.toArray }
  heap := heap
  slotsUsed := slotsUsed
  threads := #[{ frames := .invoking theMethod args0 :: below }]
def below0 : List Frame := [.native { method := ⟨0, 0⟩, args := #[] }]
def about1 : State := aboutOver below0
def p0 : Program := .bare "" "" ""
def e0 : Env := launch0.env 0 0 0
theorem w_frames : about1.frames = Frame.invoking theMethod args0 :: below0 := rfl
set_option maxRecDepth 65536 in
theorem w_args : argsFit about1.vm theMethod args0 = true := by decide +kernel
set_option maxRecDepth 65536 in
theorem w_heap : heapFits about1 = true := by decide +kernel
set_option maxRecDepth 65536 in
theorem w_runnable : about1.curStatus? = some .runnable := by decide +kernel
set_option maxRecDepth 65536 in
theorem w_alone : about1.alone = true := by decide +kernel
set_option maxRecDepth 65536 in
theorem w_named : about1.methodNamed? x = some theMethod := by decide +kernel
set_option maxRecDepth 65536 in
theorem w_hears : about1.hears theMethod below0 = true := by decide +kernel
set_option maxRecDepth 65536 in
theorem w_ripe : about1.ripe theMethod args0 below0 = true := by decide +kernel
theorem w_running : about1.status = .running := rfl
set_option maxRecDepth 65536 in
theorem w_room : about1.hasRoom e0.platform room_1 = true :=
  launch0.hasRoom_least _ room_1 (by decide +kernel) (by decide +kernel) (by decide +kernel) (by decide +kernel) (by decide +kernel) (by decide +kernel)
theorem allAtoms_all (ts : List Jvm.Cond) (a : Array Jvm.Value) (st : Jvm.State) : (allAtoms ts).before a st = ts.all (fun c => c.before a st) := by
  induction ts with
  | nil => rfl
  | cons c t ih =>
    show (Jvm.Cond.and c (allAtoms t)).before a st = _
    rw [Jvm.Cond.before_and, ih, List.all_cons]
def words1 : List Jvm.Cond := Jvm.Cond.code x code maxLocals ret :: tables_1
/-- a 'code' word, met by the world's own term for the bytes: nothing is compared byte by byte -/
theorem code_word {y : MethodName} {bytes : ByteArray} {mx : Nat} {rt : Option FieldType} {a : Array Value} {s : State} {m : MethodId} {meth : Method} {c : Code} (h1 : s.methodNamed? y = some m) (h2 : s.vm.method? m = some meth) (h3 : meth.code = some c) (h4 : c.code = bytes)
    (h5 : (c.maxLocals == mx && c.exceptionTable.isEmpty && decide (c.maxStack ≤ mostOperands) && decide (meth.sig.returnType = rt) && !meth.locks && decide (parseMethodDescriptor y.desc = some meth.sig)) = true) : (Jvm.Cond.code y bytes mx rt).before a s = true := by
  simp only [Bool.and_eq_true, beq_iff_eq, Bool.not_eq_true', decide_eq_true_eq] at h5
  obtain ⟨⟨⟨⟨⟨g1, g2⟩, g3⟩, g4⟩, g5⟩, g6⟩ := h5
  simp [Cond.before, Cond.holds, Cond.value, h1, h2, h3, h4, g1, g2, g3, g4, g5, g6]
def isCode : Jvm.Cond → Bool
  | .code _ _ _ _ => true
  | _ => false
theorem all_split {L : List Jvm.Cond} {P : Jvm.Cond → Bool} (h1 : L.all (fun c => isCode c || P c) = true) (h2 : ∀ c ∈ L.filter isCode, P c = true) : L.all P = true := by
  refine List.all_eq_true.mpr fun c hc => ?_
  have h := List.all_eq_true.mp h1 c hc
  rcases Bool.eq_false_or_eq_true (isCode c) with hi | hi
  · exact h2 c (List.mem_filter.mpr ⟨hc, hi⟩)
  · simpa [hi] using h
set_option maxRecDepth 65536 in
theorem w_c0 : (Jvm.Cond.code x code maxLocals ret).before args0 about1 = true := code_word (m := ⟨1, 1⟩) (meth := k1m1) (c := k1c1) (by decide +kernel) rfl rfl rfl (by decide +kernel)
set_option maxRecDepth 65536 in
theorem w_c1 : (Jvm.Cond.code ({ cls := "com/example/nearfield/nearfield/engine/SeededRandom", name := "<init>", desc := "(J)V" } : Jvm.MethodName) prog_32_method_1_code (3 : Nat) (Option.none : Option Jvm.ClassFile.FieldType)).before args0 about1 = true := code_word (m := ⟨2, 0⟩) (meth := k2m0) (c := k2c0) (by decide +kernel) rfl rfl rfl (by decide +kernel)
set_option maxRecDepth 65536 in
theorem w_c2 : (Jvm.Cond.code ({ cls := "java/lang/Object", name := "<init>", desc := "()V" } : Jvm.MethodName) object_method_1_code (1 : Nat) (Option.none : Option Jvm.ClassFile.FieldType)).before args0 about1 = true := code_word (m := ⟨0, 0⟩) (meth := k0m0) (c := k0c0) (by decide +kernel) rfl rfl rfl (by decide +kernel)
set_option maxRecDepth 65536 in
theorem w_c3 : (Jvm.Cond.code ({ cls := "com/example/nearfield/nearfield/engine/SeededRandom", name := "nextDouble", desc := "()D" } : Jvm.MethodName) prog_32_method_4_code (1 : Nat) (Option.some Jvm.ClassFile.FieldType.double)).before args0 about1 = true := code_word (m := ⟨2, 2⟩) (meth := k2m2) (c := k2c2) (by decide +kernel) rfl rfl rfl (by decide +kernel)
set_option maxRecDepth 65536 in
theorem w_c4 : (Jvm.Cond.code ({ cls := "com/example/nearfield/nearfield/engine/SeededRandom", name := "nextLong", desc := "()J" } : Jvm.MethodName) prog_32_method_2_code (3 : Nat) (Option.some Jvm.ClassFile.FieldType.long)).before args0 about1 = true := code_word (m := ⟨2, 1⟩) (meth := k2m1) (c := k2c1) (by decide +kernel) rfl rfl rfl (by decide +kernel)
def codes1 : List Jvm.Cond := [Jvm.Cond.code x code maxLocals ret, Jvm.Cond.code ({ cls := "com/example/nearfield/nearfield/engine/SeededRandom", name := "<init>", desc := "(J)V" } : Jvm.MethodName) prog_32_method_1_code (3 : Nat) (Option.none : Option Jvm.ClassFile.FieldType), Jvm.Cond.code ({ cls := "java/lang/Object", name := "<init>", desc := "()V" } : Jvm.MethodName) object_method_1_code (1 : Nat) (Option.none : Option Jvm.ClassFile.FieldType), Jvm.Cond.code ({ cls := "com/example/nearfield/nearfield/engine/SeededRandom", name := "nextDouble", desc := "()D" } : Jvm.MethodName) prog_32_method_4_code (1 : Nat) (Option.some Jvm.ClassFile.FieldType.double), Jvm.Cond.code ({ cls := "com/example/nearfield/nearfield/engine/SeededRandom", name := "nextLong", desc := "()J" } : Jvm.MethodName) prog_32_method_2_code (3 : Nat) (Option.some Jvm.ClassFile.FieldType.long)]
set_option maxRecDepth 65536 in
theorem codes_eq : words1.filter isCode = codes1 := rfl
theorem w_codes : ∀ c ∈ words1.filter isCode, c.before args0 about1 = true := by
  rw [codes_eq]
  intro c hc
  simp only [codes1, List.mem_cons, List.not_mem_nil, or_false] at hc
  rcases hc with rfl | rfl | rfl | rfl | rfl
  · exact w_c0
  · exact w_c1
  · exact w_c2
  · exact w_c3
  · exact w_c4
set_option maxRecDepth 65536 in
theorem w_t1 : (words1.take 24).all (fun c => isCode c || c.before args0 about1) = true := by decide +kernel
set_option maxRecDepth 65536 in
theorem w_t2 : (words1.drop 24).all (fun c => isCode c || c.before args0 about1) = true := by decide +kernel
theorem w_tables : (allAtoms (Jvm.Cond.code x code maxLocals ret :: tables_1)).before args0 about1 = true := by
  rw [allAtoms_all]
  show words1.all (fun c => c.before args0 about1) = true
  refine all_split ?_ w_codes
  rw [← List.take_append_drop 24 words1, List.all_append, w_t1, w_t2]
  rfl
set_option maxRecDepth 65536 in
theorem w_case : (Jvm.Cond.and given_1 narrow_1).before args0 about1 = true := by decide +kernel
theorem w_applies : (headSpec (Jvm.Cond.code x code maxLocals ret :: tables_1) room_1).applies x e0.platform about1 = true :=
  (Spec.applies_iff w_frames).mpr ⟨w_running, w_runnable, w_alone, w_named, w_hears, w_ripe, w_room, w_tables⟩
theorem atStart : AtStart classFile x code maxLocals ret World_1 tables_1 room_1 Calls_1 rest_1 Pre_1 launch0 p0 e0 about1 theMethod args0 below0 :=
  ⟨lists_1, trivial, launch0.admits_env _ _ _, launch0.least_env, fairChoices_fair.cas, fairChoices_fair.clock, w_frames, w_args, w_heap, w_applies, trivial, trivial, w_case⟩
end start1
theorem witness_1 : WitnessClaimed_1 := ⟨start1.p0, start1.e0, start1.about1, start1.theMethod, start1.args0, start1.below0, start1.atStart⟩
end Jvm.Pilot.@@N@@
