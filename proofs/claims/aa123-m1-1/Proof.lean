import JvmDerived
import JvmDerived.Pilot.@@N@@Statement
import JvmDerived.Pilot.@@N@@Code
set_option linter.unusedVariables false
set_option linter.unusedSimpArgs false
namespace Jvm.RoadKit
open Sem ClassFile Op Lib Jvm.Stand Jvm.Free Jvm.LawKit
section New
variable {p : Program} {l : Launch} {e : Env} {R : Room} {s : State} {m : MethodId} {args : Array Value} {below : List Frame} {meth : Method} {c : Code} {T : State} {locs : List Loc} {cells slots : Nat}
theorem retI (X : Stand p l e R s m args below meth c T locs cells slots) (hx : p.tables.exec = Jvm.exec) {pc : Nat} {Ls : Array Slot} {z : Int32} {rest : List Value} (hret : meth.sig.returnType = some .int) (hd : decode c.code pc = .ok (.ireturn, 1)) {fs : List Frame}
    (hl : ∀ (f : JFrame) (acts : List Action), f.method = m → f.locked = none → f.entered = [] → (doReturn e (T.setTop f) acts (some (.int z))).1 = T.setFrames fs) : Steps p.tables e below (T.setTop (mkF m pc Ls (.int z :: rest))) (T.setFrames fs) := by
  have hm' : T.vm.method? m = some meth := X.method'
  have hn : narrow .int (.int z) = .int z := rfl
  show Steps p.tables e below (T.setTop { method := m, pc := pc, locals := Ls, stack := _ :: rest, locked := none }) _
  jvm_step X.here [X.here.top, hx, hd, hm', hret, hn]
  first | (intro acts; rw [hl _ acts rfl rfl rfl]) | rw [hl _ _ rfl rfl rfl]
  exact Steps.refl _
end New
end Jvm.RoadKit
namespace Jvm.Pilot.@@N@@
open Jvm Jvm.ClassFile Sem Op Lib Jvm.Free Jvm.Stand Jvm.LawKit Jvm.RoadKit Bundle Jvm.Pilot.@@N@@.Jvm.D
theorem pd0 : parseMethodDescriptor "(III)Z" = some ⟨[.int, .int, .int], some .boolean⟩ := by decide +kernel
theorem pd1 : parseMethodDescriptor "(I)Z" = some ⟨[.int], some .boolean⟩ := by decide +kernel
theorem d1_0 : decode method_2_code 0 = .ok (.iload_n 1, 1) := by decide +kernel
theorem d1_1 : decode method_2_code 1 = .ok (.iload_n 0, 1) := by decide +kernel
theorem d1_2 : decode method_2_code 2 = .ok (.if_icmp .gt 12, 3) := by decide +kernel
theorem d1_5 : decode method_2_code 5 = .ok (.iload_n 0, 1) := by decide +kernel
theorem d1_6 : decode method_2_code 6 = .ok (.iload_n 2, 1) := by decide +kernel
theorem d1_7 : decode method_2_code 7 = .ok (.if_icmp .gt 7, 3) := by decide +kernel
theorem d1_10 : decode method_2_code 10 = .ok (.iconst 1, 1) := by decide +kernel
theorem d1_11 : decode method_2_code 11 = .ok (.goto 4, 3) := by decide +kernel
theorem d1_14 : decode method_2_code 14 = .ok (.iconst 0, 1) := by decide +kernel
theorem d1_15 : decode method_2_code 15 = .ok (.ireturn, 1) := by decide +kernel
theorem pn_1 : plainName x.cls = true := by first | (simp [plainName, overriddenIn]; done) | decide +kernel
theorem ef_1 (m : MethodId) (p1 : Int32) (p2 : Int32) (p3 : Int32) : entryFrame m #[(.int p1), (.int p2), (.int p3)] 3 = mkF m 0 #[.val (.int p1), .val (.int p2), .val (.int p3)] [] := by first | (simp [entryFrame, mkF, argsToLocals, Value.category]; done) | rfl
def f1 (p1 : Int32) (p2 : Int32) (p3 : Int32) : Int32 := (if p1 < p2 then (0 : Int32) else (if p3 < p1 then (0 : Int32) else (1 : Int32)))
def Q1 (Z : State) (p1 : Int32) (p2 : Int32) (p3 : Int32) (h0 : Heap) (n0 : Nat) (v : Option Value) (h : Heap) (L : List Loc) : Prop := v = some (.int (f1 p1 p2 p3)) ∧ Fr n0 L ∧ h = h0
set_option maxRecDepth 65536 in
set_option maxHeartbeats 40000000 in
theorem rm1 (l : Launch) (Z : State) (a0 : Array Value) (hw : ∀ d ∈ tables_1, d.before a0 Z = true) (ws : List Jvm.Cond) (p1 : Int32) (p2 : Int32) (p3 : Int32) (h0 : Heap) (n0 : Nat)  :
    MetFree l (⟨x.cls, "in", "(III)Z"⟩ : MethodName) (head1 (Jvm.Cond.code (⟨x.cls, "in", "(III)Z"⟩ : MethodName) method_2_code 3 (some .boolean) :: ws) ({ frames := 0, cells := 0, slots := 0, locals := 0 } : Room)) (fun a U => a = #[(.int p1), (.int p2), (.int p3)] ∧ Z.Warmed39 U.vm ∧ U.heap = h0) (fun _ _ _ _ _ => True) (fun _ U o U' => ∃ v L, o = .returned v ∧ Q1 Z p1 p2 p3 h0 n0 v U'.heap L ∧ FrameEnd U o U' L ({ frames := 0, cells := 0, slots := 0, locals := 0 } : Room).cells ({ frames := 0, cells := 0, slots := 0, locals := 0 } : Room).slots) := by
  refine MetFree.of_bodySF (plainFor_of_name pn_1) hisR ?_
  intro p e s m args below meth c s₁ Bd hml0 hP hK
  obtain ⟨rfl, hZ, hh⟩ := hP
  have hx := Bd.exec
  have hby := Bd.bytes
  have hml : c.maxLocals = 3 := hml0
  have hown0 := findClass_of_methodNamed Bd.named
  have hown : s.vm.findClass x.cls = some m.cls := hown0
  have hnm := (name_of_methodNamed Bd.named Bd.method).1
  have X0 : Stand p l e ({ frames := 0, cells := 0, slots := 0, locals := 0 } : Room) s m #[(.int p1), (.int p2), (.int p3)] below meth c s₁ [] 0 0 := Stand.of_body Bd
  have e0 : s₁.heap = h0 := by rw [← hh, Bd.state]; rfl
  have N0 := Fr.nil n0
  have pre0 : ∀ t, Steps p.tables e below (s₁.setTop (mkF m 0 #[.val (.int p1), .val (.int p2), .val (.int p3)] [])) t → Steps p.tables e below (s₁.setTop (entryFrame m #[(.int p1), (.int p2), (.int p3)] 3)) t := fun t k => castTop (ef_1 m p1 p2 p3) k
  refine Classical.byContradiction fun hneg => ?_
  have pre1 : ∀ t, Steps p.tables e below (s₁.setTop (mkF m 2 #[.val (.int p1), .val (.int p2), .val (.int p3)] [(.int p1), (.int p2)])) t → Steps p.tables e below (s₁.setTop (entryFrame m #[(.int p1), (.int p2), (.int p3)] 3)) t := by
    intro t k
    refine pre0 t ?_
    show Steps p.tables e below (s₁.setTop (mkF m 0 #[.val (.int p1), .val (.int p2), .val (.int p3)] [])) _
    refine XS.iloadN X0.here hx rfl (hb hby d1_0) rfl ?_
    show Steps p.tables e below (s₁.setTop (mkF m 1 #[.val (.int p1), .val (.int p2), .val (.int p3)] [(.int p2)])) _
    refine XS.iloadN X0.here hx rfl (hb hby d1_1) rfl ?_
    exact k
  by_cases hc2_2 : p1 < p2
  · refine hneg ?_
    obtain ⟨fs, hr, hrun, hended, hW, hsame⟩ := X0.leave (v := some (.int (0 : Int32))) (fun h => by rw [Bd.returns] at h; cases h)
    refine ⟨_, _, pre1 _ ?_, hrun, hended, _, _, rfl, ?_, ⟨_, rfl⟩, hW, hsame.mono (by decide) (by decide)⟩
    · show Steps p.tables e below (s₁.setTop (mkF m 2 #[.val (.int p1), .val (.int p2), .val (.int p3)] [(.int p1), (.int p2)])) _
      refine XS.icmpYes X0.here hx rfl (pc0 := 2) (pc' := 14) rfl (hb hby d1_2) rfl (tlt hc2_2).2.2.1 (by decide) (by decide) ?_
      show Steps p.tables e below (s₁.setTop (mkF m 14 #[.val (.int p1), .val (.int p2), .val (.int p3)] [])) _
      refine XS.iconst X0.here hx rfl (hb hby d1_14) ?_
      show Steps p.tables e below (s₁.setTop (mkF m 15 #[.val (.int p1), .val (.int p2), .val (.int p3)] [(.int (0 : Int32))])) _
      exact retN X0 hx (t := .boolean) Bd.returns (by simp) (hb hby d1_15) hr
    · show Q1 Z p1 p2 p3 h0 n0 _ s₁.heap _
      rw [e0]
      refine ⟨?_, N0, rfl⟩
      rw [show f1 p1 p2 p3 = (0 : Int32) from (by skip; simp only [f1, if_pos hc2_2])]
  · have pre3 : ∀ t, Steps p.tables e below (s₁.setTop (mkF m 7 #[.val (.int p1), .val (.int p2), .val (.int p3)] [(.int p3), (.int p1)])) t → Steps p.tables e below (s₁.setTop (entryFrame m #[(.int p1), (.int p2), (.int p3)] 3)) t := by
      intro t k
      refine pre1 t ?_
      show Steps p.tables e below (s₁.setTop (mkF m 2 #[.val (.int p1), .val (.int p2), .val (.int p3)] [(.int p1), (.int p2)])) _
      refine XS.icmpNo X0.here hx rfl (hb hby d1_2) rfl (flt hc2_2).2.2.1 ?_
      show Steps p.tables e below (s₁.setTop (mkF m 5 #[.val (.int p1), .val (.int p2), .val (.int p3)] [])) _
      refine XS.iloadN X0.here hx rfl (hb hby d1_5) rfl ?_
      show Steps p.tables e below (s₁.setTop (mkF m 6 #[.val (.int p1), .val (.int p2), .val (.int p3)] [(.int p1)])) _
      refine XS.iloadN X0.here hx rfl (hb hby d1_6) rfl ?_
      exact k
    by_cases hc7_4 : p3 < p1
    · refine hneg ?_
      obtain ⟨fs, hr, hrun, hended, hW, hsame⟩ := X0.leave (v := some (.int (0 : Int32))) (fun h => by rw [Bd.returns] at h; cases h)
      refine ⟨_, _, pre3 _ ?_, hrun, hended, _, _, rfl, ?_, ⟨_, rfl⟩, hW, hsame.mono (by decide) (by decide)⟩
      · show Steps p.tables e below (s₁.setTop (mkF m 7 #[.val (.int p1), .val (.int p2), .val (.int p3)] [(.int p3), (.int p1)])) _
        refine XS.icmpYes X0.here hx rfl (pc0 := 7) (pc' := 14) rfl (hb hby d1_7) rfl (tlt hc7_4).2.2.1 (by decide) (by decide) ?_
        show Steps p.tables e below (s₁.setTop (mkF m 14 #[.val (.int p1), .val (.int p2), .val (.int p3)] [])) _
        refine XS.iconst X0.here hx rfl (hb hby d1_14) ?_
        show Steps p.tables e below (s₁.setTop (mkF m 15 #[.val (.int p1), .val (.int p2), .val (.int p3)] [(.int (0 : Int32))])) _
        exact retN X0 hx (t := .boolean) Bd.returns (by simp) (hb hby d1_15) hr
      · show Q1 Z p1 p2 p3 h0 n0 _ s₁.heap _
        rw [e0]
        refine ⟨?_, N0, rfl⟩
        rw [show f1 p1 p2 p3 = (0 : Int32) from (by skip; simp only [f1, if_neg hc2_2, if_pos hc7_4])]
    · refine hneg ?_
      obtain ⟨fs, hr, hrun, hended, hW, hsame⟩ := X0.leave (v := some (.int (1 : Int32))) (fun h => by rw [Bd.returns] at h; cases h)
      refine ⟨_, _, pre3 _ ?_, hrun, hended, _, _, rfl, ?_, ⟨_, rfl⟩, hW, hsame.mono (by decide) (by decide)⟩
      · show Steps p.tables e below (s₁.setTop (mkF m 7 #[.val (.int p1), .val (.int p2), .val (.int p3)] [(.int p3), (.int p1)])) _
        refine XS.icmpNo X0.here hx rfl (hb hby d1_7) rfl (flt hc7_4).2.2.1 ?_
        show Steps p.tables e below (s₁.setTop (mkF m 10 #[.val (.int p1), .val (.int p2), .val (.int p3)] [])) _
        refine XS.iconst X0.here hx rfl (hb hby d1_10) ?_
        show Steps p.tables e below (s₁.setTop (mkF m 11 #[.val (.int p1), .val (.int p2), .val (.int p3)] [(.int (1 : Int32))])) _
        refine XS.goto X0.here hx rfl (pc0 := 11) (pc' := 15) rfl (hb hby d1_11) (by decide) (by decide) ?_
        show Steps p.tables e below (s₁.setTop (mkF m 15 #[.val (.int p1), .val (.int p2), .val (.int p3)] [(.int (1 : Int32))])) _
        exact retN X0 hx (t := .boolean) Bd.returns (by simp) (hb hby d1_15) hr
      · show Q1 Z p1 p2 p3 h0 n0 _ s₁.heap _
        rw [e0]
        refine ⟨?_, N0, rfl⟩
        rw [show f1 p1 p2 p3 = (1 : Int32) from (by skip; simp only [f1, if_neg hc2_2, if_neg hc7_4])]

theorem d2_0 : decode prog_150_method_16_code 0 = .ok (.iload_n 0, 1) := by decide +kernel
theorem d2_1 : decode prog_150_method_16_code 1 = .ok (.bipush 65, 2) := by decide +kernel
theorem d2_3 : decode prog_150_method_16_code 3 = .ok (.if_icmp .lt 9, 3) := by decide +kernel
theorem d2_6 : decode prog_150_method_16_code 6 = .ok (.iload_n 0, 1) := by decide +kernel
theorem d2_7 : decode prog_150_method_16_code 7 = .ok (.bipush 90, 2) := by decide +kernel
theorem d2_9 : decode prog_150_method_16_code 9 = .ok (.if_icmp .le 189, 3) := by decide +kernel
theorem d2_12 : decode prog_150_method_16_code 12 = .ok (.iload_n 0, 1) := by decide +kernel
theorem d2_13 : decode prog_150_method_16_code 13 = .ok (.bipush 95, 2) := by decide +kernel
theorem d2_15 : decode prog_150_method_16_code 15 = .ok (.if_icmp .eq 183, 3) := by decide +kernel
theorem d2_18 : decode prog_150_method_16_code 18 = .ok (.iload_n 0, 1) := by decide +kernel
theorem d2_19 : decode prog_150_method_16_code 19 = .ok (.bipush 97, 2) := by decide +kernel
theorem d2_21 : decode prog_150_method_16_code 21 = .ok (.if_icmp .lt 9, 3) := by decide +kernel
theorem d2_24 : decode prog_150_method_16_code 24 = .ok (.iload_n 0, 1) := by decide +kernel
theorem d2_25 : decode prog_150_method_16_code 25 = .ok (.bipush 122, 2) := by decide +kernel
theorem d2_27 : decode prog_150_method_16_code 27 = .ok (.if_icmp .le 171, 3) := by decide +kernel
theorem d2_30 : decode prog_150_method_16_code 30 = .ok (.iload_n 0, 1) := by decide +kernel
theorem d2_31 : decode prog_150_method_16_code 31 = .ok (.sipush 192, 3) := by decide +kernel
theorem d2_34 : decode prog_150_method_16_code 34 = .ok (.if_icmp .lt 10, 3) := by decide +kernel
theorem d2_37 : decode prog_150_method_16_code 37 = .ok (.iload_n 0, 1) := by decide +kernel
theorem d2_38 : decode prog_150_method_16_code 38 = .ok (.sipush 214, 3) := by decide +kernel
theorem d2_41 : decode prog_150_method_16_code 41 = .ok (.if_icmp .le 157, 3) := by decide +kernel
theorem d2_44 : decode prog_150_method_16_code 44 = .ok (.iload_n 0, 1) := by decide +kernel
theorem d2_45 : decode prog_150_method_16_code 45 = .ok (.sipush 216, 3) := by decide +kernel
theorem d2_48 : decode prog_150_method_16_code 48 = .ok (.if_icmp .lt 10, 3) := by decide +kernel
theorem d2_51 : decode prog_150_method_16_code 51 = .ok (.iload_n 0, 1) := by decide +kernel
theorem d2_52 : decode prog_150_method_16_code 52 = .ok (.sipush 246, 3) := by decide +kernel
theorem d2_55 : decode prog_150_method_16_code 55 = .ok (.if_icmp .le 143, 3) := by decide +kernel
theorem d2_58 : decode prog_150_method_16_code 58 = .ok (.iload_n 0, 1) := by decide +kernel
theorem d2_59 : decode prog_150_method_16_code 59 = .ok (.sipush 248, 3) := by decide +kernel
theorem d2_62 : decode prog_150_method_16_code 62 = .ok (.if_icmp .lt 10, 3) := by decide +kernel
theorem d2_65 : decode prog_150_method_16_code 65 = .ok (.iload_n 0, 1) := by decide +kernel
theorem d2_66 : decode prog_150_method_16_code 66 = .ok (.sipush 767, 3) := by decide +kernel
theorem d2_69 : decode prog_150_method_16_code 69 = .ok (.if_icmp .le 129, 3) := by decide +kernel
theorem d2_72 : decode prog_150_method_16_code 72 = .ok (.iload_n 0, 1) := by decide +kernel
theorem d2_73 : decode prog_150_method_16_code 73 = .ok (.sipush 880, 3) := by decide +kernel
theorem d2_76 : decode prog_150_method_16_code 76 = .ok (.if_icmp .lt 10, 3) := by decide +kernel
theorem d2_79 : decode prog_150_method_16_code 79 = .ok (.iload_n 0, 1) := by decide +kernel
theorem d2_80 : decode prog_150_method_16_code 80 = .ok (.sipush 893, 3) := by decide +kernel
theorem d2_83 : decode prog_150_method_16_code 83 = .ok (.if_icmp .le 115, 3) := by decide +kernel
theorem d2_86 : decode prog_150_method_16_code 86 = .ok (.iload_n 0, 1) := by decide +kernel
theorem d2_87 : decode prog_150_method_16_code 87 = .ok (.sipush 895, 3) := by decide +kernel
theorem d2_90 : decode prog_150_method_16_code 90 = .ok (.if_icmp .lt 10, 3) := by decide +kernel
theorem d2_93 : decode prog_150_method_16_code 93 = .ok (.iload_n 0, 1) := by decide +kernel
theorem d2_94 : decode prog_150_method_16_code 94 = .ok (.sipush 8191, 3) := by decide +kernel
theorem d2_97 : decode prog_150_method_16_code 97 = .ok (.if_icmp .le 101, 3) := by decide +kernel
theorem d2_100 : decode prog_150_method_16_code 100 = .ok (.iload_n 0, 1) := by decide +kernel
theorem d2_101 : decode prog_150_method_16_code 101 = .ok (.sipush 8204, 3) := by decide +kernel
theorem d2_104 : decode prog_150_method_16_code 104 = .ok (.if_icmp .lt 10, 3) := by decide +kernel
theorem d2_107 : decode prog_150_method_16_code 107 = .ok (.iload_n 0, 1) := by decide +kernel
theorem d2_108 : decode prog_150_method_16_code 108 = .ok (.sipush 8205, 3) := by decide +kernel
theorem d2_111 : decode prog_150_method_16_code 111 = .ok (.if_icmp .le 87, 3) := by decide +kernel
theorem d2_114 : decode prog_150_method_16_code 114 = .ok (.iload_n 0, 1) := by decide +kernel
theorem d2_115 : decode prog_150_method_16_code 115 = .ok (.sipush 8304, 3) := by decide +kernel
theorem d2_118 : decode prog_150_method_16_code 118 = .ok (.if_icmp .lt 10, 3) := by decide +kernel
theorem d2_121 : decode prog_150_method_16_code 121 = .ok (.iload_n 0, 1) := by decide +kernel
theorem d2_122 : decode prog_150_method_16_code 122 = .ok (.sipush 8591, 3) := by decide +kernel
theorem d2_125 : decode prog_150_method_16_code 125 = .ok (.if_icmp .le 73, 3) := by decide +kernel
theorem d2_128 : decode prog_150_method_16_code 128 = .ok (.iload_n 0, 1) := by decide +kernel
theorem d2_129 : decode prog_150_method_16_code 129 = .ok (.sipush 11264, 3) := by decide +kernel
theorem d2_132 : decode prog_150_method_16_code 132 = .ok (.if_icmp .lt 10, 3) := by decide +kernel
theorem d2_135 : decode prog_150_method_16_code 135 = .ok (.iload_n 0, 1) := by decide +kernel
theorem d2_136 : decode prog_150_method_16_code 136 = .ok (.sipush 12271, 3) := by decide +kernel
theorem d2_139 : decode prog_150_method_16_code 139 = .ok (.if_icmp .le 59, 3) := by decide +kernel
theorem d2_142 : decode prog_150_method_16_code 142 = .ok (.iload_n 0, 1) := by decide +kernel
theorem d2_143 : decode prog_150_method_16_code 143 = .ok (.sipush 12289, 3) := by decide +kernel
theorem d2_146 : decode prog_150_method_16_code 146 = .ok (.if_icmp .lt 10, 3) := by decide +kernel
theorem d2_149 : decode prog_150_method_16_code 149 = .ok (.iload_n 0, 1) := by decide +kernel
theorem d2_150 : decode prog_150_method_16_code 150 = .ok (.ldc_w 264, 3) := by decide +kernel
theorem d2_153 : decode prog_150_method_16_code 153 = .ok (.if_icmp .le 45, 3) := by decide +kernel
theorem d2_156 : decode prog_150_method_16_code 156 = .ok (.iload_n 0, 1) := by decide +kernel
theorem d2_157 : decode prog_150_method_16_code 157 = .ok (.ldc_w 265, 3) := by decide +kernel
theorem d2_160 : decode prog_150_method_16_code 160 = .ok (.if_icmp .lt 10, 3) := by decide +kernel
theorem d2_163 : decode prog_150_method_16_code 163 = .ok (.iload_n 0, 1) := by decide +kernel
theorem d2_164 : decode prog_150_method_16_code 164 = .ok (.ldc_w 266, 3) := by decide +kernel
theorem d2_167 : decode prog_150_method_16_code 167 = .ok (.if_icmp .le 31, 3) := by decide +kernel
theorem d2_170 : decode prog_150_method_16_code 170 = .ok (.iload_n 0, 1) := by decide +kernel
theorem d2_171 : decode prog_150_method_16_code 171 = .ok (.ldc_w 267, 3) := by decide +kernel
theorem d2_174 : decode prog_150_method_16_code 174 = .ok (.if_icmp .lt 10, 3) := by decide +kernel
theorem d2_177 : decode prog_150_method_16_code 177 = .ok (.iload_n 0, 1) := by decide +kernel
theorem d2_178 : decode prog_150_method_16_code 178 = .ok (.ldc_w 268, 3) := by decide +kernel
theorem d2_181 : decode prog_150_method_16_code 181 = .ok (.if_icmp .le 17, 3) := by decide +kernel
theorem d2_184 : decode prog_150_method_16_code 184 = .ok (.iload_n 0, 1) := by decide +kernel
theorem d2_185 : decode prog_150_method_16_code 185 = .ok (.ldc_w 269, 3) := by decide +kernel
theorem d2_188 : decode prog_150_method_16_code 188 = .ok (.if_icmp .lt 14, 3) := by decide +kernel
theorem d2_191 : decode prog_150_method_16_code 191 = .ok (.iload_n 0, 1) := by decide +kernel
theorem d2_192 : decode prog_150_method_16_code 192 = .ok (.ldc_w 270, 3) := by decide +kernel
theorem d2_195 : decode prog_150_method_16_code 195 = .ok (.if_icmp .gt 7, 3) := by decide +kernel
theorem d2_198 : decode prog_150_method_16_code 198 = .ok (.iconst 1, 1) := by decide +kernel
theorem d2_199 : decode prog_150_method_16_code 199 = .ok (.goto 4, 3) := by decide +kernel
theorem d2_202 : decode prog_150_method_16_code 202 = .ok (.iconst 0, 1) := by decide +kernel
theorem d2_203 : decode prog_150_method_16_code 203 = .ok (.ireturn, 1) := by decide +kernel
theorem pn_2 : plainName site_25.cls = true := by first | (simp [plainName, overriddenIn]; done) | decide +kernel
theorem ef_2 (m : MethodId) (p1 : Int32) : entryFrame m #[(.int p1)] 1 = mkF m 0 #[.val (.int p1)] [] := by first | (simp [entryFrame, mkF, argsToLocals, Value.category]; done) | rfl
def f2_184 (p1 : Int32) : Int32 := (if p1 < (65536 : Int32) then (0 : Int32) else (if (983039 : Int32) < p1 then (0 : Int32) else (1 : Int32)))
def f2_170 (p1 : Int32) : Int32 := (if p1 < (65008 : Int32) then (f2_184 p1) else (if (65533 : Int32) < p1 then (f2_184 p1) else (1 : Int32)))
def f2_156 (p1 : Int32) : Int32 := (if p1 < (63744 : Int32) then (f2_170 p1) else (if (64975 : Int32) < p1 then (f2_170 p1) else (1 : Int32)))
def f2_142 (p1 : Int32) : Int32 := (if p1 < (12289 : Int32) then (f2_156 p1) else (if (55295 : Int32) < p1 then (f2_156 p1) else (1 : Int32)))
def f2_128 (p1 : Int32) : Int32 := (if p1 < (11264 : Int32) then (f2_142 p1) else (if (12271 : Int32) < p1 then (f2_142 p1) else (1 : Int32)))
def f2_114 (p1 : Int32) : Int32 := (if p1 < (8304 : Int32) then (f2_128 p1) else (if (8591 : Int32) < p1 then (f2_128 p1) else (1 : Int32)))
def f2_100 (p1 : Int32) : Int32 := (if p1 < (8204 : Int32) then (f2_114 p1) else (if (8205 : Int32) < p1 then (f2_114 p1) else (1 : Int32)))
def f2_86 (p1 : Int32) : Int32 := (if p1 < (895 : Int32) then (f2_100 p1) else (if (8191 : Int32) < p1 then (f2_100 p1) else (1 : Int32)))
def f2_72 (p1 : Int32) : Int32 := (if p1 < (880 : Int32) then (f2_86 p1) else (if (893 : Int32) < p1 then (f2_86 p1) else (1 : Int32)))
def f2_58 (p1 : Int32) : Int32 := (if p1 < (248 : Int32) then (f2_72 p1) else (if (767 : Int32) < p1 then (f2_72 p1) else (1 : Int32)))
def f2_44 (p1 : Int32) : Int32 := (if p1 < (216 : Int32) then (f2_58 p1) else (if (246 : Int32) < p1 then (f2_58 p1) else (1 : Int32)))
def f2_30 (p1 : Int32) : Int32 := (if p1 < (192 : Int32) then (f2_44 p1) else (if (214 : Int32) < p1 then (f2_44 p1) else (1 : Int32)))
def f2_18 (p1 : Int32) : Int32 := (if p1 < (97 : Int32) then (f2_30 p1) else (if (122 : Int32) < p1 then (f2_30 p1) else (1 : Int32)))
def f2_12 (p1 : Int32) : Int32 := (if p1 = (95 : Int32) then (1 : Int32) else (f2_18 p1))
def f2 (p1 : Int32) : Int32 := (if p1 < (65 : Int32) then (f2_12 p1) else (if (90 : Int32) < p1 then (f2_12 p1) else (1 : Int32)))
def Q2 (Z : State) (p1 : Int32) (h0 : Heap) (n0 : Nat) (v : Option Value) (h : Heap) (L : List Loc) : Prop := v = some (.int (f2 p1)) ∧ Fr n0 L ∧ h = h0
set_option maxRecDepth 65536 in
set_option maxHeartbeats 40000000 in
theorem rm2 (l : Launch) (Z : State) (a0 : Array Value) (hw : ∀ d ∈ tables_1, d.before a0 Z = true) (ws : List Jvm.Cond) (p1 : Int32) (h0 : Heap) (n0 : Nat)  :
    MetFree l (⟨site_25.cls, "isNameStart", "(I)Z"⟩ : MethodName) (head1 (Jvm.Cond.code (⟨site_25.cls, "isNameStart", "(I)Z"⟩ : MethodName) prog_150_method_16_code 1 (some .boolean) :: ws) ({ frames := 0, cells := 0, slots := 0, locals := 0 } : Room)) (fun a U => a = #[(.int p1)] ∧ Z.Warmed39 U.vm ∧ U.heap = h0) (fun _ _ _ _ _ => True) (fun _ U o U' => ∃ v L, o = .returned v ∧ Q2 Z p1 h0 n0 v U'.heap L ∧ FrameEnd U o U' L ({ frames := 0, cells := 0, slots := 0, locals := 0 } : Room).cells ({ frames := 0, cells := 0, slots := 0, locals := 0 } : Room).slots) := by
  refine MetFree.of_bodySF (plainFor_of_name pn_2) hisR ?_
  intro p e s m args below meth c s₁ Bd hml0 hP hK
  obtain ⟨rfl, hZ, hh⟩ := hP
  have hx := Bd.exec
  have hby := Bd.bytes
  have hml : c.maxLocals = 1 := hml0
  have hown0 := findClass_of_methodNamed Bd.named
  have hown : s.vm.findClass site_25.cls = some m.cls := hown0
  have hnm := (name_of_methodNamed Bd.named Bd.method).1
  have X0 : Stand p l e ({ frames := 0, cells := 0, slots := 0, locals := 0 } : Room) s m #[(.int p1)] below meth c s₁ [] 0 0 := Stand.of_body Bd
  have e0 : s₁.heap = h0 := by rw [← hh, Bd.state]; rfl
  have N0 := Fr.nil n0
  have pre0 : ∀ t, Steps p.tables e below (s₁.setTop (mkF m 0 #[.val (.int p1)] [])) t → Steps p.tables e below (s₁.setTop (entryFrame m #[(.int p1)] 1)) t := fun t k => castTop (ef_2 m p1) k
  refine Classical.byContradiction fun hneg => ?_
  have J184 : (∀ t, Steps p.tables e below (s₁.setTop (mkF m 184 #[.val (.int p1)] [])) t → Steps p.tables e below (s₁.setTop (entryFrame m #[(.int p1)] 1)) t) → f2 p1 = f2_184 p1 → False := by
    intro  pre hv
    have pre1 : ∀ t, Steps p.tables e below (s₁.setTop (mkF m 188 #[.val (.int p1)] [(.int (65536 : Int32)), (.int p1)])) t → Steps p.tables e below (s₁.setTop (entryFrame m #[(.int p1)] 1)) t := by
      intro t k
      refine pre t ?_
      show Steps p.tables e below (s₁.setTop (mkF m 184 #[.val (.int p1)] [])) _
      refine XS.iloadN X0.here hx rfl (hb hby d2_184) rfl ?_
      show Steps p.tables e below (s₁.setTop (mkF m 185 #[.val (.int p1)] [(.int p1)])) _
      refine X0.ldcwInt hx hown (mvT hZ (hw _ (List.mem_of_getElem? (i := 11) rfl))) (g := (mkF m 185 #[.val (.int p1)] [(.int p1)])) rfl (hb hby d2_185) _ ?_
      exact k
    by_cases hc188_2 : p1 < (65536 : Int32)
    · refine hneg ?_
      obtain ⟨fs, hr, hrun, hended, hW, hsame⟩ := X0.leave (v := some (.int (0 : Int32))) (fun h => by rw [Bd.returns] at h; cases h)
      refine ⟨_, _, pre1 _ ?_, hrun, hended, _, _, rfl, ?_, ⟨_, rfl⟩, hW, hsame.mono (by decide) (by decide)⟩
      · show Steps p.tables e below (s₁.setTop (mkF m 188 #[.val (.int p1)] [(.int (65536 : Int32)), (.int p1)])) _
        refine XS.icmpYes X0.here hx rfl (pc0 := 188) (pc' := 202) rfl (hb hby d2_188) rfl (tlt hc188_2).1 (by decide) (by decide) ?_
        show Steps p.tables e below (s₁.setTop (mkF m 202 #[.val (.int p1)] [])) _
        refine XS.iconst X0.here hx rfl (hb hby d2_202) ?_
        show Steps p.tables e below (s₁.setTop (mkF m 203 #[.val (.int p1)] [(.int (0 : Int32))])) _
        exact retN X0 hx (t := .boolean) Bd.returns (by simp) (hb hby d2_203) hr
      · show Q2 Z p1 h0 n0 _ s₁.heap _
        rw [e0]
        refine ⟨?_, N0, rfl⟩
        rw [show f2 p1 = (0 : Int32) from (by rw [hv]; simp only [f2_184, if_pos hc188_2])]
    · have pre3 : ∀ t, Steps p.tables e below (s₁.setTop (mkF m 195 #[.val (.int p1)] [(.int (983039 : Int32)), (.int p1)])) t → Steps p.tables e below (s₁.setTop (entryFrame m #[(.int p1)] 1)) t := by
        intro t k
        refine pre1 t ?_
        show Steps p.tables e below (s₁.setTop (mkF m 188 #[.val (.int p1)] [(.int (65536 : Int32)), (.int p1)])) _
        refine XS.icmpNo X0.here hx rfl (hb hby d2_188) rfl (flt hc188_2).1 ?_
        show Steps p.tables e below (s₁.setTop (mkF m 191 #[.val (.int p1)] [])) _
        refine XS.iloadN X0.here hx rfl (hb hby d2_191) rfl ?_
        show Steps p.tables e below (s₁.setTop (mkF m 192 #[.val (.int p1)] [(.int p1)])) _
        refine X0.ldcwInt hx hown (mvT hZ (hw _ (List.mem_of_getElem? (i := 24) rfl))) (g := (mkF m 192 #[.val (.int p1)] [(.int p1)])) rfl (hb hby d2_192) _ ?_
        exact k
      by_cases hc195_4 : (983039 : Int32) < p1
      · refine hneg ?_
        obtain ⟨fs, hr, hrun, hended, hW, hsame⟩ := X0.leave (v := some (.int (0 : Int32))) (fun h => by rw [Bd.returns] at h; cases h)
        refine ⟨_, _, pre3 _ ?_, hrun, hended, _, _, rfl, ?_, ⟨_, rfl⟩, hW, hsame.mono (by decide) (by decide)⟩
        · show Steps p.tables e below (s₁.setTop (mkF m 195 #[.val (.int p1)] [(.int (983039 : Int32)), (.int p1)])) _
          refine XS.icmpYes X0.here hx rfl (pc0 := 195) (pc' := 202) rfl (hb hby d2_195) rfl (tlt hc195_4).2.2.1 (by decide) (by decide) ?_
          show Steps p.tables e below (s₁.setTop (mkF m 202 #[.val (.int p1)] [])) _
          refine XS.iconst X0.here hx rfl (hb hby d2_202) ?_
          show Steps p.tables e below (s₁.setTop (mkF m 203 #[.val (.int p1)] [(.int (0 : Int32))])) _
          exact retN X0 hx (t := .boolean) Bd.returns (by simp) (hb hby d2_203) hr
        · show Q2 Z p1 h0 n0 _ s₁.heap _
          rw [e0]
          refine ⟨?_, N0, rfl⟩
          rw [show f2 p1 = (0 : Int32) from (by rw [hv]; simp only [f2_184, if_neg hc188_2, if_pos hc195_4])]
      · refine hneg ?_
        obtain ⟨fs, hr, hrun, hended, hW, hsame⟩ := X0.leave (v := some (.int (1 : Int32))) (fun h => by rw [Bd.returns] at h; cases h)
        refine ⟨_, _, pre3 _ ?_, hrun, hended, _, _, rfl, ?_, ⟨_, rfl⟩, hW, hsame.mono (by decide) (by decide)⟩
        · show Steps p.tables e below (s₁.setTop (mkF m 195 #[.val (.int p1)] [(.int (983039 : Int32)), (.int p1)])) _
          refine XS.icmpNo X0.here hx rfl (hb hby d2_195) rfl (flt hc195_4).2.2.1 ?_
          show Steps p.tables e below (s₁.setTop (mkF m 198 #[.val (.int p1)] [])) _
          refine XS.iconst X0.here hx rfl (hb hby d2_198) ?_
          show Steps p.tables e below (s₁.setTop (mkF m 199 #[.val (.int p1)] [(.int (1 : Int32))])) _
          refine XS.goto X0.here hx rfl (pc0 := 199) (pc' := 203) rfl (hb hby d2_199) (by decide) (by decide) ?_
          show Steps p.tables e below (s₁.setTop (mkF m 203 #[.val (.int p1)] [(.int (1 : Int32))])) _
          exact retN X0 hx (t := .boolean) Bd.returns (by simp) (hb hby d2_203) hr
        · show Q2 Z p1 h0 n0 _ s₁.heap _
          rw [e0]
          refine ⟨?_, N0, rfl⟩
          rw [show f2 p1 = (1 : Int32) from (by rw [hv]; simp only [f2_184, if_neg hc188_2, if_neg hc195_4])]
  have J170 : (∀ t, Steps p.tables e below (s₁.setTop (mkF m 170 #[.val (.int p1)] [])) t → Steps p.tables e below (s₁.setTop (entryFrame m #[(.int p1)] 1)) t) → f2 p1 = f2_170 p1 → False := by
    intro  pre hv
    have pre5 : ∀ t, Steps p.tables e below (s₁.setTop (mkF m 174 #[.val (.int p1)] [(.int (65008 : Int32)), (.int p1)])) t → Steps p.tables e below (s₁.setTop (entryFrame m #[(.int p1)] 1)) t := by
      intro t k
      refine pre t ?_
      show Steps p.tables e below (s₁.setTop (mkF m 170 #[.val (.int p1)] [])) _
      refine XS.iloadN X0.here hx rfl (hb hby d2_170) rfl ?_
      show Steps p.tables e below (s₁.setTop (mkF m 171 #[.val (.int p1)] [(.int p1)])) _
      refine X0.ldcwInt hx hown (mvT hZ (hw _ (List.mem_of_getElem? (i := 10) rfl))) (g := (mkF m 171 #[.val (.int p1)] [(.int p1)])) rfl (hb hby d2_171) _ ?_
      exact k
    by_cases hc174_6 : p1 < (65008 : Int32)
    · have pre7 : ∀ t, Steps p.tables e below (s₁.setTop (mkF m 184 #[.val (.int p1)] [])) t → Steps p.tables e below (s₁.setTop (entryFrame m #[(.int p1)] 1)) t := by
        intro t k
        refine pre5 t ?_
        show Steps p.tables e below (s₁.setTop (mkF m 174 #[.val (.int p1)] [(.int (65008 : Int32)), (.int p1)])) _
        refine XS.icmpYes X0.here hx rfl (pc0 := 174) (pc' := 184) rfl (hb hby d2_174) rfl (tlt hc174_6).1 (by decide) (by decide) ?_
        exact k
      exact J184  pre7 (by rw [hv]; simp only [f2_170, if_pos hc174_6])
    · have pre8 : ∀ t, Steps p.tables e below (s₁.setTop (mkF m 181 #[.val (.int p1)] [(.int (65533 : Int32)), (.int p1)])) t → Steps p.tables e below (s₁.setTop (entryFrame m #[(.int p1)] 1)) t := by
        intro t k
        refine pre5 t ?_
        show Steps p.tables e below (s₁.setTop (mkF m 174 #[.val (.int p1)] [(.int (65008 : Int32)), (.int p1)])) _
        refine XS.icmpNo X0.here hx rfl (hb hby d2_174) rfl (flt hc174_6).1 ?_
        show Steps p.tables e below (s₁.setTop (mkF m 177 #[.val (.int p1)] [])) _
        refine XS.iloadN X0.here hx rfl (hb hby d2_177) rfl ?_
        show Steps p.tables e below (s₁.setTop (mkF m 178 #[.val (.int p1)] [(.int p1)])) _
        refine X0.ldcwInt hx hown (mvT hZ (hw _ (List.mem_of_getElem? (i := 23) rfl))) (g := (mkF m 178 #[.val (.int p1)] [(.int p1)])) rfl (hb hby d2_178) _ ?_
        exact k
      by_cases hc181_9 : (65533 : Int32) < p1
      · have pre10 : ∀ t, Steps p.tables e below (s₁.setTop (mkF m 184 #[.val (.int p1)] [])) t → Steps p.tables e below (s₁.setTop (entryFrame m #[(.int p1)] 1)) t := by
          intro t k
          refine pre8 t ?_
          show Steps p.tables e below (s₁.setTop (mkF m 181 #[.val (.int p1)] [(.int (65533 : Int32)), (.int p1)])) _
          refine XS.icmpNo X0.here hx rfl (hb hby d2_181) rfl (tlt hc181_9).2.2.2 ?_
          exact k
        exact J184  pre10 (by rw [hv]; simp only [f2_170, if_neg hc174_6, if_pos hc181_9])
      · refine hneg ?_
        obtain ⟨fs, hr, hrun, hended, hW, hsame⟩ := X0.leave (v := some (.int (1 : Int32))) (fun h => by rw [Bd.returns] at h; cases h)
        refine ⟨_, _, pre8 _ ?_, hrun, hended, _, _, rfl, ?_, ⟨_, rfl⟩, hW, hsame.mono (by decide) (by decide)⟩
        · show Steps p.tables e below (s₁.setTop (mkF m 181 #[.val (.int p1)] [(.int (65533 : Int32)), (.int p1)])) _
          refine XS.icmpYes X0.here hx rfl (pc0 := 181) (pc' := 198) rfl (hb hby d2_181) rfl (flt hc181_9).2.2.2 (by decide) (by decide) ?_
          show Steps p.tables e below (s₁.setTop (mkF m 198 #[.val (.int p1)] [])) _
          refine XS.iconst X0.here hx rfl (hb hby d2_198) ?_
          show Steps p.tables e below (s₁.setTop (mkF m 199 #[.val (.int p1)] [(.int (1 : Int32))])) _
          refine XS.goto X0.here hx rfl (pc0 := 199) (pc' := 203) rfl (hb hby d2_199) (by decide) (by decide) ?_
          show Steps p.tables e below (s₁.setTop (mkF m 203 #[.val (.int p1)] [(.int (1 : Int32))])) _
          exact retN X0 hx (t := .boolean) Bd.returns (by simp) (hb hby d2_203) hr
        · show Q2 Z p1 h0 n0 _ s₁.heap _
          rw [e0]
          refine ⟨?_, N0, rfl⟩
          rw [show f2 p1 = (1 : Int32) from (by rw [hv]; simp only [f2_170, if_neg hc174_6, if_neg hc181_9])]
  have J156 : (∀ t, Steps p.tables e below (s₁.setTop (mkF m 156 #[.val (.int p1)] [])) t → Steps p.tables e below (s₁.setTop (entryFrame m #[(.int p1)] 1)) t) → f2 p1 = f2_156 p1 → False := by
    intro  pre hv
    have pre11 : ∀ t, Steps p.tables e below (s₁.setTop (mkF m 160 #[.val (.int p1)] [(.int (63744 : Int32)), (.int p1)])) t → Steps p.tables e below (s₁.setTop (entryFrame m #[(.int p1)] 1)) t := by
      intro t k
      refine pre t ?_
      show Steps p.tables e below (s₁.setTop (mkF m 156 #[.val (.int p1)] [])) _
      refine XS.iloadN X0.here hx rfl (hb hby d2_156) rfl ?_
      show Steps p.tables e below (s₁.setTop (mkF m 157 #[.val (.int p1)] [(.int p1)])) _
      refine X0.ldcwInt hx hown (mvT hZ (hw _ (List.mem_of_getElem? (i := 9) rfl))) (g := (mkF m 157 #[.val (.int p1)] [(.int p1)])) rfl (hb hby d2_157) _ ?_
      exact k
    by_cases hc160_12 : p1 < (63744 : Int32)
    · have pre13 : ∀ t, Steps p.tables e below (s₁.setTop (mkF m 170 #[.val (.int p1)] [])) t → Steps p.tables e below (s₁.setTop (entryFrame m #[(.int p1)] 1)) t := by
        intro t k
        refine pre11 t ?_
        show Steps p.tables e below (s₁.setTop (mkF m 160 #[.val (.int p1)] [(.int (63744 : Int32)), (.int p1)])) _
        refine XS.icmpYes X0.here hx rfl (pc0 := 160) (pc' := 170) rfl (hb hby d2_160) rfl (tlt hc160_12).1 (by decide) (by decide) ?_
        exact k
      exact J170  pre13 (by rw [hv]; simp only [f2_156, if_pos hc160_12])
    · have pre14 : ∀ t, Steps p.tables e below (s₁.setTop (mkF m 167 #[.val (.int p1)] [(.int (64975 : Int32)), (.int p1)])) t → Steps p.tables e below (s₁.setTop (entryFrame m #[(.int p1)] 1)) t := by
        intro t k
        refine pre11 t ?_
        show Steps p.tables e below (s₁.setTop (mkF m 160 #[.val (.int p1)] [(.int (63744 : Int32)), (.int p1)])) _
        refine XS.icmpNo X0.here hx rfl (hb hby d2_160) rfl (flt hc160_12).1 ?_
        show Steps p.tables e below (s₁.setTop (mkF m 163 #[.val (.int p1)] [])) _
        refine XS.iloadN X0.here hx rfl (hb hby d2_163) rfl ?_
        show Steps p.tables e below (s₁.setTop (mkF m 164 #[.val (.int p1)] [(.int p1)])) _
        refine X0.ldcwInt hx hown (mvT hZ (hw _ (List.mem_of_getElem? (i := 22) rfl))) (g := (mkF m 164 #[.val (.int p1)] [(.int p1)])) rfl (hb hby d2_164) _ ?_
        exact k
      by_cases hc167_15 : (64975 : Int32) < p1
      · have pre16 : ∀ t, Steps p.tables e below (s₁.setTop (mkF m 170 #[.val (.int p1)] [])) t → Steps p.tables e below (s₁.setTop (entryFrame m #[(.int p1)] 1)) t := by
          intro t k
          refine pre14 t ?_
          show Steps p.tables e below (s₁.setTop (mkF m 167 #[.val (.int p1)] [(.int (64975 : Int32)), (.int p1)])) _
          refine XS.icmpNo X0.here hx rfl (hb hby d2_167) rfl (tlt hc167_15).2.2.2 ?_
          exact k
        exact J170  pre16 (by rw [hv]; simp only [f2_156, if_neg hc160_12, if_pos hc167_15])
      · refine hneg ?_
        obtain ⟨fs, hr, hrun, hended, hW, hsame⟩ := X0.leave (v := some (.int (1 : Int32))) (fun h => by rw [Bd.returns] at h; cases h)
        refine ⟨_, _, pre14 _ ?_, hrun, hended, _, _, rfl, ?_, ⟨_, rfl⟩, hW, hsame.mono (by decide) (by decide)⟩
        · show Steps p.tables e below (s₁.setTop (mkF m 167 #[.val (.int p1)] [(.int (64975 : Int32)), (.int p1)])) _
          refine XS.icmpYes X0.here hx rfl (pc0 := 167) (pc' := 198) rfl (hb hby d2_167) rfl (flt hc167_15).2.2.2 (by decide) (by decide) ?_
          show Steps p.tables e below (s₁.setTop (mkF m 198 #[.val (.int p1)] [])) _
          refine XS.iconst X0.here hx rfl (hb hby d2_198) ?_
          show Steps p.tables e below (s₁.setTop (mkF m 199 #[.val (.int p1)] [(.int (1 : Int32))])) _
          refine XS.goto X0.here hx rfl (pc0 := 199) (pc' := 203) rfl (hb hby d2_199) (by decide) (by decide) ?_
          show Steps p.tables e below (s₁.setTop (mkF m 203 #[.val (.int p1)] [(.int (1 : Int32))])) _
          exact retN X0 hx (t := .boolean) Bd.returns (by simp) (hb hby d2_203) hr
        · show Q2 Z p1 h0 n0 _ s₁.heap _
          rw [e0]
          refine ⟨?_, N0, rfl⟩
          rw [show f2 p1 = (1 : Int32) from (by rw [hv]; simp only [f2_156, if_neg hc160_12, if_neg hc167_15])]
  have J142 : (∀ t, Steps p.tables e below (s₁.setTop (mkF m 142 #[.val (.int p1)] [])) t → Steps p.tables e below (s₁.setTop (entryFrame m #[(.int p1)] 1)) t) → f2 p1 = f2_142 p1 → False := by
    intro  pre hv
    have pre17 : ∀ t, Steps p.tables e below (s₁.setTop (mkF m 146 #[.val (.int p1)] [(.int (12289 : Int32)), (.int p1)])) t → Steps p.tables e below (s₁.setTop (entryFrame m #[(.int p1)] 1)) t := by
      intro t k
      refine pre t ?_
      show Steps p.tables e below (s₁.setTop (mkF m 142 #[.val (.int p1)] [])) _
      refine XS.iloadN X0.here hx rfl (hb hby d2_142) rfl ?_
      show Steps p.tables e below (s₁.setTop (mkF m 143 #[.val (.int p1)] [(.int p1)])) _
      refine XS.sipush X0.here hx rfl (hb hby d2_143) ?_
      exact k
    by_cases hc146_18 : p1 < (12289 : Int32)
    · have pre19 : ∀ t, Steps p.tables e below (s₁.setTop (mkF m 156 #[.val (.int p1)] [])) t → Steps p.tables e below (s₁.setTop (entryFrame m #[(.int p1)] 1)) t := by
        intro t k
        refine pre17 t ?_
        show Steps p.tables e below (s₁.setTop (mkF m 146 #[.val (.int p1)] [(.int (12289 : Int32)), (.int p1)])) _
        refine XS.icmpYes X0.here hx rfl (pc0 := 146) (pc' := 156) rfl (hb hby d2_146) rfl (tlt hc146_18).1 (by decide) (by decide) ?_
        exact k
      exact J156  pre19 (by rw [hv]; simp only [f2_142, if_pos hc146_18])
    · have pre20 : ∀ t, Steps p.tables e below (s₁.setTop (mkF m 153 #[.val (.int p1)] [(.int (55295 : Int32)), (.int p1)])) t → Steps p.tables e below (s₁.setTop (entryFrame m #[(.int p1)] 1)) t := by
        intro t k
        refine pre17 t ?_
        show Steps p.tables e below (s₁.setTop (mkF m 146 #[.val (.int p1)] [(.int (12289 : Int32)), (.int p1)])) _
        refine XS.icmpNo X0.here hx rfl (hb hby d2_146) rfl (flt hc146_18).1 ?_
        show Steps p.tables e below (s₁.setTop (mkF m 149 #[.val (.int p1)] [])) _
        refine XS.iloadN X0.here hx rfl (hb hby d2_149) rfl ?_
        show Steps p.tables e below (s₁.setTop (mkF m 150 #[.val (.int p1)] [(.int p1)])) _
        refine X0.ldcwInt hx hown (mvT hZ (hw _ (List.mem_of_getElem? (i := 21) rfl))) (g := (mkF m 150 #[.val (.int p1)] [(.int p1)])) rfl (hb hby d2_150) _ ?_
        exact k
      by_cases hc153_21 : (55295 : Int32) < p1
      · have pre22 : ∀ t, Steps p.tables e below (s₁.setTop (mkF m 156 #[.val (.int p1)] [])) t → Steps p.tables e below (s₁.setTop (entryFrame m #[(.int p1)] 1)) t := by
          intro t k
          refine pre20 t ?_
          show Steps p.tables e below (s₁.setTop (mkF m 153 #[.val (.int p1)] [(.int (55295 : Int32)), (.int p1)])) _
          refine XS.icmpNo X0.here hx rfl (hb hby d2_153) rfl (tlt hc153_21).2.2.2 ?_
          exact k
        exact J156  pre22 (by rw [hv]; simp only [f2_142, if_neg hc146_18, if_pos hc153_21])
      · refine hneg ?_
        obtain ⟨fs, hr, hrun, hended, hW, hsame⟩ := X0.leave (v := some (.int (1 : Int32))) (fun h => by rw [Bd.returns] at h; cases h)
        refine ⟨_, _, pre20 _ ?_, hrun, hended, _, _, rfl, ?_, ⟨_, rfl⟩, hW, hsame.mono (by decide) (by decide)⟩
        · show Steps p.tables e below (s₁.setTop (mkF m 153 #[.val (.int p1)] [(.int (55295 : Int32)), (.int p1)])) _
          refine XS.icmpYes X0.here hx rfl (pc0 := 153) (pc' := 198) rfl (hb hby d2_153) rfl (flt hc153_21).2.2.2 (by decide) (by decide) ?_
          show Steps p.tables e below (s₁.setTop (mkF m 198 #[.val (.int p1)] [])) _
          refine XS.iconst X0.here hx rfl (hb hby d2_198) ?_
          show Steps p.tables e below (s₁.setTop (mkF m 199 #[.val (.int p1)] [(.int (1 : Int32))])) _
          refine XS.goto X0.here hx rfl (pc0 := 199) (pc' := 203) rfl (hb hby d2_199) (by decide) (by decide) ?_
          show Steps p.tables e below (s₁.setTop (mkF m 203 #[.val (.int p1)] [(.int (1 : Int32))])) _
          exact retN X0 hx (t := .boolean) Bd.returns (by simp) (hb hby d2_203) hr
        · show Q2 Z p1 h0 n0 _ s₁.heap _
          rw [e0]
          refine ⟨?_, N0, rfl⟩
          rw [show f2 p1 = (1 : Int32) from (by rw [hv]; simp only [f2_142, if_neg hc146_18, if_neg hc153_21])]
  have J128 : (∀ t, Steps p.tables e below (s₁.setTop (mkF m 128 #[.val (.int p1)] [])) t → Steps p.tables e below (s₁.setTop (entryFrame m #[(.int p1)] 1)) t) → f2 p1 = f2_128 p1 → False := by
    intro  pre hv
    have pre23 : ∀ t, Steps p.tables e below (s₁.setTop (mkF m 132 #[.val (.int p1)] [(.int (11264 : Int32)), (.int p1)])) t → Steps p.tables e below (s₁.setTop (entryFrame m #[(.int p1)] 1)) t := by
      intro t k
      refine pre t ?_
      show Steps p.tables e below (s₁.setTop (mkF m 128 #[.val (.int p1)] [])) _
      refine XS.iloadN X0.here hx rfl (hb hby d2_128) rfl ?_
      show Steps p.tables e below (s₁.setTop (mkF m 129 #[.val (.int p1)] [(.int p1)])) _
      refine XS.sipush X0.here hx rfl (hb hby d2_129) ?_
      exact k
    by_cases hc132_24 : p1 < (11264 : Int32)
    · have pre25 : ∀ t, Steps p.tables e below (s₁.setTop (mkF m 142 #[.val (.int p1)] [])) t → Steps p.tables e below (s₁.setTop (entryFrame m #[(.int p1)] 1)) t := by
        intro t k
        refine pre23 t ?_
        show Steps p.tables e below (s₁.setTop (mkF m 132 #[.val (.int p1)] [(.int (11264 : Int32)), (.int p1)])) _
        refine XS.icmpYes X0.here hx rfl (pc0 := 132) (pc' := 142) rfl (hb hby d2_132) rfl (tlt hc132_24).1 (by decide) (by decide) ?_
        exact k
      exact J142  pre25 (by rw [hv]; simp only [f2_128, if_pos hc132_24])
    · have pre26 : ∀ t, Steps p.tables e below (s₁.setTop (mkF m 139 #[.val (.int p1)] [(.int (12271 : Int32)), (.int p1)])) t → Steps p.tables e below (s₁.setTop (entryFrame m #[(.int p1)] 1)) t := by
        intro t k
        refine pre23 t ?_
        show Steps p.tables e below (s₁.setTop (mkF m 132 #[.val (.int p1)] [(.int (11264 : Int32)), (.int p1)])) _
        refine XS.icmpNo X0.here hx rfl (hb hby d2_132) rfl (flt hc132_24).1 ?_
        show Steps p.tables e below (s₁.setTop (mkF m 135 #[.val (.int p1)] [])) _
        refine XS.iloadN X0.here hx rfl (hb hby d2_135) rfl ?_
        show Steps p.tables e below (s₁.setTop (mkF m 136 #[.val (.int p1)] [(.int p1)])) _
        refine XS.sipush X0.here hx rfl (hb hby d2_136) ?_
        exact k
      by_cases hc139_27 : (12271 : Int32) < p1
      · have pre28 : ∀ t, Steps p.tables e below (s₁.setTop (mkF m 142 #[.val (.int p1)] [])) t → Steps p.tables e below (s₁.setTop (entryFrame m #[(.int p1)] 1)) t := by
          intro t k
          refine pre26 t ?_
          show Steps p.tables e below (s₁.setTop (mkF m 139 #[.val (.int p1)] [(.int (12271 : Int32)), (.int p1)])) _
          refine XS.icmpNo X0.here hx rfl (hb hby d2_139) rfl (tlt hc139_27).2.2.2 ?_
          exact k
        exact J142  pre28 (by rw [hv]; simp only [f2_128, if_neg hc132_24, if_pos hc139_27])
      · refine hneg ?_
        obtain ⟨fs, hr, hrun, hended, hW, hsame⟩ := X0.leave (v := some (.int (1 : Int32))) (fun h => by rw [Bd.returns] at h; cases h)
        refine ⟨_, _, pre26 _ ?_, hrun, hended, _, _, rfl, ?_, ⟨_, rfl⟩, hW, hsame.mono (by decide) (by decide)⟩
        · show Steps p.tables e below (s₁.setTop (mkF m 139 #[.val (.int p1)] [(.int (12271 : Int32)), (.int p1)])) _
          refine XS.icmpYes X0.here hx rfl (pc0 := 139) (pc' := 198) rfl (hb hby d2_139) rfl (flt hc139_27).2.2.2 (by decide) (by decide) ?_
          show Steps p.tables e below (s₁.setTop (mkF m 198 #[.val (.int p1)] [])) _
          refine XS.iconst X0.here hx rfl (hb hby d2_198) ?_
          show Steps p.tables e below (s₁.setTop (mkF m 199 #[.val (.int p1)] [(.int (1 : Int32))])) _
          refine XS.goto X0.here hx rfl (pc0 := 199) (pc' := 203) rfl (hb hby d2_199) (by decide) (by decide) ?_
          show Steps p.tables e below (s₁.setTop (mkF m 203 #[.val (.int p1)] [(.int (1 : Int32))])) _
          exact retN X0 hx (t := .boolean) Bd.returns (by simp) (hb hby d2_203) hr
        · show Q2 Z p1 h0 n0 _ s₁.heap _
          rw [e0]
          refine ⟨?_, N0, rfl⟩
          rw [show f2 p1 = (1 : Int32) from (by rw [hv]; simp only [f2_128, if_neg hc132_24, if_neg hc139_27])]
  have J114 : (∀ t, Steps p.tables e below (s₁.setTop (mkF m 114 #[.val (.int p1)] [])) t → Steps p.tables e below (s₁.setTop (entryFrame m #[(.int p1)] 1)) t) → f2 p1 = f2_114 p1 → False := by
    intro  pre hv
    have pre29 : ∀ t, Steps p.tables e below (s₁.setTop (mkF m 118 #[.val (.int p1)] [(.int (8304 : Int32)), (.int p1)])) t → Steps p.tables e below (s₁.setTop (entryFrame m #[(.int p1)] 1)) t := by
      intro t k
      refine pre t ?_
      show Steps p.tables e below (s₁.setTop (mkF m 114 #[.val (.int p1)] [])) _
      refine XS.iloadN X0.here hx rfl (hb hby d2_114) rfl ?_
      show Steps p.tables e below (s₁.setTop (mkF m 115 #[.val (.int p1)] [(.int p1)])) _
      refine XS.sipush X0.here hx rfl (hb hby d2_115) ?_
      exact k
    by_cases hc118_30 : p1 < (8304 : Int32)
    · have pre31 : ∀ t, Steps p.tables e below (s₁.setTop (mkF m 128 #[.val (.int p1)] [])) t → Steps p.tables e below (s₁.setTop (entryFrame m #[(.int p1)] 1)) t := by
        intro t k
        refine pre29 t ?_
        show Steps p.tables e below (s₁.setTop (mkF m 118 #[.val (.int p1)] [(.int (8304 : Int32)), (.int p1)])) _
        refine XS.icmpYes X0.here hx rfl (pc0 := 118) (pc' := 128) rfl (hb hby d2_118) rfl (tlt hc118_30).1 (by decide) (by decide) ?_
        exact k
      exact J128  pre31 (by rw [hv]; simp only [f2_114, if_pos hc118_30])
    · have pre32 : ∀ t, Steps p.tables e below (s₁.setTop (mkF m 125 #[.val (.int p1)] [(.int (8591 : Int32)), (.int p1)])) t → Steps p.tables e below (s₁.setTop (entryFrame m #[(.int p1)] 1)) t := by
        intro t k
        refine pre29 t ?_
        show Steps p.tables e below (s₁.setTop (mkF m 118 #[.val (.int p1)] [(.int (8304 : Int32)), (.int p1)])) _
        refine XS.icmpNo X0.here hx rfl (hb hby d2_118) rfl (flt hc118_30).1 ?_
        show Steps p.tables e below (s₁.setTop (mkF m 121 #[.val (.int p1)] [])) _
        refine XS.iloadN X0.here hx rfl (hb hby d2_121) rfl ?_
        show Steps p.tables e below (s₁.setTop (mkF m 122 #[.val (.int p1)] [(.int p1)])) _
        refine XS.sipush X0.here hx rfl (hb hby d2_122) ?_
        exact k
      by_cases hc125_33 : (8591 : Int32) < p1
      · have pre34 : ∀ t, Steps p.tables e below (s₁.setTop (mkF m 128 #[.val (.int p1)] [])) t → Steps p.tables e below (s₁.setTop (entryFrame m #[(.int p1)] 1)) t := by
          intro t k
          refine pre32 t ?_
          show Steps p.tables e below (s₁.setTop (mkF m 125 #[.val (.int p1)] [(.int (8591 : Int32)), (.int p1)])) _
          refine XS.icmpNo X0.here hx rfl (hb hby d2_125) rfl (tlt hc125_33).2.2.2 ?_
          exact k
        exact J128  pre34 (by rw [hv]; simp only [f2_114, if_neg hc118_30, if_pos hc125_33])
      · refine hneg ?_
        obtain ⟨fs, hr, hrun, hended, hW, hsame⟩ := X0.leave (v := some (.int (1 : Int32))) (fun h => by rw [Bd.returns] at h; cases h)
        refine ⟨_, _, pre32 _ ?_, hrun, hended, _, _, rfl, ?_, ⟨_, rfl⟩, hW, hsame.mono (by decide) (by decide)⟩
        · show Steps p.tables e below (s₁.setTop (mkF m 125 #[.val (.int p1)] [(.int (8591 : Int32)), (.int p1)])) _
          refine XS.icmpYes X0.here hx rfl (pc0 := 125) (pc' := 198) rfl (hb hby d2_125) rfl (flt hc125_33).2.2.2 (by decide) (by decide) ?_
          show Steps p.tables e below (s₁.setTop (mkF m 198 #[.val (.int p1)] [])) _
          refine XS.iconst X0.here hx rfl (hb hby d2_198) ?_
          show Steps p.tables e below (s₁.setTop (mkF m 199 #[.val (.int p1)] [(.int (1 : Int32))])) _
          refine XS.goto X0.here hx rfl (pc0 := 199) (pc' := 203) rfl (hb hby d2_199) (by decide) (by decide) ?_
          show Steps p.tables e below (s₁.setTop (mkF m 203 #[.val (.int p1)] [(.int (1 : Int32))])) _
          exact retN X0 hx (t := .boolean) Bd.returns (by simp) (hb hby d2_203) hr
        · show Q2 Z p1 h0 n0 _ s₁.heap _
          rw [e0]
          refine ⟨?_, N0, rfl⟩
          rw [show f2 p1 = (1 : Int32) from (by rw [hv]; simp only [f2_114, if_neg hc118_30, if_neg hc125_33])]
  have J100 : (∀ t, Steps p.tables e below (s₁.setTop (mkF m 100 #[.val (.int p1)] [])) t → Steps p.tables e below (s₁.setTop (entryFrame m #[(.int p1)] 1)) t) → f2 p1 = f2_100 p1 → False := by
    intro  pre hv
    have pre35 : ∀ t, Steps p.tables e below (s₁.setTop (mkF m 104 #[.val (.int p1)] [(.int (8204 : Int32)), (.int p1)])) t → Steps p.tables e below (s₁.setTop (entryFrame m #[(.int p1)] 1)) t := by
      intro t k
      refine pre t ?_
      show Steps p.tables e below (s₁.setTop (mkF m 100 #[.val (.int p1)] [])) _
      refine XS.iloadN X0.here hx rfl (hb hby d2_100) rfl ?_
      show Steps p.tables e below (s₁.setTop (mkF m 101 #[.val (.int p1)] [(.int p1)])) _
      refine XS.sipush X0.here hx rfl (hb hby d2_101) ?_
      exact k
    by_cases hc104_36 : p1 < (8204 : Int32)
    · have pre37 : ∀ t, Steps p.tables e below (s₁.setTop (mkF m 114 #[.val (.int p1)] [])) t → Steps p.tables e below (s₁.setTop (entryFrame m #[(.int p1)] 1)) t := by
        intro t k
        refine pre35 t ?_
        show Steps p.tables e below (s₁.setTop (mkF m 104 #[.val (.int p1)] [(.int (8204 : Int32)), (.int p1)])) _
        refine XS.icmpYes X0.here hx rfl (pc0 := 104) (pc' := 114) rfl (hb hby d2_104) rfl (tlt hc104_36).1 (by decide) (by decide) ?_
        exact k
      exact J114  pre37 (by rw [hv]; simp only [f2_100, if_pos hc104_36])
    · have pre38 : ∀ t, Steps p.tables e below (s₁.setTop (mkF m 111 #[.val (.int p1)] [(.int (8205 : Int32)), (.int p1)])) t → Steps p.tables e below (s₁.setTop (entryFrame m #[(.int p1)] 1)) t := by
        intro t k
        refine pre35 t ?_
        show Steps p.tables e below (s₁.setTop (mkF m 104 #[.val (.int p1)] [(.int (8204 : Int32)), (.int p1)])) _
        refine XS.icmpNo X0.here hx rfl (hb hby d2_104) rfl (flt hc104_36).1 ?_
        show Steps p.tables e below (s₁.setTop (mkF m 107 #[.val (.int p1)] [])) _
        refine XS.iloadN X0.here hx rfl (hb hby d2_107) rfl ?_
        show Steps p.tables e below (s₁.setTop (mkF m 108 #[.val (.int p1)] [(.int p1)])) _
        refine XS.sipush X0.here hx rfl (hb hby d2_108) ?_
        exact k
      by_cases hc111_39 : (8205 : Int32) < p1
      · have pre40 : ∀ t, Steps p.tables e below (s₁.setTop (mkF m 114 #[.val (.int p1)] [])) t → Steps p.tables e below (s₁.setTop (entryFrame m #[(.int p1)] 1)) t := by
          intro t k
          refine pre38 t ?_
          show Steps p.tables e below (s₁.setTop (mkF m 111 #[.val (.int p1)] [(.int (8205 : Int32)), (.int p1)])) _
          refine XS.icmpNo X0.here hx rfl (hb hby d2_111) rfl (tlt hc111_39).2.2.2 ?_
          exact k
        exact J114  pre40 (by rw [hv]; simp only [f2_100, if_neg hc104_36, if_pos hc111_39])
      · refine hneg ?_
        obtain ⟨fs, hr, hrun, hended, hW, hsame⟩ := X0.leave (v := some (.int (1 : Int32))) (fun h => by rw [Bd.returns] at h; cases h)
        refine ⟨_, _, pre38 _ ?_, hrun, hended, _, _, rfl, ?_, ⟨_, rfl⟩, hW, hsame.mono (by decide) (by decide)⟩
        · show Steps p.tables e below (s₁.setTop (mkF m 111 #[.val (.int p1)] [(.int (8205 : Int32)), (.int p1)])) _
          refine XS.icmpYes X0.here hx rfl (pc0 := 111) (pc' := 198) rfl (hb hby d2_111) rfl (flt hc111_39).2.2.2 (by decide) (by decide) ?_
          show Steps p.tables e below (s₁.setTop (mkF m 198 #[.val (.int p1)] [])) _
          refine XS.iconst X0.here hx rfl (hb hby d2_198) ?_
          show Steps p.tables e below (s₁.setTop (mkF m 199 #[.val (.int p1)] [(.int (1 : Int32))])) _
          refine XS.goto X0.here hx rfl (pc0 := 199) (pc' := 203) rfl (hb hby d2_199) (by decide) (by decide) ?_
          show Steps p.tables e below (s₁.setTop (mkF m 203 #[.val (.int p1)] [(.int (1 : Int32))])) _
          exact retN X0 hx (t := .boolean) Bd.returns (by simp) (hb hby d2_203) hr
        · show Q2 Z p1 h0 n0 _ s₁.heap _
          rw [e0]
          refine ⟨?_, N0, rfl⟩
          rw [show f2 p1 = (1 : Int32) from (by rw [hv]; simp only [f2_100, if_neg hc104_36, if_neg hc111_39])]
  have J86 : (∀ t, Steps p.tables e below (s₁.setTop (mkF m 86 #[.val (.int p1)] [])) t → Steps p.tables e below (s₁.setTop (entryFrame m #[(.int p1)] 1)) t) → f2 p1 = f2_86 p1 → False := by
    intro  pre hv
    have pre41 : ∀ t, Steps p.tables e below (s₁.setTop (mkF m 90 #[.val (.int p1)] [(.int (895 : Int32)), (.int p1)])) t → Steps p.tables e below (s₁.setTop (entryFrame m #[(.int p1)] 1)) t := by
      intro t k
      refine pre t ?_
      show Steps p.tables e below (s₁.setTop (mkF m 86 #[.val (.int p1)] [])) _
      refine XS.iloadN X0.here hx rfl (hb hby d2_86) rfl ?_
      show Steps p.tables e below (s₁.setTop (mkF m 87 #[.val (.int p1)] [(.int p1)])) _
      refine XS.sipush X0.here hx rfl (hb hby d2_87) ?_
      exact k
    by_cases hc90_42 : p1 < (895 : Int32)
    · have pre43 : ∀ t, Steps p.tables e below (s₁.setTop (mkF m 100 #[.val (.int p1)] [])) t → Steps p.tables e below (s₁.setTop (entryFrame m #[(.int p1)] 1)) t := by
        intro t k
        refine pre41 t ?_
        show Steps p.tables e below (s₁.setTop (mkF m 90 #[.val (.int p1)] [(.int (895 : Int32)), (.int p1)])) _
        refine XS.icmpYes X0.here hx rfl (pc0 := 90) (pc' := 100) rfl (hb hby d2_90) rfl (tlt hc90_42).1 (by decide) (by decide) ?_
        exact k
      exact J100  pre43 (by rw [hv]; simp only [f2_86, if_pos hc90_42])
    · have pre44 : ∀ t, Steps p.tables e below (s₁.setTop (mkF m 97 #[.val (.int p1)] [(.int (8191 : Int32)), (.int p1)])) t → Steps p.tables e below (s₁.setTop (entryFrame m #[(.int p1)] 1)) t := by
        intro t k
        refine pre41 t ?_
        show Steps p.tables e below (s₁.setTop (mkF m 90 #[.val (.int p1)] [(.int (895 : Int32)), (.int p1)])) _
        refine XS.icmpNo X0.here hx rfl (hb hby d2_90) rfl (flt hc90_42).1 ?_
        show Steps p.tables e below (s₁.setTop (mkF m 93 #[.val (.int p1)] [])) _
        refine XS.iloadN X0.here hx rfl (hb hby d2_93) rfl ?_
        show Steps p.tables e below (s₁.setTop (mkF m 94 #[.val (.int p1)] [(.int p1)])) _
        refine XS.sipush X0.here hx rfl (hb hby d2_94) ?_
        exact k
      by_cases hc97_45 : (8191 : Int32) < p1
      · have pre46 : ∀ t, Steps p.tables e below (s₁.setTop (mkF m 100 #[.val (.int p1)] [])) t → Steps p.tables e below (s₁.setTop (entryFrame m #[(.int p1)] 1)) t := by
          intro t k
          refine pre44 t ?_
          show Steps p.tables e below (s₁.setTop (mkF m 97 #[.val (.int p1)] [(.int (8191 : Int32)), (.int p1)])) _
          refine XS.icmpNo X0.here hx rfl (hb hby d2_97) rfl (tlt hc97_45).2.2.2 ?_
          exact k
        exact J100  pre46 (by rw [hv]; simp only [f2_86, if_neg hc90_42, if_pos hc97_45])
      · refine hneg ?_
        obtain ⟨fs, hr, hrun, hended, hW, hsame⟩ := X0.leave (v := some (.int (1 : Int32))) (fun h => by rw [Bd.returns] at h; cases h)
        refine ⟨_, _, pre44 _ ?_, hrun, hended, _, _, rfl, ?_, ⟨_, rfl⟩, hW, hsame.mono (by decide) (by decide)⟩
        · show Steps p.tables e below (s₁.setTop (mkF m 97 #[.val (.int p1)] [(.int (8191 : Int32)), (.int p1)])) _
          refine XS.icmpYes X0.here hx rfl (pc0 := 97) (pc' := 198) rfl (hb hby d2_97) rfl (flt hc97_45).2.2.2 (by decide) (by decide) ?_
          show Steps p.tables e below (s₁.setTop (mkF m 198 #[.val (.int p1)] [])) _
          refine XS.iconst X0.here hx rfl (hb hby d2_198) ?_
          show Steps p.tables e below (s₁.setTop (mkF m 199 #[.val (.int p1)] [(.int (1 : Int32))])) _
          refine XS.goto X0.here hx rfl (pc0 := 199) (pc' := 203) rfl (hb hby d2_199) (by decide) (by decide) ?_
          show Steps p.tables e below (s₁.setTop (mkF m 203 #[.val (.int p1)] [(.int (1 : Int32))])) _
          exact retN X0 hx (t := .boolean) Bd.returns (by simp) (hb hby d2_203) hr
        · show Q2 Z p1 h0 n0 _ s₁.heap _
          rw [e0]
          refine ⟨?_, N0, rfl⟩
          rw [show f2 p1 = (1 : Int32) from (by rw [hv]; simp only [f2_86, if_neg hc90_42, if_neg hc97_45])]
  have J72 : (∀ t, Steps p.tables e below (s₁.setTop (mkF m 72 #[.val (.int p1)] [])) t → Steps p.tables e below (s₁.setTop (entryFrame m #[(.int p1)] 1)) t) → f2 p1 = f2_72 p1 → False := by
    intro  pre hv
    have pre47 : ∀ t, Steps p.tables e below (s₁.setTop (mkF m 76 #[.val (.int p1)] [(.int (880 : Int32)), (.int p1)])) t → Steps p.tables e below (s₁.setTop (entryFrame m #[(.int p1)] 1)) t := by
      intro t k
      refine pre t ?_
      show Steps p.tables e below (s₁.setTop (mkF m 72 #[.val (.int p1)] [])) _
      refine XS.iloadN X0.here hx rfl (hb hby d2_72) rfl ?_
      show Steps p.tables e below (s₁.setTop (mkF m 73 #[.val (.int p1)] [(.int p1)])) _
      refine XS.sipush X0.here hx rfl (hb hby d2_73) ?_
      exact k
    by_cases hc76_48 : p1 < (880 : Int32)
    · have pre49 : ∀ t, Steps p.tables e below (s₁.setTop (mkF m 86 #[.val (.int p1)] [])) t → Steps p.tables e below (s₁.setTop (entryFrame m #[(.int p1)] 1)) t := by
        intro t k
        refine pre47 t ?_
        show Steps p.tables e below (s₁.setTop (mkF m 76 #[.val (.int p1)] [(.int (880 : Int32)), (.int p1)])) _
        refine XS.icmpYes X0.here hx rfl (pc0 := 76) (pc' := 86) rfl (hb hby d2_76) rfl (tlt hc76_48).1 (by decide) (by decide) ?_
        exact k
      exact J86  pre49 (by rw [hv]; simp only [f2_72, if_pos hc76_48])
    · have pre50 : ∀ t, Steps p.tables e below (s₁.setTop (mkF m 83 #[.val (.int p1)] [(.int (893 : Int32)), (.int p1)])) t → Steps p.tables e below (s₁.setTop (entryFrame m #[(.int p1)] 1)) t := by
        intro t k
        refine pre47 t ?_
        show Steps p.tables e below (s₁.setTop (mkF m 76 #[.val (.int p1)] [(.int (880 : Int32)), (.int p1)])) _
        refine XS.icmpNo X0.here hx rfl (hb hby d2_76) rfl (flt hc76_48).1 ?_
        show Steps p.tables e below (s₁.setTop (mkF m 79 #[.val (.int p1)] [])) _
        refine XS.iloadN X0.here hx rfl (hb hby d2_79) rfl ?_
        show Steps p.tables e below (s₁.setTop (mkF m 80 #[.val (.int p1)] [(.int p1)])) _
        refine XS.sipush X0.here hx rfl (hb hby d2_80) ?_
        exact k
      by_cases hc83_51 : (893 : Int32) < p1
      · have pre52 : ∀ t, Steps p.tables e below (s₁.setTop (mkF m 86 #[.val (.int p1)] [])) t → Steps p.tables e below (s₁.setTop (entryFrame m #[(.int p1)] 1)) t := by
          intro t k
          refine pre50 t ?_
          show Steps p.tables e below (s₁.setTop (mkF m 83 #[.val (.int p1)] [(.int (893 : Int32)), (.int p1)])) _
          refine XS.icmpNo X0.here hx rfl (hb hby d2_83) rfl (tlt hc83_51).2.2.2 ?_
          exact k
        exact J86  pre52 (by rw [hv]; simp only [f2_72, if_neg hc76_48, if_pos hc83_51])
      · refine hneg ?_
        obtain ⟨fs, hr, hrun, hended, hW, hsame⟩ := X0.leave (v := some (.int (1 : Int32))) (fun h => by rw [Bd.returns] at h; cases h)
        refine ⟨_, _, pre50 _ ?_, hrun, hended, _, _, rfl, ?_, ⟨_, rfl⟩, hW, hsame.mono (by decide) (by decide)⟩
        · show Steps p.tables e below (s₁.setTop (mkF m 83 #[.val (.int p1)] [(.int (893 : Int32)), (.int p1)])) _
          refine XS.icmpYes X0.here hx rfl (pc0 := 83) (pc' := 198) rfl (hb hby d2_83) rfl (flt hc83_51).2.2.2 (by decide) (by decide) ?_
          show Steps p.tables e below (s₁.setTop (mkF m 198 #[.val (.int p1)] [])) _
          refine XS.iconst X0.here hx rfl (hb hby d2_198) ?_
          show Steps p.tables e below (s₁.setTop (mkF m 199 #[.val (.int p1)] [(.int (1 : Int32))])) _
          refine XS.goto X0.here hx rfl (pc0 := 199) (pc' := 203) rfl (hb hby d2_199) (by decide) (by decide) ?_
          show Steps p.tables e below (s₁.setTop (mkF m 203 #[.val (.int p1)] [(.int (1 : Int32))])) _
          exact retN X0 hx (t := .boolean) Bd.returns (by simp) (hb hby d2_203) hr
        · show Q2 Z p1 h0 n0 _ s₁.heap _
          rw [e0]
          refine ⟨?_, N0, rfl⟩
          rw [show f2 p1 = (1 : Int32) from (by rw [hv]; simp only [f2_72, if_neg hc76_48, if_neg hc83_51])]
  have J58 : (∀ t, Steps p.tables e below (s₁.setTop (mkF m 58 #[.val (.int p1)] [])) t → Steps p.tables e below (s₁.setTop (entryFrame m #[(.int p1)] 1)) t) → f2 p1 = f2_58 p1 → False := by
    intro  pre hv
    have pre53 : ∀ t, Steps p.tables e below (s₁.setTop (mkF m 62 #[.val (.int p1)] [(.int (248 : Int32)), (.int p1)])) t → Steps p.tables e below (s₁.setTop (entryFrame m #[(.int p1)] 1)) t := by
      intro t k
      refine pre t ?_
      show Steps p.tables e below (s₁.setTop (mkF m 58 #[.val (.int p1)] [])) _
      refine XS.iloadN X0.here hx rfl (hb hby d2_58) rfl ?_
      show Steps p.tables e below (s₁.setTop (mkF m 59 #[.val (.int p1)] [(.int p1)])) _
      refine XS.sipush X0.here hx rfl (hb hby d2_59) ?_
      exact k
    by_cases hc62_54 : p1 < (248 : Int32)
    · have pre55 : ∀ t, Steps p.tables e below (s₁.setTop (mkF m 72 #[.val (.int p1)] [])) t → Steps p.tables e below (s₁.setTop (entryFrame m #[(.int p1)] 1)) t := by
        intro t k
        refine pre53 t ?_
        show Steps p.tables e below (s₁.setTop (mkF m 62 #[.val (.int p1)] [(.int (248 : Int32)), (.int p1)])) _
        refine XS.icmpYes X0.here hx rfl (pc0 := 62) (pc' := 72) rfl (hb hby d2_62) rfl (tlt hc62_54).1 (by decide) (by decide) ?_
        exact k
      exact J72  pre55 (by rw [hv]; simp only [f2_58, if_pos hc62_54])
    · have pre56 : ∀ t, Steps p.tables e below (s₁.setTop (mkF m 69 #[.val (.int p1)] [(.int (767 : Int32)), (.int p1)])) t → Steps p.tables e below (s₁.setTop (entryFrame m #[(.int p1)] 1)) t := by
        intro t k
        refine pre53 t ?_
        show Steps p.tables e below (s₁.setTop (mkF m 62 #[.val (.int p1)] [(.int (248 : Int32)), (.int p1)])) _
        refine XS.icmpNo X0.here hx rfl (hb hby d2_62) rfl (flt hc62_54).1 ?_
        show Steps p.tables e below (s₁.setTop (mkF m 65 #[.val (.int p1)] [])) _
        refine XS.iloadN X0.here hx rfl (hb hby d2_65) rfl ?_
        show Steps p.tables e below (s₁.setTop (mkF m 66 #[.val (.int p1)] [(.int p1)])) _
        refine XS.sipush X0.here hx rfl (hb hby d2_66) ?_
        exact k
      by_cases hc69_57 : (767 : Int32) < p1
      · have pre58 : ∀ t, Steps p.tables e below (s₁.setTop (mkF m 72 #[.val (.int p1)] [])) t → Steps p.tables e below (s₁.setTop (entryFrame m #[(.int p1)] 1)) t := by
          intro t k
          refine pre56 t ?_
          show Steps p.tables e below (s₁.setTop (mkF m 69 #[.val (.int p1)] [(.int (767 : Int32)), (.int p1)])) _
          refine XS.icmpNo X0.here hx rfl (hb hby d2_69) rfl (tlt hc69_57).2.2.2 ?_
          exact k
        exact J72  pre58 (by rw [hv]; simp only [f2_58, if_neg hc62_54, if_pos hc69_57])
      · refine hneg ?_
        obtain ⟨fs, hr, hrun, hended, hW, hsame⟩ := X0.leave (v := some (.int (1 : Int32))) (fun h => by rw [Bd.returns] at h; cases h)
        refine ⟨_, _, pre56 _ ?_, hrun, hended, _, _, rfl, ?_, ⟨_, rfl⟩, hW, hsame.mono (by decide) (by decide)⟩
        · show Steps p.tables e below (s₁.setTop (mkF m 69 #[.val (.int p1)] [(.int (767 : Int32)), (.int p1)])) _
          refine XS.icmpYes X0.here hx rfl (pc0 := 69) (pc' := 198) rfl (hb hby d2_69) rfl (flt hc69_57).2.2.2 (by decide) (by decide) ?_
          show Steps p.tables e below (s₁.setTop (mkF m 198 #[.val (.int p1)] [])) _
          refine XS.iconst X0.here hx rfl (hb hby d2_198) ?_
          show Steps p.tables e below (s₁.setTop (mkF m 199 #[.val (.int p1)] [(.int (1 : Int32))])) _
          refine XS.goto X0.here hx rfl (pc0 := 199) (pc' := 203) rfl (hb hby d2_199) (by decide) (by decide) ?_
          show Steps p.tables e below (s₁.setTop (mkF m 203 #[.val (.int p1)] [(.int (1 : Int32))])) _
          exact retN X0 hx (t := .boolean) Bd.returns (by simp) (hb hby d2_203) hr
        · show Q2 Z p1 h0 n0 _ s₁.heap _
          rw [e0]
          refine ⟨?_, N0, rfl⟩
          rw [show f2 p1 = (1 : Int32) from (by rw [hv]; simp only [f2_58, if_neg hc62_54, if_neg hc69_57])]
  have J44 : (∀ t, Steps p.tables e below (s₁.setTop (mkF m 44 #[.val (.int p1)] [])) t → Steps p.tables e below (s₁.setTop (entryFrame m #[(.int p1)] 1)) t) → f2 p1 = f2_44 p1 → False := by
    intro  pre hv
    have pre59 : ∀ t, Steps p.tables e below (s₁.setTop (mkF m 48 #[.val (.int p1)] [(.int (216 : Int32)), (.int p1)])) t → Steps p.tables e below (s₁.setTop (entryFrame m #[(.int p1)] 1)) t := by
      intro t k
      refine pre t ?_
      show Steps p.tables e below (s₁.setTop (mkF m 44 #[.val (.int p1)] [])) _
      refine XS.iloadN X0.here hx rfl (hb hby d2_44) rfl ?_
      show Steps p.tables e below (s₁.setTop (mkF m 45 #[.val (.int p1)] [(.int p1)])) _
      refine XS.sipush X0.here hx rfl (hb hby d2_45) ?_
      exact k
    by_cases hc48_60 : p1 < (216 : Int32)
    · have pre61 : ∀ t, Steps p.tables e below (s₁.setTop (mkF m 58 #[.val (.int p1)] [])) t → Steps p.tables e below (s₁.setTop (entryFrame m #[(.int p1)] 1)) t := by
        intro t k
        refine pre59 t ?_
        show Steps p.tables e below (s₁.setTop (mkF m 48 #[.val (.int p1)] [(.int (216 : Int32)), (.int p1)])) _
        refine XS.icmpYes X0.here hx rfl (pc0 := 48) (pc' := 58) rfl (hb hby d2_48) rfl (tlt hc48_60).1 (by decide) (by decide) ?_
        exact k
      exact J58  pre61 (by rw [hv]; simp only [f2_44, if_pos hc48_60])
    · have pre62 : ∀ t, Steps p.tables e below (s₁.setTop (mkF m 55 #[.val (.int p1)] [(.int (246 : Int32)), (.int p1)])) t → Steps p.tables e below (s₁.setTop (entryFrame m #[(.int p1)] 1)) t := by
        intro t k
        refine pre59 t ?_
        show Steps p.tables e below (s₁.setTop (mkF m 48 #[.val (.int p1)] [(.int (216 : Int32)), (.int p1)])) _
        refine XS.icmpNo X0.here hx rfl (hb hby d2_48) rfl (flt hc48_60).1 ?_
        show Steps p.tables e below (s₁.setTop (mkF m 51 #[.val (.int p1)] [])) _
        refine XS.iloadN X0.here hx rfl (hb hby d2_51) rfl ?_
        show Steps p.tables e below (s₁.setTop (mkF m 52 #[.val (.int p1)] [(.int p1)])) _
        refine XS.sipush X0.here hx rfl (hb hby d2_52) ?_
        exact k
      by_cases hc55_63 : (246 : Int32) < p1
      · have pre64 : ∀ t, Steps p.tables e below (s₁.setTop (mkF m 58 #[.val (.int p1)] [])) t → Steps p.tables e below (s₁.setTop (entryFrame m #[(.int p1)] 1)) t := by
          intro t k
          refine pre62 t ?_
          show Steps p.tables e below (s₁.setTop (mkF m 55 #[.val (.int p1)] [(.int (246 : Int32)), (.int p1)])) _
          refine XS.icmpNo X0.here hx rfl (hb hby d2_55) rfl (tlt hc55_63).2.2.2 ?_
          exact k
        exact J58  pre64 (by rw [hv]; simp only [f2_44, if_neg hc48_60, if_pos hc55_63])
      · refine hneg ?_
        obtain ⟨fs, hr, hrun, hended, hW, hsame⟩ := X0.leave (v := some (.int (1 : Int32))) (fun h => by rw [Bd.returns] at h; cases h)
        refine ⟨_, _, pre62 _ ?_, hrun, hended, _, _, rfl, ?_, ⟨_, rfl⟩, hW, hsame.mono (by decide) (by decide)⟩
        · show Steps p.tables e below (s₁.setTop (mkF m 55 #[.val (.int p1)] [(.int (246 : Int32)), (.int p1)])) _
          refine XS.icmpYes X0.here hx rfl (pc0 := 55) (pc' := 198) rfl (hb hby d2_55) rfl (flt hc55_63).2.2.2 (by decide) (by decide) ?_
          show Steps p.tables e below (s₁.setTop (mkF m 198 #[.val (.int p1)] [])) _
          refine XS.iconst X0.here hx rfl (hb hby d2_198) ?_
          show Steps p.tables e below (s₁.setTop (mkF m 199 #[.val (.int p1)] [(.int (1 : Int32))])) _
          refine XS.goto X0.here hx rfl (pc0 := 199) (pc' := 203) rfl (hb hby d2_199) (by decide) (by decide) ?_
          show Steps p.tables e below (s₁.setTop (mkF m 203 #[.val (.int p1)] [(.int (1 : Int32))])) _
          exact retN X0 hx (t := .boolean) Bd.returns (by simp) (hb hby d2_203) hr
        · show Q2 Z p1 h0 n0 _ s₁.heap _
          rw [e0]
          refine ⟨?_, N0, rfl⟩
          rw [show f2 p1 = (1 : Int32) from (by rw [hv]; simp only [f2_44, if_neg hc48_60, if_neg hc55_63])]
  have J30 : (∀ t, Steps p.tables e below (s₁.setTop (mkF m 30 #[.val (.int p1)] [])) t → Steps p.tables e below (s₁.setTop (entryFrame m #[(.int p1)] 1)) t) → f2 p1 = f2_30 p1 → False := by
    intro  pre hv
    have pre65 : ∀ t, Steps p.tables e below (s₁.setTop (mkF m 34 #[.val (.int p1)] [(.int (192 : Int32)), (.int p1)])) t → Steps p.tables e below (s₁.setTop (entryFrame m #[(.int p1)] 1)) t := by
      intro t k
      refine pre t ?_
      show Steps p.tables e below (s₁.setTop (mkF m 30 #[.val (.int p1)] [])) _
      refine XS.iloadN X0.here hx rfl (hb hby d2_30) rfl ?_
      show Steps p.tables e below (s₁.setTop (mkF m 31 #[.val (.int p1)] [(.int p1)])) _
      refine XS.sipush X0.here hx rfl (hb hby d2_31) ?_
      exact k
    by_cases hc34_66 : p1 < (192 : Int32)
    · have pre67 : ∀ t, Steps p.tables e below (s₁.setTop (mkF m 44 #[.val (.int p1)] [])) t → Steps p.tables e below (s₁.setTop (entryFrame m #[(.int p1)] 1)) t := by
        intro t k
        refine pre65 t ?_
        show Steps p.tables e below (s₁.setTop (mkF m 34 #[.val (.int p1)] [(.int (192 : Int32)), (.int p1)])) _
        refine XS.icmpYes X0.here hx rfl (pc0 := 34) (pc' := 44) rfl (hb hby d2_34) rfl (tlt hc34_66).1 (by decide) (by decide) ?_
        exact k
      exact J44  pre67 (by rw [hv]; simp only [f2_30, if_pos hc34_66])
    · have pre68 : ∀ t, Steps p.tables e below (s₁.setTop (mkF m 41 #[.val (.int p1)] [(.int (214 : Int32)), (.int p1)])) t → Steps p.tables e below (s₁.setTop (entryFrame m #[(.int p1)] 1)) t := by
        intro t k
        refine pre65 t ?_
        show Steps p.tables e below (s₁.setTop (mkF m 34 #[.val (.int p1)] [(.int (192 : Int32)), (.int p1)])) _
        refine XS.icmpNo X0.here hx rfl (hb hby d2_34) rfl (flt hc34_66).1 ?_
        show Steps p.tables e below (s₁.setTop (mkF m 37 #[.val (.int p1)] [])) _
        refine XS.iloadN X0.here hx rfl (hb hby d2_37) rfl ?_
        show Steps p.tables e below (s₁.setTop (mkF m 38 #[.val (.int p1)] [(.int p1)])) _
        refine XS.sipush X0.here hx rfl (hb hby d2_38) ?_
        exact k
      by_cases hc41_69 : (214 : Int32) < p1
      · have pre70 : ∀ t, Steps p.tables e below (s₁.setTop (mkF m 44 #[.val (.int p1)] [])) t → Steps p.tables e below (s₁.setTop (entryFrame m #[(.int p1)] 1)) t := by
          intro t k
          refine pre68 t ?_
          show Steps p.tables e below (s₁.setTop (mkF m 41 #[.val (.int p1)] [(.int (214 : Int32)), (.int p1)])) _
          refine XS.icmpNo X0.here hx rfl (hb hby d2_41) rfl (tlt hc41_69).2.2.2 ?_
          exact k
        exact J44  pre70 (by rw [hv]; simp only [f2_30, if_neg hc34_66, if_pos hc41_69])
      · refine hneg ?_
        obtain ⟨fs, hr, hrun, hended, hW, hsame⟩ := X0.leave (v := some (.int (1 : Int32))) (fun h => by rw [Bd.returns] at h; cases h)
        refine ⟨_, _, pre68 _ ?_, hrun, hended, _, _, rfl, ?_, ⟨_, rfl⟩, hW, hsame.mono (by decide) (by decide)⟩
        · show Steps p.tables e below (s₁.setTop (mkF m 41 #[.val (.int p1)] [(.int (214 : Int32)), (.int p1)])) _
          refine XS.icmpYes X0.here hx rfl (pc0 := 41) (pc' := 198) rfl (hb hby d2_41) rfl (flt hc41_69).2.2.2 (by decide) (by decide) ?_
          show Steps p.tables e below (s₁.setTop (mkF m 198 #[.val (.int p1)] [])) _
          refine XS.iconst X0.here hx rfl (hb hby d2_198) ?_
          show Steps p.tables e below (s₁.setTop (mkF m 199 #[.val (.int p1)] [(.int (1 : Int32))])) _
          refine XS.goto X0.here hx rfl (pc0 := 199) (pc' := 203) rfl (hb hby d2_199) (by decide) (by decide) ?_
          show Steps p.tables e below (s₁.setTop (mkF m 203 #[.val (.int p1)] [(.int (1 : Int32))])) _
          exact retN X0 hx (t := .boolean) Bd.returns (by simp) (hb hby d2_203) hr
        · show Q2 Z p1 h0 n0 _ s₁.heap _
          rw [e0]
          refine ⟨?_, N0, rfl⟩
          rw [show f2 p1 = (1 : Int32) from (by rw [hv]; simp only [f2_30, if_neg hc34_66, if_neg hc41_69])]
  have J18 : (∀ t, Steps p.tables e below (s₁.setTop (mkF m 18 #[.val (.int p1)] [])) t → Steps p.tables e below (s₁.setTop (entryFrame m #[(.int p1)] 1)) t) → f2 p1 = f2_18 p1 → False := by
    intro  pre hv
    have pre71 : ∀ t, Steps p.tables e below (s₁.setTop (mkF m 21 #[.val (.int p1)] [(.int (97 : Int32)), (.int p1)])) t → Steps p.tables e below (s₁.setTop (entryFrame m #[(.int p1)] 1)) t := by
      intro t k
      refine pre t ?_
      show Steps p.tables e below (s₁.setTop (mkF m 18 #[.val (.int p1)] [])) _
      refine XS.iloadN X0.here hx rfl (hb hby d2_18) rfl ?_
      show Steps p.tables e below (s₁.setTop (mkF m 19 #[.val (.int p1)] [(.int p1)])) _
      refine XS.bipush X0.here hx rfl (hb hby d2_19) ?_
      exact k
    by_cases hc21_72 : p1 < (97 : Int32)
    · have pre73 : ∀ t, Steps p.tables e below (s₁.setTop (mkF m 30 #[.val (.int p1)] [])) t → Steps p.tables e below (s₁.setTop (entryFrame m #[(.int p1)] 1)) t := by
        intro t k
        refine pre71 t ?_
        show Steps p.tables e below (s₁.setTop (mkF m 21 #[.val (.int p1)] [(.int (97 : Int32)), (.int p1)])) _
        refine XS.icmpYes X0.here hx rfl (pc0 := 21) (pc' := 30) rfl (hb hby d2_21) rfl (tlt hc21_72).1 (by decide) (by decide) ?_
        exact k
      exact J30  pre73 (by rw [hv]; simp only [f2_18, if_pos hc21_72])
    · have pre74 : ∀ t, Steps p.tables e below (s₁.setTop (mkF m 27 #[.val (.int p1)] [(.int (122 : Int32)), (.int p1)])) t → Steps p.tables e below (s₁.setTop (entryFrame m #[(.int p1)] 1)) t := by
        intro t k
        refine pre71 t ?_
        show Steps p.tables e below (s₁.setTop (mkF m 21 #[.val (.int p1)] [(.int (97 : Int32)), (.int p1)])) _
        refine XS.icmpNo X0.here hx rfl (hb hby d2_21) rfl (flt hc21_72).1 ?_
        show Steps p.tables e below (s₁.setTop (mkF m 24 #[.val (.int p1)] [])) _
        refine XS.iloadN X0.here hx rfl (hb hby d2_24) rfl ?_
        show Steps p.tables e below (s₁.setTop (mkF m 25 #[.val (.int p1)] [(.int p1)])) _
        refine XS.bipush X0.here hx rfl (hb hby d2_25) ?_
        exact k
      by_cases hc27_75 : (122 : Int32) < p1
      · have pre76 : ∀ t, Steps p.tables e below (s₁.setTop (mkF m 30 #[.val (.int p1)] [])) t → Steps p.tables e below (s₁.setTop (entryFrame m #[(.int p1)] 1)) t := by
          intro t k
          refine pre74 t ?_
          show Steps p.tables e below (s₁.setTop (mkF m 27 #[.val (.int p1)] [(.int (122 : Int32)), (.int p1)])) _
          refine XS.icmpNo X0.here hx rfl (hb hby d2_27) rfl (tlt hc27_75).2.2.2 ?_
          exact k
        exact J30  pre76 (by rw [hv]; simp only [f2_18, if_neg hc21_72, if_pos hc27_75])
      · refine hneg ?_
        obtain ⟨fs, hr, hrun, hended, hW, hsame⟩ := X0.leave (v := some (.int (1 : Int32))) (fun h => by rw [Bd.returns] at h; cases h)
        refine ⟨_, _, pre74 _ ?_, hrun, hended, _, _, rfl, ?_, ⟨_, rfl⟩, hW, hsame.mono (by decide) (by decide)⟩
        · show Steps p.tables e below (s₁.setTop (mkF m 27 #[.val (.int p1)] [(.int (122 : Int32)), (.int p1)])) _
          refine XS.icmpYes X0.here hx rfl (pc0 := 27) (pc' := 198) rfl (hb hby d2_27) rfl (flt hc27_75).2.2.2 (by decide) (by decide) ?_
          show Steps p.tables e below (s₁.setTop (mkF m 198 #[.val (.int p1)] [])) _
          refine XS.iconst X0.here hx rfl (hb hby d2_198) ?_
          show Steps p.tables e below (s₁.setTop (mkF m 199 #[.val (.int p1)] [(.int (1 : Int32))])) _
          refine XS.goto X0.here hx rfl (pc0 := 199) (pc' := 203) rfl (hb hby d2_199) (by decide) (by decide) ?_
          show Steps p.tables e below (s₁.setTop (mkF m 203 #[.val (.int p1)] [(.int (1 : Int32))])) _
          exact retN X0 hx (t := .boolean) Bd.returns (by simp) (hb hby d2_203) hr
        · show Q2 Z p1 h0 n0 _ s₁.heap _
          rw [e0]
          refine ⟨?_, N0, rfl⟩
          rw [show f2 p1 = (1 : Int32) from (by rw [hv]; simp only [f2_18, if_neg hc21_72, if_neg hc27_75])]
  have J12 : (∀ t, Steps p.tables e below (s₁.setTop (mkF m 12 #[.val (.int p1)] [])) t → Steps p.tables e below (s₁.setTop (entryFrame m #[(.int p1)] 1)) t) → f2 p1 = f2_12 p1 → False := by
    intro  pre hv
    have pre77 : ∀ t, Steps p.tables e below (s₁.setTop (mkF m 15 #[.val (.int p1)] [(.int (95 : Int32)), (.int p1)])) t → Steps p.tables e below (s₁.setTop (entryFrame m #[(.int p1)] 1)) t := by
      intro t k
      refine pre t ?_
      show Steps p.tables e below (s₁.setTop (mkF m 12 #[.val (.int p1)] [])) _
      refine XS.iloadN X0.here hx rfl (hb hby d2_12) rfl ?_
      show Steps p.tables e below (s₁.setTop (mkF m 13 #[.val (.int p1)] [(.int p1)])) _
      refine XS.bipush X0.here hx rfl (hb hby d2_13) ?_
      exact k
    by_cases hc15_78 : p1 = (95 : Int32)
    · refine hneg ?_
      obtain ⟨fs, hr, hrun, hended, hW, hsame⟩ := X0.leave (v := some (.int (1 : Int32))) (fun h => by rw [Bd.returns] at h; cases h)
      refine ⟨_, _, pre77 _ ?_, hrun, hended, _, _, rfl, ?_, ⟨_, rfl⟩, hW, hsame.mono (by decide) (by decide)⟩
      · show Steps p.tables e below (s₁.setTop (mkF m 15 #[.val (.int p1)] [(.int (95 : Int32)), (.int p1)])) _
        refine XS.icmpYes X0.here hx rfl (pc0 := 15) (pc' := 198) rfl (hb hby d2_15) rfl (teq hc15_78).1 (by decide) (by decide) ?_
        show Steps p.tables e below (s₁.setTop (mkF m 198 #[.val (.int p1)] [])) _
        refine XS.iconst X0.here hx rfl (hb hby d2_198) ?_
        show Steps p.tables e below (s₁.setTop (mkF m 199 #[.val (.int p1)] [(.int (1 : Int32))])) _
        refine XS.goto X0.here hx rfl (pc0 := 199) (pc' := 203) rfl (hb hby d2_199) (by decide) (by decide) ?_
        show Steps p.tables e below (s₁.setTop (mkF m 203 #[.val (.int p1)] [(.int (1 : Int32))])) _
        exact retN X0 hx (t := .boolean) Bd.returns (by simp) (hb hby d2_203) hr
      · show Q2 Z p1 h0 n0 _ s₁.heap _
        rw [e0]
        refine ⟨?_, N0, rfl⟩
        rw [show f2 p1 = (1 : Int32) from (by rw [hv]; simp only [f2_12, if_pos hc15_78])]
    · have pre79 : ∀ t, Steps p.tables e below (s₁.setTop (mkF m 18 #[.val (.int p1)] [])) t → Steps p.tables e below (s₁.setTop (entryFrame m #[(.int p1)] 1)) t := by
        intro t k
        refine pre77 t ?_
        show Steps p.tables e below (s₁.setTop (mkF m 15 #[.val (.int p1)] [(.int (95 : Int32)), (.int p1)])) _
        refine XS.icmpNo X0.here hx rfl (hb hby d2_15) rfl (feq hc15_78).1 ?_
        exact k
      exact J18  pre79 (by rw [hv]; simp only [f2_12, if_neg hc15_78])
  have pre80 : ∀ t, Steps p.tables e below (s₁.setTop (mkF m 3 #[.val (.int p1)] [(.int (65 : Int32)), (.int p1)])) t → Steps p.tables e below (s₁.setTop (entryFrame m #[(.int p1)] 1)) t := by
    intro t k
    refine pre0 t ?_
    show Steps p.tables e below (s₁.setTop (mkF m 0 #[.val (.int p1)] [])) _
    refine XS.iloadN X0.here hx rfl (hb hby d2_0) rfl ?_
    show Steps p.tables e below (s₁.setTop (mkF m 1 #[.val (.int p1)] [(.int p1)])) _
    refine XS.bipush X0.here hx rfl (hb hby d2_1) ?_
    exact k
  by_cases hc3_81 : p1 < (65 : Int32)
  · have pre82 : ∀ t, Steps p.tables e below (s₁.setTop (mkF m 12 #[.val (.int p1)] [])) t → Steps p.tables e below (s₁.setTop (entryFrame m #[(.int p1)] 1)) t := by
      intro t k
      refine pre80 t ?_
      show Steps p.tables e below (s₁.setTop (mkF m 3 #[.val (.int p1)] [(.int (65 : Int32)), (.int p1)])) _
      refine XS.icmpYes X0.here hx rfl (pc0 := 3) (pc' := 12) rfl (hb hby d2_3) rfl (tlt hc3_81).1 (by decide) (by decide) ?_
      exact k
    exact J12  pre82 (by skip; simp only [f2, if_pos hc3_81])
  · have pre83 : ∀ t, Steps p.tables e below (s₁.setTop (mkF m 9 #[.val (.int p1)] [(.int (90 : Int32)), (.int p1)])) t → Steps p.tables e below (s₁.setTop (entryFrame m #[(.int p1)] 1)) t := by
      intro t k
      refine pre80 t ?_
      show Steps p.tables e below (s₁.setTop (mkF m 3 #[.val (.int p1)] [(.int (65 : Int32)), (.int p1)])) _
      refine XS.icmpNo X0.here hx rfl (hb hby d2_3) rfl (flt hc3_81).1 ?_
      show Steps p.tables e below (s₁.setTop (mkF m 6 #[.val (.int p1)] [])) _
      refine XS.iloadN X0.here hx rfl (hb hby d2_6) rfl ?_
      show Steps p.tables e below (s₁.setTop (mkF m 7 #[.val (.int p1)] [(.int p1)])) _
      refine XS.bipush X0.here hx rfl (hb hby d2_7) ?_
      exact k
    by_cases hc9_84 : (90 : Int32) < p1
    · have pre85 : ∀ t, Steps p.tables e below (s₁.setTop (mkF m 12 #[.val (.int p1)] [])) t → Steps p.tables e below (s₁.setTop (entryFrame m #[(.int p1)] 1)) t := by
        intro t k
        refine pre83 t ?_
        show Steps p.tables e below (s₁.setTop (mkF m 9 #[.val (.int p1)] [(.int (90 : Int32)), (.int p1)])) _
        refine XS.icmpNo X0.here hx rfl (hb hby d2_9) rfl (tlt hc9_84).2.2.2 ?_
        exact k
      exact J12  pre85 (by skip; simp only [f2, if_neg hc3_81, if_pos hc9_84])
    · refine hneg ?_
      obtain ⟨fs, hr, hrun, hended, hW, hsame⟩ := X0.leave (v := some (.int (1 : Int32))) (fun h => by rw [Bd.returns] at h; cases h)
      refine ⟨_, _, pre83 _ ?_, hrun, hended, _, _, rfl, ?_, ⟨_, rfl⟩, hW, hsame.mono (by decide) (by decide)⟩
      · show Steps p.tables e below (s₁.setTop (mkF m 9 #[.val (.int p1)] [(.int (90 : Int32)), (.int p1)])) _
        refine XS.icmpYes X0.here hx rfl (pc0 := 9) (pc' := 198) rfl (hb hby d2_9) rfl (flt hc9_84).2.2.2 (by decide) (by decide) ?_
        show Steps p.tables e below (s₁.setTop (mkF m 198 #[.val (.int p1)] [])) _
        refine XS.iconst X0.here hx rfl (hb hby d2_198) ?_
        show Steps p.tables e below (s₁.setTop (mkF m 199 #[.val (.int p1)] [(.int (1 : Int32))])) _
        refine XS.goto X0.here hx rfl (pc0 := 199) (pc' := 203) rfl (hb hby d2_199) (by decide) (by decide) ?_
        show Steps p.tables e below (s₁.setTop (mkF m 203 #[.val (.int p1)] [(.int (1 : Int32))])) _
        exact retN X0 hx (t := .boolean) Bd.returns (by simp) (hb hby d2_203) hr
      · show Q2 Z p1 h0 n0 _ s₁.heap _
        rw [e0]
        refine ⟨?_, N0, rfl⟩
        rw [show f2 p1 = (1 : Int32) from (by skip; simp only [f2, if_neg hc3_81, if_neg hc9_84])]

theorem d3_0 : decode method_3_code 0 = .ok (.iload_n 0, 1) := by decide +kernel
theorem d3_1 : decode method_3_code 1 = .ok (.bipush 91, 2) := by decide +kernel
theorem d3_3 : decode method_3_code 3 = .ok (.bipush 94, 2) := by decide +kernel
theorem d3_5 : decode method_3_code 5 = .ok (.invokestatic 7, 3) := by decide +kernel
theorem d3_8 : decode method_3_code 8 = .ok (.ifCond .ne 140, 3) := by decide +kernel
theorem d3_11 : decode method_3_code 11 = .ok (.iload_n 0, 1) := by decide +kernel
theorem d3_12 : decode method_3_code 12 = .ok (.bipush 96, 2) := by decide +kernel
theorem d3_14 : decode method_3_code 14 = .ok (.if_icmp .eq 134, 3) := by decide +kernel
theorem d3_17 : decode method_3_code 17 = .ok (.iload_n 0, 1) := by decide +kernel
theorem d3_18 : decode method_3_code 18 = .ok (.bipush 123, 2) := by decide +kernel
theorem d3_20 : decode method_3_code 20 = .ok (.sipush 191, 3) := by decide +kernel
theorem d3_23 : decode method_3_code 23 = .ok (.invokestatic 7, 3) := by decide +kernel
theorem d3_26 : decode method_3_code 26 = .ok (.ifCond .ne 122, 3) := by decide +kernel
theorem d3_29 : decode method_3_code 29 = .ok (.iload_n 0, 1) := by decide +kernel
theorem d3_30 : decode method_3_code 30 = .ok (.sipush 215, 3) := by decide +kernel
theorem d3_33 : decode method_3_code 33 = .ok (.if_icmp .eq 115, 3) := by decide +kernel
theorem d3_36 : decode method_3_code 36 = .ok (.iload_n 0, 1) := by decide +kernel
theorem d3_37 : decode method_3_code 37 = .ok (.sipush 247, 3) := by decide +kernel
theorem d3_40 : decode method_3_code 40 = .ok (.if_icmp .eq 108, 3) := by decide +kernel
theorem d3_43 : decode method_3_code 43 = .ok (.iload_n 0, 1) := by decide +kernel
theorem d3_44 : decode method_3_code 44 = .ok (.sipush 768, 3) := by decide +kernel
theorem d3_47 : decode method_3_code 47 = .ok (.sipush 879, 3) := by decide +kernel
theorem d3_50 : decode method_3_code 50 = .ok (.invokestatic 7, 3) := by decide +kernel
theorem d3_53 : decode method_3_code 53 = .ok (.ifCond .ne 95, 3) := by decide +kernel
theorem d3_56 : decode method_3_code 56 = .ok (.iload_n 0, 1) := by decide +kernel
theorem d3_57 : decode method_3_code 57 = .ok (.sipush 894, 3) := by decide +kernel
theorem d3_60 : decode method_3_code 60 = .ok (.if_icmp .eq 88, 3) := by decide +kernel
theorem d3_63 : decode method_3_code 63 = .ok (.iload_n 0, 1) := by decide +kernel
theorem d3_64 : decode method_3_code 64 = .ok (.sipush 8192, 3) := by decide +kernel
theorem d3_67 : decode method_3_code 67 = .ok (.sipush 8203, 3) := by decide +kernel
theorem d3_70 : decode method_3_code 70 = .ok (.invokestatic 7, 3) := by decide +kernel
theorem d3_73 : decode method_3_code 73 = .ok (.ifCond .ne 75, 3) := by decide +kernel
theorem d3_76 : decode method_3_code 76 = .ok (.iload_n 0, 1) := by decide +kernel
theorem d3_77 : decode method_3_code 77 = .ok (.sipush 8206, 3) := by decide +kernel
theorem d3_80 : decode method_3_code 80 = .ok (.sipush 8303, 3) := by decide +kernel
theorem d3_83 : decode method_3_code 83 = .ok (.invokestatic 7, 3) := by decide +kernel
theorem d3_86 : decode method_3_code 86 = .ok (.ifCond .ne 62, 3) := by decide +kernel
theorem d3_89 : decode method_3_code 89 = .ok (.iload_n 0, 1) := by decide +kernel
theorem d3_90 : decode method_3_code 90 = .ok (.sipush 8592, 3) := by decide +kernel
theorem d3_93 : decode method_3_code 93 = .ok (.sipush 11263, 3) := by decide +kernel
theorem d3_96 : decode method_3_code 96 = .ok (.invokestatic 7, 3) := by decide +kernel
theorem d3_99 : decode method_3_code 99 = .ok (.ifCond .ne 49, 3) := by decide +kernel
theorem d3_102 : decode method_3_code 102 = .ok (.iload_n 0, 1) := by decide +kernel
theorem d3_103 : decode method_3_code 103 = .ok (.sipush 12272, 3) := by decide +kernel
theorem d3_106 : decode method_3_code 106 = .ok (.sipush 12288, 3) := by decide +kernel
theorem d3_109 : decode method_3_code 109 = .ok (.invokestatic 7, 3) := by decide +kernel
theorem d3_112 : decode method_3_code 112 = .ok (.ifCond .ne 36, 3) := by decide +kernel
theorem d3_115 : decode method_3_code 115 = .ok (.iload_n 0, 1) := by decide +kernel
theorem d3_116 : decode method_3_code 116 = .ok (.ldc 13, 2) := by decide +kernel
theorem d3_118 : decode method_3_code 118 = .ok (.ldc 14, 2) := by decide +kernel
theorem d3_120 : decode method_3_code 120 = .ok (.invokestatic 7, 3) := by decide +kernel
theorem d3_123 : decode method_3_code 123 = .ok (.ifCond .ne 25, 3) := by decide +kernel
theorem d3_126 : decode method_3_code 126 = .ok (.iload_n 0, 1) := by decide +kernel
theorem d3_127 : decode method_3_code 127 = .ok (.ldc 15, 2) := by decide +kernel
theorem d3_129 : decode method_3_code 129 = .ok (.ldc 16, 2) := by decide +kernel
theorem d3_131 : decode method_3_code 131 = .ok (.invokestatic 7, 3) := by decide +kernel
theorem d3_134 : decode method_3_code 134 = .ok (.ifCond .ne 14, 3) := by decide +kernel
theorem d3_137 : decode method_3_code 137 = .ok (.iload_n 0, 1) := by decide +kernel
theorem d3_138 : decode method_3_code 138 = .ok (.ldc 17, 2) := by decide +kernel
theorem d3_140 : decode method_3_code 140 = .ok (.ldc 18, 2) := by decide +kernel
theorem d3_142 : decode method_3_code 142 = .ok (.invokestatic 7, 3) := by decide +kernel
theorem d3_145 : decode method_3_code 145 = .ok (.ifCond .eq 7, 3) := by decide +kernel
theorem d3_148 : decode method_3_code 148 = .ok (.iconst 1, 1) := by decide +kernel
theorem d3_149 : decode method_3_code 149 = .ok (.goto 4, 3) := by decide +kernel
theorem d3_152 : decode method_3_code 152 = .ok (.iconst 0, 1) := by decide +kernel
theorem d3_153 : decode method_3_code 153 = .ok (.ireturn, 1) := by decide +kernel
theorem pn_3 : plainName x.cls = true := by first | (simp [plainName, overriddenIn]; done) | decide +kernel
theorem ef_3 (m : MethodId) (p1 : Int32) : entryFrame m #[(.int p1)] 1 = mkF m 0 #[.val (.int p1)] [] := by first | (simp [entryFrame, mkF, argsToLocals, Value.category]; done) | rfl
def f3 (p1 : Int32) : Int32 := (if (f1 p1 (91 : Int32) (94 : Int32)) = (0 : Int32) then (if p1 = (96 : Int32) then (1 : Int32) else (if (f1 p1 (123 : Int32) (191 : Int32)) = (0 : Int32) then (if p1 = (215 : Int32) then (1 : Int32) else (if p1 = (247 : Int32) then (1 : Int32) else (if (f1 p1 (768 : Int32) (879 : Int32)) = (0 : Int32) then (if p1 = (894 : Int32) then (1 : Int32) else (if (f1 p1 (8192 : Int32) (8203 : Int32)) = (0 : Int32) then (if (f1 p1 (8206 : Int32) (8303 : Int32)) = (0 : Int32) then (if (f1 p1 (8592 : Int32) (11263 : Int32)) = (0 : Int32) then (if (f1 p1 (12272 : Int32) (12288 : Int32)) = (0 : Int32) then (if (f1 p1 (55296 : Int32) (63743 : Int32)) = (0 : Int32) then (if (f1 p1 (64976 : Int32) (65007 : Int32)) = (0 : Int32) then (if (f1 p1 (65534 : Int32) (65535 : Int32)) = (0 : Int32) then (0 : Int32) else (1 : Int32)) else (1 : Int32)) else (1 : Int32)) else (1 : Int32)) else (1 : Int32)) else (1 : Int32)) else (1 : Int32))) else (1 : Int32)))) else (1 : Int32))) else (1 : Int32))
def Q3 (Z : State) (p1 : Int32) (h0 : Heap) (n0 : Nat) (v : Option Value) (h : Heap) (L : List Loc) : Prop := v = some (.int (f3 p1)) ∧ Fr n0 L ∧ h = h0
set_option maxRecDepth 65536 in
set_option maxHeartbeats 40000000 in
theorem rm3 (l : Launch) (Z : State) (a0 : Array Value) (hw : ∀ d ∈ tables_1, d.before a0 Z = true) (ws : List Jvm.Cond) (p1 : Int32) (h0 : Heap) (n0 : Nat)  :
    MetFree l (⟨x.cls, "gap", "(I)Z"⟩ : MethodName) (head1 (Jvm.Cond.code (⟨x.cls, "gap", "(I)Z"⟩ : MethodName) method_3_code 1 (some .boolean) :: ws) ({ frames := 1, cells := 0, slots := 0, locals := 14 } : Room)) (fun a U => a = #[(.int p1)] ∧ Z.Warmed39 U.vm ∧ U.heap = h0) (fun _ _ _ _ _ => True) (fun _ U o U' => ∃ v L, o = .returned v ∧ Q3 Z p1 h0 n0 v U'.heap L ∧ FrameEnd U o U' L ({ frames := 1, cells := 0, slots := 0, locals := 14 } : Room).cells ({ frames := 1, cells := 0, slots := 0, locals := 14 } : Room).slots) := by
  refine MetFree.of_bodySF (plainFor_of_name pn_3) hisR ?_
  intro p e s m args below meth c s₁ Bd hml0 hP hK
  obtain ⟨rfl, hZ, hh⟩ := hP
  have hx := Bd.exec
  have hby := Bd.bytes
  have hml : c.maxLocals = 1 := hml0
  have hown0 := findClass_of_methodNamed Bd.named
  have hown : s.vm.findClass x.cls = some m.cls := hown0
  have hnm := (name_of_methodNamed Bd.named Bd.method).1
  have X0 : Stand p l e ({ frames := 1, cells := 0, slots := 0, locals := 14 } : Room) s m #[(.int p1)] below meth c s₁ [] 0 0 := Stand.of_body Bd
  have e0 : s₁.heap = h0 := by rw [← hh, Bd.state]; rfl
  have N0 := Fr.nil n0
  have pre0 : ∀ t, Steps p.tables e below (s₁.setTop (mkF m 0 #[.val (.int p1)] [])) t → Steps p.tables e below (s₁.setTop (entryFrame m #[(.int p1)] 1)) t := fun t k => castTop (ef_3 m p1) k
  refine Classical.byContradiction fun hneg => ?_
  obtain ⟨_, _, ⟨T1, L1, k1, n1⟩, -, X1, ⟨Lc1, hQ1, l1, y1, z1⟩, st1⟩ := Jvm.LawKit.callS X0 hx (y := (⟨x.cls, "in", "(III)Z"⟩ : MethodName)) hown (mvT hZ (hw _ (List.mem_of_getElem? (i := 1) rfl))) (mvT hZ (hw _ (List.mem_of_getElem? (i := 2) rfl))) (mvT hZ (hw _ (List.mem_of_getElem? (i := 3) rfl))) (mvT hZ (hw _ (List.mem_of_getElem? (i := 4) rfl))) (by decide) (backOf (W := 0) (rm1 l Z a0 hw [] p1 (91 : Int32) (94 : Int32)  h0 n0  ) hZ (hw _ (List.mem_of_getElem? (i := 4) rfl)) (hw _ (List.mem_of_getElem? (i := 3) rfl)) (by decide) (by decide)) (g := (mkF m 5 #[.val (.int p1)] [(.int (94 : Int32)), (.int (91 : Int32)), (.int p1)])) rfl (by rw [hml]; rfl) (argsL := [(.int p1), (.int (91 : Int32)), (.int (94 : Int32))]) (rest := []) (lenOf pd0 rfl) rfl (by show 2 * 0 + _ ≤ _; exact Nat.le_of_eq rfl) (hb hby d3_5) (fun _ _ => ⟨rfl, e0, (by decide : 0 + 0 ≤ _), (by decide : 0 + 0 ≤ _)⟩)
  dsimp only [Pt.U, Pt.locs, Pt.cells, Pt.slots] at X1 l1 y1 z1 st1 hQ1
  subst l1 y1 z1
  obtain ⟨rfl, N1q, e1⟩ := hQ1
  have N1 := Fr.app N0 N1q
  have pre2 : ∀ t, Steps p.tables e below (T1.setTop (mkF m 8 #[.val (.int p1)] [(.int (f1 p1 (91 : Int32) (94 : Int32)))])) t → Steps p.tables e below (s₁.setTop (entryFrame m #[(.int p1)] 1)) t := by
    intro t k
    refine pre0 t ?_
    show Steps p.tables e below (s₁.setTop (mkF m 0 #[.val (.int p1)] [])) _
    refine XS.iloadN X0.here hx rfl (hb hby d3_0) rfl ?_
    show Steps p.tables e below (s₁.setTop (mkF m 1 #[.val (.int p1)] [(.int p1)])) _
    refine XS.bipush X0.here hx rfl (hb hby d3_1) ?_
    show Steps p.tables e below (s₁.setTop (mkF m 3 #[.val (.int p1)] [(.int (91 : Int32)), (.int p1)])) _
    refine XS.bipush X0.here hx rfl (hb hby d3_3) ?_
    show Steps p.tables e below (s₁.setTop (mkF m 5 #[.val (.int p1)] [(.int (94 : Int32)), (.int (91 : Int32)), (.int p1)])) _
    refine st1 _ ?_
    exact k
  by_cases hc8_3 : (f1 p1 (91 : Int32) (94 : Int32)) = (0 : Int32)
  · have pre4 : ∀ t, Steps p.tables e below (T1.setTop (mkF m 14 #[.val (.int p1)] [(.int (96 : Int32)), (.int p1)])) t → Steps p.tables e below (s₁.setTop (entryFrame m #[(.int p1)] 1)) t := by
      intro t k
      refine pre2 t ?_
      show Steps p.tables e below (T1.setTop (mkF m 8 #[.val (.int p1)] [(.int (f1 p1 (91 : Int32) (94 : Int32)))])) _
      refine XS.ifNo X1.here hx rfl (hb hby d3_8) rfl ((if0 _ _).trans (teq hc8_3).2) ?_
      show Steps p.tables e below (T1.setTop (mkF m 11 #[.val (.int p1)] [])) _
      refine XS.iloadN X1.here hx rfl (hb hby d3_11) rfl ?_
      show Steps p.tables e below (T1.setTop (mkF m 12 #[.val (.int p1)] [(.int p1)])) _
      refine XS.bipush X1.here hx rfl (hb hby d3_12) ?_
      exact k
    by_cases hc14_5 : p1 = (96 : Int32)
    · refine hneg ?_
      obtain ⟨fs, hr, hrun, hended, hW, hsame⟩ := X1.leave (v := some (.int (1 : Int32))) (fun h => by rw [Bd.returns] at h; cases h)
      refine ⟨_, _, pre4 _ ?_, hrun, hended, _, _, rfl, ?_, ⟨_, rfl⟩, hW, hsame.mono (by decide) (by decide)⟩
      · show Steps p.tables e below (T1.setTop (mkF m 14 #[.val (.int p1)] [(.int (96 : Int32)), (.int p1)])) _
        refine XS.icmpYes X1.here hx rfl (pc0 := 14) (pc' := 148) rfl (hb hby d3_14) rfl (teq hc14_5).1 (by decide) (by decide) ?_
        show Steps p.tables e below (T1.setTop (mkF m 148 #[.val (.int p1)] [])) _
        refine XS.iconst X1.here hx rfl (hb hby d3_148) ?_
        show Steps p.tables e below (T1.setTop (mkF m 149 #[.val (.int p1)] [(.int (1 : Int32))])) _
        refine XS.goto X1.here hx rfl (pc0 := 149) (pc' := 153) rfl (hb hby d3_149) (by decide) (by decide) ?_
        show Steps p.tables e below (T1.setTop (mkF m 153 #[.val (.int p1)] [(.int (1 : Int32))])) _
        exact retN X1 hx (t := .boolean) Bd.returns (by simp) (hb hby d3_153) hr
      · show Q3 Z p1 h0 n0 _ T1.heap _
        rw [e1]
        refine ⟨?_, N1, rfl⟩
        rw [show f3 p1 = (1 : Int32) from (by skip; simp only [f3, if_pos hc8_3, if_pos hc14_5])]
    · obtain ⟨_, _, ⟨T6, L6, k6, n6⟩, -, X6, ⟨Lc6, hQ6, l6, y6, z6⟩, st6⟩ := Jvm.LawKit.callS X1 hx (y := (⟨x.cls, "in", "(III)Z"⟩ : MethodName)) hown (mvT hZ (hw _ (List.mem_of_getElem? (i := 1) rfl))) (mvT hZ (hw _ (List.mem_of_getElem? (i := 2) rfl))) (mvT hZ (hw _ (List.mem_of_getElem? (i := 3) rfl))) (mvT hZ (hw _ (List.mem_of_getElem? (i := 4) rfl))) (by decide) (backOf (W := 0) (rm1 l Z a0 hw [] p1 (123 : Int32) (191 : Int32)  h0 n0  ) hZ (hw _ (List.mem_of_getElem? (i := 4) rfl)) (hw _ (List.mem_of_getElem? (i := 3) rfl)) (by decide) (by decide)) (g := (mkF m 23 #[.val (.int p1)] [(.int (191 : Int32)), (.int (123 : Int32)), (.int p1)])) rfl (by rw [hml]; rfl) (argsL := [(.int p1), (.int (123 : Int32)), (.int (191 : Int32))]) (rest := []) (lenOf pd0 rfl) rfl (by show 2 * 0 + _ ≤ _; exact Nat.le_of_eq rfl) (hb hby d3_23) (fun _ _ => ⟨rfl, e1, (by decide : 0 + 0 ≤ _), (by decide : 0 + 0 ≤ _)⟩)
      dsimp only [Pt.U, Pt.locs, Pt.cells, Pt.slots] at X6 l6 y6 z6 st6 hQ6
      subst l6 y6 z6
      obtain ⟨rfl, N6q, e6⟩ := hQ6
      have N6 := Fr.app N1 N6q
      have pre7 : ∀ t, Steps p.tables e below (T6.setTop (mkF m 26 #[.val (.int p1)] [(.int (f1 p1 (123 : Int32) (191 : Int32)))])) t → Steps p.tables e below (s₁.setTop (entryFrame m #[(.int p1)] 1)) t := by
        intro t k
        refine pre4 t ?_
        show Steps p.tables e below (T1.setTop (mkF m 14 #[.val (.int p1)] [(.int (96 : Int32)), (.int p1)])) _
        refine XS.icmpNo X1.here hx rfl (hb hby d3_14) rfl (feq hc14_5).1 ?_
        show Steps p.tables e below (T1.setTop (mkF m 17 #[.val (.int p1)] [])) _
        refine XS.iloadN X1.here hx rfl (hb hby d3_17) rfl ?_
        show Steps p.tables e below (T1.setTop (mkF m 18 #[.val (.int p1)] [(.int p1)])) _
        refine XS.bipush X1.here hx rfl (hb hby d3_18) ?_
        show Steps p.tables e below (T1.setTop (mkF m 20 #[.val (.int p1)] [(.int (123 : Int32)), (.int p1)])) _
        refine XS.sipush X1.here hx rfl (hb hby d3_20) ?_
        show Steps p.tables e below (T1.setTop (mkF m 23 #[.val (.int p1)] [(.int (191 : Int32)), (.int (123 : Int32)), (.int p1)])) _
        refine st6 _ ?_
        exact k
      by_cases hc26_8 : (f1 p1 (123 : Int32) (191 : Int32)) = (0 : Int32)
      · have pre9 : ∀ t, Steps p.tables e below (T6.setTop (mkF m 33 #[.val (.int p1)] [(.int (215 : Int32)), (.int p1)])) t → Steps p.tables e below (s₁.setTop (entryFrame m #[(.int p1)] 1)) t := by
          intro t k
          refine pre7 t ?_
          show Steps p.tables e below (T6.setTop (mkF m 26 #[.val (.int p1)] [(.int (f1 p1 (123 : Int32) (191 : Int32)))])) _
          refine XS.ifNo X6.here hx rfl (hb hby d3_26) rfl ((if0 _ _).trans (teq hc26_8).2) ?_
          show Steps p.tables e below (T6.setTop (mkF m 29 #[.val (.int p1)] [])) _
          refine XS.iloadN X6.here hx rfl (hb hby d3_29) rfl ?_
          show Steps p.tables e below (T6.setTop (mkF m 30 #[.val (.int p1)] [(.int p1)])) _
          refine XS.sipush X6.here hx rfl (hb hby d3_30) ?_
          exact k
        by_cases hc33_10 : p1 = (215 : Int32)
        · refine hneg ?_
          obtain ⟨fs, hr, hrun, hended, hW, hsame⟩ := X6.leave (v := some (.int (1 : Int32))) (fun h => by rw [Bd.returns] at h; cases h)
          refine ⟨_, _, pre9 _ ?_, hrun, hended, _, _, rfl, ?_, ⟨_, rfl⟩, hW, hsame.mono (by decide) (by decide)⟩
          · show Steps p.tables e below (T6.setTop (mkF m 33 #[.val (.int p1)] [(.int (215 : Int32)), (.int p1)])) _
            refine XS.icmpYes X6.here hx rfl (pc0 := 33) (pc' := 148) rfl (hb hby d3_33) rfl (teq hc33_10).1 (by decide) (by decide) ?_
            show Steps p.tables e below (T6.setTop (mkF m 148 #[.val (.int p1)] [])) _
            refine XS.iconst X6.here hx rfl (hb hby d3_148) ?_
            show Steps p.tables e below (T6.setTop (mkF m 149 #[.val (.int p1)] [(.int (1 : Int32))])) _
            refine XS.goto X6.here hx rfl (pc0 := 149) (pc' := 153) rfl (hb hby d3_149) (by decide) (by decide) ?_
            show Steps p.tables e below (T6.setTop (mkF m 153 #[.val (.int p1)] [(.int (1 : Int32))])) _
            exact retN X6 hx (t := .boolean) Bd.returns (by simp) (hb hby d3_153) hr
          · show Q3 Z p1 h0 n0 _ T6.heap _
            rw [e6]
            refine ⟨?_, N6, rfl⟩
            rw [show f3 p1 = (1 : Int32) from (by skip; simp only [f3, if_pos hc8_3, if_neg hc14_5, if_pos hc26_8, if_pos hc33_10])]
        · have pre11 : ∀ t, Steps p.tables e below (T6.setTop (mkF m 40 #[.val (.int p1)] [(.int (247 : Int32)), (.int p1)])) t → Steps p.tables e below (s₁.setTop (entryFrame m #[(.int p1)] 1)) t := by
            intro t k
            refine pre9 t ?_
            show Steps p.tables e below (T6.setTop (mkF m 33 #[.val (.int p1)] [(.int (215 : Int32)), (.int p1)])) _
            refine XS.icmpNo X6.here hx rfl (hb hby d3_33) rfl (feq hc33_10).1 ?_
            show Steps p.tables e below (T6.setTop (mkF m 36 #[.val (.int p1)] [])) _
            refine XS.iloadN X6.here hx rfl (hb hby d3_36) rfl ?_
            show Steps p.tables e below (T6.setTop (mkF m 37 #[.val (.int p1)] [(.int p1)])) _
            refine XS.sipush X6.here hx rfl (hb hby d3_37) ?_
            exact k
          by_cases hc40_12 : p1 = (247 : Int32)
          · refine hneg ?_
            obtain ⟨fs, hr, hrun, hended, hW, hsame⟩ := X6.leave (v := some (.int (1 : Int32))) (fun h => by rw [Bd.returns] at h; cases h)
            refine ⟨_, _, pre11 _ ?_, hrun, hended, _, _, rfl, ?_, ⟨_, rfl⟩, hW, hsame.mono (by decide) (by decide)⟩
            · show Steps p.tables e below (T6.setTop (mkF m 40 #[.val (.int p1)] [(.int (247 : Int32)), (.int p1)])) _
              refine XS.icmpYes X6.here hx rfl (pc0 := 40) (pc' := 148) rfl (hb hby d3_40) rfl (teq hc40_12).1 (by decide) (by decide) ?_
              show Steps p.tables e below (T6.setTop (mkF m 148 #[.val (.int p1)] [])) _
              refine XS.iconst X6.here hx rfl (hb hby d3_148) ?_
              show Steps p.tables e below (T6.setTop (mkF m 149 #[.val (.int p1)] [(.int (1 : Int32))])) _
              refine XS.goto X6.here hx rfl (pc0 := 149) (pc' := 153) rfl (hb hby d3_149) (by decide) (by decide) ?_
              show Steps p.tables e below (T6.setTop (mkF m 153 #[.val (.int p1)] [(.int (1 : Int32))])) _
              exact retN X6 hx (t := .boolean) Bd.returns (by simp) (hb hby d3_153) hr
            · show Q3 Z p1 h0 n0 _ T6.heap _
              rw [e6]
              refine ⟨?_, N6, rfl⟩
              rw [show f3 p1 = (1 : Int32) from (by skip; simp only [f3, if_pos hc8_3, if_neg hc14_5, if_pos hc26_8, if_neg hc33_10, if_pos hc40_12])]
          · obtain ⟨_, _, ⟨T13, L13, k13, n13⟩, -, X13, ⟨Lc13, hQ13, l13, y13, z13⟩, st13⟩ := Jvm.LawKit.callS X6 hx (y := (⟨x.cls, "in", "(III)Z"⟩ : MethodName)) hown (mvT hZ (hw _ (List.mem_of_getElem? (i := 1) rfl))) (mvT hZ (hw _ (List.mem_of_getElem? (i := 2) rfl))) (mvT hZ (hw _ (List.mem_of_getElem? (i := 3) rfl))) (mvT hZ (hw _ (List.mem_of_getElem? (i := 4) rfl))) (by decide) (backOf (W := 0) (rm1 l Z a0 hw [] p1 (768 : Int32) (879 : Int32)  h0 n0  ) hZ (hw _ (List.mem_of_getElem? (i := 4) rfl)) (hw _ (List.mem_of_getElem? (i := 3) rfl)) (by decide) (by decide)) (g := (mkF m 50 #[.val (.int p1)] [(.int (879 : Int32)), (.int (768 : Int32)), (.int p1)])) rfl (by rw [hml]; rfl) (argsL := [(.int p1), (.int (768 : Int32)), (.int (879 : Int32))]) (rest := []) (lenOf pd0 rfl) rfl (by show 2 * 0 + _ ≤ _; exact Nat.le_of_eq rfl) (hb hby d3_50) (fun _ _ => ⟨rfl, e6, (by decide : 0 + 0 ≤ _), (by decide : 0 + 0 ≤ _)⟩)
            dsimp only [Pt.U, Pt.locs, Pt.cells, Pt.slots] at X13 l13 y13 z13 st13 hQ13
            subst l13 y13 z13
            obtain ⟨rfl, N13q, e13⟩ := hQ13
            have N13 := Fr.app N6 N13q
            have pre14 : ∀ t, Steps p.tables e below (T13.setTop (mkF m 53 #[.val (.int p1)] [(.int (f1 p1 (768 : Int32) (879 : Int32)))])) t → Steps p.tables e below (s₁.setTop (entryFrame m #[(.int p1)] 1)) t := by
              intro t k
              refine pre11 t ?_
              show Steps p.tables e below (T6.setTop (mkF m 40 #[.val (.int p1)] [(.int (247 : Int32)), (.int p1)])) _
              refine XS.icmpNo X6.here hx rfl (hb hby d3_40) rfl (feq hc40_12).1 ?_
              show Steps p.tables e below (T6.setTop (mkF m 43 #[.val (.int p1)] [])) _
              refine XS.iloadN X6.here hx rfl (hb hby d3_43) rfl ?_
              show Steps p.tables e below (T6.setTop (mkF m 44 #[.val (.int p1)] [(.int p1)])) _
              refine XS.sipush X6.here hx rfl (hb hby d3_44) ?_
              show Steps p.tables e below (T6.setTop (mkF m 47 #[.val (.int p1)] [(.int (768 : Int32)), (.int p1)])) _
              refine XS.sipush X6.here hx rfl (hb hby d3_47) ?_
              show Steps p.tables e below (T6.setTop (mkF m 50 #[.val (.int p1)] [(.int (879 : Int32)), (.int (768 : Int32)), (.int p1)])) _
              refine st13 _ ?_
              exact k
            by_cases hc53_15 : (f1 p1 (768 : Int32) (879 : Int32)) = (0 : Int32)
            · have pre16 : ∀ t, Steps p.tables e below (T13.setTop (mkF m 60 #[.val (.int p1)] [(.int (894 : Int32)), (.int p1)])) t → Steps p.tables e below (s₁.setTop (entryFrame m #[(.int p1)] 1)) t := by
                intro t k
                refine pre14 t ?_
                show Steps p.tables e below (T13.setTop (mkF m 53 #[.val (.int p1)] [(.int (f1 p1 (768 : Int32) (879 : Int32)))])) _
                refine XS.ifNo X13.here hx rfl (hb hby d3_53) rfl ((if0 _ _).trans (teq hc53_15).2) ?_
                show Steps p.tables e below (T13.setTop (mkF m 56 #[.val (.int p1)] [])) _
                refine XS.iloadN X13.here hx rfl (hb hby d3_56) rfl ?_
                show Steps p.tables e below (T13.setTop (mkF m 57 #[.val (.int p1)] [(.int p1)])) _
                refine XS.sipush X13.here hx rfl (hb hby d3_57) ?_
                exact k
              by_cases hc60_17 : p1 = (894 : Int32)
              · refine hneg ?_
                obtain ⟨fs, hr, hrun, hended, hW, hsame⟩ := X13.leave (v := some (.int (1 : Int32))) (fun h => by rw [Bd.returns] at h; cases h)
                refine ⟨_, _, pre16 _ ?_, hrun, hended, _, _, rfl, ?_, ⟨_, rfl⟩, hW, hsame.mono (by decide) (by decide)⟩
                · show Steps p.tables e below (T13.setTop (mkF m 60 #[.val (.int p1)] [(.int (894 : Int32)), (.int p1)])) _
                  refine XS.icmpYes X13.here hx rfl (pc0 := 60) (pc' := 148) rfl (hb hby d3_60) rfl (teq hc60_17).1 (by decide) (by decide) ?_
                  show Steps p.tables e below (T13.setTop (mkF m 148 #[.val (.int p1)] [])) _
                  refine XS.iconst X13.here hx rfl (hb hby d3_148) ?_
                  show Steps p.tables e below (T13.setTop (mkF m 149 #[.val (.int p1)] [(.int (1 : Int32))])) _
                  refine XS.goto X13.here hx rfl (pc0 := 149) (pc' := 153) rfl (hb hby d3_149) (by decide) (by decide) ?_
                  show Steps p.tables e below (T13.setTop (mkF m 153 #[.val (.int p1)] [(.int (1 : Int32))])) _
                  exact retN X13 hx (t := .boolean) Bd.returns (by simp) (hb hby d3_153) hr
                · show Q3 Z p1 h0 n0 _ T13.heap _
                  rw [e13]
                  refine ⟨?_, N13, rfl⟩
                  rw [show f3 p1 = (1 : Int32) from (by skip; simp only [f3, if_pos hc8_3, if_neg hc14_5, if_pos hc26_8, if_neg hc33_10, if_neg hc40_12, if_pos hc53_15, if_pos hc60_17])]
              · obtain ⟨_, _, ⟨T18, L18, k18, n18⟩, -, X18, ⟨Lc18, hQ18, l18, y18, z18⟩, st18⟩ := Jvm.LawKit.callS X13 hx (y := (⟨x.cls, "in", "(III)Z"⟩ : MethodName)) hown (mvT hZ (hw _ (List.mem_of_getElem? (i := 1) rfl))) (mvT hZ (hw _ (List.mem_of_getElem? (i := 2) rfl))) (mvT hZ (hw _ (List.mem_of_getElem? (i := 3) rfl))) (mvT hZ (hw _ (List.mem_of_getElem? (i := 4) rfl))) (by decide) (backOf (W := 0) (rm1 l Z a0 hw [] p1 (8192 : Int32) (8203 : Int32)  h0 n0  ) hZ (hw _ (List.mem_of_getElem? (i := 4) rfl)) (hw _ (List.mem_of_getElem? (i := 3) rfl)) (by decide) (by decide)) (g := (mkF m 70 #[.val (.int p1)] [(.int (8203 : Int32)), (.int (8192 : Int32)), (.int p1)])) rfl (by rw [hml]; rfl) (argsL := [(.int p1), (.int (8192 : Int32)), (.int (8203 : Int32))]) (rest := []) (lenOf pd0 rfl) rfl (by show 2 * 0 + _ ≤ _; exact Nat.le_of_eq rfl) (hb hby d3_70) (fun _ _ => ⟨rfl, e13, (by decide : 0 + 0 ≤ _), (by decide : 0 + 0 ≤ _)⟩)
                dsimp only [Pt.U, Pt.locs, Pt.cells, Pt.slots] at X18 l18 y18 z18 st18 hQ18
                subst l18 y18 z18
                obtain ⟨rfl, N18q, e18⟩ := hQ18
                have N18 := Fr.app N13 N18q
                have pre19 : ∀ t, Steps p.tables e below (T18.setTop (mkF m 73 #[.val (.int p1)] [(.int (f1 p1 (8192 : Int32) (8203 : Int32)))])) t → Steps p.tables e below (s₁.setTop (entryFrame m #[(.int p1)] 1)) t := by
                  intro t k
                  refine pre16 t ?_
                  show Steps p.tables e below (T13.setTop (mkF m 60 #[.val (.int p1)] [(.int (894 : Int32)), (.int p1)])) _
                  refine XS.icmpNo X13.here hx rfl (hb hby d3_60) rfl (feq hc60_17).1 ?_
                  show Steps p.tables e below (T13.setTop (mkF m 63 #[.val (.int p1)] [])) _
                  refine XS.iloadN X13.here hx rfl (hb hby d3_63) rfl ?_
                  show Steps p.tables e below (T13.setTop (mkF m 64 #[.val (.int p1)] [(.int p1)])) _
                  refine XS.sipush X13.here hx rfl (hb hby d3_64) ?_
                  show Steps p.tables e below (T13.setTop (mkF m 67 #[.val (.int p1)] [(.int (8192 : Int32)), (.int p1)])) _
                  refine XS.sipush X13.here hx rfl (hb hby d3_67) ?_
                  show Steps p.tables e below (T13.setTop (mkF m 70 #[.val (.int p1)] [(.int (8203 : Int32)), (.int (8192 : Int32)), (.int p1)])) _
                  refine st18 _ ?_
                  exact k
                by_cases hc73_20 : (f1 p1 (8192 : Int32) (8203 : Int32)) = (0 : Int32)
                · obtain ⟨_, _, ⟨T21, L21, k21, n21⟩, -, X21, ⟨Lc21, hQ21, l21, y21, z21⟩, st21⟩ := Jvm.LawKit.callS X18 hx (y := (⟨x.cls, "in", "(III)Z"⟩ : MethodName)) hown (mvT hZ (hw _ (List.mem_of_getElem? (i := 1) rfl))) (mvT hZ (hw _ (List.mem_of_getElem? (i := 2) rfl))) (mvT hZ (hw _ (List.mem_of_getElem? (i := 3) rfl))) (mvT hZ (hw _ (List.mem_of_getElem? (i := 4) rfl))) (by decide) (backOf (W := 0) (rm1 l Z a0 hw [] p1 (8206 : Int32) (8303 : Int32)  h0 n0  ) hZ (hw _ (List.mem_of_getElem? (i := 4) rfl)) (hw _ (List.mem_of_getElem? (i := 3) rfl)) (by decide) (by decide)) (g := (mkF m 83 #[.val (.int p1)] [(.int (8303 : Int32)), (.int (8206 : Int32)), (.int p1)])) rfl (by rw [hml]; rfl) (argsL := [(.int p1), (.int (8206 : Int32)), (.int (8303 : Int32))]) (rest := []) (lenOf pd0 rfl) rfl (by show 2 * 0 + _ ≤ _; exact Nat.le_of_eq rfl) (hb hby d3_83) (fun _ _ => ⟨rfl, e18, (by decide : 0 + 0 ≤ _), (by decide : 0 + 0 ≤ _)⟩)
                  dsimp only [Pt.U, Pt.locs, Pt.cells, Pt.slots] at X21 l21 y21 z21 st21 hQ21
                  subst l21 y21 z21
                  obtain ⟨rfl, N21q, e21⟩ := hQ21
                  have N21 := Fr.app N18 N21q
                  have pre22 : ∀ t, Steps p.tables e below (T21.setTop (mkF m 86 #[.val (.int p1)] [(.int (f1 p1 (8206 : Int32) (8303 : Int32)))])) t → Steps p.tables e below (s₁.setTop (entryFrame m #[(.int p1)] 1)) t := by
                    intro t k
                    refine pre19 t ?_
                    show Steps p.tables e below (T18.setTop (mkF m 73 #[.val (.int p1)] [(.int (f1 p1 (8192 : Int32) (8203 : Int32)))])) _
                    refine XS.ifNo X18.here hx rfl (hb hby d3_73) rfl ((if0 _ _).trans (teq hc73_20).2) ?_
                    show Steps p.tables e below (T18.setTop (mkF m 76 #[.val (.int p1)] [])) _
                    refine XS.iloadN X18.here hx rfl (hb hby d3_76) rfl ?_
                    show Steps p.tables e below (T18.setTop (mkF m 77 #[.val (.int p1)] [(.int p1)])) _
                    refine XS.sipush X18.here hx rfl (hb hby d3_77) ?_
                    show Steps p.tables e below (T18.setTop (mkF m 80 #[.val (.int p1)] [(.int (8206 : Int32)), (.int p1)])) _
                    refine XS.sipush X18.here hx rfl (hb hby d3_80) ?_
                    show Steps p.tables e below (T18.setTop (mkF m 83 #[.val (.int p1)] [(.int (8303 : Int32)), (.int (8206 : Int32)), (.int p1)])) _
                    refine st21 _ ?_
                    exact k
                  by_cases hc86_23 : (f1 p1 (8206 : Int32) (8303 : Int32)) = (0 : Int32)
                  · obtain ⟨_, _, ⟨T24, L24, k24, n24⟩, -, X24, ⟨Lc24, hQ24, l24, y24, z24⟩, st24⟩ := Jvm.LawKit.callS X21 hx (y := (⟨x.cls, "in", "(III)Z"⟩ : MethodName)) hown (mvT hZ (hw _ (List.mem_of_getElem? (i := 1) rfl))) (mvT hZ (hw _ (List.mem_of_getElem? (i := 2) rfl))) (mvT hZ (hw _ (List.mem_of_getElem? (i := 3) rfl))) (mvT hZ (hw _ (List.mem_of_getElem? (i := 4) rfl))) (by decide) (backOf (W := 0) (rm1 l Z a0 hw [] p1 (8592 : Int32) (11263 : Int32)  h0 n0  ) hZ (hw _ (List.mem_of_getElem? (i := 4) rfl)) (hw _ (List.mem_of_getElem? (i := 3) rfl)) (by decide) (by decide)) (g := (mkF m 96 #[.val (.int p1)] [(.int (11263 : Int32)), (.int (8592 : Int32)), (.int p1)])) rfl (by rw [hml]; rfl) (argsL := [(.int p1), (.int (8592 : Int32)), (.int (11263 : Int32))]) (rest := []) (lenOf pd0 rfl) rfl (by show 2 * 0 + _ ≤ _; exact Nat.le_of_eq rfl) (hb hby d3_96) (fun _ _ => ⟨rfl, e21, (by decide : 0 + 0 ≤ _), (by decide : 0 + 0 ≤ _)⟩)
                    dsimp only [Pt.U, Pt.locs, Pt.cells, Pt.slots] at X24 l24 y24 z24 st24 hQ24
                    subst l24 y24 z24
                    obtain ⟨rfl, N24q, e24⟩ := hQ24
                    have N24 := Fr.app N21 N24q
                    have pre25 : ∀ t, Steps p.tables e below (T24.setTop (mkF m 99 #[.val (.int p1)] [(.int (f1 p1 (8592 : Int32) (11263 : Int32)))])) t → Steps p.tables e below (s₁.setTop (entryFrame m #[(.int p1)] 1)) t := by
                      intro t k
                      refine pre22 t ?_
                      show Steps p.tables e below (T21.setTop (mkF m 86 #[.val (.int p1)] [(.int (f1 p1 (8206 : Int32) (8303 : Int32)))])) _
                      refine XS.ifNo X21.here hx rfl (hb hby d3_86) rfl ((if0 _ _).trans (teq hc86_23).2) ?_
                      show Steps p.tables e below (T21.setTop (mkF m 89 #[.val (.int p1)] [])) _
                      refine XS.iloadN X21.here hx rfl (hb hby d3_89) rfl ?_
                      show Steps p.tables e below (T21.setTop (mkF m 90 #[.val (.int p1)] [(.int p1)])) _
                      refine XS.sipush X21.here hx rfl (hb hby d3_90) ?_
                      show Steps p.tables e below (T21.setTop (mkF m 93 #[.val (.int p1)] [(.int (8592 : Int32)), (.int p1)])) _
                      refine XS.sipush X21.here hx rfl (hb hby d3_93) ?_
                      show Steps p.tables e below (T21.setTop (mkF m 96 #[.val (.int p1)] [(.int (11263 : Int32)), (.int (8592 : Int32)), (.int p1)])) _
                      refine st24 _ ?_
                      exact k
                    by_cases hc99_26 : (f1 p1 (8592 : Int32) (11263 : Int32)) = (0 : Int32)
                    · obtain ⟨_, _, ⟨T27, L27, k27, n27⟩, -, X27, ⟨Lc27, hQ27, l27, y27, z27⟩, st27⟩ := Jvm.LawKit.callS X24 hx (y := (⟨x.cls, "in", "(III)Z"⟩ : MethodName)) hown (mvT hZ (hw _ (List.mem_of_getElem? (i := 1) rfl))) (mvT hZ (hw _ (List.mem_of_getElem? (i := 2) rfl))) (mvT hZ (hw _ (List.mem_of_getElem? (i := 3) rfl))) (mvT hZ (hw _ (List.mem_of_getElem? (i := 4) rfl))) (by decide) (backOf (W := 0) (rm1 l Z a0 hw [] p1 (12272 : Int32) (12288 : Int32)  h0 n0  ) hZ (hw _ (List.mem_of_getElem? (i := 4) rfl)) (hw _ (List.mem_of_getElem? (i := 3) rfl)) (by decide) (by decide)) (g := (mkF m 109 #[.val (.int p1)] [(.int (12288 : Int32)), (.int (12272 : Int32)), (.int p1)])) rfl (by rw [hml]; rfl) (argsL := [(.int p1), (.int (12272 : Int32)), (.int (12288 : Int32))]) (rest := []) (lenOf pd0 rfl) rfl (by show 2 * 0 + _ ≤ _; exact Nat.le_of_eq rfl) (hb hby d3_109) (fun _ _ => ⟨rfl, e24, (by decide : 0 + 0 ≤ _), (by decide : 0 + 0 ≤ _)⟩)
                      dsimp only [Pt.U, Pt.locs, Pt.cells, Pt.slots] at X27 l27 y27 z27 st27 hQ27
                      subst l27 y27 z27
                      obtain ⟨rfl, N27q, e27⟩ := hQ27
                      have N27 := Fr.app N24 N27q
                      have pre28 : ∀ t, Steps p.tables e below (T27.setTop (mkF m 112 #[.val (.int p1)] [(.int (f1 p1 (12272 : Int32) (12288 : Int32)))])) t → Steps p.tables e below (s₁.setTop (entryFrame m #[(.int p1)] 1)) t := by
                        intro t k
                        refine pre25 t ?_
                        show Steps p.tables e below (T24.setTop (mkF m 99 #[.val (.int p1)] [(.int (f1 p1 (8592 : Int32) (11263 : Int32)))])) _
                        refine XS.ifNo X24.here hx rfl (hb hby d3_99) rfl ((if0 _ _).trans (teq hc99_26).2) ?_
                        show Steps p.tables e below (T24.setTop (mkF m 102 #[.val (.int p1)] [])) _
                        refine XS.iloadN X24.here hx rfl (hb hby d3_102) rfl ?_
                        show Steps p.tables e below (T24.setTop (mkF m 103 #[.val (.int p1)] [(.int p1)])) _
                        refine XS.sipush X24.here hx rfl (hb hby d3_103) ?_
                        show Steps p.tables e below (T24.setTop (mkF m 106 #[.val (.int p1)] [(.int (12272 : Int32)), (.int p1)])) _
                        refine XS.sipush X24.here hx rfl (hb hby d3_106) ?_
                        show Steps p.tables e below (T24.setTop (mkF m 109 #[.val (.int p1)] [(.int (12288 : Int32)), (.int (12272 : Int32)), (.int p1)])) _
                        refine st27 _ ?_
                        exact k
                      by_cases hc112_29 : (f1 p1 (12272 : Int32) (12288 : Int32)) = (0 : Int32)
                      · obtain ⟨_, _, ⟨T30, L30, k30, n30⟩, -, X30, ⟨Lc30, hQ30, l30, y30, z30⟩, st30⟩ := Jvm.LawKit.callS X27 hx (y := (⟨x.cls, "in", "(III)Z"⟩ : MethodName)) hown (mvT hZ (hw _ (List.mem_of_getElem? (i := 1) rfl))) (mvT hZ (hw _ (List.mem_of_getElem? (i := 2) rfl))) (mvT hZ (hw _ (List.mem_of_getElem? (i := 3) rfl))) (mvT hZ (hw _ (List.mem_of_getElem? (i := 4) rfl))) (by decide) (backOf (W := 0) (rm1 l Z a0 hw [] p1 (55296 : Int32) (63743 : Int32)  h0 n0  ) hZ (hw _ (List.mem_of_getElem? (i := 4) rfl)) (hw _ (List.mem_of_getElem? (i := 3) rfl)) (by decide) (by decide)) (g := (mkF m 120 #[.val (.int p1)] [(.int (63743 : Int32)), (.int (55296 : Int32)), (.int p1)])) rfl (by rw [hml]; rfl) (argsL := [(.int p1), (.int (55296 : Int32)), (.int (63743 : Int32))]) (rest := []) (lenOf pd0 rfl) rfl (by show 2 * 0 + _ ≤ _; exact Nat.le_of_eq rfl) (hb hby d3_120) (fun _ _ => ⟨rfl, e27, (by decide : 0 + 0 ≤ _), (by decide : 0 + 0 ≤ _)⟩)
                        dsimp only [Pt.U, Pt.locs, Pt.cells, Pt.slots] at X30 l30 y30 z30 st30 hQ30
                        subst l30 y30 z30
                        obtain ⟨rfl, N30q, e30⟩ := hQ30
                        have N30 := Fr.app N27 N30q
                        have pre31 : ∀ t, Steps p.tables e below (T30.setTop (mkF m 123 #[.val (.int p1)] [(.int (f1 p1 (55296 : Int32) (63743 : Int32)))])) t → Steps p.tables e below (s₁.setTop (entryFrame m #[(.int p1)] 1)) t := by
                          intro t k
                          refine pre28 t ?_
                          show Steps p.tables e below (T27.setTop (mkF m 112 #[.val (.int p1)] [(.int (f1 p1 (12272 : Int32) (12288 : Int32)))])) _
                          refine XS.ifNo X27.here hx rfl (hb hby d3_112) rfl ((if0 _ _).trans (teq hc112_29).2) ?_
                          show Steps p.tables e below (T27.setTop (mkF m 115 #[.val (.int p1)] [])) _
                          refine XS.iloadN X27.here hx rfl (hb hby d3_115) rfl ?_
                          show Steps p.tables e below (T27.setTop (mkF m 116 #[.val (.int p1)] [(.int p1)])) _
                          refine X27.ldcInt hx hown (mvT hZ (hw _ (List.mem_of_getElem? (i := 15) rfl))) (g := (mkF m 116 #[.val (.int p1)] [(.int p1)])) rfl (hb hby d3_116) _ ?_
                          show Steps p.tables e below (T27.setTop (mkF m 118 #[.val (.int p1)] [(.int (55296 : Int32)), (.int p1)])) _
                          refine X27.ldcInt hx hown (mvT hZ (hw _ (List.mem_of_getElem? (i := 16) rfl))) (g := (mkF m 118 #[.val (.int p1)] [(.int (55296 : Int32)), (.int p1)])) rfl (hb hby d3_118) _ ?_
                          show Steps p.tables e below (T27.setTop (mkF m 120 #[.val (.int p1)] [(.int (63743 : Int32)), (.int (55296 : Int32)), (.int p1)])) _
                          refine st30 _ ?_
                          exact k
                        by_cases hc123_32 : (f1 p1 (55296 : Int32) (63743 : Int32)) = (0 : Int32)
                        · obtain ⟨_, _, ⟨T33, L33, k33, n33⟩, -, X33, ⟨Lc33, hQ33, l33, y33, z33⟩, st33⟩ := Jvm.LawKit.callS X30 hx (y := (⟨x.cls, "in", "(III)Z"⟩ : MethodName)) hown (mvT hZ (hw _ (List.mem_of_getElem? (i := 1) rfl))) (mvT hZ (hw _ (List.mem_of_getElem? (i := 2) rfl))) (mvT hZ (hw _ (List.mem_of_getElem? (i := 3) rfl))) (mvT hZ (hw _ (List.mem_of_getElem? (i := 4) rfl))) (by decide) (backOf (W := 0) (rm1 l Z a0 hw [] p1 (64976 : Int32) (65007 : Int32)  h0 n0  ) hZ (hw _ (List.mem_of_getElem? (i := 4) rfl)) (hw _ (List.mem_of_getElem? (i := 3) rfl)) (by decide) (by decide)) (g := (mkF m 131 #[.val (.int p1)] [(.int (65007 : Int32)), (.int (64976 : Int32)), (.int p1)])) rfl (by rw [hml]; rfl) (argsL := [(.int p1), (.int (64976 : Int32)), (.int (65007 : Int32))]) (rest := []) (lenOf pd0 rfl) rfl (by show 2 * 0 + _ ≤ _; exact Nat.le_of_eq rfl) (hb hby d3_131) (fun _ _ => ⟨rfl, e30, (by decide : 0 + 0 ≤ _), (by decide : 0 + 0 ≤ _)⟩)
                          dsimp only [Pt.U, Pt.locs, Pt.cells, Pt.slots] at X33 l33 y33 z33 st33 hQ33
                          subst l33 y33 z33
                          obtain ⟨rfl, N33q, e33⟩ := hQ33
                          have N33 := Fr.app N30 N33q
                          have pre34 : ∀ t, Steps p.tables e below (T33.setTop (mkF m 134 #[.val (.int p1)] [(.int (f1 p1 (64976 : Int32) (65007 : Int32)))])) t → Steps p.tables e below (s₁.setTop (entryFrame m #[(.int p1)] 1)) t := by
                            intro t k
                            refine pre31 t ?_
                            show Steps p.tables e below (T30.setTop (mkF m 123 #[.val (.int p1)] [(.int (f1 p1 (55296 : Int32) (63743 : Int32)))])) _
                            refine XS.ifNo X30.here hx rfl (hb hby d3_123) rfl ((if0 _ _).trans (teq hc123_32).2) ?_
                            show Steps p.tables e below (T30.setTop (mkF m 126 #[.val (.int p1)] [])) _
                            refine XS.iloadN X30.here hx rfl (hb hby d3_126) rfl ?_
                            show Steps p.tables e below (T30.setTop (mkF m 127 #[.val (.int p1)] [(.int p1)])) _
                            refine X30.ldcInt hx hown (mvT hZ (hw _ (List.mem_of_getElem? (i := 17) rfl))) (g := (mkF m 127 #[.val (.int p1)] [(.int p1)])) rfl (hb hby d3_127) _ ?_
                            show Steps p.tables e below (T30.setTop (mkF m 129 #[.val (.int p1)] [(.int (64976 : Int32)), (.int p1)])) _
                            refine X30.ldcInt hx hown (mvT hZ (hw _ (List.mem_of_getElem? (i := 18) rfl))) (g := (mkF m 129 #[.val (.int p1)] [(.int (64976 : Int32)), (.int p1)])) rfl (hb hby d3_129) _ ?_
                            show Steps p.tables e below (T30.setTop (mkF m 131 #[.val (.int p1)] [(.int (65007 : Int32)), (.int (64976 : Int32)), (.int p1)])) _
                            refine st33 _ ?_
                            exact k
                          by_cases hc134_35 : (f1 p1 (64976 : Int32) (65007 : Int32)) = (0 : Int32)
                          · obtain ⟨_, _, ⟨T36, L36, k36, n36⟩, -, X36, ⟨Lc36, hQ36, l36, y36, z36⟩, st36⟩ := Jvm.LawKit.callS X33 hx (y := (⟨x.cls, "in", "(III)Z"⟩ : MethodName)) hown (mvT hZ (hw _ (List.mem_of_getElem? (i := 1) rfl))) (mvT hZ (hw _ (List.mem_of_getElem? (i := 2) rfl))) (mvT hZ (hw _ (List.mem_of_getElem? (i := 3) rfl))) (mvT hZ (hw _ (List.mem_of_getElem? (i := 4) rfl))) (by decide) (backOf (W := 0) (rm1 l Z a0 hw [] p1 (65534 : Int32) (65535 : Int32)  h0 n0  ) hZ (hw _ (List.mem_of_getElem? (i := 4) rfl)) (hw _ (List.mem_of_getElem? (i := 3) rfl)) (by decide) (by decide)) (g := (mkF m 142 #[.val (.int p1)] [(.int (65535 : Int32)), (.int (65534 : Int32)), (.int p1)])) rfl (by rw [hml]; rfl) (argsL := [(.int p1), (.int (65534 : Int32)), (.int (65535 : Int32))]) (rest := []) (lenOf pd0 rfl) rfl (by show 2 * 0 + _ ≤ _; exact Nat.le_of_eq rfl) (hb hby d3_142) (fun _ _ => ⟨rfl, e33, (by decide : 0 + 0 ≤ _), (by decide : 0 + 0 ≤ _)⟩)
                            dsimp only [Pt.U, Pt.locs, Pt.cells, Pt.slots] at X36 l36 y36 z36 st36 hQ36
                            subst l36 y36 z36
                            obtain ⟨rfl, N36q, e36⟩ := hQ36
                            have N36 := Fr.app N33 N36q
                            have pre37 : ∀ t, Steps p.tables e below (T36.setTop (mkF m 145 #[.val (.int p1)] [(.int (f1 p1 (65534 : Int32) (65535 : Int32)))])) t → Steps p.tables e below (s₁.setTop (entryFrame m #[(.int p1)] 1)) t := by
                              intro t k
                              refine pre34 t ?_
                              show Steps p.tables e below (T33.setTop (mkF m 134 #[.val (.int p1)] [(.int (f1 p1 (64976 : Int32) (65007 : Int32)))])) _
                              refine XS.ifNo X33.here hx rfl (hb hby d3_134) rfl ((if0 _ _).trans (teq hc134_35).2) ?_
                              show Steps p.tables e below (T33.setTop (mkF m 137 #[.val (.int p1)] [])) _
                              refine XS.iloadN X33.here hx rfl (hb hby d3_137) rfl ?_
                              show Steps p.tables e below (T33.setTop (mkF m 138 #[.val (.int p1)] [(.int p1)])) _
                              refine X33.ldcInt hx hown (mvT hZ (hw _ (List.mem_of_getElem? (i := 19) rfl))) (g := (mkF m 138 #[.val (.int p1)] [(.int p1)])) rfl (hb hby d3_138) _ ?_
                              show Steps p.tables e below (T33.setTop (mkF m 140 #[.val (.int p1)] [(.int (65534 : Int32)), (.int p1)])) _
                              refine X33.ldcInt hx hown (mvT hZ (hw _ (List.mem_of_getElem? (i := 20) rfl))) (g := (mkF m 140 #[.val (.int p1)] [(.int (65534 : Int32)), (.int p1)])) rfl (hb hby d3_140) _ ?_
                              show Steps p.tables e below (T33.setTop (mkF m 142 #[.val (.int p1)] [(.int (65535 : Int32)), (.int (65534 : Int32)), (.int p1)])) _
                              refine st36 _ ?_
                              exact k
                            by_cases hc145_38 : (f1 p1 (65534 : Int32) (65535 : Int32)) = (0 : Int32)
                            · refine hneg ?_
                              obtain ⟨fs, hr, hrun, hended, hW, hsame⟩ := X36.leave (v := some (.int (0 : Int32))) (fun h => by rw [Bd.returns] at h; cases h)
                              refine ⟨_, _, pre37 _ ?_, hrun, hended, _, _, rfl, ?_, ⟨_, rfl⟩, hW, hsame.mono (by decide) (by decide)⟩
                              · show Steps p.tables e below (T36.setTop (mkF m 145 #[.val (.int p1)] [(.int (f1 p1 (65534 : Int32) (65535 : Int32)))])) _
                                refine XS.ifYes X36.here hx rfl (pc0 := 145) (pc' := 152) rfl (hb hby d3_145) rfl ((if0 _ _).trans (teq hc145_38).1) (by decide) (by decide) ?_
                                show Steps p.tables e below (T36.setTop (mkF m 152 #[.val (.int p1)] [])) _
                                refine XS.iconst X36.here hx rfl (hb hby d3_152) ?_
                                show Steps p.tables e below (T36.setTop (mkF m 153 #[.val (.int p1)] [(.int (0 : Int32))])) _
                                exact retN X36 hx (t := .boolean) Bd.returns (by simp) (hb hby d3_153) hr
                              · show Q3 Z p1 h0 n0 _ T36.heap _
                                rw [e36]
                                refine ⟨?_, N36, rfl⟩
                                rw [show f3 p1 = (0 : Int32) from (by skip; simp only [f3, if_pos hc8_3, if_neg hc14_5, if_pos hc26_8, if_neg hc33_10, if_neg hc40_12, if_pos hc53_15, if_neg hc60_17, if_pos hc73_20, if_pos hc86_23, if_pos hc99_26, if_pos hc112_29, if_pos hc123_32, if_pos hc134_35, if_pos hc145_38])]
                            · refine hneg ?_
                              obtain ⟨fs, hr, hrun, hended, hW, hsame⟩ := X36.leave (v := some (.int (1 : Int32))) (fun h => by rw [Bd.returns] at h; cases h)
                              refine ⟨_, _, pre37 _ ?_, hrun, hended, _, _, rfl, ?_, ⟨_, rfl⟩, hW, hsame.mono (by decide) (by decide)⟩
                              · show Steps p.tables e below (T36.setTop (mkF m 145 #[.val (.int p1)] [(.int (f1 p1 (65534 : Int32) (65535 : Int32)))])) _
                                refine XS.ifNo X36.here hx rfl (hb hby d3_145) rfl ((if0 _ _).trans (feq hc145_38).1) ?_
                                show Steps p.tables e below (T36.setTop (mkF m 148 #[.val (.int p1)] [])) _
                                refine XS.iconst X36.here hx rfl (hb hby d3_148) ?_
                                show Steps p.tables e below (T36.setTop (mkF m 149 #[.val (.int p1)] [(.int (1 : Int32))])) _
                                refine XS.goto X36.here hx rfl (pc0 := 149) (pc' := 153) rfl (hb hby d3_149) (by decide) (by decide) ?_
                                show Steps p.tables e below (T36.setTop (mkF m 153 #[.val (.int p1)] [(.int (1 : Int32))])) _
                                exact retN X36 hx (t := .boolean) Bd.returns (by simp) (hb hby d3_153) hr
                              · show Q3 Z p1 h0 n0 _ T36.heap _
                                rw [e36]
                                refine ⟨?_, N36, rfl⟩
                                rw [show f3 p1 = (1 : Int32) from (by skip; simp only [f3, if_pos hc8_3, if_neg hc14_5, if_pos hc26_8, if_neg hc33_10, if_neg hc40_12, if_pos hc53_15, if_neg hc60_17, if_pos hc73_20, if_pos hc86_23, if_pos hc99_26, if_pos hc112_29, if_pos hc123_32, if_pos hc134_35, if_neg hc145_38])]
                          · refine hneg ?_
                            obtain ⟨fs, hr, hrun, hended, hW, hsame⟩ := X33.leave (v := some (.int (1 : Int32))) (fun h => by rw [Bd.returns] at h; cases h)
                            refine ⟨_, _, pre34 _ ?_, hrun, hended, _, _, rfl, ?_, ⟨_, rfl⟩, hW, hsame.mono (by decide) (by decide)⟩
                            · show Steps p.tables e below (T33.setTop (mkF m 134 #[.val (.int p1)] [(.int (f1 p1 (64976 : Int32) (65007 : Int32)))])) _
                              refine XS.ifYes X33.here hx rfl (pc0 := 134) (pc' := 148) rfl (hb hby d3_134) rfl ((if0 _ _).trans (feq hc134_35).2) (by decide) (by decide) ?_
                              show Steps p.tables e below (T33.setTop (mkF m 148 #[.val (.int p1)] [])) _
                              refine XS.iconst X33.here hx rfl (hb hby d3_148) ?_
                              show Steps p.tables e below (T33.setTop (mkF m 149 #[.val (.int p1)] [(.int (1 : Int32))])) _
                              refine XS.goto X33.here hx rfl (pc0 := 149) (pc' := 153) rfl (hb hby d3_149) (by decide) (by decide) ?_
                              show Steps p.tables e below (T33.setTop (mkF m 153 #[.val (.int p1)] [(.int (1 : Int32))])) _
                              exact retN X33 hx (t := .boolean) Bd.returns (by simp) (hb hby d3_153) hr
                            · show Q3 Z p1 h0 n0 _ T33.heap _
                              rw [e33]
                              refine ⟨?_, N33, rfl⟩
                              rw [show f3 p1 = (1 : Int32) from (by skip; simp only [f3, if_pos hc8_3, if_neg hc14_5, if_pos hc26_8, if_neg hc33_10, if_neg hc40_12, if_pos hc53_15, if_neg hc60_17, if_pos hc73_20, if_pos hc86_23, if_pos hc99_26, if_pos hc112_29, if_pos hc123_32, if_neg hc134_35])]
                        · refine hneg ?_
                          obtain ⟨fs, hr, hrun, hended, hW, hsame⟩ := X30.leave (v := some (.int (1 : Int32))) (fun h => by rw [Bd.returns] at h; cases h)
                          refine ⟨_, _, pre31 _ ?_, hrun, hended, _, _, rfl, ?_, ⟨_, rfl⟩, hW, hsame.mono (by decide) (by decide)⟩
                          · show Steps p.tables e below (T30.setTop (mkF m 123 #[.val (.int p1)] [(.int (f1 p1 (55296 : Int32) (63743 : Int32)))])) _
                            refine XS.ifYes X30.here hx rfl (pc0 := 123) (pc' := 148) rfl (hb hby d3_123) rfl ((if0 _ _).trans (feq hc123_32).2) (by decide) (by decide) ?_
                            show Steps p.tables e below (T30.setTop (mkF m 148 #[.val (.int p1)] [])) _
                            refine XS.iconst X30.here hx rfl (hb hby d3_148) ?_
                            show Steps p.tables e below (T30.setTop (mkF m 149 #[.val (.int p1)] [(.int (1 : Int32))])) _
                            refine XS.goto X30.here hx rfl (pc0 := 149) (pc' := 153) rfl (hb hby d3_149) (by decide) (by decide) ?_
                            show Steps p.tables e below (T30.setTop (mkF m 153 #[.val (.int p1)] [(.int (1 : Int32))])) _
                            exact retN X30 hx (t := .boolean) Bd.returns (by simp) (hb hby d3_153) hr
                          · show Q3 Z p1 h0 n0 _ T30.heap _
                            rw [e30]
                            refine ⟨?_, N30, rfl⟩
                            rw [show f3 p1 = (1 : Int32) from (by skip; simp only [f3, if_pos hc8_3, if_neg hc14_5, if_pos hc26_8, if_neg hc33_10, if_neg hc40_12, if_pos hc53_15, if_neg hc60_17, if_pos hc73_20, if_pos hc86_23, if_pos hc99_26, if_pos hc112_29, if_neg hc123_32])]
                      · refine hneg ?_
                        obtain ⟨fs, hr, hrun, hended, hW, hsame⟩ := X27.leave (v := some (.int (1 : Int32))) (fun h => by rw [Bd.returns] at h; cases h)
                        refine ⟨_, _, pre28 _ ?_, hrun, hended, _, _, rfl, ?_, ⟨_, rfl⟩, hW, hsame.mono (by decide) (by decide)⟩
                        · show Steps p.tables e below (T27.setTop (mkF m 112 #[.val (.int p1)] [(.int (f1 p1 (12272 : Int32) (12288 : Int32)))])) _
                          refine XS.ifYes X27.here hx rfl (pc0 := 112) (pc' := 148) rfl (hb hby d3_112) rfl ((if0 _ _).trans (feq hc112_29).2) (by decide) (by decide) ?_
                          show Steps p.tables e below (T27.setTop (mkF m 148 #[.val (.int p1)] [])) _
                          refine XS.iconst X27.here hx rfl (hb hby d3_148) ?_
                          show Steps p.tables e below (T27.setTop (mkF m 149 #[.val (.int p1)] [(.int (1 : Int32))])) _
                          refine XS.goto X27.here hx rfl (pc0 := 149) (pc' := 153) rfl (hb hby d3_149) (by decide) (by decide) ?_
                          show Steps p.tables e below (T27.setTop (mkF m 153 #[.val (.int p1)] [(.int (1 : Int32))])) _
                          exact retN X27 hx (t := .boolean) Bd.returns (by simp) (hb hby d3_153) hr
                        · show Q3 Z p1 h0 n0 _ T27.heap _
                          rw [e27]
                          refine ⟨?_, N27, rfl⟩
                          rw [show f3 p1 = (1 : Int32) from (by skip; simp only [f3, if_pos hc8_3, if_neg hc14_5, if_pos hc26_8, if_neg hc33_10, if_neg hc40_12, if_pos hc53_15, if_neg hc60_17, if_pos hc73_20, if_pos hc86_23, if_pos hc99_26, if_neg hc112_29])]
                    · refine hneg ?_
                      obtain ⟨fs, hr, hrun, hended, hW, hsame⟩ := X24.leave (v := some (.int (1 : Int32))) (fun h => by rw [Bd.returns] at h; cases h)
                      refine ⟨_, _, pre25 _ ?_, hrun, hended, _, _, rfl, ?_, ⟨_, rfl⟩, hW, hsame.mono (by decide) (by decide)⟩
                      · show Steps p.tables e below (T24.setTop (mkF m 99 #[.val (.int p1)] [(.int (f1 p1 (8592 : Int32) (11263 : Int32)))])) _
                        refine XS.ifYes X24.here hx rfl (pc0 := 99) (pc' := 148) rfl (hb hby d3_99) rfl ((if0 _ _).trans (feq hc99_26).2) (by decide) (by decide) ?_
                        show Steps p.tables e below (T24.setTop (mkF m 148 #[.val (.int p1)] [])) _
                        refine XS.iconst X24.here hx rfl (hb hby d3_148) ?_
                        show Steps p.tables e below (T24.setTop (mkF m 149 #[.val (.int p1)] [(.int (1 : Int32))])) _
                        refine XS.goto X24.here hx rfl (pc0 := 149) (pc' := 153) rfl (hb hby d3_149) (by decide) (by decide) ?_
                        show Steps p.tables e below (T24.setTop (mkF m 153 #[.val (.int p1)] [(.int (1 : Int32))])) _
                        exact retN X24 hx (t := .boolean) Bd.returns (by simp) (hb hby d3_153) hr
                      · show Q3 Z p1 h0 n0 _ T24.heap _
                        rw [e24]
                        refine ⟨?_, N24, rfl⟩
                        rw [show f3 p1 = (1 : Int32) from (by skip; simp only [f3, if_pos hc8_3, if_neg hc14_5, if_pos hc26_8, if_neg hc33_10, if_neg hc40_12, if_pos hc53_15, if_neg hc60_17, if_pos hc73_20, if_pos hc86_23, if_neg hc99_26])]
                  · refine hneg ?_
                    obtain ⟨fs, hr, hrun, hended, hW, hsame⟩ := X21.leave (v := some (.int (1 : Int32))) (fun h => by rw [Bd.returns] at h; cases h)
                    refine ⟨_, _, pre22 _ ?_, hrun, hended, _, _, rfl, ?_, ⟨_, rfl⟩, hW, hsame.mono (by decide) (by decide)⟩
                    · show Steps p.tables e below (T21.setTop (mkF m 86 #[.val (.int p1)] [(.int (f1 p1 (8206 : Int32) (8303 : Int32)))])) _
                      refine XS.ifYes X21.here hx rfl (pc0 := 86) (pc' := 148) rfl (hb hby d3_86) rfl ((if0 _ _).trans (feq hc86_23).2) (by decide) (by decide) ?_
                      show Steps p.tables e below (T21.setTop (mkF m 148 #[.val (.int p1)] [])) _
                      refine XS.iconst X21.here hx rfl (hb hby d3_148) ?_
                      show Steps p.tables e below (T21.setTop (mkF m 149 #[.val (.int p1)] [(.int (1 : Int32))])) _
                      refine XS.goto X21.here hx rfl (pc0 := 149) (pc' := 153) rfl (hb hby d3_149) (by decide) (by decide) ?_
                      show Steps p.tables e below (T21.setTop (mkF m 153 #[.val (.int p1)] [(.int (1 : Int32))])) _
                      exact retN X21 hx (t := .boolean) Bd.returns (by simp) (hb hby d3_153) hr
                    · show Q3 Z p1 h0 n0 _ T21.heap _
                      rw [e21]
                      refine ⟨?_, N21, rfl⟩
                      rw [show f3 p1 = (1 : Int32) from (by skip; simp only [f3, if_pos hc8_3, if_neg hc14_5, if_pos hc26_8, if_neg hc33_10, if_neg hc40_12, if_pos hc53_15, if_neg hc60_17, if_pos hc73_20, if_neg hc86_23])]
                · refine hneg ?_
                  obtain ⟨fs, hr, hrun, hended, hW, hsame⟩ := X18.leave (v := some (.int (1 : Int32))) (fun h => by rw [Bd.returns] at h; cases h)
                  refine ⟨_, _, pre19 _ ?_, hrun, hended, _, _, rfl, ?_, ⟨_, rfl⟩, hW, hsame.mono (by decide) (by decide)⟩
                  · show Steps p.tables e below (T18.setTop (mkF m 73 #[.val (.int p1)] [(.int (f1 p1 (8192 : Int32) (8203 : Int32)))])) _
                    refine XS.ifYes X18.here hx rfl (pc0 := 73) (pc' := 148) rfl (hb hby d3_73) rfl ((if0 _ _).trans (feq hc73_20).2) (by decide) (by decide) ?_
                    show Steps p.tables e below (T18.setTop (mkF m 148 #[.val (.int p1)] [])) _
                    refine XS.iconst X18.here hx rfl (hb hby d3_148) ?_
                    show Steps p.tables e below (T18.setTop (mkF m 149 #[.val (.int p1)] [(.int (1 : Int32))])) _
                    refine XS.goto X18.here hx rfl (pc0 := 149) (pc' := 153) rfl (hb hby d3_149) (by decide) (by decide) ?_
                    show Steps p.tables e below (T18.setTop (mkF m 153 #[.val (.int p1)] [(.int (1 : Int32))])) _
                    exact retN X18 hx (t := .boolean) Bd.returns (by simp) (hb hby d3_153) hr
                  · show Q3 Z p1 h0 n0 _ T18.heap _
                    rw [e18]
                    refine ⟨?_, N18, rfl⟩
                    rw [show f3 p1 = (1 : Int32) from (by skip; simp only [f3, if_pos hc8_3, if_neg hc14_5, if_pos hc26_8, if_neg hc33_10, if_neg hc40_12, if_pos hc53_15, if_neg hc60_17, if_neg hc73_20])]
            · refine hneg ?_
              obtain ⟨fs, hr, hrun, hended, hW, hsame⟩ := X13.leave (v := some (.int (1 : Int32))) (fun h => by rw [Bd.returns] at h; cases h)
              refine ⟨_, _, pre14 _ ?_, hrun, hended, _, _, rfl, ?_, ⟨_, rfl⟩, hW, hsame.mono (by decide) (by decide)⟩
              · show Steps p.tables e below (T13.setTop (mkF m 53 #[.val (.int p1)] [(.int (f1 p1 (768 : Int32) (879 : Int32)))])) _
                refine XS.ifYes X13.here hx rfl (pc0 := 53) (pc' := 148) rfl (hb hby d3_53) rfl ((if0 _ _).trans (feq hc53_15).2) (by decide) (by decide) ?_
                show Steps p.tables e below (T13.setTop (mkF m 148 #[.val (.int p1)] [])) _
                refine XS.iconst X13.here hx rfl (hb hby d3_148) ?_
                show Steps p.tables e below (T13.setTop (mkF m 149 #[.val (.int p1)] [(.int (1 : Int32))])) _
                refine XS.goto X13.here hx rfl (pc0 := 149) (pc' := 153) rfl (hb hby d3_149) (by decide) (by decide) ?_
                show Steps p.tables e below (T13.setTop (mkF m 153 #[.val (.int p1)] [(.int (1 : Int32))])) _
                exact retN X13 hx (t := .boolean) Bd.returns (by simp) (hb hby d3_153) hr
              · show Q3 Z p1 h0 n0 _ T13.heap _
                rw [e13]
                refine ⟨?_, N13, rfl⟩
                rw [show f3 p1 = (1 : Int32) from (by skip; simp only [f3, if_pos hc8_3, if_neg hc14_5, if_pos hc26_8, if_neg hc33_10, if_neg hc40_12, if_neg hc53_15])]
      · refine hneg ?_
        obtain ⟨fs, hr, hrun, hended, hW, hsame⟩ := X6.leave (v := some (.int (1 : Int32))) (fun h => by rw [Bd.returns] at h; cases h)
        refine ⟨_, _, pre7 _ ?_, hrun, hended, _, _, rfl, ?_, ⟨_, rfl⟩, hW, hsame.mono (by decide) (by decide)⟩
        · show Steps p.tables e below (T6.setTop (mkF m 26 #[.val (.int p1)] [(.int (f1 p1 (123 : Int32) (191 : Int32)))])) _
          refine XS.ifYes X6.here hx rfl (pc0 := 26) (pc' := 148) rfl (hb hby d3_26) rfl ((if0 _ _).trans (feq hc26_8).2) (by decide) (by decide) ?_
          show Steps p.tables e below (T6.setTop (mkF m 148 #[.val (.int p1)] [])) _
          refine XS.iconst X6.here hx rfl (hb hby d3_148) ?_
          show Steps p.tables e below (T6.setTop (mkF m 149 #[.val (.int p1)] [(.int (1 : Int32))])) _
          refine XS.goto X6.here hx rfl (pc0 := 149) (pc' := 153) rfl (hb hby d3_149) (by decide) (by decide) ?_
          show Steps p.tables e below (T6.setTop (mkF m 153 #[.val (.int p1)] [(.int (1 : Int32))])) _
          exact retN X6 hx (t := .boolean) Bd.returns (by simp) (hb hby d3_153) hr
        · show Q3 Z p1 h0 n0 _ T6.heap _
          rw [e6]
          refine ⟨?_, N6, rfl⟩
          rw [show f3 p1 = (1 : Int32) from (by skip; simp only [f3, if_pos hc8_3, if_neg hc14_5, if_neg hc26_8])]
  · refine hneg ?_
    obtain ⟨fs, hr, hrun, hended, hW, hsame⟩ := X1.leave (v := some (.int (1 : Int32))) (fun h => by rw [Bd.returns] at h; cases h)
    refine ⟨_, _, pre2 _ ?_, hrun, hended, _, _, rfl, ?_, ⟨_, rfl⟩, hW, hsame.mono (by decide) (by decide)⟩
    · show Steps p.tables e below (T1.setTop (mkF m 8 #[.val (.int p1)] [(.int (f1 p1 (91 : Int32) (94 : Int32)))])) _
      refine XS.ifYes X1.here hx rfl (pc0 := 8) (pc' := 148) rfl (hb hby d3_8) rfl ((if0 _ _).trans (feq hc8_3).2) (by decide) (by decide) ?_
      show Steps p.tables e below (T1.setTop (mkF m 148 #[.val (.int p1)] [])) _
      refine XS.iconst X1.here hx rfl (hb hby d3_148) ?_
      show Steps p.tables e below (T1.setTop (mkF m 149 #[.val (.int p1)] [(.int (1 : Int32))])) _
      refine XS.goto X1.here hx rfl (pc0 := 149) (pc' := 153) rfl (hb hby d3_149) (by decide) (by decide) ?_
      show Steps p.tables e below (T1.setTop (mkF m 153 #[.val (.int p1)] [(.int (1 : Int32))])) _
      exact retN X1 hx (t := .boolean) Bd.returns (by simp) (hb hby d3_153) hr
    · show Q3 Z p1 h0 n0 _ T1.heap _
      rw [e1]
      refine ⟨?_, N1, rfl⟩
      rw [show f3 p1 = (1 : Int32) from (by skip; simp only [f3, if_neg hc8_3])]
theorem pn_0 : plainName x.cls = true := by first | (simp [plainName, overriddenIn]; done) | decide +kernel
theorem ef_0 (m : MethodId) (p1 : Int32) : entryFrame m #[(.int p1)] maxLocals = mkF m 0 #[.val (.int p1), .unset] [] := by first | (simp [entryFrame, mkF, argsToLocals, Value.category, maxLocals]; done) | rfl
def f0 (p1 : Int32) : Int32 := (if (f1 p1 (65 : Int32) (983039 : Int32)) = (0 : Int32) then (if (f2 p1) = (0 : Int32) then (1 : Int32) else (0 : Int32)) else (if (f3 p1) = (0 : Int32) then (if (f2 p1) = (1 : Int32) then (1 : Int32) else (0 : Int32)) else (if (f2 p1) = (0 : Int32) then (1 : Int32) else (0 : Int32))))
def Q0 (Z : State) (p1 : Int32) (h0 : Heap) (n0 : Nat) (v : Option Value) (h : Heap) (L : List Loc) : Prop := v = some (.int (f0 p1)) ∧ Fr n0 L ∧ h = h0
set_option maxRecDepth 65536 in
set_option maxHeartbeats 40000000 in
theorem rm0 (l : Launch) (Z : State) (a0 : Array Value) (hw : ∀ d ∈ tables_1, d.before a0 Z = true) (ws : List Jvm.Cond) (p1 : Int32) (h0 : Heap) (n0 : Nat)  :
    MetFree l x (head1 (Jvm.Cond.code x code maxLocals ret :: ws) room_1) (fun a U => a = #[(.int p1)] ∧ Z.Warmed39 U.vm ∧ U.heap = h0) (fun _ _ _ _ _ => True) (fun _ U o U' => ∃ v L, o = .returned v ∧ Q0 Z p1 h0 n0 v U'.heap L ∧ FrameEnd U o U' L room_1.cells room_1.slots) := by
  refine MetFree.of_bodySF (plainFor_of_name pn_0) hisR ?_
  intro p e s m args below meth c s₁ Bd hml0 hP hK
  obtain ⟨rfl, hZ, hh⟩ := hP
  have hx := Bd.exec
  have hby := Bd.bytes
  have hml : c.maxLocals = 2 := hml0
  have hown0 := findClass_of_methodNamed Bd.named
  have hown : s.vm.findClass x.cls = some m.cls := hown0
  have hnm := (name_of_methodNamed Bd.named Bd.method).1
  have X0 : Stand p l e room_1 s m #[(.int p1)] below meth c s₁ [] 0 0 := Stand.of_body Bd
  have e0 : s₁.heap = h0 := by rw [← hh, Bd.state]; rfl
  have N0 := Fr.nil n0
  have pre0 : ∀ t, Steps p.tables e below (s₁.setTop (mkF m 0 #[.val (.int p1), .unset] [])) t → Steps p.tables e below (s₁.setTop (entryFrame m #[(.int p1)] maxLocals)) t := fun t k => castTop (ef_0 m p1) k
  refine Classical.byContradiction fun hneg => ?_
  obtain ⟨_, _, ⟨T1, L1, k1, n1⟩, -, X1, ⟨Lc1, hQ1, l1, y1, z1⟩, st1⟩ := Jvm.LawKit.callS X0 hx (y := (⟨x.cls, "in", "(III)Z"⟩ : MethodName)) hown (mvT hZ (hw _ (List.mem_of_getElem? (i := 1) rfl))) (mvT hZ (hw _ (List.mem_of_getElem? (i := 2) rfl))) (mvT hZ (hw _ (List.mem_of_getElem? (i := 3) rfl))) (mvT hZ (hw _ (List.mem_of_getElem? (i := 4) rfl))) (by decide) (backOf (W := 0) (rm1 l Z a0 hw [] p1 (65 : Int32) (983039 : Int32)  h0 n0  ) hZ (hw _ (List.mem_of_getElem? (i := 4) rfl)) (hw _ (List.mem_of_getElem? (i := 3) rfl)) (by decide) (by decide)) (g := (mkF m 5 #[.val (.int p1), .unset] [(.int (983039 : Int32)), (.int (65 : Int32)), (.int p1)])) rfl (by rw [hml]; rfl) (argsL := [(.int p1), (.int (65 : Int32)), (.int (983039 : Int32))]) (rest := []) (lenOf pd0 rfl) rfl (by show 2 * 0 + _ ≤ _; exact Nat.le_of_eq rfl) (hb hby at_5) (fun _ _ => ⟨rfl, e0, (by decide : 0 + 0 ≤ _), (by decide : 0 + 0 ≤ _)⟩)
  dsimp only [Pt.U, Pt.locs, Pt.cells, Pt.slots] at X1 l1 y1 z1 st1 hQ1
  subst l1 y1 z1
  obtain ⟨rfl, N1q, e1⟩ := hQ1
  have N1 := Fr.app N0 N1q
  have pre2 : ∀ t, Steps p.tables e below (T1.setTop (mkF m 8 #[.val (.int p1), .unset] [(.int (f1 p1 (65 : Int32) (983039 : Int32)))])) t → Steps p.tables e below (s₁.setTop (entryFrame m #[(.int p1)] maxLocals)) t := by
    intro t k
    refine pre0 t ?_
    show Steps p.tables e below (s₁.setTop (mkF m 0 #[.val (.int p1), .unset] [])) _
    refine XS.iloadN X0.here hx rfl (hb hby at_0) rfl ?_
    show Steps p.tables e below (s₁.setTop (mkF m 1 #[.val (.int p1), .unset] [(.int p1)])) _
    refine XS.bipush X0.here hx rfl (hb hby at_1) ?_
    show Steps p.tables e below (s₁.setTop (mkF m 3 #[.val (.int p1), .unset] [(.int (65 : Int32)), (.int p1)])) _
    refine X0.ldcInt hx hown (mvT hZ (hw _ (List.mem_of_getElem? (i := 0) rfl))) (g := (mkF m 3 #[.val (.int p1), .unset] [(.int (65 : Int32)), (.int p1)])) rfl (hb hby at_3) _ ?_
    show Steps p.tables e below (s₁.setTop (mkF m 5 #[.val (.int p1), .unset] [(.int (983039 : Int32)), (.int (65 : Int32)), (.int p1)])) _
    refine st1 _ ?_
    exact k
  by_cases hc8_3 : (f1 p1 (65 : Int32) (983039 : Int32)) = (0 : Int32)
  · obtain ⟨_, _, ⟨T4, L4, k4, n4⟩, -, X4, ⟨Lc4, hQ4, l4, y4, z4⟩, st4⟩ := Jvm.LawKit.callS X1 hx (y := (⟨site_25.cls, "isNameStart", "(I)Z"⟩ : MethodName)) hown (mvT hZ (hw _ (List.mem_of_getElem? (i := 5) rfl))) (mvT hZ (hw _ (List.mem_of_getElem? (i := 6) rfl))) (mvT hZ (hw _ (List.mem_of_getElem? (i := 7) rfl))) (mvT hZ (hw _ (List.mem_of_getElem? (i := 8) rfl))) (by decide) (backOf (W := 0) (rm2 l Z a0 hw [] p1  h0 n0  ) hZ (hw _ (List.mem_of_getElem? (i := 8) rfl)) (hw _ (List.mem_of_getElem? (i := 7) rfl)) (by decide) (by decide)) (g := (mkF m 25 #[.val (.int p1), .val (.int (0 : Int32))] [(.int p1)])) rfl (by rw [hml]; rfl) (argsL := [(.int p1)]) (rest := []) (lenOf pd1 rfl) rfl (by show 2 * 0 + _ ≤ _; exact Nat.le_of_eq rfl) (hb hby at_25) (fun _ _ => ⟨rfl, e1, (by decide : 0 + 0 ≤ _), (by decide : 0 + 0 ≤ _)⟩)
    dsimp only [Pt.U, Pt.locs, Pt.cells, Pt.slots] at X4 l4 y4 z4 st4 hQ4
    subst l4 y4 z4
    obtain ⟨rfl, N4q, e4⟩ := hQ4
    have N4 := Fr.app N1 N4q
    have pre5 : ∀ t, Steps p.tables e below (T4.setTop (mkF m 29 #[.val (.int p1), .val (.int (0 : Int32))] [(.int (0 : Int32)), (.int (f2 p1))])) t → Steps p.tables e below (s₁.setTop (entryFrame m #[(.int p1)] maxLocals)) t := by
      intro t k
      refine pre2 t ?_
      show Steps p.tables e below (T1.setTop (mkF m 8 #[.val (.int p1), .unset] [(.int (f1 p1 (65 : Int32) (983039 : Int32)))])) _
      refine XS.ifYes X1.here hx rfl (pc0 := 8) (pc' := 22) rfl (hb hby at_8) rfl ((if0 _ _).trans (teq hc8_3).1) (by decide) (by decide) ?_
      show Steps p.tables e below (T1.setTop (mkF m 22 #[.val (.int p1), .unset] [])) _
      refine XS.iconst X1.here hx rfl (hb hby at_22) ?_
      show Steps p.tables e below (T1.setTop (mkF m 23 #[.val (.int p1), .unset] [(.int (0 : Int32))])) _
      refine XS.istoreN X1.here hx rfl (hb hby at_23) rfl (l' := #[.val (.int p1), .val (.int (0 : Int32))]) rfl ?_
      show Steps p.tables e below (T1.setTop (mkF m 24 #[.val (.int p1), .val (.int (0 : Int32))] [])) _
      refine XS.iloadN X1.here hx rfl (hb hby at_24) rfl ?_
      show Steps p.tables e below (T1.setTop (mkF m 25 #[.val (.int p1), .val (.int (0 : Int32))] [(.int p1)])) _
      refine st4 _ ?_
      show Steps p.tables e below (T4.setTop (mkF m 28 #[.val (.int p1), .val (.int (0 : Int32))] [(.int (f2 p1))])) _
      refine XS.iloadN X4.here hx rfl (hb hby at_28) rfl ?_
      exact k
    by_cases hc29_6 : (f2 p1) = (0 : Int32)
    · refine hneg ?_
      obtain ⟨fs, hr, hrun, hended, hW, hsame⟩ := X4.leave (v := some (.int (1 : Int32))) (fun h => by rw [Bd.returns] at h; cases h)
      refine ⟨_, _, pre5 _ ?_, hrun, hended, _, _, rfl, ?_, ⟨_, rfl⟩, hW, hsame.mono (by decide) (by decide)⟩
      · show Steps p.tables e below (T4.setTop (mkF m 29 #[.val (.int p1), .val (.int (0 : Int32))] [(.int (0 : Int32)), (.int (f2 p1))])) _
        refine XS.icmpNo X4.here hx rfl (hb hby at_29) rfl (teq hc29_6).2 ?_
        show Steps p.tables e below (T4.setTop (mkF m 32 #[.val (.int p1), .val (.int (0 : Int32))] [])) _
        refine XS.iconst X4.here hx rfl (hb hby at_32) ?_
        show Steps p.tables e below (T4.setTop (mkF m 33 #[.val (.int p1), .val (.int (0 : Int32))] [(.int (1 : Int32))])) _
        refine XS.goto X4.here hx rfl (pc0 := 33) (pc' := 37) rfl (hb hby at_33) (by decide) (by decide) ?_
        show Steps p.tables e below (T4.setTop (mkF m 37 #[.val (.int p1), .val (.int (0 : Int32))] [(.int (1 : Int32))])) _
        exact retN X4 hx (t := .boolean) Bd.returns (by simp) (hb hby at_37) hr
      · show Q0 Z p1 h0 n0 _ T4.heap _
        rw [e4]
        refine ⟨?_, N4, rfl⟩
        rw [show f0 p1 = (1 : Int32) from (by skip; simp only [f0, if_pos hc8_3, if_pos hc29_6])]
    · refine hneg ?_
      obtain ⟨fs, hr, hrun, hended, hW, hsame⟩ := X4.leave (v := some (.int (0 : Int32))) (fun h => by rw [Bd.returns] at h; cases h)
      refine ⟨_, _, pre5 _ ?_, hrun, hended, _, _, rfl, ?_, ⟨_, rfl⟩, hW, hsame.mono (by decide) (by decide)⟩
      · show Steps p.tables e below (T4.setTop (mkF m 29 #[.val (.int p1), .val (.int (0 : Int32))] [(.int (0 : Int32)), (.int (f2 p1))])) _
        refine XS.icmpYes X4.here hx rfl (pc0 := 29) (pc' := 36) rfl (hb hby at_29) rfl (feq hc29_6).2 (by decide) (by decide) ?_
        show Steps p.tables e below (T4.setTop (mkF m 36 #[.val (.int p1), .val (.int (0 : Int32))] [])) _
        refine XS.iconst X4.here hx rfl (hb hby at_36) ?_
        show Steps p.tables e below (T4.setTop (mkF m 37 #[.val (.int p1), .val (.int (0 : Int32))] [(.int (0 : Int32))])) _
        exact retN X4 hx (t := .boolean) Bd.returns (by simp) (hb hby at_37) hr
      · show Q0 Z p1 h0 n0 _ T4.heap _
        rw [e4]
        refine ⟨?_, N4, rfl⟩
        rw [show f0 p1 = (0 : Int32) from (by skip; simp only [f0, if_pos hc8_3, if_neg hc29_6])]
  · obtain ⟨_, _, ⟨T7, L7, k7, n7⟩, -, X7, ⟨Lc7, hQ7, l7, y7, z7⟩, st7⟩ := Jvm.LawKit.callS X1 hx (y := (⟨x.cls, "gap", "(I)Z"⟩ : MethodName)) hown (mvT hZ (hw _ (List.mem_of_getElem? (i := 12) rfl))) (mvT hZ (hw _ (List.mem_of_getElem? (i := 13) rfl))) (mvT hZ (hw _ (List.mem_of_getElem? (i := 3) rfl))) (mvT hZ (hw _ (List.mem_of_getElem? (i := 14) rfl))) (by decide) (backOf (W := 0) (rm3 l Z a0 hw [] p1  h0 n0  ) hZ (hw _ (List.mem_of_getElem? (i := 14) rfl)) (hw _ (List.mem_of_getElem? (i := 3) rfl)) (by decide) (by decide)) (g := (mkF m 12 #[.val (.int p1), .unset] [(.int p1)])) rfl (by rw [hml]; rfl) (argsL := [(.int p1)]) (rest := []) (lenOf pd1 rfl) rfl (by show 2 * 0 + _ ≤ _; exact Nat.le_of_eq rfl) (hb hby at_12) (fun _ _ => ⟨rfl, e1, (by decide : 0 + 0 ≤ _), (by decide : 0 + 0 ≤ _)⟩)
    dsimp only [Pt.U, Pt.locs, Pt.cells, Pt.slots] at X7 l7 y7 z7 st7 hQ7
    subst l7 y7 z7
    obtain ⟨rfl, N7q, e7⟩ := hQ7
    have N7 := Fr.app N1 N7q
    have pre8 : ∀ t, Steps p.tables e below (T7.setTop (mkF m 15 #[.val (.int p1), .unset] [(.int (f3 p1))])) t → Steps p.tables e below (s₁.setTop (entryFrame m #[(.int p1)] maxLocals)) t := by
      intro t k
      refine pre2 t ?_
      show Steps p.tables e below (T1.setTop (mkF m 8 #[.val (.int p1), .unset] [(.int (f1 p1 (65 : Int32) (983039 : Int32)))])) _
      refine XS.ifNo X1.here hx rfl (hb hby at_8) rfl ((if0 _ _).trans (feq hc8_3).1) ?_
      show Steps p.tables e below (T1.setTop (mkF m 11 #[.val (.int p1), .unset] [])) _
      refine XS.iloadN X1.here hx rfl (hb hby at_11) rfl ?_
      show Steps p.tables e below (T1.setTop (mkF m 12 #[.val (.int p1), .unset] [(.int p1)])) _
      refine st7 _ ?_
      exact k
    by_cases hc15_9 : (f3 p1) = (0 : Int32)
    · obtain ⟨_, _, ⟨T10, L10, k10, n10⟩, -, X10, ⟨Lc10, hQ10, l10, y10, z10⟩, st10⟩ := Jvm.LawKit.callS X7 hx (y := (⟨site_25.cls, "isNameStart", "(I)Z"⟩ : MethodName)) hown (mvT hZ (hw _ (List.mem_of_getElem? (i := 5) rfl))) (mvT hZ (hw _ (List.mem_of_getElem? (i := 6) rfl))) (mvT hZ (hw _ (List.mem_of_getElem? (i := 7) rfl))) (mvT hZ (hw _ (List.mem_of_getElem? (i := 8) rfl))) (by decide) (backOf (W := 0) (rm2 l Z a0 hw [] p1  h0 n0  ) hZ (hw _ (List.mem_of_getElem? (i := 8) rfl)) (hw _ (List.mem_of_getElem? (i := 7) rfl)) (by decide) (by decide)) (g := (mkF m 25 #[.val (.int p1), .val (.int (1 : Int32))] [(.int p1)])) rfl (by rw [hml]; rfl) (argsL := [(.int p1)]) (rest := []) (lenOf pd1 rfl) rfl (by show 2 * 0 + _ ≤ _; exact Nat.le_of_eq rfl) (hb hby at_25) (fun _ _ => ⟨rfl, e7, (by decide : 0 + 0 ≤ _), (by decide : 0 + 0 ≤ _)⟩)
      dsimp only [Pt.U, Pt.locs, Pt.cells, Pt.slots] at X10 l10 y10 z10 st10 hQ10
      subst l10 y10 z10
      obtain ⟨rfl, N10q, e10⟩ := hQ10
      have N10 := Fr.app N7 N10q
      have pre11 : ∀ t, Steps p.tables e below (T10.setTop (mkF m 29 #[.val (.int p1), .val (.int (1 : Int32))] [(.int (1 : Int32)), (.int (f2 p1))])) t → Steps p.tables e below (s₁.setTop (entryFrame m #[(.int p1)] maxLocals)) t := by
        intro t k
        refine pre8 t ?_
        show Steps p.tables e below (T7.setTop (mkF m 15 #[.val (.int p1), .unset] [(.int (f3 p1))])) _
        refine XS.ifNo X7.here hx rfl (hb hby at_15) rfl ((if0 _ _).trans (teq hc15_9).2) ?_
        show Steps p.tables e below (T7.setTop (mkF m 18 #[.val (.int p1), .unset] [])) _
        refine XS.iconst X7.here hx rfl (hb hby at_18) ?_
        show Steps p.tables e below (T7.setTop (mkF m 19 #[.val (.int p1), .unset] [(.int (1 : Int32))])) _
        refine XS.goto X7.here hx rfl (pc0 := 19) (pc' := 23) rfl (hb hby at_19) (by decide) (by decide) ?_
        show Steps p.tables e below (T7.setTop (mkF m 23 #[.val (.int p1), .unset] [(.int (1 : Int32))])) _
        refine XS.istoreN X7.here hx rfl (hb hby at_23) rfl (l' := #[.val (.int p1), .val (.int (1 : Int32))]) rfl ?_
        show Steps p.tables e below (T7.setTop (mkF m 24 #[.val (.int p1), .val (.int (1 : Int32))] [])) _
        refine XS.iloadN X7.here hx rfl (hb hby at_24) rfl ?_
        show Steps p.tables e below (T7.setTop (mkF m 25 #[.val (.int p1), .val (.int (1 : Int32))] [(.int p1)])) _
        refine st10 _ ?_
        show Steps p.tables e below (T10.setTop (mkF m 28 #[.val (.int p1), .val (.int (1 : Int32))] [(.int (f2 p1))])) _
        refine XS.iloadN X10.here hx rfl (hb hby at_28) rfl ?_
        exact k
      by_cases hc29_12 : (f2 p1) = (1 : Int32)
      · refine hneg ?_
        obtain ⟨fs, hr, hrun, hended, hW, hsame⟩ := X10.leave (v := some (.int (1 : Int32))) (fun h => by rw [Bd.returns] at h; cases h)
        refine ⟨_, _, pre11 _ ?_, hrun, hended, _, _, rfl, ?_, ⟨_, rfl⟩, hW, hsame.mono (by decide) (by decide)⟩
        · show Steps p.tables e below (T10.setTop (mkF m 29 #[.val (.int p1), .val (.int (1 : Int32))] [(.int (1 : Int32)), (.int (f2 p1))])) _
          refine XS.icmpNo X10.here hx rfl (hb hby at_29) rfl (teq hc29_12).2 ?_
          show Steps p.tables e below (T10.setTop (mkF m 32 #[.val (.int p1), .val (.int (1 : Int32))] [])) _
          refine XS.iconst X10.here hx rfl (hb hby at_32) ?_
          show Steps p.tables e below (T10.setTop (mkF m 33 #[.val (.int p1), .val (.int (1 : Int32))] [(.int (1 : Int32))])) _
          refine XS.goto X10.here hx rfl (pc0 := 33) (pc' := 37) rfl (hb hby at_33) (by decide) (by decide) ?_
          show Steps p.tables e below (T10.setTop (mkF m 37 #[.val (.int p1), .val (.int (1 : Int32))] [(.int (1 : Int32))])) _
          exact retN X10 hx (t := .boolean) Bd.returns (by simp) (hb hby at_37) hr
        · show Q0 Z p1 h0 n0 _ T10.heap _
          rw [e10]
          refine ⟨?_, N10, rfl⟩
          rw [show f0 p1 = (1 : Int32) from (by skip; simp only [f0, if_neg hc8_3, if_pos hc15_9, if_pos hc29_12])]
      · refine hneg ?_
        obtain ⟨fs, hr, hrun, hended, hW, hsame⟩ := X10.leave (v := some (.int (0 : Int32))) (fun h => by rw [Bd.returns] at h; cases h)
        refine ⟨_, _, pre11 _ ?_, hrun, hended, _, _, rfl, ?_, ⟨_, rfl⟩, hW, hsame.mono (by decide) (by decide)⟩
        · show Steps p.tables e below (T10.setTop (mkF m 29 #[.val (.int p1), .val (.int (1 : Int32))] [(.int (1 : Int32)), (.int (f2 p1))])) _
          refine XS.icmpYes X10.here hx rfl (pc0 := 29) (pc' := 36) rfl (hb hby at_29) rfl (feq hc29_12).2 (by decide) (by decide) ?_
          show Steps p.tables e below (T10.setTop (mkF m 36 #[.val (.int p1), .val (.int (1 : Int32))] [])) _
          refine XS.iconst X10.here hx rfl (hb hby at_36) ?_
          show Steps p.tables e below (T10.setTop (mkF m 37 #[.val (.int p1), .val (.int (1 : Int32))] [(.int (0 : Int32))])) _
          exact retN X10 hx (t := .boolean) Bd.returns (by simp) (hb hby at_37) hr
        · show Q0 Z p1 h0 n0 _ T10.heap _
          rw [e10]
          refine ⟨?_, N10, rfl⟩
          rw [show f0 p1 = (0 : Int32) from (by skip; simp only [f0, if_neg hc8_3, if_pos hc15_9, if_neg hc29_12])]
    · obtain ⟨_, _, ⟨T13, L13, k13, n13⟩, -, X13, ⟨Lc13, hQ13, l13, y13, z13⟩, st13⟩ := Jvm.LawKit.callS X7 hx (y := (⟨site_25.cls, "isNameStart", "(I)Z"⟩ : MethodName)) hown (mvT hZ (hw _ (List.mem_of_getElem? (i := 5) rfl))) (mvT hZ (hw _ (List.mem_of_getElem? (i := 6) rfl))) (mvT hZ (hw _ (List.mem_of_getElem? (i := 7) rfl))) (mvT hZ (hw _ (List.mem_of_getElem? (i := 8) rfl))) (by decide) (backOf (W := 0) (rm2 l Z a0 hw [] p1  h0 n0  ) hZ (hw _ (List.mem_of_getElem? (i := 8) rfl)) (hw _ (List.mem_of_getElem? (i := 7) rfl)) (by decide) (by decide)) (g := (mkF m 25 #[.val (.int p1), .val (.int (0 : Int32))] [(.int p1)])) rfl (by rw [hml]; rfl) (argsL := [(.int p1)]) (rest := []) (lenOf pd1 rfl) rfl (by show 2 * 0 + _ ≤ _; exact Nat.le_of_eq rfl) (hb hby at_25) (fun _ _ => ⟨rfl, e7, (by decide : 0 + 0 ≤ _), (by decide : 0 + 0 ≤ _)⟩)
      dsimp only [Pt.U, Pt.locs, Pt.cells, Pt.slots] at X13 l13 y13 z13 st13 hQ13
      subst l13 y13 z13
      obtain ⟨rfl, N13q, e13⟩ := hQ13
      have N13 := Fr.app N7 N13q
      have pre14 : ∀ t, Steps p.tables e below (T13.setTop (mkF m 29 #[.val (.int p1), .val (.int (0 : Int32))] [(.int (0 : Int32)), (.int (f2 p1))])) t → Steps p.tables e below (s₁.setTop (entryFrame m #[(.int p1)] maxLocals)) t := by
        intro t k
        refine pre8 t ?_
        show Steps p.tables e below (T7.setTop (mkF m 15 #[.val (.int p1), .unset] [(.int (f3 p1))])) _
        refine XS.ifYes X7.here hx rfl (pc0 := 15) (pc' := 22) rfl (hb hby at_15) rfl ((if0 _ _).trans (feq hc15_9).2) (by decide) (by decide) ?_
        show Steps p.tables e below (T7.setTop (mkF m 22 #[.val (.int p1), .unset] [])) _
        refine XS.iconst X7.here hx rfl (hb hby at_22) ?_
        show Steps p.tables e below (T7.setTop (mkF m 23 #[.val (.int p1), .unset] [(.int (0 : Int32))])) _
        refine XS.istoreN X7.here hx rfl (hb hby at_23) rfl (l' := #[.val (.int p1), .val (.int (0 : Int32))]) rfl ?_
        show Steps p.tables e below (T7.setTop (mkF m 24 #[.val (.int p1), .val (.int (0 : Int32))] [])) _
        refine XS.iloadN X7.here hx rfl (hb hby at_24) rfl ?_
        show Steps p.tables e below (T7.setTop (mkF m 25 #[.val (.int p1), .val (.int (0 : Int32))] [(.int p1)])) _
        refine st13 _ ?_
        show Steps p.tables e below (T13.setTop (mkF m 28 #[.val (.int p1), .val (.int (0 : Int32))] [(.int (f2 p1))])) _
        refine XS.iloadN X13.here hx rfl (hb hby at_28) rfl ?_
        exact k
      by_cases hc29_15 : (f2 p1) = (0 : Int32)
      · refine hneg ?_
        obtain ⟨fs, hr, hrun, hended, hW, hsame⟩ := X13.leave (v := some (.int (1 : Int32))) (fun h => by rw [Bd.returns] at h; cases h)
        refine ⟨_, _, pre14 _ ?_, hrun, hended, _, _, rfl, ?_, ⟨_, rfl⟩, hW, hsame.mono (by decide) (by decide)⟩
        · show Steps p.tables e below (T13.setTop (mkF m 29 #[.val (.int p1), .val (.int (0 : Int32))] [(.int (0 : Int32)), (.int (f2 p1))])) _
          refine XS.icmpNo X13.here hx rfl (hb hby at_29) rfl (teq hc29_15).2 ?_
          show Steps p.tables e below (T13.setTop (mkF m 32 #[.val (.int p1), .val (.int (0 : Int32))] [])) _
          refine XS.iconst X13.here hx rfl (hb hby at_32) ?_
          show Steps p.tables e below (T13.setTop (mkF m 33 #[.val (.int p1), .val (.int (0 : Int32))] [(.int (1 : Int32))])) _
          refine XS.goto X13.here hx rfl (pc0 := 33) (pc' := 37) rfl (hb hby at_33) (by decide) (by decide) ?_
          show Steps p.tables e below (T13.setTop (mkF m 37 #[.val (.int p1), .val (.int (0 : Int32))] [(.int (1 : Int32))])) _
          exact retN X13 hx (t := .boolean) Bd.returns (by simp) (hb hby at_37) hr
        · show Q0 Z p1 h0 n0 _ T13.heap _
          rw [e13]
          refine ⟨?_, N13, rfl⟩
          rw [show f0 p1 = (1 : Int32) from (by skip; simp only [f0, if_neg hc8_3, if_neg hc15_9, if_pos hc29_15])]
      · refine hneg ?_
        obtain ⟨fs, hr, hrun, hended, hW, hsame⟩ := X13.leave (v := some (.int (0 : Int32))) (fun h => by rw [Bd.returns] at h; cases h)
        refine ⟨_, _, pre14 _ ?_, hrun, hended, _, _, rfl, ?_, ⟨_, rfl⟩, hW, hsame.mono (by decide) (by decide)⟩
        · show Steps p.tables e below (T13.setTop (mkF m 29 #[.val (.int p1), .val (.int (0 : Int32))] [(.int (0 : Int32)), (.int (f2 p1))])) _
          refine XS.icmpYes X13.here hx rfl (pc0 := 29) (pc' := 36) rfl (hb hby at_29) rfl (feq hc29_15).2 (by decide) (by decide) ?_
          show Steps p.tables e below (T13.setTop (mkF m 36 #[.val (.int p1), .val (.int (0 : Int32))] [])) _
          refine XS.iconst X13.here hx rfl (hb hby at_36) ?_
          show Steps p.tables e below (T13.setTop (mkF m 37 #[.val (.int p1), .val (.int (0 : Int32))] [(.int (0 : Int32))])) _
          exact retN X13 hx (t := .boolean) Bd.returns (by simp) (hb hby at_37) hr
        · show Q0 Z p1 h0 n0 _ T13.heap _
          rw [e13]
          refine ⟨?_, N13, rfl⟩
          rw [show f0 p1 = (0 : Int32) from (by skip; simp only [f0, if_neg hc8_3, if_neg hc15_9, if_neg hc29_15])]
theorem own_c65 : (65 : Int32).toInt = 65 := by decide
theorem own_c90 : (90 : Int32).toInt = 90 := by decide
theorem own_c91 : (91 : Int32).toInt = 91 := by decide
theorem own_c94 : (94 : Int32).toInt = 94 := by decide
theorem own_c95 : (95 : Int32).toInt = 95 := by decide
theorem own_c96 : (96 : Int32).toInt = 96 := by decide
theorem own_c97 : (97 : Int32).toInt = 97 := by decide
theorem own_c122 : (122 : Int32).toInt = 122 := by decide
theorem own_c123 : (123 : Int32).toInt = 123 := by decide
theorem own_c191 : (191 : Int32).toInt = 191 := by decide
theorem own_c192 : (192 : Int32).toInt = 192 := by decide
theorem own_c214 : (214 : Int32).toInt = 214 := by decide
theorem own_c215 : (215 : Int32).toInt = 215 := by decide
theorem own_c216 : (216 : Int32).toInt = 216 := by decide
theorem own_c246 : (246 : Int32).toInt = 246 := by decide
theorem own_c247 : (247 : Int32).toInt = 247 := by decide
theorem own_c248 : (248 : Int32).toInt = 248 := by decide
theorem own_c767 : (767 : Int32).toInt = 767 := by decide
theorem own_c768 : (768 : Int32).toInt = 768 := by decide
theorem own_c879 : (879 : Int32).toInt = 879 := by decide
theorem own_c880 : (880 : Int32).toInt = 880 := by decide
theorem own_c893 : (893 : Int32).toInt = 893 := by decide
theorem own_c894 : (894 : Int32).toInt = 894 := by decide
theorem own_c895 : (895 : Int32).toInt = 895 := by decide
theorem own_c8191 : (8191 : Int32).toInt = 8191 := by decide
theorem own_c8192 : (8192 : Int32).toInt = 8192 := by decide
theorem own_c8203 : (8203 : Int32).toInt = 8203 := by decide
theorem own_c8204 : (8204 : Int32).toInt = 8204 := by decide
theorem own_c8205 : (8205 : Int32).toInt = 8205 := by decide
theorem own_c8206 : (8206 : Int32).toInt = 8206 := by decide
theorem own_c8303 : (8303 : Int32).toInt = 8303 := by decide
theorem own_c8304 : (8304 : Int32).toInt = 8304 := by decide
theorem own_c8591 : (8591 : Int32).toInt = 8591 := by decide
theorem own_c8592 : (8592 : Int32).toInt = 8592 := by decide
theorem own_c11263 : (11263 : Int32).toInt = 11263 := by decide
theorem own_c11264 : (11264 : Int32).toInt = 11264 := by decide
theorem own_c12271 : (12271 : Int32).toInt = 12271 := by decide
theorem own_c12272 : (12272 : Int32).toInt = 12272 := by decide
theorem own_c12288 : (12288 : Int32).toInt = 12288 := by decide
theorem own_c12289 : (12289 : Int32).toInt = 12289 := by decide
theorem own_c55295 : (55295 : Int32).toInt = 55295 := by decide
theorem own_c55296 : (55296 : Int32).toInt = 55296 := by decide
theorem own_c63743 : (63743 : Int32).toInt = 63743 := by decide
theorem own_c63744 : (63744 : Int32).toInt = 63744 := by decide
theorem own_c64975 : (64975 : Int32).toInt = 64975 := by decide
theorem own_c64976 : (64976 : Int32).toInt = 64976 := by decide
theorem own_c65007 : (65007 : Int32).toInt = 65007 := by decide
theorem own_c65008 : (65008 : Int32).toInt = 65008 := by decide
theorem own_c65533 : (65533 : Int32).toInt = 65533 := by decide
theorem own_c65534 : (65534 : Int32).toInt = 65534 := by decide
theorem own_c65535 : (65535 : Int32).toInt = 65535 := by decide
theorem own_c65536 : (65536 : Int32).toInt = 65536 := by decide
theorem own_c983039 : (983039 : Int32).toInt = 983039 := by decide
theorem own_in (c lo hi : Int32) : (f1 c lo hi = 0) ↔ ¬ (lo.toInt ≤ c.toInt ∧ c.toInt ≤ hi.toInt) := by
  unfold f1
  simp only [Int32.lt_iff_toInt_lt]
  split
  · simp only [true_iff]; omega
  · split
    · simp only [true_iff]; omega
    · constructor
      · intro h; exact absurd h (by decide)
      · intro h; omega
theorem own_g184 (c : Int32) : f2_184 c = if (65536 ≤ c.toInt ∧ c.toInt ≤ 983039) then 1 else 0 := by
  unfold f2_184
  simp only [Int32.lt_iff_toInt_lt, ← Int32.toInt_inj, own_c65, own_c90, own_c91, own_c94, own_c95, own_c96, own_c97, own_c122, own_c123, own_c191, own_c192, own_c214, own_c215, own_c216, own_c246, own_c247, own_c248, own_c767, own_c768, own_c879, own_c880, own_c893, own_c894, own_c895, own_c8191, own_c8192, own_c8203, own_c8204, own_c8205, own_c8206, own_c8303, own_c8304, own_c8591, own_c8592, own_c11263, own_c11264, own_c12271, own_c12272, own_c12288, own_c12289, own_c55295, own_c55296, own_c63743, own_c63744, own_c64975, own_c64976, own_c65007, own_c65008, own_c65533, own_c65534, own_c65535, own_c65536, own_c983039]
  repeat' split
  all_goals first | rfl | omega
theorem own_g170 (c : Int32) : f2_170 c = if (65008 ≤ c.toInt ∧ c.toInt ≤ 65533) ∨ (65536 ≤ c.toInt ∧ c.toInt ≤ 983039) then 1 else 0 := by
  unfold f2_170
  simp only [Int32.lt_iff_toInt_lt, ← Int32.toInt_inj, own_g184, own_c65, own_c90, own_c91, own_c94, own_c95, own_c96, own_c97, own_c122, own_c123, own_c191, own_c192, own_c214, own_c215, own_c216, own_c246, own_c247, own_c248, own_c767, own_c768, own_c879, own_c880, own_c893, own_c894, own_c895, own_c8191, own_c8192, own_c8203, own_c8204, own_c8205, own_c8206, own_c8303, own_c8304, own_c8591, own_c8592, own_c11263, own_c11264, own_c12271, own_c12272, own_c12288, own_c12289, own_c55295, own_c55296, own_c63743, own_c63744, own_c64975, own_c64976, own_c65007, own_c65008, own_c65533, own_c65534, own_c65535, own_c65536, own_c983039]
  repeat' split
  all_goals first | rfl | omega
theorem own_g156 (c : Int32) : f2_156 c = if (63744 ≤ c.toInt ∧ c.toInt ≤ 64975) ∨ (65008 ≤ c.toInt ∧ c.toInt ≤ 65533) ∨ (65536 ≤ c.toInt ∧ c.toInt ≤ 983039) then 1 else 0 := by
  unfold f2_156
  simp only [Int32.lt_iff_toInt_lt, ← Int32.toInt_inj, own_g170, own_c65, own_c90, own_c91, own_c94, own_c95, own_c96, own_c97, own_c122, own_c123, own_c191, own_c192, own_c214, own_c215, own_c216, own_c246, own_c247, own_c248, own_c767, own_c768, own_c879, own_c880, own_c893, own_c894, own_c895, own_c8191, own_c8192, own_c8203, own_c8204, own_c8205, own_c8206, own_c8303, own_c8304, own_c8591, own_c8592, own_c11263, own_c11264, own_c12271, own_c12272, own_c12288, own_c12289, own_c55295, own_c55296, own_c63743, own_c63744, own_c64975, own_c64976, own_c65007, own_c65008, own_c65533, own_c65534, own_c65535, own_c65536, own_c983039]
  repeat' split
  all_goals first | rfl | omega
theorem own_g142 (c : Int32) : f2_142 c = if (12289 ≤ c.toInt ∧ c.toInt ≤ 55295) ∨ (63744 ≤ c.toInt ∧ c.toInt ≤ 64975) ∨ (65008 ≤ c.toInt ∧ c.toInt ≤ 65533) ∨ (65536 ≤ c.toInt ∧ c.toInt ≤ 983039) then 1 else 0 := by
  unfold f2_142
  simp only [Int32.lt_iff_toInt_lt, ← Int32.toInt_inj, own_g156, own_c65, own_c90, own_c91, own_c94, own_c95, own_c96, own_c97, own_c122, own_c123, own_c191, own_c192, own_c214, own_c215, own_c216, own_c246, own_c247, own_c248, own_c767, own_c768, own_c879, own_c880, own_c893, own_c894, own_c895, own_c8191, own_c8192, own_c8203, own_c8204, own_c8205, own_c8206, own_c8303, own_c8304, own_c8591, own_c8592, own_c11263, own_c11264, own_c12271, own_c12272, own_c12288, own_c12289, own_c55295, own_c55296, own_c63743, own_c63744, own_c64975, own_c64976, own_c65007, own_c65008, own_c65533, own_c65534, own_c65535, own_c65536, own_c983039]
  repeat' split
  all_goals first | rfl | omega
theorem own_g128 (c : Int32) : f2_128 c = if (11264 ≤ c.toInt ∧ c.toInt ≤ 12271) ∨ (12289 ≤ c.toInt ∧ c.toInt ≤ 55295) ∨ (63744 ≤ c.toInt ∧ c.toInt ≤ 64975) ∨ (65008 ≤ c.toInt ∧ c.toInt ≤ 65533) ∨ (65536 ≤ c.toInt ∧ c.toInt ≤ 983039) then 1 else 0 := by
  unfold f2_128
  simp only [Int32.lt_iff_toInt_lt, ← Int32.toInt_inj, own_g142, own_c65, own_c90, own_c91, own_c94, own_c95, own_c96, own_c97, own_c122, own_c123, own_c191, own_c192, own_c214, own_c215, own_c216, own_c246, own_c247, own_c248, own_c767, own_c768, own_c879, own_c880, own_c893, own_c894, own_c895, own_c8191, own_c8192, own_c8203, own_c8204, own_c8205, own_c8206, own_c8303, own_c8304, own_c8591, own_c8592, own_c11263, own_c11264, own_c12271, own_c12272, own_c12288, own_c12289, own_c55295, own_c55296, own_c63743, own_c63744, own_c64975, own_c64976, own_c65007, own_c65008, own_c65533, own_c65534, own_c65535, own_c65536, own_c983039]
  repeat' split
  all_goals first | rfl | omega
theorem own_g114 (c : Int32) : f2_114 c = if (8304 ≤ c.toInt ∧ c.toInt ≤ 8591) ∨ (11264 ≤ c.toInt ∧ c.toInt ≤ 12271) ∨ (12289 ≤ c.toInt ∧ c.toInt ≤ 55295) ∨ (63744 ≤ c.toInt ∧ c.toInt ≤ 64975) ∨ (65008 ≤ c.toInt ∧ c.toInt ≤ 65533) ∨ (65536 ≤ c.toInt ∧ c.toInt ≤ 983039) then 1 else 0 := by
  unfold f2_114
  simp only [Int32.lt_iff_toInt_lt, ← Int32.toInt_inj, own_g128, own_c65, own_c90, own_c91, own_c94, own_c95, own_c96, own_c97, own_c122, own_c123, own_c191, own_c192, own_c214, own_c215, own_c216, own_c246, own_c247, own_c248, own_c767, own_c768, own_c879, own_c880, own_c893, own_c894, own_c895, own_c8191, own_c8192, own_c8203, own_c8204, own_c8205, own_c8206, own_c8303, own_c8304, own_c8591, own_c8592, own_c11263, own_c11264, own_c12271, own_c12272, own_c12288, own_c12289, own_c55295, own_c55296, own_c63743, own_c63744, own_c64975, own_c64976, own_c65007, own_c65008, own_c65533, own_c65534, own_c65535, own_c65536, own_c983039]
  repeat' split
  all_goals first | rfl | omega
theorem own_g100 (c : Int32) : f2_100 c = if (8204 ≤ c.toInt ∧ c.toInt ≤ 8205) ∨ (8304 ≤ c.toInt ∧ c.toInt ≤ 8591) ∨ (11264 ≤ c.toInt ∧ c.toInt ≤ 12271) ∨ (12289 ≤ c.toInt ∧ c.toInt ≤ 55295) ∨ (63744 ≤ c.toInt ∧ c.toInt ≤ 64975) ∨ (65008 ≤ c.toInt ∧ c.toInt ≤ 65533) ∨ (65536 ≤ c.toInt ∧ c.toInt ≤ 983039) then 1 else 0 := by
  unfold f2_100
  simp only [Int32.lt_iff_toInt_lt, ← Int32.toInt_inj, own_g114, own_c65, own_c90, own_c91, own_c94, own_c95, own_c96, own_c97, own_c122, own_c123, own_c191, own_c192, own_c214, own_c215, own_c216, own_c246, own_c247, own_c248, own_c767, own_c768, own_c879, own_c880, own_c893, own_c894, own_c895, own_c8191, own_c8192, own_c8203, own_c8204, own_c8205, own_c8206, own_c8303, own_c8304, own_c8591, own_c8592, own_c11263, own_c11264, own_c12271, own_c12272, own_c12288, own_c12289, own_c55295, own_c55296, own_c63743, own_c63744, own_c64975, own_c64976, own_c65007, own_c65008, own_c65533, own_c65534, own_c65535, own_c65536, own_c983039]
  repeat' split
  all_goals first | rfl | omega
theorem own_g86 (c : Int32) : f2_86 c = if (895 ≤ c.toInt ∧ c.toInt ≤ 8191) ∨ (8204 ≤ c.toInt ∧ c.toInt ≤ 8205) ∨ (8304 ≤ c.toInt ∧ c.toInt ≤ 8591) ∨ (11264 ≤ c.toInt ∧ c.toInt ≤ 12271) ∨ (12289 ≤ c.toInt ∧ c.toInt ≤ 55295) ∨ (63744 ≤ c.toInt ∧ c.toInt ≤ 64975) ∨ (65008 ≤ c.toInt ∧ c.toInt ≤ 65533) ∨ (65536 ≤ c.toInt ∧ c.toInt ≤ 983039) then 1 else 0 := by
  unfold f2_86
  simp only [Int32.lt_iff_toInt_lt, ← Int32.toInt_inj, own_g100, own_c65, own_c90, own_c91, own_c94, own_c95, own_c96, own_c97, own_c122, own_c123, own_c191, own_c192, own_c214, own_c215, own_c216, own_c246, own_c247, own_c248, own_c767, own_c768, own_c879, own_c880, own_c893, own_c894, own_c895, own_c8191, own_c8192, own_c8203, own_c8204, own_c8205, own_c8206, own_c8303, own_c8304, own_c8591, own_c8592, own_c11263, own_c11264, own_c12271, own_c12272, own_c12288, own_c12289, own_c55295, own_c55296, own_c63743, own_c63744, own_c64975, own_c64976, own_c65007, own_c65008, own_c65533, own_c65534, own_c65535, own_c65536, own_c983039]
  repeat' split
  all_goals first | rfl | omega
theorem own_g72 (c : Int32) : f2_72 c = if (880 ≤ c.toInt ∧ c.toInt ≤ 893) ∨ (895 ≤ c.toInt ∧ c.toInt ≤ 8191) ∨ (8204 ≤ c.toInt ∧ c.toInt ≤ 8205) ∨ (8304 ≤ c.toInt ∧ c.toInt ≤ 8591) ∨ (11264 ≤ c.toInt ∧ c.toInt ≤ 12271) ∨ (12289 ≤ c.toInt ∧ c.toInt ≤ 55295) ∨ (63744 ≤ c.toInt ∧ c.toInt ≤ 64975) ∨ (65008 ≤ c.toInt ∧ c.toInt ≤ 65533) ∨ (65536 ≤ c.toInt ∧ c.toInt ≤ 983039) then 1 else 0 := by
  unfold f2_72
  simp only [Int32.lt_iff_toInt_lt, ← Int32.toInt_inj, own_g86, own_c65, own_c90, own_c91, own_c94, own_c95, own_c96, own_c97, own_c122, own_c123, own_c191, own_c192, own_c214, own_c215, own_c216, own_c246, own_c247, own_c248, own_c767, own_c768, own_c879, own_c880, own_c893, own_c894, own_c895, own_c8191, own_c8192, own_c8203, own_c8204, own_c8205, own_c8206, own_c8303, own_c8304, own_c8591, own_c8592, own_c11263, own_c11264, own_c12271, own_c12272, own_c12288, own_c12289, own_c55295, own_c55296, own_c63743, own_c63744, own_c64975, own_c64976, own_c65007, own_c65008, own_c65533, own_c65534, own_c65535, own_c65536, own_c983039]
  repeat' split
  all_goals first | rfl | omega
theorem own_g58 (c : Int32) : f2_58 c = if (248 ≤ c.toInt ∧ c.toInt ≤ 767) ∨ (880 ≤ c.toInt ∧ c.toInt ≤ 893) ∨ (895 ≤ c.toInt ∧ c.toInt ≤ 8191) ∨ (8204 ≤ c.toInt ∧ c.toInt ≤ 8205) ∨ (8304 ≤ c.toInt ∧ c.toInt ≤ 8591) ∨ (11264 ≤ c.toInt ∧ c.toInt ≤ 12271) ∨ (12289 ≤ c.toInt ∧ c.toInt ≤ 55295) ∨ (63744 ≤ c.toInt ∧ c.toInt ≤ 64975) ∨ (65008 ≤ c.toInt ∧ c.toInt ≤ 65533) ∨ (65536 ≤ c.toInt ∧ c.toInt ≤ 983039) then 1 else 0 := by
  unfold f2_58
  simp only [Int32.lt_iff_toInt_lt, ← Int32.toInt_inj, own_g72, own_c65, own_c90, own_c91, own_c94, own_c95, own_c96, own_c97, own_c122, own_c123, own_c191, own_c192, own_c214, own_c215, own_c216, own_c246, own_c247, own_c248, own_c767, own_c768, own_c879, own_c880, own_c893, own_c894, own_c895, own_c8191, own_c8192, own_c8203, own_c8204, own_c8205, own_c8206, own_c8303, own_c8304, own_c8591, own_c8592, own_c11263, own_c11264, own_c12271, own_c12272, own_c12288, own_c12289, own_c55295, own_c55296, own_c63743, own_c63744, own_c64975, own_c64976, own_c65007, own_c65008, own_c65533, own_c65534, own_c65535, own_c65536, own_c983039]
  repeat' split
  all_goals first | rfl | omega
theorem own_g44 (c : Int32) : f2_44 c = if (216 ≤ c.toInt ∧ c.toInt ≤ 246) ∨ (248 ≤ c.toInt ∧ c.toInt ≤ 767) ∨ (880 ≤ c.toInt ∧ c.toInt ≤ 893) ∨ (895 ≤ c.toInt ∧ c.toInt ≤ 8191) ∨ (8204 ≤ c.toInt ∧ c.toInt ≤ 8205) ∨ (8304 ≤ c.toInt ∧ c.toInt ≤ 8591) ∨ (11264 ≤ c.toInt ∧ c.toInt ≤ 12271) ∨ (12289 ≤ c.toInt ∧ c.toInt ≤ 55295) ∨ (63744 ≤ c.toInt ∧ c.toInt ≤ 64975) ∨ (65008 ≤ c.toInt ∧ c.toInt ≤ 65533) ∨ (65536 ≤ c.toInt ∧ c.toInt ≤ 983039) then 1 else 0 := by
  unfold f2_44
  simp only [Int32.lt_iff_toInt_lt, ← Int32.toInt_inj, own_g58, own_c65, own_c90, own_c91, own_c94, own_c95, own_c96, own_c97, own_c122, own_c123, own_c191, own_c192, own_c214, own_c215, own_c216, own_c246, own_c247, own_c248, own_c767, own_c768, own_c879, own_c880, own_c893, own_c894, own_c895, own_c8191, own_c8192, own_c8203, own_c8204, own_c8205, own_c8206, own_c8303, own_c8304, own_c8591, own_c8592, own_c11263, own_c11264, own_c12271, own_c12272, own_c12288, own_c12289, own_c55295, own_c55296, own_c63743, own_c63744, own_c64975, own_c64976, own_c65007, own_c65008, own_c65533, own_c65534, own_c65535, own_c65536, own_c983039]
  repeat' split
  all_goals first | rfl | omega
theorem own_g30 (c : Int32) : f2_30 c = if (192 ≤ c.toInt ∧ c.toInt ≤ 214) ∨ (216 ≤ c.toInt ∧ c.toInt ≤ 246) ∨ (248 ≤ c.toInt ∧ c.toInt ≤ 767) ∨ (880 ≤ c.toInt ∧ c.toInt ≤ 893) ∨ (895 ≤ c.toInt ∧ c.toInt ≤ 8191) ∨ (8204 ≤ c.toInt ∧ c.toInt ≤ 8205) ∨ (8304 ≤ c.toInt ∧ c.toInt ≤ 8591) ∨ (11264 ≤ c.toInt ∧ c.toInt ≤ 12271) ∨ (12289 ≤ c.toInt ∧ c.toInt ≤ 55295) ∨ (63744 ≤ c.toInt ∧ c.toInt ≤ 64975) ∨ (65008 ≤ c.toInt ∧ c.toInt ≤ 65533) ∨ (65536 ≤ c.toInt ∧ c.toInt ≤ 983039) then 1 else 0 := by
  unfold f2_30
  simp only [Int32.lt_iff_toInt_lt, ← Int32.toInt_inj, own_g44, own_c65, own_c90, own_c91, own_c94, own_c95, own_c96, own_c97, own_c122, own_c123, own_c191, own_c192, own_c214, own_c215, own_c216, own_c246, own_c247, own_c248, own_c767, own_c768, own_c879, own_c880, own_c893, own_c894, own_c895, own_c8191, own_c8192, own_c8203, own_c8204, own_c8205, own_c8206, own_c8303, own_c8304, own_c8591, own_c8592, own_c11263, own_c11264, own_c12271, own_c12272, own_c12288, own_c12289, own_c55295, own_c55296, own_c63743, own_c63744, own_c64975, own_c64976, own_c65007, own_c65008, own_c65533, own_c65534, own_c65535, own_c65536, own_c983039]
  repeat' split
  all_goals first | rfl | omega
theorem own_g18 (c : Int32) : f2_18 c = if (97 ≤ c.toInt ∧ c.toInt ≤ 122) ∨ (192 ≤ c.toInt ∧ c.toInt ≤ 214) ∨ (216 ≤ c.toInt ∧ c.toInt ≤ 246) ∨ (248 ≤ c.toInt ∧ c.toInt ≤ 767) ∨ (880 ≤ c.toInt ∧ c.toInt ≤ 893) ∨ (895 ≤ c.toInt ∧ c.toInt ≤ 8191) ∨ (8204 ≤ c.toInt ∧ c.toInt ≤ 8205) ∨ (8304 ≤ c.toInt ∧ c.toInt ≤ 8591) ∨ (11264 ≤ c.toInt ∧ c.toInt ≤ 12271) ∨ (12289 ≤ c.toInt ∧ c.toInt ≤ 55295) ∨ (63744 ≤ c.toInt ∧ c.toInt ≤ 64975) ∨ (65008 ≤ c.toInt ∧ c.toInt ≤ 65533) ∨ (65536 ≤ c.toInt ∧ c.toInt ≤ 983039) then 1 else 0 := by
  unfold f2_18
  simp only [Int32.lt_iff_toInt_lt, ← Int32.toInt_inj, own_g30, own_c65, own_c90, own_c91, own_c94, own_c95, own_c96, own_c97, own_c122, own_c123, own_c191, own_c192, own_c214, own_c215, own_c216, own_c246, own_c247, own_c248, own_c767, own_c768, own_c879, own_c880, own_c893, own_c894, own_c895, own_c8191, own_c8192, own_c8203, own_c8204, own_c8205, own_c8206, own_c8303, own_c8304, own_c8591, own_c8592, own_c11263, own_c11264, own_c12271, own_c12272, own_c12288, own_c12289, own_c55295, own_c55296, own_c63743, own_c63744, own_c64975, own_c64976, own_c65007, own_c65008, own_c65533, own_c65534, own_c65535, own_c65536, own_c983039]
  repeat' split
  all_goals first | rfl | omega
theorem own_g12 (c : Int32) : f2_12 c = if (95 ≤ c.toInt ∧ c.toInt ≤ 95) ∨ (97 ≤ c.toInt ∧ c.toInt ≤ 122) ∨ (192 ≤ c.toInt ∧ c.toInt ≤ 214) ∨ (216 ≤ c.toInt ∧ c.toInt ≤ 246) ∨ (248 ≤ c.toInt ∧ c.toInt ≤ 767) ∨ (880 ≤ c.toInt ∧ c.toInt ≤ 893) ∨ (895 ≤ c.toInt ∧ c.toInt ≤ 8191) ∨ (8204 ≤ c.toInt ∧ c.toInt ≤ 8205) ∨ (8304 ≤ c.toInt ∧ c.toInt ≤ 8591) ∨ (11264 ≤ c.toInt ∧ c.toInt ≤ 12271) ∨ (12289 ≤ c.toInt ∧ c.toInt ≤ 55295) ∨ (63744 ≤ c.toInt ∧ c.toInt ≤ 64975) ∨ (65008 ≤ c.toInt ∧ c.toInt ≤ 65533) ∨ (65536 ≤ c.toInt ∧ c.toInt ≤ 983039) then 1 else 0 := by
  unfold f2_12
  simp only [Int32.lt_iff_toInt_lt, ← Int32.toInt_inj, own_g18, own_c65, own_c90, own_c91, own_c94, own_c95, own_c96, own_c97, own_c122, own_c123, own_c191, own_c192, own_c214, own_c215, own_c216, own_c246, own_c247, own_c248, own_c767, own_c768, own_c879, own_c880, own_c893, own_c894, own_c895, own_c8191, own_c8192, own_c8203, own_c8204, own_c8205, own_c8206, own_c8303, own_c8304, own_c8591, own_c8592, own_c11263, own_c11264, own_c12271, own_c12272, own_c12288, own_c12289, own_c55295, own_c55296, own_c63743, own_c63744, own_c64975, own_c64976, own_c65007, own_c65008, own_c65533, own_c65534, own_c65535, own_c65536, own_c983039]
  repeat' split
  all_goals first | rfl | omega
theorem own_g0 (c : Int32) : f2 c = if (65 ≤ c.toInt ∧ c.toInt ≤ 90) ∨ (95 ≤ c.toInt ∧ c.toInt ≤ 95) ∨ (97 ≤ c.toInt ∧ c.toInt ≤ 122) ∨ (192 ≤ c.toInt ∧ c.toInt ≤ 214) ∨ (216 ≤ c.toInt ∧ c.toInt ≤ 246) ∨ (248 ≤ c.toInt ∧ c.toInt ≤ 767) ∨ (880 ≤ c.toInt ∧ c.toInt ≤ 893) ∨ (895 ≤ c.toInt ∧ c.toInt ≤ 8191) ∨ (8204 ≤ c.toInt ∧ c.toInt ≤ 8205) ∨ (8304 ≤ c.toInt ∧ c.toInt ≤ 8591) ∨ (11264 ≤ c.toInt ∧ c.toInt ≤ 12271) ∨ (12289 ≤ c.toInt ∧ c.toInt ≤ 55295) ∨ (63744 ≤ c.toInt ∧ c.toInt ≤ 64975) ∨ (65008 ≤ c.toInt ∧ c.toInt ≤ 65533) ∨ (65536 ≤ c.toInt ∧ c.toInt ≤ 983039) then 1 else 0 := by
  unfold f2
  simp only [Int32.lt_iff_toInt_lt, ← Int32.toInt_inj, own_g12, own_c65, own_c90, own_c91, own_c94, own_c95, own_c96, own_c97, own_c122, own_c123, own_c191, own_c192, own_c214, own_c215, own_c216, own_c246, own_c247, own_c248, own_c767, own_c768, own_c879, own_c880, own_c893, own_c894, own_c895, own_c8191, own_c8192, own_c8203, own_c8204, own_c8205, own_c8206, own_c8303, own_c8304, own_c8591, own_c8592, own_c11263, own_c11264, own_c12271, own_c12272, own_c12288, own_c12289, own_c55295, own_c55296, own_c63743, own_c63744, own_c64975, own_c64976, own_c65007, own_c65008, own_c65533, own_c65534, own_c65535, own_c65536, own_c983039]
  repeat' split
  all_goals first | rfl | omega
theorem own_gap (c : Int32) : f3 c = 0 ↔ ¬ ((91 ≤ c.toInt ∧ c.toInt ≤ 94) ∨ (96 ≤ c.toInt ∧ c.toInt ≤ 96) ∨ (123 ≤ c.toInt ∧ c.toInt ≤ 191) ∨ (215 ≤ c.toInt ∧ c.toInt ≤ 215) ∨ (247 ≤ c.toInt ∧ c.toInt ≤ 247) ∨ (768 ≤ c.toInt ∧ c.toInt ≤ 879) ∨ (894 ≤ c.toInt ∧ c.toInt ≤ 894) ∨ (8192 ≤ c.toInt ∧ c.toInt ≤ 8203) ∨ (8206 ≤ c.toInt ∧ c.toInt ≤ 8303) ∨ (8592 ≤ c.toInt ∧ c.toInt ≤ 11263) ∨ (12272 ≤ c.toInt ∧ c.toInt ≤ 12288) ∨ (55296 ≤ c.toInt ∧ c.toInt ≤ 63743) ∨ (64976 ≤ c.toInt ∧ c.toInt ≤ 65007) ∨ (65534 ≤ c.toInt ∧ c.toInt ≤ 65535)) := by
  unfold f3
  simp only [own_in]
  simp only [← Int32.toInt_inj (x := c), own_c65, own_c90, own_c91, own_c94, own_c95, own_c96, own_c97, own_c122, own_c123, own_c191, own_c192, own_c214, own_c215, own_c216, own_c246, own_c247, own_c248, own_c767, own_c768, own_c879, own_c880, own_c893, own_c894, own_c895, own_c8191, own_c8192, own_c8203, own_c8204, own_c8205, own_c8206, own_c8303, own_c8304, own_c8591, own_c8592, own_c11263, own_c11264, own_c12271, own_c12272, own_c12288, own_c12289, own_c55295, own_c55296, own_c63743, own_c63744, own_c64975, own_c64976, own_c65007, own_c65008, own_c65533, own_c65534, own_c65535, own_c65536, own_c983039]
  by_cases h0 : 91 ≤ c.toInt ∧ c.toInt ≤ 94
  · rw [if_neg (not_not_intro h0)]; exact ⟨fun q => absurd q (by decide), fun q => by exfalso; omega⟩
  rw [if_pos h0]
  by_cases h1 : c.toInt = 96
  · rw [if_pos h1]; exact ⟨fun q => absurd q (by decide), fun q => by exfalso; omega⟩
  rw [if_neg h1]
  by_cases h2 : 123 ≤ c.toInt ∧ c.toInt ≤ 191
  · rw [if_neg (not_not_intro h2)]; exact ⟨fun q => absurd q (by decide), fun q => by exfalso; omega⟩
  rw [if_pos h2]
  by_cases h3 : c.toInt = 215
  · rw [if_pos h3]; exact ⟨fun q => absurd q (by decide), fun q => by exfalso; omega⟩
  rw [if_neg h3]
  by_cases h4 : c.toInt = 247
  · rw [if_pos h4]; exact ⟨fun q => absurd q (by decide), fun q => by exfalso; omega⟩
  rw [if_neg h4]
  by_cases h5 : 768 ≤ c.toInt ∧ c.toInt ≤ 879
  · rw [if_neg (not_not_intro h5)]; exact ⟨fun q => absurd q (by decide), fun q => by exfalso; omega⟩
  rw [if_pos h5]
  by_cases h6 : c.toInt = 894
  · rw [if_pos h6]; exact ⟨fun q => absurd q (by decide), fun q => by exfalso; omega⟩
  rw [if_neg h6]
  by_cases h7 : 8192 ≤ c.toInt ∧ c.toInt ≤ 8203
  · rw [if_neg (not_not_intro h7)]; exact ⟨fun q => absurd q (by decide), fun q => by exfalso; omega⟩
  rw [if_pos h7]
  by_cases h8 : 8206 ≤ c.toInt ∧ c.toInt ≤ 8303
  · rw [if_neg (not_not_intro h8)]; exact ⟨fun q => absurd q (by decide), fun q => by exfalso; omega⟩
  rw [if_pos h8]
  by_cases h9 : 8592 ≤ c.toInt ∧ c.toInt ≤ 11263
  · rw [if_neg (not_not_intro h9)]; exact ⟨fun q => absurd q (by decide), fun q => by exfalso; omega⟩
  rw [if_pos h9]
  by_cases h10 : 12272 ≤ c.toInt ∧ c.toInt ≤ 12288
  · rw [if_neg (not_not_intro h10)]; exact ⟨fun q => absurd q (by decide), fun q => by exfalso; omega⟩
  rw [if_pos h10]
  by_cases h11 : 55296 ≤ c.toInt ∧ c.toInt ≤ 63743
  · rw [if_neg (not_not_intro h11)]; exact ⟨fun q => absurd q (by decide), fun q => by exfalso; omega⟩
  rw [if_pos h11]
  by_cases h12 : 64976 ≤ c.toInt ∧ c.toInt ≤ 65007
  · rw [if_neg (not_not_intro h12)]; exact ⟨fun q => absurd q (by decide), fun q => by exfalso; omega⟩
  rw [if_pos h12]
  by_cases h13 : 65534 ≤ c.toInt ∧ c.toInt ≤ 65535
  · rw [if_neg (not_not_intro h13)]; exact ⟨fun q => absurd q (by decide), fun q => by exfalso; omega⟩
  rw [if_pos h13]
  exact ⟨fun _ => by omega, fun _ => rfl⟩
theorem own_ite0 {P : Prop} [Decidable P] : ((if P then (1 : Int32) else 0) = 0) ↔ ¬ P := by
  by_cases h : P
  · rw [if_pos h]; exact ⟨fun q => absurd q (by decide), fun q => absurd h q⟩
  · rw [if_neg h]; exact ⟨fun _ => h, fun _ => rfl⟩
theorem own_ite1 {P : Prop} [Decidable P] : ((if P then (1 : Int32) else 0) = 1) ↔ P := by
  by_cases h : P
  · rw [if_pos h]; exact ⟨fun _ => h, fun _ => rfl⟩
  · rw [if_neg h]; exact ⟨fun q => absurd q (by decide), fun q => absurd q h⟩
theorem own_law (c : Int32) : f0 c = 1 := by
  unfold f0
  simp only [own_in, own_gap, own_g0, own_ite0, own_ite1, own_c65, own_c90, own_c91, own_c94, own_c95, own_c96, own_c97, own_c122, own_c123, own_c191, own_c192, own_c214, own_c215, own_c216, own_c246, own_c247, own_c248, own_c767, own_c768, own_c879, own_c880, own_c893, own_c894, own_c895, own_c8191, own_c8192, own_c8203, own_c8204, own_c8205, own_c8206, own_c8303, own_c8304, own_c8591, own_c8592, own_c11263, own_c11264, own_c12271, own_c12272, own_c12288, own_c12289, own_c55295, own_c55296, own_c63743, own_c63744, own_c64975, own_c64976, own_c65007, own_c65008, own_c65533, own_c65534, own_c65535, own_c65536, own_c983039]
  repeat' split
  all_goals first | rfl | omega
set_option maxRecDepth 65536 in
set_option maxHeartbeats 40000000 in
theorem comes_1 {Post : Tables → Env → Array Value → State → Outcome → State → Prop} (hpost : ∀ tb e args s v u, (limb_1_1.after args s (.returned v) u = true ∧ limb_1_2.after args s (.returned v) u = true ∧ True) → FrameEnd s (.returned v) u (Jvm.fieldLocs frame_1_writes args s ++ Jvm.arrayLocs frame_1_arrays args s ++ Jvm.staticLocs frame_1_statics s) 0 0 → Post tb e args s (.returned v) u) :
    ArmFor flags0 classFile x code maxLocals ret World_1 tables_1 room_1 Calls_1 rest_1 Pre_1 Post := by
  intro l hfl _ _ p e ha hc hk s m args below hf hA hF happ hP
  obtain ⟨hcalls, hrest, hpre⟩ := hP
  obtain ⟨-, -, -, hnamed, -, -, -, hat⟩ := (Spec.applies_iff hf).mp happ
  obtain ⟨hg, hn⟩ := and_e (Cond.before_iff.mp (show (Jvm.Cond.and given_1 narrow_1).before args s = true from hpre))
  obtain ⟨gc, g0⟩ := and_e hg
  obtain ⟨w0, rfl⟩ : ∃ w0 : Value, args = #[w0] := by
    have hs : args.size = 1 := by simpa [Cond.value, given_1] using gc
    obtain ⟨L⟩ := args
    match L, hs with
    | [w0], _ => exact ⟨w0, rfl⟩
  have hw := fun d (hd : d ∈ tables_1) => atoms_spec (ws := Jvm.Cond.code x code maxLocals ret :: tables_1) hat d (List.mem_cons_of_mem _ hd)
  have hfit : Fit s := fun {y c} hc i hi => by
    obtain ⟨ha, rfl⟩ := Array.getElem?_eq_some_iff.mp hc
    have q := List.all_eq_true.mp ((Array.all_eq_true_iff_forall_mem.mp hF) _ (Array.getElem_mem ha)) i (List.mem_range.mpr hi)
    simpa [Array.getElem?_eq_getElem hi] using q
  obtain ⟨i0, ei0⟩ := is_v g0
  obtain rfl : w0 = (.int i0) := Option.some.inj ei0
  obtain ⟨n, o, h1, h2, h3, v, L, rfl, ⟨hv1, N, -⟩, hq⟩ := rm0 l s _ hw tables_1 i0 s.heap s.heap.size p e ha hc hk s m _ below hf ((Spec.applies_iff_loose hf).mp happ).1 ⟨rfl, State.Warmed39.refl s, rfl⟩ trivial
  rw [own_law] at hv1
  subst hv1
  refine ⟨n, _, h1, h2, h3, hpost _ _ _ _ _ _ ⟨Cond.after_iff.mpr rfl, Cond.after_iff.mpr (eq_i res_at (Term.int_eval (1)) rfl), trivial⟩ ⟨hq.1, hq.2.1, (hq.2.2.sift fun y hy => Or.inr (N y hy)).mono (by decide) (by decide)⟩⟩
theorem main_1_1 : Claimed_1_1 := comes_1 fun _ _ _ _ _ _ h hF => ⟨h.1, hF⟩
theorem main_1_2 : Claimed_1_2 := comes_1 fun _ _ _ _ _ _ h hF => ⟨h.2.1, hF⟩
end Jvm.Pilot.@@N@@
namespace Jvm.Pilot.@@N@@
open Jvm Jvm.ClassFile Sem Op Lib Jvm.Free Jvm.Stand Jvm.Pilot.@@N@@.Jvm.D
/-! MADE BY PROGRAM (witnessworld.py) out of the Statement's table words and the real class files: 9 classes; the members and pool entries that the words name. The judged class is class 1, her method 3. -/
namespace start1
open Jvm.ClassFile
def u (s : String) : CpInfo := .utf8 (stringToUtf16 s)
/-- a pool by its gaps: so many unusable entries, then the entry; so many at the end -/
def gap : Nat → List CpInfo → List CpInfo
  | 0, r => r
  | n + 1, r => .unusable :: gap n r
def poolList (es : List (Nat × CpInfo)) (last : Nat) : List CpInfo := es.foldr (fun e r => gap e.1 (e.2 :: r)) (gap last [])
def pool (es : List (Nat × CpInfo)) (last : Nat) : Array CpInfo := ⟨poolList es last⟩
def fileOf (pool : Array CpInfo) (this : Nat) (attrs : Array Attribute := #[]) (ms : Array MethodInfo := #[]) (fl : Nat := 33) (sup : Nat := 0) (ifs : Array Nat := #[]) (fds : Array FieldInfo := #[]) : ClassFile where
  minorVersion := 0
  majorVersion := 65
  constantPool := pool
  accessFlags := fl
  thisClass := this
  superClass := sup
  interfaces := ifs
  fields := fds
  methods := ms
  attributes := attrs
def plain (name : String) (sup : Option ClassId) : Class where
  name := name
  kind := .ordinary
  loader := none
  accessFlags := 33
  super := sup
  interfaces := #[]
  cf := none
  fields := #[]
  methods := #[]
  instanceTypes := #[]
  staticTypes := #[]
  resolved := #[]
  callSites := []
  init := .initialized
  statics := none
  mirror := none

def pool0 : Array CpInfo := pool [(5, u "<init>"), (0, u "()V"), (1, .class_ 10), (1, u "java/lang/Object")] 113

def k0m0 : Method := { name := "<init>", desc := "()V", sig := { parameters := [], returnType := none }, accessFlags := 1, code := none }
/-- java/lang/Object -/
def k0 : Class := { plain "java/lang/Object" none with
  accessFlags := 33
  interfaces := #[]
  cf := some (fileOf pool0 8 #[] #[{ accessFlags := 1, nameIndex := 5, descriptorIndex := 6, attributes := #[] }] 33 0 #[] #[])
  fields := #[]
  methods := #[k0m0]
  instanceTypes := #[]
  staticTypes := #[]
  resolved := Array.replicate 124 none
  statics := none }

def pool1 : Array CpInfo := pool [(2, .class_ 4), (1, u "java/lang/Object"), (0, u "<init>"), (0, u "()V"), (0, .methodref 8 9), (0, .class_ 10), (0, .nameAndType 11 12), (0, u x.cls), (0, u "in"), (0, u "(III)Z"), (0, .integer 55296), (0, .integer 63743), (0, .integer 64976), (0, .integer 65007), (0, .integer 65534), (0, .integer 65535), (0, .integer 983039), (0, .methodref 8 21), (0, .nameAndType 22 23), (0, u "gap"), (0, u "(I)Z"), (0, .methodref 25 26), (0, .class_ 27), (0, .nameAndType 28 23), (0, u site_25.cls), (0, u "isNameStart"), (3, u "law")] 2

def k1m0 : Method := { name := "<init>", desc := "()V", sig := { parameters := [], returnType := none }, accessFlags := 2, code := none }
def k1c1 : Code := { maxStack := 2, maxLocals := 3, code := method_2_code, exceptionTable := #[], attributes := #[] }
def k1m1 : Method := { name := "in", desc := "(III)Z", sig := { parameters := [.int, .int, .int], returnType := some .boolean }, accessFlags := 10, code := some k1c1 }
def k1c2 : Code := { maxStack := 3, maxLocals := 1, code := method_3_code, exceptionTable := #[], attributes := #[] }
def k1m2 : Method := { name := "gap", desc := "(I)Z", sig := { parameters := [.int], returnType := some .boolean }, accessFlags := 10, code := some k1c2 }
def k1c3 : Code := { maxStack := 3, maxLocals := 2, code := code, exceptionTable := #[], attributes := #[] }
def k1m3 : Method := { name := "law", desc := "(I)Z", sig := { parameters := [.int], returnType := some .boolean }, accessFlags := 9, code := some k1c3 }
def k1 : Class := { plain x.cls (some 0) with
  accessFlags := 49
  interfaces := #[]
  cf := some (fileOf pool1 8 #[] #[{ accessFlags := 2, nameIndex := 5, descriptorIndex := 6, attributes := #[] }, { accessFlags := 10, nameIndex := 11, descriptorIndex := 12, attributes := #[] }, { accessFlags := 10, nameIndex := 22, descriptorIndex := 23, attributes := #[] }, { accessFlags := 9, nameIndex := 32, descriptorIndex := 23, attributes := #[] }] 49 2 #[] #[])
  fields := #[]
  methods := #[k1m0, k1m1, k1m2, k1m3]
  instanceTypes := #[]
  staticTypes := #[]
  resolved := Array.replicate 35 none
  statics := none }

def pool2 : Array CpInfo := pool [(2, .class_ 4), (1, u "java/lang/Object"), (3, .class_ 10), (1, u site_25.cls), (0, u "source"), (0, u "Ljava/lang/Object;"), (4, u "text"), (3, u "Ljava/lang/String;"), (43, u "isNameStart"), (0, u "(I)Z"), (5, u "SYMBOLS"), (0, u "Ljava/util/List;"), (190, .integer 55295), (0, .integer 63744), (0, .integer 64975), (0, .integer 65008), (0, .integer 65533), (0, .integer 65536), (0, .integer 983039)] 113

def k2c0 : Code := { maxStack := 2, maxLocals := 1, code := prog_150_method_16_code, exceptionTable := #[], attributes := #[] }
def k2m0 : Method := { name := "isNameStart", desc := "(I)Z", sig := { parameters := [.int], returnType := some .boolean }, accessFlags := 8, code := some k2c0 }
def k2 : Class := { plain site_25.cls (some 0) with
  accessFlags := 48
  interfaces := #[]
  cf := some (fileOf pool2 8 #[] #[{ accessFlags := 8, nameIndex := 65, descriptorIndex := 66, attributes := #[] }] 48 2 #[] #[{ accessFlags := 26, nameIndex := 72, descriptorIndex := 73, attributes := #[] }, { accessFlags := 18, nameIndex := 11, descriptorIndex := 12, attributes := #[] }, { accessFlags := 18, nameIndex := 17, descriptorIndex := 21, attributes := #[] }])
  fields := #[{ name := "SYMBOLS", type := (.object "java/util/List"), accessFlags := 26, slot := 0, constantValue := 0 }, { name := "source", type := (.object "java/lang/Object"), accessFlags := 18, slot := 0, constantValue := 0 }, { name := "text", type := (.object "java/lang/String"), accessFlags := 18, slot := 1, constantValue := 0 }]
  methods := #[k2m0]
  instanceTypes := #[(.object "java/lang/Object"), (.object "java/lang/String")]
  staticTypes := #[(.object "java/util/List")]
  resolved := Array.replicate 384 none
  statics := none }

def pool3 : Array CpInfo := pool [(1, u "java/lang/Cloneable"), (0, .class_ 1), (0, u "java/lang/Object"), (0, .class_ 3)] 3

/-- java/lang/Cloneable -/
def k3 : Class := { plain "java/lang/Cloneable" (some 0) with
  accessFlags := 1537
  interfaces := #[]
  cf := some (fileOf pool3 2 #[] #[] 1537 4 #[] #[])
  fields := #[]
  methods := #[]
  instanceTypes := #[]
  staticTypes := #[]
  resolved := Array.replicate 8 none
  statics := none }

def pool4 : Array CpInfo := pool [(1, u "java/io/Serializable"), (0, .class_ 1), (0, u "java/lang/Object"), (0, .class_ 3)] 3

/-- java/io/Serializable -/
def k4 : Class := { plain "java/io/Serializable" (some 0) with
  accessFlags := 1537
  interfaces := #[]
  cf := some (fileOf pool4 2 #[] #[] 1537 4 #[] #[])
  fields := #[]
  methods := #[]
  instanceTypes := #[]
  staticTypes := #[]
  resolved := Array.replicate 8 none
  statics := none }

/-- the primitive byte -/
def k5 : Class := { plain "byte" none with kind := .primitive 'B', accessFlags := 0x411 }
/-- [B -/
def k6 : Class := { plain "[B" (some 0) with kind := .array 5 .byte, interfaces := #[3, 4], accessFlags := 1041 }

/-- the primitive int -/
def k7 : Class := { plain "int" none with kind := .primitive 'I', accessFlags := 0x411 }
/-- [I -/
def k8 : Class := { plain "[I" (some 0) with kind := .array 7 .int, interfaces := #[3, 4], accessFlags := 1041 }

def heap : Heap := #[]
def classes : Array Class := #[k0, k1, k2, k3, k4, k5, k6, k7, k8]
def interned : List (Array UInt16 × Addr) := []
def slotsUsed : Nat := 0
def theMethod : MethodId := ⟨1, 3⟩
def args0 : Array Value := #[.int 66]
def aboutOver (below : List Frame) : State where
  vm := { classes := classes, interned := interned.toArray }
  heap := heap
  slotsUsed := slotsUsed
  threads := #[{ frames := .invoking theMethod args0 :: below }]
def below0 : List Frame := [.native { method := ⟨0, 0⟩, args := #[] }]
def about1 : State := aboutOver below0
def p0 : Program := .bare "" "" ""
def e0 : Env := launch0.env 0 0 0
theorem w_frames : about1.frames = Frame.invoking theMethod args0 :: below0 := rfl
set_option maxRecDepth 65536 in
theorem w_args : argsFit about1.vm theMethod args0 = true := by decide +kernel
set_option maxRecDepth 65536 in
theorem w_heap : heapFits about1 = true := by decide +kernel
set_option maxRecDepth 65536 in
theorem w_runnable : about1.curStatus? = some .runnable := by decide +kernel
set_option maxRecDepth 65536 in
theorem w_alone : about1.alone = true := by decide +kernel
set_option maxRecDepth 65536 in
theorem w_named : about1.methodNamed? x = some theMethod := by decide +kernel
set_option maxRecDepth 65536 in
theorem w_hears : about1.hears theMethod below0 = true := by decide +kernel
set_option maxRecDepth 65536 in
theorem w_ripe : about1.ripe theMethod args0 below0 = true := by decide +kernel
theorem w_running : about1.status = .running := rfl
set_option maxRecDepth 65536 in
theorem w_room : about1.hasRoom e0.platform room_1 = true :=
  launch0.hasRoom_least _ room_1 (by decide +kernel) (by decide +kernel) (by decide +kernel) (by decide +kernel) (by decide +kernel) (by decide +kernel)
theorem allAtoms_all (ts : List Jvm.Cond) (a : Array Jvm.Value) (st : Jvm.State) : (allAtoms ts).before a st = ts.all (fun c => c.before a st) := by
  induction ts with
  | nil => rfl
  | cons c t ih =>
    show (Jvm.Cond.and c (allAtoms t)).before a st = _
    rw [Jvm.Cond.before_and, ih, List.all_cons]
def words1 : List Jvm.Cond := Jvm.Cond.code x code maxLocals ret :: tables_1
/-- a 'code' word, met by the world's own term for the bytes: nothing is compared byte by byte -/
theorem code_word {y : MethodName} {bytes : ByteArray} {mx : Nat} {rt : Option FieldType} {a : Array Value} {s : State} {m : MethodId} {meth : Method} {c : Code} (h1 : s.methodNamed? y = some m) (h2 : s.vm.method? m = some meth) (h3 : meth.code = some c) (h4 : c.code = bytes)
    (h5 : (c.maxLocals == mx && c.exceptionTable.isEmpty && decide (c.maxStack ≤ mostOperands) && decide (meth.sig.returnType = rt) && !meth.locks && decide (parseMethodDescriptor y.desc = some meth.sig)) = true) : (Jvm.Cond.code y bytes mx rt).before a s = true := by
  simp only [Bool.and_eq_true, beq_iff_eq, Bool.not_eq_true', decide_eq_true_eq] at h5
  obtain ⟨⟨⟨⟨⟨g1, g2⟩, g3⟩, g4⟩, g5⟩, g6⟩ := h5
  simp [Cond.before, Cond.holds, Cond.value, h1, h2, h3, h4, g1, g2, g3, g4, g5, g6]
def isCode : Jvm.Cond → Bool
  | .code _ _ _ _ => true
  | _ => false
theorem all_split {L : List Jvm.Cond} {P : Jvm.Cond → Bool} (h1 : L.all (fun c => isCode c || P c) = true) (h2 : ∀ c ∈ L.filter isCode, P c = true) : L.all P = true := by
  refine List.all_eq_true.mpr fun c hc => ?_
  have h := List.all_eq_true.mp h1 c hc
  rcases Bool.eq_false_or_eq_true (isCode c) with hi | hi
  · exact h2 c (List.mem_filter.mpr ⟨hc, hi⟩)
  · simpa [hi] using h
set_option maxRecDepth 65536 in
theorem w_c0 : (Jvm.Cond.code x code maxLocals ret).before args0 about1 = true := code_word (m := ⟨1, 3⟩) (meth := k1m3) (c := k1c3) (by decide +kernel) rfl rfl rfl (by decide +kernel)
set_option maxRecDepth 65536 in
theorem w_c1 : (Jvm.Cond.code ({ cls := x.cls, name := "in", desc := "(III)Z" } : Jvm.MethodName) method_2_code (3 : Nat) (Option.some Jvm.ClassFile.FieldType.boolean)).before args0 about1 = true := code_word (m := ⟨1, 1⟩) (meth := k1m1) (c := k1c1) (by decide +kernel) rfl rfl rfl (by decide +kernel)
set_option maxRecDepth 65536 in
theorem w_c2 : (Jvm.Cond.code ({ cls := site_25.cls, name := "isNameStart", desc := "(I)Z" } : Jvm.MethodName) prog_150_method_16_code (1 : Nat) (Option.some Jvm.ClassFile.FieldType.boolean)).before args0 about1 = true := code_word (m := ⟨2, 0⟩) (meth := k2m0) (c := k2c0) (by decide +kernel) rfl rfl rfl (by decide +kernel)
set_option maxRecDepth 65536 in
theorem w_c3 : (Jvm.Cond.code ({ cls := x.cls, name := "gap", desc := "(I)Z" } : Jvm.MethodName) method_3_code (1 : Nat) (Option.some Jvm.ClassFile.FieldType.boolean)).before args0 about1 = true := code_word (m := ⟨1, 2⟩) (meth := k1m2) (c := k1c2) (by decide +kernel) rfl rfl rfl (by decide +kernel)
def codes1 : List Jvm.Cond := [Jvm.Cond.code x code maxLocals ret, Jvm.Cond.code ({ cls := x.cls, name := "in", desc := "(III)Z" } : Jvm.MethodName) method_2_code (3 : Nat) (Option.some Jvm.ClassFile.FieldType.boolean), Jvm.Cond.code ({ cls := site_25.cls, name := "isNameStart", desc := "(I)Z" } : Jvm.MethodName) prog_150_method_16_code (1 : Nat) (Option.some Jvm.ClassFile.FieldType.boolean), Jvm.Cond.code ({ cls := x.cls, name := "gap", desc := "(I)Z" } : Jvm.MethodName) method_3_code (1 : Nat) (Option.some Jvm.ClassFile.FieldType.boolean)]
set_option maxRecDepth 65536 in
theorem codes_eq : words1.filter isCode = codes1 := rfl
theorem w_codes : ∀ c ∈ words1.filter isCode, c.before args0 about1 = true := by
  rw [codes_eq]
  intro c hc
  simp only [codes1, List.mem_cons, List.not_mem_nil, or_false] at hc
  rcases hc with rfl | rfl | rfl | rfl
  · exact w_c0
  · exact w_c1
  · exact w_c2
  · exact w_c3
set_option maxRecDepth 65536 in
theorem w_t1 : (words1.take 24).all (fun c => isCode c || c.before args0 about1) = true := by decide +kernel
set_option maxRecDepth 65536 in
theorem w_t2 : (words1.drop 24).all (fun c => isCode c || c.before args0 about1) = true := by decide +kernel
theorem w_tables : (allAtoms (Jvm.Cond.code x code maxLocals ret :: tables_1)).before args0 about1 = true := by
  rw [allAtoms_all]
  show words1.all (fun c => c.before args0 about1) = true
  refine all_split ?_ w_codes
  rw [← List.take_append_drop 24 words1, List.all_append, w_t1, w_t2]
  rfl
set_option maxRecDepth 65536 in
theorem w_case : (Jvm.Cond.and given_1 narrow_1).before args0 about1 = true := by decide +kernel
theorem w_applies : (headSpec (Jvm.Cond.code x code maxLocals ret :: tables_1) room_1).applies x e0.platform about1 = true :=
  (Spec.applies_iff w_frames).mpr ⟨w_running, w_runnable, w_alone, w_named, w_hears, w_ripe, w_room, w_tables⟩
theorem atStart : AtStart classFile x code maxLocals ret World_1 tables_1 room_1 Calls_1 rest_1 Pre_1 launch0 p0 e0 about1 theMethod args0 below0 :=
  ⟨lists_1, trivial, launch0.admits_env _ _ _, launch0.least_env, fairChoices_fair.cas, fairChoices_fair.clock, w_frames, w_args, w_heap, w_applies, trivial, trivial, w_case⟩
end start1
theorem witness_1 : WitnessClaimed_1 := ⟨start1.p0, start1.e0, start1.about1, start1.theMethod, start1.args0, start1.below0, start1.atStart⟩
end Jvm.Pilot.@@N@@
