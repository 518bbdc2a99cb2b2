import JvmDerived
import JvmDerived.Pilot.@@N@@Statement
import JvmDerived.Pilot.@@N@@Code
set_option linter.unusedVariables false
set_option linter.unusedSimpArgs false
namespace Jvm.RoadKit
open Sem ClassFile Op Lib Jvm.Stand Jvm.Free Jvm.LawKit
section New
variable {p : Program} {l : Launch} {e : Env} {R : Room} {s : State} {m : MethodId} {args : Array Value} {below : List Frame} {meth : Method} {c : Code} {T : State} {locs : List Loc} {cells slots : Nat}
theorem retI (X : Stand p l e R s m args below meth c T locs cells slots) (hx : p.tables.exec = Jvm.exec) {pc : Nat} {Ls : Array Slot} {z : Int32} {rest : List Value} (hret : meth.sig.returnType = some .int) (hd : decode c.code pc = .ok (.ireturn, 1)) {fs : List Frame}
    (hl : ∀ (f : JFrame) (acts : List Action), f.method = m → f.locked = none → f.entered = [] → (doReturn e (T.setTop f) acts (some (.int z))).1 = T.setFrames fs) : Steps p.tables e below (T.setTop (mkF m pc Ls (.int z :: rest))) (T.setFrames fs) := by
  have hm' : T.vm.method? m = some meth := X.method'
  have hn : narrow .int (.int z) = .int z := rfl
  show Steps p.tables e below (T.setTop { method := m, pc := pc, locals := Ls, stack := _ :: rest, locked := none }) _
  jvm_step X.here [X.here.top, hx, hd, hm', hret, hn]
  first | (intro acts; rw [hl _ acts rfl rfl rfl]) | rw [hl _ _ rfl rfl rfl]
  exact Steps.refl _
end New
end Jvm.RoadKit
namespace Jvm.Pilot.@@N@@
open Jvm Jvm.ClassFile Sem Op Lib Jvm.Free Jvm.Stand Jvm.LawKit Jvm.RoadKit Bundle Jvm.Pilot.@@N@@.Jvm.D
theorem pd0 : parseMethodDescriptor "(I)Z" = some ⟨[.int], some .boolean⟩ := by decide +kernel
theorem d1_0 : decode prog_40_method_6_code 0 = .ok (.iload_n 0, 1) := by decide +kernel
theorem d1_1 : decode prog_40_method_6_code 1 = .ok (.ifCond .lt 26, 3) := by decide +kernel
theorem d1_4 : decode prog_40_method_6_code 4 = .ok (.iload_n 0, 1) := by decide +kernel
theorem d1_5 : decode prog_40_method_6_code 5 = .ok (.getstatic 50, 3) := by decide +kernel
theorem d1_8 : decode prog_40_method_6_code 8 = .ok (.arraylength, 1) := by decide +kernel
theorem d1_9 : decode prog_40_method_6_code 9 = .ok (.if_icmp .ge 18, 3) := by decide +kernel
theorem d1_12 : decode prog_40_method_6_code 12 = .ok (.getstatic 50, 3) := by decide +kernel
theorem d1_15 : decode prog_40_method_6_code 15 = .ok (.iload_n 0, 1) := by decide +kernel
theorem d1_16 : decode prog_40_method_6_code 16 = .ok (.iaload, 1) := by decide +kernel
theorem d1_17 : decode prog_40_method_6_code 17 = .ok (.bipush 64, 2) := by decide +kernel
theorem d1_19 : decode prog_40_method_6_code 19 = .ok (.iand, 1) := by decide +kernel
theorem d1_20 : decode prog_40_method_6_code 20 = .ok (.ifCond .eq 7, 3) := by decide +kernel
theorem d1_23 : decode prog_40_method_6_code 23 = .ok (.iconst 1, 1) := by decide +kernel
theorem d1_24 : decode prog_40_method_6_code 24 = .ok (.goto 4, 3) := by decide +kernel
theorem d1_27 : decode prog_40_method_6_code 27 = .ok (.iconst 0, 1) := by decide +kernel
theorem d1_28 : decode prog_40_method_6_code 28 = .ok (.ireturn, 1) := by decide +kernel
theorem pn_1 : plainName "com/example/termwright/termwright/parse/WordForm" = true := by first | (simp [plainName, overriddenIn]; done) | decide +kernel
theorem ef_1 (m : MethodId) (p1 : Int32) : entryFrame m #[(.int p1)] 1 = mkF m 0 #[.val (.int p1)] [] := by first | (simp [entryFrame, mkF, argsToLocals, Value.category]; done) | rfl
def f1 (p1 : Int32) (wK : Addr) (cl : Cell) : Int32 := (if p1 < (0 : Int32) then (0 : Int32) else (if p1 < (128 : Int32) then (if ((atv cl p1) &&& (64 : Int32)) = (0 : Int32) then (0 : Int32) else (1 : Int32)) else (0 : Int32)))
def Q1 (Z : State) (p1 : Int32) (wK : Addr) (cl : Cell) (h0 : Heap) (n0 : Nat) (v : Option Value) (h : Heap) (L : List Loc) : Prop := v = some (.int (f1 p1 wK cl)) ∧ Fr n0 L ∧ h = h0
set_option maxRecDepth 65536 in
set_option maxHeartbeats 40000000 in
theorem rm1 (l : Launch) (Z : State) (a0 : Array Value) (hw : ∀ d ∈ tables_1, d.before a0 Z = true) (ws : List Jvm.Cond) (p1 : Int32) (h0 : Heap) (n0 : Nat) (wK : Addr) (cl : Cell) (S_wK : Sta Z h0 "com/example/termwright/termwright/parse/WordForm" "KINDS" "[I" (.ref wK)) (SK : Scr Z h0 wK cl (128 : Int32)) :
    MetFree l (⟨"com/example/termwright/termwright/parse/WordForm", "isWordCharacter", "(I)Z"⟩ : MethodName) (head1 (Jvm.Cond.code (⟨"com/example/termwright/termwright/parse/WordForm", "isWordCharacter", "(I)Z"⟩ : MethodName) prog_40_method_6_code 1 (some .boolean) :: ws) ({ frames := 0, cells := 0, slots := 0, locals := 0 } : Room)) (fun a U => a = #[(.int p1)] ∧ Z.Warmed39 U.vm ∧ U.heap = h0) (fun _ _ _ _ _ => True) (fun _ U o U' => ∃ v L, o = .returned v ∧ Q1 Z p1 wK cl h0 n0 v U'.heap L ∧ FrameEnd U o U' L ({ frames := 0, cells := 0, slots := 0, locals := 0 } : Room).cells ({ frames := 0, cells := 0, slots := 0, locals := 0 } : Room).slots) := by
  refine MetFree.of_bodySF (plainFor_of_name pn_1) hisR ?_
  intro p e s m args below meth c s₁ Bd hml0 hP hK
  obtain ⟨rfl, hZ, hh⟩ := hP
  have hx := Bd.exec
  have hby := Bd.bytes
  have hml : c.maxLocals = 1 := hml0
  have hown : s.vm.findClass "com/example/termwright/termwright/parse/WordForm" = some m.cls := findClass_of_methodNamed Bd.named
  have hnm := (name_of_methodNamed Bd.named Bd.method).1
  have X0 : Stand p l e ({ frames := 0, cells := 0, slots := 0, locals := 0 } : Room) s m #[(.int p1)] below meth c s₁ [] 0 0 := Stand.of_body Bd
  have e0 : s₁.heap = h0 := by rw [← hh, Bd.state]; rfl
  have N0 := Fr.nil n0
  have pre0 : ∀ t, Steps p.tables e below (s₁.setTop (mkF m 0 #[.val (.int p1)] [])) t → Steps p.tables e below (s₁.setTop (entryFrame m #[(.int p1)] 1)) t := fun t k => castTop (ef_1 m p1) k
  refine Classical.byContradiction fun hneg => ?_
  have pre1 : ∀ t, Steps p.tables e below (s₁.setTop (mkF m 1 #[.val (.int p1)] [(.int p1)])) t → Steps p.tables e below (s₁.setTop (entryFrame m #[(.int p1)] 1)) t := by
    intro t k
    refine pre0 t ?_
    show Steps p.tables e below (s₁.setTop (mkF m 0 #[.val (.int p1)] [])) _
    refine XS.iloadN X0.here hx rfl (hb hby d1_0) rfl ?_
    exact k
  by_cases hc1_2 : p1 < (0 : Int32)
  · refine hneg ?_
    obtain ⟨fs, hr, hrun, hended, hW, hsame⟩ := X0.leave (v := some (.int (0 : Int32))) (fun h => by rw [Bd.returns] at h; cases h)
    refine ⟨_, _, pre1 _ ?_, hrun, hended, _, _, rfl, ?_, ⟨_, rfl⟩, hW, hsame.mono (by decide) (by decide)⟩
    · show Steps p.tables e below (s₁.setTop (mkF m 1 #[.val (.int p1)] [(.int p1)])) _
      refine XS.ifYes X0.here hx rfl (pc0 := 1) (pc' := 27) rfl (hb hby d1_1) rfl ((if0 _ _).trans (tlt hc1_2).1) (by decide) (by decide) ?_
      show Steps p.tables e below (s₁.setTop (mkF m 27 #[.val (.int p1)] [])) _
      refine XS.iconst X0.here hx rfl (hb hby d1_27) ?_
      show Steps p.tables e below (s₁.setTop (mkF m 28 #[.val (.int p1)] [(.int (0 : Int32))])) _
      exact retN X0 hx (t := .boolean) Bd.returns (by simp) (hb hby d1_28) hr
    · show Q1 Z p1 wK cl h0 n0 _ s₁.heap _
      rw [e0]
      refine ⟨?_, N0, rfl⟩
      rw [show f1 p1 wK cl = (0 : Int32) from (by skip; simp only [f1, if_pos hc1_2])]
  · obtain ⟨T3, X3, e3, st3⟩ := getS2 X0 hx hZ hown (host := "") (Or.inl (hw _ (List.mem_of_getElem? (i := 4) rfl))) Via.refl e0 S_wK (g := (mkF m 5 #[.val (.int p1)] [(.int p1)])) rfl (hb hby d1_5)
    have pre4 : ∀ t, Steps p.tables e below (T3.setTop (mkF m 9 #[.val (.int p1)] [(.int (128 : Int32)), (.int p1)])) t → Steps p.tables e below (s₁.setTop (entryFrame m #[(.int p1)] 1)) t := by
      intro t k
      refine pre1 t ?_
      show Steps p.tables e below (s₁.setTop (mkF m 1 #[.val (.int p1)] [(.int p1)])) _
      refine XS.ifNo X0.here hx rfl (hb hby d1_1) rfl ((if0 _ _).trans (flt hc1_2).1) ?_
      show Steps p.tables e below (s₁.setTop (mkF m 4 #[.val (.int p1)] [])) _
      refine XS.iloadN X0.here hx rfl (hb hby d1_4) rfl ?_
      show Steps p.tables e below (s₁.setTop (mkF m 5 #[.val (.int p1)] [(.int p1)])) _
      refine st3 _ ?_
      show Steps p.tables e below (T3.setTop (mkF m 8 #[.val (.int p1)] [(.ref wK), (.int p1)])) _
      refine X3.arraylength hx (by rw [e3]; exact SK.1.1) (State.isArrayOf_alike hZ.alike SK.1.2.1) (g := (mkF m 8 #[.val (.int p1)] [(.ref wK), (.int p1)])) rfl rfl (hb hby d1_8) _ ?_
      rw [len_of SK.2.1 SK.2.2.1]
      exact k
    by_cases hc9_5 : p1 < (128 : Int32)
    · obtain ⟨T6, X6, e6, st6⟩ := getS2 X3 hx hZ hown (host := "") (Or.inl (hw _ (List.mem_of_getElem? (i := 4) rfl))) Via.refl e3 S_wK (g := (mkF m 12 #[.val (.int p1)] [])) rfl (hb hby d1_12)
      have pre7 : ∀ t, Steps p.tables e below (T6.setTop (mkF m 20 #[.val (.int p1)] [(.int ((atv cl p1) &&& (64 : Int32)))])) t → Steps p.tables e below (s₁.setTop (entryFrame m #[(.int p1)] 1)) t := by
        intro t k
        refine pre4 t ?_
        show Steps p.tables e below (T3.setTop (mkF m 9 #[.val (.int p1)] [(.int (128 : Int32)), (.int p1)])) _
        refine XS.icmpNo X3.here hx rfl (hb hby d1_9) rfl (tlt hc9_5).2.1 ?_
        show Steps p.tables e below (T3.setTop (mkF m 12 #[.val (.int p1)] [])) _
        refine st6 _ ?_
        show Steps p.tables e below (T6.setTop (mkF m 15 #[.val (.int p1)] [(.ref wK)])) _
        refine XS.iloadN X6.here hx rfl (hb hby d1_15) rfl ?_
        show Steps p.tables e below (T6.setTop (mkF m 16 #[.val (.int p1)] [(.int p1), (.ref wK)])) _
        refine X6.iaload hx (j := p1) (v := (.int (atv cl p1))) (by rw [e6]; exact SK.1.1) (State.isArrayOf_alike hZ.alike SK.1.2.1) SK.1.2.2 (inb_of SK.2.1 ⟨hc1_2, hc9_5⟩) (SK.2.2.2 _ (inb_of SK.2.1 ⟨hc1_2, hc9_5⟩)) (g := (mkF m 16 #[.val (.int p1)] [(.int p1), (.ref wK)])) rfl rfl (hb hby d1_16) _ ?_
        show Steps p.tables e below (T6.setTop (mkF m 17 #[.val (.int p1)] [(.int (atv cl p1))])) _
        refine XS.bipush X6.here hx rfl (hb hby d1_17) ?_
        show Steps p.tables e below (T6.setTop (mkF m 19 #[.val (.int p1)] [(.int (64 : Int32)), (.int (atv cl p1))])) _
        refine XS.iand X6.here hx rfl (hb hby d1_19) rfl ?_
        exact k
      by_cases hc20_8 : ((atv cl p1) &&& (64 : Int32)) = (0 : Int32)
      · refine hneg ?_
        obtain ⟨fs, hr, hrun, hended, hW, hsame⟩ := X6.leave (v := some (.int (0 : Int32))) (fun h => by rw [Bd.returns] at h; cases h)
        refine ⟨_, _, pre7 _ ?_, hrun, hended, _, _, rfl, ?_, ⟨_, rfl⟩, hW, hsame.mono (by decide) (by decide)⟩
        · show Steps p.tables e below (T6.setTop (mkF m 20 #[.val (.int p1)] [(.int ((atv cl p1) &&& (64 : Int32)))])) _
          refine XS.ifYes X6.here hx rfl (pc0 := 20) (pc' := 27) rfl (hb hby d1_20) rfl ((if0 _ _).trans (teq hc20_8).1) (by decide) (by decide) ?_
          show Steps p.tables e below (T6.setTop (mkF m 27 #[.val (.int p1)] [])) _
          refine XS.iconst X6.here hx rfl (hb hby d1_27) ?_
          show Steps p.tables e below (T6.setTop (mkF m 28 #[.val (.int p1)] [(.int (0 : Int32))])) _
          exact retN X6 hx (t := .boolean) Bd.returns (by simp) (hb hby d1_28) hr
        · show Q1 Z p1 wK cl h0 n0 _ T6.heap _
          rw [e6]
          refine ⟨?_, N0, rfl⟩
          rw [show f1 p1 wK cl = (0 : Int32) from (by skip; simp only [f1, if_neg hc1_2, if_pos hc9_5, if_pos hc20_8])]
      · refine hneg ?_
        obtain ⟨fs, hr, hrun, hended, hW, hsame⟩ := X6.leave (v := some (.int (1 : Int32))) (fun h => by rw [Bd.returns] at h; cases h)
        refine ⟨_, _, pre7 _ ?_, hrun, hended, _, _, rfl, ?_, ⟨_, rfl⟩, hW, hsame.mono (by decide) (by decide)⟩
        · show Steps p.tables e below (T6.setTop (mkF m 20 #[.val (.int p1)] [(.int ((atv cl p1) &&& (64 : Int32)))])) _
          refine XS.ifNo X6.here hx rfl (hb hby d1_20) rfl ((if0 _ _).trans (feq hc20_8).1) ?_
          show Steps p.tables e below (T6.setTop (mkF m 23 #[.val (.int p1)] [])) _
          refine XS.iconst X6.here hx rfl (hb hby d1_23) ?_
          show Steps p.tables e below (T6.setTop (mkF m 24 #[.val (.int p1)] [(.int (1 : Int32))])) _
          refine XS.goto X6.here hx rfl (pc0 := 24) (pc' := 28) rfl (hb hby d1_24) (by decide) (by decide) ?_
          show Steps p.tables e below (T6.setTop (mkF m 28 #[.val (.int p1)] [(.int (1 : Int32))])) _
          exact retN X6 hx (t := .boolean) Bd.returns (by simp) (hb hby d1_28) hr
        · show Q1 Z p1 wK cl h0 n0 _ T6.heap _
          rw [e6]
          refine ⟨?_, N0, rfl⟩
          rw [show f1 p1 wK cl = (1 : Int32) from (by skip; simp only [f1, if_neg hc1_2, if_pos hc9_5, if_neg hc20_8])]
    · refine hneg ?_
      obtain ⟨fs, hr, hrun, hended, hW, hsame⟩ := X3.leave (v := some (.int (0 : Int32))) (fun h => by rw [Bd.returns] at h; cases h)
      refine ⟨_, _, pre4 _ ?_, hrun, hended, _, _, rfl, ?_, ⟨_, rfl⟩, hW, hsame.mono (by decide) (by decide)⟩
      · show Steps p.tables e below (T3.setTop (mkF m 9 #[.val (.int p1)] [(.int (128 : Int32)), (.int p1)])) _
        refine XS.icmpYes X3.here hx rfl (pc0 := 9) (pc' := 27) rfl (hb hby d1_9) rfl (flt hc9_5).2.1 (by decide) (by decide) ?_
        show Steps p.tables e below (T3.setTop (mkF m 27 #[.val (.int p1)] [])) _
        refine XS.iconst X3.here hx rfl (hb hby d1_27) ?_
        show Steps p.tables e below (T3.setTop (mkF m 28 #[.val (.int p1)] [(.int (0 : Int32))])) _
        exact retN X3 hx (t := .boolean) Bd.returns (by simp) (hb hby d1_28) hr
      · show Q1 Z p1 wK cl h0 n0 _ T3.heap _
        rw [e3]
        refine ⟨?_, N0, rfl⟩
        rw [show f1 p1 wK cl = (0 : Int32) from (by skip; simp only [f1, if_neg hc1_2, if_neg hc9_5])]

theorem d2_0 : decode method_2_code 0 = .ok (.iload_n 0, 1) := by decide +kernel
theorem d2_1 : decode method_2_code 1 = .ok (.bipush 97, 2) := by decide +kernel
theorem d2_3 : decode method_2_code 3 = .ok (.if_icmp .lt 11, 3) := by decide +kernel
theorem d2_6 : decode method_2_code 6 = .ok (.iload_n 0, 1) := by decide +kernel
theorem d2_7 : decode method_2_code 7 = .ok (.bipush 122, 2) := by decide +kernel
theorem d2_9 : decode method_2_code 9 = .ok (.if_icmp .gt 5, 3) := by decide +kernel
theorem d2_12 : decode method_2_code 12 = .ok (.iconst 1, 1) := by decide +kernel
theorem d2_13 : decode method_2_code 13 = .ok (.ireturn, 1) := by decide +kernel
theorem d2_14 : decode method_2_code 14 = .ok (.iload_n 0, 1) := by decide +kernel
theorem d2_15 : decode method_2_code 15 = .ok (.bipush 65, 2) := by decide +kernel
theorem d2_17 : decode method_2_code 17 = .ok (.if_icmp .lt 11, 3) := by decide +kernel
theorem d2_20 : decode method_2_code 20 = .ok (.iload_n 0, 1) := by decide +kernel
theorem d2_21 : decode method_2_code 21 = .ok (.bipush 90, 2) := by decide +kernel
theorem d2_23 : decode method_2_code 23 = .ok (.if_icmp .gt 5, 3) := by decide +kernel
theorem d2_26 : decode method_2_code 26 = .ok (.iconst 1, 1) := by decide +kernel
theorem d2_27 : decode method_2_code 27 = .ok (.ireturn, 1) := by decide +kernel
theorem d2_28 : decode method_2_code 28 = .ok (.iload_n 0, 1) := by decide +kernel
theorem d2_29 : decode method_2_code 29 = .ok (.bipush 48, 2) := by decide +kernel
theorem d2_31 : decode method_2_code 31 = .ok (.if_icmp .lt 11, 3) := by decide +kernel
theorem d2_34 : decode method_2_code 34 = .ok (.iload_n 0, 1) := by decide +kernel
theorem d2_35 : decode method_2_code 35 = .ok (.bipush 57, 2) := by decide +kernel
theorem d2_37 : decode method_2_code 37 = .ok (.if_icmp .gt 5, 3) := by decide +kernel
theorem d2_40 : decode method_2_code 40 = .ok (.iconst 1, 1) := by decide +kernel
theorem d2_41 : decode method_2_code 41 = .ok (.ireturn, 1) := by decide +kernel
theorem d2_42 : decode method_2_code 42 = .ok (.iload_n 0, 1) := by decide +kernel
theorem d2_43 : decode method_2_code 43 = .ok (.bipush 95, 2) := by decide +kernel
theorem d2_45 : decode method_2_code 45 = .ok (.if_icmp .eq 15, 3) := by decide +kernel
theorem d2_48 : decode method_2_code 48 = .ok (.iload_n 0, 1) := by decide +kernel
theorem d2_49 : decode method_2_code 49 = .ok (.bipush 46, 2) := by decide +kernel
theorem d2_51 : decode method_2_code 51 = .ok (.if_icmp .eq 9, 3) := by decide +kernel
theorem d2_54 : decode method_2_code 54 = .ok (.iload_n 0, 1) := by decide +kernel
theorem d2_55 : decode method_2_code 55 = .ok (.bipush 45, 2) := by decide +kernel
theorem d2_57 : decode method_2_code 57 = .ok (.if_icmp .ne 7, 3) := by decide +kernel
theorem d2_60 : decode method_2_code 60 = .ok (.iconst 1, 1) := by decide +kernel
theorem d2_61 : decode method_2_code 61 = .ok (.goto 4, 3) := by decide +kernel
theorem d2_64 : decode method_2_code 64 = .ok (.iconst 0, 1) := by decide +kernel
theorem d2_65 : decode method_2_code 65 = .ok (.ireturn, 1) := by decide +kernel
theorem pn_2 : plainName "com/example/termwright/termwright/parse/WordFormIsWordCharacterPinLaw" = true := by first | (simp [plainName, overriddenIn]; done) | decide +kernel
theorem ef_2 (m : MethodId) (p1 : Int32) : entryFrame m #[(.int p1)] 1 = mkF m 0 #[.val (.int p1)] [] := by first | (simp [entryFrame, mkF, argsToLocals, Value.category]; done) | rfl
def f2_42 (p1 : Int32) : Int32 := (if p1 = (95 : Int32) then (1 : Int32) else (if p1 = (46 : Int32) then (1 : Int32) else (if p1 = (45 : Int32) then (1 : Int32) else (0 : Int32))))
def f2_28 (p1 : Int32) : Int32 := (if p1 < (48 : Int32) then (f2_42 p1) else (if (57 : Int32) < p1 then (f2_42 p1) else (1 : Int32)))
def f2_14 (p1 : Int32) : Int32 := (if p1 < (65 : Int32) then (f2_28 p1) else (if (90 : Int32) < p1 then (f2_28 p1) else (1 : Int32)))
def f2 (p1 : Int32) : Int32 := (if p1 < (97 : Int32) then (f2_14 p1) else (if (122 : Int32) < p1 then (f2_14 p1) else (1 : Int32)))
def Q2 (Z : State) (p1 : Int32) (h0 : Heap) (n0 : Nat) (v : Option Value) (h : Heap) (L : List Loc) : Prop := v = some (.int (f2 p1)) ∧ Fr n0 L ∧ h = h0
set_option maxRecDepth 65536 in
set_option maxHeartbeats 40000000 in
theorem rm2 (l : Launch) (Z : State) (a0 : Array Value) (hw : ∀ d ∈ tables_1, d.before a0 Z = true) (ws : List Jvm.Cond) (p1 : Int32) (h0 : Heap) (n0 : Nat)  :
    MetFree l (⟨"com/example/termwright/termwright/parse/WordFormIsWordCharacterPinLaw", "expected", "(I)Z"⟩ : MethodName) (head1 (Jvm.Cond.code (⟨"com/example/termwright/termwright/parse/WordFormIsWordCharacterPinLaw", "expected", "(I)Z"⟩ : MethodName) method_2_code 1 (some .boolean) :: ws) ({ frames := 0, cells := 0, slots := 0, locals := 0 } : Room)) (fun a U => a = #[(.int p1)] ∧ Z.Warmed39 U.vm ∧ U.heap = h0) (fun _ _ _ _ _ => True) (fun _ U o U' => ∃ v L, o = .returned v ∧ Q2 Z p1 h0 n0 v U'.heap L ∧ FrameEnd U o U' L ({ frames := 0, cells := 0, slots := 0, locals := 0 } : Room).cells ({ frames := 0, cells := 0, slots := 0, locals := 0 } : Room).slots) := by
  refine MetFree.of_bodySF (plainFor_of_name pn_2) hisR ?_
  intro p e s m args below meth c s₁ Bd hml0 hP hK
  obtain ⟨rfl, hZ, hh⟩ := hP
  have hx := Bd.exec
  have hby := Bd.bytes
  have hml : c.maxLocals = 1 := hml0
  have hown : s.vm.findClass "com/example/termwright/termwright/parse/WordFormIsWordCharacterPinLaw" = some m.cls := findClass_of_methodNamed Bd.named
  have hnm := (name_of_methodNamed Bd.named Bd.method).1
  have X0 : Stand p l e ({ frames := 0, cells := 0, slots := 0, locals := 0 } : Room) s m #[(.int p1)] below meth c s₁ [] 0 0 := Stand.of_body Bd
  have e0 : s₁.heap = h0 := by rw [← hh, Bd.state]; rfl
  have N0 := Fr.nil n0
  have pre0 : ∀ t, Steps p.tables e below (s₁.setTop (mkF m 0 #[.val (.int p1)] [])) t → Steps p.tables e below (s₁.setTop (entryFrame m #[(.int p1)] 1)) t := fun t k => castTop (ef_2 m p1) k
  refine Classical.byContradiction fun hneg => ?_
  have J42 : (∀ t, Steps p.tables e below (s₁.setTop (mkF m 42 #[.val (.int p1)] [])) t → Steps p.tables e below (s₁.setTop (entryFrame m #[(.int p1)] 1)) t) → f2 p1 = f2_42 p1 → False := by
    intro  pre hv
    have pre1 : ∀ t, Steps p.tables e below (s₁.setTop (mkF m 45 #[.val (.int p1)] [(.int (95 : Int32)), (.int p1)])) t → Steps p.tables e below (s₁.setTop (entryFrame m #[(.int p1)] 1)) t := by
      intro t k
      refine pre t ?_
      show Steps p.tables e below (s₁.setTop (mkF m 42 #[.val (.int p1)] [])) _
      refine XS.iloadN X0.here hx rfl (hb hby d2_42) rfl ?_
      show Steps p.tables e below (s₁.setTop (mkF m 43 #[.val (.int p1)] [(.int p1)])) _
      refine XS.bipush X0.here hx rfl (hb hby d2_43) ?_
      exact k
    by_cases hc45_2 : p1 = (95 : Int32)
    · refine hneg ?_
      obtain ⟨fs, hr, hrun, hended, hW, hsame⟩ := X0.leave (v := some (.int (1 : Int32))) (fun h => by rw [Bd.returns] at h; cases h)
      refine ⟨_, _, pre1 _ ?_, hrun, hended, _, _, rfl, ?_, ⟨_, rfl⟩, hW, hsame.mono (by decide) (by decide)⟩
      · show Steps p.tables e below (s₁.setTop (mkF m 45 #[.val (.int p1)] [(.int (95 : Int32)), (.int p1)])) _
        refine XS.icmpYes X0.here hx rfl (pc0 := 45) (pc' := 60) rfl (hb hby d2_45) rfl (teq hc45_2).1 (by decide) (by decide) ?_
        show Steps p.tables e below (s₁.setTop (mkF m 60 #[.val (.int p1)] [])) _
        refine XS.iconst X0.here hx rfl (hb hby d2_60) ?_
        show Steps p.tables e below (s₁.setTop (mkF m 61 #[.val (.int p1)] [(.int (1 : Int32))])) _
        refine XS.goto X0.here hx rfl (pc0 := 61) (pc' := 65) rfl (hb hby d2_61) (by decide) (by decide) ?_
        show Steps p.tables e below (s₁.setTop (mkF m 65 #[.val (.int p1)] [(.int (1 : Int32))])) _
        exact retN X0 hx (t := .boolean) Bd.returns (by simp) (hb hby d2_65) hr
      · show Q2 Z p1 h0 n0 _ s₁.heap _
        rw [e0]
        refine ⟨?_, N0, rfl⟩
        rw [show f2 p1 = (1 : Int32) from (by rw [hv]; simp only [f2_42, if_pos hc45_2])]
    · have pre3 : ∀ t, Steps p.tables e below (s₁.setTop (mkF m 51 #[.val (.int p1)] [(.int (46 : Int32)), (.int p1)])) t → Steps p.tables e below (s₁.setTop (entryFrame m #[(.int p1)] 1)) t := by
        intro t k
        refine pre1 t ?_
        show Steps p.tables e below (s₁.setTop (mkF m 45 #[.val (.int p1)] [(.int (95 : Int32)), (.int p1)])) _
        refine XS.icmpNo X0.here hx rfl (hb hby d2_45) rfl (feq hc45_2).1 ?_
        show Steps p.tables e below (s₁.setTop (mkF m 48 #[.val (.int p1)] [])) _
        refine XS.iloadN X0.here hx rfl (hb hby d2_48) rfl ?_
        show Steps p.tables e below (s₁.setTop (mkF m 49 #[.val (.int p1)] [(.int p1)])) _
        refine XS.bipush X0.here hx rfl (hb hby d2_49) ?_
        exact k
      by_cases hc51_4 : p1 = (46 : Int32)
      · refine hneg ?_
        obtain ⟨fs, hr, hrun, hended, hW, hsame⟩ := X0.leave (v := some (.int (1 : Int32))) (fun h => by rw [Bd.returns] at h; cases h)
        refine ⟨_, _, pre3 _ ?_, hrun, hended, _, _, rfl, ?_, ⟨_, rfl⟩, hW, hsame.mono (by decide) (by decide)⟩
        · show Steps p.tables e below (s₁.setTop (mkF m 51 #[.val (.int p1)] [(.int (46 : Int32)), (.int p1)])) _
          refine XS.icmpYes X0.here hx rfl (pc0 := 51) (pc' := 60) rfl (hb hby d2_51) rfl (teq hc51_4).1 (by decide) (by decide) ?_
          show Steps p.tables e below (s₁.setTop (mkF m 60 #[.val (.int p1)] [])) _
          refine XS.iconst X0.here hx rfl (hb hby d2_60) ?_
          show Steps p.tables e below (s₁.setTop (mkF m 61 #[.val (.int p1)] [(.int (1 : Int32))])) _
          refine XS.goto X0.here hx rfl (pc0 := 61) (pc' := 65) rfl (hb hby d2_61) (by decide) (by decide) ?_
          show Steps p.tables e below (s₁.setTop (mkF m 65 #[.val (.int p1)] [(.int (1 : Int32))])) _
          exact retN X0 hx (t := .boolean) Bd.returns (by simp) (hb hby d2_65) hr
        · show Q2 Z p1 h0 n0 _ s₁.heap _
          rw [e0]
          refine ⟨?_, N0, rfl⟩
          rw [show f2 p1 = (1 : Int32) from (by rw [hv]; simp only [f2_42, if_neg hc45_2, if_pos hc51_4])]
      · have pre5 : ∀ t, Steps p.tables e below (s₁.setTop (mkF m 57 #[.val (.int p1)] [(.int (45 : Int32)), (.int p1)])) t → Steps p.tables e below (s₁.setTop (entryFrame m #[(.int p1)] 1)) t := by
          intro t k
          refine pre3 t ?_
          show Steps p.tables e below (s₁.setTop (mkF m 51 #[.val (.int p1)] [(.int (46 : Int32)), (.int p1)])) _
          refine XS.icmpNo X0.here hx rfl (hb hby d2_51) rfl (feq hc51_4).1 ?_
          show Steps p.tables e below (s₁.setTop (mkF m 54 #[.val (.int p1)] [])) _
          refine XS.iloadN X0.here hx rfl (hb hby d2_54) rfl ?_
          show Steps p.tables e below (s₁.setTop (mkF m 55 #[.val (.int p1)] [(.int p1)])) _
          refine XS.bipush X0.here hx rfl (hb hby d2_55) ?_
          exact k
        by_cases hc57_6 : p1 = (45 : Int32)
        · refine hneg ?_
          obtain ⟨fs, hr, hrun, hended, hW, hsame⟩ := X0.leave (v := some (.int (1 : Int32))) (fun h => by rw [Bd.returns] at h; cases h)
          refine ⟨_, _, pre5 _ ?_, hrun, hended, _, _, rfl, ?_, ⟨_, rfl⟩, hW, hsame.mono (by decide) (by decide)⟩
          · show Steps p.tables e below (s₁.setTop (mkF m 57 #[.val (.int p1)] [(.int (45 : Int32)), (.int p1)])) _
            refine XS.icmpNo X0.here hx rfl (hb hby d2_57) rfl (teq hc57_6).2 ?_
            show Steps p.tables e below (s₁.setTop (mkF m 60 #[.val (.int p1)] [])) _
            refine XS.iconst X0.here hx rfl (hb hby d2_60) ?_
            show Steps p.tables e below (s₁.setTop (mkF m 61 #[.val (.int p1)] [(.int (1 : Int32))])) _
            refine XS.goto X0.here hx rfl (pc0 := 61) (pc' := 65) rfl (hb hby d2_61) (by decide) (by decide) ?_
            show Steps p.tables e below (s₁.setTop (mkF m 65 #[.val (.int p1)] [(.int (1 : Int32))])) _
            exact retN X0 hx (t := .boolean) Bd.returns (by simp) (hb hby d2_65) hr
          · show Q2 Z p1 h0 n0 _ s₁.heap _
            rw [e0]
            refine ⟨?_, N0, rfl⟩
            rw [show f2 p1 = (1 : Int32) from (by rw [hv]; simp only [f2_42, if_neg hc45_2, if_neg hc51_4, if_pos hc57_6])]
        · refine hneg ?_
          obtain ⟨fs, hr, hrun, hended, hW, hsame⟩ := X0.leave (v := some (.int (0 : Int32))) (fun h => by rw [Bd.returns] at h; cases h)
          refine ⟨_, _, pre5 _ ?_, hrun, hended, _, _, rfl, ?_, ⟨_, rfl⟩, hW, hsame.mono (by decide) (by decide)⟩
          · show Steps p.tables e below (s₁.setTop (mkF m 57 #[.val (.int p1)] [(.int (45 : Int32)), (.int p1)])) _
            refine XS.icmpYes X0.here hx rfl (pc0 := 57) (pc' := 64) rfl (hb hby d2_57) rfl (feq hc57_6).2 (by decide) (by decide) ?_
            show Steps p.tables e below (s₁.setTop (mkF m 64 #[.val (.int p1)] [])) _
            refine XS.iconst X0.here hx rfl (hb hby d2_64) ?_
            show Steps p.tables e below (s₁.setTop (mkF m 65 #[.val (.int p1)] [(.int (0 : Int32))])) _
            exact retN X0 hx (t := .boolean) Bd.returns (by simp) (hb hby d2_65) hr
          · show Q2 Z p1 h0 n0 _ s₁.heap _
            rw [e0]
            refine ⟨?_, N0, rfl⟩
            rw [show f2 p1 = (0 : Int32) from (by rw [hv]; simp only [f2_42, if_neg hc45_2, if_neg hc51_4, if_neg hc57_6])]
  have J28 : (∀ t, Steps p.tables e below (s₁.setTop (mkF m 28 #[.val (.int p1)] [])) t → Steps p.tables e below (s₁.setTop (entryFrame m #[(.int p1)] 1)) t) → f2 p1 = f2_28 p1 → False := by
    intro  pre hv
    have pre7 : ∀ t, Steps p.tables e below (s₁.setTop (mkF m 31 #[.val (.int p1)] [(.int (48 : Int32)), (.int p1)])) t → Steps p.tables e below (s₁.setTop (entryFrame m #[(.int p1)] 1)) t := by
      intro t k
      refine pre t ?_
      show Steps p.tables e below (s₁.setTop (mkF m 28 #[.val (.int p1)] [])) _
      refine XS.iloadN X0.here hx rfl (hb hby d2_28) rfl ?_
      show Steps p.tables e below (s₁.setTop (mkF m 29 #[.val (.int p1)] [(.int p1)])) _
      refine XS.bipush X0.here hx rfl (hb hby d2_29) ?_
      exact k
    by_cases hc31_8 : p1 < (48 : Int32)
    · have pre9 : ∀ t, Steps p.tables e below (s₁.setTop (mkF m 42 #[.val (.int p1)] [])) t → Steps p.tables e below (s₁.setTop (entryFrame m #[(.int p1)] 1)) t := by
        intro t k
        refine pre7 t ?_
        show Steps p.tables e below (s₁.setTop (mkF m 31 #[.val (.int p1)] [(.int (48 : Int32)), (.int p1)])) _
        refine XS.icmpYes X0.here hx rfl (pc0 := 31) (pc' := 42) rfl (hb hby d2_31) rfl (tlt hc31_8).1 (by decide) (by decide) ?_
        exact k
      exact J42  pre9 (by rw [hv]; simp only [f2_28, if_pos hc31_8])
    · have pre10 : ∀ t, Steps p.tables e below (s₁.setTop (mkF m 37 #[.val (.int p1)] [(.int (57 : Int32)), (.int p1)])) t → Steps p.tables e below (s₁.setTop (entryFrame m #[(.int p1)] 1)) t := by
        intro t k
        refine pre7 t ?_
        show Steps p.tables e below (s₁.setTop (mkF m 31 #[.val (.int p1)] [(.int (48 : Int32)), (.int p1)])) _
        refine XS.icmpNo X0.here hx rfl (hb hby d2_31) rfl (flt hc31_8).1 ?_
        show Steps p.tables e below (s₁.setTop (mkF m 34 #[.val (.int p1)] [])) _
        refine XS.iloadN X0.here hx rfl (hb hby d2_34) rfl ?_
        show Steps p.tables e below (s₁.setTop (mkF m 35 #[.val (.int p1)] [(.int p1)])) _
        refine XS.bipush X0.here hx rfl (hb hby d2_35) ?_
        exact k
      by_cases hc37_11 : (57 : Int32) < p1
      · have pre12 : ∀ t, Steps p.tables e below (s₁.setTop (mkF m 42 #[.val (.int p1)] [])) t → Steps p.tables e below (s₁.setTop (entryFrame m #[(.int p1)] 1)) t := by
          intro t k
          refine pre10 t ?_
          show Steps p.tables e below (s₁.setTop (mkF m 37 #[.val (.int p1)] [(.int (57 : Int32)), (.int p1)])) _
          refine XS.icmpYes X0.here hx rfl (pc0 := 37) (pc' := 42) rfl (hb hby d2_37) rfl (tlt hc37_11).2.2.1 (by decide) (by decide) ?_
          exact k
        exact J42  pre12 (by rw [hv]; simp only [f2_28, if_neg hc31_8, if_pos hc37_11])
      · refine hneg ?_
        obtain ⟨fs, hr, hrun, hended, hW, hsame⟩ := X0.leave (v := some (.int (1 : Int32))) (fun h => by rw [Bd.returns] at h; cases h)
        refine ⟨_, _, pre10 _ ?_, hrun, hended, _, _, rfl, ?_, ⟨_, rfl⟩, hW, hsame.mono (by decide) (by decide)⟩
        · show Steps p.tables e below (s₁.setTop (mkF m 37 #[.val (.int p1)] [(.int (57 : Int32)), (.int p1)])) _
          refine XS.icmpNo X0.here hx rfl (hb hby d2_37) rfl (flt hc37_11).2.2.1 ?_
          show Steps p.tables e below (s₁.setTop (mkF m 40 #[.val (.int p1)] [])) _
          refine XS.iconst X0.here hx rfl (hb hby d2_40) ?_
          show Steps p.tables e below (s₁.setTop (mkF m 41 #[.val (.int p1)] [(.int (1 : Int32))])) _
          exact retN X0 hx (t := .boolean) Bd.returns (by simp) (hb hby d2_41) hr
        · show Q2 Z p1 h0 n0 _ s₁.heap _
          rw [e0]
          refine ⟨?_, N0, rfl⟩
          rw [show f2 p1 = (1 : Int32) from (by rw [hv]; simp only [f2_28, if_neg hc31_8, if_neg hc37_11])]
  have J14 : (∀ t, Steps p.tables e below (s₁.setTop (mkF m 14 #[.val (.int p1)] [])) t → Steps p.tables e below (s₁.setTop (entryFrame m #[(.int p1)] 1)) t) → f2 p1 = f2_14 p1 → False := by
    intro  pre hv
    have pre13 : ∀ t, Steps p.tables e below (s₁.setTop (mkF m 17 #[.val (.int p1)] [(.int (65 : Int32)), (.int p1)])) t → Steps p.tables e below (s₁.setTop (entryFrame m #[(.int p1)] 1)) t := by
      intro t k
      refine pre t ?_
      show Steps p.tables e below (s₁.setTop (mkF m 14 #[.val (.int p1)] [])) _
      refine XS.iloadN X0.here hx rfl (hb hby d2_14) rfl ?_
      show Steps p.tables e below (s₁.setTop (mkF m 15 #[.val (.int p1)] [(.int p1)])) _
      refine XS.bipush X0.here hx rfl (hb hby d2_15) ?_
      exact k
    by_cases hc17_14 : p1 < (65 : Int32)
    · have pre15 : ∀ t, Steps p.tables e below (s₁.setTop (mkF m 28 #[.val (.int p1)] [])) t → Steps p.tables e below (s₁.setTop (entryFrame m #[(.int p1)] 1)) t := by
        intro t k
        refine pre13 t ?_
        show Steps p.tables e below (s₁.setTop (mkF m 17 #[.val (.int p1)] [(.int (65 : Int32)), (.int p1)])) _
        refine XS.icmpYes X0.here hx rfl (pc0 := 17) (pc' := 28) rfl (hb hby d2_17) rfl (tlt hc17_14).1 (by decide) (by decide) ?_
        exact k
      exact J28  pre15 (by rw [hv]; simp only [f2_14, if_pos hc17_14])
    · have pre16 : ∀ t, Steps p.tables e below (s₁.setTop (mkF m 23 #[.val (.int p1)] [(.int (90 : Int32)), (.int p1)])) t → Steps p.tables e below (s₁.setTop (entryFrame m #[(.int p1)] 1)) t := by
        intro t k
        refine pre13 t ?_
        show Steps p.tables e below (s₁.setTop (mkF m 17 #[.val (.int p1)] [(.int (65 : Int32)), (.int p1)])) _
        refine XS.icmpNo X0.here hx rfl (hb hby d2_17) rfl (flt hc17_14).1 ?_
        show Steps p.tables e below (s₁.setTop (mkF m 20 #[.val (.int p1)] [])) _
        refine XS.iloadN X0.here hx rfl (hb hby d2_20) rfl ?_
        show Steps p.tables e below (s₁.setTop (mkF m 21 #[.val (.int p1)] [(.int p1)])) _
        refine XS.bipush X0.here hx rfl (hb hby d2_21) ?_
        exact k
      by_cases hc23_17 : (90 : Int32) < p1
      · have pre18 : ∀ t, Steps p.tables e below (s₁.setTop (mkF m 28 #[.val (.int p1)] [])) t → Steps p.tables e below (s₁.setTop (entryFrame m #[(.int p1)] 1)) t := by
          intro t k
          refine pre16 t ?_
          show Steps p.tables e below (s₁.setTop (mkF m 23 #[.val (.int p1)] [(.int (90 : Int32)), (.int p1)])) _
          refine XS.icmpYes X0.here hx rfl (pc0 := 23) (pc' := 28) rfl (hb hby d2_23) rfl (tlt hc23_17).2.2.1 (by decide) (by decide) ?_
          exact k
        exact J28  pre18 (by rw [hv]; simp only [f2_14, if_neg hc17_14, if_pos hc23_17])
      · refine hneg ?_
        obtain ⟨fs, hr, hrun, hended, hW, hsame⟩ := X0.leave (v := some (.int (1 : Int32))) (fun h => by rw [Bd.returns] at h; cases h)
        refine ⟨_, _, pre16 _ ?_, hrun, hended, _, _, rfl, ?_, ⟨_, rfl⟩, hW, hsame.mono (by decide) (by decide)⟩
        · show Steps p.tables e below (s₁.setTop (mkF m 23 #[.val (.int p1)] [(.int (90 : Int32)), (.int p1)])) _
          refine XS.icmpNo X0.here hx rfl (hb hby d2_23) rfl (flt hc23_17).2.2.1 ?_
          show Steps p.tables e below (s₁.setTop (mkF m 26 #[.val (.int p1)] [])) _
          refine XS.iconst X0.here hx rfl (hb hby d2_26) ?_
          show Steps p.tables e below (s₁.setTop (mkF m 27 #[.val (.int p1)] [(.int (1 : Int32))])) _
          exact retN X0 hx (t := .boolean) Bd.returns (by simp) (hb hby d2_27) hr
        · show Q2 Z p1 h0 n0 _ s₁.heap _
          rw [e0]
          refine ⟨?_, N0, rfl⟩
          rw [show f2 p1 = (1 : Int32) from (by rw [hv]; simp only [f2_14, if_neg hc17_14, if_neg hc23_17])]
  have pre19 : ∀ t, Steps p.tables e below (s₁.setTop (mkF m 3 #[.val (.int p1)] [(.int (97 : Int32)), (.int p1)])) t → Steps p.tables e below (s₁.setTop (entryFrame m #[(.int p1)] 1)) t := by
    intro t k
    refine pre0 t ?_
    show Steps p.tables e below (s₁.setTop (mkF m 0 #[.val (.int p1)] [])) _
    refine XS.iloadN X0.here hx rfl (hb hby d2_0) rfl ?_
    show Steps p.tables e below (s₁.setTop (mkF m 1 #[.val (.int p1)] [(.int p1)])) _
    refine XS.bipush X0.here hx rfl (hb hby d2_1) ?_
    exact k
  by_cases hc3_20 : p1 < (97 : Int32)
  · have pre21 : ∀ t, Steps p.tables e below (s₁.setTop (mkF m 14 #[.val (.int p1)] [])) t → Steps p.tables e below (s₁.setTop (entryFrame m #[(.int p1)] 1)) t := by
      intro t k
      refine pre19 t ?_
      show Steps p.tables e below (s₁.setTop (mkF m 3 #[.val (.int p1)] [(.int (97 : Int32)), (.int p1)])) _
      refine XS.icmpYes X0.here hx rfl (pc0 := 3) (pc' := 14) rfl (hb hby d2_3) rfl (tlt hc3_20).1 (by decide) (by decide) ?_
      exact k
    exact J14  pre21 (by skip; simp only [f2, if_pos hc3_20])
  · have pre22 : ∀ t, Steps p.tables e below (s₁.setTop (mkF m 9 #[.val (.int p1)] [(.int (122 : Int32)), (.int p1)])) t → Steps p.tables e below (s₁.setTop (entryFrame m #[(.int p1)] 1)) t := by
      intro t k
      refine pre19 t ?_
      show Steps p.tables e below (s₁.setTop (mkF m 3 #[.val (.int p1)] [(.int (97 : Int32)), (.int p1)])) _
      refine XS.icmpNo X0.here hx rfl (hb hby d2_3) rfl (flt hc3_20).1 ?_
      show Steps p.tables e below (s₁.setTop (mkF m 6 #[.val (.int p1)] [])) _
      refine XS.iloadN X0.here hx rfl (hb hby d2_6) rfl ?_
      show Steps p.tables e below (s₁.setTop (mkF m 7 #[.val (.int p1)] [(.int p1)])) _
      refine XS.bipush X0.here hx rfl (hb hby d2_7) ?_
      exact k
    by_cases hc9_23 : (122 : Int32) < p1
    · have pre24 : ∀ t, Steps p.tables e below (s₁.setTop (mkF m 14 #[.val (.int p1)] [])) t → Steps p.tables e below (s₁.setTop (entryFrame m #[(.int p1)] 1)) t := by
        intro t k
        refine pre22 t ?_
        show Steps p.tables e below (s₁.setTop (mkF m 9 #[.val (.int p1)] [(.int (122 : Int32)), (.int p1)])) _
        refine XS.icmpYes X0.here hx rfl (pc0 := 9) (pc' := 14) rfl (hb hby d2_9) rfl (tlt hc9_23).2.2.1 (by decide) (by decide) ?_
        exact k
      exact J14  pre24 (by skip; simp only [f2, if_neg hc3_20, if_pos hc9_23])
    · refine hneg ?_
      obtain ⟨fs, hr, hrun, hended, hW, hsame⟩ := X0.leave (v := some (.int (1 : Int32))) (fun h => by rw [Bd.returns] at h; cases h)
      refine ⟨_, _, pre22 _ ?_, hrun, hended, _, _, rfl, ?_, ⟨_, rfl⟩, hW, hsame.mono (by decide) (by decide)⟩
      · show Steps p.tables e below (s₁.setTop (mkF m 9 #[.val (.int p1)] [(.int (122 : Int32)), (.int p1)])) _
        refine XS.icmpNo X0.here hx rfl (hb hby d2_9) rfl (flt hc9_23).2.2.1 ?_
        show Steps p.tables e below (s₁.setTop (mkF m 12 #[.val (.int p1)] [])) _
        refine XS.iconst X0.here hx rfl (hb hby d2_12) ?_
        show Steps p.tables e below (s₁.setTop (mkF m 13 #[.val (.int p1)] [(.int (1 : Int32))])) _
        exact retN X0 hx (t := .boolean) Bd.returns (by simp) (hb hby d2_13) hr
      · show Q2 Z p1 h0 n0 _ s₁.heap _
        rw [e0]
        refine ⟨?_, N0, rfl⟩
        rw [show f2 p1 = (1 : Int32) from (by skip; simp only [f2, if_neg hc3_20, if_neg hc9_23])]
theorem pn_0 : plainName "com/example/termwright/termwright/parse/WordFormIsWordCharacterPinLaw" = true := by first | (simp [plainName, overriddenIn]; done) | decide +kernel
theorem ef_0 (m : MethodId) (p1 : Int32) (p2 : Int32) : entryFrame m #[(.int p1), (.int p2)] maxLocals = mkF m 0 #[.val (.int p1), .val (.int p2), .unset, .unset, .unset] [] := by first | (simp [entryFrame, mkF, argsToLocals, Value.category, maxLocals]; done) | rfl
def f0 (p1 : Int32) (p2 : Int32) (wK : Addr) (cl : Cell) : Int32 := (if (f1 p1 wK cl) = (f2 p1) then (if (f1 (p2 &&& (255 : Int32)) wK cl) = (f2 (p2 &&& (255 : Int32))) then (1 : Int32) else (0 : Int32)) else (if (f1 (p2 &&& (255 : Int32)) wK cl) = (f2 (p2 &&& (255 : Int32))) then (0 : Int32) else (0 : Int32)))
def Q0 (Z : State) (p1 : Int32) (p2 : Int32) (wK : Addr) (cl : Cell) (h0 : Heap) (n0 : Nat) (v : Option Value) (h : Heap) (L : List Loc) : Prop := v = some (.int (f0 p1 p2 wK cl)) ∧ Fr n0 L ∧ h = h0
set_option maxRecDepth 65536 in
set_option maxHeartbeats 40000000 in
theorem rm0 (l : Launch) (Z : State) (a0 : Array Value) (hw : ∀ d ∈ tables_1, d.before a0 Z = true) (ws : List Jvm.Cond) (p1 : Int32) (p2 : Int32) (h0 : Heap) (n0 : Nat) (wK : Addr) (cl : Cell) (S_wK : Sta Z h0 "com/example/termwright/termwright/parse/WordForm" "KINDS" "[I" (.ref wK)) (SK : Scr Z h0 wK cl (128 : Int32)) :
    MetFree l x (head1 (Jvm.Cond.code x code maxLocals ret :: ws) room_1) (fun a U => a = #[(.int p1), (.int p2)] ∧ Z.Warmed39 U.vm ∧ U.heap = h0) (fun _ _ _ _ _ => True) (fun _ U o U' => ∃ v L, o = .returned v ∧ Q0 Z p1 p2 wK cl h0 n0 v U'.heap L ∧ FrameEnd U o U' L room_1.cells room_1.slots) := by
  refine MetFree.of_bodySF (plainFor_of_name pn_0) hisR ?_
  intro p e s m args below meth c s₁ Bd hml0 hP hK
  obtain ⟨rfl, hZ, hh⟩ := hP
  have hx := Bd.exec
  have hby := Bd.bytes
  have hml : c.maxLocals = 5 := hml0
  have hown : s.vm.findClass "com/example/termwright/termwright/parse/WordFormIsWordCharacterPinLaw" = some m.cls := findClass_of_methodNamed Bd.named
  have hnm := (name_of_methodNamed Bd.named Bd.method).1
  have X0 : Stand p l e room_1 s m #[(.int p1), (.int p2)] below meth c s₁ [] 0 0 := Stand.of_body Bd
  have e0 : s₁.heap = h0 := by rw [← hh, Bd.state]; rfl
  have N0 := Fr.nil n0
  have pre0 : ∀ t, Steps p.tables e below (s₁.setTop (mkF m 0 #[.val (.int p1), .val (.int p2), .unset, .unset, .unset] [])) t → Steps p.tables e below (s₁.setTop (entryFrame m #[(.int p1), (.int p2)] maxLocals)) t := fun t k => castTop (ef_0 m p1 p2) k
  refine Classical.byContradiction fun hneg => ?_
  obtain ⟨_, _, ⟨T1, L1, k1, n1⟩, -, X1, ⟨Lc1, hQ1, l1, y1, z1⟩, st1⟩ := Jvm.LawKit.callS X0 hx (y := (⟨"com/example/termwright/termwright/parse/WordForm", "isWordCharacter", "(I)Z"⟩ : MethodName)) hown (mvT hZ (hw _ (List.mem_of_getElem? (i := 0) rfl))) (mvT hZ (hw _ (List.mem_of_getElem? (i := 1) rfl))) (mvT hZ (hw _ (List.mem_of_getElem? (i := 2) rfl))) (mvT hZ (hw _ (List.mem_of_getElem? (i := 3) rfl))) (by decide) (backOf (W := 0) (rm1 l Z a0 hw [] p1  h0 n0 wK cl S_wK SK) hZ (hw _ (List.mem_of_getElem? (i := 3) rfl)) (hw _ (List.mem_of_getElem? (i := 2) rfl)) (by decide) (by decide)) (g := (mkF m 7 #[.val (.int p1), .val (.int p2), .val (.int (p2 &&& (255 : Int32))), .unset, .unset] [(.int p1)])) rfl (by rw [hml]; rfl) (argsL := [(.int p1)]) (rest := []) (lenOf pd0 rfl) rfl (by show 2 * 0 + _ ≤ _; exact Nat.le_of_eq rfl) (hb hby at_7) (fun _ _ => ⟨rfl, e0, (by decide : 0 + 0 ≤ _), (by decide : 0 + 0 ≤ _)⟩)
  dsimp only [Pt.U, Pt.locs, Pt.cells, Pt.slots] at X1 l1 y1 z1 st1 hQ1
  subst l1 y1 z1
  obtain ⟨rfl, N1q, e1⟩ := hQ1
  have N1 := Fr.app N0 N1q
  obtain ⟨_, _, ⟨T2, L2, k2, n2⟩, -, X2, ⟨Lc2, hQ2, l2, y2, z2⟩, st2⟩ := Jvm.LawKit.callS X1 hx (y := (⟨"com/example/termwright/termwright/parse/WordFormIsWordCharacterPinLaw", "expected", "(I)Z"⟩ : MethodName)) hown (mvT hZ (hw _ (List.mem_of_getElem? (i := 6) rfl))) (mvT hZ (hw _ (List.mem_of_getElem? (i := 7) rfl))) (mvT hZ (hw _ (List.mem_of_getElem? (i := 8) rfl))) (mvT hZ (hw _ (List.mem_of_getElem? (i := 9) rfl))) (by decide) (backOf (W := 1) (rm2 l Z a0 hw [] p1  h0 n0  ) hZ (hw _ (List.mem_of_getElem? (i := 9) rfl)) (hw _ (List.mem_of_getElem? (i := 8) rfl)) (by decide) (by decide)) (g := (mkF m 11 #[.val (.int p1), .val (.int p2), .val (.int (p2 &&& (255 : Int32))), .unset, .unset] [(.int p1), (.int (f1 p1 wK cl))])) rfl (by rw [hml]; rfl) (argsL := [(.int p1)]) (rest := [(.int (f1 p1 wK cl))]) (lenOf pd0 rfl) rfl (by show 2 * 0 + _ ≤ _; exact Nat.le_of_eq rfl) (hb hby at_11) (fun _ _ => ⟨rfl, e1, (by decide : 0 + 0 ≤ _), (by decide : 0 + 0 ≤ _)⟩)
  dsimp only [Pt.U, Pt.locs, Pt.cells, Pt.slots] at X2 l2 y2 z2 st2 hQ2
  subst l2 y2 z2
  obtain ⟨rfl, N2q, e2⟩ := hQ2
  have N2 := Fr.app N1 N2q
  have pre3 : ∀ t, Steps p.tables e below (T2.setTop (mkF m 14 #[.val (.int p1), .val (.int p2), .val (.int (p2 &&& (255 : Int32))), .unset, .unset] [(.int (f2 p1)), (.int (f1 p1 wK cl))])) t → Steps p.tables e below (s₁.setTop (entryFrame m #[(.int p1), (.int p2)] maxLocals)) t := by
    intro t k
    refine pre0 t ?_
    show Steps p.tables e below (s₁.setTop (mkF m 0 #[.val (.int p1), .val (.int p2), .unset, .unset, .unset] [])) _
    refine XS.iloadN X0.here hx rfl (hb hby at_0) rfl ?_
    show Steps p.tables e below (s₁.setTop (mkF m 1 #[.val (.int p1), .val (.int p2), .unset, .unset, .unset] [(.int p2)])) _
    refine XS.sipush X0.here hx rfl (hb hby at_1) ?_
    show Steps p.tables e below (s₁.setTop (mkF m 4 #[.val (.int p1), .val (.int p2), .unset, .unset, .unset] [(.int (255 : Int32)), (.int p2)])) _
    refine XS.iand X0.here hx rfl (hb hby at_4) rfl ?_
    show Steps p.tables e below (s₁.setTop (mkF m 5 #[.val (.int p1), .val (.int p2), .unset, .unset, .unset] [(.int (p2 &&& (255 : Int32)))])) _
    refine XS.istoreN X0.here hx rfl (hb hby at_5) rfl (l' := #[.val (.int p1), .val (.int p2), .val (.int (p2 &&& (255 : Int32))), .unset, .unset]) rfl ?_
    show Steps p.tables e below (s₁.setTop (mkF m 6 #[.val (.int p1), .val (.int p2), .val (.int (p2 &&& (255 : Int32))), .unset, .unset] [])) _
    refine XS.iloadN X0.here hx rfl (hb hby at_6) rfl ?_
    show Steps p.tables e below (s₁.setTop (mkF m 7 #[.val (.int p1), .val (.int p2), .val (.int (p2 &&& (255 : Int32))), .unset, .unset] [(.int p1)])) _
    refine st1 _ ?_
    show Steps p.tables e below (T1.setTop (mkF m 10 #[.val (.int p1), .val (.int p2), .val (.int (p2 &&& (255 : Int32))), .unset, .unset] [(.int (f1 p1 wK cl))])) _
    refine XS.iloadN X1.here hx rfl (hb hby at_10) rfl ?_
    show Steps p.tables e below (T1.setTop (mkF m 11 #[.val (.int p1), .val (.int p2), .val (.int (p2 &&& (255 : Int32))), .unset, .unset] [(.int p1), (.int (f1 p1 wK cl))])) _
    refine st2 _ ?_
    exact k
  by_cases hc14_4 : (f1 p1 wK cl) = (f2 p1)
  · obtain ⟨_, _, ⟨T5, L5, k5, n5⟩, -, X5, ⟨Lc5, hQ5, l5, y5, z5⟩, st5⟩ := Jvm.LawKit.callS X2 hx (y := (⟨"com/example/termwright/termwright/parse/WordForm", "isWordCharacter", "(I)Z"⟩ : MethodName)) hown (mvT hZ (hw _ (List.mem_of_getElem? (i := 0) rfl))) (mvT hZ (hw _ (List.mem_of_getElem? (i := 1) rfl))) (mvT hZ (hw _ (List.mem_of_getElem? (i := 2) rfl))) (mvT hZ (hw _ (List.mem_of_getElem? (i := 3) rfl))) (by decide) (backOf (W := 0) (rm1 l Z a0 hw [] (p2 &&& (255 : Int32))  h0 n0 wK cl S_wK SK) hZ (hw _ (List.mem_of_getElem? (i := 3) rfl)) (hw _ (List.mem_of_getElem? (i := 2) rfl)) (by decide) (by decide)) (g := (mkF m 24 #[.val (.int p1), .val (.int p2), .val (.int (p2 &&& (255 : Int32))), .val (.int (1 : Int32)), .unset] [(.int (p2 &&& (255 : Int32)))])) rfl (by rw [hml]; rfl) (argsL := [(.int (p2 &&& (255 : Int32)))]) (rest := []) (lenOf pd0 rfl) rfl (by show 2 * 0 + _ ≤ _; exact Nat.le_of_eq rfl) (hb hby at_24) (fun _ _ => ⟨rfl, e2, (by decide : 0 + 0 ≤ _), (by decide : 0 + 0 ≤ _)⟩)
    dsimp only [Pt.U, Pt.locs, Pt.cells, Pt.slots] at X5 l5 y5 z5 st5 hQ5
    subst l5 y5 z5
    obtain ⟨rfl, N5q, e5⟩ := hQ5
    have N5 := Fr.app N2 N5q
    obtain ⟨_, _, ⟨T6, L6, k6, n6⟩, -, X6, ⟨Lc6, hQ6, l6, y6, z6⟩, st6⟩ := Jvm.LawKit.callS X5 hx (y := (⟨"com/example/termwright/termwright/parse/WordFormIsWordCharacterPinLaw", "expected", "(I)Z"⟩ : MethodName)) hown (mvT hZ (hw _ (List.mem_of_getElem? (i := 6) rfl))) (mvT hZ (hw _ (List.mem_of_getElem? (i := 7) rfl))) (mvT hZ (hw _ (List.mem_of_getElem? (i := 8) rfl))) (mvT hZ (hw _ (List.mem_of_getElem? (i := 9) rfl))) (by decide) (backOf (W := 1) (rm2 l Z a0 hw [] (p2 &&& (255 : Int32))  h0 n0  ) hZ (hw _ (List.mem_of_getElem? (i := 9) rfl)) (hw _ (List.mem_of_getElem? (i := 8) rfl)) (by decide) (by decide)) (g := (mkF m 28 #[.val (.int p1), .val (.int p2), .val (.int (p2 &&& (255 : Int32))), .val (.int (1 : Int32)), .unset] [(.int (p2 &&& (255 : Int32))), (.int (f1 (p2 &&& (255 : Int32)) wK cl))])) rfl (by rw [hml]; rfl) (argsL := [(.int (p2 &&& (255 : Int32)))]) (rest := [(.int (f1 (p2 &&& (255 : Int32)) wK cl))]) (lenOf pd0 rfl) rfl (by show 2 * 0 + _ ≤ _; exact Nat.le_of_eq rfl) (hb hby at_28) (fun _ _ => ⟨rfl, e5, (by decide : 0 + 0 ≤ _), (by decide : 0 + 0 ≤ _)⟩)
    dsimp only [Pt.U, Pt.locs, Pt.cells, Pt.slots] at X6 l6 y6 z6 st6 hQ6
    subst l6 y6 z6
    obtain ⟨rfl, N6q, e6⟩ := hQ6
    have N6 := Fr.app N5 N6q
    have pre7 : ∀ t, Steps p.tables e below (T6.setTop (mkF m 31 #[.val (.int p1), .val (.int p2), .val (.int (p2 &&& (255 : Int32))), .val (.int (1 : Int32)), .unset] [(.int (f2 (p2 &&& (255 : Int32)))), (.int (f1 (p2 &&& (255 : Int32)) wK cl))])) t → Steps p.tables e below (s₁.setTop (entryFrame m #[(.int p1), (.int p2)] maxLocals)) t := by
      intro t k
      refine pre3 t ?_
      show Steps p.tables e below (T2.setTop (mkF m 14 #[.val (.int p1), .val (.int p2), .val (.int (p2 &&& (255 : Int32))), .unset, .unset] [(.int (f2 p1)), (.int (f1 p1 wK cl))])) _
      refine XS.icmpNo X2.here hx rfl (hb hby at_14) rfl (teq hc14_4).2 ?_
      show Steps p.tables e below (T2.setTop (mkF m 17 #[.val (.int p1), .val (.int p2), .val (.int (p2 &&& (255 : Int32))), .unset, .unset] [])) _
      refine XS.iconst X2.here hx rfl (hb hby at_17) ?_
      show Steps p.tables e below (T2.setTop (mkF m 18 #[.val (.int p1), .val (.int p2), .val (.int (p2 &&& (255 : Int32))), .unset, .unset] [(.int (1 : Int32))])) _
      refine XS.goto X2.here hx rfl (pc0 := 18) (pc' := 22) rfl (hb hby at_18) (by decide) (by decide) ?_
      show Steps p.tables e below (T2.setTop (mkF m 22 #[.val (.int p1), .val (.int p2), .val (.int (p2 &&& (255 : Int32))), .unset, .unset] [(.int (1 : Int32))])) _
      refine XS.istoreN X2.here hx rfl (hb hby at_22) rfl (l' := #[.val (.int p1), .val (.int p2), .val (.int (p2 &&& (255 : Int32))), .val (.int (1 : Int32)), .unset]) rfl ?_
      show Steps p.tables e below (T2.setTop (mkF m 23 #[.val (.int p1), .val (.int p2), .val (.int (p2 &&& (255 : Int32))), .val (.int (1 : Int32)), .unset] [])) _
      refine XS.iloadN X2.here hx rfl (hb hby at_23) rfl ?_
      show Steps p.tables e below (T2.setTop (mkF m 24 #[.val (.int p1), .val (.int p2), .val (.int (p2 &&& (255 : Int32))), .val (.int (1 : Int32)), .unset] [(.int (p2 &&& (255 : Int32)))])) _
      refine st5 _ ?_
      show Steps p.tables e below (T5.setTop (mkF m 27 #[.val (.int p1), .val (.int p2), .val (.int (p2 &&& (255 : Int32))), .val (.int (1 : Int32)), .unset] [(.int (f1 (p2 &&& (255 : Int32)) wK cl))])) _
      refine XS.iloadN X5.here hx rfl (hb hby at_27) rfl ?_
      show Steps p.tables e below (T5.setTop (mkF m 28 #[.val (.int p1), .val (.int p2), .val (.int (p2 &&& (255 : Int32))), .val (.int (1 : Int32)), .unset] [(.int (p2 &&& (255 : Int32))), (.int (f1 (p2 &&& (255 : Int32)) wK cl))])) _
      refine st6 _ ?_
      exact k
    by_cases hc31_8 : (f1 (p2 &&& (255 : Int32)) wK cl) = (f2 (p2 &&& (255 : Int32)))
    · refine hneg ?_
      obtain ⟨fs, hr, hrun, hended, hW, hsame⟩ := X6.leave (v := some (.int (1 : Int32))) (fun h => by rw [Bd.returns] at h; cases h)
      refine ⟨_, _, pre7 _ ?_, hrun, hended, _, _, rfl, ?_, ⟨_, rfl⟩, hW, hsame.mono (by decide) (by decide)⟩
      · show Steps p.tables e below (T6.setTop (mkF m 31 #[.val (.int p1), .val (.int p2), .val (.int (p2 &&& (255 : Int32))), .val (.int (1 : Int32)), .unset] [(.int (f2 (p2 &&& (255 : Int32)))), (.int (f1 (p2 &&& (255 : Int32)) wK cl))])) _
        refine XS.icmpNo X6.here hx rfl (hb hby at_31) rfl (teq hc31_8).2 ?_
        show Steps p.tables e below (T6.setTop (mkF m 34 #[.val (.int p1), .val (.int p2), .val (.int (p2 &&& (255 : Int32))), .val (.int (1 : Int32)), .unset] [])) _
        refine XS.iconst X6.here hx rfl (hb hby at_34) ?_
        show Steps p.tables e below (T6.setTop (mkF m 35 #[.val (.int p1), .val (.int p2), .val (.int (p2 &&& (255 : Int32))), .val (.int (1 : Int32)), .unset] [(.int (1 : Int32))])) _
        refine XS.goto X6.here hx rfl (pc0 := 35) (pc' := 39) rfl (hb hby at_35) (by decide) (by decide) ?_
        show Steps p.tables e below (T6.setTop (mkF m 39 #[.val (.int p1), .val (.int p2), .val (.int (p2 &&& (255 : Int32))), .val (.int (1 : Int32)), .unset] [(.int (1 : Int32))])) _
        refine XS.istore X6.here hx rfl (hb hby at_39) rfl (l' := #[.val (.int p1), .val (.int p2), .val (.int (p2 &&& (255 : Int32))), .val (.int (1 : Int32)), .val (.int (1 : Int32))]) rfl ?_
        show Steps p.tables e below (T6.setTop (mkF m 41 #[.val (.int p1), .val (.int p2), .val (.int (p2 &&& (255 : Int32))), .val (.int (1 : Int32)), .val (.int (1 : Int32))] [])) _
        refine XS.iloadN X6.here hx rfl (hb hby at_41) rfl ?_
        show Steps p.tables e below (T6.setTop (mkF m 42 #[.val (.int p1), .val (.int p2), .val (.int (p2 &&& (255 : Int32))), .val (.int (1 : Int32)), .val (.int (1 : Int32))] [(.int (1 : Int32))])) _
        refine XS.ifNo X6.here hx rfl (hb hby at_42) rfl ((if0 _ _).trans (feq (by decide : ¬ ((1 : Int32) = (0 : Int32)))).1) ?_
        show Steps p.tables e below (T6.setTop (mkF m 45 #[.val (.int p1), .val (.int p2), .val (.int (p2 &&& (255 : Int32))), .val (.int (1 : Int32)), .val (.int (1 : Int32))] [])) _
        refine XS.iload X6.here hx rfl (hb hby at_45) rfl ?_
        show Steps p.tables e below (T6.setTop (mkF m 47 #[.val (.int p1), .val (.int p2), .val (.int (p2 &&& (255 : Int32))), .val (.int (1 : Int32)), .val (.int (1 : Int32))] [(.int (1 : Int32))])) _
        refine XS.ifNo X6.here hx rfl (hb hby at_47) rfl ((if0 _ _).trans (feq (by decide : ¬ ((1 : Int32) = (0 : Int32)))).1) ?_
        show Steps p.tables e below (T6.setTop (mkF m 50 #[.val (.int p1), .val (.int p2), .val (.int (p2 &&& (255 : Int32))), .val (.int (1 : Int32)), .val (.int (1 : Int32))] [])) _
        refine XS.iconst X6.here hx rfl (hb hby at_50) ?_
        show Steps p.tables e below (T6.setTop (mkF m 51 #[.val (.int p1), .val (.int p2), .val (.int (p2 &&& (255 : Int32))), .val (.int (1 : Int32)), .val (.int (1 : Int32))] [(.int (1 : Int32))])) _
        refine XS.goto X6.here hx rfl (pc0 := 51) (pc' := 55) rfl (hb hby at_51) (by decide) (by decide) ?_
        show Steps p.tables e below (T6.setTop (mkF m 55 #[.val (.int p1), .val (.int p2), .val (.int (p2 &&& (255 : Int32))), .val (.int (1 : Int32)), .val (.int (1 : Int32))] [(.int (1 : Int32))])) _
        exact retN X6 hx (t := .boolean) Bd.returns (by simp) (hb hby at_55) hr
      · show Q0 Z p1 p2 wK cl h0 n0 _ T6.heap _
        rw [e6]
        refine ⟨?_, N6, rfl⟩
        rw [show f0 p1 p2 wK cl = (1 : Int32) from (by skip; simp only [f0, if_pos hc14_4, if_pos hc31_8])]
    · refine hneg ?_
      obtain ⟨fs, hr, hrun, hended, hW, hsame⟩ := X6.leave (v := some (.int (0 : Int32))) (fun h => by rw [Bd.returns] at h; cases h)
      refine ⟨_, _, pre7 _ ?_, hrun, hended, _, _, rfl, ?_, ⟨_, rfl⟩, hW, hsame.mono (by decide) (by decide)⟩
      · show Steps p.tables e below (T6.setTop (mkF m 31 #[.val (.int p1), .val (.int p2), .val (.int (p2 &&& (255 : Int32))), .val (.int (1 : Int32)), .unset] [(.int (f2 (p2 &&& (255 : Int32)))), (.int (f1 (p2 &&& (255 : Int32)) wK cl))])) _
        refine XS.icmpYes X6.here hx rfl (pc0 := 31) (pc' := 38) rfl (hb hby at_31) rfl (feq hc31_8).2 (by decide) (by decide) ?_
        show Steps p.tables e below (T6.setTop (mkF m 38 #[.val (.int p1), .val (.int p2), .val (.int (p2 &&& (255 : Int32))), .val (.int (1 : Int32)), .unset] [])) _
        refine XS.iconst X6.here hx rfl (hb hby at_38) ?_
        show Steps p.tables e below (T6.setTop (mkF m 39 #[.val (.int p1), .val (.int p2), .val (.int (p2 &&& (255 : Int32))), .val (.int (1 : Int32)), .unset] [(.int (0 : Int32))])) _
        refine XS.istore X6.here hx rfl (hb hby at_39) rfl (l' := #[.val (.int p1), .val (.int p2), .val (.int (p2 &&& (255 : Int32))), .val (.int (1 : Int32)), .val (.int (0 : Int32))]) rfl ?_
        show Steps p.tables e below (T6.setTop (mkF m 41 #[.val (.int p1), .val (.int p2), .val (.int (p2 &&& (255 : Int32))), .val (.int (1 : Int32)), .val (.int (0 : Int32))] [])) _
        refine XS.iloadN X6.here hx rfl (hb hby at_41) rfl ?_
        show Steps p.tables e below (T6.setTop (mkF m 42 #[.val (.int p1), .val (.int p2), .val (.int (p2 &&& (255 : Int32))), .val (.int (1 : Int32)), .val (.int (0 : Int32))] [(.int (1 : Int32))])) _
        refine XS.ifNo X6.here hx rfl (hb hby at_42) rfl ((if0 _ _).trans (feq (by decide : ¬ ((1 : Int32) = (0 : Int32)))).1) ?_
        show Steps p.tables e below (T6.setTop (mkF m 45 #[.val (.int p1), .val (.int p2), .val (.int (p2 &&& (255 : Int32))), .val (.int (1 : Int32)), .val (.int (0 : Int32))] [])) _
        refine XS.iload X6.here hx rfl (hb hby at_45) rfl ?_
        show Steps p.tables e below (T6.setTop (mkF m 47 #[.val (.int p1), .val (.int p2), .val (.int (p2 &&& (255 : Int32))), .val (.int (1 : Int32)), .val (.int (0 : Int32))] [(.int (0 : Int32))])) _
        refine XS.ifYes X6.here hx rfl (pc0 := 47) (pc' := 54) rfl (hb hby at_47) rfl ((if0 _ _).trans (teq (by decide : (0 : Int32) = (0 : Int32))).1) (by decide) (by decide) ?_
        show Steps p.tables e below (T6.setTop (mkF m 54 #[.val (.int p1), .val (.int p2), .val (.int (p2 &&& (255 : Int32))), .val (.int (1 : Int32)), .val (.int (0 : Int32))] [])) _
        refine XS.iconst X6.here hx rfl (hb hby at_54) ?_
        show Steps p.tables e below (T6.setTop (mkF m 55 #[.val (.int p1), .val (.int p2), .val (.int (p2 &&& (255 : Int32))), .val (.int (1 : Int32)), .val (.int (0 : Int32))] [(.int (0 : Int32))])) _
        exact retN X6 hx (t := .boolean) Bd.returns (by simp) (hb hby at_55) hr
      · show Q0 Z p1 p2 wK cl h0 n0 _ T6.heap _
        rw [e6]
        refine ⟨?_, N6, rfl⟩
        rw [show f0 p1 p2 wK cl = (0 : Int32) from (by skip; simp only [f0, if_pos hc14_4, if_neg hc31_8])]
  · obtain ⟨_, _, ⟨T9, L9, k9, n9⟩, -, X9, ⟨Lc9, hQ9, l9, y9, z9⟩, st9⟩ := Jvm.LawKit.callS X2 hx (y := (⟨"com/example/termwright/termwright/parse/WordForm", "isWordCharacter", "(I)Z"⟩ : MethodName)) hown (mvT hZ (hw _ (List.mem_of_getElem? (i := 0) rfl))) (mvT hZ (hw _ (List.mem_of_getElem? (i := 1) rfl))) (mvT hZ (hw _ (List.mem_of_getElem? (i := 2) rfl))) (mvT hZ (hw _ (List.mem_of_getElem? (i := 3) rfl))) (by decide) (backOf (W := 0) (rm1 l Z a0 hw [] (p2 &&& (255 : Int32))  h0 n0 wK cl S_wK SK) hZ (hw _ (List.mem_of_getElem? (i := 3) rfl)) (hw _ (List.mem_of_getElem? (i := 2) rfl)) (by decide) (by decide)) (g := (mkF m 24 #[.val (.int p1), .val (.int p2), .val (.int (p2 &&& (255 : Int32))), .val (.int (0 : Int32)), .unset] [(.int (p2 &&& (255 : Int32)))])) rfl (by rw [hml]; rfl) (argsL := [(.int (p2 &&& (255 : Int32)))]) (rest := []) (lenOf pd0 rfl) rfl (by show 2 * 0 + _ ≤ _; exact Nat.le_of_eq rfl) (hb hby at_24) (fun _ _ => ⟨rfl, e2, (by decide : 0 + 0 ≤ _), (by decide : 0 + 0 ≤ _)⟩)
    dsimp only [Pt.U, Pt.locs, Pt.cells, Pt.slots] at X9 l9 y9 z9 st9 hQ9
    subst l9 y9 z9
    obtain ⟨rfl, N9q, e9⟩ := hQ9
    have N9 := Fr.app N2 N9q
    obtain ⟨_, _, ⟨T10, L10, k10, n10⟩, -, X10, ⟨Lc10, hQ10, l10, y10, z10⟩, st10⟩ := Jvm.LawKit.callS X9 hx (y := (⟨"com/example/termwright/termwright/parse/WordFormIsWordCharacterPinLaw", "expected", "(I)Z"⟩ : MethodName)) hown (mvT hZ (hw _ (List.mem_of_getElem? (i := 6) rfl))) (mvT hZ (hw _ (List.mem_of_getElem? (i := 7) rfl))) (mvT hZ (hw _ (List.mem_of_getElem? (i := 8) rfl))) (mvT hZ (hw _ (List.mem_of_getElem? (i := 9) rfl))) (by decide) (backOf (W := 1) (rm2 l Z a0 hw [] (p2 &&& (255 : Int32))  h0 n0  ) hZ (hw _ (List.mem_of_getElem? (i := 9) rfl)) (hw _ (List.mem_of_getElem? (i := 8) rfl)) (by decide) (by decide)) (g := (mkF m 28 #[.val (.int p1), .val (.int p2), .val (.int (p2 &&& (255 : Int32))), .val (.int (0 : Int32)), .unset] [(.int (p2 &&& (255 : Int32))), (.int (f1 (p2 &&& (255 : Int32)) wK cl))])) rfl (by rw [hml]; rfl) (argsL := [(.int (p2 &&& (255 : Int32)))]) (rest := [(.int (f1 (p2 &&& (255 : Int32)) wK cl))]) (lenOf pd0 rfl) rfl (by show 2 * 0 + _ ≤ _; exact Nat.le_of_eq rfl) (hb hby at_28) (fun _ _ => ⟨rfl, e9, (by decide : 0 + 0 ≤ _), (by decide : 0 + 0 ≤ _)⟩)
    dsimp only [Pt.U, Pt.locs, Pt.cells, Pt.slots] at X10 l10 y10 z10 st10 hQ10
    subst l10 y10 z10
    obtain ⟨rfl, N10q, e10⟩ := hQ10
    have N10 := Fr.app N9 N10q
    have pre11 : ∀ t, Steps p.tables e below (T10.setTop (mkF m 31 #[.val (.int p1), .val (.int p2), .val (.int (p2 &&& (255 : Int32))), .val (.int (0 : Int32)), .unset] [(.int (f2 (p2 &&& (255 : Int32)))), (.int (f1 (p2 &&& (255 : Int32)) wK cl))])) t → Steps p.tables e below (s₁.setTop (entryFrame m #[(.int p1), (.int p2)] maxLocals)) t := by
      intro t k
      refine pre3 t ?_
      show Steps p.tables e below (T2.setTop (mkF m 14 #[.val (.int p1), .val (.int p2), .val (.int (p2 &&& (255 : Int32))), .unset, .unset] [(.int (f2 p1)), (.int (f1 p1 wK cl))])) _
      refine XS.icmpYes X2.here hx rfl (pc0 := 14) (pc' := 21) rfl (hb hby at_14) rfl (feq hc14_4).2 (by decide) (by decide) ?_
      show Steps p.tables e below (T2.setTop (mkF m 21 #[.val (.int p1), .val (.int p2), .val (.int (p2 &&& (255 : Int32))), .unset, .unset] [])) _
      refine XS.iconst X2.here hx rfl (hb hby at_21) ?_
      show Steps p.tables e below (T2.setTop (mkF m 22 #[.val (.int p1), .val (.int p2), .val (.int (p2 &&& (255 : Int32))), .unset, .unset] [(.int (0 : Int32))])) _
      refine XS.istoreN X2.here hx rfl (hb hby at_22) rfl (l' := #[.val (.int p1), .val (.int p2), .val (.int (p2 &&& (255 : Int32))), .val (.int (0 : Int32)), .unset]) rfl ?_
      show Steps p.tables e below (T2.setTop (mkF m 23 #[.val (.int p1), .val (.int p2), .val (.int (p2 &&& (255 : Int32))), .val (.int (0 : Int32)), .unset] [])) _
      refine XS.iloadN X2.here hx rfl (hb hby at_23) rfl ?_
      show Steps p.tables e below (T2.setTop (mkF m 24 #[.val (.int p1), .val (.int p2), .val (.int (p2 &&& (255 : Int32))), .val (.int (0 : Int32)), .unset] [(.int (p2 &&& (255 : Int32)))])) _
      refine st9 _ ?_
      show Steps p.tables e below (T9.setTop (mkF m 27 #[.val (.int p1), .val (.int p2), .val (.int (p2 &&& (255 : Int32))), .val (.int (0 : Int32)), .unset] [(.int (f1 (p2 &&& (255 : Int32)) wK cl))])) _
      refine XS.iloadN X9.here hx rfl (hb hby at_27) rfl ?_
      show Steps p.tables e below (T9.setTop (mkF m 28 #[.val (.int p1), .val (.int p2), .val (.int (p2 &&& (255 : Int32))), .val (.int (0 : Int32)), .unset] [(.int (p2 &&& (255 : Int32))), (.int (f1 (p2 &&& (255 : Int32)) wK cl))])) _
      refine st10 _ ?_
      exact k
    by_cases hc31_12 : (f1 (p2 &&& (255 : Int32)) wK cl) = (f2 (p2 &&& (255 : Int32)))
    · refine hneg ?_
      obtain ⟨fs, hr, hrun, hended, hW, hsame⟩ := X10.leave (v := some (.int (0 : Int32))) (fun h => by rw [Bd.returns] at h; cases h)
      refine ⟨_, _, pre11 _ ?_, hrun, hended, _, _, rfl, ?_, ⟨_, rfl⟩, hW, hsame.mono (by decide) (by decide)⟩
      · show Steps p.tables e below (T10.setTop (mkF m 31 #[.val (.int p1), .val (.int p2), .val (.int (p2 &&& (255 : Int32))), .val (.int (0 : Int32)), .unset] [(.int (f2 (p2 &&& (255 : Int32)))), (.int (f1 (p2 &&& (255 : Int32)) wK cl))])) _
        refine XS.icmpNo X10.here hx rfl (hb hby at_31) rfl (teq hc31_12).2 ?_
        show Steps p.tables e below (T10.setTop (mkF m 34 #[.val (.int p1), .val (.int p2), .val (.int (p2 &&& (255 : Int32))), .val (.int (0 : Int32)), .unset] [])) _
        refine XS.iconst X10.here hx rfl (hb hby at_34) ?_
        show Steps p.tables e below (T10.setTop (mkF m 35 #[.val (.int p1), .val (.int p2), .val (.int (p2 &&& (255 : Int32))), .val (.int (0 : Int32)), .unset] [(.int (1 : Int32))])) _
        refine XS.goto X10.here hx rfl (pc0 := 35) (pc' := 39) rfl (hb hby at_35) (by decide) (by decide) ?_
        show Steps p.tables e below (T10.setTop (mkF m 39 #[.val (.int p1), .val (.int p2), .val (.int (p2 &&& (255 : Int32))), .val (.int (0 : Int32)), .unset] [(.int (1 : Int32))])) _
        refine XS.istore X10.here hx rfl (hb hby at_39) rfl (l' := #[.val (.int p1), .val (.int p2), .val (.int (p2 &&& (255 : Int32))), .val (.int (0 : Int32)), .val (.int (1 : Int32))]) rfl ?_
        show Steps p.tables e below (T10.setTop (mkF m 41 #[.val (.int p1), .val (.int p2), .val (.int (p2 &&& (255 : Int32))), .val (.int (0 : Int32)), .val (.int (1 : Int32))] [])) _
        refine XS.iloadN X10.here hx rfl (hb hby at_41) rfl ?_
        show Steps p.tables e below (T10.setTop (mkF m 42 #[.val (.int p1), .val (.int p2), .val (.int (p2 &&& (255 : Int32))), .val (.int (0 : Int32)), .val (.int (1 : Int32))] [(.int (0 : Int32))])) _
        refine XS.ifYes X10.here hx rfl (pc0 := 42) (pc' := 54) rfl (hb hby at_42) rfl ((if0 _ _).trans (teq (by decide : (0 : Int32) = (0 : Int32))).1) (by decide) (by decide) ?_
        show Steps p.tables e below (T10.setTop (mkF m 54 #[.val (.int p1), .val (.int p2), .val (.int (p2 &&& (255 : Int32))), .val (.int (0 : Int32)), .val (.int (1 : Int32))] [])) _
        refine XS.iconst X10.here hx rfl (hb hby at_54) ?_
        show Steps p.tables e below (T10.setTop (mkF m 55 #[.val (.int p1), .val (.int p2), .val (.int (p2 &&& (255 : Int32))), .val (.int (0 : Int32)), .val (.int (1 : Int32))] [(.int (0 : Int32))])) _
        exact retN X10 hx (t := .boolean) Bd.returns (by simp) (hb hby at_55) hr
      · show Q0 Z p1 p2 wK cl h0 n0 _ T10.heap _
        rw [e10]
        refine ⟨?_, N10, rfl⟩
        rw [show f0 p1 p2 wK cl = (0 : Int32) from (by skip; simp only [f0, if_neg hc14_4, if_pos hc31_12])]
    · refine hneg ?_
      obtain ⟨fs, hr, hrun, hended, hW, hsame⟩ := X10.leave (v := some (.int (0 : Int32))) (fun h => by rw [Bd.returns] at h; cases h)
      refine ⟨_, _, pre11 _ ?_, hrun, hended, _, _, rfl, ?_, ⟨_, rfl⟩, hW, hsame.mono (by decide) (by decide)⟩
      · show Steps p.tables e below (T10.setTop (mkF m 31 #[.val (.int p1), .val (.int p2), .val (.int (p2 &&& (255 : Int32))), .val (.int (0 : Int32)), .unset] [(.int (f2 (p2 &&& (255 : Int32)))), (.int (f1 (p2 &&& (255 : Int32)) wK cl))])) _
        refine XS.icmpYes X10.here hx rfl (pc0 := 31) (pc' := 38) rfl (hb hby at_31) rfl (feq hc31_12).2 (by decide) (by decide) ?_
        show Steps p.tables e below (T10.setTop (mkF m 38 #[.val (.int p1), .val (.int p2), .val (.int (p2 &&& (255 : Int32))), .val (.int (0 : Int32)), .unset] [])) _
        refine XS.iconst X10.here hx rfl (hb hby at_38) ?_
        show Steps p.tables e below (T10.setTop (mkF m 39 #[.val (.int p1), .val (.int p2), .val (.int (p2 &&& (255 : Int32))), .val (.int (0 : Int32)), .unset] [(.int (0 : Int32))])) _
        refine XS.istore X10.here hx rfl (hb hby at_39) rfl (l' := #[.val (.int p1), .val (.int p2), .val (.int (p2 &&& (255 : Int32))), .val (.int (0 : Int32)), .val (.int (0 : Int32))]) rfl ?_
        show Steps p.tables e below (T10.setTop (mkF m 41 #[.val (.int p1), .val (.int p2), .val (.int (p2 &&& (255 : Int32))), .val (.int (0 : Int32)), .val (.int (0 : Int32))] [])) _
        refine XS.iloadN X10.here hx rfl (hb hby at_41) rfl ?_
        show Steps p.tables e below (T10.setTop (mkF m 42 #[.val (.int p1), .val (.int p2), .val (.int (p2 &&& (255 : Int32))), .val (.int (0 : Int32)), .val (.int (0 : Int32))] [(.int (0 : Int32))])) _
        refine XS.ifYes X10.here hx rfl (pc0 := 42) (pc' := 54) rfl (hb hby at_42) rfl ((if0 _ _).trans (teq (by decide : (0 : Int32) = (0 : Int32))).1) (by decide) (by decide) ?_
        show Steps p.tables e below (T10.setTop (mkF m 54 #[.val (.int p1), .val (.int p2), .val (.int (p2 &&& (255 : Int32))), .val (.int (0 : Int32)), .val (.int (0 : Int32))] [])) _
        refine XS.iconst X10.here hx rfl (hb hby at_54) ?_
        show Steps p.tables e below (T10.setTop (mkF m 55 #[.val (.int p1), .val (.int p2), .val (.int (p2 &&& (255 : Int32))), .val (.int (0 : Int32)), .val (.int (0 : Int32))] [(.int (0 : Int32))])) _
        exact retN X10 hx (t := .boolean) Bd.returns (by simp) (hb hby at_55) hr
      · show Q0 Z p1 p2 wK cl h0 n0 _ T10.heap _
        rw [e10]
        refine ⟨?_, N10, rfl⟩
        rw [show f0 p1 p2 wK cl = (0 : Int32) from (by skip; simp only [f0, if_neg hc14_4, if_neg hc31_12])]
def own_kd (c : Int32) : Int32 := if c < 45 then 48 else if c = 45 then 112 else if c = 46 then 240 else if c = 47 then 48 else if c < 58 then 68 else if c < 65 then 48 else if c < 91 then 98 else if c < 95 then 48 else if c = 95 then 104 else if c = 96 then 48 else if c < 103 then 65 else if c < 123 then 97 else 48
theorem own_or {args : Array Value} {first s : State} {o : Option Outcome} {idx : List Nat} {A B : Jvm.Cond} (h : (Jvm.Cond.or A B).value args first o s idx = some true) (ha : A.value args first o s idx = some false) : B.value args first o s idx = some true := by
  simp only [Cond.value, ha] at h
  cases hb : B.value args first o s idx with
  | none => simp [hb] at h
  | some b => simp [hb] at h; rw [h]
theorem own_idx {args : Array Value} {s : State} {c : Int32} (h0 : ¬ c < 0) : (Jvm.Term.index 0).eval args s none [c.toNatClampNeg] s = some (.int c) := by
  show some (Value.int c.toNatClampNeg.toInt32) = _
  rw [(back32 h0).1]
theorem own_eqi {args : Array Value} {s s' : State} {o : Option Outcome} {idx : List Nat} {t : Jvm.Term} {k : Int32} (h : (Jvm.Cond.eq t (Jvm.Term.int k)).value args s o s' idx = some true) : t.eval args s o idx s' = some (.int k) := by
  have hi : (Jvm.Term.int k).eval args s o idx s' = some (.int k) := rfl
  cases ht : t.eval args s o idx s' with
  | none => simp only [Cond.value, ht, hi] at h; exact absurd h (by simp)
  | some z =>
    cases z <;> simp only [Cond.value, ht, hi] at h <;> first | (simp only [Option.some.injEq, decide_eq_true_eq] at h; rw [h]) | exact absurd h (by simp)
theorem own_el {args : Array Value} {s : State} {idx : List Nat} {t j : Jvm.Term} {a : Addr} {cl : Jvm.Cell} {c v : Int32} (ev : t.eval args s none idx s = some (.ref a)) (ha : s.arrayAt? a = some cl) (hj : j.eval args s none idx s = some (.int c)) (h0 : ¬ c < 0) (h : (Jvm.Cond.eq (Jvm.Term.elem t j) (Jvm.Term.int v)).value args s none s idx = some true) : atv cl c = v :=
  atv_of ((elem_f ev hj ha h0).symm.trans (own_eqi h))
theorem own_rng {args : Array Value} {s : State} {t : Jvm.Term} {a : Addr} {cl : Cell} {lo hi v : Int32} (ev : ∀ idx, t.eval args s none idx s = some (.ref a)) (ha : s.arrayAt? a = some cl) (h : (Jvm.Cond.all t (.or (.lt (.index 0) (.int lo)) (.or (.le (.int hi) (.index 0)) (.eq (.elem t (.index 0)) (.int v))))).value args s none s [] = some true) {c : Int32} (h0 : ¬ c < 0) (h1 : ¬ c < lo) (h2 : ¬ hi ≤ c) (h3 : c.toNatClampNeg < cl.slots.size) : atv cl c = v := by
  have q := Cond.all_elim (ev []) ha h _ h3
  have q1 := own_or q ((Cond.lt_ints (own_idx h0) rfl).trans (by simp [h1]))
  have q2 := own_or q1 ((Cond.le_ints rfl (own_idx h0)).trans (by simp [h2]))
  exact own_el (ev _) ha (own_idx h0) h0 q2
theorem own_low {args : Array Value} {s : State} {t : Jvm.Term} {a : Addr} {cl : Cell} {hi v : Int32} (ev : ∀ idx, t.eval args s none idx s = some (.ref a)) (ha : s.arrayAt? a = some cl) (h : (Jvm.Cond.all t (.or (.le (.int hi) (.index 0)) (.eq (.elem t (.index 0)) (.int v)))).value args s none s [] = some true) {c : Int32} (h0 : ¬ c < 0) (h2 : ¬ hi ≤ c) (h3 : c.toNatClampNeg < cl.slots.size) : atv cl c = v := by
  have q := Cond.all_elim (ev []) ha h _ h3
  have q2 := own_or q ((Cond.le_ints rfl (own_idx h0)).trans (by simp [h2]))
  exact own_el (ev _) ha (own_idx h0) h0 q2
theorem own_top {args : Array Value} {s : State} {t : Jvm.Term} {a : Addr} {cl : Cell} {lo v : Int32} (ev : ∀ idx, t.eval args s none idx s = some (.ref a)) (ha : s.arrayAt? a = some cl) (h : (Jvm.Cond.all t (.or (.lt (.index 0) (.int lo)) (.eq (.elem t (.index 0)) (.int v)))).value args s none s [] = some true) {c : Int32} (h0 : ¬ c < 0) (h1 : ¬ c < lo) (h3 : c.toNatClampNeg < cl.slots.size) : atv cl c = v := by
  have q := Cond.all_elim (ev []) ha h _ h3
  have q2 := own_or q ((Cond.lt_ints (own_idx h0) rfl).trans (by simp [h1]))
  exact own_el (ev _) ha (own_idx h0) h0 q2
theorem own_len {args : Array Value} {s : State} {t : Jvm.Term} {a : Addr} {cl : Cell} {v : Int32} (ev : t.eval args s none [] s = some (.ref a)) (ha : s.arrayAt? a = some cl) (h : (Jvm.Cond.eq (Jvm.Term.length t) (Jvm.Term.int v)).value args s none s [] = some true) : cl.slots.size < 2 ^ 31 ∧ cl.slots.size.toInt32 = v := by
  have q := own_eqi h
  by_cases hl : cl.slots.size < 2 ^ 31
  · rw [len_f ev ha hl] at q
    exact ⟨hl, by simpa using q⟩
  · simp [Term.eval, ev, ha, hl] at q
theorem own_c0 : (0 : Int32).toInt = 0 := by decide
theorem own_c45 : (45 : Int32).toInt = 45 := by decide
theorem own_c46 : (46 : Int32).toInt = 46 := by decide
theorem own_c47 : (47 : Int32).toInt = 47 := by decide
theorem own_c48 : (48 : Int32).toInt = 48 := by decide
theorem own_c57 : (57 : Int32).toInt = 57 := by decide
theorem own_c58 : (58 : Int32).toInt = 58 := by decide
theorem own_c65 : (65 : Int32).toInt = 65 := by decide
theorem own_c90 : (90 : Int32).toInt = 90 := by decide
theorem own_c91 : (91 : Int32).toInt = 91 := by decide
theorem own_c95 : (95 : Int32).toInt = 95 := by decide
theorem own_c96 : (96 : Int32).toInt = 96 := by decide
theorem own_c97 : (97 : Int32).toInt = 97 := by decide
theorem own_c102 : (102 : Int32).toInt = 102 := by decide
theorem own_c103 : (103 : Int32).toInt = 103 := by decide
theorem own_c122 : (122 : Int32).toInt = 122 := by decide
theorem own_c123 : (123 : Int32).toInt = 123 := by decide
theorem own_c128 : (128 : Int32).toInt = 128 := by decide
theorem own_tab : ∀ n : Fin 128, f2 (Int32.ofNat n.val) = if (own_kd (Int32.ofNat n.val) &&& 64) = 0 then 0 else 1 := by decide +kernel
theorem own_same (c : Int32) (wK : Addr) (cl : Cell) (hT : ∀ c : Int32, ¬ c < 0 → c < 128 → atv cl c = own_kd c) : f1 c wK cl = f2 c := by
  unfold f1
  by_cases h0 : c < 0
  · rw [if_pos h0]
    unfold f2 f2_14 f2_28 f2_42
    clear hT
    simp only [Int32.lt_iff_toInt_lt, ← Int32.toInt_inj, own_c0, own_c45, own_c46, own_c48, own_c57, own_c65, own_c90, own_c95, own_c97, own_c122] at *
    repeat' split
    all_goals first | rfl | omega
  rw [if_neg h0]
  by_cases h1 : c < 128
  · rw [if_pos h1, hT c h0 h1]
    have hn := nat_of h0
    have hlt : c.toNatClampNeg < 128 := by
      rw [Int32.lt_iff_toInt_lt, own_c128] at h1
      omega
    have q := own_tab ⟨c.toNatClampNeg, hlt⟩
    have e : Int32.ofNat c.toNatClampNeg = c := (back32 h0).1
    simp only [e] at q
    exact q.symm
  · rw [if_neg h1]
    unfold f2 f2_14 f2_28 f2_42
    clear hT
    simp only [Int32.lt_iff_toInt_lt, ← Int32.toInt_inj, own_c0, own_c45, own_c46, own_c48, own_c57, own_c65, own_c90, own_c95, own_c97, own_c122, own_c128] at *
    repeat' split
    all_goals first | rfl | omega
theorem own_law (p1 p2 : Int32) (wK : Addr) (cl : Cell) (hT : ∀ c : Int32, ¬ c < 0 → c < 128 → atv cl c = own_kd c) : f0 p1 p2 wK cl = 1 := by
  simp +decide [f0, own_same _ wK cl hT]
set_option maxRecDepth 65536 in
set_option maxHeartbeats 40000000 in
theorem comes_1 {Post : Tables → Env → Array Value → State → Outcome → State → Prop} (hpost : ∀ tb e args s v u, (limb_1_1.after args s (.returned v) u = true ∧ limb_1_2.after args s (.returned v) u = true ∧ True) → FrameEnd s (.returned v) u (Jvm.fieldLocs frame_1_writes args s ++ Jvm.arrayLocs frame_1_arrays args s ++ Jvm.staticLocs frame_1_statics s) 0 0 → Post tb e args s (.returned v) u) :
    ArmFor flags0 classFile x code maxLocals ret World_1 tables_1 room_1 Calls_1 rest_1 Pre_1 Post := by
  intro l hfl _ _ p e ha hc hk s m args below hf hA hF happ hP
  obtain ⟨hcalls, hrest, hpre⟩ := hP
  obtain ⟨-, -, -, hnamed, -, -, -, hat⟩ := (Spec.applies_iff hf).mp happ
  obtain ⟨hg, hn⟩ := and_e (Cond.before_iff.mp (show (Jvm.Cond.and given_1 narrow_1).before args s = true from hpre))
  obtain ⟨gc, g0⟩ := and_e hg
  obtain ⟨ga0, gb0⟩ := and_e g0
  obtain ⟨w0, w1, rfl⟩ : ∃ w0 w1 : Value, args = #[w0, w1] := by
    have hs : args.size = 2 := by simpa [Cond.value, given_1] using gc
    obtain ⟨L⟩ := args
    match L, hs with
    | [w0, w1], _ => exact ⟨w0, w1, rfl⟩
  have hw := fun d (hd : d ∈ tables_1) => atoms_spec (ws := Jvm.Cond.code x code maxLocals ret :: tables_1) hat d (List.mem_cons_of_mem _ hd)
  have hfit : Fit s := fun {y c} hc i hi => by
    obtain ⟨ha, rfl⟩ := Array.getElem?_eq_some_iff.mp hc
    have q := List.all_eq_true.mp ((Array.all_eq_true_iff_forall_mem.mp hF) _ (Array.getElem_mem ha)) i (List.mem_range.mpr hi)
    simpa [Array.getElem?_eq_getElem hi] using q
  obtain ⟨i0, ei0⟩ := is_v ga0
  obtain rfl : w0 = (.int i0) := Option.some.inj ei0
  obtain ⟨i1, ei1⟩ := is_v gb0
  obtain rfl : w1 = (.int i1) := Option.some.inj ei1
  obtain ⟨cA, r0⟩ := and_e hn
  obtain ⟨cL, r1⟩ := and_e r0
  obtain ⟨cT0, r2⟩ := and_e r1
  obtain ⟨cT1, r3⟩ := and_e r2
  obtain ⟨cT2, r4⟩ := and_e r3
  obtain ⟨cT3, r5⟩ := and_e r4
  obtain ⟨cT4, r6⟩ := and_e r5
  obtain ⟨cT5, r7⟩ := and_e r6
  obtain ⟨cT6, r8⟩ := and_e r7
  obtain ⟨cT7, r9⟩ := and_e r8
  obtain ⟨cT8, r10⟩ := and_e r9
  obtain ⟨cT9, r11⟩ := and_e r10
  obtain ⟨cT10, r12⟩ := and_e r11
  obtain ⟨cT11, r13⟩ := and_e r12
  have cT12 := r13
  obtain ⟨wK, evK⟩ := arr_v cA
  obtain ⟨cl, AK⟩ := Arr.start evK cA
  have haK : s.arrayAt? wK = some cl := Arr.fin (State.Warmed39.refl s).alike AK
  have S_wK := Sta.start evK (Or.inr ⟨(hw _ (List.mem_of_getElem? (i := 2) rfl)), (hw _ (List.mem_of_getElem? (i := 5) rfl))⟩)
  obtain ⟨hlK, hzK⟩ := own_len evK haK cL
  obtain ⟨zK, ezK, SK⟩ := Scr.start hfit AK hlK
  rw [hzK] at ezK
  subst ezK
  have evs : ∀ idx, (Jvm.Term.static "com/example/termwright/termwright/parse/WordForm" "KINDS" "[I").eval #[.int i0, .int i1] s none idx s = some (.ref wK) := fun idx => by simpa [Term.eval] using evK
  have hT : ∀ c : Int32, ¬ c < 0 → c < 128 → atv cl c = own_kd c := by
    intro c h0 h128
    have h3 : c.toNatClampNeg < cl.slots.size := Nat.lt_of_not_le fun q => inb_of SK.2.1 ⟨h0, h128⟩ (Or.inr q)
    unfold own_kd
    by_cases q0 : c < 45
    · rw [if_pos q0]; exact own_low evs haK cT0 h0 (Int32.not_le.mpr q0) h3
    rw [if_neg q0]
    by_cases q1 : c = 45
    · rw [if_pos q1]; subst q1; exact own_el (evs _) haK rfl h0 cT1
    rw [if_neg q1]
    by_cases q2 : c = 46
    · rw [if_pos q2]; subst q2; exact own_el (evs _) haK rfl h0 cT2
    rw [if_neg q2]
    by_cases q3 : c = 47
    · rw [if_pos q3]; subst q3; exact own_el (evs _) haK rfl h0 cT3
    rw [if_neg q3]
    by_cases q4 : c < 58
    · rw [if_pos q4]; exact own_rng evs haK cT4 h0 (by simp only [Int32.lt_iff_toInt_lt, ← Int32.toInt_inj, own_c0, own_c45, own_c46, own_c47, own_c48, own_c58, own_c65, own_c91, own_c95, own_c96, own_c97, own_c103, own_c123] at q0 q1 q2 q3 ⊢; omega) (Int32.not_le.mpr q4) h3
    rw [if_neg q4]
    by_cases q5 : c < 65
    · rw [if_pos q5]; exact own_rng evs haK cT5 h0 (by simp only [Int32.lt_iff_toInt_lt, ← Int32.toInt_inj, own_c0, own_c45, own_c46, own_c47, own_c48, own_c58, own_c65, own_c91, own_c95, own_c96, own_c97, own_c103, own_c123] at q0 q1 q2 q3 q4 ⊢; omega) (Int32.not_le.mpr q5) h3
    rw [if_neg q5]
    by_cases q6 : c < 91
    · rw [if_pos q6]; exact own_rng evs haK cT6 h0 (by simp only [Int32.lt_iff_toInt_lt, ← Int32.toInt_inj, own_c0, own_c45, own_c46, own_c47, own_c48, own_c58, own_c65, own_c91, own_c95, own_c96, own_c97, own_c103, own_c123] at q0 q1 q2 q3 q4 q5 ⊢; omega) (Int32.not_le.mpr q6) h3
    rw [if_neg q6]
    by_cases q7 : c < 95
    · rw [if_pos q7]; exact own_rng evs haK cT7 h0 (by simp only [Int32.lt_iff_toInt_lt, ← Int32.toInt_inj, own_c0, own_c45, own_c46, own_c47, own_c48, own_c58, own_c65, own_c91, own_c95, own_c96, own_c97, own_c103, own_c123] at q0 q1 q2 q3 q4 q5 q6 ⊢; omega) (Int32.not_le.mpr q7) h3
    rw [if_neg q7]
    by_cases q8 : c = 95
    · rw [if_pos q8]; subst q8; exact own_el (evs _) haK rfl h0 cT8
    rw [if_neg q8]
    by_cases q9 : c = 96
    · rw [if_pos q9]; subst q9; exact own_el (evs _) haK rfl h0 cT9
    rw [if_neg q9]
    by_cases q10 : c < 103
    · rw [if_pos q10]; exact own_rng evs haK cT10 h0 (by simp only [Int32.lt_iff_toInt_lt, ← Int32.toInt_inj, own_c0, own_c45, own_c46, own_c47, own_c48, own_c58, own_c65, own_c91, own_c95, own_c96, own_c97, own_c103, own_c123] at q0 q1 q2 q3 q4 q5 q6 q7 q8 q9 ⊢; omega) (Int32.not_le.mpr q10) h3
    rw [if_neg q10]
    by_cases q11 : c < 123
    · rw [if_pos q11]; exact own_rng evs haK cT11 h0 (by simp only [Int32.lt_iff_toInt_lt, ← Int32.toInt_inj, own_c0, own_c45, own_c46, own_c47, own_c48, own_c58, own_c65, own_c91, own_c95, own_c96, own_c97, own_c103, own_c123] at q0 q1 q2 q3 q4 q5 q6 q7 q8 q9 q10 ⊢; omega) (Int32.not_le.mpr q11) h3
    rw [if_neg q11]
    exact own_top evs haK cT12 h0 (by simp only [Int32.lt_iff_toInt_lt, ← Int32.toInt_inj, own_c0, own_c45, own_c46, own_c47, own_c48, own_c58, own_c65, own_c91, own_c95, own_c96, own_c97, own_c103, own_c123] at q0 q1 q2 q3 q4 q5 q6 q7 q8 q9 q10 q11 ⊢; omega) h3
  obtain ⟨n, o, h1, h2, h3, v, L, rfl, ⟨hv1, N, -⟩, hq⟩ := rm0 l s _ hw tables_1 i0 i1 s.heap s.heap.size wK cl S_wK SK p e ha hc hk s m _ below hf ((Spec.applies_iff_loose hf).mp happ).1 ⟨rfl, State.Warmed39.refl s, rfl⟩ trivial
  rw [own_law _ _ _ _ hT] at hv1
  subst hv1
  refine ⟨n, _, h1, h2, h3, hpost _ _ _ _ _ _ ⟨Cond.after_iff.mpr rfl, Cond.after_iff.mpr (eq_i res_at (Term.int_eval (1)) rfl), trivial⟩ ⟨hq.1, hq.2.1, (hq.2.2.sift fun y hy => Or.inr (N y hy)).mono (by decide) (by decide)⟩⟩
theorem main_1_1 : Claimed_1_1 := comes_1 fun _ _ _ _ _ _ h hF => ⟨h.1, hF⟩
theorem main_1_2 : Claimed_1_2 := comes_1 fun _ _ _ _ _ _ h hF => ⟨h.2.1, hF⟩
end Jvm.Pilot.@@N@@
namespace Jvm.Pilot.@@N@@
open Jvm Jvm.ClassFile Sem Op Lib Jvm.Free Jvm.Stand Jvm.Pilot.@@N@@.Jvm.D
/-! MADE BY PROGRAM (witnessworld.py) out of the Statement's table words and the real class files: 12 classes; the members and pool entries that the words name. The judged class is class 1, her method 2. -/
namespace start1
open Jvm.ClassFile
def u (s : String) : CpInfo := .utf8 (stringToUtf16 s)
/-- a pool by its gaps: so many unusable entries, then the entry; so many at the end -/
def gap : Nat → List CpInfo → List CpInfo
  | 0, r => r
  | n + 1, r => .unusable :: gap n r
def poolList (es : List (Nat × CpInfo)) (last : Nat) : List CpInfo := es.foldr (fun e r => gap e.1 (e.2 :: r)) (gap last [])
def pool (es : List (Nat × CpInfo)) (last : Nat) : Array CpInfo := ⟨poolList es last⟩
def fileOf (pool : Array CpInfo) (this : Nat) (attrs : Array Attribute := #[]) (ms : Array MethodInfo := #[]) (fl : Nat := 33) (sup : Nat := 0) (ifs : Array Nat := #[]) (fds : Array FieldInfo := #[]) : ClassFile where
  minorVersion := 0
  majorVersion := 65
  constantPool := pool
  accessFlags := fl
  thisClass := this
  superClass := sup
  interfaces := ifs
  fields := fds
  methods := ms
  attributes := attrs
def plain (name : String) (sup : Option ClassId) : Class where
  name := name
  kind := .ordinary
  loader := none
  accessFlags := 33
  super := sup
  interfaces := #[]
  cf := none
  fields := #[]
  methods := #[]
  instanceTypes := #[]
  staticTypes := #[]
  resolved := #[]
  callSites := []
  init := .initialized
  statics := none
  mirror := none

def pool0 : Array CpInfo := pool [(5, u "<init>"), (0, u "()V"), (1, .class_ 10), (1, u "java/lang/Object")] 113

def k0m0 : Method := { name := "<init>", desc := "()V", sig := { parameters := [], returnType := none }, accessFlags := 1, code := none }
/-- java/lang/Object -/
def k0 : Class := { plain "java/lang/Object" none with
  accessFlags := 33
  interfaces := #[]
  cf := some (fileOf pool0 8 #[] #[{ accessFlags := 1, nameIndex := 5, descriptorIndex := 6, attributes := #[] }] 33 0 #[] #[])
  fields := #[]
  methods := #[k0m0]
  instanceTypes := #[]
  staticTypes := #[]
  resolved := Array.replicate 124 none
  statics := none }

def pool1 : Array CpInfo := pool [(2, .class_ 4), (1, u "java/lang/Object"), (0, u "<init>"), (0, u "()V"), (0, .methodref 8 9), (0, .class_ 10), (0, .nameAndType 11 12), (0, u "com/example/termwright/termwright/parse/WordForm"), (0, u "isWordCharacter"), (0, u "(I)Z"), (0, .methodref 14 15), (0, .class_ 16), (0, .nameAndType 17 12), (0, u "com/example/termwright/termwright/parse/WordFormIsWordCharacterPinLaw"), (0, u "expected"), (3, u "law"), (0, u "(II)Z")] 2

def k1m0 : Method := { name := "<init>", desc := "()V", sig := { parameters := [], returnType := none }, accessFlags := 1, code := none }
def k1c1 : Code := { maxStack := 2, maxLocals := 1, code := method_2_code, exceptionTable := #[], attributes := #[] }
def k1m1 : Method := { name := "expected", desc := "(I)Z", sig := { parameters := [.int], returnType := some .boolean }, accessFlags := 10, code := some k1c1 }
def k1c2 : Code := { maxStack := 2, maxLocals := 5, code := code, exceptionTable := #[], attributes := #[] }
def k1m2 : Method := { name := "law", desc := "(II)Z", sig := { parameters := [.int, .int], returnType := some .boolean }, accessFlags := 9, code := some k1c2 }
/-- com/example/termwright/termwright/parse/WordFormIsWordCharacterPinLaw -/
def k1 : Class := { plain "com/example/termwright/termwright/parse/WordFormIsWordCharacterPinLaw" (some 0) with
  accessFlags := 49
  interfaces := #[]
  cf := some (fileOf pool1 14 #[] #[{ accessFlags := 1, nameIndex := 5, descriptorIndex := 6, attributes := #[] }, { accessFlags := 10, nameIndex := 17, descriptorIndex := 12, attributes := #[] }, { accessFlags := 9, nameIndex := 21, descriptorIndex := 22, attributes := #[] }] 49 2 #[] #[])
  fields := #[]
  methods := #[k1m0, k1m1, k1m2]
  instanceTypes := #[]
  staticTypes := #[]
  resolved := Array.replicate 25 none
  statics := none }

def pool2 : Array CpInfo := pool [(1, .class_ 2), (0, u "java/lang/constant/Constable"), (0, .class_ 4), (0, u "java/lang/Object")] 6

/-- java/lang/constant/Constable -/
def k2 : Class := { plain "java/lang/constant/Constable" (some 0) with
  accessFlags := 1537
  interfaces := #[]
  cf := some (fileOf pool2 1 #[] #[] 1537 3 #[] #[])
  fields := #[]
  methods := #[]
  instanceTypes := #[]
  staticTypes := #[]
  resolved := Array.replicate 11 none
  statics := none }

def pool3 : Array CpInfo := pool [(1, .class_ 2), (0, u "java/lang/Comparable"), (0, .class_ 4), (0, u "java/lang/Object")] 7

/-- java/lang/Comparable -/
def k3 : Class := { plain "java/lang/Comparable" (some 0) with
  accessFlags := 1537
  interfaces := #[]
  cf := some (fileOf pool3 1 #[] #[] 1537 3 #[] #[])
  fields := #[]
  methods := #[]
  instanceTypes := #[]
  staticTypes := #[]
  resolved := Array.replicate 12 none
  statics := none }

def pool4 : Array CpInfo := pool [(1, .class_ 2), (0, u "java/io/Serializable"), (0, .class_ 4), (0, u "java/lang/Object")] 2

/-- java/io/Serializable -/
def k4 : Class := { plain "java/io/Serializable" (some 0) with
  accessFlags := 1537
  interfaces := #[]
  cf := some (fileOf pool4 1 #[] #[] 1537 3 #[] #[])
  fields := #[]
  methods := #[]
  instanceTypes := #[]
  staticTypes := #[]
  resolved := Array.replicate 7 none
  statics := none }

def pool5 : Array CpInfo := pool [(2, .class_ 4), (1, u "java/lang/Enum"), (0, u "name"), (0, u "Ljava/lang/String;"), (2, u "ordinal"), (0, u "I"), (1, .class_ 14), (1, u "java/lang/Object"), (4, u "hash"), (86, .class_ 108), (1, u "java/lang/Enum$EnumDesc"), (2, .class_ 112), (0, u "java/lang/constant/Constable"), (0, .class_ 114), (0, u "java/lang/Comparable"), (0, .class_ 116), (0, u "java/io/Serializable")] 87

/-- java/lang/Enum -/
def k5 : Class := { plain "java/lang/Enum" (some 0) with
  accessFlags := 1057
  interfaces := #[2, 3, 4]
  cf := some (fileOf pool5 2 #[.nestMembers #[106]] #[] 1057 12 #[111, 113, 115] #[{ accessFlags := 18, nameIndex := 5, descriptorIndex := 6, attributes := #[] }, { accessFlags := 18, nameIndex := 9, descriptorIndex := 10, attributes := #[] }, { accessFlags := 2, nameIndex := 19, descriptorIndex := 10, attributes := #[] }])
  fields := #[{ name := "name", type := (.object "java/lang/String"), accessFlags := 18, slot := 0, constantValue := 0 }, { name := "ordinal", type := .int, accessFlags := 18, slot := 1, constantValue := 0 }, { name := "hash", type := .int, accessFlags := 2, slot := 2, constantValue := 0 }]
  methods := #[]
  instanceTypes := #[(.object "java/lang/String"), .int, .int]
  staticTypes := #[]
  resolved := Array.replicate 204 none
  statics := none }

def pool6 : Array CpInfo := pool [(1, .class_ 2), (0, u "com/example/termwright/termwright/parse/WordForm"), (2, u "DECLARATION_NAME"), (0, u "Lcom/example/termwright/termwright/parse/WordForm;"), (2, u "NUMBER"), (2, u "OPTIONAL_FIELD_NAME"), (2, u "FIELD_NAME"), (2, u "CONDITION"), (2, u "MULTIPLICITY"), (2, u "TYPE_WORD"), (2, u "RESULT_TYPE"), (2, u "SECTION"), (2, u "$VALUES"), (0, u "[Lcom/example/termwright/termwright/parse/WordForm;"), (6, .class_ 43), (1, u "java/lang/Enum"), (6, .fieldref 1 51), (0, .nameAndType 52 53), (0, u "KINDS"), (0, u "[I"), (40, u "FUNCTIONS_LINE"), (0, u "Ljava/lang/String;"), (1, u "TYPES_LINE"), (0, u "LOWER"), (0, u "I"), (1, u "UPPER"), (1, u "LETTER"), (1, u "DIGIT"), (1, u "UNDERSCORE"), (1, u "NO_IDENTIFIER"), (1, u "NO_HEX"), (1, u "OF_WORDS"), (1, u "DOT"), (1, u "MAX_NUMBER_DIGITS"), (0, u "MAX_BIT"), (15, u "isWordCharacter"), (0, u "(I)Z")] 5

def k6c0 : Code := { maxStack := 2, maxLocals := 1, code := prog_40_method_6_code, exceptionTable := #[], attributes := #[] }
def k6m0 : Method := { name := "isWordCharacter", desc := "(I)Z", sig := { parameters := [.int], returnType := some .boolean }, accessFlags := 8, code := some k6c0 }
/-- com/example/termwright/termwright/parse/WordForm -/
def k6 : Class := { plain "com/example/termwright/termwright/parse/WordForm" (some 5) with
  accessFlags := 16432
  interfaces := #[]
  cf := some (fileOf pool6 1 #[] #[{ accessFlags := 8, nameIndex := 134, descriptorIndex := 135, attributes := #[] }] 16432 41 #[] #[{ accessFlags := 16409, nameIndex := 5, descriptorIndex := 6, attributes := #[] }, { accessFlags := 16409, nameIndex := 9, descriptorIndex := 6, attributes := #[] }, { accessFlags := 16409, nameIndex := 12, descriptorIndex := 6, attributes := #[] }, { accessFlags := 16409, nameIndex := 15, descriptorIndex := 6, attributes := #[] }, { accessFlags := 16409, nameIndex := 18, descriptorIndex := 6, attributes := #[] }, { accessFlags := 16409, nameIndex := 21, descriptorIndex := 6, attributes := #[] }, { accessFlags := 16409, nameIndex := 24, descriptorIndex := 6, attributes := #[] }, { accessFlags := 16409, nameIndex := 27, descriptorIndex := 6, attributes := #[] }, { accessFlags := 16409, nameIndex := 30, descriptorIndex := 6, attributes := #[] }, { accessFlags := 24, nameIndex := 94, descriptorIndex := 95, attributes := #[] }, { accessFlags := 24, nameIndex := 97, descriptorIndex := 95, attributes := #[] }, { accessFlags := 26, nameIndex := 98, descriptorIndex := 99, attributes := #[] }, { accessFlags := 26, nameIndex := 101, descriptorIndex := 99, attributes := #[] }, { accessFlags := 26, nameIndex := 103, descriptorIndex := 99, attributes := #[] }, { accessFlags := 26, nameIndex := 105, descriptorIndex := 99, attributes := #[] }, { accessFlags := 26, nameIndex := 107, descriptorIndex := 99, attributes := #[] }, { accessFlags := 26, nameIndex := 109, descriptorIndex := 99, attributes := #[] }, { accessFlags := 26, nameIndex := 111, descriptorIndex := 99, attributes := #[] }, { accessFlags := 26, nameIndex := 113, descriptorIndex := 99, attributes := #[] }, { accessFlags := 26, nameIndex := 115, descriptorIndex := 99, attributes := #[] }, { accessFlags := 26, nameIndex := 52, descriptorIndex := 53, attributes := #[] }, { accessFlags := 26, nameIndex := 117, descriptorIndex := 99, attributes := #[] }, { accessFlags := 26, nameIndex := 118, descriptorIndex := 99, attributes := #[] }, { accessFlags := 4122, nameIndex := 33, descriptorIndex := 34, attributes := #[] }])
  fields := #[{ name := "DECLARATION_NAME", type := (.object "com/example/termwright/termwright/parse/WordForm"), accessFlags := 16409, slot := 0, constantValue := 0 }, { name := "NUMBER", type := (.object "com/example/termwright/termwright/parse/WordForm"), accessFlags := 16409, slot := 1, constantValue := 0 }, { name := "OPTIONAL_FIELD_NAME", type := (.object "com/example/termwright/termwright/parse/WordForm"), accessFlags := 16409, slot := 2, constantValue := 0 }, { name := "FIELD_NAME", type := (.object "com/example/termwright/termwright/parse/WordForm"), accessFlags := 16409, slot := 3, constantValue := 0 }, { name := "CONDITION", type := (.object "com/example/termwright/termwright/parse/WordForm"), accessFlags := 16409, slot := 4, constantValue := 0 }, { name := "MULTIPLICITY", type := (.object "com/example/termwright/termwright/parse/WordForm"), accessFlags := 16409, slot := 5, constantValue := 0 }, { name := "TYPE_WORD", type := (.object "com/example/termwright/termwright/parse/WordForm"), accessFlags := 16409, slot := 6, constantValue := 0 }, { name := "RESULT_TYPE", type := (.object "com/example/termwright/termwright/parse/WordForm"), accessFlags := 16409, slot := 7, constantValue := 0 }, { name := "SECTION", type := (.object "com/example/termwright/termwright/parse/WordForm"), accessFlags := 16409, slot := 8, constantValue := 0 }, { name := "FUNCTIONS_LINE", type := (.object "java/lang/String"), accessFlags := 24, slot := 9, constantValue := 0 }, { name := "TYPES_LINE", type := (.object "java/lang/String"), accessFlags := 24, slot := 10, constantValue := 0 }, { name := "LOWER", type := .int, accessFlags := 26, slot := 11, constantValue := 0 }, { name := "UPPER", type := .int, accessFlags := 26, slot := 12, constantValue := 0 }, { name := "LETTER", type := .int, accessFlags := 26, slot := 13, constantValue := 0 }, { name := "DIGIT", type := .int, accessFlags := 26, slot := 14, constantValue := 0 }, { name := "UNDERSCORE", type := .int, accessFlags := 26, slot := 15, constantValue := 0 }, { name := "NO_IDENTIFIER", type := .int, accessFlags := 26, slot := 16, constantValue := 0 }, { name := "NO_HEX", type := .int, accessFlags := 26, slot := 17, constantValue := 0 }, { name := "OF_WORDS", type := .int, accessFlags := 26, slot := 18, constantValue := 0 }, { name := "DOT", type := .int, accessFlags := 26, slot := 19, constantValue := 0 }, { name := "KINDS", type := (.array .int), accessFlags := 26, slot := 20, constantValue := 0 }, { name := "MAX_NUMBER_DIGITS", type := .int, accessFlags := 26, slot := 21, constantValue := 0 }, { name := "MAX_BIT", type := .int, accessFlags := 26, slot := 22, constantValue := 0 }, { name := "$VALUES", type := (.array (.object "com/example/termwright/termwright/parse/WordForm")), accessFlags := 4122, slot := 23, constantValue := 0 }]
  methods := #[k6m0]
  instanceTypes := #[(.object "java/lang/String"), .int, .int]
  staticTypes := #[(.object "com/example/termwright/termwright/parse/WordForm"), (.object "com/example/termwright/termwright/parse/WordForm"), (.object "com/example/termwright/termwright/parse/WordForm"), (.object "com/example/termwright/termwright/parse/WordForm"), (.object "com/example/termwright/termwright/parse/WordForm"), (.object "com/example/termwright/termwright/parse/WordForm"), (.object "com/example/termwright/termwright/parse/WordForm"), (.object "com/example/termwright/termwright/parse/WordForm"), (.object "com/example/termwright/termwright/parse/WordForm"), (.object "java/lang/String"), (.object "java/lang/String"), .int, .int, .int, .int, .int, .int, .int, .int, .int, (.array .int), .int, .int, (.array (.object "com/example/termwright/termwright/parse/WordForm"))]
  resolved := Array.replicate 141 none
  statics := some 0 }

def pool7 : Array CpInfo := pool [(1, u "java/lang/Cloneable"), (0, .class_ 1), (0, u "java/lang/Object"), (0, .class_ 3)] 3

/-- java/lang/Cloneable -/
def k7 : Class := { plain "java/lang/Cloneable" (some 0) with
  accessFlags := 1537
  interfaces := #[]
  cf := some (fileOf pool7 2 #[] #[] 1537 4 #[] #[])
  fields := #[]
  methods := #[]
  instanceTypes := #[]
  staticTypes := #[]
  resolved := Array.replicate 8 none
  statics := none }

/-- the primitive byte -/
def k8 : Class := { plain "byte" none with kind := .primitive 'B', accessFlags := 0x411 }
/-- [B -/
def k9 : Class := { plain "[B" (some 0) with kind := .array 8 .byte, interfaces := #[7, 4], accessFlags := 1041 }

/-- the primitive int -/
def k10 : Class := { plain "int" none with kind := .primitive 'I', accessFlags := 0x411 }
/-- [I -/
def k11 : Class := { plain "[I" (some 0) with kind := .array 10 .int, interfaces := #[7, 4], accessFlags := 1041 }

def heap : Heap := #[{ cls := 6, slots := #[.null, .null, .null, .null, .null, .null, .null, .null, .null, .null, .null, .int 0, .int 0, .int 0, .int 0, .int 0, .int 0, .int 0, .int 0, .int 0, .ref 1, .int 0, .int 0, .null], vm := .statics 6 },
  { cls := 11, slots := #[.int 48, .int 48, .int 48, .int 48, .int 48, .int 48, .int 48, .int 48, .int 48, .int 48, .int 48, .int 48, .int 48, .int 48, .int 48, .int 48, .int 48, .int 48, .int 48, .int 48, .int 48, .int 48, .int 48, .int 48, .int 48, .int 48, .int 48, .int 48, .int 48, .int 48, .int 48, .int 48, .int 48, .int 48, .int 48, .int 48, .int 48, .int 48, .int 48, .int 48, .int 48, .int 48, .int 48, .int 48, .int 48, .int 112, .int 240, .int 48, .int 68, .int 68, .int 68, .int 68, .int 68, .int 68, .int 68, .int 68, .int 68, .int 68, .int 48, .int 48, .int 48, .int 48, .int 48, .int 48, .int 48, .int 98, .int 98, .int 98, .int 98, .int 98, .int 98, .int 98, .int 98, .int 98, .int 98, .int 98, .int 98, .int 98, .int 98, .int 98, .int 98, .int 98, .int 98, .int 98, .int 98, .int 98, .int 98, .int 98, .int 98, .int 98, .int 98, .int 48, .int 48, .int 48, .int 48, .int 104, .int 48, .int 65, .int 65, .int 65, .int 65, .int 65, .int 65, .int 97, .int 97, .int 97, .int 97, .int 97, .int 97, .int 97, .int 97, .int 97, .int 97, .int 97, .int 97, .int 97, .int 97, .int 97, .int 97, .int 97, .int 97, .int 97, .int 97, .int 48, .int 48, .int 48, .int 48, .int 48], vm := .none }]
def classes : Array Class := #[k0, k1, k2, k3, k4, k5, k6, k7, k8, k9, k10, k11]
def interned : List (Array UInt16 × Addr) := []
def slotsUsed : Nat := 152
def theMethod : MethodId := ⟨1, 2⟩
def args0 : Array Value := #[.int 65, .int 7]
def aboutOver (below : List Frame) : State where
  vm := { classes := classes, interned := interned.toArray }
  heap := heap
  slotsUsed := slotsUsed
  threads := #[{ frames := .invoking theMethod args0 :: below }]
def below0 : List Frame := [.native { method := ⟨0, 0⟩, args := #[] }]
def about1 : State := aboutOver below0
def p0 : Program := .bare "" "" ""
def e0 : Env := launch0.env 0 0 0
theorem w_frames : about1.frames = Frame.invoking theMethod args0 :: below0 := rfl
set_option maxRecDepth 65536 in
theorem w_args : argsFit about1.vm theMethod args0 = true := by decide +kernel
set_option maxRecDepth 65536 in
theorem w_heap : heapFits about1 = true := by decide +kernel
set_option maxRecDepth 65536 in
theorem w_runnable : about1.curStatus? = some .runnable := by decide +kernel
set_option maxRecDepth 65536 in
theorem w_alone : about1.alone = true := by decide +kernel
set_option maxRecDepth 65536 in
theorem w_named : about1.methodNamed? x = some theMethod := by decide +kernel
set_option maxRecDepth 65536 in
theorem w_hears : about1.hears theMethod below0 = true := by decide +kernel
set_option maxRecDepth 65536 in
theorem w_ripe : about1.ripe theMethod args0 below0 = true := by decide +kernel
theorem w_running : about1.status = .running := rfl
set_option maxRecDepth 65536 in
theorem w_room : about1.hasRoom e0.platform room_1 = true :=
  launch0.hasRoom_least _ room_1 (by decide +kernel) (by decide +kernel) (by decide +kernel) (by decide +kernel) (by decide +kernel) (by decide +kernel)
theorem allAtoms_all (ts : List Jvm.Cond) (a : Array Jvm.Value) (st : Jvm.State) : (allAtoms ts).before a st = ts.all (fun c => c.before a st) := by
  induction ts with
  | nil => rfl
  | cons c t ih =>
    show (Jvm.Cond.and c (allAtoms t)).before a st = _
    rw [Jvm.Cond.before_and, ih, List.all_cons]
def words1 : List Jvm.Cond := Jvm.Cond.code x code maxLocals ret :: tables_1
/-- a 'code' word, met by the world's own term for the bytes: nothing is compared byte by byte -/
theorem code_word {y : MethodName} {bytes : ByteArray} {mx : Nat} {rt : Option FieldType} {a : Array Value} {s : State} {m : MethodId} {meth : Method} {c : Code} (h1 : s.methodNamed? y = some m) (h2 : s.vm.method? m = some meth) (h3 : meth.code = some c) (h4 : c.code = bytes)
    (h5 : (c.maxLocals == mx && c.exceptionTable.isEmpty && decide (c.maxStack ≤ mostOperands) && decide (meth.sig.returnType = rt) && !meth.locks && decide (parseMethodDescriptor y.desc = some meth.sig)) = true) : (Jvm.Cond.code y bytes mx rt).before a s = true := by
  simp only [Bool.and_eq_true, beq_iff_eq, Bool.not_eq_true', decide_eq_true_eq] at h5
  obtain ⟨⟨⟨⟨⟨g1, g2⟩, g3⟩, g4⟩, g5⟩, g6⟩ := h5
  simp [Cond.before, Cond.holds, Cond.value, h1, h2, h3, h4, g1, g2, g3, g4, g5, g6]
def isCode : Jvm.Cond → Bool
  | .code _ _ _ _ => true
  | _ => false
theorem all_split {L : List Jvm.Cond} {P : Jvm.Cond → Bool} (h1 : L.all (fun c => isCode c || P c) = true) (h2 : ∀ c ∈ L.filter isCode, P c = true) : L.all P = true := by
  refine List.all_eq_true.mpr fun c hc => ?_
  have h := List.all_eq_true.mp h1 c hc
  rcases Bool.eq_false_or_eq_true (isCode c) with hi | hi
  · exact h2 c (List.mem_filter.mpr ⟨hc, hi⟩)
  · simpa [hi] using h
set_option maxRecDepth 65536 in
theorem w_c0 : (Jvm.Cond.code x code maxLocals ret).before args0 about1 = true := code_word (m := ⟨1, 2⟩) (meth := k1m2) (c := k1c2) (by decide +kernel) rfl rfl rfl (by decide +kernel)
set_option maxRecDepth 65536 in
theorem w_c1 : (Jvm.Cond.code ({ cls := "com/example/termwright/termwright/parse/WordForm", name := "isWordCharacter", desc := "(I)Z" } : Jvm.MethodName) prog_40_method_6_code (1 : Nat) (Option.some Jvm.ClassFile.FieldType.boolean)).before args0 about1 = true := code_word (m := ⟨6, 0⟩) (meth := k6m0) (c := k6c0) (by decide +kernel) rfl rfl rfl (by decide +kernel)
set_option maxRecDepth 65536 in
theorem w_c2 : (Jvm.Cond.code ({ cls := "com/example/termwright/termwright/parse/WordFormIsWordCharacterPinLaw", name := "expected", desc := "(I)Z" } : Jvm.MethodName) method_2_code (1 : Nat) (Option.some Jvm.ClassFile.FieldType.boolean)).before args0 about1 = true := code_word (m := ⟨1, 1⟩) (meth := k1m1) (c := k1c1) (by decide +kernel) rfl rfl rfl (by decide +kernel)
def codes1 : List Jvm.Cond := [Jvm.Cond.code x code maxLocals ret, Jvm.Cond.code ({ cls := "com/example/termwright/termwright/parse/WordForm", name := "isWordCharacter", desc := "(I)Z" } : Jvm.MethodName) prog_40_method_6_code (1 : Nat) (Option.some Jvm.ClassFile.FieldType.boolean), Jvm.Cond.code ({ cls := "com/example/termwright/termwright/parse/WordFormIsWordCharacterPinLaw", name := "expected", desc := "(I)Z" } : Jvm.MethodName) method_2_code (1 : Nat) (Option.some Jvm.ClassFile.FieldType.boolean)]
set_option maxRecDepth 65536 in
theorem codes_eq : words1.filter isCode = codes1 := rfl
theorem w_codes : ∀ c ∈ words1.filter isCode, c.before args0 about1 = true := by
  rw [codes_eq]
  intro c hc
  simp only [codes1, List.mem_cons, List.not_mem_nil, or_false] at hc
  rcases hc with rfl | rfl | rfl
  · exact w_c0
  · exact w_c1
  · exact w_c2
set_option maxRecDepth 65536 in
theorem w_t1 : words1.all (fun c => isCode c || c.before args0 about1) = true := by decide +kernel
theorem w_tables : (allAtoms (Jvm.Cond.code x code maxLocals ret :: tables_1)).before args0 about1 = true := by
  rw [allAtoms_all]
  show words1.all (fun c => c.before args0 about1) = true
  refine all_split ?_ w_codes
  rw [w_t1]
set_option maxRecDepth 65536 in
theorem w_case : (Jvm.Cond.and given_1 narrow_1).before args0 about1 = true := by decide +kernel
theorem w_applies : (headSpec (Jvm.Cond.code x code maxLocals ret :: tables_1) room_1).applies x e0.platform about1 = true :=
  (Spec.applies_iff w_frames).mpr ⟨w_running, w_runnable, w_alone, w_named, w_hears, w_ripe, w_room, w_tables⟩
theorem atStart : AtStart classFile x code maxLocals ret World_1 tables_1 room_1 Calls_1 rest_1 Pre_1 launch0 p0 e0 about1 theMethod args0 below0 :=
  ⟨lists_1, trivial, launch0.admits_env _ _ _, launch0.least_env, fairChoices_fair.cas, fairChoices_fair.clock, w_frames, w_args, w_heap, w_applies, trivial, trivial, w_case⟩
end start1
theorem witness_1 : WitnessClaimed_1 := ⟨start1.p0, start1.e0, start1.about1, start1.theMethod, start1.args0, start1.below0, start1.atStart⟩
end Jvm.Pilot.@@N@@
