import JvmDerived
import JvmDerived.Pilot.@@N@@Statement
import JvmDerived.Pilot.@@N@@Code
set_option linter.unusedVariables false
set_option linter.unusedSimpArgs false
namespace Jvm.RoadKit
open Sem ClassFile Op Lib Jvm.Stand Jvm.Free Jvm.LawKit
section New
variable {p : Program} {l : Launch} {e : Env} {R : Room} {s : State} {m : MethodId} {args : Array Value} {below : List Frame} {meth : Method} {c : Code} {T : State} {locs : List Loc} {cells slots : Nat}
theorem retI (X : Stand p l e R s m args below meth c T locs cells slots) (hx : p.tables.exec = Jvm.exec) {pc : Nat} {Ls : Array Slot} {z : Int32} {rest : List Value} (hret : meth.sig.returnType = some .int) (hd : decode c.code pc = .ok (.ireturn, 1)) {fs : List Frame}
    (hl : ∀ (f : JFrame) (acts : List Action), f.method = m → f.locked = none → f.entered = [] → (doReturn e (T.setTop f) acts (some (.int z))).1 = T.setFrames fs) : Steps p.tables e below (T.setTop (mkF m pc Ls (.int z :: rest))) (T.setFrames fs) := by
  have hm' : T.vm.method? m = some meth := X.method'
  have hn : narrow .int (.int z) = .int z := rfl
  show Steps p.tables e below (T.setTop { method := m, pc := pc, locals := Ls, stack := _ :: rest, locked := none }) _
  jvm_step X.here [X.here.top, hx, hd, hm', hret, hn]
  first | (intro acts; rw [hl _ acts rfl rfl rfl]) | rw [hl _ _ rfl rfl rfl]
  exact Steps.refl _
end New
end Jvm.RoadKit
namespace Jvm.Pilot.@@N@@
open Jvm Jvm.ClassFile Sem Op Lib Jvm.Free Jvm.Stand Jvm.LawKit Jvm.RoadKit Bundle Jvm.Pilot.@@N@@.Jvm.D
theorem pd0 : parseMethodDescriptor "(I)Lcom/example/stepwise/stepwise/model/Occurrence;" = some ⟨[.int], some (.object "com/example/stepwise/stepwise/model/Occurrence")⟩ := by decide +kernel
theorem pd1 : parseMethodDescriptor "()I" = some ⟨[], some .int⟩ := by decide +kernel
theorem pd2 : parseMethodDescriptor "(Lcom/example/stepwise/stepwise/model/Occurrence;)Lcom/example/stepwise/stepwise/model/Occurrence;" = some ⟨[(.object "com/example/stepwise/stepwise/model/Occurrence")], some (.object "com/example/stepwise/stepwise/model/Occurrence")⟩ := by decide +kernel
theorem pd3 : parseMethodDescriptor "(II)I" = some ⟨[.int, .int], some .int⟩ := by decide +kernel
theorem d1_0 : decode method_2_code 0 = .ok (.iload_n 0, 1) := by decide +kernel
theorem d1_1 : decode method_2_code 1 = .ok (.ldc 7, 2) := by decide +kernel
theorem d1_3 : decode method_2_code 3 = .ok (.iand, 1) := by decide +kernel
theorem d1_4 : decode method_2_code 4 = .ok (.iconst 5, 1) := by decide +kernel
theorem d1_5 : decode method_2_code 5 = .ok (.irem, 1) := by decide +kernel
theorem d1_6 : decode method_2_code 6 = .ok (.istore_n 1, 1) := by decide +kernel
theorem d1_7 : decode method_2_code 7 = .ok (.iload_n 1, 1) := by decide +kernel
theorem d1_8 : decode method_2_code 8 = .ok (.ifCond .ne 7, 3) := by decide +kernel
theorem d1_11 : decode method_2_code 11 = .ok (.getstatic 8, 3) := by decide +kernel
theorem d1_14 : decode method_2_code 14 = .ok (.areturn, 1) := by decide +kernel
theorem d1_15 : decode method_2_code 15 = .ok (.iload_n 1, 1) := by decide +kernel
theorem d1_16 : decode method_2_code 16 = .ok (.iconst 1, 1) := by decide +kernel
theorem d1_17 : decode method_2_code 17 = .ok (.if_icmp .ne 7, 3) := by decide +kernel
theorem d1_20 : decode method_2_code 20 = .ok (.getstatic 14, 3) := by decide +kernel
theorem d1_23 : decode method_2_code 23 = .ok (.areturn, 1) := by decide +kernel
theorem d1_24 : decode method_2_code 24 = .ok (.iload_n 1, 1) := by decide +kernel
theorem d1_25 : decode method_2_code 25 = .ok (.iconst 2, 1) := by decide +kernel
theorem d1_26 : decode method_2_code 26 = .ok (.if_icmp .ne 7, 3) := by decide +kernel
theorem d1_29 : decode method_2_code 29 = .ok (.getstatic 17, 3) := by decide +kernel
theorem d1_32 : decode method_2_code 32 = .ok (.areturn, 1) := by decide +kernel
theorem d1_33 : decode method_2_code 33 = .ok (.iload_n 1, 1) := by decide +kernel
theorem d1_34 : decode method_2_code 34 = .ok (.iconst 3, 1) := by decide +kernel
theorem d1_35 : decode method_2_code 35 = .ok (.if_icmp .ne 7, 3) := by decide +kernel
theorem d1_38 : decode method_2_code 38 = .ok (.getstatic 20, 3) := by decide +kernel
theorem d1_41 : decode method_2_code 41 = .ok (.areturn, 1) := by decide +kernel
theorem d1_42 : decode method_2_code 42 = .ok (.getstatic 23, 3) := by decide +kernel
theorem d1_45 : decode method_2_code 45 = .ok (.areturn, 1) := by decide +kernel
theorem pn_1 : plainName "com/example/stepwise/stepwise/model/OccurrenceTimesPinLaw" = true := by first | (simp [plainName, overriddenIn]; done) | decide +kernel
theorem ef_1 (m : MethodId) (p1 : Int32) : entryFrame m #[(.int p1)] 2 = mkF m 0 #[.val (.int p1), .unset] [] := by first | (simp [entryFrame, mkF, argsToLocals, Value.category]; done) | rfl
def f1 (p1 : Int32) (wZ : Addr) (wE : Addr) (wQ : Addr) (wS : Addr) (wP : Addr) : Addr := (if ((p1 &&& (2147483647 : Int32)) % (5 : Int32)) = (0 : Int32) then wZ else (if ((p1 &&& (2147483647 : Int32)) % (5 : Int32)) = (1 : Int32) then wE else (if ((p1 &&& (2147483647 : Int32)) % (5 : Int32)) = (2 : Int32) then wQ else (if ((p1 &&& (2147483647 : Int32)) % (5 : Int32)) = (3 : Int32) then wS else wP))))
def Q1 (Z : State) (p1 : Int32) (wZ : Addr) (wE : Addr) (wQ : Addr) (wS : Addr) (wP : Addr) (h0 : Heap) (n0 : Nat) (v : Option Value) (h : Heap) (L : List Loc) : Prop := v = some (.ref (f1 p1 wZ wE wQ wS wP)) ∧ Fr n0 L ∧ h = h0
set_option maxRecDepth 65536 in
set_option maxHeartbeats 40000000 in
theorem rm1 (l : Launch) (Z : State) (a0 : Array Value) (hw : ∀ d ∈ tables_1, d.before a0 Z = true) (ws : List Jvm.Cond) (p1 : Int32) (h0 : Heap) (n0 : Nat) (wZ : Addr) (wE : Addr) (wQ : Addr) (wS : Addr) (wP : Addr) (S_wZ : Sta Z h0 "com/example/stepwise/stepwise/model/Occurrence" "ZERO" "Lcom/example/stepwise/stepwise/model/Occurrence;" (.ref wZ)) (S_wE : Sta Z h0 "com/example/stepwise/stepwise/model/Occurrence" "EXACTLY_ONE" "Lcom/example/stepwise/stepwise/model/Occurrence;" (.ref wE)) (S_wQ : Sta Z h0 "com/example/stepwise/stepwise/model/Occurrence" "ZERO_OR_ONE" "Lcom/example/stepwise/stepwise/model/Occurrence;" (.ref wQ)) (S_wS : Sta Z h0 "com/example/stepwise/stepwise/model/Occurrence" "ZERO_OR_MORE" "Lcom/example/stepwise/stepwise/model/Occurrence;" (.ref wS)) (S_wP : Sta Z h0 "com/example/stepwise/stepwise/model/Occurrence" "ONE_OR_MORE" "Lcom/example/stepwise/stepwise/model/Occurrence;" (.ref wP)) :
    MetFree l (⟨"com/example/stepwise/stepwise/model/OccurrenceTimesPinLaw", "pick", "(I)Lcom/example/stepwise/stepwise/model/Occurrence;"⟩ : MethodName) (head1 (Jvm.Cond.code (⟨"com/example/stepwise/stepwise/model/OccurrenceTimesPinLaw", "pick", "(I)Lcom/example/stepwise/stepwise/model/Occurrence;"⟩ : MethodName) method_2_code 2 (some (.object "com/example/stepwise/stepwise/model/Occurrence")) :: ws) ({ frames := 0, cells := 0, slots := 0, locals := 0 } : Room)) (fun a U => a = #[(.int p1)] ∧ Z.Warmed39 U.vm ∧ U.heap = h0) (fun _ _ _ _ _ => True) (fun _ U o U' => ∃ v L, o = .returned v ∧ Q1 Z p1 wZ wE wQ wS wP h0 n0 v U'.heap L ∧ FrameEnd U o U' L ({ frames := 0, cells := 0, slots := 0, locals := 0 } : Room).cells ({ frames := 0, cells := 0, slots := 0, locals := 0 } : Room).slots) := by
  refine MetFree.of_bodySF (plainFor_of_name pn_1) hisR ?_
  intro p e s m args below meth c s₁ Bd hml0 hP hK
  obtain ⟨rfl, hZ, hh⟩ := hP
  have hx := Bd.exec
  have hby := Bd.bytes
  have hml : c.maxLocals = 2 := hml0
  have hown : s.vm.findClass "com/example/stepwise/stepwise/model/OccurrenceTimesPinLaw" = some m.cls := findClass_of_methodNamed Bd.named
  have hnm := (name_of_methodNamed Bd.named Bd.method).1
  have X0 : Stand p l e ({ frames := 0, cells := 0, slots := 0, locals := 0 } : Room) s m #[(.int p1)] below meth c s₁ [] 0 0 := Stand.of_body Bd
  have e0 : s₁.heap = h0 := by rw [← hh, Bd.state]; rfl
  have N0 := Fr.nil n0
  have pre0 : ∀ t, Steps p.tables e below (s₁.setTop (mkF m 0 #[.val (.int p1), .unset] [])) t → Steps p.tables e below (s₁.setTop (entryFrame m #[(.int p1)] 2)) t := fun t k => castTop (ef_1 m p1) k
  refine Classical.byContradiction fun hneg => ?_
  have pre1 : ∀ t, Steps p.tables e below (s₁.setTop (mkF m 8 #[.val (.int p1), .val (.int ((p1 &&& (2147483647 : Int32)) % (5 : Int32)))] [(.int ((p1 &&& (2147483647 : Int32)) % (5 : Int32)))])) t → Steps p.tables e below (s₁.setTop (entryFrame m #[(.int p1)] 2)) t := by
    intro t k
    refine pre0 t ?_
    show Steps p.tables e below (s₁.setTop (mkF m 0 #[.val (.int p1), .unset] [])) _
    refine XS.iloadN X0.here hx rfl (hb hby d1_0) rfl ?_
    show Steps p.tables e below (s₁.setTop (mkF m 1 #[.val (.int p1), .unset] [(.int p1)])) _
    refine X0.ldcInt hx hown (mvT hZ (hw _ (List.mem_of_getElem? (i := 4) rfl))) (g := (mkF m 1 #[.val (.int p1), .unset] [(.int p1)])) rfl (hb hby d1_1) _ ?_
    show Steps p.tables e below (s₁.setTop (mkF m 3 #[.val (.int p1), .unset] [(.int (2147483647 : Int32)), (.int p1)])) _
    refine XS.iand X0.here hx rfl (hb hby d1_3) rfl ?_
    show Steps p.tables e below (s₁.setTop (mkF m 4 #[.val (.int p1), .unset] [(.int (p1 &&& (2147483647 : Int32)))])) _
    refine XS.iconst X0.here hx rfl (hb hby d1_4) ?_
    show Steps p.tables e below (s₁.setTop (mkF m 5 #[.val (.int p1), .unset] [(.int (5 : Int32)), (.int (p1 &&& (2147483647 : Int32)))])) _
    refine iremM X0 hx rfl (hb hby d1_5) rfl (by decide) ?_
    show Steps p.tables e below (s₁.setTop (mkF m 6 #[.val (.int p1), .unset] [(.int ((p1 &&& (2147483647 : Int32)) % (5 : Int32)))])) _
    refine XS.istoreN X0.here hx rfl (hb hby d1_6) rfl (l' := #[.val (.int p1), .val (.int ((p1 &&& (2147483647 : Int32)) % (5 : Int32)))]) rfl ?_
    show Steps p.tables e below (s₁.setTop (mkF m 7 #[.val (.int p1), .val (.int ((p1 &&& (2147483647 : Int32)) % (5 : Int32)))] [])) _
    refine XS.iloadN X0.here hx rfl (hb hby d1_7) rfl ?_
    exact k
  by_cases hc8_2 : ((p1 &&& (2147483647 : Int32)) % (5 : Int32)) = (0 : Int32)
  · obtain ⟨T3, X3, e3, st3⟩ := getS2 X0 hx hZ hown (host := "") (Or.inl (hw _ (List.mem_of_getElem? (i := 5) rfl))) Via.refl e0 S_wZ (g := (mkF m 11 #[.val (.int p1), .val (.int ((p1 &&& (2147483647 : Int32)) % (5 : Int32)))] [])) rfl (hb hby d1_11)
    refine hneg ?_
    obtain ⟨fs, hr, hrun, hended, hW, hsame⟩ := X3.leave (v := some (.ref wZ)) (fun h => by rw [Bd.returns] at h; cases h)
    refine ⟨_, _, pre1 _ ?_, hrun, hended, _, _, rfl, ?_, ⟨_, rfl⟩, hW, hsame.mono (by decide) (by decide)⟩
    · show Steps p.tables e below (s₁.setTop (mkF m 8 #[.val (.int p1), .val (.int ((p1 &&& (2147483647 : Int32)) % (5 : Int32)))] [(.int ((p1 &&& (2147483647 : Int32)) % (5 : Int32)))])) _
      refine XS.ifNo X0.here hx rfl (hb hby d1_8) rfl ((if0 _ _).trans (teq hc8_2).2) ?_
      show Steps p.tables e below (s₁.setTop (mkF m 11 #[.val (.int p1), .val (.int ((p1 &&& (2147483647 : Int32)) % (5 : Int32)))] [])) _
      refine st3 _ ?_
      show Steps p.tables e below (T3.setTop (mkF m 14 #[.val (.int p1), .val (.int ((p1 &&& (2147483647 : Int32)) % (5 : Int32)))] [(.ref wZ)])) _
      exact retOut X3 hx (t := (.object "com/example/stepwise/stepwise/model/Occurrence")) Bd.returns rfl (Or.inr (Or.inr (Or.inr (Or.inr ⟨rfl, rfl, rfl⟩)))) (hb hby d1_14) hr
    · show Q1 Z p1 wZ wE wQ wS wP h0 n0 _ T3.heap _
      rw [e3]
      refine ⟨?_, N0, rfl⟩
      rw [show f1 p1 wZ wE wQ wS wP = wZ from (by skip; simp only [f1, if_pos hc8_2])]
  · have pre4 : ∀ t, Steps p.tables e below (s₁.setTop (mkF m 17 #[.val (.int p1), .val (.int ((p1 &&& (2147483647 : Int32)) % (5 : Int32)))] [(.int (1 : Int32)), (.int ((p1 &&& (2147483647 : Int32)) % (5 : Int32)))])) t → Steps p.tables e below (s₁.setTop (entryFrame m #[(.int p1)] 2)) t := by
      intro t k
      refine pre1 t ?_
      show Steps p.tables e below (s₁.setTop (mkF m 8 #[.val (.int p1), .val (.int ((p1 &&& (2147483647 : Int32)) % (5 : Int32)))] [(.int ((p1 &&& (2147483647 : Int32)) % (5 : Int32)))])) _
      refine XS.ifYes X0.here hx rfl (pc0 := 8) (pc' := 15) rfl (hb hby d1_8) rfl ((if0 _ _).trans (feq hc8_2).2) (by decide) (by decide) ?_
      show Steps p.tables e below (s₁.setTop (mkF m 15 #[.val (.int p1), .val (.int ((p1 &&& (2147483647 : Int32)) % (5 : Int32)))] [])) _
      refine XS.iloadN X0.here hx rfl (hb hby d1_15) rfl ?_
      show Steps p.tables e below (s₁.setTop (mkF m 16 #[.val (.int p1), .val (.int ((p1 &&& (2147483647 : Int32)) % (5 : Int32)))] [(.int ((p1 &&& (2147483647 : Int32)) % (5 : Int32)))])) _
      refine XS.iconst X0.here hx rfl (hb hby d1_16) ?_
      exact k
    by_cases hc17_5 : ((p1 &&& (2147483647 : Int32)) % (5 : Int32)) = (1 : Int32)
    · obtain ⟨T6, X6, e6, st6⟩ := getS2 X0 hx hZ hown (host := "") (Or.inl (hw _ (List.mem_of_getElem? (i := 36) rfl))) Via.refl e0 S_wE (g := (mkF m 20 #[.val (.int p1), .val (.int ((p1 &&& (2147483647 : Int32)) % (5 : Int32)))] [])) rfl (hb hby d1_20)
      refine hneg ?_
      obtain ⟨fs, hr, hrun, hended, hW, hsame⟩ := X6.leave (v := some (.ref wE)) (fun h => by rw [Bd.returns] at h; cases h)
      refine ⟨_, _, pre4 _ ?_, hrun, hended, _, _, rfl, ?_, ⟨_, rfl⟩, hW, hsame.mono (by decide) (by decide)⟩
      · show Steps p.tables e below (s₁.setTop (mkF m 17 #[.val (.int p1), .val (.int ((p1 &&& (2147483647 : Int32)) % (5 : Int32)))] [(.int (1 : Int32)), (.int ((p1 &&& (2147483647 : Int32)) % (5 : Int32)))])) _
        refine XS.icmpNo X0.here hx rfl (hb hby d1_17) rfl (teq hc17_5).2 ?_
        show Steps p.tables e below (s₁.setTop (mkF m 20 #[.val (.int p1), .val (.int ((p1 &&& (2147483647 : Int32)) % (5 : Int32)))] [])) _
        refine st6 _ ?_
        show Steps p.tables e below (T6.setTop (mkF m 23 #[.val (.int p1), .val (.int ((p1 &&& (2147483647 : Int32)) % (5 : Int32)))] [(.ref wE)])) _
        exact retOut X6 hx (t := (.object "com/example/stepwise/stepwise/model/Occurrence")) Bd.returns rfl (Or.inr (Or.inr (Or.inr (Or.inr ⟨rfl, rfl, rfl⟩)))) (hb hby d1_23) hr
      · show Q1 Z p1 wZ wE wQ wS wP h0 n0 _ T6.heap _
        rw [e6]
        refine ⟨?_, N0, rfl⟩
        rw [show f1 p1 wZ wE wQ wS wP = wE from (by skip; simp only [f1, if_neg hc8_2, if_pos hc17_5])]
    · have pre7 : ∀ t, Steps p.tables e below (s₁.setTop (mkF m 26 #[.val (.int p1), .val (.int ((p1 &&& (2147483647 : Int32)) % (5 : Int32)))] [(.int (2 : Int32)), (.int ((p1 &&& (2147483647 : Int32)) % (5 : Int32)))])) t → Steps p.tables e below (s₁.setTop (entryFrame m #[(.int p1)] 2)) t := by
        intro t k
        refine pre4 t ?_
        show Steps p.tables e below (s₁.setTop (mkF m 17 #[.val (.int p1), .val (.int ((p1 &&& (2147483647 : Int32)) % (5 : Int32)))] [(.int (1 : Int32)), (.int ((p1 &&& (2147483647 : Int32)) % (5 : Int32)))])) _
        refine XS.icmpYes X0.here hx rfl (pc0 := 17) (pc' := 24) rfl (hb hby d1_17) rfl (feq hc17_5).2 (by decide) (by decide) ?_
        show Steps p.tables e below (s₁.setTop (mkF m 24 #[.val (.int p1), .val (.int ((p1 &&& (2147483647 : Int32)) % (5 : Int32)))] [])) _
        refine XS.iloadN X0.here hx rfl (hb hby d1_24) rfl ?_
        show Steps p.tables e below (s₁.setTop (mkF m 25 #[.val (.int p1), .val (.int ((p1 &&& (2147483647 : Int32)) % (5 : Int32)))] [(.int ((p1 &&& (2147483647 : Int32)) % (5 : Int32)))])) _
        refine XS.iconst X0.here hx rfl (hb hby d1_25) ?_
        exact k
      by_cases hc26_8 : ((p1 &&& (2147483647 : Int32)) % (5 : Int32)) = (2 : Int32)
      · obtain ⟨T9, X9, e9, st9⟩ := getS2 X0 hx hZ hown (host := "") (Or.inl (hw _ (List.mem_of_getElem? (i := 41) rfl))) Via.refl e0 S_wQ (g := (mkF m 29 #[.val (.int p1), .val (.int ((p1 &&& (2147483647 : Int32)) % (5 : Int32)))] [])) rfl (hb hby d1_29)
        refine hneg ?_
        obtain ⟨fs, hr, hrun, hended, hW, hsame⟩ := X9.leave (v := some (.ref wQ)) (fun h => by rw [Bd.returns] at h; cases h)
        refine ⟨_, _, pre7 _ ?_, hrun, hended, _, _, rfl, ?_, ⟨_, rfl⟩, hW, hsame.mono (by decide) (by decide)⟩
        · show Steps p.tables e below (s₁.setTop (mkF m 26 #[.val (.int p1), .val (.int ((p1 &&& (2147483647 : Int32)) % (5 : Int32)))] [(.int (2 : Int32)), (.int ((p1 &&& (2147483647 : Int32)) % (5 : Int32)))])) _
          refine XS.icmpNo X0.here hx rfl (hb hby d1_26) rfl (teq hc26_8).2 ?_
          show Steps p.tables e below (s₁.setTop (mkF m 29 #[.val (.int p1), .val (.int ((p1 &&& (2147483647 : Int32)) % (5 : Int32)))] [])) _
          refine st9 _ ?_
          show Steps p.tables e below (T9.setTop (mkF m 32 #[.val (.int p1), .val (.int ((p1 &&& (2147483647 : Int32)) % (5 : Int32)))] [(.ref wQ)])) _
          exact retOut X9 hx (t := (.object "com/example/stepwise/stepwise/model/Occurrence")) Bd.returns rfl (Or.inr (Or.inr (Or.inr (Or.inr ⟨rfl, rfl, rfl⟩)))) (hb hby d1_32) hr
        · show Q1 Z p1 wZ wE wQ wS wP h0 n0 _ T9.heap _
          rw [e9]
          refine ⟨?_, N0, rfl⟩
          rw [show f1 p1 wZ wE wQ wS wP = wQ from (by skip; simp only [f1, if_neg hc8_2, if_neg hc17_5, if_pos hc26_8])]
      · have pre10 : ∀ t, Steps p.tables e below (s₁.setTop (mkF m 35 #[.val (.int p1), .val (.int ((p1 &&& (2147483647 : Int32)) % (5 : Int32)))] [(.int (3 : Int32)), (.int ((p1 &&& (2147483647 : Int32)) % (5 : Int32)))])) t → Steps p.tables e below (s₁.setTop (entryFrame m #[(.int p1)] 2)) t := by
          intro t k
          refine pre7 t ?_
          show Steps p.tables e below (s₁.setTop (mkF m 26 #[.val (.int p1), .val (.int ((p1 &&& (2147483647 : Int32)) % (5 : Int32)))] [(.int (2 : Int32)), (.int ((p1 &&& (2147483647 : Int32)) % (5 : Int32)))])) _
          refine XS.icmpYes X0.here hx rfl (pc0 := 26) (pc' := 33) rfl (hb hby d1_26) rfl (feq hc26_8).2 (by decide) (by decide) ?_
          show Steps p.tables e below (s₁.setTop (mkF m 33 #[.val (.int p1), .val (.int ((p1 &&& (2147483647 : Int32)) % (5 : Int32)))] [])) _
          refine XS.iloadN X0.here hx rfl (hb hby d1_33) rfl ?_
          show Steps p.tables e below (s₁.setTop (mkF m 34 #[.val (.int p1), .val (.int ((p1 &&& (2147483647 : Int32)) % (5 : Int32)))] [(.int ((p1 &&& (2147483647 : Int32)) % (5 : Int32)))])) _
          refine XS.iconst X0.here hx rfl (hb hby d1_34) ?_
          exact k
        by_cases hc35_11 : ((p1 &&& (2147483647 : Int32)) % (5 : Int32)) = (3 : Int32)
        · obtain ⟨T12, X12, e12, st12⟩ := getS2 X0 hx hZ hown (host := "") (Or.inl (hw _ (List.mem_of_getElem? (i := 8) rfl))) Via.refl e0 S_wS (g := (mkF m 38 #[.val (.int p1), .val (.int ((p1 &&& (2147483647 : Int32)) % (5 : Int32)))] [])) rfl (hb hby d1_38)
          refine hneg ?_
          obtain ⟨fs, hr, hrun, hended, hW, hsame⟩ := X12.leave (v := some (.ref wS)) (fun h => by rw [Bd.returns] at h; cases h)
          refine ⟨_, _, pre10 _ ?_, hrun, hended, _, _, rfl, ?_, ⟨_, rfl⟩, hW, hsame.mono (by decide) (by decide)⟩
          · show Steps p.tables e below (s₁.setTop (mkF m 35 #[.val (.int p1), .val (.int ((p1 &&& (2147483647 : Int32)) % (5 : Int32)))] [(.int (3 : Int32)), (.int ((p1 &&& (2147483647 : Int32)) % (5 : Int32)))])) _
            refine XS.icmpNo X0.here hx rfl (hb hby d1_35) rfl (teq hc35_11).2 ?_
            show Steps p.tables e below (s₁.setTop (mkF m 38 #[.val (.int p1), .val (.int ((p1 &&& (2147483647 : Int32)) % (5 : Int32)))] [])) _
            refine st12 _ ?_
            show Steps p.tables e below (T12.setTop (mkF m 41 #[.val (.int p1), .val (.int ((p1 &&& (2147483647 : Int32)) % (5 : Int32)))] [(.ref wS)])) _
            exact retOut X12 hx (t := (.object "com/example/stepwise/stepwise/model/Occurrence")) Bd.returns rfl (Or.inr (Or.inr (Or.inr (Or.inr ⟨rfl, rfl, rfl⟩)))) (hb hby d1_41) hr
          · show Q1 Z p1 wZ wE wQ wS wP h0 n0 _ T12.heap _
            rw [e12]
            refine ⟨?_, N0, rfl⟩
            rw [show f1 p1 wZ wE wQ wS wP = wS from (by skip; simp only [f1, if_neg hc8_2, if_neg hc17_5, if_neg hc26_8, if_pos hc35_11])]
        · obtain ⟨T13, X13, e13, st13⟩ := getS2 X0 hx hZ hown (host := "") (Or.inl (hw _ (List.mem_of_getElem? (i := 34) rfl))) Via.refl e0 S_wP (g := (mkF m 42 #[.val (.int p1), .val (.int ((p1 &&& (2147483647 : Int32)) % (5 : Int32)))] [])) rfl (hb hby d1_42)
          refine hneg ?_
          obtain ⟨fs, hr, hrun, hended, hW, hsame⟩ := X13.leave (v := some (.ref wP)) (fun h => by rw [Bd.returns] at h; cases h)
          refine ⟨_, _, pre10 _ ?_, hrun, hended, _, _, rfl, ?_, ⟨_, rfl⟩, hW, hsame.mono (by decide) (by decide)⟩
          · show Steps p.tables e below (s₁.setTop (mkF m 35 #[.val (.int p1), .val (.int ((p1 &&& (2147483647 : Int32)) % (5 : Int32)))] [(.int (3 : Int32)), (.int ((p1 &&& (2147483647 : Int32)) % (5 : Int32)))])) _
            refine XS.icmpYes X0.here hx rfl (pc0 := 35) (pc' := 42) rfl (hb hby d1_35) rfl (feq hc35_11).2 (by decide) (by decide) ?_
            show Steps p.tables e below (s₁.setTop (mkF m 42 #[.val (.int p1), .val (.int ((p1 &&& (2147483647 : Int32)) % (5 : Int32)))] [])) _
            refine st13 _ ?_
            show Steps p.tables e below (T13.setTop (mkF m 45 #[.val (.int p1), .val (.int ((p1 &&& (2147483647 : Int32)) % (5 : Int32)))] [(.ref wP)])) _
            exact retOut X13 hx (t := (.object "com/example/stepwise/stepwise/model/Occurrence")) Bd.returns rfl (Or.inr (Or.inr (Or.inr (Or.inr ⟨rfl, rfl, rfl⟩)))) (hb hby d1_45) hr
          · show Q1 Z p1 wZ wE wQ wS wP h0 n0 _ T13.heap _
            rw [e13]
            refine ⟨?_, N0, rfl⟩
            rw [show f1 p1 wZ wE wQ wS wP = wP from (by skip; simp only [f1, if_neg hc8_2, if_neg hc17_5, if_neg hc26_8, if_neg hc35_11])]

theorem d2_0 : decode prog_222_method_5_code 0 = .ok (.aload_n 0, 1) := by decide +kernel
theorem d2_1 : decode prog_222_method_5_code 1 = .ok (.getfield 42, 3) := by decide +kernel
theorem d2_4 : decode prog_222_method_5_code 4 = .ok (.ireturn, 1) := by decide +kernel
theorem pn_2 : plainName "com/example/stepwise/stepwise/model/Occurrence" = true := by first | (simp [plainName, overriddenIn]; done) | decide +kernel
theorem ef_2 (m : MethodId) (a1 : Addr) : entryFrame m #[(.ref a1)] 1 = mkF m 0 #[.val (.ref a1)] [] := by first | (simp [entryFrame, mkF, argsToLocals, Value.category]; done) | rfl
def f2 (a1 : Addr) (w : Int32) : Int32 := w
def Q2 (Z : State) (a1 : Addr) (w : Int32) (h0 : Heap) (n0 : Nat) (v : Option Value) (h : Heap) (L : List Loc) : Prop := v = some (.int (f2 a1 w)) ∧ Fr n0 L ∧ h = h0
set_option maxRecDepth 65536 in
set_option maxHeartbeats 40000000 in
theorem rm2 (l : Launch) (Z : State) (a0 : Array Value) (hw : ∀ d ∈ tables_1, d.before a0 Z = true) (ws : List Jvm.Cond) (a1 : Addr) (h0 : Heap) (n0 : Nat) (w : Int32) (F : Fld Z h0 a1 "com/example/stepwise/stepwise/model/Occurrence" "min" "I" (.int w)) :
    MetFree l (⟨"com/example/stepwise/stepwise/model/Occurrence", "min", "()I"⟩ : MethodName) (head1 (Jvm.Cond.code (⟨"com/example/stepwise/stepwise/model/Occurrence", "min", "()I"⟩ : MethodName) prog_222_method_5_code 1 (some .int) :: ws) ({ frames := 0, cells := 0, slots := 0, locals := 0 } : Room)) (fun a U => a = #[(.ref a1)] ∧ Z.Warmed39 U.vm ∧ U.heap = h0) (fun _ _ _ _ _ => True) (fun _ U o U' => ∃ v L, o = .returned v ∧ Q2 Z a1 w h0 n0 v U'.heap L ∧ FrameEnd U o U' L ({ frames := 0, cells := 0, slots := 0, locals := 0 } : Room).cells ({ frames := 0, cells := 0, slots := 0, locals := 0 } : Room).slots) := by
  refine MetFree.of_bodySF (plainFor_of_name pn_2) hisR ?_
  intro p e s m args below meth c s₁ Bd hml0 hP hK
  obtain ⟨rfl, hZ, hh⟩ := hP
  have hx := Bd.exec
  have hby := Bd.bytes
  have hml : c.maxLocals = 1 := hml0
  have hown : s.vm.findClass "com/example/stepwise/stepwise/model/Occurrence" = some m.cls := findClass_of_methodNamed Bd.named
  have hnm := (name_of_methodNamed Bd.named Bd.method).1
  have X0 : Stand p l e ({ frames := 0, cells := 0, slots := 0, locals := 0 } : Room) s m #[(.ref a1)] below meth c s₁ [] 0 0 := Stand.of_body Bd
  have e0 : s₁.heap = h0 := by rw [← hh, Bd.state]; rfl
  have N0 := Fr.nil n0
  have pre0 : ∀ t, Steps p.tables e below (s₁.setTop (mkF m 0 #[.val (.ref a1)] [])) t → Steps p.tables e below (s₁.setTop (entryFrame m #[(.ref a1)] 1)) t := fun t k => castTop (ef_2 m a1) k
  refine Classical.byContradiction fun hneg => ?_
  obtain ⟨T1, X1, e1, st1⟩ := getF X0 hx hZ hown (host := "") (Or.inl (hw _ (List.mem_of_getElem? (i := 15) rfl))) Via.refl e0 F (g := (mkF m 1 #[.val (.ref a1)] [(.ref a1)])) rfl rfl (hb hby d2_1)
  refine hneg ?_
  obtain ⟨fs, hr, hrun, hended, hW, hsame⟩ := X1.leave (v := some (.int w)) (fun h => by rw [Bd.returns] at h; cases h)
  refine ⟨_, _, pre0 _ ?_, hrun, hended, _, _, rfl, ?_, ⟨_, rfl⟩, hW, hsame.mono (by decide) (by decide)⟩
  · show Steps p.tables e below (s₁.setTop (mkF m 0 #[.val (.ref a1)] [])) _
    refine XS.aloadN X0.here hx rfl (hb hby d2_0) rfl rfl ?_
    show Steps p.tables e below (s₁.setTop (mkF m 1 #[.val (.ref a1)] [(.ref a1)])) _
    refine st1 _ ?_
    show Steps p.tables e below (T1.setTop (mkF m 4 #[.val (.ref a1)] [(.int w)])) _
    exact retI X1 hx Bd.returns (hb hby d2_4) hr
  · show Q2 Z a1 w h0 n0 _ T1.heap _
    rw [e1]
    refine ⟨?_, N0, rfl⟩
    rw [show f2 a1 w = w from (by skip; simp only [f2])]

theorem d3_0 : decode prog_222_method_6_code 0 = .ok (.aload_n 0, 1) := by decide +kernel
theorem d3_1 : decode prog_222_method_6_code 1 = .ok (.getfield 46, 3) := by decide +kernel
theorem d3_4 : decode prog_222_method_6_code 4 = .ok (.ireturn, 1) := by decide +kernel
theorem pn_3 : plainName "com/example/stepwise/stepwise/model/Occurrence" = true := by first | (simp [plainName, overriddenIn]; done) | decide +kernel
theorem ef_3 (m : MethodId) (a1 : Addr) : entryFrame m #[(.ref a1)] 1 = mkF m 0 #[.val (.ref a1)] [] := by first | (simp [entryFrame, mkF, argsToLocals, Value.category]; done) | rfl
def f3 (a1 : Addr) (w : Int32) : Int32 := w
def Q3 (Z : State) (a1 : Addr) (w : Int32) (h0 : Heap) (n0 : Nat) (v : Option Value) (h : Heap) (L : List Loc) : Prop := v = some (.int (f3 a1 w)) ∧ Fr n0 L ∧ h = h0
set_option maxRecDepth 65536 in
set_option maxHeartbeats 40000000 in
theorem rm3 (l : Launch) (Z : State) (a0 : Array Value) (hw : ∀ d ∈ tables_1, d.before a0 Z = true) (ws : List Jvm.Cond) (a1 : Addr) (h0 : Heap) (n0 : Nat) (w : Int32) (F : Fld Z h0 a1 "com/example/stepwise/stepwise/model/Occurrence" "max" "I" (.int w)) :
    MetFree l (⟨"com/example/stepwise/stepwise/model/Occurrence", "max", "()I"⟩ : MethodName) (head1 (Jvm.Cond.code (⟨"com/example/stepwise/stepwise/model/Occurrence", "max", "()I"⟩ : MethodName) prog_222_method_6_code 1 (some .int) :: ws) ({ frames := 0, cells := 0, slots := 0, locals := 0 } : Room)) (fun a U => a = #[(.ref a1)] ∧ Z.Warmed39 U.vm ∧ U.heap = h0) (fun _ _ _ _ _ => True) (fun _ U o U' => ∃ v L, o = .returned v ∧ Q3 Z a1 w h0 n0 v U'.heap L ∧ FrameEnd U o U' L ({ frames := 0, cells := 0, slots := 0, locals := 0 } : Room).cells ({ frames := 0, cells := 0, slots := 0, locals := 0 } : Room).slots) := by
  refine MetFree.of_bodySF (plainFor_of_name pn_3) hisR ?_
  intro p e s m args below meth c s₁ Bd hml0 hP hK
  obtain ⟨rfl, hZ, hh⟩ := hP
  have hx := Bd.exec
  have hby := Bd.bytes
  have hml : c.maxLocals = 1 := hml0
  have hown : s.vm.findClass "com/example/stepwise/stepwise/model/Occurrence" = some m.cls := findClass_of_methodNamed Bd.named
  have hnm := (name_of_methodNamed Bd.named Bd.method).1
  have X0 : Stand p l e ({ frames := 0, cells := 0, slots := 0, locals := 0 } : Room) s m #[(.ref a1)] below meth c s₁ [] 0 0 := Stand.of_body Bd
  have e0 : s₁.heap = h0 := by rw [← hh, Bd.state]; rfl
  have N0 := Fr.nil n0
  have pre0 : ∀ t, Steps p.tables e below (s₁.setTop (mkF m 0 #[.val (.ref a1)] [])) t → Steps p.tables e below (s₁.setTop (entryFrame m #[(.ref a1)] 1)) t := fun t k => castTop (ef_3 m a1) k
  refine Classical.byContradiction fun hneg => ?_
  obtain ⟨T1, X1, e1, st1⟩ := getF X0 hx hZ hown (host := "") (Or.inl (hw _ (List.mem_of_getElem? (i := 22) rfl))) Via.refl e0 F (g := (mkF m 1 #[.val (.ref a1)] [(.ref a1)])) rfl rfl (hb hby d3_1)
  refine hneg ?_
  obtain ⟨fs, hr, hrun, hended, hW, hsame⟩ := X1.leave (v := some (.int w)) (fun h => by rw [Bd.returns] at h; cases h)
  refine ⟨_, _, pre0 _ ?_, hrun, hended, _, _, rfl, ?_, ⟨_, rfl⟩, hW, hsame.mono (by decide) (by decide)⟩
  · show Steps p.tables e below (s₁.setTop (mkF m 0 #[.val (.ref a1)] [])) _
    refine XS.aloadN X0.here hx rfl (hb hby d3_0) rfl rfl ?_
    show Steps p.tables e below (s₁.setTop (mkF m 1 #[.val (.ref a1)] [(.ref a1)])) _
    refine st1 _ ?_
    show Steps p.tables e below (T1.setTop (mkF m 4 #[.val (.ref a1)] [(.int w)])) _
    exact retI X1 hx Bd.returns (hb hby d3_4) hr
  · show Q3 Z a1 w h0 n0 _ T1.heap _
    rw [e1]
    refine ⟨?_, N0, rfl⟩
    rw [show f3 a1 w = w from (by skip; simp only [f3])]

theorem d4_0 : decode prog_222_method_7_code 0 = .ok (.aload_n 0, 1) := by decide +kernel
theorem d4_1 : decode prog_222_method_7_code 1 = .ok (.getfield 46, 3) := by decide +kernel
theorem d4_4 : decode prog_222_method_7_code 4 = .ok (.ifCond .eq 10, 3) := by decide +kernel
theorem d4_7 : decode prog_222_method_7_code 7 = .ok (.aload_n 1, 1) := by decide +kernel
theorem d4_8 : decode prog_222_method_7_code 8 = .ok (.getfield 46, 3) := by decide +kernel
theorem d4_11 : decode prog_222_method_7_code 11 = .ok (.ifCond .ne 7, 3) := by decide +kernel
theorem d4_14 : decode prog_222_method_7_code 14 = .ok (.getstatic 3, 3) := by decide +kernel
theorem d4_17 : decode prog_222_method_7_code 17 = .ok (.areturn, 1) := by decide +kernel
theorem d4_18 : decode prog_222_method_7_code 18 = .ok (.aload_n 0, 1) := by decide +kernel
theorem d4_19 : decode prog_222_method_7_code 19 = .ok (.getfield 42, 3) := by decide +kernel
theorem d4_22 : decode prog_222_method_7_code 22 = .ok (.ifCond .le 14, 3) := by decide +kernel
theorem d4_25 : decode prog_222_method_7_code 25 = .ok (.aload_n 1, 1) := by decide +kernel
theorem d4_26 : decode prog_222_method_7_code 26 = .ok (.getfield 42, 3) := by decide +kernel
theorem d4_29 : decode prog_222_method_7_code 29 = .ok (.ifCond .le 7, 3) := by decide +kernel
theorem d4_32 : decode prog_222_method_7_code 32 = .ok (.iconst 1, 1) := by decide +kernel
theorem d4_33 : decode prog_222_method_7_code 33 = .ok (.goto 4, 3) := by decide +kernel
theorem d4_36 : decode prog_222_method_7_code 36 = .ok (.iconst 0, 1) := by decide +kernel
theorem d4_37 : decode prog_222_method_7_code 37 = .ok (.istore_n 2, 1) := by decide +kernel
theorem d4_38 : decode prog_222_method_7_code 38 = .ok (.aload_n 0, 1) := by decide +kernel
theorem d4_39 : decode prog_222_method_7_code 39 = .ok (.getfield 46, 3) := by decide +kernel
theorem d4_42 : decode prog_222_method_7_code 42 = .ok (.iconst 1, 1) := by decide +kernel
theorem d4_43 : decode prog_222_method_7_code 43 = .ok (.if_icmp .gt 11, 3) := by decide +kernel
theorem d4_46 : decode prog_222_method_7_code 46 = .ok (.aload_n 1, 1) := by decide +kernel
theorem d4_47 : decode prog_222_method_7_code 47 = .ok (.getfield 46, 3) := by decide +kernel
theorem d4_50 : decode prog_222_method_7_code 50 = .ok (.iconst 1, 1) := by decide +kernel
theorem d4_51 : decode prog_222_method_7_code 51 = .ok (.if_icmp .le 17, 3) := by decide +kernel
theorem d4_54 : decode prog_222_method_7_code 54 = .ok (.iload_n 2, 1) := by decide +kernel
theorem d4_55 : decode prog_222_method_7_code 55 = .ok (.ifCond .eq 9, 3) := by decide +kernel
theorem d4_58 : decode prog_222_method_7_code 58 = .ok (.getstatic 16, 3) := by decide +kernel
theorem d4_61 : decode prog_222_method_7_code 61 = .ok (.goto 6, 3) := by decide +kernel
theorem d4_64 : decode prog_222_method_7_code 64 = .ok (.getstatic 13, 3) := by decide +kernel
theorem d4_67 : decode prog_222_method_7_code 67 = .ok (.areturn, 1) := by decide +kernel
theorem d4_68 : decode prog_222_method_7_code 68 = .ok (.iload_n 2, 1) := by decide +kernel
theorem d4_69 : decode prog_222_method_7_code 69 = .ok (.ifCond .eq 9, 3) := by decide +kernel
theorem d4_72 : decode prog_222_method_7_code 72 = .ok (.getstatic 7, 3) := by decide +kernel
theorem d4_75 : decode prog_222_method_7_code 75 = .ok (.goto 6, 3) := by decide +kernel
theorem d4_78 : decode prog_222_method_7_code 78 = .ok (.getstatic 10, 3) := by decide +kernel
theorem d4_81 : decode prog_222_method_7_code 81 = .ok (.areturn, 1) := by decide +kernel
theorem pn_4 : plainName "com/example/stepwise/stepwise/model/Occurrence" = true := by first | (simp [plainName, overriddenIn]; done) | decide +kernel
theorem ef_4 (m : MethodId) (a1 : Addr) (a2 : Addr) : entryFrame m #[(.ref a1), (.ref a2)] 3 = mkF m 0 #[.val (.ref a1), .val (.ref a2), .unset] [] := by first | (simp [entryFrame, mkF, argsToLocals, Value.category]; done) | rfl
def f4 (a1 : Addr) (a2 : Addr) (wZ : Addr) (wE : Addr) (wQ : Addr) (wS : Addr) (wP : Addr) (mn : Addr → Int32) (mx : Addr → Int32) : Addr := (if (mx a1) = (0 : Int32) then wZ else (if (mx a2) = (0 : Int32) then wZ else (if (0 : Int32) < (mn a1) then (if (0 : Int32) < (mn a2) then (if (1 : Int32) < (mx a1) then wP else (if (1 : Int32) < (mx a2) then wP else wE)) else (if (1 : Int32) < (mx a1) then wS else (if (1 : Int32) < (mx a2) then wS else wQ))) else (if (1 : Int32) < (mx a1) then wS else (if (1 : Int32) < (mx a2) then wS else wQ)))))
def Q4 (Z : State) (a1 : Addr) (a2 : Addr) (wZ : Addr) (wE : Addr) (wQ : Addr) (wS : Addr) (wP : Addr) (mn : Addr → Int32) (mx : Addr → Int32) (h0 : Heap) (n0 : Nat) (v : Option Value) (h : Heap) (L : List Loc) : Prop := v = some (.ref (f4 a1 a2 wZ wE wQ wS wP mn mx)) ∧ Fr n0 L ∧ h = h0
set_option maxRecDepth 65536 in
set_option maxHeartbeats 40000000 in
theorem rm4 (l : Launch) (Z : State) (a0 : Array Value) (hw : ∀ d ∈ tables_1, d.before a0 Z = true) (ws : List Jvm.Cond) (a1 : Addr) (a2 : Addr) (h0 : Heap) (n0 : Nat) (wZ : Addr) (wE : Addr) (wQ : Addr) (wS : Addr) (wP : Addr) (mn : Addr → Int32) (mx : Addr → Int32) (S_wZ : Sta Z h0 "com/example/stepwise/stepwise/model/Occurrence" "ZERO" "Lcom/example/stepwise/stepwise/model/Occurrence;" (.ref wZ)) (S_wE : Sta Z h0 "com/example/stepwise/stepwise/model/Occurrence" "EXACTLY_ONE" "Lcom/example/stepwise/stepwise/model/Occurrence;" (.ref wE)) (S_wQ : Sta Z h0 "com/example/stepwise/stepwise/model/Occurrence" "ZERO_OR_ONE" "Lcom/example/stepwise/stepwise/model/Occurrence;" (.ref wQ)) (S_wS : Sta Z h0 "com/example/stepwise/stepwise/model/Occurrence" "ZERO_OR_MORE" "Lcom/example/stepwise/stepwise/model/Occurrence;" (.ref wS)) (S_wP : Sta Z h0 "com/example/stepwise/stepwise/model/Occurrence" "ONE_OR_MORE" "Lcom/example/stepwise/stepwise/model/Occurrence;" (.ref wP)) (F1n : Fld Z h0 a1 "com/example/stepwise/stepwise/model/Occurrence" "min" "I" (.int (mn a1))) (F1x : Fld Z h0 a1 "com/example/stepwise/stepwise/model/Occurrence" "max" "I" (.int (mx a1))) (F2n : Fld Z h0 a2 "com/example/stepwise/stepwise/model/Occurrence" "min" "I" (.int (mn a2))) (F2x : Fld Z h0 a2 "com/example/stepwise/stepwise/model/Occurrence" "max" "I" (.int (mx a2))) :
    MetFree l (⟨"com/example/stepwise/stepwise/model/Occurrence", "times", "(Lcom/example/stepwise/stepwise/model/Occurrence;)Lcom/example/stepwise/stepwise/model/Occurrence;"⟩ : MethodName) (head1 (Jvm.Cond.code (⟨"com/example/stepwise/stepwise/model/Occurrence", "times", "(Lcom/example/stepwise/stepwise/model/Occurrence;)Lcom/example/stepwise/stepwise/model/Occurrence;"⟩ : MethodName) prog_222_method_7_code 3 (some (.object "com/example/stepwise/stepwise/model/Occurrence")) :: ws) ({ frames := 0, cells := 0, slots := 0, locals := 0 } : Room)) (fun a U => a = #[(.ref a1), (.ref a2)] ∧ Z.Warmed39 U.vm ∧ U.heap = h0) (fun _ _ _ _ _ => True) (fun _ U o U' => ∃ v L, o = .returned v ∧ Q4 Z a1 a2 wZ wE wQ wS wP mn mx h0 n0 v U'.heap L ∧ FrameEnd U o U' L ({ frames := 0, cells := 0, slots := 0, locals := 0 } : Room).cells ({ frames := 0, cells := 0, slots := 0, locals := 0 } : Room).slots) := by
  refine MetFree.of_bodySF (plainFor_of_name pn_4) hisR ?_
  intro p e s m args below meth c s₁ Bd hml0 hP hK
  obtain ⟨rfl, hZ, hh⟩ := hP
  have hx := Bd.exec
  have hby := Bd.bytes
  have hml : c.maxLocals = 3 := hml0
  have hown : s.vm.findClass "com/example/stepwise/stepwise/model/Occurrence" = some m.cls := findClass_of_methodNamed Bd.named
  have hnm := (name_of_methodNamed Bd.named Bd.method).1
  have X0 : Stand p l e ({ frames := 0, cells := 0, slots := 0, locals := 0 } : Room) s m #[(.ref a1), (.ref a2)] below meth c s₁ [] 0 0 := Stand.of_body Bd
  have e0 : s₁.heap = h0 := by rw [← hh, Bd.state]; rfl
  have N0 := Fr.nil n0
  have pre0 : ∀ t, Steps p.tables e below (s₁.setTop (mkF m 0 #[.val (.ref a1), .val (.ref a2), .unset] [])) t → Steps p.tables e below (s₁.setTop (entryFrame m #[(.ref a1), (.ref a2)] 3)) t := fun t k => castTop (ef_4 m a1 a2) k
  refine Classical.byContradiction fun hneg => ?_
  obtain ⟨T1, X1, e1, st1⟩ := getF X0 hx hZ hown (host := "") (Or.inl (hw _ (List.mem_of_getElem? (i := 22) rfl))) Via.refl e0 F1x (g := (mkF m 1 #[.val (.ref a1), .val (.ref a2), .unset] [(.ref a1)])) rfl rfl (hb hby d4_1)
  have pre2 : ∀ t, Steps p.tables e below (T1.setTop (mkF m 4 #[.val (.ref a1), .val (.ref a2), .unset] [(.int (mx a1))])) t → Steps p.tables e below (s₁.setTop (entryFrame m #[(.ref a1), (.ref a2)] 3)) t := by
    intro t k
    refine pre0 t ?_
    show Steps p.tables e below (s₁.setTop (mkF m 0 #[.val (.ref a1), .val (.ref a2), .unset] [])) _
    refine XS.aloadN X0.here hx rfl (hb hby d4_0) rfl rfl ?_
    show Steps p.tables e below (s₁.setTop (mkF m 1 #[.val (.ref a1), .val (.ref a2), .unset] [(.ref a1)])) _
    refine st1 _ ?_
    exact k
  by_cases hc4_3 : (mx a1) = (0 : Int32)
  · obtain ⟨T4, X4, e4, st4⟩ := getS2 X1 hx hZ hown (host := "") (Or.inl (hw _ (List.mem_of_getElem? (i := 29) rfl))) Via.refl e1 S_wZ (g := (mkF m 14 #[.val (.ref a1), .val (.ref a2), .unset] [])) rfl (hb hby d4_14)
    refine hneg ?_
    obtain ⟨fs, hr, hrun, hended, hW, hsame⟩ := X4.leave (v := some (.ref wZ)) (fun h => by rw [Bd.returns] at h; cases h)
    refine ⟨_, _, pre2 _ ?_, hrun, hended, _, _, rfl, ?_, ⟨_, rfl⟩, hW, hsame.mono (by decide) (by decide)⟩
    · show Steps p.tables e below (T1.setTop (mkF m 4 #[.val (.ref a1), .val (.ref a2), .unset] [(.int (mx a1))])) _
      refine XS.ifYes X1.here hx rfl (pc0 := 4) (pc' := 14) rfl (hb hby d4_4) rfl ((if0 _ _).trans (teq hc4_3).1) (by decide) (by decide) ?_
      show Steps p.tables e below (T1.setTop (mkF m 14 #[.val (.ref a1), .val (.ref a2), .unset] [])) _
      refine st4 _ ?_
      show Steps p.tables e below (T4.setTop (mkF m 17 #[.val (.ref a1), .val (.ref a2), .unset] [(.ref wZ)])) _
      exact retOut X4 hx (t := (.object "com/example/stepwise/stepwise/model/Occurrence")) Bd.returns rfl (Or.inr (Or.inr (Or.inr (Or.inr ⟨rfl, rfl, rfl⟩)))) (hb hby d4_17) hr
    · show Q4 Z a1 a2 wZ wE wQ wS wP mn mx h0 n0 _ T4.heap _
      rw [e4]
      refine ⟨?_, N0, rfl⟩
      rw [show f4 a1 a2 wZ wE wQ wS wP mn mx = wZ from (by skip; simp only [f4, if_pos hc4_3])]
  · obtain ⟨T5, X5, e5, st5⟩ := getF X1 hx hZ hown (host := "") (Or.inl (hw _ (List.mem_of_getElem? (i := 22) rfl))) Via.refl e1 F2x (g := (mkF m 8 #[.val (.ref a1), .val (.ref a2), .unset] [(.ref a2)])) rfl rfl (hb hby d4_8)
    have pre6 : ∀ t, Steps p.tables e below (T5.setTop (mkF m 11 #[.val (.ref a1), .val (.ref a2), .unset] [(.int (mx a2))])) t → Steps p.tables e below (s₁.setTop (entryFrame m #[(.ref a1), (.ref a2)] 3)) t := by
      intro t k
      refine pre2 t ?_
      show Steps p.tables e below (T1.setTop (mkF m 4 #[.val (.ref a1), .val (.ref a2), .unset] [(.int (mx a1))])) _
      refine XS.ifNo X1.here hx rfl (hb hby d4_4) rfl ((if0 _ _).trans (feq hc4_3).1) ?_
      show Steps p.tables e below (T1.setTop (mkF m 7 #[.val (.ref a1), .val (.ref a2), .unset] [])) _
      refine XS.aloadN X1.here hx rfl (hb hby d4_7) rfl rfl ?_
      show Steps p.tables e below (T1.setTop (mkF m 8 #[.val (.ref a1), .val (.ref a2), .unset] [(.ref a2)])) _
      refine st5 _ ?_
      exact k
    by_cases hc11_7 : (mx a2) = (0 : Int32)
    · obtain ⟨T8, X8, e8, st8⟩ := getS2 X5 hx hZ hown (host := "") (Or.inl (hw _ (List.mem_of_getElem? (i := 29) rfl))) Via.refl e5 S_wZ (g := (mkF m 14 #[.val (.ref a1), .val (.ref a2), .unset] [])) rfl (hb hby d4_14)
      refine hneg ?_
      obtain ⟨fs, hr, hrun, hended, hW, hsame⟩ := X8.leave (v := some (.ref wZ)) (fun h => by rw [Bd.returns] at h; cases h)
      refine ⟨_, _, pre6 _ ?_, hrun, hended, _, _, rfl, ?_, ⟨_, rfl⟩, hW, hsame.mono (by decide) (by decide)⟩
      · show Steps p.tables e below (T5.setTop (mkF m 11 #[.val (.ref a1), .val (.ref a2), .unset] [(.int (mx a2))])) _
        refine XS.ifNo X5.here hx rfl (hb hby d4_11) rfl ((if0 _ _).trans (teq hc11_7).2) ?_
        show Steps p.tables e below (T5.setTop (mkF m 14 #[.val (.ref a1), .val (.ref a2), .unset] [])) _
        refine st8 _ ?_
        show Steps p.tables e below (T8.setTop (mkF m 17 #[.val (.ref a1), .val (.ref a2), .unset] [(.ref wZ)])) _
        exact retOut X8 hx (t := (.object "com/example/stepwise/stepwise/model/Occurrence")) Bd.returns rfl (Or.inr (Or.inr (Or.inr (Or.inr ⟨rfl, rfl, rfl⟩)))) (hb hby d4_17) hr
      · show Q4 Z a1 a2 wZ wE wQ wS wP mn mx h0 n0 _ T8.heap _
        rw [e8]
        refine ⟨?_, N0, rfl⟩
        rw [show f4 a1 a2 wZ wE wQ wS wP mn mx = wZ from (by skip; simp only [f4, if_neg hc4_3, if_pos hc11_7])]
    · obtain ⟨T9, X9, e9, st9⟩ := getF X5 hx hZ hown (host := "") (Or.inl (hw _ (List.mem_of_getElem? (i := 15) rfl))) Via.refl e5 F1n (g := (mkF m 19 #[.val (.ref a1), .val (.ref a2), .unset] [(.ref a1)])) rfl rfl (hb hby d4_19)
      have pre10 : ∀ t, Steps p.tables e below (T9.setTop (mkF m 22 #[.val (.ref a1), .val (.ref a2), .unset] [(.int (mn a1))])) t → Steps p.tables e below (s₁.setTop (entryFrame m #[(.ref a1), (.ref a2)] 3)) t := by
        intro t k
        refine pre6 t ?_
        show Steps p.tables e below (T5.setTop (mkF m 11 #[.val (.ref a1), .val (.ref a2), .unset] [(.int (mx a2))])) _
        refine XS.ifYes X5.here hx rfl (pc0 := 11) (pc' := 18) rfl (hb hby d4_11) rfl ((if0 _ _).trans (feq hc11_7).2) (by decide) (by decide) ?_
        show Steps p.tables e below (T5.setTop (mkF m 18 #[.val (.ref a1), .val (.ref a2), .unset] [])) _
        refine XS.aloadN X5.here hx rfl (hb hby d4_18) rfl rfl ?_
        show Steps p.tables e below (T5.setTop (mkF m 19 #[.val (.ref a1), .val (.ref a2), .unset] [(.ref a1)])) _
        refine st9 _ ?_
        exact k
      by_cases hc22_11 : (0 : Int32) < (mn a1)
      · obtain ⟨T12, X12, e12, st12⟩ := getF X9 hx hZ hown (host := "") (Or.inl (hw _ (List.mem_of_getElem? (i := 15) rfl))) Via.refl e9 F2n (g := (mkF m 26 #[.val (.ref a1), .val (.ref a2), .unset] [(.ref a2)])) rfl rfl (hb hby d4_26)
        have pre13 : ∀ t, Steps p.tables e below (T12.setTop (mkF m 29 #[.val (.ref a1), .val (.ref a2), .unset] [(.int (mn a2))])) t → Steps p.tables e below (s₁.setTop (entryFrame m #[(.ref a1), (.ref a2)] 3)) t := by
          intro t k
          refine pre10 t ?_
          show Steps p.tables e below (T9.setTop (mkF m 22 #[.val (.ref a1), .val (.ref a2), .unset] [(.int (mn a1))])) _
          refine XS.ifNo X9.here hx rfl (hb hby d4_22) rfl ((if0 _ _).trans (tlt hc22_11).2.2.2) ?_
          show Steps p.tables e below (T9.setTop (mkF m 25 #[.val (.ref a1), .val (.ref a2), .unset] [])) _
          refine XS.aloadN X9.here hx rfl (hb hby d4_25) rfl rfl ?_
          show Steps p.tables e below (T9.setTop (mkF m 26 #[.val (.ref a1), .val (.ref a2), .unset] [(.ref a2)])) _
          refine st12 _ ?_
          exact k
        by_cases hc29_14 : (0 : Int32) < (mn a2)
        · obtain ⟨T15, X15, e15, st15⟩ := getF X12 hx hZ hown (host := "") (Or.inl (hw _ (List.mem_of_getElem? (i := 22) rfl))) Via.refl e12 F1x (g := (mkF m 39 #[.val (.ref a1), .val (.ref a2), .val (.int (1 : Int32))] [(.ref a1)])) rfl rfl (hb hby d4_39)
          have pre16 : ∀ t, Steps p.tables e below (T15.setTop (mkF m 43 #[.val (.ref a1), .val (.ref a2), .val (.int (1 : Int32))] [(.int (1 : Int32)), (.int (mx a1))])) t → Steps p.tables e below (s₁.setTop (entryFrame m #[(.ref a1), (.ref a2)] 3)) t := by
            intro t k
            refine pre13 t ?_
            show Steps p.tables e below (T12.setTop (mkF m 29 #[.val (.ref a1), .val (.ref a2), .unset] [(.int (mn a2))])) _
            refine XS.ifNo X12.here hx rfl (hb hby d4_29) rfl ((if0 _ _).trans (tlt hc29_14).2.2.2) ?_
            show Steps p.tables e below (T12.setTop (mkF m 32 #[.val (.ref a1), .val (.ref a2), .unset] [])) _
            refine XS.iconst X12.here hx rfl (hb hby d4_32) ?_
            show Steps p.tables e below (T12.setTop (mkF m 33 #[.val (.ref a1), .val (.ref a2), .unset] [(.int (1 : Int32))])) _
            refine XS.goto X12.here hx rfl (pc0 := 33) (pc' := 37) rfl (hb hby d4_33) (by decide) (by decide) ?_
            show Steps p.tables e below (T12.setTop (mkF m 37 #[.val (.ref a1), .val (.ref a2), .unset] [(.int (1 : Int32))])) _
            refine XS.istoreN X12.here hx rfl (hb hby d4_37) rfl (l' := #[.val (.ref a1), .val (.ref a2), .val (.int (1 : Int32))]) rfl ?_
            show Steps p.tables e below (T12.setTop (mkF m 38 #[.val (.ref a1), .val (.ref a2), .val (.int (1 : Int32))] [])) _
            refine XS.aloadN X12.here hx rfl (hb hby d4_38) rfl rfl ?_
            show Steps p.tables e below (T12.setTop (mkF m 39 #[.val (.ref a1), .val (.ref a2), .val (.int (1 : Int32))] [(.ref a1)])) _
            refine st15 _ ?_
            show Steps p.tables e below (T15.setTop (mkF m 42 #[.val (.ref a1), .val (.ref a2), .val (.int (1 : Int32))] [(.int (mx a1))])) _
            refine XS.iconst X15.here hx rfl (hb hby d4_42) ?_
            exact k
          by_cases hc43_17 : (1 : Int32) < (mx a1)
          · obtain ⟨T18, X18, e18, st18⟩ := getS2 X15 hx hZ hown (host := "") (Or.inl (hw _ (List.mem_of_getElem? (i := 38) rfl))) Via.refl e15 S_wP (g := (mkF m 58 #[.val (.ref a1), .val (.ref a2), .val (.int (1 : Int32))] [])) rfl (hb hby d4_58)
            refine hneg ?_
            obtain ⟨fs, hr, hrun, hended, hW, hsame⟩ := X18.leave (v := some (.ref wP)) (fun h => by rw [Bd.returns] at h; cases h)
            refine ⟨_, _, pre16 _ ?_, hrun, hended, _, _, rfl, ?_, ⟨_, rfl⟩, hW, hsame.mono (by decide) (by decide)⟩
            · show Steps p.tables e below (T15.setTop (mkF m 43 #[.val (.ref a1), .val (.ref a2), .val (.int (1 : Int32))] [(.int (1 : Int32)), (.int (mx a1))])) _
              refine XS.icmpYes X15.here hx rfl (pc0 := 43) (pc' := 54) rfl (hb hby d4_43) rfl (tlt hc43_17).2.2.1 (by decide) (by decide) ?_
              show Steps p.tables e below (T15.setTop (mkF m 54 #[.val (.ref a1), .val (.ref a2), .val (.int (1 : Int32))] [])) _
              refine XS.iloadN X15.here hx rfl (hb hby d4_54) rfl ?_
              show Steps p.tables e below (T15.setTop (mkF m 55 #[.val (.ref a1), .val (.ref a2), .val (.int (1 : Int32))] [(.int (1 : Int32))])) _
              refine XS.ifNo X15.here hx rfl (hb hby d4_55) rfl ((if0 _ _).trans (feq (by decide : ¬ ((1 : Int32) = (0 : Int32)))).1) ?_
              show Steps p.tables e below (T15.setTop (mkF m 58 #[.val (.ref a1), .val (.ref a2), .val (.int (1 : Int32))] [])) _
              refine st18 _ ?_
              show Steps p.tables e below (T18.setTop (mkF m 61 #[.val (.ref a1), .val (.ref a2), .val (.int (1 : Int32))] [(.ref wP)])) _
              refine XS.goto X18.here hx rfl (pc0 := 61) (pc' := 67) rfl (hb hby d4_61) (by decide) (by decide) ?_
              show Steps p.tables e below (T18.setTop (mkF m 67 #[.val (.ref a1), .val (.ref a2), .val (.int (1 : Int32))] [(.ref wP)])) _
              exact retOut X18 hx (t := (.object "com/example/stepwise/stepwise/model/Occurrence")) Bd.returns rfl (Or.inr (Or.inr (Or.inr (Or.inr ⟨rfl, rfl, rfl⟩)))) (hb hby d4_67) hr
            · show Q4 Z a1 a2 wZ wE wQ wS wP mn mx h0 n0 _ T18.heap _
              rw [e18]
              refine ⟨?_, N0, rfl⟩
              rw [show f4 a1 a2 wZ wE wQ wS wP mn mx = wP from (by skip; simp only [f4, if_neg hc4_3, if_neg hc11_7, if_pos hc22_11, if_pos hc29_14, if_pos hc43_17])]
          · obtain ⟨T19, X19, e19, st19⟩ := getF X15 hx hZ hown (host := "") (Or.inl (hw _ (List.mem_of_getElem? (i := 22) rfl))) Via.refl e15 F2x (g := (mkF m 47 #[.val (.ref a1), .val (.ref a2), .val (.int (1 : Int32))] [(.ref a2)])) rfl rfl (hb hby d4_47)
            have pre20 : ∀ t, Steps p.tables e below (T19.setTop (mkF m 51 #[.val (.ref a1), .val (.ref a2), .val (.int (1 : Int32))] [(.int (1 : Int32)), (.int (mx a2))])) t → Steps p.tables e below (s₁.setTop (entryFrame m #[(.ref a1), (.ref a2)] 3)) t := by
              intro t k
              refine pre16 t ?_
              show Steps p.tables e below (T15.setTop (mkF m 43 #[.val (.ref a1), .val (.ref a2), .val (.int (1 : Int32))] [(.int (1 : Int32)), (.int (mx a1))])) _
              refine XS.icmpNo X15.here hx rfl (hb hby d4_43) rfl (flt hc43_17).2.2.1 ?_
              show Steps p.tables e below (T15.setTop (mkF m 46 #[.val (.ref a1), .val (.ref a2), .val (.int (1 : Int32))] [])) _
              refine XS.aloadN X15.here hx rfl (hb hby d4_46) rfl rfl ?_
              show Steps p.tables e below (T15.setTop (mkF m 47 #[.val (.ref a1), .val (.ref a2), .val (.int (1 : Int32))] [(.ref a2)])) _
              refine st19 _ ?_
              show Steps p.tables e below (T19.setTop (mkF m 50 #[.val (.ref a1), .val (.ref a2), .val (.int (1 : Int32))] [(.int (mx a2))])) _
              refine XS.iconst X19.here hx rfl (hb hby d4_50) ?_
              exact k
            by_cases hc51_21 : (1 : Int32) < (mx a2)
            · obtain ⟨T22, X22, e22, st22⟩ := getS2 X19 hx hZ hown (host := "") (Or.inl (hw _ (List.mem_of_getElem? (i := 38) rfl))) Via.refl e19 S_wP (g := (mkF m 58 #[.val (.ref a1), .val (.ref a2), .val (.int (1 : Int32))] [])) rfl (hb hby d4_58)
              refine hneg ?_
              obtain ⟨fs, hr, hrun, hended, hW, hsame⟩ := X22.leave (v := some (.ref wP)) (fun h => by rw [Bd.returns] at h; cases h)
              refine ⟨_, _, pre20 _ ?_, hrun, hended, _, _, rfl, ?_, ⟨_, rfl⟩, hW, hsame.mono (by decide) (by decide)⟩
              · show Steps p.tables e below (T19.setTop (mkF m 51 #[.val (.ref a1), .val (.ref a2), .val (.int (1 : Int32))] [(.int (1 : Int32)), (.int (mx a2))])) _
                refine XS.icmpNo X19.here hx rfl (hb hby d4_51) rfl (tlt hc51_21).2.2.2 ?_
                show Steps p.tables e below (T19.setTop (mkF m 54 #[.val (.ref a1), .val (.ref a2), .val (.int (1 : Int32))] [])) _
                refine XS.iloadN X19.here hx rfl (hb hby d4_54) rfl ?_
                show Steps p.tables e below (T19.setTop (mkF m 55 #[.val (.ref a1), .val (.ref a2), .val (.int (1 : Int32))] [(.int (1 : Int32))])) _
                refine XS.ifNo X19.here hx rfl (hb hby d4_55) rfl ((if0 _ _).trans (feq (by decide : ¬ ((1 : Int32) = (0 : Int32)))).1) ?_
                show Steps p.tables e below (T19.setTop (mkF m 58 #[.val (.ref a1), .val (.ref a2), .val (.int (1 : Int32))] [])) _
                refine st22 _ ?_
                show Steps p.tables e below (T22.setTop (mkF m 61 #[.val (.ref a1), .val (.ref a2), .val (.int (1 : Int32))] [(.ref wP)])) _
                refine XS.goto X22.here hx rfl (pc0 := 61) (pc' := 67) rfl (hb hby d4_61) (by decide) (by decide) ?_
                show Steps p.tables e below (T22.setTop (mkF m 67 #[.val (.ref a1), .val (.ref a2), .val (.int (1 : Int32))] [(.ref wP)])) _
                exact retOut X22 hx (t := (.object "com/example/stepwise/stepwise/model/Occurrence")) Bd.returns rfl (Or.inr (Or.inr (Or.inr (Or.inr ⟨rfl, rfl, rfl⟩)))) (hb hby d4_67) hr
              · show Q4 Z a1 a2 wZ wE wQ wS wP mn mx h0 n0 _ T22.heap _
                rw [e22]
                refine ⟨?_, N0, rfl⟩
                rw [show f4 a1 a2 wZ wE wQ wS wP mn mx = wP from (by skip; simp only [f4, if_neg hc4_3, if_neg hc11_7, if_pos hc22_11, if_pos hc29_14, if_neg hc43_17, if_pos hc51_21])]
            · obtain ⟨T23, X23, e23, st23⟩ := getS2 X19 hx hZ hown (host := "") (Or.inl (hw _ (List.mem_of_getElem? (i := 40) rfl))) Via.refl e19 S_wE (g := (mkF m 72 #[.val (.ref a1), .val (.ref a2), .val (.int (1 : Int32))] [])) rfl (hb hby d4_72)
              refine hneg ?_
              obtain ⟨fs, hr, hrun, hended, hW, hsame⟩ := X23.leave (v := some (.ref wE)) (fun h => by rw [Bd.returns] at h; cases h)
              refine ⟨_, _, pre20 _ ?_, hrun, hended, _, _, rfl, ?_, ⟨_, rfl⟩, hW, hsame.mono (by decide) (by decide)⟩
              · show Steps p.tables e below (T19.setTop (mkF m 51 #[.val (.ref a1), .val (.ref a2), .val (.int (1 : Int32))] [(.int (1 : Int32)), (.int (mx a2))])) _
                refine XS.icmpYes X19.here hx rfl (pc0 := 51) (pc' := 68) rfl (hb hby d4_51) rfl (flt hc51_21).2.2.2 (by decide) (by decide) ?_
                show Steps p.tables e below (T19.setTop (mkF m 68 #[.val (.ref a1), .val (.ref a2), .val (.int (1 : Int32))] [])) _
                refine XS.iloadN X19.here hx rfl (hb hby d4_68) rfl ?_
                show Steps p.tables e below (T19.setTop (mkF m 69 #[.val (.ref a1), .val (.ref a2), .val (.int (1 : Int32))] [(.int (1 : Int32))])) _
                refine XS.ifNo X19.here hx rfl (hb hby d4_69) rfl ((if0 _ _).trans (feq (by decide : ¬ ((1 : Int32) = (0 : Int32)))).1) ?_
                show Steps p.tables e below (T19.setTop (mkF m 72 #[.val (.ref a1), .val (.ref a2), .val (.int (1 : Int32))] [])) _
                refine st23 _ ?_
                show Steps p.tables e below (T23.setTop (mkF m 75 #[.val (.ref a1), .val (.ref a2), .val (.int (1 : Int32))] [(.ref wE)])) _
                refine XS.goto X23.here hx rfl (pc0 := 75) (pc' := 81) rfl (hb hby d4_75) (by decide) (by decide) ?_
                show Steps p.tables e below (T23.setTop (mkF m 81 #[.val (.ref a1), .val (.ref a2), .val (.int (1 : Int32))] [(.ref wE)])) _
                exact retOut X23 hx (t := (.object "com/example/stepwise/stepwise/model/Occurrence")) Bd.returns rfl (Or.inr (Or.inr (Or.inr (Or.inr ⟨rfl, rfl, rfl⟩)))) (hb hby d4_81) hr
              · show Q4 Z a1 a2 wZ wE wQ wS wP mn mx h0 n0 _ T23.heap _
                rw [e23]
                refine ⟨?_, N0, rfl⟩
                rw [show f4 a1 a2 wZ wE wQ wS wP mn mx = wE from (by skip; simp only [f4, if_neg hc4_3, if_neg hc11_7, if_pos hc22_11, if_pos hc29_14, if_neg hc43_17, if_neg hc51_21])]
        · obtain ⟨T24, X24, e24, st24⟩ := getF X12 hx hZ hown (host := "") (Or.inl (hw _ (List.mem_of_getElem? (i := 22) rfl))) Via.refl e12 F1x (g := (mkF m 39 #[.val (.ref a1), .val (.ref a2), .val (.int (0 : Int32))] [(.ref a1)])) rfl rfl (hb hby d4_39)
          have pre25 : ∀ t, Steps p.tables e below (T24.setTop (mkF m 43 #[.val (.ref a1), .val (.ref a2), .val (.int (0 : Int32))] [(.int (1 : Int32)), (.int (mx a1))])) t → Steps p.tables e below (s₁.setTop (entryFrame m #[(.ref a1), (.ref a2)] 3)) t := by
            intro t k
            refine pre13 t ?_
            show Steps p.tables e below (T12.setTop (mkF m 29 #[.val (.ref a1), .val (.ref a2), .unset] [(.int (mn a2))])) _
            refine XS.ifYes X12.here hx rfl (pc0 := 29) (pc' := 36) rfl (hb hby d4_29) rfl ((if0 _ _).trans (flt hc29_14).2.2.2) (by decide) (by decide) ?_
            show Steps p.tables e below (T12.setTop (mkF m 36 #[.val (.ref a1), .val (.ref a2), .unset] [])) _
            refine XS.iconst X12.here hx rfl (hb hby d4_36) ?_
            show Steps p.tables e below (T12.setTop (mkF m 37 #[.val (.ref a1), .val (.ref a2), .unset] [(.int (0 : Int32))])) _
            refine XS.istoreN X12.here hx rfl (hb hby d4_37) rfl (l' := #[.val (.ref a1), .val (.ref a2), .val (.int (0 : Int32))]) rfl ?_
            show Steps p.tables e below (T12.setTop (mkF m 38 #[.val (.ref a1), .val (.ref a2), .val (.int (0 : Int32))] [])) _
            refine XS.aloadN X12.here hx rfl (hb hby d4_38) rfl rfl ?_
            show Steps p.tables e below (T12.setTop (mkF m 39 #[.val (.ref a1), .val (.ref a2), .val (.int (0 : Int32))] [(.ref a1)])) _
            refine st24 _ ?_
            show Steps p.tables e below (T24.setTop (mkF m 42 #[.val (.ref a1), .val (.ref a2), .val (.int (0 : Int32))] [(.int (mx a1))])) _
            refine XS.iconst X24.here hx rfl (hb hby d4_42) ?_
            exact k
          by_cases hc43_26 : (1 : Int32) < (mx a1)
          · obtain ⟨T27, X27, e27, st27⟩ := getS2 X24 hx hZ hown (host := "") (Or.inl (hw _ (List.mem_of_getElem? (i := 39) rfl))) Via.refl e24 S_wS (g := (mkF m 64 #[.val (.ref a1), .val (.ref a2), .val (.int (0 : Int32))] [])) rfl (hb hby d4_64)
            refine hneg ?_
            obtain ⟨fs, hr, hrun, hended, hW, hsame⟩ := X27.leave (v := some (.ref wS)) (fun h => by rw [Bd.returns] at h; cases h)
            refine ⟨_, _, pre25 _ ?_, hrun, hended, _, _, rfl, ?_, ⟨_, rfl⟩, hW, hsame.mono (by decide) (by decide)⟩
            · show Steps p.tables e below (T24.setTop (mkF m 43 #[.val (.ref a1), .val (.ref a2), .val (.int (0 : Int32))] [(.int (1 : Int32)), (.int (mx a1))])) _
              refine XS.icmpYes X24.here hx rfl (pc0 := 43) (pc' := 54) rfl (hb hby d4_43) rfl (tlt hc43_26).2.2.1 (by decide) (by decide) ?_
              show Steps p.tables e below (T24.setTop (mkF m 54 #[.val (.ref a1), .val (.ref a2), .val (.int (0 : Int32))] [])) _
              refine XS.iloadN X24.here hx rfl (hb hby d4_54) rfl ?_
              show Steps p.tables e below (T24.setTop (mkF m 55 #[.val (.ref a1), .val (.ref a2), .val (.int (0 : Int32))] [(.int (0 : Int32))])) _
              refine XS.ifYes X24.here hx rfl (pc0 := 55) (pc' := 64) rfl (hb hby d4_55) rfl ((if0 _ _).trans (teq (by decide : (0 : Int32) = (0 : Int32))).1) (by decide) (by decide) ?_
              show Steps p.tables e below (T24.setTop (mkF m 64 #[.val (.ref a1), .val (.ref a2), .val (.int (0 : Int32))] [])) _
              refine st27 _ ?_
              show Steps p.tables e below (T27.setTop (mkF m 67 #[.val (.ref a1), .val (.ref a2), .val (.int (0 : Int32))] [(.ref wS)])) _
              exact retOut X27 hx (t := (.object "com/example/stepwise/stepwise/model/Occurrence")) Bd.returns rfl (Or.inr (Or.inr (Or.inr (Or.inr ⟨rfl, rfl, rfl⟩)))) (hb hby d4_67) hr
            · show Q4 Z a1 a2 wZ wE wQ wS wP mn mx h0 n0 _ T27.heap _
              rw [e27]
              refine ⟨?_, N0, rfl⟩
              rw [show f4 a1 a2 wZ wE wQ wS wP mn mx = wS from (by skip; simp only [f4, if_neg hc4_3, if_neg hc11_7, if_pos hc22_11, if_neg hc29_14, if_pos hc43_26])]
          · obtain ⟨T28, X28, e28, st28⟩ := getF X24 hx hZ hown (host := "") (Or.inl (hw _ (List.mem_of_getElem? (i := 22) rfl))) Via.refl e24 F2x (g := (mkF m 47 #[.val (.ref a1), .val (.ref a2), .val (.int (0 : Int32))] [(.ref a2)])) rfl rfl (hb hby d4_47)
            have pre29 : ∀ t, Steps p.tables e below (T28.setTop (mkF m 51 #[.val (.ref a1), .val (.ref a2), .val (.int (0 : Int32))] [(.int (1 : Int32)), (.int (mx a2))])) t → Steps p.tables e below (s₁.setTop (entryFrame m #[(.ref a1), (.ref a2)] 3)) t := by
              intro t k
              refine pre25 t ?_
              show Steps p.tables e below (T24.setTop (mkF m 43 #[.val (.ref a1), .val (.ref a2), .val (.int (0 : Int32))] [(.int (1 : Int32)), (.int (mx a1))])) _
              refine XS.icmpNo X24.here hx rfl (hb hby d4_43) rfl (flt hc43_26).2.2.1 ?_
              show Steps p.tables e below (T24.setTop (mkF m 46 #[.val (.ref a1), .val (.ref a2), .val (.int (0 : Int32))] [])) _
              refine XS.aloadN X24.here hx rfl (hb hby d4_46) rfl rfl ?_
              show Steps p.tables e below (T24.setTop (mkF m 47 #[.val (.ref a1), .val (.ref a2), .val (.int (0 : Int32))] [(.ref a2)])) _
              refine st28 _ ?_
              show Steps p.tables e below (T28.setTop (mkF m 50 #[.val (.ref a1), .val (.ref a2), .val (.int (0 : Int32))] [(.int (mx a2))])) _
              refine XS.iconst X28.here hx rfl (hb hby d4_50) ?_
              exact k
            by_cases hc51_30 : (1 : Int32) < (mx a2)
            · obtain ⟨T31, X31, e31, st31⟩ := getS2 X28 hx hZ hown (host := "") (Or.inl (hw _ (List.mem_of_getElem? (i := 39) rfl))) Via.refl e28 S_wS (g := (mkF m 64 #[.val (.ref a1), .val (.ref a2), .val (.int (0 : Int32))] [])) rfl (hb hby d4_64)
              refine hneg ?_
              obtain ⟨fs, hr, hrun, hended, hW, hsame⟩ := X31.leave (v := some (.ref wS)) (fun h => by rw [Bd.returns] at h; cases h)
              refine ⟨_, _, pre29 _ ?_, hrun, hended, _, _, rfl, ?_, ⟨_, rfl⟩, hW, hsame.mono (by decide) (by decide)⟩
              · show Steps p.tables e below (T28.setTop (mkF m 51 #[.val (.ref a1), .val (.ref a2), .val (.int (0 : Int32))] [(.int (1 : Int32)), (.int (mx a2))])) _
                refine XS.icmpNo X28.here hx rfl (hb hby d4_51) rfl (tlt hc51_30).2.2.2 ?_
                show Steps p.tables e below (T28.setTop (mkF m 54 #[.val (.ref a1), .val (.ref a2), .val (.int (0 : Int32))] [])) _
                refine XS.iloadN X28.here hx rfl (hb hby d4_54) rfl ?_
                show Steps p.tables e below (T28.setTop (mkF m 55 #[.val (.ref a1), .val (.ref a2), .val (.int (0 : Int32))] [(.int (0 : Int32))])) _
                refine XS.ifYes X28.here hx rfl (pc0 := 55) (pc' := 64) rfl (hb hby d4_55) rfl ((if0 _ _).trans (teq (by decide : (0 : Int32) = (0 : Int32))).1) (by decide) (by decide) ?_
                show Steps p.tables e below (T28.setTop (mkF m 64 #[.val (.ref a1), .val (.ref a2), .val (.int (0 : Int32))] [])) _
                refine st31 _ ?_
                show Steps p.tables e below (T31.setTop (mkF m 67 #[.val (.ref a1), .val (.ref a2), .val (.int (0 : Int32))] [(.ref wS)])) _
                exact retOut X31 hx (t := (.object "com/example/stepwise/stepwise/model/Occurrence")) Bd.returns rfl (Or.inr (Or.inr (Or.inr (Or.inr ⟨rfl, rfl, rfl⟩)))) (hb hby d4_67) hr
              · show Q4 Z a1 a2 wZ wE wQ wS wP mn mx h0 n0 _ T31.heap _
                rw [e31]
                refine ⟨?_, N0, rfl⟩
                rw [show f4 a1 a2 wZ wE wQ wS wP mn mx = wS from (by skip; simp only [f4, if_neg hc4_3, if_neg hc11_7, if_pos hc22_11, if_neg hc29_14, if_neg hc43_26, if_pos hc51_30])]
            · obtain ⟨T32, X32, e32, st32⟩ := getS2 X28 hx hZ hown (host := "") (Or.inl (hw _ (List.mem_of_getElem? (i := 43) rfl))) Via.refl e28 S_wQ (g := (mkF m 78 #[.val (.ref a1), .val (.ref a2), .val (.int (0 : Int32))] [])) rfl (hb hby d4_78)
              refine hneg ?_
              obtain ⟨fs, hr, hrun, hended, hW, hsame⟩ := X32.leave (v := some (.ref wQ)) (fun h => by rw [Bd.returns] at h; cases h)
              refine ⟨_, _, pre29 _ ?_, hrun, hended, _, _, rfl, ?_, ⟨_, rfl⟩, hW, hsame.mono (by decide) (by decide)⟩
              · show Steps p.tables e below (T28.setTop (mkF m 51 #[.val (.ref a1), .val (.ref a2), .val (.int (0 : Int32))] [(.int (1 : Int32)), (.int (mx a2))])) _
                refine XS.icmpYes X28.here hx rfl (pc0 := 51) (pc' := 68) rfl (hb hby d4_51) rfl (flt hc51_30).2.2.2 (by decide) (by decide) ?_
                show Steps p.tables e below (T28.setTop (mkF m 68 #[.val (.ref a1), .val (.ref a2), .val (.int (0 : Int32))] [])) _
                refine XS.iloadN X28.here hx rfl (hb hby d4_68) rfl ?_
                show Steps p.tables e below (T28.setTop (mkF m 69 #[.val (.ref a1), .val (.ref a2), .val (.int (0 : Int32))] [(.int (0 : Int32))])) _
                refine XS.ifYes X28.here hx rfl (pc0 := 69) (pc' := 78) rfl (hb hby d4_69) rfl ((if0 _ _).trans (teq (by decide : (0 : Int32) = (0 : Int32))).1) (by decide) (by decide) ?_
                show Steps p.tables e below (T28.setTop (mkF m 78 #[.val (.ref a1), .val (.ref a2), .val (.int (0 : Int32))] [])) _
                refine st32 _ ?_
                show Steps p.tables e below (T32.setTop (mkF m 81 #[.val (.ref a1), .val (.ref a2), .val (.int (0 : Int32))] [(.ref wQ)])) _
                exact retOut X32 hx (t := (.object "com/example/stepwise/stepwise/model/Occurrence")) Bd.returns rfl (Or.inr (Or.inr (Or.inr (Or.inr ⟨rfl, rfl, rfl⟩)))) (hb hby d4_81) hr
              · show Q4 Z a1 a2 wZ wE wQ wS wP mn mx h0 n0 _ T32.heap _
                rw [e32]
                refine ⟨?_, N0, rfl⟩
                rw [show f4 a1 a2 wZ wE wQ wS wP mn mx = wQ from (by skip; simp only [f4, if_neg hc4_3, if_neg hc11_7, if_pos hc22_11, if_neg hc29_14, if_neg hc43_26, if_neg hc51_30])]
      · obtain ⟨T33, X33, e33, st33⟩ := getF X9 hx hZ hown (host := "") (Or.inl (hw _ (List.mem_of_getElem? (i := 22) rfl))) Via.refl e9 F1x (g := (mkF m 39 #[.val (.ref a1), .val (.ref a2), .val (.int (0 : Int32))] [(.ref a1)])) rfl rfl (hb hby d4_39)
        have pre34 : ∀ t, Steps p.tables e below (T33.setTop (mkF m 43 #[.val (.ref a1), .val (.ref a2), .val (.int (0 : Int32))] [(.int (1 : Int32)), (.int (mx a1))])) t → Steps p.tables e below (s₁.setTop (entryFrame m #[(.ref a1), (.ref a2)] 3)) t := by
          intro t k
          refine pre10 t ?_
          show Steps p.tables e below (T9.setTop (mkF m 22 #[.val (.ref a1), .val (.ref a2), .unset] [(.int (mn a1))])) _
          refine XS.ifYes X9.here hx rfl (pc0 := 22) (pc' := 36) rfl (hb hby d4_22) rfl ((if0 _ _).trans (flt hc22_11).2.2.2) (by decide) (by decide) ?_
          show Steps p.tables e below (T9.setTop (mkF m 36 #[.val (.ref a1), .val (.ref a2), .unset] [])) _
          refine XS.iconst X9.here hx rfl (hb hby d4_36) ?_
          show Steps p.tables e below (T9.setTop (mkF m 37 #[.val (.ref a1), .val (.ref a2), .unset] [(.int (0 : Int32))])) _
          refine XS.istoreN X9.here hx rfl (hb hby d4_37) rfl (l' := #[.val (.ref a1), .val (.ref a2), .val (.int (0 : Int32))]) rfl ?_
          show Steps p.tables e below (T9.setTop (mkF m 38 #[.val (.ref a1), .val (.ref a2), .val (.int (0 : Int32))] [])) _
          refine XS.aloadN X9.here hx rfl (hb hby d4_38) rfl rfl ?_
          show Steps p.tables e below (T9.setTop (mkF m 39 #[.val (.ref a1), .val (.ref a2), .val (.int (0 : Int32))] [(.ref a1)])) _
          refine st33 _ ?_
          show Steps p.tables e below (T33.setTop (mkF m 42 #[.val (.ref a1), .val (.ref a2), .val (.int (0 : Int32))] [(.int (mx a1))])) _
          refine XS.iconst X33.here hx rfl (hb hby d4_42) ?_
          exact k
        by_cases hc43_35 : (1 : Int32) < (mx a1)
        · obtain ⟨T36, X36, e36, st36⟩ := getS2 X33 hx hZ hown (host := "") (Or.inl (hw _ (List.mem_of_getElem? (i := 39) rfl))) Via.refl e33 S_wS (g := (mkF m 64 #[.val (.ref a1), .val (.ref a2), .val (.int (0 : Int32))] [])) rfl (hb hby d4_64)
          refine hneg ?_
          obtain ⟨fs, hr, hrun, hended, hW, hsame⟩ := X36.leave (v := some (.ref wS)) (fun h => by rw [Bd.returns] at h; cases h)
          refine ⟨_, _, pre34 _ ?_, hrun, hended, _, _, rfl, ?_, ⟨_, rfl⟩, hW, hsame.mono (by decide) (by decide)⟩
          · show Steps p.tables e below (T33.setTop (mkF m 43 #[.val (.ref a1), .val (.ref a2), .val (.int (0 : Int32))] [(.int (1 : Int32)), (.int (mx a1))])) _
            refine XS.icmpYes X33.here hx rfl (pc0 := 43) (pc' := 54) rfl (hb hby d4_43) rfl (tlt hc43_35).2.2.1 (by decide) (by decide) ?_
            show Steps p.tables e below (T33.setTop (mkF m 54 #[.val (.ref a1), .val (.ref a2), .val (.int (0 : Int32))] [])) _
            refine XS.iloadN X33.here hx rfl (hb hby d4_54) rfl ?_
            show Steps p.tables e below (T33.setTop (mkF m 55 #[.val (.ref a1), .val (.ref a2), .val (.int (0 : Int32))] [(.int (0 : Int32))])) _
            refine XS.ifYes X33.here hx rfl (pc0 := 55) (pc' := 64) rfl (hb hby d4_55) rfl ((if0 _ _).trans (teq (by decide : (0 : Int32) = (0 : Int32))).1) (by decide) (by decide) ?_
            show Steps p.tables e below (T33.setTop (mkF m 64 #[.val (.ref a1), .val (.ref a2), .val (.int (0 : Int32))] [])) _
            refine st36 _ ?_
            show Steps p.tables e below (T36.setTop (mkF m 67 #[.val (.ref a1), .val (.ref a2), .val (.int (0 : Int32))] [(.ref wS)])) _
            exact retOut X36 hx (t := (.object "com/example/stepwise/stepwise/model/Occurrence")) Bd.returns rfl (Or.inr (Or.inr (Or.inr (Or.inr ⟨rfl, rfl, rfl⟩)))) (hb hby d4_67) hr
          · show Q4 Z a1 a2 wZ wE wQ wS wP mn mx h0 n0 _ T36.heap _
            rw [e36]
            refine ⟨?_, N0, rfl⟩
            rw [show f4 a1 a2 wZ wE wQ wS wP mn mx = wS from (by skip; simp only [f4, if_neg hc4_3, if_neg hc11_7, if_neg hc22_11, if_pos hc43_35])]
        · obtain ⟨T37, X37, e37, st37⟩ := getF X33 hx hZ hown (host := "") (Or.inl (hw _ (List.mem_of_getElem? (i := 22) rfl))) Via.refl e33 F2x (g := (mkF m 47 #[.val (.ref a1), .val (.ref a2), .val (.int (0 : Int32))] [(.ref a2)])) rfl rfl (hb hby d4_47)
          have pre38 : ∀ t, Steps p.tables e below (T37.setTop (mkF m 51 #[.val (.ref a1), .val (.ref a2), .val (.int (0 : Int32))] [(.int (1 : Int32)), (.int (mx a2))])) t → Steps p.tables e below (s₁.setTop (entryFrame m #[(.ref a1), (.ref a2)] 3)) t := by
            intro t k
            refine pre34 t ?_
            show Steps p.tables e below (T33.setTop (mkF m 43 #[.val (.ref a1), .val (.ref a2), .val (.int (0 : Int32))] [(.int (1 : Int32)), (.int (mx a1))])) _
            refine XS.icmpNo X33.here hx rfl (hb hby d4_43) rfl (flt hc43_35).2.2.1 ?_
            show Steps p.tables e below (T33.setTop (mkF m 46 #[.val (.ref a1), .val (.ref a2), .val (.int (0 : Int32))] [])) _
            refine XS.aloadN X33.here hx rfl (hb hby d4_46) rfl rfl ?_
            show Steps p.tables e below (T33.setTop (mkF m 47 #[.val (.ref a1), .val (.ref a2), .val (.int (0 : Int32))] [(.ref a2)])) _
            refine st37 _ ?_
            show Steps p.tables e below (T37.setTop (mkF m 50 #[.val (.ref a1), .val (.ref a2), .val (.int (0 : Int32))] [(.int (mx a2))])) _
            refine XS.iconst X37.here hx rfl (hb hby d4_50) ?_
            exact k
          by_cases hc51_39 : (1 : Int32) < (mx a2)
          · obtain ⟨T40, X40, e40, st40⟩ := getS2 X37 hx hZ hown (host := "") (Or.inl (hw _ (List.mem_of_getElem? (i := 39) rfl))) Via.refl e37 S_wS (g := (mkF m 64 #[.val (.ref a1), .val (.ref a2), .val (.int (0 : Int32))] [])) rfl (hb hby d4_64)
            refine hneg ?_
            obtain ⟨fs, hr, hrun, hended, hW, hsame⟩ := X40.leave (v := some (.ref wS)) (fun h => by rw [Bd.returns] at h; cases h)
            refine ⟨_, _, pre38 _ ?_, hrun, hended, _, _, rfl, ?_, ⟨_, rfl⟩, hW, hsame.mono (by decide) (by decide)⟩
            · show Steps p.tables e below (T37.setTop (mkF m 51 #[.val (.ref a1), .val (.ref a2), .val (.int (0 : Int32))] [(.int (1 : Int32)), (.int (mx a2))])) _
              refine XS.icmpNo X37.here hx rfl (hb hby d4_51) rfl (tlt hc51_39).2.2.2 ?_
              show Steps p.tables e below (T37.setTop (mkF m 54 #[.val (.ref a1), .val (.ref a2), .val (.int (0 : Int32))] [])) _
              refine XS.iloadN X37.here hx rfl (hb hby d4_54) rfl ?_
              show Steps p.tables e below (T37.setTop (mkF m 55 #[.val (.ref a1), .val (.ref a2), .val (.int (0 : Int32))] [(.int (0 : Int32))])) _
              refine XS.ifYes X37.here hx rfl (pc0 := 55) (pc' := 64) rfl (hb hby d4_55) rfl ((if0 _ _).trans (teq (by decide : (0 : Int32) = (0 : Int32))).1) (by decide) (by decide) ?_
              show Steps p.tables e below (T37.setTop (mkF m 64 #[.val (.ref a1), .val (.ref a2), .val (.int (0 : Int32))] [])) _
              refine st40 _ ?_
              show Steps p.tables e below (T40.setTop (mkF m 67 #[.val (.ref a1), .val (.ref a2), .val (.int (0 : Int32))] [(.ref wS)])) _
              exact retOut X40 hx (t := (.object "com/example/stepwise/stepwise/model/Occurrence")) Bd.returns rfl (Or.inr (Or.inr (Or.inr (Or.inr ⟨rfl, rfl, rfl⟩)))) (hb hby d4_67) hr
            · show Q4 Z a1 a2 wZ wE wQ wS wP mn mx h0 n0 _ T40.heap _
              rw [e40]
              refine ⟨?_, N0, rfl⟩
              rw [show f4 a1 a2 wZ wE wQ wS wP mn mx = wS from (by skip; simp only [f4, if_neg hc4_3, if_neg hc11_7, if_neg hc22_11, if_neg hc43_35, if_pos hc51_39])]
          · obtain ⟨T41, X41, e41, st41⟩ := getS2 X37 hx hZ hown (host := "") (Or.inl (hw _ (List.mem_of_getElem? (i := 43) rfl))) Via.refl e37 S_wQ (g := (mkF m 78 #[.val (.ref a1), .val (.ref a2), .val (.int (0 : Int32))] [])) rfl (hb hby d4_78)
            refine hneg ?_
            obtain ⟨fs, hr, hrun, hended, hW, hsame⟩ := X41.leave (v := some (.ref wQ)) (fun h => by rw [Bd.returns] at h; cases h)
            refine ⟨_, _, pre38 _ ?_, hrun, hended, _, _, rfl, ?_, ⟨_, rfl⟩, hW, hsame.mono (by decide) (by decide)⟩
            · show Steps p.tables e below (T37.setTop (mkF m 51 #[.val (.ref a1), .val (.ref a2), .val (.int (0 : Int32))] [(.int (1 : Int32)), (.int (mx a2))])) _
              refine XS.icmpYes X37.here hx rfl (pc0 := 51) (pc' := 68) rfl (hb hby d4_51) rfl (flt hc51_39).2.2.2 (by decide) (by decide) ?_
              show Steps p.tables e below (T37.setTop (mkF m 68 #[.val (.ref a1), .val (.ref a2), .val (.int (0 : Int32))] [])) _
              refine XS.iloadN X37.here hx rfl (hb hby d4_68) rfl ?_
              show Steps p.tables e below (T37.setTop (mkF m 69 #[.val (.ref a1), .val (.ref a2), .val (.int (0 : Int32))] [(.int (0 : Int32))])) _
              refine XS.ifYes X37.here hx rfl (pc0 := 69) (pc' := 78) rfl (hb hby d4_69) rfl ((if0 _ _).trans (teq (by decide : (0 : Int32) = (0 : Int32))).1) (by decide) (by decide) ?_
              show Steps p.tables e below (T37.setTop (mkF m 78 #[.val (.ref a1), .val (.ref a2), .val (.int (0 : Int32))] [])) _
              refine st41 _ ?_
              show Steps p.tables e below (T41.setTop (mkF m 81 #[.val (.ref a1), .val (.ref a2), .val (.int (0 : Int32))] [(.ref wQ)])) _
              exact retOut X41 hx (t := (.object "com/example/stepwise/stepwise/model/Occurrence")) Bd.returns rfl (Or.inr (Or.inr (Or.inr (Or.inr ⟨rfl, rfl, rfl⟩)))) (hb hby d4_81) hr
            · show Q4 Z a1 a2 wZ wE wQ wS wP mn mx h0 n0 _ T41.heap _
              rw [e41]
              refine ⟨?_, N0, rfl⟩
              rw [show f4 a1 a2 wZ wE wQ wS wP mn mx = wQ from (by skip; simp only [f4, if_neg hc4_3, if_neg hc11_7, if_neg hc22_11, if_neg hc43_35, if_neg hc51_39])]

theorem d5_0 : decode method_3_code 0 = .ok (.iload_n 0, 1) := by decide +kernel
theorem d5_1 : decode method_3_code 1 = .ok (.i2l, 1) := by decide +kernel
theorem d5_2 : decode method_3_code 2 = .ok (.iload_n 1, 1) := by decide +kernel
theorem d5_3 : decode method_3_code 3 = .ok (.i2l, 1) := by decide +kernel
theorem d5_4 : decode method_3_code 4 = .ok (.lmul, 1) := by decide +kernel
theorem d5_5 : decode method_3_code 5 = .ok (.lstore_n 2, 1) := by decide +kernel
theorem d5_6 : decode method_3_code 6 = .ok (.lload_n 2, 1) := by decide +kernel
theorem d5_7 : decode method_3_code 7 = .ok (.ldc2_w 28, 3) := by decide +kernel
theorem d5_10 : decode method_3_code 10 = .ok (.lcmp, 1) := by decide +kernel
theorem d5_11 : decode method_3_code 11 = .ok (.ifCond .le 6, 3) := by decide +kernel
theorem d5_14 : decode method_3_code 14 = .ok (.ldc 7, 2) := by decide +kernel
theorem d5_16 : decode method_3_code 16 = .ok (.ireturn, 1) := by decide +kernel
theorem d5_17 : decode method_3_code 17 = .ok (.lload_n 2, 1) := by decide +kernel
theorem d5_18 : decode method_3_code 18 = .ok (.l2i, 1) := by decide +kernel
theorem d5_19 : decode method_3_code 19 = .ok (.ireturn, 1) := by decide +kernel
theorem pn_5 : plainName "com/example/stepwise/stepwise/model/OccurrenceTimesPinLaw" = true := by first | (simp [plainName, overriddenIn]; done) | decide +kernel
theorem ef_5 (m : MethodId) (p1 : Int32) (p2 : Int32) : entryFrame m #[(.int p1), (.int p2)] 4 = mkF m 0 #[.val (.int p1), .val (.int p2), .unset, .unset] [] := by first | (simp [entryFrame, mkF, argsToLocals, Value.category]; done) | rfl
def f5 (p1 : Int32) (p2 : Int32) : Int32 := (if (0 : Int32) < (lcmpW ((p1.toInt64) * (p2.toInt64)) (2147483647 : Int64)) then (2147483647 : Int32) else (((p1.toInt64) * (p2.toInt64)).toInt32))
def Q5 (Z : State) (p1 : Int32) (p2 : Int32) (h0 : Heap) (n0 : Nat) (v : Option Value) (h : Heap) (L : List Loc) : Prop := v = some (.int (f5 p1 p2)) ∧ Fr n0 L ∧ h = h0
set_option maxRecDepth 65536 in
set_option maxHeartbeats 40000000 in
theorem rm5 (l : Launch) (Z : State) (a0 : Array Value) (hw : ∀ d ∈ tables_1, d.before a0 Z = true) (ws : List Jvm.Cond) (p1 : Int32) (p2 : Int32) (h0 : Heap) (n0 : Nat)  :
    MetFree l (⟨"com/example/stepwise/stepwise/model/OccurrenceTimesPinLaw", "saturatingProduct", "(II)I"⟩ : MethodName) (head1 (Jvm.Cond.code (⟨"com/example/stepwise/stepwise/model/OccurrenceTimesPinLaw", "saturatingProduct", "(II)I"⟩ : MethodName) method_3_code 4 (some .int) :: ws) ({ frames := 0, cells := 0, slots := 0, locals := 0 } : Room)) (fun a U => a = #[(.int p1), (.int p2)] ∧ Z.Warmed39 U.vm ∧ U.heap = h0) (fun _ _ _ _ _ => True) (fun _ U o U' => ∃ v L, o = .returned v ∧ Q5 Z p1 p2 h0 n0 v U'.heap L ∧ FrameEnd U o U' L ({ frames := 0, cells := 0, slots := 0, locals := 0 } : Room).cells ({ frames := 0, cells := 0, slots := 0, locals := 0 } : Room).slots) := by
  refine MetFree.of_bodySF (plainFor_of_name pn_5) hisR ?_
  intro p e s m args below meth c s₁ Bd hml0 hP hK
  obtain ⟨rfl, hZ, hh⟩ := hP
  have hx := Bd.exec
  have hby := Bd.bytes
  have hml : c.maxLocals = 4 := hml0
  have hown : s.vm.findClass "com/example/stepwise/stepwise/model/OccurrenceTimesPinLaw" = some m.cls := findClass_of_methodNamed Bd.named
  have hnm := (name_of_methodNamed Bd.named Bd.method).1
  have X0 : Stand p l e ({ frames := 0, cells := 0, slots := 0, locals := 0 } : Room) s m #[(.int p1), (.int p2)] below meth c s₁ [] 0 0 := Stand.of_body Bd
  have e0 : s₁.heap = h0 := by rw [← hh, Bd.state]; rfl
  have N0 := Fr.nil n0
  have pre0 : ∀ t, Steps p.tables e below (s₁.setTop (mkF m 0 #[.val (.int p1), .val (.int p2), .unset, .unset] [])) t → Steps p.tables e below (s₁.setTop (entryFrame m #[(.int p1), (.int p2)] 4)) t := fun t k => castTop (ef_5 m p1 p2) k
  refine Classical.byContradiction fun hneg => ?_
  have pre1 : ∀ t, Steps p.tables e below (s₁.setTop (mkF m 11 #[.val (.int p1), .val (.int p2), .val (.long ((p1.toInt64) * (p2.toInt64))), .second] [(.int (lcmpW ((p1.toInt64) * (p2.toInt64)) (2147483647 : Int64)))])) t → Steps p.tables e below (s₁.setTop (entryFrame m #[(.int p1), (.int p2)] 4)) t := by
    intro t k
    refine pre0 t ?_
    show Steps p.tables e below (s₁.setTop (mkF m 0 #[.val (.int p1), .val (.int p2), .unset, .unset] [])) _
    refine XS.iloadN X0.here hx rfl (hb hby d5_0) rfl ?_
    show Steps p.tables e below (s₁.setTop (mkF m 1 #[.val (.int p1), .val (.int p2), .unset, .unset] [(.int p1)])) _
    refine XS.i2l X0.here hx rfl (hb hby d5_1) rfl ?_
    show Steps p.tables e below (s₁.setTop (mkF m 2 #[.val (.int p1), .val (.int p2), .unset, .unset] [(.long (p1.toInt64))])) _
    refine XS.iloadN X0.here hx rfl (hb hby d5_2) rfl ?_
    show Steps p.tables e below (s₁.setTop (mkF m 3 #[.val (.int p1), .val (.int p2), .unset, .unset] [(.int p2), (.long (p1.toInt64))])) _
    refine XS.i2l X0.here hx rfl (hb hby d5_3) rfl ?_
    show Steps p.tables e below (s₁.setTop (mkF m 4 #[.val (.int p1), .val (.int p2), .unset, .unset] [(.long (p2.toInt64)), (.long (p1.toInt64))])) _
    refine XS.lmul X0.here hx rfl (hb hby d5_4) rfl ?_
    show Steps p.tables e below (s₁.setTop (mkF m 5 #[.val (.int p1), .val (.int p2), .unset, .unset] [(.long ((p1.toInt64) * (p2.toInt64)))])) _
    refine XS.lstoreN X0.here hx rfl (hb hby d5_5) rfl (l' := #[.val (.int p1), .val (.int p2), .val (.long ((p1.toInt64) * (p2.toInt64))), .second]) rfl ?_
    show Steps p.tables e below (s₁.setTop (mkF m 6 #[.val (.int p1), .val (.int p2), .val (.long ((p1.toInt64) * (p2.toInt64))), .second] [])) _
    refine XS.lloadN X0.here hx rfl (hb hby d5_6) rfl ?_
    show Steps p.tables e below (s₁.setTop (mkF m 7 #[.val (.int p1), .val (.int p2), .val (.long ((p1.toInt64) * (p2.toInt64))), .second] [(.long ((p1.toInt64) * (p2.toInt64)))])) _
    refine X0.ldc2Long hx hown (mvT hZ (hw _ (List.mem_of_getElem? (i := 33) rfl))) (g := (mkF m 7 #[.val (.int p1), .val (.int p2), .val (.long ((p1.toInt64) * (p2.toInt64))), .second] [(.long ((p1.toInt64) * (p2.toInt64)))])) rfl (hb hby d5_7) _ ?_
    show Steps p.tables e below (s₁.setTop (mkF m 10 #[.val (.int p1), .val (.int p2), .val (.long ((p1.toInt64) * (p2.toInt64))), .second] [(.long (2147483647 : Int64)), (.long ((p1.toInt64) * (p2.toInt64)))])) _
    refine XS.lcmp X0.here hx rfl (hb hby d5_10) rfl ?_
    exact k
  by_cases hc11_2 : (0 : Int32) < (lcmpW ((p1.toInt64) * (p2.toInt64)) (2147483647 : Int64))
  · refine hneg ?_
    obtain ⟨fs, hr, hrun, hended, hW, hsame⟩ := X0.leave (v := some (.int (2147483647 : Int32))) (fun h => by rw [Bd.returns] at h; cases h)
    refine ⟨_, _, pre1 _ ?_, hrun, hended, _, _, rfl, ?_, ⟨_, rfl⟩, hW, hsame.mono (by decide) (by decide)⟩
    · show Steps p.tables e below (s₁.setTop (mkF m 11 #[.val (.int p1), .val (.int p2), .val (.long ((p1.toInt64) * (p2.toInt64))), .second] [(.int (lcmpW ((p1.toInt64) * (p2.toInt64)) (2147483647 : Int64)))])) _
      refine XS.ifNo X0.here hx rfl (hb hby d5_11) rfl ((if0 _ _).trans (tlt hc11_2).2.2.2) ?_
      show Steps p.tables e below (s₁.setTop (mkF m 14 #[.val (.int p1), .val (.int p2), .val (.long ((p1.toInt64) * (p2.toInt64))), .second] [])) _
      refine X0.ldcInt hx hown (mvT hZ (hw _ (List.mem_of_getElem? (i := 4) rfl))) (g := (mkF m 14 #[.val (.int p1), .val (.int p2), .val (.long ((p1.toInt64) * (p2.toInt64))), .second] [])) rfl (hb hby d5_14) _ ?_
      show Steps p.tables e below (s₁.setTop (mkF m 16 #[.val (.int p1), .val (.int p2), .val (.long ((p1.toInt64) * (p2.toInt64))), .second] [(.int (2147483647 : Int32))])) _
      exact retI X0 hx Bd.returns (hb hby d5_16) hr
    · show Q5 Z p1 p2 h0 n0 _ s₁.heap _
      rw [e0]
      refine ⟨?_, N0, rfl⟩
      rw [show f5 p1 p2 = (2147483647 : Int32) from (by skip; simp only [f5, if_pos hc11_2])]
  · refine hneg ?_
    obtain ⟨fs, hr, hrun, hended, hW, hsame⟩ := X0.leave (v := some (.int (((p1.toInt64) * (p2.toInt64)).toInt32))) (fun h => by rw [Bd.returns] at h; cases h)
    refine ⟨_, _, pre1 _ ?_, hrun, hended, _, _, rfl, ?_, ⟨_, rfl⟩, hW, hsame.mono (by decide) (by decide)⟩
    · show Steps p.tables e below (s₁.setTop (mkF m 11 #[.val (.int p1), .val (.int p2), .val (.long ((p1.toInt64) * (p2.toInt64))), .second] [(.int (lcmpW ((p1.toInt64) * (p2.toInt64)) (2147483647 : Int64)))])) _
      refine XS.ifYes X0.here hx rfl (pc0 := 11) (pc' := 17) rfl (hb hby d5_11) rfl ((if0 _ _).trans (flt hc11_2).2.2.2) (by decide) (by decide) ?_
      show Steps p.tables e below (s₁.setTop (mkF m 17 #[.val (.int p1), .val (.int p2), .val (.long ((p1.toInt64) * (p2.toInt64))), .second] [])) _
      refine XS.lloadN X0.here hx rfl (hb hby d5_17) rfl ?_
      show Steps p.tables e below (s₁.setTop (mkF m 18 #[.val (.int p1), .val (.int p2), .val (.long ((p1.toInt64) * (p2.toInt64))), .second] [(.long ((p1.toInt64) * (p2.toInt64)))])) _
      refine XS.l2i X0.here hx rfl (hb hby d5_18) rfl ?_
      show Steps p.tables e below (s₁.setTop (mkF m 19 #[.val (.int p1), .val (.int p2), .val (.long ((p1.toInt64) * (p2.toInt64))), .second] [(.int (((p1.toInt64) * (p2.toInt64)).toInt32))])) _
      exact retI X0 hx Bd.returns (hb hby d5_19) hr
    · show Q5 Z p1 p2 h0 n0 _ s₁.heap _
      rw [e0]
      refine ⟨?_, N0, rfl⟩
      rw [show f5 p1 p2 = (((p1.toInt64) * (p2.toInt64)).toInt32) from (by skip; simp only [f5, if_neg hc11_2])]
def Oc (wZ wE wQ wS wP a : Addr) : Prop := a = wZ ∨ a = wE ∨ a = wQ ∨ a = wS ∨ a = wP
theorem own_oc1 (p1 : Int32) (wZ wE wQ wS wP : Addr) : Oc wZ wE wQ wS wP (f1 p1 wZ wE wQ wS wP) := by
  unfold f1 Oc
  repeat' split
  all_goals simp
theorem own_oc4 (a1 a2 wZ wE wQ wS wP : Addr) (mn mx : Addr → Int32) : Oc wZ wE wQ wS wP (f4 a1 a2 wZ wE wQ wS wP mn mx) := by
  unfold f4 Oc
  repeat' split
  all_goals simp
theorem pn_0 : plainName "com/example/stepwise/stepwise/model/OccurrenceTimesPinLaw" = true := by first | (simp [plainName, overriddenIn]; done) | decide +kernel
theorem ef_0 (m : MethodId) (p1 : Int32) (p2 : Int32) : entryFrame m #[(.int p1), (.int p2)] maxLocals = mkF m 0 #[.val (.int p1), .val (.int p2), .unset, .unset, .unset, .unset, .unset, .unset, .unset, .unset, .unset] [] := by first | (simp [entryFrame, mkF, argsToLocals, Value.category, maxLocals]; done) | rfl
def f0 (p1 : Int32) (p2 : Int32) (wZ : Addr) (wE : Addr) (wQ : Addr) (wS : Addr) (wP : Addr) (mn : Addr → Int32) (mx : Addr → Int32) : Int32 := (if (f2 (f4 (f1 p1 wZ wE wQ wS wP) (f1 p2 wZ wE wQ wS wP) wZ wE wQ wS wP mn mx) (mn (f4 (f1 p1 wZ wE wQ wS wP) (f1 p2 wZ wE wQ wS wP) wZ wE wQ wS wP mn mx))) = (f5 (f2 (f1 p1 wZ wE wQ wS wP) (mn (f1 p1 wZ wE wQ wS wP))) (f2 (f1 p2 wZ wE wQ wS wP) (mn (f1 p2 wZ wE wQ wS wP)))) then (if (f3 (f4 (f1 p1 wZ wE wQ wS wP) (f1 p2 wZ wE wQ wS wP) wZ wE wQ wS wP mn mx) (mx (f4 (f1 p1 wZ wE wQ wS wP) (f1 p2 wZ wE wQ wS wP) wZ wE wQ wS wP mn mx))) = (f5 (f3 (f1 p1 wZ wE wQ wS wP) (mx (f1 p1 wZ wE wQ wS wP))) (f3 (f1 p2 wZ wE wQ wS wP) (mx (f1 p2 wZ wE wQ wS wP)))) then (1 : Int32) else (0 : Int32)) else (0 : Int32))
def Q0 (Z : State) (p1 : Int32) (p2 : Int32) (wZ : Addr) (wE : Addr) (wQ : Addr) (wS : Addr) (wP : Addr) (mn : Addr → Int32) (mx : Addr → Int32) (h0 : Heap) (n0 : Nat) (v : Option Value) (h : Heap) (L : List Loc) : Prop := v = some (.int (f0 p1 p2 wZ wE wQ wS wP mn mx)) ∧ Fr n0 L ∧ h = h0
set_option maxRecDepth 65536 in
set_option maxHeartbeats 40000000 in
theorem rm0 (l : Launch) (Z : State) (a0 : Array Value) (hw : ∀ d ∈ tables_1, d.before a0 Z = true) (ws : List Jvm.Cond) (p1 : Int32) (p2 : Int32) (h0 : Heap) (n0 : Nat) (wZ : Addr) (wE : Addr) (wQ : Addr) (wS : Addr) (wP : Addr) (mn : Addr → Int32) (mx : Addr → Int32) (S_wZ : Sta Z h0 "com/example/stepwise/stepwise/model/Occurrence" "ZERO" "Lcom/example/stepwise/stepwise/model/Occurrence;" (.ref wZ)) (S_wE : Sta Z h0 "com/example/stepwise/stepwise/model/Occurrence" "EXACTLY_ONE" "Lcom/example/stepwise/stepwise/model/Occurrence;" (.ref wE)) (S_wQ : Sta Z h0 "com/example/stepwise/stepwise/model/Occurrence" "ZERO_OR_ONE" "Lcom/example/stepwise/stepwise/model/Occurrence;" (.ref wQ)) (S_wS : Sta Z h0 "com/example/stepwise/stepwise/model/Occurrence" "ZERO_OR_MORE" "Lcom/example/stepwise/stepwise/model/Occurrence;" (.ref wS)) (S_wP : Sta Z h0 "com/example/stepwise/stepwise/model/Occurrence" "ONE_OR_MORE" "Lcom/example/stepwise/stepwise/model/Occurrence;" (.ref wP)) (Fmn : ∀ a, Oc wZ wE wQ wS wP a → Fld Z h0 a "com/example/stepwise/stepwise/model/Occurrence" "min" "I" (.int (mn a))) (Fmx : ∀ a, Oc wZ wE wQ wS wP a → Fld Z h0 a "com/example/stepwise/stepwise/model/Occurrence" "max" "I" (.int (mx a))) (Ex : ∀ a, Oc wZ wE wQ wS wP a → Exa Z h0 a "com/example/stepwise/stepwise/model/Occurrence") :
    MetFree l x (head1 (Jvm.Cond.code x code maxLocals ret :: ws) room_1) (fun a U => a = #[(.int p1), (.int p2)] ∧ Z.Warmed39 U.vm ∧ U.heap = h0) (fun _ _ _ _ _ => True) (fun _ U o U' => ∃ v L, o = .returned v ∧ Q0 Z p1 p2 wZ wE wQ wS wP mn mx h0 n0 v U'.heap L ∧ FrameEnd U o U' L room_1.cells room_1.slots) := by
  refine MetFree.of_bodySF (plainFor_of_name pn_0) hisR ?_
  intro p e s m args below meth c s₁ Bd hml0 hP hK
  obtain ⟨rfl, hZ, hh⟩ := hP
  have hx := Bd.exec
  have hby := Bd.bytes
  have hml : c.maxLocals = 11 := hml0
  have hown : s.vm.findClass "com/example/stepwise/stepwise/model/OccurrenceTimesPinLaw" = some m.cls := findClass_of_methodNamed Bd.named
  have hnm := (name_of_methodNamed Bd.named Bd.method).1
  have X0 : Stand p l e room_1 s m #[(.int p1), (.int p2)] below meth c s₁ [] 0 0 := Stand.of_body Bd
  have e0 : s₁.heap = h0 := by rw [← hh, Bd.state]; rfl
  have N0 := Fr.nil n0
  have pre0 : ∀ t, Steps p.tables e below (s₁.setTop (mkF m 0 #[.val (.int p1), .val (.int p2), .unset, .unset, .unset, .unset, .unset, .unset, .unset, .unset, .unset] [])) t → Steps p.tables e below (s₁.setTop (entryFrame m #[(.int p1), (.int p2)] maxLocals)) t := fun t k => castTop (ef_0 m p1 p2) k
  refine Classical.byContradiction fun hneg => ?_
  obtain ⟨_, _, ⟨T1, L1, k1, n1⟩, -, X1, ⟨Lc1, hQ1, l1, y1, z1⟩, st1⟩ := Jvm.LawKit.callS X0 hx (y := (⟨"com/example/stepwise/stepwise/model/OccurrenceTimesPinLaw", "pick", "(I)Lcom/example/stepwise/stepwise/model/Occurrence;"⟩ : MethodName)) hown (mvT hZ (hw _ (List.mem_of_getElem? (i := 0) rfl))) (mvT hZ (hw _ (List.mem_of_getElem? (i := 1) rfl))) (mvT hZ (hw _ (List.mem_of_getElem? (i := 2) rfl))) (mvT hZ (hw _ (List.mem_of_getElem? (i := 3) rfl))) (by decide) (backOf (W := 0) (rm1 l Z a0 hw [] p1  h0 n0 wZ wE wQ wS wP S_wZ S_wE S_wQ S_wS S_wP) hZ (hw _ (List.mem_of_getElem? (i := 3) rfl)) (hw _ (List.mem_of_getElem? (i := 2) rfl)) (by decide) (by decide)) (g := (mkF m 1 #[.val (.int p1), .val (.int p2), .unset, .unset, .unset, .unset, .unset, .unset, .unset, .unset, .unset] [(.int p1)])) rfl (by rw [hml]; rfl) (argsL := [(.int p1)]) (rest := []) (lenOf pd0 rfl) rfl (by show 2 * 0 + _ ≤ _; exact Nat.le_of_eq rfl) (hb hby at_1) (fun _ _ => ⟨rfl, e0, (by decide : 0 + 0 ≤ _), (by decide : 0 + 0 ≤ _)⟩)
  dsimp only [Pt.U, Pt.locs, Pt.cells, Pt.slots] at X1 l1 y1 z1 st1 hQ1
  subst l1 y1 z1
  obtain ⟨rfl, N1q, e1⟩ := hQ1
  have N1 := Fr.app N0 N1q
  obtain ⟨_, _, ⟨T2, L2, k2, n2⟩, -, X2, ⟨Lc2, hQ2, l2, y2, z2⟩, st2⟩ := Jvm.LawKit.callS X1 hx (y := (⟨"com/example/stepwise/stepwise/model/OccurrenceTimesPinLaw", "pick", "(I)Lcom/example/stepwise/stepwise/model/Occurrence;"⟩ : MethodName)) hown (mvT hZ (hw _ (List.mem_of_getElem? (i := 0) rfl))) (mvT hZ (hw _ (List.mem_of_getElem? (i := 1) rfl))) (mvT hZ (hw _ (List.mem_of_getElem? (i := 2) rfl))) (mvT hZ (hw _ (List.mem_of_getElem? (i := 3) rfl))) (by decide) (backOf (W := 0) (rm1 l Z a0 hw [] p2  h0 n0 wZ wE wQ wS wP S_wZ S_wE S_wQ S_wS S_wP) hZ (hw _ (List.mem_of_getElem? (i := 3) rfl)) (hw _ (List.mem_of_getElem? (i := 2) rfl)) (by decide) (by decide)) (g := (mkF m 6 #[.val (.int p1), .val (.int p2), .val (.ref (f1 p1 wZ wE wQ wS wP)), .unset, .unset, .unset, .unset, .unset, .unset, .unset, .unset] [(.int p2)])) rfl (by rw [hml]; rfl) (argsL := [(.int p2)]) (rest := []) (lenOf pd0 rfl) rfl (by show 2 * 0 + _ ≤ _; exact Nat.le_of_eq rfl) (hb hby at_6) (fun _ _ => ⟨rfl, e1, (by decide : 0 + 0 ≤ _), (by decide : 0 + 0 ≤ _)⟩)
  dsimp only [Pt.U, Pt.locs, Pt.cells, Pt.slots] at X2 l2 y2 z2 st2 hQ2
  subst l2 y2 z2
  obtain ⟨rfl, N2q, e2⟩ := hQ2
  have N2 := Fr.app N1 N2q
  obtain ⟨cq3, kq3, q3a, q3b, q3c⟩ := isOf hZ e2 (Ex _ (own_oc1 _ _ _ _ _ _))
  obtain ⟨_, _, ⟨T3, L3, k3, n3⟩, -, X3, ⟨Lc3, hQ3, l3, y3, z3⟩, st3⟩ := X2.virtualBack hx (y := (⟨"com/example/stepwise/stepwise/model/Occurrence", "min", "()I"⟩ : MethodName)) (z := (⟨"com/example/stepwise/stepwise/model/Occurrence", "min", "()I"⟩ : MethodName)) hown (mvT hZ (hw _ (List.mem_of_getElem? (i := 10) rfl))) (mvT hZ (hw _ (List.mem_of_getElem? (i := 11) rfl))) (notFace_of_selects (args := #[]) (mvT hZ (hw _ (List.mem_of_getElem? (i := 13) rfl)))) (mvT hZ (hw _ (List.mem_of_getElem? (i := 13) rfl))) (mvT hZ (hw _ (List.mem_of_getElem? (i := 12) rfl))) (by decide) (backOf (W := 0) (rm2 l Z a0 hw [] (f1 p1 wZ wE wQ wS wP)  h0 n0 (mn (f1 p1 wZ wE wQ wS wP)) (Fmn _ (own_oc1 _ _ _ _ _ _))) hZ (hw _ (List.mem_of_getElem? (i := 14) rfl)) (hw _ (List.mem_of_getElem? (i := 6) rfl)) (by decide) (by decide)) q3a q3c (g := (mkF m 11 #[.val (.int p1), .val (.int p2), .val (.ref (f1 p1 wZ wE wQ wS wP)), .val (.ref (f1 p2 wZ wE wQ wS wP)), .unset, .unset, .unset, .unset, .unset, .unset, .unset] [(.ref (f1 p1 wZ wE wQ wS wP))])) rfl (by rw [hml]; rfl) (Steps.refl _) (argsL := []) (rest := []) (lenOf pd1 rfl) rfl (by show 2 * 0 + _ ≤ _; exact Nat.le_of_eq rfl) (hb hby at_11) (fun _ _ => ⟨rfl, e2, (by decide : 0 + 0 ≤ _), (by decide : 0 + 0 ≤ _)⟩)
  dsimp only [Pt.U, Pt.locs, Pt.cells, Pt.slots] at X3 l3 y3 z3 st3 hQ3
  subst l3 y3 z3
  obtain ⟨rfl, N3q, e3⟩ := hQ3
  have N3 := Fr.app N2 N3q
  obtain ⟨cq4, kq4, q4a, q4b, q4c⟩ := isOf hZ e3 (Ex _ (own_oc1 _ _ _ _ _ _))
  obtain ⟨_, _, ⟨T4, L4, k4, n4⟩, -, X4, ⟨Lc4, hQ4, l4, y4, z4⟩, st4⟩ := X3.virtualBack hx (y := (⟨"com/example/stepwise/stepwise/model/Occurrence", "max", "()I"⟩ : MethodName)) (z := (⟨"com/example/stepwise/stepwise/model/Occurrence", "max", "()I"⟩ : MethodName)) hown (mvT hZ (hw _ (List.mem_of_getElem? (i := 17) rfl))) (mvT hZ (hw _ (List.mem_of_getElem? (i := 18) rfl))) (notFace_of_selects (args := #[]) (mvT hZ (hw _ (List.mem_of_getElem? (i := 20) rfl)))) (mvT hZ (hw _ (List.mem_of_getElem? (i := 20) rfl))) (mvT hZ (hw _ (List.mem_of_getElem? (i := 19) rfl))) (by decide) (backOf (W := 0) (rm3 l Z a0 hw [] (f1 p1 wZ wE wQ wS wP)  h0 n0 (mx (f1 p1 wZ wE wQ wS wP)) (Fmx _ (own_oc1 _ _ _ _ _ _))) hZ (hw _ (List.mem_of_getElem? (i := 21) rfl)) (hw _ (List.mem_of_getElem? (i := 6) rfl)) (by decide) (by decide)) q4a q4c (g := (mkF m 17 #[.val (.int p1), .val (.int p2), .val (.ref (f1 p1 wZ wE wQ wS wP)), .val (.ref (f1 p2 wZ wE wQ wS wP)), .val (.int (f2 (f1 p1 wZ wE wQ wS wP) (mn (f1 p1 wZ wE wQ wS wP)))), .unset, .unset, .unset, .unset, .unset, .unset] [(.ref (f1 p1 wZ wE wQ wS wP))])) rfl (by rw [hml]; rfl) (Steps.refl _) (argsL := []) (rest := []) (lenOf pd1 rfl) rfl (by show 2 * 0 + _ ≤ _; exact Nat.le_of_eq rfl) (hb hby at_17) (fun _ _ => ⟨rfl, e3, (by decide : 0 + 0 ≤ _), (by decide : 0 + 0 ≤ _)⟩)
  dsimp only [Pt.U, Pt.locs, Pt.cells, Pt.slots] at X4 l4 y4 z4 st4 hQ4
  subst l4 y4 z4
  obtain ⟨rfl, N4q, e4⟩ := hQ4
  have N4 := Fr.app N3 N4q
  obtain ⟨cq5, kq5, q5a, q5b, q5c⟩ := isOf hZ e4 (Ex _ (own_oc1 _ _ _ _ _ _))
  obtain ⟨_, _, ⟨T5, L5, k5, n5⟩, -, X5, ⟨Lc5, hQ5, l5, y5, z5⟩, st5⟩ := X4.virtualBack hx (y := (⟨"com/example/stepwise/stepwise/model/Occurrence", "min", "()I"⟩ : MethodName)) (z := (⟨"com/example/stepwise/stepwise/model/Occurrence", "min", "()I"⟩ : MethodName)) hown (mvT hZ (hw _ (List.mem_of_getElem? (i := 10) rfl))) (mvT hZ (hw _ (List.mem_of_getElem? (i := 11) rfl))) (notFace_of_selects (args := #[]) (mvT hZ (hw _ (List.mem_of_getElem? (i := 13) rfl)))) (mvT hZ (hw _ (List.mem_of_getElem? (i := 13) rfl))) (mvT hZ (hw _ (List.mem_of_getElem? (i := 12) rfl))) (by decide) (backOf (W := 0) (rm2 l Z a0 hw [] (f1 p2 wZ wE wQ wS wP)  h0 n0 (mn (f1 p2 wZ wE wQ wS wP)) (Fmn _ (own_oc1 _ _ _ _ _ _))) hZ (hw _ (List.mem_of_getElem? (i := 14) rfl)) (hw _ (List.mem_of_getElem? (i := 6) rfl)) (by decide) (by decide)) q5a q5c (g := (mkF m 23 #[.val (.int p1), .val (.int p2), .val (.ref (f1 p1 wZ wE wQ wS wP)), .val (.ref (f1 p2 wZ wE wQ wS wP)), .val (.int (f2 (f1 p1 wZ wE wQ wS wP) (mn (f1 p1 wZ wE wQ wS wP)))), .val (.int (f3 (f1 p1 wZ wE wQ wS wP) (mx (f1 p1 wZ wE wQ wS wP)))), .unset, .unset, .unset, .unset, .unset] [(.ref (f1 p2 wZ wE wQ wS wP))])) rfl (by rw [hml]; rfl) (Steps.refl _) (argsL := []) (rest := []) (lenOf pd1 rfl) rfl (by show 2 * 0 + _ ≤ _; exact Nat.le_of_eq rfl) (hb hby at_23) (fun _ _ => ⟨rfl, e4, (by decide : 0 + 0 ≤ _), (by decide : 0 + 0 ≤ _)⟩)
  dsimp only [Pt.U, Pt.locs, Pt.cells, Pt.slots] at X5 l5 y5 z5 st5 hQ5
  subst l5 y5 z5
  obtain ⟨rfl, N5q, e5⟩ := hQ5
  have N5 := Fr.app N4 N5q
  obtain ⟨cq6, kq6, q6a, q6b, q6c⟩ := isOf hZ e5 (Ex _ (own_oc1 _ _ _ _ _ _))
  obtain ⟨_, _, ⟨T6, L6, k6, n6⟩, -, X6, ⟨Lc6, hQ6, l6, y6, z6⟩, st6⟩ := X5.virtualBack hx (y := (⟨"com/example/stepwise/stepwise/model/Occurrence", "max", "()I"⟩ : MethodName)) (z := (⟨"com/example/stepwise/stepwise/model/Occurrence", "max", "()I"⟩ : MethodName)) hown (mvT hZ (hw _ (List.mem_of_getElem? (i := 17) rfl))) (mvT hZ (hw _ (List.mem_of_getElem? (i := 18) rfl))) (notFace_of_selects (args := #[]) (mvT hZ (hw _ (List.mem_of_getElem? (i := 20) rfl)))) (mvT hZ (hw _ (List.mem_of_getElem? (i := 20) rfl))) (mvT hZ (hw _ (List.mem_of_getElem? (i := 19) rfl))) (by decide) (backOf (W := 0) (rm3 l Z a0 hw [] (f1 p2 wZ wE wQ wS wP)  h0 n0 (mx (f1 p2 wZ wE wQ wS wP)) (Fmx _ (own_oc1 _ _ _ _ _ _))) hZ (hw _ (List.mem_of_getElem? (i := 21) rfl)) (hw _ (List.mem_of_getElem? (i := 6) rfl)) (by decide) (by decide)) q6a q6c (g := (mkF m 29 #[.val (.int p1), .val (.int p2), .val (.ref (f1 p1 wZ wE wQ wS wP)), .val (.ref (f1 p2 wZ wE wQ wS wP)), .val (.int (f2 (f1 p1 wZ wE wQ wS wP) (mn (f1 p1 wZ wE wQ wS wP)))), .val (.int (f3 (f1 p1 wZ wE wQ wS wP) (mx (f1 p1 wZ wE wQ wS wP)))), .val (.int (f2 (f1 p2 wZ wE wQ wS wP) (mn (f1 p2 wZ wE wQ wS wP)))), .unset, .unset, .unset, .unset] [(.ref (f1 p2 wZ wE wQ wS wP))])) rfl (by rw [hml]; rfl) (Steps.refl _) (argsL := []) (rest := []) (lenOf pd1 rfl) rfl (by show 2 * 0 + _ ≤ _; exact Nat.le_of_eq rfl) (hb hby at_29) (fun _ _ => ⟨rfl, e5, (by decide : 0 + 0 ≤ _), (by decide : 0 + 0 ≤ _)⟩)
  dsimp only [Pt.U, Pt.locs, Pt.cells, Pt.slots] at X6 l6 y6 z6 st6 hQ6
  subst l6 y6 z6
  obtain ⟨rfl, N6q, e6⟩ := hQ6
  have N6 := Fr.app N5 N6q
  obtain ⟨cq7, kq7, q7a, q7b, q7c⟩ := isOf hZ e6 (Ex _ (own_oc1 _ _ _ _ _ _))
  obtain ⟨_, _, ⟨T7, L7, k7, n7⟩, -, X7, ⟨Lc7, hQ7, l7, y7, z7⟩, st7⟩ := X6.virtualBack hx (y := (⟨"com/example/stepwise/stepwise/model/Occurrence", "times", "(Lcom/example/stepwise/stepwise/model/Occurrence;)Lcom/example/stepwise/stepwise/model/Occurrence;"⟩ : MethodName)) (z := (⟨"com/example/stepwise/stepwise/model/Occurrence", "times", "(Lcom/example/stepwise/stepwise/model/Occurrence;)Lcom/example/stepwise/stepwise/model/Occurrence;"⟩ : MethodName)) hown (mvT hZ (hw _ (List.mem_of_getElem? (i := 24) rfl))) (mvT hZ (hw _ (List.mem_of_getElem? (i := 25) rfl))) (notFace_of_selects (args := #[]) (mvT hZ (hw _ (List.mem_of_getElem? (i := 27) rfl)))) (mvT hZ (hw _ (List.mem_of_getElem? (i := 27) rfl))) (mvT hZ (hw _ (List.mem_of_getElem? (i := 26) rfl))) (by decide) (backOf (W := 0) (rm4 l Z a0 hw [] (f1 p1 wZ wE wQ wS wP) (f1 p2 wZ wE wQ wS wP)  h0 n0 wZ wE wQ wS wP mn mx S_wZ S_wE S_wQ S_wS S_wP (Fmn _ (own_oc1 _ _ _ _ _ _)) (Fmx _ (own_oc1 _ _ _ _ _ _)) (Fmn _ (own_oc1 _ _ _ _ _ _)) (Fmx _ (own_oc1 _ _ _ _ _ _))) hZ (hw _ (List.mem_of_getElem? (i := 28) rfl)) (hw _ (List.mem_of_getElem? (i := 6) rfl)) (by decide) (by decide)) q7a q7c (g := (mkF m 36 #[.val (.int p1), .val (.int p2), .val (.ref (f1 p1 wZ wE wQ wS wP)), .val (.ref (f1 p2 wZ wE wQ wS wP)), .val (.int (f2 (f1 p1 wZ wE wQ wS wP) (mn (f1 p1 wZ wE wQ wS wP)))), .val (.int (f3 (f1 p1 wZ wE wQ wS wP) (mx (f1 p1 wZ wE wQ wS wP)))), .val (.int (f2 (f1 p2 wZ wE wQ wS wP) (mn (f1 p2 wZ wE wQ wS wP)))), .val (.int (f3 (f1 p2 wZ wE wQ wS wP) (mx (f1 p2 wZ wE wQ wS wP)))), .unset, .unset, .unset] [(.ref (f1 p2 wZ wE wQ wS wP)), (.ref (f1 p1 wZ wE wQ wS wP))])) rfl (by rw [hml]; rfl) (Steps.refl _) (argsL := [(.ref (f1 p2 wZ wE wQ wS wP))]) (rest := []) (lenOf pd2 rfl) rfl (by show 2 * 0 + _ ≤ _; exact Nat.le_of_eq rfl) (hb hby at_36) (fun _ _ => ⟨rfl, e6, (by decide : 0 + 0 ≤ _), (by decide : 0 + 0 ≤ _)⟩)
  dsimp only [Pt.U, Pt.locs, Pt.cells, Pt.slots] at X7 l7 y7 z7 st7 hQ7
  subst l7 y7 z7
  obtain ⟨rfl, N7q, e7⟩ := hQ7
  have N7 := Fr.app N6 N7q
  obtain ⟨_, _, ⟨T8, L8, k8, n8⟩, -, X8, ⟨Lc8, hQ8, l8, y8, z8⟩, st8⟩ := Jvm.LawKit.callS X7 hx (y := (⟨"com/example/stepwise/stepwise/model/OccurrenceTimesPinLaw", "saturatingProduct", "(II)I"⟩ : MethodName)) hown (mvT hZ (hw _ (List.mem_of_getElem? (i := 30) rfl))) (mvT hZ (hw _ (List.mem_of_getElem? (i := 31) rfl))) (mvT hZ (hw _ (List.mem_of_getElem? (i := 2) rfl))) (mvT hZ (hw _ (List.mem_of_getElem? (i := 32) rfl))) (by decide) (backOf (W := 0) (rm5 l Z a0 hw [] (f2 (f1 p1 wZ wE wQ wS wP) (mn (f1 p1 wZ wE wQ wS wP))) (f2 (f1 p2 wZ wE wQ wS wP) (mn (f1 p2 wZ wE wQ wS wP)))  h0 n0  ) hZ (hw _ (List.mem_of_getElem? (i := 32) rfl)) (hw _ (List.mem_of_getElem? (i := 2) rfl)) (by decide) (by decide)) (g := (mkF m 52 #[.val (.int p1), .val (.int p2), .val (.ref (f1 p1 wZ wE wQ wS wP)), .val (.ref (f1 p2 wZ wE wQ wS wP)), .val (.int (f2 (f1 p1 wZ wE wQ wS wP) (mn (f1 p1 wZ wE wQ wS wP)))), .val (.int (f3 (f1 p1 wZ wE wQ wS wP) (mx (f1 p1 wZ wE wQ wS wP)))), .val (.int (f2 (f1 p2 wZ wE wQ wS wP) (mn (f1 p2 wZ wE wQ wS wP)))), .val (.int (f3 (f1 p2 wZ wE wQ wS wP) (mx (f1 p2 wZ wE wQ wS wP)))), .val (.ref (f4 (f1 p1 wZ wE wQ wS wP) (f1 p2 wZ wE wQ wS wP) wZ wE wQ wS wP mn mx)), .unset, .unset] [(.int (f2 (f1 p2 wZ wE wQ wS wP) (mn (f1 p2 wZ wE wQ wS wP)))), (.int (f2 (f1 p1 wZ wE wQ wS wP) (mn (f1 p1 wZ wE wQ wS wP))))])) rfl (by rw [hml]; rfl) (argsL := [(.int (f2 (f1 p1 wZ wE wQ wS wP) (mn (f1 p1 wZ wE wQ wS wP)))), (.int (f2 (f1 p2 wZ wE wQ wS wP) (mn (f1 p2 wZ wE wQ wS wP))))]) (rest := []) (lenOf pd3 rfl) rfl (by show 2 * 0 + _ ≤ _; exact Nat.le_of_eq rfl) (hb hby at_52) (fun _ _ => ⟨rfl, e7, (by decide : 0 + 0 ≤ _), (by decide : 0 + 0 ≤ _)⟩)
  dsimp only [Pt.U, Pt.locs, Pt.cells, Pt.slots] at X8 l8 y8 z8 st8 hQ8
  subst l8 y8 z8
  obtain ⟨rfl, N8q, e8⟩ := hQ8
  have N8 := Fr.app N7 N8q
  obtain ⟨_, _, ⟨T9, L9, k9, n9⟩, -, X9, ⟨Lc9, hQ9, l9, y9, z9⟩, st9⟩ := Jvm.LawKit.callS X8 hx (y := (⟨"com/example/stepwise/stepwise/model/OccurrenceTimesPinLaw", "saturatingProduct", "(II)I"⟩ : MethodName)) hown (mvT hZ (hw _ (List.mem_of_getElem? (i := 30) rfl))) (mvT hZ (hw _ (List.mem_of_getElem? (i := 31) rfl))) (mvT hZ (hw _ (List.mem_of_getElem? (i := 2) rfl))) (mvT hZ (hw _ (List.mem_of_getElem? (i := 32) rfl))) (by decide) (backOf (W := 0) (rm5 l Z a0 hw [] (f3 (f1 p1 wZ wE wQ wS wP) (mx (f1 p1 wZ wE wQ wS wP))) (f3 (f1 p2 wZ wE wQ wS wP) (mx (f1 p2 wZ wE wQ wS wP)))  h0 n0  ) hZ (hw _ (List.mem_of_getElem? (i := 32) rfl)) (hw _ (List.mem_of_getElem? (i := 2) rfl)) (by decide) (by decide)) (g := (mkF m 61 #[.val (.int p1), .val (.int p2), .val (.ref (f1 p1 wZ wE wQ wS wP)), .val (.ref (f1 p2 wZ wE wQ wS wP)), .val (.int (f2 (f1 p1 wZ wE wQ wS wP) (mn (f1 p1 wZ wE wQ wS wP)))), .val (.int (f3 (f1 p1 wZ wE wQ wS wP) (mx (f1 p1 wZ wE wQ wS wP)))), .val (.int (f2 (f1 p2 wZ wE wQ wS wP) (mn (f1 p2 wZ wE wQ wS wP)))), .val (.int (f3 (f1 p2 wZ wE wQ wS wP) (mx (f1 p2 wZ wE wQ wS wP)))), .val (.ref (f4 (f1 p1 wZ wE wQ wS wP) (f1 p2 wZ wE wQ wS wP) wZ wE wQ wS wP mn mx)), .val (.int (f5 (f2 (f1 p1 wZ wE wQ wS wP) (mn (f1 p1 wZ wE wQ wS wP))) (f2 (f1 p2 wZ wE wQ wS wP) (mn (f1 p2 wZ wE wQ wS wP))))), .unset] [(.int (f3 (f1 p2 wZ wE wQ wS wP) (mx (f1 p2 wZ wE wQ wS wP)))), (.int (f3 (f1 p1 wZ wE wQ wS wP) (mx (f1 p1 wZ wE wQ wS wP))))])) rfl (by rw [hml]; rfl) (argsL := [(.int (f3 (f1 p1 wZ wE wQ wS wP) (mx (f1 p1 wZ wE wQ wS wP)))), (.int (f3 (f1 p2 wZ wE wQ wS wP) (mx (f1 p2 wZ wE wQ wS wP))))]) (rest := []) (lenOf pd3 rfl) rfl (by show 2 * 0 + _ ≤ _; exact Nat.le_of_eq rfl) (hb hby at_61) (fun _ _ => ⟨rfl, e8, (by decide : 0 + 0 ≤ _), (by decide : 0 + 0 ≤ _)⟩)
  dsimp only [Pt.U, Pt.locs, Pt.cells, Pt.slots] at X9 l9 y9 z9 st9 hQ9
  subst l9 y9 z9
  obtain ⟨rfl, N9q, e9⟩ := hQ9
  have N9 := Fr.app N8 N9q
  obtain ⟨cq10, kq10, q10a, q10b, q10c⟩ := isOf hZ e9 (Ex _ (own_oc4 _ _ _ _ _ _ _ _ _))
  obtain ⟨_, _, ⟨T10, L10, k10, n10⟩, -, X10, ⟨Lc10, hQ10, l10, y10, z10⟩, st10⟩ := X9.virtualBack hx (y := (⟨"com/example/stepwise/stepwise/model/Occurrence", "min", "()I"⟩ : MethodName)) (z := (⟨"com/example/stepwise/stepwise/model/Occurrence", "min", "()I"⟩ : MethodName)) hown (mvT hZ (hw _ (List.mem_of_getElem? (i := 10) rfl))) (mvT hZ (hw _ (List.mem_of_getElem? (i := 11) rfl))) (notFace_of_selects (args := #[]) (mvT hZ (hw _ (List.mem_of_getElem? (i := 13) rfl)))) (mvT hZ (hw _ (List.mem_of_getElem? (i := 13) rfl))) (mvT hZ (hw _ (List.mem_of_getElem? (i := 12) rfl))) (by decide) (backOf (W := 0) (rm2 l Z a0 hw [] (f4 (f1 p1 wZ wE wQ wS wP) (f1 p2 wZ wE wQ wS wP) wZ wE wQ wS wP mn mx)  h0 n0 (mn (f4 (f1 p1 wZ wE wQ wS wP) (f1 p2 wZ wE wQ wS wP) wZ wE wQ wS wP mn mx)) (Fmn _ (own_oc4 _ _ _ _ _ _ _ _ _))) hZ (hw _ (List.mem_of_getElem? (i := 14) rfl)) (hw _ (List.mem_of_getElem? (i := 6) rfl)) (by decide) (by decide)) q10a q10c (g := (mkF m 68 #[.val (.int p1), .val (.int p2), .val (.ref (f1 p1 wZ wE wQ wS wP)), .val (.ref (f1 p2 wZ wE wQ wS wP)), .val (.int (f2 (f1 p1 wZ wE wQ wS wP) (mn (f1 p1 wZ wE wQ wS wP)))), .val (.int (f3 (f1 p1 wZ wE wQ wS wP) (mx (f1 p1 wZ wE wQ wS wP)))), .val (.int (f2 (f1 p2 wZ wE wQ wS wP) (mn (f1 p2 wZ wE wQ wS wP)))), .val (.int (f3 (f1 p2 wZ wE wQ wS wP) (mx (f1 p2 wZ wE wQ wS wP)))), .val (.ref (f4 (f1 p1 wZ wE wQ wS wP) (f1 p2 wZ wE wQ wS wP) wZ wE wQ wS wP mn mx)), .val (.int (f5 (f2 (f1 p1 wZ wE wQ wS wP) (mn (f1 p1 wZ wE wQ wS wP))) (f2 (f1 p2 wZ wE wQ wS wP) (mn (f1 p2 wZ wE wQ wS wP))))), .val (.int (f5 (f3 (f1 p1 wZ wE wQ wS wP) (mx (f1 p1 wZ wE wQ wS wP))) (f3 (f1 p2 wZ wE wQ wS wP) (mx (f1 p2 wZ wE wQ wS wP)))))] [(.ref (f4 (f1 p1 wZ wE wQ wS wP) (f1 p2 wZ wE wQ wS wP) wZ wE wQ wS wP mn mx))])) rfl (by rw [hml]; rfl) (Steps.refl _) (argsL := []) (rest := []) (lenOf pd1 rfl) rfl (by show 2 * 0 + _ ≤ _; exact Nat.le_of_eq rfl) (hb hby at_68) (fun _ _ => ⟨rfl, e9, (by decide : 0 + 0 ≤ _), (by decide : 0 + 0 ≤ _)⟩)
  dsimp only [Pt.U, Pt.locs, Pt.cells, Pt.slots] at X10 l10 y10 z10 st10 hQ10
  subst l10 y10 z10
  obtain ⟨rfl, N10q, e10⟩ := hQ10
  have N10 := Fr.app N9 N10q
  have pre11 : ∀ t, Steps p.tables e below (T10.setTop (mkF m 73 #[.val (.int p1), .val (.int p2), .val (.ref (f1 p1 wZ wE wQ wS wP)), .val (.ref (f1 p2 wZ wE wQ wS wP)), .val (.int (f2 (f1 p1 wZ wE wQ wS wP) (mn (f1 p1 wZ wE wQ wS wP)))), .val (.int (f3 (f1 p1 wZ wE wQ wS wP) (mx (f1 p1 wZ wE wQ wS wP)))), .val (.int (f2 (f1 p2 wZ wE wQ wS wP) (mn (f1 p2 wZ wE wQ wS wP)))), .val (.int (f3 (f1 p2 wZ wE wQ wS wP) (mx (f1 p2 wZ wE wQ wS wP)))), .val (.ref (f4 (f1 p1 wZ wE wQ wS wP) (f1 p2 wZ wE wQ wS wP) wZ wE wQ wS wP mn mx)), .val (.int (f5 (f2 (f1 p1 wZ wE wQ wS wP) (mn (f1 p1 wZ wE wQ wS wP))) (f2 (f1 p2 wZ wE wQ wS wP) (mn (f1 p2 wZ wE wQ wS wP))))), .val (.int (f5 (f3 (f1 p1 wZ wE wQ wS wP) (mx (f1 p1 wZ wE wQ wS wP))) (f3 (f1 p2 wZ wE wQ wS wP) (mx (f1 p2 wZ wE wQ wS wP)))))] [(.int (f5 (f2 (f1 p1 wZ wE wQ wS wP) (mn (f1 p1 wZ wE wQ wS wP))) (f2 (f1 p2 wZ wE wQ wS wP) (mn (f1 p2 wZ wE wQ wS wP))))), (.int (f2 (f4 (f1 p1 wZ wE wQ wS wP) (f1 p2 wZ wE wQ wS wP) wZ wE wQ wS wP mn mx) (mn (f4 (f1 p1 wZ wE wQ wS wP) (f1 p2 wZ wE wQ wS wP) wZ wE wQ wS wP mn mx))))])) t → Steps p.tables e below (s₁.setTop (entryFrame m #[(.int p1), (.int p2)] maxLocals)) t := by
    intro t k
    refine pre0 t ?_
    show Steps p.tables e below (s₁.setTop (mkF m 0 #[.val (.int p1), .val (.int p2), .unset, .unset, .unset, .unset, .unset, .unset, .unset, .unset, .unset] [])) _
    refine XS.iloadN X0.here hx rfl (hb hby at_0) rfl ?_
    show Steps p.tables e below (s₁.setTop (mkF m 1 #[.val (.int p1), .val (.int p2), .unset, .unset, .unset, .unset, .unset, .unset, .unset, .unset, .unset] [(.int p1)])) _
    refine st1 _ ?_
    show Steps p.tables e below (T1.setTop (mkF m 4 #[.val (.int p1), .val (.int p2), .unset, .unset, .unset, .unset, .unset, .unset, .unset, .unset, .unset] [(.ref (f1 p1 wZ wE wQ wS wP))])) _
    refine XS.astoreN X1.here hx rfl (hb hby at_4) rfl rfl (l' := #[.val (.int p1), .val (.int p2), .val (.ref (f1 p1 wZ wE wQ wS wP)), .unset, .unset, .unset, .unset, .unset, .unset, .unset, .unset]) rfl ?_
    show Steps p.tables e below (T1.setTop (mkF m 5 #[.val (.int p1), .val (.int p2), .val (.ref (f1 p1 wZ wE wQ wS wP)), .unset, .unset, .unset, .unset, .unset, .unset, .unset, .unset] [])) _
    refine XS.iloadN X1.here hx rfl (hb hby at_5) rfl ?_
    show Steps p.tables e below (T1.setTop (mkF m 6 #[.val (.int p1), .val (.int p2), .val (.ref (f1 p1 wZ wE wQ wS wP)), .unset, .unset, .unset, .unset, .unset, .unset, .unset, .unset] [(.int p2)])) _
    refine st2 _ ?_
    show Steps p.tables e below (T2.setTop (mkF m 9 #[.val (.int p1), .val (.int p2), .val (.ref (f1 p1 wZ wE wQ wS wP)), .unset, .unset, .unset, .unset, .unset, .unset, .unset, .unset] [(.ref (f1 p2 wZ wE wQ wS wP))])) _
    refine XS.astoreN X2.here hx rfl (hb hby at_9) rfl rfl (l' := #[.val (.int p1), .val (.int p2), .val (.ref (f1 p1 wZ wE wQ wS wP)), .val (.ref (f1 p2 wZ wE wQ wS wP)), .unset, .unset, .unset, .unset, .unset, .unset, .unset]) rfl ?_
    show Steps p.tables e below (T2.setTop (mkF m 10 #[.val (.int p1), .val (.int p2), .val (.ref (f1 p1 wZ wE wQ wS wP)), .val (.ref (f1 p2 wZ wE wQ wS wP)), .unset, .unset, .unset, .unset, .unset, .unset, .unset] [])) _
    refine XS.aloadN X2.here hx rfl (hb hby at_10) rfl rfl ?_
    show Steps p.tables e below (T2.setTop (mkF m 11 #[.val (.int p1), .val (.int p2), .val (.ref (f1 p1 wZ wE wQ wS wP)), .val (.ref (f1 p2 wZ wE wQ wS wP)), .unset, .unset, .unset, .unset, .unset, .unset, .unset] [(.ref (f1 p1 wZ wE wQ wS wP))])) _
    refine st3.trans ?_
    show Steps p.tables e below (T3.setTop (mkF m 14 #[.val (.int p1), .val (.int p2), .val (.ref (f1 p1 wZ wE wQ wS wP)), .val (.ref (f1 p2 wZ wE wQ wS wP)), .unset, .unset, .unset, .unset, .unset, .unset, .unset] [(.int (f2 (f1 p1 wZ wE wQ wS wP) (mn (f1 p1 wZ wE wQ wS wP))))])) _
    refine XS.istore X3.here hx rfl (hb hby at_14) rfl (l' := #[.val (.int p1), .val (.int p2), .val (.ref (f1 p1 wZ wE wQ wS wP)), .val (.ref (f1 p2 wZ wE wQ wS wP)), .val (.int (f2 (f1 p1 wZ wE wQ wS wP) (mn (f1 p1 wZ wE wQ wS wP)))), .unset, .unset, .unset, .unset, .unset, .unset]) rfl ?_
    show Steps p.tables e below (T3.setTop (mkF m 16 #[.val (.int p1), .val (.int p2), .val (.ref (f1 p1 wZ wE wQ wS wP)), .val (.ref (f1 p2 wZ wE wQ wS wP)), .val (.int (f2 (f1 p1 wZ wE wQ wS wP) (mn (f1 p1 wZ wE wQ wS wP)))), .unset, .unset, .unset, .unset, .unset, .unset] [])) _
    refine XS.aloadN X3.here hx rfl (hb hby at_16) rfl rfl ?_
    show Steps p.tables e below (T3.setTop (mkF m 17 #[.val (.int p1), .val (.int p2), .val (.ref (f1 p1 wZ wE wQ wS wP)), .val (.ref (f1 p2 wZ wE wQ wS wP)), .val (.int (f2 (f1 p1 wZ wE wQ wS wP) (mn (f1 p1 wZ wE wQ wS wP)))), .unset, .unset, .unset, .unset, .unset, .unset] [(.ref (f1 p1 wZ wE wQ wS wP))])) _
    refine st4.trans ?_
    show Steps p.tables e below (T4.setTop (mkF m 20 #[.val (.int p1), .val (.int p2), .val (.ref (f1 p1 wZ wE wQ wS wP)), .val (.ref (f1 p2 wZ wE wQ wS wP)), .val (.int (f2 (f1 p1 wZ wE wQ wS wP) (mn (f1 p1 wZ wE wQ wS wP)))), .unset, .unset, .unset, .unset, .unset, .unset] [(.int (f3 (f1 p1 wZ wE wQ wS wP) (mx (f1 p1 wZ wE wQ wS wP))))])) _
    refine XS.istore X4.here hx rfl (hb hby at_20) rfl (l' := #[.val (.int p1), .val (.int p2), .val (.ref (f1 p1 wZ wE wQ wS wP)), .val (.ref (f1 p2 wZ wE wQ wS wP)), .val (.int (f2 (f1 p1 wZ wE wQ wS wP) (mn (f1 p1 wZ wE wQ wS wP)))), .val (.int (f3 (f1 p1 wZ wE wQ wS wP) (mx (f1 p1 wZ wE wQ wS wP)))), .unset, .unset, .unset, .unset, .unset]) rfl ?_
    show Steps p.tables e below (T4.setTop (mkF m 22 #[.val (.int p1), .val (.int p2), .val (.ref (f1 p1 wZ wE wQ wS wP)), .val (.ref (f1 p2 wZ wE wQ wS wP)), .val (.int (f2 (f1 p1 wZ wE wQ wS wP) (mn (f1 p1 wZ wE wQ wS wP)))), .val (.int (f3 (f1 p1 wZ wE wQ wS wP) (mx (f1 p1 wZ wE wQ wS wP)))), .unset, .unset, .unset, .unset, .unset] [])) _
    refine XS.aloadN X4.here hx rfl (hb hby at_22) rfl rfl ?_
    show Steps p.tables e below (T4.setTop (mkF m 23 #[.val (.int p1), .val (.int p2), .val (.ref (f1 p1 wZ wE wQ wS wP)), .val (.ref (f1 p2 wZ wE wQ wS wP)), .val (.int (f2 (f1 p1 wZ wE wQ wS wP) (mn (f1 p1 wZ wE wQ wS wP)))), .val (.int (f3 (f1 p1 wZ wE wQ wS wP) (mx (f1 p1 wZ wE wQ wS wP)))), .unset, .unset, .unset, .unset, .unset] [(.ref (f1 p2 wZ wE wQ wS wP))])) _
    refine st5.trans ?_
    show Steps p.tables e below (T5.setTop (mkF m 26 #[.val (.int p1), .val (.int p2), .val (.ref (f1 p1 wZ wE wQ wS wP)), .val (.ref (f1 p2 wZ wE wQ wS wP)), .val (.int (f2 (f1 p1 wZ wE wQ wS wP) (mn (f1 p1 wZ wE wQ wS wP)))), .val (.int (f3 (f1 p1 wZ wE wQ wS wP) (mx (f1 p1 wZ wE wQ wS wP)))), .unset, .unset, .unset, .unset, .unset] [(.int (f2 (f1 p2 wZ wE wQ wS wP) (mn (f1 p2 wZ wE wQ wS wP))))])) _
    refine XS.istore X5.here hx rfl (hb hby at_26) rfl (l' := #[.val (.int p1), .val (.int p2), .val (.ref (f1 p1 wZ wE wQ wS wP)), .val (.ref (f1 p2 wZ wE wQ wS wP)), .val (.int (f2 (f1 p1 wZ wE wQ wS wP) (mn (f1 p1 wZ wE wQ wS wP)))), .val (.int (f3 (f1 p1 wZ wE wQ wS wP) (mx (f1 p1 wZ wE wQ wS wP)))), .val (.int (f2 (f1 p2 wZ wE wQ wS wP) (mn (f1 p2 wZ wE wQ wS wP)))), .unset, .unset, .unset, .unset]) rfl ?_
    show Steps p.tables e below (T5.setTop (mkF m 28 #[.val (.int p1), .val (.int p2), .val (.ref (f1 p1 wZ wE wQ wS wP)), .val (.ref (f1 p2 wZ wE wQ wS wP)), .val (.int (f2 (f1 p1 wZ wE wQ wS wP) (mn (f1 p1 wZ wE wQ wS wP)))), .val (.int (f3 (f1 p1 wZ wE wQ wS wP) (mx (f1 p1 wZ wE wQ wS wP)))), .val (.int (f2 (f1 p2 wZ wE wQ wS wP) (mn (f1 p2 wZ wE wQ wS wP)))), .unset, .unset, .unset, .unset] [])) _
    refine XS.aloadN X5.here hx rfl (hb hby at_28) rfl rfl ?_
    show Steps p.tables e below (T5.setTop (mkF m 29 #[.val (.int p1), .val (.int p2), .val (.ref (f1 p1 wZ wE wQ wS wP)), .val (.ref (f1 p2 wZ wE wQ wS wP)), .val (.int (f2 (f1 p1 wZ wE wQ wS wP) (mn (f1 p1 wZ wE wQ wS wP)))), .val (.int (f3 (f1 p1 wZ wE wQ wS wP) (mx (f1 p1 wZ wE wQ wS wP)))), .val (.int (f2 (f1 p2 wZ wE wQ wS wP) (mn (f1 p2 wZ wE wQ wS wP)))), .unset, .unset, .unset, .unset] [(.ref (f1 p2 wZ wE wQ wS wP))])) _
    refine st6.trans ?_
    show Steps p.tables e below (T6.setTop (mkF m 32 #[.val (.int p1), .val (.int p2), .val (.ref (f1 p1 wZ wE wQ wS wP)), .val (.ref (f1 p2 wZ wE wQ wS wP)), .val (.int (f2 (f1 p1 wZ wE wQ wS wP) (mn (f1 p1 wZ wE wQ wS wP)))), .val (.int (f3 (f1 p1 wZ wE wQ wS wP) (mx (f1 p1 wZ wE wQ wS wP)))), .val (.int (f2 (f1 p2 wZ wE wQ wS wP) (mn (f1 p2 wZ wE wQ wS wP)))), .unset, .unset, .unset, .unset] [(.int (f3 (f1 p2 wZ wE wQ wS wP) (mx (f1 p2 wZ wE wQ wS wP))))])) _
    refine XS.istore X6.here hx rfl (hb hby at_32) rfl (l' := #[.val (.int p1), .val (.int p2), .val (.ref (f1 p1 wZ wE wQ wS wP)), .val (.ref (f1 p2 wZ wE wQ wS wP)), .val (.int (f2 (f1 p1 wZ wE wQ wS wP) (mn (f1 p1 wZ wE wQ wS wP)))), .val (.int (f3 (f1 p1 wZ wE wQ wS wP) (mx (f1 p1 wZ wE wQ wS wP)))), .val (.int (f2 (f1 p2 wZ wE wQ wS wP) (mn (f1 p2 wZ wE wQ wS wP)))), .val (.int (f3 (f1 p2 wZ wE wQ wS wP) (mx (f1 p2 wZ wE wQ wS wP)))), .unset, .unset, .unset]) rfl ?_
    show Steps p.tables e below (T6.setTop (mkF m 34 #[.val (.int p1), .val (.int p2), .val (.ref (f1 p1 wZ wE wQ wS wP)), .val (.ref (f1 p2 wZ wE wQ wS wP)), .val (.int (f2 (f1 p1 wZ wE wQ wS wP) (mn (f1 p1 wZ wE wQ wS wP)))), .val (.int (f3 (f1 p1 wZ wE wQ wS wP) (mx (f1 p1 wZ wE wQ wS wP)))), .val (.int (f2 (f1 p2 wZ wE wQ wS wP) (mn (f1 p2 wZ wE wQ wS wP)))), .val (.int (f3 (f1 p2 wZ wE wQ wS wP) (mx (f1 p2 wZ wE wQ wS wP)))), .unset, .unset, .unset] [])) _
    refine XS.aloadN X6.here hx rfl (hb hby at_34) rfl rfl ?_
    show Steps p.tables e below (T6.setTop (mkF m 35 #[.val (.int p1), .val (.int p2), .val (.ref (f1 p1 wZ wE wQ wS wP)), .val (.ref (f1 p2 wZ wE wQ wS wP)), .val (.int (f2 (f1 p1 wZ wE wQ wS wP) (mn (f1 p1 wZ wE wQ wS wP)))), .val (.int (f3 (f1 p1 wZ wE wQ wS wP) (mx (f1 p1 wZ wE wQ wS wP)))), .val (.int (f2 (f1 p2 wZ wE wQ wS wP) (mn (f1 p2 wZ wE wQ wS wP)))), .val (.int (f3 (f1 p2 wZ wE wQ wS wP) (mx (f1 p2 wZ wE wQ wS wP)))), .unset, .unset, .unset] [(.ref (f1 p1 wZ wE wQ wS wP))])) _
    refine XS.aloadN X6.here hx rfl (hb hby at_35) rfl rfl ?_
    show Steps p.tables e below (T6.setTop (mkF m 36 #[.val (.int p1), .val (.int p2), .val (.ref (f1 p1 wZ wE wQ wS wP)), .val (.ref (f1 p2 wZ wE wQ wS wP)), .val (.int (f2 (f1 p1 wZ wE wQ wS wP) (mn (f1 p1 wZ wE wQ wS wP)))), .val (.int (f3 (f1 p1 wZ wE wQ wS wP) (mx (f1 p1 wZ wE wQ wS wP)))), .val (.int (f2 (f1 p2 wZ wE wQ wS wP) (mn (f1 p2 wZ wE wQ wS wP)))), .val (.int (f3 (f1 p2 wZ wE wQ wS wP) (mx (f1 p2 wZ wE wQ wS wP)))), .unset, .unset, .unset] [(.ref (f1 p2 wZ wE wQ wS wP)), (.ref (f1 p1 wZ wE wQ wS wP))])) _
    refine st7.trans ?_
    show Steps p.tables e below (T7.setTop (mkF m 39 #[.val (.int p1), .val (.int p2), .val (.ref (f1 p1 wZ wE wQ wS wP)), .val (.ref (f1 p2 wZ wE wQ wS wP)), .val (.int (f2 (f1 p1 wZ wE wQ wS wP) (mn (f1 p1 wZ wE wQ wS wP)))), .val (.int (f3 (f1 p1 wZ wE wQ wS wP) (mx (f1 p1 wZ wE wQ wS wP)))), .val (.int (f2 (f1 p2 wZ wE wQ wS wP) (mn (f1 p2 wZ wE wQ wS wP)))), .val (.int (f3 (f1 p2 wZ wE wQ wS wP) (mx (f1 p2 wZ wE wQ wS wP)))), .unset, .unset, .unset] [(.ref (f4 (f1 p1 wZ wE wQ wS wP) (f1 p2 wZ wE wQ wS wP) wZ wE wQ wS wP mn mx))])) _
    refine XS.astore X7.here hx rfl (hb hby at_39) rfl rfl (l' := #[.val (.int p1), .val (.int p2), .val (.ref (f1 p1 wZ wE wQ wS wP)), .val (.ref (f1 p2 wZ wE wQ wS wP)), .val (.int (f2 (f1 p1 wZ wE wQ wS wP) (mn (f1 p1 wZ wE wQ wS wP)))), .val (.int (f3 (f1 p1 wZ wE wQ wS wP) (mx (f1 p1 wZ wE wQ wS wP)))), .val (.int (f2 (f1 p2 wZ wE wQ wS wP) (mn (f1 p2 wZ wE wQ wS wP)))), .val (.int (f3 (f1 p2 wZ wE wQ wS wP) (mx (f1 p2 wZ wE wQ wS wP)))), .val (.ref (f4 (f1 p1 wZ wE wQ wS wP) (f1 p2 wZ wE wQ wS wP) wZ wE wQ wS wP mn mx)), .unset, .unset]) rfl ?_
    show Steps p.tables e below (T7.setTop (mkF m 41 #[.val (.int p1), .val (.int p2), .val (.ref (f1 p1 wZ wE wQ wS wP)), .val (.ref (f1 p2 wZ wE wQ wS wP)), .val (.int (f2 (f1 p1 wZ wE wQ wS wP) (mn (f1 p1 wZ wE wQ wS wP)))), .val (.int (f3 (f1 p1 wZ wE wQ wS wP) (mx (f1 p1 wZ wE wQ wS wP)))), .val (.int (f2 (f1 p2 wZ wE wQ wS wP) (mn (f1 p2 wZ wE wQ wS wP)))), .val (.int (f3 (f1 p2 wZ wE wQ wS wP) (mx (f1 p2 wZ wE wQ wS wP)))), .val (.ref (f4 (f1 p1 wZ wE wQ wS wP) (f1 p2 wZ wE wQ wS wP) wZ wE wQ wS wP mn mx)), .unset, .unset] [])) _
    refine XS.aload X7.here hx rfl (hb hby at_41) rfl rfl ?_
    show Steps p.tables e below (T7.setTop (mkF m 43 #[.val (.int p1), .val (.int p2), .val (.ref (f1 p1 wZ wE wQ wS wP)), .val (.ref (f1 p2 wZ wE wQ wS wP)), .val (.int (f2 (f1 p1 wZ wE wQ wS wP) (mn (f1 p1 wZ wE wQ wS wP)))), .val (.int (f3 (f1 p1 wZ wE wQ wS wP) (mx (f1 p1 wZ wE wQ wS wP)))), .val (.int (f2 (f1 p2 wZ wE wQ wS wP) (mn (f1 p2 wZ wE wQ wS wP)))), .val (.int (f3 (f1 p2 wZ wE wQ wS wP) (mx (f1 p2 wZ wE wQ wS wP)))), .val (.ref (f4 (f1 p1 wZ wE wQ wS wP) (f1 p2 wZ wE wQ wS wP) wZ wE wQ wS wP mn mx)), .unset, .unset] [(.ref (f4 (f1 p1 wZ wE wQ wS wP) (f1 p2 wZ wE wQ wS wP) wZ wE wQ wS wP mn mx))])) _
    refine XS.ifnonnullYes X7.here hx rfl (pc0 := 43) (pc' := 48) rfl (hb hby at_43) rfl (by decide) (by decide) ?_
    show Steps p.tables e below (T7.setTop (mkF m 48 #[.val (.int p1), .val (.int p2), .val (.ref (f1 p1 wZ wE wQ wS wP)), .val (.ref (f1 p2 wZ wE wQ wS wP)), .val (.int (f2 (f1 p1 wZ wE wQ wS wP) (mn (f1 p1 wZ wE wQ wS wP)))), .val (.int (f3 (f1 p1 wZ wE wQ wS wP) (mx (f1 p1 wZ wE wQ wS wP)))), .val (.int (f2 (f1 p2 wZ wE wQ wS wP) (mn (f1 p2 wZ wE wQ wS wP)))), .val (.int (f3 (f1 p2 wZ wE wQ wS wP) (mx (f1 p2 wZ wE wQ wS wP)))), .val (.ref (f4 (f1 p1 wZ wE wQ wS wP) (f1 p2 wZ wE wQ wS wP) wZ wE wQ wS wP mn mx)), .unset, .unset] [])) _
    refine XS.iload X7.here hx rfl (hb hby at_48) rfl ?_
    show Steps p.tables e below (T7.setTop (mkF m 50 #[.val (.int p1), .val (.int p2), .val (.ref (f1 p1 wZ wE wQ wS wP)), .val (.ref (f1 p2 wZ wE wQ wS wP)), .val (.int (f2 (f1 p1 wZ wE wQ wS wP) (mn (f1 p1 wZ wE wQ wS wP)))), .val (.int (f3 (f1 p1 wZ wE wQ wS wP) (mx (f1 p1 wZ wE wQ wS wP)))), .val (.int (f2 (f1 p2 wZ wE wQ wS wP) (mn (f1 p2 wZ wE wQ wS wP)))), .val (.int (f3 (f1 p2 wZ wE wQ wS wP) (mx (f1 p2 wZ wE wQ wS wP)))), .val (.ref (f4 (f1 p1 wZ wE wQ wS wP) (f1 p2 wZ wE wQ wS wP) wZ wE wQ wS wP mn mx)), .unset, .unset] [(.int (f2 (f1 p1 wZ wE wQ wS wP) (mn (f1 p1 wZ wE wQ wS wP))))])) _
    refine XS.iload X7.here hx rfl (hb hby at_50) rfl ?_
    show Steps p.tables e below (T7.setTop (mkF m 52 #[.val (.int p1), .val (.int p2), .val (.ref (f1 p1 wZ wE wQ wS wP)), .val (.ref (f1 p2 wZ wE wQ wS wP)), .val (.int (f2 (f1 p1 wZ wE wQ wS wP) (mn (f1 p1 wZ wE wQ wS wP)))), .val (.int (f3 (f1 p1 wZ wE wQ wS wP) (mx (f1 p1 wZ wE wQ wS wP)))), .val (.int (f2 (f1 p2 wZ wE wQ wS wP) (mn (f1 p2 wZ wE wQ wS wP)))), .val (.int (f3 (f1 p2 wZ wE wQ wS wP) (mx (f1 p2 wZ wE wQ wS wP)))), .val (.ref (f4 (f1 p1 wZ wE wQ wS wP) (f1 p2 wZ wE wQ wS wP) wZ wE wQ wS wP mn mx)), .unset, .unset] [(.int (f2 (f1 p2 wZ wE wQ wS wP) (mn (f1 p2 wZ wE wQ wS wP)))), (.int (f2 (f1 p1 wZ wE wQ wS wP) (mn (f1 p1 wZ wE wQ wS wP))))])) _
    refine st8 _ ?_
    show Steps p.tables e below (T8.setTop (mkF m 55 #[.val (.int p1), .val (.int p2), .val (.ref (f1 p1 wZ wE wQ wS wP)), .val (.ref (f1 p2 wZ wE wQ wS wP)), .val (.int (f2 (f1 p1 wZ wE wQ wS wP) (mn (f1 p1 wZ wE wQ wS wP)))), .val (.int (f3 (f1 p1 wZ wE wQ wS wP) (mx (f1 p1 wZ wE wQ wS wP)))), .val (.int (f2 (f1 p2 wZ wE wQ wS wP) (mn (f1 p2 wZ wE wQ wS wP)))), .val (.int (f3 (f1 p2 wZ wE wQ wS wP) (mx (f1 p2 wZ wE wQ wS wP)))), .val (.ref (f4 (f1 p1 wZ wE wQ wS wP) (f1 p2 wZ wE wQ wS wP) wZ wE wQ wS wP mn mx)), .unset, .unset] [(.int (f5 (f2 (f1 p1 wZ wE wQ wS wP) (mn (f1 p1 wZ wE wQ wS wP))) (f2 (f1 p2 wZ wE wQ wS wP) (mn (f1 p2 wZ wE wQ wS wP)))))])) _
    refine XS.istore X8.here hx rfl (hb hby at_55) rfl (l' := #[.val (.int p1), .val (.int p2), .val (.ref (f1 p1 wZ wE wQ wS wP)), .val (.ref (f1 p2 wZ wE wQ wS wP)), .val (.int (f2 (f1 p1 wZ wE wQ wS wP) (mn (f1 p1 wZ wE wQ wS wP)))), .val (.int (f3 (f1 p1 wZ wE wQ wS wP) (mx (f1 p1 wZ wE wQ wS wP)))), .val (.int (f2 (f1 p2 wZ wE wQ wS wP) (mn (f1 p2 wZ wE wQ wS wP)))), .val (.int (f3 (f1 p2 wZ wE wQ wS wP) (mx (f1 p2 wZ wE wQ wS wP)))), .val (.ref (f4 (f1 p1 wZ wE wQ wS wP) (f1 p2 wZ wE wQ wS wP) wZ wE wQ wS wP mn mx)), .val (.int (f5 (f2 (f1 p1 wZ wE wQ wS wP) (mn (f1 p1 wZ wE wQ wS wP))) (f2 (f1 p2 wZ wE wQ wS wP) (mn (f1 p2 wZ wE wQ wS wP))))), .unset]) rfl ?_
    show Steps p.tables e below (T8.setTop (mkF m 57 #[.val (.int p1), .val (.int p2), .val (.ref (f1 p1 wZ wE wQ wS wP)), .val (.ref (f1 p2 wZ wE wQ wS wP)), .val (.int (f2 (f1 p1 wZ wE wQ wS wP) (mn (f1 p1 wZ wE wQ wS wP)))), .val (.int (f3 (f1 p1 wZ wE wQ wS wP) (mx (f1 p1 wZ wE wQ wS wP)))), .val (.int (f2 (f1 p2 wZ wE wQ wS wP) (mn (f1 p2 wZ wE wQ wS wP)))), .val (.int (f3 (f1 p2 wZ wE wQ wS wP) (mx (f1 p2 wZ wE wQ wS wP)))), .val (.ref (f4 (f1 p1 wZ wE wQ wS wP) (f1 p2 wZ wE wQ wS wP) wZ wE wQ wS wP mn mx)), .val (.int (f5 (f2 (f1 p1 wZ wE wQ wS wP) (mn (f1 p1 wZ wE wQ wS wP))) (f2 (f1 p2 wZ wE wQ wS wP) (mn (f1 p2 wZ wE wQ wS wP))))), .unset] [])) _
    refine XS.iload X8.here hx rfl (hb hby at_57) rfl ?_
    show Steps p.tables e below (T8.setTop (mkF m 59 #[.val (.int p1), .val (.int p2), .val (.ref (f1 p1 wZ wE wQ wS wP)), .val (.ref (f1 p2 wZ wE wQ wS wP)), .val (.int (f2 (f1 p1 wZ wE wQ wS wP) (mn (f1 p1 wZ wE wQ wS wP)))), .val (.int (f3 (f1 p1 wZ wE wQ wS wP) (mx (f1 p1 wZ wE wQ wS wP)))), .val (.int (f2 (f1 p2 wZ wE wQ wS wP) (mn (f1 p2 wZ wE wQ wS wP)))), .val (.int (f3 (f1 p2 wZ wE wQ wS wP) (mx (f1 p2 wZ wE wQ wS wP)))), .val (.ref (f4 (f1 p1 wZ wE wQ wS wP) (f1 p2 wZ wE wQ wS wP) wZ wE wQ wS wP mn mx)), .val (.int (f5 (f2 (f1 p1 wZ wE wQ wS wP) (mn (f1 p1 wZ wE wQ wS wP))) (f2 (f1 p2 wZ wE wQ wS wP) (mn (f1 p2 wZ wE wQ wS wP))))), .unset] [(.int (f3 (f1 p1 wZ wE wQ wS wP) (mx (f1 p1 wZ wE wQ wS wP))))])) _
    refine XS.iload X8.here hx rfl (hb hby at_59) rfl ?_
    show Steps p.tables e below (T8.setTop (mkF m 61 #[.val (.int p1), .val (.int p2), .val (.ref (f1 p1 wZ wE wQ wS wP)), .val (.ref (f1 p2 wZ wE wQ wS wP)), .val (.int (f2 (f1 p1 wZ wE wQ wS wP) (mn (f1 p1 wZ wE wQ wS wP)))), .val (.int (f3 (f1 p1 wZ wE wQ wS wP) (mx (f1 p1 wZ wE wQ wS wP)))), .val (.int (f2 (f1 p2 wZ wE wQ wS wP) (mn (f1 p2 wZ wE wQ wS wP)))), .val (.int (f3 (f1 p2 wZ wE wQ wS wP) (mx (f1 p2 wZ wE wQ wS wP)))), .val (.ref (f4 (f1 p1 wZ wE wQ wS wP) (f1 p2 wZ wE wQ wS wP) wZ wE wQ wS wP mn mx)), .val (.int (f5 (f2 (f1 p1 wZ wE wQ wS wP) (mn (f1 p1 wZ wE wQ wS wP))) (f2 (f1 p2 wZ wE wQ wS wP) (mn (f1 p2 wZ wE wQ wS wP))))), .unset] [(.int (f3 (f1 p2 wZ wE wQ wS wP) (mx (f1 p2 wZ wE wQ wS wP)))), (.int (f3 (f1 p1 wZ wE wQ wS wP) (mx (f1 p1 wZ wE wQ wS wP))))])) _
    refine st9 _ ?_
    show Steps p.tables e below (T9.setTop (mkF m 64 #[.val (.int p1), .val (.int p2), .val (.ref (f1 p1 wZ wE wQ wS wP)), .val (.ref (f1 p2 wZ wE wQ wS wP)), .val (.int (f2 (f1 p1 wZ wE wQ wS wP) (mn (f1 p1 wZ wE wQ wS wP)))), .val (.int (f3 (f1 p1 wZ wE wQ wS wP) (mx (f1 p1 wZ wE wQ wS wP)))), .val (.int (f2 (f1 p2 wZ wE wQ wS wP) (mn (f1 p2 wZ wE wQ wS wP)))), .val (.int (f3 (f1 p2 wZ wE wQ wS wP) (mx (f1 p2 wZ wE wQ wS wP)))), .val (.ref (f4 (f1 p1 wZ wE wQ wS wP) (f1 p2 wZ wE wQ wS wP) wZ wE wQ wS wP mn mx)), .val (.int (f5 (f2 (f1 p1 wZ wE wQ wS wP) (mn (f1 p1 wZ wE wQ wS wP))) (f2 (f1 p2 wZ wE wQ wS wP) (mn (f1 p2 wZ wE wQ wS wP))))), .unset] [(.int (f5 (f3 (f1 p1 wZ wE wQ wS wP) (mx (f1 p1 wZ wE wQ wS wP))) (f3 (f1 p2 wZ wE wQ wS wP) (mx (f1 p2 wZ wE wQ wS wP)))))])) _
    refine XS.istore X9.here hx rfl (hb hby at_64) rfl (l' := #[.val (.int p1), .val (.int p2), .val (.ref (f1 p1 wZ wE wQ wS wP)), .val (.ref (f1 p2 wZ wE wQ wS wP)), .val (.int (f2 (f1 p1 wZ wE wQ wS wP) (mn (f1 p1 wZ wE wQ wS wP)))), .val (.int (f3 (f1 p1 wZ wE wQ wS wP) (mx (f1 p1 wZ wE wQ wS wP)))), .val (.int (f2 (f1 p2 wZ wE wQ wS wP) (mn (f1 p2 wZ wE wQ wS wP)))), .val (.int (f3 (f1 p2 wZ wE wQ wS wP) (mx (f1 p2 wZ wE wQ wS wP)))), .val (.ref (f4 (f1 p1 wZ wE wQ wS wP) (f1 p2 wZ wE wQ wS wP) wZ wE wQ wS wP mn mx)), .val (.int (f5 (f2 (f1 p1 wZ wE wQ wS wP) (mn (f1 p1 wZ wE wQ wS wP))) (f2 (f1 p2 wZ wE wQ wS wP) (mn (f1 p2 wZ wE wQ wS wP))))), .val (.int (f5 (f3 (f1 p1 wZ wE wQ wS wP) (mx (f1 p1 wZ wE wQ wS wP))) (f3 (f1 p2 wZ wE wQ wS wP) (mx (f1 p2 wZ wE wQ wS wP)))))]) rfl ?_
    show Steps p.tables e below (T9.setTop (mkF m 66 #[.val (.int p1), .val (.int p2), .val (.ref (f1 p1 wZ wE wQ wS wP)), .val (.ref (f1 p2 wZ wE wQ wS wP)), .val (.int (f2 (f1 p1 wZ wE wQ wS wP) (mn (f1 p1 wZ wE wQ wS wP)))), .val (.int (f3 (f1 p1 wZ wE wQ wS wP) (mx (f1 p1 wZ wE wQ wS wP)))), .val (.int (f2 (f1 p2 wZ wE wQ wS wP) (mn (f1 p2 wZ wE wQ wS wP)))), .val (.int (f3 (f1 p2 wZ wE wQ wS wP) (mx (f1 p2 wZ wE wQ wS wP)))), .val (.ref (f4 (f1 p1 wZ wE wQ wS wP) (f1 p2 wZ wE wQ wS wP) wZ wE wQ wS wP mn mx)), .val (.int (f5 (f2 (f1 p1 wZ wE wQ wS wP) (mn (f1 p1 wZ wE wQ wS wP))) (f2 (f1 p2 wZ wE wQ wS wP) (mn (f1 p2 wZ wE wQ wS wP))))), .val (.int (f5 (f3 (f1 p1 wZ wE wQ wS wP) (mx (f1 p1 wZ wE wQ wS wP))) (f3 (f1 p2 wZ wE wQ wS wP) (mx (f1 p2 wZ wE wQ wS wP)))))] [])) _
    refine XS.aload X9.here hx rfl (hb hby at_66) rfl rfl ?_
    show Steps p.tables e below (T9.setTop (mkF m 68 #[.val (.int p1), .val (.int p2), .val (.ref (f1 p1 wZ wE wQ wS wP)), .val (.ref (f1 p2 wZ wE wQ wS wP)), .val (.int (f2 (f1 p1 wZ wE wQ wS wP) (mn (f1 p1 wZ wE wQ wS wP)))), .val (.int (f3 (f1 p1 wZ wE wQ wS wP) (mx (f1 p1 wZ wE wQ wS wP)))), .val (.int (f2 (f1 p2 wZ wE wQ wS wP) (mn (f1 p2 wZ wE wQ wS wP)))), .val (.int (f3 (f1 p2 wZ wE wQ wS wP) (mx (f1 p2 wZ wE wQ wS wP)))), .val (.ref (f4 (f1 p1 wZ wE wQ wS wP) (f1 p2 wZ wE wQ wS wP) wZ wE wQ wS wP mn mx)), .val (.int (f5 (f2 (f1 p1 wZ wE wQ wS wP) (mn (f1 p1 wZ wE wQ wS wP))) (f2 (f1 p2 wZ wE wQ wS wP) (mn (f1 p2 wZ wE wQ wS wP))))), .val (.int (f5 (f3 (f1 p1 wZ wE wQ wS wP) (mx (f1 p1 wZ wE wQ wS wP))) (f3 (f1 p2 wZ wE wQ wS wP) (mx (f1 p2 wZ wE wQ wS wP)))))] [(.ref (f4 (f1 p1 wZ wE wQ wS wP) (f1 p2 wZ wE wQ wS wP) wZ wE wQ wS wP mn mx))])) _
    refine st10.trans ?_
    show Steps p.tables e below (T10.setTop (mkF m 71 #[.val (.int p1), .val (.int p2), .val (.ref (f1 p1 wZ wE wQ wS wP)), .val (.ref (f1 p2 wZ wE wQ wS wP)), .val (.int (f2 (f1 p1 wZ wE wQ wS wP) (mn (f1 p1 wZ wE wQ wS wP)))), .val (.int (f3 (f1 p1 wZ wE wQ wS wP) (mx (f1 p1 wZ wE wQ wS wP)))), .val (.int (f2 (f1 p2 wZ wE wQ wS wP) (mn (f1 p2 wZ wE wQ wS wP)))), .val (.int (f3 (f1 p2 wZ wE wQ wS wP) (mx (f1 p2 wZ wE wQ wS wP)))), .val (.ref (f4 (f1 p1 wZ wE wQ wS wP) (f1 p2 wZ wE wQ wS wP) wZ wE wQ wS wP mn mx)), .val (.int (f5 (f2 (f1 p1 wZ wE wQ wS wP) (mn (f1 p1 wZ wE wQ wS wP))) (f2 (f1 p2 wZ wE wQ wS wP) (mn (f1 p2 wZ wE wQ wS wP))))), .val (.int (f5 (f3 (f1 p1 wZ wE wQ wS wP) (mx (f1 p1 wZ wE wQ wS wP))) (f3 (f1 p2 wZ wE wQ wS wP) (mx (f1 p2 wZ wE wQ wS wP)))))] [(.int (f2 (f4 (f1 p1 wZ wE wQ wS wP) (f1 p2 wZ wE wQ wS wP) wZ wE wQ wS wP mn mx) (mn (f4 (f1 p1 wZ wE wQ wS wP) (f1 p2 wZ wE wQ wS wP) wZ wE wQ wS wP mn mx))))])) _
    refine XS.iload X10.here hx rfl (hb hby at_71) rfl ?_
    exact k
  by_cases hc73_12 : (f2 (f4 (f1 p1 wZ wE wQ wS wP) (f1 p2 wZ wE wQ wS wP) wZ wE wQ wS wP mn mx) (mn (f4 (f1 p1 wZ wE wQ wS wP) (f1 p2 wZ wE wQ wS wP) wZ wE wQ wS wP mn mx))) = (f5 (f2 (f1 p1 wZ wE wQ wS wP) (mn (f1 p1 wZ wE wQ wS wP))) (f2 (f1 p2 wZ wE wQ wS wP) (mn (f1 p2 wZ wE wQ wS wP))))
  · obtain ⟨cq13, kq13, q13a, q13b, q13c⟩ := isOf hZ e10 (Ex _ (own_oc4 _ _ _ _ _ _ _ _ _))
    obtain ⟨_, _, ⟨T13, L13, k13, n13⟩, -, X13, ⟨Lc13, hQ13, l13, y13, z13⟩, st13⟩ := X10.virtualBack hx (y := (⟨"com/example/stepwise/stepwise/model/Occurrence", "max", "()I"⟩ : MethodName)) (z := (⟨"com/example/stepwise/stepwise/model/Occurrence", "max", "()I"⟩ : MethodName)) hown (mvT hZ (hw _ (List.mem_of_getElem? (i := 17) rfl))) (mvT hZ (hw _ (List.mem_of_getElem? (i := 18) rfl))) (notFace_of_selects (args := #[]) (mvT hZ (hw _ (List.mem_of_getElem? (i := 20) rfl)))) (mvT hZ (hw _ (List.mem_of_getElem? (i := 20) rfl))) (mvT hZ (hw _ (List.mem_of_getElem? (i := 19) rfl))) (by decide) (backOf (W := 0) (rm3 l Z a0 hw [] (f4 (f1 p1 wZ wE wQ wS wP) (f1 p2 wZ wE wQ wS wP) wZ wE wQ wS wP mn mx)  h0 n0 (mx (f4 (f1 p1 wZ wE wQ wS wP) (f1 p2 wZ wE wQ wS wP) wZ wE wQ wS wP mn mx)) (Fmx _ (own_oc4 _ _ _ _ _ _ _ _ _))) hZ (hw _ (List.mem_of_getElem? (i := 21) rfl)) (hw _ (List.mem_of_getElem? (i := 6) rfl)) (by decide) (by decide)) q13a q13c (g := (mkF m 78 #[.val (.int p1), .val (.int p2), .val (.ref (f1 p1 wZ wE wQ wS wP)), .val (.ref (f1 p2 wZ wE wQ wS wP)), .val (.int (f2 (f1 p1 wZ wE wQ wS wP) (mn (f1 p1 wZ wE wQ wS wP)))), .val (.int (f3 (f1 p1 wZ wE wQ wS wP) (mx (f1 p1 wZ wE wQ wS wP)))), .val (.int (f2 (f1 p2 wZ wE wQ wS wP) (mn (f1 p2 wZ wE wQ wS wP)))), .val (.int (f3 (f1 p2 wZ wE wQ wS wP) (mx (f1 p2 wZ wE wQ wS wP)))), .val (.ref (f4 (f1 p1 wZ wE wQ wS wP) (f1 p2 wZ wE wQ wS wP) wZ wE wQ wS wP mn mx)), .val (.int (f5 (f2 (f1 p1 wZ wE wQ wS wP) (mn (f1 p1 wZ wE wQ wS wP))) (f2 (f1 p2 wZ wE wQ wS wP) (mn (f1 p2 wZ wE wQ wS wP))))), .val (.int (f5 (f3 (f1 p1 wZ wE wQ wS wP) (mx (f1 p1 wZ wE wQ wS wP))) (f3 (f1 p2 wZ wE wQ wS wP) (mx (f1 p2 wZ wE wQ wS wP)))))] [(.ref (f4 (f1 p1 wZ wE wQ wS wP) (f1 p2 wZ wE wQ wS wP) wZ wE wQ wS wP mn mx))])) rfl (by rw [hml]; rfl) (Steps.refl _) (argsL := []) (rest := []) (lenOf pd1 rfl) rfl (by show 2 * 0 + _ ≤ _; exact Nat.le_of_eq rfl) (hb hby at_78) (fun _ _ => ⟨rfl, e10, (by decide : 0 + 0 ≤ _), (by decide : 0 + 0 ≤ _)⟩)
    dsimp only [Pt.U, Pt.locs, Pt.cells, Pt.slots] at X13 l13 y13 z13 st13 hQ13
    subst l13 y13 z13
    obtain ⟨rfl, N13q, e13⟩ := hQ13
    have N13 := Fr.app N10 N13q
    have pre14 : ∀ t, Steps p.tables e below (T13.setTop (mkF m 83 #[.val (.int p1), .val (.int p2), .val (.ref (f1 p1 wZ wE wQ wS wP)), .val (.ref (f1 p2 wZ wE wQ wS wP)), .val (.int (f2 (f1 p1 wZ wE wQ wS wP) (mn (f1 p1 wZ wE wQ wS wP)))), .val (.int (f3 (f1 p1 wZ wE wQ wS wP) (mx (f1 p1 wZ wE wQ wS wP)))), .val (.int (f2 (f1 p2 wZ wE wQ wS wP) (mn (f1 p2 wZ wE wQ wS wP)))), .val (.int (f3 (f1 p2 wZ wE wQ wS wP) (mx (f1 p2 wZ wE wQ wS wP)))), .val (.ref (f4 (f1 p1 wZ wE wQ wS wP) (f1 p2 wZ wE wQ wS wP) wZ wE wQ wS wP mn mx)), .val (.int (f5 (f2 (f1 p1 wZ wE wQ wS wP) (mn (f1 p1 wZ wE wQ wS wP))) (f2 (f1 p2 wZ wE wQ wS wP) (mn (f1 p2 wZ wE wQ wS wP))))), .val (.int (f5 (f3 (f1 p1 wZ wE wQ wS wP) (mx (f1 p1 wZ wE wQ wS wP))) (f3 (f1 p2 wZ wE wQ wS wP) (mx (f1 p2 wZ wE wQ wS wP)))))] [(.int (f5 (f3 (f1 p1 wZ wE wQ wS wP) (mx (f1 p1 wZ wE wQ wS wP))) (f3 (f1 p2 wZ wE wQ wS wP) (mx (f1 p2 wZ wE wQ wS wP))))), (.int (f3 (f4 (f1 p1 wZ wE wQ wS wP) (f1 p2 wZ wE wQ wS wP) wZ wE wQ wS wP mn mx) (mx (f4 (f1 p1 wZ wE wQ wS wP) (f1 p2 wZ wE wQ wS wP) wZ wE wQ wS wP mn mx))))])) t → Steps p.tables e below (s₁.setTop (entryFrame m #[(.int p1), (.int p2)] maxLocals)) t := by
      intro t k
      refine pre11 t ?_
      show Steps p.tables e below (T10.setTop (mkF m 73 #[.val (.int p1), .val (.int p2), .val (.ref (f1 p1 wZ wE wQ wS wP)), .val (.ref (f1 p2 wZ wE wQ wS wP)), .val (.int (f2 (f1 p1 wZ wE wQ wS wP) (mn (f1 p1 wZ wE wQ wS wP)))), .val (.int (f3 (f1 p1 wZ wE wQ wS wP) (mx (f1 p1 wZ wE wQ wS wP)))), .val (.int (f2 (f1 p2 wZ wE wQ wS wP) (mn (f1 p2 wZ wE wQ wS wP)))), .val (.int (f3 (f1 p2 wZ wE wQ wS wP) (mx (f1 p2 wZ wE wQ wS wP)))), .val (.ref (f4 (f1 p1 wZ wE wQ wS wP) (f1 p2 wZ wE wQ wS wP) wZ wE wQ wS wP mn mx)), .val (.int (f5 (f2 (f1 p1 wZ wE wQ wS wP) (mn (f1 p1 wZ wE wQ wS wP))) (f2 (f1 p2 wZ wE wQ wS wP) (mn (f1 p2 wZ wE wQ wS wP))))), .val (.int (f5 (f3 (f1 p1 wZ wE wQ wS wP) (mx (f1 p1 wZ wE wQ wS wP))) (f3 (f1 p2 wZ wE wQ wS wP) (mx (f1 p2 wZ wE wQ wS wP)))))] [(.int (f5 (f2 (f1 p1 wZ wE wQ wS wP) (mn (f1 p1 wZ wE wQ wS wP))) (f2 (f1 p2 wZ wE wQ wS wP) (mn (f1 p2 wZ wE wQ wS wP))))), (.int (f2 (f4 (f1 p1 wZ wE wQ wS wP) (f1 p2 wZ wE wQ wS wP) wZ wE wQ wS wP mn mx) (mn (f4 (f1 p1 wZ wE wQ wS wP) (f1 p2 wZ wE wQ wS wP) wZ wE wQ wS wP mn mx))))])) _
      refine XS.icmpNo X10.here hx rfl (hb hby at_73) rfl (teq hc73_12).2 ?_
      show Steps p.tables e below (T10.setTop (mkF m 76 #[.val (.int p1), .val (.int p2), .val (.ref (f1 p1 wZ wE wQ wS wP)), .val (.ref (f1 p2 wZ wE wQ wS wP)), .val (.int (f2 (f1 p1 wZ wE wQ wS wP) (mn (f1 p1 wZ wE wQ wS wP)))), .val (.int (f3 (f1 p1 wZ wE wQ wS wP) (mx (f1 p1 wZ wE wQ wS wP)))), .val (.int (f2 (f1 p2 wZ wE wQ wS wP) (mn (f1 p2 wZ wE wQ wS wP)))), .val (.int (f3 (f1 p2 wZ wE wQ wS wP) (mx (f1 p2 wZ wE wQ wS wP)))), .val (.ref (f4 (f1 p1 wZ wE wQ wS wP) (f1 p2 wZ wE wQ wS wP) wZ wE wQ wS wP mn mx)), .val (.int (f5 (f2 (f1 p1 wZ wE wQ wS wP) (mn (f1 p1 wZ wE wQ wS wP))) (f2 (f1 p2 wZ wE wQ wS wP) (mn (f1 p2 wZ wE wQ wS wP))))), .val (.int (f5 (f3 (f1 p1 wZ wE wQ wS wP) (mx (f1 p1 wZ wE wQ wS wP))) (f3 (f1 p2 wZ wE wQ wS wP) (mx (f1 p2 wZ wE wQ wS wP)))))] [])) _
      refine XS.aload X10.here hx rfl (hb hby at_76) rfl rfl ?_
      show Steps p.tables e below (T10.setTop (mkF m 78 #[.val (.int p1), .val (.int p2), .val (.ref (f1 p1 wZ wE wQ wS wP)), .val (.ref (f1 p2 wZ wE wQ wS wP)), .val (.int (f2 (f1 p1 wZ wE wQ wS wP) (mn (f1 p1 wZ wE wQ wS wP)))), .val (.int (f3 (f1 p1 wZ wE wQ wS wP) (mx (f1 p1 wZ wE wQ wS wP)))), .val (.int (f2 (f1 p2 wZ wE wQ wS wP) (mn (f1 p2 wZ wE wQ wS wP)))), .val (.int (f3 (f1 p2 wZ wE wQ wS wP) (mx (f1 p2 wZ wE wQ wS wP)))), .val (.ref (f4 (f1 p1 wZ wE wQ wS wP) (f1 p2 wZ wE wQ wS wP) wZ wE wQ wS wP mn mx)), .val (.int (f5 (f2 (f1 p1 wZ wE wQ wS wP) (mn (f1 p1 wZ wE wQ wS wP))) (f2 (f1 p2 wZ wE wQ wS wP) (mn (f1 p2 wZ wE wQ wS wP))))), .val (.int (f5 (f3 (f1 p1 wZ wE wQ wS wP) (mx (f1 p1 wZ wE wQ wS wP))) (f3 (f1 p2 wZ wE wQ wS wP) (mx (f1 p2 wZ wE wQ wS wP)))))] [(.ref (f4 (f1 p1 wZ wE wQ wS wP) (f1 p2 wZ wE wQ wS wP) wZ wE wQ wS wP mn mx))])) _
      refine st13.trans ?_
      show Steps p.tables e below (T13.setTop (mkF m 81 #[.val (.int p1), .val (.int p2), .val (.ref (f1 p1 wZ wE wQ wS wP)), .val (.ref (f1 p2 wZ wE wQ wS wP)), .val (.int (f2 (f1 p1 wZ wE wQ wS wP) (mn (f1 p1 wZ wE wQ wS wP)))), .val (.int (f3 (f1 p1 wZ wE wQ wS wP) (mx (f1 p1 wZ wE wQ wS wP)))), .val (.int (f2 (f1 p2 wZ wE wQ wS wP) (mn (f1 p2 wZ wE wQ wS wP)))), .val (.int (f3 (f1 p2 wZ wE wQ wS wP) (mx (f1 p2 wZ wE wQ wS wP)))), .val (.ref (f4 (f1 p1 wZ wE wQ wS wP) (f1 p2 wZ wE wQ wS wP) wZ wE wQ wS wP mn mx)), .val (.int (f5 (f2 (f1 p1 wZ wE wQ wS wP) (mn (f1 p1 wZ wE wQ wS wP))) (f2 (f1 p2 wZ wE wQ wS wP) (mn (f1 p2 wZ wE wQ wS wP))))), .val (.int (f5 (f3 (f1 p1 wZ wE wQ wS wP) (mx (f1 p1 wZ wE wQ wS wP))) (f3 (f1 p2 wZ wE wQ wS wP) (mx (f1 p2 wZ wE wQ wS wP)))))] [(.int (f3 (f4 (f1 p1 wZ wE wQ wS wP) (f1 p2 wZ wE wQ wS wP) wZ wE wQ wS wP mn mx) (mx (f4 (f1 p1 wZ wE wQ wS wP) (f1 p2 wZ wE wQ wS wP) wZ wE wQ wS wP mn mx))))])) _
      refine XS.iload X13.here hx rfl (hb hby at_81) rfl ?_
      exact k
    by_cases hc83_15 : (f3 (f4 (f1 p1 wZ wE wQ wS wP) (f1 p2 wZ wE wQ wS wP) wZ wE wQ wS wP mn mx) (mx (f4 (f1 p1 wZ wE wQ wS wP) (f1 p2 wZ wE wQ wS wP) wZ wE wQ wS wP mn mx))) = (f5 (f3 (f1 p1 wZ wE wQ wS wP) (mx (f1 p1 wZ wE wQ wS wP))) (f3 (f1 p2 wZ wE wQ wS wP) (mx (f1 p2 wZ wE wQ wS wP))))
    · refine hneg ?_
      obtain ⟨fs, hr, hrun, hended, hW, hsame⟩ := X13.leave (v := some (.int (1 : Int32))) (fun h => by rw [Bd.returns] at h; cases h)
      refine ⟨_, _, pre14 _ ?_, hrun, hended, _, _, rfl, ?_, ⟨_, rfl⟩, hW, hsame.mono (by decide) (by decide)⟩
      · show Steps p.tables e below (T13.setTop (mkF m 83 #[.val (.int p1), .val (.int p2), .val (.ref (f1 p1 wZ wE wQ wS wP)), .val (.ref (f1 p2 wZ wE wQ wS wP)), .val (.int (f2 (f1 p1 wZ wE wQ wS wP) (mn (f1 p1 wZ wE wQ wS wP)))), .val (.int (f3 (f1 p1 wZ wE wQ wS wP) (mx (f1 p1 wZ wE wQ wS wP)))), .val (.int (f2 (f1 p2 wZ wE wQ wS wP) (mn (f1 p2 wZ wE wQ wS wP)))), .val (.int (f3 (f1 p2 wZ wE wQ wS wP) (mx (f1 p2 wZ wE wQ wS wP)))), .val (.ref (f4 (f1 p1 wZ wE wQ wS wP) (f1 p2 wZ wE wQ wS wP) wZ wE wQ wS wP mn mx)), .val (.int (f5 (f2 (f1 p1 wZ wE wQ wS wP) (mn (f1 p1 wZ wE wQ wS wP))) (f2 (f1 p2 wZ wE wQ wS wP) (mn (f1 p2 wZ wE wQ wS wP))))), .val (.int (f5 (f3 (f1 p1 wZ wE wQ wS wP) (mx (f1 p1 wZ wE wQ wS wP))) (f3 (f1 p2 wZ wE wQ wS wP) (mx (f1 p2 wZ wE wQ wS wP)))))] [(.int (f5 (f3 (f1 p1 wZ wE wQ wS wP) (mx (f1 p1 wZ wE wQ wS wP))) (f3 (f1 p2 wZ wE wQ wS wP) (mx (f1 p2 wZ wE wQ wS wP))))), (.int (f3 (f4 (f1 p1 wZ wE wQ wS wP) (f1 p2 wZ wE wQ wS wP) wZ wE wQ wS wP mn mx) (mx (f4 (f1 p1 wZ wE wQ wS wP) (f1 p2 wZ wE wQ wS wP) wZ wE wQ wS wP mn mx))))])) _
        refine XS.icmpNo X13.here hx rfl (hb hby at_83) rfl (teq hc83_15).2 ?_
        show Steps p.tables e below (T13.setTop (mkF m 86 #[.val (.int p1), .val (.int p2), .val (.ref (f1 p1 wZ wE wQ wS wP)), .val (.ref (f1 p2 wZ wE wQ wS wP)), .val (.int (f2 (f1 p1 wZ wE wQ wS wP) (mn (f1 p1 wZ wE wQ wS wP)))), .val (.int (f3 (f1 p1 wZ wE wQ wS wP) (mx (f1 p1 wZ wE wQ wS wP)))), .val (.int (f2 (f1 p2 wZ wE wQ wS wP) (mn (f1 p2 wZ wE wQ wS wP)))), .val (.int (f3 (f1 p2 wZ wE wQ wS wP) (mx (f1 p2 wZ wE wQ wS wP)))), .val (.ref (f4 (f1 p1 wZ wE wQ wS wP) (f1 p2 wZ wE wQ wS wP) wZ wE wQ wS wP mn mx)), .val (.int (f5 (f2 (f1 p1 wZ wE wQ wS wP) (mn (f1 p1 wZ wE wQ wS wP))) (f2 (f1 p2 wZ wE wQ wS wP) (mn (f1 p2 wZ wE wQ wS wP))))), .val (.int (f5 (f3 (f1 p1 wZ wE wQ wS wP) (mx (f1 p1 wZ wE wQ wS wP))) (f3 (f1 p2 wZ wE wQ wS wP) (mx (f1 p2 wZ wE wQ wS wP)))))] [])) _
        refine XS.iconst X13.here hx rfl (hb hby at_86) ?_
        show Steps p.tables e below (T13.setTop (mkF m 87 #[.val (.int p1), .val (.int p2), .val (.ref (f1 p1 wZ wE wQ wS wP)), .val (.ref (f1 p2 wZ wE wQ wS wP)), .val (.int (f2 (f1 p1 wZ wE wQ wS wP) (mn (f1 p1 wZ wE wQ wS wP)))), .val (.int (f3 (f1 p1 wZ wE wQ wS wP) (mx (f1 p1 wZ wE wQ wS wP)))), .val (.int (f2 (f1 p2 wZ wE wQ wS wP) (mn (f1 p2 wZ wE wQ wS wP)))), .val (.int (f3 (f1 p2 wZ wE wQ wS wP) (mx (f1 p2 wZ wE wQ wS wP)))), .val (.ref (f4 (f1 p1 wZ wE wQ wS wP) (f1 p2 wZ wE wQ wS wP) wZ wE wQ wS wP mn mx)), .val (.int (f5 (f2 (f1 p1 wZ wE wQ wS wP) (mn (f1 p1 wZ wE wQ wS wP))) (f2 (f1 p2 wZ wE wQ wS wP) (mn (f1 p2 wZ wE wQ wS wP))))), .val (.int (f5 (f3 (f1 p1 wZ wE wQ wS wP) (mx (f1 p1 wZ wE wQ wS wP))) (f3 (f1 p2 wZ wE wQ wS wP) (mx (f1 p2 wZ wE wQ wS wP)))))] [(.int (1 : Int32))])) _
        refine XS.goto X13.here hx rfl (pc0 := 87) (pc' := 91) rfl (hb hby at_87) (by decide) (by decide) ?_
        show Steps p.tables e below (T13.setTop (mkF m 91 #[.val (.int p1), .val (.int p2), .val (.ref (f1 p1 wZ wE wQ wS wP)), .val (.ref (f1 p2 wZ wE wQ wS wP)), .val (.int (f2 (f1 p1 wZ wE wQ wS wP) (mn (f1 p1 wZ wE wQ wS wP)))), .val (.int (f3 (f1 p1 wZ wE wQ wS wP) (mx (f1 p1 wZ wE wQ wS wP)))), .val (.int (f2 (f1 p2 wZ wE wQ wS wP) (mn (f1 p2 wZ wE wQ wS wP)))), .val (.int (f3 (f1 p2 wZ wE wQ wS wP) (mx (f1 p2 wZ wE wQ wS wP)))), .val (.ref (f4 (f1 p1 wZ wE wQ wS wP) (f1 p2 wZ wE wQ wS wP) wZ wE wQ wS wP mn mx)), .val (.int (f5 (f2 (f1 p1 wZ wE wQ wS wP) (mn (f1 p1 wZ wE wQ wS wP))) (f2 (f1 p2 wZ wE wQ wS wP) (mn (f1 p2 wZ wE wQ wS wP))))), .val (.int (f5 (f3 (f1 p1 wZ wE wQ wS wP) (mx (f1 p1 wZ wE wQ wS wP))) (f3 (f1 p2 wZ wE wQ wS wP) (mx (f1 p2 wZ wE wQ wS wP)))))] [(.int (1 : Int32))])) _
        exact retN X13 hx (t := .boolean) Bd.returns (by simp) (hb hby at_91) hr
      · show Q0 Z p1 p2 wZ wE wQ wS wP mn mx h0 n0 _ T13.heap _
        rw [e13]
        refine ⟨?_, N13, rfl⟩
        rw [show f0 p1 p2 wZ wE wQ wS wP mn mx = (1 : Int32) from (by skip; simp only [f0, if_pos hc73_12, if_pos hc83_15])]
    · refine hneg ?_
      obtain ⟨fs, hr, hrun, hended, hW, hsame⟩ := X13.leave (v := some (.int (0 : Int32))) (fun h => by rw [Bd.returns] at h; cases h)
      refine ⟨_, _, pre14 _ ?_, hrun, hended, _, _, rfl, ?_, ⟨_, rfl⟩, hW, hsame.mono (by decide) (by decide)⟩
      · show Steps p.tables e below (T13.setTop (mkF m 83 #[.val (.int p1), .val (.int p2), .val (.ref (f1 p1 wZ wE wQ wS wP)), .val (.ref (f1 p2 wZ wE wQ wS wP)), .val (.int (f2 (f1 p1 wZ wE wQ wS wP) (mn (f1 p1 wZ wE wQ wS wP)))), .val (.int (f3 (f1 p1 wZ wE wQ wS wP) (mx (f1 p1 wZ wE wQ wS wP)))), .val (.int (f2 (f1 p2 wZ wE wQ wS wP) (mn (f1 p2 wZ wE wQ wS wP)))), .val (.int (f3 (f1 p2 wZ wE wQ wS wP) (mx (f1 p2 wZ wE wQ wS wP)))), .val (.ref (f4 (f1 p1 wZ wE wQ wS wP) (f1 p2 wZ wE wQ wS wP) wZ wE wQ wS wP mn mx)), .val (.int (f5 (f2 (f1 p1 wZ wE wQ wS wP) (mn (f1 p1 wZ wE wQ wS wP))) (f2 (f1 p2 wZ wE wQ wS wP) (mn (f1 p2 wZ wE wQ wS wP))))), .val (.int (f5 (f3 (f1 p1 wZ wE wQ wS wP) (mx (f1 p1 wZ wE wQ wS wP))) (f3 (f1 p2 wZ wE wQ wS wP) (mx (f1 p2 wZ wE wQ wS wP)))))] [(.int (f5 (f3 (f1 p1 wZ wE wQ wS wP) (mx (f1 p1 wZ wE wQ wS wP))) (f3 (f1 p2 wZ wE wQ wS wP) (mx (f1 p2 wZ wE wQ wS wP))))), (.int (f3 (f4 (f1 p1 wZ wE wQ wS wP) (f1 p2 wZ wE wQ wS wP) wZ wE wQ wS wP mn mx) (mx (f4 (f1 p1 wZ wE wQ wS wP) (f1 p2 wZ wE wQ wS wP) wZ wE wQ wS wP mn mx))))])) _
        refine XS.icmpYes X13.here hx rfl (pc0 := 83) (pc' := 90) rfl (hb hby at_83) rfl (feq hc83_15).2 (by decide) (by decide) ?_
        show Steps p.tables e below (T13.setTop (mkF m 90 #[.val (.int p1), .val (.int p2), .val (.ref (f1 p1 wZ wE wQ wS wP)), .val (.ref (f1 p2 wZ wE wQ wS wP)), .val (.int (f2 (f1 p1 wZ wE wQ wS wP) (mn (f1 p1 wZ wE wQ wS wP)))), .val (.int (f3 (f1 p1 wZ wE wQ wS wP) (mx (f1 p1 wZ wE wQ wS wP)))), .val (.int (f2 (f1 p2 wZ wE wQ wS wP) (mn (f1 p2 wZ wE wQ wS wP)))), .val (.int (f3 (f1 p2 wZ wE wQ wS wP) (mx (f1 p2 wZ wE wQ wS wP)))), .val (.ref (f4 (f1 p1 wZ wE wQ wS wP) (f1 p2 wZ wE wQ wS wP) wZ wE wQ wS wP mn mx)), .val (.int (f5 (f2 (f1 p1 wZ wE wQ wS wP) (mn (f1 p1 wZ wE wQ wS wP))) (f2 (f1 p2 wZ wE wQ wS wP) (mn (f1 p2 wZ wE wQ wS wP))))), .val (.int (f5 (f3 (f1 p1 wZ wE wQ wS wP) (mx (f1 p1 wZ wE wQ wS wP))) (f3 (f1 p2 wZ wE wQ wS wP) (mx (f1 p2 wZ wE wQ wS wP)))))] [])) _
        refine XS.iconst X13.here hx rfl (hb hby at_90) ?_
        show Steps p.tables e below (T13.setTop (mkF m 91 #[.val (.int p1), .val (.int p2), .val (.ref (f1 p1 wZ wE wQ wS wP)), .val (.ref (f1 p2 wZ wE wQ wS wP)), .val (.int (f2 (f1 p1 wZ wE wQ wS wP) (mn (f1 p1 wZ wE wQ wS wP)))), .val (.int (f3 (f1 p1 wZ wE wQ wS wP) (mx (f1 p1 wZ wE wQ wS wP)))), .val (.int (f2 (f1 p2 wZ wE wQ wS wP) (mn (f1 p2 wZ wE wQ wS wP)))), .val (.int (f3 (f1 p2 wZ wE wQ wS wP) (mx (f1 p2 wZ wE wQ wS wP)))), .val (.ref (f4 (f1 p1 wZ wE wQ wS wP) (f1 p2 wZ wE wQ wS wP) wZ wE wQ wS wP mn mx)), .val (.int (f5 (f2 (f1 p1 wZ wE wQ wS wP) (mn (f1 p1 wZ wE wQ wS wP))) (f2 (f1 p2 wZ wE wQ wS wP) (mn (f1 p2 wZ wE wQ wS wP))))), .val (.int (f5 (f3 (f1 p1 wZ wE wQ wS wP) (mx (f1 p1 wZ wE wQ wS wP))) (f3 (f1 p2 wZ wE wQ wS wP) (mx (f1 p2 wZ wE wQ wS wP)))))] [(.int (0 : Int32))])) _
        exact retN X13 hx (t := .boolean) Bd.returns (by simp) (hb hby at_91) hr
      · show Q0 Z p1 p2 wZ wE wQ wS wP mn mx h0 n0 _ T13.heap _
        rw [e13]
        refine ⟨?_, N13, rfl⟩
        rw [show f0 p1 p2 wZ wE wQ wS wP mn mx = (0 : Int32) from (by skip; simp only [f0, if_pos hc73_12, if_neg hc83_15])]
  · refine hneg ?_
    obtain ⟨fs, hr, hrun, hended, hW, hsame⟩ := X10.leave (v := some (.int (0 : Int32))) (fun h => by rw [Bd.returns] at h; cases h)
    refine ⟨_, _, pre11 _ ?_, hrun, hended, _, _, rfl, ?_, ⟨_, rfl⟩, hW, hsame.mono (by decide) (by decide)⟩
    · show Steps p.tables e below (T10.setTop (mkF m 73 #[.val (.int p1), .val (.int p2), .val (.ref (f1 p1 wZ wE wQ wS wP)), .val (.ref (f1 p2 wZ wE wQ wS wP)), .val (.int (f2 (f1 p1 wZ wE wQ wS wP) (mn (f1 p1 wZ wE wQ wS wP)))), .val (.int (f3 (f1 p1 wZ wE wQ wS wP) (mx (f1 p1 wZ wE wQ wS wP)))), .val (.int (f2 (f1 p2 wZ wE wQ wS wP) (mn (f1 p2 wZ wE wQ wS wP)))), .val (.int (f3 (f1 p2 wZ wE wQ wS wP) (mx (f1 p2 wZ wE wQ wS wP)))), .val (.ref (f4 (f1 p1 wZ wE wQ wS wP) (f1 p2 wZ wE wQ wS wP) wZ wE wQ wS wP mn mx)), .val (.int (f5 (f2 (f1 p1 wZ wE wQ wS wP) (mn (f1 p1 wZ wE wQ wS wP))) (f2 (f1 p2 wZ wE wQ wS wP) (mn (f1 p2 wZ wE wQ wS wP))))), .val (.int (f5 (f3 (f1 p1 wZ wE wQ wS wP) (mx (f1 p1 wZ wE wQ wS wP))) (f3 (f1 p2 wZ wE wQ wS wP) (mx (f1 p2 wZ wE wQ wS wP)))))] [(.int (f5 (f2 (f1 p1 wZ wE wQ wS wP) (mn (f1 p1 wZ wE wQ wS wP))) (f2 (f1 p2 wZ wE wQ wS wP) (mn (f1 p2 wZ wE wQ wS wP))))), (.int (f2 (f4 (f1 p1 wZ wE wQ wS wP) (f1 p2 wZ wE wQ wS wP) wZ wE wQ wS wP mn mx) (mn (f4 (f1 p1 wZ wE wQ wS wP) (f1 p2 wZ wE wQ wS wP) wZ wE wQ wS wP mn mx))))])) _
      refine XS.icmpYes X10.here hx rfl (pc0 := 73) (pc' := 90) rfl (hb hby at_73) rfl (feq hc73_12).2 (by decide) (by decide) ?_
      show Steps p.tables e below (T10.setTop (mkF m 90 #[.val (.int p1), .val (.int p2), .val (.ref (f1 p1 wZ wE wQ wS wP)), .val (.ref (f1 p2 wZ wE wQ wS wP)), .val (.int (f2 (f1 p1 wZ wE wQ wS wP) (mn (f1 p1 wZ wE wQ wS wP)))), .val (.int (f3 (f1 p1 wZ wE wQ wS wP) (mx (f1 p1 wZ wE wQ wS wP)))), .val (.int (f2 (f1 p2 wZ wE wQ wS wP) (mn (f1 p2 wZ wE wQ wS wP)))), .val (.int (f3 (f1 p2 wZ wE wQ wS wP) (mx (f1 p2 wZ wE wQ wS wP)))), .val (.ref (f4 (f1 p1 wZ wE wQ wS wP) (f1 p2 wZ wE wQ wS wP) wZ wE wQ wS wP mn mx)), .val (.int (f5 (f2 (f1 p1 wZ wE wQ wS wP) (mn (f1 p1 wZ wE wQ wS wP))) (f2 (f1 p2 wZ wE wQ wS wP) (mn (f1 p2 wZ wE wQ wS wP))))), .val (.int (f5 (f3 (f1 p1 wZ wE wQ wS wP) (mx (f1 p1 wZ wE wQ wS wP))) (f3 (f1 p2 wZ wE wQ wS wP) (mx (f1 p2 wZ wE wQ wS wP)))))] [])) _
      refine XS.iconst X10.here hx rfl (hb hby at_90) ?_
      show Steps p.tables e below (T10.setTop (mkF m 91 #[.val (.int p1), .val (.int p2), .val (.ref (f1 p1 wZ wE wQ wS wP)), .val (.ref (f1 p2 wZ wE wQ wS wP)), .val (.int (f2 (f1 p1 wZ wE wQ wS wP) (mn (f1 p1 wZ wE wQ wS wP)))), .val (.int (f3 (f1 p1 wZ wE wQ wS wP) (mx (f1 p1 wZ wE wQ wS wP)))), .val (.int (f2 (f1 p2 wZ wE wQ wS wP) (mn (f1 p2 wZ wE wQ wS wP)))), .val (.int (f3 (f1 p2 wZ wE wQ wS wP) (mx (f1 p2 wZ wE wQ wS wP)))), .val (.ref (f4 (f1 p1 wZ wE wQ wS wP) (f1 p2 wZ wE wQ wS wP) wZ wE wQ wS wP mn mx)), .val (.int (f5 (f2 (f1 p1 wZ wE wQ wS wP) (mn (f1 p1 wZ wE wQ wS wP))) (f2 (f1 p2 wZ wE wQ wS wP) (mn (f1 p2 wZ wE wQ wS wP))))), .val (.int (f5 (f3 (f1 p1 wZ wE wQ wS wP) (mx (f1 p1 wZ wE wQ wS wP))) (f3 (f1 p2 wZ wE wQ wS wP) (mx (f1 p2 wZ wE wQ wS wP)))))] [(.int (0 : Int32))])) _
      exact retN X10 hx (t := .boolean) Bd.returns (by simp) (hb hby at_91) hr
    · show Q0 Z p1 p2 wZ wE wQ wS wP mn mx h0 n0 _ T10.heap _
      rw [e10]
      refine ⟨?_, N10, rfl⟩
      rw [show f0 p1 p2 wZ wE wQ wS wP mn mx = (0 : Int32) from (by skip; simp only [f0, if_neg hc73_12])]
theorem own_law (p1 p2 : Int32) (wZ wE wQ wS wP : Addr) (mn mx : Addr → Int32) (nwZ : mn wZ = 0) (xwZ : mx wZ = 0) (nwE : mn wE = 1) (xwE : mx wE = 1) (nwQ : mn wQ = 0) (xwQ : mx wQ = 1) (nwS : mn wS = 0) (xwS : mx wS = 2147483647) (nwP : mn wP = 1) (xwP : mx wP = 2147483647) : f0 p1 p2 wZ wE wQ wS wP mn mx = 1 := by
  have h1 := own_oc1 p1 wZ wE wQ wS wP
  have h2 := own_oc1 p2 wZ wE wQ wS wP
  unfold f0
  generalize f1 p1 wZ wE wQ wS wP = a at *
  generalize f1 p2 wZ wE wQ wS wP = b at *
  rcases h1 with h1 | h1 | h1 | h1 | h1 <;> rcases h2 with h2 | h2 | h2 | h2 | h2 <;> rw [h1, h2] <;> simp +decide [f2, f3, f4, f5, lcmpW, nwZ, xwZ, nwE, xwE, nwQ, xwQ, nwS, xwS, nwP, xwP]
def own_ival (o : Option Value) : Int32 := match o with | some (.int z) => z | _ => 0
theorem own_eqi {args : Array Value} {s s' : State} {o : Option Outcome} {idx : List Nat} {t : Jvm.Term} {k : Int32} (h : (Jvm.Cond.eq t (Jvm.Term.int k)).value args s o s' idx = some true) : t.eval args s o idx s' = some (.int k) := by
  have hi : (Jvm.Term.int k).eval args s o idx s' = some (.int k) := rfl
  cases ht : t.eval args s o idx s' with
  | none => simp only [Cond.value, ht, hi] at h; exact absurd h (by simp)
  | some z =>
    cases z <;> simp only [Cond.value, ht, hi] at h <;> first | (simp only [Option.some.injEq, decide_eq_true_eq] at h; rw [h]) | exact absurd h (by simp)
theorem own_fv {s : State} {args : Array Value} {t : Jvm.Term} {C n d : String} {k : Int32} {a : Addr} (ev : t.eval args s none [] s = some (.ref a)) (h : (Jvm.Cond.eq (Jvm.Term.field t C n d) (Jvm.Term.int k)).value args s none s [] = some true) : s.fieldOf? a C n d = some (.int k) :=
  (fld_at (C := C) (n := n) (dd := d) ev).symm.trans (own_eqi h)
set_option maxRecDepth 65536 in
set_option maxHeartbeats 40000000 in
theorem comes_1 {Post : Tables → Env → Array Value → State → Outcome → State → Prop} (hpost : ∀ tb e args s v u, (limb_1_1.after args s (.returned v) u = true ∧ limb_1_2.after args s (.returned v) u = true ∧ True) → FrameEnd s (.returned v) u (Jvm.fieldLocs frame_1_writes args s ++ Jvm.arrayLocs frame_1_arrays args s ++ Jvm.staticLocs frame_1_statics s) 0 0 → Post tb e args s (.returned v) u) :
    ArmFor flags0 classFile x code maxLocals ret World_1 tables_1 room_1 Calls_1 rest_1 Pre_1 Post := by
  intro l hfl _ _ p e ha hc hk s m args below hf hA hF happ hP
  obtain ⟨hcalls, hrest, hpre⟩ := hP
  obtain ⟨-, -, -, hnamed, -, -, -, hat⟩ := (Spec.applies_iff hf).mp happ
  obtain ⟨hg, hn⟩ := and_e (Cond.before_iff.mp (show (Jvm.Cond.and given_1 narrow_1).before args s = true from hpre))
  obtain ⟨gc, g0⟩ := and_e hg
  obtain ⟨ga0, gb0⟩ := and_e g0
  obtain ⟨w0, w1, rfl⟩ : ∃ w0 w1 : Value, args = #[w0, w1] := by
    have hs : args.size = 2 := by simpa [Cond.value, given_1] using gc
    obtain ⟨L⟩ := args
    match L, hs with
    | [w0, w1], _ => exact ⟨w0, w1, rfl⟩
  have hw := fun d (hd : d ∈ tables_1) => atoms_spec (ws := Jvm.Cond.code x code maxLocals ret :: tables_1) hat d (List.mem_cons_of_mem _ hd)
  have hfit : Fit s := fun {y c} hc i hi => by
    obtain ⟨ha, rfl⟩ := Array.getElem?_eq_some_iff.mp hc
    have q := List.all_eq_true.mp ((Array.all_eq_true_iff_forall_mem.mp hF) _ (Array.getElem_mem ha)) i (List.mem_range.mpr hi)
    simpa [Array.getElem?_eq_getElem hi] using q
  obtain ⟨i0, ei0⟩ := is_v ga0
  obtain rfl : w0 = (.int i0) := Option.some.inj ei0
  obtain ⟨i1, ei1⟩ := is_v gb0
  obtain rfl : w1 = (.int i1) := Option.some.inj ei1
  obtain ⟨cEwZ, r0⟩ := and_e hn
  obtain ⟨cEwS, r1⟩ := and_e r0
  obtain ⟨cnwZ, r2⟩ := and_e r1
  obtain ⟨cxwZ, r3⟩ := and_e r2
  obtain ⟨cnwS, r4⟩ := and_e r3
  obtain ⟨cxwS, r5⟩ := and_e r4
  obtain ⟨cEwP, r6⟩ := and_e r5
  obtain ⟨cEwE, r7⟩ := and_e r6
  obtain ⟨cnwP, r8⟩ := and_e r7
  obtain ⟨cxwP, r9⟩ := and_e r8
  obtain ⟨cnwE, r10⟩ := and_e r9
  obtain ⟨cxwE, r11⟩ := and_e r10
  obtain ⟨cEwQ, r12⟩ := and_e r11
  obtain ⟨cnwQ, r13⟩ := and_e r12
  have cxwQ := r13
  obtain ⟨wZ, evwZ⟩ := exa_v cEwZ
  have E_wZ := Exa.start evwZ cEwZ
  have S_wZ := Sta.start evwZ (Or.inr ⟨(hw _ (List.mem_of_getElem? (i := 6) rfl)), (hw _ (List.mem_of_getElem? (i := 7) rfl))⟩)
  have fnwZ : s.fieldOf? wZ "com/example/stepwise/stepwise/model/Occurrence" "min" "I" = some (.int 0) := own_fv evwZ cnwZ
  have fxwZ : s.fieldOf? wZ "com/example/stepwise/stepwise/model/Occurrence" "max" "I" = some (.int 0) := own_fv evwZ cxwZ
  obtain ⟨wE, evwE⟩ := exa_v cEwE
  have E_wE := Exa.start evwE cEwE
  have S_wE := Sta.start evwE (Or.inr ⟨(hw _ (List.mem_of_getElem? (i := 6) rfl)), (hw _ (List.mem_of_getElem? (i := 37) rfl))⟩)
  have fnwE : s.fieldOf? wE "com/example/stepwise/stepwise/model/Occurrence" "min" "I" = some (.int 1) := own_fv evwE cnwE
  have fxwE : s.fieldOf? wE "com/example/stepwise/stepwise/model/Occurrence" "max" "I" = some (.int 1) := own_fv evwE cxwE
  obtain ⟨wQ, evwQ⟩ := exa_v cEwQ
  have E_wQ := Exa.start evwQ cEwQ
  have S_wQ := Sta.start evwQ (Or.inr ⟨(hw _ (List.mem_of_getElem? (i := 6) rfl)), (hw _ (List.mem_of_getElem? (i := 42) rfl))⟩)
  have fnwQ : s.fieldOf? wQ "com/example/stepwise/stepwise/model/Occurrence" "min" "I" = some (.int 0) := own_fv evwQ cnwQ
  have fxwQ : s.fieldOf? wQ "com/example/stepwise/stepwise/model/Occurrence" "max" "I" = some (.int 1) := own_fv evwQ cxwQ
  obtain ⟨wS, evwS⟩ := exa_v cEwS
  have E_wS := Exa.start evwS cEwS
  have S_wS := Sta.start evwS (Or.inr ⟨(hw _ (List.mem_of_getElem? (i := 6) rfl)), (hw _ (List.mem_of_getElem? (i := 9) rfl))⟩)
  have fnwS : s.fieldOf? wS "com/example/stepwise/stepwise/model/Occurrence" "min" "I" = some (.int 0) := own_fv evwS cnwS
  have fxwS : s.fieldOf? wS "com/example/stepwise/stepwise/model/Occurrence" "max" "I" = some (.int 2147483647) := own_fv evwS cxwS
  obtain ⟨wP, evwP⟩ := exa_v cEwP
  have E_wP := Exa.start evwP cEwP
  have S_wP := Sta.start evwP (Or.inr ⟨(hw _ (List.mem_of_getElem? (i := 6) rfl)), (hw _ (List.mem_of_getElem? (i := 35) rfl))⟩)
  have fnwP : s.fieldOf? wP "com/example/stepwise/stepwise/model/Occurrence" "min" "I" = some (.int 1) := own_fv evwP cnwP
  have fxwP : s.fieldOf? wP "com/example/stepwise/stepwise/model/Occurrence" "max" "I" = some (.int 2147483647) := own_fv evwP cxwP
  let mn : Addr → Int32 := fun a => own_ival (s.fieldOf? a "com/example/stepwise/stepwise/model/Occurrence" "min" "I")
  let mx : Addr → Int32 := fun a => own_ival (s.fieldOf? a "com/example/stepwise/stepwise/model/Occurrence" "max" "I")
  have nwZ : mn wZ = 0 := by show own_ival _ = _; rw [fnwZ]; rfl
  have xwZ : mx wZ = 0 := by show own_ival _ = _; rw [fxwZ]; rfl
  have nwE : mn wE = 1 := by show own_ival _ = _; rw [fnwE]; rfl
  have xwE : mx wE = 1 := by show own_ival _ = _; rw [fxwE]; rfl
  have nwQ : mn wQ = 0 := by show own_ival _ = _; rw [fnwQ]; rfl
  have xwQ : mx wQ = 1 := by show own_ival _ = _; rw [fxwQ]; rfl
  have nwS : mn wS = 0 := by show own_ival _ = _; rw [fnwS]; rfl
  have xwS : mx wS = 2147483647 := by show own_ival _ = _; rw [fxwS]; rfl
  have nwP : mn wP = 1 := by show own_ival _ = _; rw [fnwP]; rfl
  have xwP : mx wP = 2147483647 := by show own_ival _ = _; rw [fxwP]; rfl
  have Fmn : ∀ a, Oc wZ wE wQ wS wP a → Fld s s.heap a "com/example/stepwise/stepwise/model/Occurrence" "min" "I" (.int (mn a)) := by
    intro a ha
    rcases ha with rfl | rfl | rfl | rfl | rfl
    · rw [nwZ]; exact Fld.start fnwZ
    · rw [nwE]; exact Fld.start fnwE
    · rw [nwQ]; exact Fld.start fnwQ
    · rw [nwS]; exact Fld.start fnwS
    · rw [nwP]; exact Fld.start fnwP
  have Fmx : ∀ a, Oc wZ wE wQ wS wP a → Fld s s.heap a "com/example/stepwise/stepwise/model/Occurrence" "max" "I" (.int (mx a)) := by
    intro a ha
    rcases ha with rfl | rfl | rfl | rfl | rfl
    · rw [xwZ]; exact Fld.start fxwZ
    · rw [xwE]; exact Fld.start fxwE
    · rw [xwQ]; exact Fld.start fxwQ
    · rw [xwS]; exact Fld.start fxwS
    · rw [xwP]; exact Fld.start fxwP
  have Ex : ∀ a, Oc wZ wE wQ wS wP a → Exa s s.heap a "com/example/stepwise/stepwise/model/Occurrence" := by
    intro a ha
    rcases ha with rfl | rfl | rfl | rfl | rfl
    · exact E_wZ
    · exact E_wE
    · exact E_wQ
    · exact E_wS
    · exact E_wP
  obtain ⟨n, o, h1, h2, h3, v, L, rfl, ⟨hv1, N, -⟩, hq⟩ := rm0 l s _ hw tables_1 i0 i1 s.heap s.heap.size wZ wE wQ wS wP mn mx S_wZ S_wE S_wQ S_wS S_wP Fmn Fmx Ex p e ha hc hk s m _ below hf ((Spec.applies_iff_loose hf).mp happ).1 ⟨rfl, State.Warmed39.refl s, rfl⟩ trivial
  rw [own_law _ _ _ _ _ _ _ _ _ nwZ xwZ nwE xwE nwQ xwQ nwS xwS nwP xwP] at hv1
  subst hv1
  refine ⟨n, _, h1, h2, h3, hpost _ _ _ _ _ _ ⟨Cond.after_iff.mpr rfl, Cond.after_iff.mpr (eq_i res_at (Term.int_eval (1)) rfl), trivial⟩ ⟨hq.1, hq.2.1, (hq.2.2.sift fun y hy => Or.inr (N y hy)).mono (by decide) (by decide)⟩⟩
theorem main_1_1 : Claimed_1_1 := comes_1 fun _ _ _ _ _ _ h hF => ⟨h.1, hF⟩
theorem main_1_2 : Claimed_1_2 := comes_1 fun _ _ _ _ _ _ h hF => ⟨h.2.1, hF⟩
end Jvm.Pilot.@@N@@
namespace Jvm.Pilot.@@N@@
open Jvm Jvm.ClassFile Sem Op Lib Jvm.Free Jvm.Stand Jvm.Pilot.@@N@@.Jvm.D
/-! MADE BY PROGRAM (witnessworld.py) out of the Statement's table words and the real class files: 12 classes; the members and pool entries that the words name. The judged class is class 1, her method 3. -/
namespace start1
open Jvm.ClassFile
def u (s : String) : CpInfo := .utf8 (stringToUtf16 s)
/-- a pool by its gaps: so many unusable entries, then the entry; so many at the end -/
def gap : Nat → List CpInfo → List CpInfo
  | 0, r => r
  | n + 1, r => .unusable :: gap n r
def poolList (es : List (Nat × CpInfo)) (last : Nat) : List CpInfo := es.foldr (fun e r => gap e.1 (e.2 :: r)) (gap last [])
def pool (es : List (Nat × CpInfo)) (last : Nat) : Array CpInfo := ⟨poolList es last⟩
def fileOf (pool : Array CpInfo) (this : Nat) (attrs : Array Attribute := #[]) (ms : Array MethodInfo := #[]) (fl : Nat := 33) (sup : Nat := 0) (ifs : Array Nat := #[]) (fds : Array FieldInfo := #[]) : ClassFile where
  minorVersion := 0
  majorVersion := 65
  constantPool := pool
  accessFlags := fl
  thisClass := this
  superClass := sup
  interfaces := ifs
  fields := fds
  methods := ms
  attributes := attrs
def plain (name : String) (sup : Option ClassId) : Class where
  name := name
  kind := .ordinary
  loader := none
  accessFlags := 33
  super := sup
  interfaces := #[]
  cf := none
  fields := #[]
  methods := #[]
  instanceTypes := #[]
  staticTypes := #[]
  resolved := #[]
  callSites := []
  init := .initialized
  statics := none
  mirror := none

def pool0 : Array CpInfo := pool [(5, u "<init>"), (0, u "()V"), (1, .class_ 10), (1, u "java/lang/Object")] 113

def k0m0 : Method := { name := "<init>", desc := "()V", sig := { parameters := [], returnType := none }, accessFlags := 1, code := none }
/-- java/lang/Object -/
def k0 : Class := { plain "java/lang/Object" none with
  accessFlags := 33
  interfaces := #[]
  cf := some (fileOf pool0 8 #[] #[{ accessFlags := 1, nameIndex := 5, descriptorIndex := 6, attributes := #[] }] 33 0 #[] #[])
  fields := #[]
  methods := #[k0m0]
  instanceTypes := #[]
  staticTypes := #[]
  resolved := Array.replicate 124 none
  statics := none }

def pool1 : Array CpInfo := pool [(2, .class_ 4), (1, u "java/lang/Object"), (0, u "<init>"), (0, u "()V"), (0, .integer 2147483647), (0, .fieldref 9 10), (0, .class_ 11), (0, .nameAndType 12 13), (0, u "com/example/stepwise/stepwise/model/Occurrence"), (0, u "ZERO"), (0, u "Lcom/example/stepwise/stepwise/model/Occurrence;"), (0, .fieldref 9 15), (0, .nameAndType 16 13), (0, u "EXACTLY_ONE"), (0, .fieldref 9 18), (0, .nameAndType 19 13), (0, u "ZERO_OR_ONE"), (0, .fieldref 9 21), (0, .nameAndType 22 13), (0, u "ZERO_OR_MORE"), (0, .fieldref 9 24), (0, .nameAndType 25 13), (0, u "ONE_OR_MORE"), (2, .long 2147483647), (1, .methodref 31 32), (0, .class_ 33), (0, .nameAndType 34 35), (0, u "com/example/stepwise/stepwise/model/OccurrenceTimesPinLaw"), (0, u "pick"), (0, u "(I)Lcom/example/stepwise/stepwise/model/Occurrence;"), (0, .methodref 9 37), (0, .nameAndType 38 39), (0, u "min"), (0, u "()I"), (0, .methodref 9 41), (0, .nameAndType 42 39), (0, u "max"), (0, .methodref 9 44), (0, .nameAndType 45 46), (0, u "times"), (0, u "(Lcom/example/stepwise/stepwise/model/Occurrence;)Lcom/example/stepwise/stepwise/model/Occurrence;"), (0, .methodref 31 48), (0, .nameAndType 49 50), (0, u "saturatingProduct"), (0, u "(II)I"), (3, u "law"), (0, u "(II)Z")] 2

def k1m0 : Method := { name := "<init>", desc := "()V", sig := { parameters := [], returnType := none }, accessFlags := 2, code := none }
def k1c1 : Code := { maxStack := 2, maxLocals := 2, code := method_2_code, exceptionTable := #[], attributes := #[] }
def k1m1 : Method := { name := "pick", desc := "(I)Lcom/example/stepwise/stepwise/model/Occurrence;", sig := { parameters := [.int], returnType := some (.object "com/example/stepwise/stepwise/model/Occurrence") }, accessFlags := 10, code := some k1c1 }
def k1c2 : Code := { maxStack := 4, maxLocals := 4, code := method_3_code, exceptionTable := #[], attributes := #[] }
def k1m2 : Method := { name := "saturatingProduct", desc := "(II)I", sig := { parameters := [.int, .int], returnType := some .int }, accessFlags := 10, code := some k1c2 }
def k1c3 : Code := { maxStack := 2, maxLocals := 11, code := code, exceptionTable := #[], attributes := #[] }
def k1m3 : Method := { name := "law", desc := "(II)Z", sig := { parameters := [.int, .int], returnType := some .boolean }, accessFlags := 9, code := some k1c3 }
/-- com/example/stepwise/stepwise/model/OccurrenceTimesPinLaw -/
def k1 : Class := { plain "com/example/stepwise/stepwise/model/OccurrenceTimesPinLaw" (some 0) with
  accessFlags := 49
  interfaces := #[]
  cf := some (fileOf pool1 31 #[] #[{ accessFlags := 2, nameIndex := 5, descriptorIndex := 6, attributes := #[] }, { accessFlags := 10, nameIndex := 34, descriptorIndex := 35, attributes := #[] }, { accessFlags := 10, nameIndex := 49, descriptorIndex := 50, attributes := #[] }, { accessFlags := 9, nameIndex := 54, descriptorIndex := 55, attributes := #[] }] 49 2 #[] #[])
  fields := #[]
  methods := #[k1m0, k1m1, k1m2, k1m3]
  instanceTypes := #[]
  staticTypes := #[]
  resolved := Array.replicate 58 none
  statics := none }

def pool2 : Array CpInfo := pool [(1, .class_ 2), (0, u "java/lang/constant/Constable"), (0, .class_ 4), (0, u "java/lang/Object")] 6

/-- java/lang/constant/Constable -/
def k2 : Class := { plain "java/lang/constant/Constable" (some 0) with
  accessFlags := 1537
  interfaces := #[]
  cf := some (fileOf pool2 1 #[] #[] 1537 3 #[] #[])
  fields := #[]
  methods := #[]
  instanceTypes := #[]
  staticTypes := #[]
  resolved := Array.replicate 11 none
  statics := none }

def pool3 : Array CpInfo := pool [(1, .class_ 2), (0, u "java/lang/Comparable"), (0, .class_ 4), (0, u "java/lang/Object")] 7

/-- java/lang/Comparable -/
def k3 : Class := { plain "java/lang/Comparable" (some 0) with
  accessFlags := 1537
  interfaces := #[]
  cf := some (fileOf pool3 1 #[] #[] 1537 3 #[] #[])
  fields := #[]
  methods := #[]
  instanceTypes := #[]
  staticTypes := #[]
  resolved := Array.replicate 12 none
  statics := none }

def pool4 : Array CpInfo := pool [(1, .class_ 2), (0, u "java/io/Serializable"), (0, .class_ 4), (0, u "java/lang/Object")] 2

/-- java/io/Serializable -/
def k4 : Class := { plain "java/io/Serializable" (some 0) with
  accessFlags := 1537
  interfaces := #[]
  cf := some (fileOf pool4 1 #[] #[] 1537 3 #[] #[])
  fields := #[]
  methods := #[]
  instanceTypes := #[]
  staticTypes := #[]
  resolved := Array.replicate 7 none
  statics := none }

def pool5 : Array CpInfo := pool [(2, .class_ 4), (1, u "java/lang/Enum"), (0, u "name"), (0, u "Ljava/lang/String;"), (2, u "ordinal"), (0, u "I"), (1, .class_ 14), (1, u "java/lang/Object"), (4, u "hash"), (86, .class_ 108), (1, u "java/lang/Enum$EnumDesc"), (2, .class_ 112), (0, u "java/lang/constant/Constable"), (0, .class_ 114), (0, u "java/lang/Comparable"), (0, .class_ 116), (0, u "java/io/Serializable")] 87

/-- java/lang/Enum -/
def k5 : Class := { plain "java/lang/Enum" (some 0) with
  accessFlags := 1057
  interfaces := #[2, 3, 4]
  cf := some (fileOf pool5 2 #[.nestMembers #[106]] #[] 1057 12 #[111, 113, 115] #[{ accessFlags := 18, nameIndex := 5, descriptorIndex := 6, attributes := #[] }, { accessFlags := 18, nameIndex := 9, descriptorIndex := 10, attributes := #[] }, { accessFlags := 2, nameIndex := 19, descriptorIndex := 10, attributes := #[] }])
  fields := #[{ name := "name", type := (.object "java/lang/String"), accessFlags := 18, slot := 0, constantValue := 0 }, { name := "ordinal", type := .int, accessFlags := 18, slot := 1, constantValue := 0 }, { name := "hash", type := .int, accessFlags := 2, slot := 2, constantValue := 0 }]
  methods := #[]
  instanceTypes := #[(.object "java/lang/String"), .int, .int]
  staticTypes := #[]
  resolved := Array.replicate 204 none
  statics := none }

def pool6 : Array CpInfo := pool [(1, .class_ 2), (0, u "com/example/stepwise/stepwise/model/Occurrence"), (0, .fieldref 1 4), (0, .nameAndType 5 6), (0, u "ZERO"), (0, u "Lcom/example/stepwise/stepwise/model/Occurrence;"), (0, .fieldref 1 8), (0, .nameAndType 9 6), (0, u "EXACTLY_ONE"), (0, .fieldref 1 11), (0, .nameAndType 12 6), (0, u "ZERO_OR_ONE"), (0, .fieldref 1 14), (0, .nameAndType 15 6), (0, u "ZERO_OR_MORE"), (0, .fieldref 1 17), (0, .nameAndType 18 6), (0, u "ONE_OR_MORE"), (2, u "$VALUES"), (0, u "[Lcom/example/stepwise/stepwise/model/Occurrence;"), (6, .class_ 31), (1, u "java/lang/Enum"), (8, u "indicator"), (0, u "Ljava/lang/String;"), (0, .fieldref 1 43), (0, .nameAndType 44 45), (0, u "min"), (0, u "I"), (0, .fieldref 1 47), (0, .nameAndType 48 45), (0, u "max"), (33, u "()I"), (0, u "times"), (0, u "(Lcom/example/stepwise/stepwise/model/Occurrence;)Lcom/example/stepwise/stepwise/model/Occurrence;")] 7

def k6c0 : Code := { maxStack := 1, maxLocals := 1, code := prog_222_method_5_code, exceptionTable := #[], attributes := #[] }
def k6m0 : Method := { name := "min", desc := "()I", sig := { parameters := [], returnType := some .int }, accessFlags := 1, code := some k6c0 }
def k6c1 : Code := { maxStack := 1, maxLocals := 1, code := prog_222_method_6_code, exceptionTable := #[], attributes := #[] }
def k6m1 : Method := { name := "max", desc := "()I", sig := { parameters := [], returnType := some .int }, accessFlags := 1, code := some k6c1 }
def k6c2 : Code := { maxStack := 2, maxLocals := 3, code := prog_222_method_7_code, exceptionTable := #[], attributes := #[] }
def k6m2 : Method := { name := "times", desc := "(Lcom/example/stepwise/stepwise/model/Occurrence;)Lcom/example/stepwise/stepwise/model/Occurrence;", sig := { parameters := [(.object "com/example/stepwise/stepwise/model/Occurrence")], returnType := some (.object "com/example/stepwise/stepwise/model/Occurrence") }, accessFlags := 1, code := some k6c2 }
/-- com/example/stepwise/stepwise/model/Occurrence -/
def k6 : Class := { plain "com/example/stepwise/stepwise/model/Occurrence" (some 5) with
  accessFlags := 16433
  interfaces := #[]
  cf := some (fileOf pool6 1 #[] #[{ accessFlags := 1, nameIndex := 44, descriptorIndex := 82, attributes := #[] }, { accessFlags := 1, nameIndex := 48, descriptorIndex := 82, attributes := #[] }, { accessFlags := 1, nameIndex := 83, descriptorIndex := 84, attributes := #[] }] 16433 29 #[] #[{ accessFlags := 16409, nameIndex := 5, descriptorIndex := 6, attributes := #[] }, { accessFlags := 16409, nameIndex := 9, descriptorIndex := 6, attributes := #[] }, { accessFlags := 16409, nameIndex := 12, descriptorIndex := 6, attributes := #[] }, { accessFlags := 16409, nameIndex := 15, descriptorIndex := 6, attributes := #[] }, { accessFlags := 16409, nameIndex := 18, descriptorIndex := 6, attributes := #[] }, { accessFlags := 18, nameIndex := 40, descriptorIndex := 41, attributes := #[] }, { accessFlags := 18, nameIndex := 44, descriptorIndex := 45, attributes := #[] }, { accessFlags := 18, nameIndex := 48, descriptorIndex := 45, attributes := #[] }, { accessFlags := 4122, nameIndex := 21, descriptorIndex := 22, attributes := #[] }])
  fields := #[{ name := "ZERO", type := (.object "com/example/stepwise/stepwise/model/Occurrence"), accessFlags := 16409, slot := 0, constantValue := 0 }, { name := "EXACTLY_ONE", type := (.object "com/example/stepwise/stepwise/model/Occurrence"), accessFlags := 16409, slot := 1, constantValue := 0 }, { name := "ZERO_OR_ONE", type := (.object "com/example/stepwise/stepwise/model/Occurrence"), accessFlags := 16409, slot := 2, constantValue := 0 }, { name := "ZERO_OR_MORE", type := (.object "com/example/stepwise/stepwise/model/Occurrence"), accessFlags := 16409, slot := 3, constantValue := 0 }, { name := "ONE_OR_MORE", type := (.object "com/example/stepwise/stepwise/model/Occurrence"), accessFlags := 16409, slot := 4, constantValue := 0 }, { name := "indicator", type := (.object "java/lang/String"), accessFlags := 18, slot := 3, constantValue := 0 }, { name := "min", type := .int, accessFlags := 18, slot := 4, constantValue := 0 }, { name := "max", type := .int, accessFlags := 18, slot := 5, constantValue := 0 }, { name := "$VALUES", type := (.array (.object "com/example/stepwise/stepwise/model/Occurrence")), accessFlags := 4122, slot := 5, constantValue := 0 }]
  methods := #[k6m0, k6m1, k6m2]
  instanceTypes := #[(.object "java/lang/String"), .int, .int, (.object "java/lang/String"), .int, .int]
  staticTypes := #[(.object "com/example/stepwise/stepwise/model/Occurrence"), (.object "com/example/stepwise/stepwise/model/Occurrence"), (.object "com/example/stepwise/stepwise/model/Occurrence"), (.object "com/example/stepwise/stepwise/model/Occurrence"), (.object "com/example/stepwise/stepwise/model/Occurrence"), (.array (.object "com/example/stepwise/stepwise/model/Occurrence"))]
  resolved := Array.replicate 92 none
  statics := some 0 }

def pool7 : Array CpInfo := pool [(1, u "java/lang/Cloneable"), (0, .class_ 1), (0, u "java/lang/Object"), (0, .class_ 3)] 3

/-- java/lang/Cloneable -/
def k7 : Class := { plain "java/lang/Cloneable" (some 0) with
  accessFlags := 1537
  interfaces := #[]
  cf := some (fileOf pool7 2 #[] #[] 1537 4 #[] #[])
  fields := #[]
  methods := #[]
  instanceTypes := #[]
  staticTypes := #[]
  resolved := Array.replicate 8 none
  statics := none }

/-- the primitive byte -/
def k8 : Class := { plain "byte" none with kind := .primitive 'B', accessFlags := 0x411 }
/-- [B -/
def k9 : Class := { plain "[B" (some 0) with kind := .array 8 .byte, interfaces := #[7, 4], accessFlags := 1041 }

/-- the primitive int -/
def k10 : Class := { plain "int" none with kind := .primitive 'I', accessFlags := 0x411 }
/-- [I -/
def k11 : Class := { plain "[I" (some 0) with kind := .array 10 .int, interfaces := #[7, 4], accessFlags := 1041 }

def heap : Heap := #[{ cls := 6, slots := #[.ref 1, .ref 2, .ref 3, .ref 4, .ref 5, .null], vm := .statics 6 },
  { cls := 6, slots := #[.null, .int 0, .int 0, .null, .int 0, .int 0], vm := .none },
  { cls := 6, slots := #[.null, .int 1, .int 0, .null, .int 1, .int 1], vm := .none },
  { cls := 6, slots := #[.null, .int 2, .int 0, .null, .int 0, .int 1], vm := .none },
  { cls := 6, slots := #[.null, .int 3, .int 0, .null, .int 0, .int 2147483647], vm := .none },
  { cls := 6, slots := #[.null, .int 4, .int 0, .null, .int 1, .int 2147483647], vm := .none }]
def classes : Array Class := #[k0, k1, k2, k3, k4, k5, k6, k7, k8, k9, k10, k11]
def interned : List (Array UInt16 × Addr) := []
def slotsUsed : Nat := 36
def theMethod : MethodId := ⟨1, 3⟩
def args0 : Array Value := #[.int 3, .int 4]
def aboutOver (below : List Frame) : State where
  vm := { classes := classes, interned := interned.toArray }
  heap := heap
  slotsUsed := slotsUsed
  threads := #[{ frames := .invoking theMethod args0 :: below }]
def below0 : List Frame := [.native { method := ⟨0, 0⟩, args := #[] }]
def about1 : State := aboutOver below0
def p0 : Program := .bare "" "" ""
def e0 : Env := launch0.env 0 0 0
theorem w_frames : about1.frames = Frame.invoking theMethod args0 :: below0 := rfl
set_option maxRecDepth 65536 in
theorem w_args : argsFit about1.vm theMethod args0 = true := by decide +kernel
set_option maxRecDepth 65536 in
theorem w_heap : heapFits about1 = true := by decide +kernel
set_option maxRecDepth 65536 in
theorem w_runnable : about1.curStatus? = some .runnable := by decide +kernel
set_option maxRecDepth 65536 in
theorem w_alone : about1.alone = true := by decide +kernel
set_option maxRecDepth 65536 in
theorem w_named : about1.methodNamed? x = some theMethod := by decide +kernel
set_option maxRecDepth 65536 in
theorem w_hears : about1.hears theMethod below0 = true := by decide +kernel
set_option maxRecDepth 65536 in
theorem w_ripe : about1.ripe theMethod args0 below0 = true := by decide +kernel
theorem w_running : about1.status = .running := rfl
set_option maxRecDepth 65536 in
theorem w_room : about1.hasRoom e0.platform room_1 = true :=
  launch0.hasRoom_least _ room_1 (by decide +kernel) (by decide +kernel) (by decide +kernel) (by decide +kernel) (by decide +kernel) (by decide +kernel)
theorem allAtoms_all (ts : List Jvm.Cond) (a : Array Jvm.Value) (st : Jvm.State) : (allAtoms ts).before a st = ts.all (fun c => c.before a st) := by
  induction ts with
  | nil => rfl
  | cons c t ih =>
    show (Jvm.Cond.and c (allAtoms t)).before a st = _
    rw [Jvm.Cond.before_and, ih, List.all_cons]
def words1 : List Jvm.Cond := Jvm.Cond.code x code maxLocals ret :: tables_1
/-- a 'code' word, met by the world's own term for the bytes: nothing is compared byte by byte -/
theorem code_word {y : MethodName} {bytes : ByteArray} {mx : Nat} {rt : Option FieldType} {a : Array Value} {s : State} {m : MethodId} {meth : Method} {c : Code} (h1 : s.methodNamed? y = some m) (h2 : s.vm.method? m = some meth) (h3 : meth.code = some c) (h4 : c.code = bytes)
    (h5 : (c.maxLocals == mx && c.exceptionTable.isEmpty && decide (c.maxStack ≤ mostOperands) && decide (meth.sig.returnType = rt) && !meth.locks && decide (parseMethodDescriptor y.desc = some meth.sig)) = true) : (Jvm.Cond.code y bytes mx rt).before a s = true := by
  simp only [Bool.and_eq_true, beq_iff_eq, Bool.not_eq_true', decide_eq_true_eq] at h5
  obtain ⟨⟨⟨⟨⟨g1, g2⟩, g3⟩, g4⟩, g5⟩, g6⟩ := h5
  simp [Cond.before, Cond.holds, Cond.value, h1, h2, h3, h4, g1, g2, g3, g4, g5, g6]
def isCode : Jvm.Cond → Bool
  | .code _ _ _ _ => true
  | _ => false
theorem all_split {L : List Jvm.Cond} {P : Jvm.Cond → Bool} (h1 : L.all (fun c => isCode c || P c) = true) (h2 : ∀ c ∈ L.filter isCode, P c = true) : L.all P = true := by
  refine List.all_eq_true.mpr fun c hc => ?_
  have h := List.all_eq_true.mp h1 c hc
  rcases Bool.eq_false_or_eq_true (isCode c) with hi | hi
  · exact h2 c (List.mem_filter.mpr ⟨hc, hi⟩)
  · simpa [hi] using h
set_option maxRecDepth 65536 in
theorem w_c0 : (Jvm.Cond.code x code maxLocals ret).before args0 about1 = true := code_word (m := ⟨1, 3⟩) (meth := k1m3) (c := k1c3) (by decide +kernel) rfl rfl rfl (by decide +kernel)
set_option maxRecDepth 65536 in
theorem w_c1 : (Jvm.Cond.code ({ cls := "com/example/stepwise/stepwise/model/OccurrenceTimesPinLaw", name := "pick", desc := "(I)Lcom/example/stepwise/stepwise/model/Occurrence;" } : Jvm.MethodName) method_2_code (2 : Nat) (Option.some (Jvm.ClassFile.FieldType.object "com/example/stepwise/stepwise/model/Occurrence"))).before args0 about1 = true := code_word (m := ⟨1, 1⟩) (meth := k1m1) (c := k1c1) (by decide +kernel) rfl rfl rfl (by decide +kernel)
set_option maxRecDepth 65536 in
theorem w_c2 : (Jvm.Cond.code ({ cls := "com/example/stepwise/stepwise/model/Occurrence", name := "min", desc := "()I" } : Jvm.MethodName) prog_222_method_5_code (1 : Nat) (Option.some Jvm.ClassFile.FieldType.int)).before args0 about1 = true := code_word (m := ⟨6, 0⟩) (meth := k6m0) (c := k6c0) (by decide +kernel) rfl rfl rfl (by decide +kernel)
set_option maxRecDepth 65536 in
theorem w_c3 : (Jvm.Cond.code ({ cls := "com/example/stepwise/stepwise/model/Occurrence", name := "max", desc := "()I" } : Jvm.MethodName) prog_222_method_6_code (1 : Nat) (Option.some Jvm.ClassFile.FieldType.int)).before args0 about1 = true := code_word (m := ⟨6, 1⟩) (meth := k6m1) (c := k6c1) (by decide +kernel) rfl rfl rfl (by decide +kernel)
set_option maxRecDepth 65536 in
theorem w_c4 : (Jvm.Cond.code ({ cls := "com/example/stepwise/stepwise/model/Occurrence", name := "times", desc := "(Lcom/example/stepwise/stepwise/model/Occurrence;)Lcom/example/stepwise/stepwise/model/Occurrence;" } : Jvm.MethodName) prog_222_method_7_code (3 : Nat) (Option.some (Jvm.ClassFile.FieldType.object "com/example/stepwise/stepwise/model/Occurrence"))).before args0 about1 = true := code_word (m := ⟨6, 2⟩) (meth := k6m2) (c := k6c2) (by decide +kernel) rfl rfl rfl (by decide +kernel)
set_option maxRecDepth 65536 in
theorem w_c5 : (Jvm.Cond.code ({ cls := "com/example/stepwise/stepwise/model/OccurrenceTimesPinLaw", name := "saturatingProduct", desc := "(II)I" } : Jvm.MethodName) method_3_code (4 : Nat) (Option.some Jvm.ClassFile.FieldType.int)).before args0 about1 = true := code_word (m := ⟨1, 2⟩) (meth := k1m2) (c := k1c2) (by decide +kernel) rfl rfl rfl (by decide +kernel)
def codes1 : List Jvm.Cond := [Jvm.Cond.code x code maxLocals ret, Jvm.Cond.code ({ cls := "com/example/stepwise/stepwise/model/OccurrenceTimesPinLaw", name := "pick", desc := "(I)Lcom/example/stepwise/stepwise/model/Occurrence;" } : Jvm.MethodName) method_2_code (2 : Nat) (Option.some (Jvm.ClassFile.FieldType.object "com/example/stepwise/stepwise/model/Occurrence")), Jvm.Cond.code ({ cls := "com/example/stepwise/stepwise/model/Occurrence", name := "min", desc := "()I" } : Jvm.MethodName) prog_222_method_5_code (1 : Nat) (Option.some Jvm.ClassFile.FieldType.int), Jvm.Cond.code ({ cls := "com/example/stepwise/stepwise/model/Occurrence", name := "max", desc := "()I" } : Jvm.MethodName) prog_222_method_6_code (1 : Nat) (Option.some Jvm.ClassFile.FieldType.int), Jvm.Cond.code ({ cls := "com/example/stepwise/stepwise/model/Occurrence", name := "times", desc := "(Lcom/example/stepwise/stepwise/model/Occurrence;)Lcom/example/stepwise/stepwise/model/Occurrence;" } : Jvm.MethodName) prog_222_method_7_code (3 : Nat) (Option.some (Jvm.ClassFile.FieldType.object "com/example/stepwise/stepwise/model/Occurrence")), Jvm.Cond.code ({ cls := "com/example/stepwise/stepwise/model/OccurrenceTimesPinLaw", name := "saturatingProduct", desc := "(II)I" } : Jvm.MethodName) method_3_code (4 : Nat) (Option.some Jvm.ClassFile.FieldType.int)]
set_option maxRecDepth 65536 in
theorem codes_eq : words1.filter isCode = codes1 := rfl
theorem w_codes : ∀ c ∈ words1.filter isCode, c.before args0 about1 = true := by
  rw [codes_eq]
  intro c hc
  simp only [codes1, List.mem_cons, List.not_mem_nil, or_false] at hc
  rcases hc with rfl | rfl | rfl | rfl | rfl | rfl
  · exact w_c0
  · exact w_c1
  · exact w_c2
  · exact w_c3
  · exact w_c4
  · exact w_c5
set_option maxRecDepth 65536 in
theorem w_t1 : (words1.take 24).all (fun c => isCode c || c.before args0 about1) = true := by decide +kernel
set_option maxRecDepth 65536 in
theorem w_t2 : (words1.drop 24).all (fun c => isCode c || c.before args0 about1) = true := by decide +kernel
theorem w_tables : (allAtoms (Jvm.Cond.code x code maxLocals ret :: tables_1)).before args0 about1 = true := by
  rw [allAtoms_all]
  show words1.all (fun c => c.before args0 about1) = true
  refine all_split ?_ w_codes
  rw [← List.take_append_drop 24 words1, List.all_append, w_t1, w_t2]
  rfl
set_option maxRecDepth 65536 in
theorem w_case : (Jvm.Cond.and given_1 narrow_1).before args0 about1 = true := by decide +kernel
theorem w_applies : (headSpec (Jvm.Cond.code x code maxLocals ret :: tables_1) room_1).applies x e0.platform about1 = true :=
  (Spec.applies_iff w_frames).mpr ⟨w_running, w_runnable, w_alone, w_named, w_hears, w_ripe, w_room, w_tables⟩
theorem atStart : AtStart classFile x code maxLocals ret World_1 tables_1 room_1 Calls_1 rest_1 Pre_1 launch0 p0 e0 about1 theMethod args0 below0 :=
  ⟨lists_1, trivial, launch0.admits_env _ _ _, launch0.least_env, fairChoices_fair.cas, fairChoices_fair.clock, w_frames, w_args, w_heap, w_applies, trivial, trivial, w_case⟩
end start1
theorem witness_1 : WitnessClaimed_1 := ⟨start1.p0, start1.e0, start1.about1, start1.theMethod, start1.args0, start1.below0, start1.atStart⟩
end Jvm.Pilot.@@N@@
