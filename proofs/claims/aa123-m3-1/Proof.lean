import JvmDerived
import JvmDerived.Pilot.@@N@@Statement
import JvmDerived.Pilot.@@N@@Code
set_option linter.unusedVariables false
set_option linter.unusedSimpArgs false
namespace Jvm.RoadKit
open Sem ClassFile Op Lib Jvm.Stand Jvm.Free Jvm.LawKit
section New
variable {p : Program} {l : Launch} {e : Env} {R : Room} {s : State} {m : MethodId} {args : Array Value} {below : List Frame} {meth : Method} {c : Code} {T : State} {locs : List Loc} {cells slots : Nat}
theorem retI (X : Stand p l e R s m args below meth c T locs cells slots) (hx : p.tables.exec = Jvm.exec) {pc : Nat} {Ls : Array Slot} {z : Int32} {rest : List Value} (hret : meth.sig.returnType = some .int) (hd : decode c.code pc = .ok (.ireturn, 1)) {fs : List Frame}
    (hl : ∀ (f : JFrame) (acts : List Action), f.method = m → f.locked = none → f.entered = [] → (doReturn e (T.setTop f) acts (some (.int z))).1 = T.setFrames fs) : Steps p.tables e below (T.setTop (mkF m pc Ls (.int z :: rest))) (T.setFrames fs) := by
  have hm' : T.vm.method? m = some meth := X.method'
  have hn : narrow .int (.int z) = .int z := rfl
  show Steps p.tables e below (T.setTop { method := m, pc := pc, locals := Ls, stack := _ :: rest, locked := none }) _
  jvm_step X.here [X.here.top, hx, hd, hm', hret, hn]
  first | (intro acts; rw [hl _ acts rfl rfl rfl]) | rw [hl _ _ rfl rfl rfl]
  exact Steps.refl _
end New
end Jvm.RoadKit
namespace Jvm.Pilot.@@N@@
open Jvm Jvm.ClassFile Sem Op Lib Jvm.Free Jvm.Stand Jvm.LawKit Jvm.RoadKit Bundle Jvm.Pilot.@@N@@.Jvm.D
theorem pd0 : parseMethodDescriptor "(ZZ)Z" = some ⟨[.boolean, .boolean], some .boolean⟩ := by decide +kernel
theorem d1_0 : decode prog_166_method_4_code 0 = .ok (.aload_n 0, 1) := by decide +kernel
theorem d1_1 : decode prog_166_method_4_code 1 = .ok (.getstatic 3, 3) := by decide +kernel
theorem d1_4 : decode prog_166_method_4_code 4 = .ok (.if_acmp .ne 15, 3) := by decide +kernel
theorem d1_7 : decode prog_166_method_4_code 7 = .ok (.iload_n 1, 1) := by decide +kernel
theorem d1_8 : decode prog_166_method_4_code 8 = .ok (.ifCond .ne 7, 3) := by decide +kernel
theorem d1_11 : decode prog_166_method_4_code 11 = .ok (.iconst 1, 1) := by decide +kernel
theorem d1_12 : decode prog_166_method_4_code 12 = .ok (.goto 16, 3) := by decide +kernel
theorem d1_15 : decode prog_166_method_4_code 15 = .ok (.iconst 0, 1) := by decide +kernel
theorem d1_16 : decode prog_166_method_4_code 16 = .ok (.goto 12, 3) := by decide +kernel
theorem d1_19 : decode prog_166_method_4_code 19 = .ok (.iload_n 2, 1) := by decide +kernel
theorem d1_20 : decode prog_166_method_4_code 20 = .ok (.ifCond .ne 7, 3) := by decide +kernel
theorem d1_23 : decode prog_166_method_4_code 23 = .ok (.iconst 1, 1) := by decide +kernel
theorem d1_24 : decode prog_166_method_4_code 24 = .ok (.goto 4, 3) := by decide +kernel
theorem d1_27 : decode prog_166_method_4_code 27 = .ok (.iconst 0, 1) := by decide +kernel
theorem d1_28 : decode prog_166_method_4_code 28 = .ok (.ireturn, 1) := by decide +kernel
theorem pn_1 : plainName "com/example/stepwise/stepwise/core/types/TypingMode" = true := by first | (simp [plainName, overriddenIn]; done) | decide +kernel
theorem ef_1 (m : MethodId) (a1 : Addr) (p2 : Int32) (p3 : Int32) : entryFrame m #[(.ref a1), (.int p2), (.int p3)] 3 = mkF m 0 #[.val (.ref a1), .val (.int p2), .val (.int p3)] [] := by first | (simp [entryFrame, mkF, argsToLocals, Value.category]; done) | rfl
def f1 (a1 : Addr) (p2 : Int32) (p3 : Int32) (wO : Addr) : Int32 := (if a1 = wO then (if p2 = (0 : Int32) then (1 : Int32) else (0 : Int32)) else (if p3 = (0 : Int32) then (1 : Int32) else (0 : Int32)))
def Q1 (Z : State) (a1 : Addr) (p2 : Int32) (p3 : Int32) (wO : Addr) (h0 : Heap) (n0 : Nat) (v : Option Value) (h : Heap) (L : List Loc) : Prop := v = some (.int (f1 a1 p2 p3 wO)) ∧ Fr n0 L ∧ h = h0
set_option maxRecDepth 65536 in
set_option maxHeartbeats 40000000 in
theorem rm1 (l : Launch) (Z : State) (a0 : Array Value) (hw : ∀ d ∈ tables_1, d.before a0 Z = true) (ws : List Jvm.Cond) (a1 : Addr) (p2 : Int32) (p3 : Int32) (h0 : Heap) (n0 : Nat) (wO : Addr) (S_wO : Sta Z h0 "com/example/stepwise/stepwise/core/types/TypingMode" "OPTIMISTIC" "Lcom/example/stepwise/stepwise/core/types/TypingMode;" (.ref wO)) :
    MetFree l (⟨"com/example/stepwise/stepwise/core/types/TypingMode", "rejects", "(ZZ)Z"⟩ : MethodName) (head1 (Jvm.Cond.code (⟨"com/example/stepwise/stepwise/core/types/TypingMode", "rejects", "(ZZ)Z"⟩ : MethodName) prog_166_method_4_code 3 (some .boolean) :: ws) ({ frames := 0, cells := 0, slots := 0, locals := 0 } : Room)) (fun a U => a = #[(.ref a1), (.int p2), (.int p3)] ∧ Z.Warmed39 U.vm ∧ U.heap = h0) (fun _ _ _ _ _ => True) (fun _ U o U' => ∃ v L, o = .returned v ∧ Q1 Z a1 p2 p3 wO h0 n0 v U'.heap L ∧ FrameEnd U o U' L ({ frames := 0, cells := 0, slots := 0, locals := 0 } : Room).cells ({ frames := 0, cells := 0, slots := 0, locals := 0 } : Room).slots) := by
  refine MetFree.of_bodySF (plainFor_of_name pn_1) hisR ?_
  intro p e s m args below meth c s₁ Bd hml0 hP hK
  obtain ⟨rfl, hZ, hh⟩ := hP
  have hx := Bd.exec
  have hby := Bd.bytes
  have hml : c.maxLocals = 3 := hml0
  have hown : s.vm.findClass "com/example/stepwise/stepwise/core/types/TypingMode" = some m.cls := findClass_of_methodNamed Bd.named
  have hnm := (name_of_methodNamed Bd.named Bd.method).1
  have X0 : Stand p l e ({ frames := 0, cells := 0, slots := 0, locals := 0 } : Room) s m #[(.ref a1), (.int p2), (.int p3)] below meth c s₁ [] 0 0 := Stand.of_body Bd
  have e0 : s₁.heap = h0 := by rw [← hh, Bd.state]; rfl
  have N0 := Fr.nil n0
  have pre0 : ∀ t, Steps p.tables e below (s₁.setTop (mkF m 0 #[.val (.ref a1), .val (.int p2), .val (.int p3)] [])) t → Steps p.tables e below (s₁.setTop (entryFrame m #[(.ref a1), (.int p2), (.int p3)] 3)) t := fun t k => castTop (ef_1 m a1 p2 p3) k
  refine Classical.byContradiction fun hneg => ?_
  obtain ⟨T1, X1, e1, st1⟩ := getS2 X0 hx hZ hown (host := "") (Or.inl (hw _ (List.mem_of_getElem? (i := 8) rfl))) Via.refl e0 S_wO (g := (mkF m 1 #[.val (.ref a1), .val (.int p2), .val (.int p3)] [(.ref a1)])) rfl (hb hby d1_1)
  have pre2 : ∀ t, Steps p.tables e below (T1.setTop (mkF m 4 #[.val (.ref a1), .val (.int p2), .val (.int p3)] [(.ref wO), (.ref a1)])) t → Steps p.tables e below (s₁.setTop (entryFrame m #[(.ref a1), (.int p2), (.int p3)] 3)) t := by
    intro t k
    refine pre0 t ?_
    show Steps p.tables e below (s₁.setTop (mkF m 0 #[.val (.ref a1), .val (.int p2), .val (.int p3)] [])) _
    refine XS.aloadN X0.here hx rfl (hb hby d1_0) rfl rfl ?_
    show Steps p.tables e below (s₁.setTop (mkF m 1 #[.val (.ref a1), .val (.int p2), .val (.int p3)] [(.ref a1)])) _
    refine st1 _ ?_
    exact k
  by_cases hc4_3 : a1 = wO
  · have pre4 : ∀ t, Steps p.tables e below (T1.setTop (mkF m 8 #[.val (.ref a1), .val (.int p2), .val (.int p3)] [(.int p2)])) t → Steps p.tables e below (s₁.setTop (entryFrame m #[(.ref a1), (.int p2), (.int p3)] 3)) t := by
      intro t k
      refine pre2 t ?_
      show Steps p.tables e below (T1.setTop (mkF m 4 #[.val (.ref a1), .val (.int p2), .val (.int p3)] [(.ref wO), (.ref a1)])) _
      refine Jvm.RoadKit.acmp (g := (mkF m 4 #[.val (.ref a1), .val (.int p2), .val (.int p3)] [(.ref wO), (.ref a1)])) X1 hx rfl rfl rfl (pc0 := 4) (pc' := 7) (same := true) rfl (hb hby d1_4) rfl (decide_eq_true (congrArg Value.ref hc4_3)) (by decide) (by decide) ?_
      show Steps p.tables e below (T1.setTop (mkF m 7 #[.val (.ref a1), .val (.int p2), .val (.int p3)] [])) _
      refine XS.iloadN X1.here hx rfl (hb hby d1_7) rfl ?_
      exact k
    by_cases hc8_5 : p2 = (0 : Int32)
    · refine hneg ?_
      obtain ⟨fs, hr, hrun, hended, hW, hsame⟩ := X1.leave (v := some (.int (1 : Int32))) (fun h => by rw [Bd.returns] at h; cases h)
      refine ⟨_, _, pre4 _ ?_, hrun, hended, _, _, rfl, ?_, ⟨_, rfl⟩, hW, hsame.mono (by decide) (by decide)⟩
      · show Steps p.tables e below (T1.setTop (mkF m 8 #[.val (.ref a1), .val (.int p2), .val (.int p3)] [(.int p2)])) _
        refine XS.ifNo X1.here hx rfl (hb hby d1_8) rfl ((if0 _ _).trans (teq hc8_5).2) ?_
        show Steps p.tables e below (T1.setTop (mkF m 11 #[.val (.ref a1), .val (.int p2), .val (.int p3)] [])) _
        refine XS.iconst X1.here hx rfl (hb hby d1_11) ?_
        show Steps p.tables e below (T1.setTop (mkF m 12 #[.val (.ref a1), .val (.int p2), .val (.int p3)] [(.int (1 : Int32))])) _
        refine XS.goto X1.here hx rfl (pc0 := 12) (pc' := 28) rfl (hb hby d1_12) (by decide) (by decide) ?_
        show Steps p.tables e below (T1.setTop (mkF m 28 #[.val (.ref a1), .val (.int p2), .val (.int p3)] [(.int (1 : Int32))])) _
        exact retN X1 hx (t := .boolean) Bd.returns (by simp) (hb hby d1_28) hr
      · show Q1 Z a1 p2 p3 wO h0 n0 _ T1.heap _
        rw [e1]
        refine ⟨?_, N0, rfl⟩
        rw [show f1 a1 p2 p3 wO = (1 : Int32) from (by skip; simp only [f1, if_pos hc4_3, if_pos hc8_5])]
    · refine hneg ?_
      obtain ⟨fs, hr, hrun, hended, hW, hsame⟩ := X1.leave (v := some (.int (0 : Int32))) (fun h => by rw [Bd.returns] at h; cases h)
      refine ⟨_, _, pre4 _ ?_, hrun, hended, _, _, rfl, ?_, ⟨_, rfl⟩, hW, hsame.mono (by decide) (by decide)⟩
      · show Steps p.tables e below (T1.setTop (mkF m 8 #[.val (.ref a1), .val (.int p2), .val (.int p3)] [(.int p2)])) _
        refine XS.ifYes X1.here hx rfl (pc0 := 8) (pc' := 15) rfl (hb hby d1_8) rfl ((if0 _ _).trans (feq hc8_5).2) (by decide) (by decide) ?_
        show Steps p.tables e below (T1.setTop (mkF m 15 #[.val (.ref a1), .val (.int p2), .val (.int p3)] [])) _
        refine XS.iconst X1.here hx rfl (hb hby d1_15) ?_
        show Steps p.tables e below (T1.setTop (mkF m 16 #[.val (.ref a1), .val (.int p2), .val (.int p3)] [(.int (0 : Int32))])) _
        refine XS.goto X1.here hx rfl (pc0 := 16) (pc' := 28) rfl (hb hby d1_16) (by decide) (by decide) ?_
        show Steps p.tables e below (T1.setTop (mkF m 28 #[.val (.ref a1), .val (.int p2), .val (.int p3)] [(.int (0 : Int32))])) _
        exact retN X1 hx (t := .boolean) Bd.returns (by simp) (hb hby d1_28) hr
      · show Q1 Z a1 p2 p3 wO h0 n0 _ T1.heap _
        rw [e1]
        refine ⟨?_, N0, rfl⟩
        rw [show f1 a1 p2 p3 wO = (0 : Int32) from (by skip; simp only [f1, if_pos hc4_3, if_neg hc8_5])]
  · have pre6 : ∀ t, Steps p.tables e below (T1.setTop (mkF m 20 #[.val (.ref a1), .val (.int p2), .val (.int p3)] [(.int p3)])) t → Steps p.tables e below (s₁.setTop (entryFrame m #[(.ref a1), (.int p2), (.int p3)] 3)) t := by
      intro t k
      refine pre2 t ?_
      show Steps p.tables e below (T1.setTop (mkF m 4 #[.val (.ref a1), .val (.int p2), .val (.int p3)] [(.ref wO), (.ref a1)])) _
      refine Jvm.RoadKit.acmp (g := (mkF m 4 #[.val (.ref a1), .val (.int p2), .val (.int p3)] [(.ref wO), (.ref a1)])) X1 hx rfl rfl rfl (pc0 := 4) (pc' := 19) (same := false) rfl (hb hby d1_4) rfl (decide_eq_false fun q => hc4_3 (Value.ref.inj q)) (by decide) (by decide) ?_
      show Steps p.tables e below (T1.setTop (mkF m 19 #[.val (.ref a1), .val (.int p2), .val (.int p3)] [])) _
      refine XS.iloadN X1.here hx rfl (hb hby d1_19) rfl ?_
      exact k
    by_cases hc20_7 : p3 = (0 : Int32)
    · refine hneg ?_
      obtain ⟨fs, hr, hrun, hended, hW, hsame⟩ := X1.leave (v := some (.int (1 : Int32))) (fun h => by rw [Bd.returns] at h; cases h)
      refine ⟨_, _, pre6 _ ?_, hrun, hended, _, _, rfl, ?_, ⟨_, rfl⟩, hW, hsame.mono (by decide) (by decide)⟩
      · show Steps p.tables e below (T1.setTop (mkF m 20 #[.val (.ref a1), .val (.int p2), .val (.int p3)] [(.int p3)])) _
        refine XS.ifNo X1.here hx rfl (hb hby d1_20) rfl ((if0 _ _).trans (teq hc20_7).2) ?_
        show Steps p.tables e below (T1.setTop (mkF m 23 #[.val (.ref a1), .val (.int p2), .val (.int p3)] [])) _
        refine XS.iconst X1.here hx rfl (hb hby d1_23) ?_
        show Steps p.tables e below (T1.setTop (mkF m 24 #[.val (.ref a1), .val (.int p2), .val (.int p3)] [(.int (1 : Int32))])) _
        refine XS.goto X1.here hx rfl (pc0 := 24) (pc' := 28) rfl (hb hby d1_24) (by decide) (by decide) ?_
        show Steps p.tables e below (T1.setTop (mkF m 28 #[.val (.ref a1), .val (.int p2), .val (.int p3)] [(.int (1 : Int32))])) _
        exact retN X1 hx (t := .boolean) Bd.returns (by simp) (hb hby d1_28) hr
      · show Q1 Z a1 p2 p3 wO h0 n0 _ T1.heap _
        rw [e1]
        refine ⟨?_, N0, rfl⟩
        rw [show f1 a1 p2 p3 wO = (1 : Int32) from (by skip; simp only [f1, if_neg hc4_3, if_pos hc20_7])]
    · refine hneg ?_
      obtain ⟨fs, hr, hrun, hended, hW, hsame⟩ := X1.leave (v := some (.int (0 : Int32))) (fun h => by rw [Bd.returns] at h; cases h)
      refine ⟨_, _, pre6 _ ?_, hrun, hended, _, _, rfl, ?_, ⟨_, rfl⟩, hW, hsame.mono (by decide) (by decide)⟩
      · show Steps p.tables e below (T1.setTop (mkF m 20 #[.val (.ref a1), .val (.int p2), .val (.int p3)] [(.int p3)])) _
        refine XS.ifYes X1.here hx rfl (pc0 := 20) (pc' := 27) rfl (hb hby d1_20) rfl ((if0 _ _).trans (feq hc20_7).2) (by decide) (by decide) ?_
        show Steps p.tables e below (T1.setTop (mkF m 27 #[.val (.ref a1), .val (.int p2), .val (.int p3)] [])) _
        refine XS.iconst X1.here hx rfl (hb hby d1_27) ?_
        show Steps p.tables e below (T1.setTop (mkF m 28 #[.val (.ref a1), .val (.int p2), .val (.int p3)] [(.int (0 : Int32))])) _
        exact retN X1 hx (t := .boolean) Bd.returns (by simp) (hb hby d1_28) hr
      · show Q1 Z a1 p2 p3 wO h0 n0 _ T1.heap _
        rw [e1]
        refine ⟨?_, N0, rfl⟩
        rw [show f1 a1 p2 p3 wO = (0 : Int32) from (by skip; simp only [f1, if_neg hc4_3, if_neg hc20_7])]
theorem pn_0 : plainName "com/example/stepwise/stepwise/core/types/TypingModeRejectsPinLaw" = true := by first | (simp [plainName, overriddenIn]; done) | decide +kernel
theorem ef_0 (m : MethodId) (p1 : Int32) : entryFrame m #[(.int p1)] maxLocals = mkF m 0 #[.val (.int p1), .unset, .unset, .unset, .unset, .unset] [] := by first | (simp [entryFrame, mkF, argsToLocals, Value.category, maxLocals]; done) | rfl
def f0 (p1 : Int32) (wO : Addr) (wP : Addr) : Int32 := (if (p1 &&& (1 : Int32)) = (0 : Int32) then (if (p1 &&& (2 : Int32)) = (0 : Int32) then (if (p1 &&& (4 : Int32)) = (0 : Int32) then (if (f1 wO (0 : Int32) (0 : Int32) wO) = (1 : Int32) then (1 : Int32) else (0 : Int32)) else (if (f1 wO (0 : Int32) (0 : Int32) wO) = (1 : Int32) then (1 : Int32) else (0 : Int32))) else (if (p1 &&& (4 : Int32)) = (0 : Int32) then (if (f1 wO (1 : Int32) (0 : Int32) wO) = (0 : Int32) then (1 : Int32) else (0 : Int32)) else (if (f1 wO (1 : Int32) (1 : Int32) wO) = (0 : Int32) then (1 : Int32) else (0 : Int32)))) else (if (p1 &&& (2 : Int32)) = (0 : Int32) then (if (p1 &&& (4 : Int32)) = (0 : Int32) then (if (f1 wP (0 : Int32) (0 : Int32) wO) = (1 : Int32) then (1 : Int32) else (0 : Int32)) else (if (f1 wP (0 : Int32) (0 : Int32) wO) = (1 : Int32) then (1 : Int32) else (0 : Int32))) else (if (p1 &&& (4 : Int32)) = (0 : Int32) then (if (f1 wP (1 : Int32) (0 : Int32) wO) = (1 : Int32) then (1 : Int32) else (0 : Int32)) else (if (f1 wP (1 : Int32) (1 : Int32) wO) = (0 : Int32) then (1 : Int32) else (0 : Int32)))))
def Q0 (Z : State) (p1 : Int32) (wO : Addr) (wP : Addr) (h0 : Heap) (n0 : Nat) (v : Option Value) (h : Heap) (L : List Loc) : Prop := v = some (.int (f0 p1 wO wP)) ∧ Fr n0 L ∧ h = h0
set_option maxRecDepth 65536 in
set_option maxHeartbeats 40000000 in
theorem rm0 (l : Launch) (Z : State) (a0 : Array Value) (hw : ∀ d ∈ tables_1, d.before a0 Z = true) (ws : List Jvm.Cond) (p1 : Int32) (h0 : Heap) (n0 : Nat) (wO : Addr) (wP : Addr) (S_wO : Sta Z h0 "com/example/stepwise/stepwise/core/types/TypingMode" "OPTIMISTIC" "Lcom/example/stepwise/stepwise/core/types/TypingMode;" (.ref wO)) (S_wP : Sta Z h0 "com/example/stepwise/stepwise/core/types/TypingMode" "PESSIMISTIC" "Lcom/example/stepwise/stepwise/core/types/TypingMode;" (.ref wP)) (E_wO : Exa Z h0 wO "com/example/stepwise/stepwise/core/types/TypingMode") (E_wP : Exa Z h0 wP "com/example/stepwise/stepwise/core/types/TypingMode") :
    MetFree l x (head1 (Jvm.Cond.code x code maxLocals ret :: ws) room_1) (fun a U => a = #[(.int p1)] ∧ Z.Warmed39 U.vm ∧ U.heap = h0) (fun _ _ _ _ _ => True) (fun _ U o U' => ∃ v L, o = .returned v ∧ Q0 Z p1 wO wP h0 n0 v U'.heap L ∧ FrameEnd U o U' L room_1.cells room_1.slots) := by
  refine MetFree.of_bodySF (plainFor_of_name pn_0) hisR ?_
  intro p e s m args below meth c s₁ Bd hml0 hP hK
  obtain ⟨rfl, hZ, hh⟩ := hP
  have hx := Bd.exec
  have hby := Bd.bytes
  have hml : c.maxLocals = 6 := hml0
  have hown : s.vm.findClass "com/example/stepwise/stepwise/core/types/TypingModeRejectsPinLaw" = some m.cls := findClass_of_methodNamed Bd.named
  have hnm := (name_of_methodNamed Bd.named Bd.method).1
  have X0 : Stand p l e room_1 s m #[(.int p1)] below meth c s₁ [] 0 0 := Stand.of_body Bd
  have e0 : s₁.heap = h0 := by rw [← hh, Bd.state]; rfl
  have N0 := Fr.nil n0
  have pre0 : ∀ t, Steps p.tables e below (s₁.setTop (mkF m 0 #[.val (.int p1), .unset, .unset, .unset, .unset, .unset] [])) t → Steps p.tables e below (s₁.setTop (entryFrame m #[(.int p1)] maxLocals)) t := fun t k => castTop (ef_0 m p1) k
  refine Classical.byContradiction fun hneg => ?_
  have pre1 : ∀ t, Steps p.tables e below (s₁.setTop (mkF m 3 #[.val (.int p1), .unset, .unset, .unset, .unset, .unset] [(.int (p1 &&& (1 : Int32)))])) t → Steps p.tables e below (s₁.setTop (entryFrame m #[(.int p1)] maxLocals)) t := by
    intro t k
    refine pre0 t ?_
    show Steps p.tables e below (s₁.setTop (mkF m 0 #[.val (.int p1), .unset, .unset, .unset, .unset, .unset] [])) _
    refine XS.iloadN X0.here hx rfl (hb hby at_0) rfl ?_
    show Steps p.tables e below (s₁.setTop (mkF m 1 #[.val (.int p1), .unset, .unset, .unset, .unset, .unset] [(.int p1)])) _
    refine XS.iconst X0.here hx rfl (hb hby at_1) ?_
    show Steps p.tables e below (s₁.setTop (mkF m 2 #[.val (.int p1), .unset, .unset, .unset, .unset, .unset] [(.int (1 : Int32)), (.int p1)])) _
    refine XS.iand X0.here hx rfl (hb hby at_2) rfl ?_
    exact k
  by_cases hc3_2 : (p1 &&& (1 : Int32)) = (0 : Int32)
  · have pre3 : ∀ t, Steps p.tables e below (s₁.setTop (mkF m 15 #[.val (.int p1), .val (.int (0 : Int32)), .unset, .unset, .unset, .unset] [(.int (p1 &&& (2 : Int32)))])) t → Steps p.tables e below (s₁.setTop (entryFrame m #[(.int p1)] maxLocals)) t := by
      intro t k
      refine pre1 t ?_
      show Steps p.tables e below (s₁.setTop (mkF m 3 #[.val (.int p1), .unset, .unset, .unset, .unset, .unset] [(.int (p1 &&& (1 : Int32)))])) _
      refine XS.ifYes X0.here hx rfl (pc0 := 3) (pc' := 10) rfl (hb hby at_3) rfl ((if0 _ _).trans (teq hc3_2).1) (by decide) (by decide) ?_
      show Steps p.tables e below (s₁.setTop (mkF m 10 #[.val (.int p1), .unset, .unset, .unset, .unset, .unset] [])) _
      refine XS.iconst X0.here hx rfl (hb hby at_10) ?_
      show Steps p.tables e below (s₁.setTop (mkF m 11 #[.val (.int p1), .unset, .unset, .unset, .unset, .unset] [(.int (0 : Int32))])) _
      refine XS.istoreN X0.here hx rfl (hb hby at_11) rfl (l' := #[.val (.int p1), .val (.int (0 : Int32)), .unset, .unset, .unset, .unset]) rfl ?_
      show Steps p.tables e below (s₁.setTop (mkF m 12 #[.val (.int p1), .val (.int (0 : Int32)), .unset, .unset, .unset, .unset] [])) _
      refine XS.iloadN X0.here hx rfl (hb hby at_12) rfl ?_
      show Steps p.tables e below (s₁.setTop (mkF m 13 #[.val (.int p1), .val (.int (0 : Int32)), .unset, .unset, .unset, .unset] [(.int p1)])) _
      refine XS.iconst X0.here hx rfl (hb hby at_13) ?_
      show Steps p.tables e below (s₁.setTop (mkF m 14 #[.val (.int p1), .val (.int (0 : Int32)), .unset, .unset, .unset, .unset] [(.int (2 : Int32)), (.int p1)])) _
      refine XS.iand X0.here hx rfl (hb hby at_14) rfl ?_
      exact k
    by_cases hc15_4 : (p1 &&& (2 : Int32)) = (0 : Int32)
    · have pre5 : ∀ t, Steps p.tables e below (s₁.setTop (mkF m 27 #[.val (.int p1), .val (.int (0 : Int32)), .val (.int (0 : Int32)), .unset, .unset, .unset] [(.int (p1 &&& (4 : Int32)))])) t → Steps p.tables e below (s₁.setTop (entryFrame m #[(.int p1)] maxLocals)) t := by
        intro t k
        refine pre3 t ?_
        show Steps p.tables e below (s₁.setTop (mkF m 15 #[.val (.int p1), .val (.int (0 : Int32)), .unset, .unset, .unset, .unset] [(.int (p1 &&& (2 : Int32)))])) _
        refine XS.ifYes X0.here hx rfl (pc0 := 15) (pc' := 22) rfl (hb hby at_15) rfl ((if0 _ _).trans (teq hc15_4).1) (by decide) (by decide) ?_
        show Steps p.tables e below (s₁.setTop (mkF m 22 #[.val (.int p1), .val (.int (0 : Int32)), .unset, .unset, .unset, .unset] [])) _
        refine XS.iconst X0.here hx rfl (hb hby at_22) ?_
        show Steps p.tables e below (s₁.setTop (mkF m 23 #[.val (.int p1), .val (.int (0 : Int32)), .unset, .unset, .unset, .unset] [(.int (0 : Int32))])) _
        refine XS.istoreN X0.here hx rfl (hb hby at_23) rfl (l' := #[.val (.int p1), .val (.int (0 : Int32)), .val (.int (0 : Int32)), .unset, .unset, .unset]) rfl ?_
        show Steps p.tables e below (s₁.setTop (mkF m 24 #[.val (.int p1), .val (.int (0 : Int32)), .val (.int (0 : Int32)), .unset, .unset, .unset] [])) _
        refine XS.iloadN X0.here hx rfl (hb hby at_24) rfl ?_
        show Steps p.tables e below (s₁.setTop (mkF m 25 #[.val (.int p1), .val (.int (0 : Int32)), .val (.int (0 : Int32)), .unset, .unset, .unset] [(.int p1)])) _
        refine XS.iconst X0.here hx rfl (hb hby at_25) ?_
        show Steps p.tables e below (s₁.setTop (mkF m 26 #[.val (.int p1), .val (.int (0 : Int32)), .val (.int (0 : Int32)), .unset, .unset, .unset] [(.int (4 : Int32)), (.int p1)])) _
        refine XS.iand X0.here hx rfl (hb hby at_26) rfl ?_
        exact k
      by_cases hc27_6 : (p1 &&& (4 : Int32)) = (0 : Int32)
      · obtain ⟨T7, X7, e7, st7⟩ := getS2 X0 hx hZ hown (host := "") (Or.inl (hw _ (List.mem_of_getElem? (i := 0) rfl))) Via.refl e0 S_wO (g := (mkF m 50 #[.val (.int p1), .val (.int (0 : Int32)), .val (.int (0 : Int32)), .val (.int (0 : Int32)), .unset, .unset] [])) rfl (hb hby at_50)
        obtain ⟨cq8, kq8, q8a, q8b, q8c⟩ := isOf hZ e7 E_wO
        obtain ⟨_, _, ⟨T8, L8, k8, n8⟩, -, X8, ⟨Lc8, hQ8, l8, y8, z8⟩, st8⟩ := X7.virtualBack hx (y := (⟨"com/example/stepwise/stepwise/core/types/TypingMode", "rejects", "(ZZ)Z"⟩ : MethodName)) (z := (⟨"com/example/stepwise/stepwise/core/types/TypingMode", "rejects", "(ZZ)Z"⟩ : MethodName)) hown (mvT hZ (hw _ (List.mem_of_getElem? (i := 3) rfl))) (mvT hZ (hw _ (List.mem_of_getElem? (i := 4) rfl))) (notFace_of_selects (args := #[]) (mvT hZ (hw _ (List.mem_of_getElem? (i := 6) rfl)))) (mvT hZ (hw _ (List.mem_of_getElem? (i := 6) rfl))) (mvT hZ (hw _ (List.mem_of_getElem? (i := 5) rfl))) (by decide) (backOf (W := 0) (rm1 l Z a0 hw [] wO (0 : Int32) (0 : Int32)  h0 n0 wO S_wO) hZ (hw _ (List.mem_of_getElem? (i := 7) rfl)) (hw _ (List.mem_of_getElem? (i := 1) rfl)) (by decide) (by decide)) q8a q8c (g := (mkF m 82 #[.val (.int p1), .val (.int (0 : Int32)), .val (.int (0 : Int32)), .val (.int (0 : Int32)), .val (.ref wO), .val (.int (1 : Int32))] [(.int (0 : Int32)), (.int (0 : Int32)), (.ref wO)])) rfl (by rw [hml]; rfl) (Steps.refl _) (argsL := [(.int (0 : Int32)), (.int (0 : Int32))]) (rest := []) (lenOf pd0 rfl) rfl (by show 2 * 0 + _ ≤ _; exact Nat.le_of_eq rfl) (hb hby at_82) (fun _ _ => ⟨rfl, e7, (by decide : 0 + 0 ≤ _), (by decide : 0 + 0 ≤ _)⟩)
        dsimp only [Pt.U, Pt.locs, Pt.cells, Pt.slots] at X8 l8 y8 z8 st8 hQ8
        subst l8 y8 z8
        obtain ⟨rfl, N8q, e8⟩ := hQ8
        have N8 := Fr.app N0 N8q
        have pre9 : ∀ t, Steps p.tables e below (T8.setTop (mkF m 87 #[.val (.int p1), .val (.int (0 : Int32)), .val (.int (0 : Int32)), .val (.int (0 : Int32)), .val (.ref wO), .val (.int (1 : Int32))] [(.int (1 : Int32)), (.int (f1 wO (0 : Int32) (0 : Int32) wO))])) t → Steps p.tables e below (s₁.setTop (entryFrame m #[(.int p1)] maxLocals)) t := by
          intro t k
          refine pre5 t ?_
          show Steps p.tables e below (s₁.setTop (mkF m 27 #[.val (.int p1), .val (.int (0 : Int32)), .val (.int (0 : Int32)), .unset, .unset, .unset] [(.int (p1 &&& (4 : Int32)))])) _
          refine XS.ifYes X0.here hx rfl (pc0 := 27) (pc' := 38) rfl (hb hby at_27) rfl ((if0 _ _).trans (teq hc27_6).1) (by decide) (by decide) ?_
          show Steps p.tables e below (s₁.setTop (mkF m 38 #[.val (.int p1), .val (.int (0 : Int32)), .val (.int (0 : Int32)), .unset, .unset, .unset] [])) _
          refine XS.iconst X0.here hx rfl (hb hby at_38) ?_
          show Steps p.tables e below (s₁.setTop (mkF m 39 #[.val (.int p1), .val (.int (0 : Int32)), .val (.int (0 : Int32)), .unset, .unset, .unset] [(.int (0 : Int32))])) _
          refine XS.istoreN X0.here hx rfl (hb hby at_39) rfl (l' := #[.val (.int p1), .val (.int (0 : Int32)), .val (.int (0 : Int32)), .val (.int (0 : Int32)), .unset, .unset]) rfl ?_
          show Steps p.tables e below (s₁.setTop (mkF m 40 #[.val (.int p1), .val (.int (0 : Int32)), .val (.int (0 : Int32)), .val (.int (0 : Int32)), .unset, .unset] [])) _
          refine XS.iloadN X0.here hx rfl (hb hby at_40) rfl ?_
          show Steps p.tables e below (s₁.setTop (mkF m 41 #[.val (.int p1), .val (.int (0 : Int32)), .val (.int (0 : Int32)), .val (.int (0 : Int32)), .unset, .unset] [(.int (0 : Int32))])) _
          refine XS.ifYes X0.here hx rfl (pc0 := 41) (pc' := 50) rfl (hb hby at_41) rfl ((if0 _ _).trans (teq (by decide : (0 : Int32) = (0 : Int32))).1) (by decide) (by decide) ?_
          show Steps p.tables e below (s₁.setTop (mkF m 50 #[.val (.int p1), .val (.int (0 : Int32)), .val (.int (0 : Int32)), .val (.int (0 : Int32)), .unset, .unset] [])) _
          refine st7 _ ?_
          show Steps p.tables e below (T7.setTop (mkF m 53 #[.val (.int p1), .val (.int (0 : Int32)), .val (.int (0 : Int32)), .val (.int (0 : Int32)), .unset, .unset] [(.ref wO)])) _
          refine XS.astore X7.here hx rfl (hb hby at_53) rfl rfl (l' := #[.val (.int p1), .val (.int (0 : Int32)), .val (.int (0 : Int32)), .val (.int (0 : Int32)), .val (.ref wO), .unset]) rfl ?_
          show Steps p.tables e below (T7.setTop (mkF m 55 #[.val (.int p1), .val (.int (0 : Int32)), .val (.int (0 : Int32)), .val (.int (0 : Int32)), .val (.ref wO), .unset] [])) _
          refine XS.iloadN X7.here hx rfl (hb hby at_55) rfl ?_
          show Steps p.tables e below (T7.setTop (mkF m 56 #[.val (.int p1), .val (.int (0 : Int32)), .val (.int (0 : Int32)), .val (.int (0 : Int32)), .val (.ref wO), .unset] [(.int (0 : Int32))])) _
          refine XS.ifYes X7.here hx rfl (pc0 := 56) (pc' := 65) rfl (hb hby at_56) rfl ((if0 _ _).trans (teq (by decide : (0 : Int32) = (0 : Int32))).1) (by decide) (by decide) ?_
          show Steps p.tables e below (T7.setTop (mkF m 65 #[.val (.int p1), .val (.int (0 : Int32)), .val (.int (0 : Int32)), .val (.int (0 : Int32)), .val (.ref wO), .unset] [])) _
          refine XS.iloadN X7.here hx rfl (hb hby at_65) rfl ?_
          show Steps p.tables e below (T7.setTop (mkF m 66 #[.val (.int p1), .val (.int (0 : Int32)), .val (.int (0 : Int32)), .val (.int (0 : Int32)), .val (.ref wO), .unset] [(.int (0 : Int32))])) _
          refine XS.ifNo X7.here hx rfl (hb hby at_66) rfl ((if0 _ _).trans (teq (by decide : (0 : Int32) = (0 : Int32))).2) ?_
          show Steps p.tables e below (T7.setTop (mkF m 69 #[.val (.int p1), .val (.int (0 : Int32)), .val (.int (0 : Int32)), .val (.int (0 : Int32)), .val (.ref wO), .unset] [])) _
          refine XS.iconst X7.here hx rfl (hb hby at_69) ?_
          show Steps p.tables e below (T7.setTop (mkF m 70 #[.val (.int p1), .val (.int (0 : Int32)), .val (.int (0 : Int32)), .val (.int (0 : Int32)), .val (.ref wO), .unset] [(.int (1 : Int32))])) _
          refine XS.istore X7.here hx rfl (hb hby at_70) rfl (l' := #[.val (.int p1), .val (.int (0 : Int32)), .val (.int (0 : Int32)), .val (.int (0 : Int32)), .val (.ref wO), .val (.int (1 : Int32))]) rfl ?_
          show Steps p.tables e below (T7.setTop (mkF m 72 #[.val (.int p1), .val (.int (0 : Int32)), .val (.int (0 : Int32)), .val (.int (0 : Int32)), .val (.ref wO), .val (.int (1 : Int32))] [])) _
          refine XS.goto X7.here hx rfl (pc0 := 72) (pc' := 78) rfl (hb hby at_72) (by decide) (by decide) ?_
          show Steps p.tables e below (T7.setTop (mkF m 78 #[.val (.int p1), .val (.int (0 : Int32)), .val (.int (0 : Int32)), .val (.int (0 : Int32)), .val (.ref wO), .val (.int (1 : Int32))] [])) _
          refine XS.aload X7.here hx rfl (hb hby at_78) rfl rfl ?_
          show Steps p.tables e below (T7.setTop (mkF m 80 #[.val (.int p1), .val (.int (0 : Int32)), .val (.int (0 : Int32)), .val (.int (0 : Int32)), .val (.ref wO), .val (.int (1 : Int32))] [(.ref wO)])) _
          refine XS.iloadN X7.here hx rfl (hb hby at_80) rfl ?_
          show Steps p.tables e below (T7.setTop (mkF m 81 #[.val (.int p1), .val (.int (0 : Int32)), .val (.int (0 : Int32)), .val (.int (0 : Int32)), .val (.ref wO), .val (.int (1 : Int32))] [(.int (0 : Int32)), (.ref wO)])) _
          refine XS.iloadN X7.here hx rfl (hb hby at_81) rfl ?_
          show Steps p.tables e below (T7.setTop (mkF m 82 #[.val (.int p1), .val (.int (0 : Int32)), .val (.int (0 : Int32)), .val (.int (0 : Int32)), .val (.ref wO), .val (.int (1 : Int32))] [(.int (0 : Int32)), (.int (0 : Int32)), (.ref wO)])) _
          refine st8.trans ?_
          show Steps p.tables e below (T8.setTop (mkF m 85 #[.val (.int p1), .val (.int (0 : Int32)), .val (.int (0 : Int32)), .val (.int (0 : Int32)), .val (.ref wO), .val (.int (1 : Int32))] [(.int (f1 wO (0 : Int32) (0 : Int32) wO))])) _
          refine XS.iload X8.here hx rfl (hb hby at_85) rfl ?_
          exact k
        by_cases hc87_10 : (f1 wO (0 : Int32) (0 : Int32) wO) = (1 : Int32)
        · refine hneg ?_
          obtain ⟨fs, hr, hrun, hended, hW, hsame⟩ := X8.leave (v := some (.int (1 : Int32))) (fun h => by rw [Bd.returns] at h; cases h)
          refine ⟨_, _, pre9 _ ?_, hrun, hended, _, _, rfl, ?_, ⟨_, rfl⟩, hW, hsame.mono (by decide) (by decide)⟩
          · show Steps p.tables e below (T8.setTop (mkF m 87 #[.val (.int p1), .val (.int (0 : Int32)), .val (.int (0 : Int32)), .val (.int (0 : Int32)), .val (.ref wO), .val (.int (1 : Int32))] [(.int (1 : Int32)), (.int (f1 wO (0 : Int32) (0 : Int32) wO))])) _
            refine XS.icmpNo X8.here hx rfl (hb hby at_87) rfl (teq hc87_10).2 ?_
            show Steps p.tables e below (T8.setTop (mkF m 90 #[.val (.int p1), .val (.int (0 : Int32)), .val (.int (0 : Int32)), .val (.int (0 : Int32)), .val (.ref wO), .val (.int (1 : Int32))] [])) _
            refine XS.iconst X8.here hx rfl (hb hby at_90) ?_
            show Steps p.tables e below (T8.setTop (mkF m 91 #[.val (.int p1), .val (.int (0 : Int32)), .val (.int (0 : Int32)), .val (.int (0 : Int32)), .val (.ref wO), .val (.int (1 : Int32))] [(.int (1 : Int32))])) _
            refine XS.goto X8.here hx rfl (pc0 := 91) (pc' := 95) rfl (hb hby at_91) (by decide) (by decide) ?_
            show Steps p.tables e below (T8.setTop (mkF m 95 #[.val (.int p1), .val (.int (0 : Int32)), .val (.int (0 : Int32)), .val (.int (0 : Int32)), .val (.ref wO), .val (.int (1 : Int32))] [(.int (1 : Int32))])) _
            exact retN X8 hx (t := .boolean) Bd.returns (by simp) (hb hby at_95) hr
          · show Q0 Z p1 wO wP h0 n0 _ T8.heap _
            rw [e8]
            refine ⟨?_, N8, rfl⟩
            rw [show f0 p1 wO wP = (1 : Int32) from (by skip; simp only [f0, if_pos hc3_2, if_pos hc15_4, if_pos hc27_6, if_pos hc87_10])]
        · refine hneg ?_
          obtain ⟨fs, hr, hrun, hended, hW, hsame⟩ := X8.leave (v := some (.int (0 : Int32))) (fun h => by rw [Bd.returns] at h; cases h)
          refine ⟨_, _, pre9 _ ?_, hrun, hended, _, _, rfl, ?_, ⟨_, rfl⟩, hW, hsame.mono (by decide) (by decide)⟩
          · show Steps p.tables e below (T8.setTop (mkF m 87 #[.val (.int p1), .val (.int (0 : Int32)), .val (.int (0 : Int32)), .val (.int (0 : Int32)), .val (.ref wO), .val (.int (1 : Int32))] [(.int (1 : Int32)), (.int (f1 wO (0 : Int32) (0 : Int32) wO))])) _
            refine XS.icmpYes X8.here hx rfl (pc0 := 87) (pc' := 94) rfl (hb hby at_87) rfl (feq hc87_10).2 (by decide) (by decide) ?_
            show Steps p.tables e below (T8.setTop (mkF m 94 #[.val (.int p1), .val (.int (0 : Int32)), .val (.int (0 : Int32)), .val (.int (0 : Int32)), .val (.ref wO), .val (.int (1 : Int32))] [])) _
            refine XS.iconst X8.here hx rfl (hb hby at_94) ?_
            show Steps p.tables e below (T8.setTop (mkF m 95 #[.val (.int p1), .val (.int (0 : Int32)), .val (.int (0 : Int32)), .val (.int (0 : Int32)), .val (.ref wO), .val (.int (1 : Int32))] [(.int (0 : Int32))])) _
            exact retN X8 hx (t := .boolean) Bd.returns (by simp) (hb hby at_95) hr
          · show Q0 Z p1 wO wP h0 n0 _ T8.heap _
            rw [e8]
            refine ⟨?_, N8, rfl⟩
            rw [show f0 p1 wO wP = (0 : Int32) from (by skip; simp only [f0, if_pos hc3_2, if_pos hc15_4, if_pos hc27_6, if_neg hc87_10])]
      · obtain ⟨T11, X11, e11, st11⟩ := getS2 X0 hx hZ hown (host := "") (Or.inl (hw _ (List.mem_of_getElem? (i := 0) rfl))) Via.refl e0 S_wO (g := (mkF m 50 #[.val (.int p1), .val (.int (0 : Int32)), .val (.int (0 : Int32)), .val (.int (0 : Int32)), .unset, .unset] [])) rfl (hb hby at_50)
        obtain ⟨cq12, kq12, q12a, q12b, q12c⟩ := isOf hZ e11 E_wO
        obtain ⟨_, _, ⟨T12, L12, k12, n12⟩, -, X12, ⟨Lc12, hQ12, l12, y12, z12⟩, st12⟩ := X11.virtualBack hx (y := (⟨"com/example/stepwise/stepwise/core/types/TypingMode", "rejects", "(ZZ)Z"⟩ : MethodName)) (z := (⟨"com/example/stepwise/stepwise/core/types/TypingMode", "rejects", "(ZZ)Z"⟩ : MethodName)) hown (mvT hZ (hw _ (List.mem_of_getElem? (i := 3) rfl))) (mvT hZ (hw _ (List.mem_of_getElem? (i := 4) rfl))) (notFace_of_selects (args := #[]) (mvT hZ (hw _ (List.mem_of_getElem? (i := 6) rfl)))) (mvT hZ (hw _ (List.mem_of_getElem? (i := 6) rfl))) (mvT hZ (hw _ (List.mem_of_getElem? (i := 5) rfl))) (by decide) (backOf (W := 0) (rm1 l Z a0 hw [] wO (0 : Int32) (0 : Int32)  h0 n0 wO S_wO) hZ (hw _ (List.mem_of_getElem? (i := 7) rfl)) (hw _ (List.mem_of_getElem? (i := 1) rfl)) (by decide) (by decide)) q12a q12c (g := (mkF m 82 #[.val (.int p1), .val (.int (0 : Int32)), .val (.int (0 : Int32)), .val (.int (0 : Int32)), .val (.ref wO), .val (.int (1 : Int32))] [(.int (0 : Int32)), (.int (0 : Int32)), (.ref wO)])) rfl (by rw [hml]; rfl) (Steps.refl _) (argsL := [(.int (0 : Int32)), (.int (0 : Int32))]) (rest := []) (lenOf pd0 rfl) rfl (by show 2 * 0 + _ ≤ _; exact Nat.le_of_eq rfl) (hb hby at_82) (fun _ _ => ⟨rfl, e11, (by decide : 0 + 0 ≤ _), (by decide : 0 + 0 ≤ _)⟩)
        dsimp only [Pt.U, Pt.locs, Pt.cells, Pt.slots] at X12 l12 y12 z12 st12 hQ12
        subst l12 y12 z12
        obtain ⟨rfl, N12q, e12⟩ := hQ12
        have N12 := Fr.app N0 N12q
        have pre13 : ∀ t, Steps p.tables e below (T12.setTop (mkF m 87 #[.val (.int p1), .val (.int (0 : Int32)), .val (.int (0 : Int32)), .val (.int (0 : Int32)), .val (.ref wO), .val (.int (1 : Int32))] [(.int (1 : Int32)), (.int (f1 wO (0 : Int32) (0 : Int32) wO))])) t → Steps p.tables e below (s₁.setTop (entryFrame m #[(.int p1)] maxLocals)) t := by
          intro t k
          refine pre5 t ?_
          show Steps p.tables e below (s₁.setTop (mkF m 27 #[.val (.int p1), .val (.int (0 : Int32)), .val (.int (0 : Int32)), .unset, .unset, .unset] [(.int (p1 &&& (4 : Int32)))])) _
          refine XS.ifNo X0.here hx rfl (hb hby at_27) rfl ((if0 _ _).trans (feq hc27_6).1) ?_
          show Steps p.tables e below (s₁.setTop (mkF m 30 #[.val (.int p1), .val (.int (0 : Int32)), .val (.int (0 : Int32)), .unset, .unset, .unset] [])) _
          refine XS.iloadN X0.here hx rfl (hb hby at_30) rfl ?_
          show Steps p.tables e below (s₁.setTop (mkF m 31 #[.val (.int p1), .val (.int (0 : Int32)), .val (.int (0 : Int32)), .unset, .unset, .unset] [(.int (0 : Int32))])) _
          refine XS.ifYes X0.here hx rfl (pc0 := 31) (pc' := 38) rfl (hb hby at_31) rfl ((if0 _ _).trans (teq (by decide : (0 : Int32) = (0 : Int32))).1) (by decide) (by decide) ?_
          show Steps p.tables e below (s₁.setTop (mkF m 38 #[.val (.int p1), .val (.int (0 : Int32)), .val (.int (0 : Int32)), .unset, .unset, .unset] [])) _
          refine XS.iconst X0.here hx rfl (hb hby at_38) ?_
          show Steps p.tables e below (s₁.setTop (mkF m 39 #[.val (.int p1), .val (.int (0 : Int32)), .val (.int (0 : Int32)), .unset, .unset, .unset] [(.int (0 : Int32))])) _
          refine XS.istoreN X0.here hx rfl (hb hby at_39) rfl (l' := #[.val (.int p1), .val (.int (0 : Int32)), .val (.int (0 : Int32)), .val (.int (0 : Int32)), .unset, .unset]) rfl ?_
          show Steps p.tables e below (s₁.setTop (mkF m 40 #[.val (.int p1), .val (.int (0 : Int32)), .val (.int (0 : Int32)), .val (.int (0 : Int32)), .unset, .unset] [])) _
          refine XS.iloadN X0.here hx rfl (hb hby at_40) rfl ?_
          show Steps p.tables e below (s₁.setTop (mkF m 41 #[.val (.int p1), .val (.int (0 : Int32)), .val (.int (0 : Int32)), .val (.int (0 : Int32)), .unset, .unset] [(.int (0 : Int32))])) _
          refine XS.ifYes X0.here hx rfl (pc0 := 41) (pc' := 50) rfl (hb hby at_41) rfl ((if0 _ _).trans (teq (by decide : (0 : Int32) = (0 : Int32))).1) (by decide) (by decide) ?_
          show Steps p.tables e below (s₁.setTop (mkF m 50 #[.val (.int p1), .val (.int (0 : Int32)), .val (.int (0 : Int32)), .val (.int (0 : Int32)), .unset, .unset] [])) _
          refine st11 _ ?_
          show Steps p.tables e below (T11.setTop (mkF m 53 #[.val (.int p1), .val (.int (0 : Int32)), .val (.int (0 : Int32)), .val (.int (0 : Int32)), .unset, .unset] [(.ref wO)])) _
          refine XS.astore X11.here hx rfl (hb hby at_53) rfl rfl (l' := #[.val (.int p1), .val (.int (0 : Int32)), .val (.int (0 : Int32)), .val (.int (0 : Int32)), .val (.ref wO), .unset]) rfl ?_
          show Steps p.tables e below (T11.setTop (mkF m 55 #[.val (.int p1), .val (.int (0 : Int32)), .val (.int (0 : Int32)), .val (.int (0 : Int32)), .val (.ref wO), .unset] [])) _
          refine XS.iloadN X11.here hx rfl (hb hby at_55) rfl ?_
          show Steps p.tables e below (T11.setTop (mkF m 56 #[.val (.int p1), .val (.int (0 : Int32)), .val (.int (0 : Int32)), .val (.int (0 : Int32)), .val (.ref wO), .unset] [(.int (0 : Int32))])) _
          refine XS.ifYes X11.here hx rfl (pc0 := 56) (pc' := 65) rfl (hb hby at_56) rfl ((if0 _ _).trans (teq (by decide : (0 : Int32) = (0 : Int32))).1) (by decide) (by decide) ?_
          show Steps p.tables e below (T11.setTop (mkF m 65 #[.val (.int p1), .val (.int (0 : Int32)), .val (.int (0 : Int32)), .val (.int (0 : Int32)), .val (.ref wO), .unset] [])) _
          refine XS.iloadN X11.here hx rfl (hb hby at_65) rfl ?_
          show Steps p.tables e below (T11.setTop (mkF m 66 #[.val (.int p1), .val (.int (0 : Int32)), .val (.int (0 : Int32)), .val (.int (0 : Int32)), .val (.ref wO), .unset] [(.int (0 : Int32))])) _
          refine XS.ifNo X11.here hx rfl (hb hby at_66) rfl ((if0 _ _).trans (teq (by decide : (0 : Int32) = (0 : Int32))).2) ?_
          show Steps p.tables e below (T11.setTop (mkF m 69 #[.val (.int p1), .val (.int (0 : Int32)), .val (.int (0 : Int32)), .val (.int (0 : Int32)), .val (.ref wO), .unset] [])) _
          refine XS.iconst X11.here hx rfl (hb hby at_69) ?_
          show Steps p.tables e below (T11.setTop (mkF m 70 #[.val (.int p1), .val (.int (0 : Int32)), .val (.int (0 : Int32)), .val (.int (0 : Int32)), .val (.ref wO), .unset] [(.int (1 : Int32))])) _
          refine XS.istore X11.here hx rfl (hb hby at_70) rfl (l' := #[.val (.int p1), .val (.int (0 : Int32)), .val (.int (0 : Int32)), .val (.int (0 : Int32)), .val (.ref wO), .val (.int (1 : Int32))]) rfl ?_
          show Steps p.tables e below (T11.setTop (mkF m 72 #[.val (.int p1), .val (.int (0 : Int32)), .val (.int (0 : Int32)), .val (.int (0 : Int32)), .val (.ref wO), .val (.int (1 : Int32))] [])) _
          refine XS.goto X11.here hx rfl (pc0 := 72) (pc' := 78) rfl (hb hby at_72) (by decide) (by decide) ?_
          show Steps p.tables e below (T11.setTop (mkF m 78 #[.val (.int p1), .val (.int (0 : Int32)), .val (.int (0 : Int32)), .val (.int (0 : Int32)), .val (.ref wO), .val (.int (1 : Int32))] [])) _
          refine XS.aload X11.here hx rfl (hb hby at_78) rfl rfl ?_
          show Steps p.tables e below (T11.setTop (mkF m 80 #[.val (.int p1), .val (.int (0 : Int32)), .val (.int (0 : Int32)), .val (.int (0 : Int32)), .val (.ref wO), .val (.int (1 : Int32))] [(.ref wO)])) _
          refine XS.iloadN X11.here hx rfl (hb hby at_80) rfl ?_
          show Steps p.tables e below (T11.setTop (mkF m 81 #[.val (.int p1), .val (.int (0 : Int32)), .val (.int (0 : Int32)), .val (.int (0 : Int32)), .val (.ref wO), .val (.int (1 : Int32))] [(.int (0 : Int32)), (.ref wO)])) _
          refine XS.iloadN X11.here hx rfl (hb hby at_81) rfl ?_
          show Steps p.tables e below (T11.setTop (mkF m 82 #[.val (.int p1), .val (.int (0 : Int32)), .val (.int (0 : Int32)), .val (.int (0 : Int32)), .val (.ref wO), .val (.int (1 : Int32))] [(.int (0 : Int32)), (.int (0 : Int32)), (.ref wO)])) _
          refine st12.trans ?_
          show Steps p.tables e below (T12.setTop (mkF m 85 #[.val (.int p1), .val (.int (0 : Int32)), .val (.int (0 : Int32)), .val (.int (0 : Int32)), .val (.ref wO), .val (.int (1 : Int32))] [(.int (f1 wO (0 : Int32) (0 : Int32) wO))])) _
          refine XS.iload X12.here hx rfl (hb hby at_85) rfl ?_
          exact k
        by_cases hc87_14 : (f1 wO (0 : Int32) (0 : Int32) wO) = (1 : Int32)
        · refine hneg ?_
          obtain ⟨fs, hr, hrun, hended, hW, hsame⟩ := X12.leave (v := some (.int (1 : Int32))) (fun h => by rw [Bd.returns] at h; cases h)
          refine ⟨_, _, pre13 _ ?_, hrun, hended, _, _, rfl, ?_, ⟨_, rfl⟩, hW, hsame.mono (by decide) (by decide)⟩
          · show Steps p.tables e below (T12.setTop (mkF m 87 #[.val (.int p1), .val (.int (0 : Int32)), .val (.int (0 : Int32)), .val (.int (0 : Int32)), .val (.ref wO), .val (.int (1 : Int32))] [(.int (1 : Int32)), (.int (f1 wO (0 : Int32) (0 : Int32) wO))])) _
            refine XS.icmpNo X12.here hx rfl (hb hby at_87) rfl (teq hc87_14).2 ?_
            show Steps p.tables e below (T12.setTop (mkF m 90 #[.val (.int p1), .val (.int (0 : Int32)), .val (.int (0 : Int32)), .val (.int (0 : Int32)), .val (.ref wO), .val (.int (1 : Int32))] [])) _
            refine XS.iconst X12.here hx rfl (hb hby at_90) ?_
            show Steps p.tables e below (T12.setTop (mkF m 91 #[.val (.int p1), .val (.int (0 : Int32)), .val (.int (0 : Int32)), .val (.int (0 : Int32)), .val (.ref wO), .val (.int (1 : Int32))] [(.int (1 : Int32))])) _
            refine XS.goto X12.here hx rfl (pc0 := 91) (pc' := 95) rfl (hb hby at_91) (by decide) (by decide) ?_
            show Steps p.tables e below (T12.setTop (mkF m 95 #[.val (.int p1), .val (.int (0 : Int32)), .val (.int (0 : Int32)), .val (.int (0 : Int32)), .val (.ref wO), .val (.int (1 : Int32))] [(.int (1 : Int32))])) _
            exact retN X12 hx (t := .boolean) Bd.returns (by simp) (hb hby at_95) hr
          · show Q0 Z p1 wO wP h0 n0 _ T12.heap _
            rw [e12]
            refine ⟨?_, N12, rfl⟩
            rw [show f0 p1 wO wP = (1 : Int32) from (by skip; simp only [f0, if_pos hc3_2, if_pos hc15_4, if_neg hc27_6, if_pos hc87_14])]
        · refine hneg ?_
          obtain ⟨fs, hr, hrun, hended, hW, hsame⟩ := X12.leave (v := some (.int (0 : Int32))) (fun h => by rw [Bd.returns] at h; cases h)
          refine ⟨_, _, pre13 _ ?_, hrun, hended, _, _, rfl, ?_, ⟨_, rfl⟩, hW, hsame.mono (by decide) (by decide)⟩
          · show Steps p.tables e below (T12.setTop (mkF m 87 #[.val (.int p1), .val (.int (0 : Int32)), .val (.int (0 : Int32)), .val (.int (0 : Int32)), .val (.ref wO), .val (.int (1 : Int32))] [(.int (1 : Int32)), (.int (f1 wO (0 : Int32) (0 : Int32) wO))])) _
            refine XS.icmpYes X12.here hx rfl (pc0 := 87) (pc' := 94) rfl (hb hby at_87) rfl (feq hc87_14).2 (by decide) (by decide) ?_
            show Steps p.tables e below (T12.setTop (mkF m 94 #[.val (.int p1), .val (.int (0 : Int32)), .val (.int (0 : Int32)), .val (.int (0 : Int32)), .val (.ref wO), .val (.int (1 : Int32))] [])) _
            refine XS.iconst X12.here hx rfl (hb hby at_94) ?_
            show Steps p.tables e below (T12.setTop (mkF m 95 #[.val (.int p1), .val (.int (0 : Int32)), .val (.int (0 : Int32)), .val (.int (0 : Int32)), .val (.ref wO), .val (.int (1 : Int32))] [(.int (0 : Int32))])) _
            exact retN X12 hx (t := .boolean) Bd.returns (by simp) (hb hby at_95) hr
          · show Q0 Z p1 wO wP h0 n0 _ T12.heap _
            rw [e12]
            refine ⟨?_, N12, rfl⟩
            rw [show f0 p1 wO wP = (0 : Int32) from (by skip; simp only [f0, if_pos hc3_2, if_pos hc15_4, if_neg hc27_6, if_neg hc87_14])]
    · have pre15 : ∀ t, Steps p.tables e below (s₁.setTop (mkF m 27 #[.val (.int p1), .val (.int (0 : Int32)), .val (.int (1 : Int32)), .unset, .unset, .unset] [(.int (p1 &&& (4 : Int32)))])) t → Steps p.tables e below (s₁.setTop (entryFrame m #[(.int p1)] maxLocals)) t := by
        intro t k
        refine pre3 t ?_
        show Steps p.tables e below (s₁.setTop (mkF m 15 #[.val (.int p1), .val (.int (0 : Int32)), .unset, .unset, .unset, .unset] [(.int (p1 &&& (2 : Int32)))])) _
        refine XS.ifNo X0.here hx rfl (hb hby at_15) rfl ((if0 _ _).trans (feq hc15_4).1) ?_
        show Steps p.tables e below (s₁.setTop (mkF m 18 #[.val (.int p1), .val (.int (0 : Int32)), .unset, .unset, .unset, .unset] [])) _
        refine XS.iconst X0.here hx rfl (hb hby at_18) ?_
        show Steps p.tables e below (s₁.setTop (mkF m 19 #[.val (.int p1), .val (.int (0 : Int32)), .unset, .unset, .unset, .unset] [(.int (1 : Int32))])) _
        refine XS.goto X0.here hx rfl (pc0 := 19) (pc' := 23) rfl (hb hby at_19) (by decide) (by decide) ?_
        show Steps p.tables e below (s₁.setTop (mkF m 23 #[.val (.int p1), .val (.int (0 : Int32)), .unset, .unset, .unset, .unset] [(.int (1 : Int32))])) _
        refine XS.istoreN X0.here hx rfl (hb hby at_23) rfl (l' := #[.val (.int p1), .val (.int (0 : Int32)), .val (.int (1 : Int32)), .unset, .unset, .unset]) rfl ?_
        show Steps p.tables e below (s₁.setTop (mkF m 24 #[.val (.int p1), .val (.int (0 : Int32)), .val (.int (1 : Int32)), .unset, .unset, .unset] [])) _
        refine XS.iloadN X0.here hx rfl (hb hby at_24) rfl ?_
        show Steps p.tables e below (s₁.setTop (mkF m 25 #[.val (.int p1), .val (.int (0 : Int32)), .val (.int (1 : Int32)), .unset, .unset, .unset] [(.int p1)])) _
        refine XS.iconst X0.here hx rfl (hb hby at_25) ?_
        show Steps p.tables e below (s₁.setTop (mkF m 26 #[.val (.int p1), .val (.int (0 : Int32)), .val (.int (1 : Int32)), .unset, .unset, .unset] [(.int (4 : Int32)), (.int p1)])) _
        refine XS.iand X0.here hx rfl (hb hby at_26) rfl ?_
        exact k
      by_cases hc27_16 : (p1 &&& (4 : Int32)) = (0 : Int32)
      · obtain ⟨T17, X17, e17, st17⟩ := getS2 X0 hx hZ hown (host := "") (Or.inl (hw _ (List.mem_of_getElem? (i := 0) rfl))) Via.refl e0 S_wO (g := (mkF m 50 #[.val (.int p1), .val (.int (0 : Int32)), .val (.int (1 : Int32)), .val (.int (0 : Int32)), .unset, .unset] [])) rfl (hb hby at_50)
        obtain ⟨cq18, kq18, q18a, q18b, q18c⟩ := isOf hZ e17 E_wO
        obtain ⟨_, _, ⟨T18, L18, k18, n18⟩, -, X18, ⟨Lc18, hQ18, l18, y18, z18⟩, st18⟩ := X17.virtualBack hx (y := (⟨"com/example/stepwise/stepwise/core/types/TypingMode", "rejects", "(ZZ)Z"⟩ : MethodName)) (z := (⟨"com/example/stepwise/stepwise/core/types/TypingMode", "rejects", "(ZZ)Z"⟩ : MethodName)) hown (mvT hZ (hw _ (List.mem_of_getElem? (i := 3) rfl))) (mvT hZ (hw _ (List.mem_of_getElem? (i := 4) rfl))) (notFace_of_selects (args := #[]) (mvT hZ (hw _ (List.mem_of_getElem? (i := 6) rfl)))) (mvT hZ (hw _ (List.mem_of_getElem? (i := 6) rfl))) (mvT hZ (hw _ (List.mem_of_getElem? (i := 5) rfl))) (by decide) (backOf (W := 0) (rm1 l Z a0 hw [] wO (1 : Int32) (0 : Int32)  h0 n0 wO S_wO) hZ (hw _ (List.mem_of_getElem? (i := 7) rfl)) (hw _ (List.mem_of_getElem? (i := 1) rfl)) (by decide) (by decide)) q18a q18c (g := (mkF m 82 #[.val (.int p1), .val (.int (0 : Int32)), .val (.int (1 : Int32)), .val (.int (0 : Int32)), .val (.ref wO), .val (.int (0 : Int32))] [(.int (0 : Int32)), (.int (1 : Int32)), (.ref wO)])) rfl (by rw [hml]; rfl) (Steps.refl _) (argsL := [(.int (1 : Int32)), (.int (0 : Int32))]) (rest := []) (lenOf pd0 rfl) rfl (by show 2 * 0 + _ ≤ _; exact Nat.le_of_eq rfl) (hb hby at_82) (fun _ _ => ⟨rfl, e17, (by decide : 0 + 0 ≤ _), (by decide : 0 + 0 ≤ _)⟩)
        dsimp only [Pt.U, Pt.locs, Pt.cells, Pt.slots] at X18 l18 y18 z18 st18 hQ18
        subst l18 y18 z18
        obtain ⟨rfl, N18q, e18⟩ := hQ18
        have N18 := Fr.app N0 N18q
        have pre19 : ∀ t, Steps p.tables e below (T18.setTop (mkF m 87 #[.val (.int p1), .val (.int (0 : Int32)), .val (.int (1 : Int32)), .val (.int (0 : Int32)), .val (.ref wO), .val (.int (0 : Int32))] [(.int (0 : Int32)), (.int (f1 wO (1 : Int32) (0 : Int32) wO))])) t → Steps p.tables e below (s₁.setTop (entryFrame m #[(.int p1)] maxLocals)) t := by
          intro t k
          refine pre15 t ?_
          show Steps p.tables e below (s₁.setTop (mkF m 27 #[.val (.int p1), .val (.int (0 : Int32)), .val (.int (1 : Int32)), .unset, .unset, .unset] [(.int (p1 &&& (4 : Int32)))])) _
          refine XS.ifYes X0.here hx rfl (pc0 := 27) (pc' := 38) rfl (hb hby at_27) rfl ((if0 _ _).trans (teq hc27_16).1) (by decide) (by decide) ?_
          show Steps p.tables e below (s₁.setTop (mkF m 38 #[.val (.int p1), .val (.int (0 : Int32)), .val (.int (1 : Int32)), .unset, .unset, .unset] [])) _
          refine XS.iconst X0.here hx rfl (hb hby at_38) ?_
          show Steps p.tables e below (s₁.setTop (mkF m 39 #[.val (.int p1), .val (.int (0 : Int32)), .val (.int (1 : Int32)), .unset, .unset, .unset] [(.int (0 : Int32))])) _
          refine XS.istoreN X0.here hx rfl (hb hby at_39) rfl (l' := #[.val (.int p1), .val (.int (0 : Int32)), .val (.int (1 : Int32)), .val (.int (0 : Int32)), .unset, .unset]) rfl ?_
          show Steps p.tables e below (s₁.setTop (mkF m 40 #[.val (.int p1), .val (.int (0 : Int32)), .val (.int (1 : Int32)), .val (.int (0 : Int32)), .unset, .unset] [])) _
          refine XS.iloadN X0.here hx rfl (hb hby at_40) rfl ?_
          show Steps p.tables e below (s₁.setTop (mkF m 41 #[.val (.int p1), .val (.int (0 : Int32)), .val (.int (1 : Int32)), .val (.int (0 : Int32)), .unset, .unset] [(.int (0 : Int32))])) _
          refine XS.ifYes X0.here hx rfl (pc0 := 41) (pc' := 50) rfl (hb hby at_41) rfl ((if0 _ _).trans (teq (by decide : (0 : Int32) = (0 : Int32))).1) (by decide) (by decide) ?_
          show Steps p.tables e below (s₁.setTop (mkF m 50 #[.val (.int p1), .val (.int (0 : Int32)), .val (.int (1 : Int32)), .val (.int (0 : Int32)), .unset, .unset] [])) _
          refine st17 _ ?_
          show Steps p.tables e below (T17.setTop (mkF m 53 #[.val (.int p1), .val (.int (0 : Int32)), .val (.int (1 : Int32)), .val (.int (0 : Int32)), .unset, .unset] [(.ref wO)])) _
          refine XS.astore X17.here hx rfl (hb hby at_53) rfl rfl (l' := #[.val (.int p1), .val (.int (0 : Int32)), .val (.int (1 : Int32)), .val (.int (0 : Int32)), .val (.ref wO), .unset]) rfl ?_
          show Steps p.tables e below (T17.setTop (mkF m 55 #[.val (.int p1), .val (.int (0 : Int32)), .val (.int (1 : Int32)), .val (.int (0 : Int32)), .val (.ref wO), .unset] [])) _
          refine XS.iloadN X17.here hx rfl (hb hby at_55) rfl ?_
          show Steps p.tables e below (T17.setTop (mkF m 56 #[.val (.int p1), .val (.int (0 : Int32)), .val (.int (1 : Int32)), .val (.int (0 : Int32)), .val (.ref wO), .unset] [(.int (0 : Int32))])) _
          refine XS.ifYes X17.here hx rfl (pc0 := 56) (pc' := 65) rfl (hb hby at_56) rfl ((if0 _ _).trans (teq (by decide : (0 : Int32) = (0 : Int32))).1) (by decide) (by decide) ?_
          show Steps p.tables e below (T17.setTop (mkF m 65 #[.val (.int p1), .val (.int (0 : Int32)), .val (.int (1 : Int32)), .val (.int (0 : Int32)), .val (.ref wO), .unset] [])) _
          refine XS.iloadN X17.here hx rfl (hb hby at_65) rfl ?_
          show Steps p.tables e below (T17.setTop (mkF m 66 #[.val (.int p1), .val (.int (0 : Int32)), .val (.int (1 : Int32)), .val (.int (0 : Int32)), .val (.ref wO), .unset] [(.int (1 : Int32))])) _
          refine XS.ifYes X17.here hx rfl (pc0 := 66) (pc' := 75) rfl (hb hby at_66) rfl ((if0 _ _).trans (feq (by decide : ¬ ((1 : Int32) = (0 : Int32)))).2) (by decide) (by decide) ?_
          show Steps p.tables e below (T17.setTop (mkF m 75 #[.val (.int p1), .val (.int (0 : Int32)), .val (.int (1 : Int32)), .val (.int (0 : Int32)), .val (.ref wO), .unset] [])) _
          refine XS.iloadN X17.here hx rfl (hb hby at_75) rfl ?_
          show Steps p.tables e below (T17.setTop (mkF m 76 #[.val (.int p1), .val (.int (0 : Int32)), .val (.int (1 : Int32)), .val (.int (0 : Int32)), .val (.ref wO), .unset] [(.int (0 : Int32))])) _
          refine XS.istore X17.here hx rfl (hb hby at_76) rfl (l' := #[.val (.int p1), .val (.int (0 : Int32)), .val (.int (1 : Int32)), .val (.int (0 : Int32)), .val (.ref wO), .val (.int (0 : Int32))]) rfl ?_
          show Steps p.tables e below (T17.setTop (mkF m 78 #[.val (.int p1), .val (.int (0 : Int32)), .val (.int (1 : Int32)), .val (.int (0 : Int32)), .val (.ref wO), .val (.int (0 : Int32))] [])) _
          refine XS.aload X17.here hx rfl (hb hby at_78) rfl rfl ?_
          show Steps p.tables e below (T17.setTop (mkF m 80 #[.val (.int p1), .val (.int (0 : Int32)), .val (.int (1 : Int32)), .val (.int (0 : Int32)), .val (.ref wO), .val (.int (0 : Int32))] [(.ref wO)])) _
          refine XS.iloadN X17.here hx rfl (hb hby at_80) rfl ?_
          show Steps p.tables e below (T17.setTop (mkF m 81 #[.val (.int p1), .val (.int (0 : Int32)), .val (.int (1 : Int32)), .val (.int (0 : Int32)), .val (.ref wO), .val (.int (0 : Int32))] [(.int (1 : Int32)), (.ref wO)])) _
          refine XS.iloadN X17.here hx rfl (hb hby at_81) rfl ?_
          show Steps p.tables e below (T17.setTop (mkF m 82 #[.val (.int p1), .val (.int (0 : Int32)), .val (.int (1 : Int32)), .val (.int (0 : Int32)), .val (.ref wO), .val (.int (0 : Int32))] [(.int (0 : Int32)), (.int (1 : Int32)), (.ref wO)])) _
          refine st18.trans ?_
          show Steps p.tables e below (T18.setTop (mkF m 85 #[.val (.int p1), .val (.int (0 : Int32)), .val (.int (1 : Int32)), .val (.int (0 : Int32)), .val (.ref wO), .val (.int (0 : Int32))] [(.int (f1 wO (1 : Int32) (0 : Int32) wO))])) _
          refine XS.iload X18.here hx rfl (hb hby at_85) rfl ?_
          exact k
        by_cases hc87_20 : (f1 wO (1 : Int32) (0 : Int32) wO) = (0 : Int32)
        · refine hneg ?_
          obtain ⟨fs, hr, hrun, hended, hW, hsame⟩ := X18.leave (v := some (.int (1 : Int32))) (fun h => by rw [Bd.returns] at h; cases h)
          refine ⟨_, _, pre19 _ ?_, hrun, hended, _, _, rfl, ?_, ⟨_, rfl⟩, hW, hsame.mono (by decide) (by decide)⟩
          · show Steps p.tables e below (T18.setTop (mkF m 87 #[.val (.int p1), .val (.int (0 : Int32)), .val (.int (1 : Int32)), .val (.int (0 : Int32)), .val (.ref wO), .val (.int (0 : Int32))] [(.int (0 : Int32)), (.int (f1 wO (1 : Int32) (0 : Int32) wO))])) _
            refine XS.icmpNo X18.here hx rfl (hb hby at_87) rfl (teq hc87_20).2 ?_
            show Steps p.tables e below (T18.setTop (mkF m 90 #[.val (.int p1), .val (.int (0 : Int32)), .val (.int (1 : Int32)), .val (.int (0 : Int32)), .val (.ref wO), .val (.int (0 : Int32))] [])) _
            refine XS.iconst X18.here hx rfl (hb hby at_90) ?_
            show Steps p.tables e below (T18.setTop (mkF m 91 #[.val (.int p1), .val (.int (0 : Int32)), .val (.int (1 : Int32)), .val (.int (0 : Int32)), .val (.ref wO), .val (.int (0 : Int32))] [(.int (1 : Int32))])) _
            refine XS.goto X18.here hx rfl (pc0 := 91) (pc' := 95) rfl (hb hby at_91) (by decide) (by decide) ?_
            show Steps p.tables e below (T18.setTop (mkF m 95 #[.val (.int p1), .val (.int (0 : Int32)), .val (.int (1 : Int32)), .val (.int (0 : Int32)), .val (.ref wO), .val (.int (0 : Int32))] [(.int (1 : Int32))])) _
            exact retN X18 hx (t := .boolean) Bd.returns (by simp) (hb hby at_95) hr
          · show Q0 Z p1 wO wP h0 n0 _ T18.heap _
            rw [e18]
            refine ⟨?_, N18, rfl⟩
            rw [show f0 p1 wO wP = (1 : Int32) from (by skip; simp only [f0, if_pos hc3_2, if_neg hc15_4, if_pos hc27_16, if_pos hc87_20])]
        · refine hneg ?_
          obtain ⟨fs, hr, hrun, hended, hW, hsame⟩ := X18.leave (v := some (.int (0 : Int32))) (fun h => by rw [Bd.returns] at h; cases h)
          refine ⟨_, _, pre19 _ ?_, hrun, hended, _, _, rfl, ?_, ⟨_, rfl⟩, hW, hsame.mono (by decide) (by decide)⟩
          · show Steps p.tables e below (T18.setTop (mkF m 87 #[.val (.int p1), .val (.int (0 : Int32)), .val (.int (1 : Int32)), .val (.int (0 : Int32)), .val (.ref wO), .val (.int (0 : Int32))] [(.int (0 : Int32)), (.int (f1 wO (1 : Int32) (0 : Int32) wO))])) _
            refine XS.icmpYes X18.here hx rfl (pc0 := 87) (pc' := 94) rfl (hb hby at_87) rfl (feq hc87_20).2 (by decide) (by decide) ?_
            show Steps p.tables e below (T18.setTop (mkF m 94 #[.val (.int p1), .val (.int (0 : Int32)), .val (.int (1 : Int32)), .val (.int (0 : Int32)), .val (.ref wO), .val (.int (0 : Int32))] [])) _
            refine XS.iconst X18.here hx rfl (hb hby at_94) ?_
            show Steps p.tables e below (T18.setTop (mkF m 95 #[.val (.int p1), .val (.int (0 : Int32)), .val (.int (1 : Int32)), .val (.int (0 : Int32)), .val (.ref wO), .val (.int (0 : Int32))] [(.int (0 : Int32))])) _
            exact retN X18 hx (t := .boolean) Bd.returns (by simp) (hb hby at_95) hr
          · show Q0 Z p1 wO wP h0 n0 _ T18.heap _
            rw [e18]
            refine ⟨?_, N18, rfl⟩
            rw [show f0 p1 wO wP = (0 : Int32) from (by skip; simp only [f0, if_pos hc3_2, if_neg hc15_4, if_pos hc27_16, if_neg hc87_20])]
      · obtain ⟨T21, X21, e21, st21⟩ := getS2 X0 hx hZ hown (host := "") (Or.inl (hw _ (List.mem_of_getElem? (i := 0) rfl))) Via.refl e0 S_wO (g := (mkF m 50 #[.val (.int p1), .val (.int (0 : Int32)), .val (.int (1 : Int32)), .val (.int (1 : Int32)), .unset, .unset] [])) rfl (hb hby at_50)
        obtain ⟨cq22, kq22, q22a, q22b, q22c⟩ := isOf hZ e21 E_wO
        obtain ⟨_, _, ⟨T22, L22, k22, n22⟩, -, X22, ⟨Lc22, hQ22, l22, y22, z22⟩, st22⟩ := X21.virtualBack hx (y := (⟨"com/example/stepwise/stepwise/core/types/TypingMode", "rejects", "(ZZ)Z"⟩ : MethodName)) (z := (⟨"com/example/stepwise/stepwise/core/types/TypingMode", "rejects", "(ZZ)Z"⟩ : MethodName)) hown (mvT hZ (hw _ (List.mem_of_getElem? (i := 3) rfl))) (mvT hZ (hw _ (List.mem_of_getElem? (i := 4) rfl))) (notFace_of_selects (args := #[]) (mvT hZ (hw _ (List.mem_of_getElem? (i := 6) rfl)))) (mvT hZ (hw _ (List.mem_of_getElem? (i := 6) rfl))) (mvT hZ (hw _ (List.mem_of_getElem? (i := 5) rfl))) (by decide) (backOf (W := 0) (rm1 l Z a0 hw [] wO (1 : Int32) (1 : Int32)  h0 n0 wO S_wO) hZ (hw _ (List.mem_of_getElem? (i := 7) rfl)) (hw _ (List.mem_of_getElem? (i := 1) rfl)) (by decide) (by decide)) q22a q22c (g := (mkF m 82 #[.val (.int p1), .val (.int (0 : Int32)), .val (.int (1 : Int32)), .val (.int (1 : Int32)), .val (.ref wO), .val (.int (0 : Int32))] [(.int (1 : Int32)), (.int (1 : Int32)), (.ref wO)])) rfl (by rw [hml]; rfl) (Steps.refl _) (argsL := [(.int (1 : Int32)), (.int (1 : Int32))]) (rest := []) (lenOf pd0 rfl) rfl (by show 2 * 0 + _ ≤ _; exact Nat.le_of_eq rfl) (hb hby at_82) (fun _ _ => ⟨rfl, e21, (by decide : 0 + 0 ≤ _), (by decide : 0 + 0 ≤ _)⟩)
        dsimp only [Pt.U, Pt.locs, Pt.cells, Pt.slots] at X22 l22 y22 z22 st22 hQ22
        subst l22 y22 z22
        obtain ⟨rfl, N22q, e22⟩ := hQ22
        have N22 := Fr.app N0 N22q
        have pre23 : ∀ t, Steps p.tables e below (T22.setTop (mkF m 87 #[.val (.int p1), .val (.int (0 : Int32)), .val (.int (1 : Int32)), .val (.int (1 : Int32)), .val (.ref wO), .val (.int (0 : Int32))] [(.int (0 : Int32)), (.int (f1 wO (1 : Int32) (1 : Int32) wO))])) t → Steps p.tables e below (s₁.setTop (entryFrame m #[(.int p1)] maxLocals)) t := by
          intro t k
          refine pre15 t ?_
          show Steps p.tables e below (s₁.setTop (mkF m 27 #[.val (.int p1), .val (.int (0 : Int32)), .val (.int (1 : Int32)), .unset, .unset, .unset] [(.int (p1 &&& (4 : Int32)))])) _
          refine XS.ifNo X0.here hx rfl (hb hby at_27) rfl ((if0 _ _).trans (feq hc27_16).1) ?_
          show Steps p.tables e below (s₁.setTop (mkF m 30 #[.val (.int p1), .val (.int (0 : Int32)), .val (.int (1 : Int32)), .unset, .unset, .unset] [])) _
          refine XS.iloadN X0.here hx rfl (hb hby at_30) rfl ?_
          show Steps p.tables e below (s₁.setTop (mkF m 31 #[.val (.int p1), .val (.int (0 : Int32)), .val (.int (1 : Int32)), .unset, .unset, .unset] [(.int (1 : Int32))])) _
          refine XS.ifNo X0.here hx rfl (hb hby at_31) rfl ((if0 _ _).trans (feq (by decide : ¬ ((1 : Int32) = (0 : Int32)))).1) ?_
          show Steps p.tables e below (s₁.setTop (mkF m 34 #[.val (.int p1), .val (.int (0 : Int32)), .val (.int (1 : Int32)), .unset, .unset, .unset] [])) _
          refine XS.iconst X0.here hx rfl (hb hby at_34) ?_
          show Steps p.tables e below (s₁.setTop (mkF m 35 #[.val (.int p1), .val (.int (0 : Int32)), .val (.int (1 : Int32)), .unset, .unset, .unset] [(.int (1 : Int32))])) _
          refine XS.goto X0.here hx rfl (pc0 := 35) (pc' := 39) rfl (hb hby at_35) (by decide) (by decide) ?_
          show Steps p.tables e below (s₁.setTop (mkF m 39 #[.val (.int p1), .val (.int (0 : Int32)), .val (.int (1 : Int32)), .unset, .unset, .unset] [(.int (1 : Int32))])) _
          refine XS.istoreN X0.here hx rfl (hb hby at_39) rfl (l' := #[.val (.int p1), .val (.int (0 : Int32)), .val (.int (1 : Int32)), .val (.int (1 : Int32)), .unset, .unset]) rfl ?_
          show Steps p.tables e below (s₁.setTop (mkF m 40 #[.val (.int p1), .val (.int (0 : Int32)), .val (.int (1 : Int32)), .val (.int (1 : Int32)), .unset, .unset] [])) _
          refine XS.iloadN X0.here hx rfl (hb hby at_40) rfl ?_
          show Steps p.tables e below (s₁.setTop (mkF m 41 #[.val (.int p1), .val (.int (0 : Int32)), .val (.int (1 : Int32)), .val (.int (1 : Int32)), .unset, .unset] [(.int (0 : Int32))])) _
          refine XS.ifYes X0.here hx rfl (pc0 := 41) (pc' := 50) rfl (hb hby at_41) rfl ((if0 _ _).trans (teq (by decide : (0 : Int32) = (0 : Int32))).1) (by decide) (by decide) ?_
          show Steps p.tables e below (s₁.setTop (mkF m 50 #[.val (.int p1), .val (.int (0 : Int32)), .val (.int (1 : Int32)), .val (.int (1 : Int32)), .unset, .unset] [])) _
          refine st21 _ ?_
          show Steps p.tables e below (T21.setTop (mkF m 53 #[.val (.int p1), .val (.int (0 : Int32)), .val (.int (1 : Int32)), .val (.int (1 : Int32)), .unset, .unset] [(.ref wO)])) _
          refine XS.astore X21.here hx rfl (hb hby at_53) rfl rfl (l' := #[.val (.int p1), .val (.int (0 : Int32)), .val (.int (1 : Int32)), .val (.int (1 : Int32)), .val (.ref wO), .unset]) rfl ?_
          show Steps p.tables e below (T21.setTop (mkF m 55 #[.val (.int p1), .val (.int (0 : Int32)), .val (.int (1 : Int32)), .val (.int (1 : Int32)), .val (.ref wO), .unset] [])) _
          refine XS.iloadN X21.here hx rfl (hb hby at_55) rfl ?_
          show Steps p.tables e below (T21.setTop (mkF m 56 #[.val (.int p1), .val (.int (0 : Int32)), .val (.int (1 : Int32)), .val (.int (1 : Int32)), .val (.ref wO), .unset] [(.int (1 : Int32))])) _
          refine XS.ifNo X21.here hx rfl (hb hby at_56) rfl ((if0 _ _).trans (feq (by decide : ¬ ((1 : Int32) = (0 : Int32)))).1) ?_
          show Steps p.tables e below (T21.setTop (mkF m 59 #[.val (.int p1), .val (.int (0 : Int32)), .val (.int (1 : Int32)), .val (.int (1 : Int32)), .val (.ref wO), .unset] [])) _
          refine XS.iconst X21.here hx rfl (hb hby at_59) ?_
          show Steps p.tables e below (T21.setTop (mkF m 60 #[.val (.int p1), .val (.int (0 : Int32)), .val (.int (1 : Int32)), .val (.int (1 : Int32)), .val (.ref wO), .unset] [(.int (0 : Int32))])) _
          refine XS.istore X21.here hx rfl (hb hby at_60) rfl (l' := #[.val (.int p1), .val (.int (0 : Int32)), .val (.int (1 : Int32)), .val (.int (1 : Int32)), .val (.ref wO), .val (.int (0 : Int32))]) rfl ?_
          show Steps p.tables e below (T21.setTop (mkF m 62 #[.val (.int p1), .val (.int (0 : Int32)), .val (.int (1 : Int32)), .val (.int (1 : Int32)), .val (.ref wO), .val (.int (0 : Int32))] [])) _
          refine XS.goto X21.here hx rfl (pc0 := 62) (pc' := 78) rfl (hb hby at_62) (by decide) (by decide) ?_
          show Steps p.tables e below (T21.setTop (mkF m 78 #[.val (.int p1), .val (.int (0 : Int32)), .val (.int (1 : Int32)), .val (.int (1 : Int32)), .val (.ref wO), .val (.int (0 : Int32))] [])) _
          refine XS.aload X21.here hx rfl (hb hby at_78) rfl rfl ?_
          show Steps p.tables e below (T21.setTop (mkF m 80 #[.val (.int p1), .val (.int (0 : Int32)), .val (.int (1 : Int32)), .val (.int (1 : Int32)), .val (.ref wO), .val (.int (0 : Int32))] [(.ref wO)])) _
          refine XS.iloadN X21.here hx rfl (hb hby at_80) rfl ?_
          show Steps p.tables e below (T21.setTop (mkF m 81 #[.val (.int p1), .val (.int (0 : Int32)), .val (.int (1 : Int32)), .val (.int (1 : Int32)), .val (.ref wO), .val (.int (0 : Int32))] [(.int (1 : Int32)), (.ref wO)])) _
          refine XS.iloadN X21.here hx rfl (hb hby at_81) rfl ?_
          show Steps p.tables e below (T21.setTop (mkF m 82 #[.val (.int p1), .val (.int (0 : Int32)), .val (.int (1 : Int32)), .val (.int (1 : Int32)), .val (.ref wO), .val (.int (0 : Int32))] [(.int (1 : Int32)), (.int (1 : Int32)), (.ref wO)])) _
          refine st22.trans ?_
          show Steps p.tables e below (T22.setTop (mkF m 85 #[.val (.int p1), .val (.int (0 : Int32)), .val (.int (1 : Int32)), .val (.int (1 : Int32)), .val (.ref wO), .val (.int (0 : Int32))] [(.int (f1 wO (1 : Int32) (1 : Int32) wO))])) _
          refine XS.iload X22.here hx rfl (hb hby at_85) rfl ?_
          exact k
        by_cases hc87_24 : (f1 wO (1 : Int32) (1 : Int32) wO) = (0 : Int32)
        · refine hneg ?_
          obtain ⟨fs, hr, hrun, hended, hW, hsame⟩ := X22.leave (v := some (.int (1 : Int32))) (fun h => by rw [Bd.returns] at h; cases h)
          refine ⟨_, _, pre23 _ ?_, hrun, hended, _, _, rfl, ?_, ⟨_, rfl⟩, hW, hsame.mono (by decide) (by decide)⟩
          · show Steps p.tables e below (T22.setTop (mkF m 87 #[.val (.int p1), .val (.int (0 : Int32)), .val (.int (1 : Int32)), .val (.int (1 : Int32)), .val (.ref wO), .val (.int (0 : Int32))] [(.int (0 : Int32)), (.int (f1 wO (1 : Int32) (1 : Int32) wO))])) _
            refine XS.icmpNo X22.here hx rfl (hb hby at_87) rfl (teq hc87_24).2 ?_
            show Steps p.tables e below (T22.setTop (mkF m 90 #[.val (.int p1), .val (.int (0 : Int32)), .val (.int (1 : Int32)), .val (.int (1 : Int32)), .val (.ref wO), .val (.int (0 : Int32))] [])) _
            refine XS.iconst X22.here hx rfl (hb hby at_90) ?_
            show Steps p.tables e below (T22.setTop (mkF m 91 #[.val (.int p1), .val (.int (0 : Int32)), .val (.int (1 : Int32)), .val (.int (1 : Int32)), .val (.ref wO), .val (.int (0 : Int32))] [(.int (1 : Int32))])) _
            refine XS.goto X22.here hx rfl (pc0 := 91) (pc' := 95) rfl (hb hby at_91) (by decide) (by decide) ?_
            show Steps p.tables e below (T22.setTop (mkF m 95 #[.val (.int p1), .val (.int (0 : Int32)), .val (.int (1 : Int32)), .val (.int (1 : Int32)), .val (.ref wO), .val (.int (0 : Int32))] [(.int (1 : Int32))])) _
            exact retN X22 hx (t := .boolean) Bd.returns (by simp) (hb hby at_95) hr
          · show Q0 Z p1 wO wP h0 n0 _ T22.heap _
            rw [e22]
            refine ⟨?_, N22, rfl⟩
            rw [show f0 p1 wO wP = (1 : Int32) from (by skip; simp only [f0, if_pos hc3_2, if_neg hc15_4, if_neg hc27_16, if_pos hc87_24])]
        · refine hneg ?_
          obtain ⟨fs, hr, hrun, hended, hW, hsame⟩ := X22.leave (v := some (.int (0 : Int32))) (fun h => by rw [Bd.returns] at h; cases h)
          refine ⟨_, _, pre23 _ ?_, hrun, hended, _, _, rfl, ?_, ⟨_, rfl⟩, hW, hsame.mono (by decide) (by decide)⟩
          · show Steps p.tables e below (T22.setTop (mkF m 87 #[.val (.int p1), .val (.int (0 : Int32)), .val (.int (1 : Int32)), .val (.int (1 : Int32)), .val (.ref wO), .val (.int (0 : Int32))] [(.int (0 : Int32)), (.int (f1 wO (1 : Int32) (1 : Int32) wO))])) _
            refine XS.icmpYes X22.here hx rfl (pc0 := 87) (pc' := 94) rfl (hb hby at_87) rfl (feq hc87_24).2 (by decide) (by decide) ?_
            show Steps p.tables e below (T22.setTop (mkF m 94 #[.val (.int p1), .val (.int (0 : Int32)), .val (.int (1 : Int32)), .val (.int (1 : Int32)), .val (.ref wO), .val (.int (0 : Int32))] [])) _
            refine XS.iconst X22.here hx rfl (hb hby at_94) ?_
            show Steps p.tables e below (T22.setTop (mkF m 95 #[.val (.int p1), .val (.int (0 : Int32)), .val (.int (1 : Int32)), .val (.int (1 : Int32)), .val (.ref wO), .val (.int (0 : Int32))] [(.int (0 : Int32))])) _
            exact retN X22 hx (t := .boolean) Bd.returns (by simp) (hb hby at_95) hr
          · show Q0 Z p1 wO wP h0 n0 _ T22.heap _
            rw [e22]
            refine ⟨?_, N22, rfl⟩
            rw [show f0 p1 wO wP = (0 : Int32) from (by skip; simp only [f0, if_pos hc3_2, if_neg hc15_4, if_neg hc27_16, if_neg hc87_24])]
  · have pre25 : ∀ t, Steps p.tables e below (s₁.setTop (mkF m 15 #[.val (.int p1), .val (.int (1 : Int32)), .unset, .unset, .unset, .unset] [(.int (p1 &&& (2 : Int32)))])) t → Steps p.tables e below (s₁.setTop (entryFrame m #[(.int p1)] maxLocals)) t := by
      intro t k
      refine pre1 t ?_
      show Steps p.tables e below (s₁.setTop (mkF m 3 #[.val (.int p1), .unset, .unset, .unset, .unset, .unset] [(.int (p1 &&& (1 : Int32)))])) _
      refine XS.ifNo X0.here hx rfl (hb hby at_3) rfl ((if0 _ _).trans (feq hc3_2).1) ?_
      show Steps p.tables e below (s₁.setTop (mkF m 6 #[.val (.int p1), .unset, .unset, .unset, .unset, .unset] [])) _
      refine XS.iconst X0.here hx rfl (hb hby at_6) ?_
      show Steps p.tables e below (s₁.setTop (mkF m 7 #[.val (.int p1), .unset, .unset, .unset, .unset, .unset] [(.int (1 : Int32))])) _
      refine XS.goto X0.here hx rfl (pc0 := 7) (pc' := 11) rfl (hb hby at_7) (by decide) (by decide) ?_
      show Steps p.tables e below (s₁.setTop (mkF m 11 #[.val (.int p1), .unset, .unset, .unset, .unset, .unset] [(.int (1 : Int32))])) _
      refine XS.istoreN X0.here hx rfl (hb hby at_11) rfl (l' := #[.val (.int p1), .val (.int (1 : Int32)), .unset, .unset, .unset, .unset]) rfl ?_
      show Steps p.tables e below (s₁.setTop (mkF m 12 #[.val (.int p1), .val (.int (1 : Int32)), .unset, .unset, .unset, .unset] [])) _
      refine XS.iloadN X0.here hx rfl (hb hby at_12) rfl ?_
      show Steps p.tables e below (s₁.setTop (mkF m 13 #[.val (.int p1), .val (.int (1 : Int32)), .unset, .unset, .unset, .unset] [(.int p1)])) _
      refine XS.iconst X0.here hx rfl (hb hby at_13) ?_
      show Steps p.tables e below (s₁.setTop (mkF m 14 #[.val (.int p1), .val (.int (1 : Int32)), .unset, .unset, .unset, .unset] [(.int (2 : Int32)), (.int p1)])) _
      refine XS.iand X0.here hx rfl (hb hby at_14) rfl ?_
      exact k
    by_cases hc15_26 : (p1 &&& (2 : Int32)) = (0 : Int32)
    · have pre27 : ∀ t, Steps p.tables e below (s₁.setTop (mkF m 27 #[.val (.int p1), .val (.int (1 : Int32)), .val (.int (0 : Int32)), .unset, .unset, .unset] [(.int (p1 &&& (4 : Int32)))])) t → Steps p.tables e below (s₁.setTop (entryFrame m #[(.int p1)] maxLocals)) t := by
        intro t k
        refine pre25 t ?_
        show Steps p.tables e below (s₁.setTop (mkF m 15 #[.val (.int p1), .val (.int (1 : Int32)), .unset, .unset, .unset, .unset] [(.int (p1 &&& (2 : Int32)))])) _
        refine XS.ifYes X0.here hx rfl (pc0 := 15) (pc' := 22) rfl (hb hby at_15) rfl ((if0 _ _).trans (teq hc15_26).1) (by decide) (by decide) ?_
        show Steps p.tables e below (s₁.setTop (mkF m 22 #[.val (.int p1), .val (.int (1 : Int32)), .unset, .unset, .unset, .unset] [])) _
        refine XS.iconst X0.here hx rfl (hb hby at_22) ?_
        show Steps p.tables e below (s₁.setTop (mkF m 23 #[.val (.int p1), .val (.int (1 : Int32)), .unset, .unset, .unset, .unset] [(.int (0 : Int32))])) _
        refine XS.istoreN X0.here hx rfl (hb hby at_23) rfl (l' := #[.val (.int p1), .val (.int (1 : Int32)), .val (.int (0 : Int32)), .unset, .unset, .unset]) rfl ?_
        show Steps p.tables e below (s₁.setTop (mkF m 24 #[.val (.int p1), .val (.int (1 : Int32)), .val (.int (0 : Int32)), .unset, .unset, .unset] [])) _
        refine XS.iloadN X0.here hx rfl (hb hby at_24) rfl ?_
        show Steps p.tables e below (s₁.setTop (mkF m 25 #[.val (.int p1), .val (.int (1 : Int32)), .val (.int (0 : Int32)), .unset, .unset, .unset] [(.int p1)])) _
        refine XS.iconst X0.here hx rfl (hb hby at_25) ?_
        show Steps p.tables e below (s₁.setTop (mkF m 26 #[.val (.int p1), .val (.int (1 : Int32)), .val (.int (0 : Int32)), .unset, .unset, .unset] [(.int (4 : Int32)), (.int p1)])) _
        refine XS.iand X0.here hx rfl (hb hby at_26) rfl ?_
        exact k
      by_cases hc27_28 : (p1 &&& (4 : Int32)) = (0 : Int32)
      · obtain ⟨T29, X29, e29, st29⟩ := getS2 X0 hx hZ hown (host := "") (Or.inl (hw _ (List.mem_of_getElem? (i := 9) rfl))) Via.refl e0 S_wP (g := (mkF m 44 #[.val (.int p1), .val (.int (1 : Int32)), .val (.int (0 : Int32)), .val (.int (0 : Int32)), .unset, .unset] [])) rfl (hb hby at_44)
        obtain ⟨cq30, kq30, q30a, q30b, q30c⟩ := isOf hZ e29 E_wP
        obtain ⟨_, _, ⟨T30, L30, k30, n30⟩, -, X30, ⟨Lc30, hQ30, l30, y30, z30⟩, st30⟩ := X29.virtualBack hx (y := (⟨"com/example/stepwise/stepwise/core/types/TypingMode", "rejects", "(ZZ)Z"⟩ : MethodName)) (z := (⟨"com/example/stepwise/stepwise/core/types/TypingMode", "rejects", "(ZZ)Z"⟩ : MethodName)) hown (mvT hZ (hw _ (List.mem_of_getElem? (i := 3) rfl))) (mvT hZ (hw _ (List.mem_of_getElem? (i := 4) rfl))) (notFace_of_selects (args := #[]) (mvT hZ (hw _ (List.mem_of_getElem? (i := 6) rfl)))) (mvT hZ (hw _ (List.mem_of_getElem? (i := 6) rfl))) (mvT hZ (hw _ (List.mem_of_getElem? (i := 5) rfl))) (by decide) (backOf (W := 0) (rm1 l Z a0 hw [] wP (0 : Int32) (0 : Int32)  h0 n0 wO S_wO) hZ (hw _ (List.mem_of_getElem? (i := 7) rfl)) (hw _ (List.mem_of_getElem? (i := 1) rfl)) (by decide) (by decide)) q30a q30c (g := (mkF m 82 #[.val (.int p1), .val (.int (1 : Int32)), .val (.int (0 : Int32)), .val (.int (0 : Int32)), .val (.ref wP), .val (.int (1 : Int32))] [(.int (0 : Int32)), (.int (0 : Int32)), (.ref wP)])) rfl (by rw [hml]; rfl) (Steps.refl _) (argsL := [(.int (0 : Int32)), (.int (0 : Int32))]) (rest := []) (lenOf pd0 rfl) rfl (by show 2 * 0 + _ ≤ _; exact Nat.le_of_eq rfl) (hb hby at_82) (fun _ _ => ⟨rfl, e29, (by decide : 0 + 0 ≤ _), (by decide : 0 + 0 ≤ _)⟩)
        dsimp only [Pt.U, Pt.locs, Pt.cells, Pt.slots] at X30 l30 y30 z30 st30 hQ30
        subst l30 y30 z30
        obtain ⟨rfl, N30q, e30⟩ := hQ30
        have N30 := Fr.app N0 N30q
        have pre31 : ∀ t, Steps p.tables e below (T30.setTop (mkF m 87 #[.val (.int p1), .val (.int (1 : Int32)), .val (.int (0 : Int32)), .val (.int (0 : Int32)), .val (.ref wP), .val (.int (1 : Int32))] [(.int (1 : Int32)), (.int (f1 wP (0 : Int32) (0 : Int32) wO))])) t → Steps p.tables e below (s₁.setTop (entryFrame m #[(.int p1)] maxLocals)) t := by
          intro t k
          refine pre27 t ?_
          show Steps p.tables e below (s₁.setTop (mkF m 27 #[.val (.int p1), .val (.int (1 : Int32)), .val (.int (0 : Int32)), .unset, .unset, .unset] [(.int (p1 &&& (4 : Int32)))])) _
          refine XS.ifYes X0.here hx rfl (pc0 := 27) (pc' := 38) rfl (hb hby at_27) rfl ((if0 _ _).trans (teq hc27_28).1) (by decide) (by decide) ?_
          show Steps p.tables e below (s₁.setTop (mkF m 38 #[.val (.int p1), .val (.int (1 : Int32)), .val (.int (0 : Int32)), .unset, .unset, .unset] [])) _
          refine XS.iconst X0.here hx rfl (hb hby at_38) ?_
          show Steps p.tables e below (s₁.setTop (mkF m 39 #[.val (.int p1), .val (.int (1 : Int32)), .val (.int (0 : Int32)), .unset, .unset, .unset] [(.int (0 : Int32))])) _
          refine XS.istoreN X0.here hx rfl (hb hby at_39) rfl (l' := #[.val (.int p1), .val (.int (1 : Int32)), .val (.int (0 : Int32)), .val (.int (0 : Int32)), .unset, .unset]) rfl ?_
          show Steps p.tables e below (s₁.setTop (mkF m 40 #[.val (.int p1), .val (.int (1 : Int32)), .val (.int (0 : Int32)), .val (.int (0 : Int32)), .unset, .unset] [])) _
          refine XS.iloadN X0.here hx rfl (hb hby at_40) rfl ?_
          show Steps p.tables e below (s₁.setTop (mkF m 41 #[.val (.int p1), .val (.int (1 : Int32)), .val (.int (0 : Int32)), .val (.int (0 : Int32)), .unset, .unset] [(.int (1 : Int32))])) _
          refine XS.ifNo X0.here hx rfl (hb hby at_41) rfl ((if0 _ _).trans (feq (by decide : ¬ ((1 : Int32) = (0 : Int32)))).1) ?_
          show Steps p.tables e below (s₁.setTop (mkF m 44 #[.val (.int p1), .val (.int (1 : Int32)), .val (.int (0 : Int32)), .val (.int (0 : Int32)), .unset, .unset] [])) _
          refine st29 _ ?_
          show Steps p.tables e below (T29.setTop (mkF m 47 #[.val (.int p1), .val (.int (1 : Int32)), .val (.int (0 : Int32)), .val (.int (0 : Int32)), .unset, .unset] [(.ref wP)])) _
          refine XS.goto X29.here hx rfl (pc0 := 47) (pc' := 53) rfl (hb hby at_47) (by decide) (by decide) ?_
          show Steps p.tables e below (T29.setTop (mkF m 53 #[.val (.int p1), .val (.int (1 : Int32)), .val (.int (0 : Int32)), .val (.int (0 : Int32)), .unset, .unset] [(.ref wP)])) _
          refine XS.astore X29.here hx rfl (hb hby at_53) rfl rfl (l' := #[.val (.int p1), .val (.int (1 : Int32)), .val (.int (0 : Int32)), .val (.int (0 : Int32)), .val (.ref wP), .unset]) rfl ?_
          show Steps p.tables e below (T29.setTop (mkF m 55 #[.val (.int p1), .val (.int (1 : Int32)), .val (.int (0 : Int32)), .val (.int (0 : Int32)), .val (.ref wP), .unset] [])) _
          refine XS.iloadN X29.here hx rfl (hb hby at_55) rfl ?_
          show Steps p.tables e below (T29.setTop (mkF m 56 #[.val (.int p1), .val (.int (1 : Int32)), .val (.int (0 : Int32)), .val (.int (0 : Int32)), .val (.ref wP), .unset] [(.int (0 : Int32))])) _
          refine XS.ifYes X29.here hx rfl (pc0 := 56) (pc' := 65) rfl (hb hby at_56) rfl ((if0 _ _).trans (teq (by decide : (0 : Int32) = (0 : Int32))).1) (by decide) (by decide) ?_
          show Steps p.tables e below (T29.setTop (mkF m 65 #[.val (.int p1), .val (.int (1 : Int32)), .val (.int (0 : Int32)), .val (.int (0 : Int32)), .val (.ref wP), .unset] [])) _
          refine XS.iloadN X29.here hx rfl (hb hby at_65) rfl ?_
          show Steps p.tables e below (T29.setTop (mkF m 66 #[.val (.int p1), .val (.int (1 : Int32)), .val (.int (0 : Int32)), .val (.int (0 : Int32)), .val (.ref wP), .unset] [(.int (0 : Int32))])) _
          refine XS.ifNo X29.here hx rfl (hb hby at_66) rfl ((if0 _ _).trans (teq (by decide : (0 : Int32) = (0 : Int32))).2) ?_
          show Steps p.tables e below (T29.setTop (mkF m 69 #[.val (.int p1), .val (.int (1 : Int32)), .val (.int (0 : Int32)), .val (.int (0 : Int32)), .val (.ref wP), .unset] [])) _
          refine XS.iconst X29.here hx rfl (hb hby at_69) ?_
          show Steps p.tables e below (T29.setTop (mkF m 70 #[.val (.int p1), .val (.int (1 : Int32)), .val (.int (0 : Int32)), .val (.int (0 : Int32)), .val (.ref wP), .unset] [(.int (1 : Int32))])) _
          refine XS.istore X29.here hx rfl (hb hby at_70) rfl (l' := #[.val (.int p1), .val (.int (1 : Int32)), .val (.int (0 : Int32)), .val (.int (0 : Int32)), .val (.ref wP), .val (.int (1 : Int32))]) rfl ?_
          show Steps p.tables e below (T29.setTop (mkF m 72 #[.val (.int p1), .val (.int (1 : Int32)), .val (.int (0 : Int32)), .val (.int (0 : Int32)), .val (.ref wP), .val (.int (1 : Int32))] [])) _
          refine XS.goto X29.here hx rfl (pc0 := 72) (pc' := 78) rfl (hb hby at_72) (by decide) (by decide) ?_
          show Steps p.tables e below (T29.setTop (mkF m 78 #[.val (.int p1), .val (.int (1 : Int32)), .val (.int (0 : Int32)), .val (.int (0 : Int32)), .val (.ref wP), .val (.int (1 : Int32))] [])) _
          refine XS.aload X29.here hx rfl (hb hby at_78) rfl rfl ?_
          show Steps p.tables e below (T29.setTop (mkF m 80 #[.val (.int p1), .val (.int (1 : Int32)), .val (.int (0 : Int32)), .val (.int (0 : Int32)), .val (.ref wP), .val (.int (1 : Int32))] [(.ref wP)])) _
          refine XS.iloadN X29.here hx rfl (hb hby at_80) rfl ?_
          show Steps p.tables e below (T29.setTop (mkF m 81 #[.val (.int p1), .val (.int (1 : Int32)), .val (.int (0 : Int32)), .val (.int (0 : Int32)), .val (.ref wP), .val (.int (1 : Int32))] [(.int (0 : Int32)), (.ref wP)])) _
          refine XS.iloadN X29.here hx rfl (hb hby at_81) rfl ?_
          show Steps p.tables e below (T29.setTop (mkF m 82 #[.val (.int p1), .val (.int (1 : Int32)), .val (.int (0 : Int32)), .val (.int (0 : Int32)), .val (.ref wP), .val (.int (1 : Int32))] [(.int (0 : Int32)), (.int (0 : Int32)), (.ref wP)])) _
          refine st30.trans ?_
          show Steps p.tables e below (T30.setTop (mkF m 85 #[.val (.int p1), .val (.int (1 : Int32)), .val (.int (0 : Int32)), .val (.int (0 : Int32)), .val (.ref wP), .val (.int (1 : Int32))] [(.int (f1 wP (0 : Int32) (0 : Int32) wO))])) _
          refine XS.iload X30.here hx rfl (hb hby at_85) rfl ?_
          exact k
        by_cases hc87_32 : (f1 wP (0 : Int32) (0 : Int32) wO) = (1 : Int32)
        · refine hneg ?_
          obtain ⟨fs, hr, hrun, hended, hW, hsame⟩ := X30.leave (v := some (.int (1 : Int32))) (fun h => by rw [Bd.returns] at h; cases h)
          refine ⟨_, _, pre31 _ ?_, hrun, hended, _, _, rfl, ?_, ⟨_, rfl⟩, hW, hsame.mono (by decide) (by decide)⟩
          · show Steps p.tables e below (T30.setTop (mkF m 87 #[.val (.int p1), .val (.int (1 : Int32)), .val (.int (0 : Int32)), .val (.int (0 : Int32)), .val (.ref wP), .val (.int (1 : Int32))] [(.int (1 : Int32)), (.int (f1 wP (0 : Int32) (0 : Int32) wO))])) _
            refine XS.icmpNo X30.here hx rfl (hb hby at_87) rfl (teq hc87_32).2 ?_
            show Steps p.tables e below (T30.setTop (mkF m 90 #[.val (.int p1), .val (.int (1 : Int32)), .val (.int (0 : Int32)), .val (.int (0 : Int32)), .val (.ref wP), .val (.int (1 : Int32))] [])) _
            refine XS.iconst X30.here hx rfl (hb hby at_90) ?_
            show Steps p.tables e below (T30.setTop (mkF m 91 #[.val (.int p1), .val (.int (1 : Int32)), .val (.int (0 : Int32)), .val (.int (0 : Int32)), .val (.ref wP), .val (.int (1 : Int32))] [(.int (1 : Int32))])) _
            refine XS.goto X30.here hx rfl (pc0 := 91) (pc' := 95) rfl (hb hby at_91) (by decide) (by decide) ?_
            show Steps p.tables e below (T30.setTop (mkF m 95 #[.val (.int p1), .val (.int (1 : Int32)), .val (.int (0 : Int32)), .val (.int (0 : Int32)), .val (.ref wP), .val (.int (1 : Int32))] [(.int (1 : Int32))])) _
            exact retN X30 hx (t := .boolean) Bd.returns (by simp) (hb hby at_95) hr
          · show Q0 Z p1 wO wP h0 n0 _ T30.heap _
            rw [e30]
            refine ⟨?_, N30, rfl⟩
            rw [show f0 p1 wO wP = (1 : Int32) from (by skip; simp only [f0, if_neg hc3_2, if_pos hc15_26, if_pos hc27_28, if_pos hc87_32])]
        · refine hneg ?_
          obtain ⟨fs, hr, hrun, hended, hW, hsame⟩ := X30.leave (v := some (.int (0 : Int32))) (fun h => by rw [Bd.returns] at h; cases h)
          refine ⟨_, _, pre31 _ ?_, hrun, hended, _, _, rfl, ?_, ⟨_, rfl⟩, hW, hsame.mono (by decide) (by decide)⟩
          · show Steps p.tables e below (T30.setTop (mkF m 87 #[.val (.int p1), .val (.int (1 : Int32)), .val (.int (0 : Int32)), .val (.int (0 : Int32)), .val (.ref wP), .val (.int (1 : Int32))] [(.int (1 : Int32)), (.int (f1 wP (0 : Int32) (0 : Int32) wO))])) _
            refine XS.icmpYes X30.here hx rfl (pc0 := 87) (pc' := 94) rfl (hb hby at_87) rfl (feq hc87_32).2 (by decide) (by decide) ?_
            show Steps p.tables e below (T30.setTop (mkF m 94 #[.val (.int p1), .val (.int (1 : Int32)), .val (.int (0 : Int32)), .val (.int (0 : Int32)), .val (.ref wP), .val (.int (1 : Int32))] [])) _
            refine XS.iconst X30.here hx rfl (hb hby at_94) ?_
            show Steps p.tables e below (T30.setTop (mkF m 95 #[.val (.int p1), .val (.int (1 : Int32)), .val (.int (0 : Int32)), .val (.int (0 : Int32)), .val (.ref wP), .val (.int (1 : Int32))] [(.int (0 : Int32))])) _
            exact retN X30 hx (t := .boolean) Bd.returns (by simp) (hb hby at_95) hr
          · show Q0 Z p1 wO wP h0 n0 _ T30.heap _
            rw [e30]
            refine ⟨?_, N30, rfl⟩
            rw [show f0 p1 wO wP = (0 : Int32) from (by skip; simp only [f0, if_neg hc3_2, if_pos hc15_26, if_pos hc27_28, if_neg hc87_32])]
      · obtain ⟨T33, X33, e33, st33⟩ := getS2 X0 hx hZ hown (host := "") (Or.inl (hw _ (List.mem_of_getElem? (i := 9) rfl))) Via.refl e0 S_wP (g := (mkF m 44 #[.val (.int p1), .val (.int (1 : Int32)), .val (.int (0 : Int32)), .val (.int (0 : Int32)), .unset, .unset] [])) rfl (hb hby at_44)
        obtain ⟨cq34, kq34, q34a, q34b, q34c⟩ := isOf hZ e33 E_wP
        obtain ⟨_, _, ⟨T34, L34, k34, n34⟩, -, X34, ⟨Lc34, hQ34, l34, y34, z34⟩, st34⟩ := X33.virtualBack hx (y := (⟨"com/example/stepwise/stepwise/core/types/TypingMode", "rejects", "(ZZ)Z"⟩ : MethodName)) (z := (⟨"com/example/stepwise/stepwise/core/types/TypingMode", "rejects", "(ZZ)Z"⟩ : MethodName)) hown (mvT hZ (hw _ (List.mem_of_getElem? (i := 3) rfl))) (mvT hZ (hw _ (List.mem_of_getElem? (i := 4) rfl))) (notFace_of_selects (args := #[]) (mvT hZ (hw _ (List.mem_of_getElem? (i := 6) rfl)))) (mvT hZ (hw _ (List.mem_of_getElem? (i := 6) rfl))) (mvT hZ (hw _ (List.mem_of_getElem? (i := 5) rfl))) (by decide) (backOf (W := 0) (rm1 l Z a0 hw [] wP (0 : Int32) (0 : Int32)  h0 n0 wO S_wO) hZ (hw _ (List.mem_of_getElem? (i := 7) rfl)) (hw _ (List.mem_of_getElem? (i := 1) rfl)) (by decide) (by decide)) q34a q34c (g := (mkF m 82 #[.val (.int p1), .val (.int (1 : Int32)), .val (.int (0 : Int32)), .val (.int (0 : Int32)), .val (.ref wP), .val (.int (1 : Int32))] [(.int (0 : Int32)), (.int (0 : Int32)), (.ref wP)])) rfl (by rw [hml]; rfl) (Steps.refl _) (argsL := [(.int (0 : Int32)), (.int (0 : Int32))]) (rest := []) (lenOf pd0 rfl) rfl (by show 2 * 0 + _ ≤ _; exact Nat.le_of_eq rfl) (hb hby at_82) (fun _ _ => ⟨rfl, e33, (by decide : 0 + 0 ≤ _), (by decide : 0 + 0 ≤ _)⟩)
        dsimp only [Pt.U, Pt.locs, Pt.cells, Pt.slots] at X34 l34 y34 z34 st34 hQ34
        subst l34 y34 z34
        obtain ⟨rfl, N34q, e34⟩ := hQ34
        have N34 := Fr.app N0 N34q
        have pre35 : ∀ t, Steps p.tables e below (T34.setTop (mkF m 87 #[.val (.int p1), .val (.int (1 : Int32)), .val (.int (0 : Int32)), .val (.int (0 : Int32)), .val (.ref wP), .val (.int (1 : Int32))] [(.int (1 : Int32)), (.int (f1 wP (0 : Int32) (0 : Int32) wO))])) t → Steps p.tables e below (s₁.setTop (entryFrame m #[(.int p1)] maxLocals)) t := by
          intro t k
          refine pre27 t ?_
          show Steps p.tables e below (s₁.setTop (mkF m 27 #[.val (.int p1), .val (.int (1 : Int32)), .val (.int (0 : Int32)), .unset, .unset, .unset] [(.int (p1 &&& (4 : Int32)))])) _
          refine XS.ifNo X0.here hx rfl (hb hby at_27) rfl ((if0 _ _).trans (feq hc27_28).1) ?_
          show Steps p.tables e below (s₁.setTop (mkF m 30 #[.val (.int p1), .val (.int (1 : Int32)), .val (.int (0 : Int32)), .unset, .unset, .unset] [])) _
          refine XS.iloadN X0.here hx rfl (hb hby at_30) rfl ?_
          show Steps p.tables e below (s₁.setTop (mkF m 31 #[.val (.int p1), .val (.int (1 : Int32)), .val (.int (0 : Int32)), .unset, .unset, .unset] [(.int (0 : Int32))])) _
          refine XS.ifYes X0.here hx rfl (pc0 := 31) (pc' := 38) rfl (hb hby at_31) rfl ((if0 _ _).trans (teq (by decide : (0 : Int32) = (0 : Int32))).1) (by decide) (by decide) ?_
          show Steps p.tables e below (s₁.setTop (mkF m 38 #[.val (.int p1), .val (.int (1 : Int32)), .val (.int (0 : Int32)), .unset, .unset, .unset] [])) _
          refine XS.iconst X0.here hx rfl (hb hby at_38) ?_
          show Steps p.tables e below (s₁.setTop (mkF m 39 #[.val (.int p1), .val (.int (1 : Int32)), .val (.int (0 : Int32)), .unset, .unset, .unset] [(.int (0 : Int32))])) _
          refine XS.istoreN X0.here hx rfl (hb hby at_39) rfl (l' := #[.val (.int p1), .val (.int (1 : Int32)), .val (.int (0 : Int32)), .val (.int (0 : Int32)), .unset, .unset]) rfl ?_
          show Steps p.tables e below (s₁.setTop (mkF m 40 #[.val (.int p1), .val (.int (1 : Int32)), .val (.int (0 : Int32)), .val (.int (0 : Int32)), .unset, .unset] [])) _
          refine XS.iloadN X0.here hx rfl (hb hby at_40) rfl ?_
          show Steps p.tables e below (s₁.setTop (mkF m 41 #[.val (.int p1), .val (.int (1 : Int32)), .val (.int (0 : Int32)), .val (.int (0 : Int32)), .unset, .unset] [(.int (1 : Int32))])) _
          refine XS.ifNo X0.here hx rfl (hb hby at_41) rfl ((if0 _ _).trans (feq (by decide : ¬ ((1 : Int32) = (0 : Int32)))).1) ?_
          show Steps p.tables e below (s₁.setTop (mkF m 44 #[.val (.int p1), .val (.int (1 : Int32)), .val (.int (0 : Int32)), .val (.int (0 : Int32)), .unset, .unset] [])) _
          refine st33 _ ?_
          show Steps p.tables e below (T33.setTop (mkF m 47 #[.val (.int p1), .val (.int (1 : Int32)), .val (.int (0 : Int32)), .val (.int (0 : Int32)), .unset, .unset] [(.ref wP)])) _
          refine XS.goto X33.here hx rfl (pc0 := 47) (pc' := 53) rfl (hb hby at_47) (by decide) (by decide) ?_
          show Steps p.tables e below (T33.setTop (mkF m 53 #[.val (.int p1), .val (.int (1 : Int32)), .val (.int (0 : Int32)), .val (.int (0 : Int32)), .unset, .unset] [(.ref wP)])) _
          refine XS.astore X33.here hx rfl (hb hby at_53) rfl rfl (l' := #[.val (.int p1), .val (.int (1 : Int32)), .val (.int (0 : Int32)), .val (.int (0 : Int32)), .val (.ref wP), .unset]) rfl ?_
          show Steps p.tables e below (T33.setTop (mkF m 55 #[.val (.int p1), .val (.int (1 : Int32)), .val (.int (0 : Int32)), .val (.int (0 : Int32)), .val (.ref wP), .unset] [])) _
          refine XS.iloadN X33.here hx rfl (hb hby at_55) rfl ?_
          show Steps p.tables e below (T33.setTop (mkF m 56 #[.val (.int p1), .val (.int (1 : Int32)), .val (.int (0 : Int32)), .val (.int (0 : Int32)), .val (.ref wP), .unset] [(.int (0 : Int32))])) _
          refine XS.ifYes X33.here hx rfl (pc0 := 56) (pc' := 65) rfl (hb hby at_56) rfl ((if0 _ _).trans (teq (by decide : (0 : Int32) = (0 : Int32))).1) (by decide) (by decide) ?_
          show Steps p.tables e below (T33.setTop (mkF m 65 #[.val (.int p1), .val (.int (1 : Int32)), .val (.int (0 : Int32)), .val (.int (0 : Int32)), .val (.ref wP), .unset] [])) _
          refine XS.iloadN X33.here hx rfl (hb hby at_65) rfl ?_
          show Steps p.tables e below (T33.setTop (mkF m 66 #[.val (.int p1), .val (.int (1 : Int32)), .val (.int (0 : Int32)), .val (.int (0 : Int32)), .val (.ref wP), .unset] [(.int (0 : Int32))])) _
          refine XS.ifNo X33.here hx rfl (hb hby at_66) rfl ((if0 _ _).trans (teq (by decide : (0 : Int32) = (0 : Int32))).2) ?_
          show Steps p.tables e below (T33.setTop (mkF m 69 #[.val (.int p1), .val (.int (1 : Int32)), .val (.int (0 : Int32)), .val (.int (0 : Int32)), .val (.ref wP), .unset] [])) _
          refine XS.iconst X33.here hx rfl (hb hby at_69) ?_
          show Steps p.tables e below (T33.setTop (mkF m 70 #[.val (.int p1), .val (.int (1 : Int32)), .val (.int (0 : Int32)), .val (.int (0 : Int32)), .val (.ref wP), .unset] [(.int (1 : Int32))])) _
          refine XS.istore X33.here hx rfl (hb hby at_70) rfl (l' := #[.val (.int p1), .val (.int (1 : Int32)), .val (.int (0 : Int32)), .val (.int (0 : Int32)), .val (.ref wP), .val (.int (1 : Int32))]) rfl ?_
          show Steps p.tables e below (T33.setTop (mkF m 72 #[.val (.int p1), .val (.int (1 : Int32)), .val (.int (0 : Int32)), .val (.int (0 : Int32)), .val (.ref wP), .val (.int (1 : Int32))] [])) _
          refine XS.goto X33.here hx rfl (pc0 := 72) (pc' := 78) rfl (hb hby at_72) (by decide) (by decide) ?_
          show Steps p.tables e below (T33.setTop (mkF m 78 #[.val (.int p1), .val (.int (1 : Int32)), .val (.int (0 : Int32)), .val (.int (0 : Int32)), .val (.ref wP), .val (.int (1 : Int32))] [])) _
          refine XS.aload X33.here hx rfl (hb hby at_78) rfl rfl ?_
          show Steps p.tables e below (T33.setTop (mkF m 80 #[.val (.int p1), .val (.int (1 : Int32)), .val (.int (0 : Int32)), .val (.int (0 : Int32)), .val (.ref wP), .val (.int (1 : Int32))] [(.ref wP)])) _
          refine XS.iloadN X33.here hx rfl (hb hby at_80) rfl ?_
          show Steps p.tables e below (T33.setTop (mkF m 81 #[.val (.int p1), .val (.int (1 : Int32)), .val (.int (0 : Int32)), .val (.int (0 : Int32)), .val (.ref wP), .val (.int (1 : Int32))] [(.int (0 : Int32)), (.ref wP)])) _
          refine XS.iloadN X33.here hx rfl (hb hby at_81) rfl ?_
          show Steps p.tables e below (T33.setTop (mkF m 82 #[.val (.int p1), .val (.int (1 : Int32)), .val (.int (0 : Int32)), .val (.int (0 : Int32)), .val (.ref wP), .val (.int (1 : Int32))] [(.int (0 : Int32)), (.int (0 : Int32)), (.ref wP)])) _
          refine st34.trans ?_
          show Steps p.tables e below (T34.setTop (mkF m 85 #[.val (.int p1), .val (.int (1 : Int32)), .val (.int (0 : Int32)), .val (.int (0 : Int32)), .val (.ref wP), .val (.int (1 : Int32))] [(.int (f1 wP (0 : Int32) (0 : Int32) wO))])) _
          refine XS.iload X34.here hx rfl (hb hby at_85) rfl ?_
          exact k
        by_cases hc87_36 : (f1 wP (0 : Int32) (0 : Int32) wO) = (1 : Int32)
        · refine hneg ?_
          obtain ⟨fs, hr, hrun, hended, hW, hsame⟩ := X34.leave (v := some (.int (1 : Int32))) (fun h => by rw [Bd.returns] at h; cases h)
          refine ⟨_, _, pre35 _ ?_, hrun, hended, _, _, rfl, ?_, ⟨_, rfl⟩, hW, hsame.mono (by decide) (by decide)⟩
          · show Steps p.tables e below (T34.setTop (mkF m 87 #[.val (.int p1), .val (.int (1 : Int32)), .val (.int (0 : Int32)), .val (.int (0 : Int32)), .val (.ref wP), .val (.int (1 : Int32))] [(.int (1 : Int32)), (.int (f1 wP (0 : Int32) (0 : Int32) wO))])) _
            refine XS.icmpNo X34.here hx rfl (hb hby at_87) rfl (teq hc87_36).2 ?_
            show Steps p.tables e below (T34.setTop (mkF m 90 #[.val (.int p1), .val (.int (1 : Int32)), .val (.int (0 : Int32)), .val (.int (0 : Int32)), .val (.ref wP), .val (.int (1 : Int32))] [])) _
            refine XS.iconst X34.here hx rfl (hb hby at_90) ?_
            show Steps p.tables e below (T34.setTop (mkF m 91 #[.val (.int p1), .val (.int (1 : Int32)), .val (.int (0 : Int32)), .val (.int (0 : Int32)), .val (.ref wP), .val (.int (1 : Int32))] [(.int (1 : Int32))])) _
            refine XS.goto X34.here hx rfl (pc0 := 91) (pc' := 95) rfl (hb hby at_91) (by decide) (by decide) ?_
            show Steps p.tables e below (T34.setTop (mkF m 95 #[.val (.int p1), .val (.int (1 : Int32)), .val (.int (0 : Int32)), .val (.int (0 : Int32)), .val (.ref wP), .val (.int (1 : Int32))] [(.int (1 : Int32))])) _
            exact retN X34 hx (t := .boolean) Bd.returns (by simp) (hb hby at_95) hr
          · show Q0 Z p1 wO wP h0 n0 _ T34.heap _
            rw [e34]
            refine ⟨?_, N34, rfl⟩
            rw [show f0 p1 wO wP = (1 : Int32) from (by skip; simp only [f0, if_neg hc3_2, if_pos hc15_26, if_neg hc27_28, if_pos hc87_36])]
        · refine hneg ?_
          obtain ⟨fs, hr, hrun, hended, hW, hsame⟩ := X34.leave (v := some (.int (0 : Int32))) (fun h => by rw [Bd.returns] at h; cases h)
          refine ⟨_, _, pre35 _ ?_, hrun, hended, _, _, rfl, ?_, ⟨_, rfl⟩, hW, hsame.mono (by decide) (by decide)⟩
          · show Steps p.tables e below (T34.setTop (mkF m 87 #[.val (.int p1), .val (.int (1 : Int32)), .val (.int (0 : Int32)), .val (.int (0 : Int32)), .val (.ref wP), .val (.int (1 : Int32))] [(.int (1 : Int32)), (.int (f1 wP (0 : Int32) (0 : Int32) wO))])) _
            refine XS.icmpYes X34.here hx rfl (pc0 := 87) (pc' := 94) rfl (hb hby at_87) rfl (feq hc87_36).2 (by decide) (by decide) ?_
            show Steps p.tables e below (T34.setTop (mkF m 94 #[.val (.int p1), .val (.int (1 : Int32)), .val (.int (0 : Int32)), .val (.int (0 : Int32)), .val (.ref wP), .val (.int (1 : Int32))] [])) _
            refine XS.iconst X34.here hx rfl (hb hby at_94) ?_
            show Steps p.tables e below (T34.setTop (mkF m 95 #[.val (.int p1), .val (.int (1 : Int32)), .val (.int (0 : Int32)), .val (.int (0 : Int32)), .val (.ref wP), .val (.int (1 : Int32))] [(.int (0 : Int32))])) _
            exact retN X34 hx (t := .boolean) Bd.returns (by simp) (hb hby at_95) hr
          · show Q0 Z p1 wO wP h0 n0 _ T34.heap _
            rw [e34]
            refine ⟨?_, N34, rfl⟩
            rw [show f0 p1 wO wP = (0 : Int32) from (by skip; simp only [f0, if_neg hc3_2, if_pos hc15_26, if_neg hc27_28, if_neg hc87_36])]
    · have pre37 : ∀ t, Steps p.tables e below (s₁.setTop (mkF m 27 #[.val (.int p1), .val (.int (1 : Int32)), .val (.int (1 : Int32)), .unset, .unset, .unset] [(.int (p1 &&& (4 : Int32)))])) t → Steps p.tables e below (s₁.setTop (entryFrame m #[(.int p1)] maxLocals)) t := by
        intro t k
        refine pre25 t ?_
        show Steps p.tables e below (s₁.setTop (mkF m 15 #[.val (.int p1), .val (.int (1 : Int32)), .unset, .unset, .unset, .unset] [(.int (p1 &&& (2 : Int32)))])) _
        refine XS.ifNo X0.here hx rfl (hb hby at_15) rfl ((if0 _ _).trans (feq hc15_26).1) ?_
        show Steps p.tables e below (s₁.setTop (mkF m 18 #[.val (.int p1), .val (.int (1 : Int32)), .unset, .unset, .unset, .unset] [])) _
        refine XS.iconst X0.here hx rfl (hb hby at_18) ?_
        show Steps p.tables e below (s₁.setTop (mkF m 19 #[.val (.int p1), .val (.int (1 : Int32)), .unset, .unset, .unset, .unset] [(.int (1 : Int32))])) _
        refine XS.goto X0.here hx rfl (pc0 := 19) (pc' := 23) rfl (hb hby at_19) (by decide) (by decide) ?_
        show Steps p.tables e below (s₁.setTop (mkF m 23 #[.val (.int p1), .val (.int (1 : Int32)), .unset, .unset, .unset, .unset] [(.int (1 : Int32))])) _
        refine XS.istoreN X0.here hx rfl (hb hby at_23) rfl (l' := #[.val (.int p1), .val (.int (1 : Int32)), .val (.int (1 : Int32)), .unset, .unset, .unset]) rfl ?_
        show Steps p.tables e below (s₁.setTop (mkF m 24 #[.val (.int p1), .val (.int (1 : Int32)), .val (.int (1 : Int32)), .unset, .unset, .unset] [])) _
        refine XS.iloadN X0.here hx rfl (hb hby at_24) rfl ?_
        show Steps p.tables e below (s₁.setTop (mkF m 25 #[.val (.int p1), .val (.int (1 : Int32)), .val (.int (1 : Int32)), .unset, .unset, .unset] [(.int p1)])) _
        refine XS.iconst X0.here hx rfl (hb hby at_25) ?_
        show Steps p.tables e below (s₁.setTop (mkF m 26 #[.val (.int p1), .val (.int (1 : Int32)), .val (.int (1 : Int32)), .unset, .unset, .unset] [(.int (4 : Int32)), (.int p1)])) _
        refine XS.iand X0.here hx rfl (hb hby at_26) rfl ?_
        exact k
      by_cases hc27_38 : (p1 &&& (4 : Int32)) = (0 : Int32)
      · obtain ⟨T39, X39, e39, st39⟩ := getS2 X0 hx hZ hown (host := "") (Or.inl (hw _ (List.mem_of_getElem? (i := 9) rfl))) Via.refl e0 S_wP (g := (mkF m 44 #[.val (.int p1), .val (.int (1 : Int32)), .val (.int (1 : Int32)), .val (.int (0 : Int32)), .unset, .unset] [])) rfl (hb hby at_44)
        obtain ⟨cq40, kq40, q40a, q40b, q40c⟩ := isOf hZ e39 E_wP
        obtain ⟨_, _, ⟨T40, L40, k40, n40⟩, -, X40, ⟨Lc40, hQ40, l40, y40, z40⟩, st40⟩ := X39.virtualBack hx (y := (⟨"com/example/stepwise/stepwise/core/types/TypingMode", "rejects", "(ZZ)Z"⟩ : MethodName)) (z := (⟨"com/example/stepwise/stepwise/core/types/TypingMode", "rejects", "(ZZ)Z"⟩ : MethodName)) hown (mvT hZ (hw _ (List.mem_of_getElem? (i := 3) rfl))) (mvT hZ (hw _ (List.mem_of_getElem? (i := 4) rfl))) (notFace_of_selects (args := #[]) (mvT hZ (hw _ (List.mem_of_getElem? (i := 6) rfl)))) (mvT hZ (hw _ (List.mem_of_getElem? (i := 6) rfl))) (mvT hZ (hw _ (List.mem_of_getElem? (i := 5) rfl))) (by decide) (backOf (W := 0) (rm1 l Z a0 hw [] wP (1 : Int32) (0 : Int32)  h0 n0 wO S_wO) hZ (hw _ (List.mem_of_getElem? (i := 7) rfl)) (hw _ (List.mem_of_getElem? (i := 1) rfl)) (by decide) (by decide)) q40a q40c (g := (mkF m 82 #[.val (.int p1), .val (.int (1 : Int32)), .val (.int (1 : Int32)), .val (.int (0 : Int32)), .val (.ref wP), .val (.int (1 : Int32))] [(.int (0 : Int32)), (.int (1 : Int32)), (.ref wP)])) rfl (by rw [hml]; rfl) (Steps.refl _) (argsL := [(.int (1 : Int32)), (.int (0 : Int32))]) (rest := []) (lenOf pd0 rfl) rfl (by show 2 * 0 + _ ≤ _; exact Nat.le_of_eq rfl) (hb hby at_82) (fun _ _ => ⟨rfl, e39, (by decide : 0 + 0 ≤ _), (by decide : 0 + 0 ≤ _)⟩)
        dsimp only [Pt.U, Pt.locs, Pt.cells, Pt.slots] at X40 l40 y40 z40 st40 hQ40
        subst l40 y40 z40
        obtain ⟨rfl, N40q, e40⟩ := hQ40
        have N40 := Fr.app N0 N40q
        have pre41 : ∀ t, Steps p.tables e below (T40.setTop (mkF m 87 #[.val (.int p1), .val (.int (1 : Int32)), .val (.int (1 : Int32)), .val (.int (0 : Int32)), .val (.ref wP), .val (.int (1 : Int32))] [(.int (1 : Int32)), (.int (f1 wP (1 : Int32) (0 : Int32) wO))])) t → Steps p.tables e below (s₁.setTop (entryFrame m #[(.int p1)] maxLocals)) t := by
          intro t k
          refine pre37 t ?_
          show Steps p.tables e below (s₁.setTop (mkF m 27 #[.val (.int p1), .val (.int (1 : Int32)), .val (.int (1 : Int32)), .unset, .unset, .unset] [(.int (p1 &&& (4 : Int32)))])) _
          refine XS.ifYes X0.here hx rfl (pc0 := 27) (pc' := 38) rfl (hb hby at_27) rfl ((if0 _ _).trans (teq hc27_38).1) (by decide) (by decide) ?_
          show Steps p.tables e below (s₁.setTop (mkF m 38 #[.val (.int p1), .val (.int (1 : Int32)), .val (.int (1 : Int32)), .unset, .unset, .unset] [])) _
          refine XS.iconst X0.here hx rfl (hb hby at_38) ?_
          show Steps p.tables e below (s₁.setTop (mkF m 39 #[.val (.int p1), .val (.int (1 : Int32)), .val (.int (1 : Int32)), .unset, .unset, .unset] [(.int (0 : Int32))])) _
          refine XS.istoreN X0.here hx rfl (hb hby at_39) rfl (l' := #[.val (.int p1), .val (.int (1 : Int32)), .val (.int (1 : Int32)), .val (.int (0 : Int32)), .unset, .unset]) rfl ?_
          show Steps p.tables e below (s₁.setTop (mkF m 40 #[.val (.int p1), .val (.int (1 : Int32)), .val (.int (1 : Int32)), .val (.int (0 : Int32)), .unset, .unset] [])) _
          refine XS.iloadN X0.here hx rfl (hb hby at_40) rfl ?_
          show Steps p.tables e below (s₁.setTop (mkF m 41 #[.val (.int p1), .val (.int (1 : Int32)), .val (.int (1 : Int32)), .val (.int (0 : Int32)), .unset, .unset] [(.int (1 : Int32))])) _
          refine XS.ifNo X0.here hx rfl (hb hby at_41) rfl ((if0 _ _).trans (feq (by decide : ¬ ((1 : Int32) = (0 : Int32)))).1) ?_
          show Steps p.tables e below (s₁.setTop (mkF m 44 #[.val (.int p1), .val (.int (1 : Int32)), .val (.int (1 : Int32)), .val (.int (0 : Int32)), .unset, .unset] [])) _
          refine st39 _ ?_
          show Steps p.tables e below (T39.setTop (mkF m 47 #[.val (.int p1), .val (.int (1 : Int32)), .val (.int (1 : Int32)), .val (.int (0 : Int32)), .unset, .unset] [(.ref wP)])) _
          refine XS.goto X39.here hx rfl (pc0 := 47) (pc' := 53) rfl (hb hby at_47) (by decide) (by decide) ?_
          show Steps p.tables e below (T39.setTop (mkF m 53 #[.val (.int p1), .val (.int (1 : Int32)), .val (.int (1 : Int32)), .val (.int (0 : Int32)), .unset, .unset] [(.ref wP)])) _
          refine XS.astore X39.here hx rfl (hb hby at_53) rfl rfl (l' := #[.val (.int p1), .val (.int (1 : Int32)), .val (.int (1 : Int32)), .val (.int (0 : Int32)), .val (.ref wP), .unset]) rfl ?_
          show Steps p.tables e below (T39.setTop (mkF m 55 #[.val (.int p1), .val (.int (1 : Int32)), .val (.int (1 : Int32)), .val (.int (0 : Int32)), .val (.ref wP), .unset] [])) _
          refine XS.iloadN X39.here hx rfl (hb hby at_55) rfl ?_
          show Steps p.tables e below (T39.setTop (mkF m 56 #[.val (.int p1), .val (.int (1 : Int32)), .val (.int (1 : Int32)), .val (.int (0 : Int32)), .val (.ref wP), .unset] [(.int (0 : Int32))])) _
          refine XS.ifYes X39.here hx rfl (pc0 := 56) (pc' := 65) rfl (hb hby at_56) rfl ((if0 _ _).trans (teq (by decide : (0 : Int32) = (0 : Int32))).1) (by decide) (by decide) ?_
          show Steps p.tables e below (T39.setTop (mkF m 65 #[.val (.int p1), .val (.int (1 : Int32)), .val (.int (1 : Int32)), .val (.int (0 : Int32)), .val (.ref wP), .unset] [])) _
          refine XS.iloadN X39.here hx rfl (hb hby at_65) rfl ?_
          show Steps p.tables e below (T39.setTop (mkF m 66 #[.val (.int p1), .val (.int (1 : Int32)), .val (.int (1 : Int32)), .val (.int (0 : Int32)), .val (.ref wP), .unset] [(.int (1 : Int32))])) _
          refine XS.ifYes X39.here hx rfl (pc0 := 66) (pc' := 75) rfl (hb hby at_66) rfl ((if0 _ _).trans (feq (by decide : ¬ ((1 : Int32) = (0 : Int32)))).2) (by decide) (by decide) ?_
          show Steps p.tables e below (T39.setTop (mkF m 75 #[.val (.int p1), .val (.int (1 : Int32)), .val (.int (1 : Int32)), .val (.int (0 : Int32)), .val (.ref wP), .unset] [])) _
          refine XS.iloadN X39.here hx rfl (hb hby at_75) rfl ?_
          show Steps p.tables e below (T39.setTop (mkF m 76 #[.val (.int p1), .val (.int (1 : Int32)), .val (.int (1 : Int32)), .val (.int (0 : Int32)), .val (.ref wP), .unset] [(.int (1 : Int32))])) _
          refine XS.istore X39.here hx rfl (hb hby at_76) rfl (l' := #[.val (.int p1), .val (.int (1 : Int32)), .val (.int (1 : Int32)), .val (.int (0 : Int32)), .val (.ref wP), .val (.int (1 : Int32))]) rfl ?_
          show Steps p.tables e below (T39.setTop (mkF m 78 #[.val (.int p1), .val (.int (1 : Int32)), .val (.int (1 : Int32)), .val (.int (0 : Int32)), .val (.ref wP), .val (.int (1 : Int32))] [])) _
          refine XS.aload X39.here hx rfl (hb hby at_78) rfl rfl ?_
          show Steps p.tables e below (T39.setTop (mkF m 80 #[.val (.int p1), .val (.int (1 : Int32)), .val (.int (1 : Int32)), .val (.int (0 : Int32)), .val (.ref wP), .val (.int (1 : Int32))] [(.ref wP)])) _
          refine XS.iloadN X39.here hx rfl (hb hby at_80) rfl ?_
          show Steps p.tables e below (T39.setTop (mkF m 81 #[.val (.int p1), .val (.int (1 : Int32)), .val (.int (1 : Int32)), .val (.int (0 : Int32)), .val (.ref wP), .val (.int (1 : Int32))] [(.int (1 : Int32)), (.ref wP)])) _
          refine XS.iloadN X39.here hx rfl (hb hby at_81) rfl ?_
          show Steps p.tables e below (T39.setTop (mkF m 82 #[.val (.int p1), .val (.int (1 : Int32)), .val (.int (1 : Int32)), .val (.int (0 : Int32)), .val (.ref wP), .val (.int (1 : Int32))] [(.int (0 : Int32)), (.int (1 : Int32)), (.ref wP)])) _
          refine st40.trans ?_
          show Steps p.tables e below (T40.setTop (mkF m 85 #[.val (.int p1), .val (.int (1 : Int32)), .val (.int (1 : Int32)), .val (.int (0 : Int32)), .val (.ref wP), .val (.int (1 : Int32))] [(.int (f1 wP (1 : Int32) (0 : Int32) wO))])) _
          refine XS.iload X40.here hx rfl (hb hby at_85) rfl ?_
          exact k
        by_cases hc87_42 : (f1 wP (1 : Int32) (0 : Int32) wO) = (1 : Int32)
        · refine hneg ?_
          obtain ⟨fs, hr, hrun, hended, hW, hsame⟩ := X40.leave (v := some (.int (1 : Int32))) (fun h => by rw [Bd.returns] at h; cases h)
          refine ⟨_, _, pre41 _ ?_, hrun, hended, _, _, rfl, ?_, ⟨_, rfl⟩, hW, hsame.mono (by decide) (by decide)⟩
          · show Steps p.tables e below (T40.setTop (mkF m 87 #[.val (.int p1), .val (.int (1 : Int32)), .val (.int (1 : Int32)), .val (.int (0 : Int32)), .val (.ref wP), .val (.int (1 : Int32))] [(.int (1 : Int32)), (.int (f1 wP (1 : Int32) (0 : Int32) wO))])) _
            refine XS.icmpNo X40.here hx rfl (hb hby at_87) rfl (teq hc87_42).2 ?_
            show Steps p.tables e below (T40.setTop (mkF m 90 #[.val (.int p1), .val (.int (1 : Int32)), .val (.int (1 : Int32)), .val (.int (0 : Int32)), .val (.ref wP), .val (.int (1 : Int32))] [])) _
            refine XS.iconst X40.here hx rfl (hb hby at_90) ?_
            show Steps p.tables e below (T40.setTop (mkF m 91 #[.val (.int p1), .val (.int (1 : Int32)), .val (.int (1 : Int32)), .val (.int (0 : Int32)), .val (.ref wP), .val (.int (1 : Int32))] [(.int (1 : Int32))])) _
            refine XS.goto X40.here hx rfl (pc0 := 91) (pc' := 95) rfl (hb hby at_91) (by decide) (by decide) ?_
            show Steps p.tables e below (T40.setTop (mkF m 95 #[.val (.int p1), .val (.int (1 : Int32)), .val (.int (1 : Int32)), .val (.int (0 : Int32)), .val (.ref wP), .val (.int (1 : Int32))] [(.int (1 : Int32))])) _
            exact retN X40 hx (t := .boolean) Bd.returns (by simp) (hb hby at_95) hr
          · show Q0 Z p1 wO wP h0 n0 _ T40.heap _
            rw [e40]
            refine ⟨?_, N40, rfl⟩
            rw [show f0 p1 wO wP = (1 : Int32) from (by skip; simp only [f0, if_neg hc3_2, if_neg hc15_26, if_pos hc27_38, if_pos hc87_42])]
        · refine hneg ?_
          obtain ⟨fs, hr, hrun, hended, hW, hsame⟩ := X40.leave (v := some (.int (0 : Int32))) (fun h => by rw [Bd.returns] at h; cases h)
          refine ⟨_, _, pre41 _ ?_, hrun, hended, _, _, rfl, ?_, ⟨_, rfl⟩, hW, hsame.mono (by decide) (by decide)⟩
          · show Steps p.tables e below (T40.setTop (mkF m 87 #[.val (.int p1), .val (.int (1 : Int32)), .val (.int (1 : Int32)), .val (.int (0 : Int32)), .val (.ref wP), .val (.int (1 : Int32))] [(.int (1 : Int32)), (.int (f1 wP (1 : Int32) (0 : Int32) wO))])) _
            refine XS.icmpYes X40.here hx rfl (pc0 := 87) (pc' := 94) rfl (hb hby at_87) rfl (feq hc87_42).2 (by decide) (by decide) ?_
            show Steps p.tables e below (T40.setTop (mkF m 94 #[.val (.int p1), .val (.int (1 : Int32)), .val (.int (1 : Int32)), .val (.int (0 : Int32)), .val (.ref wP), .val (.int (1 : Int32))] [])) _
            refine XS.iconst X40.here hx rfl (hb hby at_94) ?_
            show Steps p.tables e below (T40.setTop (mkF m 95 #[.val (.int p1), .val (.int (1 : Int32)), .val (.int (1 : Int32)), .val (.int (0 : Int32)), .val (.ref wP), .val (.int (1 : Int32))] [(.int (0 : Int32))])) _
            exact retN X40 hx (t := .boolean) Bd.returns (by simp) (hb hby at_95) hr
          · show Q0 Z p1 wO wP h0 n0 _ T40.heap _
            rw [e40]
            refine ⟨?_, N40, rfl⟩
            rw [show f0 p1 wO wP = (0 : Int32) from (by skip; simp only [f0, if_neg hc3_2, if_neg hc15_26, if_pos hc27_38, if_neg hc87_42])]
      · obtain ⟨T43, X43, e43, st43⟩ := getS2 X0 hx hZ hown (host := "") (Or.inl (hw _ (List.mem_of_getElem? (i := 9) rfl))) Via.refl e0 S_wP (g := (mkF m 44 #[.val (.int p1), .val (.int (1 : Int32)), .val (.int (1 : Int32)), .val (.int (1 : Int32)), .unset, .unset] [])) rfl (hb hby at_44)
        obtain ⟨cq44, kq44, q44a, q44b, q44c⟩ := isOf hZ e43 E_wP
        obtain ⟨_, _, ⟨T44, L44, k44, n44⟩, -, X44, ⟨Lc44, hQ44, l44, y44, z44⟩, st44⟩ := X43.virtualBack hx (y := (⟨"com/example/stepwise/stepwise/core/types/TypingMode", "rejects", "(ZZ)Z"⟩ : MethodName)) (z := (⟨"com/example/stepwise/stepwise/core/types/TypingMode", "rejects", "(ZZ)Z"⟩ : MethodName)) hown (mvT hZ (hw _ (List.mem_of_getElem? (i := 3) rfl))) (mvT hZ (hw _ (List.mem_of_getElem? (i := 4) rfl))) (notFace_of_selects (args := #[]) (mvT hZ (hw _ (List.mem_of_getElem? (i := 6) rfl)))) (mvT hZ (hw _ (List.mem_of_getElem? (i := 6) rfl))) (mvT hZ (hw _ (List.mem_of_getElem? (i := 5) rfl))) (by decide) (backOf (W := 0) (rm1 l Z a0 hw [] wP (1 : Int32) (1 : Int32)  h0 n0 wO S_wO) hZ (hw _ (List.mem_of_getElem? (i := 7) rfl)) (hw _ (List.mem_of_getElem? (i := 1) rfl)) (by decide) (by decide)) q44a q44c (g := (mkF m 82 #[.val (.int p1), .val (.int (1 : Int32)), .val (.int (1 : Int32)), .val (.int (1 : Int32)), .val (.ref wP), .val (.int (0 : Int32))] [(.int (1 : Int32)), (.int (1 : Int32)), (.ref wP)])) rfl (by rw [hml]; rfl) (Steps.refl _) (argsL := [(.int (1 : Int32)), (.int (1 : Int32))]) (rest := []) (lenOf pd0 rfl) rfl (by show 2 * 0 + _ ≤ _; exact Nat.le_of_eq rfl) (hb hby at_82) (fun _ _ => ⟨rfl, e43, (by decide : 0 + 0 ≤ _), (by decide : 0 + 0 ≤ _)⟩)
        dsimp only [Pt.U, Pt.locs, Pt.cells, Pt.slots] at X44 l44 y44 z44 st44 hQ44
        subst l44 y44 z44
        obtain ⟨rfl, N44q, e44⟩ := hQ44
        have N44 := Fr.app N0 N44q
        have pre45 : ∀ t, Steps p.tables e below (T44.setTop (mkF m 87 #[.val (.int p1), .val (.int (1 : Int32)), .val (.int (1 : Int32)), .val (.int (1 : Int32)), .val (.ref wP), .val (.int (0 : Int32))] [(.int (0 : Int32)), (.int (f1 wP (1 : Int32) (1 : Int32) wO))])) t → Steps p.tables e below (s₁.setTop (entryFrame m #[(.int p1)] maxLocals)) t := by
          intro t k
          refine pre37 t ?_
          show Steps p.tables e below (s₁.setTop (mkF m 27 #[.val (.int p1), .val (.int (1 : Int32)), .val (.int (1 : Int32)), .unset, .unset, .unset] [(.int (p1 &&& (4 : Int32)))])) _
          refine XS.ifNo X0.here hx rfl (hb hby at_27) rfl ((if0 _ _).trans (feq hc27_38).1) ?_
          show Steps p.tables e below (s₁.setTop (mkF m 30 #[.val (.int p1), .val (.int (1 : Int32)), .val (.int (1 : Int32)), .unset, .unset, .unset] [])) _
          refine XS.iloadN X0.here hx rfl (hb hby at_30) rfl ?_
          show Steps p.tables e below (s₁.setTop (mkF m 31 #[.val (.int p1), .val (.int (1 : Int32)), .val (.int (1 : Int32)), .unset, .unset, .unset] [(.int (1 : Int32))])) _
          refine XS.ifNo X0.here hx rfl (hb hby at_31) rfl ((if0 _ _).trans (feq (by decide : ¬ ((1 : Int32) = (0 : Int32)))).1) ?_
          show Steps p.tables e below (s₁.setTop (mkF m 34 #[.val (.int p1), .val (.int (1 : Int32)), .val (.int (1 : Int32)), .unset, .unset, .unset] [])) _
          refine XS.iconst X0.here hx rfl (hb hby at_34) ?_
          show Steps p.tables e below (s₁.setTop (mkF m 35 #[.val (.int p1), .val (.int (1 : Int32)), .val (.int (1 : Int32)), .unset, .unset, .unset] [(.int (1 : Int32))])) _
          refine XS.goto X0.here hx rfl (pc0 := 35) (pc' := 39) rfl (hb hby at_35) (by decide) (by decide) ?_
          show Steps p.tables e below (s₁.setTop (mkF m 39 #[.val (.int p1), .val (.int (1 : Int32)), .val (.int (1 : Int32)), .unset, .unset, .unset] [(.int (1 : Int32))])) _
          refine XS.istoreN X0.here hx rfl (hb hby at_39) rfl (l' := #[.val (.int p1), .val (.int (1 : Int32)), .val (.int (1 : Int32)), .val (.int (1 : Int32)), .unset, .unset]) rfl ?_
          show Steps p.tables e below (s₁.setTop (mkF m 40 #[.val (.int p1), .val (.int (1 : Int32)), .val (.int (1 : Int32)), .val (.int (1 : Int32)), .unset, .unset] [])) _
          refine XS.iloadN X0.here hx rfl (hb hby at_40) rfl ?_
          show Steps p.tables e below (s₁.setTop (mkF m 41 #[.val (.int p1), .val (.int (1 : Int32)), .val (.int (1 : Int32)), .val (.int (1 : Int32)), .unset, .unset] [(.int (1 : Int32))])) _
          refine XS.ifNo X0.here hx rfl (hb hby at_41) rfl ((if0 _ _).trans (feq (by decide : ¬ ((1 : Int32) = (0 : Int32)))).1) ?_
          show Steps p.tables e below (s₁.setTop (mkF m 44 #[.val (.int p1), .val (.int (1 : Int32)), .val (.int (1 : Int32)), .val (.int (1 : Int32)), .unset, .unset] [])) _
          refine st43 _ ?_
          show Steps p.tables e below (T43.setTop (mkF m 47 #[.val (.int p1), .val (.int (1 : Int32)), .val (.int (1 : Int32)), .val (.int (1 : Int32)), .unset, .unset] [(.ref wP)])) _
          refine XS.goto X43.here hx rfl (pc0 := 47) (pc' := 53) rfl (hb hby at_47) (by decide) (by decide) ?_
          show Steps p.tables e below (T43.setTop (mkF m 53 #[.val (.int p1), .val (.int (1 : Int32)), .val (.int (1 : Int32)), .val (.int (1 : Int32)), .unset, .unset] [(.ref wP)])) _
          refine XS.astore X43.here hx rfl (hb hby at_53) rfl rfl (l' := #[.val (.int p1), .val (.int (1 : Int32)), .val (.int (1 : Int32)), .val (.int (1 : Int32)), .val (.ref wP), .unset]) rfl ?_
          show Steps p.tables e below (T43.setTop (mkF m 55 #[.val (.int p1), .val (.int (1 : Int32)), .val (.int (1 : Int32)), .val (.int (1 : Int32)), .val (.ref wP), .unset] [])) _
          refine XS.iloadN X43.here hx rfl (hb hby at_55) rfl ?_
          show Steps p.tables e below (T43.setTop (mkF m 56 #[.val (.int p1), .val (.int (1 : Int32)), .val (.int (1 : Int32)), .val (.int (1 : Int32)), .val (.ref wP), .unset] [(.int (1 : Int32))])) _
          refine XS.ifNo X43.here hx rfl (hb hby at_56) rfl ((if0 _ _).trans (feq (by decide : ¬ ((1 : Int32) = (0 : Int32)))).1) ?_
          show Steps p.tables e below (T43.setTop (mkF m 59 #[.val (.int p1), .val (.int (1 : Int32)), .val (.int (1 : Int32)), .val (.int (1 : Int32)), .val (.ref wP), .unset] [])) _
          refine XS.iconst X43.here hx rfl (hb hby at_59) ?_
          show Steps p.tables e below (T43.setTop (mkF m 60 #[.val (.int p1), .val (.int (1 : Int32)), .val (.int (1 : Int32)), .val (.int (1 : Int32)), .val (.ref wP), .unset] [(.int (0 : Int32))])) _
          refine XS.istore X43.here hx rfl (hb hby at_60) rfl (l' := #[.val (.int p1), .val (.int (1 : Int32)), .val (.int (1 : Int32)), .val (.int (1 : Int32)), .val (.ref wP), .val (.int (0 : Int32))]) rfl ?_
          show Steps p.tables e below (T43.setTop (mkF m 62 #[.val (.int p1), .val (.int (1 : Int32)), .val (.int (1 : Int32)), .val (.int (1 : Int32)), .val (.ref wP), .val (.int (0 : Int32))] [])) _
          refine XS.goto X43.here hx rfl (pc0 := 62) (pc' := 78) rfl (hb hby at_62) (by decide) (by decide) ?_
          show Steps p.tables e below (T43.setTop (mkF m 78 #[.val (.int p1), .val (.int (1 : Int32)), .val (.int (1 : Int32)), .val (.int (1 : Int32)), .val (.ref wP), .val (.int (0 : Int32))] [])) _
          refine XS.aload X43.here hx rfl (hb hby at_78) rfl rfl ?_
          show Steps p.tables e below (T43.setTop (mkF m 80 #[.val (.int p1), .val (.int (1 : Int32)), .val (.int (1 : Int32)), .val (.int (1 : Int32)), .val (.ref wP), .val (.int (0 : Int32))] [(.ref wP)])) _
          refine XS.iloadN X43.here hx rfl (hb hby at_80) rfl ?_
          show Steps p.tables e below (T43.setTop (mkF m 81 #[.val (.int p1), .val (.int (1 : Int32)), .val (.int (1 : Int32)), .val (.int (1 : Int32)), .val (.ref wP), .val (.int (0 : Int32))] [(.int (1 : Int32)), (.ref wP)])) _
          refine XS.iloadN X43.here hx rfl (hb hby at_81) rfl ?_
          show Steps p.tables e below (T43.setTop (mkF m 82 #[.val (.int p1), .val (.int (1 : Int32)), .val (.int (1 : Int32)), .val (.int (1 : Int32)), .val (.ref wP), .val (.int (0 : Int32))] [(.int (1 : Int32)), (.int (1 : Int32)), (.ref wP)])) _
          refine st44.trans ?_
          show Steps p.tables e below (T44.setTop (mkF m 85 #[.val (.int p1), .val (.int (1 : Int32)), .val (.int (1 : Int32)), .val (.int (1 : Int32)), .val (.ref wP), .val (.int (0 : Int32))] [(.int (f1 wP (1 : Int32) (1 : Int32) wO))])) _
          refine XS.iload X44.here hx rfl (hb hby at_85) rfl ?_
          exact k
        by_cases hc87_46 : (f1 wP (1 : Int32) (1 : Int32) wO) = (0 : Int32)
        · refine hneg ?_
          obtain ⟨fs, hr, hrun, hended, hW, hsame⟩ := X44.leave (v := some (.int (1 : Int32))) (fun h => by rw [Bd.returns] at h; cases h)
          refine ⟨_, _, pre45 _ ?_, hrun, hended, _, _, rfl, ?_, ⟨_, rfl⟩, hW, hsame.mono (by decide) (by decide)⟩
          · show Steps p.tables e below (T44.setTop (mkF m 87 #[.val (.int p1), .val (.int (1 : Int32)), .val (.int (1 : Int32)), .val (.int (1 : Int32)), .val (.ref wP), .val (.int (0 : Int32))] [(.int (0 : Int32)), (.int (f1 wP (1 : Int32) (1 : Int32) wO))])) _
            refine XS.icmpNo X44.here hx rfl (hb hby at_87) rfl (teq hc87_46).2 ?_
            show Steps p.tables e below (T44.setTop (mkF m 90 #[.val (.int p1), .val (.int (1 : Int32)), .val (.int (1 : Int32)), .val (.int (1 : Int32)), .val (.ref wP), .val (.int (0 : Int32))] [])) _
            refine XS.iconst X44.here hx rfl (hb hby at_90) ?_
            show Steps p.tables e below (T44.setTop (mkF m 91 #[.val (.int p1), .val (.int (1 : Int32)), .val (.int (1 : Int32)), .val (.int (1 : Int32)), .val (.ref wP), .val (.int (0 : Int32))] [(.int (1 : Int32))])) _
            refine XS.goto X44.here hx rfl (pc0 := 91) (pc' := 95) rfl (hb hby at_91) (by decide) (by decide) ?_
            show Steps p.tables e below (T44.setTop (mkF m 95 #[.val (.int p1), .val (.int (1 : Int32)), .val (.int (1 : Int32)), .val (.int (1 : Int32)), .val (.ref wP), .val (.int (0 : Int32))] [(.int (1 : Int32))])) _
            exact retN X44 hx (t := .boolean) Bd.returns (by simp) (hb hby at_95) hr
          · show Q0 Z p1 wO wP h0 n0 _ T44.heap _
            rw [e44]
            refine ⟨?_, N44, rfl⟩
            rw [show f0 p1 wO wP = (1 : Int32) from (by skip; simp only [f0, if_neg hc3_2, if_neg hc15_26, if_neg hc27_38, if_pos hc87_46])]
        · refine hneg ?_
          obtain ⟨fs, hr, hrun, hended, hW, hsame⟩ := X44.leave (v := some (.int (0 : Int32))) (fun h => by rw [Bd.returns] at h; cases h)
          refine ⟨_, _, pre45 _ ?_, hrun, hended, _, _, rfl, ?_, ⟨_, rfl⟩, hW, hsame.mono (by decide) (by decide)⟩
          · show Steps p.tables e below (T44.setTop (mkF m 87 #[.val (.int p1), .val (.int (1 : Int32)), .val (.int (1 : Int32)), .val (.int (1 : Int32)), .val (.ref wP), .val (.int (0 : Int32))] [(.int (0 : Int32)), (.int (f1 wP (1 : Int32) (1 : Int32) wO))])) _
            refine XS.icmpYes X44.here hx rfl (pc0 := 87) (pc' := 94) rfl (hb hby at_87) rfl (feq hc87_46).2 (by decide) (by decide) ?_
            show Steps p.tables e below (T44.setTop (mkF m 94 #[.val (.int p1), .val (.int (1 : Int32)), .val (.int (1 : Int32)), .val (.int (1 : Int32)), .val (.ref wP), .val (.int (0 : Int32))] [])) _
            refine XS.iconst X44.here hx rfl (hb hby at_94) ?_
            show Steps p.tables e below (T44.setTop (mkF m 95 #[.val (.int p1), .val (.int (1 : Int32)), .val (.int (1 : Int32)), .val (.int (1 : Int32)), .val (.ref wP), .val (.int (0 : Int32))] [(.int (0 : Int32))])) _
            exact retN X44 hx (t := .boolean) Bd.returns (by simp) (hb hby at_95) hr
          · show Q0 Z p1 wO wP h0 n0 _ T44.heap _
            rw [e44]
            refine ⟨?_, N44, rfl⟩
            rw [show f0 p1 wO wP = (0 : Int32) from (by skip; simp only [f0, if_neg hc3_2, if_neg hc15_26, if_neg hc27_38, if_neg hc87_46])]
theorem own_law (p1 : Int32) (wO wP : Addr) (hne : wP ≠ wO) : f0 p1 wO wP = 1 := by
  simp +decide [f0, f1, hne]
theorem own_eqi {args : Array Value} {s s' : State} {o : Option Outcome} {idx : List Nat} {t : Jvm.Term} {k : Int32} (h : (Jvm.Cond.eq t (Jvm.Term.int k)).value args s o s' idx = some true) : t.eval args s o idx s' = some (.int k) := by
  have hi : (Jvm.Term.int k).eval args s o idx s' = some (.int k) := rfl
  cases ht : t.eval args s o idx s' with
  | none => simp only [Cond.value, ht, hi] at h; exact absurd h (by simp)
  | some z =>
    cases z <;> simp only [Cond.value, ht, hi] at h <;> first | (simp only [Option.some.injEq, decide_eq_true_eq] at h; rw [h]) | exact absurd h (by simp)
theorem own_fv {s : State} {args : Array Value} {t : Jvm.Term} {C n d : String} {k : Int32} {a : Addr} (ev : t.eval args s none [] s = some (.ref a)) (h : (Jvm.Cond.eq (Jvm.Term.field t C n d) (Jvm.Term.int k)).value args s none s [] = some true) : s.fieldOf? a C n d = some (.int k) :=
  (fld_at (C := C) (n := n) (dd := d) ev).symm.trans (own_eqi h)
set_option maxRecDepth 65536 in
set_option maxHeartbeats 40000000 in
theorem comes_1 {Post : Tables → Env → Array Value → State → Outcome → State → Prop} (hpost : ∀ tb e args s v u, (limb_1_1.after args s (.returned v) u = true ∧ limb_1_2.after args s (.returned v) u = true ∧ True) → FrameEnd s (.returned v) u (Jvm.fieldLocs frame_1_writes args s ++ Jvm.arrayLocs frame_1_arrays args s ++ Jvm.staticLocs frame_1_statics s) 0 0 → Post tb e args s (.returned v) u) :
    ArmFor flags0 classFile x code maxLocals ret World_1 tables_1 room_1 Calls_1 rest_1 Pre_1 Post := by
  intro l hfl _ _ p e ha hc hk s m args below hf hA hF happ hP
  obtain ⟨hcalls, hrest, hpre⟩ := hP
  obtain ⟨-, -, -, hnamed, -, -, -, hat⟩ := (Spec.applies_iff hf).mp happ
  obtain ⟨hg, hn⟩ := and_e (Cond.before_iff.mp (show (Jvm.Cond.and given_1 narrow_1).before args s = true from hpre))
  obtain ⟨gc, g0⟩ := and_e hg
  obtain ⟨w0, rfl⟩ : ∃ w0 : Value, args = #[w0] := by
    have hs : args.size = 1 := by simpa [Cond.value, given_1] using gc
    obtain ⟨L⟩ := args
    match L, hs with
    | [w0], _ => exact ⟨w0, rfl⟩
  have hw := fun d (hd : d ∈ tables_1) => atoms_spec (ws := Jvm.Cond.code x code maxLocals ret :: tables_1) hat d (List.mem_cons_of_mem _ hd)
  have hfit : Fit s := fun {y c} hc i hi => by
    obtain ⟨ha, rfl⟩ := Array.getElem?_eq_some_iff.mp hc
    have q := List.all_eq_true.mp ((Array.all_eq_true_iff_forall_mem.mp hF) _ (Array.getElem_mem ha)) i (List.mem_range.mpr hi)
    simpa [Array.getElem?_eq_getElem hi] using q
  obtain ⟨i0, ei0⟩ := is_v g0
  obtain rfl : w0 = (.int i0) := Option.some.inj ei0
  obtain ⟨n1, n2⟩ := and_e hn
  obtain ⟨n3, n4⟩ := and_e n2
  obtain ⟨n5, n6⟩ := and_e n4
  obtain ⟨wO, evO⟩ := exa_v n1
  obtain ⟨wP, evP⟩ := exa_v n3
  have E_wO := Exa.start evO n1
  have E_wP := Exa.start evP n3
  have S_wO := Sta.start evO (Or.inr ⟨(hw _ (List.mem_of_getElem? (i := 1) rfl)), (hw _ (List.mem_of_getElem? (i := 2) rfl))⟩)
  have S_wP := Sta.start evP (Or.inr ⟨(hw _ (List.mem_of_getElem? (i := 1) rfl)), (hw _ (List.mem_of_getElem? (i := 10) rfl))⟩)
  have f1 : s.fieldOf? wP "java/lang/Enum" "ordinal" "I" = some (.int 1) := own_fv evP n5
  have f0 : s.fieldOf? wO "java/lang/Enum" "ordinal" "I" = some (.int 0) := own_fv evO n6
  have hne : wP ≠ wO := by
    intro q
    rw [q, f0] at f1
    exact absurd f1 (by decide)
  obtain ⟨n, o, h1, h2, h3, v, L, rfl, ⟨hv1, N, -⟩, hq⟩ := rm0 l s _ hw tables_1 i0 s.heap s.heap.size wO wP S_wO S_wP E_wO E_wP p e ha hc hk s m _ below hf ((Spec.applies_iff_loose hf).mp happ).1 ⟨rfl, State.Warmed39.refl s, rfl⟩ trivial
  rw [own_law _ _ _ hne] at hv1
  subst hv1
  refine ⟨n, _, h1, h2, h3, hpost _ _ _ _ _ _ ⟨Cond.after_iff.mpr rfl, Cond.after_iff.mpr (eq_i res_at (Term.int_eval (1)) rfl), trivial⟩ ⟨hq.1, hq.2.1, (hq.2.2.sift fun y hy => Or.inr (N y hy)).mono (by decide) (by decide)⟩⟩
theorem main_1_1 : Claimed_1_1 := comes_1 fun _ _ _ _ _ _ h hF => ⟨h.1, hF⟩
theorem main_1_2 : Claimed_1_2 := comes_1 fun _ _ _ _ _ _ h hF => ⟨h.2.1, hF⟩
end Jvm.Pilot.@@N@@
namespace Jvm.Pilot.@@N@@
open Jvm Jvm.ClassFile Sem Op Lib Jvm.Free Jvm.Stand Jvm.Pilot.@@N@@.Jvm.D
/-! MADE BY PROGRAM (witnessworld.py) out of the Statement's table words and the real class files: 12 classes; the members and pool entries that the words name. The judged class is class 1, her method 1. -/
namespace start1
open Jvm.ClassFile
def u (s : String) : CpInfo := .utf8 (stringToUtf16 s)
/-- a pool by its gaps: so many unusable entries, then the entry; so many at the end -/
def gap : Nat → List CpInfo → List CpInfo
  | 0, r => r
  | n + 1, r => .unusable :: gap n r
def poolList (es : List (Nat × CpInfo)) (last : Nat) : List CpInfo := es.foldr (fun e r => gap e.1 (e.2 :: r)) (gap last [])
def pool (es : List (Nat × CpInfo)) (last : Nat) : Array CpInfo := ⟨poolList es last⟩
def fileOf (pool : Array CpInfo) (this : Nat) (attrs : Array Attribute := #[]) (ms : Array MethodInfo := #[]) (fl : Nat := 33) (sup : Nat := 0) (ifs : Array Nat := #[]) (fds : Array FieldInfo := #[]) : ClassFile where
  minorVersion := 0
  majorVersion := 65
  constantPool := pool
  accessFlags := fl
  thisClass := this
  superClass := sup
  interfaces := ifs
  fields := fds
  methods := ms
  attributes := attrs
def plain (name : String) (sup : Option ClassId) : Class where
  name := name
  kind := .ordinary
  loader := none
  accessFlags := 33
  super := sup
  interfaces := #[]
  cf := none
  fields := #[]
  methods := #[]
  instanceTypes := #[]
  staticTypes := #[]
  resolved := #[]
  callSites := []
  init := .initialized
  statics := none
  mirror := none

def pool0 : Array CpInfo := pool [(5, u "<init>"), (0, u "()V"), (1, .class_ 10), (1, u "java/lang/Object")] 113

def k0m0 : Method := { name := "<init>", desc := "()V", sig := { parameters := [], returnType := none }, accessFlags := 1, code := none }
/-- java/lang/Object -/
def k0 : Class := { plain "java/lang/Object" none with
  accessFlags := 33
  interfaces := #[]
  cf := some (fileOf pool0 8 #[] #[{ accessFlags := 1, nameIndex := 5, descriptorIndex := 6, attributes := #[] }] 33 0 #[] #[])
  fields := #[]
  methods := #[k0m0]
  instanceTypes := #[]
  staticTypes := #[]
  resolved := Array.replicate 124 none
  statics := none }

def pool1 : Array CpInfo := pool [(2, .class_ 4), (1, u "java/lang/Object"), (0, u "<init>"), (0, u "()V"), (0, .fieldref 8 9), (0, .class_ 10), (0, .nameAndType 11 12), (0, u "com/example/stepwise/stepwise/core/types/TypingMode"), (0, u "PESSIMISTIC"), (0, u "Lcom/example/stepwise/stepwise/core/types/TypingMode;"), (0, .fieldref 8 14), (0, .nameAndType 15 12), (0, u "OPTIMISTIC"), (0, .methodref 8 17), (0, .nameAndType 18 19), (0, u "rejects"), (0, u "(ZZ)Z"), (0, .class_ 21), (0, u "com/example/stepwise/stepwise/core/types/TypingModeRejectsPinLaw"), (2, u "law"), (0, u "(I)Z")] 3

def k1m0 : Method := { name := "<init>", desc := "()V", sig := { parameters := [], returnType := none }, accessFlags := 2, code := none }
def k1c1 : Code := { maxStack := 3, maxLocals := 6, code := code, exceptionTable := #[], attributes := #[] }
def k1m1 : Method := { name := "law", desc := "(I)Z", sig := { parameters := [.int], returnType := some .boolean }, accessFlags := 9, code := some k1c1 }
/-- com/example/stepwise/stepwise/core/types/TypingModeRejectsPinLaw -/
def k1 : Class := { plain "com/example/stepwise/stepwise/core/types/TypingModeRejectsPinLaw" (some 0) with
  accessFlags := 49
  interfaces := #[]
  cf := some (fileOf pool1 20 #[] #[{ accessFlags := 2, nameIndex := 5, descriptorIndex := 6, attributes := #[] }, { accessFlags := 9, nameIndex := 24, descriptorIndex := 25, attributes := #[] }] 49 2 #[] #[])
  fields := #[]
  methods := #[k1m0, k1m1]
  instanceTypes := #[]
  staticTypes := #[]
  resolved := Array.replicate 29 none
  statics := none }

def pool2 : Array CpInfo := pool [(1, .class_ 2), (0, u "java/lang/constant/Constable"), (0, .class_ 4), (0, u "java/lang/Object")] 6

/-- java/lang/constant/Constable -/
def k2 : Class := { plain "java/lang/constant/Constable" (some 0) with
  accessFlags := 1537
  interfaces := #[]
  cf := some (fileOf pool2 1 #[] #[] 1537 3 #[] #[])
  fields := #[]
  methods := #[]
  instanceTypes := #[]
  staticTypes := #[]
  resolved := Array.replicate 11 none
  statics := none }

def pool3 : Array CpInfo := pool [(1, .class_ 2), (0, u "java/lang/Comparable"), (0, .class_ 4), (0, u "java/lang/Object")] 7

/-- java/lang/Comparable -/
def k3 : Class := { plain "java/lang/Comparable" (some 0) with
  accessFlags := 1537
  interfaces := #[]
  cf := some (fileOf pool3 1 #[] #[] 1537 3 #[] #[])
  fields := #[]
  methods := #[]
  instanceTypes := #[]
  staticTypes := #[]
  resolved := Array.replicate 12 none
  statics := none }

def pool4 : Array CpInfo := pool [(1, .class_ 2), (0, u "java/io/Serializable"), (0, .class_ 4), (0, u "java/lang/Object")] 2

/-- java/io/Serializable -/
def k4 : Class := { plain "java/io/Serializable" (some 0) with
  accessFlags := 1537
  interfaces := #[]
  cf := some (fileOf pool4 1 #[] #[] 1537 3 #[] #[])
  fields := #[]
  methods := #[]
  instanceTypes := #[]
  staticTypes := #[]
  resolved := Array.replicate 7 none
  statics := none }

def pool5 : Array CpInfo := pool [(2, .class_ 4), (1, u "java/lang/Enum"), (0, u "name"), (0, u "Ljava/lang/String;"), (2, u "ordinal"), (0, u "I"), (1, .class_ 14), (1, u "java/lang/Object"), (4, u "hash"), (86, .class_ 108), (1, u "java/lang/Enum$EnumDesc"), (2, .class_ 112), (0, u "java/lang/constant/Constable"), (0, .class_ 114), (0, u "java/lang/Comparable"), (0, .class_ 116), (0, u "java/io/Serializable")] 87

/-- java/lang/Enum -/
def k5 : Class := { plain "java/lang/Enum" (some 0) with
  accessFlags := 1057
  interfaces := #[2, 3, 4]
  cf := some (fileOf pool5 2 #[.nestMembers #[106]] #[] 1057 12 #[111, 113, 115] #[{ accessFlags := 18, nameIndex := 5, descriptorIndex := 6, attributes := #[] }, { accessFlags := 18, nameIndex := 9, descriptorIndex := 10, attributes := #[] }, { accessFlags := 2, nameIndex := 19, descriptorIndex := 10, attributes := #[] }])
  fields := #[{ name := "name", type := (.object "java/lang/String"), accessFlags := 18, slot := 0, constantValue := 0 }, { name := "ordinal", type := .int, accessFlags := 18, slot := 1, constantValue := 0 }, { name := "hash", type := .int, accessFlags := 2, slot := 2, constantValue := 0 }]
  methods := #[]
  instanceTypes := #[(.object "java/lang/String"), .int, .int]
  staticTypes := #[]
  resolved := Array.replicate 204 none
  statics := none }

def pool6 : Array CpInfo := pool [(1, .class_ 2), (0, u "com/example/stepwise/stepwise/core/types/TypingMode"), (0, .fieldref 1 4), (0, .nameAndType 5 6), (0, u "OPTIMISTIC"), (0, u "Lcom/example/stepwise/stepwise/core/types/TypingMode;"), (2, u "PESSIMISTIC"), (2, u "$VALUES"), (0, u "[Lcom/example/stepwise/stepwise/core/types/TypingMode;"), (6, .class_ 22), (1, u "java/lang/Enum"), (17, u "rejects"), (0, u "(ZZ)Z")] 24

def k6c0 : Code := { maxStack := 2, maxLocals := 3, code := prog_166_method_4_code, exceptionTable := #[], attributes := #[] }
def k6m0 : Method := { name := "rejects", desc := "(ZZ)Z", sig := { parameters := [.boolean, .boolean], returnType := some .boolean }, accessFlags := 1, code := some k6c0 }
/-- com/example/stepwise/stepwise/core/types/TypingMode -/
def k6 : Class := { plain "com/example/stepwise/stepwise/core/types/TypingMode" (some 5) with
  accessFlags := 16433
  interfaces := #[]
  cf := some (fileOf pool6 1 #[] #[{ accessFlags := 1, nameIndex := 40, descriptorIndex := 41, attributes := #[] }] 16433 20 #[] #[{ accessFlags := 16409, nameIndex := 5, descriptorIndex := 6, attributes := #[] }, { accessFlags := 16409, nameIndex := 9, descriptorIndex := 6, attributes := #[] }, { accessFlags := 4122, nameIndex := 12, descriptorIndex := 13, attributes := #[] }])
  fields := #[{ name := "OPTIMISTIC", type := (.object "com/example/stepwise/stepwise/core/types/TypingMode"), accessFlags := 16409, slot := 0, constantValue := 0 }, { name := "PESSIMISTIC", type := (.object "com/example/stepwise/stepwise/core/types/TypingMode"), accessFlags := 16409, slot := 1, constantValue := 0 }, { name := "$VALUES", type := (.array (.object "com/example/stepwise/stepwise/core/types/TypingMode")), accessFlags := 4122, slot := 2, constantValue := 0 }]
  methods := #[k6m0]
  instanceTypes := #[(.object "java/lang/String"), .int, .int]
  staticTypes := #[(.object "com/example/stepwise/stepwise/core/types/TypingMode"), (.object "com/example/stepwise/stepwise/core/types/TypingMode"), (.array (.object "com/example/stepwise/stepwise/core/types/TypingMode"))]
  resolved := Array.replicate 66 none
  statics := some 0 }

def pool7 : Array CpInfo := pool [(1, u "java/lang/Cloneable"), (0, .class_ 1), (0, u "java/lang/Object"), (0, .class_ 3)] 3

/-- java/lang/Cloneable -/
def k7 : Class := { plain "java/lang/Cloneable" (some 0) with
  accessFlags := 1537
  interfaces := #[]
  cf := some (fileOf pool7 2 #[] #[] 1537 4 #[] #[])
  fields := #[]
  methods := #[]
  instanceTypes := #[]
  staticTypes := #[]
  resolved := Array.replicate 8 none
  statics := none }

/-- the primitive byte -/
def k8 : Class := { plain "byte" none with kind := .primitive 'B', accessFlags := 0x411 }
/-- [B -/
def k9 : Class := { plain "[B" (some 0) with kind := .array 8 .byte, interfaces := #[7, 4], accessFlags := 1041 }

/-- the primitive int -/
def k10 : Class := { plain "int" none with kind := .primitive 'I', accessFlags := 0x411 }
/-- [I -/
def k11 : Class := { plain "[I" (some 0) with kind := .array 10 .int, interfaces := #[7, 4], accessFlags := 1041 }

def heap : Heap := #[{ cls := 6, slots := #[.ref 1, .ref 2, .null], vm := .statics 6 },
  { cls := 6, slots := #[.null, .int 0, .int 0], vm := .none },
  { cls := 6, slots := #[.null, .int 1, .int 0], vm := .none }]
def classes : Array Class := #[k0, k1, k2, k3, k4, k5, k6, k7, k8, k9, k10, k11]
def interned : List (Array UInt16 × Addr) := []
def slotsUsed : Nat := 9
def theMethod : MethodId := ⟨1, 1⟩
def args0 : Array Value := #[.int 3]
def aboutOver (below : List Frame) : State where
  vm := { classes := classes, interned := interned.toArray }
  heap := heap
  slotsUsed := slotsUsed
  threads := #[{ frames := .invoking theMethod args0 :: below }]
def below0 : List Frame := [.native { method := ⟨0, 0⟩, args := #[] }]
def about1 : State := aboutOver below0
def p0 : Program := .bare "" "" ""
def e0 : Env := launch0.env 0 0 0
theorem w_frames : about1.frames = Frame.invoking theMethod args0 :: below0 := rfl
set_option maxRecDepth 65536 in
theorem w_args : argsFit about1.vm theMethod args0 = true := by decide +kernel
set_option maxRecDepth 65536 in
theorem w_heap : heapFits about1 = true := by decide +kernel
set_option maxRecDepth 65536 in
theorem w_runnable : about1.curStatus? = some .runnable := by decide +kernel
set_option maxRecDepth 65536 in
theorem w_alone : about1.alone = true := by decide +kernel
set_option maxRecDepth 65536 in
theorem w_named : about1.methodNamed? x = some theMethod := by decide +kernel
set_option maxRecDepth 65536 in
theorem w_hears : about1.hears theMethod below0 = true := by decide +kernel
set_option maxRecDepth 65536 in
theorem w_ripe : about1.ripe theMethod args0 below0 = true := by decide +kernel
theorem w_running : about1.status = .running := rfl
set_option maxRecDepth 65536 in
theorem w_room : about1.hasRoom e0.platform room_1 = true :=
  launch0.hasRoom_least _ room_1 (by decide +kernel) (by decide +kernel) (by decide +kernel) (by decide +kernel) (by decide +kernel) (by decide +kernel)
theorem allAtoms_all (ts : List Jvm.Cond) (a : Array Jvm.Value) (st : Jvm.State) : (allAtoms ts).before a st = ts.all (fun c => c.before a st) := by
  induction ts with
  | nil => rfl
  | cons c t ih =>
    show (Jvm.Cond.and c (allAtoms t)).before a st = _
    rw [Jvm.Cond.before_and, ih, List.all_cons]
def words1 : List Jvm.Cond := Jvm.Cond.code x code maxLocals ret :: tables_1
/-- a 'code' word, met by the world's own term for the bytes: nothing is compared byte by byte -/
theorem code_word {y : MethodName} {bytes : ByteArray} {mx : Nat} {rt : Option FieldType} {a : Array Value} {s : State} {m : MethodId} {meth : Method} {c : Code} (h1 : s.methodNamed? y = some m) (h2 : s.vm.method? m = some meth) (h3 : meth.code = some c) (h4 : c.code = bytes)
    (h5 : (c.maxLocals == mx && c.exceptionTable.isEmpty && decide (c.maxStack ≤ mostOperands) && decide (meth.sig.returnType = rt) && !meth.locks && decide (parseMethodDescriptor y.desc = some meth.sig)) = true) : (Jvm.Cond.code y bytes mx rt).before a s = true := by
  simp only [Bool.and_eq_true, beq_iff_eq, Bool.not_eq_true', decide_eq_true_eq] at h5
  obtain ⟨⟨⟨⟨⟨g1, g2⟩, g3⟩, g4⟩, g5⟩, g6⟩ := h5
  simp [Cond.before, Cond.holds, Cond.value, h1, h2, h3, h4, g1, g2, g3, g4, g5, g6]
def isCode : Jvm.Cond → Bool
  | .code _ _ _ _ => true
  | _ => false
theorem all_split {L : List Jvm.Cond} {P : Jvm.Cond → Bool} (h1 : L.all (fun c => isCode c || P c) = true) (h2 : ∀ c ∈ L.filter isCode, P c = true) : L.all P = true := by
  refine List.all_eq_true.mpr fun c hc => ?_
  have h := List.all_eq_true.mp h1 c hc
  rcases Bool.eq_false_or_eq_true (isCode c) with hi | hi
  · exact h2 c (List.mem_filter.mpr ⟨hc, hi⟩)
  · simpa [hi] using h
set_option maxRecDepth 65536 in
theorem w_c0 : (Jvm.Cond.code x code maxLocals ret).before args0 about1 = true := code_word (m := ⟨1, 1⟩) (meth := k1m1) (c := k1c1) (by decide +kernel) rfl rfl rfl (by decide +kernel)
set_option maxRecDepth 65536 in
theorem w_c1 : (Jvm.Cond.code ({ cls := "com/example/stepwise/stepwise/core/types/TypingMode", name := "rejects", desc := "(ZZ)Z" } : Jvm.MethodName) prog_166_method_4_code (3 : Nat) (Option.some Jvm.ClassFile.FieldType.boolean)).before args0 about1 = true := code_word (m := ⟨6, 0⟩) (meth := k6m0) (c := k6c0) (by decide +kernel) rfl rfl rfl (by decide +kernel)
def codes1 : List Jvm.Cond := [Jvm.Cond.code x code maxLocals ret, Jvm.Cond.code ({ cls := "com/example/stepwise/stepwise/core/types/TypingMode", name := "rejects", desc := "(ZZ)Z" } : Jvm.MethodName) prog_166_method_4_code (3 : Nat) (Option.some Jvm.ClassFile.FieldType.boolean)]
set_option maxRecDepth 65536 in
theorem codes_eq : words1.filter isCode = codes1 := rfl
theorem w_codes : ∀ c ∈ words1.filter isCode, c.before args0 about1 = true := by
  rw [codes_eq]
  intro c hc
  simp only [codes1, List.mem_cons, List.not_mem_nil, or_false] at hc
  rcases hc with rfl | rfl
  · exact w_c0
  · exact w_c1
set_option maxRecDepth 65536 in
theorem w_t1 : words1.all (fun c => isCode c || c.before args0 about1) = true := by decide +kernel
theorem w_tables : (allAtoms (Jvm.Cond.code x code maxLocals ret :: tables_1)).before args0 about1 = true := by
  rw [allAtoms_all]
  show words1.all (fun c => c.before args0 about1) = true
  refine all_split ?_ w_codes
  rw [w_t1]
set_option maxRecDepth 65536 in
theorem w_case : (Jvm.Cond.and given_1 narrow_1).before args0 about1 = true := by decide +kernel
theorem w_applies : (headSpec (Jvm.Cond.code x code maxLocals ret :: tables_1) room_1).applies x e0.platform about1 = true :=
  (Spec.applies_iff w_frames).mpr ⟨w_running, w_runnable, w_alone, w_named, w_hears, w_ripe, w_room, w_tables⟩
theorem atStart : AtStart classFile x code maxLocals ret World_1 tables_1 room_1 Calls_1 rest_1 Pre_1 launch0 p0 e0 about1 theMethod args0 below0 :=
  ⟨lists_1, trivial, launch0.admits_env _ _ _, launch0.least_env, fairChoices_fair.cas, fairChoices_fair.clock, w_frames, w_args, w_heap, w_applies, trivial, trivial, w_case⟩
end start1
theorem witness_1 : WitnessClaimed_1 := ⟨start1.p0, start1.e0, start1.about1, start1.theMethod, start1.args0, start1.below0, start1.atStart⟩
end Jvm.Pilot.@@N@@
