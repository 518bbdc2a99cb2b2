import JvmDerived
import JvmDerived.Pilot.@@N@@Statement
import JvmDerived.Pilot.@@N@@Code
set_option linter.unusedVariables false
set_option linter.unusedSimpArgs false
namespace Jvm.RoadKit
open Sem ClassFile Op Lib Jvm.Stand Jvm.Free Jvm.LawKit
section New
variable {p : Program} {l : Launch} {e : Env} {R : Room} {s : State} {m : MethodId} {args : Array Value} {below : List Frame} {meth : Method} {c : Code} {T : State} {locs : List Loc} {cells slots : Nat}
theorem retI (X : Stand p l e R s m args below meth c T locs cells slots) (hx : p.tables.exec = Jvm.exec) {pc : Nat} {Ls : Array Slot} {z : Int32} {rest : List Value} (hret : meth.sig.returnType = some .int) (hd : decode c.code pc = .ok (.ireturn, 1)) {fs : List Frame}
    (hl : ∀ (f : JFrame) (acts : List Action), f.method = m → f.locked = none → f.entered = [] → (doReturn e (T.setTop f) acts (some (.int z))).1 = T.setFrames fs) : Steps p.tables e below (T.setTop (mkF m pc Ls (.int z :: rest))) (T.setFrames fs) := by
  have hm' : T.vm.method? m = some meth := X.method'
  have hn : narrow .int (.int z) = .int z := rfl
  show Steps p.tables e below (T.setTop { method := m, pc := pc, locals := Ls, stack := _ :: rest, locked := none }) _
  jvm_step X.here [X.here.top, hx, hd, hm', hret, hn]
  first | (intro acts; rw [hl _ acts rfl rfl rfl]) | rw [hl _ _ rfl rfl rfl]
  exact Steps.refl _
end New
end Jvm.RoadKit
namespace Jvm.Pilot.@@N@@
open Jvm Jvm.ClassFile Sem Op Lib Jvm.Free Jvm.Stand Jvm.LawKit Jvm.RoadKit Bundle Jvm.Pilot.@@N@@.Jvm.D

theorem same_self {Z : State} {a0 : Array Value} {C : String} {x y y' : MethodName} (w : (Cond.instanceMethod y).before a0 Z = true) (ws : (Cond.selects C x y').before a0 Z = true) (hc : y'.cls = y.cls) (hy : y.cls ≠ "java/lang/invoke/MethodHandle" ∧ y.cls ≠ "java/lang/invoke/VarHandle") : (Cond.sameMethod y.cls y.cls y.name y.desc).before a0 Z = true := by
  obtain ⟨mk, meth, hn, hm, -, -⟩ := Cond.instanceMethod_spec w
  obtain ⟨c2, r2, m2, -, -, q3, -, kP, hkP, hkPi⟩ := Cond.selects_spec ws
  have f1 := findClass_of_methodNamed hn
  have f2 := findClass_of_methodNamed q3
  rw [hc, f1] at f2
  have f3 : mk.cls = m2.cls := Option.some.inj f2
  rw [← f3] at hkP
  have q := State.methodFound?_of_named hn hy
  have hn' : Z.methodNamed? ⟨y.cls, y.name, y.desc⟩ = some mk := hn
  simp [Cond.before, Cond.holds, Cond.value, f1, q, hn', hkP, hkPi]
theorem nf_of {s : State} {args : Array Value} {C : String} {x y y' : MethodName} (ws : (Cond.selects C x y').before args s = true) (hc : y'.cls = y.cls) : NotFace s y := fun r0 h0 => by
  obtain ⟨c2, r2, m2, -, -, q3, -, kP, hkP, hkPi⟩ := Cond.selects_spec ws
  have f1 := findClass_of_methodNamed h0
  have f2 := findClass_of_methodNamed q3
  rw [hc, f1] at f2
  have f3 : r0.cls = m2.cls := Option.some.inj f2
  exact ⟨kP, by rw [f3]; exact hkP, hkPi⟩
theorem decl_of {Z : State} {a0 : Array Value} {y : MethodName} {bytes : ByteArray} {maxL : Nat} {ret : Option FieldType} (w : (Cond.instanceMethod y).before a0 Z = true) (wc : (Cond.code y bytes maxL ret).before a0 Z = true) : (Cond.declares y).before a0 Z = true := by
  obtain ⟨mk, meth, hn, hm, hs, -⟩ := Cond.instanceMethod_spec w
  obtain ⟨m2, cM, q1, -, -, -, -, -, -, hsig⟩ := Cond.code_spec hn wc
  cases hm.symm.trans q1
  simp [Cond.before, Cond.holds, Cond.value, hn, hm, hs, hsig]
/-- a byte array made on the road, whole -/
def BL (Z : State) (h : Heap) (a : Addr) (k : ClassId) (bs : List Int32) : Prop := Arv Z h a k .byte (Int32.ofNat bs.length) (bs.map Value.int) (.int 0) ∧ bs.length ≤ 100000 ∧ Exa Z h a "[B"
section BLs
variable {Z : State} {h h' : Heap} {a b : Addr} {k : ClassId} {bs : List Int32} {ws : List Addr} {sl : Nat} {v : Value}
theorem BL.lt (F : BL Z h a k bs) : a < h.size := F.1.lt
theorem BL.ext (F : BL Z h a k bs) (E : Ext h h') : BL Z h' a k bs := ⟨F.1.ext E, F.2.1, F.2.2.ext E⟩
theorem BL.other (F : BL Z h b k bs) (W : Wr h h' a sl v) (q : b ≠ a) : BL Z h' b k bs := ⟨F.1.other W q, F.2.1, F.2.2.wr W⟩
theorem BL.keep (F : BL Z h a k bs) (K : Keep h h' ws) (q : a ∉ ws) : BL Z h' a k bs := ⟨F.1.keep K q, F.2.1, F.2.2.keep K⟩
theorem ofN_int {n : Nat} (q : n ≤ 1000000) : (Int32.ofNat n).toInt = n := by
  rw [Int32.toInt_ofNat']
  have e : (Int32.size : Int) = 4294967296 := rfl
  exact Int.bmod_eq_of_le (by omega) (by omega)
theorem ofN_nat {n : Nat} (q : n ≤ 1000000) : (Int32.ofNat n).toNatClampNeg = n := by simp only [Int32.toNatClampNeg, ofN_int q]; rfl
theorem ofN_nn {n : Nat} (q : n ≤ 1000000) : ¬ Int32.ofNat n < 0 := by rw [Int32.lt_iff_toInt_lt, ofN_int q]; show ¬ (n : Int) < 0; omega
theorem ofN_add (a b : Nat) : Int32.ofNat a + Int32.ofNat b = Int32.ofNat (a + b) := (Int32.ofNat_add a b).symm
theorem ofN_sub {a b : Nat} (q : b ≤ a) : Int32.ofNat a - Int32.ofNat b = Int32.ofNat (a - b) := by
  have : a = (a - b) + b := by omega
  conv => lhs; rw [this, Int32.ofNat_add]
  simp
theorem ofN_lt {a b : Nat} (qa : a ≤ 1000000) (qb : b ≤ 1000000) : Int32.ofNat a < Int32.ofNat b ↔ a < b := by rw [Int32.lt_iff_toInt_lt, ofN_int qa, ofN_int qb]; omega
theorem ofN_eq {a b : Nat} (qa : a ≤ 1000000) (qb : b ≤ 1000000) : Int32.ofNat a = Int32.ofNat b ↔ a = b := ⟨fun q => by have := congrArg Int32.toInt q; rw [ofN_int qa, ofN_int qb] at this; omega, fun q => q ▸ rfl⟩
theorem shr0 (x : Int32) : x >>> ((0 : Int32) &&& 31) = x := by
  rw [show ((0 : Int32) &&& 31) = 0 from by decide]; simp
theorem shl0 (x : Int32) : x <<< ((0 : Int32) &&& 31) = x := by
  rw [show ((0 : Int32) &&& 31) = 0 from by decide]; simp
theorem BL.of_list (F : Arv Z h a k .byte (Int32.ofNat bs.length) vs (.int 0)) (hE : Exa Z h a "[B") (hl : bs.length ≤ 100000) (q : ∀ i, i < bs.length → vs.getD i (.int 0) = (bs.map Value.int).getD i (.int 0)) : BL Z h a k bs := by
  obtain ⟨c, A, r1, r2, r3, H, G⟩ := F
  have e := ofN_nat (n := bs.length) (by omega)
  refine ⟨⟨c, A, r1, r2, r3, fun i hi => ?_, fun i hi => ?_⟩, hl, hE⟩
  · rw [← q i (by rw [r2, e] at hi; exact hi)]; exact H i hi
  · rw [← q i (by rw [r2, e] at hi; exact hi)]; exact G i hi
end BLs
/-- a byte array that is read alone -/
def B0 (Z : State) (h : Heap) (a : Addr) (k : ClassId) (bs : List Int32) : Prop := Arv Z h a k .byte (Int32.ofNat bs.length) (bs.map Value.int) (.int 0) ∧ bs.length ≤ 100000 ∧ True
section B0s
variable {Z : State} {h h' : Heap} {a b : Addr} {k : ClassId} {bs : List Int32} {ws : List Addr} {sl : Nat} {v : Value}
theorem BL.b0 (F : BL Z h a k bs) : B0 Z h a k bs := ⟨F.1, F.2.1, trivial⟩
theorem B0.lt (F : B0 Z h a k bs) : a < h.size := F.1.lt
theorem B0.ext (F : B0 Z h a k bs) (E : Ext h h') : B0 Z h' a k bs := ⟨F.1.ext E, F.2.1, trivial⟩
theorem B0.other (F : B0 Z h b k bs) (W : Wr h h' a sl v) (q : b ≠ a) : B0 Z h' b k bs := ⟨F.1.other W q, F.2.1, trivial⟩
theorem B0.keep (F : B0 Z h a k bs) (K : Keep h h' ws) (q : a ∉ ws) : B0 Z h' a k bs := ⟨F.1.keep K q, F.2.1, trivial⟩
end B0s
theorem rew_mono {s t : State} {o : Outcome} {L : List Loc} {k n k' n' : Nat} (h : ReturnedEndW s o t L k n) (q : k ≤ k') (r : n ≤ n') : ReturnedEndW s o t L k' n' := ⟨h.1, h.2.1, h.2.2.1, h.2.2.2.mono q r⟩
section BLs2
variable {p : Program} {l : Launch} {e : Env} {R : Room} {s : State} {m : MethodId} {args : Array Value} {below : List Frame} {meth : Method} {c : Code} {T : State} {locs : List Loc} {cells slots : Nat} {Z : State} {a0 : Array Value} {h : Heap} {a b : Addr} {k k' : ClassId} {bs ds : List Int32}
theorem newB (X : Stand p l e R s m args below meth c T locs cells slots) (hx : p.tables.exec = Jvm.exec) (hZ : Z.Warmed39 s.vm) (w : (Cond.arrayClass .byte).before a0 Z = true) (eT : T.heap = h) {g : JFrame} (hg : g.method = m) (hd : decode c.code g.pc = .ok (.newarray .byte, 2)) {n : Nat} {rest : List Value} (hs : g.stack = .int (Int32.ofNat n) :: rest)
    {cap : Nat} (hcap : n ≤ cap) (hb : cap ≤ 100000) (hc : cells + 1 ≤ R.cells) (hl : slots + cap ≤ R.slots) :
    ∃ T' h' cA, Stand p l e R s m args below meth c T' locs (cells + 1) (slots + cap) ∧ T'.heap = h' ∧ Ext h h' ∧ BL Z h' h.size cA (List.replicate n 0) ∧
      ∀ target, Steps p.tables e below (T'.setTop { g with pc := g.pc + 2, stack := .ref h.size :: rest }) target → Steps p.tables e below (T.setTop g) target := by
  obtain ⟨T', h', cA, X', e', E, A, Ex, st⟩ := newPE X hx hZ (aty := .byte) w eT hg hd hs (ofN_nn (by omega)) (cap := cap) (by rw [ofN_nat (by omega)]; exact hcap) (by omega) hc hl (ad := "[B") (by decide)
  refine ⟨T', h', cA, X', e', E, BL.of_list (vs := []) ?_ Ex (by simp; omega) (fun i hi => ?_), st⟩
  · have := Arv.new A (ofN_nn (n := n) (by omega))
    rw [List.length_replicate]; exact this
  · simp at hi; simp [hi]
theorem cpB (X : Stand p l e R s m args below meth c T locs cells slots) (hx : p.tables.exec = Jvm.exec) (hZ : Z.Warmed39 s.vm) {own : String} {index : Nat} (hown : s.vm.findClass own = some m.cls)
    (w1 : (Cond.methodLink own index Jvm.Stand.acN).before a0 Z = true) (w2 : (Cond.native Jvm.Stand.acN).before a0 Z = true) (w3 : (Cond.static Jvm.Stand.acN).before a0 Z = true) (w4 : (Cond.initialized "java/lang/System").before a0 Z = true) (eT : T.heap = h)
    (A : B0 Z h a k bs) (B : BL Z h b k' ds) {sp dp nn : Nat} (h4 : sp + nn ≤ bs.length) (h5 : dp + nn ≤ ds.length) {n0 : Nat} (N : Fr n0 locs) (ge : n0 ≤ b)
    {g : JFrame} (hg : g.method = m) (hsize : g.locals.size = c.maxLocals) {rest : List Value} (hs : g.stack = .int (Int32.ofNat nn) :: .int (Int32.ofNat dp) :: .ref b :: .int (Int32.ofNat sp) :: .ref a :: rest) (hd : decode c.code g.pc = .ok (.invokestatic index, 3))
    (hf : 1 ≤ R.frames) {W : Nat} (hW : 2 * g.monitorRoom + (rest.map fun v => v.category).sum ≤ W) (hlo : W + (nativeFrameWords "java/lang/System" "arraycopy" 5 + 11) ≤ R.locals) :
    ∃ T' h' L, Stand p l e R s m args below meth c T' L cells slots ∧ T'.heap = h' ∧ Fr n0 L ∧ Keep h h' [b] ∧ BL Z h' b k' (ds.take dp ++ (bs.drop sp).take nn ++ ds.drop (dp + nn)) ∧
      ∀ target, Steps p.tables e below (T'.setTop { g with pc := g.pc + 3, stack := rest }) target → Steps p.tables e below (T.setTop g) target := by
  have la := A.2.1
  have lb := B.2.1
  have e1 := ofN_nat (n := sp) (by omega)
  have e2 := ofN_nat (n := dp) (by omega)
  have e3 := ofN_nat (n := nn) (by omega)
  have ea := ofN_nat (n := bs.length) (by omega)
  have eb := ofN_nat (n := ds.length) (by omega)
  obtain ⟨T', h', L, X', e', N', K, F, st⟩ := cpA X hx hZ hown w1 w2 w3 w4 eT A.1 B.1 (Or.inl ⟨rfl, rfl⟩) (sp := Int32.ofNat sp) (dp := Int32.ofNat dp) (nn := Int32.ofNat nn) (ofN_nn (by omega)) (ofN_nn (by omega)) (ofN_nn (by omega))
    (by rw [e1, e3, ea]; exact h4) (by rw [e2, e3, eb]; exact h5) rfl (by rw [e2, e3, List.length_map]; exact h5) N ge hg hsize hs hd hf hW hlo
  have hl : (ds.take dp ++ (bs.drop sp).take nn ++ ds.drop (dp + nn)).length = ds.length := by simp; omega
  refine ⟨T', h', L, X', e', N', K, BL.of_list (by rw [hl]; exact F) (B.2.2.keep K) (by rw [hl]; exact lb) (fun i hi => ?_), st⟩
  rw [e1, e2, e3]
  congr 1
  have q : List.map (fun i => (bs.map Value.int).getD (sp + i) (.int 0)) (List.range nn) = ((bs.drop sp).take nn).map Value.int := by
    apply List.ext_getElem
    · simp; omega
    · intro j h1 h2
      simp at h1
      simp [show sp + j < bs.length by omega]
  rw [q]
  simp
theorem cloneB (X : Stand p l e R s m args below meth c T locs cells slots) (hx : p.tables.exec = Jvm.exec) (hZ : Z.Warmed39 s.vm) {own : String} {index : Nat} (hown : s.vm.findClass own = some m.cls)
    (w1 : (Cond.methodLink own index ⟨"[B", "clone", "()Ljava/lang/Object;"⟩).before a0 Z = true) (w2 : (Cond.sameMethod "[B" "java/lang/Object" "clone" "()Ljava/lang/Object;").before a0 Z = true) (w3 : (Cond.native ⟨"java/lang/Object", "clone", "()Ljava/lang/Object;"⟩).before a0 Z = true)
    (w4 : (Cond.instanceMethod ⟨"java/lang/Object", "clone", "()Ljava/lang/Object;"⟩).before a0 Z = true) (w5 : (Cond.selects "[B" ⟨"[B", "clone", "()Ljava/lang/Object;"⟩ ⟨"java/lang/Object", "clone", "()Ljava/lang/Object;"⟩).before a0 Z = true) (w6 : (Cond.castable "[B" "java/lang/Cloneable").before a0 Z = true)
    (eT : T.heap = h) (F : BL Z h a k bs) {g : JFrame} (hg : g.method = m) (hsize : g.locals.size = c.maxLocals) {rest : List Value} (hst : g.stack = .ref a :: rest) (hd : decode c.code g.pc = .ok (.invokevirtual index, 3))
    (hf : 1 ≤ R.frames) {W cap : Nat} (hW : 2 * g.monitorRoom + (rest.map fun v => v.category).sum ≤ W) (hl : W + 14 ≤ R.locals) (hcap : bs.length ≤ cap) (hc : cells + 1 ≤ R.cells) (hsl : slots + cap ≤ R.slots) :
    ∃ T' h', Stand p l e R s m args below meth c T' locs (cells + 1) (slots + cap) ∧ T'.heap = h' ∧ Ext h h' ∧ BL Z h' h.size k bs ∧
      ∀ target, Steps p.tables e below (T'.setTop { g with pc := g.pc + 3, stack := .ref h.size :: rest }) target → Steps p.tables e below (T.setTop g) target := by
  obtain ⟨T', h', X', e', E, A, Ex, st⟩ := cloneH X hx hZ hown w1 w2 w3 w4 w5 w6 eT (Arv.arh F.1) F.2.2 hg hsize hst hd hf hW hl (by rw [ofN_nat (by have := F.2.1; omega)]; exact hcap) hc hsl
  exact ⟨T', h', X', e', E, ⟨A, F.2.1, Ex⟩, st⟩
end BLs2
def cap2 (L mn : Nat) : Nat := if mn ≤ L then L else max mn (2 * L + 2)
theorem subpos {a b : Nat} (qa : a ≤ 1000000) (qb : b ≤ 1000000) : (0 : Int32) < Int32.ofNat a - Int32.ofNat b ↔ b < a := by
  rw [Int32.lt_iff_toInt_lt, Int32.toInt_sub, ofN_int qa, ofN_int qb, Int.bmod_eq_of_le (by omega) (by omega)]
  show (0 : Int) < _ ↔ _; omega
theorem ofN_bound {a c : Nat} (qa : a ≤ 1000000) (z : Int32) (hz : z.toInt = c) (hc : 1000000 < c) : ¬ z < Int32.ofNat a ∧ ¬ Int32.ofNat a = z := by
  refine ⟨fun q => ?_, fun q => ?_⟩
  · rw [Int32.lt_iff_toInt_lt, ofN_int qa, hz] at q; omega
  · have := congrArg Int32.toInt q; rw [ofN_int qa, hz] at this; omega
theorem ofN_pos {a : Nat} (qa : a ≤ 1000000) (h : 0 < a) : (0 : Int32) < Int32.ofNat a := by rw [Int32.lt_iff_toInt_lt, ofN_int qa]; show (0 : Int) < _; omega
theorem inB {L i : Nat} (hL : L ≤ 100000) (hi : i < L) : ¬ Int32.ofNat i < 0 ∧ Int32.ofNat i < Int32.ofNat L := ⟨ofN_nn (by omega), (ofN_lt (by omega) (by omega)).mpr hi⟩
theorem atB {bs : List Int32} {i : Nat} (hL : bs.length ≤ 100000) (hi : i < bs.length) : (bs.map Value.int).getD (Int32.ofNat i).toNatClampNeg (.int 0) = .int (bs.getD i 0) := by
  rw [ofN_nat (by omega)]; simp [hi]
theorem app_len {bs src : List Int32} {cn : Nat} (h : cn + src.length ≤ bs.length) : (bs.take cn ++ src ++ bs.drop (cn + src.length)).length = bs.length := by simp; omega
theorem app_take {bs ds src : List Int32} {cn : Nat} (hc : cn ≤ ds.length) (tk : bs.take ds.length = ds) (h : cn + src.length ≤ bs.length) : (bs.take cn ++ src ++ bs.drop (cn + src.length)).take (cn + src.length) = ds.take cn ++ src := by
  have e : ds.take cn = bs.take cn := by
    conv => lhs; rw [← tk]
    rw [List.take_take, Nat.min_eq_left hc]
  rw [e, List.take_append_of_le_length (by simp; omega), List.take_of_length_le (by simp; omega)]
theorem cap2_ge (L mn : Nat) : mn ≤ cap2 L mn ∧ L ≤ cap2 L mn := by unfold cap2; split <;> omega
theorem p10_ne {r : Nat} (h : r < 19) : Int64.ofNat (10 ^ r) ≠ 0 := by
  have : ∀ r : Fin 19, Int64.ofNat (10 ^ r.val) ≠ 0 := by decide
  exact this ⟨r, h⟩
theorem nar_mask (x : Int32) : nar .char (x &&& 255) = x &&& 255 := i2c_mask x
theorem nar_mask2 (x : Int32) : nar .char ((x &&& 255).toUInt32.toUInt16.toUInt32.toInt32) = x &&& 255 := by rw [i2c_mask]; exact i2c_mask x
def absL (x : Int64) : Nat := x.toInt.natAbs
def dg (n : Nat) : Nat := SBG.digitsL n
def digs (n d : Nat) : List Int32 := (List.range d).map fun j => Int32.ofNat (48 + n / 10 ^ (d - 1 - j) % 10)
def decB (x : Int64) : List Int32 := (if x < 0 then [45] else []) ++ digs (absL x) (dg (absL x))
theorem absL_le (x : Int64) : absL x ≤ 2 ^ 63 := by
  have h1 := Int64.le_toInt x
  have h2 := Int64.toInt_lt x
  unfold absL; omega
theorem absL_neg (x : Int64) : (if x < 0 then x else -x) = SBG.negL (absL x) := by
  obtain ⟨n, hn, e⟩ := SBG.negL_of x
  rw [e]
  have q := congrArg Int64.toInt e
  rw [SBG.negL_toInt hn] at q
  congr 1
  have h1 := Int64.le_toInt x
  have h2 := Int64.toInt_lt x
  have z0 : (0 : Int64).toInt = 0 := by decide
  unfold absL
  split at q
  · omega
  · rename_i hx
    rw [Int64.lt_iff_toInt_lt, z0] at hx
    rw [Int64.toInt_neg, SBG.bmL (by omega) (by omega)] at q
    omega
theorem digs_len (n d : Nat) : (digs n d).length = d := by simp [digs]
theorem decB_len (x : Int64) : (decB x).length = SBG.digitsL (absL x) + SBG.GetCharsL.sgnL x := by
  unfold decB SBG.GetCharsL.sgnL; split <;> simp [digs_len, dg]
theorem decB_le (x : Int64) : 1 ≤ (decB x).length ∧ (decB x).length ≤ 21 := by
  rw [decB_len]; have := SBG.digitsL_pos (absL x); unfold SBG.GetCharsL.sgnL; split <;> omega
theorem d8 : ∀ r : Fin 10, (Int32.ofNat (48 + r.val)).toInt8.toInt32 = Int32.ofNat (48 + r.val) := by decide
theorem d8' {r : Nat} (h : r < 10) : (Int32.ofNat (48 + r)).toInt8.toInt32 = Int32.ofNat (48 + r) := d8 ⟨r, h⟩
def Ones (D : Cell) : Prop := ∀ r, r < 100 → SBG.iAt D r = Int32.ofNat (48 + r % 10)
def Tens (D : Cell) : Prop := ∀ r, r < 100 → SBG.iAt D r = Int32.ofNat (48 + r / 10)
theorem dig_slots {D1 D2 : Cell} (h1 : Ones D1) (h2 : Tens D2) : ∀ (f : Nat) (A : Cell) (n pos : Nat), n < 100 ^ f → SBG.wN f n ≤ pos → pos ≤ A.slots.size → ∀ j,
    (SBG.digLoop D1 D2 f A n pos).1.slots[j]? = if pos - SBG.wN f n ≤ j ∧ j < pos then some (.int (Int32.ofNat (48 + n / 10 ^ (pos - 1 - j) % 10))) else A.slots[j]?
  | 0, A, n, pos, hn, hw, hp, j => by
    rw [if_neg (by rw [show SBG.wN 0 n = 0 from rfl]; omega)]; rfl
  | f + 1, A, n, pos, hn, hw, hp, j => by
    have s1 : ∀ (pos : Nat) (x : Int32), (SBG.put A pos x).slots.size = A.slots.size := fun pos x => (SBG.put_facts A pos x).2.2
    have ew : SBG.wN (f + 1) n = if 100 ≤ n then 2 + SBG.wN f (n / 100) else if 9 < n then 2 else 1 := rfl
    have ed : SBG.digLoop D1 D2 (f + 1) A n pos = if 100 ≤ n then SBG.digLoop D1 D2 f (SBG.put (SBG.put A (pos - 1) (SBG.iAt D1 (n % 100))) (pos - 2) (SBG.iAt D2 (n % 100))) (n / 100) (pos - 2)
      else if 9 < n then (SBG.put (SBG.put A (pos - 1) (SBG.iAt D1 n)) (pos - 2) (SBG.iAt D2 n), pos - 2) else (SBG.put A (pos - 1) (SBG.iAt D1 n), pos - 1) := rfl
    generalize SBG.wN (f + 1) n = w at hw ew ⊢
    by_cases c1 : 100 ≤ n
    · rw [if_pos c1] at ew
      rw [ed, if_pos c1]
      have hn' : n / 100 < 100 ^ f := by rw [Nat.pow_succ] at hn; omega
      rw [dig_slots h1 h2 f _ (n / 100) (pos - 2) hn' (by omega) (by rw [(SBG.put_facts _ _ _).2.2, s1]; omega) j, SBG.put_at, SBG.put_at, s1]
      by_cases c2 : pos - 2 - SBG.wN f (n / 100) ≤ j ∧ j < pos - 2
      · rw [if_pos c2, if_pos (by omega)]
        have e : n / 10 ^ (pos - 1 - j) = n / 100 / 10 ^ (pos - 2 - 1 - j) := by
          rw [Nat.div_div_eq_div_mul, show pos - 1 - j = (pos - 2 - 1 - j) + 2 by omega, Nat.pow_add, Nat.mul_comm]
        rw [e]
      · rw [if_neg c2]
        by_cases c3 : j = pos - 2
        · rw [if_pos ⟨c3, by omega⟩, if_pos (by omega), h2 _ (Nat.mod_lt _ (by omega)), show pos - 1 - j = 1 by omega, d8' (by omega)]
          congr 4; omega
        · rw [if_neg (fun q => c3 q.1)]
          by_cases c4 : j = pos - 1
          · rw [if_pos ⟨c4, by omega⟩, if_pos (by omega), h1 _ (Nat.mod_lt _ (by omega)), show pos - 1 - j = 0 by omega, d8' (by omega)]
            congr 4; simp
          · rw [if_neg (fun q => c4 q.1), if_neg (by omega)]
    · rw [if_neg c1] at ew
      rw [ed, if_neg c1]
      by_cases c2 : 9 < n
      · rw [if_pos c2] at ew
        rw [if_pos c2]
        show (SBG.put (SBG.put A _ _) _ _).slots[j]? = _
        rw [SBG.put_at, SBG.put_at, s1]
        by_cases c3 : j = pos - 2
        · rw [if_pos ⟨c3, by omega⟩, if_pos (by omega), h2 _ (by omega), show pos - 1 - j = 1 by omega, d8' (by omega)]
          congr 4; omega
        · rw [if_neg (fun q => c3 q.1)]
          by_cases c4 : j = pos - 1
          · rw [if_pos ⟨c4, by omega⟩, if_pos (by omega), h1 _ (by omega), show pos - 1 - j = 0 by omega, d8' (by omega)]
            congr 4; simp
          · rw [if_neg (fun q => c4 q.1), if_neg (by omega)]
      · rw [if_neg c2] at ew
        rw [if_neg c2]
        show (SBG.put A _ _).slots[j]? = _
        rw [SBG.put_at]
        by_cases c4 : j = pos - 1
        · rw [if_pos ⟨c4, by omega⟩, if_pos (by omega), h1 _ (by omega), show pos - 1 - j = 0 by omega, d8' (by omega)]
          congr 4; simp
        · rw [if_neg (fun q => c4 q.1), if_neg (by omega)]
/-- what the whole array holds behind getChars -/
theorem out_slots {D1 D2 : Cell} (h1 : Ones D1) (h2 : Tens D2) {f : Nat} {A : Cell} {n pos : Nat} (neg : Bool) (hn : n < 100 ^ f) {bs : List Int32} (hA : A.slots.size = bs.length) (hH : ∀ i, i < bs.length → A.slots[i]? = some (.int (bs.getD i 0))) (hw : SBG.wN f n + neg.toNat ≤ pos) (hp : pos ≤ bs.length) (j : Nat) (hj : j < bs.length) :
    (if neg = true then SBG.put (SBG.digLoop D1 D2 f A n pos).1 ((SBG.digLoop D1 D2 f A n pos).2 - 1) 45 else (SBG.digLoop D1 D2 f A n pos).1).slots[j]? =
      some (.int ((bs.take (pos - (SBG.wN f n + neg.toNat)) ++ ((if neg = true then [45] else []) ++ digs n (SBG.wN f n)) ++ bs.drop pos).getD j 0)) := by
  obtain ⟨f1, f2, f3, f4⟩ := SBG.digLoop_facts D1 D2 f A n pos
  have key := dig_slots h1 h2 f A n pos hn (by omega) (by omega) j
  have low : ∀ (q : Nat) (M : List Int32), j < q → q ≤ bs.length → (bs.take q ++ M ++ bs.drop pos).getD j 0 = bs.getD j 0 := fun q M a b => by
    simp only [List.getD_eq_getElem?_getD]
    rw [List.append_assoc, List.getElem?_append_left (by simp; omega), List.getElem?_take_of_lt a]
  have high : ∀ (q : Nat) (M : List Int32), q + M.length = pos → pos ≤ j → (bs.take q ++ M ++ bs.drop pos).getD j 0 = bs.getD j 0 := fun q M a b => by
    simp only [List.getD_eq_getElem?_getD]
    rw [List.getElem?_append_right (by simp; omega), List.getElem?_drop]
    congr 2; simp; omega
  have mid : ∀ (q : Nat) (M : List Int32), q ≤ j → j < q + M.length → q ≤ bs.length → (bs.take q ++ M ++ bs.drop pos).getD j 0 = M.getD (j - q) 0 := fun q M a b c => by
    simp only [List.getD_eq_getElem?_getD]
    rw [List.getElem?_append_left (by simp; omega), List.getElem?_append_right (by simp; omega)]
    congr 3; simp; omega
  have dgt : ∀ i, i < SBG.wN f n → (digs n (SBG.wN f n)).getD i 0 = Int32.ofNat (48 + n / 10 ^ (SBG.wN f n - 1 - i) % 10) := fun i hi => by simp [digs, hi]
  cases neg with
  | false =>
    simp only [Bool.toNat_false, Nat.add_zero] at hw ⊢
    simp only [Bool.false_eq_true, if_false, List.nil_append]
    rw [key]
    by_cases c1 : pos - SBG.wN f n ≤ j ∧ j < pos
    · rw [if_pos c1, mid _ _ c1.1 (by rw [digs_len]; omega) (by omega), dgt _ (by omega), show SBG.wN f n - 1 - (j - (pos - SBG.wN f n)) = pos - 1 - j by omega]
    · rw [if_neg c1, hH j hj]
      by_cases c2 : j < pos
      · rw [low _ _ (by omega) (by omega)]
      · rw [high _ _ (by rw [digs_len]; omega) (by omega)]
  | true =>
    simp only [Bool.toNat_true] at hw ⊢
    simp only [if_true]
    rw [SBG.put_at, f4, f3, key]
    by_cases c0 : j = pos - SBG.wN f n - 1
    · rw [if_pos ⟨c0, by omega⟩, mid _ _ (by omega) (by simp [digs_len]; omega) (by omega), show j - (pos - (SBG.wN f n + 1)) = 0 by omega]; rfl
    · rw [if_neg (fun q => c0 q.1)]
      by_cases c1 : pos - SBG.wN f n ≤ j ∧ j < pos
      · rw [if_pos c1, mid _ _ (by omega) (by simp [digs_len]; omega) (by omega), show j - (pos - (SBG.wN f n + 1)) = (j - (pos - SBG.wN f n)) + 1 by omega]
        show _ = some (Value.int ((45 :: digs n (SBG.wN f n)).getD _ 0))
        rw [List.getD_cons_succ, dgt _ (by omega), show SBG.wN f n - 1 - (j - (pos - SBG.wN f n)) = pos - 1 - j by omega]
      · rw [if_neg c1, hH j hj]
        by_cases c2 : j < pos
        · rw [low _ _ (by omega) (by omega)]
        · rw [high _ _ (by simp [digs_len]; omega) (by omega)]
theorem absI_eq (x : Int32) : absL x.toInt64 = x.toInt.natAbs := by simp [absL]
theorem absI_le (x : Int32) : absL x.toInt64 ≤ 2 ^ 31 := by
  rw [absI_eq]; have h1 := Int32.le_toInt x; have h2 := Int32.toInt_lt x; omega
theorem absI_lt (x : Int32) : x.toInt64 < 0 ↔ x < 0 := by
  rw [Int64.lt_iff_toInt_lt, Int32.lt_iff_toInt_lt]; simp
theorem absI_neg (x : Int32) : (if x < 0 then x else -x) = SBG.negI (absL x.toInt64) := by
  obtain ⟨n, hn, e⟩ := SBG.negI_of x
  rw [e]
  have q := congrArg Int32.toInt e
  rw [SBG.negI_toInt hn] at q
  congr 1
  rw [absI_eq]
  have h1 := Int32.le_toInt x
  have h2 := Int32.toInt_lt x
  have z0 : (0 : Int32).toInt = 0 := by decide
  split at q
  · omega
  · rename_i hx
    rw [Int32.lt_iff_toInt_lt, z0] at hx
    rw [Int32.toInt_neg, SBG.bm (by omega) (by omega)] at q
    omega
theorem wN_more : ∀ (f n : Nat), n < 100 ^ (f + 1) → SBG.wN (f + 2) n = SBG.wN (f + 1) n
  | 0, n, h => by
    have e2 : SBG.wN 2 n = if 100 ≤ n then 2 + SBG.wN 1 (n / 100) else if 9 < n then 2 else 1 := rfl
    have e1 : SBG.wN 1 n = if 100 ≤ n then 2 + SBG.wN 0 (n / 100) else if 9 < n then 2 else 1 := rfl
    have hh : ¬ 100 ≤ n := by omega
    rw [e2, e1, if_neg hh, if_neg hh]
  | f + 1, n, h => by
    have e2 : SBG.wN (f + 3) n = if 100 ≤ n then 2 + SBG.wN (f + 2) (n / 100) else if 9 < n then 2 else 1 := rfl
    have e1 : SBG.wN (f + 2) n = if 100 ≤ n then 2 + SBG.wN (f + 1) (n / 100) else if 9 < n then 2 else 1 := rfl
    rw [e2, e1, wN_more f (n / 100) (by rw [Nat.pow_succ] at h; omega)]
theorem dig_eq {n : Nat} (h : n ≤ 2 ^ 31) : SBG.digits n = SBG.digitsL n := by
  rw [← SBG.wN_digits h]
  show SBG.wN 5 n = SBG.wN 10 n
  rw [wN_more 8 n (by omega), wN_more 7 n (by omega), wN_more 6 n (by omega), wN_more 5 n (by omega), wN_more 4 n (by omega)]
theorem decI_len (x : Int32) : (decB x.toInt64).length = SBG.digits (absL x.toInt64) + SBG.GetChars.sgn x := by
  rw [decB_len, dig_eq (absI_le x)]
  have := absI_lt x
  unfold SBG.GetCharsL.sgnL SBG.GetChars.sgn; split <;> split <;> simp_all
theorem mapGet {M : List Int32} {i : Nat} (hi : i < M.length) : (M.map Value.int).getD i (.int 0) = .int (M.getD i 0) := by simp [hi]
def DigT (Z : State) : Prop := ∃ (st d1 : Addr) (D1 : Cell) (d2 : Addr) (D2 : Cell), SBG.Tbl Z "DigitOnes" st d1 D1 ∧ SBG.Tbl Z "DigitTens" st d2 D2 ∧ Ones D1 ∧ Tens D2
def GCQ (Z : State) (h : Heap) (n0 : Nat) (d : Addr) (k : ClassId) (bs ns : List Int32) (idx : Nat) (v : Option Value) (h' : Heap) (L : List Loc) : Prop :=
  v = some (.int (Int32.ofNat (idx - ns.length))) ∧ Fr n0 L ∧ Keep h h' [d] ∧ BL Z h' d k (bs.take (idx - ns.length) ++ ns ++ bs.drop idx)
theorem gc_end {Z : State} {h h' : Heap} {idx : Nat} {d : Addr} {k : ClassId} {bs ns : List Int32} {cl out : Cell} (hid : idx ≤ bs.length) (hns : ns.length ≤ idx) (hl : bs.length ≤ 100000) (Ex : Exa Z h d "[B") (Ar : Arr Z h d cl .byte) (q1 : cl.cls = k) (Sz : cl.slots.size = (Int32.ofNat bs.length).toNatClampNeg)
    (f1 : out.cls = cl.cls) (f2 : out.vm = cl.vm) (f3 : out.slots.size = cl.slots.size) (f4 : ∀ i, i < out.slots.size → fits .byte (out.slots.getD i .null) = true)
    (hs : ∀ j, j < bs.length → out.slots[j]? = some (.int ((bs.take (idx - ns.length) ++ ns ++ bs.drop idx).getD j 0)))
    (hd : h'[d]? = some out) (hz : h'.size = h.size) (hk : ∀ (y : Addr) (cy : Cell), y ≠ d → h[y]? = some cy → h'[y]? = some cy) : Keep h h' [d] ∧ BL Z h' d k (bs.take (idx - ns.length) ++ ns ++ bs.drop idx) := by
  have K : Keep h h' [d] := ⟨Nat.le_of_eq hz.symm, fun x c q r => hk x c (fun z => r (by simp [z])) q, fun x c q => by
    by_cases u : x = d
    · subst u; cases Ar.1.symm.trans q; exact ⟨_, hd, f1, f2, f3⟩
    · exact ⟨c, hk x c u q, rfl, rfl, rfl⟩⟩
  have hlen : (bs.take (idx - ns.length) ++ ns ++ bs.drop idx).length = bs.length := by simp; omega
  have eb := ofN_nat (n := bs.length) (by omega)
  refine ⟨K, ⟨out, ⟨hd, ?_, by rw [f2]; exact Ar.2.2⟩, f1.trans q1, by rw [f3, Sz, hlen], ofN_nn (by omega), fun i hi => ?_, fun i hi => ?_⟩, by rw [hlen]; exact hl, Ex.keep K⟩
  · have := Ar.2.1; unfold State.isArrayOf at this ⊢; rw [f1, f2]; exact this
  · rw [f3, Sz, eb] at hi
    rw [hs i hi, mapGet (by omega)]
  · have q := f4 i hi
    rw [f3, Sz, eb] at hi
    rw [SBG.getD_of (hs i hi)] at q
    rw [mapGet (by omega)]; exact q

theorem paySS_J {p : Program} {l : Launch} {e : Env} {R : Room} {s : State} {args : Array Value} {below : List Frame} {Z : State} {a0 : Array Value} {h : Heap} {W : Nat} (hZ : Z.Warmed39 s.vm) (hw : ∀ d ∈ tables_1, d.before a0 Z = true) (x : Int64) (n0 : Nat) (hfr : 2 ≤ R.frames) (hlo : W + 57 ≤ R.locals) :
    Back l R p e below s args (⟨"java/lang/Long", "stringSize", "(J)I"⟩ : MethodName) 3 W (fun A a => a = #[.long x] ∧ A.U.heap = h ∧ A.cells + 0 ≤ R.cells ∧ A.slots + 0 ≤ R.slots)
      (fun A _ v B => ∃ L, (v = some (.int (Int32.ofNat (decB x).length)) ∧ Fr n0 L ∧ B.U.heap = h) ∧ B.locs = A.locs ++ L ∧ B.cells = A.cells + 0 ∧ B.slots = A.slots + 0) := by
  have K := SBG.StrSizeL.pays (l := l) (p := p) (e := e) (below := below) (s := s) (args := args) hfr hlo (by show (Cond.and _ (Cond.and _ _)).before _ _ = true; simp only [Cond.before_and, Bool.and_eq_true]; exact ⟨mvT hZ (hw _ (List.mem_of_getElem? (i := 113) rfl)), mvT hZ (hw _ (List.mem_of_getElem? (i := 114) rfl)), mvT hZ (hw _ (List.mem_of_getElem? (i := 115) rfl))⟩) (mvT hZ (hw _ (List.mem_of_getElem? (i := 112) rfl)))
  intro m meth c A g ig mk a X h1 h2 h3 h4 h5 ⟨ha, hh, hc, hs⟩
  obtain ⟨v, B, X', ⟨hp, hv⟩, st⟩ := K m meth c A g ig mk a X h1 h2 h3 h4 h5 ⟨hc, hs, x, ha⟩
  refine ⟨v, B, X', ⟨[], ⟨?_, Fr.nil n0, hp.1.trans hh⟩, by rw [hp.2.1, List.append_nil], hp.2.2.1, hp.2.2.2⟩, st⟩
  rw [hv x ha, SBG.strSizeOfL_eq (absL_le x) (absL_neg x), decB_len]
theorem payGC_J {p : Program} {l : Launch} {e : Env} {R : Room} {s : State} {args : Array Value} {below : List Frame} {Z : State} {a0 : Array Value} {h : Heap} {W : Nat} (hZ : Z.Warmed39 s.vm) (hw : ∀ d ∈ tables_1, d.before a0 Z = true) {n0 idx : Nat} {d : Addr} {k : ClassId} {bs : List Int32} (x : Int64) (TB : DigT Z) (O : Old Z n0 h) (F : BL Z h d k bs) (gd : n0 ≤ d) (hi : idx ≤ bs.length) (hx' : (decB x).length ≤ idx) (hfr : 2 ≤ R.frames) (hlo : W + 102 ≤ R.locals) :
    Back l R p e below s args (⟨"java/lang/Long", "getChars", "(JI[B)I"⟩ : MethodName) 3 W (fun A a => a = #[.long x, .int (Int32.ofNat idx), .ref d] ∧ A.U.heap = h ∧ A.cells + 0 ≤ R.cells ∧ A.slots + 0 ≤ R.slots)
      (fun A _ v B => ∃ L, GCQ Z h n0 d k bs (decB x) idx v B.U.heap L ∧ B.locs = A.locs ++ L ∧ B.cells = A.cells + 0 ∧ B.slots = A.slots + 0) := by
  obtain ⟨st, d1, D1, d2, D2, t1, t2, on, te⟩ := TB
  obtain ⟨⟨cl, Ar, q1, Sz, Nn, H, G⟩, hl, Ex⟩ := F
  have eb := ofN_nat (n := bs.length) (by omega)
  have Sz' : cl.slots.size = bs.length := Sz.trans eb
  have K := SBG.GetCharsL.pays (l := l) (R := R) (p := p) (e := e) (below := below) (s := s) (sargs := args) ⟨x, absL x, idx, d, cl, st, d1, D1, d2, D2⟩ W (by show (Cond.and _ (Cond.and _ (Cond.and _ (Cond.and _ _)))).before _ _ = true; simp only [Cond.before_and, Bool.and_eq_true]; exact ⟨mvT hZ (hw _ (List.mem_of_getElem? (i := 146) rfl)), mvT hZ (hw _ (List.mem_of_getElem? (i := 149) rfl)), mvT hZ (hw _ (List.mem_of_getElem? (i := 151) rfl)), mvT hZ (hw _ (List.mem_of_getElem? (i := 147) rfl)), mvT hZ (hw _ (List.mem_of_getElem? (i := 148) rfl))⟩) (mvT hZ (hw _ (List.mem_of_getElem? (i := 112) rfl))) hfr hlo
  have lenE : SBG.digitsL (absL x) + SBG.GetCharsL.sgnL x = (decB x).length := (decB_len x).symm
  have hat : ∀ i, i < bs.length → cl.slots[i]? = some (.int (bs.getD i 0)) := fun i hi' => by rw [H i (by omega)]; simp [hi']
  intro m meth c A g ig mk a X h1 h2 h3 h4 h5 ⟨ha, hh, hc, hs⟩
  have hU : Z.Warmed39 A.U.vm := wtrans hZ X.warmed
  have lt_of : ∀ {y : Addr} {cy : Cell}, Z.heap[y]? = some cy → d ≠ y := fun {y cy} q => Ne.symm (O.ne (Array.getElem?_eq_some_iff.mp q).1 gd)
  obtain ⟨_, _, _, _, _, _, _, _, _, s5, _, _, s8, _⟩ := id t1
  obtain ⟨_, _, _, _, _, _, _, _, _, _, _, _, u8, _⟩ := id t2
  have P0 : SBG.GetCharsL.P ⟨x, absL x, idx, d, cl, st, d1, D1, d2, D2⟩ a A.U := ⟨ha, by rw [hh]; exact Ar.1, State.isArrayOf_alike hU.alike Ar.2.1, Ar.2.2, by show cl.slots.size < _; omega, by show idx ≤ cl.slots.size; omega, by show SBG.digitsL (absL x) + SBG.GetCharsL.sgnL x ≤ idx; rw [lenE]; exact hx', absL_le x, absL_neg x,
    t1.move hU.alike (fun c q => by rw [hh]; exact O.2.2 _ _ q) (by rw [hh]; exact O.2.2 _ _ s8), t2.move hU.alike (fun c q => by rw [hh]; exact O.2.2 _ _ q) (by rw [hh]; exact O.2.2 _ _ u8), lt_of s5, lt_of s8, lt_of u8⟩
  obtain ⟨v, B, X', ⟨hv, hcell, hcs, hsl, hsz, hkeep, L, hL, hb⟩, stp⟩ := K m meth c A g ig mk a X h1 h2 h3 h4 h5 ⟨ha, hc, hs, P0⟩
  refine ⟨v, B, X', ⟨L, ⟨?_, fun y hy => by rw [hb y hy]; exact gd, ?_⟩, hL, hcs, hsl⟩, stp⟩
  · rw [hv]; show some (Value.int (Int32.ofNat (idx - (SBG.digitsL (absL x) + SBG.GetCharsL.sgnL x)))) = _; rw [lenE]
  · obtain ⟨f1, f2, f3, f4, -⟩ := SBG.GetCharsL.outCell_facts ⟨x, absL x, idx, d, cl, st, d1, D1, d2, D2⟩ (absL_le x) (by show SBG.digitsL (absL x) + SBG.GetCharsL.sgnL x ≤ idx; rw [lenE]; exact hx') (fun i hi' => by
      have e := hat i (by have : i < cl.slots.size := hi'; omega)
      show fits .byte (cl.slots.getD i .null) = true
      have q := G i hi'; rw [← H i hi' |> fun z => SBG.getD_of z] at q; exact q)
    refine gc_end hi hx' hl Ex Ar q1 Sz f1 f2 f3 f4 (fun j hj => ?_) hcell (by rw [hsz, hh]) (fun y cy q r => hkeep y cy q (by rw [hh]; exact r))
    have wE : SBG.wN 10 (absL x) = dg (absL x) := rfl
    show (if x < 0 then SBG.put (SBG.digLoop D1 D2 10 cl (absL x) idx).1 ((SBG.digLoop D1 D2 10 cl (absL x) idx).2 - 1) 45 else (SBG.digLoop D1 D2 10 cl (absL x) idx).1).slots[j]? = _
    have hB : dg (absL x) + (if x < 0 then 1 else 0) = (decB x).length := lenE
    have hn : absL x < 100 ^ 10 := by have := absL_le x; omega
    have hpos := hx'
    by_cases hx : x < 0
    · have q := out_slots on te (f := 10) (A := cl) (n := absL x) (pos := idx) true hn Sz' hat (by rw [wE]; rw [if_pos hx] at hB; show _ + 1 ≤ _; omega) hi j hj
      rw [if_pos rfl] at q
      rw [if_pos hx, q]; rw [if_pos hx] at hB
      have e : decB x = (if true = true then [45] else []) ++ digs (absL x) (SBG.wN 10 (absL x)) := by unfold decB; rw [if_pos hx, if_pos rfl, wE]
      rw [show (true.toNat) = 1 from rfl, show SBG.wN 10 (absL x) + 1 = (decB x).length from by rw [wE]; exact hB, ← e]
    · have q := out_slots on te (f := 10) (A := cl) (n := absL x) (pos := idx) false hn Sz' hat (by rw [wE]; rw [if_neg hx] at hB; show _ + 0 ≤ _; omega) hi j hj
      rw [if_neg (by decide)] at q
      rw [if_neg hx, q]; rw [if_neg hx] at hB
      have e : decB x = (if false = true then [45] else []) ++ digs (absL x) (SBG.wN 10 (absL x)) := by unfold decB; rw [if_neg hx, if_neg (by decide), wE]
      rw [show (false.toNat) = 0 from rfl, show SBG.wN 10 (absL x) + 0 = (decB x).length from by rw [wE]; exact hB, ← e]
theorem paySS_I {p : Program} {l : Launch} {e : Env} {R : Room} {s : State} {args : Array Value} {below : List Frame} {Z : State} {a0 : Array Value} {h : Heap} {W : Nat} (hZ : Z.Warmed39 s.vm) (hw : ∀ d ∈ tables_1, d.before a0 Z = true) (x : Int32) (n0 : Nat) (hfr : 2 ≤ R.frames) (hlo : W + 55 ≤ R.locals) :
    Back l R p e below s args (⟨"java/lang/Integer", "stringSize", "(I)I"⟩ : MethodName) 3 W (fun A a => a = #[.int x] ∧ A.U.heap = h ∧ A.cells + 0 ≤ R.cells ∧ A.slots + 0 ≤ R.slots)
      (fun A _ v B => ∃ L, (v = some (.int (Int32.ofNat (decB x.toInt64).length)) ∧ Fr n0 L ∧ B.U.heap = h) ∧ B.locs = A.locs ++ L ∧ B.cells = A.cells + 0 ∧ B.slots = A.slots + 0) := by
  have K := SBG.StrSize.pays (l := l) (p := p) (e := e) (below := below) (s := s) (args := args) hfr hlo (mvT hZ (hw _ (List.mem_of_getElem? (i := 164) rfl))) (mvT hZ (hw _ (List.mem_of_getElem? (i := 150) rfl)))
  intro m meth c A g ig mk a X h1 h2 h3 h4 h5 ⟨ha, hh, hc, hs⟩
  obtain ⟨v, B, X', ⟨hp, hv⟩, st⟩ := K m meth c A g ig mk a X h1 h2 h3 h4 h5 ⟨hc, hs, x, ha⟩
  refine ⟨v, B, X', ⟨[], ⟨?_, Fr.nil n0, hp.1.trans hh⟩, by rw [hp.2.1, List.append_nil], hp.2.2.1, hp.2.2.2⟩, st⟩
  rw [hv x ha, SBG.strSizeOf_eq (absI_le x) (absI_neg x), decI_len]
theorem payGC_I {p : Program} {l : Launch} {e : Env} {R : Room} {s : State} {args : Array Value} {below : List Frame} {Z : State} {a0 : Array Value} {h : Heap} {W : Nat} (hZ : Z.Warmed39 s.vm) (hw : ∀ d ∈ tables_1, d.before a0 Z = true) {n0 idx : Nat} {d : Addr} {k : ClassId} {bs : List Int32} (x : Int32) (TB : DigT Z) (O : Old Z n0 h) (F : BL Z h d k bs) (gd : n0 ≤ d) (hi : idx ≤ bs.length) (hx' : (decB x.toInt64).length ≤ idx) (hfr : 2 ≤ R.frames) (hlo : W + 78 ≤ R.locals) :
    Back l R p e below s args (⟨"java/lang/Integer", "getChars", "(II[B)I"⟩ : MethodName) 3 W (fun A a => a = #[.int x, .int (Int32.ofNat idx), .ref d] ∧ A.U.heap = h ∧ A.cells + 0 ≤ R.cells ∧ A.slots + 0 ≤ R.slots)
      (fun A _ v B => ∃ L, GCQ Z h n0 d k bs (decB x.toInt64) idx v B.U.heap L ∧ B.locs = A.locs ++ L ∧ B.cells = A.cells + 0 ∧ B.slots = A.slots + 0) := by
  obtain ⟨st, d1, D1, d2, D2, t1, t2, on, te⟩ := TB
  obtain ⟨⟨cl, Ar, q1, Sz, Nn, H, G⟩, hl, Ex⟩ := F
  have eb := ofN_nat (n := bs.length) (by omega)
  have Sz' : cl.slots.size = bs.length := Sz.trans eb
  have K := SBG.GetChars.pays (l := l) (R := R) (p := p) (e := e) (below := below) (s := s) (sargs := args) ⟨x, absL x.toInt64, idx, d, cl, st, d1, D1, d2, D2⟩ W (by show (Cond.and _ (Cond.and _ _)).before _ _ = true; simp only [Cond.before_and, Bool.and_eq_true]; exact ⟨mvT hZ (hw _ (List.mem_of_getElem? (i := 167) rfl)), mvT hZ (hw _ (List.mem_of_getElem? (i := 168) rfl)), mvT hZ (hw _ (List.mem_of_getElem? (i := 257) rfl))⟩) (mvT hZ (hw _ (List.mem_of_getElem? (i := 150) rfl))) hfr hlo
  have lenE : SBG.digits (absL x.toInt64) + SBG.GetChars.sgn x = (decB x.toInt64).length := (decI_len x).symm
  have hat : ∀ i, i < bs.length → cl.slots[i]? = some (.int (bs.getD i 0)) := fun i hi' => by rw [H i (by omega)]; simp [hi']
  intro m meth c A g ig mk a X h1 h2 h3 h4 h5 ⟨ha, hh, hc, hs⟩
  have hU : Z.Warmed39 A.U.vm := wtrans hZ X.warmed
  have lt_of : ∀ {y : Addr} {cy : Cell}, Z.heap[y]? = some cy → d ≠ y := fun {y cy} q => Ne.symm (O.ne (Array.getElem?_eq_some_iff.mp q).1 gd)
  obtain ⟨_, _, _, _, _, _, _, _, _, s5, _, _, s8, _⟩ := id t1
  obtain ⟨_, _, _, _, _, _, _, _, _, _, _, _, u8, _⟩ := id t2
  have P0 : SBG.GetChars.P ⟨x, absL x.toInt64, idx, d, cl, st, d1, D1, d2, D2⟩ a A.U := ⟨ha, by rw [hh]; exact Ar.1, State.isArrayOf_alike hU.alike Ar.2.1, Ar.2.2, by show cl.slots.size < _; omega, by show idx ≤ cl.slots.size; omega, by show SBG.digits (absL x.toInt64) + SBG.GetChars.sgn x ≤ idx; rw [lenE]; exact hx', absI_le x, absI_neg x,
    t1.move hU.alike (fun c q => by rw [hh]; exact O.2.2 _ _ q) (by rw [hh]; exact O.2.2 _ _ s8), t2.move hU.alike (fun c q => by rw [hh]; exact O.2.2 _ _ q) (by rw [hh]; exact O.2.2 _ _ u8), lt_of s5, lt_of s8, lt_of u8⟩
  obtain ⟨v, B, X', ⟨hv, hcell, hcs, hsl, hsz, hkeep, L, hL, hb⟩, stp⟩ := K m meth c A g ig mk a X h1 h2 h3 h4 h5 ⟨ha, hc, hs, P0⟩
  refine ⟨v, B, X', ⟨L, ⟨?_, fun y hy => by rw [hb y hy]; exact gd, ?_⟩, hL, hcs, hsl⟩, stp⟩
  · rw [hv]; show some (Value.int (Int32.ofNat (idx - (SBG.digits (absL x.toInt64) + SBG.GetChars.sgn x)))) = _; rw [lenE]
  · obtain ⟨f1, f2, f3, f4, -⟩ := SBG.GetChars.outCell_facts ⟨x, absL x.toInt64, idx, d, cl, st, d1, D1, d2, D2⟩ (absI_le x) (by show SBG.digits (absL x.toInt64) + SBG.GetChars.sgn x ≤ idx; rw [lenE]; exact hx') (fun i hi' => by
      have e := hat i (by have : i < cl.slots.size := hi'; omega)
      show fits .byte (cl.slots.getD i .null) = true
      have q := G i hi'; rw [← H i hi' |> fun z => SBG.getD_of z] at q; exact q)
    refine gc_end hi hx' hl Ex Ar q1 Sz f1 f2 f3 f4 (fun j hj => ?_) hcell (by rw [hsz, hh]) (fun y cy q r => hkeep y cy q (by rw [hh]; exact r))
    have wE : SBG.wN 5 (absL x.toInt64) = dg (absL x.toInt64) := by rw [SBG.wN_digits (absI_le x), dig_eq (absI_le x)]; rfl
    show (if x < 0 then SBG.put (SBG.digLoop D1 D2 5 cl (absL x.toInt64) idx).1 ((SBG.digLoop D1 D2 5 cl (absL x.toInt64) idx).2 - 1) 45 else (SBG.digLoop D1 D2 5 cl (absL x.toInt64) idx).1).slots[j]? = _
    have hB : dg (absL x.toInt64) + (if x < 0 then 1 else 0) = (decB x.toInt64).length := by rw [← lenE, dig_eq (absI_le x)]; rfl
    have hn : absL x.toInt64 < 100 ^ 5 := by have := absI_le x; omega
    have hpos := hx'
    by_cases hx : x < 0
    · have q := out_slots on te (f := 5) (A := cl) (n := absL x.toInt64) (pos := idx) true hn Sz' hat (by rw [wE]; rw [if_pos hx] at hB; show _ + 1 ≤ _; omega) hi j hj
      rw [if_pos rfl] at q
      rw [if_pos hx, q]; rw [if_pos hx] at hB
      have e : decB x.toInt64 = (if true = true then [45] else []) ++ digs (absL x.toInt64) (SBG.wN 5 (absL x.toInt64)) := by unfold decB; rw [if_pos ((absI_lt x).mpr hx), if_pos rfl, wE]
      rw [show (true.toNat) = 1 from rfl, show SBG.wN 5 (absL x.toInt64) + 1 = (decB x.toInt64).length from by rw [wE]; exact hB, ← e]
    · have q := out_slots on te (f := 5) (A := cl) (n := absL x.toInt64) (pos := idx) false hn Sz' hat (by rw [wE]; rw [if_neg hx] at hB; show _ + 0 ≤ _; omega) hi j hj
      rw [if_neg (by decide)] at q
      rw [if_neg hx, q]; rw [if_neg hx] at hB
      have e : decB x.toInt64 = (if false = true then [45] else []) ++ digs (absL x.toInt64) (SBG.wN 5 (absL x.toInt64)) := by unfold decB; rw [if_neg (fun z => hx ((absI_lt x).mp z)), if_neg (by decide), wE]
      rw [show (false.toNat) = 0 from rfl, show SBG.wN 5 (absL x.toInt64) + 0 = (decB x.toInt64).length from by rw [wE]; exact hB, ← e]
theorem pd0 : parseMethodDescriptor "()B" = some ⟨[], some .byte⟩ := by decide +kernel
theorem pd1 : parseMethodDescriptor "(Ljava/lang/String;)V" = some ⟨[(.object "java/lang/String")], none⟩ := by decide +kernel
theorem pd2 : parseMethodDescriptor "([BIB)V" = some ⟨[(.array .byte), .int, .byte], none⟩ := by decide +kernel
theorem pd3 : parseMethodDescriptor "(II)I" = some ⟨[.int, .int], some .int⟩ := by decide +kernel
theorem pd4 : parseMethodDescriptor "(III)I" = some ⟨[.int, .int, .int], some .int⟩ := by decide +kernel
theorem pd5 : parseMethodDescriptor "(I)I" = some ⟨[.int], some .int⟩ := by decide +kernel
theorem pd6 : parseMethodDescriptor "([BI)[B" = some ⟨[(.array .byte), .int], some (.array .byte)⟩ := by decide +kernel
theorem pd7 : parseMethodDescriptor "()I" = some ⟨[], some .int⟩ := by decide +kernel
theorem pd8 : parseMethodDescriptor "(I)V" = some ⟨[.int], none⟩ := by decide +kernel
theorem pd9 : parseMethodDescriptor "(ILjava/lang/String;)V" = some ⟨[.int, (.object "java/lang/String")], none⟩ := by decide +kernel
theorem pd10 : parseMethodDescriptor "(Ljava/lang/String;)Ljava/lang/AbstractStringBuilder;" = some ⟨[(.object "java/lang/String")], some (.object "java/lang/AbstractStringBuilder")⟩ := by decide +kernel
theorem pd11 : parseMethodDescriptor "(J)I" = some ⟨[.long], some .int⟩ := by decide +kernel
theorem pd12 : parseMethodDescriptor "()Z" = some ⟨[], some .boolean⟩ := by decide +kernel
theorem pd13 : parseMethodDescriptor "(JI[B)I" = some ⟨[.long, .int, (.array .byte)], some .int⟩ := by decide +kernel
theorem pd14 : parseMethodDescriptor "(J)Ljava/lang/AbstractStringBuilder;" = some ⟨[.long], some (.object "java/lang/AbstractStringBuilder")⟩ := by decide +kernel
theorem pd15 : parseMethodDescriptor "(II[B)I" = some ⟨[.int, .int, (.array .byte)], some .int⟩ := by decide +kernel
theorem pd16 : parseMethodDescriptor "(I)Ljava/lang/AbstractStringBuilder;" = some ⟨[.int], some (.object "java/lang/AbstractStringBuilder")⟩ := by decide +kernel
theorem pd17 : parseMethodDescriptor "(II)V" = some ⟨[.int, .int], none⟩ := by decide +kernel
theorem pd18 : parseMethodDescriptor "([BII)[B" = some ⟨[(.array .byte), .int, .int], some (.array .byte)⟩ := by decide +kernel
theorem pd19 : parseMethodDescriptor "()[B" = some ⟨[], some (.array .byte)⟩ := by decide +kernel
theorem pd20 : parseMethodDescriptor "(Ljava/lang/AbstractStringBuilder;Ljava/lang/Void;)V" = some ⟨[(.object "java/lang/AbstractStringBuilder"), (.object "java/lang/Void")], none⟩ := by decide +kernel
theorem pd21 : parseMethodDescriptor "(Ljava/lang/StringBuilder;)V" = some ⟨[(.object "java/lang/StringBuilder")], none⟩ := by decide +kernel
theorem pd22 : parseMethodDescriptor "(IILjava/util/function/BiFunction;)I" = some ⟨[.int, .int, (.object "java/util/function/BiFunction")], some .int⟩ := by decide +kernel
theorem pd23 : parseMethodDescriptor "([BI)C" = some ⟨[(.array .byte), .int], some .char⟩ := by decide +kernel
theorem pd24 : parseMethodDescriptor "(I)J" = some ⟨[.int], some .long⟩ := by decide +kernel
theorem pd25 : parseMethodDescriptor "(J)J" = some ⟨[.long], some .long⟩ := by decide +kernel
theorem pd26 : parseMethodDescriptor "()V" = some ⟨[], none⟩ := by decide +kernel
theorem pd27 : parseMethodDescriptor "(Ljava/lang/String;)Ljava/lang/StringBuilder;" = some ⟨[(.object "java/lang/String")], some (.object "java/lang/StringBuilder")⟩ := by decide +kernel
theorem pd28 : parseMethodDescriptor "(J)Ljava/lang/StringBuilder;" = some ⟨[.long], some (.object "java/lang/StringBuilder")⟩ := by decide +kernel
theorem pd29 : parseMethodDescriptor "(I)Ljava/lang/StringBuilder;" = some ⟨[.int], some (.object "java/lang/StringBuilder")⟩ := by decide +kernel
theorem pd30 : parseMethodDescriptor "()Ljava/lang/String;" = some ⟨[], some (.object "java/lang/String")⟩ := by decide +kernel
theorem pd31 : parseMethodDescriptor "(I)C" = some ⟨[.int], some .char⟩ := by decide +kernel
theorem pd32 : parseMethodDescriptor "(JII)C" = some ⟨[.long, .int, .int], some .char⟩ := by decide +kernel
theorem pd33 : parseMethodDescriptor "(IJJ)V" = some ⟨[.int, .long, .long], none⟩ := by decide +kernel
theorem pd34 : parseMethodDescriptor "(IIJII)C" = some ⟨[.int, .int, .long, .int, .int], some .char⟩ := by decide +kernel
theorem d10_0 : decode jdk_42_method_152_code 0 = .ok (.getstatic 38, 3) := by decide +kernel
theorem d10_3 : decode jdk_42_method_152_code 3 = .ok (.ifCond .eq 10, 3) := by decide +kernel
theorem d10_6 : decode jdk_42_method_152_code 6 = .ok (.aload_n 0, 1) := by decide +kernel
theorem d10_7 : decode jdk_42_method_152_code 7 = .ok (.getfield 15, 3) := by decide +kernel
theorem d10_10 : decode jdk_42_method_152_code 10 = .ok (.goto 4, 3) := by decide +kernel
theorem d10_14 : decode jdk_42_method_152_code 14 = .ok (.ireturn, 1) := by decide +kernel
theorem pn_10 : plainName "java/lang/String" = true := by first | (simp [plainName, overriddenIn]; done) | decide +kernel
theorem ef_10 (m : MethodId) (a1 : Addr) : entryFrame m #[(.ref a1)] 1 = mkF m 0 #[.val (.ref a1)] [] := by first | (simp [entryFrame, mkF, argsToLocals, Value.category]; done) | rfl
def Q10 (Z : State) (a1 : Addr) (cs : Int32) (h0 : Heap) (n0 : Nat) (v : Option Value) (h : Heap) (L : List Loc) : Prop := v = some (.int (0 : Int32)) ∧ Fr n0 L ∧ h = h0
set_option maxRecDepth 65536 in
set_option maxHeartbeats 40000000 in
theorem rm10 (l : Launch) (Z : State) (a0 : Array Value) (hw : ∀ d ∈ tables_1, d.before a0 Z = true) (ws : List Jvm.Cond) (a1 : Addr) (h0 : Heap) (n0 : Nat) (cs : Int32) (CS : Sta Z Z.heap "java/lang/String" "COMPACT_STRINGS" "Z" (.int cs)) (hcs : ¬ cs = 0) (O0 : Old Z n0 h0) (F_a1_c : Fld Z h0 a1 "java/lang/String" "coder" "B" (.int 0)) :
    MetFree l (⟨"java/lang/String", "coder", "()B"⟩ : MethodName) (head1 (Jvm.Cond.code (⟨"java/lang/String", "coder", "()B"⟩ : MethodName) jdk_42_method_152_code 1 (some .byte) :: ws) ({ frames := 0, cells := 0, slots := 0, locals := 0 } : Room)) (fun a U => a = #[(.ref a1)] ∧ Z.Warmed39 U.vm ∧ U.heap = h0) (fun _ _ _ _ _ => True) (fun _ U o U' => ∃ v L, o = .returned v ∧ Q10 Z a1 cs h0 n0 v U'.heap L ∧ FrameEnd U o U' L ({ frames := 0, cells := 0, slots := 0, locals := 0 } : Room).cells ({ frames := 0, cells := 0, slots := 0, locals := 0 } : Room).slots) := by
  refine MetFree.of_bodySF (plainFor_of_name pn_10) hisR ?_
  intro p e s m args below meth c s₁ Bd hml0 hP hK
  obtain ⟨rfl, hZ, hh⟩ := hP
  have hx := Bd.exec
  have hby := Bd.bytes
  have hml : c.maxLocals = 1 := hml0
  have hown0 := findClass_of_methodNamed Bd.named
  have hown : s.vm.findClass "java/lang/String" = some m.cls := hown0
  have hnm := (name_of_methodNamed Bd.named Bd.method).1
  have X0 : Stand p l e ({ frames := 0, cells := 0, slots := 0, locals := 0 } : Room) s m #[(.ref a1)] below meth c s₁ [] 0 0 := Stand.of_body Bd
  have e0 : s₁.heap = h0 := by rw [← hh, Bd.state]; rfl
  have N0 := Fr.nil n0
  have pre0 : ∀ t, Steps p.tables e below (s₁.setTop (mkF m 0 #[.val (.ref a1)] [])) t → Steps p.tables e below (s₁.setTop (entryFrame m #[(.ref a1)] 1)) t := fun t k => castTop (ef_10 m a1) k
  refine Classical.byContradiction fun hneg => ?_
  obtain ⟨T1, X1, e1, st1⟩ := getS2 X0 hx hZ hown (host := "") (Or.inl (hw _ (List.mem_of_getElem? (i := 72) rfl))) Via.refl e0 (CS.ext O0.2) (g := (mkF m 0 #[.val (.ref a1)] [])) rfl (hb hby d10_0)
  obtain ⟨T2, X2, e2, st2⟩ := getF X1 hx hZ hown (host := "") (Or.inl (hw _ (List.mem_of_getElem? (i := 73) rfl))) Via.refl e1 F_a1_c (g := (mkF m 7 #[.val (.ref a1)] [(.ref a1)])) rfl rfl (hb hby d10_7)
  refine hneg ?_
  obtain ⟨fs, hr, hrun, hended, hW, hsame⟩ := X2.leave (v := some (.int (0 : Int32))) (fun h => by rw [Bd.returns] at h; cases h)
  refine ⟨_, _, pre0 _ ?_, hrun, hended, _, _, rfl, ?_, ⟨_, rfl⟩, hW, hsame.mono (by decide) (by decide)⟩
  · show Steps p.tables e below (s₁.setTop (mkF m 0 #[.val (.ref a1)] [])) _
    refine st1 _ ?_
    show Steps p.tables e below (T1.setTop (mkF m 3 #[.val (.ref a1)] [(.int cs)])) _
    refine XS.ifNo X1.here hx rfl (hb hby d10_3) rfl ((if0 _ _).trans (feq hcs).1) ?_
    show Steps p.tables e below (T1.setTop (mkF m 6 #[.val (.ref a1)] [])) _
    refine XS.aloadN X1.here hx rfl (hb hby d10_6) rfl rfl ?_
    show Steps p.tables e below (T1.setTop (mkF m 7 #[.val (.ref a1)] [(.ref a1)])) _
    refine st2 _ ?_
    show Steps p.tables e below (T2.setTop (mkF m 10 #[.val (.ref a1)] [(.int (0 : Int32))])) _
    refine XS.goto X2.here hx rfl (pc0 := 10) (pc' := 14) rfl (hb hby d10_10) (by decide) (by decide) ?_
    show Steps p.tables e below (T2.setTop (mkF m 14 #[.val (.ref a1)] [(.int (0 : Int32))])) _
    exact retN X2 hx (t := .byte) Bd.returns (by simp) (hb hby d10_14) hr
  · show Q10 Z a1 cs h0 n0 _ T2.heap _
    rw [e2]
    exact ⟨rfl, N0, rfl⟩

theorem d9_0 : decode jdk_42_method_54_code 0 = .ok (.aload_n 0, 1) := by decide +kernel
theorem d9_1 : decode jdk_42_method_54_code 1 = .ok (.getfield 9, 3) := by decide +kernel
theorem d9_4 : decode jdk_42_method_54_code 4 = .ok (.arraylength, 1) := by decide +kernel
theorem d9_5 : decode jdk_42_method_54_code 5 = .ok (.aload_n 0, 1) := by decide +kernel
theorem d9_6 : decode jdk_42_method_54_code 6 = .ok (.invokevirtual 335, 3) := by decide +kernel
theorem d9_9 : decode jdk_42_method_54_code 9 = .ok (.ishr, 1) := by decide +kernel
theorem d9_10 : decode jdk_42_method_54_code 10 = .ok (.ireturn, 1) := by decide +kernel
theorem pn_9 : plainName "java/lang/String" = true := by first | (simp [plainName, overriddenIn]; done) | decide +kernel
theorem ef_9 (m : MethodId) (a1 : Addr) : entryFrame m #[(.ref a1)] 1 = mkF m 0 #[.val (.ref a1)] [] := by first | (simp [entryFrame, mkF, argsToLocals, Value.category]; done) | rfl
def Q9 (Z : State) (a1 : Addr) (cs : Int32) (sd : Addr) (sk : ClassId) (src : List Int32) (h0 : Heap) (n0 : Nat) (v : Option Value) (h : Heap) (L : List Loc) : Prop := v = some (.int (Int32.ofNat src.length)) ∧ Fr n0 L ∧ h = h0
set_option maxRecDepth 65536 in
set_option maxHeartbeats 40000000 in
theorem rm9 (l : Launch) (Z : State) (a0 : Array Value) (hw : ∀ d ∈ tables_1, d.before a0 Z = true) (ws : List Jvm.Cond) (a1 : Addr) (h0 : Heap) (n0 : Nat) (cs : Int32) (sd : Addr) (sk : ClassId) (src : List Int32) (CS : Sta Z Z.heap "java/lang/String" "COMPACT_STRINGS" "Z" (.int cs)) (hcs : ¬ cs = 0) (O0 : Old Z n0 h0) (E_a1 : Exa Z h0 a1 "java/lang/String") (F_a1_c : Fld Z h0 a1 "java/lang/String" "coder" "B" (.int 0)) (F_a1_v : Fld Z h0 a1 "java/lang/String" "value" "[B" (.ref sd)) (V_sd : B0 Z h0 sd sk src) :
    MetFree l (⟨"java/lang/String", "length", "()I"⟩ : MethodName) (head1 (Jvm.Cond.code (⟨"java/lang/String", "length", "()I"⟩ : MethodName) jdk_42_method_54_code 1 (some .int) :: ws) ({ frames := 1, cells := 0, slots := 0, locals := 13 } : Room)) (fun a U => a = #[(.ref a1)] ∧ Z.Warmed39 U.vm ∧ U.heap = h0) (fun _ _ _ _ _ => True) (fun _ U o U' => ∃ v L, o = .returned v ∧ Q9 Z a1 cs sd sk src h0 n0 v U'.heap L ∧ FrameEnd U o U' L ({ frames := 1, cells := 0, slots := 0, locals := 13 } : Room).cells ({ frames := 1, cells := 0, slots := 0, locals := 13 } : Room).slots) := by
  refine MetFree.of_bodySF (plainFor_of_name pn_9) hisR ?_
  intro p e s m args below meth c s₁ Bd hml0 hP hK
  obtain ⟨rfl, hZ, hh⟩ := hP
  have hx := Bd.exec
  have hby := Bd.bytes
  have hml : c.maxLocals = 1 := hml0
  have hown0 := findClass_of_methodNamed Bd.named
  have hown : s.vm.findClass "java/lang/String" = some m.cls := hown0
  have hnm := (name_of_methodNamed Bd.named Bd.method).1
  have X0 : Stand p l e ({ frames := 1, cells := 0, slots := 0, locals := 13 } : Room) s m #[(.ref a1)] below meth c s₁ [] 0 0 := Stand.of_body Bd
  have e0 : s₁.heap = h0 := by rw [← hh, Bd.state]; rfl
  have N0 := Fr.nil n0
  have pre0 : ∀ t, Steps p.tables e below (s₁.setTop (mkF m 0 #[.val (.ref a1)] [])) t → Steps p.tables e below (s₁.setTop (entryFrame m #[(.ref a1)] 1)) t := fun t k => castTop (ef_9 m a1) k
  refine Classical.byContradiction fun hneg => ?_
  obtain ⟨T1, X1, e1, st1⟩ := getF X0 hx hZ hown (host := "") (Or.inl (hw _ (List.mem_of_getElem? (i := 66) rfl))) Via.refl e0 F_a1_v (g := (mkF m 1 #[.val (.ref a1)] [(.ref a1)])) rfl rfl (hb hby d9_1)
  obtain ⟨cl2, Ar2, q2, S2_, N2_, H2_, G2_⟩ := V_sd.1
  obtain ⟨cq3, kq3, q3a, q3b, q3c⟩ := isOf hZ e1 E_a1
  obtain ⟨_, _, ⟨T3, L3, k3, n3⟩, -, X3, ⟨Lc3, hQ3, l3, y3, z3⟩, st3⟩ := X1.virtualBack hx (y := (⟨"java/lang/String", "coder", "()B"⟩ : MethodName)) (z := (⟨"java/lang/String", "coder", "()B"⟩ : MethodName)) hown (mvT hZ (hw _ (List.mem_of_getElem? (i := 67) rfl))) (mvT hZ (hw _ (List.mem_of_getElem? (i := 68) rfl))) (notFace_of_selects (args := #[]) (mvT hZ (hw _ (List.mem_of_getElem? (i := 70) rfl)))) (mvT hZ (hw _ (List.mem_of_getElem? (i := 70) rfl))) (mvT hZ (hw _ (List.mem_of_getElem? (i := 69) rfl))) (by decide) (backOf (W := 1) (rm10 l Z a0 hw [] a1  h0 n0 cs CS hcs O0 F_a1_c) hZ (hw _ (List.mem_of_getElem? (i := 71) rfl)) (hw _ (List.mem_of_getElem? (i := 39) rfl)) (by decide) (by decide)) q3a q3c (g := (mkF m 6 #[.val (.ref a1)] [(.ref a1), (.int (Int32.ofNat src.length))])) rfl (by rw [hml]; rfl) (Steps.refl _) (argsL := []) (rest := [(.int (Int32.ofNat src.length))]) (lenOf pd0 rfl) rfl (by show 2 * 0 + _ ≤ _; exact Nat.le_of_eq rfl) (hb hby d9_6) (fun _ _ => ⟨rfl, e1, (by decide : 0 + 0 ≤ _), (by decide : 0 + 0 ≤ _)⟩)
  dsimp only [Pt.U, Pt.locs, Pt.cells, Pt.slots] at X3 l3 y3 z3 st3 hQ3
  subst l3 y3 z3
  obtain ⟨rfl, N3q, e3⟩ := hQ3
  have N3 := Fr.app N0 N3q
  refine hneg ?_
  obtain ⟨fs, hr, hrun, hended, hW, hsame⟩ := X3.leave (v := some (.int ((Int32.ofNat src.length) >>> ((0 : Int32) &&& 31)))) (fun h => by rw [Bd.returns] at h; cases h)
  refine ⟨_, _, pre0 _ ?_, hrun, hended, _, _, rfl, ?_, ⟨_, rfl⟩, hW, hsame.mono (by decide) (by decide)⟩
  · show Steps p.tables e below (s₁.setTop (mkF m 0 #[.val (.ref a1)] [])) _
    refine XS.aloadN X0.here hx rfl (hb hby d9_0) rfl rfl ?_
    show Steps p.tables e below (s₁.setTop (mkF m 1 #[.val (.ref a1)] [(.ref a1)])) _
    refine st1 _ ?_
    show Steps p.tables e below (T1.setTop (mkF m 4 #[.val (.ref a1)] [(.ref sd)])) _
    refine X1.arraylength hx (by rw [e1]; exact Ar2.1) (State.isArrayOf_alike hZ.alike Ar2.2.1) (g := (mkF m 4 #[.val (.ref a1)] [(.ref sd)])) rfl rfl (hb hby d9_4) _ ?_
    rw [len_of S2_ N2_]
    show Steps p.tables e below (T1.setTop (mkF m 5 #[.val (.ref a1)] [(.int (Int32.ofNat src.length))])) _
    refine XS.aloadN X1.here hx rfl (hb hby d9_5) rfl rfl ?_
    show Steps p.tables e below (T1.setTop (mkF m 6 #[.val (.ref a1)] [(.ref a1), (.int (Int32.ofNat src.length))])) _
    refine st3.trans ?_
    show Steps p.tables e below (T3.setTop (mkF m 9 #[.val (.ref a1)] [(.int (0 : Int32)), (.int (Int32.ofNat src.length))])) _
    refine XS.ishr X3.here hx rfl (hb hby d9_9) rfl ?_
    show Steps p.tables e below (T3.setTop (mkF m 10 #[.val (.ref a1)] [(.int ((Int32.ofNat src.length) >>> ((0 : Int32) &&& 31)))])) _
    exact retI X3 hx Bd.returns (hb hby d9_10) hr
  · show Q9 Z a1 cs sd sk src h0 n0 _ T3.heap _
    rw [e3]
    exact ⟨by rw [show ((Int32.ofNat src.length) >>> ((0 : Int32) &&& 31)) = (Int32.ofNat src.length) from shr0 _], N3, rfl⟩

theorem d20_0 : decode jdk_29_method_65_code 0 = .ok (.iload_n 0, 1) := by decide +kernel
theorem d20_1 : decode jdk_29_method_65_code 1 = .ok (.iload_n 1, 1) := by decide +kernel
theorem d20_2 : decode jdk_29_method_65_code 2 = .ok (.if_icmp .lt 7, 3) := by decide +kernel
theorem d20_5 : decode jdk_29_method_65_code 5 = .ok (.iload_n 0, 1) := by decide +kernel
theorem d20_6 : decode jdk_29_method_65_code 6 = .ok (.goto 4, 3) := by decide +kernel
theorem d20_9 : decode jdk_29_method_65_code 9 = .ok (.iload_n 1, 1) := by decide +kernel
theorem d20_10 : decode jdk_29_method_65_code 10 = .ok (.ireturn, 1) := by decide +kernel
theorem ef_20 (m : MethodId) (p1 : Int32) (p2 : Int32) : entryFrame m #[(.int p1), (.int p2)] 2 = mkF m 0 #[.val (.int p1), .val (.int p2)] [] := by first | (simp [entryFrame, mkF, argsToLocals, Value.category]; done) | rfl
def f20 (p1 : Int32) (p2 : Int32) : Int32 := (if p1 < p2 then p2 else p1)
def Q20 (Z : State) (p1 : Int32) (p2 : Int32) (h0 : Heap) (n0 : Nat) (v : Option Value) (h : Heap) (L : List Loc) : Prop := v = some (.int (f20 p1 p2)) ∧ Fr n0 L ∧ h = h0
set_option maxRecDepth 65536 in
set_option maxHeartbeats 40000000 in
theorem rm20 (l : Launch) (Z : State) (a0 : Array Value) (hw : ∀ d ∈ tables_1, d.before a0 Z = true) (ws : List Jvm.Cond) (p1 : Int32) (p2 : Int32) (h0 : Heap) (n0 : Nat)  :
    MetFree l (⟨"java/lang/Math", "max", "(II)I"⟩ : MethodName) (head1 (Jvm.Cond.code (⟨"java/lang/Math", "max", "(II)I"⟩ : MethodName) jdk_29_method_65_code 2 (some .int) :: ws) ({ frames := 0, cells := 0, slots := 0, locals := 0 } : Room)) (fun a U => a = #[(.int p1), (.int p2)] ∧ Z.Warmed39 U.vm ∧ U.heap = h0) (fun _ _ _ _ _ => True) (fun _ U o U' => ∃ v L, o = .returned v ∧ Q20 Z p1 p2 h0 n0 v U'.heap L ∧ FrameEnd U o U' L ({ frames := 0, cells := 0, slots := 0, locals := 0 } : Room).cells ({ frames := 0, cells := 0, slots := 0, locals := 0 } : Room).slots) := by
  refine MetFree.of_bodySF (Jvm.Free.JP.mathPlain rfl (by decide +kernel)) hisR ?_
  intro p e s m args below meth c s₁ Bd hml0 hP hK
  obtain ⟨rfl, hZ, hh⟩ := hP
  have hx := Bd.exec
  have hby := Bd.bytes
  have hml : c.maxLocals = 2 := hml0
  have hown0 := findClass_of_methodNamed Bd.named
  have hown : s.vm.findClass "java/lang/Math" = some m.cls := hown0
  have hnm := (name_of_methodNamed Bd.named Bd.method).1
  have X0 : Stand p l e ({ frames := 0, cells := 0, slots := 0, locals := 0 } : Room) s m #[(.int p1), (.int p2)] below meth c s₁ [] 0 0 := Stand.of_body Bd
  have e0 : s₁.heap = h0 := by rw [← hh, Bd.state]; rfl
  have N0 := Fr.nil n0
  have pre0 : ∀ t, Steps p.tables e below (s₁.setTop (mkF m 0 #[.val (.int p1), .val (.int p2)] [])) t → Steps p.tables e below (s₁.setTop (entryFrame m #[(.int p1), (.int p2)] 2)) t := fun t k => castTop (ef_20 m p1 p2) k
  refine Classical.byContradiction fun hneg => ?_
  have pre1 : ∀ t, Steps p.tables e below (s₁.setTop (mkF m 2 #[.val (.int p1), .val (.int p2)] [(.int p2), (.int p1)])) t → Steps p.tables e below (s₁.setTop (entryFrame m #[(.int p1), (.int p2)] 2)) t := by
    intro t k
    refine pre0 t ?_
    show Steps p.tables e below (s₁.setTop (mkF m 0 #[.val (.int p1), .val (.int p2)] [])) _
    refine XS.iloadN X0.here hx rfl (hb hby d20_0) rfl ?_
    show Steps p.tables e below (s₁.setTop (mkF m 1 #[.val (.int p1), .val (.int p2)] [(.int p1)])) _
    refine XS.iloadN X0.here hx rfl (hb hby d20_1) rfl ?_
    exact k
  by_cases hc2_2 : p1 < p2
  · refine hneg ?_
    obtain ⟨fs, hr, hrun, hended, hW, hsame⟩ := X0.leave (v := some (.int p2)) (fun h => by rw [Bd.returns] at h; cases h)
    refine ⟨_, _, pre1 _ ?_, hrun, hended, _, _, rfl, ?_, ⟨_, rfl⟩, hW, hsame.mono (by decide) (by decide)⟩
    · show Steps p.tables e below (s₁.setTop (mkF m 2 #[.val (.int p1), .val (.int p2)] [(.int p2), (.int p1)])) _
      refine XS.icmpYes X0.here hx rfl (pc0 := 2) (pc' := 9) rfl (hb hby d20_2) rfl (tlt hc2_2).1 (by decide) (by decide) ?_
      show Steps p.tables e below (s₁.setTop (mkF m 9 #[.val (.int p1), .val (.int p2)] [])) _
      refine XS.iloadN X0.here hx rfl (hb hby d20_9) rfl ?_
      show Steps p.tables e below (s₁.setTop (mkF m 10 #[.val (.int p1), .val (.int p2)] [(.int p2)])) _
      exact retI X0 hx Bd.returns (hb hby d20_10) hr
    · show Q20 Z p1 p2 h0 n0 _ s₁.heap _
      rw [e0]
      refine ⟨?_, N0, rfl⟩
      rw [show f20 p1 p2 = p2 from (by skip; simp only [f20, if_pos hc2_2])]
  · refine hneg ?_
    obtain ⟨fs, hr, hrun, hended, hW, hsame⟩ := X0.leave (v := some (.int p1)) (fun h => by rw [Bd.returns] at h; cases h)
    refine ⟨_, _, pre1 _ ?_, hrun, hended, _, _, rfl, ?_, ⟨_, rfl⟩, hW, hsame.mono (by decide) (by decide)⟩
    · show Steps p.tables e below (s₁.setTop (mkF m 2 #[.val (.int p1), .val (.int p2)] [(.int p2), (.int p1)])) _
      refine XS.icmpNo X0.here hx rfl (hb hby d20_2) rfl (flt hc2_2).1 ?_
      show Steps p.tables e below (s₁.setTop (mkF m 5 #[.val (.int p1), .val (.int p2)] [])) _
      refine XS.iloadN X0.here hx rfl (hb hby d20_5) rfl ?_
      show Steps p.tables e below (s₁.setTop (mkF m 6 #[.val (.int p1), .val (.int p2)] [(.int p1)])) _
      refine XS.goto X0.here hx rfl (pc0 := 6) (pc' := 10) rfl (hb hby d20_6) (by decide) (by decide) ?_
      show Steps p.tables e below (s₁.setTop (mkF m 10 #[.val (.int p1), .val (.int p2)] [(.int p1)])) _
      exact retI X0 hx Bd.returns (hb hby d20_10) hr
    · show Q20 Z p1 p2 h0 n0 _ s₁.heap _
      rw [e0]
      refine ⟨?_, N0, rfl⟩
      rw [show f20 p1 p2 = p1 from (by skip; simp only [f20, if_neg hc2_2])]

theorem d22_0 : decode jdk_29_method_69_code 0 = .ok (.iload_n 0, 1) := by decide +kernel
theorem d22_1 : decode jdk_29_method_69_code 1 = .ok (.iload_n 1, 1) := by decide +kernel
theorem d22_2 : decode jdk_29_method_69_code 2 = .ok (.if_icmp .gt 7, 3) := by decide +kernel
theorem d22_5 : decode jdk_29_method_69_code 5 = .ok (.iload_n 0, 1) := by decide +kernel
theorem d22_6 : decode jdk_29_method_69_code 6 = .ok (.goto 4, 3) := by decide +kernel
theorem d22_9 : decode jdk_29_method_69_code 9 = .ok (.iload_n 1, 1) := by decide +kernel
theorem d22_10 : decode jdk_29_method_69_code 10 = .ok (.ireturn, 1) := by decide +kernel
theorem ef_22 (m : MethodId) (p1 : Int32) (p2 : Int32) : entryFrame m #[(.int p1), (.int p2)] 2 = mkF m 0 #[.val (.int p1), .val (.int p2)] [] := by first | (simp [entryFrame, mkF, argsToLocals, Value.category]; done) | rfl
def f22 (p1 : Int32) (p2 : Int32) : Int32 := (if p2 < p1 then p2 else p1)
def Q22 (Z : State) (p1 : Int32) (p2 : Int32) (h0 : Heap) (n0 : Nat) (v : Option Value) (h : Heap) (L : List Loc) : Prop := v = some (.int (f22 p1 p2)) ∧ Fr n0 L ∧ h = h0
set_option maxRecDepth 65536 in
set_option maxHeartbeats 40000000 in
theorem rm22 (l : Launch) (Z : State) (a0 : Array Value) (hw : ∀ d ∈ tables_1, d.before a0 Z = true) (ws : List Jvm.Cond) (p1 : Int32) (p2 : Int32) (h0 : Heap) (n0 : Nat)  :
    MetFree l (⟨"java/lang/Math", "min", "(II)I"⟩ : MethodName) (head1 (Jvm.Cond.code (⟨"java/lang/Math", "min", "(II)I"⟩ : MethodName) jdk_29_method_69_code 2 (some .int) :: ws) ({ frames := 0, cells := 0, slots := 0, locals := 0 } : Room)) (fun a U => a = #[(.int p1), (.int p2)] ∧ Z.Warmed39 U.vm ∧ U.heap = h0) (fun _ _ _ _ _ => True) (fun _ U o U' => ∃ v L, o = .returned v ∧ Q22 Z p1 p2 h0 n0 v U'.heap L ∧ FrameEnd U o U' L ({ frames := 0, cells := 0, slots := 0, locals := 0 } : Room).cells ({ frames := 0, cells := 0, slots := 0, locals := 0 } : Room).slots) := by
  refine MetFree.of_bodySF (Jvm.Free.JP.mathPlain rfl (by decide +kernel)) hisR ?_
  intro p e s m args below meth c s₁ Bd hml0 hP hK
  obtain ⟨rfl, hZ, hh⟩ := hP
  have hx := Bd.exec
  have hby := Bd.bytes
  have hml : c.maxLocals = 2 := hml0
  have hown0 := findClass_of_methodNamed Bd.named
  have hown : s.vm.findClass "java/lang/Math" = some m.cls := hown0
  have hnm := (name_of_methodNamed Bd.named Bd.method).1
  have X0 : Stand p l e ({ frames := 0, cells := 0, slots := 0, locals := 0 } : Room) s m #[(.int p1), (.int p2)] below meth c s₁ [] 0 0 := Stand.of_body Bd
  have e0 : s₁.heap = h0 := by rw [← hh, Bd.state]; rfl
  have N0 := Fr.nil n0
  have pre0 : ∀ t, Steps p.tables e below (s₁.setTop (mkF m 0 #[.val (.int p1), .val (.int p2)] [])) t → Steps p.tables e below (s₁.setTop (entryFrame m #[(.int p1), (.int p2)] 2)) t := fun t k => castTop (ef_22 m p1 p2) k
  refine Classical.byContradiction fun hneg => ?_
  have pre1 : ∀ t, Steps p.tables e below (s₁.setTop (mkF m 2 #[.val (.int p1), .val (.int p2)] [(.int p2), (.int p1)])) t → Steps p.tables e below (s₁.setTop (entryFrame m #[(.int p1), (.int p2)] 2)) t := by
    intro t k
    refine pre0 t ?_
    show Steps p.tables e below (s₁.setTop (mkF m 0 #[.val (.int p1), .val (.int p2)] [])) _
    refine XS.iloadN X0.here hx rfl (hb hby d22_0) rfl ?_
    show Steps p.tables e below (s₁.setTop (mkF m 1 #[.val (.int p1), .val (.int p2)] [(.int p1)])) _
    refine XS.iloadN X0.here hx rfl (hb hby d22_1) rfl ?_
    exact k
  by_cases hc2_2 : p2 < p1
  · refine hneg ?_
    obtain ⟨fs, hr, hrun, hended, hW, hsame⟩ := X0.leave (v := some (.int p2)) (fun h => by rw [Bd.returns] at h; cases h)
    refine ⟨_, _, pre1 _ ?_, hrun, hended, _, _, rfl, ?_, ⟨_, rfl⟩, hW, hsame.mono (by decide) (by decide)⟩
    · show Steps p.tables e below (s₁.setTop (mkF m 2 #[.val (.int p1), .val (.int p2)] [(.int p2), (.int p1)])) _
      refine XS.icmpYes X0.here hx rfl (pc0 := 2) (pc' := 9) rfl (hb hby d22_2) rfl (tlt hc2_2).2.2.1 (by decide) (by decide) ?_
      show Steps p.tables e below (s₁.setTop (mkF m 9 #[.val (.int p1), .val (.int p2)] [])) _
      refine XS.iloadN X0.here hx rfl (hb hby d22_9) rfl ?_
      show Steps p.tables e below (s₁.setTop (mkF m 10 #[.val (.int p1), .val (.int p2)] [(.int p2)])) _
      exact retI X0 hx Bd.returns (hb hby d22_10) hr
    · show Q22 Z p1 p2 h0 n0 _ s₁.heap _
      rw [e0]
      refine ⟨?_, N0, rfl⟩
      rw [show f22 p1 p2 = p2 from (by skip; simp only [f22, if_pos hc2_2])]
  · refine hneg ?_
    obtain ⟨fs, hr, hrun, hended, hW, hsame⟩ := X0.leave (v := some (.int p1)) (fun h => by rw [Bd.returns] at h; cases h)
    refine ⟨_, _, pre1 _ ?_, hrun, hended, _, _, rfl, ?_, ⟨_, rfl⟩, hW, hsame.mono (by decide) (by decide)⟩
    · show Steps p.tables e below (s₁.setTop (mkF m 2 #[.val (.int p1), .val (.int p2)] [(.int p2), (.int p1)])) _
      refine XS.icmpNo X0.here hx rfl (hb hby d22_2) rfl (flt hc2_2).2.2.1 ?_
      show Steps p.tables e below (s₁.setTop (mkF m 5 #[.val (.int p1), .val (.int p2)] [])) _
      refine XS.iloadN X0.here hx rfl (hb hby d22_5) rfl ?_
      show Steps p.tables e below (s₁.setTop (mkF m 6 #[.val (.int p1), .val (.int p2)] [(.int p1)])) _
      refine XS.goto X0.here hx rfl (pc0 := 6) (pc' := 10) rfl (hb hby d22_6) (by decide) (by decide) ?_
      show Steps p.tables e below (s₁.setTop (mkF m 10 #[.val (.int p1), .val (.int p2)] [(.int p1)])) _
      exact retI X0 hx Bd.returns (hb hby d22_10) hr
    · show Q22 Z p1 p2 h0 n0 _ s₁.heap _
      rw [e0]
      refine ⟨?_, N0, rfl⟩
      rw [show f22 p1 p2 = p1 from (by skip; simp only [f22, if_neg hc2_2])]

theorem f20_of {a b : Nat} (qa : a ≤ 1000000) (qb : b ≤ 1000000) : f20 (Int32.ofNat a) (Int32.ofNat b) = Int32.ofNat (max a b) := by
  unfold f20; split
  · rename_i h; rw [ofN_lt qa qb] at h; congr 1; omega
  · rename_i h; rw [ofN_lt qa qb] at h; congr 1; omega
theorem f22_of {a b : Nat} (qa : a ≤ 1000000) (qb : b ≤ 1000000) : f22 (Int32.ofNat a) (Int32.ofNat b) = Int32.ofNat (min a b) := by
  unfold f22; split
  · rename_i h; rw [ofN_lt qb qa] at h; congr 1; omega
  · rename_i h; rw [ofN_lt qb qa] at h; congr 1; omega

theorem d13_0 : decode jdk_68_method_71_code 0 = .ok (.getstatic 18, 3) := by decide +kernel
theorem d13_3 : decode jdk_68_method_71_code 3 = .ok (.ifCond .eq 18, 3) := by decide +kernel
theorem d13_6 : decode jdk_68_method_71_code 6 = .ok (.aload_n 0, 1) := by decide +kernel
theorem d13_7 : decode jdk_68_method_71_code 7 = .ok (.getfield 22, 3) := by decide +kernel
theorem d13_10 : decode jdk_68_method_71_code 10 = .ok (.aload_n 1, 1) := by decide +kernel
theorem d13_11 : decode jdk_68_method_71_code 11 = .ok (.invokevirtual 40, 3) := by decide +kernel
theorem d13_14 : decode jdk_68_method_71_code 14 = .ok (.if_icmp .eq 7, 3) := by decide +kernel
theorem d13_21 : decode jdk_68_method_71_code 21 = .ok (.return_, 1) := by decide +kernel
theorem pn_13 : plainName "java/lang/AbstractStringBuilder" = true := by first | (simp [plainName, overriddenIn]; done) | decide +kernel
theorem ef_13 (m : MethodId) (a1 : Addr) (a2 : Addr) : entryFrame m #[(.ref a1), (.ref a2)] 2 = mkF m 0 #[.val (.ref a1), .val (.ref a2)] [] := by first | (simp [entryFrame, mkF, argsToLocals, Value.category]; done) | rfl
def Q13 (Z : State) (a1 : Addr) (a2 : Addr) (cs : Int32) (h0 : Heap) (n0 : Nat) (v : Option Value) (h : Heap) (L : List Loc) : Prop := v = none ∧ Fr n0 L ∧ h = h0
set_option maxRecDepth 65536 in
set_option maxHeartbeats 40000000 in
theorem rm13 (l : Launch) (Z : State) (a0 : Array Value) (hw : ∀ d ∈ tables_1, d.before a0 Z = true) (ws : List Jvm.Cond) (a1 : Addr) (a2 : Addr) (h0 : Heap) (n0 : Nat) (cs : Int32) (CS : Sta Z Z.heap "java/lang/String" "COMPACT_STRINGS" "Z" (.int cs)) (hcs : ¬ cs = 0) (O0 : Old Z n0 h0) (F_a1_c : Fld Z h0 a1 "java/lang/AbstractStringBuilder" "coder" "B" (.int 0)) (E_a2 : Exa Z h0 a2 "java/lang/String") (F_a2_c : Fld Z h0 a2 "java/lang/String" "coder" "B" (.int 0)) :
    MetFree l (⟨"java/lang/AbstractStringBuilder", "inflateIfNeededFor", "(Ljava/lang/String;)V"⟩ : MethodName) (head1 (Jvm.Cond.code (⟨"java/lang/AbstractStringBuilder", "inflateIfNeededFor", "(Ljava/lang/String;)V"⟩ : MethodName) jdk_68_method_71_code 2 none :: ws) ({ frames := 1, cells := 0, slots := 0, locals := 13 } : Room)) (fun a U => a = #[(.ref a1), (.ref a2)] ∧ Z.Warmed39 U.vm ∧ U.heap = h0) (fun _ _ _ _ _ => True) (fun _ U o U' => ∃ v L, o = .returned v ∧ Q13 Z a1 a2 cs h0 n0 v U'.heap L ∧ FrameEnd U o U' L ({ frames := 1, cells := 0, slots := 0, locals := 13 } : Room).cells ({ frames := 1, cells := 0, slots := 0, locals := 13 } : Room).slots) := by
  refine MetFree.of_bodySF (plainFor_of_name pn_13) hisR ?_
  intro p e s m args below meth c s₁ Bd hml0 hP hK
  obtain ⟨rfl, hZ, hh⟩ := hP
  have hx := Bd.exec
  have hby := Bd.bytes
  have hml : c.maxLocals = 2 := hml0
  have hown0 := findClass_of_methodNamed Bd.named
  have hown : s.vm.findClass "java/lang/AbstractStringBuilder" = some m.cls := hown0
  have hnm := (name_of_methodNamed Bd.named Bd.method).1
  have X0 : Stand p l e ({ frames := 1, cells := 0, slots := 0, locals := 13 } : Room) s m #[(.ref a1), (.ref a2)] below meth c s₁ [] 0 0 := Stand.of_body Bd
  have e0 : s₁.heap = h0 := by rw [← hh, Bd.state]; rfl
  have N0 := Fr.nil n0
  have pre0 : ∀ t, Steps p.tables e below (s₁.setTop (mkF m 0 #[.val (.ref a1), .val (.ref a2)] [])) t → Steps p.tables e below (s₁.setTop (entryFrame m #[(.ref a1), (.ref a2)] 2)) t := fun t k => castTop (ef_13 m a1 a2) k
  refine Classical.byContradiction fun hneg => ?_
  obtain ⟨T1, X1, e1, st1⟩ := getS2 X0 hx hZ hown (host := "") (Or.inl (hw _ (List.mem_of_getElem? (i := 38) rfl))) Via.refl e0 (CS.ext O0.2) (g := (mkF m 0 #[.val (.ref a1), .val (.ref a2)] [])) rfl (hb hby d13_0)
  obtain ⟨T2, X2, e2, st2⟩ := getF X1 hx hZ hown (host := "") (Or.inl (hw _ (List.mem_of_getElem? (i := 43) rfl))) Via.refl e1 F_a1_c (g := (mkF m 7 #[.val (.ref a1), .val (.ref a2)] [(.ref a1)])) rfl rfl (hb hby d13_7)
  obtain ⟨cq3, kq3, q3a, q3b, q3c⟩ := isOf hZ e2 E_a2
  obtain ⟨_, _, ⟨T3, L3, k3, n3⟩, -, X3, ⟨Lc3, hQ3, l3, y3, z3⟩, st3⟩ := X2.virtualBack hx (y := (⟨"java/lang/String", "coder", "()B"⟩ : MethodName)) (z := (⟨"java/lang/String", "coder", "()B"⟩ : MethodName)) hown (mvT hZ (hw _ (List.mem_of_getElem? (i := 91) rfl))) (mvT hZ (hw _ (List.mem_of_getElem? (i := 68) rfl))) (notFace_of_selects (args := #[]) (mvT hZ (hw _ (List.mem_of_getElem? (i := 70) rfl)))) (mvT hZ (hw _ (List.mem_of_getElem? (i := 70) rfl))) (mvT hZ (hw _ (List.mem_of_getElem? (i := 69) rfl))) (by decide) (backOf (W := 1) (rm10 l Z a0 hw [] a2  h0 n0 cs CS hcs O0 F_a2_c) hZ (hw _ (List.mem_of_getElem? (i := 71) rfl)) (hw _ (List.mem_of_getElem? (i := 39) rfl)) (by decide) (by decide)) q3a q3c (g := (mkF m 11 #[.val (.ref a1), .val (.ref a2)] [(.ref a2), (.int (0 : Int32))])) rfl (by rw [hml]; rfl) (Steps.refl _) (argsL := []) (rest := [(.int (0 : Int32))]) (lenOf pd0 rfl) rfl (by show 2 * 0 + _ ≤ _; exact Nat.le_of_eq rfl) (hb hby d13_11) (fun _ _ => ⟨rfl, e2, (by decide : 0 + 0 ≤ _), (by decide : 0 + 0 ≤ _)⟩)
  dsimp only [Pt.U, Pt.locs, Pt.cells, Pt.slots] at X3 l3 y3 z3 st3 hQ3
  subst l3 y3 z3
  obtain ⟨rfl, N3q, e3⟩ := hQ3
  have N3 := Fr.app N0 N3q
  refine hneg ?_
  obtain ⟨fs, hr, hrun, hended, hW, hsame⟩ := X3.leave (v := none) (fun _ => rfl)
  refine ⟨_, _, pre0 _ ?_, hrun, hended, _, _, rfl, ?_, ⟨_, rfl⟩, hW, hsame.mono (by decide) (by decide)⟩
  · show Steps p.tables e below (s₁.setTop (mkF m 0 #[.val (.ref a1), .val (.ref a2)] [])) _
    refine st1 _ ?_
    show Steps p.tables e below (T1.setTop (mkF m 3 #[.val (.ref a1), .val (.ref a2)] [(.int cs)])) _
    refine XS.ifNo X1.here hx rfl (hb hby d13_3) rfl ((if0 _ _).trans (feq hcs).1) ?_
    show Steps p.tables e below (T1.setTop (mkF m 6 #[.val (.ref a1), .val (.ref a2)] [])) _
    refine XS.aloadN X1.here hx rfl (hb hby d13_6) rfl rfl ?_
    show Steps p.tables e below (T1.setTop (mkF m 7 #[.val (.ref a1), .val (.ref a2)] [(.ref a1)])) _
    refine st2 _ ?_
    show Steps p.tables e below (T2.setTop (mkF m 10 #[.val (.ref a1), .val (.ref a2)] [(.int (0 : Int32))])) _
    refine XS.aloadN X2.here hx rfl (hb hby d13_10) rfl rfl ?_
    show Steps p.tables e below (T2.setTop (mkF m 11 #[.val (.ref a1), .val (.ref a2)] [(.ref a2), (.int (0 : Int32))])) _
    refine st3.trans ?_
    show Steps p.tables e below (T3.setTop (mkF m 14 #[.val (.ref a1), .val (.ref a2)] [(.int (0 : Int32)), (.int (0 : Int32))])) _
    refine XS.icmpYes X3.here hx rfl (pc0 := 14) (pc' := 21) rfl (hb hby d13_14) rfl (teq (by decide : (0 : Int32) = (0 : Int32))).1 (by decide) (by decide) ?_
    show Steps p.tables e below (T3.setTop (mkF m 21 #[.val (.ref a1), .val (.ref a2)] [])) _
    exact X3.returnOut hx Bd.returns (hb hby d13_21) hr
  · show Q13 Z a1 a2 cs h0 n0 _ T3.heap _
    rw [e3]
    exact ⟨rfl, N3, rfl⟩

theorem d14_0 : decode jdk_42_method_147_code 0 = .ok (.aload_n 0, 1) := by decide +kernel
theorem d14_1 : decode jdk_42_method_147_code 1 = .ok (.invokevirtual 335, 3) := by decide +kernel
theorem d14_4 : decode jdk_42_method_147_code 4 = .ok (.iload_n 3, 1) := by decide +kernel
theorem d14_5 : decode jdk_42_method_147_code 5 = .ok (.if_icmp .ne 23, 3) := by decide +kernel
theorem d14_8 : decode jdk_42_method_147_code 8 = .ok (.aload_n 0, 1) := by decide +kernel
theorem d14_9 : decode jdk_42_method_147_code 9 = .ok (.getfield 9, 3) := by decide +kernel
theorem d14_12 : decode jdk_42_method_147_code 12 = .ok (.iconst 0, 1) := by decide +kernel
theorem d14_13 : decode jdk_42_method_147_code 13 = .ok (.aload_n 1, 1) := by decide +kernel
theorem d14_14 : decode jdk_42_method_147_code 14 = .ok (.iload_n 2, 1) := by decide +kernel
theorem d14_15 : decode jdk_42_method_147_code 15 = .ok (.iload_n 3, 1) := by decide +kernel
theorem d14_16 : decode jdk_42_method_147_code 16 = .ok (.ishl, 1) := by decide +kernel
theorem d14_17 : decode jdk_42_method_147_code 17 = .ok (.aload_n 0, 1) := by decide +kernel
theorem d14_18 : decode jdk_42_method_147_code 18 = .ok (.getfield 9, 3) := by decide +kernel
theorem d14_21 : decode jdk_42_method_147_code 21 = .ok (.arraylength, 1) := by decide +kernel
theorem d14_22 : decode jdk_42_method_147_code 22 = .ok (.invokestatic 212, 3) := by decide +kernel
theorem d14_25 : decode jdk_42_method_147_code 25 = .ok (.goto 18, 3) := by decide +kernel
theorem d14_43 : decode jdk_42_method_147_code 43 = .ok (.return_, 1) := by decide +kernel
theorem pn_14 : plainName "java/lang/String" = true := by first | (simp [plainName, overriddenIn]; done) | decide +kernel
theorem ef_14 (m : MethodId) (a1 : Addr) (a2 : Addr) (zf2 : Int32) (zf3 : Int32) : entryFrame m #[(.ref a1), (.ref a2), (.int zf2), (.int zf3)] 4 = mkF m 0 #[.val (.ref a1), .val (.ref a2), .val (.int zf2), .val (.int zf3)] [] := by first | (simp [entryFrame, mkF, argsToLocals, Value.category]; done) | rfl
def Q14 (Z : State) (a1 : Addr) (a2 : Addr) (cs : Int32) (sd : Addr) (sk : ClassId) (src : List Int32) (dk : ClassId) (ds : List Int32) (n : Nat) (h0 : Heap) (n0 : Nat) (v : Option Value) (h : Heap) (L : List Loc) : Prop := v = none ∧ Fr n0 L ∧ Keep h0 h [a2] ∧ BL Z h a2 dk (ds.take n ++ src ++ ds.drop (n + src.length))
set_option maxRecDepth 65536 in
set_option maxHeartbeats 40000000 in
theorem rm14 (l : Launch) (Z : State) (a0 : Array Value) (hw : ∀ d ∈ tables_1, d.before a0 Z = true) (ws : List Jvm.Cond) (a1 : Addr) (a2 : Addr) (h0 : Heap) (n0 : Nat) (cs : Int32) (sd : Addr) (sk : ClassId) (src : List Int32) (dk : ClassId) (ds : List Int32) (n : Nat) (CS : Sta Z Z.heap "java/lang/String" "COMPACT_STRINGS" "Z" (.int cs)) (hcs : ¬ cs = 0) (O0 : Old Z n0 h0) (E_a1 : Exa Z h0 a1 "java/lang/String") (F_a1_c : Fld Z h0 a1 "java/lang/String" "coder" "B" (.int 0)) (F_a1_v : Fld Z h0 a1 "java/lang/String" "value" "[B" (.ref sd)) (V_sd : B0 Z h0 sd sk src) (V_a2 : BL Z h0 a2 dk ds) (g_a2 : n0 ≤ a2) (ne_1 : a1 ≠ a2) (ne_2 : sd ≠ a2) (hn : n + src.length ≤ ds.length) (Z0 : n0 ≤ h0.size) :
    MetFree l (⟨"java/lang/String", "getBytes", "([BIB)V"⟩ : MethodName) (head1 (Jvm.Cond.code (⟨"java/lang/String", "getBytes", "([BIB)V"⟩ : MethodName) jdk_42_method_147_code 4 none :: ws) ({ frames := 1, cells := 0, slots := 0, locals := 50 } : Room)) (fun a U => a = #[(.ref a1), (.ref a2), (.int (Int32.ofNat n)), (.int (0 : Int32))] ∧ Z.Warmed39 U.vm ∧ U.heap = h0) (fun _ _ _ _ _ => True) (fun _ U o U' => ∃ v L, o = .returned v ∧ Q14 Z a1 a2 cs sd sk src dk ds n h0 n0 v U'.heap L ∧ FrameEnd U o U' L ({ frames := 1, cells := 0, slots := 0, locals := 50 } : Room).cells ({ frames := 1, cells := 0, slots := 0, locals := 50 } : Room).slots) := by
  refine MetFree.of_bodySF (plainFor_of_name pn_14) hisR ?_
  intro p e s m args below meth c s₁ Bd hml0 hP hK
  obtain ⟨rfl, hZ, hh⟩ := hP
  have hx := Bd.exec
  have hby := Bd.bytes
  have hml : c.maxLocals = 4 := hml0
  have hown0 := findClass_of_methodNamed Bd.named
  have hown : s.vm.findClass "java/lang/String" = some m.cls := hown0
  have hnm := (name_of_methodNamed Bd.named Bd.method).1
  have X0 : Stand p l e ({ frames := 1, cells := 0, slots := 0, locals := 50 } : Room) s m #[(.ref a1), (.ref a2), (.int (Int32.ofNat n)), (.int (0 : Int32))] below meth c s₁ [] 0 0 := Stand.of_body Bd
  have e0 : s₁.heap = h0 := by rw [← hh, Bd.state]; rfl
  have N0 := Fr.nil n0
  have pre0 : ∀ t, Steps p.tables e below (s₁.setTop (mkF m 0 #[.val (.ref a1), .val (.ref a2), .val (.int (Int32.ofNat n)), .val (.int (0 : Int32))] [])) t → Steps p.tables e below (s₁.setTop (entryFrame m #[(.ref a1), (.ref a2), (.int (Int32.ofNat n)), (.int (0 : Int32))] 4)) t := fun t k => castTop (ef_14 m a1 a2 ((Int32.ofNat n)) ((0 : Int32))) k
  refine Classical.byContradiction fun hneg => ?_
  obtain ⟨cq1, kq1, q1a, q1b, q1c⟩ := isOf hZ e0 E_a1
  obtain ⟨_, _, ⟨T1, L1, k1, n1⟩, -, X1, ⟨Lc1, hQ1, l1, y1, z1⟩, st1⟩ := X0.virtualBack hx (y := (⟨"java/lang/String", "coder", "()B"⟩ : MethodName)) (z := (⟨"java/lang/String", "coder", "()B"⟩ : MethodName)) hown (mvT hZ (hw _ (List.mem_of_getElem? (i := 67) rfl))) (mvT hZ (hw _ (List.mem_of_getElem? (i := 68) rfl))) (notFace_of_selects (args := #[]) (mvT hZ (hw _ (List.mem_of_getElem? (i := 70) rfl)))) (mvT hZ (hw _ (List.mem_of_getElem? (i := 70) rfl))) (mvT hZ (hw _ (List.mem_of_getElem? (i := 69) rfl))) (by decide) (backOf (W := 0) (rm10 l Z a0 hw [] a1  h0 n0 cs CS hcs O0 F_a1_c) hZ (hw _ (List.mem_of_getElem? (i := 71) rfl)) (hw _ (List.mem_of_getElem? (i := 39) rfl)) (by decide) (by decide)) q1a q1c (g := (mkF m 1 #[.val (.ref a1), .val (.ref a2), .val (.int (Int32.ofNat n)), .val (.int (0 : Int32))] [(.ref a1)])) rfl (by rw [hml]; rfl) (Steps.refl _) (argsL := []) (rest := []) (lenOf pd0 rfl) rfl (by show 2 * 0 + _ ≤ _; exact Nat.le_of_eq rfl) (hb hby d14_1) (fun _ _ => ⟨rfl, e0, (by decide : 0 + 0 ≤ _), (by decide : 0 + 0 ≤ _)⟩)
  dsimp only [Pt.U, Pt.locs, Pt.cells, Pt.slots] at X1 l1 y1 z1 st1 hQ1
  subst l1 y1 z1
  obtain ⟨rfl, N1q, e1⟩ := hQ1
  have N1 := Fr.app N0 N1q
  obtain ⟨T2, X2, e2, st2⟩ := getF X1 hx hZ hown (host := "") (Or.inl (hw _ (List.mem_of_getElem? (i := 66) rfl))) Via.refl e1 F_a1_v (g := (mkF m 9 #[.val (.ref a1), .val (.ref a2), .val (.int (Int32.ofNat n)), .val (.int (0 : Int32))] [(.ref a1)])) rfl rfl (hb hby d14_9)
  have nq3 : ((Int32.ofNat n) <<< ((0 : Int32) &&& 31)) = (Int32.ofNat n) := shl0 _
  obtain ⟨T4, X4, e4, st4⟩ := getF X2 hx hZ hown (host := "") (Or.inl (hw _ (List.mem_of_getElem? (i := 66) rfl))) Via.refl e2 F_a1_v (g := (mkF m 18 #[.val (.ref a1), .val (.ref a2), .val (.int (Int32.ofNat n)), .val (.int (0 : Int32))] [(.ref a1), (.int (Int32.ofNat n)), (.ref a2), (.int (0 : Int32)), (.ref sd)])) rfl rfl (hb hby d14_18)
  obtain ⟨cl5, Ar5, q5, S5_, N5_, H5_, G5_⟩ := V_sd.1
  obtain ⟨T6, h6, L6, X6, e6, N6, Kc6, V6, st6⟩ := cpB X4 hx hZ hown (hw _ (List.mem_of_getElem? (i := 97) rfl)) (hw _ (List.mem_of_getElem? (i := 100) rfl)) (hw _ (List.mem_of_getElem? (i := 98) rfl)) (hw _ (List.mem_of_getElem? (i := 99) rfl)) e4 V_sd V_a2 (sp := 0) (dp := n) (nn := src.length) (by omega) hn N1 g_a2 (g := (mkF m 22 #[.val (.ref a1), .val (.ref a2), .val (.int (Int32.ofNat n)), .val (.int (0 : Int32))] [(.int (Int32.ofNat src.length)), (.int (Int32.ofNat n)), (.ref a2), (.int (0 : Int32)), (.ref sd)])) rfl (by rw [hml]; rfl) (rest := []) rfl (hb hby d14_22) (by decide) (W := 0) (by show 2 * 0 + _ ≤ _; exact Nat.le_of_eq rfl) (by decide)
  have E_a1_6 := E_a1.keep Kc6
  have F_a1_coder_6 := F_a1_c.keep Kc6 (ninS ne_1 nin0)
  have F_a1_value_6 := F_a1_v.keep Kc6 (ninS ne_1 nin0)
  have V_sd_6 := V_sd.keep Kc6 (ninS ne_2 nin0)
  have K6 : Keep h0 h6 [a2] := (Keep.refl h0 [a2]).trans Kc6 (allS (P := fun x => x ∈ [a2] ∨ h0.size ≤ x) (Or.inl (by simp)) all0)
  have Z6 : n0 ≤ h6.size := Nat.le_trans Z0 Kc6.1
  have O6 := Old.keep O0 Kc6 (allS g_a2 all0)
  refine hneg ?_
  obtain ⟨fs, hr, hrun, hended, hW, hsame⟩ := X6.leave (v := none) (fun _ => rfl)
  refine ⟨_, _, pre0 _ ?_, hrun, hended, _, _, rfl, ?_, ⟨_, rfl⟩, hW, hsame.mono (by decide) (by decide)⟩
  · show Steps p.tables e below (s₁.setTop (mkF m 0 #[.val (.ref a1), .val (.ref a2), .val (.int (Int32.ofNat n)), .val (.int (0 : Int32))] [])) _
    refine XS.aloadN X0.here hx rfl (hb hby d14_0) rfl rfl ?_
    show Steps p.tables e below (s₁.setTop (mkF m 1 #[.val (.ref a1), .val (.ref a2), .val (.int (Int32.ofNat n)), .val (.int (0 : Int32))] [(.ref a1)])) _
    refine st1.trans ?_
    show Steps p.tables e below (T1.setTop (mkF m 4 #[.val (.ref a1), .val (.ref a2), .val (.int (Int32.ofNat n)), .val (.int (0 : Int32))] [(.int (0 : Int32))])) _
    refine XS.iloadN X1.here hx rfl (hb hby d14_4) rfl ?_
    show Steps p.tables e below (T1.setTop (mkF m 5 #[.val (.ref a1), .val (.ref a2), .val (.int (Int32.ofNat n)), .val (.int (0 : Int32))] [(.int (0 : Int32)), (.int (0 : Int32))])) _
    refine XS.icmpNo X1.here hx rfl (hb hby d14_5) rfl (teq (by decide : (0 : Int32) = (0 : Int32))).2 ?_
    show Steps p.tables e below (T1.setTop (mkF m 8 #[.val (.ref a1), .val (.ref a2), .val (.int (Int32.ofNat n)), .val (.int (0 : Int32))] [])) _
    refine XS.aloadN X1.here hx rfl (hb hby d14_8) rfl rfl ?_
    show Steps p.tables e below (T1.setTop (mkF m 9 #[.val (.ref a1), .val (.ref a2), .val (.int (Int32.ofNat n)), .val (.int (0 : Int32))] [(.ref a1)])) _
    refine st2 _ ?_
    show Steps p.tables e below (T2.setTop (mkF m 12 #[.val (.ref a1), .val (.ref a2), .val (.int (Int32.ofNat n)), .val (.int (0 : Int32))] [(.ref sd)])) _
    refine XS.iconst X2.here hx rfl (hb hby d14_12) ?_
    show Steps p.tables e below (T2.setTop (mkF m 13 #[.val (.ref a1), .val (.ref a2), .val (.int (Int32.ofNat n)), .val (.int (0 : Int32))] [(.int (0 : Int32)), (.ref sd)])) _
    refine XS.aloadN X2.here hx rfl (hb hby d14_13) rfl rfl ?_
    show Steps p.tables e below (T2.setTop (mkF m 14 #[.val (.ref a1), .val (.ref a2), .val (.int (Int32.ofNat n)), .val (.int (0 : Int32))] [(.ref a2), (.int (0 : Int32)), (.ref sd)])) _
    refine XS.iloadN X2.here hx rfl (hb hby d14_14) rfl ?_
    show Steps p.tables e below (T2.setTop (mkF m 15 #[.val (.ref a1), .val (.ref a2), .val (.int (Int32.ofNat n)), .val (.int (0 : Int32))] [(.int (Int32.ofNat n)), (.ref a2), (.int (0 : Int32)), (.ref sd)])) _
    refine XS.iloadN X2.here hx rfl (hb hby d14_15) rfl ?_
    show Steps p.tables e below (T2.setTop (mkF m 16 #[.val (.ref a1), .val (.ref a2), .val (.int (Int32.ofNat n)), .val (.int (0 : Int32))] [(.int (0 : Int32)), (.int (Int32.ofNat n)), (.ref a2), (.int (0 : Int32)), (.ref sd)])) _
    refine XS.ishl X2.here hx rfl (hb hby d14_16) rfl ?_
    show Steps p.tables e below (T2.setTop (mkF m 17 #[.val (.ref a1), .val (.ref a2), .val (.int (Int32.ofNat n)), .val (.int (0 : Int32))] [(.int ((Int32.ofNat n) <<< ((0 : Int32) &&& 31))), (.ref a2), (.int (0 : Int32)), (.ref sd)])) _
    rw [nq3]
    show Steps p.tables e below (T2.setTop (mkF m 17 #[.val (.ref a1), .val (.ref a2), .val (.int (Int32.ofNat n)), .val (.int (0 : Int32))] [(.int (Int32.ofNat n)), (.ref a2), (.int (0 : Int32)), (.ref sd)])) _
    refine XS.aloadN X2.here hx rfl (hb hby d14_17) rfl rfl ?_
    show Steps p.tables e below (T2.setTop (mkF m 18 #[.val (.ref a1), .val (.ref a2), .val (.int (Int32.ofNat n)), .val (.int (0 : Int32))] [(.ref a1), (.int (Int32.ofNat n)), (.ref a2), (.int (0 : Int32)), (.ref sd)])) _
    refine st4 _ ?_
    show Steps p.tables e below (T4.setTop (mkF m 21 #[.val (.ref a1), .val (.ref a2), .val (.int (Int32.ofNat n)), .val (.int (0 : Int32))] [(.ref sd), (.int (Int32.ofNat n)), (.ref a2), (.int (0 : Int32)), (.ref sd)])) _
    refine X4.arraylength hx (by rw [e4]; exact Ar5.1) (State.isArrayOf_alike hZ.alike Ar5.2.1) (g := (mkF m 21 #[.val (.ref a1), .val (.ref a2), .val (.int (Int32.ofNat n)), .val (.int (0 : Int32))] [(.ref sd), (.int (Int32.ofNat n)), (.ref a2), (.int (0 : Int32)), (.ref sd)])) rfl rfl (hb hby d14_21) _ ?_
    rw [len_of S5_ N5_]
    show Steps p.tables e below (T4.setTop (mkF m 22 #[.val (.ref a1), .val (.ref a2), .val (.int (Int32.ofNat n)), .val (.int (0 : Int32))] [(.int (Int32.ofNat src.length)), (.int (Int32.ofNat n)), (.ref a2), (.int (0 : Int32)), (.ref sd)])) _
    refine st6 _ ?_
    show Steps p.tables e below (T6.setTop (mkF m 25 #[.val (.ref a1), .val (.ref a2), .val (.int (Int32.ofNat n)), .val (.int (0 : Int32))] [])) _
    refine XS.goto X6.here hx rfl (pc0 := 25) (pc' := 43) rfl (hb hby d14_25) (by decide) (by decide) ?_
    show Steps p.tables e below (T6.setTop (mkF m 43 #[.val (.ref a1), .val (.ref a2), .val (.int (Int32.ofNat n)), .val (.int (0 : Int32))] [])) _
    exact X6.returnOut hx Bd.returns (hb hby d14_43) hr
  · show Q14 Z a1 a2 cs sd sk src dk ds n h0 n0 _ T6.heap _
    rw [e6]
    exact ⟨rfl, N6, K6, by have q := V6; rw [List.drop_zero, List.take_length] at q; exact q⟩

theorem d12_0 : decode jdk_68_method_73_code 0 = .ok (.aload_n 0, 1) := by decide +kernel
theorem d12_1 : decode jdk_68_method_73_code 1 = .ok (.aload_n 2, 1) := by decide +kernel
theorem d12_2 : decode jdk_68_method_73_code 2 = .ok (.invokevirtual 397, 3) := by decide +kernel
theorem d12_5 : decode jdk_68_method_73_code 5 = .ok (.aload_n 2, 1) := by decide +kernel
theorem d12_6 : decode jdk_68_method_73_code 6 = .ok (.aload_n 0, 1) := by decide +kernel
theorem d12_7 : decode jdk_68_method_73_code 7 = .ok (.getfield 15, 3) := by decide +kernel
theorem d12_10 : decode jdk_68_method_73_code 10 = .ok (.iload_n 1, 1) := by decide +kernel
theorem d12_11 : decode jdk_68_method_73_code 11 = .ok (.aload_n 0, 1) := by decide +kernel
theorem d12_12 : decode jdk_68_method_73_code 12 = .ok (.getfield 22, 3) := by decide +kernel
theorem d12_15 : decode jdk_68_method_73_code 15 = .ok (.invokevirtual 399, 3) := by decide +kernel
theorem d12_18 : decode jdk_68_method_73_code 18 = .ok (.return_, 1) := by decide +kernel
theorem pn_12 : plainName "java/lang/AbstractStringBuilder" = true := by first | (simp [plainName, overriddenIn]; done) | decide +kernel
theorem ef_12 (m : MethodId) (a1 : Addr) (zf1 : Int32) (a3 : Addr) : entryFrame m #[(.ref a1), (.int zf1), (.ref a3)] 3 = mkF m 0 #[.val (.ref a1), .val (.int zf1), .val (.ref a3)] [] := by first | (simp [entryFrame, mkF, argsToLocals, Value.category]; done) | rfl
def Q12 (Z : State) (a1 : Addr) (a3 : Addr) (cs : Int32) (d : Addr) (dk : ClassId) (ds : List Int32) (cn : Nat) (sd : Addr) (sk : ClassId) (src : List Int32) (n : Nat) (h0 : Heap) (n0 : Nat) (v : Option Value) (h : Heap) (L : List Loc) : Prop := v = none ∧ Fr n0 L ∧ Keep h0 h [d] ∧ BL Z h d dk (ds.take n ++ src ++ ds.drop (n + src.length))
set_option maxRecDepth 65536 in
set_option maxHeartbeats 40000000 in
theorem rm12 (l : Launch) (Z : State) (a0 : Array Value) (hw : ∀ d ∈ tables_1, d.before a0 Z = true) (ws : List Jvm.Cond) (a1 : Addr) (a3 : Addr) (h0 : Heap) (n0 : Nat) (cs : Int32) (d : Addr) (dk : ClassId) (ds : List Int32) (cn : Nat) (sd : Addr) (sk : ClassId) (src : List Int32) (n : Nat) (CS : Sta Z Z.heap "java/lang/String" "COMPACT_STRINGS" "Z" (.int cs)) (hcs : ¬ cs = 0) (O0 : Old Z n0 h0) (E_a1 : Exa Z h0 a1 "java/lang/StringBuilder") (F_a1_v : Fld Z h0 a1 "java/lang/AbstractStringBuilder" "value" "[B" (.ref d)) (F_a1_c : Fld Z h0 a1 "java/lang/AbstractStringBuilder" "coder" "B" (.int 0)) (F_a1_n : Fld Z h0 a1 "java/lang/AbstractStringBuilder" "count" "I" (.int (Int32.ofNat cn))) (V_d : BL Z h0 d dk ds) (E_a3 : Exa Z h0 a3 "java/lang/String") (F_a3_c : Fld Z h0 a3 "java/lang/String" "coder" "B" (.int 0)) (F_a3_v : Fld Z h0 a3 "java/lang/String" "value" "[B" (.ref sd)) (V_sd : B0 Z h0 sd sk src) (g_d : n0 ≤ d) (ne_2 : sd ≠ d) (hn : n + src.length ≤ ds.length) (Z0 : n0 ≤ h0.size) :
    MetFree l (⟨"java/lang/AbstractStringBuilder", "putStringAt", "(ILjava/lang/String;)V"⟩ : MethodName) (head1 (Jvm.Cond.code (⟨"java/lang/AbstractStringBuilder", "putStringAt", "(ILjava/lang/String;)V"⟩ : MethodName) jdk_68_method_73_code 3 none :: ws) ({ frames := 2, cells := 0, slots := 0, locals := 65 } : Room)) (fun a U => a = #[(.ref a1), (.int (Int32.ofNat n)), (.ref a3)] ∧ Z.Warmed39 U.vm ∧ U.heap = h0) (fun _ _ _ _ _ => True) (fun _ U o U' => ∃ v L, o = .returned v ∧ Q12 Z a1 a3 cs d dk ds cn sd sk src n h0 n0 v U'.heap L ∧ FrameEnd U o U' L ({ frames := 2, cells := 0, slots := 0, locals := 65 } : Room).cells ({ frames := 2, cells := 0, slots := 0, locals := 65 } : Room).slots) := by
  refine MetFree.of_bodySF (plainFor_of_name pn_12) hisR ?_
  intro p e s m args below meth c s₁ Bd hml0 hP hK
  obtain ⟨rfl, hZ, hh⟩ := hP
  have hx := Bd.exec
  have hby := Bd.bytes
  have hml : c.maxLocals = 3 := hml0
  have hown0 := findClass_of_methodNamed Bd.named
  have hown : s.vm.findClass "java/lang/AbstractStringBuilder" = some m.cls := hown0
  have hnm := (name_of_methodNamed Bd.named Bd.method).1
  have X0 : Stand p l e ({ frames := 2, cells := 0, slots := 0, locals := 65 } : Room) s m #[(.ref a1), (.int (Int32.ofNat n)), (.ref a3)] below meth c s₁ [] 0 0 := Stand.of_body Bd
  have e0 : s₁.heap = h0 := by rw [← hh, Bd.state]; rfl
  have N0 := Fr.nil n0
  have pre0 : ∀ t, Steps p.tables e below (s₁.setTop (mkF m 0 #[.val (.ref a1), .val (.int (Int32.ofNat n)), .val (.ref a3)] [])) t → Steps p.tables e below (s₁.setTop (entryFrame m #[(.ref a1), (.int (Int32.ofNat n)), (.ref a3)] 3)) t := fun t k => castTop (ef_12 m a1 ((Int32.ofNat n)) a3) k
  refine Classical.byContradiction fun hneg => ?_
  obtain ⟨cq1, kq1, q1a, q1b, q1c⟩ := isOf hZ e0 E_a1
  obtain ⟨_, _, ⟨T1, L1, k1, n1⟩, -, X1, ⟨Lc1, hQ1, l1, y1, z1⟩, st1⟩ := X0.virtualBack hx (y := (⟨"java/lang/AbstractStringBuilder", "inflateIfNeededFor", "(Ljava/lang/String;)V"⟩ : MethodName)) (z := (⟨"java/lang/AbstractStringBuilder", "inflateIfNeededFor", "(Ljava/lang/String;)V"⟩ : MethodName)) hown (mvT hZ (hw _ (List.mem_of_getElem? (i := 86) rfl))) (mvT hZ (decl_of (hw _ (List.mem_of_getElem? (i := 87) rfl)) (hw _ (List.mem_of_getElem? (i := 90) rfl)))) (notFace_of_selects (args := #[]) (mvT hZ (hw _ (List.mem_of_getElem? (i := 89) rfl)))) (mvT hZ (hw _ (List.mem_of_getElem? (i := 89) rfl))) (mvT hZ (hw _ (List.mem_of_getElem? (i := 87) rfl))) (by decide) (backOf (W := 0) (rm13 l Z a0 hw [] a1 a3 h0 n0 cs CS hcs O0 F_a1_c E_a3 F_a3_c) hZ (hw _ (List.mem_of_getElem? (i := 90) rfl)) (hw _ (List.mem_of_getElem? (i := 35) rfl)) (by decide) (by decide)) q1a q1c (g := (mkF m 2 #[.val (.ref a1), .val (.int (Int32.ofNat n)), .val (.ref a3)] [(.ref a3), (.ref a1)])) rfl (by rw [hml]; rfl) (Steps.refl _) (argsL := [(.ref a3)]) (rest := []) (lenOf pd1 rfl) rfl (by show 2 * 0 + _ ≤ _; exact Nat.le_of_eq rfl) (hb hby d12_2) (fun _ _ => ⟨rfl, e0, (by decide : 0 + 0 ≤ _), (by decide : 0 + 0 ≤ _)⟩)
  dsimp only [Pt.U, Pt.locs, Pt.cells, Pt.slots] at X1 l1 y1 z1 st1 hQ1
  subst l1 y1 z1
  obtain ⟨rfl, N1q, e1⟩ := hQ1
  have N1 := Fr.app N0 N1q
  obtain ⟨T2, X2, e2, st2⟩ := getF X1 hx hZ hown (host := "") (Or.inl (hw _ (List.mem_of_getElem? (i := 41) rfl))) Via.refl e1 F_a1_v (g := (mkF m 7 #[.val (.ref a1), .val (.int (Int32.ofNat n)), .val (.ref a3)] [(.ref a1), (.ref a3)])) rfl rfl (hb hby d12_7)
  obtain ⟨T3, X3, e3, st3⟩ := getF X2 hx hZ hown (host := "") (Or.inl (hw _ (List.mem_of_getElem? (i := 43) rfl))) Via.refl e2 F_a1_c (g := (mkF m 12 #[.val (.ref a1), .val (.int (Int32.ofNat n)), .val (.ref a3)] [(.ref a1), (.int (Int32.ofNat n)), (.ref d), (.ref a3)])) rfl rfl (hb hby d12_12)
  obtain ⟨cq4, kq4, q4a, q4b, q4c⟩ := isOf hZ e3 E_a3
  obtain ⟨_, _, ⟨T4, L4, k4, n4⟩, -, X4, ⟨Lc4, hQ4, l4, y4, z4⟩, st4⟩ := X3.virtualBack hx (y := (⟨"java/lang/String", "getBytes", "([BIB)V"⟩ : MethodName)) (z := (⟨"java/lang/String", "getBytes", "([BIB)V"⟩ : MethodName)) hown (mvT hZ (hw _ (List.mem_of_getElem? (i := 92) rfl))) (mvT hZ (hw _ (List.mem_of_getElem? (i := 93) rfl))) (notFace_of_selects (args := #[]) (mvT hZ (hw _ (List.mem_of_getElem? (i := 95) rfl)))) (mvT hZ (hw _ (List.mem_of_getElem? (i := 95) rfl))) (mvT hZ (hw _ (List.mem_of_getElem? (i := 94) rfl))) (by decide) (backOf (W := 0) (rm14 l Z a0 hw [] a3 d  h0 n0 cs sd sk src dk ds n CS hcs O0 E_a3 F_a3_c F_a3_v V_sd V_d g_d (Exa.neArv E_a3 V_d.1 (hw _ (List.mem_of_getElem? (i := 46) rfl))) ne_2 hn Z0) hZ (hw _ (List.mem_of_getElem? (i := 96) rfl)) (hw _ (List.mem_of_getElem? (i := 39) rfl)) (by decide) (by decide)) q4a q4c (g := (mkF m 15 #[.val (.ref a1), .val (.int (Int32.ofNat n)), .val (.ref a3)] [(.int (0 : Int32)), (.int (Int32.ofNat n)), (.ref d), (.ref a3)])) rfl (by rw [hml]; rfl) (Steps.refl _) (argsL := [(.ref d), (.int (Int32.ofNat n)), (.int (0 : Int32))]) (rest := []) (lenOf pd2 rfl) rfl (by show 2 * 0 + _ ≤ _; exact Nat.le_of_eq rfl) (hb hby d12_15) (fun _ _ => ⟨rfl, e3, (by decide : 0 + 0 ≤ _), (by decide : 0 + 0 ≤ _)⟩)
  dsimp only [Pt.U, Pt.locs, Pt.cells, Pt.slots] at X4 l4 y4 z4 st4 hQ4
  subst l4 y4 z4
  obtain ⟨rfl, N4q, Kc4, G4_0⟩ := hQ4
  have N4 := Fr.app N1 N4q
  have E_a1_4 := E_a1.keep Kc4
  have F_a1_value_4 := F_a1_v.keep Kc4 (ninS (Exa.neArv E_a1 V_d.1 (hw _ (List.mem_of_getElem? (i := 26) rfl))) nin0)
  have F_a1_coder_4 := F_a1_c.keep Kc4 (ninS (Exa.neArv E_a1 V_d.1 (hw _ (List.mem_of_getElem? (i := 26) rfl))) nin0)
  have F_a1_count_4 := F_a1_n.keep Kc4 (ninS (Exa.neArv E_a1 V_d.1 (hw _ (List.mem_of_getElem? (i := 26) rfl))) nin0)
  have E_a3_4 := E_a3.keep Kc4
  have F_a3_coder_4 := F_a3_c.keep Kc4 (ninS (Exa.neArv E_a3 V_d.1 (hw _ (List.mem_of_getElem? (i := 46) rfl))) nin0)
  have F_a3_value_4 := F_a3_v.keep Kc4 (ninS (Exa.neArv E_a3 V_d.1 (hw _ (List.mem_of_getElem? (i := 46) rfl))) nin0)
  have V_sd_4 := V_sd.keep Kc4 (ninS ne_2 nin0)
  have K4 : Keep h0 T4.heap [d] := (Keep.refl h0 [d]).trans Kc4 (allS (P := fun x => x ∈ [d] ∨ h0.size ≤ x) (Or.inl (by simp)) all0)
  have Z4 : n0 ≤ T4.heap.size := Nat.le_trans Z0 Kc4.1
  have O4 := Old.keep O0 Kc4 (allS g_d all0)
  refine hneg ?_
  obtain ⟨fs, hr, hrun, hended, hW, hsame⟩ := X4.leave (v := none) (fun _ => rfl)
  refine ⟨_, _, pre0 _ ?_, hrun, hended, _, _, rfl, ?_, ⟨_, rfl⟩, hW, hsame.mono (by decide) (by decide)⟩
  · show Steps p.tables e below (s₁.setTop (mkF m 0 #[.val (.ref a1), .val (.int (Int32.ofNat n)), .val (.ref a3)] [])) _
    refine XS.aloadN X0.here hx rfl (hb hby d12_0) rfl rfl ?_
    show Steps p.tables e below (s₁.setTop (mkF m 1 #[.val (.ref a1), .val (.int (Int32.ofNat n)), .val (.ref a3)] [(.ref a1)])) _
    refine XS.aloadN X0.here hx rfl (hb hby d12_1) rfl rfl ?_
    show Steps p.tables e below (s₁.setTop (mkF m 2 #[.val (.ref a1), .val (.int (Int32.ofNat n)), .val (.ref a3)] [(.ref a3), (.ref a1)])) _
    refine st1.trans ?_
    show Steps p.tables e below (T1.setTop (mkF m 5 #[.val (.ref a1), .val (.int (Int32.ofNat n)), .val (.ref a3)] [])) _
    refine XS.aloadN X1.here hx rfl (hb hby d12_5) rfl rfl ?_
    show Steps p.tables e below (T1.setTop (mkF m 6 #[.val (.ref a1), .val (.int (Int32.ofNat n)), .val (.ref a3)] [(.ref a3)])) _
    refine XS.aloadN X1.here hx rfl (hb hby d12_6) rfl rfl ?_
    show Steps p.tables e below (T1.setTop (mkF m 7 #[.val (.ref a1), .val (.int (Int32.ofNat n)), .val (.ref a3)] [(.ref a1), (.ref a3)])) _
    refine st2 _ ?_
    show Steps p.tables e below (T2.setTop (mkF m 10 #[.val (.ref a1), .val (.int (Int32.ofNat n)), .val (.ref a3)] [(.ref d), (.ref a3)])) _
    refine XS.iloadN X2.here hx rfl (hb hby d12_10) rfl ?_
    show Steps p.tables e below (T2.setTop (mkF m 11 #[.val (.ref a1), .val (.int (Int32.ofNat n)), .val (.ref a3)] [(.int (Int32.ofNat n)), (.ref d), (.ref a3)])) _
    refine XS.aloadN X2.here hx rfl (hb hby d12_11) rfl rfl ?_
    show Steps p.tables e below (T2.setTop (mkF m 12 #[.val (.ref a1), .val (.int (Int32.ofNat n)), .val (.ref a3)] [(.ref a1), (.int (Int32.ofNat n)), (.ref d), (.ref a3)])) _
    refine st3 _ ?_
    show Steps p.tables e below (T3.setTop (mkF m 15 #[.val (.ref a1), .val (.int (Int32.ofNat n)), .val (.ref a3)] [(.int (0 : Int32)), (.int (Int32.ofNat n)), (.ref d), (.ref a3)])) _
    refine st4.trans ?_
    show Steps p.tables e below (T4.setTop (mkF m 18 #[.val (.ref a1), .val (.int (Int32.ofNat n)), .val (.ref a3)] [])) _
    exact X4.returnOut hx Bd.returns (hb hby d12_18) hr
  · show Q12 Z a1 a3 cs d dk ds cn sd sk src n h0 n0 _ T4.heap _
    exact ⟨rfl, N4, K4, G4_0⟩

theorem d19_0 : decode jdk_48_method_27_code 0 = .ok (.iload_n 0, 1) := by decide +kernel
theorem d19_1 : decode jdk_48_method_27_code 1 = .ok (.iload_n 1, 1) := by decide +kernel
theorem d19_2 : decode jdk_48_method_27_code 2 = .ok (.iload_n 2, 1) := by decide +kernel
theorem d19_3 : decode jdk_48_method_27_code 3 = .ok (.invokestatic 194, 3) := by decide +kernel
theorem d19_6 : decode jdk_48_method_27_code 6 = .ok (.iadd, 1) := by decide +kernel
theorem d19_7 : decode jdk_48_method_27_code 7 = .ok (.istore_n 3, 1) := by decide +kernel
theorem d19_8 : decode jdk_48_method_27_code 8 = .ok (.iconst 0, 1) := by decide +kernel
theorem d19_9 : decode jdk_48_method_27_code 9 = .ok (.iload_n 3, 1) := by decide +kernel
theorem d19_10 : decode jdk_48_method_27_code 10 = .ok (.if_icmp .ge 11, 3) := by decide +kernel
theorem d19_13 : decode jdk_48_method_27_code 13 = .ok (.iload_n 3, 1) := by decide +kernel
theorem d19_14 : decode jdk_48_method_27_code 14 = .ok (.ldc 200, 2) := by decide +kernel
theorem d19_16 : decode jdk_48_method_27_code 16 = .ok (.if_icmp .gt 5, 3) := by decide +kernel
theorem d19_19 : decode jdk_48_method_27_code 19 = .ok (.iload_n 3, 1) := by decide +kernel
theorem d19_20 : decode jdk_48_method_27_code 20 = .ok (.ireturn, 1) := by decide +kernel
theorem pn_19 : plainName "jdk/internal/util/ArraysSupport" = true := by first | (simp [plainName, overriddenIn]; done) | decide +kernel
theorem ef_19 (m : MethodId) (zf0 : Int32) (zf1 : Int32) (zf2 : Int32) : entryFrame m #[(.int zf0), (.int zf1), (.int zf2)] 4 = mkF m 0 #[.val (.int zf0), .val (.int zf1), .val (.int zf2), .unset] [] := by first | (simp [entryFrame, mkF, argsToLocals, Value.category]; done) | rfl
def Q19 (Z : State)  (na : Nat) (nb : Nat) (nc : Nat) (h0 : Heap) (n0 : Nat) (v : Option Value) (h : Heap) (L : List Loc) : Prop := v = some (.int (Int32.ofNat (na + max nb nc))) ∧ Fr n0 L ∧ h = h0
set_option maxRecDepth 65536 in
set_option maxHeartbeats 40000000 in
theorem rm19 (l : Launch) (Z : State) (a0 : Array Value) (hw : ∀ d ∈ tables_1, d.before a0 Z = true) (ws : List Jvm.Cond)  (h0 : Heap) (n0 : Nat) (na : Nat) (nb : Nat) (nc : Nat) (qa : na ≤ 1000) (qb : nb ≤ 1000) (qc : nc ≤ 1000) (qp : 0 < nc) :
    MetFree l (⟨"jdk/internal/util/ArraysSupport", "newLength", "(III)I"⟩ : MethodName) (head1 (Jvm.Cond.code (⟨"jdk/internal/util/ArraysSupport", "newLength", "(III)I"⟩ : MethodName) jdk_48_method_27_code 4 (some .int) :: ws) ({ frames := 1, cells := 0, slots := 0, locals := 14 } : Room)) (fun a U => a = #[(.int (Int32.ofNat na)), (.int (Int32.ofNat nb)), (.int (Int32.ofNat nc))] ∧ Z.Warmed39 U.vm ∧ U.heap = h0) (fun _ _ _ _ _ => True) (fun _ U o U' => ∃ v L, o = .returned v ∧ Q19 Z na nb nc h0 n0 v U'.heap L ∧ FrameEnd U o U' L ({ frames := 1, cells := 0, slots := 0, locals := 14 } : Room).cells ({ frames := 1, cells := 0, slots := 0, locals := 14 } : Room).slots) := by
  refine MetFree.of_bodySF (plainFor_of_name pn_19) hisR ?_
  intro p e s m args below meth c s₁ Bd hml0 hP hK
  obtain ⟨rfl, hZ, hh⟩ := hP
  have hx := Bd.exec
  have hby := Bd.bytes
  have hml : c.maxLocals = 4 := hml0
  have hown0 := findClass_of_methodNamed Bd.named
  have hown : s.vm.findClass "jdk/internal/util/ArraysSupport" = some m.cls := hown0
  have hnm := (name_of_methodNamed Bd.named Bd.method).1
  have X0 : Stand p l e ({ frames := 1, cells := 0, slots := 0, locals := 14 } : Room) s m #[(.int (Int32.ofNat na)), (.int (Int32.ofNat nb)), (.int (Int32.ofNat nc))] below meth c s₁ [] 0 0 := Stand.of_body Bd
  have e0 : s₁.heap = h0 := by rw [← hh, Bd.state]; rfl
  have N0 := Fr.nil n0
  have pre0 : ∀ t, Steps p.tables e below (s₁.setTop (mkF m 0 #[.val (.int (Int32.ofNat na)), .val (.int (Int32.ofNat nb)), .val (.int (Int32.ofNat nc)), .unset] [])) t → Steps p.tables e below (s₁.setTop (entryFrame m #[(.int (Int32.ofNat na)), (.int (Int32.ofNat nb)), (.int (Int32.ofNat nc))] 4)) t := fun t k => castTop (ef_19 m ((Int32.ofNat na)) ((Int32.ofNat nb)) ((Int32.ofNat nc))) k
  refine Classical.byContradiction fun hneg => ?_
  obtain ⟨_, _, ⟨T1, L1, k1, n1⟩, -, X1, ⟨Lc1, hQ1, l1, y1, z1⟩, st1⟩ := Jvm.LawKit.callS X0 hx (y := (⟨"java/lang/Math", "max", "(II)I"⟩ : MethodName)) hown (mvT hZ (hw _ (List.mem_of_getElem? (i := 125) rfl))) (mvT hZ (hw _ (List.mem_of_getElem? (i := 126) rfl))) (mvT hZ (hw _ (List.mem_of_getElem? (i := 127) rfl))) (mvT hZ (hw _ (List.mem_of_getElem? (i := 128) rfl))) (by decide) (backOf (W := 1) (rm20 l Z a0 hw [] (Int32.ofNat nb) (Int32.ofNat nc)  h0 n0  ) hZ (hw _ (List.mem_of_getElem? (i := 128) rfl)) (hw _ (List.mem_of_getElem? (i := 127) rfl)) (by decide) (by decide)) (g := (mkF m 3 #[.val (.int (Int32.ofNat na)), .val (.int (Int32.ofNat nb)), .val (.int (Int32.ofNat nc)), .unset] [(.int (Int32.ofNat nc)), (.int (Int32.ofNat nb)), (.int (Int32.ofNat na))])) rfl (by rw [hml]; rfl) (argsL := [(.int (Int32.ofNat nb)), (.int (Int32.ofNat nc))]) (rest := [(.int (Int32.ofNat na))]) (lenOf pd3 rfl) rfl (by show 2 * 0 + _ ≤ _; exact Nat.le_of_eq rfl) (hb hby d19_3) (fun _ _ => ⟨rfl, e0, (by decide : 0 + 0 ≤ _), (by decide : 0 + 0 ≤ _)⟩)
  dsimp only [Pt.U, Pt.locs, Pt.cells, Pt.slots] at X1 l1 y1 z1 st1 hQ1
  subst l1 y1 z1
  obtain ⟨rfl, N1q, e1⟩ := hQ1
  have N1 := Fr.app N0 N1q
  have nq2 : (f20 (Int32.ofNat nb) (Int32.ofNat nc)) = (Int32.ofNat (max nb nc)) := f20_of (by omega) (by omega)
  have nq3 : ((Int32.ofNat na) + (Int32.ofNat (max nb nc))) = (Int32.ofNat (na + max nb nc)) := ofN_add _ _
  refine hneg ?_
  obtain ⟨fs, hr, hrun, hended, hW, hsame⟩ := X1.leave (v := some (.int (Int32.ofNat (na + max nb nc)))) (fun h => by rw [Bd.returns] at h; cases h)
  refine ⟨_, _, pre0 _ ?_, hrun, hended, _, _, rfl, ?_, ⟨_, rfl⟩, hW, hsame.mono (by decide) (by decide)⟩
  · show Steps p.tables e below (s₁.setTop (mkF m 0 #[.val (.int (Int32.ofNat na)), .val (.int (Int32.ofNat nb)), .val (.int (Int32.ofNat nc)), .unset] [])) _
    refine XS.iloadN X0.here hx rfl (hb hby d19_0) rfl ?_
    show Steps p.tables e below (s₁.setTop (mkF m 1 #[.val (.int (Int32.ofNat na)), .val (.int (Int32.ofNat nb)), .val (.int (Int32.ofNat nc)), .unset] [(.int (Int32.ofNat na))])) _
    refine XS.iloadN X0.here hx rfl (hb hby d19_1) rfl ?_
    show Steps p.tables e below (s₁.setTop (mkF m 2 #[.val (.int (Int32.ofNat na)), .val (.int (Int32.ofNat nb)), .val (.int (Int32.ofNat nc)), .unset] [(.int (Int32.ofNat nb)), (.int (Int32.ofNat na))])) _
    refine XS.iloadN X0.here hx rfl (hb hby d19_2) rfl ?_
    show Steps p.tables e below (s₁.setTop (mkF m 3 #[.val (.int (Int32.ofNat na)), .val (.int (Int32.ofNat nb)), .val (.int (Int32.ofNat nc)), .unset] [(.int (Int32.ofNat nc)), (.int (Int32.ofNat nb)), (.int (Int32.ofNat na))])) _
    refine st1 _ ?_
    show Steps p.tables e below (T1.setTop (mkF m 6 #[.val (.int (Int32.ofNat na)), .val (.int (Int32.ofNat nb)), .val (.int (Int32.ofNat nc)), .unset] [(.int (f20 (Int32.ofNat nb) (Int32.ofNat nc))), (.int (Int32.ofNat na))])) _
    rw [nq2]
    show Steps p.tables e below (T1.setTop (mkF m 6 #[.val (.int (Int32.ofNat na)), .val (.int (Int32.ofNat nb)), .val (.int (Int32.ofNat nc)), .unset] [(.int (Int32.ofNat (max nb nc))), (.int (Int32.ofNat na))])) _
    refine XS.iadd X1.here hx rfl (hb hby d19_6) rfl ?_
    show Steps p.tables e below (T1.setTop (mkF m 7 #[.val (.int (Int32.ofNat na)), .val (.int (Int32.ofNat nb)), .val (.int (Int32.ofNat nc)), .unset] [(.int ((Int32.ofNat na) + (Int32.ofNat (max nb nc))))])) _
    rw [nq3]
    show Steps p.tables e below (T1.setTop (mkF m 7 #[.val (.int (Int32.ofNat na)), .val (.int (Int32.ofNat nb)), .val (.int (Int32.ofNat nc)), .unset] [(.int (Int32.ofNat (na + max nb nc)))])) _
    refine XS.istoreN X1.here hx rfl (hb hby d19_7) rfl (l' := #[.val (.int (Int32.ofNat na)), .val (.int (Int32.ofNat nb)), .val (.int (Int32.ofNat nc)), .val (.int (Int32.ofNat (na + max nb nc)))]) rfl ?_
    show Steps p.tables e below (T1.setTop (mkF m 8 #[.val (.int (Int32.ofNat na)), .val (.int (Int32.ofNat nb)), .val (.int (Int32.ofNat nc)), .val (.int (Int32.ofNat (na + max nb nc)))] [])) _
    refine XS.iconst X1.here hx rfl (hb hby d19_8) ?_
    show Steps p.tables e below (T1.setTop (mkF m 9 #[.val (.int (Int32.ofNat na)), .val (.int (Int32.ofNat nb)), .val (.int (Int32.ofNat nc)), .val (.int (Int32.ofNat (na + max nb nc)))] [(.int (0 : Int32))])) _
    refine XS.iloadN X1.here hx rfl (hb hby d19_9) rfl ?_
    show Steps p.tables e below (T1.setTop (mkF m 10 #[.val (.int (Int32.ofNat na)), .val (.int (Int32.ofNat nb)), .val (.int (Int32.ofNat nc)), .val (.int (Int32.ofNat (na + max nb nc)))] [(.int (Int32.ofNat (na + max nb nc))), (.int (0 : Int32))])) _
    refine XS.icmpNo X1.here hx rfl (hb hby d19_10) rfl (tlt (ofN_pos (by omega) (by omega))).2.1 ?_
    show Steps p.tables e below (T1.setTop (mkF m 13 #[.val (.int (Int32.ofNat na)), .val (.int (Int32.ofNat nb)), .val (.int (Int32.ofNat nc)), .val (.int (Int32.ofNat (na + max nb nc)))] [])) _
    refine XS.iloadN X1.here hx rfl (hb hby d19_13) rfl ?_
    show Steps p.tables e below (T1.setTop (mkF m 14 #[.val (.int (Int32.ofNat na)), .val (.int (Int32.ofNat nb)), .val (.int (Int32.ofNat nc)), .val (.int (Int32.ofNat (na + max nb nc)))] [(.int (Int32.ofNat (na + max nb nc)))])) _
    refine X1.ldcInt hx hown (mvT hZ (hw _ (List.mem_of_getElem? (i := 129) rfl))) (g := (mkF m 14 #[.val (.int (Int32.ofNat na)), .val (.int (Int32.ofNat nb)), .val (.int (Int32.ofNat nc)), .val (.int (Int32.ofNat (na + max nb nc)))] [(.int (Int32.ofNat (na + max nb nc)))])) rfl (hb hby d19_14) _ ?_
    show Steps p.tables e below (T1.setTop (mkF m 16 #[.val (.int (Int32.ofNat na)), .val (.int (Int32.ofNat nb)), .val (.int (Int32.ofNat nc)), .val (.int (Int32.ofNat (na + max nb nc)))] [(.int (2147483639 : Int32)), (.int (Int32.ofNat (na + max nb nc)))])) _
    refine XS.icmpNo X1.here hx rfl (hb hby d19_16) rfl (flt (ofN_bound (by omega) _ (c := 2147483639) (by decide) (by decide)).1).2.2.1 ?_
    show Steps p.tables e below (T1.setTop (mkF m 19 #[.val (.int (Int32.ofNat na)), .val (.int (Int32.ofNat nb)), .val (.int (Int32.ofNat nc)), .val (.int (Int32.ofNat (na + max nb nc)))] [])) _
    refine XS.iloadN X1.here hx rfl (hb hby d19_19) rfl ?_
    show Steps p.tables e below (T1.setTop (mkF m 20 #[.val (.int (Int32.ofNat na)), .val (.int (Int32.ofNat nb)), .val (.int (Int32.ofNat nc)), .val (.int (Int32.ofNat (na + max nb nc)))] [(.int (Int32.ofNat (na + max nb nc)))])) _
    exact retI X1 hx Bd.returns (hb hby d19_20) hr
  · show Q19 Z na nb nc h0 n0 _ T1.heap _
    rw [e1]
    exact ⟨rfl, N1, rfl⟩

theorem d18_0 : decode jdk_68_method_10_code 0 = .ok (.aload_n 0, 1) := by decide +kernel
theorem d18_1 : decode jdk_68_method_10_code 1 = .ok (.getfield 15, 3) := by decide +kernel
theorem d18_4 : decode jdk_68_method_10_code 4 = .ok (.arraylength, 1) := by decide +kernel
theorem d18_5 : decode jdk_68_method_10_code 5 = .ok (.istore_n 2, 1) := by decide +kernel
theorem d18_6 : decode jdk_68_method_10_code 6 = .ok (.iload_n 1, 1) := by decide +kernel
theorem d18_7 : decode jdk_68_method_10_code 7 = .ok (.aload_n 0, 1) := by decide +kernel
theorem d18_8 : decode jdk_68_method_10_code 8 = .ok (.getfield 22, 3) := by decide +kernel
theorem d18_11 : decode jdk_68_method_10_code 11 = .ok (.ishl, 1) := by decide +kernel
theorem d18_12 : decode jdk_68_method_10_code 12 = .ok (.istore_n 3, 1) := by decide +kernel
theorem d18_13 : decode jdk_68_method_10_code 13 = .ok (.iload_n 3, 1) := by decide +kernel
theorem d18_14 : decode jdk_68_method_10_code 14 = .ok (.iload_n 2, 1) := by decide +kernel
theorem d18_15 : decode jdk_68_method_10_code 15 = .ok (.isub, 1) := by decide +kernel
theorem d18_16 : decode jdk_68_method_10_code 16 = .ok (.istore 4, 2) := by decide +kernel
theorem d18_18 : decode jdk_68_method_10_code 18 = .ok (.iload_n 2, 1) := by decide +kernel
theorem d18_19 : decode jdk_68_method_10_code 19 = .ok (.iload 4, 2) := by decide +kernel
theorem d18_21 : decode jdk_68_method_10_code 21 = .ok (.iload_n 2, 1) := by decide +kernel
theorem d18_22 : decode jdk_68_method_10_code 22 = .ok (.iconst 2, 1) := by decide +kernel
theorem d18_23 : decode jdk_68_method_10_code 23 = .ok (.aload_n 0, 1) := by decide +kernel
theorem d18_24 : decode jdk_68_method_10_code 24 = .ok (.getfield 22, 3) := by decide +kernel
theorem d18_27 : decode jdk_68_method_10_code 27 = .ok (.ishl, 1) := by decide +kernel
theorem d18_28 : decode jdk_68_method_10_code 28 = .ok (.iadd, 1) := by decide +kernel
theorem d18_29 : decode jdk_68_method_10_code 29 = .ok (.invokestatic 114, 3) := by decide +kernel
theorem d18_32 : decode jdk_68_method_10_code 32 = .ok (.istore 5, 2) := by decide +kernel
theorem d18_34 : decode jdk_68_method_10_code 34 = .ok (.iload 5, 2) := by decide +kernel
theorem d18_36 : decode jdk_68_method_10_code 36 = .ok (.ldc 39, 2) := by decide +kernel
theorem d18_38 : decode jdk_68_method_10_code 38 = .ok (.if_icmp .ne 13, 3) := by decide +kernel
theorem d18_51 : decode jdk_68_method_10_code 51 = .ok (.iload 5, 2) := by decide +kernel
theorem d18_53 : decode jdk_68_method_10_code 53 = .ok (.aload_n 0, 1) := by decide +kernel
theorem d18_54 : decode jdk_68_method_10_code 54 = .ok (.getfield 22, 3) := by decide +kernel
theorem d18_57 : decode jdk_68_method_10_code 57 = .ok (.ishr, 1) := by decide +kernel
theorem d18_58 : decode jdk_68_method_10_code 58 = .ok (.ireturn, 1) := by decide +kernel
theorem pn_18 : plainName "java/lang/AbstractStringBuilder" = true := by first | (simp [plainName, overriddenIn]; done) | decide +kernel
theorem ef_18 (m : MethodId) (a1 : Addr) (zf1 : Int32) : entryFrame m #[(.ref a1), (.int zf1)] 6 = mkF m 0 #[.val (.ref a1), .val (.int zf1), .unset, .unset, .unset, .unset] [] := by first | (simp [entryFrame, mkF, argsToLocals, Value.category]; done) | rfl
def Q18 (Z : State) (a1 : Addr) (cs : Int32) (d : Addr) (dk : ClassId) (ds : List Int32) (cn : Nat) (mn : Nat) (h0 : Heap) (n0 : Nat) (v : Option Value) (h : Heap) (L : List Loc) : Prop := v = some (.int (Int32.ofNat (max mn (2 * ds.length + 2)))) ∧ Fr n0 L ∧ h = h0
set_option maxRecDepth 65536 in
set_option maxHeartbeats 40000000 in
theorem rm18 (l : Launch) (Z : State) (a0 : Array Value) (hw : ∀ d ∈ tables_1, d.before a0 Z = true) (ws : List Jvm.Cond) (a1 : Addr) (h0 : Heap) (n0 : Nat) (cs : Int32) (d : Addr) (dk : ClassId) (ds : List Int32) (cn : Nat) (mn : Nat) (CS : Sta Z Z.heap "java/lang/String" "COMPACT_STRINGS" "Z" (.int cs)) (hcs : ¬ cs = 0) (O0 : Old Z n0 h0) (E_a1 : Exa Z h0 a1 "java/lang/StringBuilder") (F_a1_v : Fld Z h0 a1 "java/lang/AbstractStringBuilder" "value" "[B" (.ref d)) (F_a1_c : Fld Z h0 a1 "java/lang/AbstractStringBuilder" "coder" "B" (.int 0)) (F_a1_n : Fld Z h0 a1 "java/lang/AbstractStringBuilder" "count" "I" (.int (Int32.ofNat cn))) (V_d : BL Z h0 d dk ds) (hmn : ds.length < mn) (qm : mn ≤ 400) :
    MetFree l (⟨"java/lang/AbstractStringBuilder", "newCapacity", "(I)I"⟩ : MethodName) (head1 (Jvm.Cond.code (⟨"java/lang/AbstractStringBuilder", "newCapacity", "(I)I"⟩ : MethodName) jdk_68_method_10_code 6 (some .int) :: ws) ({ frames := 2, cells := 0, slots := 0, locals := 29 } : Room)) (fun a U => a = #[(.ref a1), (.int (Int32.ofNat mn))] ∧ Z.Warmed39 U.vm ∧ U.heap = h0) (fun _ _ _ _ _ => True) (fun _ U o U' => ∃ v L, o = .returned v ∧ Q18 Z a1 cs d dk ds cn mn h0 n0 v U'.heap L ∧ FrameEnd U o U' L ({ frames := 2, cells := 0, slots := 0, locals := 29 } : Room).cells ({ frames := 2, cells := 0, slots := 0, locals := 29 } : Room).slots) := by
  refine MetFree.of_bodySF (plainFor_of_name pn_18) hisR ?_
  intro p e s m args below meth c s₁ Bd hml0 hP hK
  obtain ⟨rfl, hZ, hh⟩ := hP
  have hx := Bd.exec
  have hby := Bd.bytes
  have hml : c.maxLocals = 6 := hml0
  have hown0 := findClass_of_methodNamed Bd.named
  have hown : s.vm.findClass "java/lang/AbstractStringBuilder" = some m.cls := hown0
  have hnm := (name_of_methodNamed Bd.named Bd.method).1
  have X0 : Stand p l e ({ frames := 2, cells := 0, slots := 0, locals := 29 } : Room) s m #[(.ref a1), (.int (Int32.ofNat mn))] below meth c s₁ [] 0 0 := Stand.of_body Bd
  have e0 : s₁.heap = h0 := by rw [← hh, Bd.state]; rfl
  have N0 := Fr.nil n0
  have pre0 : ∀ t, Steps p.tables e below (s₁.setTop (mkF m 0 #[.val (.ref a1), .val (.int (Int32.ofNat mn)), .unset, .unset, .unset, .unset] [])) t → Steps p.tables e below (s₁.setTop (entryFrame m #[(.ref a1), (.int (Int32.ofNat mn))] 6)) t := fun t k => castTop (ef_18 m a1 ((Int32.ofNat mn))) k
  refine Classical.byContradiction fun hneg => ?_
  obtain ⟨T1, X1, e1, st1⟩ := getF X0 hx hZ hown (host := "") (Or.inl (hw _ (List.mem_of_getElem? (i := 41) rfl))) Via.refl e0 F_a1_v (g := (mkF m 1 #[.val (.ref a1), .val (.int (Int32.ofNat mn)), .unset, .unset, .unset, .unset] [(.ref a1)])) rfl rfl (hb hby d18_1)
  obtain ⟨cl2, Ar2, q2, S2_, N2_, H2_, G2_⟩ := V_d.1
  obtain ⟨T3, X3, e3, st3⟩ := getF X1 hx hZ hown (host := "") (Or.inl (hw _ (List.mem_of_getElem? (i := 43) rfl))) Via.refl e1 F_a1_c (g := (mkF m 8 #[.val (.ref a1), .val (.int (Int32.ofNat mn)), .val (.int (Int32.ofNat ds.length)), .unset, .unset, .unset] [(.ref a1), (.int (Int32.ofNat mn))])) rfl rfl (hb hby d18_8)
  have nq4 : ((Int32.ofNat mn) <<< ((0 : Int32) &&& 31)) = (Int32.ofNat mn) := shl0 _
  have nq5 : ((Int32.ofNat mn) - (Int32.ofNat ds.length)) = (Int32.ofNat (mn - ds.length)) := ofN_sub (by omega)
  obtain ⟨T6, X6, e6, st6⟩ := getF X3 hx hZ hown (host := "") (Or.inl (hw _ (List.mem_of_getElem? (i := 43) rfl))) Via.refl e3 F_a1_c (g := (mkF m 24 #[.val (.ref a1), .val (.int (Int32.ofNat mn)), .val (.int (Int32.ofNat ds.length)), .val (.int (Int32.ofNat mn)), .val (.int (Int32.ofNat (mn - ds.length))), .unset] [(.ref a1), (.int (2 : Int32)), (.int (Int32.ofNat ds.length)), (.int (Int32.ofNat (mn - ds.length))), (.int (Int32.ofNat ds.length))])) rfl rfl (hb hby d18_24)
  have nq7 : ((Int32.ofNat ds.length) + ((2 : Int32) <<< ((0 : Int32) &&& 31))) = (Int32.ofNat (ds.length + 2)) := by rw [shl0]; exact ofN_add _ 2
  obtain ⟨_, _, ⟨T8, L8, k8, n8⟩, -, X8, ⟨Lc8, hQ8, l8, y8, z8⟩, st8⟩ := Jvm.LawKit.callS X6 hx (y := (⟨"jdk/internal/util/ArraysSupport", "newLength", "(III)I"⟩ : MethodName)) hown (mvT hZ (hw _ (List.mem_of_getElem? (i := 121) rfl))) (mvT hZ (hw _ (List.mem_of_getElem? (i := 122) rfl))) (mvT hZ (hw _ (List.mem_of_getElem? (i := 123) rfl))) (mvT hZ (hw _ (List.mem_of_getElem? (i := 124) rfl))) (by decide) (backOf (W := 0) (rm19 l Z a0 hw []   h0 n0 (ds.length) ((mn - ds.length)) ((ds.length + 2)) (by omega) (by omega) (by omega) (by omega)) hZ (hw _ (List.mem_of_getElem? (i := 124) rfl)) (hw _ (List.mem_of_getElem? (i := 123) rfl)) (by decide) (by decide)) (g := (mkF m 29 #[.val (.ref a1), .val (.int (Int32.ofNat mn)), .val (.int (Int32.ofNat ds.length)), .val (.int (Int32.ofNat mn)), .val (.int (Int32.ofNat (mn - ds.length))), .unset] [(.int (Int32.ofNat (ds.length + 2))), (.int (Int32.ofNat (mn - ds.length))), (.int (Int32.ofNat ds.length))])) rfl (by rw [hml]; rfl) (argsL := [(.int (Int32.ofNat ds.length)), (.int (Int32.ofNat (mn - ds.length))), (.int (Int32.ofNat (ds.length + 2)))]) (rest := []) (lenOf pd4 rfl) rfl (by show 2 * 0 + _ ≤ _; exact Nat.le_of_eq rfl) (hb hby d18_29) (fun _ _ => ⟨rfl, e6, (by decide : 0 + 0 ≤ _), (by decide : 0 + 0 ≤ _)⟩)
  dsimp only [Pt.U, Pt.locs, Pt.cells, Pt.slots] at X8 l8 y8 z8 st8 hQ8
  subst l8 y8 z8
  obtain ⟨rfl, N8q, e8⟩ := hQ8
  have N8 := Fr.app N0 N8q
  obtain ⟨T9, X9, e9, st9⟩ := getF X8 hx hZ hown (host := "") (Or.inl (hw _ (List.mem_of_getElem? (i := 43) rfl))) Via.refl e8 F_a1_c (g := (mkF m 54 #[.val (.ref a1), .val (.int (Int32.ofNat mn)), .val (.int (Int32.ofNat ds.length)), .val (.int (Int32.ofNat mn)), .val (.int (Int32.ofNat (mn - ds.length))), .val (.int (Int32.ofNat (ds.length + max ((mn - ds.length)) ((ds.length + 2)))))] [(.ref a1), (.int (Int32.ofNat (ds.length + max ((mn - ds.length)) ((ds.length + 2)))))])) rfl rfl (hb hby d18_54)
  refine hneg ?_
  obtain ⟨fs, hr, hrun, hended, hW, hsame⟩ := X9.leave (v := some (.int ((Int32.ofNat (ds.length + max ((mn - ds.length)) ((ds.length + 2)))) >>> ((0 : Int32) &&& 31)))) (fun h => by rw [Bd.returns] at h; cases h)
  refine ⟨_, _, pre0 _ ?_, hrun, hended, _, _, rfl, ?_, ⟨_, rfl⟩, hW, hsame.mono (by decide) (by decide)⟩
  · show Steps p.tables e below (s₁.setTop (mkF m 0 #[.val (.ref a1), .val (.int (Int32.ofNat mn)), .unset, .unset, .unset, .unset] [])) _
    refine XS.aloadN X0.here hx rfl (hb hby d18_0) rfl rfl ?_
    show Steps p.tables e below (s₁.setTop (mkF m 1 #[.val (.ref a1), .val (.int (Int32.ofNat mn)), .unset, .unset, .unset, .unset] [(.ref a1)])) _
    refine st1 _ ?_
    show Steps p.tables e below (T1.setTop (mkF m 4 #[.val (.ref a1), .val (.int (Int32.ofNat mn)), .unset, .unset, .unset, .unset] [(.ref d)])) _
    refine X1.arraylength hx (by rw [e1]; exact Ar2.1) (State.isArrayOf_alike hZ.alike Ar2.2.1) (g := (mkF m 4 #[.val (.ref a1), .val (.int (Int32.ofNat mn)), .unset, .unset, .unset, .unset] [(.ref d)])) rfl rfl (hb hby d18_4) _ ?_
    rw [len_of S2_ N2_]
    show Steps p.tables e below (T1.setTop (mkF m 5 #[.val (.ref a1), .val (.int (Int32.ofNat mn)), .unset, .unset, .unset, .unset] [(.int (Int32.ofNat ds.length))])) _
    refine XS.istoreN X1.here hx rfl (hb hby d18_5) rfl (l' := #[.val (.ref a1), .val (.int (Int32.ofNat mn)), .val (.int (Int32.ofNat ds.length)), .unset, .unset, .unset]) rfl ?_
    show Steps p.tables e below (T1.setTop (mkF m 6 #[.val (.ref a1), .val (.int (Int32.ofNat mn)), .val (.int (Int32.ofNat ds.length)), .unset, .unset, .unset] [])) _
    refine XS.iloadN X1.here hx rfl (hb hby d18_6) rfl ?_
    show Steps p.tables e below (T1.setTop (mkF m 7 #[.val (.ref a1), .val (.int (Int32.ofNat mn)), .val (.int (Int32.ofNat ds.length)), .unset, .unset, .unset] [(.int (Int32.ofNat mn))])) _
    refine XS.aloadN X1.here hx rfl (hb hby d18_7) rfl rfl ?_
    show Steps p.tables e below (T1.setTop (mkF m 8 #[.val (.ref a1), .val (.int (Int32.ofNat mn)), .val (.int (Int32.ofNat ds.length)), .unset, .unset, .unset] [(.ref a1), (.int (Int32.ofNat mn))])) _
    refine st3 _ ?_
    show Steps p.tables e below (T3.setTop (mkF m 11 #[.val (.ref a1), .val (.int (Int32.ofNat mn)), .val (.int (Int32.ofNat ds.length)), .unset, .unset, .unset] [(.int (0 : Int32)), (.int (Int32.ofNat mn))])) _
    refine XS.ishl X3.here hx rfl (hb hby d18_11) rfl ?_
    show Steps p.tables e below (T3.setTop (mkF m 12 #[.val (.ref a1), .val (.int (Int32.ofNat mn)), .val (.int (Int32.ofNat ds.length)), .unset, .unset, .unset] [(.int ((Int32.ofNat mn) <<< ((0 : Int32) &&& 31)))])) _
    rw [nq4]
    show Steps p.tables e below (T3.setTop (mkF m 12 #[.val (.ref a1), .val (.int (Int32.ofNat mn)), .val (.int (Int32.ofNat ds.length)), .unset, .unset, .unset] [(.int (Int32.ofNat mn))])) _
    refine XS.istoreN X3.here hx rfl (hb hby d18_12) rfl (l' := #[.val (.ref a1), .val (.int (Int32.ofNat mn)), .val (.int (Int32.ofNat ds.length)), .val (.int (Int32.ofNat mn)), .unset, .unset]) rfl ?_
    show Steps p.tables e below (T3.setTop (mkF m 13 #[.val (.ref a1), .val (.int (Int32.ofNat mn)), .val (.int (Int32.ofNat ds.length)), .val (.int (Int32.ofNat mn)), .unset, .unset] [])) _
    refine XS.iloadN X3.here hx rfl (hb hby d18_13) rfl ?_
    show Steps p.tables e below (T3.setTop (mkF m 14 #[.val (.ref a1), .val (.int (Int32.ofNat mn)), .val (.int (Int32.ofNat ds.length)), .val (.int (Int32.ofNat mn)), .unset, .unset] [(.int (Int32.ofNat mn))])) _
    refine XS.iloadN X3.here hx rfl (hb hby d18_14) rfl ?_
    show Steps p.tables e below (T3.setTop (mkF m 15 #[.val (.ref a1), .val (.int (Int32.ofNat mn)), .val (.int (Int32.ofNat ds.length)), .val (.int (Int32.ofNat mn)), .unset, .unset] [(.int (Int32.ofNat ds.length)), (.int (Int32.ofNat mn))])) _
    refine XS.isub X3.here hx rfl (hb hby d18_15) rfl ?_
    show Steps p.tables e below (T3.setTop (mkF m 16 #[.val (.ref a1), .val (.int (Int32.ofNat mn)), .val (.int (Int32.ofNat ds.length)), .val (.int (Int32.ofNat mn)), .unset, .unset] [(.int ((Int32.ofNat mn) - (Int32.ofNat ds.length)))])) _
    rw [nq5]
    show Steps p.tables e below (T3.setTop (mkF m 16 #[.val (.ref a1), .val (.int (Int32.ofNat mn)), .val (.int (Int32.ofNat ds.length)), .val (.int (Int32.ofNat mn)), .unset, .unset] [(.int (Int32.ofNat (mn - ds.length)))])) _
    refine XS.istore X3.here hx rfl (hb hby d18_16) rfl (l' := #[.val (.ref a1), .val (.int (Int32.ofNat mn)), .val (.int (Int32.ofNat ds.length)), .val (.int (Int32.ofNat mn)), .val (.int (Int32.ofNat (mn - ds.length))), .unset]) rfl ?_
    show Steps p.tables e below (T3.setTop (mkF m 18 #[.val (.ref a1), .val (.int (Int32.ofNat mn)), .val (.int (Int32.ofNat ds.length)), .val (.int (Int32.ofNat mn)), .val (.int (Int32.ofNat (mn - ds.length))), .unset] [])) _
    refine XS.iloadN X3.here hx rfl (hb hby d18_18) rfl ?_
    show Steps p.tables e below (T3.setTop (mkF m 19 #[.val (.ref a1), .val (.int (Int32.ofNat mn)), .val (.int (Int32.ofNat ds.length)), .val (.int (Int32.ofNat mn)), .val (.int (Int32.ofNat (mn - ds.length))), .unset] [(.int (Int32.ofNat ds.length))])) _
    refine XS.iload X3.here hx rfl (hb hby d18_19) rfl ?_
    show Steps p.tables e below (T3.setTop (mkF m 21 #[.val (.ref a1), .val (.int (Int32.ofNat mn)), .val (.int (Int32.ofNat ds.length)), .val (.int (Int32.ofNat mn)), .val (.int (Int32.ofNat (mn - ds.length))), .unset] [(.int (Int32.ofNat (mn - ds.length))), (.int (Int32.ofNat ds.length))])) _
    refine XS.iloadN X3.here hx rfl (hb hby d18_21) rfl ?_
    show Steps p.tables e below (T3.setTop (mkF m 22 #[.val (.ref a1), .val (.int (Int32.ofNat mn)), .val (.int (Int32.ofNat ds.length)), .val (.int (Int32.ofNat mn)), .val (.int (Int32.ofNat (mn - ds.length))), .unset] [(.int (Int32.ofNat ds.length)), (.int (Int32.ofNat (mn - ds.length))), (.int (Int32.ofNat ds.length))])) _
    refine XS.iconst X3.here hx rfl (hb hby d18_22) ?_
    show Steps p.tables e below (T3.setTop (mkF m 23 #[.val (.ref a1), .val (.int (Int32.ofNat mn)), .val (.int (Int32.ofNat ds.length)), .val (.int (Int32.ofNat mn)), .val (.int (Int32.ofNat (mn - ds.length))), .unset] [(.int (2 : Int32)), (.int (Int32.ofNat ds.length)), (.int (Int32.ofNat (mn - ds.length))), (.int (Int32.ofNat ds.length))])) _
    refine XS.aloadN X3.here hx rfl (hb hby d18_23) rfl rfl ?_
    show Steps p.tables e below (T3.setTop (mkF m 24 #[.val (.ref a1), .val (.int (Int32.ofNat mn)), .val (.int (Int32.ofNat ds.length)), .val (.int (Int32.ofNat mn)), .val (.int (Int32.ofNat (mn - ds.length))), .unset] [(.ref a1), (.int (2 : Int32)), (.int (Int32.ofNat ds.length)), (.int (Int32.ofNat (mn - ds.length))), (.int (Int32.ofNat ds.length))])) _
    refine st6 _ ?_
    show Steps p.tables e below (T6.setTop (mkF m 27 #[.val (.ref a1), .val (.int (Int32.ofNat mn)), .val (.int (Int32.ofNat ds.length)), .val (.int (Int32.ofNat mn)), .val (.int (Int32.ofNat (mn - ds.length))), .unset] [(.int (0 : Int32)), (.int (2 : Int32)), (.int (Int32.ofNat ds.length)), (.int (Int32.ofNat (mn - ds.length))), (.int (Int32.ofNat ds.length))])) _
    refine XS.ishl X6.here hx rfl (hb hby d18_27) rfl ?_
    show Steps p.tables e below (T6.setTop (mkF m 28 #[.val (.ref a1), .val (.int (Int32.ofNat mn)), .val (.int (Int32.ofNat ds.length)), .val (.int (Int32.ofNat mn)), .val (.int (Int32.ofNat (mn - ds.length))), .unset] [(.int ((2 : Int32) <<< ((0 : Int32) &&& 31))), (.int (Int32.ofNat ds.length)), (.int (Int32.ofNat (mn - ds.length))), (.int (Int32.ofNat ds.length))])) _
    refine XS.iadd X6.here hx rfl (hb hby d18_28) rfl ?_
    show Steps p.tables e below (T6.setTop (mkF m 29 #[.val (.ref a1), .val (.int (Int32.ofNat mn)), .val (.int (Int32.ofNat ds.length)), .val (.int (Int32.ofNat mn)), .val (.int (Int32.ofNat (mn - ds.length))), .unset] [(.int ((Int32.ofNat ds.length) + ((2 : Int32) <<< ((0 : Int32) &&& 31)))), (.int (Int32.ofNat (mn - ds.length))), (.int (Int32.ofNat ds.length))])) _
    rw [nq7]
    show Steps p.tables e below (T6.setTop (mkF m 29 #[.val (.ref a1), .val (.int (Int32.ofNat mn)), .val (.int (Int32.ofNat ds.length)), .val (.int (Int32.ofNat mn)), .val (.int (Int32.ofNat (mn - ds.length))), .unset] [(.int (Int32.ofNat (ds.length + 2))), (.int (Int32.ofNat (mn - ds.length))), (.int (Int32.ofNat ds.length))])) _
    refine st8 _ ?_
    show Steps p.tables e below (T8.setTop (mkF m 32 #[.val (.ref a1), .val (.int (Int32.ofNat mn)), .val (.int (Int32.ofNat ds.length)), .val (.int (Int32.ofNat mn)), .val (.int (Int32.ofNat (mn - ds.length))), .unset] [(.int (Int32.ofNat (ds.length + max ((mn - ds.length)) ((ds.length + 2)))))])) _
    refine XS.istore X8.here hx rfl (hb hby d18_32) rfl (l' := #[.val (.ref a1), .val (.int (Int32.ofNat mn)), .val (.int (Int32.ofNat ds.length)), .val (.int (Int32.ofNat mn)), .val (.int (Int32.ofNat (mn - ds.length))), .val (.int (Int32.ofNat (ds.length + max ((mn - ds.length)) ((ds.length + 2)))))]) rfl ?_
    show Steps p.tables e below (T8.setTop (mkF m 34 #[.val (.ref a1), .val (.int (Int32.ofNat mn)), .val (.int (Int32.ofNat ds.length)), .val (.int (Int32.ofNat mn)), .val (.int (Int32.ofNat (mn - ds.length))), .val (.int (Int32.ofNat (ds.length + max ((mn - ds.length)) ((ds.length + 2)))))] [])) _
    refine XS.iload X8.here hx rfl (hb hby d18_34) rfl ?_
    show Steps p.tables e below (T8.setTop (mkF m 36 #[.val (.ref a1), .val (.int (Int32.ofNat mn)), .val (.int (Int32.ofNat ds.length)), .val (.int (Int32.ofNat mn)), .val (.int (Int32.ofNat (mn - ds.length))), .val (.int (Int32.ofNat (ds.length + max ((mn - ds.length)) ((ds.length + 2)))))] [(.int (Int32.ofNat (ds.length + max ((mn - ds.length)) ((ds.length + 2)))))])) _
    refine X8.ldcInt hx hown (mvT hZ (hw _ (List.mem_of_getElem? (i := 130) rfl))) (g := (mkF m 36 #[.val (.ref a1), .val (.int (Int32.ofNat mn)), .val (.int (Int32.ofNat ds.length)), .val (.int (Int32.ofNat mn)), .val (.int (Int32.ofNat (mn - ds.length))), .val (.int (Int32.ofNat (ds.length + max ((mn - ds.length)) ((ds.length + 2)))))] [(.int (Int32.ofNat (ds.length + max ((mn - ds.length)) ((ds.length + 2)))))])) rfl (hb hby d18_36) _ ?_
    show Steps p.tables e below (T8.setTop (mkF m 38 #[.val (.ref a1), .val (.int (Int32.ofNat mn)), .val (.int (Int32.ofNat ds.length)), .val (.int (Int32.ofNat mn)), .val (.int (Int32.ofNat (mn - ds.length))), .val (.int (Int32.ofNat (ds.length + max ((mn - ds.length)) ((ds.length + 2)))))] [(.int (2147483647 : Int32)), (.int (Int32.ofNat (ds.length + max ((mn - ds.length)) ((ds.length + 2)))))])) _
    refine XS.icmpYes X8.here hx rfl (pc0 := 38) (pc' := 51) rfl (hb hby d18_38) rfl (feq (ofN_bound (by omega) _ (c := 2147483647) (by decide) (by decide)).2).2 (by decide) (by decide) ?_
    show Steps p.tables e below (T8.setTop (mkF m 51 #[.val (.ref a1), .val (.int (Int32.ofNat mn)), .val (.int (Int32.ofNat ds.length)), .val (.int (Int32.ofNat mn)), .val (.int (Int32.ofNat (mn - ds.length))), .val (.int (Int32.ofNat (ds.length + max ((mn - ds.length)) ((ds.length + 2)))))] [])) _
    refine XS.iload X8.here hx rfl (hb hby d18_51) rfl ?_
    show Steps p.tables e below (T8.setTop (mkF m 53 #[.val (.ref a1), .val (.int (Int32.ofNat mn)), .val (.int (Int32.ofNat ds.length)), .val (.int (Int32.ofNat mn)), .val (.int (Int32.ofNat (mn - ds.length))), .val (.int (Int32.ofNat (ds.length + max ((mn - ds.length)) ((ds.length + 2)))))] [(.int (Int32.ofNat (ds.length + max ((mn - ds.length)) ((ds.length + 2)))))])) _
    refine XS.aloadN X8.here hx rfl (hb hby d18_53) rfl rfl ?_
    show Steps p.tables e below (T8.setTop (mkF m 54 #[.val (.ref a1), .val (.int (Int32.ofNat mn)), .val (.int (Int32.ofNat ds.length)), .val (.int (Int32.ofNat mn)), .val (.int (Int32.ofNat (mn - ds.length))), .val (.int (Int32.ofNat (ds.length + max ((mn - ds.length)) ((ds.length + 2)))))] [(.ref a1), (.int (Int32.ofNat (ds.length + max ((mn - ds.length)) ((ds.length + 2)))))])) _
    refine st9 _ ?_
    show Steps p.tables e below (T9.setTop (mkF m 57 #[.val (.ref a1), .val (.int (Int32.ofNat mn)), .val (.int (Int32.ofNat ds.length)), .val (.int (Int32.ofNat mn)), .val (.int (Int32.ofNat (mn - ds.length))), .val (.int (Int32.ofNat (ds.length + max ((mn - ds.length)) ((ds.length + 2)))))] [(.int (0 : Int32)), (.int (Int32.ofNat (ds.length + max ((mn - ds.length)) ((ds.length + 2)))))])) _
    refine XS.ishr X9.here hx rfl (hb hby d18_57) rfl ?_
    show Steps p.tables e below (T9.setTop (mkF m 58 #[.val (.ref a1), .val (.int (Int32.ofNat mn)), .val (.int (Int32.ofNat ds.length)), .val (.int (Int32.ofNat mn)), .val (.int (Int32.ofNat (mn - ds.length))), .val (.int (Int32.ofNat (ds.length + max ((mn - ds.length)) ((ds.length + 2)))))] [(.int ((Int32.ofNat (ds.length + max ((mn - ds.length)) ((ds.length + 2)))) >>> ((0 : Int32) &&& 31)))])) _
    exact retI X9 hx Bd.returns (hb hby d18_58) hr
  · show Q18 Z a1 cs d dk ds cn mn h0 n0 _ T9.heap _
    rw [e9]
    exact ⟨by rw [show ((Int32.ofNat (ds.length + max ((mn - ds.length)) ((ds.length + 2)))) >>> ((0 : Int32) &&& 31)) = (Int32.ofNat (max mn (2 * ds.length + 2))) from (by rw [shr0]; congr 1; omega)], N8, rfl⟩

theorem d21_0 : decode jdk_65_method_121_code 0 = .ok (.iload_n 1, 1) := by decide +kernel
theorem d21_1 : decode jdk_65_method_121_code 1 = .ok (.aload_n 0, 1) := by decide +kernel
theorem d21_2 : decode jdk_65_method_121_code 2 = .ok (.arraylength, 1) := by decide +kernel
theorem d21_3 : decode jdk_65_method_121_code 3 = .ok (.if_icmp .ne 11, 3) := by decide +kernel
theorem d21_14 : decode jdk_65_method_121_code 14 = .ok (.iload_n 1, 1) := by decide +kernel
theorem d21_15 : decode jdk_65_method_121_code 15 = .ok (.newarray .byte, 2) := by decide +kernel
theorem d21_17 : decode jdk_65_method_121_code 17 = .ok (.astore_n 2, 1) := by decide +kernel
theorem d21_18 : decode jdk_65_method_121_code 18 = .ok (.aload_n 0, 1) := by decide +kernel
theorem d21_19 : decode jdk_65_method_121_code 19 = .ok (.iconst 0, 1) := by decide +kernel
theorem d21_20 : decode jdk_65_method_121_code 20 = .ok (.aload_n 2, 1) := by decide +kernel
theorem d21_21 : decode jdk_65_method_121_code 21 = .ok (.iconst 0, 1) := by decide +kernel
theorem d21_22 : decode jdk_65_method_121_code 22 = .ok (.aload_n 0, 1) := by decide +kernel
theorem d21_23 : decode jdk_65_method_121_code 23 = .ok (.arraylength, 1) := by decide +kernel
theorem d21_24 : decode jdk_65_method_121_code 24 = .ok (.iload_n 1, 1) := by decide +kernel
theorem d21_25 : decode jdk_65_method_121_code 25 = .ok (.invokestatic 304, 3) := by decide +kernel
theorem d21_28 : decode jdk_65_method_121_code 28 = .ok (.invokestatic 150, 3) := by decide +kernel
theorem d21_31 : decode jdk_65_method_121_code 31 = .ok (.aload_n 2, 1) := by decide +kernel
theorem d21_32 : decode jdk_65_method_121_code 32 = .ok (.areturn, 1) := by decide +kernel
theorem pn_21 : plainName "java/util/Arrays" = true := by first | (simp [plainName, overriddenIn]; done) | decide +kernel
theorem ef_21 (m : MethodId) (a1 : Addr) (zf1 : Int32) : entryFrame m #[(.ref a1), (.int zf1)] 3 = mkF m 0 #[.val (.ref a1), .val (.int zf1), .unset] [] := by first | (simp [entryFrame, mkF, argsToLocals, Value.category]; done) | rfl
def Q21 (Z : State) (a1 : Addr) (k : ClassId) (bs : List Int32) (mn : Nat) (h0 : Heap) (n0 : Nat) (v : Option Value) (h : Heap) (L : List Loc) : Prop := ∃ (d' : Addr) (k' : ClassId) (bs' : List Int32), v = some (.ref d') ∧ Fr n0 L ∧ Keep h0 h [] ∧ BL Z h d' k' bs' ∧ bs'.length = mn ∧ bs'.take bs.length = bs ∧ h0.size ≤ d'
set_option maxRecDepth 65536 in
set_option maxHeartbeats 40000000 in
theorem rm21 (l : Launch) (Z : State) (a0 : Array Value) (hw : ∀ d ∈ tables_1, d.before a0 Z = true) (ws : List Jvm.Cond) (a1 : Addr) (h0 : Heap) (n0 : Nat) (k : ClassId) (bs : List Int32) (mn : Nat) (V_a1 : BL Z h0 a1 k bs) (hm : bs.length < mn) (hm2 : mn ≤ 142) (Z0 : n0 ≤ h0.size) :
    MetFree l (⟨"java/util/Arrays", "copyOf", "([BI)[B"⟩ : MethodName) (head1 (Jvm.Cond.code (⟨"java/util/Arrays", "copyOf", "([BI)[B"⟩ : MethodName) jdk_65_method_121_code 3 (some (.array .byte)) :: ws) ({ frames := 1, cells := 1, slots := 142, locals := 50 } : Room)) (fun a U => a = #[(.ref a1), (.int (Int32.ofNat mn))] ∧ Z.Warmed39 U.vm ∧ U.heap = h0) (fun _ _ _ _ _ => True) (fun _ U o U' => ∃ v L, o = .returned v ∧ Q21 Z a1 k bs mn h0 n0 v U'.heap L ∧ FrameEnd U o U' L ({ frames := 1, cells := 1, slots := 142, locals := 50 } : Room).cells ({ frames := 1, cells := 1, slots := 142, locals := 50 } : Room).slots) := by
  refine MetFree.of_bodySF (plainFor_of_name pn_21) hisR ?_
  intro p e s m args below meth c s₁ Bd hml0 hP hK
  obtain ⟨rfl, hZ, hh⟩ := hP
  have hx := Bd.exec
  have hby := Bd.bytes
  have hml : c.maxLocals = 3 := hml0
  have hown0 := findClass_of_methodNamed Bd.named
  have hown : s.vm.findClass "java/util/Arrays" = some m.cls := hown0
  have hnm := (name_of_methodNamed Bd.named Bd.method).1
  have X0 : Stand p l e ({ frames := 1, cells := 1, slots := 142, locals := 50 } : Room) s m #[(.ref a1), (.int (Int32.ofNat mn))] below meth c s₁ [] 0 0 := Stand.of_body Bd
  have e0 : s₁.heap = h0 := by rw [← hh, Bd.state]; rfl
  have N0 := Fr.nil n0
  have pre0 : ∀ t, Steps p.tables e below (s₁.setTop (mkF m 0 #[.val (.ref a1), .val (.int (Int32.ofNat mn)), .unset] [])) t → Steps p.tables e below (s₁.setTop (entryFrame m #[(.ref a1), (.int (Int32.ofNat mn))] 3)) t := fun t k => castTop (ef_21 m a1 ((Int32.ofNat mn))) k
  refine Classical.byContradiction fun hneg => ?_
  obtain ⟨cl1, Ar1, q1, S1_, N1_, H1_, G1_⟩ := V_a1.1
  obtain ⟨T2, h2, k2, X2, e2, E2, V2, st2⟩ := newB X0 hx hZ (hw _ (List.mem_of_getElem? (i := 40) rfl)) e0 (g := (mkF m 15 #[.val (.ref a1), .val (.int (Int32.ofNat mn)), .unset] [(.int (Int32.ofNat mn))])) rfl (hb hby d21_15) (n := mn) rfl (cap := 142) hm2 (by decide) (by decide) (by decide)
  obtain ⟨b2, g2⟩ : ∃ z, z = h0.size := ⟨_, rfl⟩
  rw [← g2] at V2 st2
  have ne_a1_b2 : a1 ≠ b2 := Nat.ne_of_lt (Nat.lt_of_lt_of_le V_a1.lt (Nat.le_of_eq g2.symm))
  have g_b2 : n0 ≤ b2 := Nat.le_trans Z0 (Nat.le_of_eq g2.symm)
  have sz_b2 : h0.size ≤ b2 := Nat.le_trans (Keep.refl h0 []).1 (Nat.le_of_eq g2.symm)
  have V_a1_2 := V_a1.ext E2
  have K2 : Keep h0 h2 [] := (Keep.refl h0 []).ext E2
  have Z2 : n0 ≤ h2.size := Nat.le_trans Z0 E2.1
  obtain ⟨cl3, Ar3, q3, S3_, N3_, H3_, G3_⟩ := V_a1_2.1
  obtain ⟨_, _, ⟨T4, L4, k4, n4⟩, -, X4, ⟨Lc4, hQ4, l4, y4, z4⟩, st4⟩ := Jvm.LawKit.callS X2 hx (y := (⟨"java/lang/Math", "min", "(II)I"⟩ : MethodName)) hown (mvT hZ (hw _ (List.mem_of_getElem? (i := 135) rfl))) (mvT hZ (hw _ (List.mem_of_getElem? (i := 136) rfl))) (mvT hZ (hw _ (List.mem_of_getElem? (i := 127) rfl))) (mvT hZ (hw _ (List.mem_of_getElem? (i := 137) rfl))) (by decide) (backOf (W := 4) (rm22 l Z a0 hw [] (Int32.ofNat bs.length) (Int32.ofNat mn)  h2 n0  ) hZ (hw _ (List.mem_of_getElem? (i := 137) rfl)) (hw _ (List.mem_of_getElem? (i := 127) rfl)) (by decide) (by decide)) (g := (mkF m 25 #[.val (.ref a1), .val (.int (Int32.ofNat mn)), .val (.ref b2)] [(.int (Int32.ofNat mn)), (.int (Int32.ofNat bs.length)), (.int (0 : Int32)), (.ref b2), (.int (0 : Int32)), (.ref a1)])) rfl (by rw [hml]; rfl) (argsL := [(.int (Int32.ofNat bs.length)), (.int (Int32.ofNat mn))]) (rest := [(.int (0 : Int32)), (.ref b2), (.int (0 : Int32)), (.ref a1)]) (lenOf pd3 rfl) rfl (by show 2 * 0 + _ ≤ _; exact Nat.le_of_eq rfl) (hb hby d21_25) (fun _ _ => ⟨rfl, e2, (by decide : 1 + 0 ≤ _), (by decide : 142 + 0 ≤ _)⟩)
  dsimp only [Pt.U, Pt.locs, Pt.cells, Pt.slots] at X4 l4 y4 z4 st4 hQ4
  subst l4 y4 z4
  obtain ⟨rfl, N4q, e4⟩ := hQ4
  have N4 := Fr.app N0 N4q
  have nq5 : (f22 (Int32.ofNat bs.length) (Int32.ofNat mn)) = (Int32.ofNat bs.length) := by rw [f22_of (by omega) (by omega)]; congr 1; omega
  obtain ⟨T6, h6, L6, X6, e6, N6, Kc6, V6, st6⟩ := cpB X4 hx hZ hown (hw _ (List.mem_of_getElem? (i := 138) rfl)) (hw _ (List.mem_of_getElem? (i := 100) rfl)) (hw _ (List.mem_of_getElem? (i := 98) rfl)) (hw _ (List.mem_of_getElem? (i := 99) rfl)) e4 V_a1_2.b0 V2 (sp := 0) (dp := 0) (nn := bs.length) (by omega) (by simp; omega) N4 g_b2 (g := (mkF m 28 #[.val (.ref a1), .val (.int (Int32.ofNat mn)), .val (.ref b2)] [(.int (Int32.ofNat bs.length)), (.int (0 : Int32)), (.ref b2), (.int (0 : Int32)), (.ref a1)])) rfl (by rw [hml]; rfl) (rest := []) rfl (hb hby d21_28) (by decide) (W := 0) (by show 2 * 0 + _ ≤ _; exact Nat.le_of_eq rfl) (by decide)
  have V_a1_6 := V_a1_2.keep Kc6 (ninS ne_a1_b2 nin0)
  have K6 : Keep h0 h6 [] := K2.trans Kc6 (allS (P := fun x => x ∈ ([] : List Addr) ∨ h0.size ≤ x) (Or.inr sz_b2) all0)
  have Z6 : n0 ≤ h6.size := Nat.le_trans Z2 Kc6.1
  refine hneg ?_
  obtain ⟨fs, hr, hrun, hended, hW, hsame⟩ := X6.leave (v := some (.ref b2)) (fun h => by rw [Bd.returns] at h; cases h)
  refine ⟨_, _, pre0 _ ?_, hrun, hended, _, _, rfl, ?_, ⟨_, rfl⟩, hW, hsame.mono (by decide) (by decide)⟩
  · show Steps p.tables e below (s₁.setTop (mkF m 0 #[.val (.ref a1), .val (.int (Int32.ofNat mn)), .unset] [])) _
    refine XS.iloadN X0.here hx rfl (hb hby d21_0) rfl ?_
    show Steps p.tables e below (s₁.setTop (mkF m 1 #[.val (.ref a1), .val (.int (Int32.ofNat mn)), .unset] [(.int (Int32.ofNat mn))])) _
    refine XS.aloadN X0.here hx rfl (hb hby d21_1) rfl rfl ?_
    show Steps p.tables e below (s₁.setTop (mkF m 2 #[.val (.ref a1), .val (.int (Int32.ofNat mn)), .unset] [(.ref a1), (.int (Int32.ofNat mn))])) _
    refine X0.arraylength hx (by rw [e0]; exact Ar1.1) (State.isArrayOf_alike hZ.alike Ar1.2.1) (g := (mkF m 2 #[.val (.ref a1), .val (.int (Int32.ofNat mn)), .unset] [(.ref a1), (.int (Int32.ofNat mn))])) rfl rfl (hb hby d21_2) _ ?_
    rw [len_of S1_ N1_]
    show Steps p.tables e below (s₁.setTop (mkF m 3 #[.val (.ref a1), .val (.int (Int32.ofNat mn)), .unset] [(.int (Int32.ofNat bs.length)), (.int (Int32.ofNat mn))])) _
    refine XS.icmpYes X0.here hx rfl (pc0 := 3) (pc' := 14) rfl (hb hby d21_3) rfl (feq (fun q => by rw [ofN_eq (by omega) (by omega)] at q; omega)).2 (by decide) (by decide) ?_
    show Steps p.tables e below (s₁.setTop (mkF m 14 #[.val (.ref a1), .val (.int (Int32.ofNat mn)), .unset] [])) _
    refine XS.iloadN X0.here hx rfl (hb hby d21_14) rfl ?_
    show Steps p.tables e below (s₁.setTop (mkF m 15 #[.val (.ref a1), .val (.int (Int32.ofNat mn)), .unset] [(.int (Int32.ofNat mn))])) _
    refine st2 _ ?_
    show Steps p.tables e below (T2.setTop (mkF m 17 #[.val (.ref a1), .val (.int (Int32.ofNat mn)), .unset] [(.ref b2)])) _
    refine XS.astoreN X2.here hx rfl (hb hby d21_17) rfl rfl (l' := #[.val (.ref a1), .val (.int (Int32.ofNat mn)), .val (.ref b2)]) rfl ?_
    show Steps p.tables e below (T2.setTop (mkF m 18 #[.val (.ref a1), .val (.int (Int32.ofNat mn)), .val (.ref b2)] [])) _
    refine XS.aloadN X2.here hx rfl (hb hby d21_18) rfl rfl ?_
    show Steps p.tables e below (T2.setTop (mkF m 19 #[.val (.ref a1), .val (.int (Int32.ofNat mn)), .val (.ref b2)] [(.ref a1)])) _
    refine XS.iconst X2.here hx rfl (hb hby d21_19) ?_
    show Steps p.tables e below (T2.setTop (mkF m 20 #[.val (.ref a1), .val (.int (Int32.ofNat mn)), .val (.ref b2)] [(.int (0 : Int32)), (.ref a1)])) _
    refine XS.aloadN X2.here hx rfl (hb hby d21_20) rfl rfl ?_
    show Steps p.tables e below (T2.setTop (mkF m 21 #[.val (.ref a1), .val (.int (Int32.ofNat mn)), .val (.ref b2)] [(.ref b2), (.int (0 : Int32)), (.ref a1)])) _
    refine XS.iconst X2.here hx rfl (hb hby d21_21) ?_
    show Steps p.tables e below (T2.setTop (mkF m 22 #[.val (.ref a1), .val (.int (Int32.ofNat mn)), .val (.ref b2)] [(.int (0 : Int32)), (.ref b2), (.int (0 : Int32)), (.ref a1)])) _
    refine XS.aloadN X2.here hx rfl (hb hby d21_22) rfl rfl ?_
    show Steps p.tables e below (T2.setTop (mkF m 23 #[.val (.ref a1), .val (.int (Int32.ofNat mn)), .val (.ref b2)] [(.ref a1), (.int (0 : Int32)), (.ref b2), (.int (0 : Int32)), (.ref a1)])) _
    refine X2.arraylength hx (by rw [e2]; exact Ar3.1) (State.isArrayOf_alike hZ.alike Ar3.2.1) (g := (mkF m 23 #[.val (.ref a1), .val (.int (Int32.ofNat mn)), .val (.ref b2)] [(.ref a1), (.int (0 : Int32)), (.ref b2), (.int (0 : Int32)), (.ref a1)])) rfl rfl (hb hby d21_23) _ ?_
    rw [len_of S3_ N3_]
    show Steps p.tables e below (T2.setTop (mkF m 24 #[.val (.ref a1), .val (.int (Int32.ofNat mn)), .val (.ref b2)] [(.int (Int32.ofNat bs.length)), (.int (0 : Int32)), (.ref b2), (.int (0 : Int32)), (.ref a1)])) _
    refine XS.iloadN X2.here hx rfl (hb hby d21_24) rfl ?_
    show Steps p.tables e below (T2.setTop (mkF m 25 #[.val (.ref a1), .val (.int (Int32.ofNat mn)), .val (.ref b2)] [(.int (Int32.ofNat mn)), (.int (Int32.ofNat bs.length)), (.int (0 : Int32)), (.ref b2), (.int (0 : Int32)), (.ref a1)])) _
    refine st4 _ ?_
    show Steps p.tables e below (T4.setTop (mkF m 28 #[.val (.ref a1), .val (.int (Int32.ofNat mn)), .val (.ref b2)] [(.int (f22 (Int32.ofNat bs.length) (Int32.ofNat mn))), (.int (0 : Int32)), (.ref b2), (.int (0 : Int32)), (.ref a1)])) _
    rw [nq5]
    show Steps p.tables e below (T4.setTop (mkF m 28 #[.val (.ref a1), .val (.int (Int32.ofNat mn)), .val (.ref b2)] [(.int (Int32.ofNat bs.length)), (.int (0 : Int32)), (.ref b2), (.int (0 : Int32)), (.ref a1)])) _
    refine st6 _ ?_
    show Steps p.tables e below (T6.setTop (mkF m 31 #[.val (.ref a1), .val (.int (Int32.ofNat mn)), .val (.ref b2)] [])) _
    refine XS.aloadN X6.here hx rfl (hb hby d21_31) rfl rfl ?_
    show Steps p.tables e below (T6.setTop (mkF m 32 #[.val (.ref a1), .val (.int (Int32.ofNat mn)), .val (.ref b2)] [(.ref b2)])) _
    exact retOut X6 hx (t := (.array .byte)) Bd.returns rfl (Or.inr (Or.inr (Or.inr (Or.inr ⟨rfl, rfl, rfl⟩)))) (hb hby d21_32) hr
  · show Q21 Z a1 k bs mn h0 n0 _ T6.heap _
    rw [e6]
    exact ⟨_, _, _, rfl, N6, K6, V6, by simp; omega, by simp, sz_b2⟩

theorem d11_0 : decode jdk_68_method_9_code 0 = .ok (.aload_n 0, 1) := by decide +kernel
theorem d11_1 : decode jdk_68_method_9_code 1 = .ok (.getfield 15, 3) := by decide +kernel
theorem d11_4 : decode jdk_68_method_9_code 4 = .ok (.arraylength, 1) := by decide +kernel
theorem d11_5 : decode jdk_68_method_9_code 5 = .ok (.aload_n 0, 1) := by decide +kernel
theorem d11_6 : decode jdk_68_method_9_code 6 = .ok (.getfield 22, 3) := by decide +kernel
theorem d11_9 : decode jdk_68_method_9_code 9 = .ok (.ishr, 1) := by decide +kernel
theorem d11_10 : decode jdk_68_method_9_code 10 = .ok (.istore_n 2, 1) := by decide +kernel
theorem d11_11 : decode jdk_68_method_9_code 11 = .ok (.iload_n 1, 1) := by decide +kernel
theorem d11_12 : decode jdk_68_method_9_code 12 = .ok (.iload_n 2, 1) := by decide +kernel
theorem d11_13 : decode jdk_68_method_9_code 13 = .ok (.isub, 1) := by decide +kernel
theorem d11_14 : decode jdk_68_method_9_code 14 = .ok (.ifCond .le 24, 3) := by decide +kernel
theorem d11_17 : decode jdk_68_method_9_code 17 = .ok (.aload_n 0, 1) := by decide +kernel
theorem d11_18 : decode jdk_68_method_9_code 18 = .ok (.aload_n 0, 1) := by decide +kernel
theorem d11_19 : decode jdk_68_method_9_code 19 = .ok (.getfield 15, 3) := by decide +kernel
theorem d11_22 : decode jdk_68_method_9_code 22 = .ok (.aload_n 0, 1) := by decide +kernel
theorem d11_23 : decode jdk_68_method_9_code 23 = .ok (.iload_n 1, 1) := by decide +kernel
theorem d11_24 : decode jdk_68_method_9_code 24 = .ok (.invokevirtual 104, 3) := by decide +kernel
theorem d11_27 : decode jdk_68_method_9_code 27 = .ok (.aload_n 0, 1) := by decide +kernel
theorem d11_28 : decode jdk_68_method_9_code 28 = .ok (.getfield 22, 3) := by decide +kernel
theorem d11_31 : decode jdk_68_method_9_code 31 = .ok (.ishl, 1) := by decide +kernel
theorem d11_32 : decode jdk_68_method_9_code 32 = .ok (.invokestatic 108, 3) := by decide +kernel
theorem d11_35 : decode jdk_68_method_9_code 35 = .ok (.putfield 15, 3) := by decide +kernel
theorem d11_38 : decode jdk_68_method_9_code 38 = .ok (.return_, 1) := by decide +kernel
theorem pn_11 : plainName "java/lang/AbstractStringBuilder" = true := by first | (simp [plainName, overriddenIn]; done) | decide +kernel
theorem ef_11 (m : MethodId) (a1 : Addr) (zf1 : Int32) : entryFrame m #[(.ref a1), (.int zf1)] 3 = mkF m 0 #[.val (.ref a1), .val (.int zf1), .unset] [] := by first | (simp [entryFrame, mkF, argsToLocals, Value.category]; done) | rfl
def Q11 (Z : State) (a1 : Addr) (cs : Int32) (d : Addr) (dk : ClassId) (ds : List Int32) (cn : Nat) (mn : Nat) (h0 : Heap) (n0 : Nat) (v : Option Value) (h : Heap) (L : List Loc) : Prop := ∃ (d' : Addr) (k' : ClassId) (bs' : List Int32), v = none ∧ Fr n0 L ∧ Keep h0 h [a1] ∧ Exa Z h a1 "java/lang/StringBuilder" ∧ Fld Z h a1 "java/lang/AbstractStringBuilder" "value" "[B" (.ref d') ∧ Fld Z h a1 "java/lang/AbstractStringBuilder" "coder" "B" (.int 0) ∧ Fld Z h a1 "java/lang/AbstractStringBuilder" "count" "I" (.int (Int32.ofNat cn)) ∧ BL Z h d' k' bs' ∧ bs'.length = cap2 ds.length mn ∧ bs'.take ds.length = ds ∧ (d' = d ∨ h0.size ≤ d')
set_option maxRecDepth 65536 in
set_option maxHeartbeats 40000000 in
theorem rm11 (l : Launch) (Z : State) (a0 : Array Value) (hw : ∀ d ∈ tables_1, d.before a0 Z = true) (ws : List Jvm.Cond) (a1 : Addr) (h0 : Heap) (n0 : Nat) (cs : Int32) (d : Addr) (dk : ClassId) (ds : List Int32) (cn : Nat) (mn : Nat) (CS : Sta Z Z.heap "java/lang/String" "COMPACT_STRINGS" "Z" (.int cs)) (hcs : ¬ cs = 0) (O0 : Old Z n0 h0) (E_a1 : Exa Z h0 a1 "java/lang/StringBuilder") (F_a1_v : Fld Z h0 a1 "java/lang/AbstractStringBuilder" "value" "[B" (.ref d)) (F_a1_c : Fld Z h0 a1 "java/lang/AbstractStringBuilder" "coder" "B" (.int 0)) (F_a1_n : Fld Z h0 a1 "java/lang/AbstractStringBuilder" "count" "I" (.int (Int32.ofNat cn))) (V_d : BL Z h0 d dk ds) (qm : mn ≤ 100) (qL : ds.length ≤ 70) (g_a1 : n0 ≤ a1) (g_d : n0 ≤ d) (Z0 : n0 ≤ h0.size) :
    MetFree l (⟨"java/lang/AbstractStringBuilder", "ensureCapacityInternal", "(I)V"⟩ : MethodName) (head1 (Jvm.Cond.code (⟨"java/lang/AbstractStringBuilder", "ensureCapacityInternal", "(I)V"⟩ : MethodName) jdk_68_method_9_code 3 none :: ws) ({ frames := 3, cells := 1, slots := 142, locals := 65 } : Room)) (fun a U => a = #[(.ref a1), (.int (Int32.ofNat mn))] ∧ Z.Warmed39 U.vm ∧ U.heap = h0) (fun _ _ _ _ _ => True) (fun _ U o U' => ∃ v L, o = .returned v ∧ Q11 Z a1 cs d dk ds cn mn h0 n0 v U'.heap L ∧ FrameEnd U o U' L ({ frames := 3, cells := 1, slots := 142, locals := 65 } : Room).cells ({ frames := 3, cells := 1, slots := 142, locals := 65 } : Room).slots) := by
  refine MetFree.of_bodySF (plainFor_of_name pn_11) hisR ?_
  intro p e s m args below meth c s₁ Bd hml0 hP hK
  obtain ⟨rfl, hZ, hh⟩ := hP
  have hx := Bd.exec
  have hby := Bd.bytes
  have hml : c.maxLocals = 3 := hml0
  have hown0 := findClass_of_methodNamed Bd.named
  have hown : s.vm.findClass "java/lang/AbstractStringBuilder" = some m.cls := hown0
  have hnm := (name_of_methodNamed Bd.named Bd.method).1
  have X0 : Stand p l e ({ frames := 3, cells := 1, slots := 142, locals := 65 } : Room) s m #[(.ref a1), (.int (Int32.ofNat mn))] below meth c s₁ [] 0 0 := Stand.of_body Bd
  have e0 : s₁.heap = h0 := by rw [← hh, Bd.state]; rfl
  have N0 := Fr.nil n0
  have pre0 : ∀ t, Steps p.tables e below (s₁.setTop (mkF m 0 #[.val (.ref a1), .val (.int (Int32.ofNat mn)), .unset] [])) t → Steps p.tables e below (s₁.setTop (entryFrame m #[(.ref a1), (.int (Int32.ofNat mn))] 3)) t := fun t k => castTop (ef_11 m a1 ((Int32.ofNat mn))) k
  refine Classical.byContradiction fun hneg => ?_
  by_cases hsm : mn ≤ ds.length
  · obtain ⟨T1, X1, e1, st1⟩ := getF X0 hx hZ hown (host := "") (Or.inl (hw _ (List.mem_of_getElem? (i := 41) rfl))) Via.refl e0 F_a1_v (g := (mkF m 1 #[.val (.ref a1), .val (.int (Int32.ofNat mn)), .unset] [(.ref a1)])) rfl rfl (hb hby d11_1)
    obtain ⟨cl2, Ar2, q2, S2_, N2_, H2_, G2_⟩ := V_d.1
    obtain ⟨T3, X3, e3, st3⟩ := getF X1 hx hZ hown (host := "") (Or.inl (hw _ (List.mem_of_getElem? (i := 43) rfl))) Via.refl e1 F_a1_c (g := (mkF m 6 #[.val (.ref a1), .val (.int (Int32.ofNat mn)), .unset] [(.ref a1), (.int (Int32.ofNat ds.length))])) rfl rfl (hb hby d11_6)
    have nq4 : ((Int32.ofNat ds.length) >>> ((0 : Int32) &&& 31)) = (Int32.ofNat ds.length) := shr0 _
    refine hneg ?_
    obtain ⟨fs, hr, hrun, hended, hW, hsame⟩ := X3.leave (v := none) (fun _ => rfl)
    refine ⟨_, _, pre0 _ ?_, hrun, hended, _, _, rfl, ?_, ⟨_, rfl⟩, hW, hsame.mono (by decide) (by decide)⟩
    · show Steps p.tables e below (s₁.setTop (mkF m 0 #[.val (.ref a1), .val (.int (Int32.ofNat mn)), .unset] [])) _
      refine XS.aloadN X0.here hx rfl (hb hby d11_0) rfl rfl ?_
      show Steps p.tables e below (s₁.setTop (mkF m 1 #[.val (.ref a1), .val (.int (Int32.ofNat mn)), .unset] [(.ref a1)])) _
      refine st1 _ ?_
      show Steps p.tables e below (T1.setTop (mkF m 4 #[.val (.ref a1), .val (.int (Int32.ofNat mn)), .unset] [(.ref d)])) _
      refine X1.arraylength hx (by rw [e1]; exact Ar2.1) (State.isArrayOf_alike hZ.alike Ar2.2.1) (g := (mkF m 4 #[.val (.ref a1), .val (.int (Int32.ofNat mn)), .unset] [(.ref d)])) rfl rfl (hb hby d11_4) _ ?_
      rw [len_of S2_ N2_]
      show Steps p.tables e below (T1.setTop (mkF m 5 #[.val (.ref a1), .val (.int (Int32.ofNat mn)), .unset] [(.int (Int32.ofNat ds.length))])) _
      refine XS.aloadN X1.here hx rfl (hb hby d11_5) rfl rfl ?_
      show Steps p.tables e below (T1.setTop (mkF m 6 #[.val (.ref a1), .val (.int (Int32.ofNat mn)), .unset] [(.ref a1), (.int (Int32.ofNat ds.length))])) _
      refine st3 _ ?_
      show Steps p.tables e below (T3.setTop (mkF m 9 #[.val (.ref a1), .val (.int (Int32.ofNat mn)), .unset] [(.int (0 : Int32)), (.int (Int32.ofNat ds.length))])) _
      refine XS.ishr X3.here hx rfl (hb hby d11_9) rfl ?_
      show Steps p.tables e below (T3.setTop (mkF m 10 #[.val (.ref a1), .val (.int (Int32.ofNat mn)), .unset] [(.int ((Int32.ofNat ds.length) >>> ((0 : Int32) &&& 31)))])) _
      rw [nq4]
      show Steps p.tables e below (T3.setTop (mkF m 10 #[.val (.ref a1), .val (.int (Int32.ofNat mn)), .unset] [(.int (Int32.ofNat ds.length))])) _
      refine XS.istoreN X3.here hx rfl (hb hby d11_10) rfl (l' := #[.val (.ref a1), .val (.int (Int32.ofNat mn)), .val (.int (Int32.ofNat ds.length))]) rfl ?_
      show Steps p.tables e below (T3.setTop (mkF m 11 #[.val (.ref a1), .val (.int (Int32.ofNat mn)), .val (.int (Int32.ofNat ds.length))] [])) _
      refine XS.iloadN X3.here hx rfl (hb hby d11_11) rfl ?_
      show Steps p.tables e below (T3.setTop (mkF m 12 #[.val (.ref a1), .val (.int (Int32.ofNat mn)), .val (.int (Int32.ofNat ds.length))] [(.int (Int32.ofNat mn))])) _
      refine XS.iloadN X3.here hx rfl (hb hby d11_12) rfl ?_
      show Steps p.tables e below (T3.setTop (mkF m 13 #[.val (.ref a1), .val (.int (Int32.ofNat mn)), .val (.int (Int32.ofNat ds.length))] [(.int (Int32.ofNat ds.length)), (.int (Int32.ofNat mn))])) _
      refine XS.isub X3.here hx rfl (hb hby d11_13) rfl ?_
      show Steps p.tables e below (T3.setTop (mkF m 14 #[.val (.ref a1), .val (.int (Int32.ofNat mn)), .val (.int (Int32.ofNat ds.length))] [(.int ((Int32.ofNat mn) - (Int32.ofNat ds.length)))])) _
      refine XS.ifYes X3.here hx rfl (pc0 := 14) (pc' := 38) rfl (hb hby d11_14) rfl ((if0 _ _).trans (flt (by rw [subpos (by omega) (by omega)]; omega)).2.2.2) (by decide) (by decide) ?_
      show Steps p.tables e below (T3.setTop (mkF m 38 #[.val (.ref a1), .val (.int (Int32.ofNat mn)), .val (.int (Int32.ofNat ds.length))] [])) _
      exact X3.returnOut hx Bd.returns (hb hby d11_38) hr
    · show Q11 Z a1 cs d dk ds cn mn h0 n0 _ T3.heap _
      rw [e3]
      exact ⟨_, _, _, rfl, N0, (Keep.refl h0 [a1]), E_a1, F_a1_v, F_a1_c, F_a1_n, V_d, (if_pos hsm).symm, List.take_length, Or.inl rfl⟩
  · obtain ⟨T5, X5, e5, st5⟩ := getF X0 hx hZ hown (host := "") (Or.inl (hw _ (List.mem_of_getElem? (i := 41) rfl))) Via.refl e0 F_a1_v (g := (mkF m 1 #[.val (.ref a1), .val (.int (Int32.ofNat mn)), .unset] [(.ref a1)])) rfl rfl (hb hby d11_1)
    obtain ⟨cl6, Ar6, q6, S6_, N6_, H6_, G6_⟩ := V_d.1
    obtain ⟨T7, X7, e7, st7⟩ := getF X5 hx hZ hown (host := "") (Or.inl (hw _ (List.mem_of_getElem? (i := 43) rfl))) Via.refl e5 F_a1_c (g := (mkF m 6 #[.val (.ref a1), .val (.int (Int32.ofNat mn)), .unset] [(.ref a1), (.int (Int32.ofNat ds.length))])) rfl rfl (hb hby d11_6)
    have nq8 : ((Int32.ofNat ds.length) >>> ((0 : Int32) &&& 31)) = (Int32.ofNat ds.length) := shr0 _
    obtain ⟨T9, X9, e9, st9⟩ := getF X7 hx hZ hown (host := "") (Or.inl (hw _ (List.mem_of_getElem? (i := 41) rfl))) Via.refl e7 F_a1_v (g := (mkF m 19 #[.val (.ref a1), .val (.int (Int32.ofNat mn)), .val (.int (Int32.ofNat ds.length))] [(.ref a1), (.ref a1)])) rfl rfl (hb hby d11_19)
    obtain ⟨cq10, kq10, q10a, q10b, q10c⟩ := isOf hZ e9 E_a1
    obtain ⟨_, _, ⟨T10, L10, k10, n10⟩, -, X10, ⟨Lc10, hQ10, l10, y10, z10⟩, st10⟩ := X9.virtualBack hx (y := (⟨"java/lang/AbstractStringBuilder", "newCapacity", "(I)I"⟩ : MethodName)) (z := (⟨"java/lang/AbstractStringBuilder", "newCapacity", "(I)I"⟩ : MethodName)) hown (mvT hZ (hw _ (List.mem_of_getElem? (i := 116) rfl))) (mvT hZ (decl_of (hw _ (List.mem_of_getElem? (i := 117) rfl)) (hw _ (List.mem_of_getElem? (i := 120) rfl)))) (notFace_of_selects (args := #[]) (mvT hZ (hw _ (List.mem_of_getElem? (i := 119) rfl)))) (mvT hZ (hw _ (List.mem_of_getElem? (i := 119) rfl))) (mvT hZ (hw _ (List.mem_of_getElem? (i := 117) rfl))) (by decide) (backOf (W := 2) (rm18 l Z a0 hw [] a1 h0 n0 cs d dk ds cn (mn) CS hcs O0 E_a1 F_a1_v F_a1_c F_a1_n V_d (by omega) (by omega)) hZ (hw _ (List.mem_of_getElem? (i := 120) rfl)) (hw _ (List.mem_of_getElem? (i := 35) rfl)) (by decide) (by decide)) q10a q10c (g := (mkF m 24 #[.val (.ref a1), .val (.int (Int32.ofNat mn)), .val (.int (Int32.ofNat ds.length))] [(.int (Int32.ofNat mn)), (.ref a1), (.ref d), (.ref a1)])) rfl (by rw [hml]; rfl) (Steps.refl _) (argsL := [(.int (Int32.ofNat mn))]) (rest := [(.ref d), (.ref a1)]) (lenOf pd5 rfl) rfl (by show 2 * 0 + _ ≤ _; exact Nat.le_of_eq rfl) (hb hby d11_24) (fun _ _ => ⟨rfl, e9, (by decide : 0 + 0 ≤ _), (by decide : 0 + 0 ≤ _)⟩)
    dsimp only [Pt.U, Pt.locs, Pt.cells, Pt.slots] at X10 l10 y10 z10 st10 hQ10
    subst l10 y10 z10
    obtain ⟨rfl, N10q, e10⟩ := hQ10
    have N10 := Fr.app N0 N10q
    obtain ⟨T11, X11, e11, st11⟩ := getF X10 hx hZ hown (host := "") (Or.inl (hw _ (List.mem_of_getElem? (i := 43) rfl))) Via.refl e10 F_a1_c (g := (mkF m 28 #[.val (.ref a1), .val (.int (Int32.ofNat mn)), .val (.int (Int32.ofNat ds.length))] [(.ref a1), (.int (Int32.ofNat (max mn (2 * ds.length + 2)))), (.ref d), (.ref a1)])) rfl rfl (hb hby d11_28)
    have nq12 : ((Int32.ofNat (max mn (2 * ds.length + 2))) <<< ((0 : Int32) &&& 31)) = (Int32.ofNat (max mn (2 * ds.length + 2))) := shl0 _
    obtain ⟨_, _, ⟨T13, L13, k13, n13⟩, -, X13, ⟨Lc13, hQ13, l13, y13, z13⟩, st13⟩ := Jvm.LawKit.callS X11 hx (y := (⟨"java/util/Arrays", "copyOf", "([BI)[B"⟩ : MethodName)) hown (mvT hZ (hw _ (List.mem_of_getElem? (i := 131) rfl))) (mvT hZ (hw _ (List.mem_of_getElem? (i := 132) rfl))) (mvT hZ (hw _ (List.mem_of_getElem? (i := 133) rfl))) (mvT hZ (hw _ (List.mem_of_getElem? (i := 134) rfl))) (by decide) (backOf (W := 1) (rm21 l Z a0 hw [] d  h0 n0 dk ds ((max mn (2 * ds.length + 2))) V_d (by omega) (by omega) Z0) hZ (hw _ (List.mem_of_getElem? (i := 134) rfl)) (hw _ (List.mem_of_getElem? (i := 133) rfl)) (by decide) (by decide)) (g := (mkF m 32 #[.val (.ref a1), .val (.int (Int32.ofNat mn)), .val (.int (Int32.ofNat ds.length))] [(.int (Int32.ofNat (max mn (2 * ds.length + 2)))), (.ref d), (.ref a1)])) rfl (by rw [hml]; rfl) (argsL := [(.ref d), (.int (Int32.ofNat (max mn (2 * ds.length + 2))))]) (rest := [(.ref a1)]) (lenOf pd6 rfl) rfl (by show 2 * 0 + _ ≤ _; exact Nat.le_of_eq rfl) (hb hby d11_32) (fun _ _ => ⟨rfl, e11, (by decide : 0 + 1 ≤ _), (by decide : 0 + 142 ≤ _)⟩)
    dsimp only [Pt.U, Pt.locs, Pt.cells, Pt.slots] at X13 l13 y13 z13 st13 hQ13
    subst l13 y13 z13
    obtain ⟨d'_13, k'_13, bs'_13, rfl, N13q, Kc13, G13_0, len_13, tk_13, f_d'_13⟩ := hQ13
    have N13 := Fr.app N10 N13q
    have ne_a1_d'_13 : a1 ≠ d'_13 := Nat.ne_of_lt (Nat.lt_of_lt_of_le E_a1.lt f_d'_13)
    have ne_d_d'_13 : d ≠ d'_13 := Nat.ne_of_lt (Nat.lt_of_lt_of_le V_d.lt f_d'_13)
    have g_d'_13 : n0 ≤ d'_13 := Nat.le_trans Z0 f_d'_13
    have sz_d'_13 : h0.size ≤ d'_13 := Nat.le_trans (Keep.refl h0 [a1]).1 f_d'_13
    have E_a1_13 := E_a1.keep Kc13
    have F_a1_value_13 := F_a1_v.keep Kc13 nin0
    have F_a1_coder_13 := F_a1_c.keep Kc13 nin0
    have F_a1_count_13 := F_a1_n.keep Kc13 nin0
    have V_d_13 := V_d.keep Kc13 nin0
    have K13 : Keep h0 T13.heap [a1] := (Keep.refl h0 [a1]).trans Kc13 all0
    have Z13 : n0 ≤ T13.heap.size := Nat.le_trans Z0 Kc13.1
    have O13 := Old.keep O0 Kc13 all0
    obtain ⟨T14, h14, X14, e14, W14, st14⟩ := putF X13 hx hZ hown (host := "") (Or.inl (hw _ (List.mem_of_getElem? (i := 41) rfl))) Via.refl rfl F_a1_value_13 E_a1_13 (Or.inl (hw _ (List.mem_of_getElem? (i := 42) rfl))) (hw _ (List.mem_of_getElem? (i := 26) rfl)) (ty := (.array .byte)) (by decide) rfl rfl (g := (mkF m 35 #[.val (.ref a1), .val (.int (Int32.ofNat mn)), .val (.int (Int32.ofNat ds.length))] [(.ref d'_13), (.ref a1)])) rfl rfl (hb hby d11_35)
    have E_a1_14 := E_a1_13.wr W14
    have F_a1_value_14 := F_a1_value_13.same W14
    have F_a1_coder_14 := F_a1_coder_13.other W14 (Or.inr (slot_ne (Or.inl (hw _ (List.mem_of_getElem? (i := 44) rfl))) (Or.inl (hw _ (List.mem_of_getElem? (i := 42) rfl))) (by decide) (t := .byte) (t' := (.array .byte)) (by decide) (by decide)))
    have F_a1_count_14 := F_a1_count_13.other W14 (Or.inr (slot_ne (Or.inl (hw _ (List.mem_of_getElem? (i := 75) rfl))) (Or.inl (hw _ (List.mem_of_getElem? (i := 42) rfl))) (by decide) (t := .int) (t' := (.array .byte)) (by decide) (by decide)))
    have V_d_14 := V_d_13.other W14 (Ne.symm (Exa.neArv E_a1_13 V_d_13.1 (hw _ (List.mem_of_getElem? (i := 26) rfl))))
    have V_d__13_14 := G13_0.other W14 (Ne.symm ne_a1_d'_13)
    have K14 : Keep h0 h14 [a1] := K13.wr W14 (Or.inl (by simp))
    have N14 := Fr.snoc X14 N13 g_a1
    have Z14 : n0 ≤ h14.size := Nat.le_trans Z13 (Keep.of_wr W14).1
    have O14 := Old.wr O13 W14 g_a1
    refine hneg ?_
    obtain ⟨fs, hr, hrun, hended, hW, hsame⟩ := X14.leave (v := none) (fun _ => rfl)
    refine ⟨_, _, pre0 _ ?_, hrun, hended, _, _, rfl, ?_, ⟨_, rfl⟩, hW, hsame.mono (by decide) (by decide)⟩
    · show Steps p.tables e below (s₁.setTop (mkF m 0 #[.val (.ref a1), .val (.int (Int32.ofNat mn)), .unset] [])) _
      refine XS.aloadN X0.here hx rfl (hb hby d11_0) rfl rfl ?_
      show Steps p.tables e below (s₁.setTop (mkF m 1 #[.val (.ref a1), .val (.int (Int32.ofNat mn)), .unset] [(.ref a1)])) _
      refine st5 _ ?_
      show Steps p.tables e below (T5.setTop (mkF m 4 #[.val (.ref a1), .val (.int (Int32.ofNat mn)), .unset] [(.ref d)])) _
      refine X5.arraylength hx (by rw [e5]; exact Ar6.1) (State.isArrayOf_alike hZ.alike Ar6.2.1) (g := (mkF m 4 #[.val (.ref a1), .val (.int (Int32.ofNat mn)), .unset] [(.ref d)])) rfl rfl (hb hby d11_4) _ ?_
      rw [len_of S6_ N6_]
      show Steps p.tables e below (T5.setTop (mkF m 5 #[.val (.ref a1), .val (.int (Int32.ofNat mn)), .unset] [(.int (Int32.ofNat ds.length))])) _
      refine XS.aloadN X5.here hx rfl (hb hby d11_5) rfl rfl ?_
      show Steps p.tables e below (T5.setTop (mkF m 6 #[.val (.ref a1), .val (.int (Int32.ofNat mn)), .unset] [(.ref a1), (.int (Int32.ofNat ds.length))])) _
      refine st7 _ ?_
      show Steps p.tables e below (T7.setTop (mkF m 9 #[.val (.ref a1), .val (.int (Int32.ofNat mn)), .unset] [(.int (0 : Int32)), (.int (Int32.ofNat ds.length))])) _
      refine XS.ishr X7.here hx rfl (hb hby d11_9) rfl ?_
      show Steps p.tables e below (T7.setTop (mkF m 10 #[.val (.ref a1), .val (.int (Int32.ofNat mn)), .unset] [(.int ((Int32.ofNat ds.length) >>> ((0 : Int32) &&& 31)))])) _
      rw [nq8]
      show Steps p.tables e below (T7.setTop (mkF m 10 #[.val (.ref a1), .val (.int (Int32.ofNat mn)), .unset] [(.int (Int32.ofNat ds.length))])) _
      refine XS.istoreN X7.here hx rfl (hb hby d11_10) rfl (l' := #[.val (.ref a1), .val (.int (Int32.ofNat mn)), .val (.int (Int32.ofNat ds.length))]) rfl ?_
      show Steps p.tables e below (T7.setTop (mkF m 11 #[.val (.ref a1), .val (.int (Int32.ofNat mn)), .val (.int (Int32.ofNat ds.length))] [])) _
      refine XS.iloadN X7.here hx rfl (hb hby d11_11) rfl ?_
      show Steps p.tables e below (T7.setTop (mkF m 12 #[.val (.ref a1), .val (.int (Int32.ofNat mn)), .val (.int (Int32.ofNat ds.length))] [(.int (Int32.ofNat mn))])) _
      refine XS.iloadN X7.here hx rfl (hb hby d11_12) rfl ?_
      show Steps p.tables e below (T7.setTop (mkF m 13 #[.val (.ref a1), .val (.int (Int32.ofNat mn)), .val (.int (Int32.ofNat ds.length))] [(.int (Int32.ofNat ds.length)), (.int (Int32.ofNat mn))])) _
      refine XS.isub X7.here hx rfl (hb hby d11_13) rfl ?_
      show Steps p.tables e below (T7.setTop (mkF m 14 #[.val (.ref a1), .val (.int (Int32.ofNat mn)), .val (.int (Int32.ofNat ds.length))] [(.int ((Int32.ofNat mn) - (Int32.ofNat ds.length)))])) _
      refine XS.ifNo X7.here hx rfl (hb hby d11_14) rfl ((if0 _ _).trans (tlt ((subpos (by omega) (by omega)).mpr (by omega))).2.2.2) ?_
      show Steps p.tables e below (T7.setTop (mkF m 17 #[.val (.ref a1), .val (.int (Int32.ofNat mn)), .val (.int (Int32.ofNat ds.length))] [])) _
      refine XS.aloadN X7.here hx rfl (hb hby d11_17) rfl rfl ?_
      show Steps p.tables e below (T7.setTop (mkF m 18 #[.val (.ref a1), .val (.int (Int32.ofNat mn)), .val (.int (Int32.ofNat ds.length))] [(.ref a1)])) _
      refine XS.aloadN X7.here hx rfl (hb hby d11_18) rfl rfl ?_
      show Steps p.tables e below (T7.setTop (mkF m 19 #[.val (.ref a1), .val (.int (Int32.ofNat mn)), .val (.int (Int32.ofNat ds.length))] [(.ref a1), (.ref a1)])) _
      refine st9 _ ?_
      show Steps p.tables e below (T9.setTop (mkF m 22 #[.val (.ref a1), .val (.int (Int32.ofNat mn)), .val (.int (Int32.ofNat ds.length))] [(.ref d), (.ref a1)])) _
      refine XS.aloadN X9.here hx rfl (hb hby d11_22) rfl rfl ?_
      show Steps p.tables e below (T9.setTop (mkF m 23 #[.val (.ref a1), .val (.int (Int32.ofNat mn)), .val (.int (Int32.ofNat ds.length))] [(.ref a1), (.ref d), (.ref a1)])) _
      refine XS.iloadN X9.here hx rfl (hb hby d11_23) rfl ?_
      show Steps p.tables e below (T9.setTop (mkF m 24 #[.val (.ref a1), .val (.int (Int32.ofNat mn)), .val (.int (Int32.ofNat ds.length))] [(.int (Int32.ofNat mn)), (.ref a1), (.ref d), (.ref a1)])) _
      refine st10.trans ?_
      show Steps p.tables e below (T10.setTop (mkF m 27 #[.val (.ref a1), .val (.int (Int32.ofNat mn)), .val (.int (Int32.ofNat ds.length))] [(.int (Int32.ofNat (max mn (2 * ds.length + 2)))), (.ref d), (.ref a1)])) _
      refine XS.aloadN X10.here hx rfl (hb hby d11_27) rfl rfl ?_
      show Steps p.tables e below (T10.setTop (mkF m 28 #[.val (.ref a1), .val (.int (Int32.ofNat mn)), .val (.int (Int32.ofNat ds.length))] [(.ref a1), (.int (Int32.ofNat (max mn (2 * ds.length + 2)))), (.ref d), (.ref a1)])) _
      refine st11 _ ?_
      show Steps p.tables e below (T11.setTop (mkF m 31 #[.val (.ref a1), .val (.int (Int32.ofNat mn)), .val (.int (Int32.ofNat ds.length))] [(.int (0 : Int32)), (.int (Int32.ofNat (max mn (2 * ds.length + 2)))), (.ref d), (.ref a1)])) _
      refine XS.ishl X11.here hx rfl (hb hby d11_31) rfl ?_
      show Steps p.tables e below (T11.setTop (mkF m 32 #[.val (.ref a1), .val (.int (Int32.ofNat mn)), .val (.int (Int32.ofNat ds.length))] [(.int ((Int32.ofNat (max mn (2 * ds.length + 2))) <<< ((0 : Int32) &&& 31))), (.ref d), (.ref a1)])) _
      rw [nq12]
      show Steps p.tables e below (T11.setTop (mkF m 32 #[.val (.ref a1), .val (.int (Int32.ofNat mn)), .val (.int (Int32.ofNat ds.length))] [(.int (Int32.ofNat (max mn (2 * ds.length + 2)))), (.ref d), (.ref a1)])) _
      refine st13 _ ?_
      show Steps p.tables e below (T13.setTop (mkF m 35 #[.val (.ref a1), .val (.int (Int32.ofNat mn)), .val (.int (Int32.ofNat ds.length))] [(.ref d'_13), (.ref a1)])) _
      refine st14 _ ?_
      show Steps p.tables e below (T14.setTop (mkF m 38 #[.val (.ref a1), .val (.int (Int32.ofNat mn)), .val (.int (Int32.ofNat ds.length))] [])) _
      exact X14.returnOut hx Bd.returns (hb hby d11_38) hr
    · show Q11 Z a1 cs d dk ds cn mn h0 n0 _ T14.heap _
      rw [e14]
      exact ⟨_, _, _, rfl, N14, K14, E_a1_14, F_a1_value_14, F_a1_coder_14, F_a1_count_14, V_d__13_14, len_13.trans (if_neg hsm).symm, tk_13, Or.inr sz_d'_13⟩

theorem d8_0 : decode jdk_68_method_22_code 0 = .ok (.aload_n 1, 1) := by decide +kernel
theorem d8_1 : decode jdk_68_method_22_code 1 = .ok (.ifnonnull 8, 3) := by decide +kernel
theorem d8_9 : decode jdk_68_method_22_code 9 = .ok (.aload_n 1, 1) := by decide +kernel
theorem d8_10 : decode jdk_68_method_22_code 10 = .ok (.invokevirtual 32, 3) := by decide +kernel
theorem d8_13 : decode jdk_68_method_22_code 13 = .ok (.istore_n 2, 1) := by decide +kernel
theorem d8_14 : decode jdk_68_method_22_code 14 = .ok (.aload_n 0, 1) := by decide +kernel
theorem d8_15 : decode jdk_68_method_22_code 15 = .ok (.aload_n 0, 1) := by decide +kernel
theorem d8_16 : decode jdk_68_method_22_code 16 = .ok (.getfield 79, 3) := by decide +kernel
theorem d8_19 : decode jdk_68_method_22_code 19 = .ok (.iload_n 2, 1) := by decide +kernel
theorem d8_20 : decode jdk_68_method_22_code 20 = .ok (.iadd, 1) := by decide +kernel
theorem d8_21 : decode jdk_68_method_22_code 21 = .ok (.invokevirtual 100, 3) := by decide +kernel
theorem d8_24 : decode jdk_68_method_22_code 24 = .ok (.aload_n 0, 1) := by decide +kernel
theorem d8_25 : decode jdk_68_method_22_code 25 = .ok (.aload_n 0, 1) := by decide +kernel
theorem d8_26 : decode jdk_68_method_22_code 26 = .ok (.getfield 79, 3) := by decide +kernel
theorem d8_29 : decode jdk_68_method_22_code 29 = .ok (.aload_n 1, 1) := by decide +kernel
theorem d8_30 : decode jdk_68_method_22_code 30 = .ok (.invokevirtual 208, 3) := by decide +kernel
theorem d8_33 : decode jdk_68_method_22_code 33 = .ok (.aload_n 0, 1) := by decide +kernel
theorem d8_34 : decode jdk_68_method_22_code 34 = .ok (.dup, 1) := by decide +kernel
theorem d8_35 : decode jdk_68_method_22_code 35 = .ok (.getfield 79, 3) := by decide +kernel
theorem d8_38 : decode jdk_68_method_22_code 38 = .ok (.iload_n 2, 1) := by decide +kernel
theorem d8_39 : decode jdk_68_method_22_code 39 = .ok (.iadd, 1) := by decide +kernel
theorem d8_40 : decode jdk_68_method_22_code 40 = .ok (.putfield 79, 3) := by decide +kernel
theorem d8_43 : decode jdk_68_method_22_code 43 = .ok (.aload_n 0, 1) := by decide +kernel
theorem d8_44 : decode jdk_68_method_22_code 44 = .ok (.areturn, 1) := by decide +kernel
theorem pn_8 : plainName "java/lang/AbstractStringBuilder" = true := by first | (simp [plainName, overriddenIn]; done) | decide +kernel
theorem ef_8 (m : MethodId) (a1 : Addr) (a2 : Addr) : entryFrame m #[(.ref a1), (.ref a2)] 3 = mkF m 0 #[.val (.ref a1), .val (.ref a2), .unset] [] := by first | (simp [entryFrame, mkF, argsToLocals, Value.category]; done) | rfl
def Q8 (Z : State) (a1 : Addr) (a2 : Addr) (cs : Int32) (d : Addr) (dk : ClassId) (ds : List Int32) (cn : Nat) (sd : Addr) (sk : ClassId) (src : List Int32) (h0 : Heap) (n0 : Nat) (v : Option Value) (h : Heap) (L : List Loc) : Prop := ∃ (d' : Addr) (k' : ClassId) (bs' : List Int32), v = some (.ref a1) ∧ Fr n0 L ∧ Keep h0 h [a1, d] ∧ Exa Z h a1 "java/lang/StringBuilder" ∧ Fld Z h a1 "java/lang/AbstractStringBuilder" "value" "[B" (.ref d') ∧ Fld Z h a1 "java/lang/AbstractStringBuilder" "coder" "B" (.int 0) ∧ Fld Z h a1 "java/lang/AbstractStringBuilder" "count" "I" (.int (Int32.ofNat (cn + src.length))) ∧ BL Z h d' k' bs' ∧ bs'.length = cap2 ds.length (cn + src.length) ∧ bs'.take (cn + src.length) = ds.take cn ++ src ∧ (d' = d ∨ h0.size ≤ d')
set_option maxRecDepth 65536 in
set_option maxHeartbeats 40000000 in
theorem rm8 (l : Launch) (Z : State) (a0 : Array Value) (hw : ∀ d ∈ tables_1, d.before a0 Z = true) (ws : List Jvm.Cond) (a1 : Addr) (a2 : Addr) (h0 : Heap) (n0 : Nat) (cs : Int32) (d : Addr) (dk : ClassId) (ds : List Int32) (cn : Nat) (sd : Addr) (sk : ClassId) (src : List Int32) (CS : Sta Z Z.heap "java/lang/String" "COMPACT_STRINGS" "Z" (.int cs)) (hcs : ¬ cs = 0) (O0 : Old Z n0 h0) (E_a1 : Exa Z h0 a1 "java/lang/StringBuilder") (F_a1_v : Fld Z h0 a1 "java/lang/AbstractStringBuilder" "value" "[B" (.ref d)) (F_a1_c : Fld Z h0 a1 "java/lang/AbstractStringBuilder" "coder" "B" (.int 0)) (F_a1_n : Fld Z h0 a1 "java/lang/AbstractStringBuilder" "count" "I" (.int (Int32.ofNat cn))) (V_d : BL Z h0 d dk ds) (E_a2 : Exa Z h0 a2 "java/lang/String") (F_a2_c : Fld Z h0 a2 "java/lang/String" "coder" "B" (.int 0)) (F_a2_v : Fld Z h0 a2 "java/lang/String" "value" "[B" (.ref sd)) (V_sd : B0 Z h0 sd sk src) (qn : cn ≤ ds.length) (qm : cn + src.length ≤ 100) (qL : ds.length ≤ 70) (g_a1 : n0 ≤ a1) (g_d : n0 ≤ d) (Z0 : n0 ≤ h0.size) (ne_2 : sd ≠ d) :
    MetFree l (⟨"java/lang/AbstractStringBuilder", "append", "(Ljava/lang/String;)Ljava/lang/AbstractStringBuilder;"⟩ : MethodName) (head1 (Jvm.Cond.code (⟨"java/lang/AbstractStringBuilder", "append", "(Ljava/lang/String;)Ljava/lang/AbstractStringBuilder;"⟩ : MethodName) jdk_68_method_22_code 3 (some (.object "java/lang/AbstractStringBuilder")) :: ws) ({ frames := 4, cells := 1, slots := 142, locals := 79 } : Room)) (fun a U => a = #[(.ref a1), (.ref a2)] ∧ Z.Warmed39 U.vm ∧ U.heap = h0) (fun _ _ _ _ _ => True) (fun _ U o U' => ∃ v L, o = .returned v ∧ Q8 Z a1 a2 cs d dk ds cn sd sk src h0 n0 v U'.heap L ∧ FrameEnd U o U' L ({ frames := 4, cells := 1, slots := 142, locals := 79 } : Room).cells ({ frames := 4, cells := 1, slots := 142, locals := 79 } : Room).slots) := by
  refine MetFree.of_bodySF (plainFor_of_name pn_8) hisR ?_
  intro p e s m args below meth c s₁ Bd hml0 hP hK
  obtain ⟨rfl, hZ, hh⟩ := hP
  have hx := Bd.exec
  have hby := Bd.bytes
  have hml : c.maxLocals = 3 := hml0
  have hown0 := findClass_of_methodNamed Bd.named
  have hown : s.vm.findClass "java/lang/AbstractStringBuilder" = some m.cls := hown0
  have hnm := (name_of_methodNamed Bd.named Bd.method).1
  have X0 : Stand p l e ({ frames := 4, cells := 1, slots := 142, locals := 79 } : Room) s m #[(.ref a1), (.ref a2)] below meth c s₁ [] 0 0 := Stand.of_body Bd
  have e0 : s₁.heap = h0 := by rw [← hh, Bd.state]; rfl
  have N0 := Fr.nil n0
  have pre0 : ∀ t, Steps p.tables e below (s₁.setTop (mkF m 0 #[.val (.ref a1), .val (.ref a2), .unset] [])) t → Steps p.tables e below (s₁.setTop (entryFrame m #[(.ref a1), (.ref a2)] 3)) t := fun t k => castTop (ef_8 m a1 a2) k
  refine Classical.byContradiction fun hneg => ?_
  obtain ⟨cq1, kq1, q1a, q1b, q1c⟩ := isOf hZ e0 E_a2
  obtain ⟨_, _, ⟨T1, L1, k1, n1⟩, -, X1, ⟨Lc1, hQ1, l1, y1, z1⟩, st1⟩ := X0.virtualBack hx (y := (⟨"java/lang/String", "length", "()I"⟩ : MethodName)) (z := (⟨"java/lang/String", "length", "()I"⟩ : MethodName)) hown (mvT hZ (hw _ (List.mem_of_getElem? (i := 61) rfl))) (mvT hZ (hw _ (List.mem_of_getElem? (i := 62) rfl))) (notFace_of_selects (args := #[]) (mvT hZ (hw _ (List.mem_of_getElem? (i := 64) rfl)))) (mvT hZ (hw _ (List.mem_of_getElem? (i := 64) rfl))) (mvT hZ (hw _ (List.mem_of_getElem? (i := 63) rfl))) (by decide) (backOf (W := 0) (rm9 l Z a0 hw [] a2  h0 n0 cs sd sk src CS hcs O0 E_a2 F_a2_c F_a2_v V_sd) hZ (hw _ (List.mem_of_getElem? (i := 65) rfl)) (hw _ (List.mem_of_getElem? (i := 39) rfl)) (by decide) (by decide)) q1a q1c (g := (mkF m 10 #[.val (.ref a1), .val (.ref a2), .unset] [(.ref a2)])) rfl (by rw [hml]; rfl) (Steps.refl _) (argsL := []) (rest := []) (lenOf pd7 rfl) rfl (by show 2 * 0 + _ ≤ _; exact Nat.le_of_eq rfl) (hb hby d8_10) (fun _ _ => ⟨rfl, e0, (by decide : 0 + 0 ≤ _), (by decide : 0 + 0 ≤ _)⟩)
  dsimp only [Pt.U, Pt.locs, Pt.cells, Pt.slots] at X1 l1 y1 z1 st1 hQ1
  subst l1 y1 z1
  obtain ⟨rfl, N1q, e1⟩ := hQ1
  have N1 := Fr.app N0 N1q
  obtain ⟨T2, X2, e2, st2⟩ := getF X1 hx hZ hown (host := "") (Or.inl (hw _ (List.mem_of_getElem? (i := 74) rfl))) Via.refl e1 F_a1_n (g := (mkF m 16 #[.val (.ref a1), .val (.ref a2), .val (.int (Int32.ofNat src.length))] [(.ref a1), (.ref a1)])) rfl rfl (hb hby d8_16)
  have nq3 : ((Int32.ofNat cn) + (Int32.ofNat src.length)) = (Int32.ofNat (cn + src.length)) := ofN_add _ _
  obtain ⟨cq4, kq4, q4a, q4b, q4c⟩ := isOf hZ e2 E_a1
  obtain ⟨_, _, ⟨T4, L4, k4, n4⟩, -, X4, ⟨Lc4, hQ4, l4, y4, z4⟩, st4⟩ := X2.virtualBack hx (y := (⟨"java/lang/AbstractStringBuilder", "ensureCapacityInternal", "(I)V"⟩ : MethodName)) (z := (⟨"java/lang/AbstractStringBuilder", "ensureCapacityInternal", "(I)V"⟩ : MethodName)) hown (mvT hZ (hw _ (List.mem_of_getElem? (i := 76) rfl))) (mvT hZ (decl_of (hw _ (List.mem_of_getElem? (i := 77) rfl)) (hw _ (List.mem_of_getElem? (i := 80) rfl)))) (notFace_of_selects (args := #[]) (mvT hZ (hw _ (List.mem_of_getElem? (i := 79) rfl)))) (mvT hZ (hw _ (List.mem_of_getElem? (i := 79) rfl))) (mvT hZ (hw _ (List.mem_of_getElem? (i := 77) rfl))) (by decide) (backOf (W := 0) (rm11 l Z a0 hw [] a1 h0 n0 cs d dk ds cn ((cn + src.length)) CS hcs O0 E_a1 F_a1_v F_a1_c F_a1_n V_d (by omega) (by omega) g_a1 g_d Z0) hZ (hw _ (List.mem_of_getElem? (i := 80) rfl)) (hw _ (List.mem_of_getElem? (i := 35) rfl)) (by decide) (by decide)) q4a q4c (g := (mkF m 21 #[.val (.ref a1), .val (.ref a2), .val (.int (Int32.ofNat src.length))] [(.int (Int32.ofNat (cn + src.length))), (.ref a1)])) rfl (by rw [hml]; rfl) (Steps.refl _) (argsL := [(.int (Int32.ofNat (cn + src.length)))]) (rest := []) (lenOf pd8 rfl) rfl (by show 2 * 0 + _ ≤ _; exact Nat.le_of_eq rfl) (hb hby d8_21) (fun _ _ => ⟨rfl, e2, (by decide : 0 + 1 ≤ _), (by decide : 0 + 142 ≤ _)⟩)
  dsimp only [Pt.U, Pt.locs, Pt.cells, Pt.slots] at X4 l4 y4 z4 st4 hQ4
  subst l4 y4 z4
  obtain ⟨d'_4, k'_4, bs'_4, rfl, N4q, Kc4, G4_0, G4_1, G4_2, G4_3, G4_4, len_4, tk_4, mb_4⟩ := hQ4
  have N4 := Fr.app N1 N4q
  have ne_a1_d'_4 : a1 ≠ d'_4 := mb_4.elim (fun q => by rw [q]; exact (Exa.neArv E_a1 V_d.1 (hw _ (List.mem_of_getElem? (i := 26) rfl)))) (fun q => Nat.ne_of_lt (Nat.lt_of_lt_of_le E_a1.lt q))
  have ne_a2_d'_4 : a2 ≠ d'_4 := mb_4.elim (fun q => by rw [q]; exact (Exa.neArv E_a2 V_d.1 (hw _ (List.mem_of_getElem? (i := 46) rfl)))) (fun q => Nat.ne_of_lt (Nat.lt_of_lt_of_le E_a2.lt q))
  have ne_sd_d'_4 : sd ≠ d'_4 := mb_4.elim (fun q => by rw [q]; exact ne_2) (fun q => Nat.ne_of_lt (Nat.lt_of_lt_of_le V_sd.lt q))
  have g_d'_4 : n0 ≤ d'_4 := mb_4.elim (fun q => by rw [q]; exact g_d) (fun q => Nat.le_trans Z0 q)
  have wk_d'_4 : d'_4 ∈ [a1, d] ∨ h0.size ≤ d'_4 := mb_4.elim (fun q => by rw [q]; exact (Or.inl (by simp))) (fun q => Or.inr (Nat.le_trans (Keep.refl h0 [a1, d]).1 q))
  have V_d_4 := V_d.keep Kc4 (ninS (Ne.symm (Exa.neArv E_a1 V_d.1 (hw _ (List.mem_of_getElem? (i := 26) rfl)))) nin0)
  have E_a2_4 := E_a2.keep Kc4
  have F_a2_coder_4 := F_a2_c.keep Kc4 (ninS (Exa.ne E_a2 E_a1 (by decide)) nin0)
  have F_a2_value_4 := F_a2_v.keep Kc4 (ninS (Exa.ne E_a2 E_a1 (by decide)) nin0)
  have V_sd_4 := V_sd.keep Kc4 (ninS (Ne.symm (Exa.neArv E_a1 V_sd.1 (hw _ (List.mem_of_getElem? (i := 26) rfl)))) nin0)
  have K4 : Keep h0 T4.heap [a1, d] := (Keep.refl h0 [a1, d]).trans Kc4 (allS (P := fun x => x ∈ [a1, d] ∨ h0.size ≤ x) (Or.inl (by simp)) all0)
  have Z4 : n0 ≤ T4.heap.size := Nat.le_trans Z0 Kc4.1
  have O4 := Old.keep O0 Kc4 (allS g_a1 all0)
  have hn : cn + src.length ≤ bs'_4.length := by rw [len_4]; exact (cap2_ge _ _).1
  obtain ⟨T5, X5, e5, st5⟩ := getF X4 hx hZ hown (host := "") (Or.inl (hw _ (List.mem_of_getElem? (i := 74) rfl))) Via.refl rfl G4_3 (g := (mkF m 26 #[.val (.ref a1), .val (.ref a2), .val (.int (Int32.ofNat src.length))] [(.ref a1), (.ref a1)])) rfl rfl (hb hby d8_26)
  obtain ⟨cq6, kq6, q6a, q6b, q6c⟩ := isOf hZ e5 G4_0
  obtain ⟨_, _, ⟨T6, L6, k6, n6⟩, -, X6, ⟨Lc6, hQ6, l6, y6, z6⟩, st6⟩ := X5.virtualBack hx (y := (⟨"java/lang/AbstractStringBuilder", "putStringAt", "(ILjava/lang/String;)V"⟩ : MethodName)) (z := (⟨"java/lang/AbstractStringBuilder", "putStringAt", "(ILjava/lang/String;)V"⟩ : MethodName)) hown (mvT hZ (hw _ (List.mem_of_getElem? (i := 81) rfl))) (mvT hZ (decl_of (hw _ (List.mem_of_getElem? (i := 82) rfl)) (hw _ (List.mem_of_getElem? (i := 85) rfl)))) (notFace_of_selects (args := #[]) (mvT hZ (hw _ (List.mem_of_getElem? (i := 84) rfl)))) (mvT hZ (hw _ (List.mem_of_getElem? (i := 84) rfl))) (mvT hZ (hw _ (List.mem_of_getElem? (i := 82) rfl))) (by decide) (backOf (W := 0) (rm12 l Z a0 hw [] a1 a2 T4.heap n0 cs d'_4 k'_4 bs'_4 cn sd sk src cn CS hcs O4 G4_0 G4_1 G4_2 G4_3 G4_4 E_a2_4 F_a2_coder_4 F_a2_value_4 V_sd_4 g_d'_4 ne_sd_d'_4 hn Z4) hZ (hw _ (List.mem_of_getElem? (i := 85) rfl)) (hw _ (List.mem_of_getElem? (i := 35) rfl)) (by decide) (by decide)) q6a q6c (g := (mkF m 30 #[.val (.ref a1), .val (.ref a2), .val (.int (Int32.ofNat src.length))] [(.ref a2), (.int (Int32.ofNat cn)), (.ref a1)])) rfl (by rw [hml]; rfl) (Steps.refl _) (argsL := [(.int (Int32.ofNat cn)), (.ref a2)]) (rest := []) (lenOf pd9 rfl) rfl (by show 2 * 0 + _ ≤ _; exact Nat.le_of_eq rfl) (hb hby d8_30) (fun _ _ => ⟨rfl, e5, (by decide : 1 + 0 ≤ _), (by decide : 142 + 0 ≤ _)⟩)
  dsimp only [Pt.U, Pt.locs, Pt.cells, Pt.slots] at X6 l6 y6 z6 st6 hQ6
  subst l6 y6 z6
  obtain ⟨rfl, N6q, Kc6, G6_0⟩ := hQ6
  have N6 := Fr.app N4 N6q
  have E_a1_6 := G4_0.keep Kc6
  have F_a1_value_6 := G4_1.keep Kc6 (ninS ne_a1_d'_4 nin0)
  have F_a1_coder_6 := G4_2.keep Kc6 (ninS ne_a1_d'_4 nin0)
  have F_a1_count_6 := G4_3.keep Kc6 (ninS ne_a1_d'_4 nin0)
  have E_a2_6 := E_a2_4.keep Kc6
  have F_a2_coder_6 := F_a2_coder_4.keep Kc6 (ninS ne_a2_d'_4 nin0)
  have F_a2_value_6 := F_a2_value_4.keep Kc6 (ninS ne_a2_d'_4 nin0)
  have V_sd_6 := V_sd_4.keep Kc6 (ninS ne_sd_d'_4 nin0)
  have K6 : Keep h0 T6.heap [a1, d] := K4.trans Kc6 (allS (P := fun x => x ∈ [a1, d] ∨ h0.size ≤ x) wk_d'_4 all0)
  have Z6 : n0 ≤ T6.heap.size := Nat.le_trans Z4 Kc6.1
  have O6 := Old.keep O4 Kc6 (allS g_d'_4 all0)
  obtain ⟨T7, X7, e7, st7⟩ := getF X6 hx hZ hown (host := "") (Or.inl (hw _ (List.mem_of_getElem? (i := 74) rfl))) Via.refl rfl F_a1_count_6 (g := (mkF m 35 #[.val (.ref a1), .val (.ref a2), .val (.int (Int32.ofNat src.length))] [(.ref a1), (.ref a1)])) rfl rfl (hb hby d8_35)
  have nq8 : ((Int32.ofNat cn) + (Int32.ofNat src.length)) = (Int32.ofNat (cn + src.length)) := ofN_add _ _
  obtain ⟨T9, h9, X9, e9, W9, st9⟩ := putF X7 hx hZ hown (host := "") (Or.inl (hw _ (List.mem_of_getElem? (i := 74) rfl))) Via.refl e7 F_a1_count_6 E_a1_6 (Or.inl (hw _ (List.mem_of_getElem? (i := 75) rfl))) (hw _ (List.mem_of_getElem? (i := 26) rfl)) (ty := .int) (by decide) rfl rfl (g := (mkF m 40 #[.val (.ref a1), .val (.ref a2), .val (.int (Int32.ofNat src.length))] [(.int (Int32.ofNat (cn + src.length))), (.ref a1)])) rfl rfl (hb hby d8_40)
  have E_a1_9 := E_a1_6.wr W9
  have F_a1_value_9 := F_a1_value_6.other W9 (Or.inr (slot_ne (Or.inl (hw _ (List.mem_of_getElem? (i := 42) rfl))) (Or.inl (hw _ (List.mem_of_getElem? (i := 75) rfl))) (by decide) (t := (.array .byte)) (t' := .int) (by decide) (by decide)))
  have F_a1_coder_9 := F_a1_coder_6.other W9 (Or.inr (slot_ne (Or.inl (hw _ (List.mem_of_getElem? (i := 44) rfl))) (Or.inl (hw _ (List.mem_of_getElem? (i := 75) rfl))) (by decide) (t := .byte) (t' := .int) (by decide) (by decide)))
  have F_a1_count_9 := F_a1_count_6.same W9
  have E_a2_9 := E_a2_6.wr W9
  have F_a2_coder_9 := F_a2_coder_6.other W9 (Or.inl (Exa.ne E_a2_6 E_a1_6 (by decide)))
  have F_a2_value_9 := F_a2_value_6.other W9 (Or.inl (Exa.ne E_a2_6 E_a1_6 (by decide)))
  have V_sd_9 := V_sd_6.other W9 (Ne.symm (Exa.neArv E_a1_6 V_sd_6.1 (hw _ (List.mem_of_getElem? (i := 26) rfl))))
  have V_d__4_9 := G6_0.other W9 (Ne.symm ne_a1_d'_4)
  have K9 : Keep h0 h9 [a1, d] := K6.wr W9 (Or.inl (by simp))
  have N9 := Fr.snoc X9 N6 g_a1
  have Z9 : n0 ≤ h9.size := Nat.le_trans Z6 (Keep.of_wr W9).1
  have O9 := Old.wr O6 W9 g_a1
  refine hneg ?_
  obtain ⟨fs, hr, hrun, hended, hW, hsame⟩ := X9.leave (v := some (.ref a1)) (fun h => by rw [Bd.returns] at h; cases h)
  refine ⟨_, _, pre0 _ ?_, hrun, hended, _, _, rfl, ?_, ⟨_, rfl⟩, hW, hsame.mono (by decide) (by decide)⟩
  · show Steps p.tables e below (s₁.setTop (mkF m 0 #[.val (.ref a1), .val (.ref a2), .unset] [])) _
    refine XS.aloadN X0.here hx rfl (hb hby d8_0) rfl rfl ?_
    show Steps p.tables e below (s₁.setTop (mkF m 1 #[.val (.ref a1), .val (.ref a2), .unset] [(.ref a2)])) _
    refine XS.ifnonnullYes X0.here hx rfl (pc0 := 1) (pc' := 9) rfl (hb hby d8_1) rfl (by decide) (by decide) ?_
    show Steps p.tables e below (s₁.setTop (mkF m 9 #[.val (.ref a1), .val (.ref a2), .unset] [])) _
    refine XS.aloadN X0.here hx rfl (hb hby d8_9) rfl rfl ?_
    show Steps p.tables e below (s₁.setTop (mkF m 10 #[.val (.ref a1), .val (.ref a2), .unset] [(.ref a2)])) _
    refine st1.trans ?_
    show Steps p.tables e below (T1.setTop (mkF m 13 #[.val (.ref a1), .val (.ref a2), .unset] [(.int (Int32.ofNat src.length))])) _
    refine XS.istoreN X1.here hx rfl (hb hby d8_13) rfl (l' := #[.val (.ref a1), .val (.ref a2), .val (.int (Int32.ofNat src.length))]) rfl ?_
    show Steps p.tables e below (T1.setTop (mkF m 14 #[.val (.ref a1), .val (.ref a2), .val (.int (Int32.ofNat src.length))] [])) _
    refine XS.aloadN X1.here hx rfl (hb hby d8_14) rfl rfl ?_
    show Steps p.tables e below (T1.setTop (mkF m 15 #[.val (.ref a1), .val (.ref a2), .val (.int (Int32.ofNat src.length))] [(.ref a1)])) _
    refine XS.aloadN X1.here hx rfl (hb hby d8_15) rfl rfl ?_
    show Steps p.tables e below (T1.setTop (mkF m 16 #[.val (.ref a1), .val (.ref a2), .val (.int (Int32.ofNat src.length))] [(.ref a1), (.ref a1)])) _
    refine st2 _ ?_
    show Steps p.tables e below (T2.setTop (mkF m 19 #[.val (.ref a1), .val (.ref a2), .val (.int (Int32.ofNat src.length))] [(.int (Int32.ofNat cn)), (.ref a1)])) _
    refine XS.iloadN X2.here hx rfl (hb hby d8_19) rfl ?_
    show Steps p.tables e below (T2.setTop (mkF m 20 #[.val (.ref a1), .val (.ref a2), .val (.int (Int32.ofNat src.length))] [(.int (Int32.ofNat src.length)), (.int (Int32.ofNat cn)), (.ref a1)])) _
    refine XS.iadd X2.here hx rfl (hb hby d8_20) rfl ?_
    show Steps p.tables e below (T2.setTop (mkF m 21 #[.val (.ref a1), .val (.ref a2), .val (.int (Int32.ofNat src.length))] [(.int ((Int32.ofNat cn) + (Int32.ofNat src.length))), (.ref a1)])) _
    rw [nq3]
    show Steps p.tables e below (T2.setTop (mkF m 21 #[.val (.ref a1), .val (.ref a2), .val (.int (Int32.ofNat src.length))] [(.int (Int32.ofNat (cn + src.length))), (.ref a1)])) _
    refine st4.trans ?_
    show Steps p.tables e below (T4.setTop (mkF m 24 #[.val (.ref a1), .val (.ref a2), .val (.int (Int32.ofNat src.length))] [])) _
    refine XS.aloadN X4.here hx rfl (hb hby d8_24) rfl rfl ?_
    show Steps p.tables e below (T4.setTop (mkF m 25 #[.val (.ref a1), .val (.ref a2), .val (.int (Int32.ofNat src.length))] [(.ref a1)])) _
    refine XS.aloadN X4.here hx rfl (hb hby d8_25) rfl rfl ?_
    show Steps p.tables e below (T4.setTop (mkF m 26 #[.val (.ref a1), .val (.ref a2), .val (.int (Int32.ofNat src.length))] [(.ref a1), (.ref a1)])) _
    refine st5 _ ?_
    show Steps p.tables e below (T5.setTop (mkF m 29 #[.val (.ref a1), .val (.ref a2), .val (.int (Int32.ofNat src.length))] [(.int (Int32.ofNat cn)), (.ref a1)])) _
    refine XS.aloadN X5.here hx rfl (hb hby d8_29) rfl rfl ?_
    show Steps p.tables e below (T5.setTop (mkF m 30 #[.val (.ref a1), .val (.ref a2), .val (.int (Int32.ofNat src.length))] [(.ref a2), (.int (Int32.ofNat cn)), (.ref a1)])) _
    refine st6.trans ?_
    show Steps p.tables e below (T6.setTop (mkF m 33 #[.val (.ref a1), .val (.ref a2), .val (.int (Int32.ofNat src.length))] [])) _
    refine XS.aloadN X6.here hx rfl (hb hby d8_33) rfl rfl ?_
    show Steps p.tables e below (T6.setTop (mkF m 34 #[.val (.ref a1), .val (.ref a2), .val (.int (Int32.ofNat src.length))] [(.ref a1)])) _
    refine XS.dup X6.here hx rfl (hb hby d8_34) rfl rfl ?_
    show Steps p.tables e below (T6.setTop (mkF m 35 #[.val (.ref a1), .val (.ref a2), .val (.int (Int32.ofNat src.length))] [(.ref a1), (.ref a1)])) _
    refine st7 _ ?_
    show Steps p.tables e below (T7.setTop (mkF m 38 #[.val (.ref a1), .val (.ref a2), .val (.int (Int32.ofNat src.length))] [(.int (Int32.ofNat cn)), (.ref a1)])) _
    refine XS.iloadN X7.here hx rfl (hb hby d8_38) rfl ?_
    show Steps p.tables e below (T7.setTop (mkF m 39 #[.val (.ref a1), .val (.ref a2), .val (.int (Int32.ofNat src.length))] [(.int (Int32.ofNat src.length)), (.int (Int32.ofNat cn)), (.ref a1)])) _
    refine XS.iadd X7.here hx rfl (hb hby d8_39) rfl ?_
    show Steps p.tables e below (T7.setTop (mkF m 40 #[.val (.ref a1), .val (.ref a2), .val (.int (Int32.ofNat src.length))] [(.int ((Int32.ofNat cn) + (Int32.ofNat src.length))), (.ref a1)])) _
    rw [nq8]
    show Steps p.tables e below (T7.setTop (mkF m 40 #[.val (.ref a1), .val (.ref a2), .val (.int (Int32.ofNat src.length))] [(.int (Int32.ofNat (cn + src.length))), (.ref a1)])) _
    refine st9 _ ?_
    show Steps p.tables e below (T9.setTop (mkF m 43 #[.val (.ref a1), .val (.ref a2), .val (.int (Int32.ofNat src.length))] [])) _
    refine XS.aloadN X9.here hx rfl (hb hby d8_43) rfl rfl ?_
    show Steps p.tables e below (T9.setTop (mkF m 44 #[.val (.ref a1), .val (.ref a2), .val (.int (Int32.ofNat src.length))] [(.ref a1)])) _
    exact retOut X9 hx (t := (.object "java/lang/AbstractStringBuilder")) Bd.returns rfl (Or.inr (Or.inr (Or.inr (Or.inr ⟨rfl, rfl, rfl⟩)))) (hb hby d8_44) hr
  · show Q8 Z a1 a2 cs d dk ds cn sd sk src h0 n0 _ T9.heap _
    rw [e9]
    exact ⟨_, _, _, rfl, N9, K9, E_a1_9, F_a1_value_9, F_a1_coder_9, F_a1_count_9, V_d__4_9, (app_len hn).trans len_4, app_take qn tk_4 hn, mb_4⟩

theorem d7_0 : decode jdk_67_method_7_code 0 = .ok (.aload_n 0, 1) := by decide +kernel
theorem d7_1 : decode jdk_67_method_7_code 1 = .ok (.aload_n 1, 1) := by decide +kernel
theorem d7_2 : decode jdk_67_method_7_code 2 = .ok (.invokespecial 29, 3) := by decide +kernel
theorem d7_5 : decode jdk_67_method_7_code 5 = .ok (.pop, 1) := by decide +kernel
theorem d7_6 : decode jdk_67_method_7_code 6 = .ok (.aload_n 0, 1) := by decide +kernel
theorem d7_7 : decode jdk_67_method_7_code 7 = .ok (.areturn, 1) := by decide +kernel
theorem pn_7 : plainName "java/lang/StringBuilder" = true := by first | (simp [plainName, overriddenIn]; done) | decide +kernel
theorem ef_7 (m : MethodId) (a1 : Addr) (a2 : Addr) : entryFrame m #[(.ref a1), (.ref a2)] 2 = mkF m 0 #[.val (.ref a1), .val (.ref a2)] [] := by first | (simp [entryFrame, mkF, argsToLocals, Value.category]; done) | rfl
def Q7 (Z : State) (a1 : Addr) (a2 : Addr) (cs : Int32) (d : Addr) (dk : ClassId) (ds : List Int32) (cn : Nat) (sd : Addr) (sk : ClassId) (src : List Int32) (h0 : Heap) (n0 : Nat) (v : Option Value) (h : Heap) (L : List Loc) : Prop := ∃ (d' : Addr) (k' : ClassId) (bs' : List Int32), v = some (.ref a1) ∧ Fr n0 L ∧ Keep h0 h [a1, d] ∧ Exa Z h a1 "java/lang/StringBuilder" ∧ Fld Z h a1 "java/lang/AbstractStringBuilder" "value" "[B" (.ref d') ∧ Fld Z h a1 "java/lang/AbstractStringBuilder" "coder" "B" (.int 0) ∧ Fld Z h a1 "java/lang/AbstractStringBuilder" "count" "I" (.int (Int32.ofNat (cn + src.length))) ∧ BL Z h d' k' bs' ∧ bs'.length = cap2 ds.length (cn + src.length) ∧ bs'.take (cn + src.length) = ds.take cn ++ src ∧ (d' = d ∨ h0.size ≤ d')
set_option maxRecDepth 65536 in
set_option maxHeartbeats 40000000 in
theorem rm7 (l : Launch) (Z : State) (a0 : Array Value) (hw : ∀ d ∈ tables_1, d.before a0 Z = true) (ws : List Jvm.Cond) (a1 : Addr) (a2 : Addr) (h0 : Heap) (n0 : Nat) (cs : Int32) (d : Addr) (dk : ClassId) (ds : List Int32) (cn : Nat) (sd : Addr) (sk : ClassId) (src : List Int32) (CS : Sta Z Z.heap "java/lang/String" "COMPACT_STRINGS" "Z" (.int cs)) (hcs : ¬ cs = 0) (O0 : Old Z n0 h0) (E_a1 : Exa Z h0 a1 "java/lang/StringBuilder") (F_a1_v : Fld Z h0 a1 "java/lang/AbstractStringBuilder" "value" "[B" (.ref d)) (F_a1_c : Fld Z h0 a1 "java/lang/AbstractStringBuilder" "coder" "B" (.int 0)) (F_a1_n : Fld Z h0 a1 "java/lang/AbstractStringBuilder" "count" "I" (.int (Int32.ofNat cn))) (V_d : BL Z h0 d dk ds) (E_a2 : Exa Z h0 a2 "java/lang/String") (F_a2_c : Fld Z h0 a2 "java/lang/String" "coder" "B" (.int 0)) (F_a2_v : Fld Z h0 a2 "java/lang/String" "value" "[B" (.ref sd)) (V_sd : B0 Z h0 sd sk src) (qn : cn ≤ ds.length) (qm : cn + src.length ≤ 100) (qL : ds.length ≤ 70) (g_a1 : n0 ≤ a1) (g_d : n0 ≤ d) (Z0 : n0 ≤ h0.size) (ne_2 : sd ≠ d) :
    MetFree l (⟨"java/lang/StringBuilder", "append", "(Ljava/lang/String;)Ljava/lang/StringBuilder;"⟩ : MethodName) (head1 (Jvm.Cond.code (⟨"java/lang/StringBuilder", "append", "(Ljava/lang/String;)Ljava/lang/StringBuilder;"⟩ : MethodName) jdk_67_method_7_code 2 (some (.object "java/lang/StringBuilder")) :: ws) ({ frames := 5, cells := 1, slots := 142, locals := 93 } : Room)) (fun a U => a = #[(.ref a1), (.ref a2)] ∧ Z.Warmed39 U.vm ∧ U.heap = h0) (fun _ _ _ _ _ => True) (fun _ U o U' => ∃ v L, o = .returned v ∧ Q7 Z a1 a2 cs d dk ds cn sd sk src h0 n0 v U'.heap L ∧ FrameEnd U o U' L ({ frames := 5, cells := 1, slots := 142, locals := 93 } : Room).cells ({ frames := 5, cells := 1, slots := 142, locals := 93 } : Room).slots) := by
  refine MetFree.of_bodySF (plainFor_of_name pn_7) hisR ?_
  intro p e s m args below meth c s₁ Bd hml0 hP hK
  obtain ⟨rfl, hZ, hh⟩ := hP
  have hx := Bd.exec
  have hby := Bd.bytes
  have hml : c.maxLocals = 2 := hml0
  have hown0 := findClass_of_methodNamed Bd.named
  have hown : s.vm.findClass "java/lang/StringBuilder" = some m.cls := hown0
  have hnm := (name_of_methodNamed Bd.named Bd.method).1
  have X0 : Stand p l e ({ frames := 5, cells := 1, slots := 142, locals := 93 } : Room) s m #[(.ref a1), (.ref a2)] below meth c s₁ [] 0 0 := Stand.of_body Bd
  have e0 : s₁.heap = h0 := by rw [← hh, Bd.state]; rfl
  have N0 := Fr.nil n0
  have pre0 : ∀ t, Steps p.tables e below (s₁.setTop (mkF m 0 #[.val (.ref a1), .val (.ref a2)] [])) t → Steps p.tables e below (s₁.setTop (entryFrame m #[(.ref a1), (.ref a2)] 2)) t := fun t k => castTop (ef_7 m a1 a2) k
  refine Classical.byContradiction fun hneg => ?_
  obtain ⟨_, _, ⟨T1, L1, k1, n1⟩, -, X1, ⟨Lc1, hQ1, l1, y1, z1⟩, st1⟩ := superBack X0 hx hZ (y := (⟨"java/lang/AbstractStringBuilder", "append", "(Ljava/lang/String;)Ljava/lang/AbstractStringBuilder;"⟩ : MethodName)) hown (hw _ (List.mem_of_getElem? (i := 56) rfl)) (same_self (y := (⟨"java/lang/AbstractStringBuilder", "append", "(Ljava/lang/String;)Ljava/lang/AbstractStringBuilder;"⟩ : MethodName)) (hw _ (List.mem_of_getElem? (i := 57) rfl)) (hw _ (List.mem_of_getElem? (i := 79) rfl)) rfl (by decide)) (hw _ (List.mem_of_getElem? (i := 57) rfl)) (hw _ (List.mem_of_getElem? (i := 58) rfl)) (by decide) (backOf (W := 0) (rm8 l Z a0 hw [] a1 a2 h0 n0 cs d dk ds cn sd sk src CS hcs O0 E_a1 F_a1_v F_a1_c F_a1_n V_d E_a2 F_a2_c F_a2_v V_sd qn qm (by omega) g_a1 g_d Z0 ne_2) hZ (hw _ (List.mem_of_getElem? (i := 60) rfl)) (hw _ (List.mem_of_getElem? (i := 35) rfl)) (by decide) (by decide)) e0 (Ins.self E_a1) (g := (mkF m 2 #[.val (.ref a1), .val (.ref a2)] [(.ref a2), (.ref a1)])) rfl (by rw [hml]; rfl) (hw _ (List.mem_of_getElem? (i := 60) rfl)) (argsL := [(.ref a2)]) (rest := []) (lenOf pd10 rfl) rfl (by show 2 * 0 + _ ≤ _; exact Nat.le_of_eq rfl) (hb hby d7_2) (fun _ _ => ⟨rfl, e0, (by decide : 0 + 1 ≤ _), (by decide : 0 + 142 ≤ _)⟩)
  dsimp only [Pt.U, Pt.locs, Pt.cells, Pt.slots] at X1 l1 y1 z1 st1 hQ1
  subst l1 y1 z1
  obtain ⟨d'_1, k'_1, bs'_1, rfl, N1q, Kc1, G1_0, G1_1, G1_2, G1_3, G1_4, len_1, tk_1, mb_1⟩ := hQ1
  have N1 := Fr.app N0 N1q
  have ne_a1_d'_1 : a1 ≠ d'_1 := mb_1.elim (fun q => by rw [q]; exact (Exa.neArv E_a1 V_d.1 (hw _ (List.mem_of_getElem? (i := 26) rfl)))) (fun q => Nat.ne_of_lt (Nat.lt_of_lt_of_le E_a1.lt q))
  have ne_a2_d'_1 : a2 ≠ d'_1 := mb_1.elim (fun q => by rw [q]; exact (Exa.neArv E_a2 V_d.1 (hw _ (List.mem_of_getElem? (i := 46) rfl)))) (fun q => Nat.ne_of_lt (Nat.lt_of_lt_of_le E_a2.lt q))
  have ne_sd_d'_1 : sd ≠ d'_1 := mb_1.elim (fun q => by rw [q]; exact ne_2) (fun q => Nat.ne_of_lt (Nat.lt_of_lt_of_le V_sd.lt q))
  have g_d'_1 : n0 ≤ d'_1 := mb_1.elim (fun q => by rw [q]; exact g_d) (fun q => Nat.le_trans Z0 q)
  have wk_d'_1 : d'_1 ∈ [a1, d] ∨ h0.size ≤ d'_1 := mb_1.elim (fun q => by rw [q]; exact (Or.inl (by simp))) (fun q => Or.inr (Nat.le_trans (Keep.refl h0 [a1, d]).1 q))
  have E_a2_1 := E_a2.keep Kc1
  have F_a2_coder_1 := F_a2_c.keep Kc1 (ninS (Exa.ne E_a2 E_a1 (by decide)) (ninS (Exa.neArv E_a2 V_d.1 (hw _ (List.mem_of_getElem? (i := 46) rfl))) nin0))
  have F_a2_value_1 := F_a2_v.keep Kc1 (ninS (Exa.ne E_a2 E_a1 (by decide)) (ninS (Exa.neArv E_a2 V_d.1 (hw _ (List.mem_of_getElem? (i := 46) rfl))) nin0))
  have V_sd_1 := V_sd.keep Kc1 (ninS (Ne.symm (Exa.neArv E_a1 V_sd.1 (hw _ (List.mem_of_getElem? (i := 26) rfl)))) (ninS ne_2 nin0))
  have K1 : Keep h0 T1.heap [a1, d] := (Keep.refl h0 [a1, d]).trans Kc1 (allS (P := fun x => x ∈ [a1, d] ∨ h0.size ≤ x) (Or.inl (by simp)) (allS (P := fun x => x ∈ [a1, d] ∨ h0.size ≤ x) (Or.inl (by simp)) all0))
  have Z1 : n0 ≤ T1.heap.size := Nat.le_trans Z0 Kc1.1
  have O1 := Old.keep O0 Kc1 (allS g_a1 (allS g_d all0))
  refine hneg ?_
  obtain ⟨fs, hr, hrun, hended, hW, hsame⟩ := X1.leave (v := some (.ref a1)) (fun h => by rw [Bd.returns] at h; cases h)
  refine ⟨_, _, pre0 _ ?_, hrun, hended, _, _, rfl, ?_, ⟨_, rfl⟩, hW, hsame.mono (by decide) (by decide)⟩
  · show Steps p.tables e below (s₁.setTop (mkF m 0 #[.val (.ref a1), .val (.ref a2)] [])) _
    refine XS.aloadN X0.here hx rfl (hb hby d7_0) rfl rfl ?_
    show Steps p.tables e below (s₁.setTop (mkF m 1 #[.val (.ref a1), .val (.ref a2)] [(.ref a1)])) _
    refine XS.aloadN X0.here hx rfl (hb hby d7_1) rfl rfl ?_
    show Steps p.tables e below (s₁.setTop (mkF m 2 #[.val (.ref a1), .val (.ref a2)] [(.ref a2), (.ref a1)])) _
    refine st1.trans ?_
    show Steps p.tables e below (T1.setTop (mkF m 5 #[.val (.ref a1), .val (.ref a2)] [(.ref a1)])) _
    refine XS.pop X1.here hx rfl (hb hby d7_5) rfl rfl ?_
    show Steps p.tables e below (T1.setTop (mkF m 6 #[.val (.ref a1), .val (.ref a2)] [])) _
    refine XS.aloadN X1.here hx rfl (hb hby d7_6) rfl rfl ?_
    show Steps p.tables e below (T1.setTop (mkF m 7 #[.val (.ref a1), .val (.ref a2)] [(.ref a1)])) _
    exact retOut X1 hx (t := (.object "java/lang/StringBuilder")) Bd.returns rfl (Or.inr (Or.inr (Or.inr (Or.inr ⟨rfl, rfl, rfl⟩)))) (hb hby d7_7) hr
  · show Q7 Z a1 a2 cs d dk ds cn sd sk src h0 n0 _ T1.heap _
    exact ⟨_, _, _, rfl, N1, K1, G1_0, G1_1, G1_2, G1_3, G1_4, len_1, tk_1, mb_1⟩

theorem d23_0 : decode jdk_68_method_68_code 0 = .ok (.getstatic 18, 3) := by decide +kernel
theorem d23_3 : decode jdk_68_method_68_code 3 = .ok (.ifCond .eq 14, 3) := by decide +kernel
theorem d23_6 : decode jdk_68_method_68_code 6 = .ok (.aload_n 0, 1) := by decide +kernel
theorem d23_7 : decode jdk_68_method_68_code 7 = .ok (.getfield 22, 3) := by decide +kernel
theorem d23_10 : decode jdk_68_method_68_code 10 = .ok (.ifCond .ne 7, 3) := by decide +kernel
theorem d23_13 : decode jdk_68_method_68_code 13 = .ok (.iconst 1, 1) := by decide +kernel
theorem d23_14 : decode jdk_68_method_68_code 14 = .ok (.goto 4, 3) := by decide +kernel
theorem d23_18 : decode jdk_68_method_68_code 18 = .ok (.ireturn, 1) := by decide +kernel
theorem pn_23 : plainName "java/lang/AbstractStringBuilder" = true := by first | (simp [plainName, overriddenIn]; done) | decide +kernel
theorem ef_23 (m : MethodId) (a1 : Addr) : entryFrame m #[(.ref a1)] 1 = mkF m 0 #[.val (.ref a1)] [] := by first | (simp [entryFrame, mkF, argsToLocals, Value.category]; done) | rfl
def Q23 (Z : State) (a1 : Addr) (cs : Int32) (h0 : Heap) (n0 : Nat) (v : Option Value) (h : Heap) (L : List Loc) : Prop := v = some (.int (1 : Int32)) ∧ Fr n0 L ∧ h = h0
set_option maxRecDepth 65536 in
set_option maxHeartbeats 40000000 in
theorem rm23 (l : Launch) (Z : State) (a0 : Array Value) (hw : ∀ d ∈ tables_1, d.before a0 Z = true) (ws : List Jvm.Cond) (a1 : Addr) (h0 : Heap) (n0 : Nat) (cs : Int32) (CS : Sta Z Z.heap "java/lang/String" "COMPACT_STRINGS" "Z" (.int cs)) (hcs : ¬ cs = 0) (O0 : Old Z n0 h0) (F_a1_c : Fld Z h0 a1 "java/lang/AbstractStringBuilder" "coder" "B" (.int 0)) :
    MetFree l (⟨"java/lang/AbstractStringBuilder", "isLatin1", "()Z"⟩ : MethodName) (head1 (Jvm.Cond.code (⟨"java/lang/AbstractStringBuilder", "isLatin1", "()Z"⟩ : MethodName) jdk_68_method_68_code 1 (some .boolean) :: ws) ({ frames := 0, cells := 0, slots := 0, locals := 0 } : Room)) (fun a U => a = #[(.ref a1)] ∧ Z.Warmed39 U.vm ∧ U.heap = h0) (fun _ _ _ _ _ => True) (fun _ U o U' => ∃ v L, o = .returned v ∧ Q23 Z a1 cs h0 n0 v U'.heap L ∧ FrameEnd U o U' L ({ frames := 0, cells := 0, slots := 0, locals := 0 } : Room).cells ({ frames := 0, cells := 0, slots := 0, locals := 0 } : Room).slots) := by
  refine MetFree.of_bodySF (plainFor_of_name pn_23) hisR ?_
  intro p e s m args below meth c s₁ Bd hml0 hP hK
  obtain ⟨rfl, hZ, hh⟩ := hP
  have hx := Bd.exec
  have hby := Bd.bytes
  have hml : c.maxLocals = 1 := hml0
  have hown0 := findClass_of_methodNamed Bd.named
  have hown : s.vm.findClass "java/lang/AbstractStringBuilder" = some m.cls := hown0
  have hnm := (name_of_methodNamed Bd.named Bd.method).1
  have X0 : Stand p l e ({ frames := 0, cells := 0, slots := 0, locals := 0 } : Room) s m #[(.ref a1)] below meth c s₁ [] 0 0 := Stand.of_body Bd
  have e0 : s₁.heap = h0 := by rw [← hh, Bd.state]; rfl
  have N0 := Fr.nil n0
  have pre0 : ∀ t, Steps p.tables e below (s₁.setTop (mkF m 0 #[.val (.ref a1)] [])) t → Steps p.tables e below (s₁.setTop (entryFrame m #[(.ref a1)] 1)) t := fun t k => castTop (ef_23 m a1) k
  refine Classical.byContradiction fun hneg => ?_
  obtain ⟨T1, X1, e1, st1⟩ := getS2 X0 hx hZ hown (host := "") (Or.inl (hw _ (List.mem_of_getElem? (i := 38) rfl))) Via.refl e0 (CS.ext O0.2) (g := (mkF m 0 #[.val (.ref a1)] [])) rfl (hb hby d23_0)
  obtain ⟨T2, X2, e2, st2⟩ := getF X1 hx hZ hown (host := "") (Or.inl (hw _ (List.mem_of_getElem? (i := 43) rfl))) Via.refl e1 F_a1_c (g := (mkF m 7 #[.val (.ref a1)] [(.ref a1)])) rfl rfl (hb hby d23_7)
  refine hneg ?_
  obtain ⟨fs, hr, hrun, hended, hW, hsame⟩ := X2.leave (v := some (.int (1 : Int32))) (fun h => by rw [Bd.returns] at h; cases h)
  refine ⟨_, _, pre0 _ ?_, hrun, hended, _, _, rfl, ?_, ⟨_, rfl⟩, hW, hsame.mono (by decide) (by decide)⟩
  · show Steps p.tables e below (s₁.setTop (mkF m 0 #[.val (.ref a1)] [])) _
    refine st1 _ ?_
    show Steps p.tables e below (T1.setTop (mkF m 3 #[.val (.ref a1)] [(.int cs)])) _
    refine XS.ifNo X1.here hx rfl (hb hby d23_3) rfl ((if0 _ _).trans (feq hcs).1) ?_
    show Steps p.tables e below (T1.setTop (mkF m 6 #[.val (.ref a1)] [])) _
    refine XS.aloadN X1.here hx rfl (hb hby d23_6) rfl rfl ?_
    show Steps p.tables e below (T1.setTop (mkF m 7 #[.val (.ref a1)] [(.ref a1)])) _
    refine st2 _ ?_
    show Steps p.tables e below (T2.setTop (mkF m 10 #[.val (.ref a1)] [(.int (0 : Int32))])) _
    refine XS.ifNo X2.here hx rfl (hb hby d23_10) rfl ((if0 _ _).trans (teq (by decide : (0 : Int32) = (0 : Int32))).2) ?_
    show Steps p.tables e below (T2.setTop (mkF m 13 #[.val (.ref a1)] [])) _
    refine XS.iconst X2.here hx rfl (hb hby d23_13) ?_
    show Steps p.tables e below (T2.setTop (mkF m 14 #[.val (.ref a1)] [(.int (1 : Int32))])) _
    refine XS.goto X2.here hx rfl (pc0 := 14) (pc' := 18) rfl (hb hby d23_14) (by decide) (by decide) ?_
    show Steps p.tables e below (T2.setTop (mkF m 18 #[.val (.ref a1)] [(.int (1 : Int32))])) _
    exact retN X2 hx (t := .boolean) Bd.returns (by simp) (hb hby d23_18) hr
  · show Q23 Z a1 cs h0 n0 _ T2.heap _
    rw [e2]
    exact ⟨rfl, N0, rfl⟩

theorem d16_0 : decode jdk_68_method_33_code 0 = .ok (.aload_n 0, 1) := by decide +kernel
theorem d16_1 : decode jdk_68_method_33_code 1 = .ok (.getfield 79, 3) := by decide +kernel
theorem d16_4 : decode jdk_68_method_33_code 4 = .ok (.istore_n 3, 1) := by decide +kernel
theorem d16_5 : decode jdk_68_method_33_code 5 = .ok (.iload_n 3, 1) := by decide +kernel
theorem d16_6 : decode jdk_68_method_33_code 6 = .ok (.lload_n 1, 1) := by decide +kernel
theorem d16_7 : decode jdk_68_method_33_code 7 = .ok (.invokestatic 254, 3) := by decide +kernel
theorem d16_10 : decode jdk_68_method_33_code 10 = .ok (.iadd, 1) := by decide +kernel
theorem d16_11 : decode jdk_68_method_33_code 11 = .ok (.istore 4, 2) := by decide +kernel
theorem d16_13 : decode jdk_68_method_33_code 13 = .ok (.aload_n 0, 1) := by decide +kernel
theorem d16_14 : decode jdk_68_method_33_code 14 = .ok (.iload 4, 2) := by decide +kernel
theorem d16_16 : decode jdk_68_method_33_code 16 = .ok (.invokevirtual 100, 3) := by decide +kernel
theorem d16_19 : decode jdk_68_method_33_code 19 = .ok (.aload_n 0, 1) := by decide +kernel
theorem d16_20 : decode jdk_68_method_33_code 20 = .ok (.invokevirtual 83, 3) := by decide +kernel
theorem d16_23 : decode jdk_68_method_33_code 23 = .ok (.ifCond .eq 17, 3) := by decide +kernel
theorem d16_26 : decode jdk_68_method_33_code 26 = .ok (.lload_n 1, 1) := by decide +kernel
theorem d16_27 : decode jdk_68_method_33_code 27 = .ok (.iload 4, 2) := by decide +kernel
theorem d16_29 : decode jdk_68_method_33_code 29 = .ok (.aload_n 0, 1) := by decide +kernel
theorem d16_30 : decode jdk_68_method_33_code 30 = .ok (.getfield 15, 3) := by decide +kernel
theorem d16_33 : decode jdk_68_method_33_code 33 = .ok (.invokestatic 259, 3) := by decide +kernel
theorem d16_36 : decode jdk_68_method_33_code 36 = .ok (.pop, 1) := by decide +kernel
theorem d16_37 : decode jdk_68_method_33_code 37 = .ok (.goto 15, 3) := by decide +kernel
theorem d16_52 : decode jdk_68_method_33_code 52 = .ok (.aload_n 0, 1) := by decide +kernel
theorem d16_53 : decode jdk_68_method_33_code 53 = .ok (.iload 4, 2) := by decide +kernel
theorem d16_55 : decode jdk_68_method_33_code 55 = .ok (.putfield 79, 3) := by decide +kernel
theorem d16_58 : decode jdk_68_method_33_code 58 = .ok (.aload_n 0, 1) := by decide +kernel
theorem d16_59 : decode jdk_68_method_33_code 59 = .ok (.areturn, 1) := by decide +kernel
theorem pn_16 : plainName "java/lang/AbstractStringBuilder" = true := by first | (simp [plainName, overriddenIn]; done) | decide +kernel
theorem ef_16 (m : MethodId) (a1 : Addr) (q2 : Int64) : entryFrame m #[(.ref a1), (.long q2)] 5 = mkF m 0 #[.val (.ref a1), .val (.long q2), .second, .unset, .unset] [] := by first | (simp [entryFrame, mkF, argsToLocals, Value.category]; done) | rfl
def Q16 (Z : State) (a1 : Addr) (q2 : Int64) (cs : Int32) (d : Addr) (dk : ClassId) (ds : List Int32) (cn : Nat) (h0 : Heap) (n0 : Nat) (v : Option Value) (h : Heap) (L : List Loc) : Prop := ∃ (d' : Addr) (k' : ClassId) (bs' : List Int32), v = some (.ref a1) ∧ Fr n0 L ∧ Keep h0 h [a1, d] ∧ Exa Z h a1 "java/lang/StringBuilder" ∧ Fld Z h a1 "java/lang/AbstractStringBuilder" "value" "[B" (.ref d') ∧ Fld Z h a1 "java/lang/AbstractStringBuilder" "coder" "B" (.int 0) ∧ Fld Z h a1 "java/lang/AbstractStringBuilder" "count" "I" (.int (Int32.ofNat (cn + (decB q2).length))) ∧ BL Z h d' k' bs' ∧ bs'.length = cap2 ds.length (cn + (decB q2).length) ∧ bs'.take (cn + (decB q2).length) = ds.take cn ++ (decB q2) ∧ (d' = d ∨ h0.size ≤ d')
set_option maxRecDepth 65536 in
set_option maxHeartbeats 40000000 in
theorem rm16 (l : Launch) (Z : State) (a0 : Array Value) (hw : ∀ d ∈ tables_1, d.before a0 Z = true) (ws : List Jvm.Cond) (a1 : Addr) (q2 : Int64) (h0 : Heap) (n0 : Nat) (cs : Int32) (d : Addr) (dk : ClassId) (ds : List Int32) (cn : Nat) (CS : Sta Z Z.heap "java/lang/String" "COMPACT_STRINGS" "Z" (.int cs)) (hcs : ¬ cs = 0) (O0 : Old Z n0 h0) (TB : DigT Z) (E_a1 : Exa Z h0 a1 "java/lang/StringBuilder") (F_a1_v : Fld Z h0 a1 "java/lang/AbstractStringBuilder" "value" "[B" (.ref d)) (F_a1_c : Fld Z h0 a1 "java/lang/AbstractStringBuilder" "coder" "B" (.int 0)) (F_a1_n : Fld Z h0 a1 "java/lang/AbstractStringBuilder" "count" "I" (.int (Int32.ofNat cn))) (V_d : BL Z h0 d dk ds) (qn : cn ≤ ds.length) (qm : cn + (decB q2).length ≤ 100) (qL : ds.length ≤ 70) (g_a1 : n0 ≤ a1) (g_d : n0 ≤ d) (Z0 : n0 ≤ h0.size) :
    MetFree l (⟨"java/lang/AbstractStringBuilder", "append", "(J)Ljava/lang/AbstractStringBuilder;"⟩ : MethodName) (head1 (Jvm.Cond.code (⟨"java/lang/AbstractStringBuilder", "append", "(J)Ljava/lang/AbstractStringBuilder;"⟩ : MethodName) jdk_68_method_33_code 5 (some (.object "java/lang/AbstractStringBuilder")) :: ws) ({ frames := 4, cells := 1, slots := 142, locals := 102 } : Room)) (fun a U => a = #[(.ref a1), (.long q2)] ∧ Z.Warmed39 U.vm ∧ U.heap = h0) (fun _ _ _ _ _ => True) (fun _ U o U' => ∃ v L, o = .returned v ∧ Q16 Z a1 q2 cs d dk ds cn h0 n0 v U'.heap L ∧ FrameEnd U o U' L ({ frames := 4, cells := 1, slots := 142, locals := 102 } : Room).cells ({ frames := 4, cells := 1, slots := 142, locals := 102 } : Room).slots) := by
  refine MetFree.of_bodySF (plainFor_of_name pn_16) hisR ?_
  intro p e s m args below meth c s₁ Bd hml0 hP hK
  obtain ⟨rfl, hZ, hh⟩ := hP
  have hx := Bd.exec
  have hby := Bd.bytes
  have hml : c.maxLocals = 5 := hml0
  have hown0 := findClass_of_methodNamed Bd.named
  have hown : s.vm.findClass "java/lang/AbstractStringBuilder" = some m.cls := hown0
  have hnm := (name_of_methodNamed Bd.named Bd.method).1
  have X0 : Stand p l e ({ frames := 4, cells := 1, slots := 142, locals := 102 } : Room) s m #[(.ref a1), (.long q2)] below meth c s₁ [] 0 0 := Stand.of_body Bd
  have e0 : s₁.heap = h0 := by rw [← hh, Bd.state]; rfl
  have N0 := Fr.nil n0
  have pre0 : ∀ t, Steps p.tables e below (s₁.setTop (mkF m 0 #[.val (.ref a1), .val (.long q2), .second, .unset, .unset] [])) t → Steps p.tables e below (s₁.setTop (entryFrame m #[(.ref a1), (.long q2)] 5)) t := fun t k => castTop (ef_16 m a1 q2) k
  refine Classical.byContradiction fun hneg => ?_
  obtain ⟨T1, X1, e1, st1⟩ := getF X0 hx hZ hown (host := "") (Or.inl (hw _ (List.mem_of_getElem? (i := 74) rfl))) Via.refl e0 F_a1_n (g := (mkF m 1 #[.val (.ref a1), .val (.long q2), .second, .unset, .unset] [(.ref a1)])) rfl rfl (hb hby d16_1)
  obtain ⟨_, _, ⟨T2, L2, k2, n2⟩, -, X2, ⟨Lc2, hQ2, l2, y2, z2⟩, st2⟩ := Jvm.LawKit.callS X1 hx (y := (⟨"java/lang/Long", "stringSize", "(J)I"⟩ : MethodName)) hown (mvT hZ (hw _ (List.mem_of_getElem? (i := 110) rfl))) (mvT hZ (hw _ (List.mem_of_getElem? (i := 111) rfl))) (mvT hZ (hw _ (List.mem_of_getElem? (i := 112) rfl))) (mvT hZ (hw _ (List.mem_of_getElem? (i := 113) rfl))) (by decide) (paySS_J (h := h0) (W := 1) hZ hw q2 n0 (by decide) (by decide)) (g := (mkF m 7 #[.val (.ref a1), .val (.long q2), .second, .val (.int (Int32.ofNat cn)), .unset] [(.long q2), (.int (Int32.ofNat cn))])) rfl (by rw [hml]; rfl) (argsL := [(.long q2)]) (rest := [(.int (Int32.ofNat cn))]) (lenOf pd11 rfl) rfl (by show 2 * 0 + _ ≤ _; exact Nat.le_of_eq rfl) (hb hby d16_7) (fun _ _ => ⟨rfl, e1, (by decide : 0 + 0 ≤ _), (by decide : 0 + 0 ≤ _)⟩)
  dsimp only [Pt.U, Pt.locs, Pt.cells, Pt.slots] at X2 l2 y2 z2 st2 hQ2
  subst l2 y2 z2
  obtain ⟨rfl, N2q, e2⟩ := hQ2
  have N2 := Fr.app N0 N2q
  have nq3 : ((Int32.ofNat cn) + (Int32.ofNat (decB q2).length)) = (Int32.ofNat (cn + (decB q2).length)) := ofN_add _ _
  obtain ⟨cq4, kq4, q4a, q4b, q4c⟩ := isOf hZ e2 E_a1
  obtain ⟨_, _, ⟨T4, L4, k4, n4⟩, -, X4, ⟨Lc4, hQ4, l4, y4, z4⟩, st4⟩ := X2.virtualBack hx (y := (⟨"java/lang/AbstractStringBuilder", "ensureCapacityInternal", "(I)V"⟩ : MethodName)) (z := (⟨"java/lang/AbstractStringBuilder", "ensureCapacityInternal", "(I)V"⟩ : MethodName)) hown (mvT hZ (hw _ (List.mem_of_getElem? (i := 76) rfl))) (mvT hZ (decl_of (hw _ (List.mem_of_getElem? (i := 77) rfl)) (hw _ (List.mem_of_getElem? (i := 80) rfl)))) (notFace_of_selects (args := #[]) (mvT hZ (hw _ (List.mem_of_getElem? (i := 79) rfl)))) (mvT hZ (hw _ (List.mem_of_getElem? (i := 79) rfl))) (mvT hZ (hw _ (List.mem_of_getElem? (i := 77) rfl))) (by decide) (backOf (W := 0) (rm11 l Z a0 hw [] a1 h0 n0 cs d dk ds cn ((cn + (decB q2).length)) CS hcs O0 E_a1 F_a1_v F_a1_c F_a1_n V_d (by omega) (by omega) g_a1 g_d Z0) hZ (hw _ (List.mem_of_getElem? (i := 80) rfl)) (hw _ (List.mem_of_getElem? (i := 35) rfl)) (by decide) (by decide)) q4a q4c (g := (mkF m 16 #[.val (.ref a1), .val (.long q2), .second, .val (.int (Int32.ofNat cn)), .val (.int (Int32.ofNat (cn + (decB q2).length)))] [(.int (Int32.ofNat (cn + (decB q2).length))), (.ref a1)])) rfl (by rw [hml]; rfl) (Steps.refl _) (argsL := [(.int (Int32.ofNat (cn + (decB q2).length)))]) (rest := []) (lenOf pd8 rfl) rfl (by show 2 * 0 + _ ≤ _; exact Nat.le_of_eq rfl) (hb hby d16_16) (fun _ _ => ⟨rfl, e2, (by decide : 0 + 1 ≤ _), (by decide : 0 + 142 ≤ _)⟩)
  dsimp only [Pt.U, Pt.locs, Pt.cells, Pt.slots] at X4 l4 y4 z4 st4 hQ4
  subst l4 y4 z4
  obtain ⟨d'_4, k'_4, bs'_4, rfl, N4q, Kc4, G4_0, G4_1, G4_2, G4_3, G4_4, len_4, tk_4, mb_4⟩ := hQ4
  have N4 := Fr.app N2 N4q
  have ne_a1_d'_4 : a1 ≠ d'_4 := mb_4.elim (fun q => by rw [q]; exact (Exa.neArv E_a1 V_d.1 (hw _ (List.mem_of_getElem? (i := 26) rfl)))) (fun q => Nat.ne_of_lt (Nat.lt_of_lt_of_le E_a1.lt q))
  have g_d'_4 : n0 ≤ d'_4 := mb_4.elim (fun q => by rw [q]; exact g_d) (fun q => Nat.le_trans Z0 q)
  have wk_d'_4 : d'_4 ∈ [a1, d] ∨ h0.size ≤ d'_4 := mb_4.elim (fun q => by rw [q]; exact (Or.inl (by simp))) (fun q => Or.inr (Nat.le_trans (Keep.refl h0 [a1, d]).1 q))
  have V_d_4 := V_d.keep Kc4 (ninS (Ne.symm (Exa.neArv E_a1 V_d.1 (hw _ (List.mem_of_getElem? (i := 26) rfl)))) nin0)
  have K4 : Keep h0 T4.heap [a1, d] := (Keep.refl h0 [a1, d]).trans Kc4 (allS (P := fun x => x ∈ [a1, d] ∨ h0.size ≤ x) (Or.inl (by simp)) all0)
  have Z4 : n0 ≤ T4.heap.size := Nat.le_trans Z0 Kc4.1
  have O4 := Old.keep O0 Kc4 (allS g_a1 all0)
  have hn : cn + (decB q2).length ≤ bs'_4.length := by rw [len_4]; exact (cap2_ge _ _).1
  obtain ⟨cq5, kq5, q5a, q5b, q5c⟩ := isOf hZ rfl G4_0
  obtain ⟨_, _, ⟨T5, L5, k5, n5⟩, -, X5, ⟨Lc5, hQ5, l5, y5, z5⟩, st5⟩ := X4.virtualBack hx (y := (⟨"java/lang/AbstractStringBuilder", "isLatin1", "()Z"⟩ : MethodName)) (z := (⟨"java/lang/AbstractStringBuilder", "isLatin1", "()Z"⟩ : MethodName)) hown (mvT hZ (hw _ (List.mem_of_getElem? (i := 139) rfl))) (mvT hZ (hw _ (List.mem_of_getElem? (i := 140) rfl))) (notFace_of_selects (args := #[]) (mvT hZ (hw _ (List.mem_of_getElem? (i := 142) rfl)))) (mvT hZ (hw _ (List.mem_of_getElem? (i := 142) rfl))) (mvT hZ (hw _ (List.mem_of_getElem? (i := 141) rfl))) (by decide) (backOf (W := 0) (rm23 l Z a0 hw [] a1  T4.heap n0 cs CS hcs O4 G4_2) hZ (hw _ (List.mem_of_getElem? (i := 143) rfl)) (hw _ (List.mem_of_getElem? (i := 35) rfl)) (by decide) (by decide)) q5a q5c (g := (mkF m 20 #[.val (.ref a1), .val (.long q2), .second, .val (.int (Int32.ofNat cn)), .val (.int (Int32.ofNat (cn + (decB q2).length)))] [(.ref a1)])) rfl (by rw [hml]; rfl) (Steps.refl _) (argsL := []) (rest := []) (lenOf pd12 rfl) rfl (by show 2 * 0 + _ ≤ _; exact Nat.le_of_eq rfl) (hb hby d16_20) (fun _ _ => ⟨rfl, rfl, (by decide : 1 + 0 ≤ _), (by decide : 142 + 0 ≤ _)⟩)
  dsimp only [Pt.U, Pt.locs, Pt.cells, Pt.slots] at X5 l5 y5 z5 st5 hQ5
  subst l5 y5 z5
  obtain ⟨rfl, N5q, e5⟩ := hQ5
  have N5 := Fr.app N4 N5q
  obtain ⟨T6, X6, e6, st6⟩ := getF X5 hx hZ hown (host := "") (Or.inl (hw _ (List.mem_of_getElem? (i := 41) rfl))) Via.refl e5 G4_1 (g := (mkF m 30 #[.val (.ref a1), .val (.long q2), .second, .val (.int (Int32.ofNat cn)), .val (.int (Int32.ofNat (cn + (decB q2).length)))] [(.ref a1), (.int (Int32.ofNat (cn + (decB q2).length))), (.long q2)])) rfl rfl (hb hby d16_30)
  obtain ⟨_, _, ⟨T7, L7, k7, n7⟩, -, X7, ⟨Lc7, hQ7, l7, y7, z7⟩, st7⟩ := Jvm.LawKit.callS X6 hx (y := (⟨"java/lang/Long", "getChars", "(JI[B)I"⟩ : MethodName)) hown (mvT hZ (hw _ (List.mem_of_getElem? (i := 144) rfl))) (mvT hZ (hw _ (List.mem_of_getElem? (i := 145) rfl))) (mvT hZ (hw _ (List.mem_of_getElem? (i := 112) rfl))) (mvT hZ (hw _ (List.mem_of_getElem? (i := 146) rfl))) (by decide) (payGC_J (h := T4.heap) (W := 0) (idx := (cn + (decB q2).length)) hZ hw q2 TB O4 G4_4 g_d'_4 hn (by omega) (by decide) (by decide)) (g := (mkF m 33 #[.val (.ref a1), .val (.long q2), .second, .val (.int (Int32.ofNat cn)), .val (.int (Int32.ofNat (cn + (decB q2).length)))] [(.ref d'_4), (.int (Int32.ofNat (cn + (decB q2).length))), (.long q2)])) rfl (by rw [hml]; rfl) (argsL := [(.long q2), (.int (Int32.ofNat (cn + (decB q2).length))), (.ref d'_4)]) (rest := []) (lenOf pd13 rfl) rfl (by show 2 * 0 + _ ≤ _; exact Nat.le_of_eq rfl) (hb hby d16_33) (fun _ _ => ⟨rfl, e6, (by decide : 1 + 0 ≤ _), (by decide : 142 + 0 ≤ _)⟩)
  dsimp only [Pt.U, Pt.locs, Pt.cells, Pt.slots] at X7 l7 y7 z7 st7 hQ7
  subst l7 y7 z7
  obtain ⟨rfl, N7q, Kc7, G7_0⟩ := hQ7
  have N7 := Fr.app N5 N7q
  have E_a1_7 := G4_0.keep Kc7
  have F_a1_value_7 := G4_1.keep Kc7 (ninS ne_a1_d'_4 nin0)
  have F_a1_coder_7 := G4_2.keep Kc7 (ninS ne_a1_d'_4 nin0)
  have F_a1_count_7 := G4_3.keep Kc7 (ninS ne_a1_d'_4 nin0)
  have K7 : Keep h0 T7.heap [a1, d] := K4.trans Kc7 (allS (P := fun x => x ∈ [a1, d] ∨ h0.size ≤ x) wk_d'_4 all0)
  have Z7 : n0 ≤ T7.heap.size := Nat.le_trans Z4 Kc7.1
  have O7 := Old.keep O4 Kc7 (allS g_d'_4 all0)
  rw [Nat.add_sub_cancel] at G7_0
  obtain ⟨T8, h8, X8, e8, W8, st8⟩ := putF X7 hx hZ hown (host := "") (Or.inl (hw _ (List.mem_of_getElem? (i := 74) rfl))) Via.refl rfl F_a1_count_7 E_a1_7 (Or.inl (hw _ (List.mem_of_getElem? (i := 75) rfl))) (hw _ (List.mem_of_getElem? (i := 26) rfl)) (ty := .int) (by decide) rfl rfl (g := (mkF m 55 #[.val (.ref a1), .val (.long q2), .second, .val (.int (Int32.ofNat cn)), .val (.int (Int32.ofNat (cn + (decB q2).length)))] [(.int (Int32.ofNat (cn + (decB q2).length))), (.ref a1)])) rfl rfl (hb hby d16_55)
  have E_a1_8 := E_a1_7.wr W8
  have F_a1_value_8 := F_a1_value_7.other W8 (Or.inr (slot_ne (Or.inl (hw _ (List.mem_of_getElem? (i := 42) rfl))) (Or.inl (hw _ (List.mem_of_getElem? (i := 75) rfl))) (by decide) (t := (.array .byte)) (t' := .int) (by decide) (by decide)))
  have F_a1_coder_8 := F_a1_coder_7.other W8 (Or.inr (slot_ne (Or.inl (hw _ (List.mem_of_getElem? (i := 44) rfl))) (Or.inl (hw _ (List.mem_of_getElem? (i := 75) rfl))) (by decide) (t := .byte) (t' := .int) (by decide) (by decide)))
  have F_a1_count_8 := F_a1_count_7.same W8
  have V_d__4_8 := G7_0.other W8 (Ne.symm ne_a1_d'_4)
  have K8 : Keep h0 h8 [a1, d] := K7.wr W8 (Or.inl (by simp))
  have N8 := Fr.snoc X8 N7 g_a1
  have Z8 : n0 ≤ h8.size := Nat.le_trans Z7 (Keep.of_wr W8).1
  have O8 := Old.wr O7 W8 g_a1
  refine hneg ?_
  obtain ⟨fs, hr, hrun, hended, hW, hsame⟩ := X8.leave (v := some (.ref a1)) (fun h => by rw [Bd.returns] at h; cases h)
  refine ⟨_, _, pre0 _ ?_, hrun, hended, _, _, rfl, ?_, ⟨_, rfl⟩, hW, hsame.mono (by decide) (by decide)⟩
  · show Steps p.tables e below (s₁.setTop (mkF m 0 #[.val (.ref a1), .val (.long q2), .second, .unset, .unset] [])) _
    refine XS.aloadN X0.here hx rfl (hb hby d16_0) rfl rfl ?_
    show Steps p.tables e below (s₁.setTop (mkF m 1 #[.val (.ref a1), .val (.long q2), .second, .unset, .unset] [(.ref a1)])) _
    refine st1 _ ?_
    show Steps p.tables e below (T1.setTop (mkF m 4 #[.val (.ref a1), .val (.long q2), .second, .unset, .unset] [(.int (Int32.ofNat cn))])) _
    refine XS.istoreN X1.here hx rfl (hb hby d16_4) rfl (l' := #[.val (.ref a1), .val (.long q2), .second, .val (.int (Int32.ofNat cn)), .unset]) rfl ?_
    show Steps p.tables e below (T1.setTop (mkF m 5 #[.val (.ref a1), .val (.long q2), .second, .val (.int (Int32.ofNat cn)), .unset] [])) _
    refine XS.iloadN X1.here hx rfl (hb hby d16_5) rfl ?_
    show Steps p.tables e below (T1.setTop (mkF m 6 #[.val (.ref a1), .val (.long q2), .second, .val (.int (Int32.ofNat cn)), .unset] [(.int (Int32.ofNat cn))])) _
    refine XS.lloadN X1.here hx rfl (hb hby d16_6) rfl ?_
    show Steps p.tables e below (T1.setTop (mkF m 7 #[.val (.ref a1), .val (.long q2), .second, .val (.int (Int32.ofNat cn)), .unset] [(.long q2), (.int (Int32.ofNat cn))])) _
    refine st2 _ ?_
    show Steps p.tables e below (T2.setTop (mkF m 10 #[.val (.ref a1), .val (.long q2), .second, .val (.int (Int32.ofNat cn)), .unset] [(.int (Int32.ofNat (decB q2).length)), (.int (Int32.ofNat cn))])) _
    refine XS.iadd X2.here hx rfl (hb hby d16_10) rfl ?_
    show Steps p.tables e below (T2.setTop (mkF m 11 #[.val (.ref a1), .val (.long q2), .second, .val (.int (Int32.ofNat cn)), .unset] [(.int ((Int32.ofNat cn) + (Int32.ofNat (decB q2).length)))])) _
    rw [nq3]
    show Steps p.tables e below (T2.setTop (mkF m 11 #[.val (.ref a1), .val (.long q2), .second, .val (.int (Int32.ofNat cn)), .unset] [(.int (Int32.ofNat (cn + (decB q2).length)))])) _
    refine XS.istore X2.here hx rfl (hb hby d16_11) rfl (l' := #[.val (.ref a1), .val (.long q2), .second, .val (.int (Int32.ofNat cn)), .val (.int (Int32.ofNat (cn + (decB q2).length)))]) rfl ?_
    show Steps p.tables e below (T2.setTop (mkF m 13 #[.val (.ref a1), .val (.long q2), .second, .val (.int (Int32.ofNat cn)), .val (.int (Int32.ofNat (cn + (decB q2).length)))] [])) _
    refine XS.aloadN X2.here hx rfl (hb hby d16_13) rfl rfl ?_
    show Steps p.tables e below (T2.setTop (mkF m 14 #[.val (.ref a1), .val (.long q2), .second, .val (.int (Int32.ofNat cn)), .val (.int (Int32.ofNat (cn + (decB q2).length)))] [(.ref a1)])) _
    refine XS.iload X2.here hx rfl (hb hby d16_14) rfl ?_
    show Steps p.tables e below (T2.setTop (mkF m 16 #[.val (.ref a1), .val (.long q2), .second, .val (.int (Int32.ofNat cn)), .val (.int (Int32.ofNat (cn + (decB q2).length)))] [(.int (Int32.ofNat (cn + (decB q2).length))), (.ref a1)])) _
    refine st4.trans ?_
    show Steps p.tables e below (T4.setTop (mkF m 19 #[.val (.ref a1), .val (.long q2), .second, .val (.int (Int32.ofNat cn)), .val (.int (Int32.ofNat (cn + (decB q2).length)))] [])) _
    refine XS.aloadN X4.here hx rfl (hb hby d16_19) rfl rfl ?_
    show Steps p.tables e below (T4.setTop (mkF m 20 #[.val (.ref a1), .val (.long q2), .second, .val (.int (Int32.ofNat cn)), .val (.int (Int32.ofNat (cn + (decB q2).length)))] [(.ref a1)])) _
    refine st5.trans ?_
    show Steps p.tables e below (T5.setTop (mkF m 23 #[.val (.ref a1), .val (.long q2), .second, .val (.int (Int32.ofNat cn)), .val (.int (Int32.ofNat (cn + (decB q2).length)))] [(.int (1 : Int32))])) _
    refine XS.ifNo X5.here hx rfl (hb hby d16_23) rfl ((if0 _ _).trans (feq (by decide : ¬ ((1 : Int32) = (0 : Int32)))).1) ?_
    show Steps p.tables e below (T5.setTop (mkF m 26 #[.val (.ref a1), .val (.long q2), .second, .val (.int (Int32.ofNat cn)), .val (.int (Int32.ofNat (cn + (decB q2).length)))] [])) _
    refine XS.lloadN X5.here hx rfl (hb hby d16_26) rfl ?_
    show Steps p.tables e below (T5.setTop (mkF m 27 #[.val (.ref a1), .val (.long q2), .second, .val (.int (Int32.ofNat cn)), .val (.int (Int32.ofNat (cn + (decB q2).length)))] [(.long q2)])) _
    refine XS.iload X5.here hx rfl (hb hby d16_27) rfl ?_
    show Steps p.tables e below (T5.setTop (mkF m 29 #[.val (.ref a1), .val (.long q2), .second, .val (.int (Int32.ofNat cn)), .val (.int (Int32.ofNat (cn + (decB q2).length)))] [(.int (Int32.ofNat (cn + (decB q2).length))), (.long q2)])) _
    refine XS.aloadN X5.here hx rfl (hb hby d16_29) rfl rfl ?_
    show Steps p.tables e below (T5.setTop (mkF m 30 #[.val (.ref a1), .val (.long q2), .second, .val (.int (Int32.ofNat cn)), .val (.int (Int32.ofNat (cn + (decB q2).length)))] [(.ref a1), (.int (Int32.ofNat (cn + (decB q2).length))), (.long q2)])) _
    refine st6 _ ?_
    show Steps p.tables e below (T6.setTop (mkF m 33 #[.val (.ref a1), .val (.long q2), .second, .val (.int (Int32.ofNat cn)), .val (.int (Int32.ofNat (cn + (decB q2).length)))] [(.ref d'_4), (.int (Int32.ofNat (cn + (decB q2).length))), (.long q2)])) _
    refine st7 _ ?_
    show Steps p.tables e below (T7.setTop (mkF m 36 #[.val (.ref a1), .val (.long q2), .second, .val (.int (Int32.ofNat cn)), .val (.int (Int32.ofNat (cn + (decB q2).length)))] [(.int (Int32.ofNat ((cn + (decB q2).length) - (decB q2).length)))])) _
    refine XS.pop X7.here hx rfl (hb hby d16_36) rfl rfl ?_
    show Steps p.tables e below (T7.setTop (mkF m 37 #[.val (.ref a1), .val (.long q2), .second, .val (.int (Int32.ofNat cn)), .val (.int (Int32.ofNat (cn + (decB q2).length)))] [])) _
    refine XS.goto X7.here hx rfl (pc0 := 37) (pc' := 52) rfl (hb hby d16_37) (by decide) (by decide) ?_
    show Steps p.tables e below (T7.setTop (mkF m 52 #[.val (.ref a1), .val (.long q2), .second, .val (.int (Int32.ofNat cn)), .val (.int (Int32.ofNat (cn + (decB q2).length)))] [])) _
    refine XS.aloadN X7.here hx rfl (hb hby d16_52) rfl rfl ?_
    show Steps p.tables e below (T7.setTop (mkF m 53 #[.val (.ref a1), .val (.long q2), .second, .val (.int (Int32.ofNat cn)), .val (.int (Int32.ofNat (cn + (decB q2).length)))] [(.ref a1)])) _
    refine XS.iload X7.here hx rfl (hb hby d16_53) rfl ?_
    show Steps p.tables e below (T7.setTop (mkF m 55 #[.val (.ref a1), .val (.long q2), .second, .val (.int (Int32.ofNat cn)), .val (.int (Int32.ofNat (cn + (decB q2).length)))] [(.int (Int32.ofNat (cn + (decB q2).length))), (.ref a1)])) _
    refine st8 _ ?_
    show Steps p.tables e below (T8.setTop (mkF m 58 #[.val (.ref a1), .val (.long q2), .second, .val (.int (Int32.ofNat cn)), .val (.int (Int32.ofNat (cn + (decB q2).length)))] [])) _
    refine XS.aloadN X8.here hx rfl (hb hby d16_58) rfl rfl ?_
    show Steps p.tables e below (T8.setTop (mkF m 59 #[.val (.ref a1), .val (.long q2), .second, .val (.int (Int32.ofNat cn)), .val (.int (Int32.ofNat (cn + (decB q2).length)))] [(.ref a1)])) _
    exact retOut X8 hx (t := (.object "java/lang/AbstractStringBuilder")) Bd.returns rfl (Or.inr (Or.inr (Or.inr (Or.inr ⟨rfl, rfl, rfl⟩)))) (hb hby d16_59) hr
  · show Q16 Z a1 q2 cs d dk ds cn h0 n0 _ T8.heap _
    rw [e8]
    exact ⟨_, _, _, rfl, N8, K8, E_a1_8, F_a1_value_8, F_a1_coder_8, F_a1_count_8, V_d__4_8, (app_len hn).trans len_4, app_take qn tk_4 hn, mb_4⟩

theorem d15_0 : decode jdk_67_method_16_code 0 = .ok (.aload_n 0, 1) := by decide +kernel
theorem d15_1 : decode jdk_67_method_16_code 1 = .ok (.lload_n 1, 1) := by decide +kernel
theorem d15_2 : decode jdk_67_method_16_code 2 = .ok (.invokespecial 56, 3) := by decide +kernel
theorem d15_5 : decode jdk_67_method_16_code 5 = .ok (.pop, 1) := by decide +kernel
theorem d15_6 : decode jdk_67_method_16_code 6 = .ok (.aload_n 0, 1) := by decide +kernel
theorem d15_7 : decode jdk_67_method_16_code 7 = .ok (.areturn, 1) := by decide +kernel
theorem pn_15 : plainName "java/lang/StringBuilder" = true := by first | (simp [plainName, overriddenIn]; done) | decide +kernel
theorem ef_15 (m : MethodId) (a1 : Addr) (q2 : Int64) : entryFrame m #[(.ref a1), (.long q2)] 3 = mkF m 0 #[.val (.ref a1), .val (.long q2), .second] [] := by first | (simp [entryFrame, mkF, argsToLocals, Value.category]; done) | rfl
def Q15 (Z : State) (a1 : Addr) (q2 : Int64) (cs : Int32) (d : Addr) (dk : ClassId) (ds : List Int32) (cn : Nat) (h0 : Heap) (n0 : Nat) (v : Option Value) (h : Heap) (L : List Loc) : Prop := ∃ (d' : Addr) (k' : ClassId) (bs' : List Int32), v = some (.ref a1) ∧ Fr n0 L ∧ Keep h0 h [a1, d] ∧ Exa Z h a1 "java/lang/StringBuilder" ∧ Fld Z h a1 "java/lang/AbstractStringBuilder" "value" "[B" (.ref d') ∧ Fld Z h a1 "java/lang/AbstractStringBuilder" "coder" "B" (.int 0) ∧ Fld Z h a1 "java/lang/AbstractStringBuilder" "count" "I" (.int (Int32.ofNat (cn + (decB q2).length))) ∧ BL Z h d' k' bs' ∧ bs'.length = cap2 ds.length (cn + (decB q2).length) ∧ bs'.take (cn + (decB q2).length) = ds.take cn ++ (decB q2) ∧ (d' = d ∨ h0.size ≤ d')
set_option maxRecDepth 65536 in
set_option maxHeartbeats 40000000 in
theorem rm15 (l : Launch) (Z : State) (a0 : Array Value) (hw : ∀ d ∈ tables_1, d.before a0 Z = true) (ws : List Jvm.Cond) (a1 : Addr) (q2 : Int64) (h0 : Heap) (n0 : Nat) (cs : Int32) (d : Addr) (dk : ClassId) (ds : List Int32) (cn : Nat) (CS : Sta Z Z.heap "java/lang/String" "COMPACT_STRINGS" "Z" (.int cs)) (hcs : ¬ cs = 0) (O0 : Old Z n0 h0) (TB : DigT Z) (E_a1 : Exa Z h0 a1 "java/lang/StringBuilder") (F_a1_v : Fld Z h0 a1 "java/lang/AbstractStringBuilder" "value" "[B" (.ref d)) (F_a1_c : Fld Z h0 a1 "java/lang/AbstractStringBuilder" "coder" "B" (.int 0)) (F_a1_n : Fld Z h0 a1 "java/lang/AbstractStringBuilder" "count" "I" (.int (Int32.ofNat cn))) (V_d : BL Z h0 d dk ds) (qn : cn ≤ ds.length) (qm : cn + (decB q2).length ≤ 100) (qL : ds.length ≤ 70) (g_a1 : n0 ≤ a1) (g_d : n0 ≤ d) (Z0 : n0 ≤ h0.size) :
    MetFree l (⟨"java/lang/StringBuilder", "append", "(J)Ljava/lang/StringBuilder;"⟩ : MethodName) (head1 (Jvm.Cond.code (⟨"java/lang/StringBuilder", "append", "(J)Ljava/lang/StringBuilder;"⟩ : MethodName) jdk_67_method_16_code 3 (some (.object "java/lang/StringBuilder")) :: ws) ({ frames := 5, cells := 1, slots := 142, locals := 118 } : Room)) (fun a U => a = #[(.ref a1), (.long q2)] ∧ Z.Warmed39 U.vm ∧ U.heap = h0) (fun _ _ _ _ _ => True) (fun _ U o U' => ∃ v L, o = .returned v ∧ Q15 Z a1 q2 cs d dk ds cn h0 n0 v U'.heap L ∧ FrameEnd U o U' L ({ frames := 5, cells := 1, slots := 142, locals := 118 } : Room).cells ({ frames := 5, cells := 1, slots := 142, locals := 118 } : Room).slots) := by
  refine MetFree.of_bodySF (plainFor_of_name pn_15) hisR ?_
  intro p e s m args below meth c s₁ Bd hml0 hP hK
  obtain ⟨rfl, hZ, hh⟩ := hP
  have hx := Bd.exec
  have hby := Bd.bytes
  have hml : c.maxLocals = 3 := hml0
  have hown0 := findClass_of_methodNamed Bd.named
  have hown : s.vm.findClass "java/lang/StringBuilder" = some m.cls := hown0
  have hnm := (name_of_methodNamed Bd.named Bd.method).1
  have X0 : Stand p l e ({ frames := 5, cells := 1, slots := 142, locals := 118 } : Room) s m #[(.ref a1), (.long q2)] below meth c s₁ [] 0 0 := Stand.of_body Bd
  have e0 : s₁.heap = h0 := by rw [← hh, Bd.state]; rfl
  have N0 := Fr.nil n0
  have pre0 : ∀ t, Steps p.tables e below (s₁.setTop (mkF m 0 #[.val (.ref a1), .val (.long q2), .second] [])) t → Steps p.tables e below (s₁.setTop (entryFrame m #[(.ref a1), (.long q2)] 3)) t := fun t k => castTop (ef_15 m a1 q2) k
  refine Classical.byContradiction fun hneg => ?_
  obtain ⟨_, _, ⟨T1, L1, k1, n1⟩, -, X1, ⟨Lc1, hQ1, l1, y1, z1⟩, st1⟩ := superBack X0 hx hZ (y := (⟨"java/lang/AbstractStringBuilder", "append", "(J)Ljava/lang/AbstractStringBuilder;"⟩ : MethodName)) hown (hw _ (List.mem_of_getElem? (i := 106) rfl)) (same_self (y := (⟨"java/lang/AbstractStringBuilder", "append", "(J)Ljava/lang/AbstractStringBuilder;"⟩ : MethodName)) (hw _ (List.mem_of_getElem? (i := 107) rfl)) (hw _ (List.mem_of_getElem? (i := 79) rfl)) rfl (by decide)) (hw _ (List.mem_of_getElem? (i := 107) rfl)) (hw _ (List.mem_of_getElem? (i := 58) rfl)) (by decide) (backOf (W := 0) (rm16 l Z a0 hw [] a1 q2 h0 n0 cs d dk ds cn  CS hcs O0 TB E_a1 F_a1_v F_a1_c F_a1_n V_d  qn qm (by omega) g_a1 g_d Z0 ) hZ (hw _ (List.mem_of_getElem? (i := 109) rfl)) (hw _ (List.mem_of_getElem? (i := 35) rfl)) (by decide) (by decide)) e0 (Ins.self E_a1) (g := (mkF m 2 #[.val (.ref a1), .val (.long q2), .second] [(.long q2), (.ref a1)])) rfl (by rw [hml]; rfl) (hw _ (List.mem_of_getElem? (i := 109) rfl)) (argsL := [(.long q2)]) (rest := []) (lenOf pd14 rfl) rfl (by show 2 * 0 + _ ≤ _; exact Nat.le_of_eq rfl) (hb hby d15_2) (fun _ _ => ⟨rfl, e0, (by decide : 0 + 1 ≤ _), (by decide : 0 + 142 ≤ _)⟩)
  dsimp only [Pt.U, Pt.locs, Pt.cells, Pt.slots] at X1 l1 y1 z1 st1 hQ1
  subst l1 y1 z1
  obtain ⟨d'_1, k'_1, bs'_1, rfl, N1q, Kc1, G1_0, G1_1, G1_2, G1_3, G1_4, len_1, tk_1, mb_1⟩ := hQ1
  have N1 := Fr.app N0 N1q
  have ne_a1_d'_1 : a1 ≠ d'_1 := mb_1.elim (fun q => by rw [q]; exact (Exa.neArv E_a1 V_d.1 (hw _ (List.mem_of_getElem? (i := 26) rfl)))) (fun q => Nat.ne_of_lt (Nat.lt_of_lt_of_le E_a1.lt q))
  have g_d'_1 : n0 ≤ d'_1 := mb_1.elim (fun q => by rw [q]; exact g_d) (fun q => Nat.le_trans Z0 q)
  have wk_d'_1 : d'_1 ∈ [a1, d] ∨ h0.size ≤ d'_1 := mb_1.elim (fun q => by rw [q]; exact (Or.inl (by simp))) (fun q => Or.inr (Nat.le_trans (Keep.refl h0 [a1, d]).1 q))
  have K1 : Keep h0 T1.heap [a1, d] := (Keep.refl h0 [a1, d]).trans Kc1 (allS (P := fun x => x ∈ [a1, d] ∨ h0.size ≤ x) (Or.inl (by simp)) (allS (P := fun x => x ∈ [a1, d] ∨ h0.size ≤ x) (Or.inl (by simp)) all0))
  have Z1 : n0 ≤ T1.heap.size := Nat.le_trans Z0 Kc1.1
  have O1 := Old.keep O0 Kc1 (allS g_a1 (allS g_d all0))
  refine hneg ?_
  obtain ⟨fs, hr, hrun, hended, hW, hsame⟩ := X1.leave (v := some (.ref a1)) (fun h => by rw [Bd.returns] at h; cases h)
  refine ⟨_, _, pre0 _ ?_, hrun, hended, _, _, rfl, ?_, ⟨_, rfl⟩, hW, hsame.mono (by decide) (by decide)⟩
  · show Steps p.tables e below (s₁.setTop (mkF m 0 #[.val (.ref a1), .val (.long q2), .second] [])) _
    refine XS.aloadN X0.here hx rfl (hb hby d15_0) rfl rfl ?_
    show Steps p.tables e below (s₁.setTop (mkF m 1 #[.val (.ref a1), .val (.long q2), .second] [(.ref a1)])) _
    refine XS.lloadN X0.here hx rfl (hb hby d15_1) rfl ?_
    show Steps p.tables e below (s₁.setTop (mkF m 2 #[.val (.ref a1), .val (.long q2), .second] [(.long q2), (.ref a1)])) _
    refine st1.trans ?_
    show Steps p.tables e below (T1.setTop (mkF m 5 #[.val (.ref a1), .val (.long q2), .second] [(.ref a1)])) _
    refine XS.pop X1.here hx rfl (hb hby d15_5) rfl rfl ?_
    show Steps p.tables e below (T1.setTop (mkF m 6 #[.val (.ref a1), .val (.long q2), .second] [])) _
    refine XS.aloadN X1.here hx rfl (hb hby d15_6) rfl rfl ?_
    show Steps p.tables e below (T1.setTop (mkF m 7 #[.val (.ref a1), .val (.long q2), .second] [(.ref a1)])) _
    exact retOut X1 hx (t := (.object "java/lang/StringBuilder")) Bd.returns rfl (Or.inr (Or.inr (Or.inr (Or.inr ⟨rfl, rfl, rfl⟩)))) (hb hby d15_7) hr
  · show Q15 Z a1 q2 cs d dk ds cn h0 n0 _ T1.heap _
    exact ⟨_, _, _, rfl, N1, K1, G1_0, G1_1, G1_2, G1_3, G1_4, len_1, tk_1, mb_1⟩

theorem d26_0 : decode jdk_68_method_32_code 0 = .ok (.aload_n 0, 1) := by decide +kernel
theorem d26_1 : decode jdk_68_method_32_code 1 = .ok (.getfield 79, 3) := by decide +kernel
theorem d26_4 : decode jdk_68_method_32_code 4 = .ok (.istore_n 2, 1) := by decide +kernel
theorem d26_5 : decode jdk_68_method_32_code 5 = .ok (.iload_n 2, 1) := by decide +kernel
theorem d26_6 : decode jdk_68_method_32_code 6 = .ok (.iload_n 1, 1) := by decide +kernel
theorem d26_7 : decode jdk_68_method_32_code 7 = .ok (.invokestatic 245, 3) := by decide +kernel
theorem d26_10 : decode jdk_68_method_32_code 10 = .ok (.iadd, 1) := by decide +kernel
theorem d26_11 : decode jdk_68_method_32_code 11 = .ok (.istore_n 3, 1) := by decide +kernel
theorem d26_12 : decode jdk_68_method_32_code 12 = .ok (.aload_n 0, 1) := by decide +kernel
theorem d26_13 : decode jdk_68_method_32_code 13 = .ok (.iload_n 3, 1) := by decide +kernel
theorem d26_14 : decode jdk_68_method_32_code 14 = .ok (.invokevirtual 100, 3) := by decide +kernel
theorem d26_17 : decode jdk_68_method_32_code 17 = .ok (.aload_n 0, 1) := by decide +kernel
theorem d26_18 : decode jdk_68_method_32_code 18 = .ok (.invokevirtual 83, 3) := by decide +kernel
theorem d26_21 : decode jdk_68_method_32_code 21 = .ok (.ifCond .eq 16, 3) := by decide +kernel
theorem d26_24 : decode jdk_68_method_32_code 24 = .ok (.iload_n 1, 1) := by decide +kernel
theorem d26_25 : decode jdk_68_method_32_code 25 = .ok (.iload_n 3, 1) := by decide +kernel
theorem d26_26 : decode jdk_68_method_32_code 26 = .ok (.aload_n 0, 1) := by decide +kernel
theorem d26_27 : decode jdk_68_method_32_code 27 = .ok (.getfield 15, 3) := by decide +kernel
theorem d26_30 : decode jdk_68_method_32_code 30 = .ok (.invokestatic 248, 3) := by decide +kernel
theorem d26_33 : decode jdk_68_method_32_code 33 = .ok (.pop, 1) := by decide +kernel
theorem d26_34 : decode jdk_68_method_32_code 34 = .ok (.goto 14, 3) := by decide +kernel
theorem d26_48 : decode jdk_68_method_32_code 48 = .ok (.aload_n 0, 1) := by decide +kernel
theorem d26_49 : decode jdk_68_method_32_code 49 = .ok (.iload_n 3, 1) := by decide +kernel
theorem d26_50 : decode jdk_68_method_32_code 50 = .ok (.putfield 79, 3) := by decide +kernel
theorem d26_53 : decode jdk_68_method_32_code 53 = .ok (.aload_n 0, 1) := by decide +kernel
theorem d26_54 : decode jdk_68_method_32_code 54 = .ok (.areturn, 1) := by decide +kernel
theorem pn_26 : plainName "java/lang/AbstractStringBuilder" = true := by first | (simp [plainName, overriddenIn]; done) | decide +kernel
theorem ef_26 (m : MethodId) (a1 : Addr) (p2 : Int32) : entryFrame m #[(.ref a1), (.int p2)] 4 = mkF m 0 #[.val (.ref a1), .val (.int p2), .unset, .unset] [] := by first | (simp [entryFrame, mkF, argsToLocals, Value.category]; done) | rfl
def Q26 (Z : State) (a1 : Addr) (p2 : Int32) (cs : Int32) (d : Addr) (dk : ClassId) (ds : List Int32) (cn : Nat) (h0 : Heap) (n0 : Nat) (v : Option Value) (h : Heap) (L : List Loc) : Prop := ∃ (d' : Addr) (k' : ClassId) (bs' : List Int32), v = some (.ref a1) ∧ Fr n0 L ∧ Keep h0 h [a1, d] ∧ Exa Z h a1 "java/lang/StringBuilder" ∧ Fld Z h a1 "java/lang/AbstractStringBuilder" "value" "[B" (.ref d') ∧ Fld Z h a1 "java/lang/AbstractStringBuilder" "coder" "B" (.int 0) ∧ Fld Z h a1 "java/lang/AbstractStringBuilder" "count" "I" (.int (Int32.ofNat (cn + (decB p2.toInt64).length))) ∧ BL Z h d' k' bs' ∧ bs'.length = cap2 ds.length (cn + (decB p2.toInt64).length) ∧ bs'.take (cn + (decB p2.toInt64).length) = ds.take cn ++ (decB p2.toInt64) ∧ (d' = d ∨ h0.size ≤ d')
set_option maxRecDepth 65536 in
set_option maxHeartbeats 40000000 in
theorem rm26 (l : Launch) (Z : State) (a0 : Array Value) (hw : ∀ d ∈ tables_1, d.before a0 Z = true) (ws : List Jvm.Cond) (a1 : Addr) (p2 : Int32) (h0 : Heap) (n0 : Nat) (cs : Int32) (d : Addr) (dk : ClassId) (ds : List Int32) (cn : Nat) (CS : Sta Z Z.heap "java/lang/String" "COMPACT_STRINGS" "Z" (.int cs)) (hcs : ¬ cs = 0) (O0 : Old Z n0 h0) (TB : DigT Z) (E_a1 : Exa Z h0 a1 "java/lang/StringBuilder") (F_a1_v : Fld Z h0 a1 "java/lang/AbstractStringBuilder" "value" "[B" (.ref d)) (F_a1_c : Fld Z h0 a1 "java/lang/AbstractStringBuilder" "coder" "B" (.int 0)) (F_a1_n : Fld Z h0 a1 "java/lang/AbstractStringBuilder" "count" "I" (.int (Int32.ofNat cn))) (V_d : BL Z h0 d dk ds) (qn : cn ≤ ds.length) (qm : cn + (decB p2.toInt64).length ≤ 100) (qL : ds.length ≤ 70) (g_a1 : n0 ≤ a1) (g_d : n0 ≤ d) (Z0 : n0 ≤ h0.size) :
    MetFree l (⟨"java/lang/AbstractStringBuilder", "append", "(I)Ljava/lang/AbstractStringBuilder;"⟩ : MethodName) (head1 (Jvm.Cond.code (⟨"java/lang/AbstractStringBuilder", "append", "(I)Ljava/lang/AbstractStringBuilder;"⟩ : MethodName) jdk_68_method_32_code 4 (some (.object "java/lang/AbstractStringBuilder")) :: ws) ({ frames := 4, cells := 1, slots := 142, locals := 79 } : Room)) (fun a U => a = #[(.ref a1), (.int p2)] ∧ Z.Warmed39 U.vm ∧ U.heap = h0) (fun _ _ _ _ _ => True) (fun _ U o U' => ∃ v L, o = .returned v ∧ Q26 Z a1 p2 cs d dk ds cn h0 n0 v U'.heap L ∧ FrameEnd U o U' L ({ frames := 4, cells := 1, slots := 142, locals := 79 } : Room).cells ({ frames := 4, cells := 1, slots := 142, locals := 79 } : Room).slots) := by
  refine MetFree.of_bodySF (plainFor_of_name pn_26) hisR ?_
  intro p e s m args below meth c s₁ Bd hml0 hP hK
  obtain ⟨rfl, hZ, hh⟩ := hP
  have hx := Bd.exec
  have hby := Bd.bytes
  have hml : c.maxLocals = 4 := hml0
  have hown0 := findClass_of_methodNamed Bd.named
  have hown : s.vm.findClass "java/lang/AbstractStringBuilder" = some m.cls := hown0
  have hnm := (name_of_methodNamed Bd.named Bd.method).1
  have X0 : Stand p l e ({ frames := 4, cells := 1, slots := 142, locals := 79 } : Room) s m #[(.ref a1), (.int p2)] below meth c s₁ [] 0 0 := Stand.of_body Bd
  have e0 : s₁.heap = h0 := by rw [← hh, Bd.state]; rfl
  have N0 := Fr.nil n0
  have pre0 : ∀ t, Steps p.tables e below (s₁.setTop (mkF m 0 #[.val (.ref a1), .val (.int p2), .unset, .unset] [])) t → Steps p.tables e below (s₁.setTop (entryFrame m #[(.ref a1), (.int p2)] 4)) t := fun t k => castTop (ef_26 m a1 p2) k
  refine Classical.byContradiction fun hneg => ?_
  obtain ⟨T1, X1, e1, st1⟩ := getF X0 hx hZ hown (host := "") (Or.inl (hw _ (List.mem_of_getElem? (i := 74) rfl))) Via.refl e0 F_a1_n (g := (mkF m 1 #[.val (.ref a1), .val (.int p2), .unset, .unset] [(.ref a1)])) rfl rfl (hb hby d26_1)
  obtain ⟨_, _, ⟨T2, L2, k2, n2⟩, -, X2, ⟨Lc2, hQ2, l2, y2, z2⟩, st2⟩ := Jvm.LawKit.callS X1 hx (y := (⟨"java/lang/Integer", "stringSize", "(I)I"⟩ : MethodName)) hown (mvT hZ (hw _ (List.mem_of_getElem? (i := 162) rfl))) (mvT hZ (hw _ (List.mem_of_getElem? (i := 163) rfl))) (mvT hZ (hw _ (List.mem_of_getElem? (i := 150) rfl))) (mvT hZ (hw _ (List.mem_of_getElem? (i := 164) rfl))) (by decide) (paySS_I (h := h0) (W := 1) hZ hw p2 n0 (by decide) (by decide)) (g := (mkF m 7 #[.val (.ref a1), .val (.int p2), .val (.int (Int32.ofNat cn)), .unset] [(.int p2), (.int (Int32.ofNat cn))])) rfl (by rw [hml]; rfl) (argsL := [(.int p2)]) (rest := [(.int (Int32.ofNat cn))]) (lenOf pd5 rfl) rfl (by show 2 * 0 + _ ≤ _; exact Nat.le_of_eq rfl) (hb hby d26_7) (fun _ _ => ⟨rfl, e1, (by decide : 0 + 0 ≤ _), (by decide : 0 + 0 ≤ _)⟩)
  dsimp only [Pt.U, Pt.locs, Pt.cells, Pt.slots] at X2 l2 y2 z2 st2 hQ2
  subst l2 y2 z2
  obtain ⟨rfl, N2q, e2⟩ := hQ2
  have N2 := Fr.app N0 N2q
  have nq3 : ((Int32.ofNat cn) + (Int32.ofNat (decB p2.toInt64).length)) = (Int32.ofNat (cn + (decB p2.toInt64).length)) := ofN_add _ _
  obtain ⟨cq4, kq4, q4a, q4b, q4c⟩ := isOf hZ e2 E_a1
  obtain ⟨_, _, ⟨T4, L4, k4, n4⟩, -, X4, ⟨Lc4, hQ4, l4, y4, z4⟩, st4⟩ := X2.virtualBack hx (y := (⟨"java/lang/AbstractStringBuilder", "ensureCapacityInternal", "(I)V"⟩ : MethodName)) (z := (⟨"java/lang/AbstractStringBuilder", "ensureCapacityInternal", "(I)V"⟩ : MethodName)) hown (mvT hZ (hw _ (List.mem_of_getElem? (i := 76) rfl))) (mvT hZ (decl_of (hw _ (List.mem_of_getElem? (i := 77) rfl)) (hw _ (List.mem_of_getElem? (i := 80) rfl)))) (notFace_of_selects (args := #[]) (mvT hZ (hw _ (List.mem_of_getElem? (i := 79) rfl)))) (mvT hZ (hw _ (List.mem_of_getElem? (i := 79) rfl))) (mvT hZ (hw _ (List.mem_of_getElem? (i := 77) rfl))) (by decide) (backOf (W := 0) (rm11 l Z a0 hw [] a1 h0 n0 cs d dk ds cn ((cn + (decB p2.toInt64).length)) CS hcs O0 E_a1 F_a1_v F_a1_c F_a1_n V_d (by omega) (by omega) g_a1 g_d Z0) hZ (hw _ (List.mem_of_getElem? (i := 80) rfl)) (hw _ (List.mem_of_getElem? (i := 35) rfl)) (by decide) (by decide)) q4a q4c (g := (mkF m 14 #[.val (.ref a1), .val (.int p2), .val (.int (Int32.ofNat cn)), .val (.int (Int32.ofNat (cn + (decB p2.toInt64).length)))] [(.int (Int32.ofNat (cn + (decB p2.toInt64).length))), (.ref a1)])) rfl (by rw [hml]; rfl) (Steps.refl _) (argsL := [(.int (Int32.ofNat (cn + (decB p2.toInt64).length)))]) (rest := []) (lenOf pd8 rfl) rfl (by show 2 * 0 + _ ≤ _; exact Nat.le_of_eq rfl) (hb hby d26_14) (fun _ _ => ⟨rfl, e2, (by decide : 0 + 1 ≤ _), (by decide : 0 + 142 ≤ _)⟩)
  dsimp only [Pt.U, Pt.locs, Pt.cells, Pt.slots] at X4 l4 y4 z4 st4 hQ4
  subst l4 y4 z4
  obtain ⟨d'_4, k'_4, bs'_4, rfl, N4q, Kc4, G4_0, G4_1, G4_2, G4_3, G4_4, len_4, tk_4, mb_4⟩ := hQ4
  have N4 := Fr.app N2 N4q
  have ne_a1_d'_4 : a1 ≠ d'_4 := mb_4.elim (fun q => by rw [q]; exact (Exa.neArv E_a1 V_d.1 (hw _ (List.mem_of_getElem? (i := 26) rfl)))) (fun q => Nat.ne_of_lt (Nat.lt_of_lt_of_le E_a1.lt q))
  have g_d'_4 : n0 ≤ d'_4 := mb_4.elim (fun q => by rw [q]; exact g_d) (fun q => Nat.le_trans Z0 q)
  have wk_d'_4 : d'_4 ∈ [a1, d] ∨ h0.size ≤ d'_4 := mb_4.elim (fun q => by rw [q]; exact (Or.inl (by simp))) (fun q => Or.inr (Nat.le_trans (Keep.refl h0 [a1, d]).1 q))
  have V_d_4 := V_d.keep Kc4 (ninS (Ne.symm (Exa.neArv E_a1 V_d.1 (hw _ (List.mem_of_getElem? (i := 26) rfl)))) nin0)
  have K4 : Keep h0 T4.heap [a1, d] := (Keep.refl h0 [a1, d]).trans Kc4 (allS (P := fun x => x ∈ [a1, d] ∨ h0.size ≤ x) (Or.inl (by simp)) all0)
  have Z4 : n0 ≤ T4.heap.size := Nat.le_trans Z0 Kc4.1
  have O4 := Old.keep O0 Kc4 (allS g_a1 all0)
  have hn : cn + (decB p2.toInt64).length ≤ bs'_4.length := by rw [len_4]; exact (cap2_ge _ _).1
  obtain ⟨cq5, kq5, q5a, q5b, q5c⟩ := isOf hZ rfl G4_0
  obtain ⟨_, _, ⟨T5, L5, k5, n5⟩, -, X5, ⟨Lc5, hQ5, l5, y5, z5⟩, st5⟩ := X4.virtualBack hx (y := (⟨"java/lang/AbstractStringBuilder", "isLatin1", "()Z"⟩ : MethodName)) (z := (⟨"java/lang/AbstractStringBuilder", "isLatin1", "()Z"⟩ : MethodName)) hown (mvT hZ (hw _ (List.mem_of_getElem? (i := 139) rfl))) (mvT hZ (hw _ (List.mem_of_getElem? (i := 140) rfl))) (notFace_of_selects (args := #[]) (mvT hZ (hw _ (List.mem_of_getElem? (i := 142) rfl)))) (mvT hZ (hw _ (List.mem_of_getElem? (i := 142) rfl))) (mvT hZ (hw _ (List.mem_of_getElem? (i := 141) rfl))) (by decide) (backOf (W := 0) (rm23 l Z a0 hw [] a1  T4.heap n0 cs CS hcs O4 G4_2) hZ (hw _ (List.mem_of_getElem? (i := 143) rfl)) (hw _ (List.mem_of_getElem? (i := 35) rfl)) (by decide) (by decide)) q5a q5c (g := (mkF m 18 #[.val (.ref a1), .val (.int p2), .val (.int (Int32.ofNat cn)), .val (.int (Int32.ofNat (cn + (decB p2.toInt64).length)))] [(.ref a1)])) rfl (by rw [hml]; rfl) (Steps.refl _) (argsL := []) (rest := []) (lenOf pd12 rfl) rfl (by show 2 * 0 + _ ≤ _; exact Nat.le_of_eq rfl) (hb hby d26_18) (fun _ _ => ⟨rfl, rfl, (by decide : 1 + 0 ≤ _), (by decide : 142 + 0 ≤ _)⟩)
  dsimp only [Pt.U, Pt.locs, Pt.cells, Pt.slots] at X5 l5 y5 z5 st5 hQ5
  subst l5 y5 z5
  obtain ⟨rfl, N5q, e5⟩ := hQ5
  have N5 := Fr.app N4 N5q
  obtain ⟨T6, X6, e6, st6⟩ := getF X5 hx hZ hown (host := "") (Or.inl (hw _ (List.mem_of_getElem? (i := 41) rfl))) Via.refl e5 G4_1 (g := (mkF m 27 #[.val (.ref a1), .val (.int p2), .val (.int (Int32.ofNat cn)), .val (.int (Int32.ofNat (cn + (decB p2.toInt64).length)))] [(.ref a1), (.int (Int32.ofNat (cn + (decB p2.toInt64).length))), (.int p2)])) rfl rfl (hb hby d26_27)
  obtain ⟨_, _, ⟨T7, L7, k7, n7⟩, -, X7, ⟨Lc7, hQ7, l7, y7, z7⟩, st7⟩ := Jvm.LawKit.callS X6 hx (y := (⟨"java/lang/Integer", "getChars", "(II[B)I"⟩ : MethodName)) hown (mvT hZ (hw _ (List.mem_of_getElem? (i := 165) rfl))) (mvT hZ (hw _ (List.mem_of_getElem? (i := 166) rfl))) (mvT hZ (hw _ (List.mem_of_getElem? (i := 150) rfl))) (mvT hZ (hw _ (List.mem_of_getElem? (i := 167) rfl))) (by decide) (payGC_I (h := T4.heap) (W := 0) (idx := (cn + (decB p2.toInt64).length)) hZ hw p2 TB O4 G4_4 g_d'_4 hn (by omega) (by decide) (by decide)) (g := (mkF m 30 #[.val (.ref a1), .val (.int p2), .val (.int (Int32.ofNat cn)), .val (.int (Int32.ofNat (cn + (decB p2.toInt64).length)))] [(.ref d'_4), (.int (Int32.ofNat (cn + (decB p2.toInt64).length))), (.int p2)])) rfl (by rw [hml]; rfl) (argsL := [(.int p2), (.int (Int32.ofNat (cn + (decB p2.toInt64).length))), (.ref d'_4)]) (rest := []) (lenOf pd15 rfl) rfl (by show 2 * 0 + _ ≤ _; exact Nat.le_of_eq rfl) (hb hby d26_30) (fun _ _ => ⟨rfl, e6, (by decide : 1 + 0 ≤ _), (by decide : 142 + 0 ≤ _)⟩)
  dsimp only [Pt.U, Pt.locs, Pt.cells, Pt.slots] at X7 l7 y7 z7 st7 hQ7
  subst l7 y7 z7
  obtain ⟨rfl, N7q, Kc7, G7_0⟩ := hQ7
  have N7 := Fr.app N5 N7q
  have E_a1_7 := G4_0.keep Kc7
  have F_a1_value_7 := G4_1.keep Kc7 (ninS ne_a1_d'_4 nin0)
  have F_a1_coder_7 := G4_2.keep Kc7 (ninS ne_a1_d'_4 nin0)
  have F_a1_count_7 := G4_3.keep Kc7 (ninS ne_a1_d'_4 nin0)
  have K7 : Keep h0 T7.heap [a1, d] := K4.trans Kc7 (allS (P := fun x => x ∈ [a1, d] ∨ h0.size ≤ x) wk_d'_4 all0)
  have Z7 : n0 ≤ T7.heap.size := Nat.le_trans Z4 Kc7.1
  have O7 := Old.keep O4 Kc7 (allS g_d'_4 all0)
  rw [Nat.add_sub_cancel] at G7_0
  obtain ⟨T8, h8, X8, e8, W8, st8⟩ := putF X7 hx hZ hown (host := "") (Or.inl (hw _ (List.mem_of_getElem? (i := 74) rfl))) Via.refl rfl F_a1_count_7 E_a1_7 (Or.inl (hw _ (List.mem_of_getElem? (i := 75) rfl))) (hw _ (List.mem_of_getElem? (i := 26) rfl)) (ty := .int) (by decide) rfl rfl (g := (mkF m 50 #[.val (.ref a1), .val (.int p2), .val (.int (Int32.ofNat cn)), .val (.int (Int32.ofNat (cn + (decB p2.toInt64).length)))] [(.int (Int32.ofNat (cn + (decB p2.toInt64).length))), (.ref a1)])) rfl rfl (hb hby d26_50)
  have E_a1_8 := E_a1_7.wr W8
  have F_a1_value_8 := F_a1_value_7.other W8 (Or.inr (slot_ne (Or.inl (hw _ (List.mem_of_getElem? (i := 42) rfl))) (Or.inl (hw _ (List.mem_of_getElem? (i := 75) rfl))) (by decide) (t := (.array .byte)) (t' := .int) (by decide) (by decide)))
  have F_a1_coder_8 := F_a1_coder_7.other W8 (Or.inr (slot_ne (Or.inl (hw _ (List.mem_of_getElem? (i := 44) rfl))) (Or.inl (hw _ (List.mem_of_getElem? (i := 75) rfl))) (by decide) (t := .byte) (t' := .int) (by decide) (by decide)))
  have F_a1_count_8 := F_a1_count_7.same W8
  have V_d__4_8 := G7_0.other W8 (Ne.symm ne_a1_d'_4)
  have K8 : Keep h0 h8 [a1, d] := K7.wr W8 (Or.inl (by simp))
  have N8 := Fr.snoc X8 N7 g_a1
  have Z8 : n0 ≤ h8.size := Nat.le_trans Z7 (Keep.of_wr W8).1
  have O8 := Old.wr O7 W8 g_a1
  refine hneg ?_
  obtain ⟨fs, hr, hrun, hended, hW, hsame⟩ := X8.leave (v := some (.ref a1)) (fun h => by rw [Bd.returns] at h; cases h)
  refine ⟨_, _, pre0 _ ?_, hrun, hended, _, _, rfl, ?_, ⟨_, rfl⟩, hW, hsame.mono (by decide) (by decide)⟩
  · show Steps p.tables e below (s₁.setTop (mkF m 0 #[.val (.ref a1), .val (.int p2), .unset, .unset] [])) _
    refine XS.aloadN X0.here hx rfl (hb hby d26_0) rfl rfl ?_
    show Steps p.tables e below (s₁.setTop (mkF m 1 #[.val (.ref a1), .val (.int p2), .unset, .unset] [(.ref a1)])) _
    refine st1 _ ?_
    show Steps p.tables e below (T1.setTop (mkF m 4 #[.val (.ref a1), .val (.int p2), .unset, .unset] [(.int (Int32.ofNat cn))])) _
    refine XS.istoreN X1.here hx rfl (hb hby d26_4) rfl (l' := #[.val (.ref a1), .val (.int p2), .val (.int (Int32.ofNat cn)), .unset]) rfl ?_
    show Steps p.tables e below (T1.setTop (mkF m 5 #[.val (.ref a1), .val (.int p2), .val (.int (Int32.ofNat cn)), .unset] [])) _
    refine XS.iloadN X1.here hx rfl (hb hby d26_5) rfl ?_
    show Steps p.tables e below (T1.setTop (mkF m 6 #[.val (.ref a1), .val (.int p2), .val (.int (Int32.ofNat cn)), .unset] [(.int (Int32.ofNat cn))])) _
    refine XS.iloadN X1.here hx rfl (hb hby d26_6) rfl ?_
    show Steps p.tables e below (T1.setTop (mkF m 7 #[.val (.ref a1), .val (.int p2), .val (.int (Int32.ofNat cn)), .unset] [(.int p2), (.int (Int32.ofNat cn))])) _
    refine st2 _ ?_
    show Steps p.tables e below (T2.setTop (mkF m 10 #[.val (.ref a1), .val (.int p2), .val (.int (Int32.ofNat cn)), .unset] [(.int (Int32.ofNat (decB p2.toInt64).length)), (.int (Int32.ofNat cn))])) _
    refine XS.iadd X2.here hx rfl (hb hby d26_10) rfl ?_
    show Steps p.tables e below (T2.setTop (mkF m 11 #[.val (.ref a1), .val (.int p2), .val (.int (Int32.ofNat cn)), .unset] [(.int ((Int32.ofNat cn) + (Int32.ofNat (decB p2.toInt64).length)))])) _
    rw [nq3]
    show Steps p.tables e below (T2.setTop (mkF m 11 #[.val (.ref a1), .val (.int p2), .val (.int (Int32.ofNat cn)), .unset] [(.int (Int32.ofNat (cn + (decB p2.toInt64).length)))])) _
    refine XS.istoreN X2.here hx rfl (hb hby d26_11) rfl (l' := #[.val (.ref a1), .val (.int p2), .val (.int (Int32.ofNat cn)), .val (.int (Int32.ofNat (cn + (decB p2.toInt64).length)))]) rfl ?_
    show Steps p.tables e below (T2.setTop (mkF m 12 #[.val (.ref a1), .val (.int p2), .val (.int (Int32.ofNat cn)), .val (.int (Int32.ofNat (cn + (decB p2.toInt64).length)))] [])) _
    refine XS.aloadN X2.here hx rfl (hb hby d26_12) rfl rfl ?_
    show Steps p.tables e below (T2.setTop (mkF m 13 #[.val (.ref a1), .val (.int p2), .val (.int (Int32.ofNat cn)), .val (.int (Int32.ofNat (cn + (decB p2.toInt64).length)))] [(.ref a1)])) _
    refine XS.iloadN X2.here hx rfl (hb hby d26_13) rfl ?_
    show Steps p.tables e below (T2.setTop (mkF m 14 #[.val (.ref a1), .val (.int p2), .val (.int (Int32.ofNat cn)), .val (.int (Int32.ofNat (cn + (decB p2.toInt64).length)))] [(.int (Int32.ofNat (cn + (decB p2.toInt64).length))), (.ref a1)])) _
    refine st4.trans ?_
    show Steps p.tables e below (T4.setTop (mkF m 17 #[.val (.ref a1), .val (.int p2), .val (.int (Int32.ofNat cn)), .val (.int (Int32.ofNat (cn + (decB p2.toInt64).length)))] [])) _
    refine XS.aloadN X4.here hx rfl (hb hby d26_17) rfl rfl ?_
    show Steps p.tables e below (T4.setTop (mkF m 18 #[.val (.ref a1), .val (.int p2), .val (.int (Int32.ofNat cn)), .val (.int (Int32.ofNat (cn + (decB p2.toInt64).length)))] [(.ref a1)])) _
    refine st5.trans ?_
    show Steps p.tables e below (T5.setTop (mkF m 21 #[.val (.ref a1), .val (.int p2), .val (.int (Int32.ofNat cn)), .val (.int (Int32.ofNat (cn + (decB p2.toInt64).length)))] [(.int (1 : Int32))])) _
    refine XS.ifNo X5.here hx rfl (hb hby d26_21) rfl ((if0 _ _).trans (feq (by decide : ¬ ((1 : Int32) = (0 : Int32)))).1) ?_
    show Steps p.tables e below (T5.setTop (mkF m 24 #[.val (.ref a1), .val (.int p2), .val (.int (Int32.ofNat cn)), .val (.int (Int32.ofNat (cn + (decB p2.toInt64).length)))] [])) _
    refine XS.iloadN X5.here hx rfl (hb hby d26_24) rfl ?_
    show Steps p.tables e below (T5.setTop (mkF m 25 #[.val (.ref a1), .val (.int p2), .val (.int (Int32.ofNat cn)), .val (.int (Int32.ofNat (cn + (decB p2.toInt64).length)))] [(.int p2)])) _
    refine XS.iloadN X5.here hx rfl (hb hby d26_25) rfl ?_
    show Steps p.tables e below (T5.setTop (mkF m 26 #[.val (.ref a1), .val (.int p2), .val (.int (Int32.ofNat cn)), .val (.int (Int32.ofNat (cn + (decB p2.toInt64).length)))] [(.int (Int32.ofNat (cn + (decB p2.toInt64).length))), (.int p2)])) _
    refine XS.aloadN X5.here hx rfl (hb hby d26_26) rfl rfl ?_
    show Steps p.tables e below (T5.setTop (mkF m 27 #[.val (.ref a1), .val (.int p2), .val (.int (Int32.ofNat cn)), .val (.int (Int32.ofNat (cn + (decB p2.toInt64).length)))] [(.ref a1), (.int (Int32.ofNat (cn + (decB p2.toInt64).length))), (.int p2)])) _
    refine st6 _ ?_
    show Steps p.tables e below (T6.setTop (mkF m 30 #[.val (.ref a1), .val (.int p2), .val (.int (Int32.ofNat cn)), .val (.int (Int32.ofNat (cn + (decB p2.toInt64).length)))] [(.ref d'_4), (.int (Int32.ofNat (cn + (decB p2.toInt64).length))), (.int p2)])) _
    refine st7 _ ?_
    show Steps p.tables e below (T7.setTop (mkF m 33 #[.val (.ref a1), .val (.int p2), .val (.int (Int32.ofNat cn)), .val (.int (Int32.ofNat (cn + (decB p2.toInt64).length)))] [(.int (Int32.ofNat ((cn + (decB p2.toInt64).length) - (decB p2.toInt64).length)))])) _
    refine XS.pop X7.here hx rfl (hb hby d26_33) rfl rfl ?_
    show Steps p.tables e below (T7.setTop (mkF m 34 #[.val (.ref a1), .val (.int p2), .val (.int (Int32.ofNat cn)), .val (.int (Int32.ofNat (cn + (decB p2.toInt64).length)))] [])) _
    refine XS.goto X7.here hx rfl (pc0 := 34) (pc' := 48) rfl (hb hby d26_34) (by decide) (by decide) ?_
    show Steps p.tables e below (T7.setTop (mkF m 48 #[.val (.ref a1), .val (.int p2), .val (.int (Int32.ofNat cn)), .val (.int (Int32.ofNat (cn + (decB p2.toInt64).length)))] [])) _
    refine XS.aloadN X7.here hx rfl (hb hby d26_48) rfl rfl ?_
    show Steps p.tables e below (T7.setTop (mkF m 49 #[.val (.ref a1), .val (.int p2), .val (.int (Int32.ofNat cn)), .val (.int (Int32.ofNat (cn + (decB p2.toInt64).length)))] [(.ref a1)])) _
    refine XS.iloadN X7.here hx rfl (hb hby d26_49) rfl ?_
    show Steps p.tables e below (T7.setTop (mkF m 50 #[.val (.ref a1), .val (.int p2), .val (.int (Int32.ofNat cn)), .val (.int (Int32.ofNat (cn + (decB p2.toInt64).length)))] [(.int (Int32.ofNat (cn + (decB p2.toInt64).length))), (.ref a1)])) _
    refine st8 _ ?_
    show Steps p.tables e below (T8.setTop (mkF m 53 #[.val (.ref a1), .val (.int p2), .val (.int (Int32.ofNat cn)), .val (.int (Int32.ofNat (cn + (decB p2.toInt64).length)))] [])) _
    refine XS.aloadN X8.here hx rfl (hb hby d26_53) rfl rfl ?_
    show Steps p.tables e below (T8.setTop (mkF m 54 #[.val (.ref a1), .val (.int p2), .val (.int (Int32.ofNat cn)), .val (.int (Int32.ofNat (cn + (decB p2.toInt64).length)))] [(.ref a1)])) _
    exact retOut X8 hx (t := (.object "java/lang/AbstractStringBuilder")) Bd.returns rfl (Or.inr (Or.inr (Or.inr (Or.inr ⟨rfl, rfl, rfl⟩)))) (hb hby d26_54) hr
  · show Q26 Z a1 p2 cs d dk ds cn h0 n0 _ T8.heap _
    rw [e8]
    exact ⟨_, _, _, rfl, N8, K8, E_a1_8, F_a1_value_8, F_a1_coder_8, F_a1_count_8, V_d__4_8, (app_len hn).trans len_4, app_take qn tk_4 hn, mb_4⟩

theorem d25_0 : decode jdk_67_method_15_code 0 = .ok (.aload_n 0, 1) := by decide +kernel
theorem d25_1 : decode jdk_67_method_15_code 1 = .ok (.iload_n 1, 1) := by decide +kernel
theorem d25_2 : decode jdk_67_method_15_code 2 = .ok (.invokespecial 53, 3) := by decide +kernel
theorem d25_5 : decode jdk_67_method_15_code 5 = .ok (.pop, 1) := by decide +kernel
theorem d25_6 : decode jdk_67_method_15_code 6 = .ok (.aload_n 0, 1) := by decide +kernel
theorem d25_7 : decode jdk_67_method_15_code 7 = .ok (.areturn, 1) := by decide +kernel
theorem pn_25 : plainName "java/lang/StringBuilder" = true := by first | (simp [plainName, overriddenIn]; done) | decide +kernel
theorem ef_25 (m : MethodId) (a1 : Addr) (p2 : Int32) : entryFrame m #[(.ref a1), (.int p2)] 2 = mkF m 0 #[.val (.ref a1), .val (.int p2)] [] := by first | (simp [entryFrame, mkF, argsToLocals, Value.category]; done) | rfl
def Q25 (Z : State) (a1 : Addr) (p2 : Int32) (cs : Int32) (d : Addr) (dk : ClassId) (ds : List Int32) (cn : Nat) (h0 : Heap) (n0 : Nat) (v : Option Value) (h : Heap) (L : List Loc) : Prop := ∃ (d' : Addr) (k' : ClassId) (bs' : List Int32), v = some (.ref a1) ∧ Fr n0 L ∧ Keep h0 h [a1, d] ∧ Exa Z h a1 "java/lang/StringBuilder" ∧ Fld Z h a1 "java/lang/AbstractStringBuilder" "value" "[B" (.ref d') ∧ Fld Z h a1 "java/lang/AbstractStringBuilder" "coder" "B" (.int 0) ∧ Fld Z h a1 "java/lang/AbstractStringBuilder" "count" "I" (.int (Int32.ofNat (cn + (decB p2.toInt64).length))) ∧ BL Z h d' k' bs' ∧ bs'.length = cap2 ds.length (cn + (decB p2.toInt64).length) ∧ bs'.take (cn + (decB p2.toInt64).length) = ds.take cn ++ (decB p2.toInt64) ∧ (d' = d ∨ h0.size ≤ d')
set_option maxRecDepth 65536 in
set_option maxHeartbeats 40000000 in
theorem rm25 (l : Launch) (Z : State) (a0 : Array Value) (hw : ∀ d ∈ tables_1, d.before a0 Z = true) (ws : List Jvm.Cond) (a1 : Addr) (p2 : Int32) (h0 : Heap) (n0 : Nat) (cs : Int32) (d : Addr) (dk : ClassId) (ds : List Int32) (cn : Nat) (CS : Sta Z Z.heap "java/lang/String" "COMPACT_STRINGS" "Z" (.int cs)) (hcs : ¬ cs = 0) (O0 : Old Z n0 h0) (TB : DigT Z) (E_a1 : Exa Z h0 a1 "java/lang/StringBuilder") (F_a1_v : Fld Z h0 a1 "java/lang/AbstractStringBuilder" "value" "[B" (.ref d)) (F_a1_c : Fld Z h0 a1 "java/lang/AbstractStringBuilder" "coder" "B" (.int 0)) (F_a1_n : Fld Z h0 a1 "java/lang/AbstractStringBuilder" "count" "I" (.int (Int32.ofNat cn))) (V_d : BL Z h0 d dk ds) (qn : cn ≤ ds.length) (qm : cn + (decB p2.toInt64).length ≤ 100) (qL : ds.length ≤ 70) (g_a1 : n0 ≤ a1) (g_d : n0 ≤ d) (Z0 : n0 ≤ h0.size) :
    MetFree l (⟨"java/lang/StringBuilder", "append", "(I)Ljava/lang/StringBuilder;"⟩ : MethodName) (head1 (Jvm.Cond.code (⟨"java/lang/StringBuilder", "append", "(I)Ljava/lang/StringBuilder;"⟩ : MethodName) jdk_67_method_15_code 2 (some (.object "java/lang/StringBuilder")) :: ws) ({ frames := 5, cells := 1, slots := 142, locals := 94 } : Room)) (fun a U => a = #[(.ref a1), (.int p2)] ∧ Z.Warmed39 U.vm ∧ U.heap = h0) (fun _ _ _ _ _ => True) (fun _ U o U' => ∃ v L, o = .returned v ∧ Q25 Z a1 p2 cs d dk ds cn h0 n0 v U'.heap L ∧ FrameEnd U o U' L ({ frames := 5, cells := 1, slots := 142, locals := 94 } : Room).cells ({ frames := 5, cells := 1, slots := 142, locals := 94 } : Room).slots) := by
  refine MetFree.of_bodySF (plainFor_of_name pn_25) hisR ?_
  intro p e s m args below meth c s₁ Bd hml0 hP hK
  obtain ⟨rfl, hZ, hh⟩ := hP
  have hx := Bd.exec
  have hby := Bd.bytes
  have hml : c.maxLocals = 2 := hml0
  have hown0 := findClass_of_methodNamed Bd.named
  have hown : s.vm.findClass "java/lang/StringBuilder" = some m.cls := hown0
  have hnm := (name_of_methodNamed Bd.named Bd.method).1
  have X0 : Stand p l e ({ frames := 5, cells := 1, slots := 142, locals := 94 } : Room) s m #[(.ref a1), (.int p2)] below meth c s₁ [] 0 0 := Stand.of_body Bd
  have e0 : s₁.heap = h0 := by rw [← hh, Bd.state]; rfl
  have N0 := Fr.nil n0
  have pre0 : ∀ t, Steps p.tables e below (s₁.setTop (mkF m 0 #[.val (.ref a1), .val (.int p2)] [])) t → Steps p.tables e below (s₁.setTop (entryFrame m #[(.ref a1), (.int p2)] 2)) t := fun t k => castTop (ef_25 m a1 p2) k
  refine Classical.byContradiction fun hneg => ?_
  obtain ⟨_, _, ⟨T1, L1, k1, n1⟩, -, X1, ⟨Lc1, hQ1, l1, y1, z1⟩, st1⟩ := superBack X0 hx hZ (y := (⟨"java/lang/AbstractStringBuilder", "append", "(I)Ljava/lang/AbstractStringBuilder;"⟩ : MethodName)) hown (hw _ (List.mem_of_getElem? (i := 158) rfl)) (same_self (y := (⟨"java/lang/AbstractStringBuilder", "append", "(I)Ljava/lang/AbstractStringBuilder;"⟩ : MethodName)) (hw _ (List.mem_of_getElem? (i := 159) rfl)) (hw _ (List.mem_of_getElem? (i := 79) rfl)) rfl (by decide)) (hw _ (List.mem_of_getElem? (i := 159) rfl)) (hw _ (List.mem_of_getElem? (i := 58) rfl)) (by decide) (backOf (W := 0) (rm26 l Z a0 hw [] a1 p2 h0 n0 cs d dk ds cn  CS hcs O0 TB E_a1 F_a1_v F_a1_c F_a1_n V_d  qn qm (by omega) g_a1 g_d Z0 ) hZ (hw _ (List.mem_of_getElem? (i := 161) rfl)) (hw _ (List.mem_of_getElem? (i := 35) rfl)) (by decide) (by decide)) e0 (Ins.self E_a1) (g := (mkF m 2 #[.val (.ref a1), .val (.int p2)] [(.int p2), (.ref a1)])) rfl (by rw [hml]; rfl) (hw _ (List.mem_of_getElem? (i := 161) rfl)) (argsL := [(.int p2)]) (rest := []) (lenOf pd16 rfl) rfl (by show 2 * 0 + _ ≤ _; exact Nat.le_of_eq rfl) (hb hby d25_2) (fun _ _ => ⟨rfl, e0, (by decide : 0 + 1 ≤ _), (by decide : 0 + 142 ≤ _)⟩)
  dsimp only [Pt.U, Pt.locs, Pt.cells, Pt.slots] at X1 l1 y1 z1 st1 hQ1
  subst l1 y1 z1
  obtain ⟨d'_1, k'_1, bs'_1, rfl, N1q, Kc1, G1_0, G1_1, G1_2, G1_3, G1_4, len_1, tk_1, mb_1⟩ := hQ1
  have N1 := Fr.app N0 N1q
  have ne_a1_d'_1 : a1 ≠ d'_1 := mb_1.elim (fun q => by rw [q]; exact (Exa.neArv E_a1 V_d.1 (hw _ (List.mem_of_getElem? (i := 26) rfl)))) (fun q => Nat.ne_of_lt (Nat.lt_of_lt_of_le E_a1.lt q))
  have g_d'_1 : n0 ≤ d'_1 := mb_1.elim (fun q => by rw [q]; exact g_d) (fun q => Nat.le_trans Z0 q)
  have wk_d'_1 : d'_1 ∈ [a1, d] ∨ h0.size ≤ d'_1 := mb_1.elim (fun q => by rw [q]; exact (Or.inl (by simp))) (fun q => Or.inr (Nat.le_trans (Keep.refl h0 [a1, d]).1 q))
  have K1 : Keep h0 T1.heap [a1, d] := (Keep.refl h0 [a1, d]).trans Kc1 (allS (P := fun x => x ∈ [a1, d] ∨ h0.size ≤ x) (Or.inl (by simp)) (allS (P := fun x => x ∈ [a1, d] ∨ h0.size ≤ x) (Or.inl (by simp)) all0))
  have Z1 : n0 ≤ T1.heap.size := Nat.le_trans Z0 Kc1.1
  have O1 := Old.keep O0 Kc1 (allS g_a1 (allS g_d all0))
  refine hneg ?_
  obtain ⟨fs, hr, hrun, hended, hW, hsame⟩ := X1.leave (v := some (.ref a1)) (fun h => by rw [Bd.returns] at h; cases h)
  refine ⟨_, _, pre0 _ ?_, hrun, hended, _, _, rfl, ?_, ⟨_, rfl⟩, hW, hsame.mono (by decide) (by decide)⟩
  · show Steps p.tables e below (s₁.setTop (mkF m 0 #[.val (.ref a1), .val (.int p2)] [])) _
    refine XS.aloadN X0.here hx rfl (hb hby d25_0) rfl rfl ?_
    show Steps p.tables e below (s₁.setTop (mkF m 1 #[.val (.ref a1), .val (.int p2)] [(.ref a1)])) _
    refine XS.iloadN X0.here hx rfl (hb hby d25_1) rfl ?_
    show Steps p.tables e below (s₁.setTop (mkF m 2 #[.val (.ref a1), .val (.int p2)] [(.int p2), (.ref a1)])) _
    refine st1.trans ?_
    show Steps p.tables e below (T1.setTop (mkF m 5 #[.val (.ref a1), .val (.int p2)] [(.ref a1)])) _
    refine XS.pop X1.here hx rfl (hb hby d25_5) rfl rfl ?_
    show Steps p.tables e below (T1.setTop (mkF m 6 #[.val (.ref a1), .val (.int p2)] [])) _
    refine XS.aloadN X1.here hx rfl (hb hby d25_6) rfl rfl ?_
    show Steps p.tables e below (T1.setTop (mkF m 7 #[.val (.ref a1), .val (.int p2)] [(.ref a1)])) _
    exact retOut X1 hx (t := (.object "java/lang/StringBuilder")) Bd.returns rfl (Or.inr (Or.inr (Or.inr (Or.inr ⟨rfl, rfl, rfl⟩)))) (hb hby d25_7) hr
  · show Q25 Z a1 p2 cs d dk ds cn h0 n0 _ T1.heap _
    exact ⟨_, _, _, rfl, N1, K1, G1_0, G1_1, G1_2, G1_3, G1_4, len_1, tk_1, mb_1⟩

theorem d6_0 : decode jdk_68_method_2_code 0 = .ok (.aload_n 0, 1) := by decide +kernel
theorem d6_1 : decode jdk_68_method_2_code 1 = .ok (.invokespecial 3, 3) := by decide +kernel
theorem d6_4 : decode jdk_68_method_2_code 4 = .ok (.getstatic 18, 3) := by decide +kernel
theorem d6_7 : decode jdk_68_method_2_code 7 = .ok (.ifCond .eq 18, 3) := by decide +kernel
theorem d6_10 : decode jdk_68_method_2_code 10 = .ok (.aload_n 0, 1) := by decide +kernel
theorem d6_11 : decode jdk_68_method_2_code 11 = .ok (.iload_n 1, 1) := by decide +kernel
theorem d6_12 : decode jdk_68_method_2_code 12 = .ok (.newarray .byte, 2) := by decide +kernel
theorem d6_14 : decode jdk_68_method_2_code 14 = .ok (.putfield 15, 3) := by decide +kernel
theorem d6_17 : decode jdk_68_method_2_code 17 = .ok (.aload_n 0, 1) := by decide +kernel
theorem d6_18 : decode jdk_68_method_2_code 18 = .ok (.iconst 0, 1) := by decide +kernel
theorem d6_19 : decode jdk_68_method_2_code 19 = .ok (.putfield 22, 3) := by decide +kernel
theorem d6_22 : decode jdk_68_method_2_code 22 = .ok (.goto 16, 3) := by decide +kernel
theorem d6_38 : decode jdk_68_method_2_code 38 = .ok (.return_, 1) := by decide +kernel
theorem pn_6 : plainName "java/lang/AbstractStringBuilder" = true := by first | (simp [plainName, overriddenIn]; done) | decide +kernel
theorem ef_6 (m : MethodId) (a1 : Addr) (zf1 : Int32) : entryFrame m #[(.ref a1), (.int zf1)] 2 = mkF m 0 #[.val (.ref a1), .val (.int zf1)] [] := by first | (simp [entryFrame, mkF, argsToLocals, Value.category]; done) | rfl
def Q6 (Z : State) (a1 : Addr) (cs : Int32) (h0 : Heap) (n0 : Nat) (v : Option Value) (h : Heap) (L : List Loc) : Prop := ∃ (d' : Addr) (k' : ClassId) (bs' : List Int32), v = none ∧ Fr n0 L ∧ Keep h0 h [a1] ∧ Exa Z h a1 "java/lang/StringBuilder" ∧ Fld Z h a1 "java/lang/AbstractStringBuilder" "value" "[B" (.ref d') ∧ Fld Z h a1 "java/lang/AbstractStringBuilder" "coder" "B" (.int 0) ∧ Fld Z h a1 "java/lang/AbstractStringBuilder" "count" "I" (.int (Int32.ofNat 0)) ∧ BL Z h d' k' bs' ∧ bs' = List.replicate 16 (0 : Int32) ∧ h0.size ≤ d'
set_option maxRecDepth 65536 in
set_option maxHeartbeats 40000000 in
theorem rm6 (l : Launch) (Z : State) (a0 : Array Value) (hw : ∀ d ∈ tables_1, d.before a0 Z = true) (ws : List Jvm.Cond) (a1 : Addr) (h0 : Heap) (n0 : Nat) (cs : Int32) (CS : Sta Z Z.heap "java/lang/String" "COMPACT_STRINGS" "Z" (.int cs)) (hcs : ¬ cs = 0) (O0 : Old Z n0 h0) (u_v u_c : Value) (Z0 : n0 ≤ h0.size) (g_a1 : n0 ≤ a1) (E_a1 : Exa Z h0 a1 "java/lang/StringBuilder") (F_a1_v : Fld Z h0 a1 "java/lang/AbstractStringBuilder" "value" "[B" u_v) (F_a1_c : Fld Z h0 a1 "java/lang/AbstractStringBuilder" "coder" "B" u_c) (F_a1_n : Fld Z h0 a1 "java/lang/AbstractStringBuilder" "count" "I" (.int 0)) :
    MetFree l (⟨"java/lang/AbstractStringBuilder", "<init>", "(I)V"⟩ : MethodName) (head1 (Jvm.Cond.code (⟨"java/lang/AbstractStringBuilder", "<init>", "(I)V"⟩ : MethodName) jdk_68_method_2_code 2 none :: ws) ({ frames := 1, cells := 1, slots := 16, locals := 12 } : Room)) (fun a U => a = #[(.ref a1), (.int (16 : Int32))] ∧ Z.Warmed39 U.vm ∧ U.heap = h0) (fun _ _ _ _ _ => True) (fun _ U o U' => ∃ v L, o = .returned v ∧ Q6 Z a1 cs h0 n0 v U'.heap L ∧ FrameEnd U o U' L ({ frames := 1, cells := 1, slots := 16, locals := 12 } : Room).cells ({ frames := 1, cells := 1, slots := 16, locals := 12 } : Room).slots) := by
  refine MetFree.of_bodySF (plainFor_of_name pn_6) hisR ?_
  intro p e s m args below meth c s₁ Bd hml0 hP hK
  obtain ⟨rfl, hZ, hh⟩ := hP
  have hx := Bd.exec
  have hby := Bd.bytes
  have hml : c.maxLocals = 2 := hml0
  have hown0 := findClass_of_methodNamed Bd.named
  have hown : s.vm.findClass "java/lang/AbstractStringBuilder" = some m.cls := hown0
  have hnm := (name_of_methodNamed Bd.named Bd.method).1
  have X0 : Stand p l e ({ frames := 1, cells := 1, slots := 16, locals := 12 } : Room) s m #[(.ref a1), (.int (16 : Int32))] below meth c s₁ [] 0 0 := Stand.of_body Bd
  have e0 : s₁.heap = h0 := by rw [← hh, Bd.state]; rfl
  have N0 := Fr.nil n0
  have pre0 : ∀ t, Steps p.tables e below (s₁.setTop (mkF m 0 #[.val (.ref a1), .val (.int (16 : Int32))] [])) t → Steps p.tables e below (s₁.setTop (entryFrame m #[(.ref a1), (.int (16 : Int32))] 2)) t := fun t k => castTop (ef_6 m a1 ((16 : Int32))) k
  refine Classical.byContradiction fun hneg => ?_
  obtain ⟨T1, X1, e1, st1⟩ := initO X0 hx hZ hown (hw _ (List.mem_of_getElem? (i := 37) rfl)) (hw _ (List.mem_of_getElem? (i := 12) rfl)) (hw _ (List.mem_of_getElem? (i := 13) rfl)) e0 (g := (mkF m 1 #[.val (.ref a1), .val (.int (16 : Int32))] [(.ref a1)])) rfl (by rw [hml]; rfl) rfl (hb hby d6_1) (by decide) (W := 0) (by show 2 * 0 + _ ≤ _; exact Nat.le_of_eq rfl) (by decide)
  obtain ⟨T2, X2, e2, st2⟩ := getS2 X1 hx hZ hown (host := "") (Or.inl (hw _ (List.mem_of_getElem? (i := 38) rfl))) Via.refl e1 (CS.ext O0.2) (g := (mkF m 4 #[.val (.ref a1), .val (.int (16 : Int32))] [])) rfl (hb hby d6_4)
  obtain ⟨T3, h3, k3, X3, e3, E3, V3, st3⟩ := newB X2 hx hZ (hw _ (List.mem_of_getElem? (i := 40) rfl)) e2 (g := (mkF m 12 #[.val (.ref a1), .val (.int (16 : Int32))] [(.int (16 : Int32)), (.ref a1)])) rfl (hb hby d6_12) (n := 16) rfl (cap := 16) (by decide) (by decide) (by decide) (by decide)
  obtain ⟨b3, g3⟩ : ∃ z, z = h0.size := ⟨_, rfl⟩
  rw [← g3] at V3 st3
  have ne_a1_b3 : a1 ≠ b3 := Nat.ne_of_lt (Nat.lt_of_lt_of_le E_a1.lt (Nat.le_of_eq g3.symm))
  have g_b3 : n0 ≤ b3 := Nat.le_trans Z0 (Nat.le_of_eq g3.symm)
  have sz_b3 : h0.size ≤ b3 := Nat.le_trans (Keep.refl h0 [a1]).1 (Nat.le_of_eq g3.symm)
  have E_a1_3 := E_a1.ext E3
  have F_a1_value_3 := F_a1_v.ext E3
  have F_a1_coder_3 := F_a1_c.ext E3
  have F_a1_count_3 := F_a1_n.ext E3
  have K3 : Keep h0 h3 [a1] := (Keep.refl h0 [a1]).ext E3
  have Z3 : n0 ≤ h3.size := Nat.le_trans Z0 E3.1
  have O3 := Old.ext O0 E3
  obtain ⟨T4, h4, X4, e4, W4, st4⟩ := putF X3 hx hZ hown (host := "") (Or.inl (hw _ (List.mem_of_getElem? (i := 41) rfl))) Via.refl e3 F_a1_value_3 E_a1_3 (Or.inl (hw _ (List.mem_of_getElem? (i := 42) rfl))) (hw _ (List.mem_of_getElem? (i := 26) rfl)) (ty := (.array .byte)) (by decide) rfl rfl (g := (mkF m 14 #[.val (.ref a1), .val (.int (16 : Int32))] [(.ref b3), (.ref a1)])) rfl rfl (hb hby d6_14)
  have E_a1_4 := E_a1_3.wr W4
  have F_a1_value_4 := F_a1_value_3.same W4
  have F_a1_coder_4 := F_a1_coder_3.other W4 (Or.inr (slot_ne (Or.inl (hw _ (List.mem_of_getElem? (i := 44) rfl))) (Or.inl (hw _ (List.mem_of_getElem? (i := 42) rfl))) (by decide) (t := .byte) (t' := (.array .byte)) (by decide) (by decide)))
  have F_a1_count_4 := F_a1_count_3.other W4 (Or.inr (slot_ne (Or.inl (hw _ (List.mem_of_getElem? (i := 75) rfl))) (Or.inl (hw _ (List.mem_of_getElem? (i := 42) rfl))) (by decide) (t := .int) (t' := (.array .byte)) (by decide) (by decide)))
  have V_b3_4 := V3.other W4 (Ne.symm ne_a1_b3)
  have K4 : Keep h0 h4 [a1] := K3.wr W4 (Or.inl (by simp))
  have N4 := Fr.snoc X4 N0 g_a1
  have Z4 : n0 ≤ h4.size := Nat.le_trans Z3 (Keep.of_wr W4).1
  have O4 := Old.wr O3 W4 g_a1
  obtain ⟨T5, h5, X5, e5, W5, st5⟩ := putF X4 hx hZ hown (host := "") (Or.inl (hw _ (List.mem_of_getElem? (i := 43) rfl))) Via.refl e4 F_a1_coder_4 E_a1_4 (Or.inl (hw _ (List.mem_of_getElem? (i := 44) rfl))) (hw _ (List.mem_of_getElem? (i := 26) rfl)) (ty := .byte) (by decide) rfl rfl (g := (mkF m 19 #[.val (.ref a1), .val (.int (16 : Int32))] [(.int (0 : Int32)), (.ref a1)])) rfl rfl (hb hby d6_19)
  have E_a1_5 := E_a1_4.wr W5
  have F_a1_value_5 := F_a1_value_4.other W5 (Or.inr (slot_ne (Or.inl (hw _ (List.mem_of_getElem? (i := 42) rfl))) (Or.inl (hw _ (List.mem_of_getElem? (i := 44) rfl))) (by decide) (t := (.array .byte)) (t' := .byte) (by decide) (by decide)))
  have F_a1_coder_5 := F_a1_coder_4.same W5
  have F_a1_count_5 := F_a1_count_4.other W5 (Or.inr (slot_ne (Or.inl (hw _ (List.mem_of_getElem? (i := 75) rfl))) (Or.inl (hw _ (List.mem_of_getElem? (i := 44) rfl))) (by decide) (t := .int) (t' := .byte) (by decide) (by decide)))
  have V_b3_5 := V_b3_4.other W5 (Ne.symm ne_a1_b3)
  have K5 : Keep h0 h5 [a1] := K4.wr W5 (Or.inl (by simp))
  have N5 := Fr.snoc X5 N4 g_a1
  have Z5 : n0 ≤ h5.size := Nat.le_trans Z4 (Keep.of_wr W5).1
  have O5 := Old.wr O4 W5 g_a1
  refine hneg ?_
  obtain ⟨fs, hr, hrun, hended, hW, hsame⟩ := X5.leave (v := none) (fun _ => rfl)
  refine ⟨_, _, pre0 _ ?_, hrun, hended, _, _, rfl, ?_, ⟨_, rfl⟩, hW, hsame.mono (by decide) (by decide)⟩
  · show Steps p.tables e below (s₁.setTop (mkF m 0 #[.val (.ref a1), .val (.int (16 : Int32))] [])) _
    refine XS.aloadN X0.here hx rfl (hb hby d6_0) rfl rfl ?_
    show Steps p.tables e below (s₁.setTop (mkF m 1 #[.val (.ref a1), .val (.int (16 : Int32))] [(.ref a1)])) _
    refine st1 _ ?_
    show Steps p.tables e below (T1.setTop (mkF m 4 #[.val (.ref a1), .val (.int (16 : Int32))] [])) _
    refine st2 _ ?_
    show Steps p.tables e below (T2.setTop (mkF m 7 #[.val (.ref a1), .val (.int (16 : Int32))] [(.int cs)])) _
    refine XS.ifNo X2.here hx rfl (hb hby d6_7) rfl ((if0 _ _).trans (feq hcs).1) ?_
    show Steps p.tables e below (T2.setTop (mkF m 10 #[.val (.ref a1), .val (.int (16 : Int32))] [])) _
    refine XS.aloadN X2.here hx rfl (hb hby d6_10) rfl rfl ?_
    show Steps p.tables e below (T2.setTop (mkF m 11 #[.val (.ref a1), .val (.int (16 : Int32))] [(.ref a1)])) _
    refine XS.iloadN X2.here hx rfl (hb hby d6_11) rfl ?_
    show Steps p.tables e below (T2.setTop (mkF m 12 #[.val (.ref a1), .val (.int (16 : Int32))] [(.int (16 : Int32)), (.ref a1)])) _
    refine st3 _ ?_
    show Steps p.tables e below (T3.setTop (mkF m 14 #[.val (.ref a1), .val (.int (16 : Int32))] [(.ref b3), (.ref a1)])) _
    refine st4 _ ?_
    show Steps p.tables e below (T4.setTop (mkF m 17 #[.val (.ref a1), .val (.int (16 : Int32))] [])) _
    refine XS.aloadN X4.here hx rfl (hb hby d6_17) rfl rfl ?_
    show Steps p.tables e below (T4.setTop (mkF m 18 #[.val (.ref a1), .val (.int (16 : Int32))] [(.ref a1)])) _
    refine XS.iconst X4.here hx rfl (hb hby d6_18) ?_
    show Steps p.tables e below (T4.setTop (mkF m 19 #[.val (.ref a1), .val (.int (16 : Int32))] [(.int (0 : Int32)), (.ref a1)])) _
    refine st5 _ ?_
    show Steps p.tables e below (T5.setTop (mkF m 22 #[.val (.ref a1), .val (.int (16 : Int32))] [])) _
    refine XS.goto X5.here hx rfl (pc0 := 22) (pc' := 38) rfl (hb hby d6_22) (by decide) (by decide) ?_
    show Steps p.tables e below (T5.setTop (mkF m 38 #[.val (.ref a1), .val (.int (16 : Int32))] [])) _
    exact X5.returnOut hx Bd.returns (hb hby d6_38) hr
  · show Q6 Z a1 cs h0 n0 _ T5.heap _
    rw [e5]
    exact ⟨_, _, _, rfl, N5, K5, E_a1_5, F_a1_value_5, F_a1_coder_5, F_a1_count_5, V_b3_5, rfl, sz_b3⟩

theorem d5_0 : decode jdk_67_method_1_code 0 = .ok (.aload_n 0, 1) := by decide +kernel
theorem d5_1 : decode jdk_67_method_1_code 1 = .ok (.bipush 16, 2) := by decide +kernel
theorem d5_3 : decode jdk_67_method_1_code 3 = .ok (.invokespecial 1, 3) := by decide +kernel
theorem d5_6 : decode jdk_67_method_1_code 6 = .ok (.return_, 1) := by decide +kernel
theorem pn_5 : plainName "java/lang/StringBuilder" = true := by first | (simp [plainName, overriddenIn]; done) | decide +kernel
theorem ef_5 (m : MethodId) (a1 : Addr) : entryFrame m #[(.ref a1)] 1 = mkF m 0 #[.val (.ref a1)] [] := by first | (simp [entryFrame, mkF, argsToLocals, Value.category]; done) | rfl
def Q5 (Z : State) (a1 : Addr) (cs : Int32) (h0 : Heap) (n0 : Nat) (v : Option Value) (h : Heap) (L : List Loc) : Prop := ∃ (d' : Addr) (k' : ClassId) (bs' : List Int32), v = none ∧ Fr n0 L ∧ Keep h0 h [a1] ∧ Exa Z h a1 "java/lang/StringBuilder" ∧ Fld Z h a1 "java/lang/AbstractStringBuilder" "value" "[B" (.ref d') ∧ Fld Z h a1 "java/lang/AbstractStringBuilder" "coder" "B" (.int 0) ∧ Fld Z h a1 "java/lang/AbstractStringBuilder" "count" "I" (.int (Int32.ofNat 0)) ∧ BL Z h d' k' bs' ∧ bs' = List.replicate 16 (0 : Int32) ∧ h0.size ≤ d'
set_option maxRecDepth 65536 in
set_option maxHeartbeats 40000000 in
theorem rm5 (l : Launch) (Z : State) (a0 : Array Value) (hw : ∀ d ∈ tables_1, d.before a0 Z = true) (ws : List Jvm.Cond) (a1 : Addr) (h0 : Heap) (n0 : Nat) (cs : Int32) (CS : Sta Z Z.heap "java/lang/String" "COMPACT_STRINGS" "Z" (.int cs)) (hcs : ¬ cs = 0) (O0 : Old Z n0 h0) (u_v u_c : Value) (Z0 : n0 ≤ h0.size) (g_a1 : n0 ≤ a1) (E_a1 : Exa Z h0 a1 "java/lang/StringBuilder") (F_a1_v : Fld Z h0 a1 "java/lang/AbstractStringBuilder" "value" "[B" u_v) (F_a1_c : Fld Z h0 a1 "java/lang/AbstractStringBuilder" "coder" "B" u_c) (F_a1_n : Fld Z h0 a1 "java/lang/AbstractStringBuilder" "count" "I" (.int 0)) :
    MetFree l (⟨"java/lang/StringBuilder", "<init>", "()V"⟩ : MethodName) (head1 (Jvm.Cond.code (⟨"java/lang/StringBuilder", "<init>", "()V"⟩ : MethodName) jdk_67_method_1_code 1 none :: ws) ({ frames := 2, cells := 1, slots := 16, locals := 25 } : Room)) (fun a U => a = #[(.ref a1)] ∧ Z.Warmed39 U.vm ∧ U.heap = h0) (fun _ _ _ _ _ => True) (fun _ U o U' => ∃ v L, o = .returned v ∧ Q5 Z a1 cs h0 n0 v U'.heap L ∧ FrameEnd U o U' L ({ frames := 2, cells := 1, slots := 16, locals := 25 } : Room).cells ({ frames := 2, cells := 1, slots := 16, locals := 25 } : Room).slots) := by
  refine MetFree.of_bodySF (plainFor_of_name pn_5) hisR ?_
  intro p e s m args below meth c s₁ Bd hml0 hP hK
  obtain ⟨rfl, hZ, hh⟩ := hP
  have hx := Bd.exec
  have hby := Bd.bytes
  have hml : c.maxLocals = 1 := hml0
  have hown0 := findClass_of_methodNamed Bd.named
  have hown : s.vm.findClass "java/lang/StringBuilder" = some m.cls := hown0
  have hnm := (name_of_methodNamed Bd.named Bd.method).1
  have X0 : Stand p l e ({ frames := 2, cells := 1, slots := 16, locals := 25 } : Room) s m #[(.ref a1)] below meth c s₁ [] 0 0 := Stand.of_body Bd
  have e0 : s₁.heap = h0 := by rw [← hh, Bd.state]; rfl
  have N0 := Fr.nil n0
  have pre0 : ∀ t, Steps p.tables e below (s₁.setTop (mkF m 0 #[.val (.ref a1)] [])) t → Steps p.tables e below (s₁.setTop (entryFrame m #[(.ref a1)] 1)) t := fun t k => castTop (ef_5 m a1) k
  refine Classical.byContradiction fun hneg => ?_
  obtain ⟨_, _, ⟨T1, L1, k1, n1⟩, -, X1, ⟨Lc1, hQ1, l1, y1, z1⟩, st1⟩ := X0.specialBack hx (y := (⟨"java/lang/AbstractStringBuilder", "<init>", "(I)V"⟩ : MethodName)) rfl hown (mvT hZ (hw _ (List.mem_of_getElem? (i := 31) rfl))) (mvT hZ (hw _ (List.mem_of_getElem? (i := 32) rfl))) (mvT hZ (hw _ (List.mem_of_getElem? (i := 36) rfl))) (by decide) (backOf (W := 0) (rm6 l Z a0 hw [] a1  h0 n0 cs CS hcs O0 _ _ Z0 g_a1 E_a1 F_a1_v F_a1_c F_a1_n) hZ (hw _ (List.mem_of_getElem? (i := 36) rfl)) (hw _ (List.mem_of_getElem? (i := 35) rfl)) (by decide) (by decide)) (g := (mkF m 3 #[.val (.ref a1)] [(.int (16 : Int32)), (.ref a1)])) rfl (by rw [hml]; rfl) (Steps.refl _) (a := a1) (argsL := [(.int (16 : Int32))]) (rest := []) (lenOf pd8 rfl) rfl (by show 2 * 0 + _ ≤ _; exact Nat.le_of_eq rfl) (hb hby d5_3) (fun _ _ => ⟨rfl, e0, (by decide : 0 + 1 ≤ _), (by decide : 0 + 16 ≤ _)⟩)
  dsimp only [Pt.U, Pt.locs, Pt.cells, Pt.slots] at X1 l1 y1 z1 st1 hQ1
  subst l1 y1 z1
  obtain ⟨d'_1, k'_1, bs'_1, rfl, N1q, Kc1, G1_0, G1_1, G1_2, G1_3, G1_4, rep_1, f_d'_1⟩ := hQ1
  have N1 := Fr.app N0 N1q
  have ne_a1_d'_1 : a1 ≠ d'_1 := Nat.ne_of_lt (Nat.lt_of_lt_of_le E_a1.lt f_d'_1)
  have g_d'_1 : n0 ≤ d'_1 := Nat.le_trans Z0 f_d'_1
  have sz_d'_1 : h0.size ≤ d'_1 := Nat.le_trans (Keep.refl h0 [a1]).1 f_d'_1
  have K1 : Keep h0 T1.heap [a1] := (Keep.refl h0 [a1]).trans Kc1 (allS (P := fun x => x ∈ [a1] ∨ h0.size ≤ x) (Or.inl (by simp)) all0)
  have Z1 : n0 ≤ T1.heap.size := Nat.le_trans Z0 Kc1.1
  have O1 := Old.keep O0 Kc1 (allS g_a1 all0)
  refine hneg ?_
  obtain ⟨fs, hr, hrun, hended, hW, hsame⟩ := X1.leave (v := none) (fun _ => rfl)
  refine ⟨_, _, pre0 _ ?_, hrun, hended, _, _, rfl, ?_, ⟨_, rfl⟩, hW, hsame.mono (by decide) (by decide)⟩
  · show Steps p.tables e below (s₁.setTop (mkF m 0 #[.val (.ref a1)] [])) _
    refine XS.aloadN X0.here hx rfl (hb hby d5_0) rfl rfl ?_
    show Steps p.tables e below (s₁.setTop (mkF m 1 #[.val (.ref a1)] [(.ref a1)])) _
    refine XS.bipush X0.here hx rfl (hb hby d5_1) ?_
    show Steps p.tables e below (s₁.setTop (mkF m 3 #[.val (.ref a1)] [(.int (16 : Int32)), (.ref a1)])) _
    refine st1.trans ?_
    show Steps p.tables e below (T1.setTop (mkF m 6 #[.val (.ref a1)] [])) _
    exact X1.returnOut hx Bd.returns (hb hby d5_6) hr
  · show Q5 Z a1 cs h0 n0 _ T1.heap _
    exact ⟨_, _, _, rfl, N1, K1, G1_0, G1_1, G1_2, G1_3, G1_4, rep_1, sz_d'_1⟩

theorem d32_0 : decode jdk_68_method_64_code 0 = .ok (.aload_n 0, 1) := by decide +kernel
theorem d32_1 : decode jdk_68_method_64_code 1 = .ok (.getfield 15, 3) := by decide +kernel
theorem d32_4 : decode jdk_68_method_64_code 4 = .ok (.areturn, 1) := by decide +kernel
theorem pn_32 : plainName "java/lang/AbstractStringBuilder" = true := by first | (simp [plainName, overriddenIn]; done) | decide +kernel
theorem ef_32 (m : MethodId) (a1 : Addr) : entryFrame m #[(.ref a1)] 1 = mkF m 0 #[.val (.ref a1)] [] := by first | (simp [entryFrame, mkF, argsToLocals, Value.category]; done) | rfl
def Q32 (Z : State) (a1 : Addr) (d : Addr) (h0 : Heap) (n0 : Nat) (v : Option Value) (h : Heap) (L : List Loc) : Prop := v = some (.ref d) ∧ Fr n0 L ∧ h = h0
set_option maxRecDepth 65536 in
set_option maxHeartbeats 40000000 in
theorem rm32 (l : Launch) (Z : State) (a0 : Array Value) (hw : ∀ d ∈ tables_1, d.before a0 Z = true) (ws : List Jvm.Cond) (a1 : Addr) (h0 : Heap) (n0 : Nat) (d : Addr) (F_a1_v : Fld Z h0 a1 "java/lang/AbstractStringBuilder" "value" "[B" (.ref d)) :
    MetFree l (⟨"java/lang/AbstractStringBuilder", "getValue", "()[B"⟩ : MethodName) (head1 (Jvm.Cond.code (⟨"java/lang/AbstractStringBuilder", "getValue", "()[B"⟩ : MethodName) jdk_68_method_64_code 1 (some (.array .byte)) :: ws) ({ frames := 0, cells := 0, slots := 0, locals := 0 } : Room)) (fun a U => a = #[(.ref a1)] ∧ Z.Warmed39 U.vm ∧ U.heap = h0) (fun _ _ _ _ _ => True) (fun _ U o U' => ∃ v L, o = .returned v ∧ Q32 Z a1 d h0 n0 v U'.heap L ∧ FrameEnd U o U' L ({ frames := 0, cells := 0, slots := 0, locals := 0 } : Room).cells ({ frames := 0, cells := 0, slots := 0, locals := 0 } : Room).slots) := by
  refine MetFree.of_bodySF (plainFor_of_name pn_32) hisR ?_
  intro p e s m args below meth c s₁ Bd hml0 hP hK
  obtain ⟨rfl, hZ, hh⟩ := hP
  have hx := Bd.exec
  have hby := Bd.bytes
  have hml : c.maxLocals = 1 := hml0
  have hown0 := findClass_of_methodNamed Bd.named
  have hown : s.vm.findClass "java/lang/AbstractStringBuilder" = some m.cls := hown0
  have hnm := (name_of_methodNamed Bd.named Bd.method).1
  have X0 : Stand p l e ({ frames := 0, cells := 0, slots := 0, locals := 0 } : Room) s m #[(.ref a1)] below meth c s₁ [] 0 0 := Stand.of_body Bd
  have e0 : s₁.heap = h0 := by rw [← hh, Bd.state]; rfl
  have N0 := Fr.nil n0
  have pre0 : ∀ t, Steps p.tables e below (s₁.setTop (mkF m 0 #[.val (.ref a1)] [])) t → Steps p.tables e below (s₁.setTop (entryFrame m #[(.ref a1)] 1)) t := fun t k => castTop (ef_32 m a1) k
  refine Classical.byContradiction fun hneg => ?_
  obtain ⟨T1, X1, e1, st1⟩ := getF X0 hx hZ hown (host := "") (Or.inl (hw _ (List.mem_of_getElem? (i := 41) rfl))) Via.refl e0 F_a1_v (g := (mkF m 1 #[.val (.ref a1)] [(.ref a1)])) rfl rfl (hb hby d32_1)
  refine hneg ?_
  obtain ⟨fs, hr, hrun, hended, hW, hsame⟩ := X1.leave (v := some (.ref d)) (fun h => by rw [Bd.returns] at h; cases h)
  refine ⟨_, _, pre0 _ ?_, hrun, hended, _, _, rfl, ?_, ⟨_, rfl⟩, hW, hsame.mono (by decide) (by decide)⟩
  · show Steps p.tables e below (s₁.setTop (mkF m 0 #[.val (.ref a1)] [])) _
    refine XS.aloadN X0.here hx rfl (hb hby d32_0) rfl rfl ?_
    show Steps p.tables e below (s₁.setTop (mkF m 1 #[.val (.ref a1)] [(.ref a1)])) _
    refine st1 _ ?_
    show Steps p.tables e below (T1.setTop (mkF m 4 #[.val (.ref a1)] [(.ref d)])) _
    exact retOut X1 hx (t := (.array .byte)) Bd.returns rfl (Or.inr (Or.inr (Or.inr (Or.inr ⟨rfl, rfl, rfl⟩)))) (hb hby d32_4) hr
  · show Q32 Z a1 d h0 n0 _ T1.heap _
    rw [e1]
    exact ⟨rfl, N0, rfl⟩

theorem d34_0 : decode jdk_68_method_6_code 0 = .ok (.aload_n 0, 1) := by decide +kernel
theorem d34_1 : decode jdk_68_method_6_code 1 = .ok (.getfield 79, 3) := by decide +kernel
theorem d34_4 : decode jdk_68_method_6_code 4 = .ok (.ireturn, 1) := by decide +kernel
theorem pn_34 : plainName "java/lang/AbstractStringBuilder" = true := by first | (simp [plainName, overriddenIn]; done) | decide +kernel
theorem ef_34 (m : MethodId) (a1 : Addr) : entryFrame m #[(.ref a1)] 1 = mkF m 0 #[.val (.ref a1)] [] := by first | (simp [entryFrame, mkF, argsToLocals, Value.category]; done) | rfl
def Q34 (Z : State) (a1 : Addr) (cn : Nat) (h0 : Heap) (n0 : Nat) (v : Option Value) (h : Heap) (L : List Loc) : Prop := v = some (.int (Int32.ofNat cn)) ∧ Fr n0 L ∧ h = h0
set_option maxRecDepth 65536 in
set_option maxHeartbeats 40000000 in
theorem rm34 (l : Launch) (Z : State) (a0 : Array Value) (hw : ∀ d ∈ tables_1, d.before a0 Z = true) (ws : List Jvm.Cond) (a1 : Addr) (h0 : Heap) (n0 : Nat) (cn : Nat) (E_a1 : Exa Z h0 a1 "java/lang/StringBuilder") (F_a1_n : Fld Z h0 a1 "java/lang/AbstractStringBuilder" "count" "I" (.int (Int32.ofNat cn))) :
    MetFree l (⟨"java/lang/AbstractStringBuilder", "length", "()I"⟩ : MethodName) (head1 (Jvm.Cond.code (⟨"java/lang/AbstractStringBuilder", "length", "()I"⟩ : MethodName) jdk_68_method_6_code 1 (some .int) :: ws) ({ frames := 0, cells := 0, slots := 0, locals := 0 } : Room)) (fun a U => a = #[(.ref a1)] ∧ Z.Warmed39 U.vm ∧ U.heap = h0) (fun _ _ _ _ _ => True) (fun _ U o U' => ∃ v L, o = .returned v ∧ Q34 Z a1 cn h0 n0 v U'.heap L ∧ FrameEnd U o U' L ({ frames := 0, cells := 0, slots := 0, locals := 0 } : Room).cells ({ frames := 0, cells := 0, slots := 0, locals := 0 } : Room).slots) := by
  refine MetFree.of_bodySF (plainFor_of_name pn_34) hisR ?_
  intro p e s m args below meth c s₁ Bd hml0 hP hK
  obtain ⟨rfl, hZ, hh⟩ := hP
  have hx := Bd.exec
  have hby := Bd.bytes
  have hml : c.maxLocals = 1 := hml0
  have hown0 := findClass_of_methodNamed Bd.named
  have hown : s.vm.findClass "java/lang/AbstractStringBuilder" = some m.cls := hown0
  have hnm := (name_of_methodNamed Bd.named Bd.method).1
  have X0 : Stand p l e ({ frames := 0, cells := 0, slots := 0, locals := 0 } : Room) s m #[(.ref a1)] below meth c s₁ [] 0 0 := Stand.of_body Bd
  have e0 : s₁.heap = h0 := by rw [← hh, Bd.state]; rfl
  have N0 := Fr.nil n0
  have pre0 : ∀ t, Steps p.tables e below (s₁.setTop (mkF m 0 #[.val (.ref a1)] [])) t → Steps p.tables e below (s₁.setTop (entryFrame m #[(.ref a1)] 1)) t := fun t k => castTop (ef_34 m a1) k
  refine Classical.byContradiction fun hneg => ?_
  obtain ⟨T1, X1, e1, st1⟩ := getF X0 hx hZ hown (host := "") (Or.inl (hw _ (List.mem_of_getElem? (i := 74) rfl))) Via.refl e0 F_a1_n (g := (mkF m 1 #[.val (.ref a1)] [(.ref a1)])) rfl rfl (hb hby d34_1)
  refine hneg ?_
  obtain ⟨fs, hr, hrun, hended, hW, hsame⟩ := X1.leave (v := some (.int (Int32.ofNat cn))) (fun h => by rw [Bd.returns] at h; cases h)
  refine ⟨_, _, pre0 _ ?_, hrun, hended, _, _, rfl, ?_, ⟨_, rfl⟩, hW, hsame.mono (by decide) (by decide)⟩
  · show Steps p.tables e below (s₁.setTop (mkF m 0 #[.val (.ref a1)] [])) _
    refine XS.aloadN X0.here hx rfl (hb hby d34_0) rfl rfl ?_
    show Steps p.tables e below (s₁.setTop (mkF m 1 #[.val (.ref a1)] [(.ref a1)])) _
    refine st1 _ ?_
    show Steps p.tables e below (T1.setTop (mkF m 4 #[.val (.ref a1)] [(.int (Int32.ofNat cn))])) _
    exact retI X1 hx Bd.returns (hb hby d34_4) hr
  · show Q34 Z a1 cn h0 n0 _ T1.heap _
    rw [e1]
    exact ⟨rfl, N0, rfl⟩

theorem d33_0 : decode jdk_67_method_93_code 0 = .ok (.aload_n 0, 1) := by decide +kernel
theorem d33_1 : decode jdk_67_method_93_code 1 = .ok (.invokespecial 343, 3) := by decide +kernel
theorem d33_4 : decode jdk_67_method_93_code 4 = .ok (.ireturn, 1) := by decide +kernel
theorem pn_33 : plainName "java/lang/StringBuilder" = true := by first | (simp [plainName, overriddenIn]; done) | decide +kernel
theorem ef_33 (m : MethodId) (a1 : Addr) : entryFrame m #[(.ref a1)] 1 = mkF m 0 #[.val (.ref a1)] [] := by first | (simp [entryFrame, mkF, argsToLocals, Value.category]; done) | rfl
def Q33 (Z : State) (a1 : Addr) (cn : Nat) (h0 : Heap) (n0 : Nat) (v : Option Value) (h : Heap) (L : List Loc) : Prop := v = some (.int (Int32.ofNat cn)) ∧ Fr n0 L ∧ h = h0
set_option maxRecDepth 65536 in
set_option maxHeartbeats 40000000 in
theorem rm33 (l : Launch) (Z : State) (a0 : Array Value) (hw : ∀ d ∈ tables_1, d.before a0 Z = true) (ws : List Jvm.Cond) (a1 : Addr) (h0 : Heap) (n0 : Nat) (cn : Nat) (E_a1 : Exa Z h0 a1 "java/lang/StringBuilder") (F_a1_n : Fld Z h0 a1 "java/lang/AbstractStringBuilder" "count" "I" (.int (Int32.ofNat cn))) :
    MetFree l (⟨"java/lang/StringBuilder", "length", "()I"⟩ : MethodName) (head1 (Jvm.Cond.code (⟨"java/lang/StringBuilder", "length", "()I"⟩ : MethodName) jdk_67_method_93_code 1 (some .int) :: ws) ({ frames := 1, cells := 0, slots := 0, locals := 12 } : Room)) (fun a U => a = #[(.ref a1)] ∧ Z.Warmed39 U.vm ∧ U.heap = h0) (fun _ _ _ _ _ => True) (fun _ U o U' => ∃ v L, o = .returned v ∧ Q33 Z a1 cn h0 n0 v U'.heap L ∧ FrameEnd U o U' L ({ frames := 1, cells := 0, slots := 0, locals := 12 } : Room).cells ({ frames := 1, cells := 0, slots := 0, locals := 12 } : Room).slots) := by
  refine MetFree.of_bodySF (plainFor_of_name pn_33) hisR ?_
  intro p e s m args below meth c s₁ Bd hml0 hP hK
  obtain ⟨rfl, hZ, hh⟩ := hP
  have hx := Bd.exec
  have hby := Bd.bytes
  have hml : c.maxLocals = 1 := hml0
  have hown0 := findClass_of_methodNamed Bd.named
  have hown : s.vm.findClass "java/lang/StringBuilder" = some m.cls := hown0
  have hnm := (name_of_methodNamed Bd.named Bd.method).1
  have X0 : Stand p l e ({ frames := 1, cells := 0, slots := 0, locals := 12 } : Room) s m #[(.ref a1)] below meth c s₁ [] 0 0 := Stand.of_body Bd
  have e0 : s₁.heap = h0 := by rw [← hh, Bd.state]; rfl
  have N0 := Fr.nil n0
  have pre0 : ∀ t, Steps p.tables e below (s₁.setTop (mkF m 0 #[.val (.ref a1)] [])) t → Steps p.tables e below (s₁.setTop (entryFrame m #[(.ref a1)] 1)) t := fun t k => castTop (ef_33 m a1) k
  refine Classical.byContradiction fun hneg => ?_
  obtain ⟨_, _, ⟨T1, L1, k1, n1⟩, -, X1, ⟨Lc1, hQ1, l1, y1, z1⟩, st1⟩ := superBack X0 hx hZ (y := (⟨"java/lang/AbstractStringBuilder", "length", "()I"⟩ : MethodName)) hown (hw _ (List.mem_of_getElem? (i := 194) rfl)) (same_self (y := (⟨"java/lang/AbstractStringBuilder", "length", "()I"⟩ : MethodName)) (hw _ (List.mem_of_getElem? (i := 190) rfl)) (hw _ (List.mem_of_getElem? (i := 79) rfl)) rfl (by decide)) (hw _ (List.mem_of_getElem? (i := 190) rfl)) (hw _ (List.mem_of_getElem? (i := 58) rfl)) (by decide) (backOf (W := 0) (rm34 l Z a0 hw [] a1 h0 n0 cn E_a1 F_a1_n) hZ (hw _ (List.mem_of_getElem? (i := 195) rfl)) (hw _ (List.mem_of_getElem? (i := 35) rfl)) (by decide) (by decide)) e0 (Ins.self E_a1) (g := (mkF m 1 #[.val (.ref a1)] [(.ref a1)])) rfl (by rw [hml]; rfl) (hw _ (List.mem_of_getElem? (i := 195) rfl)) (argsL := []) (rest := []) (lenOf pd7 rfl) rfl (by show 2 * 0 + _ ≤ _; exact Nat.le_of_eq rfl) (hb hby d33_1) (fun _ _ => ⟨rfl, e0, (by decide : 0 + 0 ≤ _), (by decide : 0 + 0 ≤ _)⟩)
  dsimp only [Pt.U, Pt.locs, Pt.cells, Pt.slots] at X1 l1 y1 z1 st1 hQ1
  subst l1 y1 z1
  obtain ⟨rfl, N1q, e1⟩ := hQ1
  have N1 := Fr.app N0 N1q
  refine hneg ?_
  obtain ⟨fs, hr, hrun, hended, hW, hsame⟩ := X1.leave (v := some (.int (Int32.ofNat cn))) (fun h => by rw [Bd.returns] at h; cases h)
  refine ⟨_, _, pre0 _ ?_, hrun, hended, _, _, rfl, ?_, ⟨_, rfl⟩, hW, hsame.mono (by decide) (by decide)⟩
  · show Steps p.tables e below (s₁.setTop (mkF m 0 #[.val (.ref a1)] [])) _
    refine XS.aloadN X0.here hx rfl (hb hby d33_0) rfl rfl ?_
    show Steps p.tables e below (s₁.setTop (mkF m 1 #[.val (.ref a1)] [(.ref a1)])) _
    refine st1.trans ?_
    show Steps p.tables e below (T1.setTop (mkF m 4 #[.val (.ref a1)] [(.int (Int32.ofNat cn))])) _
    exact retI X1 hx Bd.returns (hb hby d33_4) hr
  · show Q33 Z a1 cn h0 n0 _ T1.heap _
    rw [e1]
    exact ⟨rfl, N1, rfl⟩

theorem d37_0 : decode jdk_65_method_131_code 0 = .ok (.iload_n 1, 1) := by decide +kernel
theorem d37_1 : decode jdk_65_method_131_code 1 = .ok (.iload_n 0, 1) := by decide +kernel
theorem d37_2 : decode jdk_65_method_131_code 2 = .ok (.if_icmp .ge 35, 3) := by decide +kernel
theorem d37_37 : decode jdk_65_method_131_code 37 = .ok (.return_, 1) := by decide +kernel
theorem pn_37 : plainName "java/util/Arrays" = true := by first | (simp [plainName, overriddenIn]; done) | decide +kernel
theorem ef_37 (m : MethodId) (p1 : Int32) (p2 : Int32) : entryFrame m #[(.int p1), (.int p2)] 2 = mkF m 0 #[.val (.int p1), .val (.int p2)] [] := by first | (simp [entryFrame, mkF, argsToLocals, Value.category]; done) | rfl
def Q37 (Z : State) (p1 : Int32) (p2 : Int32) (h0 : Heap) (n0 : Nat) (v : Option Value) (h : Heap) (L : List Loc) : Prop := v = none ∧ Fr n0 L ∧ h = h0
set_option maxRecDepth 65536 in
set_option maxHeartbeats 40000000 in
theorem rm37 (l : Launch) (Z : State) (a0 : Array Value) (hw : ∀ d ∈ tables_1, d.before a0 Z = true) (ws : List Jvm.Cond) (p1 : Int32) (p2 : Int32) (h0 : Heap) (n0 : Nat) (hle : ¬ p2 < p1) :
    MetFree l (⟨"java/util/Arrays", "checkLength", "(II)V"⟩ : MethodName) (head1 (Jvm.Cond.code (⟨"java/util/Arrays", "checkLength", "(II)V"⟩ : MethodName) jdk_65_method_131_code 2 none :: ws) ({ frames := 0, cells := 0, slots := 0, locals := 0 } : Room)) (fun a U => a = #[(.int p1), (.int p2)] ∧ Z.Warmed39 U.vm ∧ U.heap = h0) (fun _ _ _ _ _ => True) (fun _ U o U' => ∃ v L, o = .returned v ∧ Q37 Z p1 p2 h0 n0 v U'.heap L ∧ FrameEnd U o U' L ({ frames := 0, cells := 0, slots := 0, locals := 0 } : Room).cells ({ frames := 0, cells := 0, slots := 0, locals := 0 } : Room).slots) := by
  refine MetFree.of_bodySF (plainFor_of_name pn_37) hisR ?_
  intro p e s m args below meth c s₁ Bd hml0 hP hK
  obtain ⟨rfl, hZ, hh⟩ := hP
  have hx := Bd.exec
  have hby := Bd.bytes
  have hml : c.maxLocals = 2 := hml0
  have hown0 := findClass_of_methodNamed Bd.named
  have hown : s.vm.findClass "java/util/Arrays" = some m.cls := hown0
  have hnm := (name_of_methodNamed Bd.named Bd.method).1
  have X0 : Stand p l e ({ frames := 0, cells := 0, slots := 0, locals := 0 } : Room) s m #[(.int p1), (.int p2)] below meth c s₁ [] 0 0 := Stand.of_body Bd
  have e0 : s₁.heap = h0 := by rw [← hh, Bd.state]; rfl
  have N0 := Fr.nil n0
  have pre0 : ∀ t, Steps p.tables e below (s₁.setTop (mkF m 0 #[.val (.int p1), .val (.int p2)] [])) t → Steps p.tables e below (s₁.setTop (entryFrame m #[(.int p1), (.int p2)] 2)) t := fun t k => castTop (ef_37 m p1 p2) k
  refine Classical.byContradiction fun hneg => ?_
  refine hneg ?_
  obtain ⟨fs, hr, hrun, hended, hW, hsame⟩ := X0.leave (v := none) (fun _ => rfl)
  refine ⟨_, _, pre0 _ ?_, hrun, hended, _, _, rfl, ?_, ⟨_, rfl⟩, hW, hsame.mono (by decide) (by decide)⟩
  · show Steps p.tables e below (s₁.setTop (mkF m 0 #[.val (.int p1), .val (.int p2)] [])) _
    refine XS.iloadN X0.here hx rfl (hb hby d37_0) rfl ?_
    show Steps p.tables e below (s₁.setTop (mkF m 1 #[.val (.int p1), .val (.int p2)] [(.int p2)])) _
    refine XS.iloadN X0.here hx rfl (hb hby d37_1) rfl ?_
    show Steps p.tables e below (s₁.setTop (mkF m 2 #[.val (.int p1), .val (.int p2)] [(.int p1), (.int p2)])) _
    refine XS.icmpYes X0.here hx rfl (pc0 := 2) (pc' := 37) rfl (hb hby d37_2) rfl (flt hle).2.1 (by decide) (by decide) ?_
    show Steps p.tables e below (s₁.setTop (mkF m 37 #[.val (.int p1), .val (.int p2)] [])) _
    exact X0.returnOut hx Bd.returns (hb hby d37_37) hr
  · show Q37 Z p1 p2 h0 n0 _ s₁.heap _
    rw [e0]
    exact ⟨rfl, N0, rfl⟩

theorem d36_0 : decode jdk_65_method_133_code 0 = .ok (.iload_n 1, 1) := by decide +kernel
theorem d36_1 : decode jdk_65_method_133_code 1 = .ok (.iload_n 2, 1) := by decide +kernel
theorem d36_2 : decode jdk_65_method_133_code 2 = .ok (.invokestatic 343, 3) := by decide +kernel
theorem d36_5 : decode jdk_65_method_133_code 5 = .ok (.iload_n 2, 1) := by decide +kernel
theorem d36_6 : decode jdk_65_method_133_code 6 = .ok (.iload_n 1, 1) := by decide +kernel
theorem d36_7 : decode jdk_65_method_133_code 7 = .ok (.isub, 1) := by decide +kernel
theorem d36_8 : decode jdk_65_method_133_code 8 = .ok (.istore_n 3, 1) := by decide +kernel
theorem d36_9 : decode jdk_65_method_133_code 9 = .ok (.iload_n 3, 1) := by decide +kernel
theorem d36_10 : decode jdk_65_method_133_code 10 = .ok (.newarray .byte, 2) := by decide +kernel
theorem d36_12 : decode jdk_65_method_133_code 12 = .ok (.astore 4, 2) := by decide +kernel
theorem d36_14 : decode jdk_65_method_133_code 14 = .ok (.aload_n 0, 1) := by decide +kernel
theorem d36_15 : decode jdk_65_method_133_code 15 = .ok (.iload_n 1, 1) := by decide +kernel
theorem d36_16 : decode jdk_65_method_133_code 16 = .ok (.aload 4, 2) := by decide +kernel
theorem d36_18 : decode jdk_65_method_133_code 18 = .ok (.iconst 0, 1) := by decide +kernel
theorem d36_19 : decode jdk_65_method_133_code 19 = .ok (.aload_n 0, 1) := by decide +kernel
theorem d36_20 : decode jdk_65_method_133_code 20 = .ok (.arraylength, 1) := by decide +kernel
theorem d36_21 : decode jdk_65_method_133_code 21 = .ok (.iload_n 1, 1) := by decide +kernel
theorem d36_22 : decode jdk_65_method_133_code 22 = .ok (.isub, 1) := by decide +kernel
theorem d36_23 : decode jdk_65_method_133_code 23 = .ok (.iload_n 3, 1) := by decide +kernel
theorem d36_24 : decode jdk_65_method_133_code 24 = .ok (.invokestatic 304, 3) := by decide +kernel
theorem d36_27 : decode jdk_65_method_133_code 27 = .ok (.invokestatic 150, 3) := by decide +kernel
theorem d36_30 : decode jdk_65_method_133_code 30 = .ok (.aload 4, 2) := by decide +kernel
theorem d36_32 : decode jdk_65_method_133_code 32 = .ok (.areturn, 1) := by decide +kernel
theorem pn_36 : plainName "java/util/Arrays" = true := by first | (simp [plainName, overriddenIn]; done) | decide +kernel
theorem ef_36 (m : MethodId) (a1 : Addr) (zf1 : Int32) (zf2 : Int32) : entryFrame m #[(.ref a1), (.int zf1), (.int zf2)] 5 = mkF m 0 #[.val (.ref a1), .val (.int zf1), .val (.int zf2), .unset, .unset] [] := by first | (simp [entryFrame, mkF, argsToLocals, Value.category]; done) | rfl
def Q36 (Z : State) (a1 : Addr) (k : ClassId) (bs : List Int32) (n : Nat) (h0 : Heap) (n0 : Nat) (v : Option Value) (h : Heap) (L : List Loc) : Prop := ∃ (d' : Addr) (k' : ClassId) (bs' : List Int32), v = some (.ref d') ∧ Fr n0 L ∧ Keep h0 h [] ∧ BL Z h d' k' bs' ∧ bs' = bs.take n ∧ h0.size ≤ d'
set_option maxRecDepth 65536 in
set_option maxHeartbeats 40000000 in
theorem rm36 (l : Launch) (Z : State) (a0 : Array Value) (hw : ∀ d ∈ tables_1, d.before a0 Z = true) (ws : List Jvm.Cond) (a1 : Addr) (h0 : Heap) (n0 : Nat) (k : ClassId) (bs : List Int32) (n : Nat) (V_a1 : BL Z h0 a1 k bs) (hn1 : n ≤ bs.length) (hn2 : bs.length ≤ 142) (Z0 : n0 ≤ h0.size) :
    MetFree l (⟨"java/util/Arrays", "copyOfRangeByte", "([BII)[B"⟩ : MethodName) (head1 (Jvm.Cond.code (⟨"java/util/Arrays", "copyOfRangeByte", "([BII)[B"⟩ : MethodName) jdk_65_method_133_code 5 (some (.array .byte)) :: ws) ({ frames := 1, cells := 1, slots := 142, locals := 50 } : Room)) (fun a U => a = #[(.ref a1), (.int (0 : Int32)), (.int (Int32.ofNat n))] ∧ Z.Warmed39 U.vm ∧ U.heap = h0) (fun _ _ _ _ _ => True) (fun _ U o U' => ∃ v L, o = .returned v ∧ Q36 Z a1 k bs n h0 n0 v U'.heap L ∧ FrameEnd U o U' L ({ frames := 1, cells := 1, slots := 142, locals := 50 } : Room).cells ({ frames := 1, cells := 1, slots := 142, locals := 50 } : Room).slots) := by
  refine MetFree.of_bodySF (plainFor_of_name pn_36) hisR ?_
  intro p e s m args below meth c s₁ Bd hml0 hP hK
  obtain ⟨rfl, hZ, hh⟩ := hP
  have hx := Bd.exec
  have hby := Bd.bytes
  have hml : c.maxLocals = 5 := hml0
  have hown0 := findClass_of_methodNamed Bd.named
  have hown : s.vm.findClass "java/util/Arrays" = some m.cls := hown0
  have hnm := (name_of_methodNamed Bd.named Bd.method).1
  have X0 : Stand p l e ({ frames := 1, cells := 1, slots := 142, locals := 50 } : Room) s m #[(.ref a1), (.int (0 : Int32)), (.int (Int32.ofNat n))] below meth c s₁ [] 0 0 := Stand.of_body Bd
  have e0 : s₁.heap = h0 := by rw [← hh, Bd.state]; rfl
  have N0 := Fr.nil n0
  have pre0 : ∀ t, Steps p.tables e below (s₁.setTop (mkF m 0 #[.val (.ref a1), .val (.int (0 : Int32)), .val (.int (Int32.ofNat n)), .unset, .unset] [])) t → Steps p.tables e below (s₁.setTop (entryFrame m #[(.ref a1), (.int (0 : Int32)), (.int (Int32.ofNat n))] 5)) t := fun t k => castTop (ef_36 m a1 ((0 : Int32)) ((Int32.ofNat n))) k
  refine Classical.byContradiction fun hneg => ?_
  obtain ⟨_, _, ⟨T1, L1, k1, n1⟩, -, X1, ⟨Lc1, hQ1, l1, y1, z1⟩, st1⟩ := Jvm.LawKit.callS X0 hx (y := (⟨"java/util/Arrays", "checkLength", "(II)V"⟩ : MethodName)) hown (mvT hZ (hw _ (List.mem_of_getElem? (i := 203) rfl))) (mvT hZ (hw _ (List.mem_of_getElem? (i := 204) rfl))) (mvT hZ (hw _ (List.mem_of_getElem? (i := 133) rfl))) (mvT hZ (hw _ (List.mem_of_getElem? (i := 205) rfl))) (by decide) (backOf (W := 0) (rm37 l Z a0 hw [] (0 : Int32) (Int32.ofNat n)  h0 n0  (ofN_nn (by omega))) hZ (hw _ (List.mem_of_getElem? (i := 205) rfl)) (hw _ (List.mem_of_getElem? (i := 133) rfl)) (by decide) (by decide)) (g := (mkF m 2 #[.val (.ref a1), .val (.int (0 : Int32)), .val (.int (Int32.ofNat n)), .unset, .unset] [(.int (Int32.ofNat n)), (.int (0 : Int32))])) rfl (by rw [hml]; rfl) (argsL := [(.int (0 : Int32)), (.int (Int32.ofNat n))]) (rest := []) (lenOf pd17 rfl) rfl (by show 2 * 0 + _ ≤ _; exact Nat.le_of_eq rfl) (hb hby d36_2) (fun _ _ => ⟨rfl, e0, (by decide : 0 + 0 ≤ _), (by decide : 0 + 0 ≤ _)⟩)
  dsimp only [Pt.U, Pt.locs, Pt.cells, Pt.slots] at X1 l1 y1 z1 st1 hQ1
  subst l1 y1 z1
  obtain ⟨rfl, N1q, e1⟩ := hQ1
  have N1 := Fr.app N0 N1q
  have nq2 : ((Int32.ofNat n) - (0 : Int32)) = (Int32.ofNat n) := by simp
  obtain ⟨T3, h3, k3, X3, e3, E3, V3, st3⟩ := newB X1 hx hZ (hw _ (List.mem_of_getElem? (i := 40) rfl)) e1 (g := (mkF m 10 #[.val (.ref a1), .val (.int (0 : Int32)), .val (.int (Int32.ofNat n)), .val (.int (Int32.ofNat n)), .unset] [(.int (Int32.ofNat n))])) rfl (hb hby d36_10) (n := n) rfl (cap := 142) (by omega) (by decide) (by decide) (by decide)
  obtain ⟨b3, g3⟩ : ∃ z, z = h0.size := ⟨_, rfl⟩
  rw [← g3] at V3 st3
  have ne_a1_b3 : a1 ≠ b3 := Nat.ne_of_lt (Nat.lt_of_lt_of_le V_a1.lt (Nat.le_of_eq g3.symm))
  have g_b3 : n0 ≤ b3 := Nat.le_trans Z0 (Nat.le_of_eq g3.symm)
  have sz_b3 : h0.size ≤ b3 := Nat.le_trans (Keep.refl h0 []).1 (Nat.le_of_eq g3.symm)
  have V_a1_3 := V_a1.ext E3
  have K3 : Keep h0 h3 [] := (Keep.refl h0 []).ext E3
  have Z3 : n0 ≤ h3.size := Nat.le_trans Z0 E3.1
  obtain ⟨cl4, Ar4, q4, S4_, N4_, H4_, G4_⟩ := V_a1_3.1
  have nq5 : ((Int32.ofNat bs.length) - (0 : Int32)) = (Int32.ofNat bs.length) := by simp
  obtain ⟨_, _, ⟨T6, L6, k6, n6⟩, -, X6, ⟨Lc6, hQ6, l6, y6, z6⟩, st6⟩ := Jvm.LawKit.callS X3 hx (y := (⟨"java/lang/Math", "min", "(II)I"⟩ : MethodName)) hown (mvT hZ (hw _ (List.mem_of_getElem? (i := 135) rfl))) (mvT hZ (hw _ (List.mem_of_getElem? (i := 136) rfl))) (mvT hZ (hw _ (List.mem_of_getElem? (i := 127) rfl))) (mvT hZ (hw _ (List.mem_of_getElem? (i := 137) rfl))) (by decide) (backOf (W := 4) (rm22 l Z a0 hw [] (Int32.ofNat bs.length) (Int32.ofNat n)  h3 n0  ) hZ (hw _ (List.mem_of_getElem? (i := 137) rfl)) (hw _ (List.mem_of_getElem? (i := 127) rfl)) (by decide) (by decide)) (g := (mkF m 24 #[.val (.ref a1), .val (.int (0 : Int32)), .val (.int (Int32.ofNat n)), .val (.int (Int32.ofNat n)), .val (.ref b3)] [(.int (Int32.ofNat n)), (.int (Int32.ofNat bs.length)), (.int (0 : Int32)), (.ref b3), (.int (0 : Int32)), (.ref a1)])) rfl (by rw [hml]; rfl) (argsL := [(.int (Int32.ofNat bs.length)), (.int (Int32.ofNat n))]) (rest := [(.int (0 : Int32)), (.ref b3), (.int (0 : Int32)), (.ref a1)]) (lenOf pd3 rfl) rfl (by show 2 * 0 + _ ≤ _; exact Nat.le_of_eq rfl) (hb hby d36_24) (fun _ _ => ⟨rfl, e3, (by decide : 1 + 0 ≤ _), (by decide : 142 + 0 ≤ _)⟩)
  dsimp only [Pt.U, Pt.locs, Pt.cells, Pt.slots] at X6 l6 y6 z6 st6 hQ6
  subst l6 y6 z6
  obtain ⟨rfl, N6q, e6⟩ := hQ6
  have N6 := Fr.app N1 N6q
  have nq7 : (f22 (Int32.ofNat bs.length) (Int32.ofNat n)) = (Int32.ofNat n) := by rw [f22_of (by omega) (by omega)]; congr 1; omega
  obtain ⟨T8, h8, L8, X8, e8, N8, Kc8, V8, st8⟩ := cpB X6 hx hZ hown (hw _ (List.mem_of_getElem? (i := 138) rfl)) (hw _ (List.mem_of_getElem? (i := 100) rfl)) (hw _ (List.mem_of_getElem? (i := 98) rfl)) (hw _ (List.mem_of_getElem? (i := 99) rfl)) e6 V_a1_3.b0 V3 (sp := 0) (dp := 0) (nn := n) (by omega) (by simp) N6 g_b3 (g := (mkF m 27 #[.val (.ref a1), .val (.int (0 : Int32)), .val (.int (Int32.ofNat n)), .val (.int (Int32.ofNat n)), .val (.ref b3)] [(.int (Int32.ofNat n)), (.int (0 : Int32)), (.ref b3), (.int (0 : Int32)), (.ref a1)])) rfl (by rw [hml]; rfl) (rest := []) rfl (hb hby d36_27) (by decide) (W := 0) (by show 2 * 0 + _ ≤ _; exact Nat.le_of_eq rfl) (by decide)
  have V_a1_8 := V_a1_3.keep Kc8 (ninS ne_a1_b3 nin0)
  have K8 : Keep h0 h8 [] := K3.trans Kc8 (allS (P := fun x => x ∈ ([] : List Addr) ∨ h0.size ≤ x) (Or.inr sz_b3) all0)
  have Z8 : n0 ≤ h8.size := Nat.le_trans Z3 Kc8.1
  refine hneg ?_
  obtain ⟨fs, hr, hrun, hended, hW, hsame⟩ := X8.leave (v := some (.ref b3)) (fun h => by rw [Bd.returns] at h; cases h)
  refine ⟨_, _, pre0 _ ?_, hrun, hended, _, _, rfl, ?_, ⟨_, rfl⟩, hW, hsame.mono (by decide) (by decide)⟩
  · show Steps p.tables e below (s₁.setTop (mkF m 0 #[.val (.ref a1), .val (.int (0 : Int32)), .val (.int (Int32.ofNat n)), .unset, .unset] [])) _
    refine XS.iloadN X0.here hx rfl (hb hby d36_0) rfl ?_
    show Steps p.tables e below (s₁.setTop (mkF m 1 #[.val (.ref a1), .val (.int (0 : Int32)), .val (.int (Int32.ofNat n)), .unset, .unset] [(.int (0 : Int32))])) _
    refine XS.iloadN X0.here hx rfl (hb hby d36_1) rfl ?_
    show Steps p.tables e below (s₁.setTop (mkF m 2 #[.val (.ref a1), .val (.int (0 : Int32)), .val (.int (Int32.ofNat n)), .unset, .unset] [(.int (Int32.ofNat n)), (.int (0 : Int32))])) _
    refine st1 _ ?_
    show Steps p.tables e below (T1.setTop (mkF m 5 #[.val (.ref a1), .val (.int (0 : Int32)), .val (.int (Int32.ofNat n)), .unset, .unset] [])) _
    refine XS.iloadN X1.here hx rfl (hb hby d36_5) rfl ?_
    show Steps p.tables e below (T1.setTop (mkF m 6 #[.val (.ref a1), .val (.int (0 : Int32)), .val (.int (Int32.ofNat n)), .unset, .unset] [(.int (Int32.ofNat n))])) _
    refine XS.iloadN X1.here hx rfl (hb hby d36_6) rfl ?_
    show Steps p.tables e below (T1.setTop (mkF m 7 #[.val (.ref a1), .val (.int (0 : Int32)), .val (.int (Int32.ofNat n)), .unset, .unset] [(.int (0 : Int32)), (.int (Int32.ofNat n))])) _
    refine XS.isub X1.here hx rfl (hb hby d36_7) rfl ?_
    show Steps p.tables e below (T1.setTop (mkF m 8 #[.val (.ref a1), .val (.int (0 : Int32)), .val (.int (Int32.ofNat n)), .unset, .unset] [(.int ((Int32.ofNat n) - (0 : Int32)))])) _
    rw [nq2]
    show Steps p.tables e below (T1.setTop (mkF m 8 #[.val (.ref a1), .val (.int (0 : Int32)), .val (.int (Int32.ofNat n)), .unset, .unset] [(.int (Int32.ofNat n))])) _
    refine XS.istoreN X1.here hx rfl (hb hby d36_8) rfl (l' := #[.val (.ref a1), .val (.int (0 : Int32)), .val (.int (Int32.ofNat n)), .val (.int (Int32.ofNat n)), .unset]) rfl ?_
    show Steps p.tables e below (T1.setTop (mkF m 9 #[.val (.ref a1), .val (.int (0 : Int32)), .val (.int (Int32.ofNat n)), .val (.int (Int32.ofNat n)), .unset] [])) _
    refine XS.iloadN X1.here hx rfl (hb hby d36_9) rfl ?_
    show Steps p.tables e below (T1.setTop (mkF m 10 #[.val (.ref a1), .val (.int (0 : Int32)), .val (.int (Int32.ofNat n)), .val (.int (Int32.ofNat n)), .unset] [(.int (Int32.ofNat n))])) _
    refine st3 _ ?_
    show Steps p.tables e below (T3.setTop (mkF m 12 #[.val (.ref a1), .val (.int (0 : Int32)), .val (.int (Int32.ofNat n)), .val (.int (Int32.ofNat n)), .unset] [(.ref b3)])) _
    refine XS.astore X3.here hx rfl (hb hby d36_12) rfl rfl (l' := #[.val (.ref a1), .val (.int (0 : Int32)), .val (.int (Int32.ofNat n)), .val (.int (Int32.ofNat n)), .val (.ref b3)]) rfl ?_
    show Steps p.tables e below (T3.setTop (mkF m 14 #[.val (.ref a1), .val (.int (0 : Int32)), .val (.int (Int32.ofNat n)), .val (.int (Int32.ofNat n)), .val (.ref b3)] [])) _
    refine XS.aloadN X3.here hx rfl (hb hby d36_14) rfl rfl ?_
    show Steps p.tables e below (T3.setTop (mkF m 15 #[.val (.ref a1), .val (.int (0 : Int32)), .val (.int (Int32.ofNat n)), .val (.int (Int32.ofNat n)), .val (.ref b3)] [(.ref a1)])) _
    refine XS.iloadN X3.here hx rfl (hb hby d36_15) rfl ?_
    show Steps p.tables e below (T3.setTop (mkF m 16 #[.val (.ref a1), .val (.int (0 : Int32)), .val (.int (Int32.ofNat n)), .val (.int (Int32.ofNat n)), .val (.ref b3)] [(.int (0 : Int32)), (.ref a1)])) _
    refine XS.aload X3.here hx rfl (hb hby d36_16) rfl rfl ?_
    show Steps p.tables e below (T3.setTop (mkF m 18 #[.val (.ref a1), .val (.int (0 : Int32)), .val (.int (Int32.ofNat n)), .val (.int (Int32.ofNat n)), .val (.ref b3)] [(.ref b3), (.int (0 : Int32)), (.ref a1)])) _
    refine XS.iconst X3.here hx rfl (hb hby d36_18) ?_
    show Steps p.tables e below (T3.setTop (mkF m 19 #[.val (.ref a1), .val (.int (0 : Int32)), .val (.int (Int32.ofNat n)), .val (.int (Int32.ofNat n)), .val (.ref b3)] [(.int (0 : Int32)), (.ref b3), (.int (0 : Int32)), (.ref a1)])) _
    refine XS.aloadN X3.here hx rfl (hb hby d36_19) rfl rfl ?_
    show Steps p.tables e below (T3.setTop (mkF m 20 #[.val (.ref a1), .val (.int (0 : Int32)), .val (.int (Int32.ofNat n)), .val (.int (Int32.ofNat n)), .val (.ref b3)] [(.ref a1), (.int (0 : Int32)), (.ref b3), (.int (0 : Int32)), (.ref a1)])) _
    refine X3.arraylength hx (by rw [e3]; exact Ar4.1) (State.isArrayOf_alike hZ.alike Ar4.2.1) (g := (mkF m 20 #[.val (.ref a1), .val (.int (0 : Int32)), .val (.int (Int32.ofNat n)), .val (.int (Int32.ofNat n)), .val (.ref b3)] [(.ref a1), (.int (0 : Int32)), (.ref b3), (.int (0 : Int32)), (.ref a1)])) rfl rfl (hb hby d36_20) _ ?_
    rw [len_of S4_ N4_]
    show Steps p.tables e below (T3.setTop (mkF m 21 #[.val (.ref a1), .val (.int (0 : Int32)), .val (.int (Int32.ofNat n)), .val (.int (Int32.ofNat n)), .val (.ref b3)] [(.int (Int32.ofNat bs.length)), (.int (0 : Int32)), (.ref b3), (.int (0 : Int32)), (.ref a1)])) _
    refine XS.iloadN X3.here hx rfl (hb hby d36_21) rfl ?_
    show Steps p.tables e below (T3.setTop (mkF m 22 #[.val (.ref a1), .val (.int (0 : Int32)), .val (.int (Int32.ofNat n)), .val (.int (Int32.ofNat n)), .val (.ref b3)] [(.int (0 : Int32)), (.int (Int32.ofNat bs.length)), (.int (0 : Int32)), (.ref b3), (.int (0 : Int32)), (.ref a1)])) _
    refine XS.isub X3.here hx rfl (hb hby d36_22) rfl ?_
    show Steps p.tables e below (T3.setTop (mkF m 23 #[.val (.ref a1), .val (.int (0 : Int32)), .val (.int (Int32.ofNat n)), .val (.int (Int32.ofNat n)), .val (.ref b3)] [(.int ((Int32.ofNat bs.length) - (0 : Int32))), (.int (0 : Int32)), (.ref b3), (.int (0 : Int32)), (.ref a1)])) _
    rw [nq5]
    show Steps p.tables e below (T3.setTop (mkF m 23 #[.val (.ref a1), .val (.int (0 : Int32)), .val (.int (Int32.ofNat n)), .val (.int (Int32.ofNat n)), .val (.ref b3)] [(.int (Int32.ofNat bs.length)), (.int (0 : Int32)), (.ref b3), (.int (0 : Int32)), (.ref a1)])) _
    refine XS.iloadN X3.here hx rfl (hb hby d36_23) rfl ?_
    show Steps p.tables e below (T3.setTop (mkF m 24 #[.val (.ref a1), .val (.int (0 : Int32)), .val (.int (Int32.ofNat n)), .val (.int (Int32.ofNat n)), .val (.ref b3)] [(.int (Int32.ofNat n)), (.int (Int32.ofNat bs.length)), (.int (0 : Int32)), (.ref b3), (.int (0 : Int32)), (.ref a1)])) _
    refine st6 _ ?_
    show Steps p.tables e below (T6.setTop (mkF m 27 #[.val (.ref a1), .val (.int (0 : Int32)), .val (.int (Int32.ofNat n)), .val (.int (Int32.ofNat n)), .val (.ref b3)] [(.int (f22 (Int32.ofNat bs.length) (Int32.ofNat n))), (.int (0 : Int32)), (.ref b3), (.int (0 : Int32)), (.ref a1)])) _
    rw [nq7]
    show Steps p.tables e below (T6.setTop (mkF m 27 #[.val (.ref a1), .val (.int (0 : Int32)), .val (.int (Int32.ofNat n)), .val (.int (Int32.ofNat n)), .val (.ref b3)] [(.int (Int32.ofNat n)), (.int (0 : Int32)), (.ref b3), (.int (0 : Int32)), (.ref a1)])) _
    refine st8 _ ?_
    show Steps p.tables e below (T8.setTop (mkF m 30 #[.val (.ref a1), .val (.int (0 : Int32)), .val (.int (Int32.ofNat n)), .val (.int (Int32.ofNat n)), .val (.ref b3)] [])) _
    refine XS.aload X8.here hx rfl (hb hby d36_30) rfl rfl ?_
    show Steps p.tables e below (T8.setTop (mkF m 32 #[.val (.ref a1), .val (.int (0 : Int32)), .val (.int (Int32.ofNat n)), .val (.int (Int32.ofNat n)), .val (.ref b3)] [(.ref b3)])) _
    exact retOut X8 hx (t := (.array .byte)) Bd.returns rfl (Or.inr (Or.inr (Or.inr (Or.inr ⟨rfl, rfl, rfl⟩)))) (hb hby d36_32) hr
  · show Q36 Z a1 k bs n h0 n0 _ T8.heap _
    rw [e8]
    exact ⟨_, _, _, rfl, N8, K8, V8, by simp, sz_b3⟩

theorem d35_0 : decode jdk_65_method_132_code 0 = .ok (.iload_n 1, 1) := by decide +kernel
theorem d35_1 : decode jdk_65_method_132_code 1 = .ok (.ifCond .ne 9, 3) := by decide +kernel
theorem d35_4 : decode jdk_65_method_132_code 4 = .ok (.iload_n 2, 1) := by decide +kernel
theorem d35_5 : decode jdk_65_method_132_code 5 = .ok (.aload_n 0, 1) := by decide +kernel
theorem d35_6 : decode jdk_65_method_132_code 6 = .ok (.arraylength, 1) := by decide +kernel
theorem d35_7 : decode jdk_65_method_132_code 7 = .ok (.if_icmp .eq 10, 3) := by decide +kernel
theorem d35_10 : decode jdk_65_method_132_code 10 = .ok (.aload_n 0, 1) := by decide +kernel
theorem d35_11 : decode jdk_65_method_132_code 11 = .ok (.iload_n 1, 1) := by decide +kernel
theorem d35_12 : decode jdk_65_method_132_code 12 = .ok (.iload_n 2, 1) := by decide +kernel
theorem d35_13 : decode jdk_65_method_132_code 13 = .ok (.invokestatic 339, 3) := by decide +kernel
theorem d35_16 : decode jdk_65_method_132_code 16 = .ok (.areturn, 1) := by decide +kernel
theorem d35_17 : decode jdk_65_method_132_code 17 = .ok (.aload_n 0, 1) := by decide +kernel
theorem d35_18 : decode jdk_65_method_132_code 18 = .ok (.invokevirtual 310, 3) := by decide +kernel
theorem d35_21 : decode jdk_65_method_132_code 21 = .ok (.checkcast 311, 3) := by decide +kernel
theorem d35_24 : decode jdk_65_method_132_code 24 = .ok (.areturn, 1) := by decide +kernel
theorem pn_35 : plainName "java/util/Arrays" = true := by first | (simp [plainName, overriddenIn]; done) | decide +kernel
theorem ef_35 (m : MethodId) (a1 : Addr) (zf1 : Int32) (zf2 : Int32) : entryFrame m #[(.ref a1), (.int zf1), (.int zf2)] 3 = mkF m 0 #[.val (.ref a1), .val (.int zf1), .val (.int zf2)] [] := by first | (simp [entryFrame, mkF, argsToLocals, Value.category]; done) | rfl
def Q35 (Z : State) (a1 : Addr) (k : ClassId) (bs : List Int32) (n : Nat) (h0 : Heap) (n0 : Nat) (v : Option Value) (h : Heap) (L : List Loc) : Prop := ∃ (d' : Addr) (k' : ClassId) (bs' : List Int32), v = some (.ref d') ∧ Fr n0 L ∧ Keep h0 h [] ∧ BL Z h d' k' bs' ∧ bs' = bs.take n ∧ h0.size ≤ d'
set_option maxRecDepth 65536 in
set_option maxHeartbeats 40000000 in
theorem rm35 (l : Launch) (Z : State) (a0 : Array Value) (hw : ∀ d ∈ tables_1, d.before a0 Z = true) (ws : List Jvm.Cond) (a1 : Addr) (h0 : Heap) (n0 : Nat) (k : ClassId) (bs : List Int32) (n : Nat) (V_a1 : BL Z h0 a1 k bs) (hn1 : n ≤ bs.length) (hn2 : bs.length ≤ 142) (Z0 : n0 ≤ h0.size) :
    MetFree l (⟨"java/util/Arrays", "copyOfRange", "([BII)[B"⟩ : MethodName) (head1 (Jvm.Cond.code (⟨"java/util/Arrays", "copyOfRange", "([BII)[B"⟩ : MethodName) jdk_65_method_132_code 3 (some (.array .byte)) :: ws) ({ frames := 2, cells := 1, slots := 142, locals := 66 } : Room)) (fun a U => a = #[(.ref a1), (.int (0 : Int32)), (.int (Int32.ofNat n))] ∧ Z.Warmed39 U.vm ∧ U.heap = h0) (fun _ _ _ _ _ => True) (fun _ U o U' => ∃ v L, o = .returned v ∧ Q35 Z a1 k bs n h0 n0 v U'.heap L ∧ FrameEnd U o U' L ({ frames := 2, cells := 1, slots := 142, locals := 66 } : Room).cells ({ frames := 2, cells := 1, slots := 142, locals := 66 } : Room).slots) := by
  refine MetFree.of_bodySF (plainFor_of_name pn_35) hisR ?_
  intro p e s m args below meth c s₁ Bd hml0 hP hK
  obtain ⟨rfl, hZ, hh⟩ := hP
  have hx := Bd.exec
  have hby := Bd.bytes
  have hml : c.maxLocals = 3 := hml0
  have hown0 := findClass_of_methodNamed Bd.named
  have hown : s.vm.findClass "java/util/Arrays" = some m.cls := hown0
  have hnm := (name_of_methodNamed Bd.named Bd.method).1
  have X0 : Stand p l e ({ frames := 2, cells := 1, slots := 142, locals := 66 } : Room) s m #[(.ref a1), (.int (0 : Int32)), (.int (Int32.ofNat n))] below meth c s₁ [] 0 0 := Stand.of_body Bd
  have e0 : s₁.heap = h0 := by rw [← hh, Bd.state]; rfl
  have N0 := Fr.nil n0
  have pre0 : ∀ t, Steps p.tables e below (s₁.setTop (mkF m 0 #[.val (.ref a1), .val (.int (0 : Int32)), .val (.int (Int32.ofNat n))] [])) t → Steps p.tables e below (s₁.setTop (entryFrame m #[(.ref a1), (.int (0 : Int32)), (.int (Int32.ofNat n))] 3)) t := fun t k => castTop (ef_35 m a1 ((0 : Int32)) ((Int32.ofNat n))) k
  refine Classical.byContradiction fun hneg => ?_
  by_cases hq : n = bs.length
  · obtain ⟨cl1, Ar1, q1, S1_, N1_, H1_, G1_⟩ := V_a1.1
    obtain ⟨T2, h2, X2, e2, E2, V2, st2⟩ := cloneB X0 hx hZ hown (hw _ (List.mem_of_getElem? (i := 286) rfl)) (hw _ (List.mem_of_getElem? (i := 287) rfl)) (hw _ (List.mem_of_getElem? (i := 291) rfl)) (hw _ (List.mem_of_getElem? (i := 289) rfl)) (hw _ (List.mem_of_getElem? (i := 290) rfl)) (hw _ (List.mem_of_getElem? (i := 292) rfl)) e0 V_a1 (g := (mkF m 18 #[.val (.ref a1), .val (.int (0 : Int32)), .val (.int (Int32.ofNat n))] [(.ref a1)])) rfl (by rw [hml]; rfl) (rest := []) rfl (hb hby d35_18) (by decide) (W := 0) (cap := 142) (by show 2 * 0 + _ ≤ _; exact Nat.le_of_eq rfl) (by decide) hn2 (by decide) (by decide)
    obtain ⟨b2, g2⟩ : ∃ z, z = h0.size := ⟨_, rfl⟩
    rw [← g2] at V2 st2
    have ne_a1_b2 : a1 ≠ b2 := Nat.ne_of_lt (Nat.lt_of_lt_of_le V_a1.lt (Nat.le_of_eq g2.symm))
    have g_b2 : n0 ≤ b2 := Nat.le_trans Z0 (Nat.le_of_eq g2.symm)
    have sz_b2 : h0.size ≤ b2 := Nat.le_trans (Keep.refl h0 []).1 (Nat.le_of_eq g2.symm)
    have V_a1_2 := V_a1.ext E2
    have K2 : Keep h0 h2 [] := (Keep.refl h0 []).ext E2
    have Z2 : n0 ≤ h2.size := Nat.le_trans Z0 E2.1
    have A2 := V2.2.2
    obtain ⟨T3, X3, e3, st3⟩ := castY X2 hx hZ hown (hw _ (List.mem_of_getElem? (i := 293) rfl)) e2 (Ins.self A2) (g := (mkF m 21 #[.val (.ref a1), .val (.int (0 : Int32)), .val (.int (Int32.ofNat n))] [(.ref b2)])) rfl rfl (hb hby d35_21)
    refine hneg ?_
    obtain ⟨fs, hr, hrun, hended, hW, hsame⟩ := X3.leave (v := some (.ref b2)) (fun h => by rw [Bd.returns] at h; cases h)
    refine ⟨_, _, pre0 _ ?_, hrun, hended, _, _, rfl, ?_, ⟨_, rfl⟩, hW, hsame.mono (by decide) (by decide)⟩
    · show Steps p.tables e below (s₁.setTop (mkF m 0 #[.val (.ref a1), .val (.int (0 : Int32)), .val (.int (Int32.ofNat n))] [])) _
      refine XS.iloadN X0.here hx rfl (hb hby d35_0) rfl ?_
      show Steps p.tables e below (s₁.setTop (mkF m 1 #[.val (.ref a1), .val (.int (0 : Int32)), .val (.int (Int32.ofNat n))] [(.int (0 : Int32))])) _
      refine XS.ifNo X0.here hx rfl (hb hby d35_1) rfl ((if0 _ _).trans (teq (by decide : (0 : Int32) = (0 : Int32))).2) ?_
      show Steps p.tables e below (s₁.setTop (mkF m 4 #[.val (.ref a1), .val (.int (0 : Int32)), .val (.int (Int32.ofNat n))] [])) _
      refine XS.iloadN X0.here hx rfl (hb hby d35_4) rfl ?_
      show Steps p.tables e below (s₁.setTop (mkF m 5 #[.val (.ref a1), .val (.int (0 : Int32)), .val (.int (Int32.ofNat n))] [(.int (Int32.ofNat n))])) _
      refine XS.aloadN X0.here hx rfl (hb hby d35_5) rfl rfl ?_
      show Steps p.tables e below (s₁.setTop (mkF m 6 #[.val (.ref a1), .val (.int (0 : Int32)), .val (.int (Int32.ofNat n))] [(.ref a1), (.int (Int32.ofNat n))])) _
      refine X0.arraylength hx (by rw [e0]; exact Ar1.1) (State.isArrayOf_alike hZ.alike Ar1.2.1) (g := (mkF m 6 #[.val (.ref a1), .val (.int (0 : Int32)), .val (.int (Int32.ofNat n))] [(.ref a1), (.int (Int32.ofNat n))])) rfl rfl (hb hby d35_6) _ ?_
      rw [len_of S1_ N1_]
      show Steps p.tables e below (s₁.setTop (mkF m 7 #[.val (.ref a1), .val (.int (0 : Int32)), .val (.int (Int32.ofNat n))] [(.int (Int32.ofNat bs.length)), (.int (Int32.ofNat n))])) _
      refine XS.icmpYes X0.here hx rfl (pc0 := 7) (pc' := 17) rfl (hb hby d35_7) rfl (teq (congrArg Int32.ofNat hq)).1 (by decide) (by decide) ?_
      show Steps p.tables e below (s₁.setTop (mkF m 17 #[.val (.ref a1), .val (.int (0 : Int32)), .val (.int (Int32.ofNat n))] [])) _
      refine XS.aloadN X0.here hx rfl (hb hby d35_17) rfl rfl ?_
      show Steps p.tables e below (s₁.setTop (mkF m 18 #[.val (.ref a1), .val (.int (0 : Int32)), .val (.int (Int32.ofNat n))] [(.ref a1)])) _
      refine st2 _ ?_
      show Steps p.tables e below (T2.setTop (mkF m 21 #[.val (.ref a1), .val (.int (0 : Int32)), .val (.int (Int32.ofNat n))] [(.ref b2)])) _
      refine st3 _ ?_
      show Steps p.tables e below (T3.setTop (mkF m 24 #[.val (.ref a1), .val (.int (0 : Int32)), .val (.int (Int32.ofNat n))] [(.ref b2)])) _
      exact retOut X3 hx (t := (.array .byte)) Bd.returns rfl (Or.inr (Or.inr (Or.inr (Or.inr ⟨rfl, rfl, rfl⟩)))) (hb hby d35_24) hr
    · show Q35 Z a1 k bs n h0 n0 _ T3.heap _
      rw [e3]
      exact ⟨_, _, _, rfl, N0, K2, V2, by rw [hq, List.take_length], sz_b2⟩
  · obtain ⟨cl4, Ar4, q4, S4_, N4_, H4_, G4_⟩ := V_a1.1
    obtain ⟨_, _, ⟨T5, L5, k5, n5⟩, -, X5, ⟨Lc5, hQ5, l5, y5, z5⟩, st5⟩ := Jvm.LawKit.callS X0 hx (y := (⟨"java/util/Arrays", "copyOfRangeByte", "([BII)[B"⟩ : MethodName)) hown (mvT hZ (hw _ (List.mem_of_getElem? (i := 200) rfl))) (mvT hZ (hw _ (List.mem_of_getElem? (i := 201) rfl))) (mvT hZ (hw _ (List.mem_of_getElem? (i := 133) rfl))) (mvT hZ (hw _ (List.mem_of_getElem? (i := 202) rfl))) (by decide) (backOf (W := 0) (rm36 l Z a0 hw [] a1  h0 n0 k bs n V_a1 (by omega) (by omega) Z0) hZ (hw _ (List.mem_of_getElem? (i := 202) rfl)) (hw _ (List.mem_of_getElem? (i := 133) rfl)) (by decide) (by decide)) (g := (mkF m 13 #[.val (.ref a1), .val (.int (0 : Int32)), .val (.int (Int32.ofNat n))] [(.int (Int32.ofNat n)), (.int (0 : Int32)), (.ref a1)])) rfl (by rw [hml]; rfl) (argsL := [(.ref a1), (.int (0 : Int32)), (.int (Int32.ofNat n))]) (rest := []) (lenOf pd18 rfl) rfl (by show 2 * 0 + _ ≤ _; exact Nat.le_of_eq rfl) (hb hby d35_13) (fun _ _ => ⟨rfl, e0, (by decide : 0 + 1 ≤ _), (by decide : 0 + 142 ≤ _)⟩)
    dsimp only [Pt.U, Pt.locs, Pt.cells, Pt.slots] at X5 l5 y5 z5 st5 hQ5
    subst l5 y5 z5
    obtain ⟨d'_5, k'_5, bs'_5, rfl, N5q, Kc5, G5_0, eqb_5, f_d'_5⟩ := hQ5
    have N5 := Fr.app N0 N5q
    have ne_a1_d'_5 : a1 ≠ d'_5 := Nat.ne_of_lt (Nat.lt_of_lt_of_le V_a1.lt f_d'_5)
    have g_d'_5 : n0 ≤ d'_5 := Nat.le_trans Z0 f_d'_5
    have sz_d'_5 : h0.size ≤ d'_5 := Nat.le_trans (Keep.refl h0 []).1 f_d'_5
    have V_a1_5 := V_a1.keep Kc5 nin0
    have K5 : Keep h0 T5.heap [] := (Keep.refl h0 []).trans Kc5 all0
    have Z5 : n0 ≤ T5.heap.size := Nat.le_trans Z0 Kc5.1
    refine hneg ?_
    obtain ⟨fs, hr, hrun, hended, hW, hsame⟩ := X5.leave (v := some (.ref d'_5)) (fun h => by rw [Bd.returns] at h; cases h)
    refine ⟨_, _, pre0 _ ?_, hrun, hended, _, _, rfl, ?_, ⟨_, rfl⟩, hW, hsame.mono (by decide) (by decide)⟩
    · show Steps p.tables e below (s₁.setTop (mkF m 0 #[.val (.ref a1), .val (.int (0 : Int32)), .val (.int (Int32.ofNat n))] [])) _
      refine XS.iloadN X0.here hx rfl (hb hby d35_0) rfl ?_
      show Steps p.tables e below (s₁.setTop (mkF m 1 #[.val (.ref a1), .val (.int (0 : Int32)), .val (.int (Int32.ofNat n))] [(.int (0 : Int32))])) _
      refine XS.ifNo X0.here hx rfl (hb hby d35_1) rfl ((if0 _ _).trans (teq (by decide : (0 : Int32) = (0 : Int32))).2) ?_
      show Steps p.tables e below (s₁.setTop (mkF m 4 #[.val (.ref a1), .val (.int (0 : Int32)), .val (.int (Int32.ofNat n))] [])) _
      refine XS.iloadN X0.here hx rfl (hb hby d35_4) rfl ?_
      show Steps p.tables e below (s₁.setTop (mkF m 5 #[.val (.ref a1), .val (.int (0 : Int32)), .val (.int (Int32.ofNat n))] [(.int (Int32.ofNat n))])) _
      refine XS.aloadN X0.here hx rfl (hb hby d35_5) rfl rfl ?_
      show Steps p.tables e below (s₁.setTop (mkF m 6 #[.val (.ref a1), .val (.int (0 : Int32)), .val (.int (Int32.ofNat n))] [(.ref a1), (.int (Int32.ofNat n))])) _
      refine X0.arraylength hx (by rw [e0]; exact Ar4.1) (State.isArrayOf_alike hZ.alike Ar4.2.1) (g := (mkF m 6 #[.val (.ref a1), .val (.int (0 : Int32)), .val (.int (Int32.ofNat n))] [(.ref a1), (.int (Int32.ofNat n))])) rfl rfl (hb hby d35_6) _ ?_
      rw [len_of S4_ N4_]
      show Steps p.tables e below (s₁.setTop (mkF m 7 #[.val (.ref a1), .val (.int (0 : Int32)), .val (.int (Int32.ofNat n))] [(.int (Int32.ofNat bs.length)), (.int (Int32.ofNat n))])) _
      refine XS.icmpNo X0.here hx rfl (hb hby d35_7) rfl (feq (fun z => hq ((ofN_eq (by omega) (by omega)).mp z))).1 ?_
      show Steps p.tables e below (s₁.setTop (mkF m 10 #[.val (.ref a1), .val (.int (0 : Int32)), .val (.int (Int32.ofNat n))] [])) _
      refine XS.aloadN X0.here hx rfl (hb hby d35_10) rfl rfl ?_
      show Steps p.tables e below (s₁.setTop (mkF m 11 #[.val (.ref a1), .val (.int (0 : Int32)), .val (.int (Int32.ofNat n))] [(.ref a1)])) _
      refine XS.iloadN X0.here hx rfl (hb hby d35_11) rfl ?_
      show Steps p.tables e below (s₁.setTop (mkF m 12 #[.val (.ref a1), .val (.int (0 : Int32)), .val (.int (Int32.ofNat n))] [(.int (0 : Int32)), (.ref a1)])) _
      refine XS.iloadN X0.here hx rfl (hb hby d35_12) rfl ?_
      show Steps p.tables e below (s₁.setTop (mkF m 13 #[.val (.ref a1), .val (.int (0 : Int32)), .val (.int (Int32.ofNat n))] [(.int (Int32.ofNat n)), (.int (0 : Int32)), (.ref a1)])) _
      refine st5 _ ?_
      show Steps p.tables e below (T5.setTop (mkF m 16 #[.val (.ref a1), .val (.int (0 : Int32)), .val (.int (Int32.ofNat n))] [(.ref d'_5)])) _
      exact retOut X5 hx (t := (.array .byte)) Bd.returns rfl (Or.inr (Or.inr (Or.inr (Or.inr ⟨rfl, rfl, rfl⟩)))) (hb hby d35_16) hr
    · show Q35 Z a1 k bs n h0 n0 _ T5.heap _
      exact ⟨_, _, _, rfl, N5, K5, G5_0, eqb_5, sz_d'_5⟩

theorem d31_0 : decode jdk_42_method_150_code 0 = .ok (.aload_n 0, 1) := by decide +kernel
theorem d31_1 : decode jdk_42_method_150_code 1 = .ok (.invokespecial 1, 3) := by decide +kernel
theorem d31_4 : decode jdk_42_method_150_code 4 = .ok (.aload_n 1, 1) := by decide +kernel
theorem d31_5 : decode jdk_42_method_150_code 5 = .ok (.invokevirtual 552, 3) := by decide +kernel
theorem d31_8 : decode jdk_42_method_150_code 8 = .ok (.astore_n 3, 1) := by decide +kernel
theorem d31_9 : decode jdk_42_method_150_code 9 = .ok (.aload_n 1, 1) := by decide +kernel
theorem d31_10 : decode jdk_42_method_150_code 10 = .ok (.invokevirtual 549, 3) := by decide +kernel
theorem d31_13 : decode jdk_42_method_150_code 13 = .ok (.istore 4, 2) := by decide +kernel
theorem d31_15 : decode jdk_42_method_150_code 15 = .ok (.aload_n 1, 1) := by decide +kernel
theorem d31_16 : decode jdk_42_method_150_code 16 = .ok (.invokevirtual 1047, 3) := by decide +kernel
theorem d31_19 : decode jdk_42_method_150_code 19 = .ok (.ifCond .eq 22, 3) := by decide +kernel
theorem d31_22 : decode jdk_42_method_150_code 22 = .ok (.aload_n 0, 1) := by decide +kernel
theorem d31_23 : decode jdk_42_method_150_code 23 = .ok (.iconst 0, 1) := by decide +kernel
theorem d31_24 : decode jdk_42_method_150_code 24 = .ok (.putfield 15, 3) := by decide +kernel
theorem d31_27 : decode jdk_42_method_150_code 27 = .ok (.aload_n 0, 1) := by decide +kernel
theorem d31_28 : decode jdk_42_method_150_code 28 = .ok (.aload_n 3, 1) := by decide +kernel
theorem d31_29 : decode jdk_42_method_150_code 29 = .ok (.iconst 0, 1) := by decide +kernel
theorem d31_30 : decode jdk_42_method_150_code 30 = .ok (.iload 4, 2) := by decide +kernel
theorem d31_32 : decode jdk_42_method_150_code 32 = .ok (.invokestatic 54, 3) := by decide +kernel
theorem d31_35 : decode jdk_42_method_150_code 35 = .ok (.putfield 9, 3) := by decide +kernel
theorem d31_38 : decode jdk_42_method_150_code 38 = .ok (.goto 59, 3) := by decide +kernel
theorem d31_97 : decode jdk_42_method_150_code 97 = .ok (.return_, 1) := by decide +kernel
theorem pn_31 : plainName "java/lang/String" = true := by first | (simp [plainName, overriddenIn]; done) | decide +kernel
theorem ef_31 (m : MethodId) (a1 : Addr) (a2 : Addr) : entryFrame m #[(.ref a1), (.ref a2), .null] 5 = mkF m 0 #[.val (.ref a1), .val (.ref a2), .val .null, .unset, .unset] [] := by first | (simp [entryFrame, mkF, argsToLocals, Value.category]; done) | rfl
def Q31 (Z : State) (a1 : Addr) (a2 : Addr) (cs : Int32) (d : Addr) (dk : ClassId) (ds : List Int32) (cn : Nat) (h0 : Heap) (n0 : Nat) (v : Option Value) (h : Heap) (L : List Loc) : Prop := ∃ (d' : Addr) (k' : ClassId) (bs' : List Int32), v = none ∧ Fr n0 L ∧ Keep h0 h [a1] ∧ Exa Z h a1 "java/lang/String" ∧ Fld Z h a1 "java/lang/String" "coder" "B" (.int 0) ∧ Fld Z h a1 "java/lang/String" "value" "[B" (.ref d') ∧ B0 Z h d' k' bs' ∧ bs' = ds.take cn ∧ h0.size ≤ d'
set_option maxRecDepth 65536 in
set_option maxHeartbeats 40000000 in
theorem rm31 (l : Launch) (Z : State) (a0 : Array Value) (hw : ∀ d ∈ tables_1, d.before a0 Z = true) (ws : List Jvm.Cond) (a1 : Addr) (a2 : Addr) (h0 : Heap) (n0 : Nat) (cs : Int32) (d : Addr) (dk : ClassId) (ds : List Int32) (cn : Nat) (CS : Sta Z Z.heap "java/lang/String" "COMPACT_STRINGS" "Z" (.int cs)) (hcs : ¬ cs = 0) (O0 : Old Z n0 h0) (u_v u_c : Value) (Z0 : n0 ≤ h0.size) (g_a1 : n0 ≤ a1) (E_a1 : Exa Z h0 a1 "java/lang/String") (F_a1_v : Fld Z h0 a1 "java/lang/String" "value" "[B" u_v) (F_a1_c : Fld Z h0 a1 "java/lang/String" "coder" "B" u_c) (E_a2 : Exa Z h0 a2 "java/lang/StringBuilder") (F_a2_v : Fld Z h0 a2 "java/lang/AbstractStringBuilder" "value" "[B" (.ref d)) (F_a2_c : Fld Z h0 a2 "java/lang/AbstractStringBuilder" "coder" "B" (.int 0)) (F_a2_n : Fld Z h0 a2 "java/lang/AbstractStringBuilder" "count" "I" (.int (Int32.ofNat cn))) (V_d : BL Z h0 d dk ds) (hn1 : cn ≤ ds.length) (hn2 : ds.length ≤ 142) :
    MetFree l (⟨"java/lang/String", "<init>", "(Ljava/lang/AbstractStringBuilder;Ljava/lang/Void;)V"⟩ : MethodName) (head1 (Jvm.Cond.code (⟨"java/lang/String", "<init>", "(Ljava/lang/AbstractStringBuilder;Ljava/lang/Void;)V"⟩ : MethodName) jdk_42_method_150_code 5 none :: ws) ({ frames := 3, cells := 1, slots := 142, locals := 81 } : Room)) (fun a U => a = #[(.ref a1), (.ref a2), .null] ∧ Z.Warmed39 U.vm ∧ U.heap = h0) (fun _ _ _ _ _ => True) (fun _ U o U' => ∃ v L, o = .returned v ∧ Q31 Z a1 a2 cs d dk ds cn h0 n0 v U'.heap L ∧ FrameEnd U o U' L ({ frames := 3, cells := 1, slots := 142, locals := 81 } : Room).cells ({ frames := 3, cells := 1, slots := 142, locals := 81 } : Room).slots) := by
  refine MetFree.of_bodySF (plainFor_of_name pn_31) hisR ?_
  intro p e s m args below meth c s₁ Bd hml0 hP hK
  obtain ⟨rfl, hZ, hh⟩ := hP
  have hx := Bd.exec
  have hby := Bd.bytes
  have hml : c.maxLocals = 5 := hml0
  have hown0 := findClass_of_methodNamed Bd.named
  have hown : s.vm.findClass "java/lang/String" = some m.cls := hown0
  have hnm := (name_of_methodNamed Bd.named Bd.method).1
  have X0 : Stand p l e ({ frames := 3, cells := 1, slots := 142, locals := 81 } : Room) s m #[(.ref a1), (.ref a2), .null] below meth c s₁ [] 0 0 := Stand.of_body Bd
  have e0 : s₁.heap = h0 := by rw [← hh, Bd.state]; rfl
  have N0 := Fr.nil n0
  have pre0 : ∀ t, Steps p.tables e below (s₁.setTop (mkF m 0 #[.val (.ref a1), .val (.ref a2), .val .null, .unset, .unset] [])) t → Steps p.tables e below (s₁.setTop (entryFrame m #[(.ref a1), (.ref a2), .null] 5)) t := fun t k => castTop (ef_31 m a1 a2) k
  refine Classical.byContradiction fun hneg => ?_
  obtain ⟨T1, X1, e1, st1⟩ := initO X0 hx hZ hown (hw _ (List.mem_of_getElem? (i := 182) rfl)) (hw _ (List.mem_of_getElem? (i := 12) rfl)) (hw _ (List.mem_of_getElem? (i := 13) rfl)) e0 (g := (mkF m 1 #[.val (.ref a1), .val (.ref a2), .val .null, .unset, .unset] [(.ref a1)])) rfl (by rw [hml]; rfl) rfl (hb hby d31_1) (by decide) (W := 0) (by show 2 * 0 + _ ≤ _; exact Nat.le_of_eq rfl) (by decide)
  obtain ⟨cq2, kq2, q2a, q2b, q2c⟩ := isOf hZ e1 E_a2
  obtain ⟨_, _, ⟨T2, L2, k2, n2⟩, -, X2, ⟨Lc2, hQ2, l2, y2, z2⟩, st2⟩ := X1.virtualBack hx (y := (⟨"java/lang/AbstractStringBuilder", "getValue", "()[B"⟩ : MethodName)) (z := (⟨"java/lang/AbstractStringBuilder", "getValue", "()[B"⟩ : MethodName)) hown (mvT hZ (hw _ (List.mem_of_getElem? (i := 183) rfl))) (mvT hZ (hw _ (List.mem_of_getElem? (i := 184) rfl))) (notFace_of_selects (args := #[]) (mvT hZ (hw _ (List.mem_of_getElem? (i := 186) rfl)))) (mvT hZ (hw _ (List.mem_of_getElem? (i := 186) rfl))) (mvT hZ (hw _ (List.mem_of_getElem? (i := 185) rfl))) (by decide) (backOf (W := 0) (rm32 l Z a0 hw [] a2  h0 n0 d F_a2_v) hZ (hw _ (List.mem_of_getElem? (i := 187) rfl)) (hw _ (List.mem_of_getElem? (i := 35) rfl)) (by decide) (by decide)) q2a q2c (g := (mkF m 5 #[.val (.ref a1), .val (.ref a2), .val .null, .unset, .unset] [(.ref a2)])) rfl (by rw [hml]; rfl) (Steps.refl _) (argsL := []) (rest := []) (lenOf pd19 rfl) rfl (by show 2 * 0 + _ ≤ _; exact Nat.le_of_eq rfl) (hb hby d31_5) (fun _ _ => ⟨rfl, e1, (by decide : 0 + 0 ≤ _), (by decide : 0 + 0 ≤ _)⟩)
  dsimp only [Pt.U, Pt.locs, Pt.cells, Pt.slots] at X2 l2 y2 z2 st2 hQ2
  subst l2 y2 z2
  obtain ⟨rfl, N2q, e2⟩ := hQ2
  have N2 := Fr.app N0 N2q
  obtain ⟨cq3, kq3, q3a, q3b, q3c⟩ := isOf hZ e2 E_a2
  obtain ⟨_, _, ⟨T3, L3, k3, n3⟩, -, X3, ⟨Lc3, hQ3, l3, y3, z3⟩, st3⟩ := X2.virtualBack hx (y := (⟨"java/lang/AbstractStringBuilder", "length", "()I"⟩ : MethodName)) (z := (⟨"java/lang/StringBuilder", "length", "()I"⟩ : MethodName)) hown (mvT hZ (hw _ (List.mem_of_getElem? (i := 188) rfl))) (mvT hZ (hw _ (List.mem_of_getElem? (i := 189) rfl))) (nf_of (args := #[]) (mvT hZ (hw _ (List.mem_of_getElem? (i := 79) rfl))) rfl) (mvT hZ (hw _ (List.mem_of_getElem? (i := 191) rfl))) (mvT hZ (hw _ (List.mem_of_getElem? (i := 192) rfl))) (by decide) (backOf (W := 0) (rm33 l Z a0 hw [] a2  h0 n0 cn E_a2 F_a2_n) hZ (hw _ (List.mem_of_getElem? (i := 193) rfl)) (hw _ (List.mem_of_getElem? (i := 27) rfl)) (by decide) (by decide)) q3a q3c (g := (mkF m 10 #[.val (.ref a1), .val (.ref a2), .val .null, .val (.ref d), .unset] [(.ref a2)])) rfl (by rw [hml]; rfl) (Steps.refl _) (argsL := []) (rest := []) (lenOf pd7 rfl) rfl (by show 2 * 0 + _ ≤ _; exact Nat.le_of_eq rfl) (hb hby d31_10) (fun _ _ => ⟨rfl, e2, (by decide : 0 + 0 ≤ _), (by decide : 0 + 0 ≤ _)⟩)
  dsimp only [Pt.U, Pt.locs, Pt.cells, Pt.slots] at X3 l3 y3 z3 st3 hQ3
  subst l3 y3 z3
  obtain ⟨rfl, N3q, e3⟩ := hQ3
  have N3 := Fr.app N2 N3q
  obtain ⟨cq4, kq4, q4a, q4b, q4c⟩ := isOf hZ e3 E_a2
  obtain ⟨_, _, ⟨T4, L4, k4, n4⟩, -, X4, ⟨Lc4, hQ4, l4, y4, z4⟩, st4⟩ := X3.virtualBack hx (y := (⟨"java/lang/AbstractStringBuilder", "isLatin1", "()Z"⟩ : MethodName)) (z := (⟨"java/lang/AbstractStringBuilder", "isLatin1", "()Z"⟩ : MethodName)) hown (mvT hZ (hw _ (List.mem_of_getElem? (i := 196) rfl))) (mvT hZ (hw _ (List.mem_of_getElem? (i := 140) rfl))) (notFace_of_selects (args := #[]) (mvT hZ (hw _ (List.mem_of_getElem? (i := 142) rfl)))) (mvT hZ (hw _ (List.mem_of_getElem? (i := 142) rfl))) (mvT hZ (hw _ (List.mem_of_getElem? (i := 141) rfl))) (by decide) (backOf (W := 0) (rm23 l Z a0 hw [] a2  h0 n0 cs CS hcs O0 F_a2_c) hZ (hw _ (List.mem_of_getElem? (i := 143) rfl)) (hw _ (List.mem_of_getElem? (i := 35) rfl)) (by decide) (by decide)) q4a q4c (g := (mkF m 16 #[.val (.ref a1), .val (.ref a2), .val .null, .val (.ref d), .val (.int (Int32.ofNat cn))] [(.ref a2)])) rfl (by rw [hml]; rfl) (Steps.refl _) (argsL := []) (rest := []) (lenOf pd12 rfl) rfl (by show 2 * 0 + _ ≤ _; exact Nat.le_of_eq rfl) (hb hby d31_16) (fun _ _ => ⟨rfl, e3, (by decide : 0 + 0 ≤ _), (by decide : 0 + 0 ≤ _)⟩)
  dsimp only [Pt.U, Pt.locs, Pt.cells, Pt.slots] at X4 l4 y4 z4 st4 hQ4
  subst l4 y4 z4
  obtain ⟨rfl, N4q, e4⟩ := hQ4
  have N4 := Fr.app N3 N4q
  obtain ⟨T5, h5, X5, e5, W5, st5⟩ := putF X4 hx hZ hown (host := "") (Or.inl (hw _ (List.mem_of_getElem? (i := 73) rfl))) Via.refl e4 F_a1_c E_a1 (Or.inr ⟨(hw _ (List.mem_of_getElem? (i := 48) rfl)), rfl, hnm⟩) (hw _ (List.mem_of_getElem? (i := 46) rfl)) (ty := .byte) (by decide) rfl rfl (g := (mkF m 24 #[.val (.ref a1), .val (.ref a2), .val .null, .val (.ref d), .val (.int (Int32.ofNat cn))] [(.int (0 : Int32)), (.ref a1)])) rfl rfl (hb hby d31_24)
  have E_a1_5 := E_a1.wr W5
  have F_a1_value_5 := F_a1_v.other W5 (Or.inr (slot_ne (Or.inr (hw _ (List.mem_of_getElem? (i := 47) rfl))) (Or.inr (hw _ (List.mem_of_getElem? (i := 48) rfl))) (by decide) (t := (.array .byte)) (t' := .byte) (by decide) (by decide)))
  have F_a1_coder_5 := F_a1_c.same W5
  have E_a2_5 := E_a2.wr W5
  have F_a2_value_5 := F_a2_v.other W5 (Or.inl (Exa.ne E_a2 E_a1 (by decide)))
  have F_a2_coder_5 := F_a2_c.other W5 (Or.inl (Exa.ne E_a2 E_a1 (by decide)))
  have F_a2_count_5 := F_a2_n.other W5 (Or.inl (Exa.ne E_a2 E_a1 (by decide)))
  have V_d_5 := V_d.other W5 (Ne.symm (Exa.neArv E_a1 V_d.1 (hw _ (List.mem_of_getElem? (i := 46) rfl))))
  have K5 : Keep h0 h5 [a1] := (Keep.refl h0 [a1]).wr W5 (Or.inl (by simp))
  have N5 := Fr.snoc X5 N4 g_a1
  have Z5 : n0 ≤ h5.size := Nat.le_trans Z0 (Keep.of_wr W5).1
  have O5 := Old.wr O0 W5 g_a1
  obtain ⟨_, _, ⟨T6, L6, k6, n6⟩, -, X6, ⟨Lc6, hQ6, l6, y6, z6⟩, st6⟩ := Jvm.LawKit.callS X5 hx (y := (⟨"java/util/Arrays", "copyOfRange", "([BII)[B"⟩ : MethodName)) hown (mvT hZ (hw _ (List.mem_of_getElem? (i := 197) rfl))) (mvT hZ (hw _ (List.mem_of_getElem? (i := 198) rfl))) (mvT hZ (hw _ (List.mem_of_getElem? (i := 133) rfl))) (mvT hZ (hw _ (List.mem_of_getElem? (i := 199) rfl))) (by decide) (backOf (W := 1) (rm35 l Z a0 hw [] d  h5 n0 dk ds cn V_d_5 (by omega) (by omega) Z5) hZ (hw _ (List.mem_of_getElem? (i := 199) rfl)) (hw _ (List.mem_of_getElem? (i := 133) rfl)) (by decide) (by decide)) (g := (mkF m 32 #[.val (.ref a1), .val (.ref a2), .val .null, .val (.ref d), .val (.int (Int32.ofNat cn))] [(.int (Int32.ofNat cn)), (.int (0 : Int32)), (.ref d), (.ref a1)])) rfl (by rw [hml]; rfl) (argsL := [(.ref d), (.int (0 : Int32)), (.int (Int32.ofNat cn))]) (rest := [(.ref a1)]) (lenOf pd18 rfl) rfl (by show 2 * 0 + _ ≤ _; exact Nat.le_of_eq rfl) (hb hby d31_32) (fun _ _ => ⟨rfl, e5, (by decide : 0 + 1 ≤ _), (by decide : 0 + 142 ≤ _)⟩)
  dsimp only [Pt.U, Pt.locs, Pt.cells, Pt.slots] at X6 l6 y6 z6 st6 hQ6
  subst l6 y6 z6
  obtain ⟨d'_6, k'_6, bs'_6, rfl, N6q, Kc6, G6_0, eqb_6, f_d'_6⟩ := hQ6
  have N6 := Fr.app N5 N6q
  have ne_a1_d'_6 : a1 ≠ d'_6 := Nat.ne_of_lt (Nat.lt_of_lt_of_le E_a1_5.lt f_d'_6)
  have ne_a2_d'_6 : a2 ≠ d'_6 := Nat.ne_of_lt (Nat.lt_of_lt_of_le E_a2_5.lt f_d'_6)
  have ne_d_d'_6 : d ≠ d'_6 := Nat.ne_of_lt (Nat.lt_of_lt_of_le V_d_5.lt f_d'_6)
  have g_d'_6 : n0 ≤ d'_6 := Nat.le_trans Z5 f_d'_6
  have sz_d'_6 : h0.size ≤ d'_6 := Nat.le_trans K5.1 f_d'_6
  have E_a1_6 := E_a1_5.keep Kc6
  have F_a1_value_6 := F_a1_value_5.keep Kc6 nin0
  have F_a1_coder_6 := F_a1_coder_5.keep Kc6 nin0
  have E_a2_6 := E_a2_5.keep Kc6
  have F_a2_value_6 := F_a2_value_5.keep Kc6 nin0
  have F_a2_coder_6 := F_a2_coder_5.keep Kc6 nin0
  have F_a2_count_6 := F_a2_count_5.keep Kc6 nin0
  have V_d_6 := V_d_5.keep Kc6 nin0
  have K6 : Keep h0 T6.heap [a1] := K5.trans Kc6 all0
  have Z6 : n0 ≤ T6.heap.size := Nat.le_trans Z5 Kc6.1
  have O6 := Old.keep O5 Kc6 all0
  obtain ⟨T7, h7, X7, e7, W7, st7⟩ := putF X6 hx hZ hown (host := "") (Or.inl (hw _ (List.mem_of_getElem? (i := 66) rfl))) Via.refl rfl F_a1_value_6 E_a1_6 (Or.inr ⟨(hw _ (List.mem_of_getElem? (i := 47) rfl)), rfl, hnm⟩) (hw _ (List.mem_of_getElem? (i := 46) rfl)) (ty := (.array .byte)) (by decide) rfl rfl (g := (mkF m 35 #[.val (.ref a1), .val (.ref a2), .val .null, .val (.ref d), .val (.int (Int32.ofNat cn))] [(.ref d'_6), (.ref a1)])) rfl rfl (hb hby d31_35)
  have E_a1_7 := E_a1_6.wr W7
  have F_a1_value_7 := F_a1_value_6.same W7
  have F_a1_coder_7 := F_a1_coder_6.other W7 (Or.inr (slot_ne (Or.inr (hw _ (List.mem_of_getElem? (i := 48) rfl))) (Or.inr (hw _ (List.mem_of_getElem? (i := 47) rfl))) (by decide) (t := .byte) (t' := (.array .byte)) (by decide) (by decide)))
  have E_a2_7 := E_a2_6.wr W7
  have F_a2_value_7 := F_a2_value_6.other W7 (Or.inl (Exa.ne E_a2_6 E_a1_6 (by decide)))
  have F_a2_coder_7 := F_a2_coder_6.other W7 (Or.inl (Exa.ne E_a2_6 E_a1_6 (by decide)))
  have F_a2_count_7 := F_a2_count_6.other W7 (Or.inl (Exa.ne E_a2_6 E_a1_6 (by decide)))
  have V_d_7 := V_d_6.other W7 (Ne.symm (Exa.neArv E_a1_6 V_d_6.1 (hw _ (List.mem_of_getElem? (i := 46) rfl))))
  have V_d__6_7 := G6_0.other W7 (Ne.symm ne_a1_d'_6)
  have K7 : Keep h0 h7 [a1] := K6.wr W7 (Or.inl (by simp))
  have N7 := Fr.snoc X7 N6 g_a1
  have Z7 : n0 ≤ h7.size := Nat.le_trans Z6 (Keep.of_wr W7).1
  have O7 := Old.wr O6 W7 g_a1
  refine hneg ?_
  obtain ⟨fs, hr, hrun, hended, hW, hsame⟩ := X7.leave (v := none) (fun _ => rfl)
  refine ⟨_, _, pre0 _ ?_, hrun, hended, _, _, rfl, ?_, ⟨_, rfl⟩, hW, hsame.mono (by decide) (by decide)⟩
  · show Steps p.tables e below (s₁.setTop (mkF m 0 #[.val (.ref a1), .val (.ref a2), .val .null, .unset, .unset] [])) _
    refine XS.aloadN X0.here hx rfl (hb hby d31_0) rfl rfl ?_
    show Steps p.tables e below (s₁.setTop (mkF m 1 #[.val (.ref a1), .val (.ref a2), .val .null, .unset, .unset] [(.ref a1)])) _
    refine st1 _ ?_
    show Steps p.tables e below (T1.setTop (mkF m 4 #[.val (.ref a1), .val (.ref a2), .val .null, .unset, .unset] [])) _
    refine XS.aloadN X1.here hx rfl (hb hby d31_4) rfl rfl ?_
    show Steps p.tables e below (T1.setTop (mkF m 5 #[.val (.ref a1), .val (.ref a2), .val .null, .unset, .unset] [(.ref a2)])) _
    refine st2.trans ?_
    show Steps p.tables e below (T2.setTop (mkF m 8 #[.val (.ref a1), .val (.ref a2), .val .null, .unset, .unset] [(.ref d)])) _
    refine XS.astoreN X2.here hx rfl (hb hby d31_8) rfl rfl (l' := #[.val (.ref a1), .val (.ref a2), .val .null, .val (.ref d), .unset]) rfl ?_
    show Steps p.tables e below (T2.setTop (mkF m 9 #[.val (.ref a1), .val (.ref a2), .val .null, .val (.ref d), .unset] [])) _
    refine XS.aloadN X2.here hx rfl (hb hby d31_9) rfl rfl ?_
    show Steps p.tables e below (T2.setTop (mkF m 10 #[.val (.ref a1), .val (.ref a2), .val .null, .val (.ref d), .unset] [(.ref a2)])) _
    refine st3.trans ?_
    show Steps p.tables e below (T3.setTop (mkF m 13 #[.val (.ref a1), .val (.ref a2), .val .null, .val (.ref d), .unset] [(.int (Int32.ofNat cn))])) _
    refine XS.istore X3.here hx rfl (hb hby d31_13) rfl (l' := #[.val (.ref a1), .val (.ref a2), .val .null, .val (.ref d), .val (.int (Int32.ofNat cn))]) rfl ?_
    show Steps p.tables e below (T3.setTop (mkF m 15 #[.val (.ref a1), .val (.ref a2), .val .null, .val (.ref d), .val (.int (Int32.ofNat cn))] [])) _
    refine XS.aloadN X3.here hx rfl (hb hby d31_15) rfl rfl ?_
    show Steps p.tables e below (T3.setTop (mkF m 16 #[.val (.ref a1), .val (.ref a2), .val .null, .val (.ref d), .val (.int (Int32.ofNat cn))] [(.ref a2)])) _
    refine st4.trans ?_
    show Steps p.tables e below (T4.setTop (mkF m 19 #[.val (.ref a1), .val (.ref a2), .val .null, .val (.ref d), .val (.int (Int32.ofNat cn))] [(.int (1 : Int32))])) _
    refine XS.ifNo X4.here hx rfl (hb hby d31_19) rfl ((if0 _ _).trans (feq (by decide : ¬ ((1 : Int32) = (0 : Int32)))).1) ?_
    show Steps p.tables e below (T4.setTop (mkF m 22 #[.val (.ref a1), .val (.ref a2), .val .null, .val (.ref d), .val (.int (Int32.ofNat cn))] [])) _
    refine XS.aloadN X4.here hx rfl (hb hby d31_22) rfl rfl ?_
    show Steps p.tables e below (T4.setTop (mkF m 23 #[.val (.ref a1), .val (.ref a2), .val .null, .val (.ref d), .val (.int (Int32.ofNat cn))] [(.ref a1)])) _
    refine XS.iconst X4.here hx rfl (hb hby d31_23) ?_
    show Steps p.tables e below (T4.setTop (mkF m 24 #[.val (.ref a1), .val (.ref a2), .val .null, .val (.ref d), .val (.int (Int32.ofNat cn))] [(.int (0 : Int32)), (.ref a1)])) _
    refine st5 _ ?_
    show Steps p.tables e below (T5.setTop (mkF m 27 #[.val (.ref a1), .val (.ref a2), .val .null, .val (.ref d), .val (.int (Int32.ofNat cn))] [])) _
    refine XS.aloadN X5.here hx rfl (hb hby d31_27) rfl rfl ?_
    show Steps p.tables e below (T5.setTop (mkF m 28 #[.val (.ref a1), .val (.ref a2), .val .null, .val (.ref d), .val (.int (Int32.ofNat cn))] [(.ref a1)])) _
    refine XS.aloadN X5.here hx rfl (hb hby d31_28) rfl rfl ?_
    show Steps p.tables e below (T5.setTop (mkF m 29 #[.val (.ref a1), .val (.ref a2), .val .null, .val (.ref d), .val (.int (Int32.ofNat cn))] [(.ref d), (.ref a1)])) _
    refine XS.iconst X5.here hx rfl (hb hby d31_29) ?_
    show Steps p.tables e below (T5.setTop (mkF m 30 #[.val (.ref a1), .val (.ref a2), .val .null, .val (.ref d), .val (.int (Int32.ofNat cn))] [(.int (0 : Int32)), (.ref d), (.ref a1)])) _
    refine XS.iload X5.here hx rfl (hb hby d31_30) rfl ?_
    show Steps p.tables e below (T5.setTop (mkF m 32 #[.val (.ref a1), .val (.ref a2), .val .null, .val (.ref d), .val (.int (Int32.ofNat cn))] [(.int (Int32.ofNat cn)), (.int (0 : Int32)), (.ref d), (.ref a1)])) _
    refine st6 _ ?_
    show Steps p.tables e below (T6.setTop (mkF m 35 #[.val (.ref a1), .val (.ref a2), .val .null, .val (.ref d), .val (.int (Int32.ofNat cn))] [(.ref d'_6), (.ref a1)])) _
    refine st7 _ ?_
    show Steps p.tables e below (T7.setTop (mkF m 38 #[.val (.ref a1), .val (.ref a2), .val .null, .val (.ref d), .val (.int (Int32.ofNat cn))] [])) _
    refine XS.goto X7.here hx rfl (pc0 := 38) (pc' := 97) rfl (hb hby d31_38) (by decide) (by decide) ?_
    show Steps p.tables e below (T7.setTop (mkF m 97 #[.val (.ref a1), .val (.ref a2), .val .null, .val (.ref d), .val (.int (Int32.ofNat cn))] [])) _
    exact X7.returnOut hx Bd.returns (hb hby d31_97) hr
  · show Q31 Z a1 a2 cs d dk ds cn h0 n0 _ T7.heap _
    rw [e7]
    exact ⟨_, _, _, rfl, N7, K7, E_a1_7, F_a1_coder_7, F_a1_value_7, V_d__6_7.b0, eqb_6, sz_d'_6⟩

theorem d30_0 : decode jdk_42_method_53_code 0 = .ok (.aload_n 0, 1) := by decide +kernel
theorem d30_1 : decode jdk_42_method_53_code 1 = .ok (.aload_n 1, 1) := by decide +kernel
theorem d30_2 : decode jdk_42_method_53_code 2 = .ok (.aconst_null, 1) := by decide +kernel
theorem d30_3 : decode jdk_42_method_53_code 3 = .ok (.invokespecial 489, 3) := by decide +kernel
theorem d30_6 : decode jdk_42_method_53_code 6 = .ok (.return_, 1) := by decide +kernel
theorem pn_30 : plainName "java/lang/String" = true := by first | (simp [plainName, overriddenIn]; done) | decide +kernel
theorem ef_30 (m : MethodId) (a1 : Addr) (a2 : Addr) : entryFrame m #[(.ref a1), (.ref a2)] 2 = mkF m 0 #[.val (.ref a1), .val (.ref a2)] [] := by first | (simp [entryFrame, mkF, argsToLocals, Value.category]; done) | rfl
def Q30 (Z : State) (a1 : Addr) (a2 : Addr) (cs : Int32) (d : Addr) (dk : ClassId) (ds : List Int32) (cn : Nat) (h0 : Heap) (n0 : Nat) (v : Option Value) (h : Heap) (L : List Loc) : Prop := ∃ (d' : Addr) (k' : ClassId) (bs' : List Int32), v = none ∧ Fr n0 L ∧ Keep h0 h [a1] ∧ Exa Z h a1 "java/lang/String" ∧ Fld Z h a1 "java/lang/String" "coder" "B" (.int 0) ∧ Fld Z h a1 "java/lang/String" "value" "[B" (.ref d') ∧ B0 Z h d' k' bs' ∧ bs' = ds.take cn ∧ h0.size ≤ d'
set_option maxRecDepth 65536 in
set_option maxHeartbeats 40000000 in
theorem rm30 (l : Launch) (Z : State) (a0 : Array Value) (hw : ∀ d ∈ tables_1, d.before a0 Z = true) (ws : List Jvm.Cond) (a1 : Addr) (a2 : Addr) (h0 : Heap) (n0 : Nat) (cs : Int32) (d : Addr) (dk : ClassId) (ds : List Int32) (cn : Nat) (CS : Sta Z Z.heap "java/lang/String" "COMPACT_STRINGS" "Z" (.int cs)) (hcs : ¬ cs = 0) (O0 : Old Z n0 h0) (u_v u_c : Value) (Z0 : n0 ≤ h0.size) (g_a1 : n0 ≤ a1) (E_a1 : Exa Z h0 a1 "java/lang/String") (F_a1_v : Fld Z h0 a1 "java/lang/String" "value" "[B" u_v) (F_a1_c : Fld Z h0 a1 "java/lang/String" "coder" "B" u_c) (E_a2 : Exa Z h0 a2 "java/lang/StringBuilder") (F_a2_v : Fld Z h0 a2 "java/lang/AbstractStringBuilder" "value" "[B" (.ref d)) (F_a2_c : Fld Z h0 a2 "java/lang/AbstractStringBuilder" "coder" "B" (.int 0)) (F_a2_n : Fld Z h0 a2 "java/lang/AbstractStringBuilder" "count" "I" (.int (Int32.ofNat cn))) (V_d : BL Z h0 d dk ds) (hn1 : cn ≤ ds.length) (hn2 : ds.length ≤ 142) :
    MetFree l (⟨"java/lang/String", "<init>", "(Ljava/lang/StringBuilder;)V"⟩ : MethodName) (head1 (Jvm.Cond.code (⟨"java/lang/String", "<init>", "(Ljava/lang/StringBuilder;)V"⟩ : MethodName) jdk_42_method_53_code 2 none :: ws) ({ frames := 4, cells := 1, slots := 142, locals := 97 } : Room)) (fun a U => a = #[(.ref a1), (.ref a2)] ∧ Z.Warmed39 U.vm ∧ U.heap = h0) (fun _ _ _ _ _ => True) (fun _ U o U' => ∃ v L, o = .returned v ∧ Q30 Z a1 a2 cs d dk ds cn h0 n0 v U'.heap L ∧ FrameEnd U o U' L ({ frames := 4, cells := 1, slots := 142, locals := 97 } : Room).cells ({ frames := 4, cells := 1, slots := 142, locals := 97 } : Room).slots) := by
  refine MetFree.of_bodySF (plainFor_of_name pn_30) hisR ?_
  intro p e s m args below meth c s₁ Bd hml0 hP hK
  obtain ⟨rfl, hZ, hh⟩ := hP
  have hx := Bd.exec
  have hby := Bd.bytes
  have hml : c.maxLocals = 2 := hml0
  have hown0 := findClass_of_methodNamed Bd.named
  have hown : s.vm.findClass "java/lang/String" = some m.cls := hown0
  have hnm := (name_of_methodNamed Bd.named Bd.method).1
  have X0 : Stand p l e ({ frames := 4, cells := 1, slots := 142, locals := 97 } : Room) s m #[(.ref a1), (.ref a2)] below meth c s₁ [] 0 0 := Stand.of_body Bd
  have e0 : s₁.heap = h0 := by rw [← hh, Bd.state]; rfl
  have N0 := Fr.nil n0
  have pre0 : ∀ t, Steps p.tables e below (s₁.setTop (mkF m 0 #[.val (.ref a1), .val (.ref a2)] [])) t → Steps p.tables e below (s₁.setTop (entryFrame m #[(.ref a1), (.ref a2)] 2)) t := fun t k => castTop (ef_30 m a1 a2) k
  refine Classical.byContradiction fun hneg => ?_
  obtain ⟨_, _, ⟨T1, L1, k1, n1⟩, -, X1, ⟨Lc1, hQ1, l1, y1, z1⟩, st1⟩ := X0.specialBack hx (y := (⟨"java/lang/String", "<init>", "(Ljava/lang/AbstractStringBuilder;Ljava/lang/Void;)V"⟩ : MethodName)) rfl hown (mvT hZ (hw _ (List.mem_of_getElem? (i := 179) rfl))) (mvT hZ (hw _ (List.mem_of_getElem? (i := 180) rfl))) (mvT hZ (hw _ (List.mem_of_getElem? (i := 181) rfl))) (by decide) (backOf (W := 0) (rm31 l Z a0 hw [] a1 a2  h0 n0 cs d dk ds cn CS hcs O0 _ _ Z0 g_a1 E_a1 F_a1_v F_a1_c E_a2 F_a2_v F_a2_c F_a2_n V_d hn1 hn2) hZ (hw _ (List.mem_of_getElem? (i := 181) rfl)) (hw _ (List.mem_of_getElem? (i := 39) rfl)) (by decide) (by decide)) (g := (mkF m 3 #[.val (.ref a1), .val (.ref a2)] [.null, (.ref a2), (.ref a1)])) rfl (by rw [hml]; rfl) (Steps.refl _) (a := a1) (argsL := [(.ref a2), .null]) (rest := []) (lenOf pd20 rfl) rfl (by show 2 * 0 + _ ≤ _; exact Nat.le_of_eq rfl) (hb hby d30_3) (fun _ _ => ⟨rfl, e0, (by decide : 0 + 1 ≤ _), (by decide : 0 + 142 ≤ _)⟩)
  dsimp only [Pt.U, Pt.locs, Pt.cells, Pt.slots] at X1 l1 y1 z1 st1 hQ1
  subst l1 y1 z1
  obtain ⟨d'_1, k'_1, bs'_1, rfl, N1q, Kc1, G1_0, G1_1, G1_2, G1_3, eqb_1, f_d'_1⟩ := hQ1
  have N1 := Fr.app N0 N1q
  have ne_a1_d'_1 : a1 ≠ d'_1 := Nat.ne_of_lt (Nat.lt_of_lt_of_le E_a1.lt f_d'_1)
  have ne_a2_d'_1 : a2 ≠ d'_1 := Nat.ne_of_lt (Nat.lt_of_lt_of_le E_a2.lt f_d'_1)
  have ne_d_d'_1 : d ≠ d'_1 := Nat.ne_of_lt (Nat.lt_of_lt_of_le V_d.lt f_d'_1)
  have g_d'_1 : n0 ≤ d'_1 := Nat.le_trans Z0 f_d'_1
  have sz_d'_1 : h0.size ≤ d'_1 := Nat.le_trans (Keep.refl h0 [a1]).1 f_d'_1
  have E_a2_1 := E_a2.keep Kc1
  have F_a2_value_1 := F_a2_v.keep Kc1 (ninS (Exa.ne E_a2 E_a1 (by decide)) nin0)
  have F_a2_coder_1 := F_a2_c.keep Kc1 (ninS (Exa.ne E_a2 E_a1 (by decide)) nin0)
  have F_a2_count_1 := F_a2_n.keep Kc1 (ninS (Exa.ne E_a2 E_a1 (by decide)) nin0)
  have V_d_1 := V_d.keep Kc1 (ninS (Ne.symm (Exa.neArv E_a1 V_d.1 (hw _ (List.mem_of_getElem? (i := 46) rfl)))) nin0)
  have K1 : Keep h0 T1.heap [a1] := (Keep.refl h0 [a1]).trans Kc1 (allS (P := fun x => x ∈ [a1] ∨ h0.size ≤ x) (Or.inl (by simp)) all0)
  have Z1 : n0 ≤ T1.heap.size := Nat.le_trans Z0 Kc1.1
  have O1 := Old.keep O0 Kc1 (allS g_a1 all0)
  refine hneg ?_
  obtain ⟨fs, hr, hrun, hended, hW, hsame⟩ := X1.leave (v := none) (fun _ => rfl)
  refine ⟨_, _, pre0 _ ?_, hrun, hended, _, _, rfl, ?_, ⟨_, rfl⟩, hW, hsame.mono (by decide) (by decide)⟩
  · show Steps p.tables e below (s₁.setTop (mkF m 0 #[.val (.ref a1), .val (.ref a2)] [])) _
    refine XS.aloadN X0.here hx rfl (hb hby d30_0) rfl rfl ?_
    show Steps p.tables e below (s₁.setTop (mkF m 1 #[.val (.ref a1), .val (.ref a2)] [(.ref a1)])) _
    refine XS.aloadN X0.here hx rfl (hb hby d30_1) rfl rfl ?_
    show Steps p.tables e below (s₁.setTop (mkF m 2 #[.val (.ref a1), .val (.ref a2)] [(.ref a2), (.ref a1)])) _
    refine XS.aconstNull X0.here hx rfl (hb hby d30_2) ?_
    show Steps p.tables e below (s₁.setTop (mkF m 3 #[.val (.ref a1), .val (.ref a2)] [.null, (.ref a2), (.ref a1)])) _
    refine st1.trans ?_
    show Steps p.tables e below (T1.setTop (mkF m 6 #[.val (.ref a1), .val (.ref a2)] [])) _
    exact X1.returnOut hx Bd.returns (hb hby d30_6) hr
  · show Q30 Z a1 a2 cs d dk ds cn h0 n0 _ T1.heap _
    exact ⟨_, _, _, rfl, N1, K1, G1_0, G1_1, G1_2, G1_3, eqb_1, sz_d'_1⟩

theorem d29_0 : decode jdk_67_method_42_code 0 = .ok (.new 18, 3) := by decide +kernel
theorem d29_3 : decode jdk_67_method_42_code 3 = .ok (.dup, 1) := by decide +kernel
theorem d29_4 : decode jdk_67_method_42_code 4 = .ok (.aload_n 0, 1) := by decide +kernel
theorem d29_5 : decode jdk_67_method_42_code 5 = .ok (.invokespecial 137, 3) := by decide +kernel
theorem d29_8 : decode jdk_67_method_42_code 8 = .ok (.areturn, 1) := by decide +kernel
theorem pn_29 : plainName "java/lang/StringBuilder" = true := by first | (simp [plainName, overriddenIn]; done) | decide +kernel
theorem ef_29 (m : MethodId) (a1 : Addr) : entryFrame m #[(.ref a1)] 1 = mkF m 0 #[.val (.ref a1)] [] := by first | (simp [entryFrame, mkF, argsToLocals, Value.category]; done) | rfl
def Q29 (Z : State) (a1 : Addr) (cs : Int32) (d : Addr) (dk : ClassId) (ds : List Int32) (cn : Nat) (h0 : Heap) (n0 : Nat) (v : Option Value) (h : Heap) (L : List Loc) : Prop := ∃ (s' : Addr) (d' : Addr) (k' : ClassId) (bs' : List Int32), v = some (.ref s') ∧ Fr n0 L ∧ Keep h0 h [] ∧ Exa Z h s' "java/lang/String" ∧ Fld Z h s' "java/lang/String" "coder" "B" (.int 0) ∧ Fld Z h s' "java/lang/String" "value" "[B" (.ref d') ∧ B0 Z h d' k' bs' ∧ bs' = ds.take cn ∧ h0.size ≤ s' ∧ h0.size ≤ d'
set_option maxRecDepth 65536 in
set_option maxHeartbeats 40000000 in
theorem rm29 (l : Launch) (Z : State) (a0 : Array Value) (hw : ∀ d ∈ tables_1, d.before a0 Z = true) (ws : List Jvm.Cond) (a1 : Addr) (h0 : Heap) (n0 : Nat) (cs : Int32) (d : Addr) (dk : ClassId) (ds : List Int32) (cn : Nat) (CS : Sta Z Z.heap "java/lang/String" "COMPACT_STRINGS" "Z" (.int cs)) (hcs : ¬ cs = 0) (O0 : Old Z n0 h0) (E_a1 : Exa Z h0 a1 "java/lang/StringBuilder") (F_a1_v : Fld Z h0 a1 "java/lang/AbstractStringBuilder" "value" "[B" (.ref d)) (F_a1_c : Fld Z h0 a1 "java/lang/AbstractStringBuilder" "coder" "B" (.int 0)) (F_a1_n : Fld Z h0 a1 "java/lang/AbstractStringBuilder" "count" "I" (.int (Int32.ofNat cn))) (V_d : BL Z h0 d dk ds) (hn1 : cn ≤ ds.length) (hn2 : ds.length ≤ 142) (Z0 : n0 ≤ h0.size) :
    MetFree l (⟨"java/lang/StringBuilder", "toString", "()Ljava/lang/String;"⟩ : MethodName) (head1 (Jvm.Cond.code (⟨"java/lang/StringBuilder", "toString", "()Ljava/lang/String;"⟩ : MethodName) jdk_67_method_42_code 1 (some (.object "java/lang/String")) :: ws) ({ frames := 5, cells := 2, slots := 146, locals := 111 } : Room)) (fun a U => a = #[(.ref a1)] ∧ Z.Warmed39 U.vm ∧ U.heap = h0) (fun _ _ _ _ _ => True) (fun _ U o U' => ∃ v L, o = .returned v ∧ Q29 Z a1 cs d dk ds cn h0 n0 v U'.heap L ∧ FrameEnd U o U' L ({ frames := 5, cells := 2, slots := 146, locals := 111 } : Room).cells ({ frames := 5, cells := 2, slots := 146, locals := 111 } : Room).slots) := by
  refine MetFree.of_bodySF (plainFor_of_name pn_29) hisR ?_
  intro p e s m args below meth c s₁ Bd hml0 hP hK
  obtain ⟨rfl, hZ, hh⟩ := hP
  have hx := Bd.exec
  have hby := Bd.bytes
  have hml : c.maxLocals = 1 := hml0
  have hown0 := findClass_of_methodNamed Bd.named
  have hown : s.vm.findClass "java/lang/StringBuilder" = some m.cls := hown0
  have hnm := (name_of_methodNamed Bd.named Bd.method).1
  have X0 : Stand p l e ({ frames := 5, cells := 2, slots := 146, locals := 111 } : Room) s m #[(.ref a1)] below meth c s₁ [] 0 0 := Stand.of_body Bd
  have e0 : s₁.heap = h0 := by rw [← hh, Bd.state]; rfl
  have N0 := Fr.nil n0
  have pre0 : ∀ t, Steps p.tables e below (s₁.setTop (mkF m 0 #[.val (.ref a1)] [])) t → Steps p.tables e below (s₁.setTop (entryFrame m #[(.ref a1)] 1)) t := fun t k => castTop (ef_29 m a1) k
  refine Classical.byContradiction fun hneg => ?_
  obtain ⟨T1, h1, X1, e1, E1, A1, D1, -, st1⟩ := newO X0 hx hZ hown (hw _ (List.mem_of_getElem? (i := 174) rfl)) (hw _ (List.mem_of_getElem? (i := 46) rfl)) (hw _ (List.mem_of_getElem? (i := 39) rfl)) e0 (g := (mkF m 0 #[.val (.ref a1)] [])) rfl (hb hby d29_0) (by decide) (by decide)
  obtain ⟨b1, g1⟩ : ∃ z, z = h0.size := ⟨_, rfl⟩
  rw [← g1] at A1 D1 st1
  have ne_a1_b1 : a1 ≠ b1 := Nat.ne_of_lt (Nat.lt_of_lt_of_le E_a1.lt (Nat.le_of_eq g1.symm))
  have ne_d_b1 : d ≠ b1 := Nat.ne_of_lt (Nat.lt_of_lt_of_le V_d.lt (Nat.le_of_eq g1.symm))
  have g_b1 : n0 ≤ b1 := Nat.le_trans Z0 (Nat.le_of_eq g1.symm)
  have sz_b1 : h0.size ≤ b1 := Nat.le_trans (Keep.refl h0 []).1 (Nat.le_of_eq g1.symm)
  have E_a1_1 := E_a1.ext E1
  have F_a1_value_1 := F_a1_v.ext E1
  have F_a1_coder_1 := F_a1_c.ext E1
  have F_a1_count_1 := F_a1_n.ext E1
  have V_d_1 := V_d.ext E1
  have K1 : Keep h0 h1 [] := (Keep.refl h0 []).ext E1
  have Z1 : n0 ≤ h1.size := Nat.le_trans Z0 E1.1
  have O1 := Old.ext O0 E1
  have F_value_b1 : Fld Z h1 b1 "java/lang/String" "value" "[B" .null := D1 (Or.inr (hw _ (List.mem_of_getElem? (i := 47) rfl))) (ty := (.array .byte)) (by decide)
  have F_coder_b1 : Fld Z h1 b1 "java/lang/String" "coder" "B" (.int (0 : Int32)) := D1 (Or.inr (hw _ (List.mem_of_getElem? (i := 48) rfl))) (ty := .byte) (by decide)
  obtain ⟨_, _, ⟨T2, L2, k2, n2⟩, -, X2, ⟨Lc2, hQ2, l2, y2, z2⟩, st2⟩ := X1.specialBack hx (y := (⟨"java/lang/String", "<init>", "(Ljava/lang/StringBuilder;)V"⟩ : MethodName)) rfl hown (mvT hZ (hw _ (List.mem_of_getElem? (i := 175) rfl))) (mvT hZ (hw _ (List.mem_of_getElem? (i := 176) rfl))) (mvT hZ (hw _ (List.mem_of_getElem? (i := 178) rfl))) (by decide) (backOf (W := 1) (rm30 l Z a0 hw [] b1 a1  h1 n0 cs d dk ds cn CS hcs O1 _ _ Z1 g_b1 A1 F_value_b1 F_coder_b1 E_a1_1 F_a1_value_1 F_a1_coder_1 F_a1_count_1 V_d_1 hn1 hn2) hZ (hw _ (List.mem_of_getElem? (i := 178) rfl)) (hw _ (List.mem_of_getElem? (i := 39) rfl)) (by decide) (by decide)) (g := (mkF m 5 #[.val (.ref a1)] [(.ref a1), (.ref b1), (.ref b1)])) rfl (by rw [hml]; rfl) (Steps.refl _) (a := b1) (argsL := [(.ref a1)]) (rest := [(.ref b1)]) (lenOf pd21 rfl) rfl (by show 2 * 0 + _ ≤ _; exact Nat.le_of_eq rfl) (hb hby d29_5) (fun _ _ => ⟨rfl, e1, (by decide : 1 + 1 ≤ _), (by decide : 4 + 142 ≤ _)⟩)
  dsimp only [Pt.U, Pt.locs, Pt.cells, Pt.slots] at X2 l2 y2 z2 st2 hQ2
  subst l2 y2 z2
  obtain ⟨d'_2, k'_2, bs'_2, rfl, N2q, Kc2, G2_0, G2_1, G2_2, G2_3, eqb_2, f_d'_2⟩ := hQ2
  have N2 := Fr.app N0 N2q
  have ne_a1_d'_2 : a1 ≠ d'_2 := Nat.ne_of_lt (Nat.lt_of_lt_of_le E_a1_1.lt f_d'_2)
  have ne_d_d'_2 : d ≠ d'_2 := Nat.ne_of_lt (Nat.lt_of_lt_of_le V_d_1.lt f_d'_2)
  have ne_b1_d'_2 : b1 ≠ d'_2 := Nat.ne_of_lt (Nat.lt_of_lt_of_le A1.lt f_d'_2)
  have g_d'_2 : n0 ≤ d'_2 := Nat.le_trans Z1 f_d'_2
  have sz_d'_2 : h0.size ≤ d'_2 := Nat.le_trans K1.1 f_d'_2
  have E_a1_2 := E_a1_1.keep Kc2
  have F_a1_value_2 := F_a1_value_1.keep Kc2 (ninS ne_a1_b1 nin0)
  have F_a1_coder_2 := F_a1_coder_1.keep Kc2 (ninS ne_a1_b1 nin0)
  have F_a1_count_2 := F_a1_count_1.keep Kc2 (ninS ne_a1_b1 nin0)
  have V_d_2 := V_d_1.keep Kc2 (ninS ne_d_b1 nin0)
  have K2 : Keep h0 T2.heap [] := K1.trans Kc2 (allS (P := fun x => x ∈ ([] : List Addr) ∨ h0.size ≤ x) (Or.inr sz_b1) all0)
  have Z2 : n0 ≤ T2.heap.size := Nat.le_trans Z1 Kc2.1
  have O2 := Old.keep O1 Kc2 (allS g_b1 all0)
  refine hneg ?_
  obtain ⟨fs, hr, hrun, hended, hW, hsame⟩ := X2.leave (v := some (.ref b1)) (fun h => by rw [Bd.returns] at h; cases h)
  refine ⟨_, _, pre0 _ ?_, hrun, hended, _, _, rfl, ?_, ⟨_, rfl⟩, hW, hsame.mono (by decide) (by decide)⟩
  · show Steps p.tables e below (s₁.setTop (mkF m 0 #[.val (.ref a1)] [])) _
    refine st1 _ ?_
    show Steps p.tables e below (T1.setTop (mkF m 3 #[.val (.ref a1)] [(.ref b1)])) _
    refine XS.dup X1.here hx rfl (hb hby d29_3) rfl rfl ?_
    show Steps p.tables e below (T1.setTop (mkF m 4 #[.val (.ref a1)] [(.ref b1), (.ref b1)])) _
    refine XS.aloadN X1.here hx rfl (hb hby d29_4) rfl rfl ?_
    show Steps p.tables e below (T1.setTop (mkF m 5 #[.val (.ref a1)] [(.ref a1), (.ref b1), (.ref b1)])) _
    refine st2.trans ?_
    show Steps p.tables e below (T2.setTop (mkF m 8 #[.val (.ref a1)] [(.ref b1)])) _
    exact retOut X2 hx (t := (.object "java/lang/String")) Bd.returns rfl (Or.inr (Or.inr (Or.inr (Or.inr ⟨rfl, rfl, rfl⟩)))) (hb hby d29_8) hr
  · show Q29 Z a1 cs d dk ds cn h0 n0 _ T2.heap _
    exact ⟨_, _, _, _, rfl, N2, K2, G2_0, G2_1, G2_2, G2_3, eqb_2, sz_b1, sz_d'_2⟩

theorem d43_0 : decode jdk_41_method_11_code 0 = .ok (.iload_n 0, 1) := by decide +kernel
theorem d43_1 : decode jdk_41_method_11_code 1 = .ok (.ifCond .lt 8, 3) := by decide +kernel
theorem d43_4 : decode jdk_41_method_11_code 4 = .ok (.iload_n 0, 1) := by decide +kernel
theorem d43_5 : decode jdk_41_method_11_code 5 = .ok (.iload_n 1, 1) := by decide +kernel
theorem d43_6 : decode jdk_41_method_11_code 6 = .ok (.if_icmp .lt 10, 3) := by decide +kernel
theorem d43_16 : decode jdk_41_method_11_code 16 = .ok (.iload_n 0, 1) := by decide +kernel
theorem d43_17 : decode jdk_41_method_11_code 17 = .ok (.ireturn, 1) := by decide +kernel
theorem pn_43 : plainName "jdk/internal/util/Preconditions" = true := by first | (simp [plainName, overriddenIn]; done) | decide +kernel
theorem ef_43 (m : MethodId) (p1 : Int32) (p2 : Int32) (a3 : Addr) : entryFrame m #[(.int p1), (.int p2), (.ref a3)] 3 = mkF m 0 #[.val (.int p1), .val (.int p2), .val (.ref a3)] [] := by first | (simp [entryFrame, mkF, argsToLocals, Value.category]; done) | rfl
def Q43 (Z : State) (p1 : Int32) (p2 : Int32) (a3 : Addr) (h0 : Heap) (n0 : Nat) (v : Option Value) (h : Heap) (L : List Loc) : Prop := v = some (.int p1) ∧ Fr n0 L ∧ h = h0
set_option maxRecDepth 65536 in
set_option maxHeartbeats 40000000 in
theorem rm43 (l : Launch) (Z : State) (a0 : Array Value) (hw : ∀ d ∈ tables_1, d.before a0 Z = true) (ws : List Jvm.Cond) (p1 : Int32) (p2 : Int32) (a3 : Addr) (h0 : Heap) (n0 : Nat) (hi1 : ¬ p1 < 0) (hi2 : p1 < p2) :
    MetFree l (⟨"jdk/internal/util/Preconditions", "checkIndex", "(IILjava/util/function/BiFunction;)I"⟩ : MethodName) (head1 (Jvm.Cond.code (⟨"jdk/internal/util/Preconditions", "checkIndex", "(IILjava/util/function/BiFunction;)I"⟩ : MethodName) jdk_41_method_11_code 3 (some .int) :: ws) ({ frames := 0, cells := 0, slots := 0, locals := 0 } : Room)) (fun a U => a = #[(.int p1), (.int p2), (.ref a3)] ∧ Z.Warmed39 U.vm ∧ U.heap = h0) (fun _ _ _ _ _ => True) (fun _ U o U' => ∃ v L, o = .returned v ∧ Q43 Z p1 p2 a3 h0 n0 v U'.heap L ∧ FrameEnd U o U' L ({ frames := 0, cells := 0, slots := 0, locals := 0 } : Room).cells ({ frames := 0, cells := 0, slots := 0, locals := 0 } : Room).slots) := by
  refine MetFree.of_bodySF (plainFor_of_name pn_43) hisR ?_
  intro p e s m args below meth c s₁ Bd hml0 hP hK
  obtain ⟨rfl, hZ, hh⟩ := hP
  have hx := Bd.exec
  have hby := Bd.bytes
  have hml : c.maxLocals = 3 := hml0
  have hown0 := findClass_of_methodNamed Bd.named
  have hown : s.vm.findClass "jdk/internal/util/Preconditions" = some m.cls := hown0
  have hnm := (name_of_methodNamed Bd.named Bd.method).1
  have X0 : Stand p l e ({ frames := 0, cells := 0, slots := 0, locals := 0 } : Room) s m #[(.int p1), (.int p2), (.ref a3)] below meth c s₁ [] 0 0 := Stand.of_body Bd
  have e0 : s₁.heap = h0 := by rw [← hh, Bd.state]; rfl
  have N0 := Fr.nil n0
  have pre0 : ∀ t, Steps p.tables e below (s₁.setTop (mkF m 0 #[.val (.int p1), .val (.int p2), .val (.ref a3)] [])) t → Steps p.tables e below (s₁.setTop (entryFrame m #[(.int p1), (.int p2), (.ref a3)] 3)) t := fun t k => castTop (ef_43 m p1 p2 a3) k
  refine Classical.byContradiction fun hneg => ?_
  refine hneg ?_
  obtain ⟨fs, hr, hrun, hended, hW, hsame⟩ := X0.leave (v := some (.int p1)) (fun h => by rw [Bd.returns] at h; cases h)
  refine ⟨_, _, pre0 _ ?_, hrun, hended, _, _, rfl, ?_, ⟨_, rfl⟩, hW, hsame.mono (by decide) (by decide)⟩
  · show Steps p.tables e below (s₁.setTop (mkF m 0 #[.val (.int p1), .val (.int p2), .val (.ref a3)] [])) _
    refine XS.iloadN X0.here hx rfl (hb hby d43_0) rfl ?_
    show Steps p.tables e below (s₁.setTop (mkF m 1 #[.val (.int p1), .val (.int p2), .val (.ref a3)] [(.int p1)])) _
    refine XS.ifNo X0.here hx rfl (hb hby d43_1) rfl ((if0 _ _).trans (flt hi1).1) ?_
    show Steps p.tables e below (s₁.setTop (mkF m 4 #[.val (.int p1), .val (.int p2), .val (.ref a3)] [])) _
    refine XS.iloadN X0.here hx rfl (hb hby d43_4) rfl ?_
    show Steps p.tables e below (s₁.setTop (mkF m 5 #[.val (.int p1), .val (.int p2), .val (.ref a3)] [(.int p1)])) _
    refine XS.iloadN X0.here hx rfl (hb hby d43_5) rfl ?_
    show Steps p.tables e below (s₁.setTop (mkF m 6 #[.val (.int p1), .val (.int p2), .val (.ref a3)] [(.int p2), (.int p1)])) _
    refine XS.icmpYes X0.here hx rfl (pc0 := 6) (pc' := 16) rfl (hb hby d43_6) rfl (tlt hi2).1 (by decide) (by decide) ?_
    show Steps p.tables e below (s₁.setTop (mkF m 16 #[.val (.int p1), .val (.int p2), .val (.ref a3)] [])) _
    refine XS.iloadN X0.here hx rfl (hb hby d43_16) rfl ?_
    show Steps p.tables e below (s₁.setTop (mkF m 17 #[.val (.int p1), .val (.int p2), .val (.ref a3)] [(.int p1)])) _
    exact retI X0 hx Bd.returns (hb hby d43_17) hr
  · show Q43 Z p1 p2 a3 h0 n0 _ s₁.heap _
    rw [e0]
    exact ⟨rfl, N0, rfl⟩

theorem ef_43n (m : MethodId) (p1 : Int32) (p2 : Int32) : entryFrame m #[(.int p1), (.int p2), .null] 3 = mkF m 0 #[.val (.int p1), .val (.int p2), .val .null] [] := by first | (simp [entryFrame, mkF, argsToLocals, Value.category]; done) | rfl
def Q43n (Z : State) (p1 : Int32) (p2 : Int32) (h0 : Heap) (n0 : Nat) (v : Option Value) (h : Heap) (L : List Loc) : Prop := v = some (.int p1) ∧ Fr n0 L ∧ h = h0
set_option maxRecDepth 65536 in
set_option maxHeartbeats 40000000 in
theorem rm43n (l : Launch) (Z : State) (a0 : Array Value) (hw : ∀ d ∈ tables_1, d.before a0 Z = true) (ws : List Jvm.Cond) (p1 : Int32) (p2 : Int32) (h0 : Heap) (n0 : Nat) (hi1 : ¬ p1 < 0) (hi2 : p1 < p2) :
    MetFree l (⟨"jdk/internal/util/Preconditions", "checkIndex", "(IILjava/util/function/BiFunction;)I"⟩ : MethodName) (head1 (Jvm.Cond.code (⟨"jdk/internal/util/Preconditions", "checkIndex", "(IILjava/util/function/BiFunction;)I"⟩ : MethodName) jdk_41_method_11_code 3 (some .int) :: ws) ({ frames := 0, cells := 0, slots := 0, locals := 0 } : Room)) (fun a U => a = #[(.int p1), (.int p2), .null] ∧ Z.Warmed39 U.vm ∧ U.heap = h0) (fun _ _ _ _ _ => True) (fun _ U o U' => ∃ v L, o = .returned v ∧ Q43n Z p1 p2 h0 n0 v U'.heap L ∧ FrameEnd U o U' L ({ frames := 0, cells := 0, slots := 0, locals := 0 } : Room).cells ({ frames := 0, cells := 0, slots := 0, locals := 0 } : Room).slots) := by
  refine MetFree.of_bodySF (plainFor_of_name pn_43) hisR ?_
  intro p e s m args below meth c s₁ Bd hml0 hP hK
  obtain ⟨rfl, hZ, hh⟩ := hP
  have hx := Bd.exec
  have hby := Bd.bytes
  have hml : c.maxLocals = 3 := hml0
  have hown0 := findClass_of_methodNamed Bd.named
  have hown : s.vm.findClass "jdk/internal/util/Preconditions" = some m.cls := hown0
  have hnm := (name_of_methodNamed Bd.named Bd.method).1
  have X0 : Stand p l e ({ frames := 0, cells := 0, slots := 0, locals := 0 } : Room) s m #[(.int p1), (.int p2), .null] below meth c s₁ [] 0 0 := Stand.of_body Bd
  have e0 : s₁.heap = h0 := by rw [← hh, Bd.state]; rfl
  have N0 := Fr.nil n0
  have pre0 : ∀ t, Steps p.tables e below (s₁.setTop (mkF m 0 #[.val (.int p1), .val (.int p2), .val .null] [])) t → Steps p.tables e below (s₁.setTop (entryFrame m #[(.int p1), (.int p2), .null] 3)) t := fun t k => castTop (ef_43n m p1 p2) k
  refine Classical.byContradiction fun hneg => ?_
  refine hneg ?_
  obtain ⟨fs, hr, hrun, hended, hW, hsame⟩ := X0.leave (v := some (.int p1)) (fun h => by rw [Bd.returns] at h; cases h)
  refine ⟨_, _, pre0 _ ?_, hrun, hended, _, _, rfl, ?_, ⟨_, rfl⟩, hW, hsame.mono (by decide) (by decide)⟩
  · show Steps p.tables e below (s₁.setTop (mkF m 0 #[.val (.int p1), .val (.int p2), .val .null] [])) _
    refine XS.iloadN X0.here hx rfl (hb hby d43_0) rfl ?_
    show Steps p.tables e below (s₁.setTop (mkF m 1 #[.val (.int p1), .val (.int p2), .val .null] [(.int p1)])) _
    refine XS.ifNo X0.here hx rfl (hb hby d43_1) rfl ((if0 _ _).trans (flt hi1).1) ?_
    show Steps p.tables e below (s₁.setTop (mkF m 4 #[.val (.int p1), .val (.int p2), .val .null] [])) _
    refine XS.iloadN X0.here hx rfl (hb hby d43_4) rfl ?_
    show Steps p.tables e below (s₁.setTop (mkF m 5 #[.val (.int p1), .val (.int p2), .val .null] [(.int p1)])) _
    refine XS.iloadN X0.here hx rfl (hb hby d43_5) rfl ?_
    show Steps p.tables e below (s₁.setTop (mkF m 6 #[.val (.int p1), .val (.int p2), .val .null] [(.int p2), (.int p1)])) _
    refine XS.icmpYes X0.here hx rfl (pc0 := 6) (pc' := 16) rfl (hb hby d43_6) rfl (tlt hi2).1 (by decide) (by decide) ?_
    show Steps p.tables e below (s₁.setTop (mkF m 16 #[.val (.int p1), .val (.int p2), .val .null] [])) _
    refine XS.iloadN X0.here hx rfl (hb hby d43_16) rfl ?_
    show Steps p.tables e below (s₁.setTop (mkF m 17 #[.val (.int p1), .val (.int p2), .val .null] [(.int p1)])) _
    exact retI X0 hx Bd.returns (hb hby d43_17) hr
  · show Q43n Z p1 p2 h0 n0 _ s₁.heap _
    rw [e0]
    exact ⟨rfl, N0, rfl⟩

theorem d42_0 : decode jdk_42_method_155_code 0 = .ok (.iload_n 0, 1) := by decide +kernel
theorem d42_1 : decode jdk_42_method_155_code 1 = .ok (.iload_n 1, 1) := by decide +kernel
theorem d42_2 : decode jdk_42_method_155_code 2 = .ok (.getstatic 1053, 3) := by decide +kernel
theorem d42_5 : decode jdk_42_method_155_code 5 = .ok (.invokestatic 1059, 3) := by decide +kernel
theorem d42_8 : decode jdk_42_method_155_code 8 = .ok (.pop, 1) := by decide +kernel
theorem d42_9 : decode jdk_42_method_155_code 9 = .ok (.return_, 1) := by decide +kernel
theorem pn_42 : plainName "java/lang/String" = true := by first | (simp [plainName, overriddenIn]; done) | decide +kernel
theorem ef_42 (m : MethodId) (p1 : Int32) (p2 : Int32) : entryFrame m #[(.int p1), (.int p2)] 2 = mkF m 0 #[.val (.int p1), .val (.int p2)] [] := by first | (simp [entryFrame, mkF, argsToLocals, Value.category]; done) | rfl
def Q42 (Z : State) (p1 : Int32) (p2 : Int32) (fv : Value) (h0 : Heap) (n0 : Nat) (v : Option Value) (h : Heap) (L : List Loc) : Prop := v = none ∧ Fr n0 L ∧ h = h0
set_option maxRecDepth 65536 in
set_option maxHeartbeats 40000000 in
theorem rm42 (l : Launch) (Z : State) (a0 : Array Value) (hw : ∀ d ∈ tables_1, d.before a0 Z = true) (ws : List Jvm.Cond) (p1 : Int32) (p2 : Int32) (h0 : Heap) (n0 : Nat) (fv : Value) (hi1 : ¬ p1 < 0) (hi2 : p1 < p2) (FS : Sta Z Z.heap "jdk/internal/util/Preconditions" "SIOOBE_FORMATTER" "Ljava/util/function/BiFunction;" fv) (hfv : fv = .null ∨ ∃ a, fv = .ref a) (O0 : Old Z n0 h0) :
    MetFree l (⟨"java/lang/String", "checkIndex", "(II)V"⟩ : MethodName) (head1 (Jvm.Cond.code (⟨"java/lang/String", "checkIndex", "(II)V"⟩ : MethodName) jdk_42_method_155_code 2 none :: ws) ({ frames := 1, cells := 0, slots := 0, locals := 14 } : Room)) (fun a U => a = #[(.int p1), (.int p2)] ∧ Z.Warmed39 U.vm ∧ U.heap = h0) (fun _ _ _ _ _ => True) (fun _ U o U' => ∃ v L, o = .returned v ∧ Q42 Z p1 p2 fv h0 n0 v U'.heap L ∧ FrameEnd U o U' L ({ frames := 1, cells := 0, slots := 0, locals := 14 } : Room).cells ({ frames := 1, cells := 0, slots := 0, locals := 14 } : Room).slots) := by
  refine MetFree.of_bodySF (plainFor_of_name pn_42) hisR ?_
  intro p e s m args below meth c s₁ Bd hml0 hP hK
  obtain ⟨rfl, hZ, hh⟩ := hP
  have hx := Bd.exec
  have hby := Bd.bytes
  have hml : c.maxLocals = 2 := hml0
  have hown0 := findClass_of_methodNamed Bd.named
  have hown : s.vm.findClass "java/lang/String" = some m.cls := hown0
  have hnm := (name_of_methodNamed Bd.named Bd.method).1
  have X0 : Stand p l e ({ frames := 1, cells := 0, slots := 0, locals := 14 } : Room) s m #[(.int p1), (.int p2)] below meth c s₁ [] 0 0 := Stand.of_body Bd
  have e0 : s₁.heap = h0 := by rw [← hh, Bd.state]; rfl
  have N0 := Fr.nil n0
  have pre0 : ∀ t, Steps p.tables e below (s₁.setTop (mkF m 0 #[.val (.int p1), .val (.int p2)] [])) t → Steps p.tables e below (s₁.setTop (entryFrame m #[(.int p1), (.int p2)] 2)) t := fun t k => castTop (ef_42 m p1 p2) k
  refine Classical.byContradiction fun hneg => ?_
  rcases hfv with hfa | ⟨fa, hfa⟩
  · have FS1 : Sta Z Z.heap "jdk/internal/util/Preconditions" "SIOOBE_FORMATTER" "Ljava/util/function/BiFunction;" .null := by rw [← hfa]; exact FS
    obtain ⟨T1, X1, e1, st1⟩ := getS2 X0 hx hZ hown (host := "") (Or.inl (hw _ (List.mem_of_getElem? (i := 247) rfl))) Via.refl e0 (FS1.ext O0.2) (g := (mkF m 2 #[.val (.int p1), .val (.int p2)] [(.int p2), (.int p1)])) rfl (hb hby d42_2)
    obtain ⟨_, _, ⟨T2, L2, k2, n2⟩, -, X2, ⟨Lc2, hQ2, l2, y2, z2⟩, st2⟩ := Jvm.LawKit.callS X1 hx (y := (⟨"jdk/internal/util/Preconditions", "checkIndex", "(IILjava/util/function/BiFunction;)I"⟩ : MethodName)) hown (mvT hZ (hw _ (List.mem_of_getElem? (i := 249) rfl))) (mvT hZ (hw _ (List.mem_of_getElem? (i := 250) rfl))) (mvT hZ (hw _ (List.mem_of_getElem? (i := 248) rfl))) (mvT hZ (hw _ (List.mem_of_getElem? (i := 251) rfl))) (by decide) (backOf (W := 0) (rm43n l Z a0 hw [] p1 p2  h0 n0  hi1 hi2) hZ (hw _ (List.mem_of_getElem? (i := 251) rfl)) (hw _ (List.mem_of_getElem? (i := 248) rfl)) (by decide) (by decide)) (g := (mkF m 5 #[.val (.int p1), .val (.int p2)] [.null, (.int p2), (.int p1)])) rfl (by rw [hml]; rfl) (argsL := [(.int p1), (.int p2), .null]) (rest := []) (lenOf pd22 rfl) rfl (by show 2 * 0 + _ ≤ _; exact Nat.le_of_eq rfl) (hb hby d42_5) (fun _ _ => ⟨rfl, e1, (by decide : 0 + 0 ≤ _), (by decide : 0 + 0 ≤ _)⟩)
    dsimp only [Pt.U, Pt.locs, Pt.cells, Pt.slots] at X2 l2 y2 z2 st2 hQ2
    subst l2 y2 z2
    obtain ⟨rfl, N2q, e2⟩ := hQ2
    have N2 := Fr.app N0 N2q
    refine hneg ?_
    obtain ⟨fs, hr, hrun, hended, hW, hsame⟩ := X2.leave (v := none) (fun _ => rfl)
    refine ⟨_, _, pre0 _ ?_, hrun, hended, _, _, rfl, ?_, ⟨_, rfl⟩, hW, hsame.mono (by decide) (by decide)⟩
    · show Steps p.tables e below (s₁.setTop (mkF m 0 #[.val (.int p1), .val (.int p2)] [])) _
      refine XS.iloadN X0.here hx rfl (hb hby d42_0) rfl ?_
      show Steps p.tables e below (s₁.setTop (mkF m 1 #[.val (.int p1), .val (.int p2)] [(.int p1)])) _
      refine XS.iloadN X0.here hx rfl (hb hby d42_1) rfl ?_
      show Steps p.tables e below (s₁.setTop (mkF m 2 #[.val (.int p1), .val (.int p2)] [(.int p2), (.int p1)])) _
      refine st1 _ ?_
      show Steps p.tables e below (T1.setTop (mkF m 5 #[.val (.int p1), .val (.int p2)] [.null, (.int p2), (.int p1)])) _
      refine st2 _ ?_
      show Steps p.tables e below (T2.setTop (mkF m 8 #[.val (.int p1), .val (.int p2)] [(.int p1)])) _
      refine XS.pop X2.here hx rfl (hb hby d42_8) rfl rfl ?_
      show Steps p.tables e below (T2.setTop (mkF m 9 #[.val (.int p1), .val (.int p2)] [])) _
      exact X2.returnOut hx Bd.returns (hb hby d42_9) hr
    · show Q42 Z p1 p2 fv h0 n0 _ T2.heap _
      rw [e2]
      exact ⟨rfl, N2, rfl⟩
  · have FS1 : Sta Z Z.heap "jdk/internal/util/Preconditions" "SIOOBE_FORMATTER" "Ljava/util/function/BiFunction;" (.ref fa) := by rw [← hfa]; exact FS
    obtain ⟨T3, X3, e3, st3⟩ := getS2 X0 hx hZ hown (host := "") (Or.inl (hw _ (List.mem_of_getElem? (i := 247) rfl))) Via.refl e0 (FS1.ext O0.2) (g := (mkF m 2 #[.val (.int p1), .val (.int p2)] [(.int p2), (.int p1)])) rfl (hb hby d42_2)
    obtain ⟨_, _, ⟨T4, L4, k4, n4⟩, -, X4, ⟨Lc4, hQ4, l4, y4, z4⟩, st4⟩ := Jvm.LawKit.callS X3 hx (y := (⟨"jdk/internal/util/Preconditions", "checkIndex", "(IILjava/util/function/BiFunction;)I"⟩ : MethodName)) hown (mvT hZ (hw _ (List.mem_of_getElem? (i := 249) rfl))) (mvT hZ (hw _ (List.mem_of_getElem? (i := 250) rfl))) (mvT hZ (hw _ (List.mem_of_getElem? (i := 248) rfl))) (mvT hZ (hw _ (List.mem_of_getElem? (i := 251) rfl))) (by decide) (backOf (W := 0) (rm43 l Z a0 hw [] p1 p2 fa  h0 n0  hi1 hi2) hZ (hw _ (List.mem_of_getElem? (i := 251) rfl)) (hw _ (List.mem_of_getElem? (i := 248) rfl)) (by decide) (by decide)) (g := (mkF m 5 #[.val (.int p1), .val (.int p2)] [(.ref fa), (.int p2), (.int p1)])) rfl (by rw [hml]; rfl) (argsL := [(.int p1), (.int p2), (.ref fa)]) (rest := []) (lenOf pd22 rfl) rfl (by show 2 * 0 + _ ≤ _; exact Nat.le_of_eq rfl) (hb hby d42_5) (fun _ _ => ⟨rfl, e3, (by decide : 0 + 0 ≤ _), (by decide : 0 + 0 ≤ _)⟩)
    dsimp only [Pt.U, Pt.locs, Pt.cells, Pt.slots] at X4 l4 y4 z4 st4 hQ4
    subst l4 y4 z4
    obtain ⟨rfl, N4q, e4⟩ := hQ4
    have N4 := Fr.app N0 N4q
    refine hneg ?_
    obtain ⟨fs, hr, hrun, hended, hW, hsame⟩ := X4.leave (v := none) (fun _ => rfl)
    refine ⟨_, _, pre0 _ ?_, hrun, hended, _, _, rfl, ?_, ⟨_, rfl⟩, hW, hsame.mono (by decide) (by decide)⟩
    · show Steps p.tables e below (s₁.setTop (mkF m 0 #[.val (.int p1), .val (.int p2)] [])) _
      refine XS.iloadN X0.here hx rfl (hb hby d42_0) rfl ?_
      show Steps p.tables e below (s₁.setTop (mkF m 1 #[.val (.int p1), .val (.int p2)] [(.int p1)])) _
      refine XS.iloadN X0.here hx rfl (hb hby d42_1) rfl ?_
      show Steps p.tables e below (s₁.setTop (mkF m 2 #[.val (.int p1), .val (.int p2)] [(.int p2), (.int p1)])) _
      refine st3 _ ?_
      show Steps p.tables e below (T3.setTop (mkF m 5 #[.val (.int p1), .val (.int p2)] [(.ref fa), (.int p2), (.int p1)])) _
      refine st4 _ ?_
      show Steps p.tables e below (T4.setTop (mkF m 8 #[.val (.int p1), .val (.int p2)] [(.int p1)])) _
      refine XS.pop X4.here hx rfl (hb hby d42_8) rfl rfl ?_
      show Steps p.tables e below (T4.setTop (mkF m 9 #[.val (.int p1), .val (.int p2)] [])) _
      exact X4.returnOut hx Bd.returns (hb hby d42_9) hr
    · show Q42 Z p1 p2 fv h0 n0 _ T4.heap _
      rw [e4]
      exact ⟨rfl, N4, rfl⟩

theorem d41_0 : decode jdk_43_method_2_code 0 = .ok (.iload_n 1, 1) := by decide +kernel
theorem d41_1 : decode jdk_43_method_2_code 1 = .ok (.aload_n 0, 1) := by decide +kernel
theorem d41_2 : decode jdk_43_method_2_code 2 = .ok (.arraylength, 1) := by decide +kernel
theorem d41_3 : decode jdk_43_method_2_code 3 = .ok (.invokestatic 9, 3) := by decide +kernel
theorem d41_6 : decode jdk_43_method_2_code 6 = .ok (.aload_n 0, 1) := by decide +kernel
theorem d41_7 : decode jdk_43_method_2_code 7 = .ok (.iload_n 1, 1) := by decide +kernel
theorem d41_8 : decode jdk_43_method_2_code 8 = .ok (.baload, 1) := by decide +kernel
theorem d41_9 : decode jdk_43_method_2_code 9 = .ok (.sipush 255, 3) := by decide +kernel
theorem d41_12 : decode jdk_43_method_2_code 12 = .ok (.iand, 1) := by decide +kernel
theorem d41_13 : decode jdk_43_method_2_code 13 = .ok (.i2c, 1) := by decide +kernel
theorem d41_14 : decode jdk_43_method_2_code 14 = .ok (.ireturn, 1) := by decide +kernel
theorem pn_41 : plainName "java/lang/StringLatin1" = true := by first | (simp [plainName, overriddenIn]; done) | decide +kernel
theorem ef_41 (m : MethodId) (a1 : Addr) (zf1 : Int32) : entryFrame m #[(.ref a1), (.int zf1)] 2 = mkF m 0 #[.val (.ref a1), .val (.int zf1)] [] := by first | (simp [entryFrame, mkF, argsToLocals, Value.category]; done) | rfl
def Q41 (Z : State) (a1 : Addr) (k : ClassId) (bs : List Int32) (i : Nat) (fv : Value) (h0 : Heap) (n0 : Nat) (v : Option Value) (h : Heap) (L : List Loc) : Prop := v = some (.int ((bs.getD i 0) &&& (255 : Int32))) ∧ Fr n0 L ∧ h = h0
set_option maxRecDepth 65536 in
set_option maxHeartbeats 40000000 in
theorem rm41 (l : Launch) (Z : State) (a0 : Array Value) (hw : ∀ d ∈ tables_1, d.before a0 Z = true) (ws : List Jvm.Cond) (a1 : Addr) (h0 : Heap) (n0 : Nat) (k : ClassId) (bs : List Int32) (i : Nat) (fv : Value) (V_a1 : B0 Z h0 a1 k bs) (hi : i < bs.length) (FS : Sta Z Z.heap "jdk/internal/util/Preconditions" "SIOOBE_FORMATTER" "Ljava/util/function/BiFunction;" fv) (hfv : fv = .null ∨ ∃ a, fv = .ref a) (O0 : Old Z n0 h0) :
    MetFree l (⟨"java/lang/StringLatin1", "charAt", "([BI)C"⟩ : MethodName) (head1 (Jvm.Cond.code (⟨"java/lang/StringLatin1", "charAt", "([BI)C"⟩ : MethodName) jdk_43_method_2_code 2 (some .char) :: ws) ({ frames := 2, cells := 0, slots := 0, locals := 27 } : Room)) (fun a U => a = #[(.ref a1), (.int (Int32.ofNat i))] ∧ Z.Warmed39 U.vm ∧ U.heap = h0) (fun _ _ _ _ _ => True) (fun _ U o U' => ∃ v L, o = .returned v ∧ Q41 Z a1 k bs i fv h0 n0 v U'.heap L ∧ FrameEnd U o U' L ({ frames := 2, cells := 0, slots := 0, locals := 27 } : Room).cells ({ frames := 2, cells := 0, slots := 0, locals := 27 } : Room).slots) := by
  refine MetFree.of_bodySF (plainFor_of_name pn_41) hisR ?_
  intro p e s m args below meth c s₁ Bd hml0 hP hK
  obtain ⟨rfl, hZ, hh⟩ := hP
  have hx := Bd.exec
  have hby := Bd.bytes
  have hml : c.maxLocals = 2 := hml0
  have hown0 := findClass_of_methodNamed Bd.named
  have hown : s.vm.findClass "java/lang/StringLatin1" = some m.cls := hown0
  have hnm := (name_of_methodNamed Bd.named Bd.method).1
  have X0 : Stand p l e ({ frames := 2, cells := 0, slots := 0, locals := 27 } : Room) s m #[(.ref a1), (.int (Int32.ofNat i))] below meth c s₁ [] 0 0 := Stand.of_body Bd
  have e0 : s₁.heap = h0 := by rw [← hh, Bd.state]; rfl
  have N0 := Fr.nil n0
  have pre0 : ∀ t, Steps p.tables e below (s₁.setTop (mkF m 0 #[.val (.ref a1), .val (.int (Int32.ofNat i))] [])) t → Steps p.tables e below (s₁.setTop (entryFrame m #[(.ref a1), (.int (Int32.ofNat i))] 2)) t := fun t k => castTop (ef_41 m a1 ((Int32.ofNat i))) k
  refine Classical.byContradiction fun hneg => ?_
  obtain ⟨cl1, Ar1, q1, S1_, N1_, H1_, G1_⟩ := V_a1.1
  obtain ⟨_, _, ⟨T2, L2, k2, n2⟩, -, X2, ⟨Lc2, hQ2, l2, y2, z2⟩, st2⟩ := Jvm.LawKit.callS X0 hx (y := (⟨"java/lang/String", "checkIndex", "(II)V"⟩ : MethodName)) hown (mvT hZ (hw _ (List.mem_of_getElem? (i := 244) rfl))) (mvT hZ (hw _ (List.mem_of_getElem? (i := 245) rfl))) (mvT hZ (hw _ (List.mem_of_getElem? (i := 39) rfl))) (mvT hZ (hw _ (List.mem_of_getElem? (i := 246) rfl))) (by decide) (backOf (W := 0) (rm42 l Z a0 hw [] (Int32.ofNat i) (Int32.ofNat bs.length)  h0 n0 fv (inB V_a1.2.1 hi).1 (inB V_a1.2.1 hi).2 FS hfv O0) hZ (hw _ (List.mem_of_getElem? (i := 246) rfl)) (hw _ (List.mem_of_getElem? (i := 39) rfl)) (by decide) (by decide)) (g := (mkF m 3 #[.val (.ref a1), .val (.int (Int32.ofNat i))] [(.int (Int32.ofNat bs.length)), (.int (Int32.ofNat i))])) rfl (by rw [hml]; rfl) (argsL := [(.int (Int32.ofNat i)), (.int (Int32.ofNat bs.length))]) (rest := []) (lenOf pd17 rfl) rfl (by show 2 * 0 + _ ≤ _; exact Nat.le_of_eq rfl) (hb hby d41_3) (fun _ _ => ⟨rfl, e0, (by decide : 0 + 0 ≤ _), (by decide : 0 + 0 ≤ _)⟩)
  dsimp only [Pt.U, Pt.locs, Pt.cells, Pt.slots] at X2 l2 y2 z2 st2 hQ2
  subst l2 y2 z2
  obtain ⟨rfl, N2q, e2⟩ := hQ2
  have N2 := Fr.app N0 N2q
  obtain ⟨cl3, Ar3, q3, S3_, N3_, H3_, G3_⟩ := V_a1.1
  have hin3 : ¬ ((Int32.ofNat i) < 0 ∨ cl3.slots.size ≤ ((Int32.ofNat i)).toNatClampNeg) := inb_of S3_ (inB V_a1.2.1 hi)
  have hat3 : cl3.slots[((Int32.ofNat i)).toNatClampNeg]? = some (.int (bs.getD i 0)) := H3_.at hin3 (atB V_a1.2.1 hi)
  refine hneg ?_
  obtain ⟨fs, hr, hrun, hended, hW, hsame⟩ := X2.leave (v := some (.int (nar .char (((bs.getD i 0) &&& (255 : Int32)).toUInt32.toUInt16.toUInt32.toInt32)))) (fun h => by rw [Bd.returns] at h; cases h)
  refine ⟨_, _, pre0 _ ?_, hrun, hended, _, _, rfl, ?_, ⟨_, rfl⟩, hW, hsame.mono (by decide) (by decide)⟩
  · show Steps p.tables e below (s₁.setTop (mkF m 0 #[.val (.ref a1), .val (.int (Int32.ofNat i))] [])) _
    refine XS.iloadN X0.here hx rfl (hb hby d41_0) rfl ?_
    show Steps p.tables e below (s₁.setTop (mkF m 1 #[.val (.ref a1), .val (.int (Int32.ofNat i))] [(.int (Int32.ofNat i))])) _
    refine XS.aloadN X0.here hx rfl (hb hby d41_1) rfl rfl ?_
    show Steps p.tables e below (s₁.setTop (mkF m 2 #[.val (.ref a1), .val (.int (Int32.ofNat i))] [(.ref a1), (.int (Int32.ofNat i))])) _
    refine X0.arraylength hx (by rw [e0]; exact Ar1.1) (State.isArrayOf_alike hZ.alike Ar1.2.1) (g := (mkF m 2 #[.val (.ref a1), .val (.int (Int32.ofNat i))] [(.ref a1), (.int (Int32.ofNat i))])) rfl rfl (hb hby d41_2) _ ?_
    rw [len_of S1_ N1_]
    show Steps p.tables e below (s₁.setTop (mkF m 3 #[.val (.ref a1), .val (.int (Int32.ofNat i))] [(.int (Int32.ofNat bs.length)), (.int (Int32.ofNat i))])) _
    refine st2 _ ?_
    show Steps p.tables e below (T2.setTop (mkF m 6 #[.val (.ref a1), .val (.int (Int32.ofNat i))] [])) _
    refine XS.aloadN X2.here hx rfl (hb hby d41_6) rfl rfl ?_
    show Steps p.tables e below (T2.setTop (mkF m 7 #[.val (.ref a1), .val (.int (Int32.ofNat i))] [(.ref a1)])) _
    refine XS.iloadN X2.here hx rfl (hb hby d41_7) rfl ?_
    show Steps p.tables e below (T2.setTop (mkF m 8 #[.val (.ref a1), .val (.int (Int32.ofNat i))] [(.int (Int32.ofNat i)), (.ref a1)])) _
    refine X2.baloadBytes hx (j := (Int32.ofNat i)) (v := (.int (bs.getD i 0))) (by rw [e2]; exact Ar3.1) (State.isArrayOf_alike hZ.alike Ar3.2.1) Ar3.2.2 hin3 hat3 (g := (mkF m 8 #[.val (.ref a1), .val (.int (Int32.ofNat i))] [(.int (Int32.ofNat i)), (.ref a1)])) rfl rfl (hb hby d41_8) _ ?_
    show Steps p.tables e below (T2.setTop (mkF m 9 #[.val (.ref a1), .val (.int (Int32.ofNat i))] [(.int (bs.getD i 0))])) _
    refine XS.sipush X2.here hx rfl (hb hby d41_9) ?_
    show Steps p.tables e below (T2.setTop (mkF m 12 #[.val (.ref a1), .val (.int (Int32.ofNat i))] [(.int (255 : Int32)), (.int (bs.getD i 0))])) _
    refine XS.iand X2.here hx rfl (hb hby d41_12) rfl ?_
    show Steps p.tables e below (T2.setTop (mkF m 13 #[.val (.ref a1), .val (.int (Int32.ofNat i))] [(.int ((bs.getD i 0) &&& (255 : Int32)))])) _
    refine XS.i2c X2.here hx rfl (hb hby d41_13) rfl ?_
    show Steps p.tables e below (T2.setTop (mkF m 14 #[.val (.ref a1), .val (.int (Int32.ofNat i))] [(.int (((bs.getD i 0) &&& (255 : Int32)).toUInt32.toUInt16.toUInt32.toInt32))])) _
    exact retN X2 hx (t := .char) Bd.returns (by simp) (hb hby d41_14) hr
  · show Q41 Z a1 k bs i fv h0 n0 _ T2.heap _
    rw [e2]
    exact ⟨by rw [show (nar .char (((bs.getD i 0) &&& (255 : Int32)).toUInt32.toUInt16.toUInt32.toInt32)) = ((bs.getD i 0) &&& (255 : Int32)) from nar_mask2 _], N2, rfl⟩

theorem d40_0 : decode jdk_42_method_154_code 0 = .ok (.getstatic 38, 3) := by decide +kernel
theorem d40_3 : decode jdk_42_method_154_code 3 = .ok (.ifCond .eq 14, 3) := by decide +kernel
theorem d40_6 : decode jdk_42_method_154_code 6 = .ok (.aload_n 0, 1) := by decide +kernel
theorem d40_7 : decode jdk_42_method_154_code 7 = .ok (.getfield 15, 3) := by decide +kernel
theorem d40_10 : decode jdk_42_method_154_code 10 = .ok (.ifCond .ne 7, 3) := by decide +kernel
theorem d40_13 : decode jdk_42_method_154_code 13 = .ok (.iconst 1, 1) := by decide +kernel
theorem d40_14 : decode jdk_42_method_154_code 14 = .ok (.goto 4, 3) := by decide +kernel
theorem d40_18 : decode jdk_42_method_154_code 18 = .ok (.ireturn, 1) := by decide +kernel
theorem pn_40 : plainName "java/lang/String" = true := by first | (simp [plainName, overriddenIn]; done) | decide +kernel
theorem ef_40 (m : MethodId) (a1 : Addr) : entryFrame m #[(.ref a1)] 1 = mkF m 0 #[.val (.ref a1)] [] := by first | (simp [entryFrame, mkF, argsToLocals, Value.category]; done) | rfl
def Q40 (Z : State) (a1 : Addr) (cs : Int32) (h0 : Heap) (n0 : Nat) (v : Option Value) (h : Heap) (L : List Loc) : Prop := v = some (.int (1 : Int32)) ∧ Fr n0 L ∧ h = h0
set_option maxRecDepth 65536 in
set_option maxHeartbeats 40000000 in
theorem rm40 (l : Launch) (Z : State) (a0 : Array Value) (hw : ∀ d ∈ tables_1, d.before a0 Z = true) (ws : List Jvm.Cond) (a1 : Addr) (h0 : Heap) (n0 : Nat) (cs : Int32) (CS : Sta Z Z.heap "java/lang/String" "COMPACT_STRINGS" "Z" (.int cs)) (hcs : ¬ cs = 0) (O0 : Old Z n0 h0) (F_a1_c : Fld Z h0 a1 "java/lang/String" "coder" "B" (.int 0)) :
    MetFree l (⟨"java/lang/String", "isLatin1", "()Z"⟩ : MethodName) (head1 (Jvm.Cond.code (⟨"java/lang/String", "isLatin1", "()Z"⟩ : MethodName) jdk_42_method_154_code 1 (some .boolean) :: ws) ({ frames := 0, cells := 0, slots := 0, locals := 0 } : Room)) (fun a U => a = #[(.ref a1)] ∧ Z.Warmed39 U.vm ∧ U.heap = h0) (fun _ _ _ _ _ => True) (fun _ U o U' => ∃ v L, o = .returned v ∧ Q40 Z a1 cs h0 n0 v U'.heap L ∧ FrameEnd U o U' L ({ frames := 0, cells := 0, slots := 0, locals := 0 } : Room).cells ({ frames := 0, cells := 0, slots := 0, locals := 0 } : Room).slots) := by
  refine MetFree.of_bodySF (plainFor_of_name pn_40) hisR ?_
  intro p e s m args below meth c s₁ Bd hml0 hP hK
  obtain ⟨rfl, hZ, hh⟩ := hP
  have hx := Bd.exec
  have hby := Bd.bytes
  have hml : c.maxLocals = 1 := hml0
  have hown0 := findClass_of_methodNamed Bd.named
  have hown : s.vm.findClass "java/lang/String" = some m.cls := hown0
  have hnm := (name_of_methodNamed Bd.named Bd.method).1
  have X0 : Stand p l e ({ frames := 0, cells := 0, slots := 0, locals := 0 } : Room) s m #[(.ref a1)] below meth c s₁ [] 0 0 := Stand.of_body Bd
  have e0 : s₁.heap = h0 := by rw [← hh, Bd.state]; rfl
  have N0 := Fr.nil n0
  have pre0 : ∀ t, Steps p.tables e below (s₁.setTop (mkF m 0 #[.val (.ref a1)] [])) t → Steps p.tables e below (s₁.setTop (entryFrame m #[(.ref a1)] 1)) t := fun t k => castTop (ef_40 m a1) k
  refine Classical.byContradiction fun hneg => ?_
  obtain ⟨T1, X1, e1, st1⟩ := getS2 X0 hx hZ hown (host := "") (Or.inl (hw _ (List.mem_of_getElem? (i := 72) rfl))) Via.refl e0 (CS.ext O0.2) (g := (mkF m 0 #[.val (.ref a1)] [])) rfl (hb hby d40_0)
  obtain ⟨T2, X2, e2, st2⟩ := getF X1 hx hZ hown (host := "") (Or.inl (hw _ (List.mem_of_getElem? (i := 73) rfl))) Via.refl e1 F_a1_c (g := (mkF m 7 #[.val (.ref a1)] [(.ref a1)])) rfl rfl (hb hby d40_7)
  refine hneg ?_
  obtain ⟨fs, hr, hrun, hended, hW, hsame⟩ := X2.leave (v := some (.int (1 : Int32))) (fun h => by rw [Bd.returns] at h; cases h)
  refine ⟨_, _, pre0 _ ?_, hrun, hended, _, _, rfl, ?_, ⟨_, rfl⟩, hW, hsame.mono (by decide) (by decide)⟩
  · show Steps p.tables e below (s₁.setTop (mkF m 0 #[.val (.ref a1)] [])) _
    refine st1 _ ?_
    show Steps p.tables e below (T1.setTop (mkF m 3 #[.val (.ref a1)] [(.int cs)])) _
    refine XS.ifNo X1.here hx rfl (hb hby d40_3) rfl ((if0 _ _).trans (feq hcs).1) ?_
    show Steps p.tables e below (T1.setTop (mkF m 6 #[.val (.ref a1)] [])) _
    refine XS.aloadN X1.here hx rfl (hb hby d40_6) rfl rfl ?_
    show Steps p.tables e below (T1.setTop (mkF m 7 #[.val (.ref a1)] [(.ref a1)])) _
    refine st2 _ ?_
    show Steps p.tables e below (T2.setTop (mkF m 10 #[.val (.ref a1)] [(.int (0 : Int32))])) _
    refine XS.ifNo X2.here hx rfl (hb hby d40_10) rfl ((if0 _ _).trans (teq (by decide : (0 : Int32) = (0 : Int32))).2) ?_
    show Steps p.tables e below (T2.setTop (mkF m 13 #[.val (.ref a1)] [])) _
    refine XS.iconst X2.here hx rfl (hb hby d40_13) ?_
    show Steps p.tables e below (T2.setTop (mkF m 14 #[.val (.ref a1)] [(.int (1 : Int32))])) _
    refine XS.goto X2.here hx rfl (pc0 := 14) (pc' := 18) rfl (hb hby d40_14) (by decide) (by decide) ?_
    show Steps p.tables e below (T2.setTop (mkF m 18 #[.val (.ref a1)] [(.int (1 : Int32))])) _
    exact retN X2 hx (t := .boolean) Bd.returns (by simp) (hb hby d40_18) hr
  · show Q40 Z a1 cs h0 n0 _ T2.heap _
    rw [e2]
    exact ⟨rfl, N0, rfl⟩

theorem d39_0 : decode jdk_42_method_56_code 0 = .ok (.aload_n 0, 1) := by decide +kernel
theorem d39_1 : decode jdk_42_method_56_code 1 = .ok (.invokevirtual 492, 3) := by decide +kernel
theorem d39_4 : decode jdk_42_method_56_code 4 = .ok (.ifCond .eq 12, 3) := by decide +kernel
theorem d39_7 : decode jdk_42_method_56_code 7 = .ok (.aload_n 0, 1) := by decide +kernel
theorem d39_8 : decode jdk_42_method_56_code 8 = .ok (.getfield 9, 3) := by decide +kernel
theorem d39_11 : decode jdk_42_method_56_code 11 = .ok (.iload_n 1, 1) := by decide +kernel
theorem d39_12 : decode jdk_42_method_56_code 12 = .ok (.invokestatic 495, 3) := by decide +kernel
theorem d39_15 : decode jdk_42_method_56_code 15 = .ok (.ireturn, 1) := by decide +kernel
theorem pn_39 : plainName "java/lang/String" = true := by first | (simp [plainName, overriddenIn]; done) | decide +kernel
theorem ef_39 (m : MethodId) (a1 : Addr) (zf1 : Int32) : entryFrame m #[(.ref a1), (.int zf1)] 2 = mkF m 0 #[.val (.ref a1), .val (.int zf1)] [] := by first | (simp [entryFrame, mkF, argsToLocals, Value.category]; done) | rfl
def Q39 (Z : State) (a1 : Addr) (cs : Int32) (sd : Addr) (sk : ClassId) (src : List Int32) (i : Nat) (fv : Value) (h0 : Heap) (n0 : Nat) (v : Option Value) (h : Heap) (L : List Loc) : Prop := v = some (.int ((src.getD i 0) &&& (255 : Int32))) ∧ Fr n0 L ∧ h = h0
set_option maxRecDepth 65536 in
set_option maxHeartbeats 40000000 in
theorem rm39 (l : Launch) (Z : State) (a0 : Array Value) (hw : ∀ d ∈ tables_1, d.before a0 Z = true) (ws : List Jvm.Cond) (a1 : Addr) (h0 : Heap) (n0 : Nat) (cs : Int32) (sd : Addr) (sk : ClassId) (src : List Int32) (i : Nat) (fv : Value) (CS : Sta Z Z.heap "java/lang/String" "COMPACT_STRINGS" "Z" (.int cs)) (hcs : ¬ cs = 0) (O0 : Old Z n0 h0) (E_a1 : Exa Z h0 a1 "java/lang/String") (F_a1_c : Fld Z h0 a1 "java/lang/String" "coder" "B" (.int 0)) (F_a1_v : Fld Z h0 a1 "java/lang/String" "value" "[B" (.ref sd)) (V_sd : B0 Z h0 sd sk src) (hi : i < src.length) (FS : Sta Z Z.heap "jdk/internal/util/Preconditions" "SIOOBE_FORMATTER" "Ljava/util/function/BiFunction;" fv) (hfv : fv = .null ∨ ∃ a, fv = .ref a) :
    MetFree l (⟨"java/lang/String", "charAt", "(I)C"⟩ : MethodName) (head1 (Jvm.Cond.code (⟨"java/lang/String", "charAt", "(I)C"⟩ : MethodName) jdk_42_method_56_code 2 (some .char) :: ws) ({ frames := 3, cells := 0, slots := 0, locals := 40 } : Room)) (fun a U => a = #[(.ref a1), (.int (Int32.ofNat i))] ∧ Z.Warmed39 U.vm ∧ U.heap = h0) (fun _ _ _ _ _ => True) (fun _ U o U' => ∃ v L, o = .returned v ∧ Q39 Z a1 cs sd sk src i fv h0 n0 v U'.heap L ∧ FrameEnd U o U' L ({ frames := 3, cells := 0, slots := 0, locals := 40 } : Room).cells ({ frames := 3, cells := 0, slots := 0, locals := 40 } : Room).slots) := by
  refine MetFree.of_bodySF (plainFor_of_name pn_39) hisR ?_
  intro p e s m args below meth c s₁ Bd hml0 hP hK
  obtain ⟨rfl, hZ, hh⟩ := hP
  have hx := Bd.exec
  have hby := Bd.bytes
  have hml : c.maxLocals = 2 := hml0
  have hown0 := findClass_of_methodNamed Bd.named
  have hown : s.vm.findClass "java/lang/String" = some m.cls := hown0
  have hnm := (name_of_methodNamed Bd.named Bd.method).1
  have X0 : Stand p l e ({ frames := 3, cells := 0, slots := 0, locals := 40 } : Room) s m #[(.ref a1), (.int (Int32.ofNat i))] below meth c s₁ [] 0 0 := Stand.of_body Bd
  have e0 : s₁.heap = h0 := by rw [← hh, Bd.state]; rfl
  have N0 := Fr.nil n0
  have pre0 : ∀ t, Steps p.tables e below (s₁.setTop (mkF m 0 #[.val (.ref a1), .val (.int (Int32.ofNat i))] [])) t → Steps p.tables e below (s₁.setTop (entryFrame m #[(.ref a1), (.int (Int32.ofNat i))] 2)) t := fun t k => castTop (ef_39 m a1 ((Int32.ofNat i))) k
  refine Classical.byContradiction fun hneg => ?_
  obtain ⟨cq1, kq1, q1a, q1b, q1c⟩ := isOf hZ e0 E_a1
  obtain ⟨_, _, ⟨T1, L1, k1, n1⟩, -, X1, ⟨Lc1, hQ1, l1, y1, z1⟩, st1⟩ := X0.virtualBack hx (y := (⟨"java/lang/String", "isLatin1", "()Z"⟩ : MethodName)) (z := (⟨"java/lang/String", "isLatin1", "()Z"⟩ : MethodName)) hown (mvT hZ (hw _ (List.mem_of_getElem? (i := 235) rfl))) (mvT hZ (hw _ (List.mem_of_getElem? (i := 236) rfl))) (notFace_of_selects (args := #[]) (mvT hZ (hw _ (List.mem_of_getElem? (i := 238) rfl)))) (mvT hZ (hw _ (List.mem_of_getElem? (i := 238) rfl))) (mvT hZ (hw _ (List.mem_of_getElem? (i := 237) rfl))) (by decide) (backOf (W := 0) (rm40 l Z a0 hw [] a1  h0 n0 cs CS hcs O0 F_a1_c) hZ (hw _ (List.mem_of_getElem? (i := 239) rfl)) (hw _ (List.mem_of_getElem? (i := 39) rfl)) (by decide) (by decide)) q1a q1c (g := (mkF m 1 #[.val (.ref a1), .val (.int (Int32.ofNat i))] [(.ref a1)])) rfl (by rw [hml]; rfl) (Steps.refl _) (argsL := []) (rest := []) (lenOf pd12 rfl) rfl (by show 2 * 0 + _ ≤ _; exact Nat.le_of_eq rfl) (hb hby d39_1) (fun _ _ => ⟨rfl, e0, (by decide : 0 + 0 ≤ _), (by decide : 0 + 0 ≤ _)⟩)
  dsimp only [Pt.U, Pt.locs, Pt.cells, Pt.slots] at X1 l1 y1 z1 st1 hQ1
  subst l1 y1 z1
  obtain ⟨rfl, N1q, e1⟩ := hQ1
  have N1 := Fr.app N0 N1q
  obtain ⟨T2, X2, e2, st2⟩ := getF X1 hx hZ hown (host := "") (Or.inl (hw _ (List.mem_of_getElem? (i := 66) rfl))) Via.refl e1 F_a1_v (g := (mkF m 8 #[.val (.ref a1), .val (.int (Int32.ofNat i))] [(.ref a1)])) rfl rfl (hb hby d39_8)
  obtain ⟨_, _, ⟨T3, L3, k3, n3⟩, -, X3, ⟨Lc3, hQ3, l3, y3, z3⟩, st3⟩ := Jvm.LawKit.callS X2 hx (y := (⟨"java/lang/StringLatin1", "charAt", "([BI)C"⟩ : MethodName)) hown (mvT hZ (hw _ (List.mem_of_getElem? (i := 240) rfl))) (mvT hZ (hw _ (List.mem_of_getElem? (i := 241) rfl))) (mvT hZ (hw _ (List.mem_of_getElem? (i := 242) rfl))) (mvT hZ (hw _ (List.mem_of_getElem? (i := 243) rfl))) (by decide) (backOf (W := 0) (rm41 l Z a0 hw [] sd  h0 n0 sk src i fv V_sd hi FS hfv O0) hZ (hw _ (List.mem_of_getElem? (i := 243) rfl)) (hw _ (List.mem_of_getElem? (i := 242) rfl)) (by decide) (by decide)) (g := (mkF m 12 #[.val (.ref a1), .val (.int (Int32.ofNat i))] [(.int (Int32.ofNat i)), (.ref sd)])) rfl (by rw [hml]; rfl) (argsL := [(.ref sd), (.int (Int32.ofNat i))]) (rest := []) (lenOf pd23 rfl) rfl (by show 2 * 0 + _ ≤ _; exact Nat.le_of_eq rfl) (hb hby d39_12) (fun _ _ => ⟨rfl, e2, (by decide : 0 + 0 ≤ _), (by decide : 0 + 0 ≤ _)⟩)
  dsimp only [Pt.U, Pt.locs, Pt.cells, Pt.slots] at X3 l3 y3 z3 st3 hQ3
  subst l3 y3 z3
  obtain ⟨rfl, N3q, e3⟩ := hQ3
  have N3 := Fr.app N1 N3q
  refine hneg ?_
  obtain ⟨fs, hr, hrun, hended, hW, hsame⟩ := X3.leave (v := some (.int (nar .char ((src.getD i 0) &&& (255 : Int32))))) (fun h => by rw [Bd.returns] at h; cases h)
  refine ⟨_, _, pre0 _ ?_, hrun, hended, _, _, rfl, ?_, ⟨_, rfl⟩, hW, hsame.mono (by decide) (by decide)⟩
  · show Steps p.tables e below (s₁.setTop (mkF m 0 #[.val (.ref a1), .val (.int (Int32.ofNat i))] [])) _
    refine XS.aloadN X0.here hx rfl (hb hby d39_0) rfl rfl ?_
    show Steps p.tables e below (s₁.setTop (mkF m 1 #[.val (.ref a1), .val (.int (Int32.ofNat i))] [(.ref a1)])) _
    refine st1.trans ?_
    show Steps p.tables e below (T1.setTop (mkF m 4 #[.val (.ref a1), .val (.int (Int32.ofNat i))] [(.int (1 : Int32))])) _
    refine XS.ifNo X1.here hx rfl (hb hby d39_4) rfl ((if0 _ _).trans (feq (by decide : ¬ ((1 : Int32) = (0 : Int32)))).1) ?_
    show Steps p.tables e below (T1.setTop (mkF m 7 #[.val (.ref a1), .val (.int (Int32.ofNat i))] [])) _
    refine XS.aloadN X1.here hx rfl (hb hby d39_7) rfl rfl ?_
    show Steps p.tables e below (T1.setTop (mkF m 8 #[.val (.ref a1), .val (.int (Int32.ofNat i))] [(.ref a1)])) _
    refine st2 _ ?_
    show Steps p.tables e below (T2.setTop (mkF m 11 #[.val (.ref a1), .val (.int (Int32.ofNat i))] [(.ref sd)])) _
    refine XS.iloadN X2.here hx rfl (hb hby d39_11) rfl ?_
    show Steps p.tables e below (T2.setTop (mkF m 12 #[.val (.ref a1), .val (.int (Int32.ofNat i))] [(.int (Int32.ofNat i)), (.ref sd)])) _
    refine st3 _ ?_
    show Steps p.tables e below (T3.setTop (mkF m 15 #[.val (.ref a1), .val (.int (Int32.ofNat i))] [(.int ((src.getD i 0) &&& (255 : Int32)))])) _
    exact retN X3 hx (t := .char) Bd.returns (by simp) (hb hby d39_15) hr
  · show Q39 Z a1 cs sd sk src i fv h0 n0 _ T3.heap _
    rw [e3]
    exact ⟨by rw [show (nar .char ((src.getD i 0) &&& (255 : Int32))) = ((src.getD i 0) &&& (255 : Int32)) from nar_mask _], N3, rfl⟩

theorem d38_0 : decode method_4_code 0 = .ok (.lload_n 0, 1) := by decide +kernel
theorem d38_1 : decode method_4_code 1 = .ok (.lconst 0, 1) := by decide +kernel
theorem d38_2 : decode method_4_code 2 = .ok (.lcmp, 1) := by decide +kernel
theorem d38_3 : decode method_4_code 3 = .ok (.ifCond .ge 7, 3) := by decide +kernel
theorem d38_6 : decode method_4_code 6 = .ok (.lload_n 0, 1) := by decide +kernel
theorem d38_7 : decode method_4_code 7 = .ok (.goto 5, 3) := by decide +kernel
theorem d38_10 : decode method_4_code 10 = .ok (.lload_n 0, 1) := by decide +kernel
theorem d38_11 : decode method_4_code 11 = .ok (.lneg, 1) := by decide +kernel
theorem d38_12 : decode method_4_code 12 = .ok (.lstore_n 2, 1) := by decide +kernel
theorem d38_13 : decode method_4_code 13 = .ok (.lload_n 2, 1) := by decide +kernel
theorem d38_14 : decode method_4_code 14 = .ok (.ldc2_w 45, 3) := by decide +kernel
theorem d38_17 : decode method_4_code 17 = .ok (.lcmp, 1) := by decide +kernel
theorem d38_18 : decode method_4_code 18 = .ok (.ifCond .le 9, 3) := by decide +kernel
theorem d38_21 : decode method_4_code 21 = .ok (.iconst 1, 1) := by decide +kernel
theorem d38_22 : decode method_4_code 22 = .ok (.istore 4, 2) := by decide +kernel
theorem d38_24 : decode method_4_code 24 = .ok (.goto 258, 3) := by decide +kernel
theorem d38_27 : decode method_4_code 27 = .ok (.lload_n 2, 1) := by decide +kernel
theorem d38_28 : decode method_4_code 28 = .ok (.ldc2_w 47, 3) := by decide +kernel
theorem d38_31 : decode method_4_code 31 = .ok (.lcmp, 1) := by decide +kernel
theorem d38_32 : decode method_4_code 32 = .ok (.ifCond .le 9, 3) := by decide +kernel
theorem d38_35 : decode method_4_code 35 = .ok (.iconst 2, 1) := by decide +kernel
theorem d38_36 : decode method_4_code 36 = .ok (.istore 4, 2) := by decide +kernel
theorem d38_38 : decode method_4_code 38 = .ok (.goto 244, 3) := by decide +kernel
theorem d38_41 : decode method_4_code 41 = .ok (.lload_n 2, 1) := by decide +kernel
theorem d38_42 : decode method_4_code 42 = .ok (.ldc2_w 49, 3) := by decide +kernel
theorem d38_45 : decode method_4_code 45 = .ok (.lcmp, 1) := by decide +kernel
theorem d38_46 : decode method_4_code 46 = .ok (.ifCond .le 9, 3) := by decide +kernel
theorem d38_49 : decode method_4_code 49 = .ok (.iconst 3, 1) := by decide +kernel
theorem d38_50 : decode method_4_code 50 = .ok (.istore 4, 2) := by decide +kernel
theorem d38_52 : decode method_4_code 52 = .ok (.goto 230, 3) := by decide +kernel
theorem d38_55 : decode method_4_code 55 = .ok (.lload_n 2, 1) := by decide +kernel
theorem d38_56 : decode method_4_code 56 = .ok (.ldc2_w 51, 3) := by decide +kernel
theorem d38_59 : decode method_4_code 59 = .ok (.lcmp, 1) := by decide +kernel
theorem d38_60 : decode method_4_code 60 = .ok (.ifCond .le 9, 3) := by decide +kernel
theorem d38_63 : decode method_4_code 63 = .ok (.iconst 4, 1) := by decide +kernel
theorem d38_64 : decode method_4_code 64 = .ok (.istore 4, 2) := by decide +kernel
theorem d38_66 : decode method_4_code 66 = .ok (.goto 216, 3) := by decide +kernel
theorem d38_69 : decode method_4_code 69 = .ok (.lload_n 2, 1) := by decide +kernel
theorem d38_70 : decode method_4_code 70 = .ok (.ldc2_w 53, 3) := by decide +kernel
theorem d38_73 : decode method_4_code 73 = .ok (.lcmp, 1) := by decide +kernel
theorem d38_74 : decode method_4_code 74 = .ok (.ifCond .le 9, 3) := by decide +kernel
theorem d38_77 : decode method_4_code 77 = .ok (.iconst 5, 1) := by decide +kernel
theorem d38_78 : decode method_4_code 78 = .ok (.istore 4, 2) := by decide +kernel
theorem d38_80 : decode method_4_code 80 = .ok (.goto 202, 3) := by decide +kernel
theorem d38_83 : decode method_4_code 83 = .ok (.lload_n 2, 1) := by decide +kernel
theorem d38_84 : decode method_4_code 84 = .ok (.ldc2_w 55, 3) := by decide +kernel
theorem d38_87 : decode method_4_code 87 = .ok (.lcmp, 1) := by decide +kernel
theorem d38_88 : decode method_4_code 88 = .ok (.ifCond .le 10, 3) := by decide +kernel
theorem d38_91 : decode method_4_code 91 = .ok (.bipush 6, 2) := by decide +kernel
theorem d38_93 : decode method_4_code 93 = .ok (.istore 4, 2) := by decide +kernel
theorem d38_95 : decode method_4_code 95 = .ok (.goto 187, 3) := by decide +kernel
theorem d38_98 : decode method_4_code 98 = .ok (.lload_n 2, 1) := by decide +kernel
theorem d38_99 : decode method_4_code 99 = .ok (.ldc2_w 57, 3) := by decide +kernel
theorem d38_102 : decode method_4_code 102 = .ok (.lcmp, 1) := by decide +kernel
theorem d38_103 : decode method_4_code 103 = .ok (.ifCond .le 10, 3) := by decide +kernel
theorem d38_106 : decode method_4_code 106 = .ok (.bipush 7, 2) := by decide +kernel
theorem d38_108 : decode method_4_code 108 = .ok (.istore 4, 2) := by decide +kernel
theorem d38_110 : decode method_4_code 110 = .ok (.goto 172, 3) := by decide +kernel
theorem d38_113 : decode method_4_code 113 = .ok (.lload_n 2, 1) := by decide +kernel
theorem d38_114 : decode method_4_code 114 = .ok (.ldc2_w 59, 3) := by decide +kernel
theorem d38_117 : decode method_4_code 117 = .ok (.lcmp, 1) := by decide +kernel
theorem d38_118 : decode method_4_code 118 = .ok (.ifCond .le 10, 3) := by decide +kernel
theorem d38_121 : decode method_4_code 121 = .ok (.bipush 8, 2) := by decide +kernel
theorem d38_123 : decode method_4_code 123 = .ok (.istore 4, 2) := by decide +kernel
theorem d38_125 : decode method_4_code 125 = .ok (.goto 157, 3) := by decide +kernel
theorem d38_128 : decode method_4_code 128 = .ok (.lload_n 2, 1) := by decide +kernel
theorem d38_129 : decode method_4_code 129 = .ok (.ldc2_w 61, 3) := by decide +kernel
theorem d38_132 : decode method_4_code 132 = .ok (.lcmp, 1) := by decide +kernel
theorem d38_133 : decode method_4_code 133 = .ok (.ifCond .le 10, 3) := by decide +kernel
theorem d38_136 : decode method_4_code 136 = .ok (.bipush 9, 2) := by decide +kernel
theorem d38_138 : decode method_4_code 138 = .ok (.istore 4, 2) := by decide +kernel
theorem d38_140 : decode method_4_code 140 = .ok (.goto 142, 3) := by decide +kernel
theorem d38_143 : decode method_4_code 143 = .ok (.lload_n 2, 1) := by decide +kernel
theorem d38_144 : decode method_4_code 144 = .ok (.ldc2_w 63, 3) := by decide +kernel
theorem d38_147 : decode method_4_code 147 = .ok (.lcmp, 1) := by decide +kernel
theorem d38_148 : decode method_4_code 148 = .ok (.ifCond .le 10, 3) := by decide +kernel
theorem d38_151 : decode method_4_code 151 = .ok (.bipush 10, 2) := by decide +kernel
theorem d38_153 : decode method_4_code 153 = .ok (.istore 4, 2) := by decide +kernel
theorem d38_155 : decode method_4_code 155 = .ok (.goto 127, 3) := by decide +kernel
theorem d38_158 : decode method_4_code 158 = .ok (.lload_n 2, 1) := by decide +kernel
theorem d38_159 : decode method_4_code 159 = .ok (.ldc2_w 65, 3) := by decide +kernel
theorem d38_162 : decode method_4_code 162 = .ok (.lcmp, 1) := by decide +kernel
theorem d38_163 : decode method_4_code 163 = .ok (.ifCond .le 10, 3) := by decide +kernel
theorem d38_166 : decode method_4_code 166 = .ok (.bipush 11, 2) := by decide +kernel
theorem d38_168 : decode method_4_code 168 = .ok (.istore 4, 2) := by decide +kernel
theorem d38_170 : decode method_4_code 170 = .ok (.goto 112, 3) := by decide +kernel
theorem d38_173 : decode method_4_code 173 = .ok (.lload_n 2, 1) := by decide +kernel
theorem d38_174 : decode method_4_code 174 = .ok (.ldc2_w 67, 3) := by decide +kernel
theorem d38_177 : decode method_4_code 177 = .ok (.lcmp, 1) := by decide +kernel
theorem d38_178 : decode method_4_code 178 = .ok (.ifCond .le 10, 3) := by decide +kernel
theorem d38_181 : decode method_4_code 181 = .ok (.bipush 12, 2) := by decide +kernel
theorem d38_183 : decode method_4_code 183 = .ok (.istore 4, 2) := by decide +kernel
theorem d38_185 : decode method_4_code 185 = .ok (.goto 97, 3) := by decide +kernel
theorem d38_188 : decode method_4_code 188 = .ok (.lload_n 2, 1) := by decide +kernel
theorem d38_189 : decode method_4_code 189 = .ok (.ldc2_w 69, 3) := by decide +kernel
theorem d38_192 : decode method_4_code 192 = .ok (.lcmp, 1) := by decide +kernel
theorem d38_193 : decode method_4_code 193 = .ok (.ifCond .le 10, 3) := by decide +kernel
theorem d38_196 : decode method_4_code 196 = .ok (.bipush 13, 2) := by decide +kernel
theorem d38_198 : decode method_4_code 198 = .ok (.istore 4, 2) := by decide +kernel
theorem d38_200 : decode method_4_code 200 = .ok (.goto 82, 3) := by decide +kernel
theorem d38_203 : decode method_4_code 203 = .ok (.lload_n 2, 1) := by decide +kernel
theorem d38_204 : decode method_4_code 204 = .ok (.ldc2_w 71, 3) := by decide +kernel
theorem d38_207 : decode method_4_code 207 = .ok (.lcmp, 1) := by decide +kernel
theorem d38_208 : decode method_4_code 208 = .ok (.ifCond .le 10, 3) := by decide +kernel
theorem d38_211 : decode method_4_code 211 = .ok (.bipush 14, 2) := by decide +kernel
theorem d38_213 : decode method_4_code 213 = .ok (.istore 4, 2) := by decide +kernel
theorem d38_215 : decode method_4_code 215 = .ok (.goto 67, 3) := by decide +kernel
theorem d38_218 : decode method_4_code 218 = .ok (.lload_n 2, 1) := by decide +kernel
theorem d38_219 : decode method_4_code 219 = .ok (.ldc2_w 73, 3) := by decide +kernel
theorem d38_222 : decode method_4_code 222 = .ok (.lcmp, 1) := by decide +kernel
theorem d38_223 : decode method_4_code 223 = .ok (.ifCond .le 10, 3) := by decide +kernel
theorem d38_226 : decode method_4_code 226 = .ok (.bipush 15, 2) := by decide +kernel
theorem d38_228 : decode method_4_code 228 = .ok (.istore 4, 2) := by decide +kernel
theorem d38_230 : decode method_4_code 230 = .ok (.goto 52, 3) := by decide +kernel
theorem d38_233 : decode method_4_code 233 = .ok (.lload_n 2, 1) := by decide +kernel
theorem d38_234 : decode method_4_code 234 = .ok (.ldc2_w 75, 3) := by decide +kernel
theorem d38_237 : decode method_4_code 237 = .ok (.lcmp, 1) := by decide +kernel
theorem d38_238 : decode method_4_code 238 = .ok (.ifCond .le 10, 3) := by decide +kernel
theorem d38_241 : decode method_4_code 241 = .ok (.bipush 16, 2) := by decide +kernel
theorem d38_243 : decode method_4_code 243 = .ok (.istore 4, 2) := by decide +kernel
theorem d38_245 : decode method_4_code 245 = .ok (.goto 37, 3) := by decide +kernel
theorem d38_248 : decode method_4_code 248 = .ok (.lload_n 2, 1) := by decide +kernel
theorem d38_249 : decode method_4_code 249 = .ok (.ldc2_w 77, 3) := by decide +kernel
theorem d38_252 : decode method_4_code 252 = .ok (.lcmp, 1) := by decide +kernel
theorem d38_253 : decode method_4_code 253 = .ok (.ifCond .le 10, 3) := by decide +kernel
theorem d38_256 : decode method_4_code 256 = .ok (.bipush 17, 2) := by decide +kernel
theorem d38_258 : decode method_4_code 258 = .ok (.istore 4, 2) := by decide +kernel
theorem d38_260 : decode method_4_code 260 = .ok (.goto 22, 3) := by decide +kernel
theorem d38_263 : decode method_4_code 263 = .ok (.lload_n 2, 1) := by decide +kernel
theorem d38_264 : decode method_4_code 264 = .ok (.ldc2_w 79, 3) := by decide +kernel
theorem d38_267 : decode method_4_code 267 = .ok (.lcmp, 1) := by decide +kernel
theorem d38_268 : decode method_4_code 268 = .ok (.ifCond .le 10, 3) := by decide +kernel
theorem d38_271 : decode method_4_code 271 = .ok (.bipush 18, 2) := by decide +kernel
theorem d38_273 : decode method_4_code 273 = .ok (.istore 4, 2) := by decide +kernel
theorem d38_275 : decode method_4_code 275 = .ok (.goto 7, 3) := by decide +kernel
theorem d38_278 : decode method_4_code 278 = .ok (.bipush 19, 2) := by decide +kernel
theorem d38_280 : decode method_4_code 280 = .ok (.istore 4, 2) := by decide +kernel
theorem d38_282 : decode method_4_code 282 = .ok (.lload_n 0, 1) := by decide +kernel
theorem d38_283 : decode method_4_code 283 = .ok (.lconst 0, 1) := by decide +kernel
theorem d38_284 : decode method_4_code 284 = .ok (.lcmp, 1) := by decide +kernel
theorem d38_285 : decode method_4_code 285 = .ok (.ifCond .ge 10, 3) := by decide +kernel
theorem d38_288 : decode method_4_code 288 = .ok (.iload 4, 2) := by decide +kernel
theorem d38_290 : decode method_4_code 290 = .ok (.iconst 1, 1) := by decide +kernel
theorem d38_291 : decode method_4_code 291 = .ok (.iadd, 1) := by decide +kernel
theorem d38_292 : decode method_4_code 292 = .ok (.goto 5, 3) := by decide +kernel
theorem d38_295 : decode method_4_code 295 = .ok (.iload 4, 2) := by decide +kernel
theorem d38_297 : decode method_4_code 297 = .ok (.ireturn, 1) := by decide +kernel
theorem pn_38 : plainName "com/example/tranche/tranche/journal/JournalEndTornTailPinLaw" = true := by first | (simp [plainName, overriddenIn]; done) | decide +kernel
theorem ef_38 (m : MethodId) (q1 : Int64) : entryFrame m #[(.long q1)] 5 = mkF m 0 #[.val (.long q1), .second, .unset, .unset, .unset] [] := by first | (simp [entryFrame, mkF, argsToLocals, Value.category]; done) | rfl
def f38_282 (q1 : Int64) (y2 : Int64) (y4 : Int32) : Int32 := (if (lcmpW q1 (0 : Int64)) < (0 : Int32) then (y4 + (1 : Int32)) else y4)
def f38 (q1 : Int64) : Int32 := (if (lcmpW q1 (0 : Int64)) < (0 : Int32) then (if (0 : Int32) < (lcmpW q1 (-10 : Int64)) then (f38_282 q1 q1 (1 : Int32)) else (if (0 : Int32) < (lcmpW q1 (-100 : Int64)) then (f38_282 q1 q1 (2 : Int32)) else (if (0 : Int32) < (lcmpW q1 (-1000 : Int64)) then (f38_282 q1 q1 (3 : Int32)) else (if (0 : Int32) < (lcmpW q1 (-10000 : Int64)) then (f38_282 q1 q1 (4 : Int32)) else (if (0 : Int32) < (lcmpW q1 (-100000 : Int64)) then (f38_282 q1 q1 (5 : Int32)) else (if (0 : Int32) < (lcmpW q1 (-1000000 : Int64)) then (f38_282 q1 q1 (6 : Int32)) else (if (0 : Int32) < (lcmpW q1 (-10000000 : Int64)) then (f38_282 q1 q1 (7 : Int32)) else (if (0 : Int32) < (lcmpW q1 (-100000000 : Int64)) then (f38_282 q1 q1 (8 : Int32)) else (if (0 : Int32) < (lcmpW q1 (-1000000000 : Int64)) then (f38_282 q1 q1 (9 : Int32)) else (if (0 : Int32) < (lcmpW q1 (-10000000000 : Int64)) then (f38_282 q1 q1 (10 : Int32)) else (if (0 : Int32) < (lcmpW q1 (-100000000000 : Int64)) then (f38_282 q1 q1 (11 : Int32)) else (if (0 : Int32) < (lcmpW q1 (-1000000000000 : Int64)) then (f38_282 q1 q1 (12 : Int32)) else (if (0 : Int32) < (lcmpW q1 (-10000000000000 : Int64)) then (f38_282 q1 q1 (13 : Int32)) else (if (0 : Int32) < (lcmpW q1 (-100000000000000 : Int64)) then (f38_282 q1 q1 (14 : Int32)) else (if (0 : Int32) < (lcmpW q1 (-1000000000000000 : Int64)) then (f38_282 q1 q1 (15 : Int32)) else (if (0 : Int32) < (lcmpW q1 (-10000000000000000 : Int64)) then (f38_282 q1 q1 (16 : Int32)) else (if (0 : Int32) < (lcmpW q1 (-100000000000000000 : Int64)) then (f38_282 q1 q1 (17 : Int32)) else (if (0 : Int32) < (lcmpW q1 (-1000000000000000000 : Int64)) then (f38_282 q1 q1 (18 : Int32)) else (f38_282 q1 q1 (19 : Int32)))))))))))))))))))) else (if (0 : Int32) < (lcmpW (-q1) (-10 : Int64)) then (f38_282 q1 (-q1) (1 : Int32)) else (if (0 : Int32) < (lcmpW (-q1) (-100 : Int64)) then (f38_282 q1 (-q1) (2 : Int32)) else (if (0 : Int32) < (lcmpW (-q1) (-1000 : Int64)) then (f38_282 q1 (-q1) (3 : Int32)) else (if (0 : Int32) < (lcmpW (-q1) (-10000 : Int64)) then (f38_282 q1 (-q1) (4 : Int32)) else (if (0 : Int32) < (lcmpW (-q1) (-100000 : Int64)) then (f38_282 q1 (-q1) (5 : Int32)) else (if (0 : Int32) < (lcmpW (-q1) (-1000000 : Int64)) then (f38_282 q1 (-q1) (6 : Int32)) else (if (0 : Int32) < (lcmpW (-q1) (-10000000 : Int64)) then (f38_282 q1 (-q1) (7 : Int32)) else (if (0 : Int32) < (lcmpW (-q1) (-100000000 : Int64)) then (f38_282 q1 (-q1) (8 : Int32)) else (if (0 : Int32) < (lcmpW (-q1) (-1000000000 : Int64)) then (f38_282 q1 (-q1) (9 : Int32)) else (if (0 : Int32) < (lcmpW (-q1) (-10000000000 : Int64)) then (f38_282 q1 (-q1) (10 : Int32)) else (if (0 : Int32) < (lcmpW (-q1) (-100000000000 : Int64)) then (f38_282 q1 (-q1) (11 : Int32)) else (if (0 : Int32) < (lcmpW (-q1) (-1000000000000 : Int64)) then (f38_282 q1 (-q1) (12 : Int32)) else (if (0 : Int32) < (lcmpW (-q1) (-10000000000000 : Int64)) then (f38_282 q1 (-q1) (13 : Int32)) else (if (0 : Int32) < (lcmpW (-q1) (-100000000000000 : Int64)) then (f38_282 q1 (-q1) (14 : Int32)) else (if (0 : Int32) < (lcmpW (-q1) (-1000000000000000 : Int64)) then (f38_282 q1 (-q1) (15 : Int32)) else (if (0 : Int32) < (lcmpW (-q1) (-10000000000000000 : Int64)) then (f38_282 q1 (-q1) (16 : Int32)) else (if (0 : Int32) < (lcmpW (-q1) (-100000000000000000 : Int64)) then (f38_282 q1 (-q1) (17 : Int32)) else (if (0 : Int32) < (lcmpW (-q1) (-1000000000000000000 : Int64)) then (f38_282 q1 (-q1) (18 : Int32)) else (f38_282 q1 (-q1) (19 : Int32)))))))))))))))))))))
def Q38 (Z : State) (q1 : Int64) (h0 : Heap) (n0 : Nat) (v : Option Value) (h : Heap) (L : List Loc) : Prop := v = some (.int (f38 q1)) ∧ Fr n0 L ∧ h = h0
set_option maxRecDepth 65536 in
set_option maxHeartbeats 40000000 in
theorem rm38 (l : Launch) (Z : State) (a0 : Array Value) (hw : ∀ d ∈ tables_1, d.before a0 Z = true) (ws : List Jvm.Cond) (q1 : Int64) (h0 : Heap) (n0 : Nat)  :
    MetFree l (⟨"com/example/tranche/tranche/journal/JournalEndTornTailPinLaw", "decLen", "(J)I"⟩ : MethodName) (head1 (Jvm.Cond.code (⟨"com/example/tranche/tranche/journal/JournalEndTornTailPinLaw", "decLen", "(J)I"⟩ : MethodName) method_4_code 5 (some .int) :: ws) ({ frames := 0, cells := 0, slots := 0, locals := 0 } : Room)) (fun a U => a = #[(.long q1)] ∧ Z.Warmed39 U.vm ∧ U.heap = h0) (fun _ _ _ _ _ => True) (fun _ U o U' => ∃ v L, o = .returned v ∧ Q38 Z q1 h0 n0 v U'.heap L ∧ FrameEnd U o U' L ({ frames := 0, cells := 0, slots := 0, locals := 0 } : Room).cells ({ frames := 0, cells := 0, slots := 0, locals := 0 } : Room).slots) := by
  refine MetFree.of_bodySF (plainFor_of_name pn_38) hisR ?_
  intro p e s m args below meth c s₁ Bd hml0 hP hK
  obtain ⟨rfl, hZ, hh⟩ := hP
  have hx := Bd.exec
  have hby := Bd.bytes
  have hml : c.maxLocals = 5 := hml0
  have hown0 := findClass_of_methodNamed Bd.named
  have hown : s.vm.findClass "com/example/tranche/tranche/journal/JournalEndTornTailPinLaw" = some m.cls := hown0
  have hnm := (name_of_methodNamed Bd.named Bd.method).1
  have X0 : Stand p l e ({ frames := 0, cells := 0, slots := 0, locals := 0 } : Room) s m #[(.long q1)] below meth c s₁ [] 0 0 := Stand.of_body Bd
  have e0 : s₁.heap = h0 := by rw [← hh, Bd.state]; rfl
  have N0 := Fr.nil n0
  have pre0 : ∀ t, Steps p.tables e below (s₁.setTop (mkF m 0 #[.val (.long q1), .second, .unset, .unset, .unset] [])) t → Steps p.tables e below (s₁.setTop (entryFrame m #[(.long q1)] 5)) t := fun t k => castTop (ef_38 m q1) k
  refine Classical.byContradiction fun hneg => ?_
  have J282 : ∀ (y2 : Int64), ∀ (y4 : Int32), (∀ t, Steps p.tables e below (s₁.setTop (mkF m 282 #[.val (.long q1), .second, .val (.long y2), .second, .val (.int y4)] [])) t → Steps p.tables e below (s₁.setTop (entryFrame m #[(.long q1)] 5)) t) → f38 q1 = f38_282 q1 y2 y4 → False := by
    intro y2 y4 pre hv
    have pre1 : ∀ t, Steps p.tables e below (s₁.setTop (mkF m 285 #[.val (.long q1), .second, .val (.long y2), .second, .val (.int y4)] [(.int (lcmpW q1 (0 : Int64)))])) t → Steps p.tables e below (s₁.setTop (entryFrame m #[(.long q1)] 5)) t := by
      intro t k
      refine pre t ?_
      show Steps p.tables e below (s₁.setTop (mkF m 282 #[.val (.long q1), .second, .val (.long y2), .second, .val (.int y4)] [])) _
      refine XS.lloadN X0.here hx rfl (hb hby d38_282) rfl ?_
      show Steps p.tables e below (s₁.setTop (mkF m 283 #[.val (.long q1), .second, .val (.long y2), .second, .val (.int y4)] [(.long q1)])) _
      refine XS.lconst X0.here hx rfl (hb hby d38_283) ?_
      show Steps p.tables e below (s₁.setTop (mkF m 284 #[.val (.long q1), .second, .val (.long y2), .second, .val (.int y4)] [(.long (0 : Int64)), (.long q1)])) _
      refine XS.lcmp X0.here hx rfl (hb hby d38_284) rfl ?_
      exact k
    by_cases hc285_2 : (lcmpW q1 (0 : Int64)) < (0 : Int32)
    · refine hneg ?_
      obtain ⟨fs, hr, hrun, hended, hW, hsame⟩ := X0.leave (v := some (.int (y4 + (1 : Int32)))) (fun h => by rw [Bd.returns] at h; cases h)
      refine ⟨_, _, pre1 _ ?_, hrun, hended, _, _, rfl, ?_, ⟨_, rfl⟩, hW, hsame.mono (by decide) (by decide)⟩
      · show Steps p.tables e below (s₁.setTop (mkF m 285 #[.val (.long q1), .second, .val (.long y2), .second, .val (.int y4)] [(.int (lcmpW q1 (0 : Int64)))])) _
        refine XS.ifNo X0.here hx rfl (hb hby d38_285) rfl ((if0 _ _).trans (tlt hc285_2).2.1) ?_
        show Steps p.tables e below (s₁.setTop (mkF m 288 #[.val (.long q1), .second, .val (.long y2), .second, .val (.int y4)] [])) _
        refine XS.iload X0.here hx rfl (hb hby d38_288) rfl ?_
        show Steps p.tables e below (s₁.setTop (mkF m 290 #[.val (.long q1), .second, .val (.long y2), .second, .val (.int y4)] [(.int y4)])) _
        refine XS.iconst X0.here hx rfl (hb hby d38_290) ?_
        show Steps p.tables e below (s₁.setTop (mkF m 291 #[.val (.long q1), .second, .val (.long y2), .second, .val (.int y4)] [(.int (1 : Int32)), (.int y4)])) _
        refine XS.iadd X0.here hx rfl (hb hby d38_291) rfl ?_
        show Steps p.tables e below (s₁.setTop (mkF m 292 #[.val (.long q1), .second, .val (.long y2), .second, .val (.int y4)] [(.int (y4 + (1 : Int32)))])) _
        refine XS.goto X0.here hx rfl (pc0 := 292) (pc' := 297) rfl (hb hby d38_292) (by decide) (by decide) ?_
        show Steps p.tables e below (s₁.setTop (mkF m 297 #[.val (.long q1), .second, .val (.long y2), .second, .val (.int y4)] [(.int (y4 + (1 : Int32)))])) _
        exact retI X0 hx Bd.returns (hb hby d38_297) hr
      · show Q38 Z q1 h0 n0 _ s₁.heap _
        rw [e0]
        refine ⟨?_, N0, rfl⟩
        rw [show f38 q1 = (y4 + (1 : Int32)) from (by rw [hv]; simp only [f38_282, if_pos hc285_2])]
    · refine hneg ?_
      obtain ⟨fs, hr, hrun, hended, hW, hsame⟩ := X0.leave (v := some (.int y4)) (fun h => by rw [Bd.returns] at h; cases h)
      refine ⟨_, _, pre1 _ ?_, hrun, hended, _, _, rfl, ?_, ⟨_, rfl⟩, hW, hsame.mono (by decide) (by decide)⟩
      · show Steps p.tables e below (s₁.setTop (mkF m 285 #[.val (.long q1), .second, .val (.long y2), .second, .val (.int y4)] [(.int (lcmpW q1 (0 : Int64)))])) _
        refine XS.ifYes X0.here hx rfl (pc0 := 285) (pc' := 295) rfl (hb hby d38_285) rfl ((if0 _ _).trans (flt hc285_2).2.1) (by decide) (by decide) ?_
        show Steps p.tables e below (s₁.setTop (mkF m 295 #[.val (.long q1), .second, .val (.long y2), .second, .val (.int y4)] [])) _
        refine XS.iload X0.here hx rfl (hb hby d38_295) rfl ?_
        show Steps p.tables e below (s₁.setTop (mkF m 297 #[.val (.long q1), .second, .val (.long y2), .second, .val (.int y4)] [(.int y4)])) _
        exact retI X0 hx Bd.returns (hb hby d38_297) hr
      · show Q38 Z q1 h0 n0 _ s₁.heap _
        rw [e0]
        refine ⟨?_, N0, rfl⟩
        rw [show f38 q1 = y4 from (by rw [hv]; simp only [f38_282, if_neg hc285_2])]
  have pre3 : ∀ t, Steps p.tables e below (s₁.setTop (mkF m 3 #[.val (.long q1), .second, .unset, .unset, .unset] [(.int (lcmpW q1 (0 : Int64)))])) t → Steps p.tables e below (s₁.setTop (entryFrame m #[(.long q1)] 5)) t := by
    intro t k
    refine pre0 t ?_
    show Steps p.tables e below (s₁.setTop (mkF m 0 #[.val (.long q1), .second, .unset, .unset, .unset] [])) _
    refine XS.lloadN X0.here hx rfl (hb hby d38_0) rfl ?_
    show Steps p.tables e below (s₁.setTop (mkF m 1 #[.val (.long q1), .second, .unset, .unset, .unset] [(.long q1)])) _
    refine XS.lconst X0.here hx rfl (hb hby d38_1) ?_
    show Steps p.tables e below (s₁.setTop (mkF m 2 #[.val (.long q1), .second, .unset, .unset, .unset] [(.long (0 : Int64)), (.long q1)])) _
    refine XS.lcmp X0.here hx rfl (hb hby d38_2) rfl ?_
    exact k
  by_cases hc3_4 : (lcmpW q1 (0 : Int64)) < (0 : Int32)
  · have pre5 : ∀ t, Steps p.tables e below (s₁.setTop (mkF m 18 #[.val (.long q1), .second, .val (.long q1), .second, .unset] [(.int (lcmpW q1 (-10 : Int64)))])) t → Steps p.tables e below (s₁.setTop (entryFrame m #[(.long q1)] 5)) t := by
      intro t k
      refine pre3 t ?_
      show Steps p.tables e below (s₁.setTop (mkF m 3 #[.val (.long q1), .second, .unset, .unset, .unset] [(.int (lcmpW q1 (0 : Int64)))])) _
      refine XS.ifNo X0.here hx rfl (hb hby d38_3) rfl ((if0 _ _).trans (tlt hc3_4).2.1) ?_
      show Steps p.tables e below (s₁.setTop (mkF m 6 #[.val (.long q1), .second, .unset, .unset, .unset] [])) _
      refine XS.lloadN X0.here hx rfl (hb hby d38_6) rfl ?_
      show Steps p.tables e below (s₁.setTop (mkF m 7 #[.val (.long q1), .second, .unset, .unset, .unset] [(.long q1)])) _
      refine XS.goto X0.here hx rfl (pc0 := 7) (pc' := 12) rfl (hb hby d38_7) (by decide) (by decide) ?_
      show Steps p.tables e below (s₁.setTop (mkF m 12 #[.val (.long q1), .second, .unset, .unset, .unset] [(.long q1)])) _
      refine XS.lstoreN X0.here hx rfl (hb hby d38_12) rfl (l' := #[.val (.long q1), .second, .val (.long q1), .second, .unset]) rfl ?_
      show Steps p.tables e below (s₁.setTop (mkF m 13 #[.val (.long q1), .second, .val (.long q1), .second, .unset] [])) _
      refine XS.lloadN X0.here hx rfl (hb hby d38_13) rfl ?_
      show Steps p.tables e below (s₁.setTop (mkF m 14 #[.val (.long q1), .second, .val (.long q1), .second, .unset] [(.long q1)])) _
      refine X0.ldc2Long hx hown (mvT hZ (hw _ (List.mem_of_getElem? (i := 210) rfl))) (g := (mkF m 14 #[.val (.long q1), .second, .val (.long q1), .second, .unset] [(.long q1)])) rfl (hb hby d38_14) _ ?_
      show Steps p.tables e below (s₁.setTop (mkF m 17 #[.val (.long q1), .second, .val (.long q1), .second, .unset] [(.long (-10 : Int64)), (.long q1)])) _
      refine XS.lcmp X0.here hx rfl (hb hby d38_17) rfl ?_
      exact k
    by_cases hc18_6 : (0 : Int32) < (lcmpW q1 (-10 : Int64))
    · have pre7 : ∀ t, Steps p.tables e below (s₁.setTop (mkF m 282 #[.val (.long q1), .second, .val (.long q1), .second, .val (.int (1 : Int32))] [])) t → Steps p.tables e below (s₁.setTop (entryFrame m #[(.long q1)] 5)) t := by
        intro t k
        refine pre5 t ?_
        show Steps p.tables e below (s₁.setTop (mkF m 18 #[.val (.long q1), .second, .val (.long q1), .second, .unset] [(.int (lcmpW q1 (-10 : Int64)))])) _
        refine XS.ifNo X0.here hx rfl (hb hby d38_18) rfl ((if0 _ _).trans (tlt hc18_6).2.2.2) ?_
        show Steps p.tables e below (s₁.setTop (mkF m 21 #[.val (.long q1), .second, .val (.long q1), .second, .unset] [])) _
        refine XS.iconst X0.here hx rfl (hb hby d38_21) ?_
        show Steps p.tables e below (s₁.setTop (mkF m 22 #[.val (.long q1), .second, .val (.long q1), .second, .unset] [(.int (1 : Int32))])) _
        refine XS.istore X0.here hx rfl (hb hby d38_22) rfl (l' := #[.val (.long q1), .second, .val (.long q1), .second, .val (.int (1 : Int32))]) rfl ?_
        show Steps p.tables e below (s₁.setTop (mkF m 24 #[.val (.long q1), .second, .val (.long q1), .second, .val (.int (1 : Int32))] [])) _
        refine XS.goto X0.here hx rfl (pc0 := 24) (pc' := 282) rfl (hb hby d38_24) (by decide) (by decide) ?_
        exact k
      exact J282 q1 (1 : Int32) pre7 (by skip; simp only [f38, if_pos hc3_4, if_pos hc18_6])
    · have pre8 : ∀ t, Steps p.tables e below (s₁.setTop (mkF m 32 #[.val (.long q1), .second, .val (.long q1), .second, .unset] [(.int (lcmpW q1 (-100 : Int64)))])) t → Steps p.tables e below (s₁.setTop (entryFrame m #[(.long q1)] 5)) t := by
        intro t k
        refine pre5 t ?_
        show Steps p.tables e below (s₁.setTop (mkF m 18 #[.val (.long q1), .second, .val (.long q1), .second, .unset] [(.int (lcmpW q1 (-10 : Int64)))])) _
        refine XS.ifYes X0.here hx rfl (pc0 := 18) (pc' := 27) rfl (hb hby d38_18) rfl ((if0 _ _).trans (flt hc18_6).2.2.2) (by decide) (by decide) ?_
        show Steps p.tables e below (s₁.setTop (mkF m 27 #[.val (.long q1), .second, .val (.long q1), .second, .unset] [])) _
        refine XS.lloadN X0.here hx rfl (hb hby d38_27) rfl ?_
        show Steps p.tables e below (s₁.setTop (mkF m 28 #[.val (.long q1), .second, .val (.long q1), .second, .unset] [(.long q1)])) _
        refine X0.ldc2Long hx hown (mvT hZ (hw _ (List.mem_of_getElem? (i := 211) rfl))) (g := (mkF m 28 #[.val (.long q1), .second, .val (.long q1), .second, .unset] [(.long q1)])) rfl (hb hby d38_28) _ ?_
        show Steps p.tables e below (s₁.setTop (mkF m 31 #[.val (.long q1), .second, .val (.long q1), .second, .unset] [(.long (-100 : Int64)), (.long q1)])) _
        refine XS.lcmp X0.here hx rfl (hb hby d38_31) rfl ?_
        exact k
      by_cases hc32_9 : (0 : Int32) < (lcmpW q1 (-100 : Int64))
      · have pre10 : ∀ t, Steps p.tables e below (s₁.setTop (mkF m 282 #[.val (.long q1), .second, .val (.long q1), .second, .val (.int (2 : Int32))] [])) t → Steps p.tables e below (s₁.setTop (entryFrame m #[(.long q1)] 5)) t := by
          intro t k
          refine pre8 t ?_
          show Steps p.tables e below (s₁.setTop (mkF m 32 #[.val (.long q1), .second, .val (.long q1), .second, .unset] [(.int (lcmpW q1 (-100 : Int64)))])) _
          refine XS.ifNo X0.here hx rfl (hb hby d38_32) rfl ((if0 _ _).trans (tlt hc32_9).2.2.2) ?_
          show Steps p.tables e below (s₁.setTop (mkF m 35 #[.val (.long q1), .second, .val (.long q1), .second, .unset] [])) _
          refine XS.iconst X0.here hx rfl (hb hby d38_35) ?_
          show Steps p.tables e below (s₁.setTop (mkF m 36 #[.val (.long q1), .second, .val (.long q1), .second, .unset] [(.int (2 : Int32))])) _
          refine XS.istore X0.here hx rfl (hb hby d38_36) rfl (l' := #[.val (.long q1), .second, .val (.long q1), .second, .val (.int (2 : Int32))]) rfl ?_
          show Steps p.tables e below (s₁.setTop (mkF m 38 #[.val (.long q1), .second, .val (.long q1), .second, .val (.int (2 : Int32))] [])) _
          refine XS.goto X0.here hx rfl (pc0 := 38) (pc' := 282) rfl (hb hby d38_38) (by decide) (by decide) ?_
          exact k
        exact J282 q1 (2 : Int32) pre10 (by skip; simp only [f38, if_pos hc3_4, if_neg hc18_6, if_pos hc32_9])
      · have pre11 : ∀ t, Steps p.tables e below (s₁.setTop (mkF m 46 #[.val (.long q1), .second, .val (.long q1), .second, .unset] [(.int (lcmpW q1 (-1000 : Int64)))])) t → Steps p.tables e below (s₁.setTop (entryFrame m #[(.long q1)] 5)) t := by
          intro t k
          refine pre8 t ?_
          show Steps p.tables e below (s₁.setTop (mkF m 32 #[.val (.long q1), .second, .val (.long q1), .second, .unset] [(.int (lcmpW q1 (-100 : Int64)))])) _
          refine XS.ifYes X0.here hx rfl (pc0 := 32) (pc' := 41) rfl (hb hby d38_32) rfl ((if0 _ _).trans (flt hc32_9).2.2.2) (by decide) (by decide) ?_
          show Steps p.tables e below (s₁.setTop (mkF m 41 #[.val (.long q1), .second, .val (.long q1), .second, .unset] [])) _
          refine XS.lloadN X0.here hx rfl (hb hby d38_41) rfl ?_
          show Steps p.tables e below (s₁.setTop (mkF m 42 #[.val (.long q1), .second, .val (.long q1), .second, .unset] [(.long q1)])) _
          refine X0.ldc2Long hx hown (mvT hZ (hw _ (List.mem_of_getElem? (i := 212) rfl))) (g := (mkF m 42 #[.val (.long q1), .second, .val (.long q1), .second, .unset] [(.long q1)])) rfl (hb hby d38_42) _ ?_
          show Steps p.tables e below (s₁.setTop (mkF m 45 #[.val (.long q1), .second, .val (.long q1), .second, .unset] [(.long (-1000 : Int64)), (.long q1)])) _
          refine XS.lcmp X0.here hx rfl (hb hby d38_45) rfl ?_
          exact k
        by_cases hc46_12 : (0 : Int32) < (lcmpW q1 (-1000 : Int64))
        · have pre13 : ∀ t, Steps p.tables e below (s₁.setTop (mkF m 282 #[.val (.long q1), .second, .val (.long q1), .second, .val (.int (3 : Int32))] [])) t → Steps p.tables e below (s₁.setTop (entryFrame m #[(.long q1)] 5)) t := by
            intro t k
            refine pre11 t ?_
            show Steps p.tables e below (s₁.setTop (mkF m 46 #[.val (.long q1), .second, .val (.long q1), .second, .unset] [(.int (lcmpW q1 (-1000 : Int64)))])) _
            refine XS.ifNo X0.here hx rfl (hb hby d38_46) rfl ((if0 _ _).trans (tlt hc46_12).2.2.2) ?_
            show Steps p.tables e below (s₁.setTop (mkF m 49 #[.val (.long q1), .second, .val (.long q1), .second, .unset] [])) _
            refine XS.iconst X0.here hx rfl (hb hby d38_49) ?_
            show Steps p.tables e below (s₁.setTop (mkF m 50 #[.val (.long q1), .second, .val (.long q1), .second, .unset] [(.int (3 : Int32))])) _
            refine XS.istore X0.here hx rfl (hb hby d38_50) rfl (l' := #[.val (.long q1), .second, .val (.long q1), .second, .val (.int (3 : Int32))]) rfl ?_
            show Steps p.tables e below (s₁.setTop (mkF m 52 #[.val (.long q1), .second, .val (.long q1), .second, .val (.int (3 : Int32))] [])) _
            refine XS.goto X0.here hx rfl (pc0 := 52) (pc' := 282) rfl (hb hby d38_52) (by decide) (by decide) ?_
            exact k
          exact J282 q1 (3 : Int32) pre13 (by skip; simp only [f38, if_pos hc3_4, if_neg hc18_6, if_neg hc32_9, if_pos hc46_12])
        · have pre14 : ∀ t, Steps p.tables e below (s₁.setTop (mkF m 60 #[.val (.long q1), .second, .val (.long q1), .second, .unset] [(.int (lcmpW q1 (-10000 : Int64)))])) t → Steps p.tables e below (s₁.setTop (entryFrame m #[(.long q1)] 5)) t := by
            intro t k
            refine pre11 t ?_
            show Steps p.tables e below (s₁.setTop (mkF m 46 #[.val (.long q1), .second, .val (.long q1), .second, .unset] [(.int (lcmpW q1 (-1000 : Int64)))])) _
            refine XS.ifYes X0.here hx rfl (pc0 := 46) (pc' := 55) rfl (hb hby d38_46) rfl ((if0 _ _).trans (flt hc46_12).2.2.2) (by decide) (by decide) ?_
            show Steps p.tables e below (s₁.setTop (mkF m 55 #[.val (.long q1), .second, .val (.long q1), .second, .unset] [])) _
            refine XS.lloadN X0.here hx rfl (hb hby d38_55) rfl ?_
            show Steps p.tables e below (s₁.setTop (mkF m 56 #[.val (.long q1), .second, .val (.long q1), .second, .unset] [(.long q1)])) _
            refine X0.ldc2Long hx hown (mvT hZ (hw _ (List.mem_of_getElem? (i := 213) rfl))) (g := (mkF m 56 #[.val (.long q1), .second, .val (.long q1), .second, .unset] [(.long q1)])) rfl (hb hby d38_56) _ ?_
            show Steps p.tables e below (s₁.setTop (mkF m 59 #[.val (.long q1), .second, .val (.long q1), .second, .unset] [(.long (-10000 : Int64)), (.long q1)])) _
            refine XS.lcmp X0.here hx rfl (hb hby d38_59) rfl ?_
            exact k
          by_cases hc60_15 : (0 : Int32) < (lcmpW q1 (-10000 : Int64))
          · have pre16 : ∀ t, Steps p.tables e below (s₁.setTop (mkF m 282 #[.val (.long q1), .second, .val (.long q1), .second, .val (.int (4 : Int32))] [])) t → Steps p.tables e below (s₁.setTop (entryFrame m #[(.long q1)] 5)) t := by
              intro t k
              refine pre14 t ?_
              show Steps p.tables e below (s₁.setTop (mkF m 60 #[.val (.long q1), .second, .val (.long q1), .second, .unset] [(.int (lcmpW q1 (-10000 : Int64)))])) _
              refine XS.ifNo X0.here hx rfl (hb hby d38_60) rfl ((if0 _ _).trans (tlt hc60_15).2.2.2) ?_
              show Steps p.tables e below (s₁.setTop (mkF m 63 #[.val (.long q1), .second, .val (.long q1), .second, .unset] [])) _
              refine XS.iconst X0.here hx rfl (hb hby d38_63) ?_
              show Steps p.tables e below (s₁.setTop (mkF m 64 #[.val (.long q1), .second, .val (.long q1), .second, .unset] [(.int (4 : Int32))])) _
              refine XS.istore X0.here hx rfl (hb hby d38_64) rfl (l' := #[.val (.long q1), .second, .val (.long q1), .second, .val (.int (4 : Int32))]) rfl ?_
              show Steps p.tables e below (s₁.setTop (mkF m 66 #[.val (.long q1), .second, .val (.long q1), .second, .val (.int (4 : Int32))] [])) _
              refine XS.goto X0.here hx rfl (pc0 := 66) (pc' := 282) rfl (hb hby d38_66) (by decide) (by decide) ?_
              exact k
            exact J282 q1 (4 : Int32) pre16 (by skip; simp only [f38, if_pos hc3_4, if_neg hc18_6, if_neg hc32_9, if_neg hc46_12, if_pos hc60_15])
          · have pre17 : ∀ t, Steps p.tables e below (s₁.setTop (mkF m 74 #[.val (.long q1), .second, .val (.long q1), .second, .unset] [(.int (lcmpW q1 (-100000 : Int64)))])) t → Steps p.tables e below (s₁.setTop (entryFrame m #[(.long q1)] 5)) t := by
              intro t k
              refine pre14 t ?_
              show Steps p.tables e below (s₁.setTop (mkF m 60 #[.val (.long q1), .second, .val (.long q1), .second, .unset] [(.int (lcmpW q1 (-10000 : Int64)))])) _
              refine XS.ifYes X0.here hx rfl (pc0 := 60) (pc' := 69) rfl (hb hby d38_60) rfl ((if0 _ _).trans (flt hc60_15).2.2.2) (by decide) (by decide) ?_
              show Steps p.tables e below (s₁.setTop (mkF m 69 #[.val (.long q1), .second, .val (.long q1), .second, .unset] [])) _
              refine XS.lloadN X0.here hx rfl (hb hby d38_69) rfl ?_
              show Steps p.tables e below (s₁.setTop (mkF m 70 #[.val (.long q1), .second, .val (.long q1), .second, .unset] [(.long q1)])) _
              refine X0.ldc2Long hx hown (mvT hZ (hw _ (List.mem_of_getElem? (i := 214) rfl))) (g := (mkF m 70 #[.val (.long q1), .second, .val (.long q1), .second, .unset] [(.long q1)])) rfl (hb hby d38_70) _ ?_
              show Steps p.tables e below (s₁.setTop (mkF m 73 #[.val (.long q1), .second, .val (.long q1), .second, .unset] [(.long (-100000 : Int64)), (.long q1)])) _
              refine XS.lcmp X0.here hx rfl (hb hby d38_73) rfl ?_
              exact k
            by_cases hc74_18 : (0 : Int32) < (lcmpW q1 (-100000 : Int64))
            · have pre19 : ∀ t, Steps p.tables e below (s₁.setTop (mkF m 282 #[.val (.long q1), .second, .val (.long q1), .second, .val (.int (5 : Int32))] [])) t → Steps p.tables e below (s₁.setTop (entryFrame m #[(.long q1)] 5)) t := by
                intro t k
                refine pre17 t ?_
                show Steps p.tables e below (s₁.setTop (mkF m 74 #[.val (.long q1), .second, .val (.long q1), .second, .unset] [(.int (lcmpW q1 (-100000 : Int64)))])) _
                refine XS.ifNo X0.here hx rfl (hb hby d38_74) rfl ((if0 _ _).trans (tlt hc74_18).2.2.2) ?_
                show Steps p.tables e below (s₁.setTop (mkF m 77 #[.val (.long q1), .second, .val (.long q1), .second, .unset] [])) _
                refine XS.iconst X0.here hx rfl (hb hby d38_77) ?_
                show Steps p.tables e below (s₁.setTop (mkF m 78 #[.val (.long q1), .second, .val (.long q1), .second, .unset] [(.int (5 : Int32))])) _
                refine XS.istore X0.here hx rfl (hb hby d38_78) rfl (l' := #[.val (.long q1), .second, .val (.long q1), .second, .val (.int (5 : Int32))]) rfl ?_
                show Steps p.tables e below (s₁.setTop (mkF m 80 #[.val (.long q1), .second, .val (.long q1), .second, .val (.int (5 : Int32))] [])) _
                refine XS.goto X0.here hx rfl (pc0 := 80) (pc' := 282) rfl (hb hby d38_80) (by decide) (by decide) ?_
                exact k
              exact J282 q1 (5 : Int32) pre19 (by skip; simp only [f38, if_pos hc3_4, if_neg hc18_6, if_neg hc32_9, if_neg hc46_12, if_neg hc60_15, if_pos hc74_18])
            · have pre20 : ∀ t, Steps p.tables e below (s₁.setTop (mkF m 88 #[.val (.long q1), .second, .val (.long q1), .second, .unset] [(.int (lcmpW q1 (-1000000 : Int64)))])) t → Steps p.tables e below (s₁.setTop (entryFrame m #[(.long q1)] 5)) t := by
                intro t k
                refine pre17 t ?_
                show Steps p.tables e below (s₁.setTop (mkF m 74 #[.val (.long q1), .second, .val (.long q1), .second, .unset] [(.int (lcmpW q1 (-100000 : Int64)))])) _
                refine XS.ifYes X0.here hx rfl (pc0 := 74) (pc' := 83) rfl (hb hby d38_74) rfl ((if0 _ _).trans (flt hc74_18).2.2.2) (by decide) (by decide) ?_
                show Steps p.tables e below (s₁.setTop (mkF m 83 #[.val (.long q1), .second, .val (.long q1), .second, .unset] [])) _
                refine XS.lloadN X0.here hx rfl (hb hby d38_83) rfl ?_
                show Steps p.tables e below (s₁.setTop (mkF m 84 #[.val (.long q1), .second, .val (.long q1), .second, .unset] [(.long q1)])) _
                refine X0.ldc2Long hx hown (mvT hZ (hw _ (List.mem_of_getElem? (i := 215) rfl))) (g := (mkF m 84 #[.val (.long q1), .second, .val (.long q1), .second, .unset] [(.long q1)])) rfl (hb hby d38_84) _ ?_
                show Steps p.tables e below (s₁.setTop (mkF m 87 #[.val (.long q1), .second, .val (.long q1), .second, .unset] [(.long (-1000000 : Int64)), (.long q1)])) _
                refine XS.lcmp X0.here hx rfl (hb hby d38_87) rfl ?_
                exact k
              by_cases hc88_21 : (0 : Int32) < (lcmpW q1 (-1000000 : Int64))
              · have pre22 : ∀ t, Steps p.tables e below (s₁.setTop (mkF m 282 #[.val (.long q1), .second, .val (.long q1), .second, .val (.int (6 : Int32))] [])) t → Steps p.tables e below (s₁.setTop (entryFrame m #[(.long q1)] 5)) t := by
                  intro t k
                  refine pre20 t ?_
                  show Steps p.tables e below (s₁.setTop (mkF m 88 #[.val (.long q1), .second, .val (.long q1), .second, .unset] [(.int (lcmpW q1 (-1000000 : Int64)))])) _
                  refine XS.ifNo X0.here hx rfl (hb hby d38_88) rfl ((if0 _ _).trans (tlt hc88_21).2.2.2) ?_
                  show Steps p.tables e below (s₁.setTop (mkF m 91 #[.val (.long q1), .second, .val (.long q1), .second, .unset] [])) _
                  refine XS.bipush X0.here hx rfl (hb hby d38_91) ?_
                  show Steps p.tables e below (s₁.setTop (mkF m 93 #[.val (.long q1), .second, .val (.long q1), .second, .unset] [(.int (6 : Int32))])) _
                  refine XS.istore X0.here hx rfl (hb hby d38_93) rfl (l' := #[.val (.long q1), .second, .val (.long q1), .second, .val (.int (6 : Int32))]) rfl ?_
                  show Steps p.tables e below (s₁.setTop (mkF m 95 #[.val (.long q1), .second, .val (.long q1), .second, .val (.int (6 : Int32))] [])) _
                  refine XS.goto X0.here hx rfl (pc0 := 95) (pc' := 282) rfl (hb hby d38_95) (by decide) (by decide) ?_
                  exact k
                exact J282 q1 (6 : Int32) pre22 (by skip; simp only [f38, if_pos hc3_4, if_neg hc18_6, if_neg hc32_9, if_neg hc46_12, if_neg hc60_15, if_neg hc74_18, if_pos hc88_21])
              · have pre23 : ∀ t, Steps p.tables e below (s₁.setTop (mkF m 103 #[.val (.long q1), .second, .val (.long q1), .second, .unset] [(.int (lcmpW q1 (-10000000 : Int64)))])) t → Steps p.tables e below (s₁.setTop (entryFrame m #[(.long q1)] 5)) t := by
                  intro t k
                  refine pre20 t ?_
                  show Steps p.tables e below (s₁.setTop (mkF m 88 #[.val (.long q1), .second, .val (.long q1), .second, .unset] [(.int (lcmpW q1 (-1000000 : Int64)))])) _
                  refine XS.ifYes X0.here hx rfl (pc0 := 88) (pc' := 98) rfl (hb hby d38_88) rfl ((if0 _ _).trans (flt hc88_21).2.2.2) (by decide) (by decide) ?_
                  show Steps p.tables e below (s₁.setTop (mkF m 98 #[.val (.long q1), .second, .val (.long q1), .second, .unset] [])) _
                  refine XS.lloadN X0.here hx rfl (hb hby d38_98) rfl ?_
                  show Steps p.tables e below (s₁.setTop (mkF m 99 #[.val (.long q1), .second, .val (.long q1), .second, .unset] [(.long q1)])) _
                  refine X0.ldc2Long hx hown (mvT hZ (hw _ (List.mem_of_getElem? (i := 216) rfl))) (g := (mkF m 99 #[.val (.long q1), .second, .val (.long q1), .second, .unset] [(.long q1)])) rfl (hb hby d38_99) _ ?_
                  show Steps p.tables e below (s₁.setTop (mkF m 102 #[.val (.long q1), .second, .val (.long q1), .second, .unset] [(.long (-10000000 : Int64)), (.long q1)])) _
                  refine XS.lcmp X0.here hx rfl (hb hby d38_102) rfl ?_
                  exact k
                by_cases hc103_24 : (0 : Int32) < (lcmpW q1 (-10000000 : Int64))
                · have pre25 : ∀ t, Steps p.tables e below (s₁.setTop (mkF m 282 #[.val (.long q1), .second, .val (.long q1), .second, .val (.int (7 : Int32))] [])) t → Steps p.tables e below (s₁.setTop (entryFrame m #[(.long q1)] 5)) t := by
                    intro t k
                    refine pre23 t ?_
                    show Steps p.tables e below (s₁.setTop (mkF m 103 #[.val (.long q1), .second, .val (.long q1), .second, .unset] [(.int (lcmpW q1 (-10000000 : Int64)))])) _
                    refine XS.ifNo X0.here hx rfl (hb hby d38_103) rfl ((if0 _ _).trans (tlt hc103_24).2.2.2) ?_
                    show Steps p.tables e below (s₁.setTop (mkF m 106 #[.val (.long q1), .second, .val (.long q1), .second, .unset] [])) _
                    refine XS.bipush X0.here hx rfl (hb hby d38_106) ?_
                    show Steps p.tables e below (s₁.setTop (mkF m 108 #[.val (.long q1), .second, .val (.long q1), .second, .unset] [(.int (7 : Int32))])) _
                    refine XS.istore X0.here hx rfl (hb hby d38_108) rfl (l' := #[.val (.long q1), .second, .val (.long q1), .second, .val (.int (7 : Int32))]) rfl ?_
                    show Steps p.tables e below (s₁.setTop (mkF m 110 #[.val (.long q1), .second, .val (.long q1), .second, .val (.int (7 : Int32))] [])) _
                    refine XS.goto X0.here hx rfl (pc0 := 110) (pc' := 282) rfl (hb hby d38_110) (by decide) (by decide) ?_
                    exact k
                  exact J282 q1 (7 : Int32) pre25 (by skip; simp only [f38, if_pos hc3_4, if_neg hc18_6, if_neg hc32_9, if_neg hc46_12, if_neg hc60_15, if_neg hc74_18, if_neg hc88_21, if_pos hc103_24])
                · have pre26 : ∀ t, Steps p.tables e below (s₁.setTop (mkF m 118 #[.val (.long q1), .second, .val (.long q1), .second, .unset] [(.int (lcmpW q1 (-100000000 : Int64)))])) t → Steps p.tables e below (s₁.setTop (entryFrame m #[(.long q1)] 5)) t := by
                    intro t k
                    refine pre23 t ?_
                    show Steps p.tables e below (s₁.setTop (mkF m 103 #[.val (.long q1), .second, .val (.long q1), .second, .unset] [(.int (lcmpW q1 (-10000000 : Int64)))])) _
                    refine XS.ifYes X0.here hx rfl (pc0 := 103) (pc' := 113) rfl (hb hby d38_103) rfl ((if0 _ _).trans (flt hc103_24).2.2.2) (by decide) (by decide) ?_
                    show Steps p.tables e below (s₁.setTop (mkF m 113 #[.val (.long q1), .second, .val (.long q1), .second, .unset] [])) _
                    refine XS.lloadN X0.here hx rfl (hb hby d38_113) rfl ?_
                    show Steps p.tables e below (s₁.setTop (mkF m 114 #[.val (.long q1), .second, .val (.long q1), .second, .unset] [(.long q1)])) _
                    refine X0.ldc2Long hx hown (mvT hZ (hw _ (List.mem_of_getElem? (i := 217) rfl))) (g := (mkF m 114 #[.val (.long q1), .second, .val (.long q1), .second, .unset] [(.long q1)])) rfl (hb hby d38_114) _ ?_
                    show Steps p.tables e below (s₁.setTop (mkF m 117 #[.val (.long q1), .second, .val (.long q1), .second, .unset] [(.long (-100000000 : Int64)), (.long q1)])) _
                    refine XS.lcmp X0.here hx rfl (hb hby d38_117) rfl ?_
                    exact k
                  by_cases hc118_27 : (0 : Int32) < (lcmpW q1 (-100000000 : Int64))
                  · have pre28 : ∀ t, Steps p.tables e below (s₁.setTop (mkF m 282 #[.val (.long q1), .second, .val (.long q1), .second, .val (.int (8 : Int32))] [])) t → Steps p.tables e below (s₁.setTop (entryFrame m #[(.long q1)] 5)) t := by
                      intro t k
                      refine pre26 t ?_
                      show Steps p.tables e below (s₁.setTop (mkF m 118 #[.val (.long q1), .second, .val (.long q1), .second, .unset] [(.int (lcmpW q1 (-100000000 : Int64)))])) _
                      refine XS.ifNo X0.here hx rfl (hb hby d38_118) rfl ((if0 _ _).trans (tlt hc118_27).2.2.2) ?_
                      show Steps p.tables e below (s₁.setTop (mkF m 121 #[.val (.long q1), .second, .val (.long q1), .second, .unset] [])) _
                      refine XS.bipush X0.here hx rfl (hb hby d38_121) ?_
                      show Steps p.tables e below (s₁.setTop (mkF m 123 #[.val (.long q1), .second, .val (.long q1), .second, .unset] [(.int (8 : Int32))])) _
                      refine XS.istore X0.here hx rfl (hb hby d38_123) rfl (l' := #[.val (.long q1), .second, .val (.long q1), .second, .val (.int (8 : Int32))]) rfl ?_
                      show Steps p.tables e below (s₁.setTop (mkF m 125 #[.val (.long q1), .second, .val (.long q1), .second, .val (.int (8 : Int32))] [])) _
                      refine XS.goto X0.here hx rfl (pc0 := 125) (pc' := 282) rfl (hb hby d38_125) (by decide) (by decide) ?_
                      exact k
                    exact J282 q1 (8 : Int32) pre28 (by skip; simp only [f38, if_pos hc3_4, if_neg hc18_6, if_neg hc32_9, if_neg hc46_12, if_neg hc60_15, if_neg hc74_18, if_neg hc88_21, if_neg hc103_24, if_pos hc118_27])
                  · have pre29 : ∀ t, Steps p.tables e below (s₁.setTop (mkF m 133 #[.val (.long q1), .second, .val (.long q1), .second, .unset] [(.int (lcmpW q1 (-1000000000 : Int64)))])) t → Steps p.tables e below (s₁.setTop (entryFrame m #[(.long q1)] 5)) t := by
                      intro t k
                      refine pre26 t ?_
                      show Steps p.tables e below (s₁.setTop (mkF m 118 #[.val (.long q1), .second, .val (.long q1), .second, .unset] [(.int (lcmpW q1 (-100000000 : Int64)))])) _
                      refine XS.ifYes X0.here hx rfl (pc0 := 118) (pc' := 128) rfl (hb hby d38_118) rfl ((if0 _ _).trans (flt hc118_27).2.2.2) (by decide) (by decide) ?_
                      show Steps p.tables e below (s₁.setTop (mkF m 128 #[.val (.long q1), .second, .val (.long q1), .second, .unset] [])) _
                      refine XS.lloadN X0.here hx rfl (hb hby d38_128) rfl ?_
                      show Steps p.tables e below (s₁.setTop (mkF m 129 #[.val (.long q1), .second, .val (.long q1), .second, .unset] [(.long q1)])) _
                      refine X0.ldc2Long hx hown (mvT hZ (hw _ (List.mem_of_getElem? (i := 218) rfl))) (g := (mkF m 129 #[.val (.long q1), .second, .val (.long q1), .second, .unset] [(.long q1)])) rfl (hb hby d38_129) _ ?_
                      show Steps p.tables e below (s₁.setTop (mkF m 132 #[.val (.long q1), .second, .val (.long q1), .second, .unset] [(.long (-1000000000 : Int64)), (.long q1)])) _
                      refine XS.lcmp X0.here hx rfl (hb hby d38_132) rfl ?_
                      exact k
                    by_cases hc133_30 : (0 : Int32) < (lcmpW q1 (-1000000000 : Int64))
                    · have pre31 : ∀ t, Steps p.tables e below (s₁.setTop (mkF m 282 #[.val (.long q1), .second, .val (.long q1), .second, .val (.int (9 : Int32))] [])) t → Steps p.tables e below (s₁.setTop (entryFrame m #[(.long q1)] 5)) t := by
                        intro t k
                        refine pre29 t ?_
                        show Steps p.tables e below (s₁.setTop (mkF m 133 #[.val (.long q1), .second, .val (.long q1), .second, .unset] [(.int (lcmpW q1 (-1000000000 : Int64)))])) _
                        refine XS.ifNo X0.here hx rfl (hb hby d38_133) rfl ((if0 _ _).trans (tlt hc133_30).2.2.2) ?_
                        show Steps p.tables e below (s₁.setTop (mkF m 136 #[.val (.long q1), .second, .val (.long q1), .second, .unset] [])) _
                        refine XS.bipush X0.here hx rfl (hb hby d38_136) ?_
                        show Steps p.tables e below (s₁.setTop (mkF m 138 #[.val (.long q1), .second, .val (.long q1), .second, .unset] [(.int (9 : Int32))])) _
                        refine XS.istore X0.here hx rfl (hb hby d38_138) rfl (l' := #[.val (.long q1), .second, .val (.long q1), .second, .val (.int (9 : Int32))]) rfl ?_
                        show Steps p.tables e below (s₁.setTop (mkF m 140 #[.val (.long q1), .second, .val (.long q1), .second, .val (.int (9 : Int32))] [])) _
                        refine XS.goto X0.here hx rfl (pc0 := 140) (pc' := 282) rfl (hb hby d38_140) (by decide) (by decide) ?_
                        exact k
                      exact J282 q1 (9 : Int32) pre31 (by skip; simp only [f38, if_pos hc3_4, if_neg hc18_6, if_neg hc32_9, if_neg hc46_12, if_neg hc60_15, if_neg hc74_18, if_neg hc88_21, if_neg hc103_24, if_neg hc118_27, if_pos hc133_30])
                    · have pre32 : ∀ t, Steps p.tables e below (s₁.setTop (mkF m 148 #[.val (.long q1), .second, .val (.long q1), .second, .unset] [(.int (lcmpW q1 (-10000000000 : Int64)))])) t → Steps p.tables e below (s₁.setTop (entryFrame m #[(.long q1)] 5)) t := by
                        intro t k
                        refine pre29 t ?_
                        show Steps p.tables e below (s₁.setTop (mkF m 133 #[.val (.long q1), .second, .val (.long q1), .second, .unset] [(.int (lcmpW q1 (-1000000000 : Int64)))])) _
                        refine XS.ifYes X0.here hx rfl (pc0 := 133) (pc' := 143) rfl (hb hby d38_133) rfl ((if0 _ _).trans (flt hc133_30).2.2.2) (by decide) (by decide) ?_
                        show Steps p.tables e below (s₁.setTop (mkF m 143 #[.val (.long q1), .second, .val (.long q1), .second, .unset] [])) _
                        refine XS.lloadN X0.here hx rfl (hb hby d38_143) rfl ?_
                        show Steps p.tables e below (s₁.setTop (mkF m 144 #[.val (.long q1), .second, .val (.long q1), .second, .unset] [(.long q1)])) _
                        refine X0.ldc2Long hx hown (mvT hZ (hw _ (List.mem_of_getElem? (i := 219) rfl))) (g := (mkF m 144 #[.val (.long q1), .second, .val (.long q1), .second, .unset] [(.long q1)])) rfl (hb hby d38_144) _ ?_
                        show Steps p.tables e below (s₁.setTop (mkF m 147 #[.val (.long q1), .second, .val (.long q1), .second, .unset] [(.long (-10000000000 : Int64)), (.long q1)])) _
                        refine XS.lcmp X0.here hx rfl (hb hby d38_147) rfl ?_
                        exact k
                      by_cases hc148_33 : (0 : Int32) < (lcmpW q1 (-10000000000 : Int64))
                      · have pre34 : ∀ t, Steps p.tables e below (s₁.setTop (mkF m 282 #[.val (.long q1), .second, .val (.long q1), .second, .val (.int (10 : Int32))] [])) t → Steps p.tables e below (s₁.setTop (entryFrame m #[(.long q1)] 5)) t := by
                          intro t k
                          refine pre32 t ?_
                          show Steps p.tables e below (s₁.setTop (mkF m 148 #[.val (.long q1), .second, .val (.long q1), .second, .unset] [(.int (lcmpW q1 (-10000000000 : Int64)))])) _
                          refine XS.ifNo X0.here hx rfl (hb hby d38_148) rfl ((if0 _ _).trans (tlt hc148_33).2.2.2) ?_
                          show Steps p.tables e below (s₁.setTop (mkF m 151 #[.val (.long q1), .second, .val (.long q1), .second, .unset] [])) _
                          refine XS.bipush X0.here hx rfl (hb hby d38_151) ?_
                          show Steps p.tables e below (s₁.setTop (mkF m 153 #[.val (.long q1), .second, .val (.long q1), .second, .unset] [(.int (10 : Int32))])) _
                          refine XS.istore X0.here hx rfl (hb hby d38_153) rfl (l' := #[.val (.long q1), .second, .val (.long q1), .second, .val (.int (10 : Int32))]) rfl ?_
                          show Steps p.tables e below (s₁.setTop (mkF m 155 #[.val (.long q1), .second, .val (.long q1), .second, .val (.int (10 : Int32))] [])) _
                          refine XS.goto X0.here hx rfl (pc0 := 155) (pc' := 282) rfl (hb hby d38_155) (by decide) (by decide) ?_
                          exact k
                        exact J282 q1 (10 : Int32) pre34 (by skip; simp only [f38, if_pos hc3_4, if_neg hc18_6, if_neg hc32_9, if_neg hc46_12, if_neg hc60_15, if_neg hc74_18, if_neg hc88_21, if_neg hc103_24, if_neg hc118_27, if_neg hc133_30, if_pos hc148_33])
                      · have pre35 : ∀ t, Steps p.tables e below (s₁.setTop (mkF m 163 #[.val (.long q1), .second, .val (.long q1), .second, .unset] [(.int (lcmpW q1 (-100000000000 : Int64)))])) t → Steps p.tables e below (s₁.setTop (entryFrame m #[(.long q1)] 5)) t := by
                          intro t k
                          refine pre32 t ?_
                          show Steps p.tables e below (s₁.setTop (mkF m 148 #[.val (.long q1), .second, .val (.long q1), .second, .unset] [(.int (lcmpW q1 (-10000000000 : Int64)))])) _
                          refine XS.ifYes X0.here hx rfl (pc0 := 148) (pc' := 158) rfl (hb hby d38_148) rfl ((if0 _ _).trans (flt hc148_33).2.2.2) (by decide) (by decide) ?_
                          show Steps p.tables e below (s₁.setTop (mkF m 158 #[.val (.long q1), .second, .val (.long q1), .second, .unset] [])) _
                          refine XS.lloadN X0.here hx rfl (hb hby d38_158) rfl ?_
                          show Steps p.tables e below (s₁.setTop (mkF m 159 #[.val (.long q1), .second, .val (.long q1), .second, .unset] [(.long q1)])) _
                          refine X0.ldc2Long hx hown (mvT hZ (hw _ (List.mem_of_getElem? (i := 220) rfl))) (g := (mkF m 159 #[.val (.long q1), .second, .val (.long q1), .second, .unset] [(.long q1)])) rfl (hb hby d38_159) _ ?_
                          show Steps p.tables e below (s₁.setTop (mkF m 162 #[.val (.long q1), .second, .val (.long q1), .second, .unset] [(.long (-100000000000 : Int64)), (.long q1)])) _
                          refine XS.lcmp X0.here hx rfl (hb hby d38_162) rfl ?_
                          exact k
                        by_cases hc163_36 : (0 : Int32) < (lcmpW q1 (-100000000000 : Int64))
                        · have pre37 : ∀ t, Steps p.tables e below (s₁.setTop (mkF m 282 #[.val (.long q1), .second, .val (.long q1), .second, .val (.int (11 : Int32))] [])) t → Steps p.tables e below (s₁.setTop (entryFrame m #[(.long q1)] 5)) t := by
                            intro t k
                            refine pre35 t ?_
                            show Steps p.tables e below (s₁.setTop (mkF m 163 #[.val (.long q1), .second, .val (.long q1), .second, .unset] [(.int (lcmpW q1 (-100000000000 : Int64)))])) _
                            refine XS.ifNo X0.here hx rfl (hb hby d38_163) rfl ((if0 _ _).trans (tlt hc163_36).2.2.2) ?_
                            show Steps p.tables e below (s₁.setTop (mkF m 166 #[.val (.long q1), .second, .val (.long q1), .second, .unset] [])) _
                            refine XS.bipush X0.here hx rfl (hb hby d38_166) ?_
                            show Steps p.tables e below (s₁.setTop (mkF m 168 #[.val (.long q1), .second, .val (.long q1), .second, .unset] [(.int (11 : Int32))])) _
                            refine XS.istore X0.here hx rfl (hb hby d38_168) rfl (l' := #[.val (.long q1), .second, .val (.long q1), .second, .val (.int (11 : Int32))]) rfl ?_
                            show Steps p.tables e below (s₁.setTop (mkF m 170 #[.val (.long q1), .second, .val (.long q1), .second, .val (.int (11 : Int32))] [])) _
                            refine XS.goto X0.here hx rfl (pc0 := 170) (pc' := 282) rfl (hb hby d38_170) (by decide) (by decide) ?_
                            exact k
                          exact J282 q1 (11 : Int32) pre37 (by skip; simp only [f38, if_pos hc3_4, if_neg hc18_6, if_neg hc32_9, if_neg hc46_12, if_neg hc60_15, if_neg hc74_18, if_neg hc88_21, if_neg hc103_24, if_neg hc118_27, if_neg hc133_30, if_neg hc148_33, if_pos hc163_36])
                        · have pre38 : ∀ t, Steps p.tables e below (s₁.setTop (mkF m 178 #[.val (.long q1), .second, .val (.long q1), .second, .unset] [(.int (lcmpW q1 (-1000000000000 : Int64)))])) t → Steps p.tables e below (s₁.setTop (entryFrame m #[(.long q1)] 5)) t := by
                            intro t k
                            refine pre35 t ?_
                            show Steps p.tables e below (s₁.setTop (mkF m 163 #[.val (.long q1), .second, .val (.long q1), .second, .unset] [(.int (lcmpW q1 (-100000000000 : Int64)))])) _
                            refine XS.ifYes X0.here hx rfl (pc0 := 163) (pc' := 173) rfl (hb hby d38_163) rfl ((if0 _ _).trans (flt hc163_36).2.2.2) (by decide) (by decide) ?_
                            show Steps p.tables e below (s₁.setTop (mkF m 173 #[.val (.long q1), .second, .val (.long q1), .second, .unset] [])) _
                            refine XS.lloadN X0.here hx rfl (hb hby d38_173) rfl ?_
                            show Steps p.tables e below (s₁.setTop (mkF m 174 #[.val (.long q1), .second, .val (.long q1), .second, .unset] [(.long q1)])) _
                            refine X0.ldc2Long hx hown (mvT hZ (hw _ (List.mem_of_getElem? (i := 221) rfl))) (g := (mkF m 174 #[.val (.long q1), .second, .val (.long q1), .second, .unset] [(.long q1)])) rfl (hb hby d38_174) _ ?_
                            show Steps p.tables e below (s₁.setTop (mkF m 177 #[.val (.long q1), .second, .val (.long q1), .second, .unset] [(.long (-1000000000000 : Int64)), (.long q1)])) _
                            refine XS.lcmp X0.here hx rfl (hb hby d38_177) rfl ?_
                            exact k
                          by_cases hc178_39 : (0 : Int32) < (lcmpW q1 (-1000000000000 : Int64))
                          · have pre40 : ∀ t, Steps p.tables e below (s₁.setTop (mkF m 282 #[.val (.long q1), .second, .val (.long q1), .second, .val (.int (12 : Int32))] [])) t → Steps p.tables e below (s₁.setTop (entryFrame m #[(.long q1)] 5)) t := by
                              intro t k
                              refine pre38 t ?_
                              show Steps p.tables e below (s₁.setTop (mkF m 178 #[.val (.long q1), .second, .val (.long q1), .second, .unset] [(.int (lcmpW q1 (-1000000000000 : Int64)))])) _
                              refine XS.ifNo X0.here hx rfl (hb hby d38_178) rfl ((if0 _ _).trans (tlt hc178_39).2.2.2) ?_
                              show Steps p.tables e below (s₁.setTop (mkF m 181 #[.val (.long q1), .second, .val (.long q1), .second, .unset] [])) _
                              refine XS.bipush X0.here hx rfl (hb hby d38_181) ?_
                              show Steps p.tables e below (s₁.setTop (mkF m 183 #[.val (.long q1), .second, .val (.long q1), .second, .unset] [(.int (12 : Int32))])) _
                              refine XS.istore X0.here hx rfl (hb hby d38_183) rfl (l' := #[.val (.long q1), .second, .val (.long q1), .second, .val (.int (12 : Int32))]) rfl ?_
                              show Steps p.tables e below (s₁.setTop (mkF m 185 #[.val (.long q1), .second, .val (.long q1), .second, .val (.int (12 : Int32))] [])) _
                              refine XS.goto X0.here hx rfl (pc0 := 185) (pc' := 282) rfl (hb hby d38_185) (by decide) (by decide) ?_
                              exact k
                            exact J282 q1 (12 : Int32) pre40 (by skip; simp only [f38, if_pos hc3_4, if_neg hc18_6, if_neg hc32_9, if_neg hc46_12, if_neg hc60_15, if_neg hc74_18, if_neg hc88_21, if_neg hc103_24, if_neg hc118_27, if_neg hc133_30, if_neg hc148_33, if_neg hc163_36, if_pos hc178_39])
                          · have pre41 : ∀ t, Steps p.tables e below (s₁.setTop (mkF m 193 #[.val (.long q1), .second, .val (.long q1), .second, .unset] [(.int (lcmpW q1 (-10000000000000 : Int64)))])) t → Steps p.tables e below (s₁.setTop (entryFrame m #[(.long q1)] 5)) t := by
                              intro t k
                              refine pre38 t ?_
                              show Steps p.tables e below (s₁.setTop (mkF m 178 #[.val (.long q1), .second, .val (.long q1), .second, .unset] [(.int (lcmpW q1 (-1000000000000 : Int64)))])) _
                              refine XS.ifYes X0.here hx rfl (pc0 := 178) (pc' := 188) rfl (hb hby d38_178) rfl ((if0 _ _).trans (flt hc178_39).2.2.2) (by decide) (by decide) ?_
                              show Steps p.tables e below (s₁.setTop (mkF m 188 #[.val (.long q1), .second, .val (.long q1), .second, .unset] [])) _
                              refine XS.lloadN X0.here hx rfl (hb hby d38_188) rfl ?_
                              show Steps p.tables e below (s₁.setTop (mkF m 189 #[.val (.long q1), .second, .val (.long q1), .second, .unset] [(.long q1)])) _
                              refine X0.ldc2Long hx hown (mvT hZ (hw _ (List.mem_of_getElem? (i := 222) rfl))) (g := (mkF m 189 #[.val (.long q1), .second, .val (.long q1), .second, .unset] [(.long q1)])) rfl (hb hby d38_189) _ ?_
                              show Steps p.tables e below (s₁.setTop (mkF m 192 #[.val (.long q1), .second, .val (.long q1), .second, .unset] [(.long (-10000000000000 : Int64)), (.long q1)])) _
                              refine XS.lcmp X0.here hx rfl (hb hby d38_192) rfl ?_
                              exact k
                            by_cases hc193_42 : (0 : Int32) < (lcmpW q1 (-10000000000000 : Int64))
                            · have pre43 : ∀ t, Steps p.tables e below (s₁.setTop (mkF m 282 #[.val (.long q1), .second, .val (.long q1), .second, .val (.int (13 : Int32))] [])) t → Steps p.tables e below (s₁.setTop (entryFrame m #[(.long q1)] 5)) t := by
                                intro t k
                                refine pre41 t ?_
                                show Steps p.tables e below (s₁.setTop (mkF m 193 #[.val (.long q1), .second, .val (.long q1), .second, .unset] [(.int (lcmpW q1 (-10000000000000 : Int64)))])) _
                                refine XS.ifNo X0.here hx rfl (hb hby d38_193) rfl ((if0 _ _).trans (tlt hc193_42).2.2.2) ?_
                                show Steps p.tables e below (s₁.setTop (mkF m 196 #[.val (.long q1), .second, .val (.long q1), .second, .unset] [])) _
                                refine XS.bipush X0.here hx rfl (hb hby d38_196) ?_
                                show Steps p.tables e below (s₁.setTop (mkF m 198 #[.val (.long q1), .second, .val (.long q1), .second, .unset] [(.int (13 : Int32))])) _
                                refine XS.istore X0.here hx rfl (hb hby d38_198) rfl (l' := #[.val (.long q1), .second, .val (.long q1), .second, .val (.int (13 : Int32))]) rfl ?_
                                show Steps p.tables e below (s₁.setTop (mkF m 200 #[.val (.long q1), .second, .val (.long q1), .second, .val (.int (13 : Int32))] [])) _
                                refine XS.goto X0.here hx rfl (pc0 := 200) (pc' := 282) rfl (hb hby d38_200) (by decide) (by decide) ?_
                                exact k
                              exact J282 q1 (13 : Int32) pre43 (by skip; simp only [f38, if_pos hc3_4, if_neg hc18_6, if_neg hc32_9, if_neg hc46_12, if_neg hc60_15, if_neg hc74_18, if_neg hc88_21, if_neg hc103_24, if_neg hc118_27, if_neg hc133_30, if_neg hc148_33, if_neg hc163_36, if_neg hc178_39, if_pos hc193_42])
                            · have pre44 : ∀ t, Steps p.tables e below (s₁.setTop (mkF m 208 #[.val (.long q1), .second, .val (.long q1), .second, .unset] [(.int (lcmpW q1 (-100000000000000 : Int64)))])) t → Steps p.tables e below (s₁.setTop (entryFrame m #[(.long q1)] 5)) t := by
                                intro t k
                                refine pre41 t ?_
                                show Steps p.tables e below (s₁.setTop (mkF m 193 #[.val (.long q1), .second, .val (.long q1), .second, .unset] [(.int (lcmpW q1 (-10000000000000 : Int64)))])) _
                                refine XS.ifYes X0.here hx rfl (pc0 := 193) (pc' := 203) rfl (hb hby d38_193) rfl ((if0 _ _).trans (flt hc193_42).2.2.2) (by decide) (by decide) ?_
                                show Steps p.tables e below (s₁.setTop (mkF m 203 #[.val (.long q1), .second, .val (.long q1), .second, .unset] [])) _
                                refine XS.lloadN X0.here hx rfl (hb hby d38_203) rfl ?_
                                show Steps p.tables e below (s₁.setTop (mkF m 204 #[.val (.long q1), .second, .val (.long q1), .second, .unset] [(.long q1)])) _
                                refine X0.ldc2Long hx hown (mvT hZ (hw _ (List.mem_of_getElem? (i := 223) rfl))) (g := (mkF m 204 #[.val (.long q1), .second, .val (.long q1), .second, .unset] [(.long q1)])) rfl (hb hby d38_204) _ ?_
                                show Steps p.tables e below (s₁.setTop (mkF m 207 #[.val (.long q1), .second, .val (.long q1), .second, .unset] [(.long (-100000000000000 : Int64)), (.long q1)])) _
                                refine XS.lcmp X0.here hx rfl (hb hby d38_207) rfl ?_
                                exact k
                              by_cases hc208_45 : (0 : Int32) < (lcmpW q1 (-100000000000000 : Int64))
                              · have pre46 : ∀ t, Steps p.tables e below (s₁.setTop (mkF m 282 #[.val (.long q1), .second, .val (.long q1), .second, .val (.int (14 : Int32))] [])) t → Steps p.tables e below (s₁.setTop (entryFrame m #[(.long q1)] 5)) t := by
                                  intro t k
                                  refine pre44 t ?_
                                  show Steps p.tables e below (s₁.setTop (mkF m 208 #[.val (.long q1), .second, .val (.long q1), .second, .unset] [(.int (lcmpW q1 (-100000000000000 : Int64)))])) _
                                  refine XS.ifNo X0.here hx rfl (hb hby d38_208) rfl ((if0 _ _).trans (tlt hc208_45).2.2.2) ?_
                                  show Steps p.tables e below (s₁.setTop (mkF m 211 #[.val (.long q1), .second, .val (.long q1), .second, .unset] [])) _
                                  refine XS.bipush X0.here hx rfl (hb hby d38_211) ?_
                                  show Steps p.tables e below (s₁.setTop (mkF m 213 #[.val (.long q1), .second, .val (.long q1), .second, .unset] [(.int (14 : Int32))])) _
                                  refine XS.istore X0.here hx rfl (hb hby d38_213) rfl (l' := #[.val (.long q1), .second, .val (.long q1), .second, .val (.int (14 : Int32))]) rfl ?_
                                  show Steps p.tables e below (s₁.setTop (mkF m 215 #[.val (.long q1), .second, .val (.long q1), .second, .val (.int (14 : Int32))] [])) _
                                  refine XS.goto X0.here hx rfl (pc0 := 215) (pc' := 282) rfl (hb hby d38_215) (by decide) (by decide) ?_
                                  exact k
                                exact J282 q1 (14 : Int32) pre46 (by skip; simp only [f38, if_pos hc3_4, if_neg hc18_6, if_neg hc32_9, if_neg hc46_12, if_neg hc60_15, if_neg hc74_18, if_neg hc88_21, if_neg hc103_24, if_neg hc118_27, if_neg hc133_30, if_neg hc148_33, if_neg hc163_36, if_neg hc178_39, if_neg hc193_42, if_pos hc208_45])
                              · have pre47 : ∀ t, Steps p.tables e below (s₁.setTop (mkF m 223 #[.val (.long q1), .second, .val (.long q1), .second, .unset] [(.int (lcmpW q1 (-1000000000000000 : Int64)))])) t → Steps p.tables e below (s₁.setTop (entryFrame m #[(.long q1)] 5)) t := by
                                  intro t k
                                  refine pre44 t ?_
                                  show Steps p.tables e below (s₁.setTop (mkF m 208 #[.val (.long q1), .second, .val (.long q1), .second, .unset] [(.int (lcmpW q1 (-100000000000000 : Int64)))])) _
                                  refine XS.ifYes X0.here hx rfl (pc0 := 208) (pc' := 218) rfl (hb hby d38_208) rfl ((if0 _ _).trans (flt hc208_45).2.2.2) (by decide) (by decide) ?_
                                  show Steps p.tables e below (s₁.setTop (mkF m 218 #[.val (.long q1), .second, .val (.long q1), .second, .unset] [])) _
                                  refine XS.lloadN X0.here hx rfl (hb hby d38_218) rfl ?_
                                  show Steps p.tables e below (s₁.setTop (mkF m 219 #[.val (.long q1), .second, .val (.long q1), .second, .unset] [(.long q1)])) _
                                  refine X0.ldc2Long hx hown (mvT hZ (hw _ (List.mem_of_getElem? (i := 224) rfl))) (g := (mkF m 219 #[.val (.long q1), .second, .val (.long q1), .second, .unset] [(.long q1)])) rfl (hb hby d38_219) _ ?_
                                  show Steps p.tables e below (s₁.setTop (mkF m 222 #[.val (.long q1), .second, .val (.long q1), .second, .unset] [(.long (-1000000000000000 : Int64)), (.long q1)])) _
                                  refine XS.lcmp X0.here hx rfl (hb hby d38_222) rfl ?_
                                  exact k
                                by_cases hc223_48 : (0 : Int32) < (lcmpW q1 (-1000000000000000 : Int64))
                                · have pre49 : ∀ t, Steps p.tables e below (s₁.setTop (mkF m 282 #[.val (.long q1), .second, .val (.long q1), .second, .val (.int (15 : Int32))] [])) t → Steps p.tables e below (s₁.setTop (entryFrame m #[(.long q1)] 5)) t := by
                                    intro t k
                                    refine pre47 t ?_
                                    show Steps p.tables e below (s₁.setTop (mkF m 223 #[.val (.long q1), .second, .val (.long q1), .second, .unset] [(.int (lcmpW q1 (-1000000000000000 : Int64)))])) _
                                    refine XS.ifNo X0.here hx rfl (hb hby d38_223) rfl ((if0 _ _).trans (tlt hc223_48).2.2.2) ?_
                                    show Steps p.tables e below (s₁.setTop (mkF m 226 #[.val (.long q1), .second, .val (.long q1), .second, .unset] [])) _
                                    refine XS.bipush X0.here hx rfl (hb hby d38_226) ?_
                                    show Steps p.tables e below (s₁.setTop (mkF m 228 #[.val (.long q1), .second, .val (.long q1), .second, .unset] [(.int (15 : Int32))])) _
                                    refine XS.istore X0.here hx rfl (hb hby d38_228) rfl (l' := #[.val (.long q1), .second, .val (.long q1), .second, .val (.int (15 : Int32))]) rfl ?_
                                    show Steps p.tables e below (s₁.setTop (mkF m 230 #[.val (.long q1), .second, .val (.long q1), .second, .val (.int (15 : Int32))] [])) _
                                    refine XS.goto X0.here hx rfl (pc0 := 230) (pc' := 282) rfl (hb hby d38_230) (by decide) (by decide) ?_
                                    exact k
                                  exact J282 q1 (15 : Int32) pre49 (by skip; simp only [f38, if_pos hc3_4, if_neg hc18_6, if_neg hc32_9, if_neg hc46_12, if_neg hc60_15, if_neg hc74_18, if_neg hc88_21, if_neg hc103_24, if_neg hc118_27, if_neg hc133_30, if_neg hc148_33, if_neg hc163_36, if_neg hc178_39, if_neg hc193_42, if_neg hc208_45, if_pos hc223_48])
                                · have pre50 : ∀ t, Steps p.tables e below (s₁.setTop (mkF m 238 #[.val (.long q1), .second, .val (.long q1), .second, .unset] [(.int (lcmpW q1 (-10000000000000000 : Int64)))])) t → Steps p.tables e below (s₁.setTop (entryFrame m #[(.long q1)] 5)) t := by
                                    intro t k
                                    refine pre47 t ?_
                                    show Steps p.tables e below (s₁.setTop (mkF m 223 #[.val (.long q1), .second, .val (.long q1), .second, .unset] [(.int (lcmpW q1 (-1000000000000000 : Int64)))])) _
                                    refine XS.ifYes X0.here hx rfl (pc0 := 223) (pc' := 233) rfl (hb hby d38_223) rfl ((if0 _ _).trans (flt hc223_48).2.2.2) (by decide) (by decide) ?_
                                    show Steps p.tables e below (s₁.setTop (mkF m 233 #[.val (.long q1), .second, .val (.long q1), .second, .unset] [])) _
                                    refine XS.lloadN X0.here hx rfl (hb hby d38_233) rfl ?_
                                    show Steps p.tables e below (s₁.setTop (mkF m 234 #[.val (.long q1), .second, .val (.long q1), .second, .unset] [(.long q1)])) _
                                    refine X0.ldc2Long hx hown (mvT hZ (hw _ (List.mem_of_getElem? (i := 225) rfl))) (g := (mkF m 234 #[.val (.long q1), .second, .val (.long q1), .second, .unset] [(.long q1)])) rfl (hb hby d38_234) _ ?_
                                    show Steps p.tables e below (s₁.setTop (mkF m 237 #[.val (.long q1), .second, .val (.long q1), .second, .unset] [(.long (-10000000000000000 : Int64)), (.long q1)])) _
                                    refine XS.lcmp X0.here hx rfl (hb hby d38_237) rfl ?_
                                    exact k
                                  by_cases hc238_51 : (0 : Int32) < (lcmpW q1 (-10000000000000000 : Int64))
                                  · have pre52 : ∀ t, Steps p.tables e below (s₁.setTop (mkF m 282 #[.val (.long q1), .second, .val (.long q1), .second, .val (.int (16 : Int32))] [])) t → Steps p.tables e below (s₁.setTop (entryFrame m #[(.long q1)] 5)) t := by
                                      intro t k
                                      refine pre50 t ?_
                                      show Steps p.tables e below (s₁.setTop (mkF m 238 #[.val (.long q1), .second, .val (.long q1), .second, .unset] [(.int (lcmpW q1 (-10000000000000000 : Int64)))])) _
                                      refine XS.ifNo X0.here hx rfl (hb hby d38_238) rfl ((if0 _ _).trans (tlt hc238_51).2.2.2) ?_
                                      show Steps p.tables e below (s₁.setTop (mkF m 241 #[.val (.long q1), .second, .val (.long q1), .second, .unset] [])) _
                                      refine XS.bipush X0.here hx rfl (hb hby d38_241) ?_
                                      show Steps p.tables e below (s₁.setTop (mkF m 243 #[.val (.long q1), .second, .val (.long q1), .second, .unset] [(.int (16 : Int32))])) _
                                      refine XS.istore X0.here hx rfl (hb hby d38_243) rfl (l' := #[.val (.long q1), .second, .val (.long q1), .second, .val (.int (16 : Int32))]) rfl ?_
                                      show Steps p.tables e below (s₁.setTop (mkF m 245 #[.val (.long q1), .second, .val (.long q1), .second, .val (.int (16 : Int32))] [])) _
                                      refine XS.goto X0.here hx rfl (pc0 := 245) (pc' := 282) rfl (hb hby d38_245) (by decide) (by decide) ?_
                                      exact k
                                    exact J282 q1 (16 : Int32) pre52 (by skip; simp only [f38, if_pos hc3_4, if_neg hc18_6, if_neg hc32_9, if_neg hc46_12, if_neg hc60_15, if_neg hc74_18, if_neg hc88_21, if_neg hc103_24, if_neg hc118_27, if_neg hc133_30, if_neg hc148_33, if_neg hc163_36, if_neg hc178_39, if_neg hc193_42, if_neg hc208_45, if_neg hc223_48, if_pos hc238_51])
                                  · have pre53 : ∀ t, Steps p.tables e below (s₁.setTop (mkF m 253 #[.val (.long q1), .second, .val (.long q1), .second, .unset] [(.int (lcmpW q1 (-100000000000000000 : Int64)))])) t → Steps p.tables e below (s₁.setTop (entryFrame m #[(.long q1)] 5)) t := by
                                      intro t k
                                      refine pre50 t ?_
                                      show Steps p.tables e below (s₁.setTop (mkF m 238 #[.val (.long q1), .second, .val (.long q1), .second, .unset] [(.int (lcmpW q1 (-10000000000000000 : Int64)))])) _
                                      refine XS.ifYes X0.here hx rfl (pc0 := 238) (pc' := 248) rfl (hb hby d38_238) rfl ((if0 _ _).trans (flt hc238_51).2.2.2) (by decide) (by decide) ?_
                                      show Steps p.tables e below (s₁.setTop (mkF m 248 #[.val (.long q1), .second, .val (.long q1), .second, .unset] [])) _
                                      refine XS.lloadN X0.here hx rfl (hb hby d38_248) rfl ?_
                                      show Steps p.tables e below (s₁.setTop (mkF m 249 #[.val (.long q1), .second, .val (.long q1), .second, .unset] [(.long q1)])) _
                                      refine X0.ldc2Long hx hown (mvT hZ (hw _ (List.mem_of_getElem? (i := 226) rfl))) (g := (mkF m 249 #[.val (.long q1), .second, .val (.long q1), .second, .unset] [(.long q1)])) rfl (hb hby d38_249) _ ?_
                                      show Steps p.tables e below (s₁.setTop (mkF m 252 #[.val (.long q1), .second, .val (.long q1), .second, .unset] [(.long (-100000000000000000 : Int64)), (.long q1)])) _
                                      refine XS.lcmp X0.here hx rfl (hb hby d38_252) rfl ?_
                                      exact k
                                    by_cases hc253_54 : (0 : Int32) < (lcmpW q1 (-100000000000000000 : Int64))
                                    · have pre55 : ∀ t, Steps p.tables e below (s₁.setTop (mkF m 282 #[.val (.long q1), .second, .val (.long q1), .second, .val (.int (17 : Int32))] [])) t → Steps p.tables e below (s₁.setTop (entryFrame m #[(.long q1)] 5)) t := by
                                        intro t k
                                        refine pre53 t ?_
                                        show Steps p.tables e below (s₁.setTop (mkF m 253 #[.val (.long q1), .second, .val (.long q1), .second, .unset] [(.int (lcmpW q1 (-100000000000000000 : Int64)))])) _
                                        refine XS.ifNo X0.here hx rfl (hb hby d38_253) rfl ((if0 _ _).trans (tlt hc253_54).2.2.2) ?_
                                        show Steps p.tables e below (s₁.setTop (mkF m 256 #[.val (.long q1), .second, .val (.long q1), .second, .unset] [])) _
                                        refine XS.bipush X0.here hx rfl (hb hby d38_256) ?_
                                        show Steps p.tables e below (s₁.setTop (mkF m 258 #[.val (.long q1), .second, .val (.long q1), .second, .unset] [(.int (17 : Int32))])) _
                                        refine XS.istore X0.here hx rfl (hb hby d38_258) rfl (l' := #[.val (.long q1), .second, .val (.long q1), .second, .val (.int (17 : Int32))]) rfl ?_
                                        show Steps p.tables e below (s₁.setTop (mkF m 260 #[.val (.long q1), .second, .val (.long q1), .second, .val (.int (17 : Int32))] [])) _
                                        refine XS.goto X0.here hx rfl (pc0 := 260) (pc' := 282) rfl (hb hby d38_260) (by decide) (by decide) ?_
                                        exact k
                                      exact J282 q1 (17 : Int32) pre55 (by skip; simp only [f38, if_pos hc3_4, if_neg hc18_6, if_neg hc32_9, if_neg hc46_12, if_neg hc60_15, if_neg hc74_18, if_neg hc88_21, if_neg hc103_24, if_neg hc118_27, if_neg hc133_30, if_neg hc148_33, if_neg hc163_36, if_neg hc178_39, if_neg hc193_42, if_neg hc208_45, if_neg hc223_48, if_neg hc238_51, if_pos hc253_54])
                                    · have pre56 : ∀ t, Steps p.tables e below (s₁.setTop (mkF m 268 #[.val (.long q1), .second, .val (.long q1), .second, .unset] [(.int (lcmpW q1 (-1000000000000000000 : Int64)))])) t → Steps p.tables e below (s₁.setTop (entryFrame m #[(.long q1)] 5)) t := by
                                        intro t k
                                        refine pre53 t ?_
                                        show Steps p.tables e below (s₁.setTop (mkF m 253 #[.val (.long q1), .second, .val (.long q1), .second, .unset] [(.int (lcmpW q1 (-100000000000000000 : Int64)))])) _
                                        refine XS.ifYes X0.here hx rfl (pc0 := 253) (pc' := 263) rfl (hb hby d38_253) rfl ((if0 _ _).trans (flt hc253_54).2.2.2) (by decide) (by decide) ?_
                                        show Steps p.tables e below (s₁.setTop (mkF m 263 #[.val (.long q1), .second, .val (.long q1), .second, .unset] [])) _
                                        refine XS.lloadN X0.here hx rfl (hb hby d38_263) rfl ?_
                                        show Steps p.tables e below (s₁.setTop (mkF m 264 #[.val (.long q1), .second, .val (.long q1), .second, .unset] [(.long q1)])) _
                                        refine X0.ldc2Long hx hown (mvT hZ (hw _ (List.mem_of_getElem? (i := 227) rfl))) (g := (mkF m 264 #[.val (.long q1), .second, .val (.long q1), .second, .unset] [(.long q1)])) rfl (hb hby d38_264) _ ?_
                                        show Steps p.tables e below (s₁.setTop (mkF m 267 #[.val (.long q1), .second, .val (.long q1), .second, .unset] [(.long (-1000000000000000000 : Int64)), (.long q1)])) _
                                        refine XS.lcmp X0.here hx rfl (hb hby d38_267) rfl ?_
                                        exact k
                                      by_cases hc268_57 : (0 : Int32) < (lcmpW q1 (-1000000000000000000 : Int64))
                                      · have pre58 : ∀ t, Steps p.tables e below (s₁.setTop (mkF m 282 #[.val (.long q1), .second, .val (.long q1), .second, .val (.int (18 : Int32))] [])) t → Steps p.tables e below (s₁.setTop (entryFrame m #[(.long q1)] 5)) t := by
                                          intro t k
                                          refine pre56 t ?_
                                          show Steps p.tables e below (s₁.setTop (mkF m 268 #[.val (.long q1), .second, .val (.long q1), .second, .unset] [(.int (lcmpW q1 (-1000000000000000000 : Int64)))])) _
                                          refine XS.ifNo X0.here hx rfl (hb hby d38_268) rfl ((if0 _ _).trans (tlt hc268_57).2.2.2) ?_
                                          show Steps p.tables e below (s₁.setTop (mkF m 271 #[.val (.long q1), .second, .val (.long q1), .second, .unset] [])) _
                                          refine XS.bipush X0.here hx rfl (hb hby d38_271) ?_
                                          show Steps p.tables e below (s₁.setTop (mkF m 273 #[.val (.long q1), .second, .val (.long q1), .second, .unset] [(.int (18 : Int32))])) _
                                          refine XS.istore X0.here hx rfl (hb hby d38_273) rfl (l' := #[.val (.long q1), .second, .val (.long q1), .second, .val (.int (18 : Int32))]) rfl ?_
                                          show Steps p.tables e below (s₁.setTop (mkF m 275 #[.val (.long q1), .second, .val (.long q1), .second, .val (.int (18 : Int32))] [])) _
                                          refine XS.goto X0.here hx rfl (pc0 := 275) (pc' := 282) rfl (hb hby d38_275) (by decide) (by decide) ?_
                                          exact k
                                        exact J282 q1 (18 : Int32) pre58 (by skip; simp only [f38, if_pos hc3_4, if_neg hc18_6, if_neg hc32_9, if_neg hc46_12, if_neg hc60_15, if_neg hc74_18, if_neg hc88_21, if_neg hc103_24, if_neg hc118_27, if_neg hc133_30, if_neg hc148_33, if_neg hc163_36, if_neg hc178_39, if_neg hc193_42, if_neg hc208_45, if_neg hc223_48, if_neg hc238_51, if_neg hc253_54, if_pos hc268_57])
                                      · have pre59 : ∀ t, Steps p.tables e below (s₁.setTop (mkF m 282 #[.val (.long q1), .second, .val (.long q1), .second, .val (.int (19 : Int32))] [])) t → Steps p.tables e below (s₁.setTop (entryFrame m #[(.long q1)] 5)) t := by
                                          intro t k
                                          refine pre56 t ?_
                                          show Steps p.tables e below (s₁.setTop (mkF m 268 #[.val (.long q1), .second, .val (.long q1), .second, .unset] [(.int (lcmpW q1 (-1000000000000000000 : Int64)))])) _
                                          refine XS.ifYes X0.here hx rfl (pc0 := 268) (pc' := 278) rfl (hb hby d38_268) rfl ((if0 _ _).trans (flt hc268_57).2.2.2) (by decide) (by decide) ?_
                                          show Steps p.tables e below (s₁.setTop (mkF m 278 #[.val (.long q1), .second, .val (.long q1), .second, .unset] [])) _
                                          refine XS.bipush X0.here hx rfl (hb hby d38_278) ?_
                                          show Steps p.tables e below (s₁.setTop (mkF m 280 #[.val (.long q1), .second, .val (.long q1), .second, .unset] [(.int (19 : Int32))])) _
                                          refine XS.istore X0.here hx rfl (hb hby d38_280) rfl (l' := #[.val (.long q1), .second, .val (.long q1), .second, .val (.int (19 : Int32))]) rfl ?_
                                          exact k
                                        exact J282 q1 (19 : Int32) pre59 (by skip; simp only [f38, if_pos hc3_4, if_neg hc18_6, if_neg hc32_9, if_neg hc46_12, if_neg hc60_15, if_neg hc74_18, if_neg hc88_21, if_neg hc103_24, if_neg hc118_27, if_neg hc133_30, if_neg hc148_33, if_neg hc163_36, if_neg hc178_39, if_neg hc193_42, if_neg hc208_45, if_neg hc223_48, if_neg hc238_51, if_neg hc253_54, if_neg hc268_57])
  · have pre60 : ∀ t, Steps p.tables e below (s₁.setTop (mkF m 18 #[.val (.long q1), .second, .val (.long (-q1)), .second, .unset] [(.int (lcmpW (-q1) (-10 : Int64)))])) t → Steps p.tables e below (s₁.setTop (entryFrame m #[(.long q1)] 5)) t := by
      intro t k
      refine pre3 t ?_
      show Steps p.tables e below (s₁.setTop (mkF m 3 #[.val (.long q1), .second, .unset, .unset, .unset] [(.int (lcmpW q1 (0 : Int64)))])) _
      refine XS.ifYes X0.here hx rfl (pc0 := 3) (pc' := 10) rfl (hb hby d38_3) rfl ((if0 _ _).trans (flt hc3_4).2.1) (by decide) (by decide) ?_
      show Steps p.tables e below (s₁.setTop (mkF m 10 #[.val (.long q1), .second, .unset, .unset, .unset] [])) _
      refine XS.lloadN X0.here hx rfl (hb hby d38_10) rfl ?_
      show Steps p.tables e below (s₁.setTop (mkF m 11 #[.val (.long q1), .second, .unset, .unset, .unset] [(.long q1)])) _
      refine XS.lneg X0.here hx rfl (hb hby d38_11) rfl ?_
      show Steps p.tables e below (s₁.setTop (mkF m 12 #[.val (.long q1), .second, .unset, .unset, .unset] [(.long (-q1))])) _
      refine XS.lstoreN X0.here hx rfl (hb hby d38_12) rfl (l' := #[.val (.long q1), .second, .val (.long (-q1)), .second, .unset]) rfl ?_
      show Steps p.tables e below (s₁.setTop (mkF m 13 #[.val (.long q1), .second, .val (.long (-q1)), .second, .unset] [])) _
      refine XS.lloadN X0.here hx rfl (hb hby d38_13) rfl ?_
      show Steps p.tables e below (s₁.setTop (mkF m 14 #[.val (.long q1), .second, .val (.long (-q1)), .second, .unset] [(.long (-q1))])) _
      refine X0.ldc2Long hx hown (mvT hZ (hw _ (List.mem_of_getElem? (i := 210) rfl))) (g := (mkF m 14 #[.val (.long q1), .second, .val (.long (-q1)), .second, .unset] [(.long (-q1))])) rfl (hb hby d38_14) _ ?_
      show Steps p.tables e below (s₁.setTop (mkF m 17 #[.val (.long q1), .second, .val (.long (-q1)), .second, .unset] [(.long (-10 : Int64)), (.long (-q1))])) _
      refine XS.lcmp X0.here hx rfl (hb hby d38_17) rfl ?_
      exact k
    by_cases hc18_61 : (0 : Int32) < (lcmpW (-q1) (-10 : Int64))
    · have pre62 : ∀ t, Steps p.tables e below (s₁.setTop (mkF m 282 #[.val (.long q1), .second, .val (.long (-q1)), .second, .val (.int (1 : Int32))] [])) t → Steps p.tables e below (s₁.setTop (entryFrame m #[(.long q1)] 5)) t := by
        intro t k
        refine pre60 t ?_
        show Steps p.tables e below (s₁.setTop (mkF m 18 #[.val (.long q1), .second, .val (.long (-q1)), .second, .unset] [(.int (lcmpW (-q1) (-10 : Int64)))])) _
        refine XS.ifNo X0.here hx rfl (hb hby d38_18) rfl ((if0 _ _).trans (tlt hc18_61).2.2.2) ?_
        show Steps p.tables e below (s₁.setTop (mkF m 21 #[.val (.long q1), .second, .val (.long (-q1)), .second, .unset] [])) _
        refine XS.iconst X0.here hx rfl (hb hby d38_21) ?_
        show Steps p.tables e below (s₁.setTop (mkF m 22 #[.val (.long q1), .second, .val (.long (-q1)), .second, .unset] [(.int (1 : Int32))])) _
        refine XS.istore X0.here hx rfl (hb hby d38_22) rfl (l' := #[.val (.long q1), .second, .val (.long (-q1)), .second, .val (.int (1 : Int32))]) rfl ?_
        show Steps p.tables e below (s₁.setTop (mkF m 24 #[.val (.long q1), .second, .val (.long (-q1)), .second, .val (.int (1 : Int32))] [])) _
        refine XS.goto X0.here hx rfl (pc0 := 24) (pc' := 282) rfl (hb hby d38_24) (by decide) (by decide) ?_
        exact k
      exact J282 (-q1) (1 : Int32) pre62 (by skip; simp only [f38, if_neg hc3_4, if_pos hc18_61])
    · have pre63 : ∀ t, Steps p.tables e below (s₁.setTop (mkF m 32 #[.val (.long q1), .second, .val (.long (-q1)), .second, .unset] [(.int (lcmpW (-q1) (-100 : Int64)))])) t → Steps p.tables e below (s₁.setTop (entryFrame m #[(.long q1)] 5)) t := by
        intro t k
        refine pre60 t ?_
        show Steps p.tables e below (s₁.setTop (mkF m 18 #[.val (.long q1), .second, .val (.long (-q1)), .second, .unset] [(.int (lcmpW (-q1) (-10 : Int64)))])) _
        refine XS.ifYes X0.here hx rfl (pc0 := 18) (pc' := 27) rfl (hb hby d38_18) rfl ((if0 _ _).trans (flt hc18_61).2.2.2) (by decide) (by decide) ?_
        show Steps p.tables e below (s₁.setTop (mkF m 27 #[.val (.long q1), .second, .val (.long (-q1)), .second, .unset] [])) _
        refine XS.lloadN X0.here hx rfl (hb hby d38_27) rfl ?_
        show Steps p.tables e below (s₁.setTop (mkF m 28 #[.val (.long q1), .second, .val (.long (-q1)), .second, .unset] [(.long (-q1))])) _
        refine X0.ldc2Long hx hown (mvT hZ (hw _ (List.mem_of_getElem? (i := 211) rfl))) (g := (mkF m 28 #[.val (.long q1), .second, .val (.long (-q1)), .second, .unset] [(.long (-q1))])) rfl (hb hby d38_28) _ ?_
        show Steps p.tables e below (s₁.setTop (mkF m 31 #[.val (.long q1), .second, .val (.long (-q1)), .second, .unset] [(.long (-100 : Int64)), (.long (-q1))])) _
        refine XS.lcmp X0.here hx rfl (hb hby d38_31) rfl ?_
        exact k
      by_cases hc32_64 : (0 : Int32) < (lcmpW (-q1) (-100 : Int64))
      · have pre65 : ∀ t, Steps p.tables e below (s₁.setTop (mkF m 282 #[.val (.long q1), .second, .val (.long (-q1)), .second, .val (.int (2 : Int32))] [])) t → Steps p.tables e below (s₁.setTop (entryFrame m #[(.long q1)] 5)) t := by
          intro t k
          refine pre63 t ?_
          show Steps p.tables e below (s₁.setTop (mkF m 32 #[.val (.long q1), .second, .val (.long (-q1)), .second, .unset] [(.int (lcmpW (-q1) (-100 : Int64)))])) _
          refine XS.ifNo X0.here hx rfl (hb hby d38_32) rfl ((if0 _ _).trans (tlt hc32_64).2.2.2) ?_
          show Steps p.tables e below (s₁.setTop (mkF m 35 #[.val (.long q1), .second, .val (.long (-q1)), .second, .unset] [])) _
          refine XS.iconst X0.here hx rfl (hb hby d38_35) ?_
          show Steps p.tables e below (s₁.setTop (mkF m 36 #[.val (.long q1), .second, .val (.long (-q1)), .second, .unset] [(.int (2 : Int32))])) _
          refine XS.istore X0.here hx rfl (hb hby d38_36) rfl (l' := #[.val (.long q1), .second, .val (.long (-q1)), .second, .val (.int (2 : Int32))]) rfl ?_
          show Steps p.tables e below (s₁.setTop (mkF m 38 #[.val (.long q1), .second, .val (.long (-q1)), .second, .val (.int (2 : Int32))] [])) _
          refine XS.goto X0.here hx rfl (pc0 := 38) (pc' := 282) rfl (hb hby d38_38) (by decide) (by decide) ?_
          exact k
        exact J282 (-q1) (2 : Int32) pre65 (by skip; simp only [f38, if_neg hc3_4, if_neg hc18_61, if_pos hc32_64])
      · have pre66 : ∀ t, Steps p.tables e below (s₁.setTop (mkF m 46 #[.val (.long q1), .second, .val (.long (-q1)), .second, .unset] [(.int (lcmpW (-q1) (-1000 : Int64)))])) t → Steps p.tables e below (s₁.setTop (entryFrame m #[(.long q1)] 5)) t := by
          intro t k
          refine pre63 t ?_
          show Steps p.tables e below (s₁.setTop (mkF m 32 #[.val (.long q1), .second, .val (.long (-q1)), .second, .unset] [(.int (lcmpW (-q1) (-100 : Int64)))])) _
          refine XS.ifYes X0.here hx rfl (pc0 := 32) (pc' := 41) rfl (hb hby d38_32) rfl ((if0 _ _).trans (flt hc32_64).2.2.2) (by decide) (by decide) ?_
          show Steps p.tables e below (s₁.setTop (mkF m 41 #[.val (.long q1), .second, .val (.long (-q1)), .second, .unset] [])) _
          refine XS.lloadN X0.here hx rfl (hb hby d38_41) rfl ?_
          show Steps p.tables e below (s₁.setTop (mkF m 42 #[.val (.long q1), .second, .val (.long (-q1)), .second, .unset] [(.long (-q1))])) _
          refine X0.ldc2Long hx hown (mvT hZ (hw _ (List.mem_of_getElem? (i := 212) rfl))) (g := (mkF m 42 #[.val (.long q1), .second, .val (.long (-q1)), .second, .unset] [(.long (-q1))])) rfl (hb hby d38_42) _ ?_
          show Steps p.tables e below (s₁.setTop (mkF m 45 #[.val (.long q1), .second, .val (.long (-q1)), .second, .unset] [(.long (-1000 : Int64)), (.long (-q1))])) _
          refine XS.lcmp X0.here hx rfl (hb hby d38_45) rfl ?_
          exact k
        by_cases hc46_67 : (0 : Int32) < (lcmpW (-q1) (-1000 : Int64))
        · have pre68 : ∀ t, Steps p.tables e below (s₁.setTop (mkF m 282 #[.val (.long q1), .second, .val (.long (-q1)), .second, .val (.int (3 : Int32))] [])) t → Steps p.tables e below (s₁.setTop (entryFrame m #[(.long q1)] 5)) t := by
            intro t k
            refine pre66 t ?_
            show Steps p.tables e below (s₁.setTop (mkF m 46 #[.val (.long q1), .second, .val (.long (-q1)), .second, .unset] [(.int (lcmpW (-q1) (-1000 : Int64)))])) _
            refine XS.ifNo X0.here hx rfl (hb hby d38_46) rfl ((if0 _ _).trans (tlt hc46_67).2.2.2) ?_
            show Steps p.tables e below (s₁.setTop (mkF m 49 #[.val (.long q1), .second, .val (.long (-q1)), .second, .unset] [])) _
            refine XS.iconst X0.here hx rfl (hb hby d38_49) ?_
            show Steps p.tables e below (s₁.setTop (mkF m 50 #[.val (.long q1), .second, .val (.long (-q1)), .second, .unset] [(.int (3 : Int32))])) _
            refine XS.istore X0.here hx rfl (hb hby d38_50) rfl (l' := #[.val (.long q1), .second, .val (.long (-q1)), .second, .val (.int (3 : Int32))]) rfl ?_
            show Steps p.tables e below (s₁.setTop (mkF m 52 #[.val (.long q1), .second, .val (.long (-q1)), .second, .val (.int (3 : Int32))] [])) _
            refine XS.goto X0.here hx rfl (pc0 := 52) (pc' := 282) rfl (hb hby d38_52) (by decide) (by decide) ?_
            exact k
          exact J282 (-q1) (3 : Int32) pre68 (by skip; simp only [f38, if_neg hc3_4, if_neg hc18_61, if_neg hc32_64, if_pos hc46_67])
        · have pre69 : ∀ t, Steps p.tables e below (s₁.setTop (mkF m 60 #[.val (.long q1), .second, .val (.long (-q1)), .second, .unset] [(.int (lcmpW (-q1) (-10000 : Int64)))])) t → Steps p.tables e below (s₁.setTop (entryFrame m #[(.long q1)] 5)) t := by
            intro t k
            refine pre66 t ?_
            show Steps p.tables e below (s₁.setTop (mkF m 46 #[.val (.long q1), .second, .val (.long (-q1)), .second, .unset] [(.int (lcmpW (-q1) (-1000 : Int64)))])) _
            refine XS.ifYes X0.here hx rfl (pc0 := 46) (pc' := 55) rfl (hb hby d38_46) rfl ((if0 _ _).trans (flt hc46_67).2.2.2) (by decide) (by decide) ?_
            show Steps p.tables e below (s₁.setTop (mkF m 55 #[.val (.long q1), .second, .val (.long (-q1)), .second, .unset] [])) _
            refine XS.lloadN X0.here hx rfl (hb hby d38_55) rfl ?_
            show Steps p.tables e below (s₁.setTop (mkF m 56 #[.val (.long q1), .second, .val (.long (-q1)), .second, .unset] [(.long (-q1))])) _
            refine X0.ldc2Long hx hown (mvT hZ (hw _ (List.mem_of_getElem? (i := 213) rfl))) (g := (mkF m 56 #[.val (.long q1), .second, .val (.long (-q1)), .second, .unset] [(.long (-q1))])) rfl (hb hby d38_56) _ ?_
            show Steps p.tables e below (s₁.setTop (mkF m 59 #[.val (.long q1), .second, .val (.long (-q1)), .second, .unset] [(.long (-10000 : Int64)), (.long (-q1))])) _
            refine XS.lcmp X0.here hx rfl (hb hby d38_59) rfl ?_
            exact k
          by_cases hc60_70 : (0 : Int32) < (lcmpW (-q1) (-10000 : Int64))
          · have pre71 : ∀ t, Steps p.tables e below (s₁.setTop (mkF m 282 #[.val (.long q1), .second, .val (.long (-q1)), .second, .val (.int (4 : Int32))] [])) t → Steps p.tables e below (s₁.setTop (entryFrame m #[(.long q1)] 5)) t := by
              intro t k
              refine pre69 t ?_
              show Steps p.tables e below (s₁.setTop (mkF m 60 #[.val (.long q1), .second, .val (.long (-q1)), .second, .unset] [(.int (lcmpW (-q1) (-10000 : Int64)))])) _
              refine XS.ifNo X0.here hx rfl (hb hby d38_60) rfl ((if0 _ _).trans (tlt hc60_70).2.2.2) ?_
              show Steps p.tables e below (s₁.setTop (mkF m 63 #[.val (.long q1), .second, .val (.long (-q1)), .second, .unset] [])) _
              refine XS.iconst X0.here hx rfl (hb hby d38_63) ?_
              show Steps p.tables e below (s₁.setTop (mkF m 64 #[.val (.long q1), .second, .val (.long (-q1)), .second, .unset] [(.int (4 : Int32))])) _
              refine XS.istore X0.here hx rfl (hb hby d38_64) rfl (l' := #[.val (.long q1), .second, .val (.long (-q1)), .second, .val (.int (4 : Int32))]) rfl ?_
              show Steps p.tables e below (s₁.setTop (mkF m 66 #[.val (.long q1), .second, .val (.long (-q1)), .second, .val (.int (4 : Int32))] [])) _
              refine XS.goto X0.here hx rfl (pc0 := 66) (pc' := 282) rfl (hb hby d38_66) (by decide) (by decide) ?_
              exact k
            exact J282 (-q1) (4 : Int32) pre71 (by skip; simp only [f38, if_neg hc3_4, if_neg hc18_61, if_neg hc32_64, if_neg hc46_67, if_pos hc60_70])
          · have pre72 : ∀ t, Steps p.tables e below (s₁.setTop (mkF m 74 #[.val (.long q1), .second, .val (.long (-q1)), .second, .unset] [(.int (lcmpW (-q1) (-100000 : Int64)))])) t → Steps p.tables e below (s₁.setTop (entryFrame m #[(.long q1)] 5)) t := by
              intro t k
              refine pre69 t ?_
              show Steps p.tables e below (s₁.setTop (mkF m 60 #[.val (.long q1), .second, .val (.long (-q1)), .second, .unset] [(.int (lcmpW (-q1) (-10000 : Int64)))])) _
              refine XS.ifYes X0.here hx rfl (pc0 := 60) (pc' := 69) rfl (hb hby d38_60) rfl ((if0 _ _).trans (flt hc60_70).2.2.2) (by decide) (by decide) ?_
              show Steps p.tables e below (s₁.setTop (mkF m 69 #[.val (.long q1), .second, .val (.long (-q1)), .second, .unset] [])) _
              refine XS.lloadN X0.here hx rfl (hb hby d38_69) rfl ?_
              show Steps p.tables e below (s₁.setTop (mkF m 70 #[.val (.long q1), .second, .val (.long (-q1)), .second, .unset] [(.long (-q1))])) _
              refine X0.ldc2Long hx hown (mvT hZ (hw _ (List.mem_of_getElem? (i := 214) rfl))) (g := (mkF m 70 #[.val (.long q1), .second, .val (.long (-q1)), .second, .unset] [(.long (-q1))])) rfl (hb hby d38_70) _ ?_
              show Steps p.tables e below (s₁.setTop (mkF m 73 #[.val (.long q1), .second, .val (.long (-q1)), .second, .unset] [(.long (-100000 : Int64)), (.long (-q1))])) _
              refine XS.lcmp X0.here hx rfl (hb hby d38_73) rfl ?_
              exact k
            by_cases hc74_73 : (0 : Int32) < (lcmpW (-q1) (-100000 : Int64))
            · have pre74 : ∀ t, Steps p.tables e below (s₁.setTop (mkF m 282 #[.val (.long q1), .second, .val (.long (-q1)), .second, .val (.int (5 : Int32))] [])) t → Steps p.tables e below (s₁.setTop (entryFrame m #[(.long q1)] 5)) t := by
                intro t k
                refine pre72 t ?_
                show Steps p.tables e below (s₁.setTop (mkF m 74 #[.val (.long q1), .second, .val (.long (-q1)), .second, .unset] [(.int (lcmpW (-q1) (-100000 : Int64)))])) _
                refine XS.ifNo X0.here hx rfl (hb hby d38_74) rfl ((if0 _ _).trans (tlt hc74_73).2.2.2) ?_
                show Steps p.tables e below (s₁.setTop (mkF m 77 #[.val (.long q1), .second, .val (.long (-q1)), .second, .unset] [])) _
                refine XS.iconst X0.here hx rfl (hb hby d38_77) ?_
                show Steps p.tables e below (s₁.setTop (mkF m 78 #[.val (.long q1), .second, .val (.long (-q1)), .second, .unset] [(.int (5 : Int32))])) _
                refine XS.istore X0.here hx rfl (hb hby d38_78) rfl (l' := #[.val (.long q1), .second, .val (.long (-q1)), .second, .val (.int (5 : Int32))]) rfl ?_
                show Steps p.tables e below (s₁.setTop (mkF m 80 #[.val (.long q1), .second, .val (.long (-q1)), .second, .val (.int (5 : Int32))] [])) _
                refine XS.goto X0.here hx rfl (pc0 := 80) (pc' := 282) rfl (hb hby d38_80) (by decide) (by decide) ?_
                exact k
              exact J282 (-q1) (5 : Int32) pre74 (by skip; simp only [f38, if_neg hc3_4, if_neg hc18_61, if_neg hc32_64, if_neg hc46_67, if_neg hc60_70, if_pos hc74_73])
            · have pre75 : ∀ t, Steps p.tables e below (s₁.setTop (mkF m 88 #[.val (.long q1), .second, .val (.long (-q1)), .second, .unset] [(.int (lcmpW (-q1) (-1000000 : Int64)))])) t → Steps p.tables e below (s₁.setTop (entryFrame m #[(.long q1)] 5)) t := by
                intro t k
                refine pre72 t ?_
                show Steps p.tables e below (s₁.setTop (mkF m 74 #[.val (.long q1), .second, .val (.long (-q1)), .second, .unset] [(.int (lcmpW (-q1) (-100000 : Int64)))])) _
                refine XS.ifYes X0.here hx rfl (pc0 := 74) (pc' := 83) rfl (hb hby d38_74) rfl ((if0 _ _).trans (flt hc74_73).2.2.2) (by decide) (by decide) ?_
                show Steps p.tables e below (s₁.setTop (mkF m 83 #[.val (.long q1), .second, .val (.long (-q1)), .second, .unset] [])) _
                refine XS.lloadN X0.here hx rfl (hb hby d38_83) rfl ?_
                show Steps p.tables e below (s₁.setTop (mkF m 84 #[.val (.long q1), .second, .val (.long (-q1)), .second, .unset] [(.long (-q1))])) _
                refine X0.ldc2Long hx hown (mvT hZ (hw _ (List.mem_of_getElem? (i := 215) rfl))) (g := (mkF m 84 #[.val (.long q1), .second, .val (.long (-q1)), .second, .unset] [(.long (-q1))])) rfl (hb hby d38_84) _ ?_
                show Steps p.tables e below (s₁.setTop (mkF m 87 #[.val (.long q1), .second, .val (.long (-q1)), .second, .unset] [(.long (-1000000 : Int64)), (.long (-q1))])) _
                refine XS.lcmp X0.here hx rfl (hb hby d38_87) rfl ?_
                exact k
              by_cases hc88_76 : (0 : Int32) < (lcmpW (-q1) (-1000000 : Int64))
              · have pre77 : ∀ t, Steps p.tables e below (s₁.setTop (mkF m 282 #[.val (.long q1), .second, .val (.long (-q1)), .second, .val (.int (6 : Int32))] [])) t → Steps p.tables e below (s₁.setTop (entryFrame m #[(.long q1)] 5)) t := by
                  intro t k
                  refine pre75 t ?_
                  show Steps p.tables e below (s₁.setTop (mkF m 88 #[.val (.long q1), .second, .val (.long (-q1)), .second, .unset] [(.int (lcmpW (-q1) (-1000000 : Int64)))])) _
                  refine XS.ifNo X0.here hx rfl (hb hby d38_88) rfl ((if0 _ _).trans (tlt hc88_76).2.2.2) ?_
                  show Steps p.tables e below (s₁.setTop (mkF m 91 #[.val (.long q1), .second, .val (.long (-q1)), .second, .unset] [])) _
                  refine XS.bipush X0.here hx rfl (hb hby d38_91) ?_
                  show Steps p.tables e below (s₁.setTop (mkF m 93 #[.val (.long q1), .second, .val (.long (-q1)), .second, .unset] [(.int (6 : Int32))])) _
                  refine XS.istore X0.here hx rfl (hb hby d38_93) rfl (l' := #[.val (.long q1), .second, .val (.long (-q1)), .second, .val (.int (6 : Int32))]) rfl ?_
                  show Steps p.tables e below (s₁.setTop (mkF m 95 #[.val (.long q1), .second, .val (.long (-q1)), .second, .val (.int (6 : Int32))] [])) _
                  refine XS.goto X0.here hx rfl (pc0 := 95) (pc' := 282) rfl (hb hby d38_95) (by decide) (by decide) ?_
                  exact k
                exact J282 (-q1) (6 : Int32) pre77 (by skip; simp only [f38, if_neg hc3_4, if_neg hc18_61, if_neg hc32_64, if_neg hc46_67, if_neg hc60_70, if_neg hc74_73, if_pos hc88_76])
              · have pre78 : ∀ t, Steps p.tables e below (s₁.setTop (mkF m 103 #[.val (.long q1), .second, .val (.long (-q1)), .second, .unset] [(.int (lcmpW (-q1) (-10000000 : Int64)))])) t → Steps p.tables e below (s₁.setTop (entryFrame m #[(.long q1)] 5)) t := by
                  intro t k
                  refine pre75 t ?_
                  show Steps p.tables e below (s₁.setTop (mkF m 88 #[.val (.long q1), .second, .val (.long (-q1)), .second, .unset] [(.int (lcmpW (-q1) (-1000000 : Int64)))])) _
                  refine XS.ifYes X0.here hx rfl (pc0 := 88) (pc' := 98) rfl (hb hby d38_88) rfl ((if0 _ _).trans (flt hc88_76).2.2.2) (by decide) (by decide) ?_
                  show Steps p.tables e below (s₁.setTop (mkF m 98 #[.val (.long q1), .second, .val (.long (-q1)), .second, .unset] [])) _
                  refine XS.lloadN X0.here hx rfl (hb hby d38_98) rfl ?_
                  show Steps p.tables e below (s₁.setTop (mkF m 99 #[.val (.long q1), .second, .val (.long (-q1)), .second, .unset] [(.long (-q1))])) _
                  refine X0.ldc2Long hx hown (mvT hZ (hw _ (List.mem_of_getElem? (i := 216) rfl))) (g := (mkF m 99 #[.val (.long q1), .second, .val (.long (-q1)), .second, .unset] [(.long (-q1))])) rfl (hb hby d38_99) _ ?_
                  show Steps p.tables e below (s₁.setTop (mkF m 102 #[.val (.long q1), .second, .val (.long (-q1)), .second, .unset] [(.long (-10000000 : Int64)), (.long (-q1))])) _
                  refine XS.lcmp X0.here hx rfl (hb hby d38_102) rfl ?_
                  exact k
                by_cases hc103_79 : (0 : Int32) < (lcmpW (-q1) (-10000000 : Int64))
                · have pre80 : ∀ t, Steps p.tables e below (s₁.setTop (mkF m 282 #[.val (.long q1), .second, .val (.long (-q1)), .second, .val (.int (7 : Int32))] [])) t → Steps p.tables e below (s₁.setTop (entryFrame m #[(.long q1)] 5)) t := by
                    intro t k
                    refine pre78 t ?_
                    show Steps p.tables e below (s₁.setTop (mkF m 103 #[.val (.long q1), .second, .val (.long (-q1)), .second, .unset] [(.int (lcmpW (-q1) (-10000000 : Int64)))])) _
                    refine XS.ifNo X0.here hx rfl (hb hby d38_103) rfl ((if0 _ _).trans (tlt hc103_79).2.2.2) ?_
                    show Steps p.tables e below (s₁.setTop (mkF m 106 #[.val (.long q1), .second, .val (.long (-q1)), .second, .unset] [])) _
                    refine XS.bipush X0.here hx rfl (hb hby d38_106) ?_
                    show Steps p.tables e below (s₁.setTop (mkF m 108 #[.val (.long q1), .second, .val (.long (-q1)), .second, .unset] [(.int (7 : Int32))])) _
                    refine XS.istore X0.here hx rfl (hb hby d38_108) rfl (l' := #[.val (.long q1), .second, .val (.long (-q1)), .second, .val (.int (7 : Int32))]) rfl ?_
                    show Steps p.tables e below (s₁.setTop (mkF m 110 #[.val (.long q1), .second, .val (.long (-q1)), .second, .val (.int (7 : Int32))] [])) _
                    refine XS.goto X0.here hx rfl (pc0 := 110) (pc' := 282) rfl (hb hby d38_110) (by decide) (by decide) ?_
                    exact k
                  exact J282 (-q1) (7 : Int32) pre80 (by skip; simp only [f38, if_neg hc3_4, if_neg hc18_61, if_neg hc32_64, if_neg hc46_67, if_neg hc60_70, if_neg hc74_73, if_neg hc88_76, if_pos hc103_79])
                · have pre81 : ∀ t, Steps p.tables e below (s₁.setTop (mkF m 118 #[.val (.long q1), .second, .val (.long (-q1)), .second, .unset] [(.int (lcmpW (-q1) (-100000000 : Int64)))])) t → Steps p.tables e below (s₁.setTop (entryFrame m #[(.long q1)] 5)) t := by
                    intro t k
                    refine pre78 t ?_
                    show Steps p.tables e below (s₁.setTop (mkF m 103 #[.val (.long q1), .second, .val (.long (-q1)), .second, .unset] [(.int (lcmpW (-q1) (-10000000 : Int64)))])) _
                    refine XS.ifYes X0.here hx rfl (pc0 := 103) (pc' := 113) rfl (hb hby d38_103) rfl ((if0 _ _).trans (flt hc103_79).2.2.2) (by decide) (by decide) ?_
                    show Steps p.tables e below (s₁.setTop (mkF m 113 #[.val (.long q1), .second, .val (.long (-q1)), .second, .unset] [])) _
                    refine XS.lloadN X0.here hx rfl (hb hby d38_113) rfl ?_
                    show Steps p.tables e below (s₁.setTop (mkF m 114 #[.val (.long q1), .second, .val (.long (-q1)), .second, .unset] [(.long (-q1))])) _
                    refine X0.ldc2Long hx hown (mvT hZ (hw _ (List.mem_of_getElem? (i := 217) rfl))) (g := (mkF m 114 #[.val (.long q1), .second, .val (.long (-q1)), .second, .unset] [(.long (-q1))])) rfl (hb hby d38_114) _ ?_
                    show Steps p.tables e below (s₁.setTop (mkF m 117 #[.val (.long q1), .second, .val (.long (-q1)), .second, .unset] [(.long (-100000000 : Int64)), (.long (-q1))])) _
                    refine XS.lcmp X0.here hx rfl (hb hby d38_117) rfl ?_
                    exact k
                  by_cases hc118_82 : (0 : Int32) < (lcmpW (-q1) (-100000000 : Int64))
                  · have pre83 : ∀ t, Steps p.tables e below (s₁.setTop (mkF m 282 #[.val (.long q1), .second, .val (.long (-q1)), .second, .val (.int (8 : Int32))] [])) t → Steps p.tables e below (s₁.setTop (entryFrame m #[(.long q1)] 5)) t := by
                      intro t k
                      refine pre81 t ?_
                      show Steps p.tables e below (s₁.setTop (mkF m 118 #[.val (.long q1), .second, .val (.long (-q1)), .second, .unset] [(.int (lcmpW (-q1) (-100000000 : Int64)))])) _
                      refine XS.ifNo X0.here hx rfl (hb hby d38_118) rfl ((if0 _ _).trans (tlt hc118_82).2.2.2) ?_
                      show Steps p.tables e below (s₁.setTop (mkF m 121 #[.val (.long q1), .second, .val (.long (-q1)), .second, .unset] [])) _
                      refine XS.bipush X0.here hx rfl (hb hby d38_121) ?_
                      show Steps p.tables e below (s₁.setTop (mkF m 123 #[.val (.long q1), .second, .val (.long (-q1)), .second, .unset] [(.int (8 : Int32))])) _
                      refine XS.istore X0.here hx rfl (hb hby d38_123) rfl (l' := #[.val (.long q1), .second, .val (.long (-q1)), .second, .val (.int (8 : Int32))]) rfl ?_
                      show Steps p.tables e below (s₁.setTop (mkF m 125 #[.val (.long q1), .second, .val (.long (-q1)), .second, .val (.int (8 : Int32))] [])) _
                      refine XS.goto X0.here hx rfl (pc0 := 125) (pc' := 282) rfl (hb hby d38_125) (by decide) (by decide) ?_
                      exact k
                    exact J282 (-q1) (8 : Int32) pre83 (by skip; simp only [f38, if_neg hc3_4, if_neg hc18_61, if_neg hc32_64, if_neg hc46_67, if_neg hc60_70, if_neg hc74_73, if_neg hc88_76, if_neg hc103_79, if_pos hc118_82])
                  · have pre84 : ∀ t, Steps p.tables e below (s₁.setTop (mkF m 133 #[.val (.long q1), .second, .val (.long (-q1)), .second, .unset] [(.int (lcmpW (-q1) (-1000000000 : Int64)))])) t → Steps p.tables e below (s₁.setTop (entryFrame m #[(.long q1)] 5)) t := by
                      intro t k
                      refine pre81 t ?_
                      show Steps p.tables e below (s₁.setTop (mkF m 118 #[.val (.long q1), .second, .val (.long (-q1)), .second, .unset] [(.int (lcmpW (-q1) (-100000000 : Int64)))])) _
                      refine XS.ifYes X0.here hx rfl (pc0 := 118) (pc' := 128) rfl (hb hby d38_118) rfl ((if0 _ _).trans (flt hc118_82).2.2.2) (by decide) (by decide) ?_
                      show Steps p.tables e below (s₁.setTop (mkF m 128 #[.val (.long q1), .second, .val (.long (-q1)), .second, .unset] [])) _
                      refine XS.lloadN X0.here hx rfl (hb hby d38_128) rfl ?_
                      show Steps p.tables e below (s₁.setTop (mkF m 129 #[.val (.long q1), .second, .val (.long (-q1)), .second, .unset] [(.long (-q1))])) _
                      refine X0.ldc2Long hx hown (mvT hZ (hw _ (List.mem_of_getElem? (i := 218) rfl))) (g := (mkF m 129 #[.val (.long q1), .second, .val (.long (-q1)), .second, .unset] [(.long (-q1))])) rfl (hb hby d38_129) _ ?_
                      show Steps p.tables e below (s₁.setTop (mkF m 132 #[.val (.long q1), .second, .val (.long (-q1)), .second, .unset] [(.long (-1000000000 : Int64)), (.long (-q1))])) _
                      refine XS.lcmp X0.here hx rfl (hb hby d38_132) rfl ?_
                      exact k
                    by_cases hc133_85 : (0 : Int32) < (lcmpW (-q1) (-1000000000 : Int64))
                    · have pre86 : ∀ t, Steps p.tables e below (s₁.setTop (mkF m 282 #[.val (.long q1), .second, .val (.long (-q1)), .second, .val (.int (9 : Int32))] [])) t → Steps p.tables e below (s₁.setTop (entryFrame m #[(.long q1)] 5)) t := by
                        intro t k
                        refine pre84 t ?_
                        show Steps p.tables e below (s₁.setTop (mkF m 133 #[.val (.long q1), .second, .val (.long (-q1)), .second, .unset] [(.int (lcmpW (-q1) (-1000000000 : Int64)))])) _
                        refine XS.ifNo X0.here hx rfl (hb hby d38_133) rfl ((if0 _ _).trans (tlt hc133_85).2.2.2) ?_
                        show Steps p.tables e below (s₁.setTop (mkF m 136 #[.val (.long q1), .second, .val (.long (-q1)), .second, .unset] [])) _
                        refine XS.bipush X0.here hx rfl (hb hby d38_136) ?_
                        show Steps p.tables e below (s₁.setTop (mkF m 138 #[.val (.long q1), .second, .val (.long (-q1)), .second, .unset] [(.int (9 : Int32))])) _
                        refine XS.istore X0.here hx rfl (hb hby d38_138) rfl (l' := #[.val (.long q1), .second, .val (.long (-q1)), .second, .val (.int (9 : Int32))]) rfl ?_
                        show Steps p.tables e below (s₁.setTop (mkF m 140 #[.val (.long q1), .second, .val (.long (-q1)), .second, .val (.int (9 : Int32))] [])) _
                        refine XS.goto X0.here hx rfl (pc0 := 140) (pc' := 282) rfl (hb hby d38_140) (by decide) (by decide) ?_
                        exact k
                      exact J282 (-q1) (9 : Int32) pre86 (by skip; simp only [f38, if_neg hc3_4, if_neg hc18_61, if_neg hc32_64, if_neg hc46_67, if_neg hc60_70, if_neg hc74_73, if_neg hc88_76, if_neg hc103_79, if_neg hc118_82, if_pos hc133_85])
                    · have pre87 : ∀ t, Steps p.tables e below (s₁.setTop (mkF m 148 #[.val (.long q1), .second, .val (.long (-q1)), .second, .unset] [(.int (lcmpW (-q1) (-10000000000 : Int64)))])) t → Steps p.tables e below (s₁.setTop (entryFrame m #[(.long q1)] 5)) t := by
                        intro t k
                        refine pre84 t ?_
                        show Steps p.tables e below (s₁.setTop (mkF m 133 #[.val (.long q1), .second, .val (.long (-q1)), .second, .unset] [(.int (lcmpW (-q1) (-1000000000 : Int64)))])) _
                        refine XS.ifYes X0.here hx rfl (pc0 := 133) (pc' := 143) rfl (hb hby d38_133) rfl ((if0 _ _).trans (flt hc133_85).2.2.2) (by decide) (by decide) ?_
                        show Steps p.tables e below (s₁.setTop (mkF m 143 #[.val (.long q1), .second, .val (.long (-q1)), .second, .unset] [])) _
                        refine XS.lloadN X0.here hx rfl (hb hby d38_143) rfl ?_
                        show Steps p.tables e below (s₁.setTop (mkF m 144 #[.val (.long q1), .second, .val (.long (-q1)), .second, .unset] [(.long (-q1))])) _
                        refine X0.ldc2Long hx hown (mvT hZ (hw _ (List.mem_of_getElem? (i := 219) rfl))) (g := (mkF m 144 #[.val (.long q1), .second, .val (.long (-q1)), .second, .unset] [(.long (-q1))])) rfl (hb hby d38_144) _ ?_
                        show Steps p.tables e below (s₁.setTop (mkF m 147 #[.val (.long q1), .second, .val (.long (-q1)), .second, .unset] [(.long (-10000000000 : Int64)), (.long (-q1))])) _
                        refine XS.lcmp X0.here hx rfl (hb hby d38_147) rfl ?_
                        exact k
                      by_cases hc148_88 : (0 : Int32) < (lcmpW (-q1) (-10000000000 : Int64))
                      · have pre89 : ∀ t, Steps p.tables e below (s₁.setTop (mkF m 282 #[.val (.long q1), .second, .val (.long (-q1)), .second, .val (.int (10 : Int32))] [])) t → Steps p.tables e below (s₁.setTop (entryFrame m #[(.long q1)] 5)) t := by
                          intro t k
                          refine pre87 t ?_
                          show Steps p.tables e below (s₁.setTop (mkF m 148 #[.val (.long q1), .second, .val (.long (-q1)), .second, .unset] [(.int (lcmpW (-q1) (-10000000000 : Int64)))])) _
                          refine XS.ifNo X0.here hx rfl (hb hby d38_148) rfl ((if0 _ _).trans (tlt hc148_88).2.2.2) ?_
                          show Steps p.tables e below (s₁.setTop (mkF m 151 #[.val (.long q1), .second, .val (.long (-q1)), .second, .unset] [])) _
                          refine XS.bipush X0.here hx rfl (hb hby d38_151) ?_
                          show Steps p.tables e below (s₁.setTop (mkF m 153 #[.val (.long q1), .second, .val (.long (-q1)), .second, .unset] [(.int (10 : Int32))])) _
                          refine XS.istore X0.here hx rfl (hb hby d38_153) rfl (l' := #[.val (.long q1), .second, .val (.long (-q1)), .second, .val (.int (10 : Int32))]) rfl ?_
                          show Steps p.tables e below (s₁.setTop (mkF m 155 #[.val (.long q1), .second, .val (.long (-q1)), .second, .val (.int (10 : Int32))] [])) _
                          refine XS.goto X0.here hx rfl (pc0 := 155) (pc' := 282) rfl (hb hby d38_155) (by decide) (by decide) ?_
                          exact k
                        exact J282 (-q1) (10 : Int32) pre89 (by skip; simp only [f38, if_neg hc3_4, if_neg hc18_61, if_neg hc32_64, if_neg hc46_67, if_neg hc60_70, if_neg hc74_73, if_neg hc88_76, if_neg hc103_79, if_neg hc118_82, if_neg hc133_85, if_pos hc148_88])
                      · have pre90 : ∀ t, Steps p.tables e below (s₁.setTop (mkF m 163 #[.val (.long q1), .second, .val (.long (-q1)), .second, .unset] [(.int (lcmpW (-q1) (-100000000000 : Int64)))])) t → Steps p.tables e below (s₁.setTop (entryFrame m #[(.long q1)] 5)) t := by
                          intro t k
                          refine pre87 t ?_
                          show Steps p.tables e below (s₁.setTop (mkF m 148 #[.val (.long q1), .second, .val (.long (-q1)), .second, .unset] [(.int (lcmpW (-q1) (-10000000000 : Int64)))])) _
                          refine XS.ifYes X0.here hx rfl (pc0 := 148) (pc' := 158) rfl (hb hby d38_148) rfl ((if0 _ _).trans (flt hc148_88).2.2.2) (by decide) (by decide) ?_
                          show Steps p.tables e below (s₁.setTop (mkF m 158 #[.val (.long q1), .second, .val (.long (-q1)), .second, .unset] [])) _
                          refine XS.lloadN X0.here hx rfl (hb hby d38_158) rfl ?_
                          show Steps p.tables e below (s₁.setTop (mkF m 159 #[.val (.long q1), .second, .val (.long (-q1)), .second, .unset] [(.long (-q1))])) _
                          refine X0.ldc2Long hx hown (mvT hZ (hw _ (List.mem_of_getElem? (i := 220) rfl))) (g := (mkF m 159 #[.val (.long q1), .second, .val (.long (-q1)), .second, .unset] [(.long (-q1))])) rfl (hb hby d38_159) _ ?_
                          show Steps p.tables e below (s₁.setTop (mkF m 162 #[.val (.long q1), .second, .val (.long (-q1)), .second, .unset] [(.long (-100000000000 : Int64)), (.long (-q1))])) _
                          refine XS.lcmp X0.here hx rfl (hb hby d38_162) rfl ?_
                          exact k
                        by_cases hc163_91 : (0 : Int32) < (lcmpW (-q1) (-100000000000 : Int64))
                        · have pre92 : ∀ t, Steps p.tables e below (s₁.setTop (mkF m 282 #[.val (.long q1), .second, .val (.long (-q1)), .second, .val (.int (11 : Int32))] [])) t → Steps p.tables e below (s₁.setTop (entryFrame m #[(.long q1)] 5)) t := by
                            intro t k
                            refine pre90 t ?_
                            show Steps p.tables e below (s₁.setTop (mkF m 163 #[.val (.long q1), .second, .val (.long (-q1)), .second, .unset] [(.int (lcmpW (-q1) (-100000000000 : Int64)))])) _
                            refine XS.ifNo X0.here hx rfl (hb hby d38_163) rfl ((if0 _ _).trans (tlt hc163_91).2.2.2) ?_
                            show Steps p.tables e below (s₁.setTop (mkF m 166 #[.val (.long q1), .second, .val (.long (-q1)), .second, .unset] [])) _
                            refine XS.bipush X0.here hx rfl (hb hby d38_166) ?_
                            show Steps p.tables e below (s₁.setTop (mkF m 168 #[.val (.long q1), .second, .val (.long (-q1)), .second, .unset] [(.int (11 : Int32))])) _
                            refine XS.istore X0.here hx rfl (hb hby d38_168) rfl (l' := #[.val (.long q1), .second, .val (.long (-q1)), .second, .val (.int (11 : Int32))]) rfl ?_
                            show Steps p.tables e below (s₁.setTop (mkF m 170 #[.val (.long q1), .second, .val (.long (-q1)), .second, .val (.int (11 : Int32))] [])) _
                            refine XS.goto X0.here hx rfl (pc0 := 170) (pc' := 282) rfl (hb hby d38_170) (by decide) (by decide) ?_
                            exact k
                          exact J282 (-q1) (11 : Int32) pre92 (by skip; simp only [f38, if_neg hc3_4, if_neg hc18_61, if_neg hc32_64, if_neg hc46_67, if_neg hc60_70, if_neg hc74_73, if_neg hc88_76, if_neg hc103_79, if_neg hc118_82, if_neg hc133_85, if_neg hc148_88, if_pos hc163_91])
                        · have pre93 : ∀ t, Steps p.tables e below (s₁.setTop (mkF m 178 #[.val (.long q1), .second, .val (.long (-q1)), .second, .unset] [(.int (lcmpW (-q1) (-1000000000000 : Int64)))])) t → Steps p.tables e below (s₁.setTop (entryFrame m #[(.long q1)] 5)) t := by
                            intro t k
                            refine pre90 t ?_
                            show Steps p.tables e below (s₁.setTop (mkF m 163 #[.val (.long q1), .second, .val (.long (-q1)), .second, .unset] [(.int (lcmpW (-q1) (-100000000000 : Int64)))])) _
                            refine XS.ifYes X0.here hx rfl (pc0 := 163) (pc' := 173) rfl (hb hby d38_163) rfl ((if0 _ _).trans (flt hc163_91).2.2.2) (by decide) (by decide) ?_
                            show Steps p.tables e below (s₁.setTop (mkF m 173 #[.val (.long q1), .second, .val (.long (-q1)), .second, .unset] [])) _
                            refine XS.lloadN X0.here hx rfl (hb hby d38_173) rfl ?_
                            show Steps p.tables e below (s₁.setTop (mkF m 174 #[.val (.long q1), .second, .val (.long (-q1)), .second, .unset] [(.long (-q1))])) _
                            refine X0.ldc2Long hx hown (mvT hZ (hw _ (List.mem_of_getElem? (i := 221) rfl))) (g := (mkF m 174 #[.val (.long q1), .second, .val (.long (-q1)), .second, .unset] [(.long (-q1))])) rfl (hb hby d38_174) _ ?_
                            show Steps p.tables e below (s₁.setTop (mkF m 177 #[.val (.long q1), .second, .val (.long (-q1)), .second, .unset] [(.long (-1000000000000 : Int64)), (.long (-q1))])) _
                            refine XS.lcmp X0.here hx rfl (hb hby d38_177) rfl ?_
                            exact k
                          by_cases hc178_94 : (0 : Int32) < (lcmpW (-q1) (-1000000000000 : Int64))
                          · have pre95 : ∀ t, Steps p.tables e below (s₁.setTop (mkF m 282 #[.val (.long q1), .second, .val (.long (-q1)), .second, .val (.int (12 : Int32))] [])) t → Steps p.tables e below (s₁.setTop (entryFrame m #[(.long q1)] 5)) t := by
                              intro t k
                              refine pre93 t ?_
                              show Steps p.tables e below (s₁.setTop (mkF m 178 #[.val (.long q1), .second, .val (.long (-q1)), .second, .unset] [(.int (lcmpW (-q1) (-1000000000000 : Int64)))])) _
                              refine XS.ifNo X0.here hx rfl (hb hby d38_178) rfl ((if0 _ _).trans (tlt hc178_94).2.2.2) ?_
                              show Steps p.tables e below (s₁.setTop (mkF m 181 #[.val (.long q1), .second, .val (.long (-q1)), .second, .unset] [])) _
                              refine XS.bipush X0.here hx rfl (hb hby d38_181) ?_
                              show Steps p.tables e below (s₁.setTop (mkF m 183 #[.val (.long q1), .second, .val (.long (-q1)), .second, .unset] [(.int (12 : Int32))])) _
                              refine XS.istore X0.here hx rfl (hb hby d38_183) rfl (l' := #[.val (.long q1), .second, .val (.long (-q1)), .second, .val (.int (12 : Int32))]) rfl ?_
                              show Steps p.tables e below (s₁.setTop (mkF m 185 #[.val (.long q1), .second, .val (.long (-q1)), .second, .val (.int (12 : Int32))] [])) _
                              refine XS.goto X0.here hx rfl (pc0 := 185) (pc' := 282) rfl (hb hby d38_185) (by decide) (by decide) ?_
                              exact k
                            exact J282 (-q1) (12 : Int32) pre95 (by skip; simp only [f38, if_neg hc3_4, if_neg hc18_61, if_neg hc32_64, if_neg hc46_67, if_neg hc60_70, if_neg hc74_73, if_neg hc88_76, if_neg hc103_79, if_neg hc118_82, if_neg hc133_85, if_neg hc148_88, if_neg hc163_91, if_pos hc178_94])
                          · have pre96 : ∀ t, Steps p.tables e below (s₁.setTop (mkF m 193 #[.val (.long q1), .second, .val (.long (-q1)), .second, .unset] [(.int (lcmpW (-q1) (-10000000000000 : Int64)))])) t → Steps p.tables e below (s₁.setTop (entryFrame m #[(.long q1)] 5)) t := by
                              intro t k
                              refine pre93 t ?_
                              show Steps p.tables e below (s₁.setTop (mkF m 178 #[.val (.long q1), .second, .val (.long (-q1)), .second, .unset] [(.int (lcmpW (-q1) (-1000000000000 : Int64)))])) _
                              refine XS.ifYes X0.here hx rfl (pc0 := 178) (pc' := 188) rfl (hb hby d38_178) rfl ((if0 _ _).trans (flt hc178_94).2.2.2) (by decide) (by decide) ?_
                              show Steps p.tables e below (s₁.setTop (mkF m 188 #[.val (.long q1), .second, .val (.long (-q1)), .second, .unset] [])) _
                              refine XS.lloadN X0.here hx rfl (hb hby d38_188) rfl ?_
                              show Steps p.tables e below (s₁.setTop (mkF m 189 #[.val (.long q1), .second, .val (.long (-q1)), .second, .unset] [(.long (-q1))])) _
                              refine X0.ldc2Long hx hown (mvT hZ (hw _ (List.mem_of_getElem? (i := 222) rfl))) (g := (mkF m 189 #[.val (.long q1), .second, .val (.long (-q1)), .second, .unset] [(.long (-q1))])) rfl (hb hby d38_189) _ ?_
                              show Steps p.tables e below (s₁.setTop (mkF m 192 #[.val (.long q1), .second, .val (.long (-q1)), .second, .unset] [(.long (-10000000000000 : Int64)), (.long (-q1))])) _
                              refine XS.lcmp X0.here hx rfl (hb hby d38_192) rfl ?_
                              exact k
                            by_cases hc193_97 : (0 : Int32) < (lcmpW (-q1) (-10000000000000 : Int64))
                            · have pre98 : ∀ t, Steps p.tables e below (s₁.setTop (mkF m 282 #[.val (.long q1), .second, .val (.long (-q1)), .second, .val (.int (13 : Int32))] [])) t → Steps p.tables e below (s₁.setTop (entryFrame m #[(.long q1)] 5)) t := by
                                intro t k
                                refine pre96 t ?_
                                show Steps p.tables e below (s₁.setTop (mkF m 193 #[.val (.long q1), .second, .val (.long (-q1)), .second, .unset] [(.int (lcmpW (-q1) (-10000000000000 : Int64)))])) _
                                refine XS.ifNo X0.here hx rfl (hb hby d38_193) rfl ((if0 _ _).trans (tlt hc193_97).2.2.2) ?_
                                show Steps p.tables e below (s₁.setTop (mkF m 196 #[.val (.long q1), .second, .val (.long (-q1)), .second, .unset] [])) _
                                refine XS.bipush X0.here hx rfl (hb hby d38_196) ?_
                                show Steps p.tables e below (s₁.setTop (mkF m 198 #[.val (.long q1), .second, .val (.long (-q1)), .second, .unset] [(.int (13 : Int32))])) _
                                refine XS.istore X0.here hx rfl (hb hby d38_198) rfl (l' := #[.val (.long q1), .second, .val (.long (-q1)), .second, .val (.int (13 : Int32))]) rfl ?_
                                show Steps p.tables e below (s₁.setTop (mkF m 200 #[.val (.long q1), .second, .val (.long (-q1)), .second, .val (.int (13 : Int32))] [])) _
                                refine XS.goto X0.here hx rfl (pc0 := 200) (pc' := 282) rfl (hb hby d38_200) (by decide) (by decide) ?_
                                exact k
                              exact J282 (-q1) (13 : Int32) pre98 (by skip; simp only [f38, if_neg hc3_4, if_neg hc18_61, if_neg hc32_64, if_neg hc46_67, if_neg hc60_70, if_neg hc74_73, if_neg hc88_76, if_neg hc103_79, if_neg hc118_82, if_neg hc133_85, if_neg hc148_88, if_neg hc163_91, if_neg hc178_94, if_pos hc193_97])
                            · have pre99 : ∀ t, Steps p.tables e below (s₁.setTop (mkF m 208 #[.val (.long q1), .second, .val (.long (-q1)), .second, .unset] [(.int (lcmpW (-q1) (-100000000000000 : Int64)))])) t → Steps p.tables e below (s₁.setTop (entryFrame m #[(.long q1)] 5)) t := by
                                intro t k
                                refine pre96 t ?_
                                show Steps p.tables e below (s₁.setTop (mkF m 193 #[.val (.long q1), .second, .val (.long (-q1)), .second, .unset] [(.int (lcmpW (-q1) (-10000000000000 : Int64)))])) _
                                refine XS.ifYes X0.here hx rfl (pc0 := 193) (pc' := 203) rfl (hb hby d38_193) rfl ((if0 _ _).trans (flt hc193_97).2.2.2) (by decide) (by decide) ?_
                                show Steps p.tables e below (s₁.setTop (mkF m 203 #[.val (.long q1), .second, .val (.long (-q1)), .second, .unset] [])) _
                                refine XS.lloadN X0.here hx rfl (hb hby d38_203) rfl ?_
                                show Steps p.tables e below (s₁.setTop (mkF m 204 #[.val (.long q1), .second, .val (.long (-q1)), .second, .unset] [(.long (-q1))])) _
                                refine X0.ldc2Long hx hown (mvT hZ (hw _ (List.mem_of_getElem? (i := 223) rfl))) (g := (mkF m 204 #[.val (.long q1), .second, .val (.long (-q1)), .second, .unset] [(.long (-q1))])) rfl (hb hby d38_204) _ ?_
                                show Steps p.tables e below (s₁.setTop (mkF m 207 #[.val (.long q1), .second, .val (.long (-q1)), .second, .unset] [(.long (-100000000000000 : Int64)), (.long (-q1))])) _
                                refine XS.lcmp X0.here hx rfl (hb hby d38_207) rfl ?_
                                exact k
                              by_cases hc208_100 : (0 : Int32) < (lcmpW (-q1) (-100000000000000 : Int64))
                              · have pre101 : ∀ t, Steps p.tables e below (s₁.setTop (mkF m 282 #[.val (.long q1), .second, .val (.long (-q1)), .second, .val (.int (14 : Int32))] [])) t → Steps p.tables e below (s₁.setTop (entryFrame m #[(.long q1)] 5)) t := by
                                  intro t k
                                  refine pre99 t ?_
                                  show Steps p.tables e below (s₁.setTop (mkF m 208 #[.val (.long q1), .second, .val (.long (-q1)), .second, .unset] [(.int (lcmpW (-q1) (-100000000000000 : Int64)))])) _
                                  refine XS.ifNo X0.here hx rfl (hb hby d38_208) rfl ((if0 _ _).trans (tlt hc208_100).2.2.2) ?_
                                  show Steps p.tables e below (s₁.setTop (mkF m 211 #[.val (.long q1), .second, .val (.long (-q1)), .second, .unset] [])) _
                                  refine XS.bipush X0.here hx rfl (hb hby d38_211) ?_
                                  show Steps p.tables e below (s₁.setTop (mkF m 213 #[.val (.long q1), .second, .val (.long (-q1)), .second, .unset] [(.int (14 : Int32))])) _
                                  refine XS.istore X0.here hx rfl (hb hby d38_213) rfl (l' := #[.val (.long q1), .second, .val (.long (-q1)), .second, .val (.int (14 : Int32))]) rfl ?_
                                  show Steps p.tables e below (s₁.setTop (mkF m 215 #[.val (.long q1), .second, .val (.long (-q1)), .second, .val (.int (14 : Int32))] [])) _
                                  refine XS.goto X0.here hx rfl (pc0 := 215) (pc' := 282) rfl (hb hby d38_215) (by decide) (by decide) ?_
                                  exact k
                                exact J282 (-q1) (14 : Int32) pre101 (by skip; simp only [f38, if_neg hc3_4, if_neg hc18_61, if_neg hc32_64, if_neg hc46_67, if_neg hc60_70, if_neg hc74_73, if_neg hc88_76, if_neg hc103_79, if_neg hc118_82, if_neg hc133_85, if_neg hc148_88, if_neg hc163_91, if_neg hc178_94, if_neg hc193_97, if_pos hc208_100])
                              · have pre102 : ∀ t, Steps p.tables e below (s₁.setTop (mkF m 223 #[.val (.long q1), .second, .val (.long (-q1)), .second, .unset] [(.int (lcmpW (-q1) (-1000000000000000 : Int64)))])) t → Steps p.tables e below (s₁.setTop (entryFrame m #[(.long q1)] 5)) t := by
                                  intro t k
                                  refine pre99 t ?_
                                  show Steps p.tables e below (s₁.setTop (mkF m 208 #[.val (.long q1), .second, .val (.long (-q1)), .second, .unset] [(.int (lcmpW (-q1) (-100000000000000 : Int64)))])) _
                                  refine XS.ifYes X0.here hx rfl (pc0 := 208) (pc' := 218) rfl (hb hby d38_208) rfl ((if0 _ _).trans (flt hc208_100).2.2.2) (by decide) (by decide) ?_
                                  show Steps p.tables e below (s₁.setTop (mkF m 218 #[.val (.long q1), .second, .val (.long (-q1)), .second, .unset] [])) _
                                  refine XS.lloadN X0.here hx rfl (hb hby d38_218) rfl ?_
                                  show Steps p.tables e below (s₁.setTop (mkF m 219 #[.val (.long q1), .second, .val (.long (-q1)), .second, .unset] [(.long (-q1))])) _
                                  refine X0.ldc2Long hx hown (mvT hZ (hw _ (List.mem_of_getElem? (i := 224) rfl))) (g := (mkF m 219 #[.val (.long q1), .second, .val (.long (-q1)), .second, .unset] [(.long (-q1))])) rfl (hb hby d38_219) _ ?_
                                  show Steps p.tables e below (s₁.setTop (mkF m 222 #[.val (.long q1), .second, .val (.long (-q1)), .second, .unset] [(.long (-1000000000000000 : Int64)), (.long (-q1))])) _
                                  refine XS.lcmp X0.here hx rfl (hb hby d38_222) rfl ?_
                                  exact k
                                by_cases hc223_103 : (0 : Int32) < (lcmpW (-q1) (-1000000000000000 : Int64))
                                · have pre104 : ∀ t, Steps p.tables e below (s₁.setTop (mkF m 282 #[.val (.long q1), .second, .val (.long (-q1)), .second, .val (.int (15 : Int32))] [])) t → Steps p.tables e below (s₁.setTop (entryFrame m #[(.long q1)] 5)) t := by
                                    intro t k
                                    refine pre102 t ?_
                                    show Steps p.tables e below (s₁.setTop (mkF m 223 #[.val (.long q1), .second, .val (.long (-q1)), .second, .unset] [(.int (lcmpW (-q1) (-1000000000000000 : Int64)))])) _
                                    refine XS.ifNo X0.here hx rfl (hb hby d38_223) rfl ((if0 _ _).trans (tlt hc223_103).2.2.2) ?_
                                    show Steps p.tables e below (s₁.setTop (mkF m 226 #[.val (.long q1), .second, .val (.long (-q1)), .second, .unset] [])) _
                                    refine XS.bipush X0.here hx rfl (hb hby d38_226) ?_
                                    show Steps p.tables e below (s₁.setTop (mkF m 228 #[.val (.long q1), .second, .val (.long (-q1)), .second, .unset] [(.int (15 : Int32))])) _
                                    refine XS.istore X0.here hx rfl (hb hby d38_228) rfl (l' := #[.val (.long q1), .second, .val (.long (-q1)), .second, .val (.int (15 : Int32))]) rfl ?_
                                    show Steps p.tables e below (s₁.setTop (mkF m 230 #[.val (.long q1), .second, .val (.long (-q1)), .second, .val (.int (15 : Int32))] [])) _
                                    refine XS.goto X0.here hx rfl (pc0 := 230) (pc' := 282) rfl (hb hby d38_230) (by decide) (by decide) ?_
                                    exact k
                                  exact J282 (-q1) (15 : Int32) pre104 (by skip; simp only [f38, if_neg hc3_4, if_neg hc18_61, if_neg hc32_64, if_neg hc46_67, if_neg hc60_70, if_neg hc74_73, if_neg hc88_76, if_neg hc103_79, if_neg hc118_82, if_neg hc133_85, if_neg hc148_88, if_neg hc163_91, if_neg hc178_94, if_neg hc193_97, if_neg hc208_100, if_pos hc223_103])
                                · have pre105 : ∀ t, Steps p.tables e below (s₁.setTop (mkF m 238 #[.val (.long q1), .second, .val (.long (-q1)), .second, .unset] [(.int (lcmpW (-q1) (-10000000000000000 : Int64)))])) t → Steps p.tables e below (s₁.setTop (entryFrame m #[(.long q1)] 5)) t := by
                                    intro t k
                                    refine pre102 t ?_
                                    show Steps p.tables e below (s₁.setTop (mkF m 223 #[.val (.long q1), .second, .val (.long (-q1)), .second, .unset] [(.int (lcmpW (-q1) (-1000000000000000 : Int64)))])) _
                                    refine XS.ifYes X0.here hx rfl (pc0 := 223) (pc' := 233) rfl (hb hby d38_223) rfl ((if0 _ _).trans (flt hc223_103).2.2.2) (by decide) (by decide) ?_
                                    show Steps p.tables e below (s₁.setTop (mkF m 233 #[.val (.long q1), .second, .val (.long (-q1)), .second, .unset] [])) _
                                    refine XS.lloadN X0.here hx rfl (hb hby d38_233) rfl ?_
                                    show Steps p.tables e below (s₁.setTop (mkF m 234 #[.val (.long q1), .second, .val (.long (-q1)), .second, .unset] [(.long (-q1))])) _
                                    refine X0.ldc2Long hx hown (mvT hZ (hw _ (List.mem_of_getElem? (i := 225) rfl))) (g := (mkF m 234 #[.val (.long q1), .second, .val (.long (-q1)), .second, .unset] [(.long (-q1))])) rfl (hb hby d38_234) _ ?_
                                    show Steps p.tables e below (s₁.setTop (mkF m 237 #[.val (.long q1), .second, .val (.long (-q1)), .second, .unset] [(.long (-10000000000000000 : Int64)), (.long (-q1))])) _
                                    refine XS.lcmp X0.here hx rfl (hb hby d38_237) rfl ?_
                                    exact k
                                  by_cases hc238_106 : (0 : Int32) < (lcmpW (-q1) (-10000000000000000 : Int64))
                                  · have pre107 : ∀ t, Steps p.tables e below (s₁.setTop (mkF m 282 #[.val (.long q1), .second, .val (.long (-q1)), .second, .val (.int (16 : Int32))] [])) t → Steps p.tables e below (s₁.setTop (entryFrame m #[(.long q1)] 5)) t := by
                                      intro t k
                                      refine pre105 t ?_
                                      show Steps p.tables e below (s₁.setTop (mkF m 238 #[.val (.long q1), .second, .val (.long (-q1)), .second, .unset] [(.int (lcmpW (-q1) (-10000000000000000 : Int64)))])) _
                                      refine XS.ifNo X0.here hx rfl (hb hby d38_238) rfl ((if0 _ _).trans (tlt hc238_106).2.2.2) ?_
                                      show Steps p.tables e below (s₁.setTop (mkF m 241 #[.val (.long q1), .second, .val (.long (-q1)), .second, .unset] [])) _
                                      refine XS.bipush X0.here hx rfl (hb hby d38_241) ?_
                                      show Steps p.tables e below (s₁.setTop (mkF m 243 #[.val (.long q1), .second, .val (.long (-q1)), .second, .unset] [(.int (16 : Int32))])) _
                                      refine XS.istore X0.here hx rfl (hb hby d38_243) rfl (l' := #[.val (.long q1), .second, .val (.long (-q1)), .second, .val (.int (16 : Int32))]) rfl ?_
                                      show Steps p.tables e below (s₁.setTop (mkF m 245 #[.val (.long q1), .second, .val (.long (-q1)), .second, .val (.int (16 : Int32))] [])) _
                                      refine XS.goto X0.here hx rfl (pc0 := 245) (pc' := 282) rfl (hb hby d38_245) (by decide) (by decide) ?_
                                      exact k
                                    exact J282 (-q1) (16 : Int32) pre107 (by skip; simp only [f38, if_neg hc3_4, if_neg hc18_61, if_neg hc32_64, if_neg hc46_67, if_neg hc60_70, if_neg hc74_73, if_neg hc88_76, if_neg hc103_79, if_neg hc118_82, if_neg hc133_85, if_neg hc148_88, if_neg hc163_91, if_neg hc178_94, if_neg hc193_97, if_neg hc208_100, if_neg hc223_103, if_pos hc238_106])
                                  · have pre108 : ∀ t, Steps p.tables e below (s₁.setTop (mkF m 253 #[.val (.long q1), .second, .val (.long (-q1)), .second, .unset] [(.int (lcmpW (-q1) (-100000000000000000 : Int64)))])) t → Steps p.tables e below (s₁.setTop (entryFrame m #[(.long q1)] 5)) t := by
                                      intro t k
                                      refine pre105 t ?_
                                      show Steps p.tables e below (s₁.setTop (mkF m 238 #[.val (.long q1), .second, .val (.long (-q1)), .second, .unset] [(.int (lcmpW (-q1) (-10000000000000000 : Int64)))])) _
                                      refine XS.ifYes X0.here hx rfl (pc0 := 238) (pc' := 248) rfl (hb hby d38_238) rfl ((if0 _ _).trans (flt hc238_106).2.2.2) (by decide) (by decide) ?_
                                      show Steps p.tables e below (s₁.setTop (mkF m 248 #[.val (.long q1), .second, .val (.long (-q1)), .second, .unset] [])) _
                                      refine XS.lloadN X0.here hx rfl (hb hby d38_248) rfl ?_
                                      show Steps p.tables e below (s₁.setTop (mkF m 249 #[.val (.long q1), .second, .val (.long (-q1)), .second, .unset] [(.long (-q1))])) _
                                      refine X0.ldc2Long hx hown (mvT hZ (hw _ (List.mem_of_getElem? (i := 226) rfl))) (g := (mkF m 249 #[.val (.long q1), .second, .val (.long (-q1)), .second, .unset] [(.long (-q1))])) rfl (hb hby d38_249) _ ?_
                                      show Steps p.tables e below (s₁.setTop (mkF m 252 #[.val (.long q1), .second, .val (.long (-q1)), .second, .unset] [(.long (-100000000000000000 : Int64)), (.long (-q1))])) _
                                      refine XS.lcmp X0.here hx rfl (hb hby d38_252) rfl ?_
                                      exact k
                                    by_cases hc253_109 : (0 : Int32) < (lcmpW (-q1) (-100000000000000000 : Int64))
                                    · have pre110 : ∀ t, Steps p.tables e below (s₁.setTop (mkF m 282 #[.val (.long q1), .second, .val (.long (-q1)), .second, .val (.int (17 : Int32))] [])) t → Steps p.tables e below (s₁.setTop (entryFrame m #[(.long q1)] 5)) t := by
                                        intro t k
                                        refine pre108 t ?_
                                        show Steps p.tables e below (s₁.setTop (mkF m 253 #[.val (.long q1), .second, .val (.long (-q1)), .second, .unset] [(.int (lcmpW (-q1) (-100000000000000000 : Int64)))])) _
                                        refine XS.ifNo X0.here hx rfl (hb hby d38_253) rfl ((if0 _ _).trans (tlt hc253_109).2.2.2) ?_
                                        show Steps p.tables e below (s₁.setTop (mkF m 256 #[.val (.long q1), .second, .val (.long (-q1)), .second, .unset] [])) _
                                        refine XS.bipush X0.here hx rfl (hb hby d38_256) ?_
                                        show Steps p.tables e below (s₁.setTop (mkF m 258 #[.val (.long q1), .second, .val (.long (-q1)), .second, .unset] [(.int (17 : Int32))])) _
                                        refine XS.istore X0.here hx rfl (hb hby d38_258) rfl (l' := #[.val (.long q1), .second, .val (.long (-q1)), .second, .val (.int (17 : Int32))]) rfl ?_
                                        show Steps p.tables e below (s₁.setTop (mkF m 260 #[.val (.long q1), .second, .val (.long (-q1)), .second, .val (.int (17 : Int32))] [])) _
                                        refine XS.goto X0.here hx rfl (pc0 := 260) (pc' := 282) rfl (hb hby d38_260) (by decide) (by decide) ?_
                                        exact k
                                      exact J282 (-q1) (17 : Int32) pre110 (by skip; simp only [f38, if_neg hc3_4, if_neg hc18_61, if_neg hc32_64, if_neg hc46_67, if_neg hc60_70, if_neg hc74_73, if_neg hc88_76, if_neg hc103_79, if_neg hc118_82, if_neg hc133_85, if_neg hc148_88, if_neg hc163_91, if_neg hc178_94, if_neg hc193_97, if_neg hc208_100, if_neg hc223_103, if_neg hc238_106, if_pos hc253_109])
                                    · have pre111 : ∀ t, Steps p.tables e below (s₁.setTop (mkF m 268 #[.val (.long q1), .second, .val (.long (-q1)), .second, .unset] [(.int (lcmpW (-q1) (-1000000000000000000 : Int64)))])) t → Steps p.tables e below (s₁.setTop (entryFrame m #[(.long q1)] 5)) t := by
                                        intro t k
                                        refine pre108 t ?_
                                        show Steps p.tables e below (s₁.setTop (mkF m 253 #[.val (.long q1), .second, .val (.long (-q1)), .second, .unset] [(.int (lcmpW (-q1) (-100000000000000000 : Int64)))])) _
                                        refine XS.ifYes X0.here hx rfl (pc0 := 253) (pc' := 263) rfl (hb hby d38_253) rfl ((if0 _ _).trans (flt hc253_109).2.2.2) (by decide) (by decide) ?_
                                        show Steps p.tables e below (s₁.setTop (mkF m 263 #[.val (.long q1), .second, .val (.long (-q1)), .second, .unset] [])) _
                                        refine XS.lloadN X0.here hx rfl (hb hby d38_263) rfl ?_
                                        show Steps p.tables e below (s₁.setTop (mkF m 264 #[.val (.long q1), .second, .val (.long (-q1)), .second, .unset] [(.long (-q1))])) _
                                        refine X0.ldc2Long hx hown (mvT hZ (hw _ (List.mem_of_getElem? (i := 227) rfl))) (g := (mkF m 264 #[.val (.long q1), .second, .val (.long (-q1)), .second, .unset] [(.long (-q1))])) rfl (hb hby d38_264) _ ?_
                                        show Steps p.tables e below (s₁.setTop (mkF m 267 #[.val (.long q1), .second, .val (.long (-q1)), .second, .unset] [(.long (-1000000000000000000 : Int64)), (.long (-q1))])) _
                                        refine XS.lcmp X0.here hx rfl (hb hby d38_267) rfl ?_
                                        exact k
                                      by_cases hc268_112 : (0 : Int32) < (lcmpW (-q1) (-1000000000000000000 : Int64))
                                      · have pre113 : ∀ t, Steps p.tables e below (s₁.setTop (mkF m 282 #[.val (.long q1), .second, .val (.long (-q1)), .second, .val (.int (18 : Int32))] [])) t → Steps p.tables e below (s₁.setTop (entryFrame m #[(.long q1)] 5)) t := by
                                          intro t k
                                          refine pre111 t ?_
                                          show Steps p.tables e below (s₁.setTop (mkF m 268 #[.val (.long q1), .second, .val (.long (-q1)), .second, .unset] [(.int (lcmpW (-q1) (-1000000000000000000 : Int64)))])) _
                                          refine XS.ifNo X0.here hx rfl (hb hby d38_268) rfl ((if0 _ _).trans (tlt hc268_112).2.2.2) ?_
                                          show Steps p.tables e below (s₁.setTop (mkF m 271 #[.val (.long q1), .second, .val (.long (-q1)), .second, .unset] [])) _
                                          refine XS.bipush X0.here hx rfl (hb hby d38_271) ?_
                                          show Steps p.tables e below (s₁.setTop (mkF m 273 #[.val (.long q1), .second, .val (.long (-q1)), .second, .unset] [(.int (18 : Int32))])) _
                                          refine XS.istore X0.here hx rfl (hb hby d38_273) rfl (l' := #[.val (.long q1), .second, .val (.long (-q1)), .second, .val (.int (18 : Int32))]) rfl ?_
                                          show Steps p.tables e below (s₁.setTop (mkF m 275 #[.val (.long q1), .second, .val (.long (-q1)), .second, .val (.int (18 : Int32))] [])) _
                                          refine XS.goto X0.here hx rfl (pc0 := 275) (pc' := 282) rfl (hb hby d38_275) (by decide) (by decide) ?_
                                          exact k
                                        exact J282 (-q1) (18 : Int32) pre113 (by skip; simp only [f38, if_neg hc3_4, if_neg hc18_61, if_neg hc32_64, if_neg hc46_67, if_neg hc60_70, if_neg hc74_73, if_neg hc88_76, if_neg hc103_79, if_neg hc118_82, if_neg hc133_85, if_neg hc148_88, if_neg hc163_91, if_neg hc178_94, if_neg hc193_97, if_neg hc208_100, if_neg hc223_103, if_neg hc238_106, if_neg hc253_109, if_pos hc268_112])
                                      · have pre114 : ∀ t, Steps p.tables e below (s₁.setTop (mkF m 282 #[.val (.long q1), .second, .val (.long (-q1)), .second, .val (.int (19 : Int32))] [])) t → Steps p.tables e below (s₁.setTop (entryFrame m #[(.long q1)] 5)) t := by
                                          intro t k
                                          refine pre111 t ?_
                                          show Steps p.tables e below (s₁.setTop (mkF m 268 #[.val (.long q1), .second, .val (.long (-q1)), .second, .unset] [(.int (lcmpW (-q1) (-1000000000000000000 : Int64)))])) _
                                          refine XS.ifYes X0.here hx rfl (pc0 := 268) (pc' := 278) rfl (hb hby d38_268) rfl ((if0 _ _).trans (flt hc268_112).2.2.2) (by decide) (by decide) ?_
                                          show Steps p.tables e below (s₁.setTop (mkF m 278 #[.val (.long q1), .second, .val (.long (-q1)), .second, .unset] [])) _
                                          refine XS.bipush X0.here hx rfl (hb hby d38_278) ?_
                                          show Steps p.tables e below (s₁.setTop (mkF m 280 #[.val (.long q1), .second, .val (.long (-q1)), .second, .unset] [(.int (19 : Int32))])) _
                                          refine XS.istore X0.here hx rfl (hb hby d38_280) rfl (l' := #[.val (.long q1), .second, .val (.long (-q1)), .second, .val (.int (19 : Int32))]) rfl ?_
                                          exact k
                                        exact J282 (-q1) (19 : Int32) pre114 (by skip; simp only [f38, if_neg hc3_4, if_neg hc18_61, if_neg hc32_64, if_neg hc46_67, if_neg hc60_70, if_neg hc74_73, if_neg hc88_76, if_neg hc103_79, if_neg hc118_82, if_neg hc133_85, if_neg hc148_88, if_neg hc163_91, if_neg hc178_94, if_neg hc193_97, if_neg hc208_100, if_neg hc223_103, if_neg hc238_106, if_neg hc253_109, if_neg hc268_112])

theorem d47_0 : decode jdk_29_method_61_code 0 = .ok (.lload_n 0, 1) := by decide +kernel
theorem d47_1 : decode jdk_29_method_61_code 1 = .ok (.lconst 0, 1) := by decide +kernel
theorem d47_2 : decode jdk_29_method_61_code 2 = .ok (.lcmp, 1) := by decide +kernel
theorem d47_3 : decode jdk_29_method_61_code 3 = .ok (.ifCond .ge 8, 3) := by decide +kernel
theorem d47_6 : decode jdk_29_method_61_code 6 = .ok (.lload_n 0, 1) := by decide +kernel
theorem d47_7 : decode jdk_29_method_61_code 7 = .ok (.lneg, 1) := by decide +kernel
theorem d47_8 : decode jdk_29_method_61_code 8 = .ok (.goto 4, 3) := by decide +kernel
theorem d47_11 : decode jdk_29_method_61_code 11 = .ok (.lload_n 0, 1) := by decide +kernel
theorem d47_12 : decode jdk_29_method_61_code 12 = .ok (.lreturn, 1) := by decide +kernel
theorem ef_47 (m : MethodId) (q1 : Int64) : entryFrame m #[(.long q1)] 2 = mkF m 0 #[.val (.long q1), .second] [] := by first | (simp [entryFrame, mkF, argsToLocals, Value.category]; done) | rfl
def f47 (q1 : Int64) : Int64 := (if (lcmpW q1 (0 : Int64)) < (0 : Int32) then (-q1) else q1)
def Q47 (Z : State) (q1 : Int64) (h0 : Heap) (n0 : Nat) (v : Option Value) (h : Heap) (L : List Loc) : Prop := v = some (.long (f47 q1)) ∧ Fr n0 L ∧ h = h0
set_option maxRecDepth 65536 in
set_option maxHeartbeats 40000000 in
theorem rm47 (l : Launch) (Z : State) (a0 : Array Value) (hw : ∀ d ∈ tables_1, d.before a0 Z = true) (ws : List Jvm.Cond) (q1 : Int64) (h0 : Heap) (n0 : Nat)  :
    MetFree l (⟨"java/lang/Math", "abs", "(J)J"⟩ : MethodName) (head1 (Jvm.Cond.code (⟨"java/lang/Math", "abs", "(J)J"⟩ : MethodName) jdk_29_method_61_code 2 (some .long) :: ws) ({ frames := 0, cells := 0, slots := 0, locals := 0 } : Room)) (fun a U => a = #[(.long q1)] ∧ Z.Warmed39 U.vm ∧ U.heap = h0) (fun _ _ _ _ _ => True) (fun _ U o U' => ∃ v L, o = .returned v ∧ Q47 Z q1 h0 n0 v U'.heap L ∧ FrameEnd U o U' L ({ frames := 0, cells := 0, slots := 0, locals := 0 } : Room).cells ({ frames := 0, cells := 0, slots := 0, locals := 0 } : Room).slots) := by
  refine MetFree.of_bodySF (Jvm.Free.JP.mathPlain rfl (by decide +kernel)) hisR ?_
  intro p e s m args below meth c s₁ Bd hml0 hP hK
  obtain ⟨rfl, hZ, hh⟩ := hP
  have hx := Bd.exec
  have hby := Bd.bytes
  have hml : c.maxLocals = 2 := hml0
  have hown0 := findClass_of_methodNamed Bd.named
  have hown : s.vm.findClass "java/lang/Math" = some m.cls := hown0
  have hnm := (name_of_methodNamed Bd.named Bd.method).1
  have X0 : Stand p l e ({ frames := 0, cells := 0, slots := 0, locals := 0 } : Room) s m #[(.long q1)] below meth c s₁ [] 0 0 := Stand.of_body Bd
  have e0 : s₁.heap = h0 := by rw [← hh, Bd.state]; rfl
  have N0 := Fr.nil n0
  have pre0 : ∀ t, Steps p.tables e below (s₁.setTop (mkF m 0 #[.val (.long q1), .second] [])) t → Steps p.tables e below (s₁.setTop (entryFrame m #[(.long q1)] 2)) t := fun t k => castTop (ef_47 m q1) k
  refine Classical.byContradiction fun hneg => ?_
  have pre1 : ∀ t, Steps p.tables e below (s₁.setTop (mkF m 3 #[.val (.long q1), .second] [(.int (lcmpW q1 (0 : Int64)))])) t → Steps p.tables e below (s₁.setTop (entryFrame m #[(.long q1)] 2)) t := by
    intro t k
    refine pre0 t ?_
    show Steps p.tables e below (s₁.setTop (mkF m 0 #[.val (.long q1), .second] [])) _
    refine XS.lloadN X0.here hx rfl (hb hby d47_0) rfl ?_
    show Steps p.tables e below (s₁.setTop (mkF m 1 #[.val (.long q1), .second] [(.long q1)])) _
    refine XS.lconst X0.here hx rfl (hb hby d47_1) ?_
    show Steps p.tables e below (s₁.setTop (mkF m 2 #[.val (.long q1), .second] [(.long (0 : Int64)), (.long q1)])) _
    refine XS.lcmp X0.here hx rfl (hb hby d47_2) rfl ?_
    exact k
  by_cases hc3_2 : (lcmpW q1 (0 : Int64)) < (0 : Int32)
  · refine hneg ?_
    obtain ⟨fs, hr, hrun, hended, hW, hsame⟩ := X0.leave (v := some (.long (-q1))) (fun h => by rw [Bd.returns] at h; cases h)
    refine ⟨_, _, pre1 _ ?_, hrun, hended, _, _, rfl, ?_, ⟨_, rfl⟩, hW, hsame.mono (by decide) (by decide)⟩
    · show Steps p.tables e below (s₁.setTop (mkF m 3 #[.val (.long q1), .second] [(.int (lcmpW q1 (0 : Int64)))])) _
      refine XS.ifNo X0.here hx rfl (hb hby d47_3) rfl ((if0 _ _).trans (tlt hc3_2).2.1) ?_
      show Steps p.tables e below (s₁.setTop (mkF m 6 #[.val (.long q1), .second] [])) _
      refine XS.lloadN X0.here hx rfl (hb hby d47_6) rfl ?_
      show Steps p.tables e below (s₁.setTop (mkF m 7 #[.val (.long q1), .second] [(.long q1)])) _
      refine XS.lneg X0.here hx rfl (hb hby d47_7) rfl ?_
      show Steps p.tables e below (s₁.setTop (mkF m 8 #[.val (.long q1), .second] [(.long (-q1))])) _
      refine XS.goto X0.here hx rfl (pc0 := 8) (pc' := 12) rfl (hb hby d47_8) (by decide) (by decide) ?_
      show Steps p.tables e below (s₁.setTop (mkF m 12 #[.val (.long q1), .second] [(.long (-q1))])) _
      exact retOut X0 hx (t := .long) Bd.returns rfl (Or.inr (Or.inl ⟨rfl, rfl, _, rfl⟩)) (hb hby d47_12) hr
    · show Q47 Z q1 h0 n0 _ s₁.heap _
      rw [e0]
      refine ⟨?_, N0, rfl⟩
      rw [show f47 q1 = (-q1) from (by skip; simp only [f47, if_pos hc3_2])]
  · refine hneg ?_
    obtain ⟨fs, hr, hrun, hended, hW, hsame⟩ := X0.leave (v := some (.long q1)) (fun h => by rw [Bd.returns] at h; cases h)
    refine ⟨_, _, pre1 _ ?_, hrun, hended, _, _, rfl, ?_, ⟨_, rfl⟩, hW, hsame.mono (by decide) (by decide)⟩
    · show Steps p.tables e below (s₁.setTop (mkF m 3 #[.val (.long q1), .second] [(.int (lcmpW q1 (0 : Int64)))])) _
      refine XS.ifYes X0.here hx rfl (pc0 := 3) (pc' := 11) rfl (hb hby d47_3) rfl ((if0 _ _).trans (flt hc3_2).2.1) (by decide) (by decide) ?_
      show Steps p.tables e below (s₁.setTop (mkF m 11 #[.val (.long q1), .second] [])) _
      refine XS.lloadN X0.here hx rfl (hb hby d47_11) rfl ?_
      show Steps p.tables e below (s₁.setTop (mkF m 12 #[.val (.long q1), .second] [(.long q1)])) _
      exact retOut X0 hx (t := .long) Bd.returns rfl (Or.inr (Or.inl ⟨rfl, rfl, _, rfl⟩)) (hb hby d47_12) hr
    · show Q47 Z q1 h0 n0 _ s₁.heap _
      rw [e0]
      refine ⟨?_, N0, rfl⟩
      rw [show f47 q1 = q1 from (by skip; simp only [f47, if_neg hc3_2])]

theorem p10_at {r : Nat} (h : r < 19) : ([.long (1 : Int64), .long (10 : Int64), .long (100 : Int64), .long (1000 : Int64), .long (10000 : Int64), .long (100000 : Int64), .long (1000000 : Int64), .long (10000000 : Int64), .long (100000000 : Int64), .long (1000000000 : Int64), .long (10000000000 : Int64), .long (100000000000 : Int64), .long (1000000000000 : Int64), .long (10000000000000 : Int64), .long (100000000000000 : Int64), .long (1000000000000000 : Int64), .long (10000000000000000 : Int64), .long (100000000000000000 : Int64), .long (1000000000000000000 : Int64)] : List Value).getD (Int32.ofNat r).toNatClampNeg (.long (0 : Int64)) = .long (Int64.ofNat (10 ^ r)) := by
  rw [ofN_nat (by omega)]
  match r, h with
  | 0, _ => rfl
  | 1, _ => rfl
  | 2, _ => rfl
  | 3, _ => rfl
  | 4, _ => rfl
  | 5, _ => rfl
  | 6, _ => rfl
  | 7, _ => rfl
  | 8, _ => rfl
  | 9, _ => rfl
  | 10, _ => rfl
  | 11, _ => rfl
  | 12, _ => rfl
  | 13, _ => rfl
  | 14, _ => rfl
  | 15, _ => rfl
  | 16, _ => rfl
  | 17, _ => rfl
  | 18, _ => rfl
  | _ + 19, h => exact absurd h (by omega)

theorem d46_0 : decode method_5_code 0 = .ok (.bipush 19, 2) := by decide +kernel
theorem d46_2 : decode method_5_code 2 = .ok (.newarray .long, 2) := by decide +kernel
theorem d46_4 : decode method_5_code 4 = .ok (.dup, 1) := by decide +kernel
theorem d46_5 : decode method_5_code 5 = .ok (.iconst 0, 1) := by decide +kernel
theorem d46_6 : decode method_5_code 6 = .ok (.lconst 1, 1) := by decide +kernel
theorem d46_7 : decode method_5_code 7 = .ok (.lastore, 1) := by decide +kernel
theorem d46_8 : decode method_5_code 8 = .ok (.dup, 1) := by decide +kernel
theorem d46_9 : decode method_5_code 9 = .ok (.iconst 1, 1) := by decide +kernel
theorem d46_10 : decode method_5_code 10 = .ok (.ldc2_w 81, 3) := by decide +kernel
theorem d46_13 : decode method_5_code 13 = .ok (.lastore, 1) := by decide +kernel
theorem d46_14 : decode method_5_code 14 = .ok (.dup, 1) := by decide +kernel
theorem d46_15 : decode method_5_code 15 = .ok (.iconst 2, 1) := by decide +kernel
theorem d46_16 : decode method_5_code 16 = .ok (.ldc2_w 83, 3) := by decide +kernel
theorem d46_19 : decode method_5_code 19 = .ok (.lastore, 1) := by decide +kernel
theorem d46_20 : decode method_5_code 20 = .ok (.dup, 1) := by decide +kernel
theorem d46_21 : decode method_5_code 21 = .ok (.iconst 3, 1) := by decide +kernel
theorem d46_22 : decode method_5_code 22 = .ok (.ldc2_w 85, 3) := by decide +kernel
theorem d46_25 : decode method_5_code 25 = .ok (.lastore, 1) := by decide +kernel
theorem d46_26 : decode method_5_code 26 = .ok (.dup, 1) := by decide +kernel
theorem d46_27 : decode method_5_code 27 = .ok (.iconst 4, 1) := by decide +kernel
theorem d46_28 : decode method_5_code 28 = .ok (.ldc2_w 87, 3) := by decide +kernel
theorem d46_31 : decode method_5_code 31 = .ok (.lastore, 1) := by decide +kernel
theorem d46_32 : decode method_5_code 32 = .ok (.dup, 1) := by decide +kernel
theorem d46_33 : decode method_5_code 33 = .ok (.iconst 5, 1) := by decide +kernel
theorem d46_34 : decode method_5_code 34 = .ok (.ldc2_w 89, 3) := by decide +kernel
theorem d46_37 : decode method_5_code 37 = .ok (.lastore, 1) := by decide +kernel
theorem d46_38 : decode method_5_code 38 = .ok (.dup, 1) := by decide +kernel
theorem d46_39 : decode method_5_code 39 = .ok (.bipush 6, 2) := by decide +kernel
theorem d46_41 : decode method_5_code 41 = .ok (.ldc2_w 91, 3) := by decide +kernel
theorem d46_44 : decode method_5_code 44 = .ok (.lastore, 1) := by decide +kernel
theorem d46_45 : decode method_5_code 45 = .ok (.dup, 1) := by decide +kernel
theorem d46_46 : decode method_5_code 46 = .ok (.bipush 7, 2) := by decide +kernel
theorem d46_48 : decode method_5_code 48 = .ok (.ldc2_w 93, 3) := by decide +kernel
theorem d46_51 : decode method_5_code 51 = .ok (.lastore, 1) := by decide +kernel
theorem d46_52 : decode method_5_code 52 = .ok (.dup, 1) := by decide +kernel
theorem d46_53 : decode method_5_code 53 = .ok (.bipush 8, 2) := by decide +kernel
theorem d46_55 : decode method_5_code 55 = .ok (.ldc2_w 95, 3) := by decide +kernel
theorem d46_58 : decode method_5_code 58 = .ok (.lastore, 1) := by decide +kernel
theorem d46_59 : decode method_5_code 59 = .ok (.dup, 1) := by decide +kernel
theorem d46_60 : decode method_5_code 60 = .ok (.bipush 9, 2) := by decide +kernel
theorem d46_62 : decode method_5_code 62 = .ok (.ldc2_w 97, 3) := by decide +kernel
theorem d46_65 : decode method_5_code 65 = .ok (.lastore, 1) := by decide +kernel
theorem d46_66 : decode method_5_code 66 = .ok (.dup, 1) := by decide +kernel
theorem d46_67 : decode method_5_code 67 = .ok (.bipush 10, 2) := by decide +kernel
theorem d46_69 : decode method_5_code 69 = .ok (.ldc2_w 99, 3) := by decide +kernel
theorem d46_72 : decode method_5_code 72 = .ok (.lastore, 1) := by decide +kernel
theorem d46_73 : decode method_5_code 73 = .ok (.dup, 1) := by decide +kernel
theorem d46_74 : decode method_5_code 74 = .ok (.bipush 11, 2) := by decide +kernel
theorem d46_76 : decode method_5_code 76 = .ok (.ldc2_w 101, 3) := by decide +kernel
theorem d46_79 : decode method_5_code 79 = .ok (.lastore, 1) := by decide +kernel
theorem d46_80 : decode method_5_code 80 = .ok (.dup, 1) := by decide +kernel
theorem d46_81 : decode method_5_code 81 = .ok (.bipush 12, 2) := by decide +kernel
theorem d46_83 : decode method_5_code 83 = .ok (.ldc2_w 103, 3) := by decide +kernel
theorem d46_86 : decode method_5_code 86 = .ok (.lastore, 1) := by decide +kernel
theorem d46_87 : decode method_5_code 87 = .ok (.dup, 1) := by decide +kernel
theorem d46_88 : decode method_5_code 88 = .ok (.bipush 13, 2) := by decide +kernel
theorem d46_90 : decode method_5_code 90 = .ok (.ldc2_w 105, 3) := by decide +kernel
theorem d46_93 : decode method_5_code 93 = .ok (.lastore, 1) := by decide +kernel
theorem d46_94 : decode method_5_code 94 = .ok (.dup, 1) := by decide +kernel
theorem d46_95 : decode method_5_code 95 = .ok (.bipush 14, 2) := by decide +kernel
theorem d46_97 : decode method_5_code 97 = .ok (.ldc2_w 107, 3) := by decide +kernel
theorem d46_100 : decode method_5_code 100 = .ok (.lastore, 1) := by decide +kernel
theorem d46_101 : decode method_5_code 101 = .ok (.dup, 1) := by decide +kernel
theorem d46_102 : decode method_5_code 102 = .ok (.bipush 15, 2) := by decide +kernel
theorem d46_104 : decode method_5_code 104 = .ok (.ldc2_w 109, 3) := by decide +kernel
theorem d46_107 : decode method_5_code 107 = .ok (.lastore, 1) := by decide +kernel
theorem d46_108 : decode method_5_code 108 = .ok (.dup, 1) := by decide +kernel
theorem d46_109 : decode method_5_code 109 = .ok (.bipush 16, 2) := by decide +kernel
theorem d46_111 : decode method_5_code 111 = .ok (.ldc2_w 111, 3) := by decide +kernel
theorem d46_114 : decode method_5_code 114 = .ok (.lastore, 1) := by decide +kernel
theorem d46_115 : decode method_5_code 115 = .ok (.dup, 1) := by decide +kernel
theorem d46_116 : decode method_5_code 116 = .ok (.bipush 17, 2) := by decide +kernel
theorem d46_118 : decode method_5_code 118 = .ok (.ldc2_w 113, 3) := by decide +kernel
theorem d46_121 : decode method_5_code 121 = .ok (.lastore, 1) := by decide +kernel
theorem d46_122 : decode method_5_code 122 = .ok (.dup, 1) := by decide +kernel
theorem d46_123 : decode method_5_code 123 = .ok (.bipush 18, 2) := by decide +kernel
theorem d46_125 : decode method_5_code 125 = .ok (.ldc2_w 115, 3) := by decide +kernel
theorem d46_128 : decode method_5_code 128 = .ok (.lastore, 1) := by decide +kernel
theorem d46_129 : decode method_5_code 129 = .ok (.astore_n 1, 1) := by decide +kernel
theorem d46_130 : decode method_5_code 130 = .ok (.aload_n 1, 1) := by decide +kernel
theorem d46_131 : decode method_5_code 131 = .ok (.iload_n 0, 1) := by decide +kernel
theorem d46_132 : decode method_5_code 132 = .ok (.laload, 1) := by decide +kernel
theorem d46_133 : decode method_5_code 133 = .ok (.lreturn, 1) := by decide +kernel
theorem pn_46 : plainName "com/example/tranche/tranche/journal/JournalEndTornTailPinLaw" = true := by first | (simp [plainName, overriddenIn]; done) | decide +kernel
theorem ef_46 (m : MethodId) (zf0 : Int32) : entryFrame m #[(.int zf0)] 2 = mkF m 0 #[.val (.int zf0), .unset] [] := by first | (simp [entryFrame, mkF, argsToLocals, Value.category]; done) | rfl
def Q46 (Z : State)  (r : Nat) (h0 : Heap) (n0 : Nat) (v : Option Value) (h : Heap) (L : List Loc) : Prop := v = some (.long (Int64.ofNat (10 ^ r))) ∧ Fr n0 L ∧ Keep h0 h []
set_option maxRecDepth 65536 in
set_option maxHeartbeats 40000000 in
theorem rm46 (l : Launch) (Z : State) (a0 : Array Value) (hw : ∀ d ∈ tables_1, d.before a0 Z = true) (ws : List Jvm.Cond)  (h0 : Heap) (n0 : Nat) (r : Nat) (hr : r < 19) (Z0 : n0 ≤ h0.size) :
    MetFree l (⟨"com/example/tranche/tranche/journal/JournalEndTornTailPinLaw", "pow10", "(I)J"⟩ : MethodName) (head1 (Jvm.Cond.code (⟨"com/example/tranche/tranche/journal/JournalEndTornTailPinLaw", "pow10", "(I)J"⟩ : MethodName) method_5_code 2 (some .long) :: ws) ({ frames := 0, cells := 1, slots := 19, locals := 0 } : Room)) (fun a U => a = #[(.int (Int32.ofNat r))] ∧ Z.Warmed39 U.vm ∧ U.heap = h0) (fun _ _ _ _ _ => True) (fun _ U o U' => ∃ v L, o = .returned v ∧ Q46 Z r h0 n0 v U'.heap L ∧ FrameEnd U o U' L ({ frames := 0, cells := 1, slots := 19, locals := 0 } : Room).cells ({ frames := 0, cells := 1, slots := 19, locals := 0 } : Room).slots) := by
  refine MetFree.of_bodySF (plainFor_of_name pn_46) hisR ?_
  intro p e s m args below meth c s₁ Bd hml0 hP hK
  obtain ⟨rfl, hZ, hh⟩ := hP
  have hx := Bd.exec
  have hby := Bd.bytes
  have hml : c.maxLocals = 2 := hml0
  have hown0 := findClass_of_methodNamed Bd.named
  have hown : s.vm.findClass "com/example/tranche/tranche/journal/JournalEndTornTailPinLaw" = some m.cls := hown0
  have hnm := (name_of_methodNamed Bd.named Bd.method).1
  have X0 : Stand p l e ({ frames := 0, cells := 1, slots := 19, locals := 0 } : Room) s m #[(.int (Int32.ofNat r))] below meth c s₁ [] 0 0 := Stand.of_body Bd
  have e0 : s₁.heap = h0 := by rw [← hh, Bd.state]; rfl
  have N0 := Fr.nil n0
  have pre0 : ∀ t, Steps p.tables e below (s₁.setTop (mkF m 0 #[.val (.int (Int32.ofNat r)), .unset] [])) t → Steps p.tables e below (s₁.setTop (entryFrame m #[(.int (Int32.ofNat r))] 2)) t := fun t k => castTop (ef_46 m ((Int32.ofNat r))) k
  refine Classical.byContradiction fun hneg => ?_
  obtain ⟨T1, h1, k1, X1, e1, E1, A1, st1⟩ := newP X0 hx hZ (hw _ (List.mem_of_getElem? (i := 264) rfl)) e0 (g := (mkF m 2 #[.val (.int (Int32.ofNat r)), .unset] [(.int (19 : Int32))])) rfl (hb hby d46_2) rfl (by decide) (cap := 19) (by decide) (by decide) (by decide) (by decide)
  obtain ⟨b1, g1⟩ : ∃ z, z = h0.size := ⟨_, rfl⟩
  rw [← g1] at A1 st1
  have g_b1 : n0 ≤ b1 := Nat.le_trans Z0 (Nat.le_of_eq g1.symm)
  have sz_b1 : h0.size ≤ b1 := Nat.le_trans (Keep.refl h0 []).1 (Nat.le_of_eq g1.symm)
  have K1 : Keep h0 h1 [] := (Keep.refl h0 []).ext E1
  have Z1 : n0 ≤ h1.size := Nat.le_trans Z0 E1.1
  have V_b1 : Arv Z h1 b1 k1 .long (19 : Int32) [(.long (0 : Int64)), (.long (0 : Int64)), (.long (0 : Int64)), (.long (0 : Int64)), (.long (0 : Int64)), (.long (0 : Int64)), (.long (0 : Int64)), (.long (0 : Int64)), (.long (0 : Int64)), (.long (0 : Int64)), (.long (0 : Int64)), (.long (0 : Int64)), (.long (0 : Int64)), (.long (0 : Int64)), (.long (0 : Int64)), (.long (0 : Int64)), (.long (0 : Int64)), (.long (0 : Int64)), (.long (0 : Int64))] (.long (0 : Int64)) := (Arv.new A1 (by decide)).pad (pad_rep [] (.long (0 : Int64)) 19)
  obtain ⟨cl2, Ar2, q2, S2_, N2_, H2_, G2_⟩ := V_b1
  have hin2 : ¬ ((0 : Int32) < 0 ∨ cl2.slots.size ≤ ((0 : Int32)).toNatClampNeg) := inb_of S2_ ⟨by decide, by decide⟩
  obtain ⟨T2, h2, X2, e2, W2, st2⟩ := stJ X1 hx hZ e1 Ar2 (j := (0 : Int32)) hin2 (g := (mkF m 7 #[.val (.int (Int32.ofNat r)), .unset] [(.long (1 : Int64)), (.int (0 : Int32)), (.ref b1), (.ref b1)])) rfl rfl (hb hby d46_7)
  have V_b1_2 : Arv Z h2 b1 k1 .long (19 : Int32) [(.long (1 : Int64)), (.long (0 : Int64)), (.long (0 : Int64)), (.long (0 : Int64)), (.long (0 : Int64)), (.long (0 : Int64)), (.long (0 : Int64)), (.long (0 : Int64)), (.long (0 : Int64)), (.long (0 : Int64)), (.long (0 : Int64)), (.long (0 : Int64)), (.long (0 : Int64)), (.long (0 : Int64)), (.long (0 : Int64)), (.long (0 : Int64)), (.long (0 : Int64)), (.long (0 : Int64)), (.long (0 : Int64))] (.long (0 : Int64)) := Arv.set Ar2 q2 S2_ N2_ H2_ G2_ rfl W2 0 rfl (Nat.le_of_ble_eq_true rfl)
  have K2 : Keep h0 h2 [] := K1.wr W2 (Or.inr sz_b1)
  have N2 := Fr.snoc X2 N0 g_b1
  have Z2 : n0 ≤ h2.size := Nat.le_trans Z1 (Keep.of_wr W2).1
  obtain ⟨cl3, Ar3, q3, S3_, N3_, H3_, G3_⟩ := V_b1_2
  have hin3 : ¬ ((1 : Int32) < 0 ∨ cl3.slots.size ≤ ((1 : Int32)).toNatClampNeg) := inb_of S3_ ⟨by decide, by decide⟩
  obtain ⟨T3, h3, X3, e3, W3, st3⟩ := stJ X2 hx hZ e2 Ar3 (j := (1 : Int32)) hin3 (g := (mkF m 13 #[.val (.int (Int32.ofNat r)), .unset] [(.long (10 : Int64)), (.int (1 : Int32)), (.ref b1), (.ref b1)])) rfl rfl (hb hby d46_13)
  have V_b1_3 : Arv Z h3 b1 k1 .long (19 : Int32) [(.long (1 : Int64)), (.long (10 : Int64)), (.long (0 : Int64)), (.long (0 : Int64)), (.long (0 : Int64)), (.long (0 : Int64)), (.long (0 : Int64)), (.long (0 : Int64)), (.long (0 : Int64)), (.long (0 : Int64)), (.long (0 : Int64)), (.long (0 : Int64)), (.long (0 : Int64)), (.long (0 : Int64)), (.long (0 : Int64)), (.long (0 : Int64)), (.long (0 : Int64)), (.long (0 : Int64)), (.long (0 : Int64))] (.long (0 : Int64)) := Arv.set Ar3 q3 S3_ N3_ H3_ G3_ rfl W3 1 rfl (Nat.le_of_ble_eq_true rfl)
  have K3 : Keep h0 h3 [] := K2.wr W3 (Or.inr sz_b1)
  have N3 := Fr.snoc X3 N2 g_b1
  have Z3 : n0 ≤ h3.size := Nat.le_trans Z2 (Keep.of_wr W3).1
  obtain ⟨cl4, Ar4, q4, S4_, N4_, H4_, G4_⟩ := V_b1_3
  have hin4 : ¬ ((2 : Int32) < 0 ∨ cl4.slots.size ≤ ((2 : Int32)).toNatClampNeg) := inb_of S4_ ⟨by decide, by decide⟩
  obtain ⟨T4, h4, X4, e4, W4, st4⟩ := stJ X3 hx hZ e3 Ar4 (j := (2 : Int32)) hin4 (g := (mkF m 19 #[.val (.int (Int32.ofNat r)), .unset] [(.long (100 : Int64)), (.int (2 : Int32)), (.ref b1), (.ref b1)])) rfl rfl (hb hby d46_19)
  have V_b1_4 : Arv Z h4 b1 k1 .long (19 : Int32) [(.long (1 : Int64)), (.long (10 : Int64)), (.long (100 : Int64)), (.long (0 : Int64)), (.long (0 : Int64)), (.long (0 : Int64)), (.long (0 : Int64)), (.long (0 : Int64)), (.long (0 : Int64)), (.long (0 : Int64)), (.long (0 : Int64)), (.long (0 : Int64)), (.long (0 : Int64)), (.long (0 : Int64)), (.long (0 : Int64)), (.long (0 : Int64)), (.long (0 : Int64)), (.long (0 : Int64)), (.long (0 : Int64))] (.long (0 : Int64)) := Arv.set Ar4 q4 S4_ N4_ H4_ G4_ rfl W4 2 rfl (Nat.le_of_ble_eq_true rfl)
  have K4 : Keep h0 h4 [] := K3.wr W4 (Or.inr sz_b1)
  have N4 := Fr.snoc X4 N3 g_b1
  have Z4 : n0 ≤ h4.size := Nat.le_trans Z3 (Keep.of_wr W4).1
  obtain ⟨cl5, Ar5, q5, S5_, N5_, H5_, G5_⟩ := V_b1_4
  have hin5 : ¬ ((3 : Int32) < 0 ∨ cl5.slots.size ≤ ((3 : Int32)).toNatClampNeg) := inb_of S5_ ⟨by decide, by decide⟩
  obtain ⟨T5, h5, X5, e5, W5, st5⟩ := stJ X4 hx hZ e4 Ar5 (j := (3 : Int32)) hin5 (g := (mkF m 25 #[.val (.int (Int32.ofNat r)), .unset] [(.long (1000 : Int64)), (.int (3 : Int32)), (.ref b1), (.ref b1)])) rfl rfl (hb hby d46_25)
  have V_b1_5 : Arv Z h5 b1 k1 .long (19 : Int32) [(.long (1 : Int64)), (.long (10 : Int64)), (.long (100 : Int64)), (.long (1000 : Int64)), (.long (0 : Int64)), (.long (0 : Int64)), (.long (0 : Int64)), (.long (0 : Int64)), (.long (0 : Int64)), (.long (0 : Int64)), (.long (0 : Int64)), (.long (0 : Int64)), (.long (0 : Int64)), (.long (0 : Int64)), (.long (0 : Int64)), (.long (0 : Int64)), (.long (0 : Int64)), (.long (0 : Int64)), (.long (0 : Int64))] (.long (0 : Int64)) := Arv.set Ar5 q5 S5_ N5_ H5_ G5_ rfl W5 3 rfl (Nat.le_of_ble_eq_true rfl)
  have K5 : Keep h0 h5 [] := K4.wr W5 (Or.inr sz_b1)
  have N5 := Fr.snoc X5 N4 g_b1
  have Z5 : n0 ≤ h5.size := Nat.le_trans Z4 (Keep.of_wr W5).1
  obtain ⟨cl6, Ar6, q6, S6_, N6_, H6_, G6_⟩ := V_b1_5
  have hin6 : ¬ ((4 : Int32) < 0 ∨ cl6.slots.size ≤ ((4 : Int32)).toNatClampNeg) := inb_of S6_ ⟨by decide, by decide⟩
  obtain ⟨T6, h6, X6, e6, W6, st6⟩ := stJ X5 hx hZ e5 Ar6 (j := (4 : Int32)) hin6 (g := (mkF m 31 #[.val (.int (Int32.ofNat r)), .unset] [(.long (10000 : Int64)), (.int (4 : Int32)), (.ref b1), (.ref b1)])) rfl rfl (hb hby d46_31)
  have V_b1_6 : Arv Z h6 b1 k1 .long (19 : Int32) [(.long (1 : Int64)), (.long (10 : Int64)), (.long (100 : Int64)), (.long (1000 : Int64)), (.long (10000 : Int64)), (.long (0 : Int64)), (.long (0 : Int64)), (.long (0 : Int64)), (.long (0 : Int64)), (.long (0 : Int64)), (.long (0 : Int64)), (.long (0 : Int64)), (.long (0 : Int64)), (.long (0 : Int64)), (.long (0 : Int64)), (.long (0 : Int64)), (.long (0 : Int64)), (.long (0 : Int64)), (.long (0 : Int64))] (.long (0 : Int64)) := Arv.set Ar6 q6 S6_ N6_ H6_ G6_ rfl W6 4 rfl (Nat.le_of_ble_eq_true rfl)
  have K6 : Keep h0 h6 [] := K5.wr W6 (Or.inr sz_b1)
  have N6 := Fr.snoc X6 N5 g_b1
  have Z6 : n0 ≤ h6.size := Nat.le_trans Z5 (Keep.of_wr W6).1
  obtain ⟨cl7, Ar7, q7, S7_, N7_, H7_, G7_⟩ := V_b1_6
  have hin7 : ¬ ((5 : Int32) < 0 ∨ cl7.slots.size ≤ ((5 : Int32)).toNatClampNeg) := inb_of S7_ ⟨by decide, by decide⟩
  obtain ⟨T7, h7, X7, e7, W7, st7⟩ := stJ X6 hx hZ e6 Ar7 (j := (5 : Int32)) hin7 (g := (mkF m 37 #[.val (.int (Int32.ofNat r)), .unset] [(.long (100000 : Int64)), (.int (5 : Int32)), (.ref b1), (.ref b1)])) rfl rfl (hb hby d46_37)
  have V_b1_7 : Arv Z h7 b1 k1 .long (19 : Int32) [(.long (1 : Int64)), (.long (10 : Int64)), (.long (100 : Int64)), (.long (1000 : Int64)), (.long (10000 : Int64)), (.long (100000 : Int64)), (.long (0 : Int64)), (.long (0 : Int64)), (.long (0 : Int64)), (.long (0 : Int64)), (.long (0 : Int64)), (.long (0 : Int64)), (.long (0 : Int64)), (.long (0 : Int64)), (.long (0 : Int64)), (.long (0 : Int64)), (.long (0 : Int64)), (.long (0 : Int64)), (.long (0 : Int64))] (.long (0 : Int64)) := Arv.set Ar7 q7 S7_ N7_ H7_ G7_ rfl W7 5 rfl (Nat.le_of_ble_eq_true rfl)
  have K7 : Keep h0 h7 [] := K6.wr W7 (Or.inr sz_b1)
  have N7 := Fr.snoc X7 N6 g_b1
  have Z7 : n0 ≤ h7.size := Nat.le_trans Z6 (Keep.of_wr W7).1
  obtain ⟨cl8, Ar8, q8, S8_, N8_, H8_, G8_⟩ := V_b1_7
  have hin8 : ¬ ((6 : Int32) < 0 ∨ cl8.slots.size ≤ ((6 : Int32)).toNatClampNeg) := inb_of S8_ ⟨by decide, by decide⟩
  obtain ⟨T8, h8, X8, e8, W8, st8⟩ := stJ X7 hx hZ e7 Ar8 (j := (6 : Int32)) hin8 (g := (mkF m 44 #[.val (.int (Int32.ofNat r)), .unset] [(.long (1000000 : Int64)), (.int (6 : Int32)), (.ref b1), (.ref b1)])) rfl rfl (hb hby d46_44)
  have V_b1_8 : Arv Z h8 b1 k1 .long (19 : Int32) [(.long (1 : Int64)), (.long (10 : Int64)), (.long (100 : Int64)), (.long (1000 : Int64)), (.long (10000 : Int64)), (.long (100000 : Int64)), (.long (1000000 : Int64)), (.long (0 : Int64)), (.long (0 : Int64)), (.long (0 : Int64)), (.long (0 : Int64)), (.long (0 : Int64)), (.long (0 : Int64)), (.long (0 : Int64)), (.long (0 : Int64)), (.long (0 : Int64)), (.long (0 : Int64)), (.long (0 : Int64)), (.long (0 : Int64))] (.long (0 : Int64)) := Arv.set Ar8 q8 S8_ N8_ H8_ G8_ rfl W8 6 rfl (Nat.le_of_ble_eq_true rfl)
  have K8 : Keep h0 h8 [] := K7.wr W8 (Or.inr sz_b1)
  have N8 := Fr.snoc X8 N7 g_b1
  have Z8 : n0 ≤ h8.size := Nat.le_trans Z7 (Keep.of_wr W8).1
  obtain ⟨cl9, Ar9, q9, S9_, N9_, H9_, G9_⟩ := V_b1_8
  have hin9 : ¬ ((7 : Int32) < 0 ∨ cl9.slots.size ≤ ((7 : Int32)).toNatClampNeg) := inb_of S9_ ⟨by decide, by decide⟩
  obtain ⟨T9, h9, X9, e9, W9, st9⟩ := stJ X8 hx hZ e8 Ar9 (j := (7 : Int32)) hin9 (g := (mkF m 51 #[.val (.int (Int32.ofNat r)), .unset] [(.long (10000000 : Int64)), (.int (7 : Int32)), (.ref b1), (.ref b1)])) rfl rfl (hb hby d46_51)
  have V_b1_9 : Arv Z h9 b1 k1 .long (19 : Int32) [(.long (1 : Int64)), (.long (10 : Int64)), (.long (100 : Int64)), (.long (1000 : Int64)), (.long (10000 : Int64)), (.long (100000 : Int64)), (.long (1000000 : Int64)), (.long (10000000 : Int64)), (.long (0 : Int64)), (.long (0 : Int64)), (.long (0 : Int64)), (.long (0 : Int64)), (.long (0 : Int64)), (.long (0 : Int64)), (.long (0 : Int64)), (.long (0 : Int64)), (.long (0 : Int64)), (.long (0 : Int64)), (.long (0 : Int64))] (.long (0 : Int64)) := Arv.set Ar9 q9 S9_ N9_ H9_ G9_ rfl W9 7 rfl (Nat.le_of_ble_eq_true rfl)
  have K9 : Keep h0 h9 [] := K8.wr W9 (Or.inr sz_b1)
  have N9 := Fr.snoc X9 N8 g_b1
  have Z9 : n0 ≤ h9.size := Nat.le_trans Z8 (Keep.of_wr W9).1
  obtain ⟨cl10, Ar10, q10, S10_, N10_, H10_, G10_⟩ := V_b1_9
  have hin10 : ¬ ((8 : Int32) < 0 ∨ cl10.slots.size ≤ ((8 : Int32)).toNatClampNeg) := inb_of S10_ ⟨by decide, by decide⟩
  obtain ⟨T10, h10, X10, e10, W10, st10⟩ := stJ X9 hx hZ e9 Ar10 (j := (8 : Int32)) hin10 (g := (mkF m 58 #[.val (.int (Int32.ofNat r)), .unset] [(.long (100000000 : Int64)), (.int (8 : Int32)), (.ref b1), (.ref b1)])) rfl rfl (hb hby d46_58)
  have V_b1_10 : Arv Z h10 b1 k1 .long (19 : Int32) [(.long (1 : Int64)), (.long (10 : Int64)), (.long (100 : Int64)), (.long (1000 : Int64)), (.long (10000 : Int64)), (.long (100000 : Int64)), (.long (1000000 : Int64)), (.long (10000000 : Int64)), (.long (100000000 : Int64)), (.long (0 : Int64)), (.long (0 : Int64)), (.long (0 : Int64)), (.long (0 : Int64)), (.long (0 : Int64)), (.long (0 : Int64)), (.long (0 : Int64)), (.long (0 : Int64)), (.long (0 : Int64)), (.long (0 : Int64))] (.long (0 : Int64)) := Arv.set Ar10 q10 S10_ N10_ H10_ G10_ rfl W10 8 rfl (Nat.le_of_ble_eq_true rfl)
  have K10 : Keep h0 h10 [] := K9.wr W10 (Or.inr sz_b1)
  have N10 := Fr.snoc X10 N9 g_b1
  have Z10 : n0 ≤ h10.size := Nat.le_trans Z9 (Keep.of_wr W10).1
  obtain ⟨cl11, Ar11, q11, S11_, N11_, H11_, G11_⟩ := V_b1_10
  have hin11 : ¬ ((9 : Int32) < 0 ∨ cl11.slots.size ≤ ((9 : Int32)).toNatClampNeg) := inb_of S11_ ⟨by decide, by decide⟩
  obtain ⟨T11, h11, X11, e11, W11, st11⟩ := stJ X10 hx hZ e10 Ar11 (j := (9 : Int32)) hin11 (g := (mkF m 65 #[.val (.int (Int32.ofNat r)), .unset] [(.long (1000000000 : Int64)), (.int (9 : Int32)), (.ref b1), (.ref b1)])) rfl rfl (hb hby d46_65)
  have V_b1_11 : Arv Z h11 b1 k1 .long (19 : Int32) [(.long (1 : Int64)), (.long (10 : Int64)), (.long (100 : Int64)), (.long (1000 : Int64)), (.long (10000 : Int64)), (.long (100000 : Int64)), (.long (1000000 : Int64)), (.long (10000000 : Int64)), (.long (100000000 : Int64)), (.long (1000000000 : Int64)), (.long (0 : Int64)), (.long (0 : Int64)), (.long (0 : Int64)), (.long (0 : Int64)), (.long (0 : Int64)), (.long (0 : Int64)), (.long (0 : Int64)), (.long (0 : Int64)), (.long (0 : Int64))] (.long (0 : Int64)) := Arv.set Ar11 q11 S11_ N11_ H11_ G11_ rfl W11 9 rfl (Nat.le_of_ble_eq_true rfl)
  have K11 : Keep h0 h11 [] := K10.wr W11 (Or.inr sz_b1)
  have N11 := Fr.snoc X11 N10 g_b1
  have Z11 : n0 ≤ h11.size := Nat.le_trans Z10 (Keep.of_wr W11).1
  obtain ⟨cl12, Ar12, q12, S12_, N12_, H12_, G12_⟩ := V_b1_11
  have hin12 : ¬ ((10 : Int32) < 0 ∨ cl12.slots.size ≤ ((10 : Int32)).toNatClampNeg) := inb_of S12_ ⟨by decide, by decide⟩
  obtain ⟨T12, h12, X12, e12, W12, st12⟩ := stJ X11 hx hZ e11 Ar12 (j := (10 : Int32)) hin12 (g := (mkF m 72 #[.val (.int (Int32.ofNat r)), .unset] [(.long (10000000000 : Int64)), (.int (10 : Int32)), (.ref b1), (.ref b1)])) rfl rfl (hb hby d46_72)
  have V_b1_12 : Arv Z h12 b1 k1 .long (19 : Int32) [(.long (1 : Int64)), (.long (10 : Int64)), (.long (100 : Int64)), (.long (1000 : Int64)), (.long (10000 : Int64)), (.long (100000 : Int64)), (.long (1000000 : Int64)), (.long (10000000 : Int64)), (.long (100000000 : Int64)), (.long (1000000000 : Int64)), (.long (10000000000 : Int64)), (.long (0 : Int64)), (.long (0 : Int64)), (.long (0 : Int64)), (.long (0 : Int64)), (.long (0 : Int64)), (.long (0 : Int64)), (.long (0 : Int64)), (.long (0 : Int64))] (.long (0 : Int64)) := Arv.set Ar12 q12 S12_ N12_ H12_ G12_ rfl W12 10 rfl (Nat.le_of_ble_eq_true rfl)
  have K12 : Keep h0 h12 [] := K11.wr W12 (Or.inr sz_b1)
  have N12 := Fr.snoc X12 N11 g_b1
  have Z12 : n0 ≤ h12.size := Nat.le_trans Z11 (Keep.of_wr W12).1
  obtain ⟨cl13, Ar13, q13, S13_, N13_, H13_, G13_⟩ := V_b1_12
  have hin13 : ¬ ((11 : Int32) < 0 ∨ cl13.slots.size ≤ ((11 : Int32)).toNatClampNeg) := inb_of S13_ ⟨by decide, by decide⟩
  obtain ⟨T13, h13, X13, e13, W13, st13⟩ := stJ X12 hx hZ e12 Ar13 (j := (11 : Int32)) hin13 (g := (mkF m 79 #[.val (.int (Int32.ofNat r)), .unset] [(.long (100000000000 : Int64)), (.int (11 : Int32)), (.ref b1), (.ref b1)])) rfl rfl (hb hby d46_79)
  have V_b1_13 : Arv Z h13 b1 k1 .long (19 : Int32) [(.long (1 : Int64)), (.long (10 : Int64)), (.long (100 : Int64)), (.long (1000 : Int64)), (.long (10000 : Int64)), (.long (100000 : Int64)), (.long (1000000 : Int64)), (.long (10000000 : Int64)), (.long (100000000 : Int64)), (.long (1000000000 : Int64)), (.long (10000000000 : Int64)), (.long (100000000000 : Int64)), (.long (0 : Int64)), (.long (0 : Int64)), (.long (0 : Int64)), (.long (0 : Int64)), (.long (0 : Int64)), (.long (0 : Int64)), (.long (0 : Int64))] (.long (0 : Int64)) := Arv.set Ar13 q13 S13_ N13_ H13_ G13_ rfl W13 11 rfl (Nat.le_of_ble_eq_true rfl)
  have K13 : Keep h0 h13 [] := K12.wr W13 (Or.inr sz_b1)
  have N13 := Fr.snoc X13 N12 g_b1
  have Z13 : n0 ≤ h13.size := Nat.le_trans Z12 (Keep.of_wr W13).1
  obtain ⟨cl14, Ar14, q14, S14_, N14_, H14_, G14_⟩ := V_b1_13
  have hin14 : ¬ ((12 : Int32) < 0 ∨ cl14.slots.size ≤ ((12 : Int32)).toNatClampNeg) := inb_of S14_ ⟨by decide, by decide⟩
  obtain ⟨T14, h14, X14, e14, W14, st14⟩ := stJ X13 hx hZ e13 Ar14 (j := (12 : Int32)) hin14 (g := (mkF m 86 #[.val (.int (Int32.ofNat r)), .unset] [(.long (1000000000000 : Int64)), (.int (12 : Int32)), (.ref b1), (.ref b1)])) rfl rfl (hb hby d46_86)
  have V_b1_14 : Arv Z h14 b1 k1 .long (19 : Int32) [(.long (1 : Int64)), (.long (10 : Int64)), (.long (100 : Int64)), (.long (1000 : Int64)), (.long (10000 : Int64)), (.long (100000 : Int64)), (.long (1000000 : Int64)), (.long (10000000 : Int64)), (.long (100000000 : Int64)), (.long (1000000000 : Int64)), (.long (10000000000 : Int64)), (.long (100000000000 : Int64)), (.long (1000000000000 : Int64)), (.long (0 : Int64)), (.long (0 : Int64)), (.long (0 : Int64)), (.long (0 : Int64)), (.long (0 : Int64)), (.long (0 : Int64))] (.long (0 : Int64)) := Arv.set Ar14 q14 S14_ N14_ H14_ G14_ rfl W14 12 rfl (Nat.le_of_ble_eq_true rfl)
  have K14 : Keep h0 h14 [] := K13.wr W14 (Or.inr sz_b1)
  have N14 := Fr.snoc X14 N13 g_b1
  have Z14 : n0 ≤ h14.size := Nat.le_trans Z13 (Keep.of_wr W14).1
  obtain ⟨cl15, Ar15, q15, S15_, N15_, H15_, G15_⟩ := V_b1_14
  have hin15 : ¬ ((13 : Int32) < 0 ∨ cl15.slots.size ≤ ((13 : Int32)).toNatClampNeg) := inb_of S15_ ⟨by decide, by decide⟩
  obtain ⟨T15, h15, X15, e15, W15, st15⟩ := stJ X14 hx hZ e14 Ar15 (j := (13 : Int32)) hin15 (g := (mkF m 93 #[.val (.int (Int32.ofNat r)), .unset] [(.long (10000000000000 : Int64)), (.int (13 : Int32)), (.ref b1), (.ref b1)])) rfl rfl (hb hby d46_93)
  have V_b1_15 : Arv Z h15 b1 k1 .long (19 : Int32) [(.long (1 : Int64)), (.long (10 : Int64)), (.long (100 : Int64)), (.long (1000 : Int64)), (.long (10000 : Int64)), (.long (100000 : Int64)), (.long (1000000 : Int64)), (.long (10000000 : Int64)), (.long (100000000 : Int64)), (.long (1000000000 : Int64)), (.long (10000000000 : Int64)), (.long (100000000000 : Int64)), (.long (1000000000000 : Int64)), (.long (10000000000000 : Int64)), (.long (0 : Int64)), (.long (0 : Int64)), (.long (0 : Int64)), (.long (0 : Int64)), (.long (0 : Int64))] (.long (0 : Int64)) := Arv.set Ar15 q15 S15_ N15_ H15_ G15_ rfl W15 13 rfl (Nat.le_of_ble_eq_true rfl)
  have K15 : Keep h0 h15 [] := K14.wr W15 (Or.inr sz_b1)
  have N15 := Fr.snoc X15 N14 g_b1
  have Z15 : n0 ≤ h15.size := Nat.le_trans Z14 (Keep.of_wr W15).1
  obtain ⟨cl16, Ar16, q16, S16_, N16_, H16_, G16_⟩ := V_b1_15
  have hin16 : ¬ ((14 : Int32) < 0 ∨ cl16.slots.size ≤ ((14 : Int32)).toNatClampNeg) := inb_of S16_ ⟨by decide, by decide⟩
  obtain ⟨T16, h16, X16, e16, W16, st16⟩ := stJ X15 hx hZ e15 Ar16 (j := (14 : Int32)) hin16 (g := (mkF m 100 #[.val (.int (Int32.ofNat r)), .unset] [(.long (100000000000000 : Int64)), (.int (14 : Int32)), (.ref b1), (.ref b1)])) rfl rfl (hb hby d46_100)
  have V_b1_16 : Arv Z h16 b1 k1 .long (19 : Int32) [(.long (1 : Int64)), (.long (10 : Int64)), (.long (100 : Int64)), (.long (1000 : Int64)), (.long (10000 : Int64)), (.long (100000 : Int64)), (.long (1000000 : Int64)), (.long (10000000 : Int64)), (.long (100000000 : Int64)), (.long (1000000000 : Int64)), (.long (10000000000 : Int64)), (.long (100000000000 : Int64)), (.long (1000000000000 : Int64)), (.long (10000000000000 : Int64)), (.long (100000000000000 : Int64)), (.long (0 : Int64)), (.long (0 : Int64)), (.long (0 : Int64)), (.long (0 : Int64))] (.long (0 : Int64)) := Arv.set Ar16 q16 S16_ N16_ H16_ G16_ rfl W16 14 rfl (Nat.le_of_ble_eq_true rfl)
  have K16 : Keep h0 h16 [] := K15.wr W16 (Or.inr sz_b1)
  have N16 := Fr.snoc X16 N15 g_b1
  have Z16 : n0 ≤ h16.size := Nat.le_trans Z15 (Keep.of_wr W16).1
  obtain ⟨cl17, Ar17, q17, S17_, N17_, H17_, G17_⟩ := V_b1_16
  have hin17 : ¬ ((15 : Int32) < 0 ∨ cl17.slots.size ≤ ((15 : Int32)).toNatClampNeg) := inb_of S17_ ⟨by decide, by decide⟩
  obtain ⟨T17, h17, X17, e17, W17, st17⟩ := stJ X16 hx hZ e16 Ar17 (j := (15 : Int32)) hin17 (g := (mkF m 107 #[.val (.int (Int32.ofNat r)), .unset] [(.long (1000000000000000 : Int64)), (.int (15 : Int32)), (.ref b1), (.ref b1)])) rfl rfl (hb hby d46_107)
  have V_b1_17 : Arv Z h17 b1 k1 .long (19 : Int32) [(.long (1 : Int64)), (.long (10 : Int64)), (.long (100 : Int64)), (.long (1000 : Int64)), (.long (10000 : Int64)), (.long (100000 : Int64)), (.long (1000000 : Int64)), (.long (10000000 : Int64)), (.long (100000000 : Int64)), (.long (1000000000 : Int64)), (.long (10000000000 : Int64)), (.long (100000000000 : Int64)), (.long (1000000000000 : Int64)), (.long (10000000000000 : Int64)), (.long (100000000000000 : Int64)), (.long (1000000000000000 : Int64)), (.long (0 : Int64)), (.long (0 : Int64)), (.long (0 : Int64))] (.long (0 : Int64)) := Arv.set Ar17 q17 S17_ N17_ H17_ G17_ rfl W17 15 rfl (Nat.le_of_ble_eq_true rfl)
  have K17 : Keep h0 h17 [] := K16.wr W17 (Or.inr sz_b1)
  have N17 := Fr.snoc X17 N16 g_b1
  have Z17 : n0 ≤ h17.size := Nat.le_trans Z16 (Keep.of_wr W17).1
  obtain ⟨cl18, Ar18, q18, S18_, N18_, H18_, G18_⟩ := V_b1_17
  have hin18 : ¬ ((16 : Int32) < 0 ∨ cl18.slots.size ≤ ((16 : Int32)).toNatClampNeg) := inb_of S18_ ⟨by decide, by decide⟩
  obtain ⟨T18, h18, X18, e18, W18, st18⟩ := stJ X17 hx hZ e17 Ar18 (j := (16 : Int32)) hin18 (g := (mkF m 114 #[.val (.int (Int32.ofNat r)), .unset] [(.long (10000000000000000 : Int64)), (.int (16 : Int32)), (.ref b1), (.ref b1)])) rfl rfl (hb hby d46_114)
  have V_b1_18 : Arv Z h18 b1 k1 .long (19 : Int32) [(.long (1 : Int64)), (.long (10 : Int64)), (.long (100 : Int64)), (.long (1000 : Int64)), (.long (10000 : Int64)), (.long (100000 : Int64)), (.long (1000000 : Int64)), (.long (10000000 : Int64)), (.long (100000000 : Int64)), (.long (1000000000 : Int64)), (.long (10000000000 : Int64)), (.long (100000000000 : Int64)), (.long (1000000000000 : Int64)), (.long (10000000000000 : Int64)), (.long (100000000000000 : Int64)), (.long (1000000000000000 : Int64)), (.long (10000000000000000 : Int64)), (.long (0 : Int64)), (.long (0 : Int64))] (.long (0 : Int64)) := Arv.set Ar18 q18 S18_ N18_ H18_ G18_ rfl W18 16 rfl (Nat.le_of_ble_eq_true rfl)
  have K18 : Keep h0 h18 [] := K17.wr W18 (Or.inr sz_b1)
  have N18 := Fr.snoc X18 N17 g_b1
  have Z18 : n0 ≤ h18.size := Nat.le_trans Z17 (Keep.of_wr W18).1
  obtain ⟨cl19, Ar19, q19, S19_, N19_, H19_, G19_⟩ := V_b1_18
  have hin19 : ¬ ((17 : Int32) < 0 ∨ cl19.slots.size ≤ ((17 : Int32)).toNatClampNeg) := inb_of S19_ ⟨by decide, by decide⟩
  obtain ⟨T19, h19, X19, e19, W19, st19⟩ := stJ X18 hx hZ e18 Ar19 (j := (17 : Int32)) hin19 (g := (mkF m 121 #[.val (.int (Int32.ofNat r)), .unset] [(.long (100000000000000000 : Int64)), (.int (17 : Int32)), (.ref b1), (.ref b1)])) rfl rfl (hb hby d46_121)
  have V_b1_19 : Arv Z h19 b1 k1 .long (19 : Int32) [(.long (1 : Int64)), (.long (10 : Int64)), (.long (100 : Int64)), (.long (1000 : Int64)), (.long (10000 : Int64)), (.long (100000 : Int64)), (.long (1000000 : Int64)), (.long (10000000 : Int64)), (.long (100000000 : Int64)), (.long (1000000000 : Int64)), (.long (10000000000 : Int64)), (.long (100000000000 : Int64)), (.long (1000000000000 : Int64)), (.long (10000000000000 : Int64)), (.long (100000000000000 : Int64)), (.long (1000000000000000 : Int64)), (.long (10000000000000000 : Int64)), (.long (100000000000000000 : Int64)), (.long (0 : Int64))] (.long (0 : Int64)) := Arv.set Ar19 q19 S19_ N19_ H19_ G19_ rfl W19 17 rfl (Nat.le_of_ble_eq_true rfl)
  have K19 : Keep h0 h19 [] := K18.wr W19 (Or.inr sz_b1)
  have N19 := Fr.snoc X19 N18 g_b1
  have Z19 : n0 ≤ h19.size := Nat.le_trans Z18 (Keep.of_wr W19).1
  obtain ⟨cl20, Ar20, q20, S20_, N20_, H20_, G20_⟩ := V_b1_19
  have hin20 : ¬ ((18 : Int32) < 0 ∨ cl20.slots.size ≤ ((18 : Int32)).toNatClampNeg) := inb_of S20_ ⟨by decide, by decide⟩
  obtain ⟨T20, h20, X20, e20, W20, st20⟩ := stJ X19 hx hZ e19 Ar20 (j := (18 : Int32)) hin20 (g := (mkF m 128 #[.val (.int (Int32.ofNat r)), .unset] [(.long (1000000000000000000 : Int64)), (.int (18 : Int32)), (.ref b1), (.ref b1)])) rfl rfl (hb hby d46_128)
  have V_b1_20 : Arv Z h20 b1 k1 .long (19 : Int32) [(.long (1 : Int64)), (.long (10 : Int64)), (.long (100 : Int64)), (.long (1000 : Int64)), (.long (10000 : Int64)), (.long (100000 : Int64)), (.long (1000000 : Int64)), (.long (10000000 : Int64)), (.long (100000000 : Int64)), (.long (1000000000 : Int64)), (.long (10000000000 : Int64)), (.long (100000000000 : Int64)), (.long (1000000000000 : Int64)), (.long (10000000000000 : Int64)), (.long (100000000000000 : Int64)), (.long (1000000000000000 : Int64)), (.long (10000000000000000 : Int64)), (.long (100000000000000000 : Int64)), (.long (1000000000000000000 : Int64))] (.long (0 : Int64)) := Arv.set Ar20 q20 S20_ N20_ H20_ G20_ rfl W20 18 rfl (Nat.le_of_ble_eq_true rfl)
  have K20 : Keep h0 h20 [] := K19.wr W20 (Or.inr sz_b1)
  have N20 := Fr.snoc X20 N19 g_b1
  have Z20 : n0 ≤ h20.size := Nat.le_trans Z19 (Keep.of_wr W20).1
  obtain ⟨cl21, Ar21, q21, S21_, N21_, H21_, G21_⟩ := V_b1_20
  have hin21 : ¬ ((Int32.ofNat r) < 0 ∨ cl21.slots.size ≤ ((Int32.ofNat r)).toNatClampNeg) := inb_of S21_ (inB (L := 19) (by decide) hr)
  have hat21 : cl21.slots[((Int32.ofNat r)).toNatClampNeg]? = some (.long (Int64.ofNat (10 ^ r))) := H21_.at hin21 (p10_at hr)
  refine hneg ?_
  obtain ⟨fs, hr, hrun, hended, hW, hsame⟩ := X20.leave (v := some (.long (Int64.ofNat (10 ^ r)))) (fun h => by rw [Bd.returns] at h; cases h)
  refine ⟨_, _, pre0 _ ?_, hrun, hended, _, _, rfl, ?_, ⟨_, rfl⟩, hW, hsame.mono (by decide) (by decide)⟩
  · show Steps p.tables e below (s₁.setTop (mkF m 0 #[.val (.int (Int32.ofNat r)), .unset] [])) _
    refine XS.bipush X0.here hx rfl (hb hby d46_0) ?_
    show Steps p.tables e below (s₁.setTop (mkF m 2 #[.val (.int (Int32.ofNat r)), .unset] [(.int (19 : Int32))])) _
    refine st1 _ ?_
    show Steps p.tables e below (T1.setTop (mkF m 4 #[.val (.int (Int32.ofNat r)), .unset] [(.ref b1)])) _
    refine XS.dup X1.here hx rfl (hb hby d46_4) rfl rfl ?_
    show Steps p.tables e below (T1.setTop (mkF m 5 #[.val (.int (Int32.ofNat r)), .unset] [(.ref b1), (.ref b1)])) _
    refine XS.iconst X1.here hx rfl (hb hby d46_5) ?_
    show Steps p.tables e below (T1.setTop (mkF m 6 #[.val (.int (Int32.ofNat r)), .unset] [(.int (0 : Int32)), (.ref b1), (.ref b1)])) _
    refine XS.lconst X1.here hx rfl (hb hby d46_6) ?_
    show Steps p.tables e below (T1.setTop (mkF m 7 #[.val (.int (Int32.ofNat r)), .unset] [(.long (1 : Int64)), (.int (0 : Int32)), (.ref b1), (.ref b1)])) _
    refine st2 _ ?_
    show Steps p.tables e below (T2.setTop (mkF m 8 #[.val (.int (Int32.ofNat r)), .unset] [(.ref b1)])) _
    refine XS.dup X2.here hx rfl (hb hby d46_8) rfl rfl ?_
    show Steps p.tables e below (T2.setTop (mkF m 9 #[.val (.int (Int32.ofNat r)), .unset] [(.ref b1), (.ref b1)])) _
    refine XS.iconst X2.here hx rfl (hb hby d46_9) ?_
    show Steps p.tables e below (T2.setTop (mkF m 10 #[.val (.int (Int32.ofNat r)), .unset] [(.int (1 : Int32)), (.ref b1), (.ref b1)])) _
    refine X2.ldc2Long hx hown (mvT hZ (hw _ (List.mem_of_getElem? (i := 265) rfl))) (g := (mkF m 10 #[.val (.int (Int32.ofNat r)), .unset] [(.int (1 : Int32)), (.ref b1), (.ref b1)])) rfl (hb hby d46_10) _ ?_
    show Steps p.tables e below (T2.setTop (mkF m 13 #[.val (.int (Int32.ofNat r)), .unset] [(.long (10 : Int64)), (.int (1 : Int32)), (.ref b1), (.ref b1)])) _
    refine st3 _ ?_
    show Steps p.tables e below (T3.setTop (mkF m 14 #[.val (.int (Int32.ofNat r)), .unset] [(.ref b1)])) _
    refine XS.dup X3.here hx rfl (hb hby d46_14) rfl rfl ?_
    show Steps p.tables e below (T3.setTop (mkF m 15 #[.val (.int (Int32.ofNat r)), .unset] [(.ref b1), (.ref b1)])) _
    refine XS.iconst X3.here hx rfl (hb hby d46_15) ?_
    show Steps p.tables e below (T3.setTop (mkF m 16 #[.val (.int (Int32.ofNat r)), .unset] [(.int (2 : Int32)), (.ref b1), (.ref b1)])) _
    refine X3.ldc2Long hx hown (mvT hZ (hw _ (List.mem_of_getElem? (i := 266) rfl))) (g := (mkF m 16 #[.val (.int (Int32.ofNat r)), .unset] [(.int (2 : Int32)), (.ref b1), (.ref b1)])) rfl (hb hby d46_16) _ ?_
    show Steps p.tables e below (T3.setTop (mkF m 19 #[.val (.int (Int32.ofNat r)), .unset] [(.long (100 : Int64)), (.int (2 : Int32)), (.ref b1), (.ref b1)])) _
    refine st4 _ ?_
    show Steps p.tables e below (T4.setTop (mkF m 20 #[.val (.int (Int32.ofNat r)), .unset] [(.ref b1)])) _
    refine XS.dup X4.here hx rfl (hb hby d46_20) rfl rfl ?_
    show Steps p.tables e below (T4.setTop (mkF m 21 #[.val (.int (Int32.ofNat r)), .unset] [(.ref b1), (.ref b1)])) _
    refine XS.iconst X4.here hx rfl (hb hby d46_21) ?_
    show Steps p.tables e below (T4.setTop (mkF m 22 #[.val (.int (Int32.ofNat r)), .unset] [(.int (3 : Int32)), (.ref b1), (.ref b1)])) _
    refine X4.ldc2Long hx hown (mvT hZ (hw _ (List.mem_of_getElem? (i := 267) rfl))) (g := (mkF m 22 #[.val (.int (Int32.ofNat r)), .unset] [(.int (3 : Int32)), (.ref b1), (.ref b1)])) rfl (hb hby d46_22) _ ?_
    show Steps p.tables e below (T4.setTop (mkF m 25 #[.val (.int (Int32.ofNat r)), .unset] [(.long (1000 : Int64)), (.int (3 : Int32)), (.ref b1), (.ref b1)])) _
    refine st5 _ ?_
    show Steps p.tables e below (T5.setTop (mkF m 26 #[.val (.int (Int32.ofNat r)), .unset] [(.ref b1)])) _
    refine XS.dup X5.here hx rfl (hb hby d46_26) rfl rfl ?_
    show Steps p.tables e below (T5.setTop (mkF m 27 #[.val (.int (Int32.ofNat r)), .unset] [(.ref b1), (.ref b1)])) _
    refine XS.iconst X5.here hx rfl (hb hby d46_27) ?_
    show Steps p.tables e below (T5.setTop (mkF m 28 #[.val (.int (Int32.ofNat r)), .unset] [(.int (4 : Int32)), (.ref b1), (.ref b1)])) _
    refine X5.ldc2Long hx hown (mvT hZ (hw _ (List.mem_of_getElem? (i := 268) rfl))) (g := (mkF m 28 #[.val (.int (Int32.ofNat r)), .unset] [(.int (4 : Int32)), (.ref b1), (.ref b1)])) rfl (hb hby d46_28) _ ?_
    show Steps p.tables e below (T5.setTop (mkF m 31 #[.val (.int (Int32.ofNat r)), .unset] [(.long (10000 : Int64)), (.int (4 : Int32)), (.ref b1), (.ref b1)])) _
    refine st6 _ ?_
    show Steps p.tables e below (T6.setTop (mkF m 32 #[.val (.int (Int32.ofNat r)), .unset] [(.ref b1)])) _
    refine XS.dup X6.here hx rfl (hb hby d46_32) rfl rfl ?_
    show Steps p.tables e below (T6.setTop (mkF m 33 #[.val (.int (Int32.ofNat r)), .unset] [(.ref b1), (.ref b1)])) _
    refine XS.iconst X6.here hx rfl (hb hby d46_33) ?_
    show Steps p.tables e below (T6.setTop (mkF m 34 #[.val (.int (Int32.ofNat r)), .unset] [(.int (5 : Int32)), (.ref b1), (.ref b1)])) _
    refine X6.ldc2Long hx hown (mvT hZ (hw _ (List.mem_of_getElem? (i := 269) rfl))) (g := (mkF m 34 #[.val (.int (Int32.ofNat r)), .unset] [(.int (5 : Int32)), (.ref b1), (.ref b1)])) rfl (hb hby d46_34) _ ?_
    show Steps p.tables e below (T6.setTop (mkF m 37 #[.val (.int (Int32.ofNat r)), .unset] [(.long (100000 : Int64)), (.int (5 : Int32)), (.ref b1), (.ref b1)])) _
    refine st7 _ ?_
    show Steps p.tables e below (T7.setTop (mkF m 38 #[.val (.int (Int32.ofNat r)), .unset] [(.ref b1)])) _
    refine XS.dup X7.here hx rfl (hb hby d46_38) rfl rfl ?_
    show Steps p.tables e below (T7.setTop (mkF m 39 #[.val (.int (Int32.ofNat r)), .unset] [(.ref b1), (.ref b1)])) _
    refine XS.bipush X7.here hx rfl (hb hby d46_39) ?_
    show Steps p.tables e below (T7.setTop (mkF m 41 #[.val (.int (Int32.ofNat r)), .unset] [(.int (6 : Int32)), (.ref b1), (.ref b1)])) _
    refine X7.ldc2Long hx hown (mvT hZ (hw _ (List.mem_of_getElem? (i := 270) rfl))) (g := (mkF m 41 #[.val (.int (Int32.ofNat r)), .unset] [(.int (6 : Int32)), (.ref b1), (.ref b1)])) rfl (hb hby d46_41) _ ?_
    show Steps p.tables e below (T7.setTop (mkF m 44 #[.val (.int (Int32.ofNat r)), .unset] [(.long (1000000 : Int64)), (.int (6 : Int32)), (.ref b1), (.ref b1)])) _
    refine st8 _ ?_
    show Steps p.tables e below (T8.setTop (mkF m 45 #[.val (.int (Int32.ofNat r)), .unset] [(.ref b1)])) _
    refine XS.dup X8.here hx rfl (hb hby d46_45) rfl rfl ?_
    show Steps p.tables e below (T8.setTop (mkF m 46 #[.val (.int (Int32.ofNat r)), .unset] [(.ref b1), (.ref b1)])) _
    refine XS.bipush X8.here hx rfl (hb hby d46_46) ?_
    show Steps p.tables e below (T8.setTop (mkF m 48 #[.val (.int (Int32.ofNat r)), .unset] [(.int (7 : Int32)), (.ref b1), (.ref b1)])) _
    refine X8.ldc2Long hx hown (mvT hZ (hw _ (List.mem_of_getElem? (i := 271) rfl))) (g := (mkF m 48 #[.val (.int (Int32.ofNat r)), .unset] [(.int (7 : Int32)), (.ref b1), (.ref b1)])) rfl (hb hby d46_48) _ ?_
    show Steps p.tables e below (T8.setTop (mkF m 51 #[.val (.int (Int32.ofNat r)), .unset] [(.long (10000000 : Int64)), (.int (7 : Int32)), (.ref b1), (.ref b1)])) _
    refine st9 _ ?_
    show Steps p.tables e below (T9.setTop (mkF m 52 #[.val (.int (Int32.ofNat r)), .unset] [(.ref b1)])) _
    refine XS.dup X9.here hx rfl (hb hby d46_52) rfl rfl ?_
    show Steps p.tables e below (T9.setTop (mkF m 53 #[.val (.int (Int32.ofNat r)), .unset] [(.ref b1), (.ref b1)])) _
    refine XS.bipush X9.here hx rfl (hb hby d46_53) ?_
    show Steps p.tables e below (T9.setTop (mkF m 55 #[.val (.int (Int32.ofNat r)), .unset] [(.int (8 : Int32)), (.ref b1), (.ref b1)])) _
    refine X9.ldc2Long hx hown (mvT hZ (hw _ (List.mem_of_getElem? (i := 272) rfl))) (g := (mkF m 55 #[.val (.int (Int32.ofNat r)), .unset] [(.int (8 : Int32)), (.ref b1), (.ref b1)])) rfl (hb hby d46_55) _ ?_
    show Steps p.tables e below (T9.setTop (mkF m 58 #[.val (.int (Int32.ofNat r)), .unset] [(.long (100000000 : Int64)), (.int (8 : Int32)), (.ref b1), (.ref b1)])) _
    refine st10 _ ?_
    show Steps p.tables e below (T10.setTop (mkF m 59 #[.val (.int (Int32.ofNat r)), .unset] [(.ref b1)])) _
    refine XS.dup X10.here hx rfl (hb hby d46_59) rfl rfl ?_
    show Steps p.tables e below (T10.setTop (mkF m 60 #[.val (.int (Int32.ofNat r)), .unset] [(.ref b1), (.ref b1)])) _
    refine XS.bipush X10.here hx rfl (hb hby d46_60) ?_
    show Steps p.tables e below (T10.setTop (mkF m 62 #[.val (.int (Int32.ofNat r)), .unset] [(.int (9 : Int32)), (.ref b1), (.ref b1)])) _
    refine X10.ldc2Long hx hown (mvT hZ (hw _ (List.mem_of_getElem? (i := 273) rfl))) (g := (mkF m 62 #[.val (.int (Int32.ofNat r)), .unset] [(.int (9 : Int32)), (.ref b1), (.ref b1)])) rfl (hb hby d46_62) _ ?_
    show Steps p.tables e below (T10.setTop (mkF m 65 #[.val (.int (Int32.ofNat r)), .unset] [(.long (1000000000 : Int64)), (.int (9 : Int32)), (.ref b1), (.ref b1)])) _
    refine st11 _ ?_
    show Steps p.tables e below (T11.setTop (mkF m 66 #[.val (.int (Int32.ofNat r)), .unset] [(.ref b1)])) _
    refine XS.dup X11.here hx rfl (hb hby d46_66) rfl rfl ?_
    show Steps p.tables e below (T11.setTop (mkF m 67 #[.val (.int (Int32.ofNat r)), .unset] [(.ref b1), (.ref b1)])) _
    refine XS.bipush X11.here hx rfl (hb hby d46_67) ?_
    show Steps p.tables e below (T11.setTop (mkF m 69 #[.val (.int (Int32.ofNat r)), .unset] [(.int (10 : Int32)), (.ref b1), (.ref b1)])) _
    refine X11.ldc2Long hx hown (mvT hZ (hw _ (List.mem_of_getElem? (i := 274) rfl))) (g := (mkF m 69 #[.val (.int (Int32.ofNat r)), .unset] [(.int (10 : Int32)), (.ref b1), (.ref b1)])) rfl (hb hby d46_69) _ ?_
    show Steps p.tables e below (T11.setTop (mkF m 72 #[.val (.int (Int32.ofNat r)), .unset] [(.long (10000000000 : Int64)), (.int (10 : Int32)), (.ref b1), (.ref b1)])) _
    refine st12 _ ?_
    show Steps p.tables e below (T12.setTop (mkF m 73 #[.val (.int (Int32.ofNat r)), .unset] [(.ref b1)])) _
    refine XS.dup X12.here hx rfl (hb hby d46_73) rfl rfl ?_
    show Steps p.tables e below (T12.setTop (mkF m 74 #[.val (.int (Int32.ofNat r)), .unset] [(.ref b1), (.ref b1)])) _
    refine XS.bipush X12.here hx rfl (hb hby d46_74) ?_
    show Steps p.tables e below (T12.setTop (mkF m 76 #[.val (.int (Int32.ofNat r)), .unset] [(.int (11 : Int32)), (.ref b1), (.ref b1)])) _
    refine X12.ldc2Long hx hown (mvT hZ (hw _ (List.mem_of_getElem? (i := 275) rfl))) (g := (mkF m 76 #[.val (.int (Int32.ofNat r)), .unset] [(.int (11 : Int32)), (.ref b1), (.ref b1)])) rfl (hb hby d46_76) _ ?_
    show Steps p.tables e below (T12.setTop (mkF m 79 #[.val (.int (Int32.ofNat r)), .unset] [(.long (100000000000 : Int64)), (.int (11 : Int32)), (.ref b1), (.ref b1)])) _
    refine st13 _ ?_
    show Steps p.tables e below (T13.setTop (mkF m 80 #[.val (.int (Int32.ofNat r)), .unset] [(.ref b1)])) _
    refine XS.dup X13.here hx rfl (hb hby d46_80) rfl rfl ?_
    show Steps p.tables e below (T13.setTop (mkF m 81 #[.val (.int (Int32.ofNat r)), .unset] [(.ref b1), (.ref b1)])) _
    refine XS.bipush X13.here hx rfl (hb hby d46_81) ?_
    show Steps p.tables e below (T13.setTop (mkF m 83 #[.val (.int (Int32.ofNat r)), .unset] [(.int (12 : Int32)), (.ref b1), (.ref b1)])) _
    refine X13.ldc2Long hx hown (mvT hZ (hw _ (List.mem_of_getElem? (i := 276) rfl))) (g := (mkF m 83 #[.val (.int (Int32.ofNat r)), .unset] [(.int (12 : Int32)), (.ref b1), (.ref b1)])) rfl (hb hby d46_83) _ ?_
    show Steps p.tables e below (T13.setTop (mkF m 86 #[.val (.int (Int32.ofNat r)), .unset] [(.long (1000000000000 : Int64)), (.int (12 : Int32)), (.ref b1), (.ref b1)])) _
    refine st14 _ ?_
    show Steps p.tables e below (T14.setTop (mkF m 87 #[.val (.int (Int32.ofNat r)), .unset] [(.ref b1)])) _
    refine XS.dup X14.here hx rfl (hb hby d46_87) rfl rfl ?_
    show Steps p.tables e below (T14.setTop (mkF m 88 #[.val (.int (Int32.ofNat r)), .unset] [(.ref b1), (.ref b1)])) _
    refine XS.bipush X14.here hx rfl (hb hby d46_88) ?_
    show Steps p.tables e below (T14.setTop (mkF m 90 #[.val (.int (Int32.ofNat r)), .unset] [(.int (13 : Int32)), (.ref b1), (.ref b1)])) _
    refine X14.ldc2Long hx hown (mvT hZ (hw _ (List.mem_of_getElem? (i := 277) rfl))) (g := (mkF m 90 #[.val (.int (Int32.ofNat r)), .unset] [(.int (13 : Int32)), (.ref b1), (.ref b1)])) rfl (hb hby d46_90) _ ?_
    show Steps p.tables e below (T14.setTop (mkF m 93 #[.val (.int (Int32.ofNat r)), .unset] [(.long (10000000000000 : Int64)), (.int (13 : Int32)), (.ref b1), (.ref b1)])) _
    refine st15 _ ?_
    show Steps p.tables e below (T15.setTop (mkF m 94 #[.val (.int (Int32.ofNat r)), .unset] [(.ref b1)])) _
    refine XS.dup X15.here hx rfl (hb hby d46_94) rfl rfl ?_
    show Steps p.tables e below (T15.setTop (mkF m 95 #[.val (.int (Int32.ofNat r)), .unset] [(.ref b1), (.ref b1)])) _
    refine XS.bipush X15.here hx rfl (hb hby d46_95) ?_
    show Steps p.tables e below (T15.setTop (mkF m 97 #[.val (.int (Int32.ofNat r)), .unset] [(.int (14 : Int32)), (.ref b1), (.ref b1)])) _
    refine X15.ldc2Long hx hown (mvT hZ (hw _ (List.mem_of_getElem? (i := 278) rfl))) (g := (mkF m 97 #[.val (.int (Int32.ofNat r)), .unset] [(.int (14 : Int32)), (.ref b1), (.ref b1)])) rfl (hb hby d46_97) _ ?_
    show Steps p.tables e below (T15.setTop (mkF m 100 #[.val (.int (Int32.ofNat r)), .unset] [(.long (100000000000000 : Int64)), (.int (14 : Int32)), (.ref b1), (.ref b1)])) _
    refine st16 _ ?_
    show Steps p.tables e below (T16.setTop (mkF m 101 #[.val (.int (Int32.ofNat r)), .unset] [(.ref b1)])) _
    refine XS.dup X16.here hx rfl (hb hby d46_101) rfl rfl ?_
    show Steps p.tables e below (T16.setTop (mkF m 102 #[.val (.int (Int32.ofNat r)), .unset] [(.ref b1), (.ref b1)])) _
    refine XS.bipush X16.here hx rfl (hb hby d46_102) ?_
    show Steps p.tables e below (T16.setTop (mkF m 104 #[.val (.int (Int32.ofNat r)), .unset] [(.int (15 : Int32)), (.ref b1), (.ref b1)])) _
    refine X16.ldc2Long hx hown (mvT hZ (hw _ (List.mem_of_getElem? (i := 279) rfl))) (g := (mkF m 104 #[.val (.int (Int32.ofNat r)), .unset] [(.int (15 : Int32)), (.ref b1), (.ref b1)])) rfl (hb hby d46_104) _ ?_
    show Steps p.tables e below (T16.setTop (mkF m 107 #[.val (.int (Int32.ofNat r)), .unset] [(.long (1000000000000000 : Int64)), (.int (15 : Int32)), (.ref b1), (.ref b1)])) _
    refine st17 _ ?_
    show Steps p.tables e below (T17.setTop (mkF m 108 #[.val (.int (Int32.ofNat r)), .unset] [(.ref b1)])) _
    refine XS.dup X17.here hx rfl (hb hby d46_108) rfl rfl ?_
    show Steps p.tables e below (T17.setTop (mkF m 109 #[.val (.int (Int32.ofNat r)), .unset] [(.ref b1), (.ref b1)])) _
    refine XS.bipush X17.here hx rfl (hb hby d46_109) ?_
    show Steps p.tables e below (T17.setTop (mkF m 111 #[.val (.int (Int32.ofNat r)), .unset] [(.int (16 : Int32)), (.ref b1), (.ref b1)])) _
    refine X17.ldc2Long hx hown (mvT hZ (hw _ (List.mem_of_getElem? (i := 280) rfl))) (g := (mkF m 111 #[.val (.int (Int32.ofNat r)), .unset] [(.int (16 : Int32)), (.ref b1), (.ref b1)])) rfl (hb hby d46_111) _ ?_
    show Steps p.tables e below (T17.setTop (mkF m 114 #[.val (.int (Int32.ofNat r)), .unset] [(.long (10000000000000000 : Int64)), (.int (16 : Int32)), (.ref b1), (.ref b1)])) _
    refine st18 _ ?_
    show Steps p.tables e below (T18.setTop (mkF m 115 #[.val (.int (Int32.ofNat r)), .unset] [(.ref b1)])) _
    refine XS.dup X18.here hx rfl (hb hby d46_115) rfl rfl ?_
    show Steps p.tables e below (T18.setTop (mkF m 116 #[.val (.int (Int32.ofNat r)), .unset] [(.ref b1), (.ref b1)])) _
    refine XS.bipush X18.here hx rfl (hb hby d46_116) ?_
    show Steps p.tables e below (T18.setTop (mkF m 118 #[.val (.int (Int32.ofNat r)), .unset] [(.int (17 : Int32)), (.ref b1), (.ref b1)])) _
    refine X18.ldc2Long hx hown (mvT hZ (hw _ (List.mem_of_getElem? (i := 281) rfl))) (g := (mkF m 118 #[.val (.int (Int32.ofNat r)), .unset] [(.int (17 : Int32)), (.ref b1), (.ref b1)])) rfl (hb hby d46_118) _ ?_
    show Steps p.tables e below (T18.setTop (mkF m 121 #[.val (.int (Int32.ofNat r)), .unset] [(.long (100000000000000000 : Int64)), (.int (17 : Int32)), (.ref b1), (.ref b1)])) _
    refine st19 _ ?_
    show Steps p.tables e below (T19.setTop (mkF m 122 #[.val (.int (Int32.ofNat r)), .unset] [(.ref b1)])) _
    refine XS.dup X19.here hx rfl (hb hby d46_122) rfl rfl ?_
    show Steps p.tables e below (T19.setTop (mkF m 123 #[.val (.int (Int32.ofNat r)), .unset] [(.ref b1), (.ref b1)])) _
    refine XS.bipush X19.here hx rfl (hb hby d46_123) ?_
    show Steps p.tables e below (T19.setTop (mkF m 125 #[.val (.int (Int32.ofNat r)), .unset] [(.int (18 : Int32)), (.ref b1), (.ref b1)])) _
    refine X19.ldc2Long hx hown (mvT hZ (hw _ (List.mem_of_getElem? (i := 282) rfl))) (g := (mkF m 125 #[.val (.int (Int32.ofNat r)), .unset] [(.int (18 : Int32)), (.ref b1), (.ref b1)])) rfl (hb hby d46_125) _ ?_
    show Steps p.tables e below (T19.setTop (mkF m 128 #[.val (.int (Int32.ofNat r)), .unset] [(.long (1000000000000000000 : Int64)), (.int (18 : Int32)), (.ref b1), (.ref b1)])) _
    refine st20 _ ?_
    show Steps p.tables e below (T20.setTop (mkF m 129 #[.val (.int (Int32.ofNat r)), .unset] [(.ref b1)])) _
    refine XS.astoreN X20.here hx rfl (hb hby d46_129) rfl rfl (l' := #[.val (.int (Int32.ofNat r)), .val (.ref b1)]) rfl ?_
    show Steps p.tables e below (T20.setTop (mkF m 130 #[.val (.int (Int32.ofNat r)), .val (.ref b1)] [])) _
    refine XS.aloadN X20.here hx rfl (hb hby d46_130) rfl rfl ?_
    show Steps p.tables e below (T20.setTop (mkF m 131 #[.val (.int (Int32.ofNat r)), .val (.ref b1)] [(.ref b1)])) _
    refine XS.iloadN X20.here hx rfl (hb hby d46_131) rfl ?_
    show Steps p.tables e below (T20.setTop (mkF m 132 #[.val (.int (Int32.ofNat r)), .val (.ref b1)] [(.int (Int32.ofNat r)), (.ref b1)])) _
    refine X20.laload hx (j := (Int32.ofNat r)) (v := (.long (Int64.ofNat (10 ^ r)))) (by rw [e20]; exact Ar21.1) (State.isArrayOf_alike hZ.alike Ar21.2.1) Ar21.2.2 hin21 hat21 (g := (mkF m 132 #[.val (.int (Int32.ofNat r)), .val (.ref b1)] [(.int (Int32.ofNat r)), (.ref b1)])) rfl rfl (hb hby d46_132) _ ?_
    show Steps p.tables e below (T20.setTop (mkF m 133 #[.val (.int (Int32.ofNat r)), .val (.ref b1)] [(.long (Int64.ofNat (10 ^ r)))])) _
    exact retOut X20 hx (t := .long) Bd.returns rfl (Or.inr (Or.inl ⟨rfl, rfl, _, rfl⟩)) (hb hby d46_133) hr
  · show Q46 Z r h0 n0 _ T20.heap _
    rw [e20]
    exact ⟨rfl, N20, K20⟩

def digV (v : Int64) (ln kk : Nat) : Int32 := if v < 0 ∧ kk = 0 then 45 else nar .char (((48 : Int32) + ((f47 ((v / (Int64.ofNat (10 ^ (ln - 1 - kk)))) - ((v / (Int64.ofNat (10 ^ (ln - 1 - kk)))) / (10 : Int64)) * (10 : Int64))).toInt32)).toUInt32.toUInt16.toUInt32.toInt32)

theorem d45_0 : decode method_6_code 0 = .ok (.lload_n 0, 1) := by decide +kernel
theorem d45_1 : decode method_6_code 1 = .ok (.lconst 0, 1) := by decide +kernel
theorem d45_2 : decode method_6_code 2 = .ok (.lcmp, 1) := by decide +kernel
theorem d45_3 : decode method_6_code 3 = .ok (.ifCond .ge 10, 3) := by decide +kernel
theorem d45_6 : decode method_6_code 6 = .ok (.iload_n 3, 1) := by decide +kernel
theorem d45_7 : decode method_6_code 7 = .ok (.ifCond .ne 6, 3) := by decide +kernel
theorem d45_10 : decode method_6_code 10 = .ok (.bipush 45, 2) := by decide +kernel
theorem d45_12 : decode method_6_code 12 = .ok (.ireturn, 1) := by decide +kernel
theorem d45_13 : decode method_6_code 13 = .ok (.iload_n 2, 1) := by decide +kernel
theorem d45_14 : decode method_6_code 14 = .ok (.iconst 1, 1) := by decide +kernel
theorem d45_15 : decode method_6_code 15 = .ok (.isub, 1) := by decide +kernel
theorem d45_16 : decode method_6_code 16 = .ok (.iload_n 3, 1) := by decide +kernel
theorem d45_17 : decode method_6_code 17 = .ok (.isub, 1) := by decide +kernel
theorem d45_18 : decode method_6_code 18 = .ok (.istore 4, 2) := by decide +kernel
theorem d45_20 : decode method_6_code 20 = .ok (.lload_n 0, 1) := by decide +kernel
theorem d45_21 : decode method_6_code 21 = .ok (.iload 4, 2) := by decide +kernel
theorem d45_23 : decode method_6_code 23 = .ok (.invokestatic 117, 3) := by decide +kernel
theorem d45_26 : decode method_6_code 26 = .ok (.ldiv, 1) := by decide +kernel
theorem d45_27 : decode method_6_code 27 = .ok (.ldc2_w 81, 3) := by decide +kernel
theorem d45_30 : decode method_6_code 30 = .ok (.lrem, 1) := by decide +kernel
theorem d45_31 : decode method_6_code 31 = .ok (.invokestatic 121, 3) := by decide +kernel
theorem d45_34 : decode method_6_code 34 = .ok (.lstore 5, 2) := by decide +kernel
theorem d45_36 : decode method_6_code 36 = .ok (.bipush 48, 2) := by decide +kernel
theorem d45_38 : decode method_6_code 38 = .ok (.lload 5, 2) := by decide +kernel
theorem d45_40 : decode method_6_code 40 = .ok (.l2i, 1) := by decide +kernel
theorem d45_41 : decode method_6_code 41 = .ok (.iadd, 1) := by decide +kernel
theorem d45_42 : decode method_6_code 42 = .ok (.i2c, 1) := by decide +kernel
theorem d45_43 : decode method_6_code 43 = .ok (.ireturn, 1) := by decide +kernel
theorem pn_45 : plainName "com/example/tranche/tranche/journal/JournalEndTornTailPinLaw" = true := by first | (simp [plainName, overriddenIn]; done) | decide +kernel
theorem ef_45 (m : MethodId) (q1 : Int64) (zf1 : Int32) (zf2 : Int32) : entryFrame m #[(.long q1), (.int zf1), (.int zf2)] 7 = mkF m 0 #[.val (.long q1), .second, .val (.int zf1), .val (.int zf2), .unset, .unset, .unset] [] := by first | (simp [entryFrame, mkF, argsToLocals, Value.category]; done) | rfl
def Q45 (Z : State) (q1 : Int64) (ln : Nat) (kk : Nat) (h0 : Heap) (n0 : Nat) (v : Option Value) (h : Heap) (L : List Loc) : Prop := v = some (.int (digV q1 ln kk)) ∧ Fr n0 L ∧ Keep h0 h []
set_option maxRecDepth 65536 in
set_option maxHeartbeats 40000000 in
theorem rm45 (l : Launch) (Z : State) (a0 : Array Value) (hw : ∀ d ∈ tables_1, d.before a0 Z = true) (ws : List Jvm.Cond) (q1 : Int64) (h0 : Heap) (n0 : Nat) (ln : Nat) (kk : Nat) (hkl : kk < ln) (hl20 : ln ≤ 1000) (hr : (q1 < 0 ∧ kk = 0) ∨ ln - 1 - kk < 19) (Z0 : n0 ≤ h0.size) :
    MetFree l (⟨"com/example/tranche/tranche/journal/JournalEndTornTailPinLaw", "digitChar", "(JII)C"⟩ : MethodName) (head1 (Jvm.Cond.code (⟨"com/example/tranche/tranche/journal/JournalEndTornTailPinLaw", "digitChar", "(JII)C"⟩ : MethodName) method_6_code 7 (some .char) :: ws) ({ frames := 1, cells := 1, slots := 19, locals := 15 } : Room)) (fun a U => a = #[(.long q1), (.int (Int32.ofNat ln)), (.int (Int32.ofNat kk))] ∧ Z.Warmed39 U.vm ∧ U.heap = h0) (fun _ _ _ _ _ => True) (fun _ U o U' => ∃ v L, o = .returned v ∧ Q45 Z q1 ln kk h0 n0 v U'.heap L ∧ FrameEnd U o U' L ({ frames := 1, cells := 1, slots := 19, locals := 15 } : Room).cells ({ frames := 1, cells := 1, slots := 19, locals := 15 } : Room).slots) := by
  refine MetFree.of_bodySF (plainFor_of_name pn_45) hisR ?_
  intro p e s m args below meth c s₁ Bd hml0 hP hK
  obtain ⟨rfl, hZ, hh⟩ := hP
  have hx := Bd.exec
  have hby := Bd.bytes
  have hml : c.maxLocals = 7 := hml0
  have hown0 := findClass_of_methodNamed Bd.named
  have hown : s.vm.findClass "com/example/tranche/tranche/journal/JournalEndTornTailPinLaw" = some m.cls := hown0
  have hnm := (name_of_methodNamed Bd.named Bd.method).1
  have X0 : Stand p l e ({ frames := 1, cells := 1, slots := 19, locals := 15 } : Room) s m #[(.long q1), (.int (Int32.ofNat ln)), (.int (Int32.ofNat kk))] below meth c s₁ [] 0 0 := Stand.of_body Bd
  have e0 : s₁.heap = h0 := by rw [← hh, Bd.state]; rfl
  have N0 := Fr.nil n0
  have pre0 : ∀ t, Steps p.tables e below (s₁.setTop (mkF m 0 #[.val (.long q1), .second, .val (.int (Int32.ofNat ln)), .val (.int (Int32.ofNat kk)), .unset, .unset, .unset] [])) t → Steps p.tables e below (s₁.setTop (entryFrame m #[(.long q1), (.int (Int32.ofNat ln)), (.int (Int32.ofNat kk))] 7)) t := fun t k => castTop (ef_45 m q1 ((Int32.ofNat ln)) ((Int32.ofNat kk))) k
  refine Classical.byContradiction fun hneg => ?_
  by_cases hv0 : q1 < 0
  · have pre1 : ∀ t, Steps p.tables e below (s₁.setTop (mkF m 6 #[.val (.long q1), .second, .val (.int (Int32.ofNat ln)), .val (.int (Int32.ofNat kk)), .unset, .unset, .unset] [])) t → Steps p.tables e below (s₁.setTop (entryFrame m #[(.long q1), (.int (Int32.ofNat ln)), (.int (Int32.ofNat kk))] 7)) t := by
      intro t k
      refine pre0 t ?_
      show Steps p.tables e below (s₁.setTop (mkF m 0 #[.val (.long q1), .second, .val (.int (Int32.ofNat ln)), .val (.int (Int32.ofNat kk)), .unset, .unset, .unset] [])) _
      refine XS.lloadN X0.here hx rfl (hb hby d45_0) rfl ?_
      show Steps p.tables e below (s₁.setTop (mkF m 1 #[.val (.long q1), .second, .val (.int (Int32.ofNat ln)), .val (.int (Int32.ofNat kk)), .unset, .unset, .unset] [(.long q1)])) _
      refine XS.lconst X0.here hx rfl (hb hby d45_1) ?_
      show Steps p.tables e below (s₁.setTop (mkF m 2 #[.val (.long q1), .second, .val (.int (Int32.ofNat ln)), .val (.int (Int32.ofNat kk)), .unset, .unset, .unset] [(.long (0 : Int64)), (.long q1)])) _
      refine XS.lcmp X0.here hx rfl (hb hby d45_2) rfl ?_
      show Steps p.tables e below (s₁.setTop (mkF m 3 #[.val (.long q1), .second, .val (.int (Int32.ofNat ln)), .val (.int (Int32.ofNat kk)), .unset, .unset, .unset] [(.int (lcmpW q1 (0 : Int64)))])) _
      refine XS.ifNo X0.here hx rfl (hb hby d45_3) rfl ((if0 _ _).trans (tlt ((lw_lt _ _).mpr hv0)).2.1) ?_
      exact k
    by_cases hk0 : kk = 0
    · refine hneg ?_
      obtain ⟨fs, hr, hrun, hended, hW, hsame⟩ := X0.leave (v := some (.int (45 : Int32))) (fun h => by rw [Bd.returns] at h; cases h)
      refine ⟨_, _, pre1 _ ?_, hrun, hended, _, _, rfl, ?_, ⟨_, rfl⟩, hW, hsame.mono (by decide) (by decide)⟩
      · show Steps p.tables e below (s₁.setTop (mkF m 6 #[.val (.long q1), .second, .val (.int (Int32.ofNat ln)), .val (.int (Int32.ofNat kk)), .unset, .unset, .unset] [])) _
        refine XS.iloadN X0.here hx rfl (hb hby d45_6) rfl ?_
        show Steps p.tables e below (s₁.setTop (mkF m 7 #[.val (.long q1), .second, .val (.int (Int32.ofNat ln)), .val (.int (Int32.ofNat kk)), .unset, .unset, .unset] [(.int (Int32.ofNat kk))])) _
        refine XS.ifNo X0.here hx rfl (hb hby d45_7) rfl ((if0 _ _).trans (teq (congrArg Int32.ofNat hk0)).2) ?_
        show Steps p.tables e below (s₁.setTop (mkF m 10 #[.val (.long q1), .second, .val (.int (Int32.ofNat ln)), .val (.int (Int32.ofNat kk)), .unset, .unset, .unset] [])) _
        refine XS.bipush X0.here hx rfl (hb hby d45_10) ?_
        show Steps p.tables e below (s₁.setTop (mkF m 12 #[.val (.long q1), .second, .val (.int (Int32.ofNat ln)), .val (.int (Int32.ofNat kk)), .unset, .unset, .unset] [(.int (45 : Int32))])) _
        exact retN X0 hx (t := .char) Bd.returns (by simp) (hb hby d45_12) hr
      · show Q45 Z q1 ln kk h0 n0 _ s₁.heap _
        rw [e0]
        exact ⟨by rw [show digV q1 ln kk = (45 : Int32) from if_pos ⟨hv0, hk0⟩], N0, (Keep.refl h0 [])⟩
    · have hr19 : ln - 1 - kk < 19 := hr.resolve_left (fun z => hk0 z.2)
      have nq2 : (((Int32.ofNat ln) - (1 : Int32)) - (Int32.ofNat kk)) = (Int32.ofNat (ln - 1 - kk)) := by rw [show (1 : Int32) = Int32.ofNat 1 from rfl, ofN_sub (by omega), ofN_sub (by omega)]
      obtain ⟨_, _, ⟨T3, L3, k3, n3⟩, -, X3, ⟨Lc3, hQ3, l3, y3, z3⟩, st3⟩ := Jvm.LawKit.callS X0 hx (y := (⟨"com/example/tranche/tranche/journal/JournalEndTornTailPinLaw", "pow10", "(I)J"⟩ : MethodName)) hown (mvT hZ (hw _ (List.mem_of_getElem? (i := 261) rfl))) (mvT hZ (hw _ (List.mem_of_getElem? (i := 262) rfl))) (mvT hZ (hw _ (List.mem_of_getElem? (i := 208) rfl))) (mvT hZ (hw _ (List.mem_of_getElem? (i := 263) rfl))) (by decide) (backOf (W := 2) (rm46 l Z a0 hw []   h0 n0 (ln - 1 - kk) hr19 Z0) hZ (hw _ (List.mem_of_getElem? (i := 263) rfl)) (hw _ (List.mem_of_getElem? (i := 208) rfl)) (by decide) (by decide)) (g := (mkF m 23 #[.val (.long q1), .second, .val (.int (Int32.ofNat ln)), .val (.int (Int32.ofNat kk)), .val (.int (Int32.ofNat (ln - 1 - kk))), .unset, .unset] [(.int (Int32.ofNat (ln - 1 - kk))), (.long q1)])) rfl (by rw [hml]; rfl) (argsL := [(.int (Int32.ofNat (ln - 1 - kk)))]) (rest := [(.long q1)]) (lenOf pd24 rfl) rfl (by show 2 * 0 + _ ≤ _; exact Nat.le_of_eq rfl) (hb hby d45_23) (fun _ _ => ⟨rfl, e0, (by decide : 0 + 1 ≤ _), (by decide : 0 + 19 ≤ _)⟩)
      dsimp only [Pt.U, Pt.locs, Pt.cells, Pt.slots] at X3 l3 y3 z3 st3 hQ3
      subst l3 y3 z3
      obtain ⟨rfl, N3q, Kc3⟩ := hQ3
      have N3 := Fr.app N0 N3q
      have K3 : Keep h0 T3.heap [] := (Keep.refl h0 []).trans Kc3 all0
      have Z3 : n0 ≤ T3.heap.size := Nat.le_trans Z0 Kc3.1
      obtain ⟨_, _, ⟨T4, L4, k4, n4⟩, -, X4, ⟨Lc4, hQ4, l4, y4, z4⟩, st4⟩ := Jvm.LawKit.callS X3 hx (y := (⟨"java/lang/Math", "abs", "(J)J"⟩ : MethodName)) hown (mvT hZ (hw _ (List.mem_of_getElem? (i := 283) rfl))) (mvT hZ (hw _ (List.mem_of_getElem? (i := 284) rfl))) (mvT hZ (hw _ (List.mem_of_getElem? (i := 127) rfl))) (mvT hZ (hw _ (List.mem_of_getElem? (i := 285) rfl))) (by decide) (backOf (W := 0) (rm47 l Z a0 hw [] ((q1 / (Int64.ofNat (10 ^ (ln - 1 - kk)))) - ((q1 / (Int64.ofNat (10 ^ (ln - 1 - kk)))) / (10 : Int64)) * (10 : Int64))  T3.heap n0  ) hZ (hw _ (List.mem_of_getElem? (i := 285) rfl)) (hw _ (List.mem_of_getElem? (i := 127) rfl)) (by decide) (by decide)) (g := (mkF m 31 #[.val (.long q1), .second, .val (.int (Int32.ofNat ln)), .val (.int (Int32.ofNat kk)), .val (.int (Int32.ofNat (ln - 1 - kk))), .unset, .unset] [(.long ((q1 / (Int64.ofNat (10 ^ (ln - 1 - kk)))) - ((q1 / (Int64.ofNat (10 ^ (ln - 1 - kk)))) / (10 : Int64)) * (10 : Int64)))])) rfl (by rw [hml]; rfl) (argsL := [(.long ((q1 / (Int64.ofNat (10 ^ (ln - 1 - kk)))) - ((q1 / (Int64.ofNat (10 ^ (ln - 1 - kk)))) / (10 : Int64)) * (10 : Int64)))]) (rest := []) (lenOf pd25 rfl) rfl (by show 2 * 0 + _ ≤ _; exact Nat.le_of_eq rfl) (hb hby d45_31) (fun _ _ => ⟨rfl, rfl, (by decide : 1 + 0 ≤ _), (by decide : 19 + 0 ≤ _)⟩)
      dsimp only [Pt.U, Pt.locs, Pt.cells, Pt.slots] at X4 l4 y4 z4 st4 hQ4
      subst l4 y4 z4
      obtain ⟨rfl, N4q, e4⟩ := hQ4
      have N4 := Fr.app N3 N4q
      refine hneg ?_
      obtain ⟨fs, hr, hrun, hended, hW, hsame⟩ := X4.leave (v := some (.int (nar .char (((48 : Int32) + ((f47 ((q1 / (Int64.ofNat (10 ^ (ln - 1 - kk)))) - ((q1 / (Int64.ofNat (10 ^ (ln - 1 - kk)))) / (10 : Int64)) * (10 : Int64))).toInt32)).toUInt32.toUInt16.toUInt32.toInt32)))) (fun h => by rw [Bd.returns] at h; cases h)
      refine ⟨_, _, pre1 _ ?_, hrun, hended, _, _, rfl, ?_, ⟨_, rfl⟩, hW, hsame.mono (by decide) (by decide)⟩
      · show Steps p.tables e below (s₁.setTop (mkF m 6 #[.val (.long q1), .second, .val (.int (Int32.ofNat ln)), .val (.int (Int32.ofNat kk)), .unset, .unset, .unset] [])) _
        refine XS.iloadN X0.here hx rfl (hb hby d45_6) rfl ?_
        show Steps p.tables e below (s₁.setTop (mkF m 7 #[.val (.long q1), .second, .val (.int (Int32.ofNat ln)), .val (.int (Int32.ofNat kk)), .unset, .unset, .unset] [(.int (Int32.ofNat kk))])) _
        refine XS.ifYes X0.here hx rfl (pc0 := 7) (pc' := 13) rfl (hb hby d45_7) rfl ((if0 _ _).trans (feq (fun z => hk0 ((ofN_eq (b := 0) (by omega) (by omega)).mp z))).2) (by decide) (by decide) ?_
        show Steps p.tables e below (s₁.setTop (mkF m 13 #[.val (.long q1), .second, .val (.int (Int32.ofNat ln)), .val (.int (Int32.ofNat kk)), .unset, .unset, .unset] [])) _
        refine XS.iloadN X0.here hx rfl (hb hby d45_13) rfl ?_
        show Steps p.tables e below (s₁.setTop (mkF m 14 #[.val (.long q1), .second, .val (.int (Int32.ofNat ln)), .val (.int (Int32.ofNat kk)), .unset, .unset, .unset] [(.int (Int32.ofNat ln))])) _
        refine XS.iconst X0.here hx rfl (hb hby d45_14) ?_
        show Steps p.tables e below (s₁.setTop (mkF m 15 #[.val (.long q1), .second, .val (.int (Int32.ofNat ln)), .val (.int (Int32.ofNat kk)), .unset, .unset, .unset] [(.int (1 : Int32)), (.int (Int32.ofNat ln))])) _
        refine XS.isub X0.here hx rfl (hb hby d45_15) rfl ?_
        show Steps p.tables e below (s₁.setTop (mkF m 16 #[.val (.long q1), .second, .val (.int (Int32.ofNat ln)), .val (.int (Int32.ofNat kk)), .unset, .unset, .unset] [(.int ((Int32.ofNat ln) - (1 : Int32)))])) _
        refine XS.iloadN X0.here hx rfl (hb hby d45_16) rfl ?_
        show Steps p.tables e below (s₁.setTop (mkF m 17 #[.val (.long q1), .second, .val (.int (Int32.ofNat ln)), .val (.int (Int32.ofNat kk)), .unset, .unset, .unset] [(.int (Int32.ofNat kk)), (.int ((Int32.ofNat ln) - (1 : Int32)))])) _
        refine XS.isub X0.here hx rfl (hb hby d45_17) rfl ?_
        show Steps p.tables e below (s₁.setTop (mkF m 18 #[.val (.long q1), .second, .val (.int (Int32.ofNat ln)), .val (.int (Int32.ofNat kk)), .unset, .unset, .unset] [(.int (((Int32.ofNat ln) - (1 : Int32)) - (Int32.ofNat kk)))])) _
        rw [nq2]
        show Steps p.tables e below (s₁.setTop (mkF m 18 #[.val (.long q1), .second, .val (.int (Int32.ofNat ln)), .val (.int (Int32.ofNat kk)), .unset, .unset, .unset] [(.int (Int32.ofNat (ln - 1 - kk)))])) _
        refine XS.istore X0.here hx rfl (hb hby d45_18) rfl (l' := #[.val (.long q1), .second, .val (.int (Int32.ofNat ln)), .val (.int (Int32.ofNat kk)), .val (.int (Int32.ofNat (ln - 1 - kk))), .unset, .unset]) rfl ?_
        show Steps p.tables e below (s₁.setTop (mkF m 20 #[.val (.long q1), .second, .val (.int (Int32.ofNat ln)), .val (.int (Int32.ofNat kk)), .val (.int (Int32.ofNat (ln - 1 - kk))), .unset, .unset] [])) _
        refine XS.lloadN X0.here hx rfl (hb hby d45_20) rfl ?_
        show Steps p.tables e below (s₁.setTop (mkF m 21 #[.val (.long q1), .second, .val (.int (Int32.ofNat ln)), .val (.int (Int32.ofNat kk)), .val (.int (Int32.ofNat (ln - 1 - kk))), .unset, .unset] [(.long q1)])) _
        refine XS.iload X0.here hx rfl (hb hby d45_21) rfl ?_
        show Steps p.tables e below (s₁.setTop (mkF m 23 #[.val (.long q1), .second, .val (.int (Int32.ofNat ln)), .val (.int (Int32.ofNat kk)), .val (.int (Int32.ofNat (ln - 1 - kk))), .unset, .unset] [(.int (Int32.ofNat (ln - 1 - kk))), (.long q1)])) _
        refine st3 _ ?_
        show Steps p.tables e below (T3.setTop (mkF m 26 #[.val (.long q1), .second, .val (.int (Int32.ofNat ln)), .val (.int (Int32.ofNat kk)), .val (.int (Int32.ofNat (ln - 1 - kk))), .unset, .unset] [(.long (Int64.ofNat (10 ^ (ln - 1 - kk)))), (.long q1)])) _
        refine XS.ldiv X3.here hx rfl (hb hby d45_26) rfl (p10_ne hr19) ?_
        show Steps p.tables e below (T3.setTop (mkF m 27 #[.val (.long q1), .second, .val (.int (Int32.ofNat ln)), .val (.int (Int32.ofNat kk)), .val (.int (Int32.ofNat (ln - 1 - kk))), .unset, .unset] [(.long (q1 / (Int64.ofNat (10 ^ (ln - 1 - kk)))))])) _
        refine X3.ldc2Long hx hown (mvT hZ (hw _ (List.mem_of_getElem? (i := 265) rfl))) (g := (mkF m 27 #[.val (.long q1), .second, .val (.int (Int32.ofNat ln)), .val (.int (Int32.ofNat kk)), .val (.int (Int32.ofNat (ln - 1 - kk))), .unset, .unset] [(.long (q1 / (Int64.ofNat (10 ^ (ln - 1 - kk)))))])) rfl (hb hby d45_27) _ ?_
        show Steps p.tables e below (T3.setTop (mkF m 30 #[.val (.long q1), .second, .val (.int (Int32.ofNat ln)), .val (.int (Int32.ofNat kk)), .val (.int (Int32.ofNat (ln - 1 - kk))), .unset, .unset] [(.long (10 : Int64)), (.long (q1 / (Int64.ofNat (10 ^ (ln - 1 - kk)))))])) _
        refine XS.lrem X3.here hx rfl (hb hby d45_30) rfl (by decide) ?_
        show Steps p.tables e below (T3.setTop (mkF m 31 #[.val (.long q1), .second, .val (.int (Int32.ofNat ln)), .val (.int (Int32.ofNat kk)), .val (.int (Int32.ofNat (ln - 1 - kk))), .unset, .unset] [(.long ((q1 / (Int64.ofNat (10 ^ (ln - 1 - kk)))) - ((q1 / (Int64.ofNat (10 ^ (ln - 1 - kk)))) / (10 : Int64)) * (10 : Int64)))])) _
        refine st4 _ ?_
        show Steps p.tables e below (T4.setTop (mkF m 34 #[.val (.long q1), .second, .val (.int (Int32.ofNat ln)), .val (.int (Int32.ofNat kk)), .val (.int (Int32.ofNat (ln - 1 - kk))), .unset, .unset] [(.long (f47 ((q1 / (Int64.ofNat (10 ^ (ln - 1 - kk)))) - ((q1 / (Int64.ofNat (10 ^ (ln - 1 - kk)))) / (10 : Int64)) * (10 : Int64))))])) _
        refine XS.lstore X4.here hx rfl (hb hby d45_34) rfl (l' := #[.val (.long q1), .second, .val (.int (Int32.ofNat ln)), .val (.int (Int32.ofNat kk)), .val (.int (Int32.ofNat (ln - 1 - kk))), .val (.long (f47 ((q1 / (Int64.ofNat (10 ^ (ln - 1 - kk)))) - ((q1 / (Int64.ofNat (10 ^ (ln - 1 - kk)))) / (10 : Int64)) * (10 : Int64)))), .second]) rfl ?_
        show Steps p.tables e below (T4.setTop (mkF m 36 #[.val (.long q1), .second, .val (.int (Int32.ofNat ln)), .val (.int (Int32.ofNat kk)), .val (.int (Int32.ofNat (ln - 1 - kk))), .val (.long (f47 ((q1 / (Int64.ofNat (10 ^ (ln - 1 - kk)))) - ((q1 / (Int64.ofNat (10 ^ (ln - 1 - kk)))) / (10 : Int64)) * (10 : Int64)))), .second] [])) _
        refine XS.bipush X4.here hx rfl (hb hby d45_36) ?_
        show Steps p.tables e below (T4.setTop (mkF m 38 #[.val (.long q1), .second, .val (.int (Int32.ofNat ln)), .val (.int (Int32.ofNat kk)), .val (.int (Int32.ofNat (ln - 1 - kk))), .val (.long (f47 ((q1 / (Int64.ofNat (10 ^ (ln - 1 - kk)))) - ((q1 / (Int64.ofNat (10 ^ (ln - 1 - kk)))) / (10 : Int64)) * (10 : Int64)))), .second] [(.int (48 : Int32))])) _
        refine XS.lload X4.here hx rfl (hb hby d45_38) rfl ?_
        show Steps p.tables e below (T4.setTop (mkF m 40 #[.val (.long q1), .second, .val (.int (Int32.ofNat ln)), .val (.int (Int32.ofNat kk)), .val (.int (Int32.ofNat (ln - 1 - kk))), .val (.long (f47 ((q1 / (Int64.ofNat (10 ^ (ln - 1 - kk)))) - ((q1 / (Int64.ofNat (10 ^ (ln - 1 - kk)))) / (10 : Int64)) * (10 : Int64)))), .second] [(.long (f47 ((q1 / (Int64.ofNat (10 ^ (ln - 1 - kk)))) - ((q1 / (Int64.ofNat (10 ^ (ln - 1 - kk)))) / (10 : Int64)) * (10 : Int64)))), (.int (48 : Int32))])) _
        refine XS.l2i X4.here hx rfl (hb hby d45_40) rfl ?_
        show Steps p.tables e below (T4.setTop (mkF m 41 #[.val (.long q1), .second, .val (.int (Int32.ofNat ln)), .val (.int (Int32.ofNat kk)), .val (.int (Int32.ofNat (ln - 1 - kk))), .val (.long (f47 ((q1 / (Int64.ofNat (10 ^ (ln - 1 - kk)))) - ((q1 / (Int64.ofNat (10 ^ (ln - 1 - kk)))) / (10 : Int64)) * (10 : Int64)))), .second] [(.int ((f47 ((q1 / (Int64.ofNat (10 ^ (ln - 1 - kk)))) - ((q1 / (Int64.ofNat (10 ^ (ln - 1 - kk)))) / (10 : Int64)) * (10 : Int64))).toInt32)), (.int (48 : Int32))])) _
        refine XS.iadd X4.here hx rfl (hb hby d45_41) rfl ?_
        show Steps p.tables e below (T4.setTop (mkF m 42 #[.val (.long q1), .second, .val (.int (Int32.ofNat ln)), .val (.int (Int32.ofNat kk)), .val (.int (Int32.ofNat (ln - 1 - kk))), .val (.long (f47 ((q1 / (Int64.ofNat (10 ^ (ln - 1 - kk)))) - ((q1 / (Int64.ofNat (10 ^ (ln - 1 - kk)))) / (10 : Int64)) * (10 : Int64)))), .second] [(.int ((48 : Int32) + ((f47 ((q1 / (Int64.ofNat (10 ^ (ln - 1 - kk)))) - ((q1 / (Int64.ofNat (10 ^ (ln - 1 - kk)))) / (10 : Int64)) * (10 : Int64))).toInt32)))])) _
        refine XS.i2c X4.here hx rfl (hb hby d45_42) rfl ?_
        show Steps p.tables e below (T4.setTop (mkF m 43 #[.val (.long q1), .second, .val (.int (Int32.ofNat ln)), .val (.int (Int32.ofNat kk)), .val (.int (Int32.ofNat (ln - 1 - kk))), .val (.long (f47 ((q1 / (Int64.ofNat (10 ^ (ln - 1 - kk)))) - ((q1 / (Int64.ofNat (10 ^ (ln - 1 - kk)))) / (10 : Int64)) * (10 : Int64)))), .second] [(.int (((48 : Int32) + ((f47 ((q1 / (Int64.ofNat (10 ^ (ln - 1 - kk)))) - ((q1 / (Int64.ofNat (10 ^ (ln - 1 - kk)))) / (10 : Int64)) * (10 : Int64))).toInt32)).toUInt32.toUInt16.toUInt32.toInt32))])) _
        exact retN X4 hx (t := .char) Bd.returns (by simp) (hb hby d45_43) hr
      · show Q45 Z q1 ln kk h0 n0 _ T4.heap _
        rw [e4]
        exact ⟨by rw [show digV q1 ln kk = (nar .char (((48 : Int32) + ((f47 ((q1 / (Int64.ofNat (10 ^ (ln - 1 - kk)))) - ((q1 / (Int64.ofNat (10 ^ (ln - 1 - kk)))) / (10 : Int64)) * (10 : Int64))).toInt32)).toUInt32.toUInt16.toUInt32.toInt32)) from if_neg (fun z => hk0 z.2)], N4, K3⟩
  · have hr19 : ln - 1 - kk < 19 := hr.resolve_left (fun z => hv0 z.1)
    have nq5 : (((Int32.ofNat ln) - (1 : Int32)) - (Int32.ofNat kk)) = (Int32.ofNat (ln - 1 - kk)) := by rw [show (1 : Int32) = Int32.ofNat 1 from rfl, ofN_sub (by omega), ofN_sub (by omega)]
    obtain ⟨_, _, ⟨T6, L6, k6, n6⟩, -, X6, ⟨Lc6, hQ6, l6, y6, z6⟩, st6⟩ := Jvm.LawKit.callS X0 hx (y := (⟨"com/example/tranche/tranche/journal/JournalEndTornTailPinLaw", "pow10", "(I)J"⟩ : MethodName)) hown (mvT hZ (hw _ (List.mem_of_getElem? (i := 261) rfl))) (mvT hZ (hw _ (List.mem_of_getElem? (i := 262) rfl))) (mvT hZ (hw _ (List.mem_of_getElem? (i := 208) rfl))) (mvT hZ (hw _ (List.mem_of_getElem? (i := 263) rfl))) (by decide) (backOf (W := 2) (rm46 l Z a0 hw []   h0 n0 (ln - 1 - kk) hr19 Z0) hZ (hw _ (List.mem_of_getElem? (i := 263) rfl)) (hw _ (List.mem_of_getElem? (i := 208) rfl)) (by decide) (by decide)) (g := (mkF m 23 #[.val (.long q1), .second, .val (.int (Int32.ofNat ln)), .val (.int (Int32.ofNat kk)), .val (.int (Int32.ofNat (ln - 1 - kk))), .unset, .unset] [(.int (Int32.ofNat (ln - 1 - kk))), (.long q1)])) rfl (by rw [hml]; rfl) (argsL := [(.int (Int32.ofNat (ln - 1 - kk)))]) (rest := [(.long q1)]) (lenOf pd24 rfl) rfl (by show 2 * 0 + _ ≤ _; exact Nat.le_of_eq rfl) (hb hby d45_23) (fun _ _ => ⟨rfl, e0, (by decide : 0 + 1 ≤ _), (by decide : 0 + 19 ≤ _)⟩)
    dsimp only [Pt.U, Pt.locs, Pt.cells, Pt.slots] at X6 l6 y6 z6 st6 hQ6
    subst l6 y6 z6
    obtain ⟨rfl, N6q, Kc6⟩ := hQ6
    have N6 := Fr.app N0 N6q
    have K6 : Keep h0 T6.heap [] := (Keep.refl h0 []).trans Kc6 all0
    have Z6 : n0 ≤ T6.heap.size := Nat.le_trans Z0 Kc6.1
    obtain ⟨_, _, ⟨T7, L7, k7, n7⟩, -, X7, ⟨Lc7, hQ7, l7, y7, z7⟩, st7⟩ := Jvm.LawKit.callS X6 hx (y := (⟨"java/lang/Math", "abs", "(J)J"⟩ : MethodName)) hown (mvT hZ (hw _ (List.mem_of_getElem? (i := 283) rfl))) (mvT hZ (hw _ (List.mem_of_getElem? (i := 284) rfl))) (mvT hZ (hw _ (List.mem_of_getElem? (i := 127) rfl))) (mvT hZ (hw _ (List.mem_of_getElem? (i := 285) rfl))) (by decide) (backOf (W := 0) (rm47 l Z a0 hw [] ((q1 / (Int64.ofNat (10 ^ (ln - 1 - kk)))) - ((q1 / (Int64.ofNat (10 ^ (ln - 1 - kk)))) / (10 : Int64)) * (10 : Int64))  T6.heap n0  ) hZ (hw _ (List.mem_of_getElem? (i := 285) rfl)) (hw _ (List.mem_of_getElem? (i := 127) rfl)) (by decide) (by decide)) (g := (mkF m 31 #[.val (.long q1), .second, .val (.int (Int32.ofNat ln)), .val (.int (Int32.ofNat kk)), .val (.int (Int32.ofNat (ln - 1 - kk))), .unset, .unset] [(.long ((q1 / (Int64.ofNat (10 ^ (ln - 1 - kk)))) - ((q1 / (Int64.ofNat (10 ^ (ln - 1 - kk)))) / (10 : Int64)) * (10 : Int64)))])) rfl (by rw [hml]; rfl) (argsL := [(.long ((q1 / (Int64.ofNat (10 ^ (ln - 1 - kk)))) - ((q1 / (Int64.ofNat (10 ^ (ln - 1 - kk)))) / (10 : Int64)) * (10 : Int64)))]) (rest := []) (lenOf pd25 rfl) rfl (by show 2 * 0 + _ ≤ _; exact Nat.le_of_eq rfl) (hb hby d45_31) (fun _ _ => ⟨rfl, rfl, (by decide : 1 + 0 ≤ _), (by decide : 19 + 0 ≤ _)⟩)
    dsimp only [Pt.U, Pt.locs, Pt.cells, Pt.slots] at X7 l7 y7 z7 st7 hQ7
    subst l7 y7 z7
    obtain ⟨rfl, N7q, e7⟩ := hQ7
    have N7 := Fr.app N6 N7q
    refine hneg ?_
    obtain ⟨fs, hr, hrun, hended, hW, hsame⟩ := X7.leave (v := some (.int (nar .char (((48 : Int32) + ((f47 ((q1 / (Int64.ofNat (10 ^ (ln - 1 - kk)))) - ((q1 / (Int64.ofNat (10 ^ (ln - 1 - kk)))) / (10 : Int64)) * (10 : Int64))).toInt32)).toUInt32.toUInt16.toUInt32.toInt32)))) (fun h => by rw [Bd.returns] at h; cases h)
    refine ⟨_, _, pre0 _ ?_, hrun, hended, _, _, rfl, ?_, ⟨_, rfl⟩, hW, hsame.mono (by decide) (by decide)⟩
    · show Steps p.tables e below (s₁.setTop (mkF m 0 #[.val (.long q1), .second, .val (.int (Int32.ofNat ln)), .val (.int (Int32.ofNat kk)), .unset, .unset, .unset] [])) _
      refine XS.lloadN X0.here hx rfl (hb hby d45_0) rfl ?_
      show Steps p.tables e below (s₁.setTop (mkF m 1 #[.val (.long q1), .second, .val (.int (Int32.ofNat ln)), .val (.int (Int32.ofNat kk)), .unset, .unset, .unset] [(.long q1)])) _
      refine XS.lconst X0.here hx rfl (hb hby d45_1) ?_
      show Steps p.tables e below (s₁.setTop (mkF m 2 #[.val (.long q1), .second, .val (.int (Int32.ofNat ln)), .val (.int (Int32.ofNat kk)), .unset, .unset, .unset] [(.long (0 : Int64)), (.long q1)])) _
      refine XS.lcmp X0.here hx rfl (hb hby d45_2) rfl ?_
      show Steps p.tables e below (s₁.setTop (mkF m 3 #[.val (.long q1), .second, .val (.int (Int32.ofNat ln)), .val (.int (Int32.ofNat kk)), .unset, .unset, .unset] [(.int (lcmpW q1 (0 : Int64)))])) _
      refine XS.ifYes X0.here hx rfl (pc0 := 3) (pc' := 13) rfl (hb hby d45_3) rfl ((if0 _ _).trans (flt (fun z => hv0 ((lw_lt _ _).mp z))).2.1) (by decide) (by decide) ?_
      show Steps p.tables e below (s₁.setTop (mkF m 13 #[.val (.long q1), .second, .val (.int (Int32.ofNat ln)), .val (.int (Int32.ofNat kk)), .unset, .unset, .unset] [])) _
      refine XS.iloadN X0.here hx rfl (hb hby d45_13) rfl ?_
      show Steps p.tables e below (s₁.setTop (mkF m 14 #[.val (.long q1), .second, .val (.int (Int32.ofNat ln)), .val (.int (Int32.ofNat kk)), .unset, .unset, .unset] [(.int (Int32.ofNat ln))])) _
      refine XS.iconst X0.here hx rfl (hb hby d45_14) ?_
      show Steps p.tables e below (s₁.setTop (mkF m 15 #[.val (.long q1), .second, .val (.int (Int32.ofNat ln)), .val (.int (Int32.ofNat kk)), .unset, .unset, .unset] [(.int (1 : Int32)), (.int (Int32.ofNat ln))])) _
      refine XS.isub X0.here hx rfl (hb hby d45_15) rfl ?_
      show Steps p.tables e below (s₁.setTop (mkF m 16 #[.val (.long q1), .second, .val (.int (Int32.ofNat ln)), .val (.int (Int32.ofNat kk)), .unset, .unset, .unset] [(.int ((Int32.ofNat ln) - (1 : Int32)))])) _
      refine XS.iloadN X0.here hx rfl (hb hby d45_16) rfl ?_
      show Steps p.tables e below (s₁.setTop (mkF m 17 #[.val (.long q1), .second, .val (.int (Int32.ofNat ln)), .val (.int (Int32.ofNat kk)), .unset, .unset, .unset] [(.int (Int32.ofNat kk)), (.int ((Int32.ofNat ln) - (1 : Int32)))])) _
      refine XS.isub X0.here hx rfl (hb hby d45_17) rfl ?_
      show Steps p.tables e below (s₁.setTop (mkF m 18 #[.val (.long q1), .second, .val (.int (Int32.ofNat ln)), .val (.int (Int32.ofNat kk)), .unset, .unset, .unset] [(.int (((Int32.ofNat ln) - (1 : Int32)) - (Int32.ofNat kk)))])) _
      rw [nq5]
      show Steps p.tables e below (s₁.setTop (mkF m 18 #[.val (.long q1), .second, .val (.int (Int32.ofNat ln)), .val (.int (Int32.ofNat kk)), .unset, .unset, .unset] [(.int (Int32.ofNat (ln - 1 - kk)))])) _
      refine XS.istore X0.here hx rfl (hb hby d45_18) rfl (l' := #[.val (.long q1), .second, .val (.int (Int32.ofNat ln)), .val (.int (Int32.ofNat kk)), .val (.int (Int32.ofNat (ln - 1 - kk))), .unset, .unset]) rfl ?_
      show Steps p.tables e below (s₁.setTop (mkF m 20 #[.val (.long q1), .second, .val (.int (Int32.ofNat ln)), .val (.int (Int32.ofNat kk)), .val (.int (Int32.ofNat (ln - 1 - kk))), .unset, .unset] [])) _
      refine XS.lloadN X0.here hx rfl (hb hby d45_20) rfl ?_
      show Steps p.tables e below (s₁.setTop (mkF m 21 #[.val (.long q1), .second, .val (.int (Int32.ofNat ln)), .val (.int (Int32.ofNat kk)), .val (.int (Int32.ofNat (ln - 1 - kk))), .unset, .unset] [(.long q1)])) _
      refine XS.iload X0.here hx rfl (hb hby d45_21) rfl ?_
      show Steps p.tables e below (s₁.setTop (mkF m 23 #[.val (.long q1), .second, .val (.int (Int32.ofNat ln)), .val (.int (Int32.ofNat kk)), .val (.int (Int32.ofNat (ln - 1 - kk))), .unset, .unset] [(.int (Int32.ofNat (ln - 1 - kk))), (.long q1)])) _
      refine st6 _ ?_
      show Steps p.tables e below (T6.setTop (mkF m 26 #[.val (.long q1), .second, .val (.int (Int32.ofNat ln)), .val (.int (Int32.ofNat kk)), .val (.int (Int32.ofNat (ln - 1 - kk))), .unset, .unset] [(.long (Int64.ofNat (10 ^ (ln - 1 - kk)))), (.long q1)])) _
      refine XS.ldiv X6.here hx rfl (hb hby d45_26) rfl (p10_ne hr19) ?_
      show Steps p.tables e below (T6.setTop (mkF m 27 #[.val (.long q1), .second, .val (.int (Int32.ofNat ln)), .val (.int (Int32.ofNat kk)), .val (.int (Int32.ofNat (ln - 1 - kk))), .unset, .unset] [(.long (q1 / (Int64.ofNat (10 ^ (ln - 1 - kk)))))])) _
      refine X6.ldc2Long hx hown (mvT hZ (hw _ (List.mem_of_getElem? (i := 265) rfl))) (g := (mkF m 27 #[.val (.long q1), .second, .val (.int (Int32.ofNat ln)), .val (.int (Int32.ofNat kk)), .val (.int (Int32.ofNat (ln - 1 - kk))), .unset, .unset] [(.long (q1 / (Int64.ofNat (10 ^ (ln - 1 - kk)))))])) rfl (hb hby d45_27) _ ?_
      show Steps p.tables e below (T6.setTop (mkF m 30 #[.val (.long q1), .second, .val (.int (Int32.ofNat ln)), .val (.int (Int32.ofNat kk)), .val (.int (Int32.ofNat (ln - 1 - kk))), .unset, .unset] [(.long (10 : Int64)), (.long (q1 / (Int64.ofNat (10 ^ (ln - 1 - kk)))))])) _
      refine XS.lrem X6.here hx rfl (hb hby d45_30) rfl (by decide) ?_
      show Steps p.tables e below (T6.setTop (mkF m 31 #[.val (.long q1), .second, .val (.int (Int32.ofNat ln)), .val (.int (Int32.ofNat kk)), .val (.int (Int32.ofNat (ln - 1 - kk))), .unset, .unset] [(.long ((q1 / (Int64.ofNat (10 ^ (ln - 1 - kk)))) - ((q1 / (Int64.ofNat (10 ^ (ln - 1 - kk)))) / (10 : Int64)) * (10 : Int64)))])) _
      refine st7 _ ?_
      show Steps p.tables e below (T7.setTop (mkF m 34 #[.val (.long q1), .second, .val (.int (Int32.ofNat ln)), .val (.int (Int32.ofNat kk)), .val (.int (Int32.ofNat (ln - 1 - kk))), .unset, .unset] [(.long (f47 ((q1 / (Int64.ofNat (10 ^ (ln - 1 - kk)))) - ((q1 / (Int64.ofNat (10 ^ (ln - 1 - kk)))) / (10 : Int64)) * (10 : Int64))))])) _
      refine XS.lstore X7.here hx rfl (hb hby d45_34) rfl (l' := #[.val (.long q1), .second, .val (.int (Int32.ofNat ln)), .val (.int (Int32.ofNat kk)), .val (.int (Int32.ofNat (ln - 1 - kk))), .val (.long (f47 ((q1 / (Int64.ofNat (10 ^ (ln - 1 - kk)))) - ((q1 / (Int64.ofNat (10 ^ (ln - 1 - kk)))) / (10 : Int64)) * (10 : Int64)))), .second]) rfl ?_
      show Steps p.tables e below (T7.setTop (mkF m 36 #[.val (.long q1), .second, .val (.int (Int32.ofNat ln)), .val (.int (Int32.ofNat kk)), .val (.int (Int32.ofNat (ln - 1 - kk))), .val (.long (f47 ((q1 / (Int64.ofNat (10 ^ (ln - 1 - kk)))) - ((q1 / (Int64.ofNat (10 ^ (ln - 1 - kk)))) / (10 : Int64)) * (10 : Int64)))), .second] [])) _
      refine XS.bipush X7.here hx rfl (hb hby d45_36) ?_
      show Steps p.tables e below (T7.setTop (mkF m 38 #[.val (.long q1), .second, .val (.int (Int32.ofNat ln)), .val (.int (Int32.ofNat kk)), .val (.int (Int32.ofNat (ln - 1 - kk))), .val (.long (f47 ((q1 / (Int64.ofNat (10 ^ (ln - 1 - kk)))) - ((q1 / (Int64.ofNat (10 ^ (ln - 1 - kk)))) / (10 : Int64)) * (10 : Int64)))), .second] [(.int (48 : Int32))])) _
      refine XS.lload X7.here hx rfl (hb hby d45_38) rfl ?_
      show Steps p.tables e below (T7.setTop (mkF m 40 #[.val (.long q1), .second, .val (.int (Int32.ofNat ln)), .val (.int (Int32.ofNat kk)), .val (.int (Int32.ofNat (ln - 1 - kk))), .val (.long (f47 ((q1 / (Int64.ofNat (10 ^ (ln - 1 - kk)))) - ((q1 / (Int64.ofNat (10 ^ (ln - 1 - kk)))) / (10 : Int64)) * (10 : Int64)))), .second] [(.long (f47 ((q1 / (Int64.ofNat (10 ^ (ln - 1 - kk)))) - ((q1 / (Int64.ofNat (10 ^ (ln - 1 - kk)))) / (10 : Int64)) * (10 : Int64)))), (.int (48 : Int32))])) _
      refine XS.l2i X7.here hx rfl (hb hby d45_40) rfl ?_
      show Steps p.tables e below (T7.setTop (mkF m 41 #[.val (.long q1), .second, .val (.int (Int32.ofNat ln)), .val (.int (Int32.ofNat kk)), .val (.int (Int32.ofNat (ln - 1 - kk))), .val (.long (f47 ((q1 / (Int64.ofNat (10 ^ (ln - 1 - kk)))) - ((q1 / (Int64.ofNat (10 ^ (ln - 1 - kk)))) / (10 : Int64)) * (10 : Int64)))), .second] [(.int ((f47 ((q1 / (Int64.ofNat (10 ^ (ln - 1 - kk)))) - ((q1 / (Int64.ofNat (10 ^ (ln - 1 - kk)))) / (10 : Int64)) * (10 : Int64))).toInt32)), (.int (48 : Int32))])) _
      refine XS.iadd X7.here hx rfl (hb hby d45_41) rfl ?_
      show Steps p.tables e below (T7.setTop (mkF m 42 #[.val (.long q1), .second, .val (.int (Int32.ofNat ln)), .val (.int (Int32.ofNat kk)), .val (.int (Int32.ofNat (ln - 1 - kk))), .val (.long (f47 ((q1 / (Int64.ofNat (10 ^ (ln - 1 - kk)))) - ((q1 / (Int64.ofNat (10 ^ (ln - 1 - kk)))) / (10 : Int64)) * (10 : Int64)))), .second] [(.int ((48 : Int32) + ((f47 ((q1 / (Int64.ofNat (10 ^ (ln - 1 - kk)))) - ((q1 / (Int64.ofNat (10 ^ (ln - 1 - kk)))) / (10 : Int64)) * (10 : Int64))).toInt32)))])) _
      refine XS.i2c X7.here hx rfl (hb hby d45_42) rfl ?_
      show Steps p.tables e below (T7.setTop (mkF m 43 #[.val (.long q1), .second, .val (.int (Int32.ofNat ln)), .val (.int (Int32.ofNat kk)), .val (.int (Int32.ofNat (ln - 1 - kk))), .val (.long (f47 ((q1 / (Int64.ofNat (10 ^ (ln - 1 - kk)))) - ((q1 / (Int64.ofNat (10 ^ (ln - 1 - kk)))) / (10 : Int64)) * (10 : Int64)))), .second] [(.int (((48 : Int32) + ((f47 ((q1 / (Int64.ofNat (10 ^ (ln - 1 - kk)))) - ((q1 / (Int64.ofNat (10 ^ (ln - 1 - kk)))) / (10 : Int64)) * (10 : Int64))).toInt32)).toUInt32.toUInt16.toUInt32.toInt32))])) _
      exact retN X7 hx (t := .char) Bd.returns (by simp) (hb hby d45_43) hr
    · show Q45 Z q1 ln kk h0 n0 _ T7.heap _
      rw [e7]
      exact ⟨by rw [show digV q1 ln kk = (nar .char (((48 : Int32) + ((f47 ((q1 / (Int64.ofNat (10 ^ (ln - 1 - kk)))) - ((q1 / (Int64.ofNat (10 ^ (ln - 1 - kk)))) / (10 : Int64)) * (10 : Int64))).toInt32)).toUInt32.toUInt16.toUInt32.toInt32)) from if_neg (fun z => hv0 z.1)], N7, K6⟩

def litA : List Int32 := [116, 111, 114, 110, 32, 116, 97, 105, 108, 58, 32]
def litB : List Int32 := [32, 98, 121, 116, 101, 115, 32, 97, 102, 116, 101, 114, 32, 108, 105, 110, 101, 32]
theorem sa_1 {Z : State} {a0 : Array Value} (hw : ∀ d ∈ tables_1, d.before a0 Z = true) : ∀ a ∈ Bundle.stringAtoms, a.before a0 Z = true := by
  intro a ha
  simp only [Bundle.stringAtoms, List.mem_cons, List.not_mem_nil, or_false] at ha
  rcases ha with rfl | rfl | rfl | rfl | rfl | rfl | rfl
  · exact (hw _ (List.mem_of_getElem? (i := 39) rfl))
  · exact (hw _ (List.mem_of_getElem? (i := 46) rfl))
  · exact (hw _ (List.mem_of_getElem? (i := 40) rfl))
  · exact (hw _ (List.mem_of_getElem? (i := 47) rfl))
  · exact (hw _ (List.mem_of_getElem? (i := 48) rfl))
  · exact (hw _ (List.mem_of_getElem? (i := 49) rfl))
  · exact (hw _ (List.mem_of_getElem? (i := 50) rfl))

theorem ew_1 {Z : State} {a0 : Array Value} (hw : ∀ d ∈ tables_1, d.before a0 Z = true) : EW Z a0 consts_1 :=
  EW.cons (hw _ (List.mem_of_getElem? (i := 45) rfl)) (by decide) (EW.cons (hw _ (List.mem_of_getElem? (i := 152) rfl)) (by decide) (EW.cons (hw _ (List.mem_of_getElem? (i := 255) rfl)) (by decide) (EW.cons (hw _ (List.mem_of_getElem? (i := 256) rfl)) (by decide) EW.nil)))
theorem cap2_or (L mn : Nat) : (mn ≤ L ∧ cap2 L mn = L) ∨ (L < mn ∧ cap2 L mn = max mn (2 * L + 2)) := by unfold cap2; split <;> omega
theorem litA_len : litA.length = 11 := rfl
theorem litB_len : litB.length = 18 := rfl
theorem d4_0 : decode prog_8_method_3_code 0 = .ok (.new 20, 3) := by decide +kernel
theorem d4_3 : decode prog_8_method_3_code 3 = .ok (.dup, 1) := by decide +kernel
theorem d4_4 : decode prog_8_method_3_code 4 = .ok (.invokespecial 22, 3) := by decide +kernel
theorem d4_7 : decode prog_8_method_3_code 7 = .ok (.ldc 23, 2) := by decide +kernel
theorem d4_9 : decode prog_8_method_3_code 9 = .ok (.invokevirtual 25, 3) := by decide +kernel
theorem d4_12 : decode prog_8_method_3_code 12 = .ok (.aload_n 0, 1) := by decide +kernel
theorem d4_13 : decode prog_8_method_3_code 13 = .ok (.getfield 17, 3) := by decide +kernel
theorem d4_16 : decode prog_8_method_3_code 16 = .ok (.invokevirtual 29, 3) := by decide +kernel
theorem d4_19 : decode prog_8_method_3_code 19 = .ok (.ldc 32, 2) := by decide +kernel
theorem d4_21 : decode prog_8_method_3_code 21 = .ok (.invokevirtual 25, 3) := by decide +kernel
theorem d4_24 : decode prog_8_method_3_code 24 = .ok (.aload_n 0, 1) := by decide +kernel
theorem d4_25 : decode prog_8_method_3_code 25 = .ok (.getfield 7, 3) := by decide +kernel
theorem d4_28 : decode prog_8_method_3_code 28 = .ok (.invokevirtual 34, 3) := by decide +kernel
theorem d4_31 : decode prog_8_method_3_code 31 = .ok (.invokevirtual 37, 3) := by decide +kernel
theorem d4_34 : decode prog_8_method_3_code 34 = .ok (.areturn, 1) := by decide +kernel
theorem pn_4 : plainName "com/example/tranche/tranche/journal/JournalEnd" = true := by first | (simp [plainName, overriddenIn]; done) | decide +kernel
theorem ef_4 (m : MethodId) (a1 : Addr) : entryFrame m #[(.ref a1)] 1 = mkF m 0 #[.val (.ref a1)] [] := by first | (simp [entryFrame, mkF, argsToLocals, Value.category]; done) | rfl
def Q4 (Z : State) (a1 : Addr) (cs : Int32) (ln : Int32) (tn : Int64) (h0 : Heap) (n0 : Nat) (v : Option Value) (h : Heap) (L : List Loc) : Prop := ∃ (s' : Addr) (d' : Addr) (k' : ClassId) (bs' : List Int32), v = some (.ref s') ∧ Fr n0 L ∧ Keep h0 h [] ∧ Exa Z h s' "java/lang/String" ∧ Fld Z h s' "java/lang/String" "coder" "B" (.int 0) ∧ Fld Z h s' "java/lang/String" "value" "[B" (.ref d') ∧ B0 Z h d' k' bs' ∧ bs' = litA ++ decB tn ++ litB ++ decB ln.toInt64 ∧ h0.size ≤ s' ∧ h0.size ≤ d'
set_option maxRecDepth 65536 in
set_option maxHeartbeats 40000000 in
theorem rm4 (l : Launch) (Z : State) (a0 : Array Value) (hw : ∀ d ∈ tables_1, d.before a0 Z = true) (ws : List Jvm.Cond) (a1 : Addr) (h0 : Heap) (n0 : Nat) (cs : Int32) (ln : Int32) (tn : Int64) (CS : Sta Z Z.heap "java/lang/String" "COMPACT_STRINGS" "Z" (.int cs)) (hcs : ¬ cs = 0) (O0 : Old Z n0 h0) (TB : DigT Z) (E_a1 : Exa Z h0 a1 "com/example/tranche/tranche/journal/JournalEnd") (F_l : Fld Z h0 a1 "com/example/tranche/tranche/journal/JournalEnd" "lines" "I" (.int ln)) (F_t : Fld Z h0 a1 "com/example/tranche/tranche/journal/JournalEnd" "tornBytes" "J" (.long tn)) (Z0 : n0 ≤ h0.size) :
    MetFree l (⟨"com/example/tranche/tranche/journal/JournalEnd", "tornTail", "()Ljava/lang/String;"⟩ : MethodName) (head1 (Jvm.Cond.code (⟨"com/example/tranche/tranche/journal/JournalEnd", "tornTail", "()Ljava/lang/String;"⟩ : MethodName) prog_8_method_3_code 1 (some (.object "java/lang/String")) :: ws) ({ frames := 6, cells := 12, slots := 858, locals := 132 } : Room)) (fun a U => a = #[(.ref a1)] ∧ Z.Warmed39 U.vm ∧ U.heap = h0 ∧ CHv Z consts_1 U.vm h0) (fun _ _ _ _ _ => True) (fun _ U o U' => ∃ v L, o = .returned v ∧ Q4 Z a1 cs ln tn h0 n0 v U'.heap L ∧ CHr Z consts_1 U.vm U.heap U'.vm U'.heap ∧ ReturnedEndW U o U' L ({ frames := 6, cells := 12, slots := 858, locals := 132 } : Room).cells ({ frames := 6, cells := 12, slots := 858, locals := 132 } : Room).slots) := by
  refine MetFree.of_bodySF (plainFor_of_name pn_4) hisR ?_
  intro p e s m args below meth c s₁ Bd hml0 hP hK
  obtain ⟨rfl, hZ, hh, hCH⟩ := hP
  have hx := Bd.exec
  have hby := Bd.bytes
  have hml : c.maxLocals = 1 := hml0
  have hown0 := findClass_of_methodNamed Bd.named
  have hown : s.vm.findClass "com/example/tranche/tranche/journal/JournalEnd" = some m.cls := hown0
  have hnm := (name_of_methodNamed Bd.named Bd.method).1
  have X0 : Stand p l e ({ frames := 6, cells := 12, slots := 858, locals := 132 } : Room) (s.setVm s.vm) m #[(.ref a1)] below meth c s₁ [] 0 0 := Stand.of_body Bd
  have hS : s.Since s.vm 0 := State.WarmedH.since (State.WarmedH.refl s) 0
  have hk0 : 0 ≤ h0.size := Nat.zero_le _
  have R0 : CHr Z consts_1 s.vm h0 s.vm h0 := CHr.refl hCH
  have hEL := ew_1 (Z := Z) (a0 := a0) hw
  have wS := sa_1 (Z := Z) (a0 := a0) hw
  have e0 : s₁.heap = h0 := by rw [← hh, Bd.state]; rfl
  have N0 := Fr.nil n0
  have pre0 : ∀ t, Steps p.tables e below (s₁.setTop (mkF m 0 #[.val (.ref a1)] [])) t → Steps p.tables e below (s₁.setTop (entryFrame m #[(.ref a1)] 1)) t := fun t k => castTop (ef_4 m a1) k
  refine Classical.byContradiction fun hneg => ?_
  obtain ⟨T1, h1, X1, e1, E1, A1, D1, -, st1⟩ := newO X0 hx hZ hown (hw _ (List.mem_of_getElem? (i := 25) rfl)) (hw _ (List.mem_of_getElem? (i := 26) rfl)) (hw _ (List.mem_of_getElem? (i := 27) rfl)) e0 (g := (mkF m 0 #[.val (.ref a1)] [])) rfl (hb hby d4_0) (by decide) (by decide)
  obtain ⟨b1, g1⟩ : ∃ z, z = h0.size := ⟨_, rfl⟩
  rw [← g1] at A1 D1 st1
  have ne_a1_b1 : a1 ≠ b1 := Nat.ne_of_lt (Nat.lt_of_lt_of_le E_a1.lt (Nat.le_of_eq g1.symm))
  have g_b1 : n0 ≤ b1 := Nat.le_trans Z0 (Nat.le_of_eq g1.symm)
  have sz_b1 : h0.size ≤ b1 := Nat.le_trans (Keep.refl h0 []).1 (Nat.le_of_eq g1.symm)
  have E_a1_1 := E_a1.ext E1
  have F_a1_lines_1 := F_l.ext E1
  have F_a1_tornBytes_1 := F_t.ext E1
  have K1 : Keep h0 h1 [] := (Keep.refl h0 []).ext E1
  have Z1 : n0 ≤ h1.size := Nat.le_trans Z0 E1.1
  have O1 := Old.ext O0 E1
  have r1 := CHr.ext E1 R0.1
  have R1 := R0.trans r1
  have hk1 := Nat.le_trans hk0 E1.1
  have F_value_b1 : Fld Z h1 b1 "java/lang/AbstractStringBuilder" "value" "[B" .null := D1 (Or.inl (hw _ (List.mem_of_getElem? (i := 42) rfl))) (ty := (.array .byte)) (by decide)
  have F_coder_b1 : Fld Z h1 b1 "java/lang/AbstractStringBuilder" "coder" "B" (.int (0 : Int32)) := D1 (Or.inl (hw _ (List.mem_of_getElem? (i := 44) rfl))) (ty := .byte) (by decide)
  have F_count_b1 : Fld Z h1 b1 "java/lang/AbstractStringBuilder" "count" "I" (.int (0 : Int32)) := D1 (Or.inl (hw _ (List.mem_of_getElem? (i := 75) rfl))) (ty := .int) (by decide)
  obtain ⟨_, _, ⟨T2, L2, k2, n2⟩, -, X2, ⟨Lc2, hQ2, l2, y2, z2⟩, st2⟩ := X1.specialBack hx (y := (⟨"java/lang/StringBuilder", "<init>", "()V"⟩ : MethodName)) rfl hown (mvT hZ (hw _ (List.mem_of_getElem? (i := 28) rfl))) (mvT hZ (hw _ (List.mem_of_getElem? (i := 29) rfl))) (mvT hZ (hw _ (List.mem_of_getElem? (i := 30) rfl))) (by decide) (backOf (W := 1) (rm5 l Z a0 hw [] b1  h1 n0 cs CS hcs O1 _ _ Z1 g_b1 A1 F_value_b1 F_coder_b1 F_count_b1) hZ (hw _ (List.mem_of_getElem? (i := 30) rfl)) (hw _ (List.mem_of_getElem? (i := 27) rfl)) (by decide) (by decide)) (g := (mkF m 4 #[.val (.ref a1)] [(.ref b1), (.ref b1)])) rfl (by rw [hml]; rfl) (Steps.refl _) (a := b1) (argsL := []) (rest := [(.ref b1)]) (lenOf pd26 rfl) rfl (by show 2 * 0 + _ ≤ _; exact Nat.le_of_eq rfl) (hb hby d4_4) (fun _ _ => ⟨rfl, e1, (by decide : 1 + 1 ≤ _), (by decide : 4 + 16 ≤ _)⟩)
  dsimp only [Pt.U, Pt.locs, Pt.cells, Pt.slots] at X2 l2 y2 z2 st2 hQ2
  subst l2 y2 z2
  obtain ⟨d'_2, k'_2, bs'_2, rfl, N2q, Kc2, G2_0, G2_1, G2_2, G2_3, G2_4, rep_2, f_d'_2⟩ := hQ2
  have N2 := Fr.app N0 N2q
  have ne_a1_d'_2 : a1 ≠ d'_2 := Nat.ne_of_lt (Nat.lt_of_lt_of_le E_a1_1.lt f_d'_2)
  have ne_b1_d'_2 : b1 ≠ d'_2 := Nat.ne_of_lt (Nat.lt_of_lt_of_le A1.lt f_d'_2)
  have g_d'_2 : n0 ≤ d'_2 := Nat.le_trans Z1 f_d'_2
  have sz_d'_2 : h0.size ≤ d'_2 := Nat.le_trans K1.1 f_d'_2
  have S0_d'_2 : Safe Z consts_1 s.vm h1 d'_2 := Safe.new f_d'_2
  have E_a1_2 := E_a1_1.keep Kc2
  have F_a1_lines_2 := F_a1_lines_1.keep Kc2 (ninS ne_a1_b1 nin0)
  have F_a1_tornBytes_2 := F_a1_tornBytes_1.keep Kc2 (ninS ne_a1_b1 nin0)
  have K2 : Keep h0 T2.heap [] := K1.trans Kc2 (allS (P := fun x => x ∈ ([] : List Addr) ∨ h0.size ≤ x) (Or.inr sz_b1) all0)
  have Z2 : n0 ≤ T2.heap.size := Nat.le_trans Z1 Kc2.1
  have O2 := Old.keep O1 Kc2 (allS g_b1 all0)
  have hs2 : ∀ x ∈ ([b1] : List Addr), Safe Z consts_1 s.vm h1 x := (sfS (Safe.exa hZ.alike A1 (by decide) (by decide)) sf0)
  have r2 := CHr.keep Kc2 hs2 R1.1
  have S2_d'_2 := Safe.keep Kc2 hs2 R1.1 S0_d'_2
  have R2 := R1.trans r2
  have hk2 := Nat.le_trans hk1 Kc2.1
  have rl : bs'_2.length = 16 := by rw [rep_2]; rfl
  have lA := litA_len
  have lB := litB_len
  have lT := decB_le tn
  have lL := decB_le ln.toInt64
  have pre4 : ∀ t, Steps p.tables e below (T2.setTop (mkF m 7 #[.val (.ref a1)] [(.ref b1)])) t → Steps p.tables e below (s₁.setTop (entryFrame m #[(.ref a1)] 1)) t := by
    intro t k
    refine pre0 t ?_
    show Steps p.tables e below (s₁.setTop (mkF m 0 #[.val (.ref a1)] [])) _
    refine st1 _ ?_
    show Steps p.tables e below (T1.setTop (mkF m 3 #[.val (.ref a1)] [(.ref b1)])) _
    refine XS.dup X1.here hx rfl (hb hby d4_3) rfl rfl ?_
    show Steps p.tables e below (T1.setTop (mkF m 4 #[.val (.ref a1)] [(.ref b1), (.ref b1)])) _
    refine st2.trans ?_
    exact k
  obtain ⟨la3, T3, h3, kk3, lb3, lk3, X3, e3, E3, hS, hk3, hZ, hown, Le3, Lc3, Lv3, La3, -, -, r3, -, hne3, st3⟩ := ldcCH X2 hx hZ hown (hw _ (List.mem_of_getElem? (i := 45) rfl)) wS rfl hS hk2 hEL (List.mem_of_getElem? (i := 0) rfl) R2.1 (vs := litA.map Value.int) (z := Int32.ofNat litA.length) (by decide) (by decide) (by decide) (g := (mkF m 7 #[.val (.ref a1)] [(.ref b1)])) rfl (hb hby d4_7) (n := 44) (by decide) (by decide) (by decide) (by decide)
  have E_a1_3 := E_a1_2.ext E3
  have F_a1_lines_3 := F_a1_lines_2.ext E3
  have F_a1_tornBytes_3 := F_a1_tornBytes_2.ext E3
  have E_b1_3 := G2_0.ext E3
  have F_b1_value_3 := G2_1.ext E3
  have F_b1_coder_3 := G2_2.ext E3
  have F_b1_count_3 := G2_3.ext E3
  have V_d__2_3 := G2_4.ext E3
  have S3_d'_2 := r3.safe G2_4.lt S2_d'_2
  have R3 := R2.trans r3
  have K3 : Keep h0 h3 [] := K2.ext E3
  have Z3 : n0 ≤ h3.size := Nat.le_trans Z2 E3.1
  have O3 := Old.ext O2 E3
  have LV3 : B0 Z h3 lb3 lk3 litA := ⟨La3, by decide, trivial⟩
  obtain ⟨cq5, kq5, q5a, q5b, q5c⟩ := isOf hZ e3 E_b1_3
  obtain ⟨_, _, ⟨T5, L5, k5, n5⟩, -, X5, ⟨Lc5, hQ5, l5, y5, z5⟩, st5⟩ := X3.virtualBack hx (y := (⟨"java/lang/StringBuilder", "append", "(Ljava/lang/String;)Ljava/lang/StringBuilder;"⟩ : MethodName)) (z := (⟨"java/lang/StringBuilder", "append", "(Ljava/lang/String;)Ljava/lang/StringBuilder;"⟩ : MethodName)) hown (mvT hZ (hw _ (List.mem_of_getElem? (i := 51) rfl))) (mvT hZ (hw _ (List.mem_of_getElem? (i := 52) rfl))) (notFace_of_selects (args := #[]) (mvT hZ (hw _ (List.mem_of_getElem? (i := 54) rfl)))) (mvT hZ (hw _ (List.mem_of_getElem? (i := 54) rfl))) (mvT hZ (hw _ (List.mem_of_getElem? (i := 53) rfl))) (by decide) (backOf (W := 0) (rm7 l Z a0 hw [] b1 la3  h3 n0 cs d'_2 k'_2 bs'_2 0 lb3 lk3 litA CS hcs O3 E_b1_3 F_b1_value_3 F_b1_coder_3 F_b1_count_3 V_d__2_3 Le3 Lc3 Lv3 LV3 (by omega) (by omega) (by omega) g_b1 g_d'_2 Z3 (Ne.symm (hne3 _ S3_d'_2).2)) hZ (hw _ (List.mem_of_getElem? (i := 55) rfl)) (hw _ (List.mem_of_getElem? (i := 27) rfl)) (by decide) (by decide)) q5a q5c (g := (mkF m 9 #[.val (.ref a1)] [(.ref la3), (.ref b1)])) rfl (by rw [hml]; rfl) (Steps.refl _) (argsL := [(.ref la3)]) (rest := []) (lenOf pd27 rfl) rfl (by show 2 * 0 + _ ≤ _; exact Nat.le_of_eq rfl) (hb hby d4_9) (fun _ _ => ⟨rfl, e3, (by decide : 4 + 1 ≤ _), (by decide : 68 + 142 ≤ _)⟩)
  dsimp only [Pt.U, Pt.locs, Pt.cells, Pt.slots] at X5 l5 y5 z5 st5 hQ5
  subst l5 y5 z5
  obtain ⟨d'_5, k'_5, bs'_5, rfl, N5q, Kc5, G5_0, G5_1, G5_2, G5_3, G5_4, len_5, tk_5, mb_5⟩ := hQ5
  have N5 := Fr.app N2 N5q
  have ne_a1_d'_5 : a1 ≠ d'_5 := mb_5.elim (fun q => by rw [q]; exact ne_a1_d'_2) (fun q => Nat.ne_of_lt (Nat.lt_of_lt_of_le E_a1_3.lt q))
  have ne_b1_d'_5 : b1 ≠ d'_5 := mb_5.elim (fun q => by rw [q]; exact ne_b1_d'_2) (fun q => Nat.ne_of_lt (Nat.lt_of_lt_of_le E_b1_3.lt q))
  have ne_la3_d'_5 : la3 ≠ d'_5 := mb_5.elim (fun q => by rw [q]; exact (Exa.neArv Le3 V_d__2_3.1 (hw _ (List.mem_of_getElem? (i := 46) rfl)))) (fun q => Nat.ne_of_lt (Nat.lt_of_lt_of_le Le3.lt q))
  have ne_lb3_d'_5 : lb3 ≠ d'_5 := mb_5.elim (fun q => by rw [q]; exact (Ne.symm (hne3 _ S3_d'_2).2)) (fun q => Nat.ne_of_lt (Nat.lt_of_lt_of_le LV3.lt q))
  have g_d'_5 : n0 ≤ d'_5 := mb_5.elim (fun q => by rw [q]; exact g_d'_2) (fun q => Nat.le_trans Z3 q)
  have wk_d'_5 : d'_5 ∈ [] ∨ h0.size ≤ d'_5 := mb_5.elim (fun q => by rw [q]; exact (Or.inr sz_d'_2)) (fun q => Or.inr (Nat.le_trans K3.1 q))
  have S0_d'_5 : Safe Z consts_1 T3.vm h3 d'_5 := mb_5.elim (fun q => by rw [q]; exact S3_d'_2) (fun q => Safe.new q)
  have E_a1_5 := E_a1_3.keep Kc5
  have F_a1_lines_5 := F_a1_lines_3.keep Kc5 (ninS ne_a1_b1 (ninS ne_a1_d'_2 nin0))
  have F_a1_tornBytes_5 := F_a1_tornBytes_3.keep Kc5 (ninS ne_a1_b1 (ninS ne_a1_d'_2 nin0))
  have E_la3_5 := Le3.keep Kc5
  have F_la3_coder_5 := Lc3.keep Kc5 (ninS (Exa.ne Le3 E_b1_3 (by decide)) (ninS (Exa.neArv Le3 V_d__2_3.1 (hw _ (List.mem_of_getElem? (i := 46) rfl))) nin0))
  have F_la3_value_5 := Lv3.keep Kc5 (ninS (Exa.ne Le3 E_b1_3 (by decide)) (ninS (Exa.neArv Le3 V_d__2_3.1 (hw _ (List.mem_of_getElem? (i := 46) rfl))) nin0))
  have V_lb3_5 := LV3.keep Kc5 (ninS (Ne.symm (Exa.neArv E_b1_3 LV3.1 (hw _ (List.mem_of_getElem? (i := 26) rfl)))) (ninS (Ne.symm (hne3 _ S3_d'_2).2) nin0))
  have K5 : Keep h0 T5.heap [] := K3.trans Kc5 (allS (P := fun x => x ∈ ([] : List Addr) ∨ h0.size ≤ x) (Or.inr sz_b1) (allS (P := fun x => x ∈ ([] : List Addr) ∨ h0.size ≤ x) (Or.inr sz_d'_2) all0))
  have Z5 : n0 ≤ T5.heap.size := Nat.le_trans Z3 Kc5.1
  have O5 := Old.keep O3 Kc5 (allS g_b1 (allS g_d'_2 all0))
  have hs5 : ∀ x ∈ ([b1, d'_2] : List Addr), Safe Z consts_1 T3.vm h3 x := (sfS (Safe.exa hZ.alike E_b1_3 (by decide) (by decide)) (sfS S3_d'_2 sf0))
  have r5 := CHr.keep Kc5 hs5 R3.1
  have S5_d'_2 := Safe.keep Kc5 hs5 R3.1 S3_d'_2
  have S5_d'_5 := Safe.keep Kc5 hs5 R3.1 S0_d'_5
  have R5 := R3.trans r5
  have hk5 := Nat.le_trans hk3 Kc5.1
  have cq5 := cap2_or bs'_2.length (0 + litA.length)
  rw [← len_5] at cq5
  obtain ⟨T6, X6, e6, st6⟩ := getF X5 hx hZ hown (host := "") (Or.inl (hw _ (List.mem_of_getElem? (i := 18) rfl))) Via.refl rfl F_a1_tornBytes_5 (g := (mkF m 13 #[.val (.ref a1)] [(.ref a1), (.ref b1)])) rfl rfl (hb hby d4_13)
  obtain ⟨cq7, kq7, q7a, q7b, q7c⟩ := isOf hZ e6 G5_0
  obtain ⟨_, _, ⟨T7, L7, k7, n7⟩, -, X7, ⟨Lc7, hQ7, l7, y7, z7⟩, st7⟩ := X6.virtualBack hx (y := (⟨"java/lang/StringBuilder", "append", "(J)Ljava/lang/StringBuilder;"⟩ : MethodName)) (z := (⟨"java/lang/StringBuilder", "append", "(J)Ljava/lang/StringBuilder;"⟩ : MethodName)) hown (mvT hZ (hw _ (List.mem_of_getElem? (i := 101) rfl))) (mvT hZ (hw _ (List.mem_of_getElem? (i := 102) rfl))) (notFace_of_selects (args := #[]) (mvT hZ (hw _ (List.mem_of_getElem? (i := 104) rfl)))) (mvT hZ (hw _ (List.mem_of_getElem? (i := 104) rfl))) (mvT hZ (hw _ (List.mem_of_getElem? (i := 103) rfl))) (by decide) (backOf (W := 0) (rm15 l Z a0 hw [] b1 tn  T5.heap n0 cs d'_5 k'_5 bs'_5 (0 + litA.length)  CS hcs O5 TB G5_0 G5_1 G5_2 G5_3 G5_4  (by omega) (by omega) (by omega) g_b1 g_d'_5 Z5 ) hZ (hw _ (List.mem_of_getElem? (i := 105) rfl)) (hw _ (List.mem_of_getElem? (i := 27) rfl)) (by decide) (by decide)) q7a q7c (g := (mkF m 16 #[.val (.ref a1)] [(.long tn), (.ref b1)])) rfl (by rw [hml]; rfl) (Steps.refl _) (argsL := [(.long tn)]) (rest := []) (lenOf pd28 rfl) rfl (by show 2 * 0 + _ ≤ _; exact Nat.le_of_eq rfl) (hb hby d4_16) (fun _ _ => ⟨rfl, e6, (by decide : 5 + 1 ≤ _), (by decide : 210 + 142 ≤ _)⟩)
  dsimp only [Pt.U, Pt.locs, Pt.cells, Pt.slots] at X7 l7 y7 z7 st7 hQ7
  subst l7 y7 z7
  obtain ⟨d'_7, k'_7, bs'_7, rfl, N7q, Kc7, G7_0, G7_1, G7_2, G7_3, G7_4, len_7, tk_7, mb_7⟩ := hQ7
  have N7 := Fr.app N5 N7q
  have ne_a1_d'_7 : a1 ≠ d'_7 := mb_7.elim (fun q => by rw [q]; exact ne_a1_d'_5) (fun q => Nat.ne_of_lt (Nat.lt_of_lt_of_le E_a1_5.lt q))
  have ne_b1_d'_7 : b1 ≠ d'_7 := mb_7.elim (fun q => by rw [q]; exact ne_b1_d'_5) (fun q => Nat.ne_of_lt (Nat.lt_of_lt_of_le G5_0.lt q))
  have ne_la3_d'_7 : la3 ≠ d'_7 := mb_7.elim (fun q => by rw [q]; exact ne_la3_d'_5) (fun q => Nat.ne_of_lt (Nat.lt_of_lt_of_le E_la3_5.lt q))
  have ne_lb3_d'_7 : lb3 ≠ d'_7 := mb_7.elim (fun q => by rw [q]; exact ne_lb3_d'_5) (fun q => Nat.ne_of_lt (Nat.lt_of_lt_of_le V_lb3_5.lt q))
  have g_d'_7 : n0 ≤ d'_7 := mb_7.elim (fun q => by rw [q]; exact g_d'_5) (fun q => Nat.le_trans Z5 q)
  have wk_d'_7 : d'_7 ∈ [] ∨ h0.size ≤ d'_7 := mb_7.elim (fun q => by rw [q]; exact wk_d'_5) (fun q => Or.inr (Nat.le_trans K5.1 q))
  have S0_d'_7 : Safe Z consts_1 T3.vm T5.heap d'_7 := mb_7.elim (fun q => by rw [q]; exact S5_d'_5) (fun q => Safe.new q)
  have E_a1_7 := E_a1_5.keep Kc7
  have F_a1_lines_7 := F_a1_lines_5.keep Kc7 (ninS ne_a1_b1 (ninS ne_a1_d'_5 nin0))
  have F_a1_tornBytes_7 := F_a1_tornBytes_5.keep Kc7 (ninS ne_a1_b1 (ninS ne_a1_d'_5 nin0))
  have E_la3_7 := E_la3_5.keep Kc7
  have F_la3_coder_7 := F_la3_coder_5.keep Kc7 (ninS (Exa.ne E_la3_5 G5_0 (by decide)) (ninS ne_la3_d'_5 nin0))
  have F_la3_value_7 := F_la3_value_5.keep Kc7 (ninS (Exa.ne E_la3_5 G5_0 (by decide)) (ninS ne_la3_d'_5 nin0))
  have V_lb3_7 := V_lb3_5.keep Kc7 (ninS (Ne.symm (Exa.neArv G5_0 V_lb3_5.1 (hw _ (List.mem_of_getElem? (i := 26) rfl)))) (ninS ne_lb3_d'_5 nin0))
  have K7 : Keep h0 T7.heap [] := K5.trans Kc7 (allS (P := fun x => x ∈ ([] : List Addr) ∨ h0.size ≤ x) (Or.inr sz_b1) (allS (P := fun x => x ∈ ([] : List Addr) ∨ h0.size ≤ x) wk_d'_5 all0))
  have Z7 : n0 ≤ T7.heap.size := Nat.le_trans Z5 Kc7.1
  have O7 := Old.keep O5 Kc7 (allS g_b1 (allS g_d'_5 all0))
  have hs7 : ∀ x ∈ ([b1, d'_5] : List Addr), Safe Z consts_1 T3.vm T5.heap x := (sfS (Safe.exa hZ.alike G5_0 (by decide) (by decide)) (sfS S5_d'_5 sf0))
  have r7 := CHr.keep Kc7 hs7 R5.1
  have S7_d'_5 := Safe.keep Kc7 hs7 R5.1 S5_d'_5
  have S7_d'_7 := Safe.keep Kc7 hs7 R5.1 S0_d'_7
  have R7 := R5.trans r7
  have hk7 := Nat.le_trans hk5 Kc7.1
  have cq7 := cap2_or bs'_5.length ((0 + litA.length) + (decB tn).length)
  rw [← len_7] at cq7
  have pre9 : ∀ t, Steps p.tables e below (T7.setTop (mkF m 19 #[.val (.ref a1)] [(.ref b1)])) t → Steps p.tables e below (s₁.setTop (entryFrame m #[(.ref a1)] 1)) t := by
    intro t k
    refine pre4 t ?_
    refine st3 _ ?_
    show Steps p.tables e below (T3.setTop (mkF m 9 #[.val (.ref a1)] [(.ref la3), (.ref b1)])) _
    refine st5.trans ?_
    show Steps p.tables e below (T5.setTop (mkF m 12 #[.val (.ref a1)] [(.ref b1)])) _
    refine XS.aloadN X5.here hx rfl (hb hby d4_12) rfl rfl ?_
    show Steps p.tables e below (T5.setTop (mkF m 13 #[.val (.ref a1)] [(.ref a1), (.ref b1)])) _
    refine st6 _ ?_
    show Steps p.tables e below (T6.setTop (mkF m 16 #[.val (.ref a1)] [(.long tn), (.ref b1)])) _
    refine st7.trans ?_
    exact k
  obtain ⟨la8, T8, h8, kk8, lb8, lk8, X8, e8, E8, hS, hk8, hZ, hown, Le8, Lc8, Lv8, La8, -, -, r8, -, hne8, st8⟩ := ldcCH X7 hx hZ hown (hw _ (List.mem_of_getElem? (i := 152) rfl)) wS rfl hS hk7 hEL (List.mem_of_getElem? (i := 1) rfl) R7.1 (vs := litB.map Value.int) (z := Int32.ofNat litB.length) (by decide) (by decide) (by decide) (g := (mkF m 19 #[.val (.ref a1)] [(.ref b1)])) rfl (hb hby d4_19) (n := 72) (by decide) (by decide) (by decide) (by decide)
  have E_a1_8 := E_a1_7.ext E8
  have F_a1_lines_8 := F_a1_lines_7.ext E8
  have F_a1_tornBytes_8 := F_a1_tornBytes_7.ext E8
  have E_b1_8 := G7_0.ext E8
  have F_b1_value_8 := G7_1.ext E8
  have F_b1_coder_8 := G7_2.ext E8
  have F_b1_count_8 := G7_3.ext E8
  have E_la3_8 := E_la3_7.ext E8
  have F_la3_coder_8 := F_la3_coder_7.ext E8
  have F_la3_value_8 := F_la3_value_7.ext E8
  have V_lb3_8 := V_lb3_7.ext E8
  have V_d__7_8 := G7_4.ext E8
  have S8_d'_7 := r8.safe G7_4.lt S7_d'_7
  have R8 := R7.trans r8
  have K8 : Keep h0 h8 [] := K7.ext E8
  have Z8 : n0 ≤ h8.size := Nat.le_trans Z7 E8.1
  have O8 := Old.ext O7 E8
  have LV8 : B0 Z h8 lb8 lk8 litB := ⟨La8, by decide, trivial⟩
  obtain ⟨cq10, kq10, q10a, q10b, q10c⟩ := isOf hZ e8 E_b1_8
  obtain ⟨_, _, ⟨T10, L10, k10, n10⟩, -, X10, ⟨Lc10, hQ10, l10, y10, z10⟩, st10⟩ := X8.virtualBack hx (y := (⟨"java/lang/StringBuilder", "append", "(Ljava/lang/String;)Ljava/lang/StringBuilder;"⟩ : MethodName)) (z := (⟨"java/lang/StringBuilder", "append", "(Ljava/lang/String;)Ljava/lang/StringBuilder;"⟩ : MethodName)) hown (mvT hZ (hw _ (List.mem_of_getElem? (i := 51) rfl))) (mvT hZ (hw _ (List.mem_of_getElem? (i := 52) rfl))) (notFace_of_selects (args := #[]) (mvT hZ (hw _ (List.mem_of_getElem? (i := 54) rfl)))) (mvT hZ (hw _ (List.mem_of_getElem? (i := 54) rfl))) (mvT hZ (hw _ (List.mem_of_getElem? (i := 53) rfl))) (by decide) (backOf (W := 0) (rm7 l Z a0 hw [] b1 la8  h8 n0 cs d'_7 k'_7 bs'_7 ((0 + litA.length) + (decB tn).length) lb8 lk8 litB CS hcs O8 E_b1_8 F_b1_value_8 F_b1_coder_8 F_b1_count_8 V_d__7_8 Le8 Lc8 Lv8 LV8 (by omega) (by omega) (by omega) g_b1 g_d'_7 Z8 (Ne.symm (hne8 _ S8_d'_7).2)) hZ (hw _ (List.mem_of_getElem? (i := 55) rfl)) (hw _ (List.mem_of_getElem? (i := 27) rfl)) (by decide) (by decide)) q10a q10c (g := (mkF m 21 #[.val (.ref a1)] [(.ref la8), (.ref b1)])) rfl (by rw [hml]; rfl) (Steps.refl _) (argsL := [(.ref la8)]) (rest := []) (lenOf pd27 rfl) rfl (by show 2 * 0 + _ ≤ _; exact Nat.le_of_eq rfl) (hb hby d4_21) (fun _ _ => ⟨rfl, e8, (by decide : 8 + 1 ≤ _), (by decide : 428 + 142 ≤ _)⟩)
  dsimp only [Pt.U, Pt.locs, Pt.cells, Pt.slots] at X10 l10 y10 z10 st10 hQ10
  subst l10 y10 z10
  obtain ⟨d'_10, k'_10, bs'_10, rfl, N10q, Kc10, G10_0, G10_1, G10_2, G10_3, G10_4, len_10, tk_10, mb_10⟩ := hQ10
  have N10 := Fr.app N7 N10q
  have ne_a1_d'_10 : a1 ≠ d'_10 := mb_10.elim (fun q => by rw [q]; exact ne_a1_d'_7) (fun q => Nat.ne_of_lt (Nat.lt_of_lt_of_le E_a1_8.lt q))
  have ne_b1_d'_10 : b1 ≠ d'_10 := mb_10.elim (fun q => by rw [q]; exact ne_b1_d'_7) (fun q => Nat.ne_of_lt (Nat.lt_of_lt_of_le E_b1_8.lt q))
  have ne_la3_d'_10 : la3 ≠ d'_10 := mb_10.elim (fun q => by rw [q]; exact ne_la3_d'_7) (fun q => Nat.ne_of_lt (Nat.lt_of_lt_of_le E_la3_8.lt q))
  have ne_lb3_d'_10 : lb3 ≠ d'_10 := mb_10.elim (fun q => by rw [q]; exact ne_lb3_d'_7) (fun q => Nat.ne_of_lt (Nat.lt_of_lt_of_le V_lb3_8.lt q))
  have ne_la8_d'_10 : la8 ≠ d'_10 := mb_10.elim (fun q => by rw [q]; exact (Exa.neArv Le8 V_d__7_8.1 (hw _ (List.mem_of_getElem? (i := 46) rfl)))) (fun q => Nat.ne_of_lt (Nat.lt_of_lt_of_le Le8.lt q))
  have ne_lb8_d'_10 : lb8 ≠ d'_10 := mb_10.elim (fun q => by rw [q]; exact (Ne.symm (hne8 _ S8_d'_7).2)) (fun q => Nat.ne_of_lt (Nat.lt_of_lt_of_le LV8.lt q))
  have g_d'_10 : n0 ≤ d'_10 := mb_10.elim (fun q => by rw [q]; exact g_d'_7) (fun q => Nat.le_trans Z8 q)
  have wk_d'_10 : d'_10 ∈ [] ∨ h0.size ≤ d'_10 := mb_10.elim (fun q => by rw [q]; exact wk_d'_7) (fun q => Or.inr (Nat.le_trans K8.1 q))
  have S0_d'_10 : Safe Z consts_1 T8.vm h8 d'_10 := mb_10.elim (fun q => by rw [q]; exact S8_d'_7) (fun q => Safe.new q)
  have E_a1_10 := E_a1_8.keep Kc10
  have F_a1_lines_10 := F_a1_lines_8.keep Kc10 (ninS ne_a1_b1 (ninS ne_a1_d'_7 nin0))
  have F_a1_tornBytes_10 := F_a1_tornBytes_8.keep Kc10 (ninS ne_a1_b1 (ninS ne_a1_d'_7 nin0))
  have E_la3_10 := E_la3_8.keep Kc10
  have F_la3_coder_10 := F_la3_coder_8.keep Kc10 (ninS (Exa.ne E_la3_8 E_b1_8 (by decide)) (ninS ne_la3_d'_7 nin0))
  have F_la3_value_10 := F_la3_value_8.keep Kc10 (ninS (Exa.ne E_la3_8 E_b1_8 (by decide)) (ninS ne_la3_d'_7 nin0))
  have V_lb3_10 := V_lb3_8.keep Kc10 (ninS (Ne.symm (Exa.neArv E_b1_8 V_lb3_8.1 (hw _ (List.mem_of_getElem? (i := 26) rfl)))) (ninS ne_lb3_d'_7 nin0))
  have E_la8_10 := Le8.keep Kc10
  have F_la8_coder_10 := Lc8.keep Kc10 (ninS (Exa.ne Le8 E_b1_8 (by decide)) (ninS (Exa.neArv Le8 V_d__7_8.1 (hw _ (List.mem_of_getElem? (i := 46) rfl))) nin0))
  have F_la8_value_10 := Lv8.keep Kc10 (ninS (Exa.ne Le8 E_b1_8 (by decide)) (ninS (Exa.neArv Le8 V_d__7_8.1 (hw _ (List.mem_of_getElem? (i := 46) rfl))) nin0))
  have V_lb8_10 := LV8.keep Kc10 (ninS (Ne.symm (Exa.neArv E_b1_8 LV8.1 (hw _ (List.mem_of_getElem? (i := 26) rfl)))) (ninS (Ne.symm (hne8 _ S8_d'_7).2) nin0))
  have K10 : Keep h0 T10.heap [] := K8.trans Kc10 (allS (P := fun x => x ∈ ([] : List Addr) ∨ h0.size ≤ x) (Or.inr sz_b1) (allS (P := fun x => x ∈ ([] : List Addr) ∨ h0.size ≤ x) wk_d'_7 all0))
  have Z10 : n0 ≤ T10.heap.size := Nat.le_trans Z8 Kc10.1
  have O10 := Old.keep O8 Kc10 (allS g_b1 (allS g_d'_7 all0))
  have hs10 : ∀ x ∈ ([b1, d'_7] : List Addr), Safe Z consts_1 T8.vm h8 x := (sfS (Safe.exa hZ.alike E_b1_8 (by decide) (by decide)) (sfS S8_d'_7 sf0))
  have r10 := CHr.keep Kc10 hs10 R8.1
  have S10_d'_7 := Safe.keep Kc10 hs10 R8.1 S8_d'_7
  have S10_d'_10 := Safe.keep Kc10 hs10 R8.1 S0_d'_10
  have R10 := R8.trans r10
  have hk10 := Nat.le_trans hk8 Kc10.1
  have cq10 := cap2_or bs'_7.length (((0 + litA.length) + (decB tn).length) + litB.length)
  rw [← len_10] at cq10
  obtain ⟨T11, X11, e11, st11⟩ := getF X10 hx hZ hown (host := "") (Or.inl (hw _ (List.mem_of_getElem? (i := 14) rfl))) Via.refl rfl F_a1_lines_10 (g := (mkF m 25 #[.val (.ref a1)] [(.ref a1), (.ref b1)])) rfl rfl (hb hby d4_25)
  obtain ⟨cq12, kq12, q12a, q12b, q12c⟩ := isOf hZ e11 G10_0
  obtain ⟨_, _, ⟨T12, L12, k12, n12⟩, -, X12, ⟨Lc12, hQ12, l12, y12, z12⟩, st12⟩ := X11.virtualBack hx (y := (⟨"java/lang/StringBuilder", "append", "(I)Ljava/lang/StringBuilder;"⟩ : MethodName)) (z := (⟨"java/lang/StringBuilder", "append", "(I)Ljava/lang/StringBuilder;"⟩ : MethodName)) hown (mvT hZ (hw _ (List.mem_of_getElem? (i := 153) rfl))) (mvT hZ (hw _ (List.mem_of_getElem? (i := 154) rfl))) (notFace_of_selects (args := #[]) (mvT hZ (hw _ (List.mem_of_getElem? (i := 156) rfl)))) (mvT hZ (hw _ (List.mem_of_getElem? (i := 156) rfl))) (mvT hZ (hw _ (List.mem_of_getElem? (i := 155) rfl))) (by decide) (backOf (W := 0) (rm25 l Z a0 hw [] b1 ln  T10.heap n0 cs d'_10 k'_10 bs'_10 (((0 + litA.length) + (decB tn).length) + litB.length)  CS hcs O10 TB G10_0 G10_1 G10_2 G10_3 G10_4  (by omega) (by omega) (by omega) g_b1 g_d'_10 Z10 ) hZ (hw _ (List.mem_of_getElem? (i := 157) rfl)) (hw _ (List.mem_of_getElem? (i := 27) rfl)) (by decide) (by decide)) q12a q12c (g := (mkF m 28 #[.val (.ref a1)] [(.int ln), (.ref b1)])) rfl (by rw [hml]; rfl) (Steps.refl _) (argsL := [(.int ln)]) (rest := []) (lenOf pd29 rfl) rfl (by show 2 * 0 + _ ≤ _; exact Nat.le_of_eq rfl) (hb hby d4_28) (fun _ _ => ⟨rfl, e11, (by decide : 9 + 1 ≤ _), (by decide : 570 + 142 ≤ _)⟩)
  dsimp only [Pt.U, Pt.locs, Pt.cells, Pt.slots] at X12 l12 y12 z12 st12 hQ12
  subst l12 y12 z12
  obtain ⟨d'_12, k'_12, bs'_12, rfl, N12q, Kc12, G12_0, G12_1, G12_2, G12_3, G12_4, len_12, tk_12, mb_12⟩ := hQ12
  have N12 := Fr.app N10 N12q
  have ne_a1_d'_12 : a1 ≠ d'_12 := mb_12.elim (fun q => by rw [q]; exact ne_a1_d'_10) (fun q => Nat.ne_of_lt (Nat.lt_of_lt_of_le E_a1_10.lt q))
  have ne_b1_d'_12 : b1 ≠ d'_12 := mb_12.elim (fun q => by rw [q]; exact ne_b1_d'_10) (fun q => Nat.ne_of_lt (Nat.lt_of_lt_of_le G10_0.lt q))
  have ne_la3_d'_12 : la3 ≠ d'_12 := mb_12.elim (fun q => by rw [q]; exact ne_la3_d'_10) (fun q => Nat.ne_of_lt (Nat.lt_of_lt_of_le E_la3_10.lt q))
  have ne_lb3_d'_12 : lb3 ≠ d'_12 := mb_12.elim (fun q => by rw [q]; exact ne_lb3_d'_10) (fun q => Nat.ne_of_lt (Nat.lt_of_lt_of_le V_lb3_10.lt q))
  have ne_la8_d'_12 : la8 ≠ d'_12 := mb_12.elim (fun q => by rw [q]; exact ne_la8_d'_10) (fun q => Nat.ne_of_lt (Nat.lt_of_lt_of_le E_la8_10.lt q))
  have ne_lb8_d'_12 : lb8 ≠ d'_12 := mb_12.elim (fun q => by rw [q]; exact ne_lb8_d'_10) (fun q => Nat.ne_of_lt (Nat.lt_of_lt_of_le V_lb8_10.lt q))
  have g_d'_12 : n0 ≤ d'_12 := mb_12.elim (fun q => by rw [q]; exact g_d'_10) (fun q => Nat.le_trans Z10 q)
  have wk_d'_12 : d'_12 ∈ [] ∨ h0.size ≤ d'_12 := mb_12.elim (fun q => by rw [q]; exact wk_d'_10) (fun q => Or.inr (Nat.le_trans K10.1 q))
  have S0_d'_12 : Safe Z consts_1 T8.vm T10.heap d'_12 := mb_12.elim (fun q => by rw [q]; exact S10_d'_10) (fun q => Safe.new q)
  have E_a1_12 := E_a1_10.keep Kc12
  have F_a1_lines_12 := F_a1_lines_10.keep Kc12 (ninS ne_a1_b1 (ninS ne_a1_d'_10 nin0))
  have F_a1_tornBytes_12 := F_a1_tornBytes_10.keep Kc12 (ninS ne_a1_b1 (ninS ne_a1_d'_10 nin0))
  have E_la3_12 := E_la3_10.keep Kc12
  have F_la3_coder_12 := F_la3_coder_10.keep Kc12 (ninS (Exa.ne E_la3_10 G10_0 (by decide)) (ninS ne_la3_d'_10 nin0))
  have F_la3_value_12 := F_la3_value_10.keep Kc12 (ninS (Exa.ne E_la3_10 G10_0 (by decide)) (ninS ne_la3_d'_10 nin0))
  have V_lb3_12 := V_lb3_10.keep Kc12 (ninS (Ne.symm (Exa.neArv G10_0 V_lb3_10.1 (hw _ (List.mem_of_getElem? (i := 26) rfl)))) (ninS ne_lb3_d'_10 nin0))
  have E_la8_12 := E_la8_10.keep Kc12
  have F_la8_coder_12 := F_la8_coder_10.keep Kc12 (ninS (Exa.ne E_la8_10 G10_0 (by decide)) (ninS ne_la8_d'_10 nin0))
  have F_la8_value_12 := F_la8_value_10.keep Kc12 (ninS (Exa.ne E_la8_10 G10_0 (by decide)) (ninS ne_la8_d'_10 nin0))
  have V_lb8_12 := V_lb8_10.keep Kc12 (ninS (Ne.symm (Exa.neArv G10_0 V_lb8_10.1 (hw _ (List.mem_of_getElem? (i := 26) rfl)))) (ninS ne_lb8_d'_10 nin0))
  have K12 : Keep h0 T12.heap [] := K10.trans Kc12 (allS (P := fun x => x ∈ ([] : List Addr) ∨ h0.size ≤ x) (Or.inr sz_b1) (allS (P := fun x => x ∈ ([] : List Addr) ∨ h0.size ≤ x) wk_d'_10 all0))
  have Z12 : n0 ≤ T12.heap.size := Nat.le_trans Z10 Kc12.1
  have O12 := Old.keep O10 Kc12 (allS g_b1 (allS g_d'_10 all0))
  have hs12 : ∀ x ∈ ([b1, d'_10] : List Addr), Safe Z consts_1 T8.vm T10.heap x := (sfS (Safe.exa hZ.alike G10_0 (by decide) (by decide)) (sfS S10_d'_10 sf0))
  have r12 := CHr.keep Kc12 hs12 R10.1
  have S12_d'_10 := Safe.keep Kc12 hs12 R10.1 S10_d'_10
  have S12_d'_12 := Safe.keep Kc12 hs12 R10.1 S0_d'_12
  have R12 := R10.trans r12
  have hk12 := Nat.le_trans hk10 Kc12.1
  have cq12 := cap2_or bs'_10.length ((((0 + litA.length) + (decB tn).length) + litB.length) + (decB ln.toInt64).length)
  rw [← len_12] at cq12
  obtain ⟨cq13, kq13, q13a, q13b, q13c⟩ := isOf hZ rfl G12_0
  obtain ⟨_, _, ⟨T13, L13, k13, n13⟩, -, X13, ⟨Lc13, hQ13, l13, y13, z13⟩, st13⟩ := X12.virtualBack hx (y := (⟨"java/lang/StringBuilder", "toString", "()Ljava/lang/String;"⟩ : MethodName)) (z := (⟨"java/lang/StringBuilder", "toString", "()Ljava/lang/String;"⟩ : MethodName)) hown (mvT hZ (hw _ (List.mem_of_getElem? (i := 169) rfl))) (mvT hZ (hw _ (List.mem_of_getElem? (i := 170) rfl))) (notFace_of_selects (args := #[]) (mvT hZ (hw _ (List.mem_of_getElem? (i := 172) rfl)))) (mvT hZ (hw _ (List.mem_of_getElem? (i := 172) rfl))) (mvT hZ (hw _ (List.mem_of_getElem? (i := 171) rfl))) (by decide) (backOf (W := 0) (rm29 l Z a0 hw [] b1  T12.heap n0 cs d'_12 k'_12 bs'_12 ((((0 + litA.length) + (decB tn).length) + litB.length) + (decB ln.toInt64).length) CS hcs O12 G12_0 G12_1 G12_2 G12_3 G12_4 (by omega) (by omega) Z12) hZ (hw _ (List.mem_of_getElem? (i := 173) rfl)) (hw _ (List.mem_of_getElem? (i := 27) rfl)) (by decide) (by decide)) q13a q13c (g := (mkF m 31 #[.val (.ref a1)] [(.ref b1)])) rfl (by rw [hml]; rfl) (Steps.refl _) (argsL := []) (rest := []) (lenOf pd30 rfl) rfl (by show 2 * 0 + _ ≤ _; exact Nat.le_of_eq rfl) (hb hby d4_31) (fun _ _ => ⟨rfl, rfl, (by decide : 10 + 2 ≤ _), (by decide : 712 + 146 ≤ _)⟩)
  dsimp only [Pt.U, Pt.locs, Pt.cells, Pt.slots] at X13 l13 y13 z13 st13 hQ13
  subst l13 y13 z13
  obtain ⟨s'_13, d'_13, k'_13, bs'_13, rfl, N13q, Kc13, G13_0, G13_1, G13_2, G13_3, eqb_13, f_s'_13, f_d'_13⟩ := hQ13
  have N13 := Fr.app N12 N13q
  have ne_a1_s'_13 : a1 ≠ s'_13 := Nat.ne_of_lt (Nat.lt_of_lt_of_le E_a1_12.lt f_s'_13)
  have ne_b1_s'_13 : b1 ≠ s'_13 := Nat.ne_of_lt (Nat.lt_of_lt_of_le G12_0.lt f_s'_13)
  have ne_la3_s'_13 : la3 ≠ s'_13 := Nat.ne_of_lt (Nat.lt_of_lt_of_le E_la3_12.lt f_s'_13)
  have ne_lb3_s'_13 : lb3 ≠ s'_13 := Nat.ne_of_lt (Nat.lt_of_lt_of_le V_lb3_12.lt f_s'_13)
  have ne_la8_s'_13 : la8 ≠ s'_13 := Nat.ne_of_lt (Nat.lt_of_lt_of_le E_la8_12.lt f_s'_13)
  have ne_lb8_s'_13 : lb8 ≠ s'_13 := Nat.ne_of_lt (Nat.lt_of_lt_of_le V_lb8_12.lt f_s'_13)
  have ne_d__12_s'_13 : d'_12 ≠ s'_13 := Nat.ne_of_lt (Nat.lt_of_lt_of_le G12_4.lt f_s'_13)
  have g_s'_13 : n0 ≤ s'_13 := Nat.le_trans Z12 f_s'_13
  have sz_s'_13 : h0.size ≤ s'_13 := Nat.le_trans K12.1 f_s'_13
  have ne_a1_d'_13 : a1 ≠ d'_13 := Nat.ne_of_lt (Nat.lt_of_lt_of_le E_a1_12.lt f_d'_13)
  have ne_b1_d'_13 : b1 ≠ d'_13 := Nat.ne_of_lt (Nat.lt_of_lt_of_le G12_0.lt f_d'_13)
  have ne_la3_d'_13 : la3 ≠ d'_13 := Nat.ne_of_lt (Nat.lt_of_lt_of_le E_la3_12.lt f_d'_13)
  have ne_lb3_d'_13 : lb3 ≠ d'_13 := Nat.ne_of_lt (Nat.lt_of_lt_of_le V_lb3_12.lt f_d'_13)
  have ne_la8_d'_13 : la8 ≠ d'_13 := Nat.ne_of_lt (Nat.lt_of_lt_of_le E_la8_12.lt f_d'_13)
  have ne_lb8_d'_13 : lb8 ≠ d'_13 := Nat.ne_of_lt (Nat.lt_of_lt_of_le V_lb8_12.lt f_d'_13)
  have ne_d__12_d'_13 : d'_12 ≠ d'_13 := Nat.ne_of_lt (Nat.lt_of_lt_of_le G12_4.lt f_d'_13)
  have g_d'_13 : n0 ≤ d'_13 := Nat.le_trans Z12 f_d'_13
  have sz_d'_13 : h0.size ≤ d'_13 := Nat.le_trans K12.1 f_d'_13
  have S0_s'_13 : Safe Z consts_1 T8.vm T12.heap s'_13 := Safe.new f_s'_13
  have S0_d'_13 : Safe Z consts_1 T8.vm T12.heap d'_13 := Safe.new f_d'_13
  have E_a1_13 := E_a1_12.keep Kc13
  have F_a1_lines_13 := F_a1_lines_12.keep Kc13 nin0
  have F_a1_tornBytes_13 := F_a1_tornBytes_12.keep Kc13 nin0
  have E_b1_13 := G12_0.keep Kc13
  have F_b1_value_13 := G12_1.keep Kc13 nin0
  have F_b1_coder_13 := G12_2.keep Kc13 nin0
  have F_b1_count_13 := G12_3.keep Kc13 nin0
  have E_la3_13 := E_la3_12.keep Kc13
  have F_la3_coder_13 := F_la3_coder_12.keep Kc13 nin0
  have F_la3_value_13 := F_la3_value_12.keep Kc13 nin0
  have V_lb3_13 := V_lb3_12.keep Kc13 nin0
  have E_la8_13 := E_la8_12.keep Kc13
  have F_la8_coder_13 := F_la8_coder_12.keep Kc13 nin0
  have F_la8_value_13 := F_la8_value_12.keep Kc13 nin0
  have V_lb8_13 := V_lb8_12.keep Kc13 nin0
  have V_d__12_13 := G12_4.keep Kc13 nin0
  have K13 : Keep h0 T13.heap [] := K12.trans Kc13 all0
  have Z13 : n0 ≤ T13.heap.size := Nat.le_trans Z12 Kc13.1
  have O13 := Old.keep O12 Kc13 all0
  have hs13 : ∀ x ∈ ([] : List Addr), Safe Z consts_1 T8.vm T12.heap x := sf0
  have r13 := CHr.keep Kc13 hs13 R12.1
  have S13_d'_12 := Safe.keep Kc13 hs13 R12.1 S12_d'_12
  have S13_s'_13 := Safe.keep Kc13 hs13 R12.1 S0_s'_13
  have S13_d'_13 := Safe.keep Kc13 hs13 R12.1 S0_d'_13
  have R13 := R12.trans r13
  have hk13 := Nat.le_trans hk12 Kc13.1
  refine hneg ?_
  have hR := R13.trans (CHv.at X13 hZ hEL R13.1)
  obtain ⟨fs, hr, hrun, hended, hW⟩ := X13.leaveW (v := some (.ref s'_13)) hS (by rw [show T13.heap = T13.heap from rfl]; exact hk13) (fun h => by rw [Bd.returns] at h; cases h)
  refine ⟨_, _, pre9 _ ?_, hrun, hended, _, _, rfl, ?_, ?_, rew_mono hW (by decide) (by decide)⟩
  · refine st8 _ ?_
    show Steps p.tables e below (T8.setTop (mkF m 21 #[.val (.ref a1)] [(.ref la8), (.ref b1)])) _
    refine st10.trans ?_
    show Steps p.tables e below (T10.setTop (mkF m 24 #[.val (.ref a1)] [(.ref b1)])) _
    refine XS.aloadN X10.here hx rfl (hb hby d4_24) rfl rfl ?_
    show Steps p.tables e below (T10.setTop (mkF m 25 #[.val (.ref a1)] [(.ref a1), (.ref b1)])) _
    refine st11 _ ?_
    show Steps p.tables e below (T11.setTop (mkF m 28 #[.val (.ref a1)] [(.int ln), (.ref b1)])) _
    refine st12.trans ?_
    show Steps p.tables e below (T12.setTop (mkF m 31 #[.val (.ref a1)] [(.ref b1)])) _
    refine st13.trans ?_
    show Steps p.tables e below (T13.setTop (mkF m 34 #[.val (.ref a1)] [(.ref s'_13)])) _
    exact retOut X13 hx (t := (.object "java/lang/String")) Bd.returns rfl (Or.inr (Or.inr (Or.inr (Or.inr ⟨rfl, rfl, rfl⟩)))) (hb hby d4_34) hr
  · show Q4 Z a1 cs ln tn h0 n0 _ T13.heap _
    refine ⟨_, _, _, _, rfl, N13, K13, G13_0, G13_1, G13_2, G13_3, ?_, sz_s'_13, sz_d'_13⟩
    rw [eqb_13, tk_12, tk_10, tk_7, tk_5, List.take_zero, List.nil_append]
  · show CHr Z consts_1 s.vm s.heap T13.vm T13.heap
    rw [hh, show T13.heap = T13.heap from rfl]; exact hR

theorem wN_le' : ∀ (f n : Nat), n < 10 ^ (2 * f + 1) → SBG.wN (f + 1) n ≤ 2 * f + 1
  | 0, n, h => by
    have e1 : SBG.wN 1 n = if 100 ≤ n then 2 + SBG.wN 0 (n / 100) else if 9 < n then 2 else 1 := rfl
    rw [e1, if_neg (by omega), if_neg (by omega)]; decide
  | f + 1, n, h => by
    have e1 : SBG.wN (f + 2) n = if 100 ≤ n then 2 + SBG.wN (f + 1) (n / 100) else if 9 < n then 2 else 1 := rfl
    have := wN_le' f (n / 100) (by rw [show 2 * (f + 1) + 1 = (2 * f + 1) + 1 + 1 by omega, Nat.pow_succ, Nat.pow_succ] at h; omega)
    rw [e1]; split
    · omega
    · split <;> omega
theorem dg_le (x : Int64) : dg (absL x) ≤ 19 := wN_le' 9 _ (by have := absL_le x; omega)
theorem dec_r {v : Int64} {kk : Nat} (h : kk < (decB v).length) : (v < 0 ∧ kk = 0) ∨ (decB v).length - 1 - kk < 19 := by
  have h1 := dg_le v
  rw [decB_len] at h ⊢
  unfold SBG.GetCharsL.sgnL at h ⊢
  unfold dg at h1
  split at h
  · rename_i hv
    by_cases hk : kk = 0
    · exact Or.inl ⟨hv, hk⟩
    · right; rw [if_pos hv]; omega
  · rename_i hv
    right; rw [if_neg hv]; omega
def expV (i : Nat) (ln : Int32) (tn : Int64) : Int32 := nar .char (if i < 11 then ((litA.getD i 0) &&& (255 : Int32)) else if i < 11 + (decB tn).length then digV tn (decB tn).length (i - 11) else if i < 29 + (decB tn).length then ((litB.getD (i - 11 - (decB tn).length) 0) &&& (255 : Int32)) else digV ln.toInt64 (decB ln.toInt64).length (i - 29 - (decB tn).length))

theorem d44_0 : decode method_3_code 0 = .ok (.ldc 37, 2) := by decide +kernel
theorem d44_2 : decode method_3_code 2 = .ok (.astore 6, 2) := by decide +kernel
theorem d44_4 : decode method_3_code 4 = .ok (.ldc 39, 2) := by decide +kernel
theorem d44_6 : decode method_3_code 6 = .ok (.astore 7, 2) := by decide +kernel
theorem d44_8 : decode method_3_code 8 = .ok (.iload_n 0, 1) := by decide +kernel
theorem d44_9 : decode method_3_code 9 = .ok (.bipush 11, 2) := by decide +kernel
theorem d44_11 : decode method_3_code 11 = .ok (.if_icmp .ge 10, 3) := by decide +kernel
theorem d44_14 : decode method_3_code 14 = .ok (.aload 6, 2) := by decide +kernel
theorem d44_16 : decode method_3_code 16 = .ok (.iload_n 0, 1) := by decide +kernel
theorem d44_17 : decode method_3_code 17 = .ok (.invokevirtual 29, 3) := by decide +kernel
theorem d44_20 : decode method_3_code 20 = .ok (.ireturn, 1) := by decide +kernel
theorem d44_21 : decode method_3_code 21 = .ok (.iload_n 0, 1) := by decide +kernel
theorem d44_22 : decode method_3_code 22 = .ok (.bipush 11, 2) := by decide +kernel
theorem d44_24 : decode method_3_code 24 = .ok (.iload 4, 2) := by decide +kernel
theorem d44_26 : decode method_3_code 26 = .ok (.iadd, 1) := by decide +kernel
theorem d44_27 : decode method_3_code 27 = .ok (.if_icmp .ge 14, 3) := by decide +kernel
theorem d44_30 : decode method_3_code 30 = .ok (.lload_n 2, 1) := by decide +kernel
theorem d44_31 : decode method_3_code 31 = .ok (.iload 4, 2) := by decide +kernel
theorem d44_33 : decode method_3_code 33 = .ok (.iload_n 0, 1) := by decide +kernel
theorem d44_34 : decode method_3_code 34 = .ok (.bipush 11, 2) := by decide +kernel
theorem d44_36 : decode method_3_code 36 = .ok (.isub, 1) := by decide +kernel
theorem d44_37 : decode method_3_code 37 = .ok (.invokestatic 41, 3) := by decide +kernel
theorem d44_40 : decode method_3_code 40 = .ok (.ireturn, 1) := by decide +kernel
theorem d44_41 : decode method_3_code 41 = .ok (.iload_n 0, 1) := by decide +kernel
theorem d44_42 : decode method_3_code 42 = .ok (.bipush 29, 2) := by decide +kernel
theorem d44_44 : decode method_3_code 44 = .ok (.iload 4, 2) := by decide +kernel
theorem d44_46 : decode method_3_code 46 = .ok (.iadd, 1) := by decide +kernel
theorem d44_47 : decode method_3_code 47 = .ok (.if_icmp .ge 16, 3) := by decide +kernel
theorem d44_50 : decode method_3_code 50 = .ok (.aload 7, 2) := by decide +kernel
theorem d44_52 : decode method_3_code 52 = .ok (.iload_n 0, 1) := by decide +kernel
theorem d44_53 : decode method_3_code 53 = .ok (.bipush 11, 2) := by decide +kernel
theorem d44_55 : decode method_3_code 55 = .ok (.isub, 1) := by decide +kernel
theorem d44_56 : decode method_3_code 56 = .ok (.iload 4, 2) := by decide +kernel
theorem d44_58 : decode method_3_code 58 = .ok (.isub, 1) := by decide +kernel
theorem d44_59 : decode method_3_code 59 = .ok (.invokevirtual 29, 3) := by decide +kernel
theorem d44_62 : decode method_3_code 62 = .ok (.ireturn, 1) := by decide +kernel
theorem d44_63 : decode method_3_code 63 = .ok (.iload_n 1, 1) := by decide +kernel
theorem d44_64 : decode method_3_code 64 = .ok (.i2l, 1) := by decide +kernel
theorem d44_65 : decode method_3_code 65 = .ok (.iload 5, 2) := by decide +kernel
theorem d44_67 : decode method_3_code 67 = .ok (.iload_n 0, 1) := by decide +kernel
theorem d44_68 : decode method_3_code 68 = .ok (.bipush 29, 2) := by decide +kernel
theorem d44_70 : decode method_3_code 70 = .ok (.isub, 1) := by decide +kernel
theorem d44_71 : decode method_3_code 71 = .ok (.iload 4, 2) := by decide +kernel
theorem d44_73 : decode method_3_code 73 = .ok (.isub, 1) := by decide +kernel
theorem d44_74 : decode method_3_code 74 = .ok (.invokestatic 41, 3) := by decide +kernel
theorem d44_77 : decode method_3_code 77 = .ok (.ireturn, 1) := by decide +kernel
theorem pn_44 : plainName "com/example/tranche/tranche/journal/JournalEndTornTailPinLaw" = true := by first | (simp [plainName, overriddenIn]; done) | decide +kernel
theorem ef_44 (m : MethodId) (zf0 : Int32) (p2 : Int32) (q3 : Int64) (zf3 : Int32) (zf4 : Int32) : entryFrame m #[(.int zf0), (.int p2), (.long q3), (.int zf3), (.int zf4)] 8 = mkF m 0 #[.val (.int zf0), .val (.int p2), .val (.long q3), .second, .val (.int zf3), .val (.int zf4), .unset, .unset] [] := by first | (simp [entryFrame, mkF, argsToLocals, Value.category]; done) | rfl
def Q44 (Z : State) (p2 : Int32) (q3 : Int64) (cs : Int32) (i : Nat) (fv : Value) (h0 : Heap) (n0 : Nat) (v : Option Value) (h : Heap) (L : List Loc) : Prop := v = some (.int (expV i p2 q3)) ∧ Fr n0 L ∧ Keep h0 h []
set_option maxRecDepth 65536 in
set_option maxHeartbeats 40000000 in
theorem rm44 (l : Launch) (Z : State) (a0 : Array Value) (hw : ∀ d ∈ tables_1, d.before a0 Z = true) (ws : List Jvm.Cond) (p2 : Int32) (q3 : Int64) (h0 : Heap) (n0 : Nat) (cs : Int32) (i : Nat) (fv : Value) (CS : Sta Z Z.heap "java/lang/String" "COMPACT_STRINGS" "Z" (.int cs)) (hcs : ¬ cs = 0) (O0 : Old Z n0 h0) (hi29 : i < 29 + (decB q3).length + (decB p2.toInt64).length) (lT : (decB q3).length ≤ 21) (lL : (decB p2.toInt64).length ≤ 21) (FS : Sta Z Z.heap "jdk/internal/util/Preconditions" "SIOOBE_FORMATTER" "Ljava/util/function/BiFunction;" fv) (hfv : fv = .null ∨ ∃ a, fv = .ref a) (Z0 : n0 ≤ h0.size) :
    MetFree l (⟨"com/example/tranche/tranche/journal/JournalEndTornTailPinLaw", "expectedAt", "(IIJII)C"⟩ : MethodName) (head1 (Jvm.Cond.code (⟨"com/example/tranche/tranche/journal/JournalEndTornTailPinLaw", "expectedAt", "(IIJII)C"⟩ : MethodName) method_3_code 8 (some .char) :: ws) ({ frames := 4, cells := 5, slots := 143, locals := 53 } : Room)) (fun a U => a = #[(.int (Int32.ofNat i)), (.int p2), (.long q3), (.int (Int32.ofNat (decB q3).length)), (.int (Int32.ofNat (decB p2.toInt64).length))] ∧ Z.Warmed39 U.vm ∧ U.heap = h0 ∧ CHv Z consts_1 U.vm h0) (fun _ _ _ _ _ => True) (fun _ U o U' => ∃ v L, o = .returned v ∧ Q44 Z p2 q3 cs i fv h0 n0 v U'.heap L ∧ CHr Z consts_1 U.vm U.heap U'.vm U'.heap ∧ ReturnedEndW U o U' L ({ frames := 4, cells := 5, slots := 143, locals := 53 } : Room).cells ({ frames := 4, cells := 5, slots := 143, locals := 53 } : Room).slots) := by
  refine MetFree.of_bodySF (plainFor_of_name pn_44) hisR ?_
  intro p e s m args below meth c s₁ Bd hml0 hP hK
  obtain ⟨rfl, hZ, hh, hCH⟩ := hP
  have hx := Bd.exec
  have hby := Bd.bytes
  have hml : c.maxLocals = 8 := hml0
  have hown0 := findClass_of_methodNamed Bd.named
  have hown : s.vm.findClass "com/example/tranche/tranche/journal/JournalEndTornTailPinLaw" = some m.cls := hown0
  have hnm := (name_of_methodNamed Bd.named Bd.method).1
  have X0 : Stand p l e ({ frames := 4, cells := 5, slots := 143, locals := 53 } : Room) (s.setVm s.vm) m #[(.int (Int32.ofNat i)), (.int p2), (.long q3), (.int (Int32.ofNat (decB q3).length)), (.int (Int32.ofNat (decB p2.toInt64).length))] below meth c s₁ [] 0 0 := Stand.of_body Bd
  have hS : s.Since s.vm 0 := State.WarmedH.since (State.WarmedH.refl s) 0
  have hk0 : 0 ≤ h0.size := Nat.zero_le _
  have R0 : CHr Z consts_1 s.vm h0 s.vm h0 := CHr.refl hCH
  have hEL := ew_1 (Z := Z) (a0 := a0) hw
  have wS := sa_1 (Z := Z) (a0 := a0) hw
  have e0 : s₁.heap = h0 := by rw [← hh, Bd.state]; rfl
  have N0 := Fr.nil n0
  have pre0 : ∀ t, Steps p.tables e below (s₁.setTop (mkF m 0 #[.val (.int (Int32.ofNat i)), .val (.int p2), .val (.long q3), .second, .val (.int (Int32.ofNat (decB q3).length)), .val (.int (Int32.ofNat (decB p2.toInt64).length)), .unset, .unset] [])) t → Steps p.tables e below (s₁.setTop (entryFrame m #[(.int (Int32.ofNat i)), (.int p2), (.long q3), (.int (Int32.ofNat (decB q3).length)), (.int (Int32.ofNat (decB p2.toInt64).length))] 8)) t := fun t k => castTop (ef_44 m ((Int32.ofNat i)) p2 q3 ((Int32.ofNat (decB q3).length)) ((Int32.ofNat (decB p2.toInt64).length))) k
  refine Classical.byContradiction fun hneg => ?_
  obtain ⟨la1, T1, h1, kk1, lb1, lk1, X1, e1, E1, hS, hk1, hZ, hown, Le1, Lc1, Lv1, La1, -, -, r1, -, hne1, st1⟩ := ldcCH X0 hx hZ hown (hw _ (List.mem_of_getElem? (i := 255) rfl)) wS e0 hS hk0 hEL (List.mem_of_getElem? (i := 2) rfl) R0.1 (vs := litA.map Value.int) (z := Int32.ofNat litA.length) (by decide) (by decide) (by decide) (g := (mkF m 0 #[.val (.int (Int32.ofNat i)), .val (.int p2), .val (.long q3), .second, .val (.int (Int32.ofNat (decB q3).length)), .val (.int (Int32.ofNat (decB p2.toInt64).length)), .unset, .unset] [])) rfl (hb hby d44_0) (n := 44) (by decide) (by decide) (by decide) (by decide)
  have R1 := R0.trans r1
  have K1 : Keep h0 h1 [] := (Keep.refl h0 []).ext E1
  have Z1 : n0 ≤ h1.size := Nat.le_trans Z0 E1.1
  have O1 := Old.ext O0 E1
  have LV1 : B0 Z h1 lb1 lk1 litA := ⟨La1, by decide, trivial⟩
  have pre3 : ∀ t, Steps p.tables e below (T1.setTop (mkF m 4 #[.val (.int (Int32.ofNat i)), .val (.int p2), .val (.long q3), .second, .val (.int (Int32.ofNat (decB q3).length)), .val (.int (Int32.ofNat (decB p2.toInt64).length)), .val (.ref la1), .unset] [])) t → Steps p.tables e below (s₁.setTop (entryFrame m #[(.int (Int32.ofNat i)), (.int p2), (.long q3), (.int (Int32.ofNat (decB q3).length)), (.int (Int32.ofNat (decB p2.toInt64).length))] 8)) t := by
    intro t k
    refine pre0 t ?_
    refine st1 _ ?_
    show Steps p.tables e below (T1.setTop (mkF m 2 #[.val (.int (Int32.ofNat i)), .val (.int p2), .val (.long q3), .second, .val (.int (Int32.ofNat (decB q3).length)), .val (.int (Int32.ofNat (decB p2.toInt64).length)), .unset, .unset] [(.ref la1)])) _
    refine XS.astore X1.here hx rfl (hb hby d44_2) rfl rfl (l' := #[.val (.int (Int32.ofNat i)), .val (.int p2), .val (.long q3), .second, .val (.int (Int32.ofNat (decB q3).length)), .val (.int (Int32.ofNat (decB p2.toInt64).length)), .val (.ref la1), .unset]) rfl ?_
    exact k
  obtain ⟨la2, T2, h2, kk2, lb2, lk2, X2, e2, E2, hS, hk2, hZ, hown, Le2, Lc2, Lv2, La2, -, -, r2, -, hne2, st2⟩ := ldcCH X1 hx hZ hown (hw _ (List.mem_of_getElem? (i := 256) rfl)) wS e1 hS hk1 hEL (List.mem_of_getElem? (i := 3) rfl) R1.1 (vs := litB.map Value.int) (z := Int32.ofNat litB.length) (by decide) (by decide) (by decide) (g := (mkF m 4 #[.val (.int (Int32.ofNat i)), .val (.int p2), .val (.long q3), .second, .val (.int (Int32.ofNat (decB q3).length)), .val (.int (Int32.ofNat (decB p2.toInt64).length)), .val (.ref la1), .unset] [])) rfl (hb hby d44_4) (n := 72) (by decide) (by decide) (by decide) (by decide)
  have E_la1_2 := Le1.ext E2
  have F_la1_coder_2 := Lc1.ext E2
  have F_la1_value_2 := Lv1.ext E2
  have V_lb1_2 := LV1.ext E2
  have R2 := R1.trans r2
  have K2 : Keep h0 h2 [] := K1.ext E2
  have Z2 : n0 ≤ h2.size := Nat.le_trans Z1 E2.1
  have O2 := Old.ext O1 E2
  have LV2 : B0 Z h2 lb2 lk2 litB := ⟨La2, by decide, trivial⟩
  have pre4 : ∀ t, Steps p.tables e below (T2.setTop (mkF m 8 #[.val (.int (Int32.ofNat i)), .val (.int p2), .val (.long q3), .second, .val (.int (Int32.ofNat (decB q3).length)), .val (.int (Int32.ofNat (decB p2.toInt64).length)), .val (.ref la1), .val (.ref la2)] [])) t → Steps p.tables e below (s₁.setTop (entryFrame m #[(.int (Int32.ofNat i)), (.int p2), (.long q3), (.int (Int32.ofNat (decB q3).length)), (.int (Int32.ofNat (decB p2.toInt64).length))] 8)) t := by
    intro t k
    refine pre3 t ?_
    refine st2 _ ?_
    show Steps p.tables e below (T2.setTop (mkF m 6 #[.val (.int (Int32.ofNat i)), .val (.int p2), .val (.long q3), .second, .val (.int (Int32.ofNat (decB q3).length)), .val (.int (Int32.ofNat (decB p2.toInt64).length)), .val (.ref la1), .unset] [(.ref la2)])) _
    refine XS.astore X2.here hx rfl (hb hby d44_6) rfl rfl (l' := #[.val (.int (Int32.ofNat i)), .val (.int p2), .val (.long q3), .second, .val (.int (Int32.ofNat (decB q3).length)), .val (.int (Int32.ofNat (decB p2.toInt64).length)), .val (.ref la1), .val (.ref la2)]) rfl ?_
    exact k
  by_cases ha : i < 11
  · have hi : i < litA.length := by rw [litA_len]; exact ha
    obtain ⟨cq5, kq5, q5a, q5b, q5c⟩ := isOf hZ e2 E_la1_2
    obtain ⟨_, _, ⟨T5, L5, k5, n5⟩, -, X5, ⟨Lc5, hQ5, l5, y5, z5⟩, st5⟩ := X2.virtualBack hx (y := (⟨"java/lang/String", "charAt", "(I)C"⟩ : MethodName)) (z := (⟨"java/lang/String", "charAt", "(I)C"⟩ : MethodName)) hown (mvT hZ (hw _ (List.mem_of_getElem? (i := 230) rfl))) (mvT hZ (hw _ (List.mem_of_getElem? (i := 231) rfl))) (notFace_of_selects (args := #[]) (mvT hZ (hw _ (List.mem_of_getElem? (i := 233) rfl)))) (mvT hZ (hw _ (List.mem_of_getElem? (i := 233) rfl))) (mvT hZ (hw _ (List.mem_of_getElem? (i := 232) rfl))) (by decide) (backOf (W := 0) (rm39 l Z a0 hw [] la1  h2 n0 cs lb1 lk1 litA (i) fv CS hcs O2 E_la1_2 F_la1_coder_2 F_la1_value_2 V_lb1_2 hi FS hfv) hZ (hw _ (List.mem_of_getElem? (i := 234) rfl)) (hw _ (List.mem_of_getElem? (i := 39) rfl)) (by decide) (by decide)) q5a q5c (g := (mkF m 17 #[.val (.int (Int32.ofNat i)), .val (.int p2), .val (.long q3), .second, .val (.int (Int32.ofNat (decB q3).length)), .val (.int (Int32.ofNat (decB p2.toInt64).length)), .val (.ref la1), .val (.ref la2)] [(.int (Int32.ofNat i)), (.ref la1)])) rfl (by rw [hml]; rfl) (Steps.refl _) (argsL := [(.int (Int32.ofNat i))]) (rest := []) (lenOf pd31 rfl) rfl (by show 2 * 0 + _ ≤ _; exact Nat.le_of_eq rfl) (hb hby d44_17) (fun _ _ => ⟨rfl, e2, (by decide : 4 + 0 ≤ _), (by decide : 124 + 0 ≤ _)⟩)
    dsimp only [Pt.U, Pt.locs, Pt.cells, Pt.slots] at X5 l5 y5 z5 st5 hQ5
    subst l5 y5 z5
    obtain ⟨rfl, N5q, e5⟩ := hQ5
    have N5 := Fr.app N0 N5q
    refine hneg ?_
    have hR := R2.trans (CHv.at X5 hZ hEL R2.1)
    obtain ⟨fs, hr, hrun, hended, hW⟩ := X5.leaveW (v := some (.int (nar .char ((litA.getD i 0) &&& (255 : Int32))))) hS (by rw [show T5.heap = h2 from e5]; exact hk2) (fun h => by rw [Bd.returns] at h; cases h)
    refine ⟨_, _, pre4 _ ?_, hrun, hended, _, _, rfl, ?_, ?_, rew_mono hW (by decide) (by decide)⟩
    · show Steps p.tables e below (T2.setTop (mkF m 8 #[.val (.int (Int32.ofNat i)), .val (.int p2), .val (.long q3), .second, .val (.int (Int32.ofNat (decB q3).length)), .val (.int (Int32.ofNat (decB p2.toInt64).length)), .val (.ref la1), .val (.ref la2)] [])) _
      refine XS.iloadN X2.here hx rfl (hb hby d44_8) rfl ?_
      show Steps p.tables e below (T2.setTop (mkF m 9 #[.val (.int (Int32.ofNat i)), .val (.int p2), .val (.long q3), .second, .val (.int (Int32.ofNat (decB q3).length)), .val (.int (Int32.ofNat (decB p2.toInt64).length)), .val (.ref la1), .val (.ref la2)] [(.int (Int32.ofNat i))])) _
      refine XS.bipush X2.here hx rfl (hb hby d44_9) ?_
      show Steps p.tables e below (T2.setTop (mkF m 11 #[.val (.int (Int32.ofNat i)), .val (.int p2), .val (.long q3), .second, .val (.int (Int32.ofNat (decB q3).length)), .val (.int (Int32.ofNat (decB p2.toInt64).length)), .val (.ref la1), .val (.ref la2)] [(.int (11 : Int32)), (.int (Int32.ofNat i))])) _
      refine XS.icmpNo X2.here hx rfl (hb hby d44_11) rfl (tlt ((ofN_lt (b := 11) (by omega) (by omega)).mpr ha)).2.1 ?_
      show Steps p.tables e below (T2.setTop (mkF m 14 #[.val (.int (Int32.ofNat i)), .val (.int p2), .val (.long q3), .second, .val (.int (Int32.ofNat (decB q3).length)), .val (.int (Int32.ofNat (decB p2.toInt64).length)), .val (.ref la1), .val (.ref la2)] [])) _
      refine XS.aload X2.here hx rfl (hb hby d44_14) rfl rfl ?_
      show Steps p.tables e below (T2.setTop (mkF m 16 #[.val (.int (Int32.ofNat i)), .val (.int p2), .val (.long q3), .second, .val (.int (Int32.ofNat (decB q3).length)), .val (.int (Int32.ofNat (decB p2.toInt64).length)), .val (.ref la1), .val (.ref la2)] [(.ref la1)])) _
      refine XS.iloadN X2.here hx rfl (hb hby d44_16) rfl ?_
      show Steps p.tables e below (T2.setTop (mkF m 17 #[.val (.int (Int32.ofNat i)), .val (.int p2), .val (.long q3), .second, .val (.int (Int32.ofNat (decB q3).length)), .val (.int (Int32.ofNat (decB p2.toInt64).length)), .val (.ref la1), .val (.ref la2)] [(.int (Int32.ofNat i)), (.ref la1)])) _
      refine st5.trans ?_
      show Steps p.tables e below (T5.setTop (mkF m 20 #[.val (.int (Int32.ofNat i)), .val (.int p2), .val (.long q3), .second, .val (.int (Int32.ofNat (decB q3).length)), .val (.int (Int32.ofNat (decB p2.toInt64).length)), .val (.ref la1), .val (.ref la2)] [(.int ((litA.getD i 0) &&& (255 : Int32)))])) _
      exact retN X5 hx (t := .char) Bd.returns (by simp) (hb hby d44_20) hr
    · show Q44 Z p2 q3 cs i fv h0 n0 _ T5.heap _
      rw [e5]
      refine ⟨?_, N5, K2⟩
      rw [show expV i p2 q3 = (nar .char ((litA.getD i 0) &&& (255 : Int32))) from by unfold expV; rw [if_pos ha]]
    · show CHr Z consts_1 s.vm s.heap T5.vm T5.heap
      rw [hh, show T5.heap = h2 from e5]; exact hR
  · have pre6 : ∀ t, Steps p.tables e below (T2.setTop (mkF m 21 #[.val (.int (Int32.ofNat i)), .val (.int p2), .val (.long q3), .second, .val (.int (Int32.ofNat (decB q3).length)), .val (.int (Int32.ofNat (decB p2.toInt64).length)), .val (.ref la1), .val (.ref la2)] [])) t → Steps p.tables e below (s₁.setTop (entryFrame m #[(.int (Int32.ofNat i)), (.int p2), (.long q3), (.int (Int32.ofNat (decB q3).length)), (.int (Int32.ofNat (decB p2.toInt64).length))] 8)) t := by
      intro t k
      refine pre4 t ?_
      show Steps p.tables e below (T2.setTop (mkF m 8 #[.val (.int (Int32.ofNat i)), .val (.int p2), .val (.long q3), .second, .val (.int (Int32.ofNat (decB q3).length)), .val (.int (Int32.ofNat (decB p2.toInt64).length)), .val (.ref la1), .val (.ref la2)] [])) _
      refine XS.iloadN X2.here hx rfl (hb hby d44_8) rfl ?_
      show Steps p.tables e below (T2.setTop (mkF m 9 #[.val (.int (Int32.ofNat i)), .val (.int p2), .val (.long q3), .second, .val (.int (Int32.ofNat (decB q3).length)), .val (.int (Int32.ofNat (decB p2.toInt64).length)), .val (.ref la1), .val (.ref la2)] [(.int (Int32.ofNat i))])) _
      refine XS.bipush X2.here hx rfl (hb hby d44_9) ?_
      show Steps p.tables e below (T2.setTop (mkF m 11 #[.val (.int (Int32.ofNat i)), .val (.int p2), .val (.long q3), .second, .val (.int (Int32.ofNat (decB q3).length)), .val (.int (Int32.ofNat (decB p2.toInt64).length)), .val (.ref la1), .val (.ref la2)] [(.int (11 : Int32)), (.int (Int32.ofNat i))])) _
      refine XS.icmpYes X2.here hx rfl (pc0 := 11) (pc' := 21) rfl (hb hby d44_11) rfl (flt (fun z => ha ((ofN_lt (b := 11) (by omega) (by omega)).mp z))).2.1 (by decide) (by decide) ?_
      exact k
    by_cases hb1 : i < 11 + (decB q3).length
    · have nq7 : ((11 : Int32) + (Int32.ofNat (decB q3).length)) = (Int32.ofNat (11 + (decB q3).length)) := ofN_add 11 _
      have nq8 : ((Int32.ofNat i) - (11 : Int32)) = (Int32.ofNat (i - 11)) := ofN_sub (b := 11) (by omega)
      obtain ⟨_, _, ⟨T9, L9, k9, n9⟩, -, X9, ⟨Lc9, hQ9, l9, y9, z9⟩, st9⟩ := Jvm.LawKit.callS X2 hx (y := (⟨"com/example/tranche/tranche/journal/JournalEndTornTailPinLaw", "digitChar", "(JII)C"⟩ : MethodName)) hown (mvT hZ (hw _ (List.mem_of_getElem? (i := 258) rfl))) (mvT hZ (hw _ (List.mem_of_getElem? (i := 259) rfl))) (mvT hZ (hw _ (List.mem_of_getElem? (i := 208) rfl))) (mvT hZ (hw _ (List.mem_of_getElem? (i := 260) rfl))) (by decide) (backOf (W := 0) (rm45 l Z a0 hw [] q3  h2 n0 (decB q3).length (i - 11) (by omega) (by omega) (dec_r (by omega)) Z2) hZ (hw _ (List.mem_of_getElem? (i := 260) rfl)) (hw _ (List.mem_of_getElem? (i := 208) rfl)) (by decide) (by decide)) (g := (mkF m 37 #[.val (.int (Int32.ofNat i)), .val (.int p2), .val (.long q3), .second, .val (.int (Int32.ofNat (decB q3).length)), .val (.int (Int32.ofNat (decB p2.toInt64).length)), .val (.ref la1), .val (.ref la2)] [(.int (Int32.ofNat (i - 11))), (.int (Int32.ofNat (decB q3).length)), (.long q3)])) rfl (by rw [hml]; rfl) (argsL := [(.long q3), (.int (Int32.ofNat (decB q3).length)), (.int (Int32.ofNat (i - 11)))]) (rest := []) (lenOf pd32 rfl) rfl (by show 2 * 0 + _ ≤ _; exact Nat.le_of_eq rfl) (hb hby d44_37) (fun _ _ => ⟨rfl, e2, (by decide : 4 + 1 ≤ _), (by decide : 124 + 19 ≤ _)⟩)
      dsimp only [Pt.U, Pt.locs, Pt.cells, Pt.slots] at X9 l9 y9 z9 st9 hQ9
      subst l9 y9 z9
      obtain ⟨rfl, N9q, Kc9⟩ := hQ9
      have N9 := Fr.app N0 N9q
      have E_la1_9 := E_la1_2.keep Kc9
      have F_la1_coder_9 := F_la1_coder_2.keep Kc9 nin0
      have F_la1_value_9 := F_la1_value_2.keep Kc9 nin0
      have V_lb1_9 := V_lb1_2.keep Kc9 nin0
      have E_la2_9 := Le2.keep Kc9
      have F_la2_coder_9 := Lc2.keep Kc9 nin0
      have F_la2_value_9 := Lv2.keep Kc9 nin0
      have V_lb2_9 := LV2.keep Kc9 nin0
      have K9 : Keep h0 T9.heap [] := K2.trans Kc9 all0
      have Z9 : n0 ≤ T9.heap.size := Nat.le_trans Z2 Kc9.1
      have O9 := Old.keep O2 Kc9 all0
      have hs9 : ∀ x ∈ ([] : List Addr), Safe Z consts_1 T2.vm h2 x := sf0
      have r9 := CHr.keep Kc9 hs9 R2.1
      have R9 := R2.trans r9
      have hk9 := Nat.le_trans hk2 Kc9.1
      refine hneg ?_
      have hR := R9.trans (CHv.at X9 hZ hEL R9.1)
      obtain ⟨fs, hr, hrun, hended, hW⟩ := X9.leaveW (v := some (.int (nar .char (digV q3 (decB q3).length (i - 11))))) hS (by rw [show T9.heap = T9.heap from rfl]; exact hk9) (fun h => by rw [Bd.returns] at h; cases h)
      refine ⟨_, _, pre6 _ ?_, hrun, hended, _, _, rfl, ?_, ?_, rew_mono hW (by decide) (by decide)⟩
      · show Steps p.tables e below (T2.setTop (mkF m 21 #[.val (.int (Int32.ofNat i)), .val (.int p2), .val (.long q3), .second, .val (.int (Int32.ofNat (decB q3).length)), .val (.int (Int32.ofNat (decB p2.toInt64).length)), .val (.ref la1), .val (.ref la2)] [])) _
        refine XS.iloadN X2.here hx rfl (hb hby d44_21) rfl ?_
        show Steps p.tables e below (T2.setTop (mkF m 22 #[.val (.int (Int32.ofNat i)), .val (.int p2), .val (.long q3), .second, .val (.int (Int32.ofNat (decB q3).length)), .val (.int (Int32.ofNat (decB p2.toInt64).length)), .val (.ref la1), .val (.ref la2)] [(.int (Int32.ofNat i))])) _
        refine XS.bipush X2.here hx rfl (hb hby d44_22) ?_
        show Steps p.tables e below (T2.setTop (mkF m 24 #[.val (.int (Int32.ofNat i)), .val (.int p2), .val (.long q3), .second, .val (.int (Int32.ofNat (decB q3).length)), .val (.int (Int32.ofNat (decB p2.toInt64).length)), .val (.ref la1), .val (.ref la2)] [(.int (11 : Int32)), (.int (Int32.ofNat i))])) _
        refine XS.iload X2.here hx rfl (hb hby d44_24) rfl ?_
        show Steps p.tables e below (T2.setTop (mkF m 26 #[.val (.int (Int32.ofNat i)), .val (.int p2), .val (.long q3), .second, .val (.int (Int32.ofNat (decB q3).length)), .val (.int (Int32.ofNat (decB p2.toInt64).length)), .val (.ref la1), .val (.ref la2)] [(.int (Int32.ofNat (decB q3).length)), (.int (11 : Int32)), (.int (Int32.ofNat i))])) _
        refine XS.iadd X2.here hx rfl (hb hby d44_26) rfl ?_
        show Steps p.tables e below (T2.setTop (mkF m 27 #[.val (.int (Int32.ofNat i)), .val (.int p2), .val (.long q3), .second, .val (.int (Int32.ofNat (decB q3).length)), .val (.int (Int32.ofNat (decB p2.toInt64).length)), .val (.ref la1), .val (.ref la2)] [(.int ((11 : Int32) + (Int32.ofNat (decB q3).length))), (.int (Int32.ofNat i))])) _
        rw [nq7]
        show Steps p.tables e below (T2.setTop (mkF m 27 #[.val (.int (Int32.ofNat i)), .val (.int p2), .val (.long q3), .second, .val (.int (Int32.ofNat (decB q3).length)), .val (.int (Int32.ofNat (decB p2.toInt64).length)), .val (.ref la1), .val (.ref la2)] [(.int (Int32.ofNat (11 + (decB q3).length))), (.int (Int32.ofNat i))])) _
        refine XS.icmpNo X2.here hx rfl (hb hby d44_27) rfl (tlt ((ofN_lt (b := 11 + (decB q3).length) (by omega) (by omega)).mpr hb1)).2.1 ?_
        show Steps p.tables e below (T2.setTop (mkF m 30 #[.val (.int (Int32.ofNat i)), .val (.int p2), .val (.long q3), .second, .val (.int (Int32.ofNat (decB q3).length)), .val (.int (Int32.ofNat (decB p2.toInt64).length)), .val (.ref la1), .val (.ref la2)] [])) _
        refine XS.lloadN X2.here hx rfl (hb hby d44_30) rfl ?_
        show Steps p.tables e below (T2.setTop (mkF m 31 #[.val (.int (Int32.ofNat i)), .val (.int p2), .val (.long q3), .second, .val (.int (Int32.ofNat (decB q3).length)), .val (.int (Int32.ofNat (decB p2.toInt64).length)), .val (.ref la1), .val (.ref la2)] [(.long q3)])) _
        refine XS.iload X2.here hx rfl (hb hby d44_31) rfl ?_
        show Steps p.tables e below (T2.setTop (mkF m 33 #[.val (.int (Int32.ofNat i)), .val (.int p2), .val (.long q3), .second, .val (.int (Int32.ofNat (decB q3).length)), .val (.int (Int32.ofNat (decB p2.toInt64).length)), .val (.ref la1), .val (.ref la2)] [(.int (Int32.ofNat (decB q3).length)), (.long q3)])) _
        refine XS.iloadN X2.here hx rfl (hb hby d44_33) rfl ?_
        show Steps p.tables e below (T2.setTop (mkF m 34 #[.val (.int (Int32.ofNat i)), .val (.int p2), .val (.long q3), .second, .val (.int (Int32.ofNat (decB q3).length)), .val (.int (Int32.ofNat (decB p2.toInt64).length)), .val (.ref la1), .val (.ref la2)] [(.int (Int32.ofNat i)), (.int (Int32.ofNat (decB q3).length)), (.long q3)])) _
        refine XS.bipush X2.here hx rfl (hb hby d44_34) ?_
        show Steps p.tables e below (T2.setTop (mkF m 36 #[.val (.int (Int32.ofNat i)), .val (.int p2), .val (.long q3), .second, .val (.int (Int32.ofNat (decB q3).length)), .val (.int (Int32.ofNat (decB p2.toInt64).length)), .val (.ref la1), .val (.ref la2)] [(.int (11 : Int32)), (.int (Int32.ofNat i)), (.int (Int32.ofNat (decB q3).length)), (.long q3)])) _
        refine XS.isub X2.here hx rfl (hb hby d44_36) rfl ?_
        show Steps p.tables e below (T2.setTop (mkF m 37 #[.val (.int (Int32.ofNat i)), .val (.int p2), .val (.long q3), .second, .val (.int (Int32.ofNat (decB q3).length)), .val (.int (Int32.ofNat (decB p2.toInt64).length)), .val (.ref la1), .val (.ref la2)] [(.int ((Int32.ofNat i) - (11 : Int32))), (.int (Int32.ofNat (decB q3).length)), (.long q3)])) _
        rw [nq8]
        show Steps p.tables e below (T2.setTop (mkF m 37 #[.val (.int (Int32.ofNat i)), .val (.int p2), .val (.long q3), .second, .val (.int (Int32.ofNat (decB q3).length)), .val (.int (Int32.ofNat (decB p2.toInt64).length)), .val (.ref la1), .val (.ref la2)] [(.int (Int32.ofNat (i - 11))), (.int (Int32.ofNat (decB q3).length)), (.long q3)])) _
        refine st9 _ ?_
        show Steps p.tables e below (T9.setTop (mkF m 40 #[.val (.int (Int32.ofNat i)), .val (.int p2), .val (.long q3), .second, .val (.int (Int32.ofNat (decB q3).length)), .val (.int (Int32.ofNat (decB p2.toInt64).length)), .val (.ref la1), .val (.ref la2)] [(.int (digV q3 (decB q3).length (i - 11)))])) _
        exact retN X9 hx (t := .char) Bd.returns (by simp) (hb hby d44_40) hr
      · show Q44 Z p2 q3 cs i fv h0 n0 _ T9.heap _
        refine ⟨?_, N9, K9⟩
        rw [show expV i p2 q3 = (nar .char (digV q3 (decB q3).length (i - 11))) from by unfold expV; rw [if_neg ha, if_pos hb1]]
      · show CHr Z consts_1 s.vm s.heap T9.vm T9.heap
        rw [hh, show T9.heap = T9.heap from rfl]; exact hR
    · have nq10 : ((11 : Int32) + (Int32.ofNat (decB q3).length)) = (Int32.ofNat (11 + (decB q3).length)) := ofN_add 11 _
      have pre11 : ∀ t, Steps p.tables e below (T2.setTop (mkF m 41 #[.val (.int (Int32.ofNat i)), .val (.int p2), .val (.long q3), .second, .val (.int (Int32.ofNat (decB q3).length)), .val (.int (Int32.ofNat (decB p2.toInt64).length)), .val (.ref la1), .val (.ref la2)] [])) t → Steps p.tables e below (s₁.setTop (entryFrame m #[(.int (Int32.ofNat i)), (.int p2), (.long q3), (.int (Int32.ofNat (decB q3).length)), (.int (Int32.ofNat (decB p2.toInt64).length))] 8)) t := by
        intro t k
        refine pre6 t ?_
        show Steps p.tables e below (T2.setTop (mkF m 21 #[.val (.int (Int32.ofNat i)), .val (.int p2), .val (.long q3), .second, .val (.int (Int32.ofNat (decB q3).length)), .val (.int (Int32.ofNat (decB p2.toInt64).length)), .val (.ref la1), .val (.ref la2)] [])) _
        refine XS.iloadN X2.here hx rfl (hb hby d44_21) rfl ?_
        show Steps p.tables e below (T2.setTop (mkF m 22 #[.val (.int (Int32.ofNat i)), .val (.int p2), .val (.long q3), .second, .val (.int (Int32.ofNat (decB q3).length)), .val (.int (Int32.ofNat (decB p2.toInt64).length)), .val (.ref la1), .val (.ref la2)] [(.int (Int32.ofNat i))])) _
        refine XS.bipush X2.here hx rfl (hb hby d44_22) ?_
        show Steps p.tables e below (T2.setTop (mkF m 24 #[.val (.int (Int32.ofNat i)), .val (.int p2), .val (.long q3), .second, .val (.int (Int32.ofNat (decB q3).length)), .val (.int (Int32.ofNat (decB p2.toInt64).length)), .val (.ref la1), .val (.ref la2)] [(.int (11 : Int32)), (.int (Int32.ofNat i))])) _
        refine XS.iload X2.here hx rfl (hb hby d44_24) rfl ?_
        show Steps p.tables e below (T2.setTop (mkF m 26 #[.val (.int (Int32.ofNat i)), .val (.int p2), .val (.long q3), .second, .val (.int (Int32.ofNat (decB q3).length)), .val (.int (Int32.ofNat (decB p2.toInt64).length)), .val (.ref la1), .val (.ref la2)] [(.int (Int32.ofNat (decB q3).length)), (.int (11 : Int32)), (.int (Int32.ofNat i))])) _
        refine XS.iadd X2.here hx rfl (hb hby d44_26) rfl ?_
        show Steps p.tables e below (T2.setTop (mkF m 27 #[.val (.int (Int32.ofNat i)), .val (.int p2), .val (.long q3), .second, .val (.int (Int32.ofNat (decB q3).length)), .val (.int (Int32.ofNat (decB p2.toInt64).length)), .val (.ref la1), .val (.ref la2)] [(.int ((11 : Int32) + (Int32.ofNat (decB q3).length))), (.int (Int32.ofNat i))])) _
        rw [nq10]
        show Steps p.tables e below (T2.setTop (mkF m 27 #[.val (.int (Int32.ofNat i)), .val (.int p2), .val (.long q3), .second, .val (.int (Int32.ofNat (decB q3).length)), .val (.int (Int32.ofNat (decB p2.toInt64).length)), .val (.ref la1), .val (.ref la2)] [(.int (Int32.ofNat (11 + (decB q3).length))), (.int (Int32.ofNat i))])) _
        refine XS.icmpYes X2.here hx rfl (pc0 := 27) (pc' := 41) rfl (hb hby d44_27) rfl (flt (fun z => hb1 ((ofN_lt (b := 11 + (decB q3).length) (by omega) (by omega)).mp z))).2.1 (by decide) (by decide) ?_
        exact k
      by_cases hc1 : i < 29 + (decB q3).length
      · have nq12 : ((29 : Int32) + (Int32.ofNat (decB q3).length)) = (Int32.ofNat (29 + (decB q3).length)) := ofN_add 29 _
        have nq13 : ((Int32.ofNat i) - (11 : Int32)) = (Int32.ofNat (i - 11)) := ofN_sub (b := 11) (by omega)
        have hi : i - 11 - (decB q3).length < litB.length := by rw [litB_len]; omega
        have nq14 : ((Int32.ofNat (i - 11)) - (Int32.ofNat (decB q3).length)) = (Int32.ofNat (i - 11 - (decB q3).length)) := ofN_sub (by omega)
        obtain ⟨cq15, kq15, q15a, q15b, q15c⟩ := isOf hZ e2 Le2
        obtain ⟨_, _, ⟨T15, L15, k15, n15⟩, -, X15, ⟨Lc15, hQ15, l15, y15, z15⟩, st15⟩ := X2.virtualBack hx (y := (⟨"java/lang/String", "charAt", "(I)C"⟩ : MethodName)) (z := (⟨"java/lang/String", "charAt", "(I)C"⟩ : MethodName)) hown (mvT hZ (hw _ (List.mem_of_getElem? (i := 230) rfl))) (mvT hZ (hw _ (List.mem_of_getElem? (i := 231) rfl))) (notFace_of_selects (args := #[]) (mvT hZ (hw _ (List.mem_of_getElem? (i := 233) rfl)))) (mvT hZ (hw _ (List.mem_of_getElem? (i := 233) rfl))) (mvT hZ (hw _ (List.mem_of_getElem? (i := 232) rfl))) (by decide) (backOf (W := 0) (rm39 l Z a0 hw [] la2  h2 n0 cs lb2 lk2 litB ((i - 11 - (decB q3).length)) fv CS hcs O2 Le2 Lc2 Lv2 LV2 hi FS hfv) hZ (hw _ (List.mem_of_getElem? (i := 234) rfl)) (hw _ (List.mem_of_getElem? (i := 39) rfl)) (by decide) (by decide)) q15a q15c (g := (mkF m 59 #[.val (.int (Int32.ofNat i)), .val (.int p2), .val (.long q3), .second, .val (.int (Int32.ofNat (decB q3).length)), .val (.int (Int32.ofNat (decB p2.toInt64).length)), .val (.ref la1), .val (.ref la2)] [(.int (Int32.ofNat (i - 11 - (decB q3).length))), (.ref la2)])) rfl (by rw [hml]; rfl) (Steps.refl _) (argsL := [(.int (Int32.ofNat (i - 11 - (decB q3).length)))]) (rest := []) (lenOf pd31 rfl) rfl (by show 2 * 0 + _ ≤ _; exact Nat.le_of_eq rfl) (hb hby d44_59) (fun _ _ => ⟨rfl, e2, (by decide : 4 + 0 ≤ _), (by decide : 124 + 0 ≤ _)⟩)
        dsimp only [Pt.U, Pt.locs, Pt.cells, Pt.slots] at X15 l15 y15 z15 st15 hQ15
        subst l15 y15 z15
        obtain ⟨rfl, N15q, e15⟩ := hQ15
        have N15 := Fr.app N0 N15q
        refine hneg ?_
        have hR := R2.trans (CHv.at X15 hZ hEL R2.1)
        obtain ⟨fs, hr, hrun, hended, hW⟩ := X15.leaveW (v := some (.int (nar .char ((litB.getD (i - 11 - (decB q3).length) 0) &&& (255 : Int32))))) hS (by rw [show T15.heap = h2 from e15]; exact hk2) (fun h => by rw [Bd.returns] at h; cases h)
        refine ⟨_, _, pre11 _ ?_, hrun, hended, _, _, rfl, ?_, ?_, rew_mono hW (by decide) (by decide)⟩
        · show Steps p.tables e below (T2.setTop (mkF m 41 #[.val (.int (Int32.ofNat i)), .val (.int p2), .val (.long q3), .second, .val (.int (Int32.ofNat (decB q3).length)), .val (.int (Int32.ofNat (decB p2.toInt64).length)), .val (.ref la1), .val (.ref la2)] [])) _
          refine XS.iloadN X2.here hx rfl (hb hby d44_41) rfl ?_
          show Steps p.tables e below (T2.setTop (mkF m 42 #[.val (.int (Int32.ofNat i)), .val (.int p2), .val (.long q3), .second, .val (.int (Int32.ofNat (decB q3).length)), .val (.int (Int32.ofNat (decB p2.toInt64).length)), .val (.ref la1), .val (.ref la2)] [(.int (Int32.ofNat i))])) _
          refine XS.bipush X2.here hx rfl (hb hby d44_42) ?_
          show Steps p.tables e below (T2.setTop (mkF m 44 #[.val (.int (Int32.ofNat i)), .val (.int p2), .val (.long q3), .second, .val (.int (Int32.ofNat (decB q3).length)), .val (.int (Int32.ofNat (decB p2.toInt64).length)), .val (.ref la1), .val (.ref la2)] [(.int (29 : Int32)), (.int (Int32.ofNat i))])) _
          refine XS.iload X2.here hx rfl (hb hby d44_44) rfl ?_
          show Steps p.tables e below (T2.setTop (mkF m 46 #[.val (.int (Int32.ofNat i)), .val (.int p2), .val (.long q3), .second, .val (.int (Int32.ofNat (decB q3).length)), .val (.int (Int32.ofNat (decB p2.toInt64).length)), .val (.ref la1), .val (.ref la2)] [(.int (Int32.ofNat (decB q3).length)), (.int (29 : Int32)), (.int (Int32.ofNat i))])) _
          refine XS.iadd X2.here hx rfl (hb hby d44_46) rfl ?_
          show Steps p.tables e below (T2.setTop (mkF m 47 #[.val (.int (Int32.ofNat i)), .val (.int p2), .val (.long q3), .second, .val (.int (Int32.ofNat (decB q3).length)), .val (.int (Int32.ofNat (decB p2.toInt64).length)), .val (.ref la1), .val (.ref la2)] [(.int ((29 : Int32) + (Int32.ofNat (decB q3).length))), (.int (Int32.ofNat i))])) _
          rw [nq12]
          show Steps p.tables e below (T2.setTop (mkF m 47 #[.val (.int (Int32.ofNat i)), .val (.int p2), .val (.long q3), .second, .val (.int (Int32.ofNat (decB q3).length)), .val (.int (Int32.ofNat (decB p2.toInt64).length)), .val (.ref la1), .val (.ref la2)] [(.int (Int32.ofNat (29 + (decB q3).length))), (.int (Int32.ofNat i))])) _
          refine XS.icmpNo X2.here hx rfl (hb hby d44_47) rfl (tlt ((ofN_lt (b := 29 + (decB q3).length) (by omega) (by omega)).mpr hc1)).2.1 ?_
          show Steps p.tables e below (T2.setTop (mkF m 50 #[.val (.int (Int32.ofNat i)), .val (.int p2), .val (.long q3), .second, .val (.int (Int32.ofNat (decB q3).length)), .val (.int (Int32.ofNat (decB p2.toInt64).length)), .val (.ref la1), .val (.ref la2)] [])) _
          refine XS.aload X2.here hx rfl (hb hby d44_50) rfl rfl ?_
          show Steps p.tables e below (T2.setTop (mkF m 52 #[.val (.int (Int32.ofNat i)), .val (.int p2), .val (.long q3), .second, .val (.int (Int32.ofNat (decB q3).length)), .val (.int (Int32.ofNat (decB p2.toInt64).length)), .val (.ref la1), .val (.ref la2)] [(.ref la2)])) _
          refine XS.iloadN X2.here hx rfl (hb hby d44_52) rfl ?_
          show Steps p.tables e below (T2.setTop (mkF m 53 #[.val (.int (Int32.ofNat i)), .val (.int p2), .val (.long q3), .second, .val (.int (Int32.ofNat (decB q3).length)), .val (.int (Int32.ofNat (decB p2.toInt64).length)), .val (.ref la1), .val (.ref la2)] [(.int (Int32.ofNat i)), (.ref la2)])) _
          refine XS.bipush X2.here hx rfl (hb hby d44_53) ?_
          show Steps p.tables e below (T2.setTop (mkF m 55 #[.val (.int (Int32.ofNat i)), .val (.int p2), .val (.long q3), .second, .val (.int (Int32.ofNat (decB q3).length)), .val (.int (Int32.ofNat (decB p2.toInt64).length)), .val (.ref la1), .val (.ref la2)] [(.int (11 : Int32)), (.int (Int32.ofNat i)), (.ref la2)])) _
          refine XS.isub X2.here hx rfl (hb hby d44_55) rfl ?_
          show Steps p.tables e below (T2.setTop (mkF m 56 #[.val (.int (Int32.ofNat i)), .val (.int p2), .val (.long q3), .second, .val (.int (Int32.ofNat (decB q3).length)), .val (.int (Int32.ofNat (decB p2.toInt64).length)), .val (.ref la1), .val (.ref la2)] [(.int ((Int32.ofNat i) - (11 : Int32))), (.ref la2)])) _
          rw [nq13]
          show Steps p.tables e below (T2.setTop (mkF m 56 #[.val (.int (Int32.ofNat i)), .val (.int p2), .val (.long q3), .second, .val (.int (Int32.ofNat (decB q3).length)), .val (.int (Int32.ofNat (decB p2.toInt64).length)), .val (.ref la1), .val (.ref la2)] [(.int (Int32.ofNat (i - 11))), (.ref la2)])) _
          refine XS.iload X2.here hx rfl (hb hby d44_56) rfl ?_
          show Steps p.tables e below (T2.setTop (mkF m 58 #[.val (.int (Int32.ofNat i)), .val (.int p2), .val (.long q3), .second, .val (.int (Int32.ofNat (decB q3).length)), .val (.int (Int32.ofNat (decB p2.toInt64).length)), .val (.ref la1), .val (.ref la2)] [(.int (Int32.ofNat (decB q3).length)), (.int (Int32.ofNat (i - 11))), (.ref la2)])) _
          refine XS.isub X2.here hx rfl (hb hby d44_58) rfl ?_
          show Steps p.tables e below (T2.setTop (mkF m 59 #[.val (.int (Int32.ofNat i)), .val (.int p2), .val (.long q3), .second, .val (.int (Int32.ofNat (decB q3).length)), .val (.int (Int32.ofNat (decB p2.toInt64).length)), .val (.ref la1), .val (.ref la2)] [(.int ((Int32.ofNat (i - 11)) - (Int32.ofNat (decB q3).length))), (.ref la2)])) _
          rw [nq14]
          show Steps p.tables e below (T2.setTop (mkF m 59 #[.val (.int (Int32.ofNat i)), .val (.int p2), .val (.long q3), .second, .val (.int (Int32.ofNat (decB q3).length)), .val (.int (Int32.ofNat (decB p2.toInt64).length)), .val (.ref la1), .val (.ref la2)] [(.int (Int32.ofNat (i - 11 - (decB q3).length))), (.ref la2)])) _
          refine st15.trans ?_
          show Steps p.tables e below (T15.setTop (mkF m 62 #[.val (.int (Int32.ofNat i)), .val (.int p2), .val (.long q3), .second, .val (.int (Int32.ofNat (decB q3).length)), .val (.int (Int32.ofNat (decB p2.toInt64).length)), .val (.ref la1), .val (.ref la2)] [(.int ((litB.getD (i - 11 - (decB q3).length) 0) &&& (255 : Int32)))])) _
          exact retN X15 hx (t := .char) Bd.returns (by simp) (hb hby d44_62) hr
        · show Q44 Z p2 q3 cs i fv h0 n0 _ T15.heap _
          rw [e15]
          refine ⟨?_, N15, K2⟩
          rw [show expV i p2 q3 = (nar .char ((litB.getD (i - 11 - (decB q3).length) 0) &&& (255 : Int32))) from by unfold expV; rw [if_neg ha, if_neg hb1, if_pos hc1]]
        · show CHr Z consts_1 s.vm s.heap T15.vm T15.heap
          rw [hh, show T15.heap = h2 from e15]; exact hR
      · have nq16 : ((29 : Int32) + (Int32.ofNat (decB q3).length)) = (Int32.ofNat (29 + (decB q3).length)) := ofN_add 29 _
        have nq17 : ((Int32.ofNat i) - (29 : Int32)) = (Int32.ofNat (i - 29)) := ofN_sub (b := 29) (by omega)
        have nq18 : ((Int32.ofNat (i - 29)) - (Int32.ofNat (decB q3).length)) = (Int32.ofNat (i - 29 - (decB q3).length)) := ofN_sub (by omega)
        obtain ⟨_, _, ⟨T19, L19, k19, n19⟩, -, X19, ⟨Lc19, hQ19, l19, y19, z19⟩, st19⟩ := Jvm.LawKit.callS X2 hx (y := (⟨"com/example/tranche/tranche/journal/JournalEndTornTailPinLaw", "digitChar", "(JII)C"⟩ : MethodName)) hown (mvT hZ (hw _ (List.mem_of_getElem? (i := 258) rfl))) (mvT hZ (hw _ (List.mem_of_getElem? (i := 259) rfl))) (mvT hZ (hw _ (List.mem_of_getElem? (i := 208) rfl))) (mvT hZ (hw _ (List.mem_of_getElem? (i := 260) rfl))) (by decide) (backOf (W := 0) (rm45 l Z a0 hw [] (p2.toInt64)  h2 n0 (decB p2.toInt64).length (i - 29 - (decB q3).length) (by omega) (by omega) (dec_r (by omega)) Z2) hZ (hw _ (List.mem_of_getElem? (i := 260) rfl)) (hw _ (List.mem_of_getElem? (i := 208) rfl)) (by decide) (by decide)) (g := (mkF m 74 #[.val (.int (Int32.ofNat i)), .val (.int p2), .val (.long q3), .second, .val (.int (Int32.ofNat (decB q3).length)), .val (.int (Int32.ofNat (decB p2.toInt64).length)), .val (.ref la1), .val (.ref la2)] [(.int (Int32.ofNat (i - 29 - (decB q3).length))), (.int (Int32.ofNat (decB p2.toInt64).length)), (.long (p2.toInt64))])) rfl (by rw [hml]; rfl) (argsL := [(.long (p2.toInt64)), (.int (Int32.ofNat (decB p2.toInt64).length)), (.int (Int32.ofNat (i - 29 - (decB q3).length)))]) (rest := []) (lenOf pd32 rfl) rfl (by show 2 * 0 + _ ≤ _; exact Nat.le_of_eq rfl) (hb hby d44_74) (fun _ _ => ⟨rfl, e2, (by decide : 4 + 1 ≤ _), (by decide : 124 + 19 ≤ _)⟩)
        dsimp only [Pt.U, Pt.locs, Pt.cells, Pt.slots] at X19 l19 y19 z19 st19 hQ19
        subst l19 y19 z19
        obtain ⟨rfl, N19q, Kc19⟩ := hQ19
        have N19 := Fr.app N0 N19q
        have E_la1_19 := E_la1_2.keep Kc19
        have F_la1_coder_19 := F_la1_coder_2.keep Kc19 nin0
        have F_la1_value_19 := F_la1_value_2.keep Kc19 nin0
        have V_lb1_19 := V_lb1_2.keep Kc19 nin0
        have E_la2_19 := Le2.keep Kc19
        have F_la2_coder_19 := Lc2.keep Kc19 nin0
        have F_la2_value_19 := Lv2.keep Kc19 nin0
        have V_lb2_19 := LV2.keep Kc19 nin0
        have K19 : Keep h0 T19.heap [] := K2.trans Kc19 all0
        have Z19 : n0 ≤ T19.heap.size := Nat.le_trans Z2 Kc19.1
        have O19 := Old.keep O2 Kc19 all0
        have hs19 : ∀ x ∈ ([] : List Addr), Safe Z consts_1 T2.vm h2 x := sf0
        have r19 := CHr.keep Kc19 hs19 R2.1
        have R19 := R2.trans r19
        have hk19 := Nat.le_trans hk2 Kc19.1
        refine hneg ?_
        have hR := R19.trans (CHv.at X19 hZ hEL R19.1)
        obtain ⟨fs, hr, hrun, hended, hW⟩ := X19.leaveW (v := some (.int (nar .char (digV (p2.toInt64) (decB p2.toInt64).length (i - 29 - (decB q3).length))))) hS (by rw [show T19.heap = T19.heap from rfl]; exact hk19) (fun h => by rw [Bd.returns] at h; cases h)
        refine ⟨_, _, pre11 _ ?_, hrun, hended, _, _, rfl, ?_, ?_, rew_mono hW (by decide) (by decide)⟩
        · show Steps p.tables e below (T2.setTop (mkF m 41 #[.val (.int (Int32.ofNat i)), .val (.int p2), .val (.long q3), .second, .val (.int (Int32.ofNat (decB q3).length)), .val (.int (Int32.ofNat (decB p2.toInt64).length)), .val (.ref la1), .val (.ref la2)] [])) _
          refine XS.iloadN X2.here hx rfl (hb hby d44_41) rfl ?_
          show Steps p.tables e below (T2.setTop (mkF m 42 #[.val (.int (Int32.ofNat i)), .val (.int p2), .val (.long q3), .second, .val (.int (Int32.ofNat (decB q3).length)), .val (.int (Int32.ofNat (decB p2.toInt64).length)), .val (.ref la1), .val (.ref la2)] [(.int (Int32.ofNat i))])) _
          refine XS.bipush X2.here hx rfl (hb hby d44_42) ?_
          show Steps p.tables e below (T2.setTop (mkF m 44 #[.val (.int (Int32.ofNat i)), .val (.int p2), .val (.long q3), .second, .val (.int (Int32.ofNat (decB q3).length)), .val (.int (Int32.ofNat (decB p2.toInt64).length)), .val (.ref la1), .val (.ref la2)] [(.int (29 : Int32)), (.int (Int32.ofNat i))])) _
          refine XS.iload X2.here hx rfl (hb hby d44_44) rfl ?_
          show Steps p.tables e below (T2.setTop (mkF m 46 #[.val (.int (Int32.ofNat i)), .val (.int p2), .val (.long q3), .second, .val (.int (Int32.ofNat (decB q3).length)), .val (.int (Int32.ofNat (decB p2.toInt64).length)), .val (.ref la1), .val (.ref la2)] [(.int (Int32.ofNat (decB q3).length)), (.int (29 : Int32)), (.int (Int32.ofNat i))])) _
          refine XS.iadd X2.here hx rfl (hb hby d44_46) rfl ?_
          show Steps p.tables e below (T2.setTop (mkF m 47 #[.val (.int (Int32.ofNat i)), .val (.int p2), .val (.long q3), .second, .val (.int (Int32.ofNat (decB q3).length)), .val (.int (Int32.ofNat (decB p2.toInt64).length)), .val (.ref la1), .val (.ref la2)] [(.int ((29 : Int32) + (Int32.ofNat (decB q3).length))), (.int (Int32.ofNat i))])) _
          rw [nq16]
          show Steps p.tables e below (T2.setTop (mkF m 47 #[.val (.int (Int32.ofNat i)), .val (.int p2), .val (.long q3), .second, .val (.int (Int32.ofNat (decB q3).length)), .val (.int (Int32.ofNat (decB p2.toInt64).length)), .val (.ref la1), .val (.ref la2)] [(.int (Int32.ofNat (29 + (decB q3).length))), (.int (Int32.ofNat i))])) _
          refine XS.icmpYes X2.here hx rfl (pc0 := 47) (pc' := 63) rfl (hb hby d44_47) rfl (flt (fun z => hc1 ((ofN_lt (b := 29 + (decB q3).length) (by omega) (by omega)).mp z))).2.1 (by decide) (by decide) ?_
          show Steps p.tables e below (T2.setTop (mkF m 63 #[.val (.int (Int32.ofNat i)), .val (.int p2), .val (.long q3), .second, .val (.int (Int32.ofNat (decB q3).length)), .val (.int (Int32.ofNat (decB p2.toInt64).length)), .val (.ref la1), .val (.ref la2)] [])) _
          refine XS.iloadN X2.here hx rfl (hb hby d44_63) rfl ?_
          show Steps p.tables e below (T2.setTop (mkF m 64 #[.val (.int (Int32.ofNat i)), .val (.int p2), .val (.long q3), .second, .val (.int (Int32.ofNat (decB q3).length)), .val (.int (Int32.ofNat (decB p2.toInt64).length)), .val (.ref la1), .val (.ref la2)] [(.int p2)])) _
          refine XS.i2l X2.here hx rfl (hb hby d44_64) rfl ?_
          show Steps p.tables e below (T2.setTop (mkF m 65 #[.val (.int (Int32.ofNat i)), .val (.int p2), .val (.long q3), .second, .val (.int (Int32.ofNat (decB q3).length)), .val (.int (Int32.ofNat (decB p2.toInt64).length)), .val (.ref la1), .val (.ref la2)] [(.long (p2.toInt64))])) _
          refine XS.iload X2.here hx rfl (hb hby d44_65) rfl ?_
          show Steps p.tables e below (T2.setTop (mkF m 67 #[.val (.int (Int32.ofNat i)), .val (.int p2), .val (.long q3), .second, .val (.int (Int32.ofNat (decB q3).length)), .val (.int (Int32.ofNat (decB p2.toInt64).length)), .val (.ref la1), .val (.ref la2)] [(.int (Int32.ofNat (decB p2.toInt64).length)), (.long (p2.toInt64))])) _
          refine XS.iloadN X2.here hx rfl (hb hby d44_67) rfl ?_
          show Steps p.tables e below (T2.setTop (mkF m 68 #[.val (.int (Int32.ofNat i)), .val (.int p2), .val (.long q3), .second, .val (.int (Int32.ofNat (decB q3).length)), .val (.int (Int32.ofNat (decB p2.toInt64).length)), .val (.ref la1), .val (.ref la2)] [(.int (Int32.ofNat i)), (.int (Int32.ofNat (decB p2.toInt64).length)), (.long (p2.toInt64))])) _
          refine XS.bipush X2.here hx rfl (hb hby d44_68) ?_
          show Steps p.tables e below (T2.setTop (mkF m 70 #[.val (.int (Int32.ofNat i)), .val (.int p2), .val (.long q3), .second, .val (.int (Int32.ofNat (decB q3).length)), .val (.int (Int32.ofNat (decB p2.toInt64).length)), .val (.ref la1), .val (.ref la2)] [(.int (29 : Int32)), (.int (Int32.ofNat i)), (.int (Int32.ofNat (decB p2.toInt64).length)), (.long (p2.toInt64))])) _
          refine XS.isub X2.here hx rfl (hb hby d44_70) rfl ?_
          show Steps p.tables e below (T2.setTop (mkF m 71 #[.val (.int (Int32.ofNat i)), .val (.int p2), .val (.long q3), .second, .val (.int (Int32.ofNat (decB q3).length)), .val (.int (Int32.ofNat (decB p2.toInt64).length)), .val (.ref la1), .val (.ref la2)] [(.int ((Int32.ofNat i) - (29 : Int32))), (.int (Int32.ofNat (decB p2.toInt64).length)), (.long (p2.toInt64))])) _
          rw [nq17]
          show Steps p.tables e below (T2.setTop (mkF m 71 #[.val (.int (Int32.ofNat i)), .val (.int p2), .val (.long q3), .second, .val (.int (Int32.ofNat (decB q3).length)), .val (.int (Int32.ofNat (decB p2.toInt64).length)), .val (.ref la1), .val (.ref la2)] [(.int (Int32.ofNat (i - 29))), (.int (Int32.ofNat (decB p2.toInt64).length)), (.long (p2.toInt64))])) _
          refine XS.iload X2.here hx rfl (hb hby d44_71) rfl ?_
          show Steps p.tables e below (T2.setTop (mkF m 73 #[.val (.int (Int32.ofNat i)), .val (.int p2), .val (.long q3), .second, .val (.int (Int32.ofNat (decB q3).length)), .val (.int (Int32.ofNat (decB p2.toInt64).length)), .val (.ref la1), .val (.ref la2)] [(.int (Int32.ofNat (decB q3).length)), (.int (Int32.ofNat (i - 29))), (.int (Int32.ofNat (decB p2.toInt64).length)), (.long (p2.toInt64))])) _
          refine XS.isub X2.here hx rfl (hb hby d44_73) rfl ?_
          show Steps p.tables e below (T2.setTop (mkF m 74 #[.val (.int (Int32.ofNat i)), .val (.int p2), .val (.long q3), .second, .val (.int (Int32.ofNat (decB q3).length)), .val (.int (Int32.ofNat (decB p2.toInt64).length)), .val (.ref la1), .val (.ref la2)] [(.int ((Int32.ofNat (i - 29)) - (Int32.ofNat (decB q3).length))), (.int (Int32.ofNat (decB p2.toInt64).length)), (.long (p2.toInt64))])) _
          rw [nq18]
          show Steps p.tables e below (T2.setTop (mkF m 74 #[.val (.int (Int32.ofNat i)), .val (.int p2), .val (.long q3), .second, .val (.int (Int32.ofNat (decB q3).length)), .val (.int (Int32.ofNat (decB p2.toInt64).length)), .val (.ref la1), .val (.ref la2)] [(.int (Int32.ofNat (i - 29 - (decB q3).length))), (.int (Int32.ofNat (decB p2.toInt64).length)), (.long (p2.toInt64))])) _
          refine st19 _ ?_
          show Steps p.tables e below (T19.setTop (mkF m 77 #[.val (.int (Int32.ofNat i)), .val (.int p2), .val (.long q3), .second, .val (.int (Int32.ofNat (decB q3).length)), .val (.int (Int32.ofNat (decB p2.toInt64).length)), .val (.ref la1), .val (.ref la2)] [(.int (digV (p2.toInt64) (decB p2.toInt64).length (i - 29 - (decB q3).length)))])) _
          exact retN X19 hx (t := .char) Bd.returns (by simp) (hb hby d44_77) hr
        · show Q44 Z p2 q3 cs i fv h0 n0 _ T19.heap _
          refine ⟨?_, N19, K19⟩
          rw [show expV i p2 q3 = (nar .char (digV (p2.toInt64) (decB p2.toInt64).length (i - 29 - (decB q3).length))) from by unfold expV; rw [if_neg ha, if_neg hb1, if_neg hc1]]
        · show CHr Z consts_1 s.vm s.heap T19.vm T19.heap
          rw [hh, show T19.heap = T19.heap from rfl]; exact hR

theorem ite_add1 (c : Prop) [Decidable c] (a b : Int32) : (if c then a else b) + 1 = if c then a + 1 else b + 1 := by split <;> rfl
theorem sl_18 (x : Int64) : SBG.sizeLoopL 18 x (-10) 1 = (if (-10 : Int64) < x then 1 else if (-100 : Int64) < x then 2 else if (-1000 : Int64) < x then 3 else if (-10000 : Int64) < x then 4 else if (-100000 : Int64) < x then 5 else if (-1000000 : Int64) < x then 6 else if (-10000000 : Int64) < x then 7 else if (-100000000 : Int64) < x then 8 else if (-1000000000 : Int64) < x then 9 else if (-10000000000 : Int64) < x then 10 else if (-100000000000 : Int64) < x then 11 else if (-1000000000000 : Int64) < x then 12 else if (-10000000000000 : Int64) < x then 13 else if (-100000000000000 : Int64) < x then 14 else if (-1000000000000000 : Int64) < x then 15 else if (-10000000000000000 : Int64) < x then 16 else if (-100000000000000000 : Int64) < x then 17 else if (-1000000000000000000 : Int64) < x then 18 else 19) := rfl
theorem f38_eq (v : Int64) : f38 v = Int32.ofNat (decB v).length := by
  rw [decB_len, ← SBG.strSizeOfL_eq (absL_le v) (absL_neg v)]
  have e : SBG.strSizeOfL v = if v < 0 then SBG.sizeLoopL 18 v (-10) 1 + 1 else SBG.sizeLoopL 18 (-v) (-10) 1 + 0 := rfl
  rw [e, sl_18, sl_18]
  unfold f38 f38_282
  simp only [lw_lt, lw_gt]
  by_cases hv : v < 0
  · simp only [if_pos hv, ite_add1]
  · simp only [if_neg hv, Int32.add_zero]
theorem rem_ix (x : Int32) {N : Nat} (h : 0 < N) (hN : N ≤ 1000) : ∃ i : Nat, (x &&& (2147483647 : Int32)) % Int32.ofNat N = Int32.ofNat i ∧ i < N := by
  have h0 : 0 ≤ (x &&& (2147483647 : Int32)).toInt := (c_and x 2147483647 (by decide)).1
  have h1 := (c_iremV (x &&& (2147483647 : Int32)) (Int32.ofNat N)).1 h0 (by rw [ofN_int (by omega)]; omega)
  rw [ofN_int (by omega)] at h1
  refine ⟨((x &&& (2147483647 : Int32)) % Int32.ofNat N).toInt.toNat, ?_, by omega⟩
  apply Int32.toInt_inj.mp
  rw [ofN_int (by omega)]
  omega
theorem c10_ : (10 : Int64).toInt = 10 := by decide
theorem dig_core (q : Int64) (m : Nat) (hm : m ≤ 2 ^ 63) (hq : q.toInt = m ∨ q.toInt = -(m : Int)) : (f47 (q - (q / 10) * 10)).toInt32 = Int32.ofNat (m % 10) := by
  have hb1 := Int64.le_toInt q
  have hb2 := Int64.toInt_lt q
  have e1 : (q / 10).toInt = q.toInt.tdiv 10 := by rw [Int64.toInt_div_of_ne_right _ _ (by decide), c10_]
  have t : q.toInt.tdiv 10 = (if 0 ≤ q.toInt then ((m / 10 : Nat) : Int) else -((m / 10 : Nat) : Int)) := by
    rcases hq with hq | hq
    · rw [hq, if_pos (by omega), Int.tdiv_eq_ediv_of_nonneg (by omega)]; omega
    · by_cases h0 : m = 0
      · subst h0; rw [hq]; rfl
      · rw [hq, if_neg (by omega), Int.neg_tdiv, Int.tdiv_eq_ediv_of_nonneg (by omega)]; omega
  have e2 : ((q / 10) * 10).toInt = q.toInt.tdiv 10 * 10 := by
    rw [Int64.toInt_mul, e1, c10_, SBG.bmL]
    · rw [t]; split <;> omega
    · rw [t]; split <;> omega
  have e3 : (q - (q / 10) * 10).toInt = q.toInt - q.toInt.tdiv 10 * 10 := by
    rw [Int64.toInt_sub, e2, SBG.bmL]
    · rw [t]; split <;> omega
    · rw [t]; split <;> omega
  have e4 : (f47 (q - (q / 10) * 10)).toInt = ((m % 10 : Nat) : Int) := by
    unfold f47
    have z0 : (0 : Int64).toInt = 0 := by decide
    split
    · rename_i hl
      rw [lw_lt, Int64.lt_iff_toInt_lt, e3, t, z0] at hl
      rw [Int64.toInt_neg, e3, t, SBG.bmL]
      · split at hl <;> rename_i hs <;> rcases hq with hq | hq <;> simp only [hs, if_true, if_false] <;> omega
      · split at hl <;> rename_i hs <;> rcases hq with hq | hq <;> simp only [hs, if_true, if_false] <;> omega
      · split at hl <;> rename_i hs <;> rcases hq with hq | hq <;> simp only [hs, if_true, if_false] <;> omega
    · rename_i hl
      rw [lw_lt, Int64.lt_iff_toInt_lt, e3, t, z0] at hl
      rw [e3, t]
      split at hl <;> rename_i hs <;> rcases hq with hq | hq <;> simp only [hs, if_true, if_false] <;> omega
  apply Int32.toInt_inj.mp
  rw [Int64.toInt_toInt32, e4, ofN_int (by omega)]
  exact Int.bmod_eq_of_le (by omega) (by omega)
theorem ch10 : ∀ D : Fin 10, nar .char (nar .char (((48 : Int32) + Int32.ofNat D.val).toUInt32.toUInt16.toUInt32.toInt32)) = Int32.ofNat (48 + D.val) &&& (255 : Int32) := by decide
theorem p10_int {r : Nat} (h : r < 19) : (Int64.ofNat (10 ^ r)).toInt = ((10 ^ r : Nat) : Int) := by
  have : ∀ r : Fin 19, (Int64.ofNat (10 ^ r.val)).toInt = ((10 ^ r.val : Nat) : Int) := by decide
  exact this ⟨r, h⟩
theorem p10_nm {r : Nat} (h : r < 19) : Int64.ofNat (10 ^ r) ≠ -1 := by
  have : ∀ r : Fin 19, Int64.ofNat (10 ^ r.val) ≠ -1 := by decide
  exact this ⟨r, h⟩
theorem quo (v : Int64) {r : Nat} (h : r < 19) : (v / Int64.ofNat (10 ^ r)).toInt = ((absL v / 10 ^ r : Nat) : Int) ∨ (v / Int64.ofNat (10 ^ r)).toInt = -((absL v / 10 ^ r : Nat) : Int) := by
  rw [Int64.toInt_div_of_ne_right _ _ (p10_nm h), p10_int h]
  rcases Int.natAbs_eq v.toInt with e | e
  · left
    show v.toInt.tdiv _ = ((v.toInt.natAbs / 10 ^ r : Nat) : Int)
    conv => lhs; rw [e]
    exact (Int.ofNat_tdiv _ _).symm
  · right
    show v.toInt.tdiv _ = -((v.toInt.natAbs / 10 ^ r : Nat) : Int)
    conv => lhs; rw [e]
    rw [Int.neg_tdiv]
    congr 1
theorem digV_at {v : Int64} {kk : Nat} (h : kk < (decB v).length) : ((decB v).getD kk 0) &&& (255 : Int32) = nar .char (digV v (decB v).length kk) := by
  have hr := dec_r h
  have hl := decB_len v
  have core : ∀ r, r < 19 → ∀ w : Int32, w = Int32.ofNat (48 + absL v / 10 ^ r % 10) → w &&& 255 = nar .char (nar .char (((48 : Int32) + ((f47 ((v / (Int64.ofNat (10 ^ r))) - ((v / (Int64.ofNat (10 ^ r))) / (10 : Int64)) * (10 : Int64))).toInt32)).toUInt32.toUInt16.toUInt32.toInt32)) := fun r h19 w hw => by
    rw [dig_core _ (absL v / 10 ^ r) (Nat.le_trans (Nat.div_le_self _ _) (absL_le v)) (quo v h19), hw]
    exact (ch10 ⟨absL v / 10 ^ r % 10, Nat.mod_lt _ (by decide)⟩).symm
  have dgt : ∀ (n d i : Nat), i < d → (digs n d).getD i 0 = Int32.ofNat (48 + n / 10 ^ (d - 1 - i) % 10) := fun n d i hi => by simp [digs, hi]
  by_cases hv : v < 0
  · have ed : decB v = 45 :: digs (absL v) (dg (absL v)) := by unfold decB; rw [if_pos hv]; rfl
    have el : (decB v).length = dg (absL v) + 1 := by rw [ed]; simp [digs_len]
    cases kk with
    | zero =>
      rw [show digV v (decB v).length 0 = 45 from if_pos ⟨hv, rfl⟩, ed]; show (45 : Int32) &&& 255 = nar .char 45; decide
    | succ k =>
      have h19 : (decB v).length - 1 - (k + 1) < 19 := hr.resolve_left fun z => absurd z.2 (by omega)
      rw [show digV v (decB v).length (k + 1) = _ from if_neg fun z => absurd z.2 (by omega)]
      refine core _ h19 _ ?_
      conv => lhs; rw [ed]
      rw [List.getD_cons_succ, dgt _ _ _ (by omega), show (decB v).length - 1 - (k + 1) = dg (absL v) - 1 - k by omega]
  · have ed : decB v = digs (absL v) (dg (absL v)) := by unfold decB; rw [if_neg hv]; rfl
    have el : (decB v).length = dg (absL v) := by rw [ed, digs_len]
    have h19 : (decB v).length - 1 - kk < 19 := hr.resolve_left fun z => hv z.1
    rw [show digV v (decB v).length kk = _ from if_neg fun z => hv z.1]
    refine core _ h19 _ ?_
    conv => lhs; rw [ed]
    rw [dgt _ _ _ (by omega), el]
theorem law_at {ln : Int32} {tn : Int64} {i : Nat} (hi : i < 29 + (decB tn).length + (decB ln.toInt64).length) : ((litA ++ decB tn ++ litB ++ decB ln.toInt64).getD i 0) &&& (255 : Int32) = expV i ln tn := by
  have lA := litA_len
  have lB := litB_len
  have left : ∀ (a b : List Int32) (j : Nat), j < a.length → (a ++ b).getD j 0 = a.getD j 0 := fun a b j h => by simp only [List.getD_eq_getElem?_getD]; rw [List.getElem?_append_left h]
  have right : ∀ (a b : List Int32) (j : Nat), a.length ≤ j → (a ++ b).getD j 0 = b.getD (j - a.length) 0 := fun a b j h => by simp only [List.getD_eq_getElem?_getD]; rw [List.getElem?_append_right h]
  unfold expV
  by_cases c1 : i < 11
  · rw [if_pos c1, left _ _ _ (by simp; omega), left _ _ _ (by simp; omega), left _ _ _ (by omega)]; exact (nar_mask _).symm
  · rw [if_neg c1]
    by_cases c2 : i < 11 + (decB tn).length
    · rw [if_pos c2, left _ _ _ (by simp; omega), left _ _ _ (by simp; omega), right _ _ _ (by omega), lA]; exact digV_at (by omega)
    · rw [if_neg c2]
      by_cases c3 : i < 29 + (decB tn).length
      · rw [if_pos c3, left _ _ _ (by simp; omega), right _ _ _ (by simp; omega), show i - (litA ++ decB tn).length = i - 11 - (decB tn).length by simp; omega]; exact (nar_mask _).symm
      · rw [if_neg c3, right _ _ _ (by simp; omega), show i - (litA ++ decB tn ++ litB).length = i - 29 - (decB tn).length by simp; omega]; exact digV_at (by omega)

theorem d2_0 : decode jdk_30_method_1_code 0 = .ok (.aload_n 0, 1) := by decide +kernel
theorem d2_1 : decode jdk_30_method_1_code 1 = .ok (.invokespecial 1, 3) := by decide +kernel
theorem d2_4 : decode jdk_30_method_1_code 4 = .ok (.return_, 1) := by decide +kernel
theorem pn_2 : plainName "java/lang/Record" = true := by first | (simp [plainName, overriddenIn]; done) | decide +kernel
theorem ef_2 (m : MethodId) (a1 : Addr) : entryFrame m #[(.ref a1)] 1 = mkF m 0 #[.val (.ref a1)] [] := by first | (simp [entryFrame, mkF, argsToLocals, Value.category]; done) | rfl
def Q2 (Z : State) (a1 : Addr) (h0 : Heap) (n0 : Nat) (v : Option Value) (h : Heap) (L : List Loc) : Prop := v = none ∧ Fr n0 L ∧ h = h0
set_option maxRecDepth 65536 in
set_option maxHeartbeats 40000000 in
theorem rm2 (l : Launch) (Z : State) (a0 : Array Value) (hw : ∀ d ∈ tables_1, d.before a0 Z = true) (ws : List Jvm.Cond) (a1 : Addr) (h0 : Heap) (n0 : Nat)  :
    MetFree l (⟨"java/lang/Record", "<init>", "()V"⟩ : MethodName) (head1 (Jvm.Cond.code (⟨"java/lang/Record", "<init>", "()V"⟩ : MethodName) jdk_30_method_1_code 1 none :: ws) ({ frames := 1, cells := 0, slots := 0, locals := 12 } : Room)) (fun a U => a = #[(.ref a1)] ∧ Z.Warmed39 U.vm ∧ U.heap = h0) (fun _ _ _ _ _ => True) (fun _ U o U' => ∃ v L, o = .returned v ∧ Q2 Z a1 h0 n0 v U'.heap L ∧ FrameEnd U o U' L ({ frames := 1, cells := 0, slots := 0, locals := 12 } : Room).cells ({ frames := 1, cells := 0, slots := 0, locals := 12 } : Room).slots) := by
  refine MetFree.of_bodySF (plainFor_of_name pn_2) hisR ?_
  intro p e s m args below meth c s₁ Bd hml0 hP hK
  obtain ⟨rfl, hZ, hh⟩ := hP
  have hx := Bd.exec
  have hby := Bd.bytes
  have hml : c.maxLocals = 1 := hml0
  have hown0 := findClass_of_methodNamed Bd.named
  have hown : s.vm.findClass "java/lang/Record" = some m.cls := hown0
  have hnm := (name_of_methodNamed Bd.named Bd.method).1
  have X0 : Stand p l e ({ frames := 1, cells := 0, slots := 0, locals := 12 } : Room) s m #[(.ref a1)] below meth c s₁ [] 0 0 := Stand.of_body Bd
  have e0 : s₁.heap = h0 := by rw [← hh, Bd.state]; rfl
  have N0 := Fr.nil n0
  have pre0 : ∀ t, Steps p.tables e below (s₁.setTop (mkF m 0 #[.val (.ref a1)] [])) t → Steps p.tables e below (s₁.setTop (entryFrame m #[(.ref a1)] 1)) t := fun t k => castTop (ef_2 m a1) k
  refine Classical.byContradiction fun hneg => ?_
  obtain ⟨T1, X1, e1, st1⟩ := initO X0 hx hZ hown (hw _ (List.mem_of_getElem? (i := 11) rfl)) (hw _ (List.mem_of_getElem? (i := 12) rfl)) (hw _ (List.mem_of_getElem? (i := 13) rfl)) e0 (g := (mkF m 1 #[.val (.ref a1)] [(.ref a1)])) rfl (by rw [hml]; rfl) rfl (hb hby d2_1) (by decide) (W := 0) (by show 2 * 0 + _ ≤ _; exact Nat.le_of_eq rfl) (by decide)
  refine hneg ?_
  obtain ⟨fs, hr, hrun, hended, hW, hsame⟩ := X1.leave (v := none) (fun _ => rfl)
  refine ⟨_, _, pre0 _ ?_, hrun, hended, _, _, rfl, ?_, ⟨_, rfl⟩, hW, hsame.mono (by decide) (by decide)⟩
  · show Steps p.tables e below (s₁.setTop (mkF m 0 #[.val (.ref a1)] [])) _
    refine XS.aloadN X0.here hx rfl (hb hby d2_0) rfl rfl ?_
    show Steps p.tables e below (s₁.setTop (mkF m 1 #[.val (.ref a1)] [(.ref a1)])) _
    refine st1 _ ?_
    show Steps p.tables e below (T1.setTop (mkF m 4 #[.val (.ref a1)] [])) _
    exact X1.returnOut hx Bd.returns (hb hby d2_4) hr
  · show Q2 Z a1 h0 n0 _ T1.heap _
    rw [e1]
    exact ⟨rfl, N0, rfl⟩

theorem d1_0 : decode prog_8_method_1_code 0 = .ok (.aload_n 0, 1) := by decide +kernel
theorem d1_1 : decode prog_8_method_1_code 1 = .ok (.invokespecial 1, 3) := by decide +kernel
theorem d1_4 : decode prog_8_method_1_code 4 = .ok (.aload_n 0, 1) := by decide +kernel
theorem d1_5 : decode prog_8_method_1_code 5 = .ok (.iload_n 1, 1) := by decide +kernel
theorem d1_6 : decode prog_8_method_1_code 6 = .ok (.putfield 7, 3) := by decide +kernel
theorem d1_9 : decode prog_8_method_1_code 9 = .ok (.aload_n 0, 1) := by decide +kernel
theorem d1_10 : decode prog_8_method_1_code 10 = .ok (.lload_n 2, 1) := by decide +kernel
theorem d1_11 : decode prog_8_method_1_code 11 = .ok (.putfield 13, 3) := by decide +kernel
theorem d1_14 : decode prog_8_method_1_code 14 = .ok (.aload_n 0, 1) := by decide +kernel
theorem d1_15 : decode prog_8_method_1_code 15 = .ok (.lload 4, 2) := by decide +kernel
theorem d1_17 : decode prog_8_method_1_code 17 = .ok (.putfield 17, 3) := by decide +kernel
theorem d1_20 : decode prog_8_method_1_code 20 = .ok (.return_, 1) := by decide +kernel
theorem pn_1 : plainName "com/example/tranche/tranche/journal/JournalEnd" = true := by first | (simp [plainName, overriddenIn]; done) | decide +kernel
theorem ef_1 (m : MethodId) (a1 : Addr) (p2 : Int32) (q3 : Int64) (q4 : Int64) : entryFrame m #[(.ref a1), (.int p2), (.long q3), (.long q4)] 6 = mkF m 0 #[.val (.ref a1), .val (.int p2), .val (.long q3), .second, .val (.long q4), .second] [] := by first | (simp [entryFrame, mkF, argsToLocals, Value.category]; done) | rfl
def Q1 (Z : State) (a1 : Addr) (p2 : Int32) (q3 : Int64) (q4 : Int64) (h0 : Heap) (n0 : Nat) (v : Option Value) (h : Heap) (L : List Loc) : Prop := v = none ∧ Fr n0 L ∧ Keep h0 h [a1] ∧ Exa Z h a1 "com/example/tranche/tranche/journal/JournalEnd" ∧ Fld Z h a1 "com/example/tranche/tranche/journal/JournalEnd" "lines" "I" (.int p2) ∧ Fld Z h a1 "com/example/tranche/tranche/journal/JournalEnd" "offset" "J" (.long q3) ∧ Fld Z h a1 "com/example/tranche/tranche/journal/JournalEnd" "tornBytes" "J" (.long q4)
set_option maxRecDepth 65536 in
set_option maxHeartbeats 40000000 in
theorem rm1 (l : Launch) (Z : State) (a0 : Array Value) (hw : ∀ d ∈ tables_1, d.before a0 Z = true) (ws : List Jvm.Cond) (a1 : Addr) (p2 : Int32) (q3 : Int64) (q4 : Int64) (h0 : Heap) (n0 : Nat) (u_lines u_offset u_tornBytes : Value) (Z0 : n0 ≤ h0.size) (g_a1 : n0 ≤ a1) (E_a1 : Exa Z h0 a1 "com/example/tranche/tranche/journal/JournalEnd") (F_lines : Fld Z h0 a1 "com/example/tranche/tranche/journal/JournalEnd" "lines" "I" u_lines) (F_offset : Fld Z h0 a1 "com/example/tranche/tranche/journal/JournalEnd" "offset" "J" u_offset) (F_tornBytes : Fld Z h0 a1 "com/example/tranche/tranche/journal/JournalEnd" "tornBytes" "J" u_tornBytes) :
    MetFree l (⟨"com/example/tranche/tranche/journal/JournalEnd", "<init>", "(IJJ)V"⟩ : MethodName) (head1 (Jvm.Cond.code (⟨"com/example/tranche/tranche/journal/JournalEnd", "<init>", "(IJJ)V"⟩ : MethodName) prog_8_method_1_code 6 none :: ws) ({ frames := 2, cells := 0, slots := 0, locals := 24 } : Room)) (fun a U => a = #[(.ref a1), (.int p2), (.long q3), (.long q4)] ∧ Z.Warmed39 U.vm ∧ U.heap = h0) (fun _ _ _ _ _ => True) (fun _ U o U' => ∃ v L, o = .returned v ∧ Q1 Z a1 p2 q3 q4 h0 n0 v U'.heap L ∧ FrameEnd U o U' L ({ frames := 2, cells := 0, slots := 0, locals := 24 } : Room).cells ({ frames := 2, cells := 0, slots := 0, locals := 24 } : Room).slots) := by
  refine MetFree.of_bodySF (plainFor_of_name pn_1) hisR ?_
  intro p e s m args below meth c s₁ Bd hml0 hP hK
  obtain ⟨rfl, hZ, hh⟩ := hP
  have hx := Bd.exec
  have hby := Bd.bytes
  have hml : c.maxLocals = 6 := hml0
  have hown0 := findClass_of_methodNamed Bd.named
  have hown : s.vm.findClass "com/example/tranche/tranche/journal/JournalEnd" = some m.cls := hown0
  have hnm := (name_of_methodNamed Bd.named Bd.method).1
  have X0 : Stand p l e ({ frames := 2, cells := 0, slots := 0, locals := 24 } : Room) s m #[(.ref a1), (.int p2), (.long q3), (.long q4)] below meth c s₁ [] 0 0 := Stand.of_body Bd
  have e0 : s₁.heap = h0 := by rw [← hh, Bd.state]; rfl
  have N0 := Fr.nil n0
  have pre0 : ∀ t, Steps p.tables e below (s₁.setTop (mkF m 0 #[.val (.ref a1), .val (.int p2), .val (.long q3), .second, .val (.long q4), .second] [])) t → Steps p.tables e below (s₁.setTop (entryFrame m #[(.ref a1), (.int p2), (.long q3), (.long q4)] 6)) t := fun t k => castTop (ef_1 m a1 p2 q3 q4) k
  refine Classical.byContradiction fun hneg => ?_
  obtain ⟨_, _, ⟨T1, L1, k1, n1⟩, -, X1, ⟨Lc1, hQ1, l1, y1, z1⟩, st1⟩ := X0.specialBack hx (y := (⟨"java/lang/Record", "<init>", "()V"⟩ : MethodName)) rfl hown (mvT hZ (hw _ (List.mem_of_getElem? (i := 6) rfl))) (mvT hZ (hw _ (List.mem_of_getElem? (i := 7) rfl))) (mvT hZ (hw _ (List.mem_of_getElem? (i := 10) rfl))) (by decide) (backOf (W := 0) (rm2 l Z a0 hw [] a1  h0 n0  ) hZ (hw _ (List.mem_of_getElem? (i := 10) rfl)) (hw _ (List.mem_of_getElem? (i := 9) rfl)) (by decide) (by decide)) (g := (mkF m 1 #[.val (.ref a1), .val (.int p2), .val (.long q3), .second, .val (.long q4), .second] [(.ref a1)])) rfl (by rw [hml]; rfl) (Steps.refl _) (a := a1) (argsL := []) (rest := []) (lenOf pd26 rfl) rfl (by show 2 * 0 + _ ≤ _; exact Nat.le_of_eq rfl) (hb hby d1_1) (fun _ _ => ⟨rfl, e0, (by decide : 0 + 0 ≤ _), (by decide : 0 + 0 ≤ _)⟩)
  dsimp only [Pt.U, Pt.locs, Pt.cells, Pt.slots] at X1 l1 y1 z1 st1 hQ1
  subst l1 y1 z1
  obtain ⟨rfl, N1q, e1⟩ := hQ1
  have N1 := Fr.app N0 N1q
  obtain ⟨T2, h2, X2, e2, W2, st2⟩ := putF X1 hx hZ hown (host := "") (Or.inl (hw _ (List.mem_of_getElem? (i := 14) rfl))) Via.refl e1 F_lines E_a1 (Or.inr ⟨(hw _ (List.mem_of_getElem? (i := 15) rfl)), rfl, hnm⟩) (hw _ (List.mem_of_getElem? (i := 1) rfl)) (ty := .int) (by decide) rfl rfl (g := (mkF m 6 #[.val (.ref a1), .val (.int p2), .val (.long q3), .second, .val (.long q4), .second] [(.int p2), (.ref a1)])) rfl rfl (hb hby d1_6)
  have E_a1_2 := E_a1.wr W2
  have F_a1_lines_2 := F_lines.same W2
  have F_a1_offset_2 := F_offset.other W2 (Or.inr (slot_ne (Or.inr (hw _ (List.mem_of_getElem? (i := 17) rfl))) (Or.inr (hw _ (List.mem_of_getElem? (i := 15) rfl))) (by decide) (t := .long) (t' := .int) (by decide) (by decide)))
  have F_a1_tornBytes_2 := F_tornBytes.other W2 (Or.inr (slot_ne (Or.inr (hw _ (List.mem_of_getElem? (i := 19) rfl))) (Or.inr (hw _ (List.mem_of_getElem? (i := 15) rfl))) (by decide) (t := .long) (t' := .int) (by decide) (by decide)))
  have K2 : Keep h0 h2 [a1] := (Keep.refl h0 [a1]).wr W2 (Or.inl (by simp))
  have N2 := Fr.snoc X2 N1 g_a1
  have Z2 : n0 ≤ h2.size := Nat.le_trans Z0 (Keep.of_wr W2).1
  obtain ⟨T3, h3, X3, e3, W3, st3⟩ := putF X2 hx hZ hown (host := "") (Or.inl (hw _ (List.mem_of_getElem? (i := 16) rfl))) Via.refl e2 F_a1_offset_2 E_a1_2 (Or.inr ⟨(hw _ (List.mem_of_getElem? (i := 17) rfl)), rfl, hnm⟩) (hw _ (List.mem_of_getElem? (i := 1) rfl)) (ty := .long) (by decide) rfl rfl (g := (mkF m 11 #[.val (.ref a1), .val (.int p2), .val (.long q3), .second, .val (.long q4), .second] [(.long q3), (.ref a1)])) rfl rfl (hb hby d1_11)
  have E_a1_3 := E_a1_2.wr W3
  have F_a1_lines_3 := F_a1_lines_2.other W3 (Or.inr (slot_ne (Or.inr (hw _ (List.mem_of_getElem? (i := 15) rfl))) (Or.inr (hw _ (List.mem_of_getElem? (i := 17) rfl))) (by decide) (t := .int) (t' := .long) (by decide) (by decide)))
  have F_a1_offset_3 := F_a1_offset_2.same W3
  have F_a1_tornBytes_3 := F_a1_tornBytes_2.other W3 (Or.inr (slot_ne (Or.inr (hw _ (List.mem_of_getElem? (i := 19) rfl))) (Or.inr (hw _ (List.mem_of_getElem? (i := 17) rfl))) (by decide) (t := .long) (t' := .long) (by decide) (by decide)))
  have K3 : Keep h0 h3 [a1] := K2.wr W3 (Or.inl (by simp))
  have N3 := Fr.snoc X3 N2 g_a1
  have Z3 : n0 ≤ h3.size := Nat.le_trans Z2 (Keep.of_wr W3).1
  obtain ⟨T4, h4, X4, e4, W4, st4⟩ := putF X3 hx hZ hown (host := "") (Or.inl (hw _ (List.mem_of_getElem? (i := 18) rfl))) Via.refl e3 F_a1_tornBytes_3 E_a1_3 (Or.inr ⟨(hw _ (List.mem_of_getElem? (i := 19) rfl)), rfl, hnm⟩) (hw _ (List.mem_of_getElem? (i := 1) rfl)) (ty := .long) (by decide) rfl rfl (g := (mkF m 17 #[.val (.ref a1), .val (.int p2), .val (.long q3), .second, .val (.long q4), .second] [(.long q4), (.ref a1)])) rfl rfl (hb hby d1_17)
  have E_a1_4 := E_a1_3.wr W4
  have F_a1_lines_4 := F_a1_lines_3.other W4 (Or.inr (slot_ne (Or.inr (hw _ (List.mem_of_getElem? (i := 15) rfl))) (Or.inr (hw _ (List.mem_of_getElem? (i := 19) rfl))) (by decide) (t := .int) (t' := .long) (by decide) (by decide)))
  have F_a1_offset_4 := F_a1_offset_3.other W4 (Or.inr (slot_ne (Or.inr (hw _ (List.mem_of_getElem? (i := 17) rfl))) (Or.inr (hw _ (List.mem_of_getElem? (i := 19) rfl))) (by decide) (t := .long) (t' := .long) (by decide) (by decide)))
  have F_a1_tornBytes_4 := F_a1_tornBytes_3.same W4
  have K4 : Keep h0 h4 [a1] := K3.wr W4 (Or.inl (by simp))
  have N4 := Fr.snoc X4 N3 g_a1
  have Z4 : n0 ≤ h4.size := Nat.le_trans Z3 (Keep.of_wr W4).1
  refine hneg ?_
  obtain ⟨fs, hr, hrun, hended, hW, hsame⟩ := X4.leave (v := none) (fun _ => rfl)
  refine ⟨_, _, pre0 _ ?_, hrun, hended, _, _, rfl, ?_, ⟨_, rfl⟩, hW, hsame.mono (by decide) (by decide)⟩
  · show Steps p.tables e below (s₁.setTop (mkF m 0 #[.val (.ref a1), .val (.int p2), .val (.long q3), .second, .val (.long q4), .second] [])) _
    refine XS.aloadN X0.here hx rfl (hb hby d1_0) rfl rfl ?_
    show Steps p.tables e below (s₁.setTop (mkF m 1 #[.val (.ref a1), .val (.int p2), .val (.long q3), .second, .val (.long q4), .second] [(.ref a1)])) _
    refine st1.trans ?_
    show Steps p.tables e below (T1.setTop (mkF m 4 #[.val (.ref a1), .val (.int p2), .val (.long q3), .second, .val (.long q4), .second] [])) _
    refine XS.aloadN X1.here hx rfl (hb hby d1_4) rfl rfl ?_
    show Steps p.tables e below (T1.setTop (mkF m 5 #[.val (.ref a1), .val (.int p2), .val (.long q3), .second, .val (.long q4), .second] [(.ref a1)])) _
    refine XS.iloadN X1.here hx rfl (hb hby d1_5) rfl ?_
    show Steps p.tables e below (T1.setTop (mkF m 6 #[.val (.ref a1), .val (.int p2), .val (.long q3), .second, .val (.long q4), .second] [(.int p2), (.ref a1)])) _
    refine st2 _ ?_
    show Steps p.tables e below (T2.setTop (mkF m 9 #[.val (.ref a1), .val (.int p2), .val (.long q3), .second, .val (.long q4), .second] [])) _
    refine XS.aloadN X2.here hx rfl (hb hby d1_9) rfl rfl ?_
    show Steps p.tables e below (T2.setTop (mkF m 10 #[.val (.ref a1), .val (.int p2), .val (.long q3), .second, .val (.long q4), .second] [(.ref a1)])) _
    refine XS.lloadN X2.here hx rfl (hb hby d1_10) rfl ?_
    show Steps p.tables e below (T2.setTop (mkF m 11 #[.val (.ref a1), .val (.int p2), .val (.long q3), .second, .val (.long q4), .second] [(.long q3), (.ref a1)])) _
    refine st3 _ ?_
    show Steps p.tables e below (T3.setTop (mkF m 14 #[.val (.ref a1), .val (.int p2), .val (.long q3), .second, .val (.long q4), .second] [])) _
    refine XS.aloadN X3.here hx rfl (hb hby d1_14) rfl rfl ?_
    show Steps p.tables e below (T3.setTop (mkF m 15 #[.val (.ref a1), .val (.int p2), .val (.long q3), .second, .val (.long q4), .second] [(.ref a1)])) _
    refine XS.lload X3.here hx rfl (hb hby d1_15) rfl ?_
    show Steps p.tables e below (T3.setTop (mkF m 17 #[.val (.ref a1), .val (.int p2), .val (.long q3), .second, .val (.long q4), .second] [(.long q4), (.ref a1)])) _
    refine st4 _ ?_
    show Steps p.tables e below (T4.setTop (mkF m 20 #[.val (.ref a1), .val (.int p2), .val (.long q3), .second, .val (.long q4), .second] [])) _
    exact X4.returnOut hx Bd.returns (hb hby d1_20) hr
  · show Q1 Z a1 p2 q3 q4 h0 n0 _ T4.heap _
    rw [e4]
    exact ⟨rfl, N4, K4, E_a1_4, F_a1_lines_4, F_a1_offset_4, F_a1_tornBytes_4⟩

theorem pn_0 : plainName "com/example/tranche/tranche/journal/JournalEndTornTailPinLaw" = true := by first | (simp [plainName, overriddenIn]; done) | decide +kernel
theorem ef_0 (m : MethodId) (p1 : Int32) (q2 : Int64) (q3 : Int64) (p4 : Int32) : entryFrame m #[(.int p1), (.long q2), (.long q3), (.int p4)] maxLocals = mkF m 0 #[.val (.int p1), .val (.long q2), .second, .val (.long q3), .second, .val (.int p4), .unset, .unset, .unset, .unset, .unset] [] := by first | (simp [entryFrame, mkF, argsToLocals, Value.category, maxLocals]; done) | rfl
def Q0 (Z : State) (p1 : Int32) (q2 : Int64) (q3 : Int64) (p4 : Int32) (cs : Int32) (fv : Value) (h0 : Heap) (n0 : Nat) (v : Option Value) (h : Heap) (L : List Loc) : Prop := v = some (.int 1) ∧ Fr n0 L
set_option maxRecDepth 65536 in
set_option maxHeartbeats 40000000 in
theorem rm0 (l : Launch) (Z : State) (a0 : Array Value) (hw : ∀ d ∈ tables_1, d.before a0 Z = true) (ws : List Jvm.Cond) (p1 : Int32) (q2 : Int64) (q3 : Int64) (p4 : Int32) (h0 : Heap) (n0 : Nat) (cs : Int32) (fv : Value) (CS : Sta Z Z.heap "java/lang/String" "COMPACT_STRINGS" "Z" (.int cs)) (hcs : ¬ cs = 0) (O0 : Old Z n0 h0) (TB : DigT Z) (FS : Sta Z Z.heap "jdk/internal/util/Preconditions" "SIOOBE_FORMATTER" "Ljava/util/function/BiFunction;" fv) (hfv : fv = .null ∨ ∃ a, fv = .ref a) (Z0 : n0 ≤ h0.size) :
    MetFree l x (head1 (Jvm.Cond.code x code maxLocals ret :: ws) room_1) (fun a U => a = #[(.int p1), (.long q2), (.long q3), (.int p4)] ∧ Z.Warmed39 U.vm ∧ U.heap = h0 ∧ CHv Z consts_1 U.vm h0) (fun _ _ _ _ _ => True) (fun _ U o U' => ∃ v L, o = .returned v ∧ Q0 Z p1 q2 q3 p4 cs fv h0 n0 v U'.heap L ∧ CHr Z consts_1 U.vm U.heap U'.vm U'.heap ∧ ReturnedEndW U o U' L room_1.cells room_1.slots) := by
  refine MetFree.of_bodySF (plainFor_of_name pn_0) hisR ?_
  intro p e s m args below meth c s₁ Bd hml0 hP hK
  obtain ⟨rfl, hZ, hh, hCH⟩ := hP
  have hx := Bd.exec
  have hby := Bd.bytes
  have hml : c.maxLocals = 11 := hml0
  have hown0 := findClass_of_methodNamed Bd.named
  have hown : s.vm.findClass "com/example/tranche/tranche/journal/JournalEndTornTailPinLaw" = some m.cls := hown0
  have hnm := (name_of_methodNamed Bd.named Bd.method).1
  have X0 : Stand p l e room_1 (s.setVm s.vm) m #[(.int p1), (.long q2), (.long q3), (.int p4)] below meth c s₁ [] 0 0 := Stand.of_body Bd
  have hS : s.Since s.vm 0 := State.WarmedH.since (State.WarmedH.refl s) 0
  have hk0 : 0 ≤ h0.size := Nat.zero_le _
  have R0 : CHr Z consts_1 s.vm h0 s.vm h0 := CHr.refl hCH
  have hEL := ew_1 (Z := Z) (a0 := a0) hw
  have wS := sa_1 (Z := Z) (a0 := a0) hw
  have e0 : s₁.heap = h0 := by rw [← hh, Bd.state]; rfl
  have N0 := Fr.nil n0
  have pre0 : ∀ t, Steps p.tables e below (s₁.setTop (mkF m 0 #[.val (.int p1), .val (.long q2), .second, .val (.long q3), .second, .val (.int p4), .unset, .unset, .unset, .unset, .unset] [])) t → Steps p.tables e below (s₁.setTop (entryFrame m #[(.int p1), (.long q2), (.long q3), (.int p4)] maxLocals)) t := fun t k => castTop (ef_0 m p1 q2 q3 p4) k
  refine Classical.byContradiction fun hneg => ?_
  obtain ⟨T1, h1, X1, e1, E1, A1, D1, -, st1⟩ := newO X0 hx hZ hown (hw _ (List.mem_of_getElem? (i := 0) rfl)) (hw _ (List.mem_of_getElem? (i := 1) rfl)) (hw _ (List.mem_of_getElem? (i := 2) rfl)) e0 (g := (mkF m 0 #[.val (.int p1), .val (.long q2), .second, .val (.long q3), .second, .val (.int p4), .unset, .unset, .unset, .unset, .unset] [])) rfl (hb hby at_0) (by decide) (by decide)
  obtain ⟨b1, g1⟩ : ∃ z, z = h0.size := ⟨_, rfl⟩
  rw [← g1] at A1 D1 st1
  have g_b1 : n0 ≤ b1 := Nat.le_trans Z0 (Nat.le_of_eq g1.symm)
  have sz_b1 : h0.size ≤ b1 := Nat.le_trans (Keep.refl h0 []).1 (Nat.le_of_eq g1.symm)
  have K1 : Keep h0 h1 [] := (Keep.refl h0 []).ext E1
  have Z1 : n0 ≤ h1.size := Nat.le_trans Z0 E1.1
  have O1 := Old.ext O0 E1
  have r1 := CHr.ext E1 R0.1
  have R1 := R0.trans r1
  have hk1 := Nat.le_trans hk0 E1.1
  have F_lines_b1 : Fld Z h1 b1 "com/example/tranche/tranche/journal/JournalEnd" "lines" "I" (.int (0 : Int32)) := D1 (Or.inr (hw _ (List.mem_of_getElem? (i := 15) rfl))) (ty := .int) (by decide)
  have F_offset_b1 : Fld Z h1 b1 "com/example/tranche/tranche/journal/JournalEnd" "offset" "J" (.long (0 : Int64)) := D1 (Or.inr (hw _ (List.mem_of_getElem? (i := 17) rfl))) (ty := .long) (by decide)
  have F_tornBytes_b1 : Fld Z h1 b1 "com/example/tranche/tranche/journal/JournalEnd" "tornBytes" "J" (.long (0 : Int64)) := D1 (Or.inr (hw _ (List.mem_of_getElem? (i := 19) rfl))) (ty := .long) (by decide)
  obtain ⟨_, _, ⟨T2, L2, k2, n2⟩, -, X2, ⟨Lc2, hQ2, l2, y2, z2⟩, st2⟩ := X1.specialBack hx (y := (⟨"com/example/tranche/tranche/journal/JournalEnd", "<init>", "(IJJ)V"⟩ : MethodName)) rfl hown (mvT hZ (hw _ (List.mem_of_getElem? (i := 3) rfl))) (mvT hZ (hw _ (List.mem_of_getElem? (i := 4) rfl))) (mvT hZ (hw _ (List.mem_of_getElem? (i := 5) rfl))) (by decide) (backOf (W := 1) (rm1 l Z a0 hw [] b1 p1 q2 q3  h1 n0  _ _ _ Z1 g_b1 A1 F_lines_b1 F_offset_b1 F_tornBytes_b1) hZ (hw _ (List.mem_of_getElem? (i := 5) rfl)) (hw _ (List.mem_of_getElem? (i := 2) rfl)) (by decide) (by decide)) (g := (mkF m 7 #[.val (.int p1), .val (.long q2), .second, .val (.long q3), .second, .val (.int p4), .unset, .unset, .unset, .unset, .unset] [(.long q3), (.long q2), (.int p1), (.ref b1), (.ref b1)])) rfl (by rw [hml]; rfl) (Steps.refl _) (a := b1) (argsL := [(.int p1), (.long q2), (.long q3)]) (rest := [(.ref b1)]) (lenOf pd33 rfl) rfl (by show 2 * 0 + _ ≤ _; exact Nat.le_of_eq rfl) (hb hby at_7) (fun _ _ => ⟨rfl, e1, (by decide : 1 + 0 ≤ _), (by decide : 3 + 0 ≤ _)⟩)
  dsimp only [Pt.U, Pt.locs, Pt.cells, Pt.slots] at X2 l2 y2 z2 st2 hQ2
  subst l2 y2 z2
  obtain ⟨rfl, N2q, Kc2, G2_0, G2_1, G2_2, G2_3⟩ := hQ2
  have N2 := Fr.app N0 N2q
  have K2 : Keep h0 T2.heap [] := K1.trans Kc2 (allS (P := fun x => x ∈ ([] : List Addr) ∨ h0.size ≤ x) (Or.inr sz_b1) all0)
  have Z2 : n0 ≤ T2.heap.size := Nat.le_trans Z1 Kc2.1
  have O2 := Old.keep O1 Kc2 (allS g_b1 all0)
  have hs2 : ∀ x ∈ ([b1] : List Addr), Safe Z consts_1 s.vm h1 x := (sfS (Safe.exa hZ.alike A1 (by decide) (by decide)) sf0)
  have r2 := CHr.keep Kc2 hs2 R1.1
  have R2 := R1.trans r2
  have hk2 := Nat.le_trans hk1 Kc2.1
  have pre4 : ∀ t, Steps p.tables e below (T2.setTop (mkF m 10 #[.val (.int p1), .val (.long q2), .second, .val (.long q3), .second, .val (.int p4), .unset, .unset, .unset, .unset, .unset] [(.ref b1)])) t → Steps p.tables e below (s₁.setTop (entryFrame m #[(.int p1), (.long q2), (.long q3), (.int p4)] maxLocals)) t := by
    intro t k
    refine pre0 t ?_
    show Steps p.tables e below (s₁.setTop (mkF m 0 #[.val (.int p1), .val (.long q2), .second, .val (.long q3), .second, .val (.int p4), .unset, .unset, .unset, .unset, .unset] [])) _
    refine st1 _ ?_
    show Steps p.tables e below (T1.setTop (mkF m 3 #[.val (.int p1), .val (.long q2), .second, .val (.long q3), .second, .val (.int p4), .unset, .unset, .unset, .unset, .unset] [(.ref b1)])) _
    refine XS.dup X1.here hx rfl (hb hby at_3) rfl rfl ?_
    show Steps p.tables e below (T1.setTop (mkF m 4 #[.val (.int p1), .val (.long q2), .second, .val (.long q3), .second, .val (.int p4), .unset, .unset, .unset, .unset, .unset] [(.ref b1), (.ref b1)])) _
    refine XS.iloadN X1.here hx rfl (hb hby at_4) rfl ?_
    show Steps p.tables e below (T1.setTop (mkF m 5 #[.val (.int p1), .val (.long q2), .second, .val (.long q3), .second, .val (.int p4), .unset, .unset, .unset, .unset, .unset] [(.int p1), (.ref b1), (.ref b1)])) _
    refine XS.lloadN X1.here hx rfl (hb hby at_5) rfl ?_
    show Steps p.tables e below (T1.setTop (mkF m 6 #[.val (.int p1), .val (.long q2), .second, .val (.long q3), .second, .val (.int p4), .unset, .unset, .unset, .unset, .unset] [(.long q2), (.int p1), (.ref b1), (.ref b1)])) _
    refine XS.lloadN X1.here hx rfl (hb hby at_6) rfl ?_
    show Steps p.tables e below (T1.setTop (mkF m 7 #[.val (.int p1), .val (.long q2), .second, .val (.long q3), .second, .val (.int p4), .unset, .unset, .unset, .unset, .unset] [(.long q3), (.long q2), (.int p1), (.ref b1), (.ref b1)])) _
    refine st2.trans ?_
    show Steps p.tables e below (T2.setTop (mkF m 10 #[.val (.int p1), .val (.long q2), .second, .val (.long q3), .second, .val (.int p4), .unset, .unset, .unset, .unset, .unset] [(.ref b1)])) _
    exact k
  obtain ⟨cq3, kq3, q3a, q3b, q3c⟩ := isOf hZ rfl G2_0
  obtain ⟨_, _, ⟨T3, L3, k3, n3⟩, -, Xq3, hSq3, hgq3, ⟨Lc3, hQ3, l3, y3, z3, hRq3⟩, st3⟩ := X2.virtualBackS hx (y := (⟨"com/example/tranche/tranche/journal/JournalEnd", "tornTail", "()Ljava/lang/String;"⟩ : MethodName)) (z := (⟨"com/example/tranche/tranche/journal/JournalEnd", "tornTail", "()Ljava/lang/String;"⟩ : MethodName)) hown (mvT hZ (hw _ (List.mem_of_getElem? (i := 20) rfl))) (mvT hZ (hw _ (List.mem_of_getElem? (i := 21) rfl))) (notFace_of_selects (args := #[]) (mvT hZ (hw _ (List.mem_of_getElem? (i := 23) rfl)))) (mvT hZ (hw _ (List.mem_of_getElem? (i := 23) rfl))) (mvT hZ (hw _ (List.mem_of_getElem? (i := 22) rfl))) (by decide) (backOfSH (W := 0) (rm4 l Z a0 hw [] b1 T2.heap n0 cs p1 q3 CS hcs O2 TB G2_0 G2_1 G2_3 Z2) hZ (hw _ (List.mem_of_getElem? (i := 24) rfl)) (hw _ (List.mem_of_getElem? (i := 2) rfl)) (by decide) (by decide) hEL R2.1) q3a q3c (g := (mkF m 10 #[.val (.int p1), .val (.long q2), .second, .val (.long q3), .second, .val (.int p4), .unset, .unset, .unset, .unset, .unset] [(.ref b1)])) rfl (by rw [hml]; rfl) (Steps.refl _) (argsL := []) (rest := []) (lenOf pd30 rfl) rfl (by show 2 * 0 + _ ≤ _; exact Nat.le_of_eq rfl) (hb hby at_10) (fun _ _ => ⟨rfl, rfl, (by decide : 1 + 12 ≤ _), (by decide : 3 + 858 ≤ _)⟩)
  dsimp only [Pt.U, Pt.locs, Pt.cells, Pt.slots] at Xq3 hSq3 hgq3 l3 y3 z3 st3 hQ3 hRq3
  subst l3 y3 z3
  obtain ⟨X3, hS, hZ, hown⟩ := rebS hS (by rw [show T2.heap = T2.heap from rfl]; exact hk2) Xq3 hSq3 hgq3 hZ hown
  obtain ⟨s'_3, d'_3, k'_3, bs'_3, rfl, N3q, Kc3, G3_0, G3_1, G3_2, G3_3, eqb_3, f_s'_3, f_d'_3⟩ := hQ3
  have N3 := Fr.app N2 N3q
  have ne_b1_s'_3 : b1 ≠ s'_3 := Nat.ne_of_lt (Nat.lt_of_lt_of_le G2_0.lt f_s'_3)
  have g_s'_3 : n0 ≤ s'_3 := Nat.le_trans Z2 f_s'_3
  have sz_s'_3 : h0.size ≤ s'_3 := Nat.le_trans K2.1 f_s'_3
  have ne_b1_d'_3 : b1 ≠ d'_3 := Nat.ne_of_lt (Nat.lt_of_lt_of_le G2_0.lt f_d'_3)
  have g_d'_3 : n0 ≤ d'_3 := Nat.le_trans Z2 f_d'_3
  have sz_d'_3 : h0.size ≤ d'_3 := Nat.le_trans K2.1 f_d'_3
  have E_b1_3 := G2_0.keep Kc3
  have F_b1_lines_3 := G2_1.keep Kc3 nin0
  have F_b1_offset_3 := G2_2.keep Kc3 nin0
  have F_b1_tornBytes_3 := G2_3.keep Kc3 nin0
  have K3 : Keep h0 T3.heap [] := K2.trans Kc3 all0
  have Z3 : n0 ≤ T3.heap.size := Nat.le_trans Z2 Kc3.1
  have O3 := Old.keep O2 Kc3 all0
  have r3 := hRq3
  have R3 := R2.trans r3
  have hk3 := Nat.le_trans hk2 Kc3.1
  have hkw3 : T3.heap.size ≤ T3.heap.size := Nat.le_refl _
  obtain ⟨_, _, ⟨T5, L5, k5, n5⟩, -, X5, ⟨Lc5, hQ5, l5, y5, z5⟩, st5⟩ := Jvm.LawKit.callS X3 hx (y := (⟨"com/example/tranche/tranche/journal/JournalEndTornTailPinLaw", "decLen", "(J)I"⟩ : MethodName)) hown (mvT hZ (hw _ (List.mem_of_getElem? (i := 206) rfl))) (mvT hZ (hw _ (List.mem_of_getElem? (i := 207) rfl))) (mvT hZ (hw _ (List.mem_of_getElem? (i := 208) rfl))) (mvT hZ (hw _ (List.mem_of_getElem? (i := 209) rfl))) (by decide) (backOf (W := 0) (rm38 l Z a0 hw [] q3  T3.heap n0  ) hZ (hw _ (List.mem_of_getElem? (i := 209) rfl)) (hw _ (List.mem_of_getElem? (i := 208) rfl)) (by decide) (by decide)) (g := (mkF m 16 #[.val (.int p1), .val (.long q2), .second, .val (.long q3), .second, .val (.int p4), .val (.ref s'_3), .unset, .unset, .unset, .unset] [(.long q3)])) rfl (by rw [hml]; rfl) (argsL := [(.long q3)]) (rest := []) (lenOf pd11 rfl) rfl (by show 2 * 0 + _ ≤ _; exact Nat.le_of_eq rfl) (hb hby at_16) (fun _ _ => ⟨rfl, rfl, (by decide : 13 + 0 ≤ _), (by decide : 861 + 0 ≤ _)⟩)
  dsimp only [Pt.U, Pt.locs, Pt.cells, Pt.slots] at X5 l5 y5 z5 st5 hQ5
  subst l5 y5 z5
  obtain ⟨rfl, N5q, e5⟩ := hQ5
  have N5 := Fr.app N3 N5q
  have lT := (decB_le q3).2
  have lL := (decB_le p1.toInt64).2
  have nq6 : (f38 q3) = (Int32.ofNat (decB q3).length) := f38_eq q3
  obtain ⟨_, _, ⟨T7, L7, k7, n7⟩, -, X7, ⟨Lc7, hQ7, l7, y7, z7⟩, st7⟩ := Jvm.LawKit.callS X5 hx (y := (⟨"com/example/tranche/tranche/journal/JournalEndTornTailPinLaw", "decLen", "(J)I"⟩ : MethodName)) hown (mvT hZ (hw _ (List.mem_of_getElem? (i := 206) rfl))) (mvT hZ (hw _ (List.mem_of_getElem? (i := 207) rfl))) (mvT hZ (hw _ (List.mem_of_getElem? (i := 208) rfl))) (mvT hZ (hw _ (List.mem_of_getElem? (i := 209) rfl))) (by decide) (backOf (W := 0) (rm38 l Z a0 hw [] (p1.toInt64)  T3.heap n0  ) hZ (hw _ (List.mem_of_getElem? (i := 209) rfl)) (hw _ (List.mem_of_getElem? (i := 208) rfl)) (by decide) (by decide)) (g := (mkF m 23 #[.val (.int p1), .val (.long q2), .second, .val (.long q3), .second, .val (.int p4), .val (.ref s'_3), .val (.int (Int32.ofNat (decB q3).length)), .unset, .unset, .unset] [(.long (p1.toInt64))])) rfl (by rw [hml]; rfl) (argsL := [(.long (p1.toInt64))]) (rest := []) (lenOf pd11 rfl) rfl (by show 2 * 0 + _ ≤ _; exact Nat.le_of_eq rfl) (hb hby at_23) (fun _ _ => ⟨rfl, e5, (by decide : 13 + 0 ≤ _), (by decide : 861 + 0 ≤ _)⟩)
  dsimp only [Pt.U, Pt.locs, Pt.cells, Pt.slots] at X7 l7 y7 z7 st7 hQ7
  subst l7 y7 z7
  obtain ⟨rfl, N7q, e7⟩ := hQ7
  have N7 := Fr.app N5 N7q
  have nq8 : (f38 (p1.toInt64)) = (Int32.ofNat (decB p1.toInt64).length) := f38_eq _
  have nq9 : ((29 : Int32) + (Int32.ofNat (decB q3).length)) = (Int32.ofNat (29 + (decB q3).length)) := ofN_add 29 _
  have nq10 : ((Int32.ofNat (29 + (decB q3).length)) + (Int32.ofNat (decB p1.toInt64).length)) = (Int32.ofNat (29 + (decB q3).length + (decB p1.toInt64).length)) := ofN_add _ _
  obtain ⟨cq11, kq11, q11a, q11b, q11c⟩ := isOf hZ e7 G3_0
  obtain ⟨_, _, ⟨T11, L11, k11, n11⟩, -, X11, ⟨Lc11, hQ11, l11, y11, z11⟩, st11⟩ := X7.virtualBack hx (y := (⟨"java/lang/String", "length", "()I"⟩ : MethodName)) (z := (⟨"java/lang/String", "length", "()I"⟩ : MethodName)) hown (mvT hZ (hw _ (List.mem_of_getElem? (i := 228) rfl))) (mvT hZ (hw _ (List.mem_of_getElem? (i := 62) rfl))) (notFace_of_selects (args := #[]) (mvT hZ (hw _ (List.mem_of_getElem? (i := 64) rfl)))) (mvT hZ (hw _ (List.mem_of_getElem? (i := 64) rfl))) (mvT hZ (hw _ (List.mem_of_getElem? (i := 63) rfl))) (by decide) (backOf (W := 0) (rm9 l Z a0 hw [] s'_3  T3.heap n0 cs d'_3 k'_3 bs'_3 CS hcs O3 G3_0 G3_1 G3_2 G3_3) hZ (hw _ (List.mem_of_getElem? (i := 65) rfl)) (hw _ (List.mem_of_getElem? (i := 39) rfl)) (by decide) (by decide)) q11a q11c (g := (mkF m 40 #[.val (.int p1), .val (.long q2), .second, .val (.long q3), .second, .val (.int p4), .val (.ref s'_3), .val (.int (Int32.ofNat (decB q3).length)), .val (.int (Int32.ofNat (decB p1.toInt64).length)), .val (.int (Int32.ofNat (29 + (decB q3).length + (decB p1.toInt64).length))), .unset] [(.ref s'_3)])) rfl (by rw [hml]; rfl) (Steps.refl _) (argsL := []) (rest := []) (lenOf pd7 rfl) rfl (by show 2 * 0 + _ ≤ _; exact Nat.le_of_eq rfl) (hb hby at_40) (fun _ _ => ⟨rfl, e7, (by decide : 13 + 0 ≤ _), (by decide : 861 + 0 ≤ _)⟩)
  dsimp only [Pt.U, Pt.locs, Pt.cells, Pt.slots] at X11 l11 y11 z11 st11 hQ11
  subst l11 y11 z11
  obtain ⟨rfl, N11q, e11⟩ := hQ11
  have N11 := Fr.app N7 N11q
  have hlen : bs'_3.length = (29 + (decB q3).length + (decB p1.toInt64).length) := by rw [eqb_3]; simp only [List.length_append, litA_len, litB_len]; omega
  obtain ⟨ix, hix, hlt⟩ := rem_ix p4 (N := (29 + (decB q3).length + (decB p1.toInt64).length)) (by omega) (by omega)
  have nq12 : ((p4 &&& (2147483647 : Int32)) % (Int32.ofNat (29 + (decB q3).length + (decB p1.toInt64).length))) = (Int32.ofNat ix) := hix
  have hi : ix < bs'_3.length := by rw [hlen]; exact hlt
  obtain ⟨cq13, kq13, q13a, q13b, q13c⟩ := isOf hZ e11 G3_0
  obtain ⟨_, _, ⟨T13, L13, k13, n13⟩, -, X13, ⟨Lc13, hQ13, l13, y13, z13⟩, st13⟩ := X11.virtualBack hx (y := (⟨"java/lang/String", "charAt", "(I)C"⟩ : MethodName)) (z := (⟨"java/lang/String", "charAt", "(I)C"⟩ : MethodName)) hown (mvT hZ (hw _ (List.mem_of_getElem? (i := 230) rfl))) (mvT hZ (hw _ (List.mem_of_getElem? (i := 231) rfl))) (notFace_of_selects (args := #[]) (mvT hZ (hw _ (List.mem_of_getElem? (i := 233) rfl)))) (mvT hZ (hw _ (List.mem_of_getElem? (i := 233) rfl))) (mvT hZ (hw _ (List.mem_of_getElem? (i := 232) rfl))) (by decide) (backOf (W := 0) (rm39 l Z a0 hw [] s'_3  T3.heap n0 cs d'_3 k'_3 bs'_3 (ix) fv CS hcs O3 G3_0 G3_1 G3_2 G3_3 hi FS hfv) hZ (hw _ (List.mem_of_getElem? (i := 234) rfl)) (hw _ (List.mem_of_getElem? (i := 39) rfl)) (by decide) (by decide)) q13a q13c (g := (mkF m 64 #[.val (.int p1), .val (.long q2), .second, .val (.long q3), .second, .val (.int p4), .val (.ref s'_3), .val (.int (Int32.ofNat (decB q3).length)), .val (.int (Int32.ofNat (decB p1.toInt64).length)), .val (.int (Int32.ofNat (29 + (decB q3).length + (decB p1.toInt64).length))), .val (.int (Int32.ofNat ix))] [(.int (Int32.ofNat ix)), (.ref s'_3)])) rfl (by rw [hml]; rfl) (Steps.refl _) (argsL := [(.int (Int32.ofNat ix))]) (rest := []) (lenOf pd31 rfl) rfl (by show 2 * 0 + _ ≤ _; exact Nat.le_of_eq rfl) (hb hby at_64) (fun _ _ => ⟨rfl, e11, (by decide : 13 + 0 ≤ _), (by decide : 861 + 0 ≤ _)⟩)
  dsimp only [Pt.U, Pt.locs, Pt.cells, Pt.slots] at X13 l13 y13 z13 st13 hQ13
  subst l13 y13 z13
  obtain ⟨rfl, N13q, e13⟩ := hQ13
  have N13 := Fr.app N11 N13q
  have pre15 : ∀ t, Steps p.tables e below (T13.setTop (mkF m 75 #[.val (.int p1), .val (.long q2), .second, .val (.long q3), .second, .val (.int p4), .val (.ref s'_3), .val (.int (Int32.ofNat (decB q3).length)), .val (.int (Int32.ofNat (decB p1.toInt64).length)), .val (.int (Int32.ofNat (29 + (decB q3).length + (decB p1.toInt64).length))), .val (.int (Int32.ofNat ix))] [(.int (Int32.ofNat (decB p1.toInt64).length)), (.int (Int32.ofNat (decB q3).length)), (.long q3), (.int p1), (.int (Int32.ofNat ix)), (.int ((bs'_3.getD ix 0) &&& (255 : Int32)))])) t → Steps p.tables e below (s₁.setTop (entryFrame m #[(.int p1), (.long q2), (.long q3), (.int p4)] maxLocals)) t := by
    intro t k
    refine pre4 t ?_
    refine st3.trans ?_
    show Steps p.tables e below (T3.setTop (mkF m 13 #[.val (.int p1), .val (.long q2), .second, .val (.long q3), .second, .val (.int p4), .unset, .unset, .unset, .unset, .unset] [(.ref s'_3)])) _
    refine XS.astore X3.here hx rfl (hb hby at_13) rfl rfl (l' := #[.val (.int p1), .val (.long q2), .second, .val (.long q3), .second, .val (.int p4), .val (.ref s'_3), .unset, .unset, .unset, .unset]) rfl ?_
    show Steps p.tables e below (T3.setTop (mkF m 15 #[.val (.int p1), .val (.long q2), .second, .val (.long q3), .second, .val (.int p4), .val (.ref s'_3), .unset, .unset, .unset, .unset] [])) _
    refine XS.lloadN X3.here hx rfl (hb hby at_15) rfl ?_
    show Steps p.tables e below (T3.setTop (mkF m 16 #[.val (.int p1), .val (.long q2), .second, .val (.long q3), .second, .val (.int p4), .val (.ref s'_3), .unset, .unset, .unset, .unset] [(.long q3)])) _
    refine st5 _ ?_
    show Steps p.tables e below (T5.setTop (mkF m 19 #[.val (.int p1), .val (.long q2), .second, .val (.long q3), .second, .val (.int p4), .val (.ref s'_3), .unset, .unset, .unset, .unset] [(.int (f38 q3))])) _
    rw [nq6]
    show Steps p.tables e below (T5.setTop (mkF m 19 #[.val (.int p1), .val (.long q2), .second, .val (.long q3), .second, .val (.int p4), .val (.ref s'_3), .unset, .unset, .unset, .unset] [(.int (Int32.ofNat (decB q3).length))])) _
    refine XS.istore X5.here hx rfl (hb hby at_19) rfl (l' := #[.val (.int p1), .val (.long q2), .second, .val (.long q3), .second, .val (.int p4), .val (.ref s'_3), .val (.int (Int32.ofNat (decB q3).length)), .unset, .unset, .unset]) rfl ?_
    show Steps p.tables e below (T5.setTop (mkF m 21 #[.val (.int p1), .val (.long q2), .second, .val (.long q3), .second, .val (.int p4), .val (.ref s'_3), .val (.int (Int32.ofNat (decB q3).length)), .unset, .unset, .unset] [])) _
    refine XS.iloadN X5.here hx rfl (hb hby at_21) rfl ?_
    show Steps p.tables e below (T5.setTop (mkF m 22 #[.val (.int p1), .val (.long q2), .second, .val (.long q3), .second, .val (.int p4), .val (.ref s'_3), .val (.int (Int32.ofNat (decB q3).length)), .unset, .unset, .unset] [(.int p1)])) _
    refine XS.i2l X5.here hx rfl (hb hby at_22) rfl ?_
    show Steps p.tables e below (T5.setTop (mkF m 23 #[.val (.int p1), .val (.long q2), .second, .val (.long q3), .second, .val (.int p4), .val (.ref s'_3), .val (.int (Int32.ofNat (decB q3).length)), .unset, .unset, .unset] [(.long (p1.toInt64))])) _
    refine st7 _ ?_
    show Steps p.tables e below (T7.setTop (mkF m 26 #[.val (.int p1), .val (.long q2), .second, .val (.long q3), .second, .val (.int p4), .val (.ref s'_3), .val (.int (Int32.ofNat (decB q3).length)), .unset, .unset, .unset] [(.int (f38 (p1.toInt64)))])) _
    rw [nq8]
    show Steps p.tables e below (T7.setTop (mkF m 26 #[.val (.int p1), .val (.long q2), .second, .val (.long q3), .second, .val (.int p4), .val (.ref s'_3), .val (.int (Int32.ofNat (decB q3).length)), .unset, .unset, .unset] [(.int (Int32.ofNat (decB p1.toInt64).length))])) _
    refine XS.istore X7.here hx rfl (hb hby at_26) rfl (l' := #[.val (.int p1), .val (.long q2), .second, .val (.long q3), .second, .val (.int p4), .val (.ref s'_3), .val (.int (Int32.ofNat (decB q3).length)), .val (.int (Int32.ofNat (decB p1.toInt64).length)), .unset, .unset]) rfl ?_
    show Steps p.tables e below (T7.setTop (mkF m 28 #[.val (.int p1), .val (.long q2), .second, .val (.long q3), .second, .val (.int p4), .val (.ref s'_3), .val (.int (Int32.ofNat (decB q3).length)), .val (.int (Int32.ofNat (decB p1.toInt64).length)), .unset, .unset] [])) _
    refine XS.bipush X7.here hx rfl (hb hby at_28) ?_
    show Steps p.tables e below (T7.setTop (mkF m 30 #[.val (.int p1), .val (.long q2), .second, .val (.long q3), .second, .val (.int p4), .val (.ref s'_3), .val (.int (Int32.ofNat (decB q3).length)), .val (.int (Int32.ofNat (decB p1.toInt64).length)), .unset, .unset] [(.int (29 : Int32))])) _
    refine XS.iload X7.here hx rfl (hb hby at_30) rfl ?_
    show Steps p.tables e below (T7.setTop (mkF m 32 #[.val (.int p1), .val (.long q2), .second, .val (.long q3), .second, .val (.int p4), .val (.ref s'_3), .val (.int (Int32.ofNat (decB q3).length)), .val (.int (Int32.ofNat (decB p1.toInt64).length)), .unset, .unset] [(.int (Int32.ofNat (decB q3).length)), (.int (29 : Int32))])) _
    refine XS.iadd X7.here hx rfl (hb hby at_32) rfl ?_
    show Steps p.tables e below (T7.setTop (mkF m 33 #[.val (.int p1), .val (.long q2), .second, .val (.long q3), .second, .val (.int p4), .val (.ref s'_3), .val (.int (Int32.ofNat (decB q3).length)), .val (.int (Int32.ofNat (decB p1.toInt64).length)), .unset, .unset] [(.int ((29 : Int32) + (Int32.ofNat (decB q3).length)))])) _
    rw [nq9]
    show Steps p.tables e below (T7.setTop (mkF m 33 #[.val (.int p1), .val (.long q2), .second, .val (.long q3), .second, .val (.int p4), .val (.ref s'_3), .val (.int (Int32.ofNat (decB q3).length)), .val (.int (Int32.ofNat (decB p1.toInt64).length)), .unset, .unset] [(.int (Int32.ofNat (29 + (decB q3).length)))])) _
    refine XS.iload X7.here hx rfl (hb hby at_33) rfl ?_
    show Steps p.tables e below (T7.setTop (mkF m 35 #[.val (.int p1), .val (.long q2), .second, .val (.long q3), .second, .val (.int p4), .val (.ref s'_3), .val (.int (Int32.ofNat (decB q3).length)), .val (.int (Int32.ofNat (decB p1.toInt64).length)), .unset, .unset] [(.int (Int32.ofNat (decB p1.toInt64).length)), (.int (Int32.ofNat (29 + (decB q3).length)))])) _
    refine XS.iadd X7.here hx rfl (hb hby at_35) rfl ?_
    show Steps p.tables e below (T7.setTop (mkF m 36 #[.val (.int p1), .val (.long q2), .second, .val (.long q3), .second, .val (.int p4), .val (.ref s'_3), .val (.int (Int32.ofNat (decB q3).length)), .val (.int (Int32.ofNat (decB p1.toInt64).length)), .unset, .unset] [(.int ((Int32.ofNat (29 + (decB q3).length)) + (Int32.ofNat (decB p1.toInt64).length)))])) _
    rw [nq10]
    show Steps p.tables e below (T7.setTop (mkF m 36 #[.val (.int p1), .val (.long q2), .second, .val (.long q3), .second, .val (.int p4), .val (.ref s'_3), .val (.int (Int32.ofNat (decB q3).length)), .val (.int (Int32.ofNat (decB p1.toInt64).length)), .unset, .unset] [(.int (Int32.ofNat (29 + (decB q3).length + (decB p1.toInt64).length)))])) _
    refine XS.istore X7.here hx rfl (hb hby at_36) rfl (l' := #[.val (.int p1), .val (.long q2), .second, .val (.long q3), .second, .val (.int p4), .val (.ref s'_3), .val (.int (Int32.ofNat (decB q3).length)), .val (.int (Int32.ofNat (decB p1.toInt64).length)), .val (.int (Int32.ofNat (29 + (decB q3).length + (decB p1.toInt64).length))), .unset]) rfl ?_
    show Steps p.tables e below (T7.setTop (mkF m 38 #[.val (.int p1), .val (.long q2), .second, .val (.long q3), .second, .val (.int p4), .val (.ref s'_3), .val (.int (Int32.ofNat (decB q3).length)), .val (.int (Int32.ofNat (decB p1.toInt64).length)), .val (.int (Int32.ofNat (29 + (decB q3).length + (decB p1.toInt64).length))), .unset] [])) _
    refine XS.aload X7.here hx rfl (hb hby at_38) rfl rfl ?_
    show Steps p.tables e below (T7.setTop (mkF m 40 #[.val (.int p1), .val (.long q2), .second, .val (.long q3), .second, .val (.int p4), .val (.ref s'_3), .val (.int (Int32.ofNat (decB q3).length)), .val (.int (Int32.ofNat (decB p1.toInt64).length)), .val (.int (Int32.ofNat (29 + (decB q3).length + (decB p1.toInt64).length))), .unset] [(.ref s'_3)])) _
    refine st11.trans ?_
    show Steps p.tables e below (T11.setTop (mkF m 43 #[.val (.int p1), .val (.long q2), .second, .val (.long q3), .second, .val (.int p4), .val (.ref s'_3), .val (.int (Int32.ofNat (decB q3).length)), .val (.int (Int32.ofNat (decB p1.toInt64).length)), .val (.int (Int32.ofNat (29 + (decB q3).length + (decB p1.toInt64).length))), .unset] [(.int (Int32.ofNat bs'_3.length))])) _
    refine XS.iload X11.here hx rfl (hb hby at_43) rfl ?_
    show Steps p.tables e below (T11.setTop (mkF m 45 #[.val (.int p1), .val (.long q2), .second, .val (.long q3), .second, .val (.int p4), .val (.ref s'_3), .val (.int (Int32.ofNat (decB q3).length)), .val (.int (Int32.ofNat (decB p1.toInt64).length)), .val (.int (Int32.ofNat (29 + (decB q3).length + (decB p1.toInt64).length))), .unset] [(.int (Int32.ofNat (29 + (decB q3).length + (decB p1.toInt64).length))), (.int (Int32.ofNat bs'_3.length))])) _
    refine XS.icmpYes X11.here hx rfl (pc0 := 45) (pc' := 50) rfl (hb hby at_45) rfl (teq (congrArg Int32.ofNat hlen)).1 (by decide) (by decide) ?_
    show Steps p.tables e below (T11.setTop (mkF m 50 #[.val (.int p1), .val (.long q2), .second, .val (.long q3), .second, .val (.int p4), .val (.ref s'_3), .val (.int (Int32.ofNat (decB q3).length)), .val (.int (Int32.ofNat (decB p1.toInt64).length)), .val (.int (Int32.ofNat (29 + (decB q3).length + (decB p1.toInt64).length))), .unset] [])) _
    refine XS.iload X11.here hx rfl (hb hby at_50) rfl ?_
    show Steps p.tables e below (T11.setTop (mkF m 52 #[.val (.int p1), .val (.long q2), .second, .val (.long q3), .second, .val (.int p4), .val (.ref s'_3), .val (.int (Int32.ofNat (decB q3).length)), .val (.int (Int32.ofNat (decB p1.toInt64).length)), .val (.int (Int32.ofNat (29 + (decB q3).length + (decB p1.toInt64).length))), .unset] [(.int p4)])) _
    refine X11.ldcInt hx hown (mvT hZ (hw _ (List.mem_of_getElem? (i := 229) rfl))) (g := (mkF m 52 #[.val (.int p1), .val (.long q2), .second, .val (.long q3), .second, .val (.int p4), .val (.ref s'_3), .val (.int (Int32.ofNat (decB q3).length)), .val (.int (Int32.ofNat (decB p1.toInt64).length)), .val (.int (Int32.ofNat (29 + (decB q3).length + (decB p1.toInt64).length))), .unset] [(.int p4)])) rfl (hb hby at_52) _ ?_
    show Steps p.tables e below (T11.setTop (mkF m 54 #[.val (.int p1), .val (.long q2), .second, .val (.long q3), .second, .val (.int p4), .val (.ref s'_3), .val (.int (Int32.ofNat (decB q3).length)), .val (.int (Int32.ofNat (decB p1.toInt64).length)), .val (.int (Int32.ofNat (29 + (decB q3).length + (decB p1.toInt64).length))), .unset] [(.int (2147483647 : Int32)), (.int p4)])) _
    refine XS.iand X11.here hx rfl (hb hby at_54) rfl ?_
    show Steps p.tables e below (T11.setTop (mkF m 55 #[.val (.int p1), .val (.long q2), .second, .val (.long q3), .second, .val (.int p4), .val (.ref s'_3), .val (.int (Int32.ofNat (decB q3).length)), .val (.int (Int32.ofNat (decB p1.toInt64).length)), .val (.int (Int32.ofNat (29 + (decB q3).length + (decB p1.toInt64).length))), .unset] [(.int (p4 &&& (2147483647 : Int32)))])) _
    refine XS.iload X11.here hx rfl (hb hby at_55) rfl ?_
    show Steps p.tables e below (T11.setTop (mkF m 57 #[.val (.int p1), .val (.long q2), .second, .val (.long q3), .second, .val (.int p4), .val (.ref s'_3), .val (.int (Int32.ofNat (decB q3).length)), .val (.int (Int32.ofNat (decB p1.toInt64).length)), .val (.int (Int32.ofNat (29 + (decB q3).length + (decB p1.toInt64).length))), .unset] [(.int (Int32.ofNat (29 + (decB q3).length + (decB p1.toInt64).length))), (.int (p4 &&& (2147483647 : Int32)))])) _
    refine iremM X11 hx rfl (hb hby at_57) rfl (fun z => by have := (ofN_eq (b := 0) (by omega) (by omega)).mp z; omega) ?_
    show Steps p.tables e below (T11.setTop (mkF m 58 #[.val (.int p1), .val (.long q2), .second, .val (.long q3), .second, .val (.int p4), .val (.ref s'_3), .val (.int (Int32.ofNat (decB q3).length)), .val (.int (Int32.ofNat (decB p1.toInt64).length)), .val (.int (Int32.ofNat (29 + (decB q3).length + (decB p1.toInt64).length))), .unset] [(.int ((p4 &&& (2147483647 : Int32)) % (Int32.ofNat (29 + (decB q3).length + (decB p1.toInt64).length))))])) _
    rw [nq12]
    show Steps p.tables e below (T11.setTop (mkF m 58 #[.val (.int p1), .val (.long q2), .second, .val (.long q3), .second, .val (.int p4), .val (.ref s'_3), .val (.int (Int32.ofNat (decB q3).length)), .val (.int (Int32.ofNat (decB p1.toInt64).length)), .val (.int (Int32.ofNat (29 + (decB q3).length + (decB p1.toInt64).length))), .unset] [(.int (Int32.ofNat ix))])) _
    refine XS.istore X11.here hx rfl (hb hby at_58) rfl (l' := #[.val (.int p1), .val (.long q2), .second, .val (.long q3), .second, .val (.int p4), .val (.ref s'_3), .val (.int (Int32.ofNat (decB q3).length)), .val (.int (Int32.ofNat (decB p1.toInt64).length)), .val (.int (Int32.ofNat (29 + (decB q3).length + (decB p1.toInt64).length))), .val (.int (Int32.ofNat ix))]) rfl ?_
    show Steps p.tables e below (T11.setTop (mkF m 60 #[.val (.int p1), .val (.long q2), .second, .val (.long q3), .second, .val (.int p4), .val (.ref s'_3), .val (.int (Int32.ofNat (decB q3).length)), .val (.int (Int32.ofNat (decB p1.toInt64).length)), .val (.int (Int32.ofNat (29 + (decB q3).length + (decB p1.toInt64).length))), .val (.int (Int32.ofNat ix))] [])) _
    refine XS.aload X11.here hx rfl (hb hby at_60) rfl rfl ?_
    show Steps p.tables e below (T11.setTop (mkF m 62 #[.val (.int p1), .val (.long q2), .second, .val (.long q3), .second, .val (.int p4), .val (.ref s'_3), .val (.int (Int32.ofNat (decB q3).length)), .val (.int (Int32.ofNat (decB p1.toInt64).length)), .val (.int (Int32.ofNat (29 + (decB q3).length + (decB p1.toInt64).length))), .val (.int (Int32.ofNat ix))] [(.ref s'_3)])) _
    refine XS.iload X11.here hx rfl (hb hby at_62) rfl ?_
    show Steps p.tables e below (T11.setTop (mkF m 64 #[.val (.int p1), .val (.long q2), .second, .val (.long q3), .second, .val (.int p4), .val (.ref s'_3), .val (.int (Int32.ofNat (decB q3).length)), .val (.int (Int32.ofNat (decB p1.toInt64).length)), .val (.int (Int32.ofNat (29 + (decB q3).length + (decB p1.toInt64).length))), .val (.int (Int32.ofNat ix))] [(.int (Int32.ofNat ix)), (.ref s'_3)])) _
    refine st13.trans ?_
    show Steps p.tables e below (T13.setTop (mkF m 67 #[.val (.int p1), .val (.long q2), .second, .val (.long q3), .second, .val (.int p4), .val (.ref s'_3), .val (.int (Int32.ofNat (decB q3).length)), .val (.int (Int32.ofNat (decB p1.toInt64).length)), .val (.int (Int32.ofNat (29 + (decB q3).length + (decB p1.toInt64).length))), .val (.int (Int32.ofNat ix))] [(.int ((bs'_3.getD ix 0) &&& (255 : Int32)))])) _
    refine XS.iload X13.here hx rfl (hb hby at_67) rfl ?_
    show Steps p.tables e below (T13.setTop (mkF m 69 #[.val (.int p1), .val (.long q2), .second, .val (.long q3), .second, .val (.int p4), .val (.ref s'_3), .val (.int (Int32.ofNat (decB q3).length)), .val (.int (Int32.ofNat (decB p1.toInt64).length)), .val (.int (Int32.ofNat (29 + (decB q3).length + (decB p1.toInt64).length))), .val (.int (Int32.ofNat ix))] [(.int (Int32.ofNat ix)), (.int ((bs'_3.getD ix 0) &&& (255 : Int32)))])) _
    refine XS.iloadN X13.here hx rfl (hb hby at_69) rfl ?_
    show Steps p.tables e below (T13.setTop (mkF m 70 #[.val (.int p1), .val (.long q2), .second, .val (.long q3), .second, .val (.int p4), .val (.ref s'_3), .val (.int (Int32.ofNat (decB q3).length)), .val (.int (Int32.ofNat (decB p1.toInt64).length)), .val (.int (Int32.ofNat (29 + (decB q3).length + (decB p1.toInt64).length))), .val (.int (Int32.ofNat ix))] [(.int p1), (.int (Int32.ofNat ix)), (.int ((bs'_3.getD ix 0) &&& (255 : Int32)))])) _
    refine XS.lloadN X13.here hx rfl (hb hby at_70) rfl ?_
    show Steps p.tables e below (T13.setTop (mkF m 71 #[.val (.int p1), .val (.long q2), .second, .val (.long q3), .second, .val (.int p4), .val (.ref s'_3), .val (.int (Int32.ofNat (decB q3).length)), .val (.int (Int32.ofNat (decB p1.toInt64).length)), .val (.int (Int32.ofNat (29 + (decB q3).length + (decB p1.toInt64).length))), .val (.int (Int32.ofNat ix))] [(.long q3), (.int p1), (.int (Int32.ofNat ix)), (.int ((bs'_3.getD ix 0) &&& (255 : Int32)))])) _
    refine XS.iload X13.here hx rfl (hb hby at_71) rfl ?_
    show Steps p.tables e below (T13.setTop (mkF m 73 #[.val (.int p1), .val (.long q2), .second, .val (.long q3), .second, .val (.int p4), .val (.ref s'_3), .val (.int (Int32.ofNat (decB q3).length)), .val (.int (Int32.ofNat (decB p1.toInt64).length)), .val (.int (Int32.ofNat (29 + (decB q3).length + (decB p1.toInt64).length))), .val (.int (Int32.ofNat ix))] [(.int (Int32.ofNat (decB q3).length)), (.long q3), (.int p1), (.int (Int32.ofNat ix)), (.int ((bs'_3.getD ix 0) &&& (255 : Int32)))])) _
    refine XS.iload X13.here hx rfl (hb hby at_73) rfl ?_
    show Steps p.tables e below (T13.setTop (mkF m 75 #[.val (.int p1), .val (.long q2), .second, .val (.long q3), .second, .val (.int p4), .val (.ref s'_3), .val (.int (Int32.ofNat (decB q3).length)), .val (.int (Int32.ofNat (decB p1.toInt64).length)), .val (.int (Int32.ofNat (29 + (decB q3).length + (decB p1.toInt64).length))), .val (.int (Int32.ofNat ix))] [(.int (Int32.ofNat (decB p1.toInt64).length)), (.int (Int32.ofNat (decB q3).length)), (.long q3), (.int p1), (.int (Int32.ofNat ix)), (.int ((bs'_3.getD ix 0) &&& (255 : Int32)))])) _
    exact k
  obtain ⟨_, _, ⟨T14, L14, k14, n14⟩, -, Xq14, hSq14, hgq14, ⟨Lc14, hQ14, l14, y14, z14, hRq14⟩, st14⟩ := callSS X13 hx (y := (⟨"com/example/tranche/tranche/journal/JournalEndTornTailPinLaw", "expectedAt", "(IIJII)C"⟩ : MethodName)) hown (mvT hZ (hw _ (List.mem_of_getElem? (i := 252) rfl))) (mvT hZ (hw _ (List.mem_of_getElem? (i := 253) rfl))) (mvT hZ (hw _ (List.mem_of_getElem? (i := 208) rfl))) (mvT hZ (hw _ (List.mem_of_getElem? (i := 254) rfl))) (by decide) (backOfSH (W := 1) (rm44 l Z a0 hw [] p1 q3 T3.heap n0 cs ix fv CS hcs O3 (by omega) (by omega) (by omega) FS hfv Z3) hZ (hw _ (List.mem_of_getElem? (i := 254) rfl)) (hw _ (List.mem_of_getElem? (i := 208) rfl)) (by decide) (by decide) hEL R3.1) (g := (mkF m 75 #[.val (.int p1), .val (.long q2), .second, .val (.long q3), .second, .val (.int p4), .val (.ref s'_3), .val (.int (Int32.ofNat (decB q3).length)), .val (.int (Int32.ofNat (decB p1.toInt64).length)), .val (.int (Int32.ofNat (29 + (decB q3).length + (decB p1.toInt64).length))), .val (.int (Int32.ofNat ix))] [(.int (Int32.ofNat (decB p1.toInt64).length)), (.int (Int32.ofNat (decB q3).length)), (.long q3), (.int p1), (.int (Int32.ofNat ix)), (.int ((bs'_3.getD ix 0) &&& (255 : Int32)))])) rfl (by rw [hml]; rfl) (argsL := [(.int (Int32.ofNat ix)), (.int p1), (.long q3), (.int (Int32.ofNat (decB q3).length)), (.int (Int32.ofNat (decB p1.toInt64).length))]) (rest := [(.int ((bs'_3.getD ix 0) &&& (255 : Int32)))]) (lenOf pd34 rfl) rfl (by show 2 * 0 + _ ≤ _; exact Nat.le_of_eq rfl) (hb hby at_75) (fun _ _ => ⟨rfl, e13, (by decide : 13 + 5 ≤ _), (by decide : 861 + 143 ≤ _)⟩)
  dsimp only [Pt.U, Pt.locs, Pt.cells, Pt.slots] at Xq14 hSq14 hgq14 l14 y14 z14 st14 hQ14 hRq14
  subst l14 y14 z14
  obtain ⟨X14, hS, hZ, hown⟩ := rebS hS (by rw [show T13.heap = T3.heap from e13]; exact hkw3) Xq14 hSq14 hgq14 hZ hown
  obtain ⟨rfl, N14q, Kc14⟩ := hQ14
  have N14 := Fr.app N13 N14q
  have E_b1_14 := E_b1_3.keep Kc14
  have F_b1_lines_14 := F_b1_lines_3.keep Kc14 nin0
  have F_b1_offset_14 := F_b1_offset_3.keep Kc14 nin0
  have F_b1_tornBytes_14 := F_b1_tornBytes_3.keep Kc14 nin0
  have E_s__3_14 := G3_0.keep Kc14
  have F_s__3_coder_14 := G3_1.keep Kc14 nin0
  have F_s__3_value_14 := G3_2.keep Kc14 nin0
  have V_d__3_14 := G3_3.keep Kc14 nin0
  have K14 : Keep h0 T14.heap [] := K3.trans Kc14 all0
  have Z14 : n0 ≤ T14.heap.size := Nat.le_trans Z3 Kc14.1
  have O14 := Old.keep O3 Kc14 all0
  have r14 := hRq14
  have R14 := R3.trans r14
  have hk14 := Nat.le_trans hkw3 Kc14.1
  have hkw14 : T14.heap.size ≤ T14.heap.size := Nat.le_refl _
  have hfin : ((bs'_3.getD ix 0) &&& (255 : Int32)) = (expV ix p1 q3) := by rw [eqb_3]; exact law_at hlt
  refine hneg ?_
  have hR := R14.trans (CHv.at X14 hZ hEL R14.1)
  obtain ⟨fs, hr, hrun, hended, hW⟩ := X14.leaveW (v := some (.int (1 : Int32))) hS (by rw [show T14.heap = T14.heap from rfl]; exact hkw14) (fun h => by rw [Bd.returns] at h; cases h)
  refine ⟨_, _, pre15 _ ?_, hrun, hended, _, _, rfl, ?_, ?_, rew_mono hW (by decide) (by decide)⟩
  · refine st14.trans ?_
    show Steps p.tables e below (T14.setTop (mkF m 78 #[.val (.int p1), .val (.long q2), .second, .val (.long q3), .second, .val (.int p4), .val (.ref s'_3), .val (.int (Int32.ofNat (decB q3).length)), .val (.int (Int32.ofNat (decB p1.toInt64).length)), .val (.int (Int32.ofNat (29 + (decB q3).length + (decB p1.toInt64).length))), .val (.int (Int32.ofNat ix))] [(.int (expV ix p1 q3)), (.int ((bs'_3.getD ix 0) &&& (255 : Int32)))])) _
    refine XS.icmpNo X14.here hx rfl (hb hby at_78) rfl (teq hfin).2 ?_
    show Steps p.tables e below (T14.setTop (mkF m 81 #[.val (.int p1), .val (.long q2), .second, .val (.long q3), .second, .val (.int p4), .val (.ref s'_3), .val (.int (Int32.ofNat (decB q3).length)), .val (.int (Int32.ofNat (decB p1.toInt64).length)), .val (.int (Int32.ofNat (29 + (decB q3).length + (decB p1.toInt64).length))), .val (.int (Int32.ofNat ix))] [])) _
    refine XS.iconst X14.here hx rfl (hb hby at_81) ?_
    show Steps p.tables e below (T14.setTop (mkF m 82 #[.val (.int p1), .val (.long q2), .second, .val (.long q3), .second, .val (.int p4), .val (.ref s'_3), .val (.int (Int32.ofNat (decB q3).length)), .val (.int (Int32.ofNat (decB p1.toInt64).length)), .val (.int (Int32.ofNat (29 + (decB q3).length + (decB p1.toInt64).length))), .val (.int (Int32.ofNat ix))] [(.int (1 : Int32))])) _
    refine XS.goto X14.here hx rfl (pc0 := 82) (pc' := 86) rfl (hb hby at_82) (by decide) (by decide) ?_
    show Steps p.tables e below (T14.setTop (mkF m 86 #[.val (.int p1), .val (.long q2), .second, .val (.long q3), .second, .val (.int p4), .val (.ref s'_3), .val (.int (Int32.ofNat (decB q3).length)), .val (.int (Int32.ofNat (decB p1.toInt64).length)), .val (.int (Int32.ofNat (29 + (decB q3).length + (decB p1.toInt64).length))), .val (.int (Int32.ofNat ix))] [(.int (1 : Int32))])) _
    exact retN X14 hx (t := .boolean) Bd.returns (by simp) (hb hby at_86) hr
  · show Q0 Z p1 q2 q3 p4 cs fv h0 n0 _ T14.heap _
    exact ⟨rfl, N14⟩
  · show CHr Z consts_1 s.vm s.heap T14.vm T14.heap
    rw [hh, show T14.heap = T14.heap from rfl]; exact hR
theorem own_eqt {args : Array Value} {s s' : State} {o : Option Outcome} {idx : List Nat} {t u : Jvm.Term} {k : Int32} (h : (Jvm.Cond.eq t u).value args s o s' idx = some true) (hu : u.eval args s o idx s' = some (.int k)) : t.eval args s o idx s' = some (.int k) := by
  cases ht : t.eval args s o idx s' with
  | none => simp only [Cond.value, ht, hu] at h; exact absurd h (by simp)
  | some z =>
    cases z <;> simp only [Cond.value, ht, hu] at h <;> first | (simp only [Option.some.injEq, decide_eq_true_eq] at h; rw [h]) | exact absurd h (by simp)
theorem len_100 {args : Array Value} {s : State} {t : Jvm.Term} {d : Addr} {D : Cell} (ev : t.eval args s none [] s = some (.ref d)) (ha : s.arrayAt? d = some D) (hl : (Jvm.Term.length t).eval args s none [] s = some (.int 100)) : D.slots.size = 100 := by
  by_cases h31 : D.slots.size < 2 ^ 31
  · rw [len_f ev ha h31] at hl
    have q := congrArg Int32.toInt (Value.int.inj (Option.some.inj hl))
    rw [show D.slots.size.toInt32.toInt = (D.slots.size : Int) from len_toInt h31] at q
    have : (100 : Int32).toInt = 100 := by decide
    omega
  · simp [Term.eval, ev, ha, h31] at hl
theorem tbl_vals {args : Array Value} {s : State} {name : String} {G : Jvm.Term} {val : Nat → Nat} (wS : (Cond.laysStatic SBG.INT name "[B").before args s = true)
    (wI : (Cond.initializedFor SBG.INT name "[B").before args s = true) (wX : (Cond.exactly (.static SBG.INT name "[B") "[B").before args s = true) (wE : (Cond.eq (.length (.static SBG.INT name "[B")) (.int 100)).before args s = true)
    (wA : (Cond.all (.static SBG.INT name "[B") (.eq (.elem (.static SBG.INT name "[B") (.index 0)) G)).before args s = true) (harr : (Cond.arrayClass .byte).before args s = true) (hG : ∀ r, r < 100 → G.eval args s none [r] s = some (.int (Int32.ofNat (48 + val r)))) :
    ∃ (c : ClassId) (k : Class) (st d : Addr) (D : Cell), s.vm.findClass SBG.INT = some c ∧ s.vm.classes[c]? = some k ∧ k.statics = some st ∧ SBG.Tbl s name st d D ∧ ∀ r, r < 100 → SBG.iAt D r = Int32.ofNat (48 + val r) := by
  obtain ⟨d, ev⟩ := exa_v (Cond.before_iff.mp wX)
  have E := exa_at ev (Cond.before_iff.mp wX)
  have evs : ∀ idx, (Jvm.Term.static SBG.INT name "[B").eval args s none idx s = some (.ref d) := fun idx => by simpa [Term.eval] using ev
  have hl := own_eqt (Cond.before_iff.mp wE) (Term.int_eval (100))
  obtain ⟨d', D, hev', harrAt, -⟩ := Term.length_spec hl
  cases ev.symm.trans hev'
  obtain ⟨hcellD, hknD, -, -⟩ := State.arrayAt?_spec harrAt
  have hsz : D.slots.size = 100 := len_100 ev harrAt hl
  obtain ⟨cell, kE, e1, e2, e3, e4, -⟩ := E
  cases hcellD.symm.trans e1
  obtain ⟨cB, kB, comp, b1, b2, b3⟩ := Cond.arrayClass_spec harr
  rw [show ("[" ++ FieldType.toString .byte) = "[B" from by decide] at b1
  cases b1.symm.trans e2
  obtain ⟨c, k, i, f, st, cl, hc, hi, hst, ha, hcl, hs, -, -, -⟩ := Cond.laysStatic_spec wS
  obtain ⟨cf', i', k', f', st', cl', g1, g2, g3, g4, g5, g6, g7⟩ := Sta.start ev (Or.inl wI)
  cases hi.symm.trans g1
  have at' : ∀ r, r < 100 → D.slots[r]? = some (.int (Int32.ofNat (48 + val r))) := fun r hr => by
    have q := own_eqt (Cond.all_elim (ev) harrAt (Cond.before_iff.mp wA) r (by omega)) (hG r hr)
    have hj : (Jvm.Term.index 0).eval args s none [r] s = some (.int (Int32.ofNat r)) := rfl
    rw [elem_f (evs _) hj harrAt (ofN_nn (by omega)), ofN_nat (by omega)] at q
    exact q
  have iat : ∀ r, r < 100 → SBG.iAt D r = Int32.ofNat (48 + val r) := fun r hr => by
    unfold SBG.iAt; rw [SBG.getD_of (at' r hr)]
  refine ⟨c, k, st', d, D, hc, (State.fieldFound?_spec hi).1, g4, ⟨c, i, k, f, cl', hi, g2, g3, g4, g5, (fun q => by rw [q] at g6; cases g6), g7, hcellD, ⟨(fun q h => by rw [h] at e4; cases e4), kB, b2, comp, b3⟩, hknD, hsz, fun r hr => ?_⟩, iat⟩
  rw [iat r hr]; exact at' r hr
theorem digT_of {args : Array Value} {s : State} (hsets : ∀ d ∈ jdkStatics_1, d.before args s = true) (harr : (Cond.arrayClass .byte).before args s = true) : DigT s := by
  have on : ∀ r : Fin 100, (48 : Int32) + (Int32.ofNat r.val % 10) = Int32.ofNat (48 + r.val % 10) := by decide
  have te : ∀ r : Fin 100, (48 : Int32) + (Int32.ofNat r.val / 10) = Int32.ofNat (48 + r.val / 10) := by decide
  obtain ⟨c, k, st, d1, D1, h1, h2, h3, t1, o1⟩ := tbl_vals (val := fun r => r % 10) (hsets _ (List.mem_of_getElem? (i := 10) rfl)) (hsets _ (List.mem_of_getElem? (i := 11) rfl)) (hsets _ (List.mem_of_getElem? (i := 12) rfl)) (hsets _ (List.mem_of_getElem? (i := 13) rfl)) (hsets _ (List.mem_of_getElem? (i := 14) rfl)) harr
    (fun r hr => by rw [← on ⟨r, hr⟩]; rfl)
  obtain ⟨c', k', st', d2, D2, g1, g2, g3, t2, o2⟩ := tbl_vals (val := fun r => r / 10) (hsets _ (List.mem_of_getElem? (i := 15) rfl)) (hsets _ (List.mem_of_getElem? (i := 16) rfl)) (hsets _ (List.mem_of_getElem? (i := 17) rfl)) (hsets _ (List.mem_of_getElem? (i := 18) rfl)) (hsets _ (List.mem_of_getElem? (i := 19) rfl)) harr
    (fun r hr => by rw [← te ⟨r, hr⟩]; rfl)
  cases h1.symm.trans g1
  cases h2.symm.trans g2
  cases h3.symm.trans g3
  exact ⟨st, d1, D1, d2, D2, t1, t2, o1, o2⟩
set_option maxRecDepth 65536 in
set_option maxHeartbeats 40000000 in
theorem comes_1 {Post : Tables → Env → Array Value → State → Outcome → State → Prop} (hpost : ∀ tb e args s v u, (limb_1_1.after args s (.returned v) u = true ∧ limb_1_2.after args s (.returned v) u = true ∧ True) → FramedW s (.returned v) u (Jvm.fieldLocs frame_1_writes args s ++ Jvm.arrayLocs frame_1_arrays args s ++ Jvm.staticLocs frame_1_statics s) 32 4608 → Post tb e args s (.returned v) u) :
    ArmFor flags0 classFile x code maxLocals ret World_1 tables_1 room_1 Calls_1 rest_1 Pre_1 Post := by
  intro l hfl _ _ p e ha hc hk s m args below hf hA hF happ hP
  obtain ⟨hcalls, hrest, hpre⟩ := hP
  obtain ⟨-, -, -, hnamed, -, -, -, hat⟩ := (Spec.applies_iff hf).mp happ
  obtain ⟨hg, hn⟩ := and_e (Cond.before_iff.mp (show (Jvm.Cond.and given_1 narrow_1).before args s = true from hpre))
  obtain ⟨gc, g0⟩ := and_e hg
  obtain ⟨ga0, gb0⟩ := and_e g0
  obtain ⟨ga1, gb1⟩ := and_e gb0
  obtain ⟨ga2, gb2⟩ := and_e gb1
  obtain ⟨w0, w1, w2, w3, rfl⟩ : ∃ w0 w1 w2 w3 : Value, args = #[w0, w1, w2, w3] := by
    have hs : args.size = 4 := by simpa [Cond.value, given_1] using gc
    obtain ⟨L⟩ := args
    match L, hs with
    | [w0, w1, w2, w3], _ => exact ⟨w0, w1, w2, w3, rfl⟩
  have hw := fun d (hd : d ∈ tables_1) => atoms_spec (ws := Jvm.Cond.code x code maxLocals ret :: tables_1) hat d (List.mem_cons_of_mem _ hd)
  have hfit : Fit s := fun {y c} hc i hi => by
    obtain ⟨ha, rfl⟩ := Array.getElem?_eq_some_iff.mp hc
    have q := List.all_eq_true.mp ((Array.all_eq_true_iff_forall_mem.mp hF) _ (Array.getElem_mem ha)) i (List.mem_range.mpr hi)
    simpa [Array.getElem?_eq_getElem hi] using q
  obtain ⟨i0, ei0⟩ := is_v ga0
  obtain rfl : w0 = (.int i0) := Option.some.inj ei0
  obtain ⟨i1, ei1⟩ := isL_v ga1
  obtain rfl : w1 = (.long i1) := Option.some.inj ei1
  obtain ⟨i2, ei2⟩ := isL_v ga2
  obtain rfl : w2 = (.long i2) := Option.some.inj ei2
  obtain ⟨i3, ei3⟩ := is_v gb2
  obtain rfl : w3 = (.int i3) := Option.some.inj ei3
  obtain ⟨hsets, hown0⟩ := atoms_of _ (rest_1_c_eq ▸ (show rest_1_c.before _ s = true from hrest))
  have n3 := not_v (Cond.before_iff.mp (hsets _ (List.mem_of_getElem? (i := 2) rfl)))
  obtain ⟨cs, e6⟩ := is_v (Cond.before_iff.mp (hsets _ (List.mem_of_getElem? (i := 1) rfl)))
  have CS : Sta s s.heap "java/lang/String" "COMPACT_STRINGS" "Z" (.int cs) := Sta.start e6 (Or.inl (hsets _ (List.mem_of_getElem? (i := 0) rfl)))
  obtain ⟨fv, e10, r11⟩ := isR_v (Cond.before_iff.mp (hsets _ (List.mem_of_getElem? (i := 8) rfl)))
  have FS : Sta s s.heap "jdk/internal/util/Preconditions" "SIOOBE_FORMATTER" "Ljava/util/function/BiFunction;" fv := Sta.start e10 (Or.inl (hsets _ (List.mem_of_getElem? (i := 7) rfl)))
  have hcs : ¬ (cs = (0 : Int32)) := gotF (Cond.eq_ints e6 (Term.int_eval (0))) n3
  have hfv : fv = .null ∨ ∃ a, fv = .ref a := by cases fv <;> simp_all [Value.isRef]
  have TB := digT_of hsets (hw _ (List.mem_of_getElem? (i := 40) rfl))
  have hCH : CHv s consts_1 s.vm s.heap := CHv.start (ew_1 hw) hcalls.1 (hsets _ (List.mem_of_getElem? (i := 2) rfl)) (hw _ (List.mem_of_getElem? (i := 40) rfl)) (hw _ (List.mem_of_getElem? (i := 46) rfl))
  obtain ⟨n, o, h1, h2, h3, v, L, rfl, ⟨hv1, N⟩, -, hq⟩ := rm0 l s _ hw tables_1 i0 i1 i2 i3 s.heap s.heap.size cs fv CS hcs (Old.start s) TB FS hfv (Nat.le_refl _) p e ha hc hk s m _ below hf ((Spec.applies_iff_loose hf).mp happ).1 ⟨rfl, State.Warmed39.refl s, rfl, hCH⟩ trivial
  subst hv1
  refine ⟨n, _, h1, h2, h3, hpost _ _ _ _ _ _ ⟨Cond.after_iff.mpr rfl, Cond.after_iff.mpr (eq_i res_at (Term.int_eval (1)) rfl), trivial⟩ ⟨hq.1, hq.2.1, hq.2.2.1, (hq.2.2.2.sift fun y hy => Or.inr (N y hy)).mono (by decide) (by decide)⟩⟩
theorem main_1_1 : Claimed_1_1 := comes_1 fun _ _ _ _ _ _ h hF => ⟨h.1, hF⟩
theorem main_1_2 : Claimed_1_2 := comes_1 fun _ _ _ _ _ _ h hF => ⟨h.2.1, hF⟩
end Jvm.Pilot.@@N@@
namespace Jvm.Pilot.@@N@@
open Jvm Jvm.ClassFile Sem Op Lib Jvm.Free Jvm.Stand Jvm.Pilot.@@N@@.Jvm.D
/-! MADE BY PROGRAM (witnessworld.py) out of the Statement's table words and the real class files: 29 classes; the members and pool entries that the words name. The judged class is class 1, her method 1. -/
namespace start1
open Jvm.ClassFile
def u (s : String) : CpInfo := .utf8 (stringToUtf16 s)
/-- a pool by its gaps: so many unusable entries, then the entry; so many at the end -/
def gap : Nat → List CpInfo → List CpInfo
  | 0, r => r
  | n + 1, r => .unusable :: gap n r
def poolList (es : List (Nat × CpInfo)) (last : Nat) : List CpInfo := es.foldr (fun e r => gap e.1 (e.2 :: r)) (gap last [])
def pool (es : List (Nat × CpInfo)) (last : Nat) : Array CpInfo := ⟨poolList es last⟩
def fileOf (pool : Array CpInfo) (this : Nat) (attrs : Array Attribute := #[]) (ms : Array MethodInfo := #[]) (fl : Nat := 33) (sup : Nat := 0) (ifs : Array Nat := #[]) (fds : Array FieldInfo := #[]) : ClassFile where
  minorVersion := 0
  majorVersion := 65
  constantPool := pool
  accessFlags := fl
  thisClass := this
  superClass := sup
  interfaces := ifs
  fields := fds
  methods := ms
  attributes := attrs
def plain (name : String) (sup : Option ClassId) : Class where
  name := name
  kind := .ordinary
  loader := none
  accessFlags := 33
  super := sup
  interfaces := #[]
  cf := none
  fields := #[]
  methods := #[]
  instanceTypes := #[]
  staticTypes := #[]
  resolved := #[]
  callSites := []
  init := .initialized
  statics := none
  mirror := none

def pool0 : Array CpInfo := pool [(5, u "<init>"), (0, u "()V"), (1, .class_ 10), (1, u "java/lang/Object"), (85, u "clone"), (0, u "()Ljava/lang/Object;")] 26

def k0c0 : Code := { maxStack := 0, maxLocals := 1, code := object_method_1_code, exceptionTable := #[], attributes := #[] }
def k0m0 : Method := { name := "<init>", desc := "()V", sig := { parameters := [], returnType := none }, accessFlags := 1, code := some k0c0 }
def k0m1 : Method := { name := "clone", desc := "()Ljava/lang/Object;", sig := { parameters := [], returnType := some (.object "java/lang/Object") }, accessFlags := 260, code := none }
/-- java/lang/Object -/
def k0 : Class := { plain "java/lang/Object" none with
  accessFlags := 33
  interfaces := #[]
  cf := some (fileOf pool0 8 #[] #[{ accessFlags := 1, nameIndex := 5, descriptorIndex := 6, attributes := #[] }, { accessFlags := 260, nameIndex := 96, descriptorIndex := 97, attributes := #[] }] 33 0 #[] #[])
  fields := #[]
  methods := #[k0m0, k0m1]
  instanceTypes := #[]
  staticTypes := #[]
  resolved := Array.replicate 124 none
  statics := none }

def pool1 : Array CpInfo := pool [(2, .class_ 4), (1, u "java/lang/Object"), (0, u "<init>"), (0, u "()V"), (0, .class_ 8), (0, u "com/example/tranche/tranche/journal/JournalEnd"), (0, .methodref 7 10), (0, .nameAndType 5 11), (0, u "(IJJ)V"), (0, .methodref 7 13), (0, .nameAndType 14 15), (0, u "tornTail"), (0, u "()Ljava/lang/String;"), (0, .methodref 17 18), (0, .class_ 19), (0, .nameAndType 20 21), (0, u "com/example/tranche/tranche/journal/JournalEndTornTailPinLaw"), (0, u "decLen"), (0, u "(J)I"), (0, .methodref 23 24), (0, .class_ 25), (0, .nameAndType 26 27), (0, u "java/lang/String"), (0, u "length"), (0, u "()I"), (0, .integer 2147483647), (0, .methodref 23 30), (0, .nameAndType 31 32), (0, u "charAt"), (0, u "(I)C"), (0, .methodref 17 34), (0, .nameAndType 35 36), (0, u "expectedAt"), (0, u "(IIJII)C"), (0, .string 38), (0, u "torn tail: "), (0, .string 40), (0, u " bytes after line "), (0, .methodref 17 42), (0, .nameAndType 43 44), (0, u "digitChar"), (0, u "(JII)C"), (0, .long 18446744073709551606), (1, .long 18446744073709551516), (1, .long 18446744073709550616), (1, .long 18446744073709541616), (1, .long 18446744073709451616), (1, .long 18446744073708551616), (1, .long 18446744073699551616), (1, .long 18446744073609551616), (1, .long 18446744072709551616), (1, .long 18446744063709551616), (1, .long 18446743973709551616), (1, .long 18446743073709551616), (1, .long 18446734073709551616), (1, .long 18446644073709551616), (1, .long 18445744073709551616), (1, .long 18436744073709551616), (1, .long 18346744073709551616), (1, .long 17446744073709551616), (1, .long 10), (1, .long 100), (1, .long 1000), (1, .long 10000), (1, .long 100000), (1, .long 1000000), (1, .long 10000000), (1, .long 100000000), (1, .long 1000000000), (1, .long 10000000000), (1, .long 100000000000), (1, .long 1000000000000), (1, .long 10000000000000), (1, .long 100000000000000), (1, .long 1000000000000000), (1, .long 10000000000000000), (1, .long 100000000000000000), (1, .long 1000000000000000000), (1, .methodref 17 118), (0, .nameAndType 119 120), (0, u "pow10"), (0, u "(I)J"), (0, .methodref 122 123), (0, .class_ 124), (0, .nameAndType 125 126), (0, u "java/lang/Math"), (0, u "abs"), (0, u "(J)J"), (2, u "law"), (0, u "(IJJI)Z")] 3

def k1m0 : Method := { name := "<init>", desc := "()V", sig := { parameters := [], returnType := none }, accessFlags := 1, code := none }
def k1c1 : Code := { maxStack := 7, maxLocals := 11, code := code, exceptionTable := #[], attributes := #[] }
def k1m1 : Method := { name := "law", desc := "(IJJI)Z", sig := { parameters := [.int, .long, .long, .int], returnType := some .boolean }, accessFlags := 9, code := some k1c1 }
def k1c2 : Code := { maxStack := 5, maxLocals := 8, code := method_3_code, exceptionTable := #[], attributes := #[] }
def k1m2 : Method := { name := "expectedAt", desc := "(IIJII)C", sig := { parameters := [.int, .int, .long, .int, .int], returnType := some .char }, accessFlags := 10, code := some k1c2 }
def k1c3 : Code := { maxStack := 4, maxLocals := 5, code := method_4_code, exceptionTable := #[], attributes := #[] }
def k1m3 : Method := { name := "decLen", desc := "(J)I", sig := { parameters := [.long], returnType := some .int }, accessFlags := 10, code := some k1c3 }
def k1c4 : Code := { maxStack := 5, maxLocals := 2, code := method_5_code, exceptionTable := #[], attributes := #[] }
def k1m4 : Method := { name := "pow10", desc := "(I)J", sig := { parameters := [.int], returnType := some .long }, accessFlags := 10, code := some k1c4 }
def k1c5 : Code := { maxStack := 4, maxLocals := 7, code := method_6_code, exceptionTable := #[], attributes := #[] }
def k1m5 : Method := { name := "digitChar", desc := "(JII)C", sig := { parameters := [.long, .int, .int], returnType := some .char }, accessFlags := 10, code := some k1c5 }
/-- com/example/tranche/tranche/journal/JournalEndTornTailPinLaw -/
def k1 : Class := { plain "com/example/tranche/tranche/journal/JournalEndTornTailPinLaw" (some 0) with
  accessFlags := 49
  interfaces := #[]
  cf := some (fileOf pool1 17 #[] #[{ accessFlags := 1, nameIndex := 5, descriptorIndex := 6, attributes := #[] }, { accessFlags := 9, nameIndex := 129, descriptorIndex := 130, attributes := #[] }, { accessFlags := 10, nameIndex := 35, descriptorIndex := 36, attributes := #[] }, { accessFlags := 10, nameIndex := 20, descriptorIndex := 21, attributes := #[] }, { accessFlags := 10, nameIndex := 119, descriptorIndex := 120, attributes := #[] }, { accessFlags := 10, nameIndex := 43, descriptorIndex := 44, attributes := #[] }] 49 2 #[] #[])
  fields := #[]
  methods := #[k1m0, k1m1, k1m2, k1m3, k1m4, k1m5]
  instanceTypes := #[]
  staticTypes := #[]
  resolved := Array.replicate 134 none
  statics := none }

def pool2 : Array CpInfo := pool [(1, .methodref 2 3), (0, .class_ 4), (0, .nameAndType 5 6), (0, u "java/lang/Object"), (0, u "<init>"), (0, u "()V"), (0, .class_ 8), (0, u "java/lang/Record")] 13

def k2c0 : Code := { maxStack := 1, maxLocals := 1, code := jdk_30_method_1_code, exceptionTable := #[], attributes := #[] }
def k2m0 : Method := { name := "<init>", desc := "()V", sig := { parameters := [], returnType := none }, accessFlags := 4, code := some k2c0 }
/-- java/lang/Record -/
def k2 : Class := { plain "java/lang/Record" (some 0) with
  accessFlags := 1057
  interfaces := #[]
  cf := some (fileOf pool2 7 #[] #[{ accessFlags := 4, nameIndex := 5, descriptorIndex := 6, attributes := #[] }] 1057 2 #[] #[])
  fields := #[]
  methods := #[k2m0]
  instanceTypes := #[]
  staticTypes := #[]
  resolved := Array.replicate 22 none
  statics := none }

def pool3 : Array CpInfo := pool [(1, .methodref 2 3), (0, .class_ 4), (0, .nameAndType 5 6), (0, u "java/lang/Record"), (0, u "<init>"), (0, u "()V"), (0, .fieldref 8 9), (0, .class_ 10), (0, .nameAndType 11 12), (0, u "com/example/tranche/tranche/journal/JournalEnd"), (0, u "lines"), (0, u "I"), (0, .fieldref 8 14), (0, .nameAndType 15 16), (0, u "offset"), (0, u "J"), (0, .fieldref 8 18), (0, .nameAndType 19 16), (0, u "tornBytes"), (0, .class_ 21), (0, u "java/lang/StringBuilder"), (0, .methodref 20 3), (0, .string 24), (0, u "torn tail: "), (0, .methodref 20 26), (0, .nameAndType 27 28), (0, u "append"), (0, u "(Ljava/lang/String;)Ljava/lang/StringBuilder;"), (0, .methodref 20 30), (0, .nameAndType 27 31), (0, u "(J)Ljava/lang/StringBuilder;"), (0, .string 33), (0, u " bytes after line "), (0, .methodref 20 35), (0, .nameAndType 27 36), (0, u "(I)Ljava/lang/StringBuilder;"), (0, .methodref 20 38), (0, .nameAndType 39 40), (0, u "toString"), (0, u "()Ljava/lang/String;"), (9, u "tornTail"), (11, u "(IJJ)V")] 33

def k3c0 : Code := { maxStack := 3, maxLocals := 6, code := prog_8_method_1_code, exceptionTable := #[], attributes := #[] }
def k3m0 : Method := { name := "<init>", desc := "(IJJ)V", sig := { parameters := [.int, .long, .long], returnType := none }, accessFlags := 1, code := some k3c0 }
def k3c1 : Code := { maxStack := 3, maxLocals := 1, code := prog_8_method_3_code, exceptionTable := #[], attributes := #[] }
def k3m1 : Method := { name := "tornTail", desc := "()Ljava/lang/String;", sig := { parameters := [], returnType := some (.object "java/lang/String") }, accessFlags := 1, code := some k3c1 }
/-- com/example/tranche/tranche/journal/JournalEnd -/
def k3 : Class := { plain "com/example/tranche/tranche/journal/JournalEnd" (some 2) with
  accessFlags := 49
  interfaces := #[]
  cf := some (fileOf pool3 8 #[] #[{ accessFlags := 1, nameIndex := 5, descriptorIndex := 62, attributes := #[] }, { accessFlags := 1, nameIndex := 50, descriptorIndex := 40, attributes := #[] }] 49 2 #[] #[{ accessFlags := 18, nameIndex := 11, descriptorIndex := 12, attributes := #[] }, { accessFlags := 18, nameIndex := 15, descriptorIndex := 16, attributes := #[] }, { accessFlags := 18, nameIndex := 19, descriptorIndex := 16, attributes := #[] }])
  fields := #[{ name := "lines", type := .int, accessFlags := 18, slot := 0, constantValue := 0 }, { name := "offset", type := .long, accessFlags := 18, slot := 1, constantValue := 0 }, { name := "tornBytes", type := .long, accessFlags := 18, slot := 2, constantValue := 0 }]
  methods := #[k3m0, k3m1]
  instanceTypes := #[.int, .long, .long]
  staticTypes := #[]
  resolved := Array.replicate 96 none
  statics := none }

def pool4 : Array CpInfo := pool [(1, .class_ 2), (0, u "java/lang/Appendable"), (0, .class_ 4), (0, u "java/lang/Object")] 9

/-- java/lang/Appendable -/
def k4 : Class := { plain "java/lang/Appendable" (some 0) with
  accessFlags := 1537
  interfaces := #[]
  cf := some (fileOf pool4 1 #[] #[] 1537 3 #[] #[])
  fields := #[]
  methods := #[]
  instanceTypes := #[]
  staticTypes := #[]
  resolved := Array.replicate 14 none
  statics := none }

def pool5 : Array CpInfo := pool [(2, .class_ 4), (1, u "java/lang/CharSequence"), (42, .class_ 48), (0, u "java/lang/CharSequence$1CodePointIterator"), (10, .class_ 60), (0, u "java/lang/CharSequence$1CharIterator"), (5, .class_ 67), (0, u "java/lang/Object")] 63

/-- java/lang/CharSequence -/
def k5 : Class := { plain "java/lang/CharSequence" (some 0) with
  accessFlags := 1537
  interfaces := #[]
  cf := some (fileOf pool5 2 #[.nestMembers #[47, 59]] #[] 1537 66 #[] #[])
  fields := #[]
  methods := #[]
  instanceTypes := #[]
  staticTypes := #[]
  resolved := Array.replicate 131 none
  statics := none }

def pool6 : Array CpInfo := pool [(1, .class_ 2), (0, u "java/lang/String"), (0, .methodref 4 5), (0, .class_ 6), (0, .nameAndType 7 8), (0, u "java/lang/Object"), (0, u "<init>"), (0, u "()V"), (1, .class_ 12), (1, u "java/lang/AbstractStringBuilder"), (0, u "EMPTYVALUE"), (0, u "[B"), (0, .fieldref 10 16), (0, .nameAndType 17 14), (0, u "value"), (0, .fieldref 1 19), (0, .nameAndType 20 21), (0, u "COMPACT_STRINGS"), (0, u "Z"), (0, .fieldref 10 23), (0, .nameAndType 24 25), (0, u "coder"), (0, u "B"), (6, .methodref 1 33), (0, .nameAndType 34 35), (0, u "length"), (0, u "()I"), (0, .class_ 37), (0, u "java/lang/Integer"), (1, .integer 2147483647), (0, .methodref 1 41), (0, .nameAndType 24 42), (0, u "()B"), (2, u "append"), (0, u "(Ljava/lang/String;)Ljava/lang/AbstractStringBuilder;"), (1, .class_ 49), (0, u "java/lang/CharSequence"), (19, u "(Ljava/lang/String;)V"), (5, u "maybeLatin1"), (3, .fieldref 10 80), (0, .nameAndType 81 82), (0, u "count"), (0, u "I"), (0, .methodref 10 84), (0, .nameAndType 85 86), (0, u "isLatin1"), (0, u "()Z"), (13, .methodref 10 101), (0, .nameAndType 102 103), (0, u "ensureCapacityInternal"), (0, u "(I)V"), (0, .methodref 10 105), (0, .nameAndType 106 107), (0, u "newCapacity"), (0, u "(I)I"), (0, .methodref 109 110), (0, .class_ 111), (0, .nameAndType 112 113), (0, u "java/util/Arrays"), (0, u "copyOf"), (0, u "([BI)[B"), (0, .methodref 115 116), (0, .class_ 117), (0, .nameAndType 118 119), (0, u "jdk/internal/util/ArraysSupport"), (0, u "newLength"), (0, u "(III)I"), (68, u "getChars"), (19, .methodref 10 209), (0, .nameAndType 210 211), (0, u "putStringAt"), (0, u "(ILjava/lang/String;)V"), (5, u "inflateIfNeededFor"), (2, .nameAndType 221 222), (0, u "getBytes"), (0, u "([BIB)V"), (22, .methodref 36 246), (0, .nameAndType 247 107), (0, u "stringSize"), (0, .methodref 36 249), (0, .nameAndType 188 250), (0, u "(II[B)I"), (3, .methodref 255 256), (0, .class_ 257), (0, .nameAndType 247 258), (0, u "java/lang/Long"), (0, u "(J)I"), (0, .methodref 255 260), (0, .nameAndType 188 261), (0, u "(JI[B)I"), (135, .methodref 10 398), (0, .nameAndType 217 69), (0, .methodref 1 220), (3, u "()[B"), (40, .class_ 445), (0, u "java/lang/Appendable"), (65, u "(I)Ljava/lang/AbstractStringBuilder;"), (1, u "(J)Ljava/lang/AbstractStringBuilder;"), (38, u "getValue")] 56

def k6m0 : Method := { name := "<init>", desc := "()V", sig := { parameters := [], returnType := none }, accessFlags := 0, code := none }
def k6c1 : Code := { maxStack := 2, maxLocals := 2, code := jdk_68_method_2_code, exceptionTable := #[], attributes := #[] }
def k6m1 : Method := { name := "<init>", desc := "(I)V", sig := { parameters := [.int], returnType := none }, accessFlags := 0, code := some k6c1 }
def k6c2 : Code := { maxStack := 1, maxLocals := 1, code := jdk_68_method_6_code, exceptionTable := #[], attributes := #[] }
def k6m2 : Method := { name := "length", desc := "()I", sig := { parameters := [], returnType := some .int }, accessFlags := 1, code := some k6c2 }
def k6c3 : Code := { maxStack := 4, maxLocals := 3, code := jdk_68_method_9_code, exceptionTable := #[], attributes := #[] }
def k6m3 : Method := { name := "ensureCapacityInternal", desc := "(I)V", sig := { parameters := [.int], returnType := none }, accessFlags := 2, code := some k6c3 }
def k6c4 : Code := { maxStack := 5, maxLocals := 6, code := jdk_68_method_10_code, exceptionTable := #[], attributes := #[] }
def k6m4 : Method := { name := "newCapacity", desc := "(I)I", sig := { parameters := [.int], returnType := some .int }, accessFlags := 2, code := some k6c4 }
def k6c5 : Code := { maxStack := 3, maxLocals := 3, code := jdk_68_method_22_code, exceptionTable := #[], attributes := #[] }
def k6m5 : Method := { name := "append", desc := "(Ljava/lang/String;)Ljava/lang/AbstractStringBuilder;", sig := { parameters := [(.object "java/lang/String")], returnType := some (.object "java/lang/AbstractStringBuilder") }, accessFlags := 1, code := some k6c5 }
def k6c6 : Code := { maxStack := 4, maxLocals := 4, code := jdk_68_method_32_code, exceptionTable := #[], attributes := #[] }
def k6m6 : Method := { name := "append", desc := "(I)Ljava/lang/AbstractStringBuilder;", sig := { parameters := [.int], returnType := some (.object "java/lang/AbstractStringBuilder") }, accessFlags := 1, code := some k6c6 }
def k6c7 : Code := { maxStack := 5, maxLocals := 5, code := jdk_68_method_33_code, exceptionTable := #[], attributes := #[] }
def k6m7 : Method := { name := "append", desc := "(J)Ljava/lang/AbstractStringBuilder;", sig := { parameters := [.long], returnType := some (.object "java/lang/AbstractStringBuilder") }, accessFlags := 1, code := some k6c7 }
def k6c8 : Code := { maxStack := 1, maxLocals := 1, code := jdk_68_method_64_code, exceptionTable := #[], attributes := #[] }
def k6m8 : Method := { name := "getValue", desc := "()[B", sig := { parameters := [], returnType := some (.array .byte) }, accessFlags := 16, code := some k6c8 }
def k6c9 : Code := { maxStack := 1, maxLocals := 1, code := jdk_68_method_68_code, exceptionTable := #[], attributes := #[] }
def k6m9 : Method := { name := "isLatin1", desc := "()Z", sig := { parameters := [], returnType := some .boolean }, accessFlags := 16, code := some k6c9 }
def k6c10 : Code := { maxStack := 2, maxLocals := 2, code := jdk_68_method_71_code, exceptionTable := #[], attributes := #[] }
def k6m10 : Method := { name := "inflateIfNeededFor", desc := "(Ljava/lang/String;)V", sig := { parameters := [(.object "java/lang/String")], returnType := none }, accessFlags := 2, code := some k6c10 }
def k6c11 : Code := { maxStack := 4, maxLocals := 3, code := jdk_68_method_73_code, exceptionTable := #[], attributes := #[] }
def k6m11 : Method := { name := "putStringAt", desc := "(ILjava/lang/String;)V", sig := { parameters := [.int, (.object "java/lang/String")], returnType := none }, accessFlags := 2, code := some k6c11 }
/-- java/lang/AbstractStringBuilder -/
def k6 : Class := { plain "java/lang/AbstractStringBuilder" (some 0) with
  accessFlags := 1056
  interfaces := #[4, 5]
  cf := some (fileOf pool6 10 #[] #[{ accessFlags := 0, nameIndex := 7, descriptorIndex := 8, attributes := #[] }, { accessFlags := 0, nameIndex := 7, descriptorIndex := 103, attributes := #[] }, { accessFlags := 1, nameIndex := 34, descriptorIndex := 35, attributes := #[] }, { accessFlags := 2, nameIndex := 102, descriptorIndex := 103, attributes := #[] }, { accessFlags := 2, nameIndex := 106, descriptorIndex := 107, attributes := #[] }, { accessFlags := 1, nameIndex := 45, descriptorIndex := 46, attributes := #[] }, { accessFlags := 1, nameIndex := 45, descriptorIndex := 511, attributes := #[] }, { accessFlags := 1, nameIndex := 45, descriptorIndex := 513, attributes := #[] }, { accessFlags := 16, nameIndex := 552, descriptorIndex := 403, attributes := #[] }, { accessFlags := 16, nameIndex := 85, descriptorIndex := 86, attributes := #[] }, { accessFlags := 2, nameIndex := 217, descriptorIndex := 69, attributes := #[] }, { accessFlags := 2, nameIndex := 210, descriptorIndex := 211, attributes := #[] }] 1056 4 #[444, 48] #[{ accessFlags := 0, nameIndex := 17, descriptorIndex := 14, attributes := #[] }, { accessFlags := 0, nameIndex := 24, descriptorIndex := 25, attributes := #[] }, { accessFlags := 0, nameIndex := 75, descriptorIndex := 21, attributes := #[] }, { accessFlags := 0, nameIndex := 81, descriptorIndex := 82, attributes := #[] }, { accessFlags := 26, nameIndex := 13, descriptorIndex := 14, attributes := #[] }])
  fields := #[{ name := "value", type := (.array .byte), accessFlags := 0, slot := 0, constantValue := 0 }, { name := "coder", type := .byte, accessFlags := 0, slot := 1, constantValue := 0 }, { name := "maybeLatin1", type := .boolean, accessFlags := 0, slot := 2, constantValue := 0 }, { name := "count", type := .int, accessFlags := 0, slot := 3, constantValue := 0 }, { name := "EMPTYVALUE", type := (.array .byte), accessFlags := 26, slot := 0, constantValue := 0 }]
  methods := #[k6m0, k6m1, k6m2, k6m3, k6m4, k6m5, k6m6, k6m7, k6m8, k6m9, k6m10, k6m11]
  instanceTypes := #[(.array .byte), .byte, .boolean, .int]
  staticTypes := #[(.array .byte)]
  resolved := Array.replicate 609 none
  statics := none }

def pool7 : Array CpInfo := pool [(1, .class_ 2), (0, u "java/io/Serializable"), (0, .class_ 4), (0, u "java/lang/Object")] 2

/-- java/io/Serializable -/
def k7 : Class := { plain "java/io/Serializable" (some 0) with
  accessFlags := 1537
  interfaces := #[]
  cf := some (fileOf pool7 1 #[] #[] 1537 3 #[] #[])
  fields := #[]
  methods := #[]
  instanceTypes := #[]
  staticTypes := #[]
  resolved := Array.replicate 7 none
  statics := none }

def pool8 : Array CpInfo := pool [(1, .class_ 2), (0, u "java/lang/Comparable"), (0, .class_ 4), (0, u "java/lang/Object")] 7

/-- java/lang/Comparable -/
def k8 : Class := { plain "java/lang/Comparable" (some 0) with
  accessFlags := 1537
  interfaces := #[]
  cf := some (fileOf pool8 1 #[] #[] 1537 3 #[] #[])
  fields := #[]
  methods := #[]
  instanceTypes := #[]
  staticTypes := #[]
  resolved := Array.replicate 12 none
  statics := none }

def pool9 : Array CpInfo := pool [(1, .methodref 2 3), (0, .class_ 4), (0, .nameAndType 5 6), (0, u "java/lang/AbstractStringBuilder"), (0, u "<init>"), (0, u "(I)V"), (11, .class_ 20), (1, u "java/lang/String"), (3, .class_ 26), (1, u "java/lang/StringBuilder"), (0, u "append"), (0, u "(Ljava/lang/String;)Ljava/lang/StringBuilder;"), (0, .methodref 2 30), (0, .nameAndType 27 31), (0, u "(Ljava/lang/String;)Ljava/lang/AbstractStringBuilder;"), (21, .methodref 2 54), (0, .nameAndType 27 55), (0, u "(I)Ljava/lang/AbstractStringBuilder;"), (0, .methodref 2 57), (0, .nameAndType 27 58), (0, u "(J)Ljava/lang/AbstractStringBuilder;"), (78, .methodref 18 138), (0, .nameAndType 5 139), (0, u "(Ljava/lang/StringBuilder;)V"), (5, u "()V"), (10, u "()I"), (111, u "(I)Ljava/lang/StringBuilder;"), (12, u "(J)Ljava/lang/StringBuilder;"), (61, .methodref 2 344), (0, .nameAndType 345 156), (0, u "length"), (3, .class_ 350), (0, u "java/lang/Appendable"), (0, .class_ 352), (0, u "java/io/Serializable"), (0, .class_ 354), (0, u "java/lang/Comparable"), (0, .class_ 356), (0, u "java/lang/CharSequence"), (0, u "serialVersionUID"), (0, u "J"), (40, u "toString"), (0, u "()Ljava/lang/String;")] 21

def k9c0 : Code := { maxStack := 2, maxLocals := 1, code := jdk_67_method_1_code, exceptionTable := #[], attributes := #[] }
def k9m0 : Method := { name := "<init>", desc := "()V", sig := { parameters := [], returnType := none }, accessFlags := 1, code := some k9c0 }
def k9c1 : Code := { maxStack := 2, maxLocals := 2, code := jdk_67_method_7_code, exceptionTable := #[], attributes := #[] }
def k9m1 : Method := { name := "append", desc := "(Ljava/lang/String;)Ljava/lang/StringBuilder;", sig := { parameters := [(.object "java/lang/String")], returnType := some (.object "java/lang/StringBuilder") }, accessFlags := 1, code := some k9c1 }
def k9c2 : Code := { maxStack := 2, maxLocals := 2, code := jdk_67_method_15_code, exceptionTable := #[], attributes := #[] }
def k9m2 : Method := { name := "append", desc := "(I)Ljava/lang/StringBuilder;", sig := { parameters := [.int], returnType := some (.object "java/lang/StringBuilder") }, accessFlags := 1, code := some k9c2 }
def k9c3 : Code := { maxStack := 3, maxLocals := 3, code := jdk_67_method_16_code, exceptionTable := #[], attributes := #[] }
def k9m3 : Method := { name := "append", desc := "(J)Ljava/lang/StringBuilder;", sig := { parameters := [.long], returnType := some (.object "java/lang/StringBuilder") }, accessFlags := 1, code := some k9c3 }
def k9c4 : Code := { maxStack := 3, maxLocals := 1, code := jdk_67_method_42_code, exceptionTable := #[], attributes := #[] }
def k9m4 : Method := { name := "toString", desc := "()Ljava/lang/String;", sig := { parameters := [], returnType := some (.object "java/lang/String") }, accessFlags := 1, code := some k9c4 }
def k9c5 : Code := { maxStack := 1, maxLocals := 1, code := jdk_67_method_93_code, exceptionTable := #[], attributes := #[] }
def k9m5 : Method := { name := "length", desc := "()I", sig := { parameters := [], returnType := some .int }, accessFlags := 4161, code := some k9c5 }
/-- java/lang/StringBuilder -/
def k9 : Class := { plain "java/lang/StringBuilder" (some 6) with
  accessFlags := 49
  interfaces := #[4, 7, 8, 5]
  cf := some (fileOf pool9 24 #[] #[{ accessFlags := 1, nameIndex := 5, descriptorIndex := 145, attributes := #[] }, { accessFlags := 1, nameIndex := 27, descriptorIndex := 28, attributes := #[] }, { accessFlags := 1, nameIndex := 27, descriptorIndex := 268, attributes := #[] }, { accessFlags := 1, nameIndex := 27, descriptorIndex := 281, attributes := #[] }, { accessFlags := 1, nameIndex := 399, descriptorIndex := 400, attributes := #[] }, { accessFlags := 4161, nameIndex := 345, descriptorIndex := 156, attributes := #[] }] 49 2 #[349, 351, 353, 355] #[{ accessFlags := 24, nameIndex := 357, descriptorIndex := 358, attributes := #[] }])
  fields := #[{ name := "serialVersionUID", type := .long, accessFlags := 24, slot := 0, constantValue := 0 }]
  methods := #[k9m0, k9m1, k9m2, k9m3, k9m4, k9m5]
  instanceTypes := #[(.array .byte), .byte, .boolean, .int]
  staticTypes := #[.long]
  resolved := Array.replicate 422 none
  statics := none }

def pool10 : Array CpInfo := pool [(1, .class_ 2), (0, u "java/lang/constant/Constable"), (0, .class_ 4), (0, u "java/lang/Object")] 6

/-- java/lang/constant/Constable -/
def k10 : Class := { plain "java/lang/constant/Constable" (some 0) with
  accessFlags := 1537
  interfaces := #[]
  cf := some (fileOf pool10 1 #[] #[] 1537 3 #[] #[])
  fields := #[]
  methods := #[]
  instanceTypes := #[]
  staticTypes := #[]
  resolved := Array.replicate 11 none
  statics := none }

def pool11 : Array CpInfo := pool [(1, .class_ 2), (0, u "java/lang/constant/ConstantDesc"), (0, .class_ 4), (0, u "java/lang/Object")] 32

/-- java/lang/constant/ConstantDesc -/
def k11 : Class := { plain "java/lang/constant/ConstantDesc" (some 0) with
  accessFlags := 1537
  interfaces := #[]
  cf := some (fileOf pool11 1 #[] #[] 1537 3 #[] #[])
  fields := #[]
  methods := #[]
  instanceTypes := #[]
  staticTypes := #[]
  resolved := Array.replicate 37 none
  statics := none }

def pool12 : Array CpInfo := pool [(1, .methodref 2 3), (0, .class_ 4), (0, .nameAndType 5 6), (0, u "java/lang/Object"), (0, u "<init>"), (0, u "()V"), (2, .fieldref 10 11), (0, .class_ 12), (0, .nameAndType 13 14), (0, u "java/lang/String"), (0, u "value"), (0, u "[B"), (0, .fieldref 10 16), (0, .nameAndType 17 18), (0, u "coder"), (0, u "B"), (2, u "hash"), (0, u "I"), (2, u "hashIsZero"), (0, u "Z"), (11, .fieldref 10 39), (0, .nameAndType 40 26), (0, u "COMPACT_STRINGS"), (13, .methodref 55 56), (0, .class_ 57), (0, .nameAndType 58 59), (0, u "java/util/Arrays"), (0, u "copyOfRange"), (0, u "([BII)[B"), (47, .class_ 109), (1, u "java/lang/StringLatin1"), (32, u "()Z"), (50, .class_ 195), (1, u "java/lang/System"), (16, .methodref 193 213), (0, .nameAndType 214 215), (0, u "arraycopy"), (0, u "(Ljava/lang/Object;ILjava/lang/Object;II)V"), (118, u "()I"), (0, .methodref 10 336), (0, .nameAndType 17 337), (0, u "()B"), (2, u "()[B"), (22, u "([BI)C"), (27, u "(II)V"), (35, u "(I)C"), (61, .methodref 10 490), (0, .nameAndType 5 491), (0, u "(Ljava/lang/AbstractStringBuilder;Ljava/lang/Void;)V"), (0, .methodref 10 493), (0, .nameAndType 494 142), (0, u "isLatin1"), (0, .methodref 107 496), (0, .nameAndType 497 363), (0, u "charAt"), (3, u "checkIndex"), (4, .nameAndType 507 334), (0, u "length"), (24, u "getBytes"), (16, .methodref 550 506), (0, .class_ 551), (0, u "java/lang/AbstractStringBuilder"), (0, .methodref 550 553), (0, .nameAndType 554 340), (0, u "getValue"), (20, .class_ 576), (0, u "java/lang/CharSequence"), (22, u "CASE_INSENSITIVE_ORDER"), (0, u "Ljava/util/Comparator;"), (220, u "([BIB)V"), (225, .methodref 550 493), (5, .fieldref 1054 1055), (0, .class_ 1056), (0, .nameAndType 1057 1058), (0, u "jdk/internal/util/Preconditions"), (0, u "SIOOBE_FORMATTER"), (0, u "Ljava/util/function/BiFunction;"), (0, .methodref 1054 1060), (0, .nameAndType 501 1061), (0, u "(IILjava/util/function/BiFunction;)I"), (39, u "serialPersistentFields"), (0, u "[Ljava/io/ObjectStreamField;"), (0, .class_ 1104), (0, u "java/lang/String$CaseInsensitiveComparator"), (1, .class_ 1107), (0, u "java/io/Serializable"), (0, .class_ 1109), (0, u "java/lang/Comparable"), (0, .class_ 1111), (0, u "java/lang/constant/Constable"), (0, .class_ 1113), (0, u "java/lang/constant/ConstantDesc"), (2, u "serialVersionUID"), (0, u "J"), (3, u "REPL"), (0, u "C"), (2, u "LATIN1"), (1, u "UTF16"), (105, u "(Ljava/lang/StringBuilder;)V")] 217

def k12m0 : Method := { name := "<init>", desc := "()V", sig := { parameters := [], returnType := none }, accessFlags := 1, code := none }
def k12c1 : Code := { maxStack := 3, maxLocals := 2, code := jdk_42_method_53_code, exceptionTable := #[], attributes := #[] }
def k12m1 : Method := { name := "<init>", desc := "(Ljava/lang/StringBuilder;)V", sig := { parameters := [(.object "java/lang/StringBuilder")], returnType := none }, accessFlags := 1, code := some k12c1 }
def k12c2 : Code := { maxStack := 2, maxLocals := 1, code := jdk_42_method_54_code, exceptionTable := #[], attributes := #[] }
def k12m2 : Method := { name := "length", desc := "()I", sig := { parameters := [], returnType := some .int }, accessFlags := 1, code := some k12c2 }
def k12c3 : Code := { maxStack := 2, maxLocals := 2, code := jdk_42_method_56_code, exceptionTable := #[], attributes := #[] }
def k12m3 : Method := { name := "charAt", desc := "(I)C", sig := { parameters := [.int], returnType := some .char }, accessFlags := 1, code := some k12c3 }
def k12c4 : Code := { maxStack := 5, maxLocals := 4, code := jdk_42_method_147_code, exceptionTable := #[], attributes := #[] }
def k12m4 : Method := { name := "getBytes", desc := "([BIB)V", sig := { parameters := [(.array .byte), .int, .byte], returnType := none }, accessFlags := 0, code := some k12c4 }
def k12c5 : Code := { maxStack := 5, maxLocals := 5, code := jdk_42_method_150_code, exceptionTable := #[], attributes := #[] }
def k12m5 : Method := { name := "<init>", desc := "(Ljava/lang/AbstractStringBuilder;Ljava/lang/Void;)V", sig := { parameters := [(.object "java/lang/AbstractStringBuilder"), (.object "java/lang/Void")], returnType := none }, accessFlags := 0, code := some k12c5 }
def k12c6 : Code := { maxStack := 1, maxLocals := 1, code := jdk_42_method_152_code, exceptionTable := #[], attributes := #[] }
def k12m6 : Method := { name := "coder", desc := "()B", sig := { parameters := [], returnType := some .byte }, accessFlags := 0, code := some k12c6 }
def k12c7 : Code := { maxStack := 1, maxLocals := 1, code := jdk_42_method_154_code, exceptionTable := #[], attributes := #[] }
def k12m7 : Method := { name := "isLatin1", desc := "()Z", sig := { parameters := [], returnType := some .boolean }, accessFlags := 0, code := some k12c7 }
def k12c8 : Code := { maxStack := 3, maxLocals := 2, code := jdk_42_method_155_code, exceptionTable := #[], attributes := #[] }
def k12m8 : Method := { name := "checkIndex", desc := "(II)V", sig := { parameters := [.int, .int], returnType := none }, accessFlags := 8, code := some k12c8 }
/-- java/lang/String -/
def k12 : Class := { plain "java/lang/String" (some 0) with
  accessFlags := 49
  interfaces := #[7, 8, 5, 10, 11]
  cf := some (fileOf pool12 10 #[.nestMembers #[1103]] #[{ accessFlags := 1, nameIndex := 5, descriptorIndex := 6, attributes := #[] }, { accessFlags := 1, nameIndex := 5, descriptorIndex := 1233, attributes := #[] }, { accessFlags := 1, nameIndex := 507, descriptorIndex := 334, attributes := #[] }, { accessFlags := 1, nameIndex := 497, descriptorIndex := 427, attributes := #[] }, { accessFlags := 0, nameIndex := 532, descriptorIndex := 821, attributes := #[] }, { accessFlags := 0, nameIndex := 5, descriptorIndex := 491, attributes := #[] }, { accessFlags := 0, nameIndex := 17, descriptorIndex := 337, attributes := #[] }, { accessFlags := 0, nameIndex := 494, descriptorIndex := 142, attributes := #[] }, { accessFlags := 8, nameIndex := 501, descriptorIndex := 391, attributes := #[] }] 49 2 #[1106, 1108, 575, 1110, 1112] #[{ accessFlags := 18, nameIndex := 13, descriptorIndex := 14, attributes := #[] }, { accessFlags := 18, nameIndex := 17, descriptorIndex := 18, attributes := #[] }, { accessFlags := 2, nameIndex := 21, descriptorIndex := 22, attributes := #[] }, { accessFlags := 2, nameIndex := 25, descriptorIndex := 26, attributes := #[] }, { accessFlags := 26, nameIndex := 1116, descriptorIndex := 1117, attributes := #[] }, { accessFlags := 24, nameIndex := 40, descriptorIndex := 26, attributes := #[] }, { accessFlags := 26, nameIndex := 1101, descriptorIndex := 1102, attributes := #[] }, { accessFlags := 26, nameIndex := 1121, descriptorIndex := 1122, attributes := #[] }, { accessFlags := 25, nameIndex := 599, descriptorIndex := 600, attributes := #[] }, { accessFlags := 24, nameIndex := 1125, descriptorIndex := 18, attributes := #[] }, { accessFlags := 24, nameIndex := 1127, descriptorIndex := 18, attributes := #[] }])
  fields := #[{ name := "value", type := (.array .byte), accessFlags := 18, slot := 0, constantValue := 0 }, { name := "coder", type := .byte, accessFlags := 18, slot := 1, constantValue := 0 }, { name := "hash", type := .int, accessFlags := 2, slot := 2, constantValue := 0 }, { name := "hashIsZero", type := .boolean, accessFlags := 2, slot := 3, constantValue := 0 }, { name := "serialVersionUID", type := .long, accessFlags := 26, slot := 0, constantValue := 0 }, { name := "COMPACT_STRINGS", type := .boolean, accessFlags := 24, slot := 1, constantValue := 0 }, { name := "serialPersistentFields", type := (.array (.object "java/io/ObjectStreamField")), accessFlags := 26, slot := 2, constantValue := 0 }, { name := "REPL", type := .char, accessFlags := 26, slot := 3, constantValue := 0 }, { name := "CASE_INSENSITIVE_ORDER", type := (.object "java/util/Comparator"), accessFlags := 25, slot := 4, constantValue := 0 }, { name := "LATIN1", type := .byte, accessFlags := 24, slot := 5, constantValue := 0 }, { name := "UTF16", type := .byte, accessFlags := 24, slot := 6, constantValue := 0 }]
  methods := #[k12m0, k12m1, k12m2, k12m3, k12m4, k12m5, k12m6, k12m7, k12m8]
  instanceTypes := #[(.array .byte), .byte, .int, .boolean]
  staticTypes := #[.long, .boolean, (.array (.object "java/io/ObjectStreamField")), .char, (.object "java/util/Comparator"), .byte, .byte]
  resolved := Array.replicate 1451 none
  statics := some 0 }

def pool13 : Array CpInfo := pool [(2, .class_ 4), (1, u "java/lang/Object"), (0, u "<init>"), (0, u "()V"), (1, .class_ 10), (1, u "java/lang/System"), (0, u "allowSecurityManager"), (0, u "I"), (16, u "cons"), (0, u "Ljava/io/Console;"), (77, .class_ 110), (1, u "java/lang/System$CallersHolder"), (43, u "initialErrStream"), (0, u "Ljava/io/PrintStream;"), (19, u "security"), (0, u "Ljava/lang/SecurityManager;"), (31, .class_ 209), (0, u "java/lang/System$1"), (7, u "props"), (0, u "Ljava/util/Properties;"), (2, u "lineSeparator"), (0, u "Ljava/lang/String;"), (96, .class_ 321), (1, u "java/lang/System$LoggerFinder"), (5, .class_ 328), (0, u "java/lang/System$Logger"), (67, u "err"), (2, u "out"), (91, u "notSupportedJnuEncoding"), (15, u "in"), (17, u "initialIn"), (0, u "Ljava/io/InputStream;"), (35, u "bootLayer"), (0, u "Ljava/lang/ModuleLayer;"), (99, .class_ 664), (0, u "java/lang/System$2"), (9, u "NEVER"), (2, u "MAYBE"), (49, u "arraycopy"), (0, u "(Ljava/lang/Object;ILjava/lang/Object;II)V"), (72, .class_ 802), (0, u "java/lang/System$Logger$Level")] 31

def k13m0 : Method := { name := "<init>", desc := "()V", sig := { parameters := [], returnType := none }, accessFlags := 2, code := none }
def k13m1 : Method := { name := "arraycopy", desc := "(Ljava/lang/Object;ILjava/lang/Object;II)V", sig := { parameters := [(.object "java/lang/Object"), .int, (.object "java/lang/Object"), .int, .int], returnType := none }, accessFlags := 265, code := none }
/-- java/lang/System -/
def k13 : Class := { plain "java/lang/System" (some 0) with
  accessFlags := 49
  interfaces := #[]
  cf := some (fileOf pool13 8 #[.nestMembers #[319, 327, 801, 108, 663, 208]] #[{ accessFlags := 2, nameIndex := 5, descriptorIndex := 6, attributes := #[] }, { accessFlags := 265, nameIndex := 727, descriptorIndex := 728, attributes := #[] }] 49 2 #[] #[{ accessFlags := 25, nameIndex := 507, descriptorIndex := 526, attributes := #[] }, { accessFlags := 25, nameIndex := 399, descriptorIndex := 155, attributes := #[] }, { accessFlags := 25, nameIndex := 396, descriptorIndex := 155, attributes := #[] }, { accessFlags := 10, nameIndex := 525, descriptorIndex := 526, attributes := #[] }, { accessFlags := 26, nameIndex := 674, descriptorIndex := 12, attributes := #[] }, { accessFlags := 26, nameIndex := 677, descriptorIndex := 12, attributes := #[] }, { accessFlags := 10, nameIndex := 11, descriptorIndex := 12, attributes := #[] }, { accessFlags := 74, nameIndex := 175, descriptorIndex := 176, attributes := #[] }, { accessFlags := 10, nameIndex := 491, descriptorIndex := 222, attributes := #[] }, { accessFlags := 74, nameIndex := 29, descriptorIndex := 30, attributes := #[] }, { accessFlags := 74, nameIndex := 154, descriptorIndex := 155, attributes := #[] }, { accessFlags := 10, nameIndex := 217, descriptorIndex := 218, attributes := #[] }, { accessFlags := 10, nameIndex := 221, descriptorIndex := 222, attributes := #[] }, { accessFlags := 8, nameIndex := 562, descriptorIndex := 563, attributes := #[] }])
  fields := #[{ name := "in", type := (.object "java/io/InputStream"), accessFlags := 25, slot := 0, constantValue := 0 }, { name := "out", type := (.object "java/io/PrintStream"), accessFlags := 25, slot := 1, constantValue := 0 }, { name := "err", type := (.object "java/io/PrintStream"), accessFlags := 25, slot := 2, constantValue := 0 }, { name := "initialIn", type := (.object "java/io/InputStream"), accessFlags := 10, slot := 3, constantValue := 0 }, { name := "NEVER", type := .int, accessFlags := 26, slot := 4, constantValue := 0 }, { name := "MAYBE", type := .int, accessFlags := 26, slot := 5, constantValue := 0 }, { name := "allowSecurityManager", type := .int, accessFlags := 10, slot := 6, constantValue := 0 }, { name := "security", type := (.object "java/lang/SecurityManager"), accessFlags := 74, slot := 7, constantValue := 0 }, { name := "notSupportedJnuEncoding", type := (.object "java/lang/String"), accessFlags := 10, slot := 8, constantValue := 0 }, { name := "cons", type := (.object "java/io/Console"), accessFlags := 74, slot := 9, constantValue := 0 }, { name := "initialErrStream", type := (.object "java/io/PrintStream"), accessFlags := 74, slot := 10, constantValue := 0 }, { name := "props", type := (.object "java/util/Properties"), accessFlags := 10, slot := 11, constantValue := 0 }, { name := "lineSeparator", type := (.object "java/lang/String"), accessFlags := 10, slot := 12, constantValue := 0 }, { name := "bootLayer", type := (.object "java/lang/ModuleLayer"), accessFlags := 8, slot := 13, constantValue := 0 }]
  methods := #[k13m0, k13m1]
  instanceTypes := #[]
  staticTypes := #[(.object "java/io/InputStream"), (.object "java/io/PrintStream"), (.object "java/io/PrintStream"), (.object "java/io/InputStream"), .int, .int, .int, (.object "java/lang/SecurityManager"), (.object "java/lang/String"), (.object "java/io/Console"), (.object "java/io/PrintStream"), (.object "java/util/Properties"), (.object "java/lang/String"), (.object "java/lang/ModuleLayer")]
  resolved := Array.replicate 834 none
  statics := none }

def pool14 : Array CpInfo := pool [(2, .class_ 4), (1, u "java/lang/Object"), (0, u "<init>"), (0, u "()V"), (1, .class_ 10), (1, u "java/lang/Number"), (2, .class_ 14), (0, u "java/io/Serializable"), (0, u "serialVersionUID"), (0, u "J")] 20

def k14m0 : Method := { name := "<init>", desc := "()V", sig := { parameters := [], returnType := none }, accessFlags := 1, code := none }
/-- java/lang/Number -/
def k14 : Class := { plain "java/lang/Number" (some 0) with
  accessFlags := 1057
  interfaces := #[7]
  cf := some (fileOf pool14 8 #[] #[{ accessFlags := 1, nameIndex := 5, descriptorIndex := 6, attributes := #[] }] 1057 2 #[13] #[{ accessFlags := 26, nameIndex := 15, descriptorIndex := 16, attributes := #[] }])
  fields := #[{ name := "serialVersionUID", type := .long, accessFlags := 26, slot := 0, constantValue := 0 }]
  methods := #[k14m0]
  instanceTypes := #[]
  staticTypes := #[.long]
  resolved := Array.replicate 37 none
  statics := none }

def pool15 : Array CpInfo := pool [(1, .class_ 2), (0, u "java/lang/Long"), (15, .class_ 20), (1, u "java/lang/Integer"), (32, .long 10), (47, u "(J)I"), (18, u "stringSize"), (2, u "getChars"), (0, u "(JI[B)I"), (4, .long 18446744071562067968), (1, .long 100), (1, .fieldref 18 134), (0, .nameAndType 135 136), (0, u "DigitOnes"), (0, u "[B"), (0, .fieldref 18 138), (0, .nameAndType 139 136), (0, u "DigitTens"), (0, .long 18446744073709551606), (94, .class_ 237), (1, u "java/lang/Long$LongCache"), (33, .class_ 272), (0, u "java/lang/Number"), (2, u "value"), (0, u "J"), (84, u "TYPE"), (0, u "Ljava/lang/Class;"), (0, .class_ 364), (0, u "java/lang/Comparable"), (0, .class_ 366), (0, u "java/lang/constant/Constable"), (0, .class_ 368), (0, u "java/lang/constant/ConstantDesc"), (0, u "MIN_VALUE"), (1, u "MAX_VALUE"), (4, u "SIZE"), (0, u "I"), (1, u "BYTES"), (1, u "serialVersionUID")] 142

def k15c0 : Code := { maxStack := 4, maxLocals := 11, code := jdk_35_method_14_code, exceptionTable := #[], attributes := #[] }
def k15m0 : Method := { name := "getChars", desc := "(JI[B)I", sig := { parameters := [.long, .int, (.array .byte)], returnType := some .int }, accessFlags := 8, code := some k15c0 }
def k15c1 : Code := { maxStack := 4, maxLocals := 6, code := jdk_35_method_15_code, exceptionTable := #[], attributes := #[] }
def k15m1 : Method := { name := "stringSize", desc := "(J)I", sig := { parameters := [.long], returnType := some .int }, accessFlags := 8, code := some k15c1 }
/-- java/lang/Long -/
def k15 : Class := { plain "java/lang/Long" (some 14) with
  accessFlags := 49
  interfaces := #[8, 10, 11]
  cf := some (fileOf pool15 1 #[.nestMembers #[235]] #[{ accessFlags := 8, nameIndex := 123, descriptorIndex := 124, attributes := #[] }, { accessFlags := 8, nameIndex := 120, descriptorIndex := 101, attributes := #[] }] 49 271 #[363, 365, 367] #[{ accessFlags := 25, nameIndex := 369, descriptorIndex := 276, attributes := #[] }, { accessFlags := 25, nameIndex := 371, descriptorIndex := 276, attributes := #[] }, { accessFlags := 25, nameIndex := 361, descriptorIndex := 362, attributes := #[] }, { accessFlags := 18, nameIndex := 275, descriptorIndex := 276, attributes := #[] }, { accessFlags := 25, nameIndex := 376, descriptorIndex := 377, attributes := #[] }, { accessFlags := 25, nameIndex := 379, descriptorIndex := 377, attributes := #[] }, { accessFlags := 26, nameIndex := 381, descriptorIndex := 276, attributes := #[] }])
  fields := #[{ name := "MIN_VALUE", type := .long, accessFlags := 25, slot := 0, constantValue := 0 }, { name := "MAX_VALUE", type := .long, accessFlags := 25, slot := 1, constantValue := 0 }, { name := "TYPE", type := (.object "java/lang/Class"), accessFlags := 25, slot := 2, constantValue := 0 }, { name := "value", type := .long, accessFlags := 18, slot := 0, constantValue := 0 }, { name := "SIZE", type := .int, accessFlags := 25, slot := 3, constantValue := 0 }, { name := "BYTES", type := .int, accessFlags := 25, slot := 4, constantValue := 0 }, { name := "serialVersionUID", type := .long, accessFlags := 26, slot := 5, constantValue := 0 }]
  methods := #[k15m0, k15m1]
  instanceTypes := #[.long]
  staticTypes := #[.long, .long, (.object "java/lang/Class"), .int, .int, .long]
  resolved := Array.replicate 524 none
  statics := none }

def pool16 : Array CpInfo := pool [(9, u "<init>"), (6, .class_ 18), (1, u "java/lang/Object"), (0, u "()V"), (1, .class_ 23), (1, u "jdk/internal/util/ArraysSupport"), (0, u "LOG2_ARRAY_LONG_INDEX_SCALE"), (0, u "I"), (2, u "U"), (0, u "Ljdk/internal/misc/Unsafe;"), (8, u "BIG_ENDIAN"), (0, u "Z"), (8, u "LOG2_BYTE_BIT_SIZE"), (4, u "LOG2_ARRAY_INT_INDEX_SCALE"), (54, u "JLA"), (0, u "Ljdk/internal/access/JavaLangAccess;"), (11, u "LOG2_ARRAY_BOOLEAN_INDEX_SCALE"), (9, u "LOG2_ARRAY_BYTE_INDEX_SCALE"), (5, u "LOG2_ARRAY_CHAR_INDEX_SCALE"), (5, u "LOG2_ARRAY_SHORT_INDEX_SCALE"), (18, u "LOG2_ARRAY_FLOAT_INDEX_SCALE"), (24, u "LOG2_ARRAY_DOUBLE_INDEX_SCALE"), (6, .methodref 195 196), (0, .class_ 197), (0, .nameAndType 198 199), (0, u "java/lang/Math"), (0, u "max"), (0, u "(II)I"), (0, .integer 2147483639), (76, u "T_BOOLEAN"), (2, u "T_CHAR"), (1, u "T_FLOAT"), (1, u "T_DOUBLE"), (1, u "T_BYTE"), (1, u "T_SHORT"), (1, u "T_INT"), (1, u "T_LONG"), (1, u "SOFT_MAX_ARRAY_LENGTH"), (56, u "newLength"), (0, u "(III)I")] 25

def k16m0 : Method := { name := "<init>", desc := "()V", sig := { parameters := [], returnType := none }, accessFlags := 2, code := none }
def k16c1 : Code := { maxStack := 3, maxLocals := 4, code := jdk_48_method_27_code, exceptionTable := #[], attributes := #[] }
def k16m1 : Method := { name := "newLength", desc := "(III)I", sig := { parameters := [.int, .int, .int], returnType := some .int }, accessFlags := 9, code := some k16c1 }
/-- jdk/internal/util/ArraysSupport -/
def k16 : Class := { plain "jdk/internal/util/ArraysSupport" (some 0) with
  accessFlags := 33
  interfaces := #[]
  cf := some (fileOf pool16 21 #[] #[{ accessFlags := 2, nameIndex := 9, descriptorIndex := 19, attributes := #[] }, { accessFlags := 9, nameIndex := 351, descriptorIndex := 352, attributes := #[] }] 33 16 #[] #[{ accessFlags := 24, nameIndex := 28, descriptorIndex := 29, attributes := #[] }, { accessFlags := 26, nameIndex := 38, descriptorIndex := 39, attributes := #[] }, { accessFlags := 25, nameIndex := 121, descriptorIndex := 25, attributes := #[] }, { accessFlags := 25, nameIndex := 131, descriptorIndex := 25, attributes := #[] }, { accessFlags := 25, nameIndex := 137, descriptorIndex := 25, attributes := #[] }, { accessFlags := 25, nameIndex := 143, descriptorIndex := 25, attributes := #[] }, { accessFlags := 25, nameIndex := 53, descriptorIndex := 25, attributes := #[] }, { accessFlags := 25, nameIndex := 24, descriptorIndex := 25, attributes := #[] }, { accessFlags := 25, nameIndex := 162, descriptorIndex := 25, attributes := #[] }, { accessFlags := 25, nameIndex := 187, descriptorIndex := 25, attributes := #[] }, { accessFlags := 26, nameIndex := 48, descriptorIndex := 25, attributes := #[] }, { accessFlags := 25, nameIndex := 277, descriptorIndex := 25, attributes := #[] }, { accessFlags := 25, nameIndex := 280, descriptorIndex := 25, attributes := #[] }, { accessFlags := 25, nameIndex := 282, descriptorIndex := 25, attributes := #[] }, { accessFlags := 25, nameIndex := 284, descriptorIndex := 25, attributes := #[] }, { accessFlags := 25, nameIndex := 286, descriptorIndex := 25, attributes := #[] }, { accessFlags := 25, nameIndex := 288, descriptorIndex := 25, attributes := #[] }, { accessFlags := 25, nameIndex := 290, descriptorIndex := 25, attributes := #[] }, { accessFlags := 25, nameIndex := 292, descriptorIndex := 25, attributes := #[] }, { accessFlags := 26, nameIndex := 108, descriptorIndex := 109, attributes := #[] }, { accessFlags := 25, nameIndex := 294, descriptorIndex := 25, attributes := #[] }])
  fields := #[{ name := "U", type := (.object "jdk/internal/misc/Unsafe"), accessFlags := 24, slot := 0, constantValue := 0 }, { name := "BIG_ENDIAN", type := .boolean, accessFlags := 26, slot := 1, constantValue := 0 }, { name := "LOG2_ARRAY_BOOLEAN_INDEX_SCALE", type := .int, accessFlags := 25, slot := 2, constantValue := 0 }, { name := "LOG2_ARRAY_BYTE_INDEX_SCALE", type := .int, accessFlags := 25, slot := 3, constantValue := 0 }, { name := "LOG2_ARRAY_CHAR_INDEX_SCALE", type := .int, accessFlags := 25, slot := 4, constantValue := 0 }, { name := "LOG2_ARRAY_SHORT_INDEX_SCALE", type := .int, accessFlags := 25, slot := 5, constantValue := 0 }, { name := "LOG2_ARRAY_INT_INDEX_SCALE", type := .int, accessFlags := 25, slot := 6, constantValue := 0 }, { name := "LOG2_ARRAY_LONG_INDEX_SCALE", type := .int, accessFlags := 25, slot := 7, constantValue := 0 }, { name := "LOG2_ARRAY_FLOAT_INDEX_SCALE", type := .int, accessFlags := 25, slot := 8, constantValue := 0 }, { name := "LOG2_ARRAY_DOUBLE_INDEX_SCALE", type := .int, accessFlags := 25, slot := 9, constantValue := 0 }, { name := "LOG2_BYTE_BIT_SIZE", type := .int, accessFlags := 26, slot := 10, constantValue := 0 }, { name := "T_BOOLEAN", type := .int, accessFlags := 25, slot := 11, constantValue := 0 }, { name := "T_CHAR", type := .int, accessFlags := 25, slot := 12, constantValue := 0 }, { name := "T_FLOAT", type := .int, accessFlags := 25, slot := 13, constantValue := 0 }, { name := "T_DOUBLE", type := .int, accessFlags := 25, slot := 14, constantValue := 0 }, { name := "T_BYTE", type := .int, accessFlags := 25, slot := 15, constantValue := 0 }, { name := "T_SHORT", type := .int, accessFlags := 25, slot := 16, constantValue := 0 }, { name := "T_INT", type := .int, accessFlags := 25, slot := 17, constantValue := 0 }, { name := "T_LONG", type := .int, accessFlags := 25, slot := 18, constantValue := 0 }, { name := "JLA", type := (.object "jdk/internal/access/JavaLangAccess"), accessFlags := 26, slot := 19, constantValue := 0 }, { name := "SOFT_MAX_ARRAY_LENGTH", type := .int, accessFlags := 25, slot := 20, constantValue := 0 }]
  methods := #[k16m0, k16m1]
  instanceTypes := #[]
  staticTypes := #[(.object "jdk/internal/misc/Unsafe"), .boolean, .int, .int, .int, .int, .int, .int, .int, .int, .int, .int, .int, .int, .int, .int, .int, .int, .int, (.object "jdk/internal/access/JavaLangAccess"), .int]
  resolved := Array.replicate 378 none
  statics := none }

def pool17 : Array CpInfo := pool [(1, .class_ 2), (0, u "java/lang/Math"), (1, .class_ 6), (1, u "java/lang/Object"), (0, u "<init>"), (0, u "()V"), (89, .class_ 100), (1, u "java/lang/Math$RandomNumberGeneratorHolder"), (23, u "abs"), (0, u "(J)J"), (46, u "negativeZeroFloatBits"), (0, u "J"), (2, u "negativeZeroDoubleBits"), (21, u "max"), (2, u "min"), (43, u "$assertionsDisabled"), (0, u "Z"), (88, u "(II)I"), (2, u "twoToTheDoubleScaleDown"), (0, u "D"), (4, u "twoToTheDoubleScaleUp"), (9, u "E"), (3, u "PI"), (2, u "TAU"), (2, u "DEGREES_TO_RADIANS"), (0, u "RADIANS_TO_DEGREES")] 94

def k17m0 : Method := { name := "<init>", desc := "()V", sig := { parameters := [], returnType := none }, accessFlags := 2, code := none }
def k17c1 : Code := { maxStack := 4, maxLocals := 2, code := jdk_29_method_61_code, exceptionTable := #[], attributes := #[] }
def k17m1 : Method := { name := "abs", desc := "(J)J", sig := { parameters := [.long], returnType := some .long }, accessFlags := 9, code := some k17c1 }
def k17c2 : Code := { maxStack := 2, maxLocals := 2, code := jdk_29_method_65_code, exceptionTable := #[], attributes := #[] }
def k17m2 : Method := { name := "max", desc := "(II)I", sig := { parameters := [.int, .int], returnType := some .int }, accessFlags := 9, code := some k17c2 }
def k17c3 : Code := { maxStack := 2, maxLocals := 2, code := jdk_29_method_69_code, exceptionTable := #[], attributes := #[] }
def k17m3 : Method := { name := "min", desc := "(II)I", sig := { parameters := [.int, .int], returnType := some .int }, accessFlags := 9, code := some k17c3 }
/-- java/lang/Math -/
def k17 : Class := { plain "java/lang/Math" (some 0) with
  accessFlags := 49
  interfaces := #[]
  cf := some (fileOf pool17 1 #[.nestMembers #[98]] #[{ accessFlags := 2, nameIndex := 7, descriptorIndex := 8, attributes := #[] }, { accessFlags := 9, nameIndex := 124, descriptorIndex := 125, attributes := #[] }, { accessFlags := 9, nameIndex := 198, descriptorIndex := 335, attributes := #[] }, { accessFlags := 9, nameIndex := 201, descriptorIndex := 335, attributes := #[] }] 49 4 #[] #[{ accessFlags := 25, nameIndex := 354, descriptorIndex := 339, attributes := #[] }, { accessFlags := 25, nameIndex := 358, descriptorIndex := 339, attributes := #[] }, { accessFlags := 25, nameIndex := 361, descriptorIndex := 339, attributes := #[] }, { accessFlags := 26, nameIndex := 364, descriptorIndex := 339, attributes := #[] }, { accessFlags := 26, nameIndex := 365, descriptorIndex := 339, attributes := #[] }, { accessFlags := 26, nameIndex := 172, descriptorIndex := 173, attributes := #[] }, { accessFlags := 26, nameIndex := 176, descriptorIndex := 173, attributes := #[] }, { accessFlags := 8, nameIndex := 344, descriptorIndex := 339, attributes := #[] }, { accessFlags := 8, nameIndex := 338, descriptorIndex := 339, attributes := #[] }, { accessFlags := 4120, nameIndex := 245, descriptorIndex := 246, attributes := #[] }])
  fields := #[{ name := "E", type := .double, accessFlags := 25, slot := 0, constantValue := 0 }, { name := "PI", type := .double, accessFlags := 25, slot := 1, constantValue := 0 }, { name := "TAU", type := .double, accessFlags := 25, slot := 2, constantValue := 0 }, { name := "DEGREES_TO_RADIANS", type := .double, accessFlags := 26, slot := 3, constantValue := 0 }, { name := "RADIANS_TO_DEGREES", type := .double, accessFlags := 26, slot := 4, constantValue := 0 }, { name := "negativeZeroFloatBits", type := .long, accessFlags := 26, slot := 5, constantValue := 0 }, { name := "negativeZeroDoubleBits", type := .long, accessFlags := 26, slot := 6, constantValue := 0 }, { name := "twoToTheDoubleScaleUp", type := .double, accessFlags := 8, slot := 7, constantValue := 0 }, { name := "twoToTheDoubleScaleDown", type := .double, accessFlags := 8, slot := 8, constantValue := 0 }, { name := "$assertionsDisabled", type := .boolean, accessFlags := 4120, slot := 9, constantValue := 0 }]
  methods := #[k17m0, k17m1, k17m2, k17m3]
  instanceTypes := #[]
  staticTypes := #[.double, .double, .double, .double, .double, .long, .long, .double, .double, .boolean]
  resolved := Array.replicate 460 none
  statics := none }

def pool18 : Array CpInfo := pool [(2, .class_ 4), (1, u "java/lang/Object"), (0, u "<init>"), (0, u "()V"), (7, .class_ 16), (1, u "java/util/Arrays"), (57, .class_ 76), (1, u "java/util/Arrays$NaturalOrder"), (32, u "()Ljava/lang/Object;"), (3, .class_ 115), (1, u "java/util/Arrays$LegacyMergeSort"), (1, u "Z"), (10, .nameAndType 129 109), (0, u "clone"), (9, u "copyOfRange"), (10, .methodref 151 152), (0, .class_ 153), (0, .nameAndType 154 155), (0, u "java/lang/System"), (0, u "arraycopy"), (0, u "(Ljava/lang/Object;ILjava/lang/Object;II)V"), (146, u "copyOf"), (1, .methodref 305 306), (0, .class_ 307), (0, .nameAndType 308 309), (0, u "java/lang/Math"), (0, u "min"), (0, u "(II)I"), (0, .methodref 311 128), (0, .class_ 312), (0, u "[B"), (26, .methodref 14 340), (0, .nameAndType 341 342), (0, u "copyOfRangeByte"), (0, u "([BII)[B"), (0, .methodref 14 344), (0, .nameAndType 345 346), (0, u "checkLength"), (0, u "(II)V"), (28, .class_ 376), (0, u "java/util/Arrays$ArrayList"), (68, u "$assertionsDisabled"), (269, u "MIN_ARRAY_SORT_GRAN"), (0, u "I"), (2, u "INSERTIONSORT_THRESHOLD"), (149, u "([BI)[B"), (105, .class_ 976), (0, u "java/util/Arrays$ArrayItr")] 52

def k18m0 : Method := { name := "<init>", desc := "()V", sig := { parameters := [], returnType := none }, accessFlags := 2, code := none }
def k18c1 : Code := { maxStack := 6, maxLocals := 3, code := jdk_65_method_121_code, exceptionTable := #[], attributes := #[] }
def k18m1 : Method := { name := "copyOf", desc := "([BI)[B", sig := { parameters := [(.array .byte), .int], returnType := some (.array .byte) }, accessFlags := 9, code := some k18c1 }
def k18c2 : Code := { maxStack := 4, maxLocals := 2, code := jdk_65_method_131_code, exceptionTable := #[], attributes := #[] }
def k18m2 : Method := { name := "checkLength", desc := "(II)V", sig := { parameters := [.int, .int], returnType := none }, accessFlags := 10, code := some k18c2 }
def k18c3 : Code := { maxStack := 3, maxLocals := 3, code := jdk_65_method_132_code, exceptionTable := #[], attributes := #[] }
def k18m3 : Method := { name := "copyOfRange", desc := "([BII)[B", sig := { parameters := [(.array .byte), .int, .int], returnType := some (.array .byte) }, accessFlags := 9, code := some k18c3 }
def k18c4 : Code := { maxStack := 6, maxLocals := 5, code := jdk_65_method_133_code, exceptionTable := #[], attributes := #[] }
def k18m4 : Method := { name := "copyOfRangeByte", desc := "([BII)[B", sig := { parameters := [(.array .byte), .int, .int], returnType := some (.array .byte) }, accessFlags := 10, code := some k18c4 }
/-- java/util/Arrays -/
def k18 : Class := { plain "java/util/Arrays" (some 0) with
  accessFlags := 49
  interfaces := #[]
  cf := some (fileOf pool18 14 #[.nestMembers #[975, 375, 113, 74]] #[{ accessFlags := 2, nameIndex := 5, descriptorIndex := 6, attributes := #[] }, { accessFlags := 9, nameIndex := 302, descriptorIndex := 869, attributes := #[] }, { accessFlags := 10, nameIndex := 345, descriptorIndex := 346, attributes := #[] }, { accessFlags := 9, nameIndex := 139, descriptorIndex := 342, attributes := #[] }, { accessFlags := 10, nameIndex := 341, descriptorIndex := 342, attributes := #[] }] 49 2 #[] #[{ accessFlags := 26, nameIndex := 715, descriptorIndex := 716, attributes := #[] }, { accessFlags := 26, nameIndex := 719, descriptorIndex := 716, attributes := #[] }, { accessFlags := 4120, nameIndex := 445, descriptorIndex := 117, attributes := #[] }])
  fields := #[{ name := "MIN_ARRAY_SORT_GRAN", type := .int, accessFlags := 26, slot := 0, constantValue := 0 }, { name := "INSERTIONSORT_THRESHOLD", type := .int, accessFlags := 26, slot := 1, constantValue := 0 }, { name := "$assertionsDisabled", type := .boolean, accessFlags := 4120, slot := 2, constantValue := 0 }]
  methods := #[k18m0, k18m1, k18m2, k18m3, k18m4]
  instanceTypes := #[]
  staticTypes := #[.int, .int, .boolean]
  resolved := Array.replicate 1029 none
  statics := none }

def pool19 : Array CpInfo := pool [(1, .class_ 2), (0, u "java/lang/Integer"), (16, u "digits"), (0, u "[C"), (33, u "(I)I"), (19, u "stringSize"), (2, u "getChars"), (0, u "(II[B)I"), (4, .fieldref 1 84), (0, .nameAndType 85 86), (0, u "DigitOnes"), (0, u "[B"), (0, .fieldref 1 88), (0, .nameAndType 89 86), (0, u "DigitTens"), (99, .class_ 190), (0, u "java/lang/Integer$IntegerCache"), (3, u "I"), (8, .class_ 204), (0, u "java/lang/Number"), (2, u "value"), (94, u "TYPE"), (0, u "Ljava/lang/Class;"), (0, .class_ 305), (0, u "java/lang/Comparable"), (0, .class_ 307), (0, u "java/lang/constant/Constable"), (0, .class_ 309), (0, u "java/lang/constant/ConstantDesc"), (0, u "MIN_VALUE"), (1, u "MAX_VALUE"), (3, u "SIZE"), (1, u "BYTES"), (1, u "serialVersionUID"), (0, u "J")] 131

def k19c0 : Code := { maxStack := 4, maxLocals := 7, code := jdk_33_method_12_code, exceptionTable := #[], attributes := #[] }
def k19m0 : Method := { name := "getChars", desc := "(II[B)I", sig := { parameters := [.int, .int, (.array .byte)], returnType := some .int }, accessFlags := 8, code := some k19c0 }
def k19c1 : Code := { maxStack := 2, maxLocals := 4, code := jdk_33_method_13_code, exceptionTable := #[], attributes := #[] }
def k19m1 : Method := { name := "stringSize", desc := "(I)I", sig := { parameters := [.int], returnType := some .int }, accessFlags := 8, code := some k19c1 }
/-- java/lang/Integer -/
def k19 : Class := { plain "java/lang/Integer" (some 14) with
  accessFlags := 49
  interfaces := #[8, 10, 11]
  cf := some (fileOf pool19 1 #[.nestMembers #[189]] #[{ accessFlags := 8, nameIndex := 77, descriptorIndex := 78, attributes := #[] }, { accessFlags := 8, nameIndex := 74, descriptorIndex := 54, attributes := #[] }] 49 203 #[304, 306, 308] #[{ accessFlags := 25, nameIndex := 310, descriptorIndex := 194, attributes := #[] }, { accessFlags := 25, nameIndex := 312, descriptorIndex := 194, attributes := #[] }, { accessFlags := 25, nameIndex := 302, descriptorIndex := 303, attributes := #[] }, { accessFlags := 24, nameIndex := 19, descriptorIndex := 20, attributes := #[] }, { accessFlags := 24, nameIndex := 89, descriptorIndex := 86, attributes := #[] }, { accessFlags := 24, nameIndex := 85, descriptorIndex := 86, attributes := #[] }, { accessFlags := 18, nameIndex := 207, descriptorIndex := 194, attributes := #[] }, { accessFlags := 25, nameIndex := 316, descriptorIndex := 194, attributes := #[] }, { accessFlags := 25, nameIndex := 318, descriptorIndex := 194, attributes := #[] }, { accessFlags := 26, nameIndex := 320, descriptorIndex := 321, attributes := #[] }])
  fields := #[{ name := "MIN_VALUE", type := .int, accessFlags := 25, slot := 0, constantValue := 0 }, { name := "MAX_VALUE", type := .int, accessFlags := 25, slot := 1, constantValue := 0 }, { name := "TYPE", type := (.object "java/lang/Class"), accessFlags := 25, slot := 2, constantValue := 0 }, { name := "digits", type := (.array .char), accessFlags := 24, slot := 3, constantValue := 0 }, { name := "DigitTens", type := (.array .byte), accessFlags := 24, slot := 4, constantValue := 0 }, { name := "DigitOnes", type := (.array .byte), accessFlags := 24, slot := 5, constantValue := 0 }, { name := "value", type := .int, accessFlags := 18, slot := 0, constantValue := 0 }, { name := "SIZE", type := .int, accessFlags := 25, slot := 6, constantValue := 0 }, { name := "BYTES", type := .int, accessFlags := 25, slot := 7, constantValue := 0 }, { name := "serialVersionUID", type := .long, accessFlags := 26, slot := 8, constantValue := 0 }]
  methods := #[k19m0, k19m1]
  instanceTypes := #[.int]
  staticTypes := #[.int, .int, (.object "java/lang/Class"), (.array .char), (.array .byte), (.array .byte), .int, .int, .long]
  resolved := Array.replicate 453 none
  statics := some 1 }

def pool20 : Array CpInfo := pool [(1, .class_ 2), (0, u "java/lang/String"), (1, .class_ 6), (1, u "java/lang/Object"), (0, u "<init>"), (0, u "()V"), (0, .methodref 1 10), (0, .nameAndType 11 12), (0, u "checkIndex"), (0, u "(II)V"), (1, .class_ 16), (1, u "java/lang/StringLatin1"), (36, u "([BI)C"), (67, u "$assertionsDisabled"), (0, u "Z"), (98, .class_ 223), (1, u "java/lang/StringLatin1$LinesSpliterator"), (28, u "charAt"), (137, .class_ 391), (0, u "java/lang/StringLatin1$CharsSpliterator")] 3

def k20m0 : Method := { name := "<init>", desc := "()V", sig := { parameters := [], returnType := none }, accessFlags := 0, code := none }
def k20c1 : Code := { maxStack := 2, maxLocals := 2, code := jdk_43_method_2_code, exceptionTable := #[], attributes := #[] }
def k20m1 : Method := { name := "charAt", desc := "([BI)C", sig := { parameters := [(.array .byte), .int], returnType := some .char }, accessFlags := 9, code := some k20c1 }
/-- java/lang/StringLatin1 -/
def k20 : Class := { plain "java/lang/StringLatin1" (some 0) with
  accessFlags := 48
  interfaces := #[]
  cf := some (fileOf pool20 14 #[.nestMembers #[390, 221]] #[{ accessFlags := 0, nameIndex := 7, descriptorIndex := 8, attributes := #[] }, { accessFlags := 9, nameIndex := 252, descriptorIndex := 53, attributes := #[] }] 48 4 #[] #[{ accessFlags := 4120, nameIndex := 121, descriptorIndex := 122, attributes := #[] }])
  fields := #[{ name := "$assertionsDisabled", type := .boolean, accessFlags := 4120, slot := 0, constantValue := 0 }]
  methods := #[k20m0, k20m1]
  instanceTypes := #[]
  staticTypes := #[.boolean]
  resolved := Array.replicate 395 none
  statics := none }

def pool21 : Array CpInfo := pool [(2, .class_ 4), (1, u "java/lang/Object"), (0, u "<init>"), (0, u "()V"), (17, .class_ 26), (1, u "jdk/internal/util/Preconditions"), (6, u "checkIndex"), (21, .class_ 56), (0, u "jdk/internal/util/Preconditions$4"), (57, .class_ 115), (0, u "jdk/internal/util/Preconditions$1"), (7, u "SIOOBE_FORMATTER"), (0, u "Ljava/util/function/BiFunction;"), (0, .class_ 126), (0, u "jdk/internal/util/Preconditions$2"), (3, u "AIOOBE_FORMATTER"), (0, .class_ 132), (0, u "jdk/internal/util/Preconditions$3"), (3, u "IOOBE_FORMATTER"), (41, u "(IILjava/util/function/BiFunction;)I")] 15

def k21m0 : Method := { name := "<init>", desc := "()V", sig := { parameters := [], returnType := none }, accessFlags := 1, code := none }
def k21c1 : Code := { maxStack := 3, maxLocals := 3, code := jdk_41_method_11_code, exceptionTable := #[], attributes := #[] }
def k21m1 : Method := { name := "checkIndex", desc := "(IILjava/util/function/BiFunction;)I", sig := { parameters := [.int, .int, (.object "java/util/function/BiFunction")], returnType := some .int }, accessFlags := 9, code := some k21c1 }
/-- jdk/internal/util/Preconditions -/
def k21 : Class := { plain "jdk/internal/util/Preconditions" (some 0) with
  accessFlags := 33
  interfaces := #[]
  cf := some (fileOf pool21 24 #[.nestMembers #[55, 131, 125, 114]] #[{ accessFlags := 1, nameIndex := 5, descriptorIndex := 6, attributes := #[] }, { accessFlags := 9, nameIndex := 33, descriptorIndex := 178, attributes := #[] }] 33 2 #[] #[{ accessFlags := 25, nameIndex := 123, descriptorIndex := 124, attributes := #[] }, { accessFlags := 25, nameIndex := 130, descriptorIndex := 124, attributes := #[] }, { accessFlags := 25, nameIndex := 136, descriptorIndex := 124, attributes := #[] }])
  fields := #[{ name := "SIOOBE_FORMATTER", type := (.object "java/util/function/BiFunction"), accessFlags := 25, slot := 0, constantValue := 0 }, { name := "AIOOBE_FORMATTER", type := (.object "java/util/function/BiFunction"), accessFlags := 25, slot := 1, constantValue := 0 }, { name := "IOOBE_FORMATTER", type := (.object "java/util/function/BiFunction"), accessFlags := 25, slot := 2, constantValue := 0 }]
  methods := #[k21m0, k21m1]
  instanceTypes := #[]
  staticTypes := #[(.object "java/util/function/BiFunction"), (.object "java/util/function/BiFunction"), (.object "java/util/function/BiFunction")]
  resolved := Array.replicate 194 none
  statics := some 2 }

def pool22 : Array CpInfo := pool [(1, .class_ 2), (0, u "java/lang/Cloneable"), (0, .class_ 4), (0, u "java/lang/Object")] 2

/-- java/lang/Cloneable -/
def k22 : Class := { plain "java/lang/Cloneable" (some 0) with
  accessFlags := 1537
  interfaces := #[]
  cf := some (fileOf pool22 1 #[] #[] 1537 3 #[] #[])
  fields := #[]
  methods := #[]
  instanceTypes := #[]
  staticTypes := #[]
  resolved := Array.replicate 7 none
  statics := none }

/-- the primitive byte -/
def k23 : Class := { plain "byte" none with kind := .primitive 'B', accessFlags := 0x411 }
/-- [B -/
def k24 : Class := { plain "[B" (some 0) with kind := .array 23 .byte, interfaces := #[22, 7], accessFlags := 1041 }

/-- the primitive int -/
def k25 : Class := { plain "int" none with kind := .primitive 'I', accessFlags := 0x411 }
/-- [I -/
def k26 : Class := { plain "[I" (some 0) with kind := .array 25 .int, interfaces := #[22, 7], accessFlags := 1041 }

/-- the primitive long -/
def k27 : Class := { plain "long" none with kind := .primitive 'J', accessFlags := 0x411 }
/-- [J -/
def k28 : Class := { plain "[J" (some 0) with kind := .array 27 .long, interfaces := #[22, 7], accessFlags := 1041 }

def heap : Heap := #[{ cls := 12, slots := #[.long 0, .int 1, .null, .int 0, .null, .int 0, .int 0], vm := .statics 12 },
  { cls := 19, slots := #[.int 0, .int 0, .null, .null, .ref 4, .ref 3, .int 0, .int 0, .long 0], vm := .statics 19 },
  { cls := 21, slots := #[.null, .null, .null], vm := .statics 21 },
  { cls := 24, slots := #[.int 48, .int 49, .int 50, .int 51, .int 52, .int 53, .int 54, .int 55, .int 56, .int 57, .int 48, .int 49, .int 50, .int 51, .int 52, .int 53, .int 54, .int 55, .int 56, .int 57, .int 48, .int 49, .int 50, .int 51, .int 52, .int 53, .int 54, .int 55, .int 56, .int 57, .int 48, .int 49, .int 50, .int 51, .int 52, .int 53, .int 54, .int 55, .int 56, .int 57, .int 48, .int 49, .int 50, .int 51, .int 52, .int 53, .int 54, .int 55, .int 56, .int 57, .int 48, .int 49, .int 50, .int 51, .int 52, .int 53, .int 54, .int 55, .int 56, .int 57, .int 48, .int 49, .int 50, .int 51, .int 52, .int 53, .int 54, .int 55, .int 56, .int 57, .int 48, .int 49, .int 50, .int 51, .int 52, .int 53, .int 54, .int 55, .int 56, .int 57, .int 48, .int 49, .int 50, .int 51, .int 52, .int 53, .int 54, .int 55, .int 56, .int 57, .int 48, .int 49, .int 50, .int 51, .int 52, .int 53, .int 54, .int 55, .int 56, .int 57], vm := .none },
  { cls := 24, slots := #[.int 48, .int 48, .int 48, .int 48, .int 48, .int 48, .int 48, .int 48, .int 48, .int 48, .int 49, .int 49, .int 49, .int 49, .int 49, .int 49, .int 49, .int 49, .int 49, .int 49, .int 50, .int 50, .int 50, .int 50, .int 50, .int 50, .int 50, .int 50, .int 50, .int 50, .int 51, .int 51, .int 51, .int 51, .int 51, .int 51, .int 51, .int 51, .int 51, .int 51, .int 52, .int 52, .int 52, .int 52, .int 52, .int 52, .int 52, .int 52, .int 52, .int 52, .int 53, .int 53, .int 53, .int 53, .int 53, .int 53, .int 53, .int 53, .int 53, .int 53, .int 54, .int 54, .int 54, .int 54, .int 54, .int 54, .int 54, .int 54, .int 54, .int 54, .int 55, .int 55, .int 55, .int 55, .int 55, .int 55, .int 55, .int 55, .int 55, .int 55, .int 56, .int 56, .int 56, .int 56, .int 56, .int 56, .int 56, .int 56, .int 56, .int 56, .int 57, .int 57, .int 57, .int 57, .int 57, .int 57, .int 57, .int 57, .int 57, .int 57], vm := .none }]
def classes : Array Class := #[k0, k1, k2, k3, k4, k5, k6, k7, k8, k9, k10, k11, k12, k13, k14, k15, k16, k17, k18, k19, k20, k21, k22, k23, k24, k25, k26, k27, k28]
def interned : List (Array UInt16 × Addr) := []
def slotsUsed : Nat := 219
def theMethod : MethodId := ⟨1, 1⟩
def args0 : Array Value := #[.int 5, .long 7, .long 9, .int 3]
def aboutOver (below : List Frame) : State where
  vm := { classes := classes, interned := interned.toArray }
  heap := heap
  slotsUsed := slotsUsed
  threads := #[{ frames := .invoking theMethod args0 :: below }]
def below0 : List Frame := [.native { method := ⟨0, 0⟩, args := #[] }]
def about1 : State := aboutOver below0
def p0 : Program := .bare "" "" ""
def e0 : Env := launch0.env 0 0 0
theorem w_frames : about1.frames = Frame.invoking theMethod args0 :: below0 := rfl
set_option maxRecDepth 65536 in
theorem w_args : argsFit about1.vm theMethod args0 = true := by decide +kernel
set_option maxRecDepth 65536 in
theorem w_heap : heapFits about1 = true := by decide +kernel
set_option maxRecDepth 65536 in
theorem w_runnable : about1.curStatus? = some .runnable := by decide +kernel
set_option maxRecDepth 65536 in
theorem w_alone : about1.alone = true := by decide +kernel
set_option maxRecDepth 65536 in
theorem w_named : about1.methodNamed? x = some theMethod := by decide +kernel
set_option maxRecDepth 65536 in
theorem w_hears : about1.hears theMethod below0 = true := by decide +kernel
set_option maxRecDepth 65536 in
theorem w_ripe : about1.ripe theMethod args0 below0 = true := by decide +kernel
theorem w_running : about1.status = .running := rfl
set_option maxRecDepth 65536 in
theorem w_room : about1.hasRoom e0.platform room_1 = true :=
  launch0.hasRoom_least _ room_1 (by decide +kernel) (by decide +kernel) (by decide +kernel) (by decide +kernel) (by decide +kernel) (by decide +kernel)
theorem allAtoms_all (ts : List Jvm.Cond) (a : Array Jvm.Value) (st : Jvm.State) : (allAtoms ts).before a st = ts.all (fun c => c.before a st) := by
  induction ts with
  | nil => rfl
  | cons c t ih =>
    show (Jvm.Cond.and c (allAtoms t)).before a st = _
    rw [Jvm.Cond.before_and, ih, List.all_cons]
def words1 : List Jvm.Cond := Jvm.Cond.code x code maxLocals ret :: tables_1
/-- a 'code' word, met by the world's own term for the bytes: nothing is compared byte by byte -/
theorem code_word {y : MethodName} {bytes : ByteArray} {mx : Nat} {rt : Option FieldType} {a : Array Value} {s : State} {m : MethodId} {meth : Method} {c : Code} (h1 : s.methodNamed? y = some m) (h2 : s.vm.method? m = some meth) (h3 : meth.code = some c) (h4 : c.code = bytes)
    (h5 : (c.maxLocals == mx && c.exceptionTable.isEmpty && decide (c.maxStack ≤ mostOperands) && decide (meth.sig.returnType = rt) && !meth.locks && decide (parseMethodDescriptor y.desc = some meth.sig)) = true) : (Jvm.Cond.code y bytes mx rt).before a s = true := by
  simp only [Bool.and_eq_true, beq_iff_eq, Bool.not_eq_true', decide_eq_true_eq] at h5
  obtain ⟨⟨⟨⟨⟨g1, g2⟩, g3⟩, g4⟩, g5⟩, g6⟩ := h5
  simp [Cond.before, Cond.holds, Cond.value, h1, h2, h3, h4, g1, g2, g3, g4, g5, g6]
def isCode : Jvm.Cond → Bool
  | .code _ _ _ _ => true
  | _ => false
theorem all_split {L : List Jvm.Cond} {P : Jvm.Cond → Bool} (h1 : L.all (fun c => isCode c || P c) = true) (h2 : ∀ c ∈ L.filter isCode, P c = true) : L.all P = true := by
  refine List.all_eq_true.mpr fun c hc => ?_
  have h := List.all_eq_true.mp h1 c hc
  rcases Bool.eq_false_or_eq_true (isCode c) with hi | hi
  · exact h2 c (List.mem_filter.mpr ⟨hc, hi⟩)
  · simpa [hi] using h
set_option maxRecDepth 65536 in
theorem w_c0 : (Jvm.Cond.code x code maxLocals ret).before args0 about1 = true := code_word (m := ⟨1, 1⟩) (meth := k1m1) (c := k1c1) (by decide +kernel) rfl rfl rfl (by decide +kernel)
set_option maxRecDepth 65536 in
theorem w_c1 : (Jvm.Cond.code ({ cls := "com/example/tranche/tranche/journal/JournalEnd", name := "<init>", desc := "(IJJ)V" } : Jvm.MethodName) prog_8_method_1_code (6 : Nat) (Option.none : Option Jvm.ClassFile.FieldType)).before args0 about1 = true := code_word (m := ⟨3, 0⟩) (meth := k3m0) (c := k3c0) (by decide +kernel) rfl rfl rfl (by decide +kernel)
set_option maxRecDepth 65536 in
theorem w_c2 : (Jvm.Cond.code ({ cls := "java/lang/Record", name := "<init>", desc := "()V" } : Jvm.MethodName) jdk_30_method_1_code (1 : Nat) (Option.none : Option Jvm.ClassFile.FieldType)).before args0 about1 = true := code_word (m := ⟨2, 0⟩) (meth := k2m0) (c := k2c0) (by decide +kernel) rfl rfl rfl (by decide +kernel)
set_option maxRecDepth 65536 in
theorem w_c3 : (Jvm.Cond.code ({ cls := "java/lang/Object", name := "<init>", desc := "()V" } : Jvm.MethodName) object_method_1_code (1 : Nat) (Option.none : Option Jvm.ClassFile.FieldType)).before args0 about1 = true := code_word (m := ⟨0, 0⟩) (meth := k0m0) (c := k0c0) (by decide +kernel) rfl rfl rfl (by decide +kernel)
set_option maxRecDepth 65536 in
theorem w_c4 : (Jvm.Cond.code ({ cls := "com/example/tranche/tranche/journal/JournalEnd", name := "tornTail", desc := "()Ljava/lang/String;" } : Jvm.MethodName) prog_8_method_3_code (1 : Nat) (Option.some (Jvm.ClassFile.FieldType.object "java/lang/String"))).before args0 about1 = true := code_word (m := ⟨3, 1⟩) (meth := k3m1) (c := k3c1) (by decide +kernel) rfl rfl rfl (by decide +kernel)
set_option maxRecDepth 65536 in
theorem w_c5 : (Jvm.Cond.code ({ cls := "java/lang/StringBuilder", name := "<init>", desc := "()V" } : Jvm.MethodName) jdk_67_method_1_code (1 : Nat) (Option.none : Option Jvm.ClassFile.FieldType)).before args0 about1 = true := code_word (m := ⟨9, 0⟩) (meth := k9m0) (c := k9c0) (by decide +kernel) rfl rfl rfl (by decide +kernel)
set_option maxRecDepth 65536 in
theorem w_c6 : (Jvm.Cond.code ({ cls := "java/lang/AbstractStringBuilder", name := "<init>", desc := "(I)V" } : Jvm.MethodName) jdk_68_method_2_code (2 : Nat) (Option.none : Option Jvm.ClassFile.FieldType)).before args0 about1 = true := code_word (m := ⟨6, 1⟩) (meth := k6m1) (c := k6c1) (by decide +kernel) rfl rfl rfl (by decide +kernel)
set_option maxRecDepth 65536 in
theorem w_c7 : (Jvm.Cond.code ({ cls := "java/lang/StringBuilder", name := "append", desc := "(Ljava/lang/String;)Ljava/lang/StringBuilder;" } : Jvm.MethodName) jdk_67_method_7_code (2 : Nat) (Option.some (Jvm.ClassFile.FieldType.object "java/lang/StringBuilder"))).before args0 about1 = true := code_word (m := ⟨9, 1⟩) (meth := k9m1) (c := k9c1) (by decide +kernel) rfl rfl rfl (by decide +kernel)
set_option maxRecDepth 65536 in
theorem w_c8 : (Jvm.Cond.code ({ cls := "java/lang/AbstractStringBuilder", name := "append", desc := "(Ljava/lang/String;)Ljava/lang/AbstractStringBuilder;" } : Jvm.MethodName) jdk_68_method_22_code (3 : Nat) (Option.some (Jvm.ClassFile.FieldType.object "java/lang/AbstractStringBuilder"))).before args0 about1 = true := code_word (m := ⟨6, 5⟩) (meth := k6m5) (c := k6c5) (by decide +kernel) rfl rfl rfl (by decide +kernel)
set_option maxRecDepth 65536 in
theorem w_c9 : (Jvm.Cond.code ({ cls := "java/lang/String", name := "length", desc := "()I" } : Jvm.MethodName) jdk_42_method_54_code (1 : Nat) (Option.some Jvm.ClassFile.FieldType.int)).before args0 about1 = true := code_word (m := ⟨12, 2⟩) (meth := k12m2) (c := k12c2) (by decide +kernel) rfl rfl rfl (by decide +kernel)
set_option maxRecDepth 65536 in
theorem w_c10 : (Jvm.Cond.code ({ cls := "java/lang/String", name := "coder", desc := "()B" } : Jvm.MethodName) jdk_42_method_152_code (1 : Nat) (Option.some Jvm.ClassFile.FieldType.byte)).before args0 about1 = true := code_word (m := ⟨12, 6⟩) (meth := k12m6) (c := k12c6) (by decide +kernel) rfl rfl rfl (by decide +kernel)
set_option maxRecDepth 65536 in
theorem w_c11 : (Jvm.Cond.code ({ cls := "java/lang/AbstractStringBuilder", name := "ensureCapacityInternal", desc := "(I)V" } : Jvm.MethodName) jdk_68_method_9_code (3 : Nat) (Option.none : Option Jvm.ClassFile.FieldType)).before args0 about1 = true := code_word (m := ⟨6, 3⟩) (meth := k6m3) (c := k6c3) (by decide +kernel) rfl rfl rfl (by decide +kernel)
set_option maxRecDepth 65536 in
theorem w_c12 : (Jvm.Cond.code ({ cls := "java/lang/AbstractStringBuilder", name := "putStringAt", desc := "(ILjava/lang/String;)V" } : Jvm.MethodName) jdk_68_method_73_code (3 : Nat) (Option.none : Option Jvm.ClassFile.FieldType)).before args0 about1 = true := code_word (m := ⟨6, 11⟩) (meth := k6m11) (c := k6c11) (by decide +kernel) rfl rfl rfl (by decide +kernel)
set_option maxRecDepth 65536 in
theorem w_c13 : (Jvm.Cond.code ({ cls := "java/lang/AbstractStringBuilder", name := "inflateIfNeededFor", desc := "(Ljava/lang/String;)V" } : Jvm.MethodName) jdk_68_method_71_code (2 : Nat) (Option.none : Option Jvm.ClassFile.FieldType)).before args0 about1 = true := code_word (m := ⟨6, 10⟩) (meth := k6m10) (c := k6c10) (by decide +kernel) rfl rfl rfl (by decide +kernel)
set_option maxRecDepth 65536 in
theorem w_c14 : (Jvm.Cond.code ({ cls := "java/lang/String", name := "getBytes", desc := "([BIB)V" } : Jvm.MethodName) jdk_42_method_147_code (4 : Nat) (Option.none : Option Jvm.ClassFile.FieldType)).before args0 about1 = true := code_word (m := ⟨12, 4⟩) (meth := k12m4) (c := k12c4) (by decide +kernel) rfl rfl rfl (by decide +kernel)
set_option maxRecDepth 65536 in
theorem w_c15 : (Jvm.Cond.code ({ cls := "java/lang/StringBuilder", name := "append", desc := "(J)Ljava/lang/StringBuilder;" } : Jvm.MethodName) jdk_67_method_16_code (3 : Nat) (Option.some (Jvm.ClassFile.FieldType.object "java/lang/StringBuilder"))).before args0 about1 = true := code_word (m := ⟨9, 3⟩) (meth := k9m3) (c := k9c3) (by decide +kernel) rfl rfl rfl (by decide +kernel)
set_option maxRecDepth 65536 in
theorem w_c16 : (Jvm.Cond.code ({ cls := "java/lang/AbstractStringBuilder", name := "append", desc := "(J)Ljava/lang/AbstractStringBuilder;" } : Jvm.MethodName) jdk_68_method_33_code (5 : Nat) (Option.some (Jvm.ClassFile.FieldType.object "java/lang/AbstractStringBuilder"))).before args0 about1 = true := code_word (m := ⟨6, 7⟩) (meth := k6m7) (c := k6c7) (by decide +kernel) rfl rfl rfl (by decide +kernel)
set_option maxRecDepth 65536 in
theorem w_c17 : (Jvm.Cond.code ({ cls := "java/lang/Long", name := "stringSize", desc := "(J)I" } : Jvm.MethodName) jdk_35_method_15_code (6 : Nat) (Option.some Jvm.ClassFile.FieldType.int)).before args0 about1 = true := code_word (m := ⟨15, 1⟩) (meth := k15m1) (c := k15c1) (by decide +kernel) rfl rfl rfl (by decide +kernel)
set_option maxRecDepth 65536 in
theorem w_c18 : (Jvm.Cond.code ({ cls := "java/lang/AbstractStringBuilder", name := "newCapacity", desc := "(I)I" } : Jvm.MethodName) jdk_68_method_10_code (6 : Nat) (Option.some Jvm.ClassFile.FieldType.int)).before args0 about1 = true := code_word (m := ⟨6, 4⟩) (meth := k6m4) (c := k6c4) (by decide +kernel) rfl rfl rfl (by decide +kernel)
set_option maxRecDepth 65536 in
theorem w_c19 : (Jvm.Cond.code ({ cls := "jdk/internal/util/ArraysSupport", name := "newLength", desc := "(III)I" } : Jvm.MethodName) jdk_48_method_27_code (4 : Nat) (Option.some Jvm.ClassFile.FieldType.int)).before args0 about1 = true := code_word (m := ⟨16, 1⟩) (meth := k16m1) (c := k16c1) (by decide +kernel) rfl rfl rfl (by decide +kernel)
set_option maxRecDepth 65536 in
theorem w_c20 : (Jvm.Cond.code ({ cls := "java/lang/Math", name := "max", desc := "(II)I" } : Jvm.MethodName) jdk_29_method_65_code (2 : Nat) (Option.some Jvm.ClassFile.FieldType.int)).before args0 about1 = true := code_word (m := ⟨17, 2⟩) (meth := k17m2) (c := k17c2) (by decide +kernel) rfl rfl rfl (by decide +kernel)
set_option maxRecDepth 65536 in
theorem w_c21 : (Jvm.Cond.code ({ cls := "java/util/Arrays", name := "copyOf", desc := "([BI)[B" } : Jvm.MethodName) jdk_65_method_121_code (3 : Nat) (Option.some (Jvm.ClassFile.FieldType.array Jvm.ClassFile.FieldType.byte))).before args0 about1 = true := code_word (m := ⟨18, 1⟩) (meth := k18m1) (c := k18c1) (by decide +kernel) rfl rfl rfl (by decide +kernel)
set_option maxRecDepth 65536 in
theorem w_c22 : (Jvm.Cond.code ({ cls := "java/lang/Math", name := "min", desc := "(II)I" } : Jvm.MethodName) jdk_29_method_69_code (2 : Nat) (Option.some Jvm.ClassFile.FieldType.int)).before args0 about1 = true := code_word (m := ⟨17, 3⟩) (meth := k17m3) (c := k17c3) (by decide +kernel) rfl rfl rfl (by decide +kernel)
set_option maxRecDepth 65536 in
theorem w_c23 : (Jvm.Cond.code ({ cls := "java/lang/AbstractStringBuilder", name := "isLatin1", desc := "()Z" } : Jvm.MethodName) jdk_68_method_68_code (1 : Nat) (Option.some Jvm.ClassFile.FieldType.boolean)).before args0 about1 = true := code_word (m := ⟨6, 9⟩) (meth := k6m9) (c := k6c9) (by decide +kernel) rfl rfl rfl (by decide +kernel)
set_option maxRecDepth 65536 in
theorem w_c24 : (Jvm.Cond.code ({ cls := "java/lang/Long", name := "getChars", desc := "(JI[B)I" } : Jvm.MethodName) jdk_35_method_14_code (11 : Nat) (Option.some Jvm.ClassFile.FieldType.int)).before args0 about1 = true := code_word (m := ⟨15, 0⟩) (meth := k15m0) (c := k15c0) (by decide +kernel) rfl rfl rfl (by decide +kernel)
set_option maxRecDepth 65536 in
theorem w_c25 : (Jvm.Cond.code ({ cls := "java/lang/StringBuilder", name := "append", desc := "(I)Ljava/lang/StringBuilder;" } : Jvm.MethodName) jdk_67_method_15_code (2 : Nat) (Option.some (Jvm.ClassFile.FieldType.object "java/lang/StringBuilder"))).before args0 about1 = true := code_word (m := ⟨9, 2⟩) (meth := k9m2) (c := k9c2) (by decide +kernel) rfl rfl rfl (by decide +kernel)
set_option maxRecDepth 65536 in
theorem w_c26 : (Jvm.Cond.code ({ cls := "java/lang/AbstractStringBuilder", name := "append", desc := "(I)Ljava/lang/AbstractStringBuilder;" } : Jvm.MethodName) jdk_68_method_32_code (4 : Nat) (Option.some (Jvm.ClassFile.FieldType.object "java/lang/AbstractStringBuilder"))).before args0 about1 = true := code_word (m := ⟨6, 6⟩) (meth := k6m6) (c := k6c6) (by decide +kernel) rfl rfl rfl (by decide +kernel)
set_option maxRecDepth 65536 in
theorem w_c27 : (Jvm.Cond.code ({ cls := "java/lang/Integer", name := "stringSize", desc := "(I)I" } : Jvm.MethodName) jdk_33_method_13_code (4 : Nat) (Option.some Jvm.ClassFile.FieldType.int)).before args0 about1 = true := code_word (m := ⟨19, 1⟩) (meth := k19m1) (c := k19c1) (by decide +kernel) rfl rfl rfl (by decide +kernel)
set_option maxRecDepth 65536 in
theorem w_c28 : (Jvm.Cond.code ({ cls := "java/lang/Integer", name := "getChars", desc := "(II[B)I" } : Jvm.MethodName) jdk_33_method_12_code (7 : Nat) (Option.some Jvm.ClassFile.FieldType.int)).before args0 about1 = true := code_word (m := ⟨19, 0⟩) (meth := k19m0) (c := k19c0) (by decide +kernel) rfl rfl rfl (by decide +kernel)
set_option maxRecDepth 65536 in
theorem w_c29 : (Jvm.Cond.code ({ cls := "java/lang/StringBuilder", name := "toString", desc := "()Ljava/lang/String;" } : Jvm.MethodName) jdk_67_method_42_code (1 : Nat) (Option.some (Jvm.ClassFile.FieldType.object "java/lang/String"))).before args0 about1 = true := code_word (m := ⟨9, 4⟩) (meth := k9m4) (c := k9c4) (by decide +kernel) rfl rfl rfl (by decide +kernel)
set_option maxRecDepth 65536 in
theorem w_c30 : (Jvm.Cond.code ({ cls := "java/lang/String", name := "<init>", desc := "(Ljava/lang/StringBuilder;)V" } : Jvm.MethodName) jdk_42_method_53_code (2 : Nat) (Option.none : Option Jvm.ClassFile.FieldType)).before args0 about1 = true := code_word (m := ⟨12, 1⟩) (meth := k12m1) (c := k12c1) (by decide +kernel) rfl rfl rfl (by decide +kernel)
set_option maxRecDepth 65536 in
theorem w_c31 : (Jvm.Cond.code ({ cls := "java/lang/String", name := "<init>", desc := "(Ljava/lang/AbstractStringBuilder;Ljava/lang/Void;)V" } : Jvm.MethodName) jdk_42_method_150_code (5 : Nat) (Option.none : Option Jvm.ClassFile.FieldType)).before args0 about1 = true := code_word (m := ⟨12, 5⟩) (meth := k12m5) (c := k12c5) (by decide +kernel) rfl rfl rfl (by decide +kernel)
set_option maxRecDepth 65536 in
theorem w_c32 : (Jvm.Cond.code ({ cls := "java/lang/AbstractStringBuilder", name := "getValue", desc := "()[B" } : Jvm.MethodName) jdk_68_method_64_code (1 : Nat) (Option.some (Jvm.ClassFile.FieldType.array Jvm.ClassFile.FieldType.byte))).before args0 about1 = true := code_word (m := ⟨6, 8⟩) (meth := k6m8) (c := k6c8) (by decide +kernel) rfl rfl rfl (by decide +kernel)
set_option maxRecDepth 65536 in
theorem w_c33 : (Jvm.Cond.code ({ cls := "java/lang/StringBuilder", name := "length", desc := "()I" } : Jvm.MethodName) jdk_67_method_93_code (1 : Nat) (Option.some Jvm.ClassFile.FieldType.int)).before args0 about1 = true := code_word (m := ⟨9, 5⟩) (meth := k9m5) (c := k9c5) (by decide +kernel) rfl rfl rfl (by decide +kernel)
set_option maxRecDepth 65536 in
theorem w_c34 : (Jvm.Cond.code ({ cls := "java/lang/AbstractStringBuilder", name := "length", desc := "()I" } : Jvm.MethodName) jdk_68_method_6_code (1 : Nat) (Option.some Jvm.ClassFile.FieldType.int)).before args0 about1 = true := code_word (m := ⟨6, 2⟩) (meth := k6m2) (c := k6c2) (by decide +kernel) rfl rfl rfl (by decide +kernel)
set_option maxRecDepth 65536 in
theorem w_c35 : (Jvm.Cond.code ({ cls := "java/util/Arrays", name := "copyOfRange", desc := "([BII)[B" } : Jvm.MethodName) jdk_65_method_132_code (3 : Nat) (Option.some (Jvm.ClassFile.FieldType.array Jvm.ClassFile.FieldType.byte))).before args0 about1 = true := code_word (m := ⟨18, 3⟩) (meth := k18m3) (c := k18c3) (by decide +kernel) rfl rfl rfl (by decide +kernel)
set_option maxRecDepth 65536 in
theorem w_c36 : (Jvm.Cond.code ({ cls := "java/util/Arrays", name := "copyOfRangeByte", desc := "([BII)[B" } : Jvm.MethodName) jdk_65_method_133_code (5 : Nat) (Option.some (Jvm.ClassFile.FieldType.array Jvm.ClassFile.FieldType.byte))).before args0 about1 = true := code_word (m := ⟨18, 4⟩) (meth := k18m4) (c := k18c4) (by decide +kernel) rfl rfl rfl (by decide +kernel)
set_option maxRecDepth 65536 in
theorem w_c37 : (Jvm.Cond.code ({ cls := "java/util/Arrays", name := "checkLength", desc := "(II)V" } : Jvm.MethodName) jdk_65_method_131_code (2 : Nat) (Option.none : Option Jvm.ClassFile.FieldType)).before args0 about1 = true := code_word (m := ⟨18, 2⟩) (meth := k18m2) (c := k18c2) (by decide +kernel) rfl rfl rfl (by decide +kernel)
set_option maxRecDepth 65536 in
theorem w_c38 : (Jvm.Cond.code ({ cls := "com/example/tranche/tranche/journal/JournalEndTornTailPinLaw", name := "decLen", desc := "(J)I" } : Jvm.MethodName) method_4_code (5 : Nat) (Option.some Jvm.ClassFile.FieldType.int)).before args0 about1 = true := code_word (m := ⟨1, 3⟩) (meth := k1m3) (c := k1c3) (by decide +kernel) rfl rfl rfl (by decide +kernel)
set_option maxRecDepth 65536 in
theorem w_c39 : (Jvm.Cond.code ({ cls := "java/lang/String", name := "charAt", desc := "(I)C" } : Jvm.MethodName) jdk_42_method_56_code (2 : Nat) (Option.some Jvm.ClassFile.FieldType.char)).before args0 about1 = true := code_word (m := ⟨12, 3⟩) (meth := k12m3) (c := k12c3) (by decide +kernel) rfl rfl rfl (by decide +kernel)
set_option maxRecDepth 65536 in
theorem w_c40 : (Jvm.Cond.code ({ cls := "java/lang/String", name := "isLatin1", desc := "()Z" } : Jvm.MethodName) jdk_42_method_154_code (1 : Nat) (Option.some Jvm.ClassFile.FieldType.boolean)).before args0 about1 = true := code_word (m := ⟨12, 7⟩) (meth := k12m7) (c := k12c7) (by decide +kernel) rfl rfl rfl (by decide +kernel)
set_option maxRecDepth 65536 in
theorem w_c41 : (Jvm.Cond.code ({ cls := "java/lang/StringLatin1", name := "charAt", desc := "([BI)C" } : Jvm.MethodName) jdk_43_method_2_code (2 : Nat) (Option.some Jvm.ClassFile.FieldType.char)).before args0 about1 = true := code_word (m := ⟨20, 1⟩) (meth := k20m1) (c := k20c1) (by decide +kernel) rfl rfl rfl (by decide +kernel)
set_option maxRecDepth 65536 in
theorem w_c42 : (Jvm.Cond.code ({ cls := "java/lang/String", name := "checkIndex", desc := "(II)V" } : Jvm.MethodName) jdk_42_method_155_code (2 : Nat) (Option.none : Option Jvm.ClassFile.FieldType)).before args0 about1 = true := code_word (m := ⟨12, 8⟩) (meth := k12m8) (c := k12c8) (by decide +kernel) rfl rfl rfl (by decide +kernel)
set_option maxRecDepth 65536 in
theorem w_c43 : (Jvm.Cond.code ({ cls := "jdk/internal/util/Preconditions", name := "checkIndex", desc := "(IILjava/util/function/BiFunction;)I" } : Jvm.MethodName) jdk_41_method_11_code (3 : Nat) (Option.some Jvm.ClassFile.FieldType.int)).before args0 about1 = true := code_word (m := ⟨21, 1⟩) (meth := k21m1) (c := k21c1) (by decide +kernel) rfl rfl rfl (by decide +kernel)
set_option maxRecDepth 65536 in
theorem w_c44 : (Jvm.Cond.code ({ cls := "com/example/tranche/tranche/journal/JournalEndTornTailPinLaw", name := "expectedAt", desc := "(IIJII)C" } : Jvm.MethodName) method_3_code (8 : Nat) (Option.some Jvm.ClassFile.FieldType.char)).before args0 about1 = true := code_word (m := ⟨1, 2⟩) (meth := k1m2) (c := k1c2) (by decide +kernel) rfl rfl rfl (by decide +kernel)
set_option maxRecDepth 65536 in
theorem w_c45 : (Jvm.Cond.code ({ cls := "com/example/tranche/tranche/journal/JournalEndTornTailPinLaw", name := "digitChar", desc := "(JII)C" } : Jvm.MethodName) method_6_code (7 : Nat) (Option.some Jvm.ClassFile.FieldType.char)).before args0 about1 = true := code_word (m := ⟨1, 5⟩) (meth := k1m5) (c := k1c5) (by decide +kernel) rfl rfl rfl (by decide +kernel)
set_option maxRecDepth 65536 in
theorem w_c46 : (Jvm.Cond.code ({ cls := "com/example/tranche/tranche/journal/JournalEndTornTailPinLaw", name := "pow10", desc := "(I)J" } : Jvm.MethodName) method_5_code (2 : Nat) (Option.some Jvm.ClassFile.FieldType.long)).before args0 about1 = true := code_word (m := ⟨1, 4⟩) (meth := k1m4) (c := k1c4) (by decide +kernel) rfl rfl rfl (by decide +kernel)
set_option maxRecDepth 65536 in
theorem w_c47 : (Jvm.Cond.code ({ cls := "java/lang/Math", name := "abs", desc := "(J)J" } : Jvm.MethodName) jdk_29_method_61_code (2 : Nat) (Option.some Jvm.ClassFile.FieldType.long)).before args0 about1 = true := code_word (m := ⟨17, 1⟩) (meth := k17m1) (c := k17c1) (by decide +kernel) rfl rfl rfl (by decide +kernel)
def codes1 : List Jvm.Cond := [Jvm.Cond.code x code maxLocals ret, Jvm.Cond.code ({ cls := "com/example/tranche/tranche/journal/JournalEnd", name := "<init>", desc := "(IJJ)V" } : Jvm.MethodName) prog_8_method_1_code (6 : Nat) (Option.none : Option Jvm.ClassFile.FieldType), Jvm.Cond.code ({ cls := "java/lang/Record", name := "<init>", desc := "()V" } : Jvm.MethodName) jdk_30_method_1_code (1 : Nat) (Option.none : Option Jvm.ClassFile.FieldType), Jvm.Cond.code ({ cls := "java/lang/Object", name := "<init>", desc := "()V" } : Jvm.MethodName) object_method_1_code (1 : Nat) (Option.none : Option Jvm.ClassFile.FieldType), Jvm.Cond.code ({ cls := "com/example/tranche/tranche/journal/JournalEnd", name := "tornTail", desc := "()Ljava/lang/String;" } : Jvm.MethodName) prog_8_method_3_code (1 : Nat) (Option.some (Jvm.ClassFile.FieldType.object "java/lang/String")), Jvm.Cond.code ({ cls := "java/lang/StringBuilder", name := "<init>", desc := "()V" } : Jvm.MethodName) jdk_67_method_1_code (1 : Nat) (Option.none : Option Jvm.ClassFile.FieldType), Jvm.Cond.code ({ cls := "java/lang/AbstractStringBuilder", name := "<init>", desc := "(I)V" } : Jvm.MethodName) jdk_68_method_2_code (2 : Nat) (Option.none : Option Jvm.ClassFile.FieldType), Jvm.Cond.code ({ cls := "java/lang/StringBuilder", name := "append", desc := "(Ljava/lang/String;)Ljava/lang/StringBuilder;" } : Jvm.MethodName) jdk_67_method_7_code (2 : Nat) (Option.some (Jvm.ClassFile.FieldType.object "java/lang/StringBuilder")), Jvm.Cond.code ({ cls := "java/lang/AbstractStringBuilder", name := "append", desc := "(Ljava/lang/String;)Ljava/lang/AbstractStringBuilder;" } : Jvm.MethodName) jdk_68_method_22_code (3 : Nat) (Option.some (Jvm.ClassFile.FieldType.object "java/lang/AbstractStringBuilder")), Jvm.Cond.code ({ cls := "java/lang/String", name := "length", desc := "()I" } : Jvm.MethodName) jdk_42_method_54_code (1 : Nat) (Option.some Jvm.ClassFile.FieldType.int), Jvm.Cond.code ({ cls := "java/lang/String", name := "coder", desc := "()B" } : Jvm.MethodName) jdk_42_method_152_code (1 : Nat) (Option.some Jvm.ClassFile.FieldType.byte), Jvm.Cond.code ({ cls := "java/lang/AbstractStringBuilder", name := "ensureCapacityInternal", desc := "(I)V" } : Jvm.MethodName) jdk_68_method_9_code (3 : Nat) (Option.none : Option Jvm.ClassFile.FieldType), Jvm.Cond.code ({ cls := "java/lang/AbstractStringBuilder", name := "putStringAt", desc := "(ILjava/lang/String;)V" } : Jvm.MethodName) jdk_68_method_73_code (3 : Nat) (Option.none : Option Jvm.ClassFile.FieldType), Jvm.Cond.code ({ cls := "java/lang/AbstractStringBuilder", name := "inflateIfNeededFor", desc := "(Ljava/lang/String;)V" } : Jvm.MethodName) jdk_68_method_71_code (2 : Nat) (Option.none : Option Jvm.ClassFile.FieldType), Jvm.Cond.code ({ cls := "java/lang/String", name := "getBytes", desc := "([BIB)V" } : Jvm.MethodName) jdk_42_method_147_code (4 : Nat) (Option.none : Option Jvm.ClassFile.FieldType), Jvm.Cond.code ({ cls := "java/lang/StringBuilder", name := "append", desc := "(J)Ljava/lang/StringBuilder;" } : Jvm.MethodName) jdk_67_method_16_code (3 : Nat) (Option.some (Jvm.ClassFile.FieldType.object "java/lang/StringBuilder")), Jvm.Cond.code ({ cls := "java/lang/AbstractStringBuilder", name := "append", desc := "(J)Ljava/lang/AbstractStringBuilder;" } : Jvm.MethodName) jdk_68_method_33_code (5 : Nat) (Option.some (Jvm.ClassFile.FieldType.object "java/lang/AbstractStringBuilder")), Jvm.Cond.code ({ cls := "java/lang/Long", name := "stringSize", desc := "(J)I" } : Jvm.MethodName) jdk_35_method_15_code (6 : Nat) (Option.some Jvm.ClassFile.FieldType.int), Jvm.Cond.code ({ cls := "java/lang/AbstractStringBuilder", name := "newCapacity", desc := "(I)I" } : Jvm.MethodName) jdk_68_method_10_code (6 : Nat) (Option.some Jvm.ClassFile.FieldType.int), Jvm.Cond.code ({ cls := "jdk/internal/util/ArraysSupport", name := "newLength", desc := "(III)I" } : Jvm.MethodName) jdk_48_method_27_code (4 : Nat) (Option.some Jvm.ClassFile.FieldType.int), Jvm.Cond.code ({ cls := "java/lang/Math", name := "max", desc := "(II)I" } : Jvm.MethodName) jdk_29_method_65_code (2 : Nat) (Option.some Jvm.ClassFile.FieldType.int), Jvm.Cond.code ({ cls := "java/util/Arrays", name := "copyOf", desc := "([BI)[B" } : Jvm.MethodName) jdk_65_method_121_code (3 : Nat) (Option.some (Jvm.ClassFile.FieldType.array Jvm.ClassFile.FieldType.byte)), Jvm.Cond.code ({ cls := "java/lang/Math", name := "min", desc := "(II)I" } : Jvm.MethodName) jdk_29_method_69_code (2 : Nat) (Option.some Jvm.ClassFile.FieldType.int), Jvm.Cond.code ({ cls := "java/lang/AbstractStringBuilder", name := "isLatin1", desc := "()Z" } : Jvm.MethodName) jdk_68_method_68_code (1 : Nat) (Option.some Jvm.ClassFile.FieldType.boolean), Jvm.Cond.code ({ cls := "java/lang/Long", name := "getChars", desc := "(JI[B)I" } : Jvm.MethodName) jdk_35_method_14_code (11 : Nat) (Option.some Jvm.ClassFile.FieldType.int), Jvm.Cond.code ({ cls := "java/lang/StringBuilder", name := "append", desc := "(I)Ljava/lang/StringBuilder;" } : Jvm.MethodName) jdk_67_method_15_code (2 : Nat) (Option.some (Jvm.ClassFile.FieldType.object "java/lang/StringBuilder")), Jvm.Cond.code ({ cls := "java/lang/AbstractStringBuilder", name := "append", desc := "(I)Ljava/lang/AbstractStringBuilder;" } : Jvm.MethodName) jdk_68_method_32_code (4 : Nat) (Option.some (Jvm.ClassFile.FieldType.object "java/lang/AbstractStringBuilder")), Jvm.Cond.code ({ cls := "java/lang/Integer", name := "stringSize", desc := "(I)I" } : Jvm.MethodName) jdk_33_method_13_code (4 : Nat) (Option.some Jvm.ClassFile.FieldType.int), Jvm.Cond.code ({ cls := "java/lang/Integer", name := "getChars", desc := "(II[B)I" } : Jvm.MethodName) jdk_33_method_12_code (7 : Nat) (Option.some Jvm.ClassFile.FieldType.int), Jvm.Cond.code ({ cls := "java/lang/StringBuilder", name := "toString", desc := "()Ljava/lang/String;" } : Jvm.MethodName) jdk_67_method_42_code (1 : Nat) (Option.some (Jvm.ClassFile.FieldType.object "java/lang/String")), Jvm.Cond.code ({ cls := "java/lang/String", name := "<init>", desc := "(Ljava/lang/StringBuilder;)V" } : Jvm.MethodName) jdk_42_method_53_code (2 : Nat) (Option.none : Option Jvm.ClassFile.FieldType), Jvm.Cond.code ({ cls := "java/lang/String", name := "<init>", desc := "(Ljava/lang/AbstractStringBuilder;Ljava/lang/Void;)V" } : Jvm.MethodName) jdk_42_method_150_code (5 : Nat) (Option.none : Option Jvm.ClassFile.FieldType), Jvm.Cond.code ({ cls := "java/lang/AbstractStringBuilder", name := "getValue", desc := "()[B" } : Jvm.MethodName) jdk_68_method_64_code (1 : Nat) (Option.some (Jvm.ClassFile.FieldType.array Jvm.ClassFile.FieldType.byte)), Jvm.Cond.code ({ cls := "java/lang/StringBuilder", name := "length", desc := "()I" } : Jvm.MethodName) jdk_67_method_93_code (1 : Nat) (Option.some Jvm.ClassFile.FieldType.int), Jvm.Cond.code ({ cls := "java/lang/AbstractStringBuilder", name := "length", desc := "()I" } : Jvm.MethodName) jdk_68_method_6_code (1 : Nat) (Option.some Jvm.ClassFile.FieldType.int), Jvm.Cond.code ({ cls := "java/util/Arrays", name := "copyOfRange", desc := "([BII)[B" } : Jvm.MethodName) jdk_65_method_132_code (3 : Nat) (Option.some (Jvm.ClassFile.FieldType.array Jvm.ClassFile.FieldType.byte)), Jvm.Cond.code ({ cls := "java/util/Arrays", name := "copyOfRangeByte", desc := "([BII)[B" } : Jvm.MethodName) jdk_65_method_133_code (5 : Nat) (Option.some (Jvm.ClassFile.FieldType.array Jvm.ClassFile.FieldType.byte)), Jvm.Cond.code ({ cls := "java/util/Arrays", name := "checkLength", desc := "(II)V" } : Jvm.MethodName) jdk_65_method_131_code (2 : Nat) (Option.none : Option Jvm.ClassFile.FieldType), Jvm.Cond.code ({ cls := "com/example/tranche/tranche/journal/JournalEndTornTailPinLaw", name := "decLen", desc := "(J)I" } : Jvm.MethodName) method_4_code (5 : Nat) (Option.some Jvm.ClassFile.FieldType.int), Jvm.Cond.code ({ cls := "java/lang/String", name := "charAt", desc := "(I)C" } : Jvm.MethodName) jdk_42_method_56_code (2 : Nat) (Option.some Jvm.ClassFile.FieldType.char), Jvm.Cond.code ({ cls := "java/lang/String", name := "isLatin1", desc := "()Z" } : Jvm.MethodName) jdk_42_method_154_code (1 : Nat) (Option.some Jvm.ClassFile.FieldType.boolean), Jvm.Cond.code ({ cls := "java/lang/StringLatin1", name := "charAt", desc := "([BI)C" } : Jvm.MethodName) jdk_43_method_2_code (2 : Nat) (Option.some Jvm.ClassFile.FieldType.char), Jvm.Cond.code ({ cls := "java/lang/String", name := "checkIndex", desc := "(II)V" } : Jvm.MethodName) jdk_42_method_155_code (2 : Nat) (Option.none : Option Jvm.ClassFile.FieldType), Jvm.Cond.code ({ cls := "jdk/internal/util/Preconditions", name := "checkIndex", desc := "(IILjava/util/function/BiFunction;)I" } : Jvm.MethodName) jdk_41_method_11_code (3 : Nat) (Option.some Jvm.ClassFile.FieldType.int), Jvm.Cond.code ({ cls := "com/example/tranche/tranche/journal/JournalEndTornTailPinLaw", name := "expectedAt", desc := "(IIJII)C" } : Jvm.MethodName) method_3_code (8 : Nat) (Option.some Jvm.ClassFile.FieldType.char), Jvm.Cond.code ({ cls := "com/example/tranche/tranche/journal/JournalEndTornTailPinLaw", name := "digitChar", desc := "(JII)C" } : Jvm.MethodName) method_6_code (7 : Nat) (Option.some Jvm.ClassFile.FieldType.char), Jvm.Cond.code ({ cls := "com/example/tranche/tranche/journal/JournalEndTornTailPinLaw", name := "pow10", desc := "(I)J" } : Jvm.MethodName) method_5_code (2 : Nat) (Option.some Jvm.ClassFile.FieldType.long), Jvm.Cond.code ({ cls := "java/lang/Math", name := "abs", desc := "(J)J" } : Jvm.MethodName) jdk_29_method_61_code (2 : Nat) (Option.some Jvm.ClassFile.FieldType.long)]
set_option maxRecDepth 65536 in
theorem codes_eq : words1.filter isCode = codes1 := rfl
theorem w_codes : ∀ c ∈ words1.filter isCode, c.before args0 about1 = true := by
  rw [codes_eq]
  intro c hc
  simp only [codes1, List.mem_cons, List.not_mem_nil, or_false] at hc
  rcases hc with rfl | rfl | rfl | rfl | rfl | rfl | rfl | rfl | rfl | rfl | rfl | rfl | rfl | rfl | rfl | rfl | rfl | rfl | rfl | rfl | rfl | rfl | rfl | rfl | rfl | rfl | rfl | rfl | rfl | rfl | rfl | rfl | rfl | rfl | rfl | rfl | rfl | rfl | rfl | rfl | rfl | rfl | rfl | rfl | rfl | rfl | rfl | rfl
  · exact w_c0
  · exact w_c1
  · exact w_c2
  · exact w_c3
  · exact w_c4
  · exact w_c5
  · exact w_c6
  · exact w_c7
  · exact w_c8
  · exact w_c9
  · exact w_c10
  · exact w_c11
  · exact w_c12
  · exact w_c13
  · exact w_c14
  · exact w_c15
  · exact w_c16
  · exact w_c17
  · exact w_c18
  · exact w_c19
  · exact w_c20
  · exact w_c21
  · exact w_c22
  · exact w_c23
  · exact w_c24
  · exact w_c25
  · exact w_c26
  · exact w_c27
  · exact w_c28
  · exact w_c29
  · exact w_c30
  · exact w_c31
  · exact w_c32
  · exact w_c33
  · exact w_c34
  · exact w_c35
  · exact w_c36
  · exact w_c37
  · exact w_c38
  · exact w_c39
  · exact w_c40
  · exact w_c41
  · exact w_c42
  · exact w_c43
  · exact w_c44
  · exact w_c45
  · exact w_c46
  · exact w_c47
set_option maxRecDepth 65536 in
theorem w_t1 : (words1.take 24).all (fun c => isCode c || c.before args0 about1) = true := by decide +kernel
set_option maxRecDepth 65536 in
theorem w_t2 : ((words1.drop 24).take 24).all (fun c => isCode c || c.before args0 about1) = true := by decide +kernel
set_option maxRecDepth 65536 in
theorem w_t3 : (((words1.drop 24).drop 24).take 24).all (fun c => isCode c || c.before args0 about1) = true := by decide +kernel
set_option maxRecDepth 65536 in
theorem w_t4 : ((((words1.drop 24).drop 24).drop 24).take 24).all (fun c => isCode c || c.before args0 about1) = true := by decide +kernel
set_option maxRecDepth 65536 in
theorem w_t5 : (((((words1.drop 24).drop 24).drop 24).drop 24).take 24).all (fun c => isCode c || c.before args0 about1) = true := by decide +kernel
set_option maxRecDepth 65536 in
theorem w_t6 : ((((((words1.drop 24).drop 24).drop 24).drop 24).drop 24).take 24).all (fun c => isCode c || c.before args0 about1) = true := by decide +kernel
set_option maxRecDepth 65536 in
theorem w_t7 : (((((((words1.drop 24).drop 24).drop 24).drop 24).drop 24).drop 24).take 24).all (fun c => isCode c || c.before args0 about1) = true := by decide +kernel
set_option maxRecDepth 65536 in
theorem w_t8 : ((((((((words1.drop 24).drop 24).drop 24).drop 24).drop 24).drop 24).drop 24).take 24).all (fun c => isCode c || c.before args0 about1) = true := by decide +kernel
set_option maxRecDepth 65536 in
theorem w_t9 : (((((((((words1.drop 24).drop 24).drop 24).drop 24).drop 24).drop 24).drop 24).drop 24).take 24).all (fun c => isCode c || c.before args0 about1) = true := by decide +kernel
set_option maxRecDepth 65536 in
theorem w_t10 : ((((((((((words1.drop 24).drop 24).drop 24).drop 24).drop 24).drop 24).drop 24).drop 24).drop 24).take 24).all (fun c => isCode c || c.before args0 about1) = true := by decide +kernel
set_option maxRecDepth 65536 in
theorem w_t11 : (((((((((((words1.drop 24).drop 24).drop 24).drop 24).drop 24).drop 24).drop 24).drop 24).drop 24).drop 24).take 24).all (fun c => isCode c || c.before args0 about1) = true := by decide +kernel
set_option maxRecDepth 65536 in
theorem w_t12 : ((((((((((((words1.drop 24).drop 24).drop 24).drop 24).drop 24).drop 24).drop 24).drop 24).drop 24).drop 24).drop 24).take 24).all (fun c => isCode c || c.before args0 about1) = true := by decide +kernel
set_option maxRecDepth 65536 in
theorem w_t13 : ((((((((((((words1.drop 24).drop 24).drop 24).drop 24).drop 24).drop 24).drop 24).drop 24).drop 24).drop 24).drop 24).drop 24).all (fun c => isCode c || c.before args0 about1) = true := by decide +kernel
theorem w_tables : (allAtoms (Jvm.Cond.code x code maxLocals ret :: tables_1)).before args0 about1 = true := by
  rw [allAtoms_all]
  show words1.all (fun c => c.before args0 about1) = true
  refine all_split ?_ w_codes
  rw [← List.take_append_drop 24 words1, List.all_append, w_t1, ← List.take_append_drop 24 (words1.drop 24), List.all_append, w_t2, ← List.take_append_drop 24 ((words1.drop 24).drop 24), List.all_append, w_t3, ← List.take_append_drop 24 (((words1.drop 24).drop 24).drop 24), List.all_append, w_t4, ← List.take_append_drop 24 ((((words1.drop 24).drop 24).drop 24).drop 24), List.all_append, w_t5, ← List.take_append_drop 24 (((((words1.drop 24).drop 24).drop 24).drop 24).drop 24), List.all_append, w_t6, ← List.take_append_drop 24 ((((((words1.drop 24).drop 24).drop 24).drop 24).drop 24).drop 24), List.all_append, w_t7, ← List.take_append_drop 24 (((((((words1.drop 24).drop 24).drop 24).drop 24).drop 24).drop 24).drop 24), List.all_append, w_t8, ← List.take_append_drop 24 ((((((((words1.drop 24).drop 24).drop 24).drop 24).drop 24).drop 24).drop 24).drop 24), List.all_append, w_t9, ← List.take_append_drop 24 (((((((((words1.drop 24).drop 24).drop 24).drop 24).drop 24).drop 24).drop 24).drop 24).drop 24), List.all_append, w_t10, ← List.take_append_drop 24 ((((((((((words1.drop 24).drop 24).drop 24).drop 24).drop 24).drop 24).drop 24).drop 24).drop 24).drop 24), List.all_append, w_t11, ← List.take_append_drop 24 (((((((((((words1.drop 24).drop 24).drop 24).drop 24).drop 24).drop 24).drop 24).drop 24).drop 24).drop 24).drop 24), List.all_append, w_t12, w_t13]
  rfl
set_option maxRecDepth 65536 in
theorem w_rest : rest_1_c.before args0 about1 = true := by decide +kernel
set_option maxRecDepth 65536 in
theorem w_case : (Jvm.Cond.and given_1 narrow_1).before args0 about1 = true := by decide +kernel
set_option maxRecDepth 65536 in
theorem w_consts : constsHeld consts_1 about1 := Jvm.Lit.constsHeldB_iff.mp (by decide +kernel)
theorem w_applies : (headSpec (Jvm.Cond.code x code maxLocals ret :: tables_1) room_1).applies x e0.platform about1 = true :=
  (Spec.applies_iff w_frames).mpr ⟨w_running, w_runnable, w_alone, w_named, w_hears, w_ripe, w_room, w_tables⟩
theorem atStart : AtStart classFile x code maxLocals ret World_1 tables_1 room_1 Calls_1 rest_1 Pre_1 launch0 p0 e0 about1 theMethod args0 below0 :=
  ⟨lists_1, trivial, launch0.admits_env _ _ _, launch0.least_env, fairChoices_fair.cas, fairChoices_fair.clock, w_frames, w_args, w_heap, w_applies, ⟨w_consts, trivial⟩, w_rest, w_case⟩
end start1
theorem witness_1 : WitnessClaimed_1 := ⟨start1.p0, start1.e0, start1.about1, start1.theMethod, start1.args0, start1.below0, start1.atStart⟩
end Jvm.Pilot.@@N@@
