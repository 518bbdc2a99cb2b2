import JvmDerived
import JvmDerived.Pilot.@@N@@Statement
import JvmDerived.Pilot.@@N@@Code
set_option linter.unusedVariables false
set_option linter.unusedSimpArgs false
namespace Jvm.RoadKit
open Sem ClassFile Op Lib Jvm.Stand Jvm.Free Jvm.LawKit
section New
variable {p : Program} {l : Launch} {e : Env} {R : Room} {s : State} {m : MethodId} {args : Array Value} {below : List Frame} {meth : Method} {c : Code} {T : State} {locs : List Loc} {cells slots : Nat}
theorem retI (X : Stand p l e R s m args below meth c T locs cells slots) (hx : p.tables.exec = Jvm.exec) {pc : Nat} {Ls : Array Slot} {z : Int32} {rest : List Value} (hret : meth.sig.returnType = some .int) (hd : decode c.code pc = .ok (.ireturn, 1)) {fs : List Frame}
    (hl : ∀ (f : JFrame) (acts : List Action), f.method = m → f.locked = none → f.entered = [] → (doReturn e (T.setTop f) acts (some (.int z))).1 = T.setFrames fs) : Steps p.tables e below (T.setTop (mkF m pc Ls (.int z :: rest))) (T.setFrames fs) := by
  have hm' : T.vm.method? m = some meth := X.method'
  have hn : narrow .int (.int z) = .int z := rfl
  show Steps p.tables e below (T.setTop { method := m, pc := pc, locals := Ls, stack := _ :: rest, locked := none }) _
  jvm_step X.here [X.here.top, hx, hd, hm', hret, hn]
  first | (intro acts; rw [hl _ acts rfl rfl rfl]) | rw [hl _ _ rfl rfl rfl]
  exact Steps.refl _
end New
end Jvm.RoadKit
/- laws to paste: Road.backV, Road.eqW, Road.codOf (cut by pick.py; bodies as the Statement names them) -/
namespace Jvm.Pilot.@@N@@
namespace StrChars
open Jvm Sem ClassFile Op Lib Jvm.Stand Jvm.Free.XT Jvm.Free.ALB Jvm.Free.JM Jvm.Free
open Jvm.Lib.Cold (StaticIs)
/-- a char array whose places are chars -/
def Ch (a : Addr) (A : Cell) (U : State) : Prop := Arr .char a A U ∧ Typed .char A
theorem Ch.mv {a : Addr} {A : Cell} {U U' : State} (h : Ch a A U) (hal : U.vm.Alike U'.vm) (hh : U'.heap = U.heap) : Ch a A U' := ⟨h.1.mv hal hh, h.2⟩
theorem Ch.keep {a : Addr} {A : Cell} {U U' : State} (h : Ch a A U) (hal : U.vm.Alike U'.vm) (hk : U'.heap[a]? = some A) : Ch a A U' := ⟨h.1.keep hal hk, h.2⟩
/-- what place i of a char[]'s cell holds -/
def cv (A : Cell) (i : Nat) : Int32 := match A.slots[i]? with | some (.int x) => x | _ => 0
theorem Ch.get {a : Addr} {A : Cell} {U : State} (h : Ch a A U) {i : Nat} (hi : i < A.slots.size) : A.slots[i]? = some (.int (cv A i)) := by
  have e := Array.getElem?_eq_getElem hi
  have f := h.2 i _ e
  unfold cv; rw [e]
  generalize A.slots[i] = v at f
  cases v <;> simp [fits] at f ⊢
/-- the byte that i2b leaves of a char -/
def lo8 (x : Int32) : Int32 := x.toInt8.toInt32
theorem fits_lo8 (y : Int32) : fits .byte (.int (lo8 y)) = true := by
  have h1 := y.toInt8.le_toInt
  have h2 := y.toInt8.toInt_lt
  simp only [lo8, fits, Bool.and_eq_true, decide_eq_true_eq, Int32.le_iff_toInt_le, Int8.toInt_toInt32, show (-128 : Int32).toInt = -128 from by decide, show (127 : Int32).toInt = 127 from by decide]
  omega
/-- A' is A but that each place j of lo .. hi - 1 holds f j -/
def Laid (A A' : Cell) (lo hi : Nat) (f : Nat → Value) : Prop := A'.cls = A.cls ∧ A'.vm = A.vm ∧ A'.slots.size = A.slots.size ∧ ∀ i, A'.slots[i]? = if lo ≤ i ∧ i < hi then some (f i) else A.slots[i]?
theorem Laid.zero (A : Cell) (lo : Nat) (f : Nat → Value) : Laid A A lo (lo + 0) f := ⟨rfl, rfl, rfl, fun i => by rw [if_neg (by omega)]⟩
theorem Laid.step {A Ak : Cell} {lo k : Nat} {f : Nat → Value} {v : Value} (h : Laid A Ak lo k f) (hlo : lo ≤ k) (hk : k < Ak.slots.size) (hv : v = f k) : Laid A (Ak.setSlot k v) lo (k + 1) f := by
  refine ⟨h.1, h.2.1, by simpa [Cell.setSlot] using h.2.2.1, fun i => ?_⟩
  by_cases e : k = i
  · subst e; rw [Cell.slots_setSlot_self v hk, if_pos (by omega), hv]
  · rw [Cell.slots_setSlot_ne v e, h.2.2.2 i]
    by_cases q : lo ≤ i ∧ i < k
    · rw [if_pos q, if_pos (by omega)]
    · rw [if_neg q, if_neg (by omega)]
def U16 : String := "java/lang/StringUTF16"
namespace Cmp5
def yN : MethodName := ⟨"java/lang/StringUTF16", "compress", "([CI[BII)I"⟩
abbrev yB : ByteArray := jdk_52_method_21_code
theorem d0 : decode yB 0 = .ok (.iconst 0, 1) := by decide +kernel
theorem d1 : decode yB 1 = .ok (.istore 5, 2) := by decide +kernel
theorem d3 : decode yB 3 = .ok (.iload 5, 2) := by decide +kernel
theorem d5 : decode yB 5 = .ok (.iload 4, 2) := by decide +kernel
theorem d7 : decode yB 7 = .ok (.if_icmp (.ge) 37, 3) := by decide +kernel
theorem d10 : decode yB 10 = .ok (.aload_n 0, 1) := by decide +kernel
theorem d11 : decode yB 11 = .ok (.iload_n 1, 1) := by decide +kernel
theorem d12 : decode yB 12 = .ok (.caload, 1) := by decide +kernel
theorem d13 : decode yB 13 = .ok (.istore 6, 2) := by decide +kernel
theorem d15 : decode yB 15 = .ok (.iload 6, 2) := by decide +kernel
theorem d17 : decode yB 17 = .ok (.sipush 255, 3) := by decide +kernel
theorem d20 : decode yB 20 = .ok (.if_icmp (.le) 6, 3) := by decide +kernel
theorem d26 : decode yB 26 = .ok (.aload_n 2, 1) := by decide +kernel
theorem d27 : decode yB 27 = .ok (.iload_n 3, 1) := by decide +kernel
theorem d28 : decode yB 28 = .ok (.iload 6, 2) := by decide +kernel
theorem d30 : decode yB 30 = .ok (.i2b, 1) := by decide +kernel
theorem d31 : decode yB 31 = .ok (.bastore, 1) := by decide +kernel
theorem d32 : decode yB 32 = .ok (.iinc 1 1, 3) := by decide +kernel
theorem d35 : decode yB 35 = .ok (.iinc 3 1, 3) := by decide +kernel
theorem d38 : decode yB 38 = .ok (.iinc 5 1, 3) := by decide +kernel
theorem d41 : decode yB 41 = .ok (.goto (-38), 3) := by decide +kernel
theorem d44 : decode yB 44 = .ok (.iload 4, 2) := by decide +kernel
theorem d46 : decode yB 46 = .ok (.ireturn, 1) := by decide +kernel
def site : List Cond := []
def tab : Cond := tabOf yN yB 7 (some .int) site
def P (b : Addr) (A : Cell) (d : Addr) (B : Cell) (o q len : Nat) (args : Array Value) (s : State) : Prop := args = #[.ref b, .int (Int32.ofNat o), .ref d, .int (Int32.ofNat q), .int (Int32.ofNat len)] ∧ Ch b A s ∧ Arr .byte d B s ∧ b ≠ d ∧ o + len ≤ A.slots.size ∧ q + len ≤ B.slots.size ∧ ∀ i, i < len → ¬ 255 < cv A (o + i)
def E (b : Addr) (A : Cell) (d : Addr) (B : Cell) (o q len : Nat) (r : Option Value) (s u : State) : Prop := r = some (.int (Int32.ofNat len)) ∧ ∃ B', Put d B' s u ∧ Laid B B' q (q + len) (fun j => Value.int (lo8 (cv A (o + (j - q)))))
/-- no char of the range above 255: len; the places written hold each char's low byte -/
theorem law (l : Launch) (b : Addr) (A : Cell) (d : Addr) (B : Cell) (o q len : Nat) : Law l yN 5 5 0 0 yB 7 (some .int) site (P b A d B o q len) (E b A d B o q len) (copyLocs d q len) 0 0 := by
  refine Law.of_walk (plainFor_of_name (by decide +kernel)) (by decide +kernel) (by decide +kernel) (by decide) (fun _ _ h => by rw [h.1]; rfl) (fun _ U U' hal hh h => ⟨h.1, h.2.1.mv hal hh, h.2.2.1.mv hal hh, h.2.2.2⟩) (fun r U U' V V' h1 hal h2 h => ⟨h.1, h.2.elim fun B' q => ⟨B', q.1.mv h1 h2, q.2⟩⟩) ?_
  intro p e s m args below meth c s₁ X0 hexec hbytes hml hret hlk hnm hown hh0 W hP
  obtain ⟨rfl, hA, hB, hne, l1, l2, hp⟩ := hP
  have c1 : Steps p.tables e below (s₁.setTop (entryFrame m #[.ref b, .int (Int32.ofNat o), .ref d, .int (Int32.ofNat q), .int (Int32.ofNat len)] 7)) (s₁.setTop (mkF m 0 #[.val (.ref b), .val (.int (Int32.ofNat o)), .val (.ref d), .val (.int (Int32.ofNat q)), .val (.int (Int32.ofNat len)), .unset, .unset] [])) := entry rfl
  have hA0 := hA.1.mv X0.warmed.alike hh0
  have hB0 := hB.mv X0.warmed.alike hh0
  have a31 := hA.1.2.2.2
  have c2 : Steps p.tables e below (s₁.setTop (entryFrame m #[.ref b, .int (Int32.ofNat o), .ref d, .int (Int32.ofNat q), .int (Int32.ofNat len)] 7)) (s₁.setTop (mkF m 3 #[.val (.ref b), .val (.int (Int32.ofNat o)), .val (.ref d), .val (.int (Int32.ofNat q)), .val (.int (Int32.ofNat len)), .val (.int 0), .unset] [])) := c1.trans (by
    refine iconstV X0.here hexec rfl 0 (hb hbytes d0) (by decide) ?_
    refine XS.istore X0.here hexec rfl (hb hbytes d1) rfl rfl ?_
    exact Steps.refl _)
  have loop : ∀ (r i : Nat), i + r = len → ∀ (z : Slot), (z = .unset ∨ ∃ w, z = .val w ∧ w.category = 1) → ∀ (Tl : State) (Bk : Cell), Stand p l e { frames := 0, locals := 0, cells := 0, slots := 0 } s m #[.ref b, .int (Int32.ofNat o), .ref d, .int (Int32.ofNat q), .int (Int32.ofNat len)] below meth c Tl ([] ++ copyLocs d q i) 0 0 → Put d Bk s₁ Tl → Laid B Bk q (q + i) (fun j => Value.int (lo8 (cv A (o + (j - q))))) →
      Steps p.tables e below (s₁.setTop (entryFrame m #[.ref b, .int (Int32.ofNat o), .ref d, .int (Int32.ofNat q), .int (Int32.ofNat len)] 7)) (Tl.setTop (mkF m 3 #[.val (.ref b), .val (.int (Int32.ofNat (o + i))), .val (.ref d), .val (.int (Int32.ofNat (q + i))), .val (.int (Int32.ofNat len)), .val (.int (Int32.ofNat i)), z] [])) → ∃ (T' : State) (B' : Cell) (z' : Slot), Stand p l e { frames := 0, locals := 0, cells := 0, slots := 0 } s m #[.ref b, .int (Int32.ofNat o), .ref d, .int (Int32.ofNat q), .int (Int32.ofNat len)] below meth c T' ([] ++ copyLocs d q len) 0 0 ∧ Put d B' s₁ T' ∧ Laid B B' q (q + len) (fun j => Value.int (lo8 (cv A (o + (j - q))))) ∧
      Steps p.tables e below (s₁.setTop (entryFrame m #[.ref b, .int (Int32.ofNat o), .ref d, .int (Int32.ofNat q), .int (Int32.ofNat len)] 7)) (T'.setTop (mkF m 3 #[.val (.ref b), .val (.int (Int32.ofNat (o + len))), .val (.ref d), .val (.int (Int32.ofNat (q + len))), .val (.int (Int32.ofNat len)), .val (.int (Int32.ofNat len)), z'] [])) := by
    intro r
    induction r with
    | zero =>
      intro i hi z hz Tl Bk Xl pl fl cl
      have hil : i = len := by omega
      rw [hil] at Xl fl cl
      exact ⟨Tl, Bk, z, Xl, pl, fl, cl⟩
    | succ r ih =>
      intro i hi z hz Tl Bk Xl pl fl cl
      have all := X0.warmed.alike.symm.trans Xl.warmed.alike
      have hAl := hA0.keep all (pl.other hne hA0.1)
      have hBk := hB0.like all pl.1 fl.1 fl.2.1 fl.2.2.1
      have hlt : q + i < Bk.slots.size := by rw [fl.2.2.1]; omega
      have c3 : Steps p.tables e below (s₁.setTop (entryFrame m #[.ref b, .int (Int32.ofNat o), .ref d, .int (Int32.ofNat q), .int (Int32.ofNat len)] 7)) (Tl.setTop (mkF m 12 #[.val (.ref b), .val (.int (Int32.ofNat (o + i))), .val (.ref d), .val (.int (Int32.ofNat (q + i))), .val (.int (Int32.ofNat len)), .val (.int (Int32.ofNat i)), z] [.int (Int32.ofNat (o + i)), .ref b])) := cl.trans (by
        refine XS.iload Xl.here hexec rfl (hb hbytes d3) rfl ?_
        refine XS.iload Xl.here hexec rfl (hb hbytes d5) rfl ?_
        refine XS.icmpNo Xl.here hexec rfl (hb hbytes d7) rfl (ii_ge_f (lt32 (by omega) (by omega))) ?_
        refine XS.aloadN Xl.here hexec rfl (hb hbytes d10) rfl rfl ?_
        refine XS.iloadN Xl.here hexec rfl (hb hbytes d11) rfl ?_
        exact Steps.refl _)
      have c4 : Steps p.tables e below (s₁.setTop (entryFrame m #[.ref b, .int (Int32.ofNat o), .ref d, .int (Int32.ofNat q), .int (Int32.ofNat len)] 7)) (Tl.setTop (mkF m 13 #[.val (.ref b), .val (.int (Int32.ofNat (o + i))), .val (.ref d), .val (.int (Int32.ofNat (q + i))), .val (.int (Int32.ofNat len)), .val (.int (Int32.ofNat i)), z] [.int (cv A (o + i))])) := c3.trans (by
        refine Xl.aget hexec hAl rfl (hA.get (i := o + i) (by omega)) rfl rfl (hb hbytes d12) ?_
        exact Steps.refl _)
      have c5 : Steps p.tables e below (s₁.setTop (entryFrame m #[.ref b, .int (Int32.ofNat o), .ref d, .int (Int32.ofNat q), .int (Int32.ofNat len)] 7)) (Tl.setTop (mkF m 15 #[.val (.ref b), .val (.int (Int32.ofNat (o + i))), .val (.ref d), .val (.int (Int32.ofNat (q + i))), .val (.int (Int32.ofNat len)), .val (.int (Int32.ofNat i)), .val (.int (cv A (o + i)))] [])) := c4.trans (by
        refine XS.istoreS Xl.here hexec rfl (hb hbytes d13) rfl rfl hz ?_
        exact Steps.refl _)
      have c6 : Steps p.tables e below (s₁.setTop (entryFrame m #[.ref b, .int (Int32.ofNat o), .ref d, .int (Int32.ofNat q), .int (Int32.ofNat len)] 7)) (Tl.setTop (mkF m 31 #[.val (.ref b), .val (.int (Int32.ofNat (o + i))), .val (.ref d), .val (.int (Int32.ofNat (q + i))), .val (.int (Int32.ofNat len)), .val (.int (Int32.ofNat i)), .val (.int (cv A (o + i)))] [.int (lo8 (cv A (o + i))), .int (Int32.ofNat (q + i)), .ref d])) := c5.trans (by
        refine XS.iload Xl.here hexec rfl (hb hbytes d15) rfl ?_
        refine sipushV Xl.here hexec rfl 255 (hb hbytes d17) (by decide) ?_
        refine XS.icmpYes Xl.here hexec rfl (pc0 := 20) rfl (hb hbytes d20) rfl (ii_le_t (hp i (by omega))) (by decide) rfl ?_
        refine XS.aloadN Xl.here hexec rfl (hb hbytes d26) rfl rfl ?_
        refine XS.iloadN Xl.here hexec rfl (hb hbytes d27) rfl ?_
        refine XS.iload Xl.here hexec rfl (hb hbytes d28) rfl ?_
        refine i2b Xl.here hexec rfl (hb hbytes d30) rfl ?_
        exact Steps.refl _)
      obtain ⟨T7, X7, p7, st7⟩ := Xl.aput hexec hBk rfl hlt rfl (fits_lo8 (cv A (o + i))) (g := (mkF m 31 #[.val (.ref b), .val (.int (Int32.ofNat (o + i))), .val (.ref d), .val (.int (Int32.ofNat (q + i))), .val (.int (Int32.ofNat len)), .val (.int (Int32.ofNat i)), .val (.int (cv A (o + i)))] [.int (lo8 (cv A (o + i))), .int (Int32.ofNat (q + i)), .ref d])) rfl (rest := []) rfl (hb hbytes d31)
      have c8 : Steps p.tables e below (s₁.setTop (entryFrame m #[.ref b, .int (Int32.ofNat o), .ref d, .int (Int32.ofNat q), .int (Int32.ofNat len)] 7)) (T7.setTop (mkF m 32 #[.val (.ref b), .val (.int (Int32.ofNat (o + i))), .val (.ref d), .val (.int (Int32.ofNat (q + i))), .val (.int (Int32.ofNat len)), .val (.int (Int32.ofNat i)), .val (.int (cv A (o + i)))] [])) := c6.trans (st7 _ (Steps.refl _))
      have c9 : Steps p.tables e below (s₁.setTop (entryFrame m #[.ref b, .int (Int32.ofNat o), .ref d, .int (Int32.ofNat q), .int (Int32.ofNat len)] 7)) (T7.setTop (mkF m 3 #[.val (.ref b), .val (.int (Int32.ofNat (o + i) + 1)), .val (.ref d), .val (.int (Int32.ofNat (q + i) + 1)), .val (.int (Int32.ofNat len)), .val (.int (Int32.ofNat i + 1)), .val (.int (cv A (o + i)))] [])) := c8.trans (by
        refine iincV X7.here hexec rfl 1 (hb hbytes d32) (by decide) rfl rfl ?_
        refine iincV X7.here hexec rfl 1 (hb hbytes d35) (by decide) rfl rfl ?_
        refine iincV X7.here hexec rfl 1 (hb hbytes d38) (by decide) rfl rfl ?_
        refine XS.goto X7.here hexec rfl (pc0 := 41) rfl (hb hbytes d41) (by decide) rfl ?_
        exact Steps.refl _)
      have c10 : Steps p.tables e below (s₁.setTop (entryFrame m #[.ref b, .int (Int32.ofNat o), .ref d, .int (Int32.ofNat q), .int (Int32.ofNat len)] 7)) (T7.setTop (mkF m 3 #[.val (.ref b), .val (.int (Int32.ofNat (o + (i + 1)))), .val (.ref d), .val (.int (Int32.ofNat (q + (i + 1)))), .val (.int (Int32.ofNat len)), .val (.int (Int32.ofNat (i + 1))), .val (.int (cv A (o + i)))] [])) := by
        have := c9
        rw [succ32, succ32, succ32] at this
        exact this
      exact ih (i + 1) (by omega) _ (Or.inr ⟨_, rfl, rfl⟩) T7 _ (by rw [copyLocs_step, ← List.append_assoc]; exact X7) (pl.trans p7) (fl.step (by omega) hlt (by simp)) c10
  obtain ⟨T9, B9, z9, X9, p9, f9, g9⟩ := loop len 0 (by omega) .unset (Or.inl rfl) s₁ B (by simpa [copyLocs] using X0) ⟨hB0.1, fun _ _ => rfl, rfl⟩ (Laid.zero _ _ _) c2
  have c11 : Steps p.tables e below (s₁.setTop (entryFrame m #[.ref b, .int (Int32.ofNat o), .ref d, .int (Int32.ofNat q), .int (Int32.ofNat len)] 7)) (T9.setTop (mkF m 46 #[.val (.ref b), .val (.int (Int32.ofNat (o + len))), .val (.ref d), .val (.int (Int32.ofNat (q + len))), .val (.int (Int32.ofNat len)), .val (.int (Int32.ofNat len)), z9] [.int (Int32.ofNat len)])) := g9.trans (by
    refine XS.iload X9.here hexec rfl (hb hbytes d3) rfl ?_
    refine XS.iload X9.here hexec rfl (hb hbytes d5) rfl ?_
    refine XS.icmpYes X9.here hexec rfl (pc0 := 7) rfl (hb hbytes d7) rfl (ii_ge_t (nlt32 (by omega) (Nat.le_refl _))) (by decide) rfl ?_
    refine XS.iload X9.here hexec rfl (hb hbytes d44) rfl ?_
    exact Steps.refl _)
  exact ⟨T9, some (.int (Int32.ofNat len)), _, _, _, X9, by simp, rfl, rfl, (fun h => by cases h), ⟨rfl, B9, p9.from hh0, f9⟩, fun fs hl => c11.trans (X9.ireturnOut hexec hret rfl (Or.inl rfl) (hb hbytes d46) hl)⟩
end Cmp5
namespace Cmp3
def yN : MethodName := ⟨"java/lang/StringUTF16", "compress", "([CII)[B"⟩
abbrev yB : ByteArray := jdk_52_method_16_code
theorem d0 : decode yB 0 = .ok (.iload_n 2, 1) := by decide +kernel
theorem d1 : decode yB 1 = .ok (.newarray .byte, 2) := by decide +kernel
theorem d3 : decode yB 3 = .ok (.astore_n 3, 1) := by decide +kernel
theorem d4 : decode yB 4 = .ok (.aload_n 0, 1) := by decide +kernel
theorem d5 : decode yB 5 = .ok (.iload_n 1, 1) := by decide +kernel
theorem d6 : decode yB 6 = .ok (.aload_n 3, 1) := by decide +kernel
theorem d7 : decode yB 7 = .ok (.iconst 0, 1) := by decide +kernel
theorem d8 : decode yB 8 = .ok (.iload_n 2, 1) := by decide +kernel
theorem d9 : decode yB 9 = .ok (.invokestatic 115, 3) := by decide +kernel
theorem d12 : decode yB 12 = .ok (.istore 4, 2) := by decide +kernel
theorem d14 : decode yB 14 = .ok (.iload 4, 2) := by decide +kernel
theorem d16 : decode yB 16 = .ok (.iload_n 2, 1) := by decide +kernel
theorem d17 : decode yB 17 = .ok (.if_icmp (.eq) 40, 3) := by decide +kernel
theorem d57 : decode yB 57 = .ok (.aload_n 3, 1) := by decide +kernel
theorem d58 : decode yB 58 = .ok (.areturn, 1) := by decide +kernel
def site : List Cond := [.arrayClass .byte, Cmp5.tab] ++ staticW U16 115 Cmp5.yN
def tab : Cond := tabOf yN yB 6 (some (.array .byte)) site
def P (b : Addr) (A : Cell) (o len : Nat) (args : Array Value) (s : State) : Prop := args = #[.ref b, .int (Int32.ofNat o), .int (Int32.ofNat len)] ∧ Ch b A s ∧ o + len ≤ A.slots.size ∧ len ≤ 536870912 ∧ ∀ i, i < len → ¬ 255 < cv A (o + i)
def E (b : Addr) (A : Cell) (o len : Nat) (r : Option Value) (s u : State) : Prop := NewArr .byte "[B" len (fun j => .int (lo8 (cv A (o + j)))) r s u ∧ u.heap.size = s.heap.size + 1
/-- no char of the range above 255: a new byte[] of their low bytes -/
theorem law (l : Launch) (b : Addr) (A : Cell) (o len : Nat) : Law l yN 3 3 1 18 yB 6 (some (.array .byte)) site (P b A o len) (E b A o len) [] 1 len := by
  refine Law.of_walk (plainFor_of_name (by decide +kernel)) (by decide +kernel) (by decide +kernel) (by decide) (fun _ _ h => by rw [h.1]; rfl) (fun _ U U' hal hh h => ⟨h.1, h.2.1.mv hal hh, h.2.2⟩) (fun r U U' V V' h1 hal h2 h => ⟨NewArr.mv r U U' V V' h1 hal h2 h.1, by rw [h1, h2]; exact h.2⟩) ?_
  intro p e s m args below meth c s₁ X0 hexec hbytes hml hret hlk hnm hown hh0 W hP
  obtain ⟨rfl, hA, l1, l2, hp⟩ := hP
  have a31 := hA.1.2.2.2
  have c1 : Steps p.tables e below (s₁.setTop (entryFrame m #[.ref b, .int (Int32.ofNat o), .int (Int32.ofNat len)] 6)) (s₁.setTop (mkF m 0 #[.val (.ref b), .val (.int (Int32.ofNat o)), .val (.int (Int32.ofNat len)), .unset, .unset, .unset] [])) := entry rfl
  have c2 : Steps p.tables e below (s₁.setTop (entryFrame m #[.ref b, .int (Int32.ofNat o), .int (Int32.ofNat len)] 6)) (s₁.setTop (mkF m 1 #[.val (.ref b), .val (.int (Int32.ofNat o)), .val (.int (Int32.ofNat len)), .unset, .unset, .unset] [.int (Int32.ofNat len)])) := c1.trans (by
    refine XS.iloadN X0.here hexec rfl (hb hbytes d0) rfl ?_
    exact Steps.refl _)
  obtain ⟨T3, B3, X3, ba3, bs3, bv3, bh3, bf3, st3⟩ := X0.anew hexec (atype := .byte) (wk W (.arrayClass .byte)) rfl (by show len * 1 ≤ _; omega) (by omega) (g := (mkF m 1 #[.val (.ref b), .val (.int (Int32.ofNat o)), .val (.int (Int32.ofNat len)), .unset, .unset, .unset] [.int (Int32.ofNat len)])) rfl (hb hbytes d1) (rest := []) rfl (Nat.le_refl _) (by show 0 + len ≤ len; omega)
  rw [hh0] at ba3 st3
  have kp3 : XT.Kept s T3 := (XT.Kept.of_eq hh0).push bh3
  have hA3 := hA.keep X3.warmed.alike (kp3 _ _ hA.1.1)
  have hne : b ≠ s.heap.size := hA.1.ne
  have c4 : Steps p.tables e below (s₁.setTop (entryFrame m #[.ref b, .int (Int32.ofNat o), .int (Int32.ofNat len)] 6)) (T3.setTop (mkF m 3 #[.val (.ref b), .val (.int (Int32.ofNat o)), .val (.int (Int32.ofNat len)), .unset, .unset, .unset] [.ref s.heap.size])) := c2.trans (st3 _ (Steps.refl _))
  have c5 : Steps p.tables e below (s₁.setTop (entryFrame m #[.ref b, .int (Int32.ofNat o), .int (Int32.ofNat len)] 6)) (T3.setTop (mkF m 9 #[.val (.ref b), .val (.int (Int32.ofNat o)), .val (.int (Int32.ofNat len)), .val (.ref s.heap.size), .unset, .unset] [.int (Int32.ofNat len), .int 0, .ref s.heap.size, .int (Int32.ofNat o), .ref b])) := c4.trans (by
    refine XS.astoreN X3.here hexec rfl (hb hbytes d3) rfl rfl rfl ?_
    refine XS.aloadN X3.here hexec rfl (hb hbytes d4) rfl rfl ?_
    refine XS.iloadN X3.here hexec rfl (hb hbytes d5) rfl ?_
    refine XS.aloadN X3.here hexec rfl (hb hbytes d6) rfl rfl ?_
    refine iconstV X3.here hexec rfl 0 (hb hbytes d7) (by decide) ?_
    refine XS.iloadN X3.here hexec rfl (hb hbytes d8) rfl ?_
    exact Steps.refl _)
  obtain ⟨v6, T6, X6, E6, g6⟩ := X3.callS hexec (Cmp5.law l b A s.heap.size B3 o 0 len) hown (wks W (staticW U16 115 Cmp5.yN)) (wk W Cmp5.tab) (W := 0) (Nat.le_of_ble_eq_true rfl) (Nat.le_of_ble_eq_true rfl) (Nat.le_refl _) (by show 0 + len + 0 ≤ len; omega) (g := (mkF m 9 #[.val (.ref b), .val (.int (Int32.ofNat o)), .val (.int (Int32.ofNat len)), .val (.ref s.heap.size), .unset, .unset] [.int (Int32.ofNat len), .int (Int32.ofNat 0), .ref s.heap.size, .int (Int32.ofNat o), .ref b])) rfl (by rw [hml]; rfl) c5 (argsL := [.ref b, .int (Int32.ofNat o), .ref s.heap.size, .int (Int32.ofNat 0), .int (Int32.ofNat len)]) (rest := []) rfl rfl (by show 2 * 0 + 0 ≤ _; decide) (hb hbytes d9) (⟨rfl, hA3, ba3, hne, l1, by rw [bs3]; simp, hp⟩)
  obtain ⟨rfl, B6, p6, f6⟩ := E6
  have c7 : Steps p.tables e below (s₁.setTop (entryFrame m #[.ref b, .int (Int32.ofNat o), .int (Int32.ofNat len)] 6)) (T6.setTop (mkF m 12 #[.val (.ref b), .val (.int (Int32.ofNat o)), .val (.int (Int32.ofNat len)), .val (.ref s.heap.size), .unset, .unset] [.int (Int32.ofNat len)])) := g6
  have c8 : Steps p.tables e below (s₁.setTop (entryFrame m #[.ref b, .int (Int32.ofNat o), .int (Int32.ofNat len)] 6)) (T6.setTop (mkF m 58 #[.val (.ref b), .val (.int (Int32.ofNat o)), .val (.int (Int32.ofNat len)), .val (.ref s.heap.size), .val (.int (Int32.ofNat len)), .unset] [.ref s.heap.size])) := c7.trans (by
    refine XS.istore X6.here hexec rfl (hb hbytes d12) rfl rfl ?_
    refine XS.iload X6.here hexec rfl (hb hbytes d14) rfl ?_
    refine XS.iloadN X6.here hexec rfl (hb hbytes d16) rfl ?_
    refine XS.icmpYes X6.here hexec rfl (pc0 := 17) rfl (hb hbytes d17) rfl (ii_eq_t rfl) (by decide) rfl ?_
    refine XS.aloadN X6.here hexec rfl (hb hbytes d57) rfl rfl ?_
    exact Steps.refl _)
  have X8 := X6.wide (L' := []) (cells' := 1) (slots' := len) (fun x hx hlt => by
    simp only [List.nil_append, copyLocs, List.mem_map, List.mem_range] at hx
    obtain ⟨i, -, rfl⟩ := hx
    exact absurd hlt (Nat.lt_irrefl _)) (Nat.le_refl _) (by omega)
  exact ⟨T6, some (.ref s.heap.size), _, _, _, X8, rfl, rfl, rfl, (fun h => by cases h), ⟨⟨rfl, B6, ba3.like (X3.warmed.alike.symm.trans X6.warmed.alike) p6.1 f6.1 f6.2.1 f6.2.2.1, f6.2.1.trans bv3, by rw [X6.warmed.alike.findClass, f6.1]; exact bf3, by rw [f6.2.2.1, bs3]; simp, fun j hj => by rw [f6.2.2.2 j, if_pos (by omega)]; rfl, kp3.put p6 (Nat.le_refl _)⟩, by rw [p6.2.2, bh3, hh0]; simp⟩, fun fs hl => c8.trans (X8.areturnOut hexec rfl hret rfl (hb hbytes d58) hl)⟩
end Cmp3
namespace CodL
def yN : MethodName := ⟨"java/lang/StringUTF16", "coderFromArrayLen", "([BI)B"⟩
abbrev yB : ByteArray := jdk_52_method_15_code
theorem d0 : decode yB 0 = .ok (.iload_n 1, 1) := by decide +kernel
theorem d1 : decode yB 1 = .ok (.aload_n 0, 1) := by decide +kernel
theorem d2 : decode yB 2 = .ok (.arraylength, 1) := by decide +kernel
theorem d3 : decode yB 3 = .ok (.isub, 1) := by decide +kernel
theorem d4 : decode yB 4 = .ok (.bipush 31, 2) := by decide +kernel
theorem d6 : decode yB 6 = .ok (.iushr, 1) := by decide +kernel
theorem d7 : decode yB 7 = .ok (.i2b, 1) := by decide +kernel
theorem d8 : decode yB 8 = .ok (.ireturn, 1) := by decide +kernel
def site : List Cond := []
def tab : Cond := tabOf yN yB 2 (some .byte) site
def P (d : Addr) (B : Cell) (args : Array Value) (s : State) : Prop := args = #[.ref d, .int (Int32.ofNat B.slots.size)] ∧ Arr .byte d B s
def E (r : Option Value) (s u : State) : Prop := XT.PureE (some (.int 0)) r s u
/-- an array as long as the number of chars: LATIN1 -/
theorem law (l : Launch) (d : Addr) (B : Cell) : Law l yN 2 2 0 0 yB 2 (some .byte) site (P d B) E [] 0 0 := by
  refine Law.of_walk (plainFor_of_name (by decide +kernel)) (by decide +kernel) (by decide +kernel) (by decide) (fun _ _ h => by rw [h.1]; rfl) (fun _ U U' hal hh h => ⟨h.1, h.2.mv hal hh⟩) (fun r U U' V V' h1 hal h2 h => XT.PureE.mv r U U' V V' h1 hal h2 h) ?_
  intro p e s m args below meth c s₁ X0 hexec hbytes hml hret hlk hnm hown hh0 W hP
  obtain ⟨rfl, hB⟩ := hP
  have hB0 := hB.mv X0.warmed.alike hh0
  have c1 : Steps p.tables e below (s₁.setTop (entryFrame m #[.ref d, .int (Int32.ofNat B.slots.size)] 2)) (s₁.setTop (mkF m 0 #[.val (.ref d), .val (.int (Int32.ofNat B.slots.size))] [])) := entry rfl
  have c2 : Steps p.tables e below (s₁.setTop (entryFrame m #[.ref d, .int (Int32.ofNat B.slots.size)] 2)) (s₁.setTop (mkF m 2 #[.val (.ref d), .val (.int (Int32.ofNat B.slots.size))] [.ref d, .int (Int32.ofNat B.slots.size)])) := c1.trans (by
    refine XS.iloadN X0.here hexec rfl (hb hbytes d0) rfl ?_
    refine XS.aloadN X0.here hexec rfl (hb hbytes d1) rfl rfl ?_
    exact Steps.refl _)
  have c3 : Steps p.tables e below (s₁.setTop (entryFrame m #[.ref d, .int (Int32.ofNat B.slots.size)] 2)) (s₁.setTop (mkF m 8 #[.val (.ref d), .val (.int (Int32.ofNat B.slots.size))] [.int (lo8 (ushr (Int32.ofNat B.slots.size - Int32.ofNat B.slots.size) 31))])) := c2.trans (by
    refine X0.alen hexec hB0 rfl rfl (hb hbytes d2) ?_
    refine XS.isub X0.here hexec rfl (hb hbytes d3) rfl ?_
    refine bipushV X0.here hexec rfl 31 (hb hbytes d4) (by decide) ?_
    refine iushr X0.here hexec rfl (hb hbytes d6) rfl ?_
    refine i2b X0.here hexec rfl (hb hbytes d7) rfl ?_
    exact Steps.refl _)
  have e0 : lo8 (ushr (Int32.ofNat B.slots.size - Int32.ofNat B.slots.size) 31) = 0 := by rw [Int32.sub_self]; decide
  rw [e0] at c3
  exact ⟨s₁, some (.int 0), _, _, _, X0, rfl, rfl, rfl, (fun h => by cases h), ⟨rfl, hh0⟩, fun fs hl => c3.trans (X0.ireturnOut hexec hret rfl (Or.inr (Or.inr (Or.inl rfl))) (hb hbytes d8) hl)⟩
end CodL
/-- the String at a is Latin-1 over a new byte[] (the heap's one new cell): the low bytes of the len chars of A from o on; every cell but a is kept -/
def Got (a : Addr) (D : Cell) (fV fC : Field) (A : Cell) (o len : Nat) (r : Option Value) (s u : State) : Prop := r = none ∧ ∃ D' V : Cell, Blank "java/lang/String" a D' u ∧ Same D D' [fV.slot, fC.slot] ∧ D'.slots[fV.slot]? = some (.ref s.heap.size) ∧ D'.slots[fC.slot]? = some (.int 0) ∧ Arr .byte s.heap.size V u ∧ V.vm = .none ∧ u.vm.findClass "[B" = some V.cls ∧ V.slots.size = len ∧ (∀ j, j < len → V.slots[j]? = some (.int (lo8 (cv A (o + j))))) ∧ (∀ (y : Addr) (c : Cell), y ≠ a → s.heap[y]? = some c → u.heap[y]? = some c) ∧ u.heap.size = s.heap.size + 1
theorem Got.mv {a : Addr} {D A : Cell} {fV fC : Field} {o len : Nat} : ∀ r (U U' V V' : State), U'.heap = U.heap → V.vm.Alike V'.vm → V'.heap = V.heap → Got a D fV fC A o len r U V → Got a D fV fC A o len r U' V' :=
  fun r U U' V V' h1 hal h2 ⟨e0, D', X, a1, a2, a3, a4, a5, a6, a7, a8, a9, a10, a11⟩ => ⟨e0, D', X, a1.mv hal h2, a2, by rw [h1]; exact a3, a4, by rw [h1]; exact a5.mv hal h2, a6, by rw [hal.findClass]; exact a7, a8, a9, by rw [h1, h2]; exact a10, by rw [h1, h2]; exact a11⟩
namespace New4
def yN : MethodName := ⟨"java/lang/String", "<init>", "([CIILjava/lang/Void;)V"⟩
abbrev yB : ByteArray := jdk_42_method_149_code
theorem d0 : decode yB 0 = .ok (.aload_n 0, 1) := by decide +kernel
theorem d1 : decode yB 1 = .ok (.invokespecial 1, 3) := by decide +kernel
theorem d4 : decode yB 4 = .ok (.iload_n 3, 1) := by decide +kernel
theorem d5 : decode yB 5 = .ok (.ifCond (.ne) 22, 3) := by decide +kernel
theorem d27 : decode yB 27 = .ok (.getstatic 38, 3) := by decide +kernel
theorem d30 : decode yB 30 = .ok (.ifCond (.eq) 28, 3) := by decide +kernel
theorem d33 : decode yB 33 = .ok (.aload_n 1, 1) := by decide +kernel
theorem d34 : decode yB 34 = .ok (.iload_n 2, 1) := by decide +kernel
theorem d35 : decode yB 35 = .ok (.iload_n 3, 1) := by decide +kernel
theorem d36 : decode yB 36 = .ok (.invokestatic 177, 3) := by decide +kernel
theorem d39 : decode yB 39 = .ok (.astore 5, 2) := by decide +kernel
theorem d41 : decode yB 41 = .ok (.aload_n 0, 1) := by decide +kernel
theorem d42 : decode yB 42 = .ok (.aload 5, 2) := by decide +kernel
theorem d44 : decode yB 44 = .ok (.iload_n 3, 1) := by decide +kernel
theorem d45 : decode yB 45 = .ok (.invokestatic 47, 3) := by decide +kernel
theorem d48 : decode yB 48 = .ok (.putfield 15, 3) := by decide +kernel
theorem d51 : decode yB 51 = .ok (.aload_n 0, 1) := by decide +kernel
theorem d52 : decode yB 52 = .ok (.aload 5, 2) := by decide +kernel
theorem d54 : decode yB 54 = .ok (.putfield 9, 3) := by decide +kernel
theorem d57 : decode yB 57 = .ok (.return_, 1) := by decide +kernel
def site : List Cond := [.fieldLink "java/lang/String" 38 "java/lang/String" "COMPACT_STRINGS" "Z", Cmp3.tab, CodL.tab, .laysFinal "java/lang/String" "java/lang/String" "value" "[B", .fieldLink "java/lang/String" 9 "java/lang/String" "value" "[B", .laysFinal "java/lang/String" "java/lang/String" "coder" "B", .fieldLink "java/lang/String" 15 "java/lang/String" "coder" "B"] ++ objW "java/lang/String" 1 ++ staticW "java/lang/String" 177 Cmp3.yN ++ staticW "java/lang/String" 47 CodL.yN
def tab : Cond := tabOf yN yB 6 none site
def P (a : Addr) (D : Cell) (fV fC : Field) (b : Addr) (A : Cell) (z : Int32) (o len : Nat) (args : Array Value) (s : State) : Prop := args = #[.ref a, .ref b, .int (Int32.ofNat o), .int (Int32.ofNat len), .null] ∧ Blank "java/lang/String" a D s ∧ Found "java/lang/String" "value" "[B" fV s ∧ Found "java/lang/String" "coder" "B" fC s ∧ Ch b A s ∧ StaticIs s "java/lang/String" "COMPACT_STRINGS" "Z" (.int z) ∧ ¬ z = 0 ∧ 0 < len ∧ o + len ≤ A.slots.size ∧ len ≤ 536870912 ∧ ∀ i, i < len → ¬ 255 < cv A (o + i)
def E (a : Addr) (D : Cell) (fV fC : Field) (A : Cell) (o len : Nat) (r : Option Value) (s u : State) : Prop := Got a D fV fC A o len r s u
/-- len > 0, no char of the range above 255: a Latin-1 String of their low bytes -/
theorem law (l : Launch) (a : Addr) (D : Cell) (fV fC : Field) (b : Addr) (A : Cell) (z : Int32) (o len : Nat) : Law l yN 5 4 2 35 yB 6 none site (P a D fV fC b A z o len) (E a D fV fC A o len) [⟨a, fC.slot⟩, ⟨a, fV.slot⟩] 1 len := by
  refine Law.of_walk (plainFor_of_name (by decide +kernel)) (by decide +kernel) (by decide +kernel) (by decide) (fun _ _ h => by rw [h.1]; rfl) (fun _ U U' hal hh h => ⟨h.1, h.2.1.mv hal hh, h.2.2.1.al hal, h.2.2.2.1.al hal, h.2.2.2.2.1.mv hal hh, h.2.2.2.2.2.1.there hal hh, h.2.2.2.2.2.2⟩) (fun r U U' V V' h1 hal h2 h => Got.mv r U U' V V' h1 hal h2 h) ?_
  intro p e s m args below meth c s₁ X0 hexec hbytes hml hret hlk hnm hown hh0 W hP
  obtain ⟨rfl, hB, f1, f2, hA, s1, hz, l0, l1, l2, hp⟩ := hP
  have a31 := hA.1.2.2.2
  have c1 : Steps p.tables e below (s₁.setTop (entryFrame m #[.ref a, .ref b, .int (Int32.ofNat o), .int (Int32.ofNat len), .null] 6)) (s₁.setTop (mkF m 0 #[.val (.ref a), .val (.ref b), .val (.int (Int32.ofNat o)), .val (.int (Int32.ofNat len)), .val .null, .unset] [])) := entry rfl
  have c2 : Steps p.tables e below (s₁.setTop (entryFrame m #[.ref a, .ref b, .int (Int32.ofNat o), .int (Int32.ofNat len), .null] 6)) (s₁.setTop (mkF m 1 #[.val (.ref a), .val (.ref b), .val (.int (Int32.ofNat o)), .val (.int (Int32.ofNat len)), .val .null, .unset] [.ref a])) := c1.trans (by
    refine XS.aloadN X0.here hexec rfl (hb hbytes d0) rfl rfl ?_
    exact Steps.refl _)
  obtain ⟨T3, X3, q3, st3⟩ := X0.oinit hexec hown (wks W (objW "java/lang/String" 1)) (g := (mkF m 1 #[.val (.ref a), .val (.ref b), .val (.int (Int32.ofNat o)), .val (.int (Int32.ofNat len)), .val .null, .unset] [.ref a])) rfl (by rw [hml]; rfl) (rest := []) rfl (hb hbytes d1) (W := 0) (by show 2 * 0 + 0 ≤ _; decide) (Nat.le_of_ble_eq_true rfl) (Nat.le_of_ble_eq_true rfl)
  have hh3 := q3.trans hh0
  have c4 : Steps p.tables e below (s₁.setTop (entryFrame m #[.ref a, .ref b, .int (Int32.ofNat o), .int (Int32.ofNat len), .null] 6)) (T3.setTop (mkF m 27 #[.val (.ref a), .val (.ref b), .val (.int (Int32.ofNat o)), .val (.int (Int32.ofNat len)), .val .null, .unset] [])) := (c2.trans (st3 _ (Steps.refl _))).trans (by
    refine XS.iloadN X3.here hexec rfl (hb hbytes d4) rfl ?_
    refine XS.ifYes X3.here hexec rfl (pc0 := 5) rfl (hb hbytes d5) rfl (i0_ne_t (nz32 (by omega) l0)) (by decide) rfl ?_
    exact Steps.refl _)
  obtain ⟨T5, X5, q5, st5⟩ := X3.sget hexec hown (wk W (.fieldLink "java/lang/String" 38 "java/lang/String" "COMPACT_STRINGS" "Z")) s1 (fun _ _ h => by rw [hh3]; exact h) (g := (mkF m 27 #[.val (.ref a), .val (.ref b), .val (.int (Int32.ofNat o)), .val (.int (Int32.ofNat len)), .val .null, .unset] [])) rfl (hb hbytes d27)
  have hh5 := q5.trans hh3
  have c6 : Steps p.tables e below (s₁.setTop (entryFrame m #[.ref a, .ref b, .int (Int32.ofNat o), .int (Int32.ofNat len), .null] 6)) (T5.setTop (mkF m 30 #[.val (.ref a), .val (.ref b), .val (.int (Int32.ofNat o)), .val (.int (Int32.ofNat len)), .val .null, .unset] [.int z])) := c4.trans (st5 _ (Steps.refl _))
  have c7 : Steps p.tables e below (s₁.setTop (entryFrame m #[.ref a, .ref b, .int (Int32.ofNat o), .int (Int32.ofNat len), .null] 6)) (T5.setTop (mkF m 36 #[.val (.ref a), .val (.ref b), .val (.int (Int32.ofNat o)), .val (.int (Int32.ofNat len)), .val .null, .unset] [.int (Int32.ofNat len), .int (Int32.ofNat o), .ref b])) := c6.trans (by
    refine XS.ifNo X5.here hexec rfl (hb hbytes d30) rfl (i0_eq_f hz) ?_
    refine XS.aloadN X5.here hexec rfl (hb hbytes d33) rfl rfl ?_
    refine XS.iloadN X5.here hexec rfl (hb hbytes d34) rfl ?_
    refine XS.iloadN X5.here hexec rfl (hb hbytes d35) rfl ?_
    exact Steps.refl _)
  obtain ⟨v8, T8, X8, E8, g8⟩ := X5.callS hexec (Cmp3.law l b A o len) hown (wks W (staticW "java/lang/String" 177 Cmp3.yN)) (wk W Cmp3.tab) (W := 0) (Nat.le_of_ble_eq_true rfl) (Nat.le_of_ble_eq_true rfl) (Nat.le_refl _) (by show 0 + len ≤ len; omega) (g := (mkF m 36 #[.val (.ref a), .val (.ref b), .val (.int (Int32.ofNat o)), .val (.int (Int32.ofNat len)), .val .null, .unset] [.int (Int32.ofNat len), .int (Int32.ofNat o), .ref b])) rfl (by rw [hml]; rfl) c7 (argsL := [.ref b, .int (Int32.ofNat o), .int (Int32.ofNat len)]) (rest := []) rfl rfl (by show 2 * 0 + 0 ≤ _; decide) (hb hbytes d36) (⟨rfl, hA.mv X5.warmed.alike hh5, l1, l2, hp⟩)
  obtain ⟨e8, z8⟩ := E8
  obtain ⟨rfl, N, n1, n2, n3, n4, n5, n6⟩ := NewArr.mv _ T5 s _ _ hh5.symm (Vm.Alike.refl _) rfl e8
  rw [hh5] at z8
  have hB1 := hB.keep X8.warmed.alike (n6 _ _ hB.1)
  have hne : s.heap.size ≠ a := (Nat.ne_of_lt (Array.getElem?_eq_some_iff.mp hB.1).1).symm
  have c9 : Steps p.tables e below (s₁.setTop (entryFrame m #[.ref a, .ref b, .int (Int32.ofNat o), .int (Int32.ofNat len), .null] 6)) (T8.setTop (mkF m 39 #[.val (.ref a), .val (.ref b), .val (.int (Int32.ofNat o)), .val (.int (Int32.ofNat len)), .val .null, .unset] [.ref s.heap.size])) := g8
  have c10 : Steps p.tables e below (s₁.setTop (entryFrame m #[.ref a, .ref b, .int (Int32.ofNat o), .int (Int32.ofNat len), .null] 6)) (T8.setTop (mkF m 45 #[.val (.ref a), .val (.ref b), .val (.int (Int32.ofNat o)), .val (.int (Int32.ofNat len)), .val .null, .val (.ref s.heap.size)] [.int (Int32.ofNat N.slots.size), .ref s.heap.size, .ref a])) := by
    have hc : Steps p.tables e below (s₁.setTop (entryFrame m #[.ref a, .ref b, .int (Int32.ofNat o), .int (Int32.ofNat len), .null] 6)) (T8.setTop (mkF m 45 #[.val (.ref a), .val (.ref b), .val (.int (Int32.ofNat o)), .val (.int (Int32.ofNat len)), .val .null, .val (.ref s.heap.size)] [.int (Int32.ofNat len), .ref s.heap.size, .ref a])) := c9.trans (by
      refine XS.astore X8.here hexec rfl (hb hbytes d39) rfl rfl rfl ?_
      refine XS.aloadN X8.here hexec rfl (hb hbytes d41) rfl rfl ?_
      refine XS.aload X8.here hexec rfl (hb hbytes d42) rfl rfl ?_
      refine XS.iloadN X8.here hexec rfl (hb hbytes d44) rfl ?_
      exact Steps.refl _)
    rw [n4]; exact hc
  obtain ⟨v11, T11, X11, E11, g11⟩ := X8.callS hexec (CodL.law l s.heap.size N) hown (wks W (staticW "java/lang/String" 47 CodL.yN)) (wk W CodL.tab) (W := 1) (Nat.le_of_ble_eq_true rfl) (Nat.le_of_ble_eq_true rfl) (Nat.le_refl _) (by show 0 + len + 0 ≤ len; omega) (g := (mkF m 45 #[.val (.ref a), .val (.ref b), .val (.int (Int32.ofNat o)), .val (.int (Int32.ofNat len)), .val .null, .val (.ref s.heap.size)] [.int (Int32.ofNat N.slots.size), .ref s.heap.size, .ref a])) rfl (by rw [hml]; rfl) c10 (argsL := [.ref s.heap.size, .int (Int32.ofNat N.slots.size)]) (rest := [.ref a]) rfl rfl (by show 2 * 0 + (1 + 0) ≤ _; decide) (hb hbytes d45) (⟨rfl, n1⟩)
  obtain ⟨rfl, q11⟩ := E11
  have hB11 := hB1.mv (X8.warmed.alike.symm.trans X11.warmed.alike) q11
  have c12 : Steps p.tables e below (s₁.setTop (entryFrame m #[.ref a, .ref b, .int (Int32.ofNat o), .int (Int32.ofNat len), .null] 6)) (T11.setTop (mkF m 48 #[.val (.ref a), .val (.ref b), .val (.int (Int32.ofNat o)), .val (.int (Int32.ofNat len)), .val .null, .val (.ref s.heap.size)] [.int 0, .ref a])) := g11
  obtain ⟨T13, X13, p13, bl13, sl13, st13⟩ := X11.finit hexec hown (wk W (.fieldLink "java/lang/String" 15 "java/lang/String" "coder" "B")) (Or.inr ⟨_, (wk W (.laysFinal "java/lang/String" "java/lang/String" "coder" "B"))⟩) (Or.inl ⟨rfl, hnm⟩) f2 (Or.inl rfl) hB11 (t := .byte) (by decide +kernel) rfl (g := (mkF m 48 #[.val (.ref a), .val (.ref b), .val (.int (Int32.ofNat o)), .val (.int (Int32.ofNat len)), .val .null, .val (.ref s.heap.size)] [.int 0, .ref a])) rfl (rest := []) rfl (hb hbytes d48)
  have c14 : Steps p.tables e below (s₁.setTop (entryFrame m #[.ref a, .ref b, .int (Int32.ofNat o), .int (Int32.ofNat len), .null] 6)) (T13.setTop (mkF m 54 #[.val (.ref a), .val (.ref b), .val (.int (Int32.ofNat o)), .val (.int (Int32.ofNat len)), .val .null, .val (.ref s.heap.size)] [.ref s.heap.size, .ref a])) := (c12.trans (st13 _ (Steps.refl _))).trans (by
    refine XS.aloadN X13.here hexec rfl (hb hbytes d51) rfl rfl ?_
    refine XS.aload X13.here hexec rfl (hb hbytes d52) rfl rfl ?_
    exact Steps.refl _)
  obtain ⟨T15, X15, p15, bl15, sl15, st15⟩ := X13.finit hexec hown (wk W (.fieldLink "java/lang/String" 9 "java/lang/String" "value" "[B")) (Or.inr ⟨_, (wk W (.laysFinal "java/lang/String" "java/lang/String" "value" "[B"))⟩) (Or.inl ⟨rfl, hnm⟩) f1 (Or.inl rfl) bl13 (t := (.array .byte)) (by decide +kernel) rfl (g := (mkF m 54 #[.val (.ref a), .val (.ref b), .val (.int (Int32.ofNat o)), .val (.int (Int32.ofNat len)), .val .null, .val (.ref s.heap.size)] [.ref s.heap.size, .ref a])) rfl (rest := []) rfl (hb hbytes d54)
  have c16 : Steps p.tables e below (s₁.setTop (entryFrame m #[.ref a, .ref b, .int (Int32.ofNat o), .int (Int32.ofNat len), .null] 6)) (T15.setTop (mkF m 57 #[.val (.ref a), .val (.ref b), .val (.int (Int32.ofNat o)), .val (.int (Int32.ofNat len)), .val .null, .val (.ref s.heap.size)] [])) := c14.trans (st15 _ (Steps.refl _))
  have ap := apart (Or.inr ⟨_, (wk W (.laysFinal "java/lang/String" "java/lang/String" "value" "[B"))⟩) (Or.inr ⟨_, (wk W (.laysFinal "java/lang/String" "java/lang/String" "coder" "B"))⟩) f1 f2 (t₁ := .array .byte) (t₂ := .byte) (by decide +kernel) (by decide +kernel) (by decide)
  have al := X8.warmed.alike.symm.trans X15.warmed.alike
  have n7 : T11.heap[s.heap.size]? = some N := by rw [q11]; exact n1.1
  exact ⟨T15, none, _, _, _, X15, by simp, rfl, by omega, (fun _ => rfl), ⟨rfl, _, N, bl15, ((Same.refl D _).set _ (by simp)).set _ (by simp), sl15, (Cell.slots_setSlot_ne _ ap).trans sl13, n1.keep al (p15.other hne (p13.other hne n7)), n2, by rw [al.findClass]; exact n3, n4, n5, fun y c h1 h2 => p15.other h1 (p13.other h1 (by rw [q11]; exact n6 y c h2)), by rw [p15.2.2, p13.2.2, q11]; exact z8⟩, fun fs hl => c16.trans (X15.returnOut hexec hret (hb hbytes d57) hl)⟩
end New4
namespace New1
def yN : MethodName := ⟨"java/lang/String", "<init>", "([C)V"⟩
abbrev yB : ByteArray := jdk_42_method_3_code
theorem d0 : decode yB 0 = .ok (.aload_n 0, 1) := by decide +kernel
theorem d1 : decode yB 1 = .ok (.aload_n 1, 1) := by decide +kernel
theorem d2 : decode yB 2 = .ok (.iconst 0, 1) := by decide +kernel
theorem d3 : decode yB 3 = .ok (.aload_n 1, 1) := by decide +kernel
theorem d4 : decode yB 4 = .ok (.arraylength, 1) := by decide +kernel
theorem d5 : decode yB 5 = .ok (.aconst_null, 1) := by decide +kernel
theorem d6 : decode yB 6 = .ok (.invokespecial 27, 3) := by decide +kernel
theorem d9 : decode yB 9 = .ok (.return_, 1) := by decide +kernel
def site : List Cond := [New4.tab] ++ initW "java/lang/String" 27 New4.yN
def tab : Cond := tabOf yN yB 2 none site
def P (a : Addr) (D : Cell) (fV fC : Field) (b : Addr) (A : Cell) (z : Int32) (args : Array Value) (s : State) : Prop := args = #[.ref a, .ref b] ∧ Blank "java/lang/String" a D s ∧ Found "java/lang/String" "value" "[B" fV s ∧ Found "java/lang/String" "coder" "B" fC s ∧ Ch b A s ∧ StaticIs s "java/lang/String" "COMPACT_STRINGS" "Z" (.int z) ∧ ¬ z = 0 ∧ 0 < A.slots.size ∧ A.slots.size ≤ 536870912 ∧ ∀ i, i < A.slots.size → ¬ 255 < cv A i
def E (a : Addr) (D : Cell) (fV fC : Field) (A : Cell) (r : Option Value) (s u : State) : Prop := Got a D fV fC A 0 A.slots.size r s u
/-- new String(chars), not empty, no char above 255: a Latin-1 String of their low bytes -/
theorem law (l : Launch) (a : Addr) (D : Cell) (fV fC : Field) (b : Addr) (A : Cell) (z : Int32) : Law l yN 2 1 3 52 yB 2 none site (P a D fV fC b A z) (E a D fV fC A) [⟨a, fC.slot⟩, ⟨a, fV.slot⟩] 1 A.slots.size := by
  refine Law.of_walk (plainFor_of_name (by decide +kernel)) (by decide +kernel) (by decide +kernel) (by decide) (fun _ _ h => by rw [h.1]; rfl) (fun _ U U' hal hh h => ⟨h.1, h.2.1.mv hal hh, h.2.2.1.al hal, h.2.2.2.1.al hal, h.2.2.2.2.1.mv hal hh, h.2.2.2.2.2.1.there hal hh, h.2.2.2.2.2.2⟩) (fun r U U' V V' h1 hal h2 h => Got.mv r U U' V V' h1 hal h2 h) ?_
  intro p e s m args below meth c s₁ X0 hexec hbytes hml hret hlk hnm hown hh0 W hP
  obtain ⟨rfl, hB, f1, f2, hA, s1, hz, l0, l2, hp⟩ := hP
  have c1 : Steps p.tables e below (s₁.setTop (entryFrame m #[.ref a, .ref b] 2)) (s₁.setTop (mkF m 0 #[.val (.ref a), .val (.ref b)] [])) := entry rfl
  have c2 : Steps p.tables e below (s₁.setTop (entryFrame m #[.ref a, .ref b] 2)) (s₁.setTop (mkF m 6 #[.val (.ref a), .val (.ref b)] [.null, .int (Int32.ofNat A.slots.size), .int 0, .ref b, .ref a])) := c1.trans (by
    refine XS.aloadN X0.here hexec rfl (hb hbytes d0) rfl rfl ?_
    refine XS.aloadN X0.here hexec rfl (hb hbytes d1) rfl rfl ?_
    refine iconstV X0.here hexec rfl 0 (hb hbytes d2) (by decide) ?_
    refine XS.aloadN X0.here hexec rfl (hb hbytes d3) rfl rfl ?_
    refine X0.alen hexec (hA.1.mv X0.warmed.alike hh0) rfl rfl (hb hbytes d4) ?_
    refine XS.aconstNull X0.here hexec rfl (hb hbytes d5) ?_
    exact Steps.refl _)
  obtain ⟨v3, T3, X3, E3, g3⟩ := X0.callN hexec (New4.law l a D fV fC b A z 0 A.slots.size) rfl hown (wks W (initW "java/lang/String" 27 New4.yN)) (W New4.tab (by simp only [site, List.mem_cons, List.mem_append, true_or, or_true])) (W := 0) (Nat.le_of_ble_eq_true rfl) (Nat.le_of_ble_eq_true rfl) (Nat.le_refl _) (by show 0 + A.slots.size ≤ A.slots.size; omega) (g := (mkF m 6 #[.val (.ref a), .val (.ref b)] [.null, .int (Int32.ofNat A.slots.size), .int (Int32.ofNat 0), .ref b, .ref a])) rfl (by rw [hml]; rfl) c2 (argsL := [.ref b, .int (Int32.ofNat 0), .int (Int32.ofNat A.slots.size), .null]) (rest := []) rfl rfl (by show 2 * 0 + 0 ≤ _; decide) (hb hbytes d6) (⟨rfl, hB.mv X0.warmed.alike hh0, f1.al X0.warmed.alike, f2.al X0.warmed.alike, hA.mv X0.warmed.alike hh0, s1.there X0.warmed.alike hh0, hz, l0, by omega, l2, fun i hi => by rw [Nat.zero_add]; exact hp i hi⟩)
  have e0 := Got.mv _ s₁ s _ _ hh0.symm (Vm.Alike.refl _) rfl E3
  obtain rfl := e0.1
  have c4 : Steps p.tables e below (s₁.setTop (entryFrame m #[.ref a, .ref b] 2)) (T3.setTop (mkF m 9 #[.val (.ref a), .val (.ref b)] [])) := g3
  exact ⟨T3, none, _, _, _, X3, by simp, rfl, by omega, (fun _ => rfl), e0, fun fs hl => c4.trans (X3.returnOut hexec hret (hb hbytes d9) hl)⟩
theorem pays {l : Launch} {R : Room} {p : Program} {e : Env} {below : List Frame} {s : State} {sargs : Array Value} {len W : Nat} (a : Addr) (D : Cell) (fV fC : Field) (b : Addr) (A : Cell) (z : Int32) (htab : tab.before sargs s = true) (hfr : 4 ≤ R.frames) (hlo : W + 65 ≤ R.locals) :
    Back l R p e below s sargs yN len W (fun A₁ a₁ => A₁.cells + 1 ≤ R.cells ∧ A₁.slots + A.slots.size ≤ R.slots ∧ P a D fV fC b A z a₁ A₁.U) (fun A₁ _ v₁ B₁ => E a D fV fC A v₁ A₁.U B₁.U ∧ B₁.locs = A₁.locs ++ [⟨a, fC.slot⟩, ⟨a, fV.slot⟩] ∧ B₁.cells = A₁.cells + 1 ∧ B₁.slots = A₁.slots + A.slots.size) :=
  (law l a D fV fC b A z).pays htab hfr (by omega)
end New1
/-- the byte, read back as charAt reads it, is the char -/
theorem lo8_mask {x : Int32} (h0 : ¬ x < 0) (h1 : ¬ 255 < x) : lo8 x &&& 255 = x := by
  have t : ∀ k : Fin 256, lo8 (Int32.ofNat k.val) &&& 255 = Int32.ofNat k.val := by decide +kernel
  rw [Int32.lt_iff_toInt_lt] at h0 h1
  have e0 : (0 : Int32).toInt = 0 := rfl
  have e1 : (255 : Int32).toInt = 255 := rfl
  obtain ⟨k, hk⟩ : ∃ k : Nat, x.toInt = k := ⟨x.toInt.toNat, by omega⟩
  have hx : x = Int32.ofNat k := Int32.toInt_inj.mp (by rw [hk, Int32.toInt_ofNat_small (by omega)])
  rw [hx]
  exact t ⟨k, by omega⟩
end StrChars
namespace StrChars.Road
open Jvm Sem ClassFile Op Lib Jvm.Stand Jvm.Free Jvm.Free.XT
open Jvm.Lib.Cold (StaticIs)
abbrev ST : String := "java/lang/String"
/-- every table word that New1's law asks, flat -/
abbrev words : List Jvm.Cond := [.code New1.yN New1.yB 2 none, .initialized ST, .methodLink ST 27 New4.yN, .instanceMethod New4.yN,
  .code New4.yN New4.yB 6 none, .fieldLink ST 38 ST "COMPACT_STRINGS" "Z", .laysFinal ST ST "value" "[B", .fieldLink ST 9 ST "value" "[B", .laysFinal ST ST "coder" "B", .fieldLink ST 15 ST "coder" "B",
  .methodLink ST 1 Lib.objectInit, .instanceMethod Lib.objectInit, .code Lib.objectInit ⟨#[0xb1]⟩ 1 none, .methodLink ST 177 Cmp3.yN, .static Cmp3.yN, .methodLink ST 47 CodL.yN, .static CodL.yN,
  .code Cmp3.yN Cmp3.yB 6 (some (.array .byte)), .initialized U16, .arrayClass .byte, .methodLink U16 115 Cmp5.yN, .static Cmp5.yN, .code Cmp5.yN Cmp5.yB 7 (some .int), .code CodL.yN CodL.yB 2 (some .byte)]
theorem tab_of {a : Array Value} {s : State} (h : ∀ w ∈ words, w.before a s = true) : New1.tab.before a s = true := by
  have h5 : Cmp5.tab.before a s = true := unparts (wk h (.code Cmp5.yN Cmp5.yB 7 (some .int))) (wks h (.initialized Cmp5.yN.cls :: Cmp5.site))
  have hc : CodL.tab.before a s = true := unparts (wk h (.code CodL.yN CodL.yB 2 (some .byte))) (wks h (.initialized CodL.yN.cls :: CodL.site))
  have q5 : ∀ w ∈ Cmp5.tab :: words, w.before a s = true := fun w hw => (List.mem_cons.mp hw).elim (fun e => e ▸ h5) (h w)
  have h3 : Cmp3.tab.before a s = true := unparts (wk q5 (.code Cmp3.yN Cmp3.yB 6 (some (.array .byte)))) (wks q5 (.initialized Cmp3.yN.cls :: Cmp3.site))
  have q3 : ∀ w ∈ Cmp3.tab :: CodL.tab :: words, w.before a s = true := fun w hw => (List.mem_cons.mp hw).elim (fun e => e ▸ h3) fun hw => (List.mem_cons.mp hw).elim (fun e => e ▸ hc) (h w)
  have h4 : New4.tab.before a s = true := unparts (wk q3 (.code New4.yN New4.yB 6 none)) (wks q3 (.initialized New4.yN.cls :: New4.site))
  have q4 : ∀ w ∈ New4.tab :: words, w.before a s = true := fun w hw => (List.mem_cons.mp hw).elim (fun e => e ▸ h4) (h w)
  exact unparts (wk q4 (.code New1.yN New1.yB 2 none)) (wks q4 (.initialized New1.yN.cls :: New1.site))
/-- the words ride from the start Z to the walk's own state -/
theorem moved {Z s : State} {a0 args : Array Value} (hZ : Z.Warmed39 s.vm) (hw : ∀ d ∈ words, d.before a0 Z = true) : ∀ d ∈ words, d.before args s = true := fun d hd => by
  have q := hw d hd
  have t : ∀ d ∈ words, d = .arrayClass .byte ∨ (d.onTables && d.keepsFace) = true := by decide +kernel
  rcases t d hd with rfl | t
  · exact RoadKit.mvA hZ q
  · exact RoadKit.mv hZ q t
/-- WHAT COMES BACK, over the tables of the start Z: h the heap at the call, h' behind it -/
def Q (Z : State) (x : Addr) (A : Cell) (h : Heap) (v : Option Value) (h' : Heap) (L : List Loc) : Prop := v = none ∧ (∀ y ∈ L, y.base = x) ∧ RoadKit.Keep h h' [x] ∧ h'.size = h.size + 1 ∧ RoadKit.Exa Z h' x ST ∧ RoadKit.Fld Z h' x ST "value" "[B" (.ref h.size) ∧ RoadKit.Fld Z h' x ST "coder" "B" (.int 0) ∧
  (∃ V : Cell, RoadKit.Arr Z h' h.size V .byte ∧ V.vm = .none ∧ Z.vm.findClass "[B" = some V.cls ∧ V.slots.size = A.slots.size ∧ ∀ j, j < A.slots.size → V.slots[j]? = some (.int (lo8 (cv A j)))) ∧
  ∀ (O n d : String) (w : Value), RoadKit.Fld Z h x O n d w → RoadKit.slotOf Z O n d ≠ RoadKit.slotOf Z ST "value" "[B" → RoadKit.slotOf Z O n d ≠ RoadKit.slotOf Z ST "coder" "B" → RoadKit.Fld Z h' x O n d w
/-- **new String(chars) AT A CALL, IN THE ROAD'S FORM**: for specialBack behind newO: x the fresh String, b the char[] with the cell A -/
theorem back {p : Program} {l : Launch} {e : Env} {R : Room} {s : State} {args : Array Value} {below : List Frame} {len W : Nat} {Z : State} {a0 : Array Value} {h : Heap} (hZ : Z.Warmed39 s.vm) (hw : ∀ d ∈ words, d.before a0 Z = true) {kI : Nat} (wi : (Jvm.Cond.instantiable ST kI).before a0 Z = true)
    {x b : Addr} {A : Cell} {z : Int32} {v0 c0 : Value} (E : RoadKit.Exa Z h x ST) (V : RoadKit.Fld Z h x ST "value" "[B" v0) (C : RoadKit.Fld Z h x ST "coder" "B" c0) (K : RoadKit.Arr Z h b A .char) (hty : Typed .char A) (S : RoadKit.Sta Z h ST "COMPACT_STRINGS" "Z" (.int z)) (hz : ¬ z = 0)
    (l0 : 0 < A.slots.size) (l2 : A.slots.size ≤ 536870912) (hp : ∀ i, i < A.slots.size → ¬ 255 < cv A i) (hfr : 4 ≤ R.frames) (hlo : W + 65 ≤ R.locals) :
    Back l R p e below s args New1.yN len W (fun P a => a = #[.ref x, .ref b] ∧ P.U.heap = h ∧ P.cells + 1 ≤ R.cells ∧ P.slots + A.slots.size ≤ R.slots)
      (fun P _ v B => ∃ L, Q Z x A h v B.U.heap L ∧ B.locs = P.locs ++ L ∧ B.cells = P.cells + 1 ∧ B.slots = P.slots + A.slots.size) := by
  intro m meth c P g ig mk a X hg hsize hdg hW hn hp'
  obtain ⟨rfl, rfl, r1, r2⟩ := hp'
  have al : Z.vm.Alike P.U.vm := hZ.alike.trans X.warmed.alike
  obtain ⟨D, cfV, kV, iV, fV, hD, gV, stV, knV, obV, asV, slV⟩ := id V
  obtain ⟨D', cfC, kC, iC, fC, hD', gC, stC, -, -, asC, slC⟩ := id C
  cases hD.symm.trans hD'
  obtain ⟨D2, kD, e1, e2, e3, e4, e5⟩ := id E
  cases hD.symm.trans e1
  obtain ⟨c2, k2, i1, i2, i3, -⟩ := Cond.instantiable_spec wi
  cases e2.symm.trans i1
  cases e3.symm.trans i2
  obtain ⟨kU, u1, u2⟩ := al.2.2 _ _ e3
  have hB : Blank ST x D P.U := ⟨hD, ⟨knV, fun q hq => by rw [hq] at obV; cases obV⟩, by rw [al.findClass]; exact e2, kU, u1, by rw [u2]; exact i3, by rw [u2]; exact e5 i3⟩
  have F1 : Found ST "value" "[B" fV P.U := ⟨SBG.found_only al ⟨cfV, kV, iV, gV⟩, stV⟩
  have F2 : Found ST "coder" "B" fC P.U := ⟨SBG.found_only al ⟨cfC, kC, iC, gC⟩, stC⟩
  have hA : Ch b A P.U := ⟨⟨K.1, State.isArrayOf_alike al K.2.1, K.2.2, by omega⟩, hty⟩
  have hS : StaticIs P.U ST "COMPACT_STRINGS" "Z" (.int z) := by
    obtain ⟨cfS, iS, kS, fS, st, cS, t1, t2, t3, t4, t5, t6, t7⟩ := S
    exact StaticIs.there (s := { Z with heap := P.U.heap }) ⟨cfS, iS, kS, fS, st, cS, t1, t2, t3, t4, t5, (fun q => by rw [q] at t6; cases t6), t7⟩ al rfl
  obtain ⟨v, B, X', ⟨⟨hv, E', V', q1, q2, q3, q4, q5, q6, q7, q8, q9, q10, q11⟩, hl, hc, hs⟩, st⟩ := New1.pays x D fV fC b A z (tab_of (moved hZ hw)) hfr hlo m meth c P g ig mk _ X hg hsize hdg hW hn ⟨r1, r2, rfl, hB, F1, F2, hA, hS, hz, l0, l2, hp⟩
  have al' : Z.vm.Alike B.U.vm := hZ.alike.trans X'.warmed.alike
  have hsz : E'.slots.size = D.slots.size := by
    obtain ⟨-, -, -, kB, w1, w2, w3⟩ := q1
    obtain ⟨kB', y1, y2⟩ := al'.2.2 _ _ e3
    rw [q2.2.1] at w1
    cases w1.symm.trans y1
    rw [w3, e5 i3, y2]
  refine ⟨v, B, X', ⟨_, ⟨hv, ?_, ⟨by omega, fun y cy hy hn' => q10 y cy (by simpa using hn') hy, fun y cy hy => ?_⟩, q11, ⟨E', _, q1.1, by rw [q2.2.1]; exact e2, by rw [q2.2.1]; exact e3, by rw [q2.1]; exact obV, fun _ => by rw [hsz]; exact e5 i3⟩,
    ⟨E', cfV, kV, iV, fV, q1.1, gV, stV, by rw [q2.1]; exact knV, by rw [q2.1]; exact obV, by rw [q2.2.1]; exact asV, q3⟩, ⟨E', cfC, kC, iC, fC, q1.1, gC, stC, by rw [q2.1]; exact knV, by rw [q2.1]; exact obV, by rw [q2.2.1]; exact asC, q4⟩,
    ⟨V', ⟨q5.1, State.isArrayOf_alike al'.symm q5.2.1, q5.2.2.1⟩, q6, by rw [← al'.findClass]; exact q7, q8, fun j hj => by have := q9 j hj; rwa [Nat.zero_add] at this⟩, fun O n d w F n1 n2 => ?_⟩, hl, hc, hs⟩, st⟩
  · intro y hy
    simp only [List.mem_cons, List.not_mem_nil, or_false] at hy
    rcases hy with rfl | rfl <;> rfl
  · by_cases q : y = x
    · subst q
      cases hD.symm.trans hy
      exact ⟨E', q1.1, q2.2.1, q2.1, hsz⟩
    · exact ⟨cy, q10 y cy q hy, rfl, rfl, rfl⟩
  · obtain ⟨D3, cf, k, i, f, g1, g2, g3, g4, g5, g6, g7⟩ := F
    cases hD.symm.trans g1
    simp only [RoadKit.slotOf, g2, gV, gC, Option.map_some, Option.getD_some] at n1 n2
    exact ⟨E', cf, k, i, f, q1.1, g2, g3, by rw [q2.1]; exact g4, by rw [q2.1]; exact g5, by rw [q2.2.1]; exact g6, by rw [q2.2.2 f.slot (by simp [n1, n2])]; exact g7⟩
end StrChars.Road
namespace StrChars.Road
open Jvm Sem ClassFile Op Lib Jvm.Stand Jvm.Free Jvm.Free.XT
/-- WHAT COMES BACK, the byte[] as a list of values -/
def QA (Z : State) (x : Addr) (zn : Int32) (cs : List Int32) (h : Heap) (v : Option Value) (h' : Heap) (L : List Loc) : Prop := v = none ∧ (∀ y ∈ L, y.base = x) ∧ RoadKit.Keep h h' [x] ∧ h'.size = h.size + 1 ∧ RoadKit.Exa Z h' x ST ∧ RoadKit.Fld Z h' x ST "value" "[B" (.ref h.size) ∧ RoadKit.Fld Z h' x ST "coder" "B" (.int 0) ∧
  (∃ kb, Z.vm.findClass "[B" = some kb ∧ RoadKit.Arv Z h' h.size kb .byte zn (cs.map fun c => .int (lo8 c)) (.int 0)) ∧
  ∀ (O n d : String) (w : Value), RoadKit.Fld Z h x O n d w → RoadKit.slotOf Z O n d ≠ RoadKit.slotOf Z ST "value" "[B" → RoadKit.slotOf Z O n d ≠ RoadKit.slotOf Z ST "coder" "B" → RoadKit.Fld Z h' x O n d w
/-- **new String(chars) AT A CALL, THE ARRAYS AS LISTS**: the char[] at b holds cs, not empty, no char above 255 -/
theorem backArv {p : Program} {l : Launch} {e : Env} {R : Room} {s : State} {args : Array Value} {below : List Frame} {len W : Nat} {Z : State} {a0 : Array Value} {h : Heap} (hZ : Z.Warmed39 s.vm) (hw : ∀ d ∈ words, d.before a0 Z = true) {kI : Nat} (wi : (Jvm.Cond.instantiable ST kI).before a0 Z = true)
    {x b : Addr} {k : ClassId} {zn z : Int32} {cs : List Int32} {dv v0 c0 : Value} (E : RoadKit.Exa Z h x ST) (V : RoadKit.Fld Z h x ST "value" "[B" v0) (C : RoadKit.Fld Z h x ST "coder" "B" c0) (K : RoadKit.Arv Z h b k .char zn (cs.map Value.int) dv) (S : RoadKit.Sta Z h ST "COMPACT_STRINGS" "Z" (.int z)) (hz : ¬ z = 0)
    (hlen : zn.toNatClampNeg = cs.length) (h0 : 0 < cs.length) (hbig : cs.length ≤ 536870912) (hall : ∀ c ∈ cs, ¬ 255 < c) (hfr : 4 ≤ R.frames) (hlo : W + 65 ≤ R.locals) :
    Back l R p e below s args New1.yN len W (fun P a => a = #[.ref x, .ref b] ∧ P.U.heap = h ∧ P.cells + 1 ≤ R.cells ∧ P.slots + cs.length ≤ R.slots)
      (fun P _ v B => ∃ L, QA Z x zn cs h v B.U.heap L ∧ B.locs = P.locs ++ L ∧ B.cells = P.cells + 1 ∧ B.slots = P.slots + cs.length) := by
  obtain ⟨A, K1, K2, K3, K4, K5, K6⟩ := K
  have e : A.slots.size = cs.length := K3.trans hlen
  have hat : ∀ (i : Nat) (hi : i < cs.length), A.slots[i]? = some (.int cs[i]) := fun i hi => by rw [K5 i (by omega)]; simp [List.getD_eq_getElem?_getD, hi]
  have hcv : ∀ (i : Nat) (hi : i < cs.length), cv A i = cs[i] := fun i hi => by unfold cv; rw [hat i hi]
  have hty : Typed .char A := fun i v hv => by
    have hi : i < A.slots.size := (Array.getElem?_eq_some_iff.mp hv).1
    have q := K5 i hi
    rw [hv] at q
    rw [Option.some.inj q]
    exact K6 i hi
  refine Back.mono (back hZ hw wi E V C K1 hty S hz (by omega) (by omega) (fun i hi => by rw [hcv i (by omega)]; exact hall _ (List.getElem_mem _)) hfr hlo) (fun P a hp => ⟨hp.1, hp.2.1, hp.2.2.1, by rw [e]; exact hp.2.2.2⟩) (fun P a v B hp hq => ?_)
  obtain ⟨L, ⟨q1, q2, q3, q4, q5, q6, q7, ⟨V', v1, v2, v3, v4, v5⟩, q9⟩, hl, hc, hs⟩ := hq
  refine ⟨L, ⟨q1, q2, q3, q4, q5, q6, q7, ⟨V'.cls, v3, V', v1, rfl, by rw [v4, e, hlen], K4, fun i hi => ?_, fun i hi => ?_⟩, q9⟩, hl, hc, by rw [hs, e]⟩
  · have hi' : i < cs.length := by omega
    rw [v5 i (by omega), hcv i hi']; simp [List.getD_eq_getElem?_getD, hi']
  · have hi' : i < cs.length := by omega
    simp only [List.getD_eq_getElem?_getD, List.getElem?_map, List.getElem?_eq_getElem hi', Option.map_some, Option.getD_some]
    exact fits_lo8 _
end StrChars.Road
namespace StrChars.Road
open Jvm Sem ClassFile Op Lib Jvm.Stand Jvm.Free Jvm.Free.XT
/-- WHAT COMES BACK, in the writer's own shape -/
def QV (Z : State) (x : Addr) (N : Int32) (bs : List Int32) (h : Heap) (n0 : Nat) (v : Option Value) (h' : Heap) (L : List Loc) : Prop := v = none ∧ RoadKit.Fr n0 L ∧ RoadKit.Keep h h' [x] ∧ RoadKit.Exa Z h' x ST ∧ RoadKit.Fld Z h' x ST "coder" "B" (.int 0) ∧
  ∃ (t : Addr) (kb : ClassId), n0 ≤ t ∧ h.size ≤ t ∧ ¬ t = x ∧ RoadKit.Fld Z h' x ST "value" "[B" (.ref t) ∧ RoadKit.Arv Z h' t kb .byte N (bs.map Value.int) (.int 0)
/-- **new String(chars) AT A CALL, FOR THE WRITER**: a char[] of n known ints, each 0 to 255 -/
theorem backV {p : Program} {l : Launch} {e : Env} {R : Room} {s : State} {args : Array Value} {below : List Frame} {len W : Nat} {Z : State} {a0 : Array Value} {h : Heap} (hZ : Z.Warmed39 s.vm) (hw : ∀ d ∈ words, d.before a0 Z = true) {kI : Nat} (wi : (Jvm.Cond.instantiable ST kI).before a0 Z = true)
    {x b : Addr} {kC : ClassId} {cs bs : List Int32} {d v0 c0 : Value} {z N : Int32} {n n0 : Nat} (hx0 : n0 ≤ x) (hh0 : n0 ≤ h.size) (E : RoadKit.Exa Z h x ST) (V : RoadKit.Fld Z h x ST "value" "[B" v0) (C : RoadKit.Fld Z h x ST "coder" "B" c0) (K : RoadKit.Arv Z h b kC .char N (cs.map Value.int) d) (S : RoadKit.Sta Z h ST "COMPACT_STRINGS" "Z" (.int z)) (hz : ¬ z = 0)
    (hn : cs.length = n) (hN : N = Int32.ofNat n) (l0 : 0 < n) (l2 : n ≤ 4000) (hp : ∀ c ∈ cs, ¬ c < 0 ∧ ¬ (255 : Int32) < c) (hb : bs = cs.map (fun c => c.toInt8.toInt32)) (hfr : 4 ≤ R.frames) (hlo : W + 65 ≤ R.locals) :
    Back l R p e below s args (⟨"java/lang/String", "<init>", "([C)V"⟩ : MethodName) len W (fun P a => a = #[.ref x, .ref b] ∧ P.U.heap = h ∧ P.cells + 1 ≤ R.cells ∧ P.slots + n ≤ R.slots)
      (fun P _ v B => ∃ L, QV Z x N bs h n0 v B.U.heap L ∧ B.locs = P.locs ++ L ∧ B.cells = P.cells + 1 ∧ B.slots = P.slots + n) := by
  subst hn hN hb
  refine Back.mono (backArv hZ hw wi E V C K S hz (n32 (by omega)) l0 (by omega) (fun c hc => (hp c hc).2) hfr hlo) (fun P a hp => hp) (fun P a v B hp hq => ?_)
  obtain ⟨L, ⟨q1, q2, q3, q4, q5, q6, q7, ⟨kb, v1, v2⟩, q9⟩, hl, hc, hs⟩ := hq
  exact ⟨L, ⟨q1, fun y hy => by rw [q2 y hy]; exact hx0, q3, q5, q7, h.size, kb, hh0, Nat.le_refl _, Nat.ne_of_gt E.lt, q6, by rw [List.map_map]; exact v2⟩, hl, hc, hs⟩
end StrChars.Road
namespace StrChars
open Jvm Sem ClassFile Op Lib Jvm.Stand Jvm.Free.XT Jvm.Free.ALB Jvm.Free.JM Jvm.Free
open Jvm.Lib.Cold (StaticIs)
def hi8 (x : Int32) : Int32 := lo8 (x >>> ((8 : Int32) &&& 31))
/-- what StringUTF16.getChar makes of two bytes -/
def pairCh (u v : Int32) : Int32 := (((u &&& 255) <<< ((0 : Int32) &&& 31)) ||| ((v &&& 255) <<< ((8 : Int32) &&& 31))).toUInt32.toUInt16.toUInt32.toInt32
theorem lo8_and (x : Int32) : (lo8 x &&& 255).toBitVec.toNat = x.toBitVec.toNat % 256 := by
  have h : (lo8 x).toBitVec = (x.toBitVec.signExtend 8).signExtend 32 := by rw [lo8, Int8.toBitVec_toInt32, Int32.toBitVec_toInt8]
  rw [Int32.toBitVec_and, BitVec.toNat_and, h]
  have e : ((x.toBitVec.signExtend 8).signExtend 32).toNat % 256 = x.toBitVec.toNat % 256 := by
    rw [BitVec.toNat_signExtend]
    have hlt := x.toBitVec.isLt
    simp only [BitVec.toNat_setWidth, BitVec.toNat_signExtend]
    split <;> split <;> omega
  rw [← e]
  exact Nat.and_two_pow_sub_one_eq_mod _ 8
theorem pair_says {c : Int32} (h0 : ¬ c < 0) (h1 : ¬ 65535 < c) : pairCh (lo8 c) (hi8 c) = c := by
  rw [Int32.lt_iff_toInt_lt] at h0 h1
  have e0 : (0 : Int32).toInt = 0 := rfl
  have e1 : (65535 : Int32).toInt = 65535 := rfl
  have hc : c.toInt = c.toBitVec.toNat := by
    have := c.toBitVec.isLt
    have e : c.toInt = c.toBitVec.toInt := rfl
    rw [e] at h0 h1
    rw [e]
    rw [BitVec.toInt_eq_toNat_cond] at h0 h1 ⊢
    split at h0 <;> split <;> omega
  have hn : c.toBitVec.toNat < 65536 := by omega
  have a1 := lo8_and c
  have a2 : (hi8 c &&& 255).toBitVec.toNat = c.toBitVec.toNat / 256 := by
    rw [hi8, lo8_and]
    have e : ((8 : Int32) &&& 31) = 8 := by decide
    rw [e, Int32.toBitVec_shiftRight]
    have e2 : ((8 : Int32).toBitVec.smod 32) = 8#32 := by decide
    rw [e2, BitVec.sshiftRight_eq', BitVec.toNat_sshiftRight_of_msb_false (by rw [BitVec.msb_eq_false_iff_two_mul_lt]; omega)]
    show c.toBitVec.toNat >>> 8 % 256 = _
    rw [Nat.shiftRight_eq_div_pow]
    omega
  unfold pairCh
  apply Int32.toBitVec_inj.mp
  apply BitVec.eq_of_toNat_eq
  have f0 : ((0 : Int32) &&& 31) = 0 := by decide
  have f8 : ((8 : Int32) &&& 31) = 8 := by decide
  rw [f0, f8]
  have g : (((lo8 c &&& 255) <<< (0 : Int32)) ||| ((hi8 c &&& 255) <<< (8 : Int32))).toBitVec.toNat = c.toBitVec.toNat := by
    rw [Int32.toBitVec_or, Int32.toBitVec_shiftLeft, Int32.toBitVec_shiftLeft]
    have s0 : ((0 : Int32).toBitVec.smod 32) = 0#32 := by decide
    have s8 : ((8 : Int32).toBitVec.smod 32) = 8#32 := by decide
    rw [s0, s8, BitVec.toNat_or]
    simp only [BitVec.shiftLeft_eq', BitVec.toNat_shiftLeft, a1, a2]
    show (c.toBitVec.toNat % 256) <<< 0 % 2 ^ 32 ||| (c.toBitVec.toNat / 256) <<< 8 % 2 ^ 32 = _
    rw [Nat.shiftLeft_zero, Nat.mod_eq_of_lt (show c.toBitVec.toNat % 256 < 2 ^ 32 by omega), Nat.mod_eq_of_lt (show (c.toBitVec.toNat / 256) <<< 8 < 2 ^ 32 by rw [Nat.shiftLeft_eq]; omega), Nat.or_comm, ← Nat.shiftLeft_add_eq_or_of_lt (by omega), Nat.shiftLeft_eq]
    omega
  show BitVec.toNat (((((lo8 c &&& 255) <<< (0 : Int32)) ||| ((hi8 c &&& 255) <<< (8 : Int32))).toBitVec.setWidth 16).setWidth 32) = _
  rw [BitVec.toNat_setWidth, BitVec.toNat_setWidth, g]
  omega
end StrChars
namespace StrChars
open Jvm Sem ClassFile Op Lib Jvm.Stand Jvm.Free.XT Jvm.Free.ALB Jvm.Free.JM Jvm.Free
open Jvm.Lib.Cold (StaticIs)
/-- the array's cell V codes the n chars f 0 .. f (n - 1) by the coder cd, as the JDK does: coder 1 just where some char is above 255 -/
def Cod (cd : Int32) (n : Nat) (f : Nat → Int32) (V : Cell) : Prop := (cd = 0 ∧ V.slots.size = n ∧ ∀ j, j < n → V.slots[j]? = some (.int (lo8 (f j))) ∧ ¬ 255 < f j) ∨ (cd = 1 ∧ V.slots.size = 2 * n ∧ (∀ j, j < n → V.slots[2 * j]? = some (.int (lo8 (f j))) ∧ V.slots[2 * j + 1]? = some (.int (hi8 (f j)))) ∧ ∃ j, j < n ∧ 255 < f j)
/-- **x is a String of the n chars f 0 .. f (n - 1)**, Latin-1 or UTF-16; its array at t has the cell V -/
def Txt (x t : Addr) (V : Cell) (cd : Int32) (n : Nat) (f : Nat → Int32) (U : State) : Prop := Exact "java/lang/String" x U ∧ Has x "java/lang/String" "value" "[B" (.ref t) U ∧ Has x "java/lang/String" "coder" "B" (.int cd) U ∧ XT.Arr .byte t V U ∧ Cod cd n f V ∧ ∀ j, j < n → ¬ f j < 0 ∧ ¬ 65535 < f j
theorem Txt.mv {x t : Addr} {V : Cell} {cd : Int32} {n : Nat} {f : Nat → Int32} {U U' : State} (h : Txt x t V cd n f U) (hal : U.vm.Alike U'.vm) (hh : U'.heap = U.heap) : Txt x t V cd n f U' := ⟨h.1.mv hal hh, h.2.1.mv hal hh, h.2.2.1.mv hal hh, h.2.2.2.1.mv hal hh, h.2.2.2.2⟩
end StrChars
namespace StrChars.Road
open Jvm Sem ClassFile Op Lib Jvm.Stand Jvm.Free Jvm.Free.XT
open Jvm.Lib.Cold (StaticIs)
theorem consq {a : Array Value} {s : State} {c : Jvm.Cond} {L : List Jvm.Cond} (h0 : c.before a s = true) (h : ∀ w ∈ L, w.before a s = true) : ∀ w ∈ c :: L, w.before a s = true := fun w hw => (List.mem_cons.mp hw).elim (fun e => e ▸ h0) (h w)
/-- the bytes of the chars cs, low before high -/
def wideBytes : List Int32 → List Value
  | [] => []
  | c :: cs => .int (lo8 c) :: .int (hi8 c) :: wideBytes cs
theorem wide_lo (d : Value) : ∀ (cs : List Int32) (j : Nat), j < cs.length → (wideBytes cs).getD (2 * j) d = .int (lo8 (cs.getD j 0))
  | [], j, h => absurd h (Nat.not_lt_zero j)
  | c :: cs, 0, _ => rfl
  | c :: cs, j + 1, h => by
    have q := wide_lo d cs j (by simpa using h)
    rw [show 2 * (j + 1) = 2 * j + 1 + 1 from by omega]
    simpa [wideBytes] using q
theorem wide_hi (d : Value) : ∀ (cs : List Int32) (j : Nat), j < cs.length → (wideBytes cs).getD (2 * j + 1) d = .int (hi8 (cs.getD j 0))
  | [], j, h => absurd h (Nat.not_lt_zero j)
  | c :: cs, 0, _ => rfl
  | c :: cs, j + 1, h => by
    have q := wide_hi d cs j (by simpa using h)
    rw [show 2 * (j + 1) + 1 = 2 * j + 1 + 1 + 1 from by omega]
    simpa [wideBytes] using q
theorem low_at (d : Value) (cs : List Int32) (j : Nat) (h : j < cs.length) : (cs.map fun c => Value.int (lo8 c)).getD j d = .int (lo8 (cs.getD j 0)) := by
  simp [List.getD_eq_getElem?_getD, h]
/-- an array of N2 bytes vs codes the chars cs by the coder cd -/
def CodA (cs : List Int32) (cd N2 : Int32) (vs : List Value) : Prop := (cd = 0 ∧ N2 = Int32.ofNat cs.length ∧ vs = (cs.map fun c => Value.int (lo8 c)) ∧ ∀ c ∈ cs, ¬ 255 < c) ∨ (cd = 1 ∧ N2 = Int32.ofNat (2 * cs.length) ∧ vs = wideBytes cs ∧ ∃ c ∈ cs, 255 < c)
theorem CodA.cod {cs : List Int32} {cd N2 : Int32} {vs : List Value} {V : Cell} (h : CodA cs cd N2 vs) (hn : 2 * cs.length < 2 ^ 31) (hs : V.slots.size = N2.toNatClampNeg) (hv : RoadKit.Has V vs (.int 0)) : Cod cd cs.length (fun j => cs.getD j 0) V := by
  rcases h with ⟨rfl, rfl, rfl, h⟩ | ⟨rfl, rfl, rfl, c, hc, hw⟩
  · rw [n32 (by omega)] at hs
    exact Or.inl ⟨rfl, hs, fun j hj => ⟨by rw [hv j (by omega), low_at _ _ _ hj], by
      have e : cs.getD j 0 = cs[j] := by simp [List.getD_eq_getElem?_getD, hj]
      show ¬ 255 < cs.getD j 0
      rw [e]; exact h _ (List.getElem_mem _)⟩⟩
  · rw [n32 (by omega)] at hs
    obtain ⟨j, hj, rfl⟩ := List.getElem_of_mem hc
    exact Or.inr ⟨rfl, hs, fun j hj => ⟨by rw [hv _ (by omega), wide_lo _ _ _ hj], by rw [hv _ (by omega), wide_hi _ _ _ hj]⟩, j, hj, by
      have e : cs.getD j 0 = cs[j] := by simp [List.getD_eq_getElem?_getD, hj]
      show 255 < cs.getD j 0
      rw [e]; exact hw⟩
/-- an object of exactly java/lang/String, its two fields found: as the laws ask it -/
theorem strObj {Z U : State} {a0 : Array Value} {kI : Nat} (wi : (Jvm.Cond.instantiable ST kI).before a0 Z = true) (al : Z.vm.Alike U.vm) {x : Addr} {v0 c0 : Value} (E : RoadKit.Exa Z U.heap x ST) (V : RoadKit.Fld Z U.heap x ST "value" "[B" v0) (C : RoadKit.Fld Z U.heap x ST "coder" "B" c0) :
    ∃ (D : Cell) (fV fC : Field), Blank ST x D U ∧ Found ST "value" "[B" fV U ∧ Found ST "coder" "B" fC U ∧ D.slots[fV.slot]? = some v0 ∧ D.slots[fC.slot]? = some c0 ∧ RoadKit.slotOf Z ST "value" "[B" = fV.slot ∧ RoadKit.slotOf Z ST "coder" "B" = fC.slot := by
  obtain ⟨D, cfV, kV, iV, fV, hD, gV, stV, knV, obV, asV, slV⟩ := V
  obtain ⟨D', cfC, kC, iC, fC, hD', gC, stC, -, -, asC, slC⟩ := C
  cases hD.symm.trans hD'
  obtain ⟨D2, kD, e1, e2, e3, e4, e5⟩ := E
  cases hD.symm.trans e1
  obtain ⟨c2, k2, i1, i2, i3, -⟩ := Cond.instantiable_spec wi
  cases e2.symm.trans i1
  cases e3.symm.trans i2
  obtain ⟨kU, u1, u2⟩ := al.2.2 _ _ e3
  exact ⟨D, fV, fC, ⟨hD, ⟨knV, fun q hq => by rw [hq] at obV; cases obV⟩, by rw [al.findClass]; exact e2, kU, u1, by rw [u2]; exact i3, by rw [u2]; exact e5 i3⟩, ⟨SBG.found_only al ⟨cfV, kV, iV, gV⟩, stV⟩, ⟨SBG.found_only al ⟨cfC, kC, iC, gC⟩, stC⟩, slV, slC, by simp [RoadKit.slotOf, gV], by simp [RoadKit.slotOf, gC]⟩
theorem sta_is {Z U : State} (al : Z.vm.Alike U.vm) {C n d : String} {v : Value} (S : RoadKit.Sta Z U.heap C n d v) : StaticIs U C n d v := by
  obtain ⟨cfS, iS, kS, fS, st, cS, t1, t2, t3, t4, t5, t6, t7⟩ := S
  exact StaticIs.there (s := { Z with heap := U.heap }) ⟨cfS, iS, kS, fS, st, cS, t1, t2, t3, t4, t5, (fun q => by rw [q] at t6; cases t6), t7⟩ al rfl
end StrChars.Road
namespace StrChars
open Jvm Sem ClassFile Op Lib Jvm.Stand Jvm.Free.XT Jvm.Free.ALB Jvm.Free.JM Jvm.Free
open Jvm.Lib.Cold (StaticIs)
/-- what place i of a byte[]'s cell holds -/
def yv (A : Cell) (i : Nat) : Int32 := match A.slots[i]? with | some (.int x) => x | _ => 0
theorem yv_get {a : Addr} {A : Cell} {U : State} (h : XT.Arr .byte a A U) (ht : Typed .byte A) {i : Nat} (hi : i < A.slots.size) : A.slots[i]? = some (.int (yv A i)) := by
  have e := Array.getElem?_eq_getElem hi
  have f := ht i _ e
  unfold yv; rw [e]
  generalize A.slots[i] = v at f
  cases v <;> simp [fits] at f ⊢
/-- the two arrays are equal, place for place -/
def EqC (A B : Cell) : Prop := A.slots.size = B.slots.size ∧ ∀ i, i < A.slots.size → yv A i = yv B i
/-- a boolean that says whether p -/
def Says01 (q : Prop) (r : Option Value) (s u : State) : Prop := ∃ v : Int32, r = some (.int v) ∧ u.heap = s.heap ∧ ((v = 1 ∧ q) ∨ (v = 0 ∧ ¬ q))
theorem Says01.mv {q : Prop} : ∀ r (U U' V V' : State), U'.heap = U.heap → V.vm.Alike V'.vm → V'.heap = V.heap → Says01 q r U V → Says01 q r U' V' :=
  fun r U U' V V' h1 _ h2 ⟨v, a, b, c⟩ => ⟨v, a, by rw [h1, h2]; exact b, c⟩
namespace LEq
def yN : MethodName := ⟨"java/lang/StringLatin1", "equals", "([B[B)Z"⟩
abbrev yB : ByteArray := jdk_43_method_13_code
theorem d0 : decode yB 0 = .ok (.aload_n 0, 1) := by decide +kernel
theorem d1 : decode yB 1 = .ok (.arraylength, 1) := by decide +kernel
theorem d2 : decode yB 2 = .ok (.aload_n 1, 1) := by decide +kernel
theorem d3 : decode yB 3 = .ok (.arraylength, 1) := by decide +kernel
theorem d4 : decode yB 4 = .ok (.if_icmp (.ne) 30, 3) := by decide +kernel
theorem d7 : decode yB 7 = .ok (.iconst 0, 1) := by decide +kernel
theorem d8 : decode yB 8 = .ok (.istore_n 2, 1) := by decide +kernel
theorem d9 : decode yB 9 = .ok (.iload_n 2, 1) := by decide +kernel
theorem d10 : decode yB 10 = .ok (.aload_n 0, 1) := by decide +kernel
theorem d11 : decode yB 11 = .ok (.arraylength, 1) := by decide +kernel
theorem d12 : decode yB 12 = .ok (.if_icmp (.ge) 20, 3) := by decide +kernel
theorem d15 : decode yB 15 = .ok (.aload_n 0, 1) := by decide +kernel
theorem d16 : decode yB 16 = .ok (.iload_n 2, 1) := by decide +kernel
theorem d17 : decode yB 17 = .ok (.baload, 1) := by decide +kernel
theorem d18 : decode yB 18 = .ok (.aload_n 1, 1) := by decide +kernel
theorem d19 : decode yB 19 = .ok (.iload_n 2, 1) := by decide +kernel
theorem d20 : decode yB 20 = .ok (.baload, 1) := by decide +kernel
theorem d21 : decode yB 21 = .ok (.if_icmp (.eq) 5, 3) := by decide +kernel
theorem d24 : decode yB 24 = .ok (.iconst 0, 1) := by decide +kernel
theorem d25 : decode yB 25 = .ok (.ireturn, 1) := by decide +kernel
theorem d26 : decode yB 26 = .ok (.iinc 2 1, 3) := by decide +kernel
theorem d29 : decode yB 29 = .ok (.goto (-20), 3) := by decide +kernel
theorem d32 : decode yB 32 = .ok (.iconst 1, 1) := by decide +kernel
theorem d33 : decode yB 33 = .ok (.ireturn, 1) := by decide +kernel
theorem d34 : decode yB 34 = .ok (.iconst 0, 1) := by decide +kernel
theorem d35 : decode yB 35 = .ok (.ireturn, 1) := by decide +kernel
def site : List Cond := []
def tab : Cond := tabOf yN yB 3 (some .boolean) site
def P (a : Addr) (A : Cell) (b : Addr) (B : Cell) (args : Array Value) (s : State) : Prop := args = #[.ref a, .ref b] ∧ XT.Arr .byte a A s ∧ Typed .byte A ∧ XT.Arr .byte b B s ∧ Typed .byte B
/-- whether two byte[] are equal, place for place -/
theorem law (l : Launch) (a : Addr) (A : Cell) (b : Addr) (B : Cell) : Law l yN 2 2 0 0 yB 3 (some .boolean) site (P a A b B) (Says01 (EqC A B)) [] 0 0 := by
  refine Law.of_walk (plainFor_of_name (by decide +kernel)) (by decide +kernel) (by decide +kernel) (by decide) (fun _ _ h => by rw [h.1]; rfl) (fun _ U U' hal hh h => ⟨h.1, h.2.1.mv hal hh, h.2.2.1, h.2.2.2.1.mv hal hh, h.2.2.2.2⟩) (fun r U U' V V' h1 hal h2 h => Says01.mv r U U' V V' h1 hal h2 h) ?_
  intro p e s m args below meth c s₁ X0 hexec hbytes hml hret hlk hnm hown hh0 W hP
  obtain ⟨rfl, hA, tA, hB, tB⟩ := hP
  have a31 := hA.2.2.2
  have b31 := hB.2.2.2
  have hA0 := hA.mv X0.warmed.alike hh0
  have hB0 := hB.mv X0.warmed.alike hh0
  have c1 : Steps p.tables e below (s₁.setTop (entryFrame m #[.ref a, .ref b] 3)) (s₁.setTop (mkF m 0 #[.val (.ref a), .val (.ref b), .unset] [])) := entry rfl
  have c2 : Steps p.tables e below (s₁.setTop (entryFrame m #[.ref a, .ref b] 3)) (s₁.setTop (mkF m 4 #[.val (.ref a), .val (.ref b), .unset] [.int (Int32.ofNat B.slots.size), .int (Int32.ofNat A.slots.size)])) := c1.trans (by
    refine XS.aloadN X0.here hexec rfl (hb hbytes d0) rfl rfl ?_
    refine X0.alen hexec hA0 rfl rfl (hb hbytes d1) ?_
    refine XS.aloadN X0.here hexec rfl (hb hbytes d2) rfl rfl ?_
    refine X0.alen hexec hB0 rfl rfl (hb hbytes d3) ?_
    exact Steps.refl _)
  by_cases hs : A.slots.size = B.slots.size
  · have c3 : Steps p.tables e below (s₁.setTop (entryFrame m #[.ref a, .ref b] 3)) (s₁.setTop (mkF m 9 #[.val (.ref a), .val (.ref b), .val (.int 0)] [])) := c2.trans (by
      refine XS.icmpNo X0.here hexec rfl (hb hbytes d4) rfl (ii_ne_f (by rw [hs])) ?_
      refine iconstV X0.here hexec rfl 0 (hb hbytes d7) (by decide) ?_
      refine XS.istoreN X0.here hexec rfl (hb hbytes d8) rfl rfl ?_
      exact Steps.refl _)
    have loop : ∀ (r i : Nat), i + r = A.slots.size → (∀ j, j < i → yv A j = yv B j) → Steps p.tables e below (s₁.setTop (entryFrame m #[.ref a, .ref b] 3)) (s₁.setTop (mkF m 9 #[.val (.ref a), .val (.ref b), .val (.int (Int32.ofNat i))] [])) → ∃ (pc : Nat) (Ls : Array Slot) (v : Int32), (pc = 25 ∨ pc = 33) ∧ ((v = 1 ∧ EqC A B) ∨ (v = 0 ∧ ¬ EqC A B)) ∧ Steps p.tables e below (s₁.setTop (entryFrame m #[.ref a, .ref b] 3)) (s₁.setTop (mkF m pc Ls [.int v])) := by
      intro r
      induction r with
      | zero =>
        intro i hi he cl
        exact ⟨33, _, 1, Or.inr rfl, Or.inl ⟨rfl, hs, fun j hj => he j (by omega)⟩, cl.trans (by
          refine XS.iloadN X0.here hexec rfl (hb hbytes d9) rfl ?_
          refine XS.aloadN X0.here hexec rfl (hb hbytes d10) rfl rfl ?_
          refine X0.alen hexec hA0 rfl rfl (hb hbytes d11) ?_
          refine XS.icmpYes X0.here hexec rfl (pc0 := 12) rfl (hb hbytes d12) rfl (ii_ge_t (nlt32 (by omega) (by omega))) (by decide) rfl ?_
          refine iconstV X0.here hexec rfl 1 (hb hbytes d32) (by decide) ?_
          exact Steps.refl _)⟩
      | succ r ih =>
        intro i hi he cl
        have c4 : Steps p.tables e below (s₁.setTop (entryFrame m #[.ref a, .ref b] 3)) (s₁.setTop (mkF m 21 #[.val (.ref a), .val (.ref b), .val (.int (Int32.ofNat i))] [.int (yv B i), .int (yv A i)])) := cl.trans (by
          refine XS.iloadN X0.here hexec rfl (hb hbytes d9) rfl ?_
          refine XS.aloadN X0.here hexec rfl (hb hbytes d10) rfl rfl ?_
          refine X0.alen hexec hA0 rfl rfl (hb hbytes d11) ?_
          refine XS.icmpNo X0.here hexec rfl (hb hbytes d12) rfl (ii_ge_f (lt32 (by omega) (by omega))) ?_
          refine XS.aloadN X0.here hexec rfl (hb hbytes d15) rfl rfl ?_
          refine XS.iloadN X0.here hexec rfl (hb hbytes d16) rfl ?_
          refine X0.aget hexec hA0 rfl (yv_get hA tA (i := i) (by omega)) rfl rfl (hb hbytes d17) ?_
          refine XS.aloadN X0.here hexec rfl (hb hbytes d18) rfl rfl ?_
          refine XS.iloadN X0.here hexec rfl (hb hbytes d19) rfl ?_
          refine X0.aget hexec hB0 rfl (yv_get hB tB (i := i) (by omega)) rfl rfl (hb hbytes d20) ?_
          exact Steps.refl _)
        by_cases hv : yv A i = yv B i
        · have c5 : Steps p.tables e below (s₁.setTop (entryFrame m #[.ref a, .ref b] 3)) (s₁.setTop (mkF m 9 #[.val (.ref a), .val (.ref b), .val (.int (Int32.ofNat i + 1))] [])) := c4.trans (by
            refine XS.icmpYes X0.here hexec rfl (pc0 := 21) rfl (hb hbytes d21) rfl (ii_eq_t hv) (by decide) rfl ?_
            refine iincV X0.here hexec rfl 1 (hb hbytes d26) (by decide) rfl rfl ?_
            refine XS.goto X0.here hexec rfl (pc0 := 29) rfl (hb hbytes d29) (by decide) rfl ?_
            exact Steps.refl _)
          rw [succ32] at c5
          exact ih (i + 1) (by omega) (fun j hj => by
            by_cases e : j = i
            · rw [e]; exact hv
            · exact he j (by omega)) c5
        · exact ⟨25, _, 0, Or.inl rfl, Or.inr ⟨rfl, fun q => hv (q.2 i (by omega))⟩, c4.trans (by
            refine XS.icmpNo X0.here hexec rfl (hb hbytes d21) rfl (ii_eq_f hv) ?_
            refine iconstV X0.here hexec rfl 0 (hb hbytes d24) (by decide) ?_
            exact Steps.refl _)⟩
    obtain ⟨pc, Ls, v, hpc, hv, cz⟩ := loop A.slots.size 0 (by omega) (fun j hj => absurd hj (Nat.not_lt_zero j)) c3
    have nv : narrow .boolean (.int v) = .int v := by rcases hv with ⟨rfl, -⟩ | ⟨rfl, -⟩ <;> rfl
    rcases hpc with rfl | rfl
    · exact ⟨s₁, some (.int v), _, _, _, X0, rfl, rfl, rfl, (fun h => by cases h), ⟨v, rfl, hh0, hv⟩, fun fs hl => cz.trans (X0.ireturnOut hexec hret nv (Or.inr (Or.inl rfl)) (hb hbytes d25) hl)⟩
    · exact ⟨s₁, some (.int v), _, _, _, X0, rfl, rfl, rfl, (fun h => by cases h), ⟨v, rfl, hh0, hv⟩, fun fs hl => cz.trans (X0.ireturnOut hexec hret nv (Or.inr (Or.inl rfl)) (hb hbytes d33) hl)⟩
  · have c3 : Steps p.tables e below (s₁.setTop (entryFrame m #[.ref a, .ref b] 3)) (s₁.setTop (mkF m 35 #[.val (.ref a), .val (.ref b), .unset] [.int 0])) := c2.trans (by
      refine XS.icmpYes X0.here hexec rfl (pc0 := 4) rfl (hb hbytes d4) rfl (ii_ne_t (ne32 a31 b31 hs)) (by decide) rfl ?_
      refine iconstV X0.here hexec rfl 0 (hb hbytes d34) (by decide) ?_
      exact Steps.refl _)
    exact ⟨s₁, some (.int 0), _, _, _, X0, rfl, rfl, rfl, (fun h => by cases h), ⟨0, rfl, hh0, Or.inr ⟨rfl, fun q => hs q.1⟩⟩, fun fs hl => c3.trans (X0.ireturnOut hexec hret rfl (Or.inr (Or.inl rfl)) (hb hbytes d35) hl)⟩
end LEq
theorem Cod.ty {cd : Int32} {n : Nat} {f : Nat → Int32} {V : Cell} (h : Cod cd n f V) : Typed .byte V := fun i v hv => by
  have hi : i < V.slots.size := (Array.getElem?_eq_some_iff.mp hv).1
  rcases h with ⟨-, k1, k2⟩ | ⟨-, k1, k2, -⟩
  · rw [(k2 i (by omega)).1] at hv; cases hv; exact fits_lo8 _
  · rcases Nat.mod_two_eq_zero_or_one i with e | e
    · obtain ⟨j, rfl⟩ : ∃ j, i = 2 * j := ⟨i / 2, by omega⟩
      rw [(k2 j (by omega)).1] at hv; cases hv; exact fits_lo8 _
    · obtain ⟨j, rfl⟩ : ∃ j, i = 2 * j + 1 := ⟨i / 2, by omega⟩
      rw [(k2 j (by omega)).2] at hv; cases hv; exact fits_lo8 _
/-- the same text -/
def SameT (n : Nat) (f : Nat → Int32) (k : Nat) (g : Nat → Int32) : Prop := n = k ∧ ∀ j, j < n → f j = g j
theorem lo8_inj {x y : Int32} (h0 : ¬ x < 0) (h1 : ¬ 255 < x) (k0 : ¬ y < 0) (k1 : ¬ 255 < y) (h : lo8 x = lo8 y) : x = y := by
  rw [← lo8_mask h0 h1, ← lo8_mask k0 k1, h]
/-- arrays coded by one coder are equal just where the texts are -/
theorem Cod.eqv {cd : Int32} {n k : Nat} {f g : Nat → Int32} {V V' : Cell} (h : Cod cd n f V) (h' : Cod cd k g V') (hf : ∀ j, j < n → ¬ f j < 0 ∧ ¬ 65535 < f j) (hg : ∀ j, j < k → ¬ g j < 0 ∧ ¬ 65535 < g j) : EqC V V' ↔ SameT n f k g := by
  have yvv : ∀ {W : Cell} {i : Nat} {x : Int32}, W.slots[i]? = some (.int x) → yv W i = x := fun q => by unfold yv; rw [q]
  rcases h with ⟨rfl, k1, k2⟩ | ⟨rfl, k1, k2, -⟩
  · rcases h' with ⟨-, m1, m2⟩ | ⟨e, -⟩
    · constructor
      · rintro ⟨e1, e2⟩
        refine ⟨by omega, fun j hj => ?_⟩
        have q := e2 j (by omega)
        rw [yvv (k2 j hj).1, yvv (m2 j (by omega)).1] at q
        exact lo8_inj (hf j hj).1 (k2 j hj).2 (hg j (by omega)).1 (m2 j (by omega)).2 q
      · rintro ⟨rfl, e2⟩
        refine ⟨by omega, fun j hj => ?_⟩
        rw [yvv (k2 j (by omega)).1, yvv (m2 j (by omega)).1, e2 j (by omega)]
    · exact absurd e (by decide)
  · rcases h' with ⟨e, -⟩ | ⟨-, m1, m2, -⟩
    · exact absurd e (by decide)
    · constructor
      · rintro ⟨e1, e2⟩
        refine ⟨by omega, fun j hj => ?_⟩
        have q1 := e2 (2 * j) (by omega)
        have q2 := e2 (2 * j + 1) (by omega)
        rw [yvv (k2 j hj).1, yvv (m2 j (by omega)).1] at q1
        rw [yvv (k2 j hj).2, yvv (m2 j (by omega)).2] at q2
        rw [← pair_says (hf j hj).1 (hf j hj).2, ← pair_says (hg j (by omega)).1 (hg j (by omega)).2, q1, q2]
      · rintro ⟨rfl, e2⟩
        refine ⟨by omega, fun i hi => ?_⟩
        rcases Nat.mod_two_eq_zero_or_one i with e | e
        · obtain ⟨j, rfl⟩ : ∃ j, i = 2 * j := ⟨i / 2, by omega⟩
          rw [yvv (k2 j (by omega)).1, yvv (m2 j (by omega)).1, e2 j (by omega)]
        · obtain ⟨j, rfl⟩ : ∃ j, i = 2 * j + 1 := ⟨i / 2, by omega⟩
          rw [yvv (k2 j (by omega)).2, yvv (m2 j (by omega)).2, e2 j (by omega)]
/-- two codings differ: so do the texts -/
theorem Cod.dif {cd cd' : Int32} {n k : Nat} {f g : Nat → Int32} {V V' : Cell} (h : Cod cd n f V) (h' : Cod cd' k g V') (hne : ¬ cd = cd') : ¬ SameT n f k g := by
  rintro ⟨rfl, e⟩
  rcases h with ⟨rfl, -, k2⟩ | ⟨rfl, -, -, j, hj, hw⟩
  · rcases h' with ⟨rfl, -⟩ | ⟨-, -, -, j, hj, hw⟩
    · exact hne rfl
    · exact (k2 j hj).2 (by rw [e j hj]; exact hw)
  · rcases h' with ⟨-, -, m2⟩ | ⟨rfl, -⟩
    · exact (m2 j hj).2 (by rw [← e j hj]; exact hw)
    · exact hne rfl
/-- an object of exactly C is an instance of C -/
theorem cinst {p : Program} {l : Launch} {e : Env} {R : Room} {s : State} {m : MethodId} {args : Array Value} {below : List Frame} {meth : Method} {c : Code} {T : State} {locs : List Loc} {cells slots : Nat} (X : Stand p l e R s m args below meth c T locs cells slots) (hexec : p.tables.exec = Jvm.exec) {own C : String} {index : Nat} (hown : s.vm.findClass own = some m.cls) (hlink : (Cond.classLink own index C).before args s = true) {a : Addr} (hE : Exact C a T)
    {g : JFrame} (hg : g.method = m) {rest : List Value} (hstack : g.stack = .ref a :: rest) (hdg : decode c.code g.pc = .ok (.instanceof index, 3)) :
    ∃ T', Stand p l e R s m args below meth c T' locs cells slots ∧ T'.heap = T.heap ∧ ∀ target, Steps p.tables e below (T'.setTop { g with pc := g.pc + 3, stack := .int 1 :: rest }) target → Steps p.tables e below (T.setTop g) target := by
  obtain ⟨cB, h1, D, h2, h3, h4⟩ := hE
  have h1' : s.vm.findClass C = some cB := by rw [← X.warmed.alike.findClass]; exact h1
  obtain ⟨vm', X', st⟩ := X.instanceofYes hexec hown hlink h2 h4 h1' (by rw [h3]; exact Jvm.Free.SB.assignable_self _ _) hg hstack hdg
  exact ⟨_, X', rfl, st⟩
theorem cself {p : Program} {l : Launch} {e : Env} {R : Room} {s : State} {m : MethodId} {args : Array Value} {below : List Frame} {meth : Method} {c : Code} {T : State} {locs : List Loc} {cells slots : Nat} (X : Stand p l e R s m args below meth c T locs cells slots) (hexec : p.tables.exec = Jvm.exec) {own C : String} {index : Nat} (hown : s.vm.findClass own = some m.cls) (hlink : (Cond.classLink own index C).before args s = true) {a : Addr} (hE : Exact C a T)
    {g : JFrame} (hg : g.method = m) {rest : List Value} (hstack : g.stack = .ref a :: rest) (hdg : decode c.code g.pc = .ok (.checkcast index, 3)) :
    ∃ T', Stand p l e R s m args below meth c T' locs cells slots ∧ T'.heap = T.heap ∧ ∀ target, Steps p.tables e below (T'.setTop { g with pc := g.pc + 3, stack := .ref a :: rest }) target → Steps p.tables e below (T.setTop g) target := by
  obtain ⟨cB, h1, D, h2, h3, h4⟩ := hE
  have h1' : s.vm.findClass C = some cB := by rw [← X.warmed.alike.findClass]; exact h1
  obtain ⟨vm', X', st⟩ := X.checkcastYes hexec hown hlink h2 h4 h1' (by rw [h3]; exact Jvm.Free.SB.assignable_self _ _) hg hstack hdg
  exact ⟨_, X', rfl, fun t h => st t (by rw [← hstack] at h; exact h)⟩
namespace SEq
def yN : MethodName := ⟨"java/lang/String", "equals", "(Ljava/lang/Object;)Z"⟩
abbrev yB : ByteArray := jdk_42_method_66_code
theorem d0 : decode yB 0 = .ok (.aload_n 0, 1) := by decide +kernel
theorem d1 : decode yB 1 = .ok (.aload_n 1, 1) := by decide +kernel
theorem d2 : decode yB 2 = .ok (.if_acmp (.ne) 5, 3) := by decide +kernel
theorem d5 : decode yB 5 = .ok (.iconst 1, 1) := by decide +kernel
theorem d6 : decode yB 6 = .ok (.ireturn, 1) := by decide +kernel
theorem d7 : decode yB 7 = .ok (.aload_n 1, 1) := by decide +kernel
theorem d8 : decode yB 8 = .ok (.instanceof 10, 3) := by decide +kernel
theorem d11 : decode yB 11 = .ok (.ifCond (.eq) 43, 3) := by decide +kernel
theorem d14 : decode yB 14 = .ok (.aload_n 1, 1) := by decide +kernel
theorem d15 : decode yB 15 = .ok (.checkcast 10, 3) := by decide +kernel
theorem d18 : decode yB 18 = .ok (.astore_n 2, 1) := by decide +kernel
theorem d19 : decode yB 19 = .ok (.getstatic 38, 3) := by decide +kernel
theorem d22 : decode yB 22 = .ok (.ifCond (.eq) 14, 3) := by decide +kernel
theorem d25 : decode yB 25 = .ok (.aload_n 0, 1) := by decide +kernel
theorem d26 : decode yB 26 = .ok (.getfield 15, 3) := by decide +kernel
theorem d29 : decode yB 29 = .ok (.aload_n 2, 1) := by decide +kernel
theorem d30 : decode yB 30 = .ok (.getfield 15, 3) := by decide +kernel
theorem d33 : decode yB 33 = .ok (.if_icmp (.ne) 21, 3) := by decide +kernel
theorem d36 : decode yB 36 = .ok (.aload_n 0, 1) := by decide +kernel
theorem d37 : decode yB 37 = .ok (.getfield 9, 3) := by decide +kernel
theorem d40 : decode yB 40 = .ok (.aload_n 2, 1) := by decide +kernel
theorem d41 : decode yB 41 = .ok (.getfield 9, 3) := by decide +kernel
theorem d44 : decode yB 44 = .ok (.invokestatic 541, 3) := by decide +kernel
theorem d47 : decode yB 47 = .ok (.ifCond (.eq) 7, 3) := by decide +kernel
theorem d50 : decode yB 50 = .ok (.iconst 1, 1) := by decide +kernel
theorem d51 : decode yB 51 = .ok (.goto 4, 3) := by decide +kernel
theorem d54 : decode yB 54 = .ok (.iconst 0, 1) := by decide +kernel
theorem d55 : decode yB 55 = .ok (.ireturn, 1) := by decide +kernel
def site : List Cond := [.classLink "java/lang/String" 10 "java/lang/String", .fieldLink "java/lang/String" 38 "java/lang/String" "COMPACT_STRINGS" "Z", .fieldLink "java/lang/String" 15 "java/lang/String" "coder" "B", .fieldLink "java/lang/String" 9 "java/lang/String" "value" "[B", LEq.tab] ++ staticW "java/lang/String" 541 LEq.yN
def tab : Cond := tabOf yN yB 3 (some .boolean) site
def P (x t : Addr) (V : Cell) (cd : Int32) (n : Nat) (f : Nat → Int32) (y t' : Addr) (V' : Cell) (cd' : Int32) (k : Nat) (g : Nat → Int32) (z : Int32) (args : Array Value) (s : State) : Prop := args = #[.ref x, .ref y] ∧ Txt x t V cd n f s ∧ Txt y t' V' cd' k g s ∧ StaticIs s "java/lang/String" "COMPACT_STRINGS" "Z" (.int z) ∧ ¬ z = 0
/-- equals(Object) of two Strings: whether the texts are the same -/
theorem law (l : Launch) (x t : Addr) (V : Cell) (cd : Int32) (n : Nat) (f : Nat → Int32) (y t' : Addr) (V' : Cell) (cd' : Int32) (k : Nat) (g : Nat → Int32) (z : Int32) : Law l yN 2 1 1 14 yB 3 (some .boolean) site (P x t V cd n f y t' V' cd' k g z) (Says01 (SameT n f k g)) [] 0 0 := by
  refine Law.of_walk (plainFor_of_name (by decide +kernel)) (by decide +kernel) (by decide +kernel) (by decide) (fun _ _ h => by rw [h.1]; rfl) (fun _ U U' hal hh h => ⟨h.1, h.2.1.mv hal hh, h.2.2.1.mv hal hh, h.2.2.2.1.there hal hh, h.2.2.2.2⟩) (fun r U U' V V' h1 hal h2 h => Says01.mv r U U' V V' h1 hal h2 h) ?_
  intro p e s m args below meth c s₁ X0 hexec hbytes hml hret hlk hnm hown hh0 W hP
  obtain ⟨rfl, hx, hy, s1, hz⟩ := hP
  have c1 : Steps p.tables e below (s₁.setTop (entryFrame m #[.ref x, .ref y] 3)) (s₁.setTop (mkF m 2 #[.val (.ref x), .val (.ref y), .unset] [.ref y, .ref x])) := Steps.trans (entry rfl) (by
    show Steps p.tables e below (s₁.setTop (mkF m 0 #[.val (.ref x), .val (.ref y), .unset] [])) _
    refine XS.aloadN X0.here hexec rfl (hb hbytes d0) rfl rfl ?_
    refine XS.aloadN X0.here hexec rfl (hb hbytes d1) rfl rfl ?_
    exact Steps.refl _)
  by_cases hxy : x = y
  · have c2 : Steps p.tables e below (s₁.setTop (entryFrame m #[.ref x, .ref y] 3)) (s₁.setTop (mkF m 6 #[.val (.ref x), .val (.ref y), .unset] [.int 1])) := c1.trans (by
      refine acmpNo X0.here hexec rfl (hb hbytes d2) rfl rfl rfl (by simp [acmp, hxy]) ?_
      refine iconstV X0.here hexec rfl 1 (hb hbytes d5) (by decide) ?_
      exact Steps.refl _)
    subst hxy
    have ec : cd = cd' := by
      obtain ⟨D, fd, a1, a2, a3⟩ := hx.2.2.1
      obtain ⟨D', fd', b1, b2, b3⟩ := hy.2.2.1
      cases a1.symm.trans b1
      obtain ⟨q1, q2, q3, q4⟩ := a2.1
      obtain ⟨r1, r2, r3, r4⟩ := b2.1
      cases q4.symm.trans r4
      cases a3.symm.trans b3; rfl
    have et : t = t' := by
      obtain ⟨D, fd, a1, a2, a3⟩ := hx.2.1
      obtain ⟨D', fd', b1, b2, b3⟩ := hy.2.1
      cases a1.symm.trans b1
      obtain ⟨q1, q2, q3, q4⟩ := a2.1
      obtain ⟨r1, r2, r3, r4⟩ := b2.1
      cases q4.symm.trans r4
      cases a3.symm.trans b3; rfl
    subst ec et
    have ev : V = V' := by cases hx.2.2.2.1.1.symm.trans hy.2.2.2.1.1; rfl
    subst ev
    have hs : SameT n f k g := (Cod.eqv hx.2.2.2.2.1 hy.2.2.2.2.1 hx.2.2.2.2.2 hy.2.2.2.2.2).mp ⟨rfl, fun _ _ => rfl⟩
    exact ⟨s₁, some (.int 1), _, _, _, X0, rfl, rfl, rfl, (fun h => by cases h), ⟨1, rfl, hh0, Or.inl ⟨rfl, hs⟩⟩, fun fs hl => c2.trans (X0.ireturnOut hexec hret rfl (Or.inr (Or.inl rfl)) (hb hbytes d6) hl)⟩
  · have c2 : Steps p.tables e below (s₁.setTop (entryFrame m #[.ref x, .ref y] 3)) (s₁.setTop (mkF m 8 #[.val (.ref x), .val (.ref y), .unset] [.ref y])) := c1.trans (by
      refine acmpYes X0.here hexec rfl (pc0 := 2) rfl (hb hbytes d2) rfl rfl rfl (by simp [acmp, hxy]) (by decide) rfl ?_
      refine XS.aloadN X0.here hexec rfl (hb hbytes d7) rfl rfl ?_
      exact Steps.refl _)
    obtain ⟨T3, X3, q3, st3⟩ := cinst X0 hexec hown (wk W (.classLink "java/lang/String" 10 "java/lang/String")) (hy.mv X0.warmed.alike hh0).1 (g := (mkF m 8 #[.val (.ref x), .val (.ref y), .unset] [.ref y])) rfl (rest := []) rfl (hb hbytes d8)
    have hh3 := q3.trans hh0
    have c4 : Steps p.tables e below (s₁.setTop (entryFrame m #[.ref x, .ref y] 3)) (T3.setTop (mkF m 15 #[.val (.ref x), .val (.ref y), .unset] [.ref y])) := (c2.trans (st3 _ (Steps.refl _))).trans (by
      refine XS.ifNo X3.here hexec rfl (hb hbytes d11) rfl (i0_eq_f (by decide)) ?_
      refine XS.aloadN X3.here hexec rfl (hb hbytes d14) rfl rfl ?_
      exact Steps.refl _)
    obtain ⟨T5, X5, q5, st5⟩ := cself X3 hexec hown (wk W (.classLink "java/lang/String" 10 "java/lang/String")) (hy.mv X3.warmed.alike hh3).1 (g := (mkF m 15 #[.val (.ref x), .val (.ref y), .unset] [.ref y])) rfl (rest := []) rfl (hb hbytes d15)
    have hh5 := q5.trans hh3
    have c6 : Steps p.tables e below (s₁.setTop (entryFrame m #[.ref x, .ref y] 3)) (T5.setTop (mkF m 19 #[.val (.ref x), .val (.ref y), .val (.ref y)] [])) := (c4.trans (st5 _ (Steps.refl _))).trans (by
      refine XS.astoreN X5.here hexec rfl (hb hbytes d18) rfl rfl rfl ?_
      exact Steps.refl _)
    obtain ⟨T7, X7, q7, st7⟩ := X5.sget hexec hown (wk W (.fieldLink "java/lang/String" 38 "java/lang/String" "COMPACT_STRINGS" "Z")) s1 (fun _ _ h => by rw [hh5]; exact h) (g := (mkF m 19 #[.val (.ref x), .val (.ref y), .val (.ref y)] [])) rfl (hb hbytes d19)
    have hh7 := q7.trans hh5
    have c8 : Steps p.tables e below (s₁.setTop (entryFrame m #[.ref x, .ref y] 3)) (T7.setTop (mkF m 26 #[.val (.ref x), .val (.ref y), .val (.ref y)] [.ref x])) := (c6.trans (st7 _ (Steps.refl _))).trans (by
      refine XS.ifNo X7.here hexec rfl (hb hbytes d22) rfl (i0_eq_f hz) ?_
      refine XS.aloadN X7.here hexec rfl (hb hbytes d25) rfl rfl ?_
      exact Steps.refl _)
    obtain ⟨T9, X9, q9, st9⟩ := X7.hget hexec hown (wk W (.fieldLink "java/lang/String" 15 "java/lang/String" "coder" "B")) (hx.mv X7.warmed.alike hh7).2.2.1 (g := (mkF m 26 #[.val (.ref x), .val (.ref y), .val (.ref y)] [.ref x])) rfl (rest := []) rfl (hb hbytes d26)
    have hh9 := q9.trans hh7
    have c10 : Steps p.tables e below (s₁.setTop (entryFrame m #[.ref x, .ref y] 3)) (T9.setTop (mkF m 30 #[.val (.ref x), .val (.ref y), .val (.ref y)] [.ref y, .int cd])) := (c8.trans (st9 _ (Steps.refl _))).trans (by
      refine XS.aloadN X9.here hexec rfl (hb hbytes d29) rfl rfl ?_
      exact Steps.refl _)
    obtain ⟨T11, X11, q11, st11⟩ := X9.hget hexec hown (wk W (.fieldLink "java/lang/String" 15 "java/lang/String" "coder" "B")) (hy.mv X9.warmed.alike hh9).2.2.1 (g := (mkF m 30 #[.val (.ref x), .val (.ref y), .val (.ref y)] [.ref y, .int cd])) rfl (rest := [.int cd]) rfl (hb hbytes d30)
    have hh11 := q11.trans hh9
    have c12 : Steps p.tables e below (s₁.setTop (entryFrame m #[.ref x, .ref y] 3)) (T11.setTop (mkF m 33 #[.val (.ref x), .val (.ref y), .val (.ref y)] [.int cd', .int cd])) := c10.trans (st11 _ (Steps.refl _))
    by_cases hcd : cd = cd'
    · subst hcd
      have c13 : Steps p.tables e below (s₁.setTop (entryFrame m #[.ref x, .ref y] 3)) (T11.setTop (mkF m 37 #[.val (.ref x), .val (.ref y), .val (.ref y)] [.ref x])) := c12.trans (by
        refine XS.icmpNo X11.here hexec rfl (hb hbytes d33) rfl (ii_ne_f rfl) ?_
        refine XS.aloadN X11.here hexec rfl (hb hbytes d36) rfl rfl ?_
        exact Steps.refl _)
      obtain ⟨T14, X14, q14, st14⟩ := X11.hget hexec hown (wk W (.fieldLink "java/lang/String" 9 "java/lang/String" "value" "[B")) (hx.mv X11.warmed.alike hh11).2.1 (g := (mkF m 37 #[.val (.ref x), .val (.ref y), .val (.ref y)] [.ref x])) rfl (rest := []) rfl (hb hbytes d37)
      have hh14 := q14.trans hh11
      have c15 : Steps p.tables e below (s₁.setTop (entryFrame m #[.ref x, .ref y] 3)) (T14.setTop (mkF m 41 #[.val (.ref x), .val (.ref y), .val (.ref y)] [.ref y, .ref t])) := (c13.trans (st14 _ (Steps.refl _))).trans (by
        refine XS.aloadN X14.here hexec rfl (hb hbytes d40) rfl rfl ?_
        exact Steps.refl _)
      obtain ⟨T16, X16, q16, st16⟩ := X14.hget hexec hown (wk W (.fieldLink "java/lang/String" 9 "java/lang/String" "value" "[B")) (hy.mv X14.warmed.alike hh14).2.1 (g := (mkF m 41 #[.val (.ref x), .val (.ref y), .val (.ref y)] [.ref y, .ref t])) rfl (rest := [.ref t]) rfl (hb hbytes d41)
      have hh16 := q16.trans hh14
      have c17 : Steps p.tables e below (s₁.setTop (entryFrame m #[.ref x, .ref y] 3)) (T16.setTop (mkF m 44 #[.val (.ref x), .val (.ref y), .val (.ref y)] [.ref t', .ref t])) := c15.trans (st16 _ (Steps.refl _))
      obtain ⟨v18, T18, X18, E18, g18⟩ := X16.callS hexec (LEq.law l t V t' V') hown (wks W (staticW "java/lang/String" 541 LEq.yN)) (wk W LEq.tab) (W := 0) (Nat.le_of_ble_eq_true rfl) (Nat.le_of_ble_eq_true rfl) (Nat.le_refl _) (Nat.le_refl _) (g := (mkF m 44 #[.val (.ref x), .val (.ref y), .val (.ref y)] [.ref t', .ref t])) rfl (by rw [hml]; rfl) c17 (argsL := [.ref t, .ref t']) (rest := []) rfl rfl (by show 2 * 0 + 0 ≤ _; decide) (hb hbytes d44) (⟨rfl, hx.2.2.2.1.mv X16.warmed.alike hh16, hx.2.2.2.2.1.ty, hy.2.2.2.1.mv X16.warmed.alike hh16, hy.2.2.2.2.1.ty⟩)
      obtain ⟨v, rfl, q18, hv⟩ := E18
      have iff := Cod.eqv hx.2.2.2.2.1 hy.2.2.2.2.1 hx.2.2.2.2.2 hy.2.2.2.2.2
      rcases hv with ⟨rfl, he⟩ | ⟨rfl, he⟩
      · have c19 : Steps p.tables e below (s₁.setTop (entryFrame m #[.ref x, .ref y] 3)) (T18.setTop (mkF m 55 #[.val (.ref x), .val (.ref y), .val (.ref y)] [.int 1])) := Steps.trans g18 (by
          refine XS.ifNo X18.here hexec rfl (hb hbytes d47) rfl (i0_eq_f (by decide)) ?_
          refine iconstV X18.here hexec rfl 1 (hb hbytes d50) (by decide) ?_
          refine XS.goto X18.here hexec rfl (pc0 := 51) rfl (hb hbytes d51) (by decide) rfl ?_
          exact Steps.refl _)
        exact ⟨T18, some (.int 1), _, _, _, X18, rfl, rfl, rfl, (fun h => by cases h), ⟨1, rfl, q18.trans hh16, Or.inl ⟨rfl, iff.mp he⟩⟩, fun fs hl => c19.trans (X18.ireturnOut hexec hret rfl (Or.inr (Or.inl rfl)) (hb hbytes d55) hl)⟩
      · have c19 : Steps p.tables e below (s₁.setTop (entryFrame m #[.ref x, .ref y] 3)) (T18.setTop (mkF m 55 #[.val (.ref x), .val (.ref y), .val (.ref y)] [.int 0])) := Steps.trans g18 (by
          refine XS.ifYes X18.here hexec rfl (pc0 := 47) rfl (hb hbytes d47) rfl (i0_eq_t rfl) (by decide) rfl ?_
          refine iconstV X18.here hexec rfl 0 (hb hbytes d54) (by decide) ?_
          exact Steps.refl _)
        exact ⟨T18, some (.int 0), _, _, _, X18, rfl, rfl, rfl, (fun h => by cases h), ⟨0, rfl, q18.trans hh16, Or.inr ⟨rfl, fun q => he (iff.mpr q)⟩⟩, fun fs hl => c19.trans (X18.ireturnOut hexec hret rfl (Or.inr (Or.inl rfl)) (hb hbytes d55) hl)⟩
    · have c13 : Steps p.tables e below (s₁.setTop (entryFrame m #[.ref x, .ref y] 3)) (T11.setTop (mkF m 55 #[.val (.ref x), .val (.ref y), .val (.ref y)] [.int 0])) := c12.trans (by
        refine XS.icmpYes X11.here hexec rfl (pc0 := 33) rfl (hb hbytes d33) rfl (ii_ne_t hcd) (by decide) rfl ?_
        refine iconstV X11.here hexec rfl 0 (hb hbytes d54) (by decide) ?_
        exact Steps.refl _)
      exact ⟨T11, some (.int 0), _, _, _, X11, rfl, rfl, rfl, (fun h => by cases h), ⟨0, rfl, hh11, Or.inr ⟨rfl, Cod.dif hx.2.2.2.2.1 hy.2.2.2.2.1 hcd⟩⟩, fun fs hl => c13.trans (X11.ireturnOut hexec hret rfl (Or.inr (Or.inl rfl)) (hb hbytes d55) hl)⟩
theorem pays {l : Launch} {R : Room} {p : Program} {e : Env} {below : List Frame} {s : State} {sargs : Array Value} {len W : Nat} (x t : Addr) (V : Cell) (cd : Int32) (n : Nat) (f : Nat → Int32) (y t' : Addr) (V' : Cell) (cd' : Int32) (k : Nat) (g : Nat → Int32) (z : Int32) (htab : tab.before sargs s = true) (hfr : 2 ≤ R.frames) (hlo : W + 28 ≤ R.locals) :
    Back l R p e below s sargs yN len W (fun A₁ a₁ => A₁.cells + 0 ≤ R.cells ∧ A₁.slots + 0 ≤ R.slots ∧ P x t V cd n f y t' V' cd' k g z a₁ A₁.U) (fun A₁ _ v₁ B₁ => Says01 (SameT n f k g) v₁ A₁.U B₁.U ∧ B₁.locs = A₁.locs ++ [] ∧ B₁.cells = A₁.cells + 0 ∧ B₁.slots = A₁.slots + 0) :=
  (law l x t V cd n f y t' V' cd' k g z).pays htab hfr (by omega)
end SEq
end StrChars
namespace StrChars.Road
open Jvm Sem ClassFile Op Lib Jvm.Stand Jvm.Free Jvm.Free.XT
open Jvm.Lib.Cold (StaticIs)
/-- the words of String.equals(Object) -/
abbrev wordsEq : List Jvm.Cond := [.code SEq.yN SEq.yB 3 (some .boolean), .initialized ST, .classLink ST 10 ST, .fieldLink ST 38 ST "COMPACT_STRINGS" "Z", .fieldLink ST 15 ST "coder" "B", .fieldLink ST 9 ST "value" "[B", .methodLink ST 541 LEq.yN, .static LEq.yN, .code LEq.yN LEq.yB 3 (some .boolean), .initialized "java/lang/StringLatin1"]
theorem tabEq_of {a : Array Value} {s : State} (h : ∀ w ∈ wordsEq, w.before a s = true) : SEq.tab.before a s = true := by
  have hl : LEq.tab.before a s = true := unparts (wk h (.code LEq.yN LEq.yB 3 (some .boolean))) (wks h (.initialized LEq.yN.cls :: LEq.site))
  have q := consq hl h
  exact unparts (wk q (.code SEq.yN SEq.yB 3 (some .boolean))) (wks q (.initialized SEq.yN.cls :: SEq.site))
theorem movedEq {Z s : State} {a0 args : Array Value} (hZ : Z.Warmed39 s.vm) (hw : ∀ d ∈ wordsEq, d.before a0 Z = true) : ∀ d ∈ wordsEq, d.before args s = true := fun d hd => by
  have t : ∀ d ∈ wordsEq, (d.onTables && d.keepsFace) = true := by decide +kernel
  exact RoadKit.mv hZ (hw d hd) (t d hd)
/-- the road's facts of a String, as the laws ask it -/
theorem txt_of {Z U : State} {a0 : Array Value} {kI : Nat} (wi : (Jvm.Cond.instantiable ST kI).before a0 Z = true) (al : Z.vm.Alike U.vm) {x t : Addr} {kb : ClassId} {cs : List Int32} {cd N2 : Int32} {vs : List Value} (E : RoadKit.Exa Z U.heap x ST) (V : RoadKit.Fld Z U.heap x ST "value" "[B" (.ref t)) (C : RoadKit.Fld Z U.heap x ST "coder" "B" (.int cd)) (K : RoadKit.Arv Z U.heap t kb .byte N2 vs (.int 0)) (hc : CodA cs cd N2 vs) (hb : ∀ c ∈ cs, ¬ c < 0 ∧ ¬ (65535 : Int32) < c) (l2 : cs.length ≤ 4000) :
    ∃ A, Txt x t A cd cs.length (fun j => cs.getD j 0) U := by
  obtain ⟨A, K1, K2, K3, K4, K5, K6⟩ := K
  have hcod := hc.cod (by omega) K3 K5
  obtain ⟨D, fV, fC, hB, F1, F2, g1, g2, -, -⟩ := strObj wi al E V C
  exact ⟨A, ⟨_, hB.2.2.1, D, hB.1, rfl, by cases q : D.vm <;> first | rfl | exact absurd q (hB.2.1.2 _)⟩, Has.of hB F1 g1, Has.of hB F2 g2, ⟨K1.1, State.isArrayOf_alike al K1.2.1, K1.2.2, by rcases hcod with ⟨-, q, -⟩ | ⟨-, q, -⟩ <;> omega⟩, hcod, fun j hj => by
    have e : cs.getD j 0 = cs[j] := by simp [List.getD_eq_getElem?_getD, hj]
    show ¬ cs.getD j 0 < 0 ∧ ¬ 65535 < cs.getD j 0
    rw [e]; exact hb _ (List.getElem_mem _)⟩
theorem same_list (cs ds : List Int32) : SameT cs.length (fun j => cs.getD j 0) ds.length (fun j => ds.getD j 0) ↔ cs = ds := by
  constructor
  · rintro ⟨e, q⟩
    refine List.ext_getElem e fun j h1 h2 => ?_
    have := q j h1
    simpa [List.getD_eq_getElem?_getD, h1, h2] using this
  · rintro rfl
    exact ⟨rfl, fun _ _ => rfl⟩
/-- **equals(Object) OF TWO SUCH STRINGS**: 1 just where the chars are the same -/
theorem eqW {p : Program} {l : Launch} {e : Env} {R : Room} {s : State} {args : Array Value} {below : List Frame} {len W : Nat} {Z : State} {a0 : Array Value} {h : Heap} (hZ : Z.Warmed39 s.vm) (hw : ∀ d ∈ wordsEq, d.before a0 Z = true) {kI : Nat} (wi : (Jvm.Cond.instantiable ST kI).before a0 Z = true)
    {x t : Addr} {kb : ClassId} {cs : List Int32} {cd N2 : Int32} {vs : List Value} (E : RoadKit.Exa Z h x ST) (V : RoadKit.Fld Z h x ST "value" "[B" (.ref t)) (C : RoadKit.Fld Z h x ST "coder" "B" (.int cd)) (K : RoadKit.Arv Z h t kb .byte N2 vs (.int 0)) (hc : CodA cs cd N2 vs) (hb : ∀ c ∈ cs, ¬ c < 0 ∧ ¬ (65535 : Int32) < c) (l2 : cs.length ≤ 4000)
    {y t' : Addr} {kb' : ClassId} {ds : List Int32} {cd' N2' : Int32} {vs' : List Value} (E' : RoadKit.Exa Z h y ST) (V' : RoadKit.Fld Z h y ST "value" "[B" (.ref t')) (C' : RoadKit.Fld Z h y ST "coder" "B" (.int cd')) (K' : RoadKit.Arv Z h t' kb' .byte N2' vs' (.int 0)) (hc' : CodA ds cd' N2' vs') (hb' : ∀ c ∈ ds, ¬ c < 0 ∧ ¬ (65535 : Int32) < c) (l2' : ds.length ≤ 4000)
    {z : Int32} (S : RoadKit.Sta Z h ST "COMPACT_STRINGS" "Z" (.int z)) (hz : ¬ z = 0) (hfr : 2 ≤ R.frames) (hlo : W + 28 ≤ R.locals) :
    Back l R p e below s args (⟨"java/lang/String", "equals", "(Ljava/lang/Object;)Z"⟩ : MethodName) len W (fun P a => a = #[.ref x, .ref y] ∧ P.U.heap = h ∧ P.cells + 0 ≤ R.cells ∧ P.slots + 0 ≤ R.slots)
      (fun P _ v B => ∃ L, (((v = some (.int 1) ∧ cs = ds) ∨ (v = some (.int 0) ∧ ¬ cs = ds)) ∧ L = [] ∧ B.U.heap = h) ∧ B.locs = P.locs ++ L ∧ B.cells = P.cells + 0 ∧ B.slots = P.slots + 0) := by
  intro m meth c P g ig mk a X hg hsize hdg hW hn hp'
  obtain ⟨rfl, rfl, r1, r2⟩ := hp'
  have al : Z.vm.Alike P.U.vm := hZ.alike.trans X.warmed.alike
  obtain ⟨A, hx⟩ := txt_of wi al E V C K hc hb l2
  obtain ⟨A', hy⟩ := txt_of wi al E' V' C' K' hc' hb' l2'
  obtain ⟨v, B, X', ⟨⟨w, hv, hh, hq⟩, hl, hk, hs⟩, st⟩ := SEq.pays x t A cd cs.length (fun j => cs.getD j 0) y t' A' cd' ds.length (fun j => ds.getD j 0) z (tabEq_of (movedEq hZ hw)) hfr hlo m meth c P g ig mk _ X hg hsize hdg hW hn ⟨r1, r2, rfl, hx, hy, sta_is al S, hz⟩
  refine ⟨v, B, X', ⟨[], ⟨?_, rfl, hh⟩, hl, hk, hs⟩, st⟩
  rcases hq with ⟨rfl, q⟩ | ⟨rfl, q⟩
  · exact Or.inl ⟨hv, (same_list cs ds).mp q⟩
  · exact Or.inr ⟨hv, fun e => q ((same_list cs ds).mpr e)⟩
end StrChars.Road
namespace StrChars.Road
open Jvm Sem ClassFile Op Lib Jvm.Stand Jvm.Free Jvm.Free.XT
open Jvm.Lib.Cold (StaticIs)
/-- what backV says of its String, as the contracts of this text ask it: cs's low bytes, coder 0 -/
theorem codOf {cs : List Int32} {n : Nat} (hn : cs.length = n) (hb : ∀ c ∈ cs, ¬ 255 < c) : CodA cs 0 (Int32.ofNat n) ((cs.map lo8).map Value.int) := Or.inl ⟨rfl, by rw [hn], by simp [List.map_map, Function.comp_def], hb⟩
end StrChars.Road
end Jvm.Pilot.@@N@@

namespace Jvm.Pilot.@@N@@
open Jvm Jvm.ClassFile Sem Op Lib Jvm.Free Jvm.Stand Jvm.LawKit Jvm.RoadKit Bundle Jvm.Pilot.@@N@@.Jvm.D

theorem same_self {Z : State} {a0 : Array Value} {C : String} {x y y' : MethodName} (w : (Cond.instanceMethod y).before a0 Z = true) (ws : (Cond.selects C x y').before a0 Z = true) (hc : y'.cls = y.cls) (hy : y.cls ≠ "java/lang/invoke/MethodHandle" ∧ y.cls ≠ "java/lang/invoke/VarHandle") : (Cond.sameMethod y.cls y.cls y.name y.desc).before a0 Z = true := by
  obtain ⟨mk, meth, hn, hm, -, -⟩ := Cond.instanceMethod_spec w
  obtain ⟨c2, r2, m2, -, -, q3, -, kP, hkP, hkPi⟩ := Cond.selects_spec ws
  have f1 := findClass_of_methodNamed hn
  have f2 := findClass_of_methodNamed q3
  rw [hc, f1] at f2
  have f3 : mk.cls = m2.cls := Option.some.inj f2
  rw [← f3] at hkP
  have q := State.methodFound?_of_named hn hy
  have hn' : Z.methodNamed? ⟨y.cls, y.name, y.desc⟩ = some mk := hn
  simp [Cond.before, Cond.holds, Cond.value, f1, q, hn', hkP, hkPi]
theorem nf_of {s : State} {args : Array Value} {C : String} {x y y' : MethodName} (ws : (Cond.selects C x y').before args s = true) (hc : y'.cls = y.cls) : NotFace s y := fun r0 h0 => by
  obtain ⟨c2, r2, m2, -, -, q3, -, kP, hkP, hkPi⟩ := Cond.selects_spec ws
  have f1 := findClass_of_methodNamed h0
  have f2 := findClass_of_methodNamed q3
  rw [hc, f1] at f2
  have f3 : r0.cls = m2.cls := Option.some.inj f2
  exact ⟨kP, by rw [f3]; exact hkP, hkPi⟩
theorem decl_of {Z : State} {a0 : Array Value} {y : MethodName} {bytes : ByteArray} {maxL : Nat} {ret : Option FieldType} (w : (Cond.instanceMethod y).before a0 Z = true) (wc : (Cond.code y bytes maxL ret).before a0 Z = true) : (Cond.declares y).before a0 Z = true := by
  obtain ⟨mk, meth, hn, hm, hs, -⟩ := Cond.instanceMethod_spec w
  obtain ⟨m2, cM, q1, -, -, -, -, -, -, hsig⟩ := Cond.code_spec hn wc
  cases hm.symm.trans q1
  simp [Cond.before, Cond.holds, Cond.value, hn, hm, hs, hsig]
/-- a byte array made on the road, whole -/
def BL (Z : State) (h : Heap) (a : Addr) (k : ClassId) (bs : List Int32) : Prop := Arv Z h a k .byte (Int32.ofNat bs.length) (bs.map Value.int) (.int 0) ∧ bs.length ≤ 100000 ∧ Exa Z h a "[B"
section BLs
variable {Z : State} {h h' : Heap} {a b : Addr} {k : ClassId} {bs : List Int32} {ws : List Addr} {sl : Nat} {v : Value}
theorem BL.lt (F : BL Z h a k bs) : a < h.size := F.1.lt
theorem BL.ext (F : BL Z h a k bs) (E : Ext h h') : BL Z h' a k bs := ⟨F.1.ext E, F.2.1, F.2.2.ext E⟩
theorem BL.other (F : BL Z h b k bs) (W : Wr h h' a sl v) (q : b ≠ a) : BL Z h' b k bs := ⟨F.1.other W q, F.2.1, F.2.2.wr W⟩
theorem BL.keep (F : BL Z h a k bs) (K : Keep h h' ws) (q : a ∉ ws) : BL Z h' a k bs := ⟨F.1.keep K q, F.2.1, F.2.2.keep K⟩
theorem ofN_int {n : Nat} (q : n ≤ 1000000) : (Int32.ofNat n).toInt = n := by
  rw [Int32.toInt_ofNat']
  have e : (Int32.size : Int) = 4294967296 := rfl
  exact Int.bmod_eq_of_le (by omega) (by omega)
theorem ofN_nat {n : Nat} (q : n ≤ 1000000) : (Int32.ofNat n).toNatClampNeg = n := by simp only [Int32.toNatClampNeg, ofN_int q]; rfl
theorem ofN_nn {n : Nat} (q : n ≤ 1000000) : ¬ Int32.ofNat n < 0 := by rw [Int32.lt_iff_toInt_lt, ofN_int q]; show ¬ (n : Int) < 0; omega
theorem ofN_add (a b : Nat) : Int32.ofNat a + Int32.ofNat b = Int32.ofNat (a + b) := (Int32.ofNat_add a b).symm
theorem ofN_sub {a b : Nat} (q : b ≤ a) : Int32.ofNat a - Int32.ofNat b = Int32.ofNat (a - b) := by
  have : a = (a - b) + b := by omega
  conv => lhs; rw [this, Int32.ofNat_add]
  simp
theorem ofN_lt {a b : Nat} (qa : a ≤ 1000000) (qb : b ≤ 1000000) : Int32.ofNat a < Int32.ofNat b ↔ a < b := by rw [Int32.lt_iff_toInt_lt, ofN_int qa, ofN_int qb]; omega
theorem ofN_eq {a b : Nat} (qa : a ≤ 1000000) (qb : b ≤ 1000000) : Int32.ofNat a = Int32.ofNat b ↔ a = b := ⟨fun q => by have := congrArg Int32.toInt q; rw [ofN_int qa, ofN_int qb] at this; omega, fun q => q ▸ rfl⟩
theorem shr0 (x : Int32) : x >>> ((0 : Int32) &&& 31) = x := by
  rw [show ((0 : Int32) &&& 31) = 0 from by decide]; simp
theorem shl0 (x : Int32) : x <<< ((0 : Int32) &&& 31) = x := by
  rw [show ((0 : Int32) &&& 31) = 0 from by decide]; simp
theorem BL.of_list (F : Arv Z h a k .byte (Int32.ofNat bs.length) vs (.int 0)) (hE : Exa Z h a "[B") (hl : bs.length ≤ 100000) (q : ∀ i, i < bs.length → vs.getD i (.int 0) = (bs.map Value.int).getD i (.int 0)) : BL Z h a k bs := by
  obtain ⟨c, A, r1, r2, r3, H, G⟩ := F
  have e := ofN_nat (n := bs.length) (by omega)
  refine ⟨⟨c, A, r1, r2, r3, fun i hi => ?_, fun i hi => ?_⟩, hl, hE⟩
  · rw [← q i (by rw [r2, e] at hi; exact hi)]; exact H i hi
  · rw [← q i (by rw [r2, e] at hi; exact hi)]; exact G i hi
end BLs
/-- a byte array that is read alone -/
def B0 (Z : State) (h : Heap) (a : Addr) (k : ClassId) (bs : List Int32) : Prop := Arv Z h a k .byte (Int32.ofNat bs.length) (bs.map Value.int) (.int 0) ∧ bs.length ≤ 100000 ∧ True
section B0s
variable {Z : State} {h h' : Heap} {a b : Addr} {k : ClassId} {bs : List Int32} {ws : List Addr} {sl : Nat} {v : Value}
theorem BL.b0 (F : BL Z h a k bs) : B0 Z h a k bs := ⟨F.1, F.2.1, trivial⟩
theorem B0.lt (F : B0 Z h a k bs) : a < h.size := F.1.lt
theorem B0.ext (F : B0 Z h a k bs) (E : Ext h h') : B0 Z h' a k bs := ⟨F.1.ext E, F.2.1, trivial⟩
theorem B0.other (F : B0 Z h b k bs) (W : Wr h h' a sl v) (q : b ≠ a) : B0 Z h' b k bs := ⟨F.1.other W q, F.2.1, trivial⟩
theorem B0.keep (F : B0 Z h a k bs) (K : Keep h h' ws) (q : a ∉ ws) : B0 Z h' a k bs := ⟨F.1.keep K q, F.2.1, trivial⟩
end B0s
theorem rew_mono {s t : State} {o : Outcome} {L : List Loc} {k n k' n' : Nat} (h : ReturnedEndW s o t L k n) (q : k ≤ k') (r : n ≤ n') : ReturnedEndW s o t L k' n' := ⟨h.1, h.2.1, h.2.2.1, h.2.2.2.mono q r⟩
section BLs2
variable {p : Program} {l : Launch} {e : Env} {R : Room} {s : State} {m : MethodId} {args : Array Value} {below : List Frame} {meth : Method} {c : Code} {T : State} {locs : List Loc} {cells slots : Nat} {Z : State} {a0 : Array Value} {h : Heap} {a b : Addr} {k k' : ClassId} {bs ds : List Int32}
theorem newB (X : Stand p l e R s m args below meth c T locs cells slots) (hx : p.tables.exec = Jvm.exec) (hZ : Z.Warmed39 s.vm) (w : (Cond.arrayClass .byte).before a0 Z = true) (eT : T.heap = h) {g : JFrame} (hg : g.method = m) (hd : decode c.code g.pc = .ok (.newarray .byte, 2)) {n : Nat} {rest : List Value} (hs : g.stack = .int (Int32.ofNat n) :: rest)
    {cap : Nat} (hcap : n ≤ cap) (hb : cap ≤ 100000) (hc : cells + 1 ≤ R.cells) (hl : slots + cap ≤ R.slots) :
    ∃ T' h' cA, Stand p l e R s m args below meth c T' locs (cells + 1) (slots + cap) ∧ T'.heap = h' ∧ Ext h h' ∧ BL Z h' h.size cA (List.replicate n 0) ∧
      ∀ target, Steps p.tables e below (T'.setTop { g with pc := g.pc + 2, stack := .ref h.size :: rest }) target → Steps p.tables e below (T.setTop g) target := by
  obtain ⟨T', h', cA, X', e', E, A, Ex, st⟩ := newPE X hx hZ (aty := .byte) w eT hg hd hs (ofN_nn (by omega)) (cap := cap) (by rw [ofN_nat (by omega)]; exact hcap) (by omega) hc hl (ad := "[B") (by decide)
  refine ⟨T', h', cA, X', e', E, BL.of_list (vs := []) ?_ Ex (by simp; omega) (fun i hi => ?_), st⟩
  · have := Arv.new A (ofN_nn (n := n) (by omega))
    rw [List.length_replicate]; exact this
  · simp at hi; simp [hi]
theorem cpB (X : Stand p l e R s m args below meth c T locs cells slots) (hx : p.tables.exec = Jvm.exec) (hZ : Z.Warmed39 s.vm) {own : String} {index : Nat} (hown : s.vm.findClass own = some m.cls)
    (w1 : (Cond.methodLink own index Jvm.Stand.acN).before a0 Z = true) (w2 : (Cond.native Jvm.Stand.acN).before a0 Z = true) (w3 : (Cond.static Jvm.Stand.acN).before a0 Z = true) (w4 : (Cond.initialized "java/lang/System").before a0 Z = true) (eT : T.heap = h)
    (A : B0 Z h a k bs) (B : BL Z h b k' ds) {sp dp nn : Nat} (h4 : sp + nn ≤ bs.length) (h5 : dp + nn ≤ ds.length) {n0 : Nat} (N : Fr n0 locs) (ge : n0 ≤ b)
    {g : JFrame} (hg : g.method = m) (hsize : g.locals.size = c.maxLocals) {rest : List Value} (hs : g.stack = .int (Int32.ofNat nn) :: .int (Int32.ofNat dp) :: .ref b :: .int (Int32.ofNat sp) :: .ref a :: rest) (hd : decode c.code g.pc = .ok (.invokestatic index, 3))
    (hf : 1 ≤ R.frames) {W : Nat} (hW : 2 * g.monitorRoom + (rest.map fun v => v.category).sum ≤ W) (hlo : W + (nativeFrameWords "java/lang/System" "arraycopy" 5 + 11) ≤ R.locals) :
    ∃ T' h' L, Stand p l e R s m args below meth c T' L cells slots ∧ T'.heap = h' ∧ Fr n0 L ∧ Keep h h' [b] ∧ BL Z h' b k' (ds.take dp ++ (bs.drop sp).take nn ++ ds.drop (dp + nn)) ∧
      ∀ target, Steps p.tables e below (T'.setTop { g with pc := g.pc + 3, stack := rest }) target → Steps p.tables e below (T.setTop g) target := by
  have la := A.2.1
  have lb := B.2.1
  have e1 := ofN_nat (n := sp) (by omega)
  have e2 := ofN_nat (n := dp) (by omega)
  have e3 := ofN_nat (n := nn) (by omega)
  have ea := ofN_nat (n := bs.length) (by omega)
  have eb := ofN_nat (n := ds.length) (by omega)
  obtain ⟨T', h', L, X', e', N', K, F, st⟩ := cpA X hx hZ hown w1 w2 w3 w4 eT A.1 B.1 (Or.inl ⟨rfl, rfl⟩) (sp := Int32.ofNat sp) (dp := Int32.ofNat dp) (nn := Int32.ofNat nn) (ofN_nn (by omega)) (ofN_nn (by omega)) (ofN_nn (by omega))
    (by rw [e1, e3, ea]; exact h4) (by rw [e2, e3, eb]; exact h5) rfl (by rw [e2, e3, List.length_map]; exact h5) N ge hg hsize hs hd hf hW hlo
  have hl : (ds.take dp ++ (bs.drop sp).take nn ++ ds.drop (dp + nn)).length = ds.length := by simp; omega
  refine ⟨T', h', L, X', e', N', K, BL.of_list (by rw [hl]; exact F) (B.2.2.keep K) (by rw [hl]; exact lb) (fun i hi => ?_), st⟩
  rw [e1, e2, e3]
  congr 1
  have q : List.map (fun i => (bs.map Value.int).getD (sp + i) (.int 0)) (List.range nn) = ((bs.drop sp).take nn).map Value.int := by
    apply List.ext_getElem
    · simp; omega
    · intro j h1 h2
      simp at h1
      simp [show sp + j < bs.length by omega]
  rw [q]
  simp
theorem cloneB (X : Stand p l e R s m args below meth c T locs cells slots) (hx : p.tables.exec = Jvm.exec) (hZ : Z.Warmed39 s.vm) {own : String} {index : Nat} (hown : s.vm.findClass own = some m.cls)
    (w1 : (Cond.methodLink own index ⟨"[B", "clone", "()Ljava/lang/Object;"⟩).before a0 Z = true) (w2 : (Cond.sameMethod "[B" "java/lang/Object" "clone" "()Ljava/lang/Object;").before a0 Z = true) (w3 : (Cond.native ⟨"java/lang/Object", "clone", "()Ljava/lang/Object;"⟩).before a0 Z = true)
    (w4 : (Cond.instanceMethod ⟨"java/lang/Object", "clone", "()Ljava/lang/Object;"⟩).before a0 Z = true) (w5 : (Cond.selects "[B" ⟨"[B", "clone", "()Ljava/lang/Object;"⟩ ⟨"java/lang/Object", "clone", "()Ljava/lang/Object;"⟩).before a0 Z = true) (w6 : (Cond.castable "[B" "java/lang/Cloneable").before a0 Z = true)
    (eT : T.heap = h) (F : BL Z h a k bs) {g : JFrame} (hg : g.method = m) (hsize : g.locals.size = c.maxLocals) {rest : List Value} (hst : g.stack = .ref a :: rest) (hd : decode c.code g.pc = .ok (.invokevirtual index, 3))
    (hf : 1 ≤ R.frames) {W cap : Nat} (hW : 2 * g.monitorRoom + (rest.map fun v => v.category).sum ≤ W) (hl : W + 14 ≤ R.locals) (hcap : bs.length ≤ cap) (hc : cells + 1 ≤ R.cells) (hsl : slots + cap ≤ R.slots) :
    ∃ T' h', Stand p l e R s m args below meth c T' locs (cells + 1) (slots + cap) ∧ T'.heap = h' ∧ Ext h h' ∧ BL Z h' h.size k bs ∧
      ∀ target, Steps p.tables e below (T'.setTop { g with pc := g.pc + 3, stack := .ref h.size :: rest }) target → Steps p.tables e below (T.setTop g) target := by
  obtain ⟨T', h', X', e', E, A, Ex, st⟩ := cloneH X hx hZ hown w1 w2 w3 w4 w5 w6 eT (Arv.arh F.1) F.2.2 hg hsize hst hd hf hW hl (by rw [ofN_nat (by have := F.2.1; omega)]; exact hcap) hc hsl
  exact ⟨T', h', X', e', E, ⟨A, F.2.1, Ex⟩, st⟩
end BLs2
def cap2 (L mn : Nat) : Nat := if mn ≤ L then L else max mn (2 * L + 2)
theorem subpos {a b : Nat} (qa : a ≤ 1000000) (qb : b ≤ 1000000) : (0 : Int32) < Int32.ofNat a - Int32.ofNat b ↔ b < a := by
  rw [Int32.lt_iff_toInt_lt, Int32.toInt_sub, ofN_int qa, ofN_int qb, Int.bmod_eq_of_le (by omega) (by omega)]
  show (0 : Int) < _ ↔ _; omega
theorem ofN_bound {a c : Nat} (qa : a ≤ 1000000) (z : Int32) (hz : z.toInt = c) (hc : 1000000 < c) : ¬ z < Int32.ofNat a ∧ ¬ Int32.ofNat a = z := by
  refine ⟨fun q => ?_, fun q => ?_⟩
  · rw [Int32.lt_iff_toInt_lt, ofN_int qa, hz] at q; omega
  · have := congrArg Int32.toInt q; rw [ofN_int qa, hz] at this; omega
theorem ofN_pos {a : Nat} (qa : a ≤ 1000000) (h : 0 < a) : (0 : Int32) < Int32.ofNat a := by rw [Int32.lt_iff_toInt_lt, ofN_int qa]; show (0 : Int) < _; omega
theorem inB {L i : Nat} (hL : L ≤ 100000) (hi : i < L) : ¬ Int32.ofNat i < 0 ∧ Int32.ofNat i < Int32.ofNat L := ⟨ofN_nn (by omega), (ofN_lt (by omega) (by omega)).mpr hi⟩
theorem atB {bs : List Int32} {i : Nat} (hL : bs.length ≤ 100000) (hi : i < bs.length) : (bs.map Value.int).getD (Int32.ofNat i).toNatClampNeg (.int 0) = .int (bs.getD i 0) := by
  rw [ofN_nat (by omega)]; simp [hi]
theorem app_len {bs src : List Int32} {cn : Nat} (h : cn + src.length ≤ bs.length) : (bs.take cn ++ src ++ bs.drop (cn + src.length)).length = bs.length := by simp; omega
theorem app_take {bs ds src : List Int32} {cn : Nat} (hc : cn ≤ ds.length) (tk : bs.take ds.length = ds) (h : cn + src.length ≤ bs.length) : (bs.take cn ++ src ++ bs.drop (cn + src.length)).take (cn + src.length) = ds.take cn ++ src := by
  have e : ds.take cn = bs.take cn := by
    conv => lhs; rw [← tk]
    rw [List.take_take, Nat.min_eq_left hc]
  rw [e, List.take_append_of_le_length (by simp; omega), List.take_of_length_le (by simp; omega)]
theorem cap2_ge (L mn : Nat) : mn ≤ cap2 L mn ∧ L ≤ cap2 L mn := by unfold cap2; split <;> omega
theorem p10_ne {r : Nat} (h : r < 19) : Int64.ofNat (10 ^ r) ≠ 0 := by
  have : ∀ r : Fin 19, Int64.ofNat (10 ^ r.val) ≠ 0 := by decide
  exact this ⟨r, h⟩
theorem nar_mask (x : Int32) : nar .char (x &&& 255) = x &&& 255 := i2c_mask x
theorem nar_mask2 (x : Int32) : nar .char ((x &&& 255).toUInt32.toUInt16.toUInt32.toInt32) = x &&& 255 := by rw [i2c_mask]; exact i2c_mask x
theorem pd0 : parseMethodDescriptor "()B" = some ⟨[], some .byte⟩ := by decide +kernel
theorem pd1 : parseMethodDescriptor "(Ljava/lang/String;)V" = some ⟨[(.object "java/lang/String")], none⟩ := by decide +kernel
theorem pd2 : parseMethodDescriptor "([BIB)V" = some ⟨[(.array .byte), .int, .byte], none⟩ := by decide +kernel
theorem pd3 : parseMethodDescriptor "()I" = some ⟨[], some .int⟩ := by decide +kernel
theorem pd4 : parseMethodDescriptor "(I)V" = some ⟨[.int], none⟩ := by decide +kernel
theorem pd5 : parseMethodDescriptor "(ILjava/lang/String;)V" = some ⟨[.int, (.object "java/lang/String")], none⟩ := by decide +kernel
theorem pd6 : parseMethodDescriptor "(Ljava/lang/String;)Ljava/lang/AbstractStringBuilder;" = some ⟨[(.object "java/lang/String")], some (.object "java/lang/AbstractStringBuilder")⟩ := by decide +kernel
theorem pd7 : parseMethodDescriptor "(II)V" = some ⟨[.int, .int], none⟩ := by decide +kernel
theorem pd8 : parseMethodDescriptor "(II)I" = some ⟨[.int, .int], some .int⟩ := by decide +kernel
theorem pd9 : parseMethodDescriptor "([BII)[B" = some ⟨[(.array .byte), .int, .int], some (.array .byte)⟩ := by decide +kernel
theorem pd10 : parseMethodDescriptor "()[B" = some ⟨[], some (.array .byte)⟩ := by decide +kernel
theorem pd11 : parseMethodDescriptor "()Z" = some ⟨[], some .boolean⟩ := by decide +kernel
theorem pd12 : parseMethodDescriptor "(Ljava/lang/AbstractStringBuilder;Ljava/lang/Void;)V" = some ⟨[(.object "java/lang/AbstractStringBuilder"), (.object "java/lang/Void")], none⟩ := by decide +kernel
theorem pd13 : parseMethodDescriptor "(Ljava/lang/StringBuilder;)V" = some ⟨[(.object "java/lang/StringBuilder")], none⟩ := by decide +kernel
theorem pd14 : parseMethodDescriptor "()V" = some ⟨[], none⟩ := by decide +kernel
theorem pd15 : parseMethodDescriptor "(Ljava/lang/Object;)Ljava/lang/Object;" = some ⟨[(.object "java/lang/Object")], some (.object "java/lang/Object")⟩ := by decide +kernel
theorem pd16 : parseMethodDescriptor "(Ljava/lang/Object;Ljava/lang/Object;)V" = some ⟨[(.object "java/lang/Object"), (.object "java/lang/Object")], none⟩ := by decide +kernel
theorem pd17 : parseMethodDescriptor "()Ljava/lang/Throwable;" = some ⟨[], some (.object "java/lang/Throwable")⟩ := by decide +kernel
theorem pd18 : parseMethodDescriptor "(Ljava/lang/String;)Ljava/lang/StringBuilder;" = some ⟨[(.object "java/lang/String")], some (.object "java/lang/StringBuilder")⟩ := by decide +kernel
theorem pd19 : parseMethodDescriptor "()Ljava/lang/String;" = some ⟨[], some (.object "java/lang/String")⟩ := by decide +kernel
theorem pd20 : parseMethodDescriptor "(Ljava/lang/Object;Ljava/lang/Object;)Ljava/util/List;" = some ⟨[(.object "java/lang/Object"), (.object "java/lang/Object")], some (.object "java/util/List")⟩ := by decide +kernel
theorem pd21 : parseMethodDescriptor "([C)V" = some ⟨[(.array .char)], none⟩ := by decide +kernel
theorem pd22 : parseMethodDescriptor "(Ljava/lang/String;Ljava/lang/String;)V" = some ⟨[(.object "java/lang/String"), (.object "java/lang/String")], none⟩ := by decide +kernel
theorem pd23 : parseMethodDescriptor "()Ljava/util/List;" = some ⟨[], some (.object "java/util/List")⟩ := by decide +kernel
theorem pd24 : parseMethodDescriptor "(I)Ljava/lang/Object;" = some ⟨[.int], some (.object "java/lang/Object")⟩ := by decide +kernel
theorem pd25 : parseMethodDescriptor "(Ljava/lang/Object;)Z" = some ⟨[(.object "java/lang/Object")], some .boolean⟩ := by decide +kernel
theorem d18_0 : decode jdk_42_method_152_code 0 = .ok (.getstatic 38, 3) := by decide +kernel
theorem d18_3 : decode jdk_42_method_152_code 3 = .ok (.ifCond .eq 10, 3) := by decide +kernel
theorem d18_6 : decode jdk_42_method_152_code 6 = .ok (.aload_n 0, 1) := by decide +kernel
theorem d18_7 : decode jdk_42_method_152_code 7 = .ok (.getfield 15, 3) := by decide +kernel
theorem d18_10 : decode jdk_42_method_152_code 10 = .ok (.goto 4, 3) := by decide +kernel
theorem d18_14 : decode jdk_42_method_152_code 14 = .ok (.ireturn, 1) := by decide +kernel
theorem pn_18 : plainName "java/lang/String" = true := by first | (simp [plainName, overriddenIn]; done) | decide +kernel
theorem ef_18 (m : MethodId) (a1 : Addr) : entryFrame m #[(.ref a1)] 1 = mkF m 0 #[.val (.ref a1)] [] := by first | (simp [entryFrame, mkF, argsToLocals, Value.category]; done) | rfl
def Q18 (Z : State) (a1 : Addr) (cs : Int32) (h0 : Heap) (n0 : Nat) (v : Option Value) (h : Heap) (L : List Loc) : Prop := v = some (.int (0 : Int32)) ∧ Fr n0 L ∧ h = h0
set_option maxRecDepth 65536 in
set_option maxHeartbeats 40000000 in
theorem rm18 (l : Launch) (Z : State) (a0 : Array Value) (hw : ∀ d ∈ tables_1, d.before a0 Z = true) (ws : List Jvm.Cond) (a1 : Addr) (h0 : Heap) (n0 : Nat) (cs : Int32) (CS : Sta Z Z.heap "java/lang/String" "COMPACT_STRINGS" "Z" (.int cs)) (hcs : ¬ cs = 0) (O0 : Old Z n0 h0) (F_a1_c : Fld Z h0 a1 "java/lang/String" "coder" "B" (.int 0)) :
    MetFree l (⟨"java/lang/String", "coder", "()B"⟩ : MethodName) (head1 (Jvm.Cond.code (⟨"java/lang/String", "coder", "()B"⟩ : MethodName) jdk_42_method_152_code 1 (some .byte) :: ws) ({ frames := 0, cells := 0, slots := 0, locals := 0 } : Room)) (fun a U => a = #[(.ref a1)] ∧ Z.Warmed39 U.vm ∧ U.heap = h0) (fun _ _ _ _ _ => True) (fun _ U o U' => ∃ v L, o = .returned v ∧ Q18 Z a1 cs h0 n0 v U'.heap L ∧ FrameEnd U o U' L ({ frames := 0, cells := 0, slots := 0, locals := 0 } : Room).cells ({ frames := 0, cells := 0, slots := 0, locals := 0 } : Room).slots) := by
  refine MetFree.of_bodySF (plainFor_of_name pn_18) hisR ?_
  intro p e s m args below meth c s₁ Bd hml0 hP hK
  obtain ⟨rfl, hZ, hh⟩ := hP
  have hx := Bd.exec
  have hby := Bd.bytes
  have hml : c.maxLocals = 1 := hml0
  have hown0 := findClass_of_methodNamed Bd.named
  have hown : s.vm.findClass "java/lang/String" = some m.cls := hown0
  have hnm := (name_of_methodNamed Bd.named Bd.method).1
  have X0 : Stand p l e ({ frames := 0, cells := 0, slots := 0, locals := 0 } : Room) s m #[(.ref a1)] below meth c s₁ [] 0 0 := Stand.of_body Bd
  have e0 : s₁.heap = h0 := by rw [← hh, Bd.state]; rfl
  have N0 := Fr.nil n0
  have pre0 : ∀ t, Steps p.tables e below (s₁.setTop (mkF m 0 #[.val (.ref a1)] [])) t → Steps p.tables e below (s₁.setTop (entryFrame m #[(.ref a1)] 1)) t := fun t k => castTop (ef_18 m a1) k
  refine Classical.byContradiction fun hneg => ?_
  obtain ⟨T1, X1, e1, st1⟩ := getS2 X0 hx hZ hown (host := "") (Or.inl (hw _ (List.mem_of_getElem? (i := 14) rfl))) Via.refl e0 (CS.ext O0.2) (g := (mkF m 0 #[.val (.ref a1)] [])) rfl (hb hby d18_0)
  obtain ⟨T2, X2, e2, st2⟩ := getF X1 hx hZ hown (host := "") (Or.inl (hw _ (List.mem_of_getElem? (i := 26) rfl))) Via.refl e1 F_a1_c (g := (mkF m 7 #[.val (.ref a1)] [(.ref a1)])) rfl rfl (hb hby d18_7)
  refine hneg ?_
  obtain ⟨fs, hr, hrun, hended, hW, hsame⟩ := X2.leave (v := some (.int (0 : Int32))) (fun h => by rw [Bd.returns] at h; cases h)
  refine ⟨_, _, pre0 _ ?_, hrun, hended, _, _, rfl, ?_, ⟨_, rfl⟩, hW, hsame.mono (by decide) (by decide)⟩
  · show Steps p.tables e below (s₁.setTop (mkF m 0 #[.val (.ref a1)] [])) _
    refine st1 _ ?_
    show Steps p.tables e below (T1.setTop (mkF m 3 #[.val (.ref a1)] [(.int cs)])) _
    refine XS.ifNo X1.here hx rfl (hb hby d18_3) rfl ((if0 _ _).trans (feq hcs).1) ?_
    show Steps p.tables e below (T1.setTop (mkF m 6 #[.val (.ref a1)] [])) _
    refine XS.aloadN X1.here hx rfl (hb hby d18_6) rfl rfl ?_
    show Steps p.tables e below (T1.setTop (mkF m 7 #[.val (.ref a1)] [(.ref a1)])) _
    refine st2 _ ?_
    show Steps p.tables e below (T2.setTop (mkF m 10 #[.val (.ref a1)] [(.int (0 : Int32))])) _
    refine XS.goto X2.here hx rfl (pc0 := 10) (pc' := 14) rfl (hb hby d18_10) (by decide) (by decide) ?_
    show Steps p.tables e below (T2.setTop (mkF m 14 #[.val (.ref a1)] [(.int (0 : Int32))])) _
    exact retN X2 hx (t := .byte) Bd.returns (by simp) (hb hby d18_14) hr
  · show Q18 Z a1 cs h0 n0 _ T2.heap _
    rw [e2]
    exact ⟨rfl, N0, rfl⟩

theorem d17_0 : decode jdk_42_method_54_code 0 = .ok (.aload_n 0, 1) := by decide +kernel
theorem d17_1 : decode jdk_42_method_54_code 1 = .ok (.getfield 9, 3) := by decide +kernel
theorem d17_4 : decode jdk_42_method_54_code 4 = .ok (.arraylength, 1) := by decide +kernel
theorem d17_5 : decode jdk_42_method_54_code 5 = .ok (.aload_n 0, 1) := by decide +kernel
theorem d17_6 : decode jdk_42_method_54_code 6 = .ok (.invokevirtual 335, 3) := by decide +kernel
theorem d17_9 : decode jdk_42_method_54_code 9 = .ok (.ishr, 1) := by decide +kernel
theorem d17_10 : decode jdk_42_method_54_code 10 = .ok (.ireturn, 1) := by decide +kernel
theorem pn_17 : plainName "java/lang/String" = true := by first | (simp [plainName, overriddenIn]; done) | decide +kernel
theorem ef_17 (m : MethodId) (a1 : Addr) : entryFrame m #[(.ref a1)] 1 = mkF m 0 #[.val (.ref a1)] [] := by first | (simp [entryFrame, mkF, argsToLocals, Value.category]; done) | rfl
def Q17 (Z : State) (a1 : Addr) (cs : Int32) (sd : Addr) (sk : ClassId) (src : List Int32) (h0 : Heap) (n0 : Nat) (v : Option Value) (h : Heap) (L : List Loc) : Prop := v = some (.int (Int32.ofNat src.length)) ∧ Fr n0 L ∧ h = h0
set_option maxRecDepth 65536 in
set_option maxHeartbeats 40000000 in
theorem rm17 (l : Launch) (Z : State) (a0 : Array Value) (hw : ∀ d ∈ tables_1, d.before a0 Z = true) (ws : List Jvm.Cond) (a1 : Addr) (h0 : Heap) (n0 : Nat) (cs : Int32) (sd : Addr) (sk : ClassId) (src : List Int32) (CS : Sta Z Z.heap "java/lang/String" "COMPACT_STRINGS" "Z" (.int cs)) (hcs : ¬ cs = 0) (O0 : Old Z n0 h0) (E_a1 : Exa Z h0 a1 "java/lang/String") (F_a1_c : Fld Z h0 a1 "java/lang/String" "coder" "B" (.int 0)) (F_a1_v : Fld Z h0 a1 "java/lang/String" "value" "[B" (.ref sd)) (V_sd : B0 Z h0 sd sk src) :
    MetFree l (⟨"java/lang/String", "length", "()I"⟩ : MethodName) (head1 (Jvm.Cond.code (⟨"java/lang/String", "length", "()I"⟩ : MethodName) jdk_42_method_54_code 1 (some .int) :: ws) ({ frames := 1, cells := 0, slots := 0, locals := 13 } : Room)) (fun a U => a = #[(.ref a1)] ∧ Z.Warmed39 U.vm ∧ U.heap = h0) (fun _ _ _ _ _ => True) (fun _ U o U' => ∃ v L, o = .returned v ∧ Q17 Z a1 cs sd sk src h0 n0 v U'.heap L ∧ FrameEnd U o U' L ({ frames := 1, cells := 0, slots := 0, locals := 13 } : Room).cells ({ frames := 1, cells := 0, slots := 0, locals := 13 } : Room).slots) := by
  refine MetFree.of_bodySF (plainFor_of_name pn_17) hisR ?_
  intro p e s m args below meth c s₁ Bd hml0 hP hK
  obtain ⟨rfl, hZ, hh⟩ := hP
  have hx := Bd.exec
  have hby := Bd.bytes
  have hml : c.maxLocals = 1 := hml0
  have hown0 := findClass_of_methodNamed Bd.named
  have hown : s.vm.findClass "java/lang/String" = some m.cls := hown0
  have hnm := (name_of_methodNamed Bd.named Bd.method).1
  have X0 : Stand p l e ({ frames := 1, cells := 0, slots := 0, locals := 13 } : Room) s m #[(.ref a1)] below meth c s₁ [] 0 0 := Stand.of_body Bd
  have e0 : s₁.heap = h0 := by rw [← hh, Bd.state]; rfl
  have N0 := Fr.nil n0
  have pre0 : ∀ t, Steps p.tables e below (s₁.setTop (mkF m 0 #[.val (.ref a1)] [])) t → Steps p.tables e below (s₁.setTop (entryFrame m #[(.ref a1)] 1)) t := fun t k => castTop (ef_17 m a1) k
  refine Classical.byContradiction fun hneg => ?_
  obtain ⟨T1, X1, e1, st1⟩ := getF X0 hx hZ hown (host := "") (Or.inl (hw _ (List.mem_of_getElem? (i := 28) rfl))) Via.refl e0 F_a1_v (g := (mkF m 1 #[.val (.ref a1)] [(.ref a1)])) rfl rfl (hb hby d17_1)
  obtain ⟨cl2, Ar2, q2, S2_, N2_, H2_, G2_⟩ := V_sd.1
  obtain ⟨cq3, kq3, q3a, q3b, q3c⟩ := isOf hZ e1 E_a1
  obtain ⟨_, _, ⟨T3, L3, k3, n3⟩, -, X3, ⟨Lc3, hQ3, l3, y3, z3⟩, st3⟩ := X1.virtualBack hx (y := (⟨"java/lang/String", "coder", "()B"⟩ : MethodName)) (z := (⟨"java/lang/String", "coder", "()B"⟩ : MethodName)) hown (mvT hZ (hw _ (List.mem_of_getElem? (i := 128) rfl))) (mvT hZ (hw _ (List.mem_of_getElem? (i := 129) rfl))) (notFace_of_selects (args := #[]) (mvT hZ (hw _ (List.mem_of_getElem? (i := 131) rfl)))) (mvT hZ (hw _ (List.mem_of_getElem? (i := 131) rfl))) (mvT hZ (hw _ (List.mem_of_getElem? (i := 130) rfl))) (by decide) (backOf (W := 1) (rm18 l Z a0 hw [] a1  h0 n0 cs CS hcs O0 F_a1_c) hZ (hw _ (List.mem_of_getElem? (i := 132) rfl)) (hw _ (List.mem_of_getElem? (i := 2) rfl)) (by decide) (by decide)) q3a q3c (g := (mkF m 6 #[.val (.ref a1)] [(.ref a1), (.int (Int32.ofNat src.length))])) rfl (by rw [hml]; rfl) (Steps.refl _) (argsL := []) (rest := [(.int (Int32.ofNat src.length))]) (lenOf pd0 rfl) rfl (by show 2 * 0 + _ ≤ _; exact Nat.le_of_eq rfl) (hb hby d17_6) (fun _ _ => ⟨rfl, e1, (by decide : 0 + 0 ≤ _), (by decide : 0 + 0 ≤ _)⟩)
  dsimp only [Pt.U, Pt.locs, Pt.cells, Pt.slots] at X3 l3 y3 z3 st3 hQ3
  subst l3 y3 z3
  obtain ⟨rfl, N3q, e3⟩ := hQ3
  have N3 := Fr.app N0 N3q
  refine hneg ?_
  obtain ⟨fs, hr, hrun, hended, hW, hsame⟩ := X3.leave (v := some (.int ((Int32.ofNat src.length) >>> ((0 : Int32) &&& 31)))) (fun h => by rw [Bd.returns] at h; cases h)
  refine ⟨_, _, pre0 _ ?_, hrun, hended, _, _, rfl, ?_, ⟨_, rfl⟩, hW, hsame.mono (by decide) (by decide)⟩
  · show Steps p.tables e below (s₁.setTop (mkF m 0 #[.val (.ref a1)] [])) _
    refine XS.aloadN X0.here hx rfl (hb hby d17_0) rfl rfl ?_
    show Steps p.tables e below (s₁.setTop (mkF m 1 #[.val (.ref a1)] [(.ref a1)])) _
    refine st1 _ ?_
    show Steps p.tables e below (T1.setTop (mkF m 4 #[.val (.ref a1)] [(.ref sd)])) _
    refine X1.arraylength hx (by rw [e1]; exact Ar2.1) (State.isArrayOf_alike hZ.alike Ar2.2.1) (g := (mkF m 4 #[.val (.ref a1)] [(.ref sd)])) rfl rfl (hb hby d17_4) _ ?_
    rw [len_of S2_ N2_]
    show Steps p.tables e below (T1.setTop (mkF m 5 #[.val (.ref a1)] [(.int (Int32.ofNat src.length))])) _
    refine XS.aloadN X1.here hx rfl (hb hby d17_5) rfl rfl ?_
    show Steps p.tables e below (T1.setTop (mkF m 6 #[.val (.ref a1)] [(.ref a1), (.int (Int32.ofNat src.length))])) _
    refine st3.trans ?_
    show Steps p.tables e below (T3.setTop (mkF m 9 #[.val (.ref a1)] [(.int (0 : Int32)), (.int (Int32.ofNat src.length))])) _
    refine XS.ishr X3.here hx rfl (hb hby d17_9) rfl ?_
    show Steps p.tables e below (T3.setTop (mkF m 10 #[.val (.ref a1)] [(.int ((Int32.ofNat src.length) >>> ((0 : Int32) &&& 31)))])) _
    exact retI X3 hx Bd.returns (hb hby d17_10) hr
  · show Q17 Z a1 cs sd sk src h0 n0 _ T3.heap _
    rw [e3]
    exact ⟨by rw [show ((Int32.ofNat src.length) >>> ((0 : Int32) &&& 31)) = (Int32.ofNat src.length) from shr0 _], N3, rfl⟩

theorem d33_0 : decode jdk_29_method_69_code 0 = .ok (.iload_n 0, 1) := by decide +kernel
theorem d33_1 : decode jdk_29_method_69_code 1 = .ok (.iload_n 1, 1) := by decide +kernel
theorem d33_2 : decode jdk_29_method_69_code 2 = .ok (.if_icmp .gt 7, 3) := by decide +kernel
theorem d33_5 : decode jdk_29_method_69_code 5 = .ok (.iload_n 0, 1) := by decide +kernel
theorem d33_6 : decode jdk_29_method_69_code 6 = .ok (.goto 4, 3) := by decide +kernel
theorem d33_9 : decode jdk_29_method_69_code 9 = .ok (.iload_n 1, 1) := by decide +kernel
theorem d33_10 : decode jdk_29_method_69_code 10 = .ok (.ireturn, 1) := by decide +kernel
theorem ef_33 (m : MethodId) (p1 : Int32) (p2 : Int32) : entryFrame m #[(.int p1), (.int p2)] 2 = mkF m 0 #[.val (.int p1), .val (.int p2)] [] := by first | (simp [entryFrame, mkF, argsToLocals, Value.category]; done) | rfl
def f33 (p1 : Int32) (p2 : Int32) : Int32 := (if p2 < p1 then p2 else p1)
def Q33 (Z : State) (p1 : Int32) (p2 : Int32) (h0 : Heap) (n0 : Nat) (v : Option Value) (h : Heap) (L : List Loc) : Prop := v = some (.int (f33 p1 p2)) ∧ Fr n0 L ∧ h = h0
set_option maxRecDepth 65536 in
set_option maxHeartbeats 40000000 in
theorem rm33 (l : Launch) (Z : State) (a0 : Array Value) (hw : ∀ d ∈ tables_1, d.before a0 Z = true) (ws : List Jvm.Cond) (p1 : Int32) (p2 : Int32) (h0 : Heap) (n0 : Nat)  :
    MetFree l (⟨"java/lang/Math", "min", "(II)I"⟩ : MethodName) (head1 (Jvm.Cond.code (⟨"java/lang/Math", "min", "(II)I"⟩ : MethodName) jdk_29_method_69_code 2 (some .int) :: ws) ({ frames := 0, cells := 0, slots := 0, locals := 0 } : Room)) (fun a U => a = #[(.int p1), (.int p2)] ∧ Z.Warmed39 U.vm ∧ U.heap = h0) (fun _ _ _ _ _ => True) (fun _ U o U' => ∃ v L, o = .returned v ∧ Q33 Z p1 p2 h0 n0 v U'.heap L ∧ FrameEnd U o U' L ({ frames := 0, cells := 0, slots := 0, locals := 0 } : Room).cells ({ frames := 0, cells := 0, slots := 0, locals := 0 } : Room).slots) := by
  refine MetFree.of_bodySF (Jvm.Free.JP.mathPlain rfl (by decide +kernel)) hisR ?_
  intro p e s m args below meth c s₁ Bd hml0 hP hK
  obtain ⟨rfl, hZ, hh⟩ := hP
  have hx := Bd.exec
  have hby := Bd.bytes
  have hml : c.maxLocals = 2 := hml0
  have hown0 := findClass_of_methodNamed Bd.named
  have hown : s.vm.findClass "java/lang/Math" = some m.cls := hown0
  have hnm := (name_of_methodNamed Bd.named Bd.method).1
  have X0 : Stand p l e ({ frames := 0, cells := 0, slots := 0, locals := 0 } : Room) s m #[(.int p1), (.int p2)] below meth c s₁ [] 0 0 := Stand.of_body Bd
  have e0 : s₁.heap = h0 := by rw [← hh, Bd.state]; rfl
  have N0 := Fr.nil n0
  have pre0 : ∀ t, Steps p.tables e below (s₁.setTop (mkF m 0 #[.val (.int p1), .val (.int p2)] [])) t → Steps p.tables e below (s₁.setTop (entryFrame m #[(.int p1), (.int p2)] 2)) t := fun t k => castTop (ef_33 m p1 p2) k
  refine Classical.byContradiction fun hneg => ?_
  have pre1 : ∀ t, Steps p.tables e below (s₁.setTop (mkF m 2 #[.val (.int p1), .val (.int p2)] [(.int p2), (.int p1)])) t → Steps p.tables e below (s₁.setTop (entryFrame m #[(.int p1), (.int p2)] 2)) t := by
    intro t k
    refine pre0 t ?_
    show Steps p.tables e below (s₁.setTop (mkF m 0 #[.val (.int p1), .val (.int p2)] [])) _
    refine XS.iloadN X0.here hx rfl (hb hby d33_0) rfl ?_
    show Steps p.tables e below (s₁.setTop (mkF m 1 #[.val (.int p1), .val (.int p2)] [(.int p1)])) _
    refine XS.iloadN X0.here hx rfl (hb hby d33_1) rfl ?_
    exact k
  by_cases hc2_2 : p2 < p1
  · refine hneg ?_
    obtain ⟨fs, hr, hrun, hended, hW, hsame⟩ := X0.leave (v := some (.int p2)) (fun h => by rw [Bd.returns] at h; cases h)
    refine ⟨_, _, pre1 _ ?_, hrun, hended, _, _, rfl, ?_, ⟨_, rfl⟩, hW, hsame.mono (by decide) (by decide)⟩
    · show Steps p.tables e below (s₁.setTop (mkF m 2 #[.val (.int p1), .val (.int p2)] [(.int p2), (.int p1)])) _
      refine XS.icmpYes X0.here hx rfl (pc0 := 2) (pc' := 9) rfl (hb hby d33_2) rfl (tlt hc2_2).2.2.1 (by decide) (by decide) ?_
      show Steps p.tables e below (s₁.setTop (mkF m 9 #[.val (.int p1), .val (.int p2)] [])) _
      refine XS.iloadN X0.here hx rfl (hb hby d33_9) rfl ?_
      show Steps p.tables e below (s₁.setTop (mkF m 10 #[.val (.int p1), .val (.int p2)] [(.int p2)])) _
      exact retI X0 hx Bd.returns (hb hby d33_10) hr
    · show Q33 Z p1 p2 h0 n0 _ s₁.heap _
      rw [e0]
      refine ⟨?_, N0, rfl⟩
      rw [show f33 p1 p2 = p2 from (by skip; simp only [f33, if_pos hc2_2])]
  · refine hneg ?_
    obtain ⟨fs, hr, hrun, hended, hW, hsame⟩ := X0.leave (v := some (.int p1)) (fun h => by rw [Bd.returns] at h; cases h)
    refine ⟨_, _, pre1 _ ?_, hrun, hended, _, _, rfl, ?_, ⟨_, rfl⟩, hW, hsame.mono (by decide) (by decide)⟩
    · show Steps p.tables e below (s₁.setTop (mkF m 2 #[.val (.int p1), .val (.int p2)] [(.int p2), (.int p1)])) _
      refine XS.icmpNo X0.here hx rfl (hb hby d33_2) rfl (flt hc2_2).2.2.1 ?_
      show Steps p.tables e below (s₁.setTop (mkF m 5 #[.val (.int p1), .val (.int p2)] [])) _
      refine XS.iloadN X0.here hx rfl (hb hby d33_5) rfl ?_
      show Steps p.tables e below (s₁.setTop (mkF m 6 #[.val (.int p1), .val (.int p2)] [(.int p1)])) _
      refine XS.goto X0.here hx rfl (pc0 := 6) (pc' := 10) rfl (hb hby d33_6) (by decide) (by decide) ?_
      show Steps p.tables e below (s₁.setTop (mkF m 10 #[.val (.int p1), .val (.int p2)] [(.int p1)])) _
      exact retI X0 hx Bd.returns (hb hby d33_10) hr
    · show Q33 Z p1 p2 h0 n0 _ s₁.heap _
      rw [e0]
      refine ⟨?_, N0, rfl⟩
      rw [show f33 p1 p2 = p1 from (by skip; simp only [f33, if_neg hc2_2])]

theorem f33_of {a b : Nat} (qa : a ≤ 1000000) (qb : b ≤ 1000000) : f33 (Int32.ofNat a) (Int32.ofNat b) = Int32.ofNat (min a b) := by
  unfold f33; split
  · rename_i h; rw [ofN_lt qb qa] at h; congr 1; omega
  · rename_i h; rw [ofN_lt qb qa] at h; congr 1; omega

theorem d21_0 : decode jdk_68_method_71_code 0 = .ok (.getstatic 18, 3) := by decide +kernel
theorem d21_3 : decode jdk_68_method_71_code 3 = .ok (.ifCond .eq 18, 3) := by decide +kernel
theorem d21_6 : decode jdk_68_method_71_code 6 = .ok (.aload_n 0, 1) := by decide +kernel
theorem d21_7 : decode jdk_68_method_71_code 7 = .ok (.getfield 22, 3) := by decide +kernel
theorem d21_10 : decode jdk_68_method_71_code 10 = .ok (.aload_n 1, 1) := by decide +kernel
theorem d21_11 : decode jdk_68_method_71_code 11 = .ok (.invokevirtual 40, 3) := by decide +kernel
theorem d21_14 : decode jdk_68_method_71_code 14 = .ok (.if_icmp .eq 7, 3) := by decide +kernel
theorem d21_21 : decode jdk_68_method_71_code 21 = .ok (.return_, 1) := by decide +kernel
theorem pn_21 : plainName "java/lang/AbstractStringBuilder" = true := by first | (simp [plainName, overriddenIn]; done) | decide +kernel
theorem ef_21 (m : MethodId) (a1 : Addr) (a2 : Addr) : entryFrame m #[(.ref a1), (.ref a2)] 2 = mkF m 0 #[.val (.ref a1), .val (.ref a2)] [] := by first | (simp [entryFrame, mkF, argsToLocals, Value.category]; done) | rfl
def Q21 (Z : State) (a1 : Addr) (a2 : Addr) (cs : Int32) (h0 : Heap) (n0 : Nat) (v : Option Value) (h : Heap) (L : List Loc) : Prop := v = none ∧ Fr n0 L ∧ h = h0
set_option maxRecDepth 65536 in
set_option maxHeartbeats 40000000 in
theorem rm21 (l : Launch) (Z : State) (a0 : Array Value) (hw : ∀ d ∈ tables_1, d.before a0 Z = true) (ws : List Jvm.Cond) (a1 : Addr) (a2 : Addr) (h0 : Heap) (n0 : Nat) (cs : Int32) (CS : Sta Z Z.heap "java/lang/String" "COMPACT_STRINGS" "Z" (.int cs)) (hcs : ¬ cs = 0) (O0 : Old Z n0 h0) (F_a1_c : Fld Z h0 a1 "java/lang/AbstractStringBuilder" "coder" "B" (.int 0)) (E_a2 : Exa Z h0 a2 "java/lang/String") (F_a2_c : Fld Z h0 a2 "java/lang/String" "coder" "B" (.int 0)) :
    MetFree l (⟨"java/lang/AbstractStringBuilder", "inflateIfNeededFor", "(Ljava/lang/String;)V"⟩ : MethodName) (head1 (Jvm.Cond.code (⟨"java/lang/AbstractStringBuilder", "inflateIfNeededFor", "(Ljava/lang/String;)V"⟩ : MethodName) jdk_68_method_71_code 2 none :: ws) ({ frames := 1, cells := 0, slots := 0, locals := 13 } : Room)) (fun a U => a = #[(.ref a1), (.ref a2)] ∧ Z.Warmed39 U.vm ∧ U.heap = h0) (fun _ _ _ _ _ => True) (fun _ U o U' => ∃ v L, o = .returned v ∧ Q21 Z a1 a2 cs h0 n0 v U'.heap L ∧ FrameEnd U o U' L ({ frames := 1, cells := 0, slots := 0, locals := 13 } : Room).cells ({ frames := 1, cells := 0, slots := 0, locals := 13 } : Room).slots) := by
  refine MetFree.of_bodySF (plainFor_of_name pn_21) hisR ?_
  intro p e s m args below meth c s₁ Bd hml0 hP hK
  obtain ⟨rfl, hZ, hh⟩ := hP
  have hx := Bd.exec
  have hby := Bd.bytes
  have hml : c.maxLocals = 2 := hml0
  have hown0 := findClass_of_methodNamed Bd.named
  have hown : s.vm.findClass "java/lang/AbstractStringBuilder" = some m.cls := hown0
  have hnm := (name_of_methodNamed Bd.named Bd.method).1
  have X0 : Stand p l e ({ frames := 1, cells := 0, slots := 0, locals := 13 } : Room) s m #[(.ref a1), (.ref a2)] below meth c s₁ [] 0 0 := Stand.of_body Bd
  have e0 : s₁.heap = h0 := by rw [← hh, Bd.state]; rfl
  have N0 := Fr.nil n0
  have pre0 : ∀ t, Steps p.tables e below (s₁.setTop (mkF m 0 #[.val (.ref a1), .val (.ref a2)] [])) t → Steps p.tables e below (s₁.setTop (entryFrame m #[(.ref a1), (.ref a2)] 2)) t := fun t k => castTop (ef_21 m a1 a2) k
  refine Classical.byContradiction fun hneg => ?_
  obtain ⟨T1, X1, e1, st1⟩ := getS2 X0 hx hZ hown (host := "") (Or.inl (hw _ (List.mem_of_getElem? (i := 107) rfl))) Via.refl e0 (CS.ext O0.2) (g := (mkF m 0 #[.val (.ref a1), .val (.ref a2)] [])) rfl (hb hby d21_0)
  obtain ⟨T2, X2, e2, st2⟩ := getF X1 hx hZ hown (host := "") (Or.inl (hw _ (List.mem_of_getElem? (i := 110) rfl))) Via.refl e1 F_a1_c (g := (mkF m 7 #[.val (.ref a1), .val (.ref a2)] [(.ref a1)])) rfl rfl (hb hby d21_7)
  obtain ⟨cq3, kq3, q3a, q3b, q3c⟩ := isOf hZ e2 E_a2
  obtain ⟨_, _, ⟨T3, L3, k3, n3⟩, -, X3, ⟨Lc3, hQ3, l3, y3, z3⟩, st3⟩ := X2.virtualBack hx (y := (⟨"java/lang/String", "coder", "()B"⟩ : MethodName)) (z := (⟨"java/lang/String", "coder", "()B"⟩ : MethodName)) hown (mvT hZ (hw _ (List.mem_of_getElem? (i := 150) rfl))) (mvT hZ (hw _ (List.mem_of_getElem? (i := 129) rfl))) (notFace_of_selects (args := #[]) (mvT hZ (hw _ (List.mem_of_getElem? (i := 131) rfl)))) (mvT hZ (hw _ (List.mem_of_getElem? (i := 131) rfl))) (mvT hZ (hw _ (List.mem_of_getElem? (i := 130) rfl))) (by decide) (backOf (W := 1) (rm18 l Z a0 hw [] a2  h0 n0 cs CS hcs O0 F_a2_c) hZ (hw _ (List.mem_of_getElem? (i := 132) rfl)) (hw _ (List.mem_of_getElem? (i := 2) rfl)) (by decide) (by decide)) q3a q3c (g := (mkF m 11 #[.val (.ref a1), .val (.ref a2)] [(.ref a2), (.int (0 : Int32))])) rfl (by rw [hml]; rfl) (Steps.refl _) (argsL := []) (rest := [(.int (0 : Int32))]) (lenOf pd0 rfl) rfl (by show 2 * 0 + _ ≤ _; exact Nat.le_of_eq rfl) (hb hby d21_11) (fun _ _ => ⟨rfl, e2, (by decide : 0 + 0 ≤ _), (by decide : 0 + 0 ≤ _)⟩)
  dsimp only [Pt.U, Pt.locs, Pt.cells, Pt.slots] at X3 l3 y3 z3 st3 hQ3
  subst l3 y3 z3
  obtain ⟨rfl, N3q, e3⟩ := hQ3
  have N3 := Fr.app N0 N3q
  refine hneg ?_
  obtain ⟨fs, hr, hrun, hended, hW, hsame⟩ := X3.leave (v := none) (fun _ => rfl)
  refine ⟨_, _, pre0 _ ?_, hrun, hended, _, _, rfl, ?_, ⟨_, rfl⟩, hW, hsame.mono (by decide) (by decide)⟩
  · show Steps p.tables e below (s₁.setTop (mkF m 0 #[.val (.ref a1), .val (.ref a2)] [])) _
    refine st1 _ ?_
    show Steps p.tables e below (T1.setTop (mkF m 3 #[.val (.ref a1), .val (.ref a2)] [(.int cs)])) _
    refine XS.ifNo X1.here hx rfl (hb hby d21_3) rfl ((if0 _ _).trans (feq hcs).1) ?_
    show Steps p.tables e below (T1.setTop (mkF m 6 #[.val (.ref a1), .val (.ref a2)] [])) _
    refine XS.aloadN X1.here hx rfl (hb hby d21_6) rfl rfl ?_
    show Steps p.tables e below (T1.setTop (mkF m 7 #[.val (.ref a1), .val (.ref a2)] [(.ref a1)])) _
    refine st2 _ ?_
    show Steps p.tables e below (T2.setTop (mkF m 10 #[.val (.ref a1), .val (.ref a2)] [(.int (0 : Int32))])) _
    refine XS.aloadN X2.here hx rfl (hb hby d21_10) rfl rfl ?_
    show Steps p.tables e below (T2.setTop (mkF m 11 #[.val (.ref a1), .val (.ref a2)] [(.ref a2), (.int (0 : Int32))])) _
    refine st3.trans ?_
    show Steps p.tables e below (T3.setTop (mkF m 14 #[.val (.ref a1), .val (.ref a2)] [(.int (0 : Int32)), (.int (0 : Int32))])) _
    refine XS.icmpYes X3.here hx rfl (pc0 := 14) (pc' := 21) rfl (hb hby d21_14) rfl (teq (by decide : (0 : Int32) = (0 : Int32))).1 (by decide) (by decide) ?_
    show Steps p.tables e below (T3.setTop (mkF m 21 #[.val (.ref a1), .val (.ref a2)] [])) _
    exact X3.returnOut hx Bd.returns (hb hby d21_21) hr
  · show Q21 Z a1 a2 cs h0 n0 _ T3.heap _
    rw [e3]
    exact ⟨rfl, N3, rfl⟩

theorem d22_0 : decode jdk_42_method_147_code 0 = .ok (.aload_n 0, 1) := by decide +kernel
theorem d22_1 : decode jdk_42_method_147_code 1 = .ok (.invokevirtual 335, 3) := by decide +kernel
theorem d22_4 : decode jdk_42_method_147_code 4 = .ok (.iload_n 3, 1) := by decide +kernel
theorem d22_5 : decode jdk_42_method_147_code 5 = .ok (.if_icmp .ne 23, 3) := by decide +kernel
theorem d22_8 : decode jdk_42_method_147_code 8 = .ok (.aload_n 0, 1) := by decide +kernel
theorem d22_9 : decode jdk_42_method_147_code 9 = .ok (.getfield 9, 3) := by decide +kernel
theorem d22_12 : decode jdk_42_method_147_code 12 = .ok (.iconst 0, 1) := by decide +kernel
theorem d22_13 : decode jdk_42_method_147_code 13 = .ok (.aload_n 1, 1) := by decide +kernel
theorem d22_14 : decode jdk_42_method_147_code 14 = .ok (.iload_n 2, 1) := by decide +kernel
theorem d22_15 : decode jdk_42_method_147_code 15 = .ok (.iload_n 3, 1) := by decide +kernel
theorem d22_16 : decode jdk_42_method_147_code 16 = .ok (.ishl, 1) := by decide +kernel
theorem d22_17 : decode jdk_42_method_147_code 17 = .ok (.aload_n 0, 1) := by decide +kernel
theorem d22_18 : decode jdk_42_method_147_code 18 = .ok (.getfield 9, 3) := by decide +kernel
theorem d22_21 : decode jdk_42_method_147_code 21 = .ok (.arraylength, 1) := by decide +kernel
theorem d22_22 : decode jdk_42_method_147_code 22 = .ok (.invokestatic 212, 3) := by decide +kernel
theorem d22_25 : decode jdk_42_method_147_code 25 = .ok (.goto 18, 3) := by decide +kernel
theorem d22_43 : decode jdk_42_method_147_code 43 = .ok (.return_, 1) := by decide +kernel
theorem pn_22 : plainName "java/lang/String" = true := by first | (simp [plainName, overriddenIn]; done) | decide +kernel
theorem ef_22 (m : MethodId) (a1 : Addr) (a2 : Addr) (zf2 : Int32) (zf3 : Int32) : entryFrame m #[(.ref a1), (.ref a2), (.int zf2), (.int zf3)] 4 = mkF m 0 #[.val (.ref a1), .val (.ref a2), .val (.int zf2), .val (.int zf3)] [] := by first | (simp [entryFrame, mkF, argsToLocals, Value.category]; done) | rfl
def Q22 (Z : State) (a1 : Addr) (a2 : Addr) (cs : Int32) (sd : Addr) (sk : ClassId) (src : List Int32) (dk : ClassId) (ds : List Int32) (n : Nat) (h0 : Heap) (n0 : Nat) (v : Option Value) (h : Heap) (L : List Loc) : Prop := v = none ∧ Fr n0 L ∧ Keep h0 h [a2] ∧ BL Z h a2 dk (ds.take n ++ src ++ ds.drop (n + src.length))
set_option maxRecDepth 65536 in
set_option maxHeartbeats 40000000 in
theorem rm22 (l : Launch) (Z : State) (a0 : Array Value) (hw : ∀ d ∈ tables_1, d.before a0 Z = true) (ws : List Jvm.Cond) (a1 : Addr) (a2 : Addr) (h0 : Heap) (n0 : Nat) (cs : Int32) (sd : Addr) (sk : ClassId) (src : List Int32) (dk : ClassId) (ds : List Int32) (n : Nat) (CS : Sta Z Z.heap "java/lang/String" "COMPACT_STRINGS" "Z" (.int cs)) (hcs : ¬ cs = 0) (O0 : Old Z n0 h0) (E_a1 : Exa Z h0 a1 "java/lang/String") (F_a1_c : Fld Z h0 a1 "java/lang/String" "coder" "B" (.int 0)) (F_a1_v : Fld Z h0 a1 "java/lang/String" "value" "[B" (.ref sd)) (V_sd : B0 Z h0 sd sk src) (V_a2 : BL Z h0 a2 dk ds) (g_a2 : n0 ≤ a2) (ne_1 : a1 ≠ a2) (ne_2 : sd ≠ a2) (hn : n + src.length ≤ ds.length) (Z0 : n0 ≤ h0.size) :
    MetFree l (⟨"java/lang/String", "getBytes", "([BIB)V"⟩ : MethodName) (head1 (Jvm.Cond.code (⟨"java/lang/String", "getBytes", "([BIB)V"⟩ : MethodName) jdk_42_method_147_code 4 none :: ws) ({ frames := 1, cells := 0, slots := 0, locals := 50 } : Room)) (fun a U => a = #[(.ref a1), (.ref a2), (.int (Int32.ofNat n)), (.int (0 : Int32))] ∧ Z.Warmed39 U.vm ∧ U.heap = h0) (fun _ _ _ _ _ => True) (fun _ U o U' => ∃ v L, o = .returned v ∧ Q22 Z a1 a2 cs sd sk src dk ds n h0 n0 v U'.heap L ∧ FrameEnd U o U' L ({ frames := 1, cells := 0, slots := 0, locals := 50 } : Room).cells ({ frames := 1, cells := 0, slots := 0, locals := 50 } : Room).slots) := by
  refine MetFree.of_bodySF (plainFor_of_name pn_22) hisR ?_
  intro p e s m args below meth c s₁ Bd hml0 hP hK
  obtain ⟨rfl, hZ, hh⟩ := hP
  have hx := Bd.exec
  have hby := Bd.bytes
  have hml : c.maxLocals = 4 := hml0
  have hown0 := findClass_of_methodNamed Bd.named
  have hown : s.vm.findClass "java/lang/String" = some m.cls := hown0
  have hnm := (name_of_methodNamed Bd.named Bd.method).1
  have X0 : Stand p l e ({ frames := 1, cells := 0, slots := 0, locals := 50 } : Room) s m #[(.ref a1), (.ref a2), (.int (Int32.ofNat n)), (.int (0 : Int32))] below meth c s₁ [] 0 0 := Stand.of_body Bd
  have e0 : s₁.heap = h0 := by rw [← hh, Bd.state]; rfl
  have N0 := Fr.nil n0
  have pre0 : ∀ t, Steps p.tables e below (s₁.setTop (mkF m 0 #[.val (.ref a1), .val (.ref a2), .val (.int (Int32.ofNat n)), .val (.int (0 : Int32))] [])) t → Steps p.tables e below (s₁.setTop (entryFrame m #[(.ref a1), (.ref a2), (.int (Int32.ofNat n)), (.int (0 : Int32))] 4)) t := fun t k => castTop (ef_22 m a1 a2 ((Int32.ofNat n)) ((0 : Int32))) k
  refine Classical.byContradiction fun hneg => ?_
  obtain ⟨cq1, kq1, q1a, q1b, q1c⟩ := isOf hZ e0 E_a1
  obtain ⟨_, _, ⟨T1, L1, k1, n1⟩, -, X1, ⟨Lc1, hQ1, l1, y1, z1⟩, st1⟩ := X0.virtualBack hx (y := (⟨"java/lang/String", "coder", "()B"⟩ : MethodName)) (z := (⟨"java/lang/String", "coder", "()B"⟩ : MethodName)) hown (mvT hZ (hw _ (List.mem_of_getElem? (i := 128) rfl))) (mvT hZ (hw _ (List.mem_of_getElem? (i := 129) rfl))) (notFace_of_selects (args := #[]) (mvT hZ (hw _ (List.mem_of_getElem? (i := 131) rfl)))) (mvT hZ (hw _ (List.mem_of_getElem? (i := 131) rfl))) (mvT hZ (hw _ (List.mem_of_getElem? (i := 130) rfl))) (by decide) (backOf (W := 0) (rm18 l Z a0 hw [] a1  h0 n0 cs CS hcs O0 F_a1_c) hZ (hw _ (List.mem_of_getElem? (i := 132) rfl)) (hw _ (List.mem_of_getElem? (i := 2) rfl)) (by decide) (by decide)) q1a q1c (g := (mkF m 1 #[.val (.ref a1), .val (.ref a2), .val (.int (Int32.ofNat n)), .val (.int (0 : Int32))] [(.ref a1)])) rfl (by rw [hml]; rfl) (Steps.refl _) (argsL := []) (rest := []) (lenOf pd0 rfl) rfl (by show 2 * 0 + _ ≤ _; exact Nat.le_of_eq rfl) (hb hby d22_1) (fun _ _ => ⟨rfl, e0, (by decide : 0 + 0 ≤ _), (by decide : 0 + 0 ≤ _)⟩)
  dsimp only [Pt.U, Pt.locs, Pt.cells, Pt.slots] at X1 l1 y1 z1 st1 hQ1
  subst l1 y1 z1
  obtain ⟨rfl, N1q, e1⟩ := hQ1
  have N1 := Fr.app N0 N1q
  obtain ⟨T2, X2, e2, st2⟩ := getF X1 hx hZ hown (host := "") (Or.inl (hw _ (List.mem_of_getElem? (i := 28) rfl))) Via.refl e1 F_a1_v (g := (mkF m 9 #[.val (.ref a1), .val (.ref a2), .val (.int (Int32.ofNat n)), .val (.int (0 : Int32))] [(.ref a1)])) rfl rfl (hb hby d22_9)
  have nq3 : ((Int32.ofNat n) <<< ((0 : Int32) &&& 31)) = (Int32.ofNat n) := shl0 _
  obtain ⟨T4, X4, e4, st4⟩ := getF X2 hx hZ hown (host := "") (Or.inl (hw _ (List.mem_of_getElem? (i := 28) rfl))) Via.refl e2 F_a1_v (g := (mkF m 18 #[.val (.ref a1), .val (.ref a2), .val (.int (Int32.ofNat n)), .val (.int (0 : Int32))] [(.ref a1), (.int (Int32.ofNat n)), (.ref a2), (.int (0 : Int32)), (.ref sd)])) rfl rfl (hb hby d22_18)
  obtain ⟨cl5, Ar5, q5, S5_, N5_, H5_, G5_⟩ := V_sd.1
  obtain ⟨T6, h6, L6, X6, e6, N6, Kc6, V6, st6⟩ := cpB X4 hx hZ hown (hw _ (List.mem_of_getElem? (i := 156) rfl)) (hw _ (List.mem_of_getElem? (i := 159) rfl)) (hw _ (List.mem_of_getElem? (i := 157) rfl)) (hw _ (List.mem_of_getElem? (i := 158) rfl)) e4 V_sd V_a2 (sp := 0) (dp := n) (nn := src.length) (by omega) hn N1 g_a2 (g := (mkF m 22 #[.val (.ref a1), .val (.ref a2), .val (.int (Int32.ofNat n)), .val (.int (0 : Int32))] [(.int (Int32.ofNat src.length)), (.int (Int32.ofNat n)), (.ref a2), (.int (0 : Int32)), (.ref sd)])) rfl (by rw [hml]; rfl) (rest := []) rfl (hb hby d22_22) (by decide) (W := 0) (by show 2 * 0 + _ ≤ _; exact Nat.le_of_eq rfl) (by decide)
  have E_a1_6 := E_a1.keep Kc6
  have F_a1_coder_6 := F_a1_c.keep Kc6 (ninS ne_1 nin0)
  have F_a1_value_6 := F_a1_v.keep Kc6 (ninS ne_1 nin0)
  have V_sd_6 := V_sd.keep Kc6 (ninS ne_2 nin0)
  have K6 : Keep h0 h6 [a2] := (Keep.refl h0 [a2]).trans Kc6 (allS (P := fun x => x ∈ [a2] ∨ h0.size ≤ x) (Or.inl (by simp)) all0)
  have Z6 : n0 ≤ h6.size := Nat.le_trans Z0 Kc6.1
  have O6 := Old.keep O0 Kc6 (allS g_a2 all0)
  refine hneg ?_
  obtain ⟨fs, hr, hrun, hended, hW, hsame⟩ := X6.leave (v := none) (fun _ => rfl)
  refine ⟨_, _, pre0 _ ?_, hrun, hended, _, _, rfl, ?_, ⟨_, rfl⟩, hW, hsame.mono (by decide) (by decide)⟩
  · show Steps p.tables e below (s₁.setTop (mkF m 0 #[.val (.ref a1), .val (.ref a2), .val (.int (Int32.ofNat n)), .val (.int (0 : Int32))] [])) _
    refine XS.aloadN X0.here hx rfl (hb hby d22_0) rfl rfl ?_
    show Steps p.tables e below (s₁.setTop (mkF m 1 #[.val (.ref a1), .val (.ref a2), .val (.int (Int32.ofNat n)), .val (.int (0 : Int32))] [(.ref a1)])) _
    refine st1.trans ?_
    show Steps p.tables e below (T1.setTop (mkF m 4 #[.val (.ref a1), .val (.ref a2), .val (.int (Int32.ofNat n)), .val (.int (0 : Int32))] [(.int (0 : Int32))])) _
    refine XS.iloadN X1.here hx rfl (hb hby d22_4) rfl ?_
    show Steps p.tables e below (T1.setTop (mkF m 5 #[.val (.ref a1), .val (.ref a2), .val (.int (Int32.ofNat n)), .val (.int (0 : Int32))] [(.int (0 : Int32)), (.int (0 : Int32))])) _
    refine XS.icmpNo X1.here hx rfl (hb hby d22_5) rfl (teq (by decide : (0 : Int32) = (0 : Int32))).2 ?_
    show Steps p.tables e below (T1.setTop (mkF m 8 #[.val (.ref a1), .val (.ref a2), .val (.int (Int32.ofNat n)), .val (.int (0 : Int32))] [])) _
    refine XS.aloadN X1.here hx rfl (hb hby d22_8) rfl rfl ?_
    show Steps p.tables e below (T1.setTop (mkF m 9 #[.val (.ref a1), .val (.ref a2), .val (.int (Int32.ofNat n)), .val (.int (0 : Int32))] [(.ref a1)])) _
    refine st2 _ ?_
    show Steps p.tables e below (T2.setTop (mkF m 12 #[.val (.ref a1), .val (.ref a2), .val (.int (Int32.ofNat n)), .val (.int (0 : Int32))] [(.ref sd)])) _
    refine XS.iconst X2.here hx rfl (hb hby d22_12) ?_
    show Steps p.tables e below (T2.setTop (mkF m 13 #[.val (.ref a1), .val (.ref a2), .val (.int (Int32.ofNat n)), .val (.int (0 : Int32))] [(.int (0 : Int32)), (.ref sd)])) _
    refine XS.aloadN X2.here hx rfl (hb hby d22_13) rfl rfl ?_
    show Steps p.tables e below (T2.setTop (mkF m 14 #[.val (.ref a1), .val (.ref a2), .val (.int (Int32.ofNat n)), .val (.int (0 : Int32))] [(.ref a2), (.int (0 : Int32)), (.ref sd)])) _
    refine XS.iloadN X2.here hx rfl (hb hby d22_14) rfl ?_
    show Steps p.tables e below (T2.setTop (mkF m 15 #[.val (.ref a1), .val (.ref a2), .val (.int (Int32.ofNat n)), .val (.int (0 : Int32))] [(.int (Int32.ofNat n)), (.ref a2), (.int (0 : Int32)), (.ref sd)])) _
    refine XS.iloadN X2.here hx rfl (hb hby d22_15) rfl ?_
    show Steps p.tables e below (T2.setTop (mkF m 16 #[.val (.ref a1), .val (.ref a2), .val (.int (Int32.ofNat n)), .val (.int (0 : Int32))] [(.int (0 : Int32)), (.int (Int32.ofNat n)), (.ref a2), (.int (0 : Int32)), (.ref sd)])) _
    refine XS.ishl X2.here hx rfl (hb hby d22_16) rfl ?_
    show Steps p.tables e below (T2.setTop (mkF m 17 #[.val (.ref a1), .val (.ref a2), .val (.int (Int32.ofNat n)), .val (.int (0 : Int32))] [(.int ((Int32.ofNat n) <<< ((0 : Int32) &&& 31))), (.ref a2), (.int (0 : Int32)), (.ref sd)])) _
    rw [nq3]
    show Steps p.tables e below (T2.setTop (mkF m 17 #[.val (.ref a1), .val (.ref a2), .val (.int (Int32.ofNat n)), .val (.int (0 : Int32))] [(.int (Int32.ofNat n)), (.ref a2), (.int (0 : Int32)), (.ref sd)])) _
    refine XS.aloadN X2.here hx rfl (hb hby d22_17) rfl rfl ?_
    show Steps p.tables e below (T2.setTop (mkF m 18 #[.val (.ref a1), .val (.ref a2), .val (.int (Int32.ofNat n)), .val (.int (0 : Int32))] [(.ref a1), (.int (Int32.ofNat n)), (.ref a2), (.int (0 : Int32)), (.ref sd)])) _
    refine st4 _ ?_
    show Steps p.tables e below (T4.setTop (mkF m 21 #[.val (.ref a1), .val (.ref a2), .val (.int (Int32.ofNat n)), .val (.int (0 : Int32))] [(.ref sd), (.int (Int32.ofNat n)), (.ref a2), (.int (0 : Int32)), (.ref sd)])) _
    refine X4.arraylength hx (by rw [e4]; exact Ar5.1) (State.isArrayOf_alike hZ.alike Ar5.2.1) (g := (mkF m 21 #[.val (.ref a1), .val (.ref a2), .val (.int (Int32.ofNat n)), .val (.int (0 : Int32))] [(.ref sd), (.int (Int32.ofNat n)), (.ref a2), (.int (0 : Int32)), (.ref sd)])) rfl rfl (hb hby d22_21) _ ?_
    rw [len_of S5_ N5_]
    show Steps p.tables e below (T4.setTop (mkF m 22 #[.val (.ref a1), .val (.ref a2), .val (.int (Int32.ofNat n)), .val (.int (0 : Int32))] [(.int (Int32.ofNat src.length)), (.int (Int32.ofNat n)), (.ref a2), (.int (0 : Int32)), (.ref sd)])) _
    refine st6 _ ?_
    show Steps p.tables e below (T6.setTop (mkF m 25 #[.val (.ref a1), .val (.ref a2), .val (.int (Int32.ofNat n)), .val (.int (0 : Int32))] [])) _
    refine XS.goto X6.here hx rfl (pc0 := 25) (pc' := 43) rfl (hb hby d22_25) (by decide) (by decide) ?_
    show Steps p.tables e below (T6.setTop (mkF m 43 #[.val (.ref a1), .val (.ref a2), .val (.int (Int32.ofNat n)), .val (.int (0 : Int32))] [])) _
    exact X6.returnOut hx Bd.returns (hb hby d22_43) hr
  · show Q22 Z a1 a2 cs sd sk src dk ds n h0 n0 _ T6.heap _
    rw [e6]
    exact ⟨rfl, N6, K6, by have q := V6; rw [List.drop_zero, List.take_length] at q; exact q⟩

theorem d20_0 : decode jdk_68_method_73_code 0 = .ok (.aload_n 0, 1) := by decide +kernel
theorem d20_1 : decode jdk_68_method_73_code 1 = .ok (.aload_n 2, 1) := by decide +kernel
theorem d20_2 : decode jdk_68_method_73_code 2 = .ok (.invokevirtual 397, 3) := by decide +kernel
theorem d20_5 : decode jdk_68_method_73_code 5 = .ok (.aload_n 2, 1) := by decide +kernel
theorem d20_6 : decode jdk_68_method_73_code 6 = .ok (.aload_n 0, 1) := by decide +kernel
theorem d20_7 : decode jdk_68_method_73_code 7 = .ok (.getfield 15, 3) := by decide +kernel
theorem d20_10 : decode jdk_68_method_73_code 10 = .ok (.iload_n 1, 1) := by decide +kernel
theorem d20_11 : decode jdk_68_method_73_code 11 = .ok (.aload_n 0, 1) := by decide +kernel
theorem d20_12 : decode jdk_68_method_73_code 12 = .ok (.getfield 22, 3) := by decide +kernel
theorem d20_15 : decode jdk_68_method_73_code 15 = .ok (.invokevirtual 399, 3) := by decide +kernel
theorem d20_18 : decode jdk_68_method_73_code 18 = .ok (.return_, 1) := by decide +kernel
theorem pn_20 : plainName "java/lang/AbstractStringBuilder" = true := by first | (simp [plainName, overriddenIn]; done) | decide +kernel
theorem ef_20 (m : MethodId) (a1 : Addr) (zf1 : Int32) (a3 : Addr) : entryFrame m #[(.ref a1), (.int zf1), (.ref a3)] 3 = mkF m 0 #[.val (.ref a1), .val (.int zf1), .val (.ref a3)] [] := by first | (simp [entryFrame, mkF, argsToLocals, Value.category]; done) | rfl
def Q20 (Z : State) (a1 : Addr) (a3 : Addr) (cs : Int32) (d : Addr) (dk : ClassId) (ds : List Int32) (cn : Nat) (sd : Addr) (sk : ClassId) (src : List Int32) (n : Nat) (h0 : Heap) (n0 : Nat) (v : Option Value) (h : Heap) (L : List Loc) : Prop := v = none ∧ Fr n0 L ∧ Keep h0 h [d] ∧ BL Z h d dk (ds.take n ++ src ++ ds.drop (n + src.length))
set_option maxRecDepth 65536 in
set_option maxHeartbeats 40000000 in
theorem rm20 (l : Launch) (Z : State) (a0 : Array Value) (hw : ∀ d ∈ tables_1, d.before a0 Z = true) (ws : List Jvm.Cond) (a1 : Addr) (a3 : Addr) (h0 : Heap) (n0 : Nat) (cs : Int32) (d : Addr) (dk : ClassId) (ds : List Int32) (cn : Nat) (sd : Addr) (sk : ClassId) (src : List Int32) (n : Nat) (CS : Sta Z Z.heap "java/lang/String" "COMPACT_STRINGS" "Z" (.int cs)) (hcs : ¬ cs = 0) (O0 : Old Z n0 h0) (E_a1 : Exa Z h0 a1 "java/lang/StringBuilder") (F_a1_v : Fld Z h0 a1 "java/lang/AbstractStringBuilder" "value" "[B" (.ref d)) (F_a1_c : Fld Z h0 a1 "java/lang/AbstractStringBuilder" "coder" "B" (.int 0)) (F_a1_n : Fld Z h0 a1 "java/lang/AbstractStringBuilder" "count" "I" (.int (Int32.ofNat cn))) (V_d : BL Z h0 d dk ds) (E_a3 : Exa Z h0 a3 "java/lang/String") (F_a3_c : Fld Z h0 a3 "java/lang/String" "coder" "B" (.int 0)) (F_a3_v : Fld Z h0 a3 "java/lang/String" "value" "[B" (.ref sd)) (V_sd : B0 Z h0 sd sk src) (g_d : n0 ≤ d) (ne_2 : sd ≠ d) (hn : n + src.length ≤ ds.length) (Z0 : n0 ≤ h0.size) :
    MetFree l (⟨"java/lang/AbstractStringBuilder", "putStringAt", "(ILjava/lang/String;)V"⟩ : MethodName) (head1 (Jvm.Cond.code (⟨"java/lang/AbstractStringBuilder", "putStringAt", "(ILjava/lang/String;)V"⟩ : MethodName) jdk_68_method_73_code 3 none :: ws) ({ frames := 2, cells := 0, slots := 0, locals := 65 } : Room)) (fun a U => a = #[(.ref a1), (.int (Int32.ofNat n)), (.ref a3)] ∧ Z.Warmed39 U.vm ∧ U.heap = h0) (fun _ _ _ _ _ => True) (fun _ U o U' => ∃ v L, o = .returned v ∧ Q20 Z a1 a3 cs d dk ds cn sd sk src n h0 n0 v U'.heap L ∧ FrameEnd U o U' L ({ frames := 2, cells := 0, slots := 0, locals := 65 } : Room).cells ({ frames := 2, cells := 0, slots := 0, locals := 65 } : Room).slots) := by
  refine MetFree.of_bodySF (plainFor_of_name pn_20) hisR ?_
  intro p e s m args below meth c s₁ Bd hml0 hP hK
  obtain ⟨rfl, hZ, hh⟩ := hP
  have hx := Bd.exec
  have hby := Bd.bytes
  have hml : c.maxLocals = 3 := hml0
  have hown0 := findClass_of_methodNamed Bd.named
  have hown : s.vm.findClass "java/lang/AbstractStringBuilder" = some m.cls := hown0
  have hnm := (name_of_methodNamed Bd.named Bd.method).1
  have X0 : Stand p l e ({ frames := 2, cells := 0, slots := 0, locals := 65 } : Room) s m #[(.ref a1), (.int (Int32.ofNat n)), (.ref a3)] below meth c s₁ [] 0 0 := Stand.of_body Bd
  have e0 : s₁.heap = h0 := by rw [← hh, Bd.state]; rfl
  have N0 := Fr.nil n0
  have pre0 : ∀ t, Steps p.tables e below (s₁.setTop (mkF m 0 #[.val (.ref a1), .val (.int (Int32.ofNat n)), .val (.ref a3)] [])) t → Steps p.tables e below (s₁.setTop (entryFrame m #[(.ref a1), (.int (Int32.ofNat n)), (.ref a3)] 3)) t := fun t k => castTop (ef_20 m a1 ((Int32.ofNat n)) a3) k
  refine Classical.byContradiction fun hneg => ?_
  obtain ⟨cq1, kq1, q1a, q1b, q1c⟩ := isOf hZ e0 E_a1
  obtain ⟨_, _, ⟨T1, L1, k1, n1⟩, -, X1, ⟨Lc1, hQ1, l1, y1, z1⟩, st1⟩ := X0.virtualBack hx (y := (⟨"java/lang/AbstractStringBuilder", "inflateIfNeededFor", "(Ljava/lang/String;)V"⟩ : MethodName)) (z := (⟨"java/lang/AbstractStringBuilder", "inflateIfNeededFor", "(Ljava/lang/String;)V"⟩ : MethodName)) hown (mvT hZ (hw _ (List.mem_of_getElem? (i := 145) rfl))) (mvT hZ (decl_of (hw _ (List.mem_of_getElem? (i := 146) rfl)) (hw _ (List.mem_of_getElem? (i := 149) rfl)))) (notFace_of_selects (args := #[]) (mvT hZ (hw _ (List.mem_of_getElem? (i := 148) rfl)))) (mvT hZ (hw _ (List.mem_of_getElem? (i := 148) rfl))) (mvT hZ (hw _ (List.mem_of_getElem? (i := 146) rfl))) (by decide) (backOf (W := 0) (rm21 l Z a0 hw [] a1 a3 h0 n0 cs CS hcs O0 F_a1_c E_a3 F_a3_c) hZ (hw _ (List.mem_of_getElem? (i := 149) rfl)) (hw _ (List.mem_of_getElem? (i := 104) rfl)) (by decide) (by decide)) q1a q1c (g := (mkF m 2 #[.val (.ref a1), .val (.int (Int32.ofNat n)), .val (.ref a3)] [(.ref a3), (.ref a1)])) rfl (by rw [hml]; rfl) (Steps.refl _) (argsL := [(.ref a3)]) (rest := []) (lenOf pd1 rfl) rfl (by show 2 * 0 + _ ≤ _; exact Nat.le_of_eq rfl) (hb hby d20_2) (fun _ _ => ⟨rfl, e0, (by decide : 0 + 0 ≤ _), (by decide : 0 + 0 ≤ _)⟩)
  dsimp only [Pt.U, Pt.locs, Pt.cells, Pt.slots] at X1 l1 y1 z1 st1 hQ1
  subst l1 y1 z1
  obtain ⟨rfl, N1q, e1⟩ := hQ1
  have N1 := Fr.app N0 N1q
  obtain ⟨T2, X2, e2, st2⟩ := getF X1 hx hZ hown (host := "") (Or.inl (hw _ (List.mem_of_getElem? (i := 108) rfl))) Via.refl e1 F_a1_v (g := (mkF m 7 #[.val (.ref a1), .val (.int (Int32.ofNat n)), .val (.ref a3)] [(.ref a1), (.ref a3)])) rfl rfl (hb hby d20_7)
  obtain ⟨T3, X3, e3, st3⟩ := getF X2 hx hZ hown (host := "") (Or.inl (hw _ (List.mem_of_getElem? (i := 110) rfl))) Via.refl e2 F_a1_c (g := (mkF m 12 #[.val (.ref a1), .val (.int (Int32.ofNat n)), .val (.ref a3)] [(.ref a1), (.int (Int32.ofNat n)), (.ref d), (.ref a3)])) rfl rfl (hb hby d20_12)
  obtain ⟨cq4, kq4, q4a, q4b, q4c⟩ := isOf hZ e3 E_a3
  obtain ⟨_, _, ⟨T4, L4, k4, n4⟩, -, X4, ⟨Lc4, hQ4, l4, y4, z4⟩, st4⟩ := X3.virtualBack hx (y := (⟨"java/lang/String", "getBytes", "([BIB)V"⟩ : MethodName)) (z := (⟨"java/lang/String", "getBytes", "([BIB)V"⟩ : MethodName)) hown (mvT hZ (hw _ (List.mem_of_getElem? (i := 151) rfl))) (mvT hZ (hw _ (List.mem_of_getElem? (i := 152) rfl))) (notFace_of_selects (args := #[]) (mvT hZ (hw _ (List.mem_of_getElem? (i := 154) rfl)))) (mvT hZ (hw _ (List.mem_of_getElem? (i := 154) rfl))) (mvT hZ (hw _ (List.mem_of_getElem? (i := 153) rfl))) (by decide) (backOf (W := 0) (rm22 l Z a0 hw [] a3 d  h0 n0 cs sd sk src dk ds n CS hcs O0 E_a3 F_a3_c F_a3_v V_sd V_d g_d (Exa.neArv E_a3 V_d.1 (hw _ (List.mem_of_getElem? (i := 1) rfl))) ne_2 hn Z0) hZ (hw _ (List.mem_of_getElem? (i := 155) rfl)) (hw _ (List.mem_of_getElem? (i := 2) rfl)) (by decide) (by decide)) q4a q4c (g := (mkF m 15 #[.val (.ref a1), .val (.int (Int32.ofNat n)), .val (.ref a3)] [(.int (0 : Int32)), (.int (Int32.ofNat n)), (.ref d), (.ref a3)])) rfl (by rw [hml]; rfl) (Steps.refl _) (argsL := [(.ref d), (.int (Int32.ofNat n)), (.int (0 : Int32))]) (rest := []) (lenOf pd2 rfl) rfl (by show 2 * 0 + _ ≤ _; exact Nat.le_of_eq rfl) (hb hby d20_15) (fun _ _ => ⟨rfl, e3, (by decide : 0 + 0 ≤ _), (by decide : 0 + 0 ≤ _)⟩)
  dsimp only [Pt.U, Pt.locs, Pt.cells, Pt.slots] at X4 l4 y4 z4 st4 hQ4
  subst l4 y4 z4
  obtain ⟨rfl, N4q, Kc4, G4_0⟩ := hQ4
  have N4 := Fr.app N1 N4q
  have E_a1_4 := E_a1.keep Kc4
  have F_a1_value_4 := F_a1_v.keep Kc4 (ninS (Exa.neArv E_a1 V_d.1 (hw _ (List.mem_of_getElem? (i := 95) rfl))) nin0)
  have F_a1_coder_4 := F_a1_c.keep Kc4 (ninS (Exa.neArv E_a1 V_d.1 (hw _ (List.mem_of_getElem? (i := 95) rfl))) nin0)
  have F_a1_count_4 := F_a1_n.keep Kc4 (ninS (Exa.neArv E_a1 V_d.1 (hw _ (List.mem_of_getElem? (i := 95) rfl))) nin0)
  have E_a3_4 := E_a3.keep Kc4
  have F_a3_coder_4 := F_a3_c.keep Kc4 (ninS (Exa.neArv E_a3 V_d.1 (hw _ (List.mem_of_getElem? (i := 1) rfl))) nin0)
  have F_a3_value_4 := F_a3_v.keep Kc4 (ninS (Exa.neArv E_a3 V_d.1 (hw _ (List.mem_of_getElem? (i := 1) rfl))) nin0)
  have V_sd_4 := V_sd.keep Kc4 (ninS ne_2 nin0)
  have K4 : Keep h0 T4.heap [d] := (Keep.refl h0 [d]).trans Kc4 (allS (P := fun x => x ∈ [d] ∨ h0.size ≤ x) (Or.inl (by simp)) all0)
  have Z4 : n0 ≤ T4.heap.size := Nat.le_trans Z0 Kc4.1
  have O4 := Old.keep O0 Kc4 (allS g_d all0)
  refine hneg ?_
  obtain ⟨fs, hr, hrun, hended, hW, hsame⟩ := X4.leave (v := none) (fun _ => rfl)
  refine ⟨_, _, pre0 _ ?_, hrun, hended, _, _, rfl, ?_, ⟨_, rfl⟩, hW, hsame.mono (by decide) (by decide)⟩
  · show Steps p.tables e below (s₁.setTop (mkF m 0 #[.val (.ref a1), .val (.int (Int32.ofNat n)), .val (.ref a3)] [])) _
    refine XS.aloadN X0.here hx rfl (hb hby d20_0) rfl rfl ?_
    show Steps p.tables e below (s₁.setTop (mkF m 1 #[.val (.ref a1), .val (.int (Int32.ofNat n)), .val (.ref a3)] [(.ref a1)])) _
    refine XS.aloadN X0.here hx rfl (hb hby d20_1) rfl rfl ?_
    show Steps p.tables e below (s₁.setTop (mkF m 2 #[.val (.ref a1), .val (.int (Int32.ofNat n)), .val (.ref a3)] [(.ref a3), (.ref a1)])) _
    refine st1.trans ?_
    show Steps p.tables e below (T1.setTop (mkF m 5 #[.val (.ref a1), .val (.int (Int32.ofNat n)), .val (.ref a3)] [])) _
    refine XS.aloadN X1.here hx rfl (hb hby d20_5) rfl rfl ?_
    show Steps p.tables e below (T1.setTop (mkF m 6 #[.val (.ref a1), .val (.int (Int32.ofNat n)), .val (.ref a3)] [(.ref a3)])) _
    refine XS.aloadN X1.here hx rfl (hb hby d20_6) rfl rfl ?_
    show Steps p.tables e below (T1.setTop (mkF m 7 #[.val (.ref a1), .val (.int (Int32.ofNat n)), .val (.ref a3)] [(.ref a1), (.ref a3)])) _
    refine st2 _ ?_
    show Steps p.tables e below (T2.setTop (mkF m 10 #[.val (.ref a1), .val (.int (Int32.ofNat n)), .val (.ref a3)] [(.ref d), (.ref a3)])) _
    refine XS.iloadN X2.here hx rfl (hb hby d20_10) rfl ?_
    show Steps p.tables e below (T2.setTop (mkF m 11 #[.val (.ref a1), .val (.int (Int32.ofNat n)), .val (.ref a3)] [(.int (Int32.ofNat n)), (.ref d), (.ref a3)])) _
    refine XS.aloadN X2.here hx rfl (hb hby d20_11) rfl rfl ?_
    show Steps p.tables e below (T2.setTop (mkF m 12 #[.val (.ref a1), .val (.int (Int32.ofNat n)), .val (.ref a3)] [(.ref a1), (.int (Int32.ofNat n)), (.ref d), (.ref a3)])) _
    refine st3 _ ?_
    show Steps p.tables e below (T3.setTop (mkF m 15 #[.val (.ref a1), .val (.int (Int32.ofNat n)), .val (.ref a3)] [(.int (0 : Int32)), (.int (Int32.ofNat n)), (.ref d), (.ref a3)])) _
    refine st4.trans ?_
    show Steps p.tables e below (T4.setTop (mkF m 18 #[.val (.ref a1), .val (.int (Int32.ofNat n)), .val (.ref a3)] [])) _
    exact X4.returnOut hx Bd.returns (hb hby d20_18) hr
  · show Q20 Z a1 a3 cs d dk ds cn sd sk src n h0 n0 _ T4.heap _
    exact ⟨rfl, N4, K4, G4_0⟩

theorem d19_0 : decode jdk_68_method_9_code 0 = .ok (.aload_n 0, 1) := by decide +kernel
theorem d19_1 : decode jdk_68_method_9_code 1 = .ok (.getfield 15, 3) := by decide +kernel
theorem d19_4 : decode jdk_68_method_9_code 4 = .ok (.arraylength, 1) := by decide +kernel
theorem d19_5 : decode jdk_68_method_9_code 5 = .ok (.aload_n 0, 1) := by decide +kernel
theorem d19_6 : decode jdk_68_method_9_code 6 = .ok (.getfield 22, 3) := by decide +kernel
theorem d19_9 : decode jdk_68_method_9_code 9 = .ok (.ishr, 1) := by decide +kernel
theorem d19_10 : decode jdk_68_method_9_code 10 = .ok (.istore_n 2, 1) := by decide +kernel
theorem d19_11 : decode jdk_68_method_9_code 11 = .ok (.iload_n 1, 1) := by decide +kernel
theorem d19_12 : decode jdk_68_method_9_code 12 = .ok (.iload_n 2, 1) := by decide +kernel
theorem d19_13 : decode jdk_68_method_9_code 13 = .ok (.isub, 1) := by decide +kernel
theorem d19_14 : decode jdk_68_method_9_code 14 = .ok (.ifCond .le 24, 3) := by decide +kernel
theorem d19_38 : decode jdk_68_method_9_code 38 = .ok (.return_, 1) := by decide +kernel
theorem pn_19 : plainName "java/lang/AbstractStringBuilder" = true := by first | (simp [plainName, overriddenIn]; done) | decide +kernel
theorem ef_19 (m : MethodId) (a1 : Addr) (zf1 : Int32) : entryFrame m #[(.ref a1), (.int zf1)] 3 = mkF m 0 #[.val (.ref a1), .val (.int zf1), .unset] [] := by first | (simp [entryFrame, mkF, argsToLocals, Value.category]; done) | rfl
def Q19 (Z : State) (a1 : Addr) (cs : Int32) (d : Addr) (dk : ClassId) (ds : List Int32) (cn : Nat) (mn : Nat) (h0 : Heap) (n0 : Nat) (v : Option Value) (h : Heap) (L : List Loc) : Prop := ∃ (d' : Addr) (k' : ClassId) (bs' : List Int32), v = none ∧ Fr n0 L ∧ Keep h0 h [a1] ∧ Exa Z h a1 "java/lang/StringBuilder" ∧ Fld Z h a1 "java/lang/AbstractStringBuilder" "value" "[B" (.ref d') ∧ Fld Z h a1 "java/lang/AbstractStringBuilder" "coder" "B" (.int 0) ∧ Fld Z h a1 "java/lang/AbstractStringBuilder" "count" "I" (.int (Int32.ofNat cn)) ∧ BL Z h d' k' bs' ∧ bs'.length = cap2 ds.length mn ∧ bs'.take ds.length = ds ∧ (d' = d ∨ h0.size ≤ d')
set_option maxRecDepth 65536 in
set_option maxHeartbeats 40000000 in
theorem rm19 (l : Launch) (Z : State) (a0 : Array Value) (hw : ∀ d ∈ tables_1, d.before a0 Z = true) (ws : List Jvm.Cond) (a1 : Addr) (h0 : Heap) (n0 : Nat) (cs : Int32) (d : Addr) (dk : ClassId) (ds : List Int32) (cn : Nat) (mn : Nat) (CS : Sta Z Z.heap "java/lang/String" "COMPACT_STRINGS" "Z" (.int cs)) (hcs : ¬ cs = 0) (O0 : Old Z n0 h0) (E_a1 : Exa Z h0 a1 "java/lang/StringBuilder") (F_a1_v : Fld Z h0 a1 "java/lang/AbstractStringBuilder" "value" "[B" (.ref d)) (F_a1_c : Fld Z h0 a1 "java/lang/AbstractStringBuilder" "coder" "B" (.int 0)) (F_a1_n : Fld Z h0 a1 "java/lang/AbstractStringBuilder" "count" "I" (.int (Int32.ofNat cn))) (V_d : BL Z h0 d dk ds) (qm : mn ≤ 100) (qL : ds.length ≤ 70) (g_a1 : n0 ≤ a1) (g_d : n0 ≤ d) (Z0 : n0 ≤ h0.size) (hsm : mn ≤ ds.length) :
    MetFree l (⟨"java/lang/AbstractStringBuilder", "ensureCapacityInternal", "(I)V"⟩ : MethodName) (head1 (Jvm.Cond.code (⟨"java/lang/AbstractStringBuilder", "ensureCapacityInternal", "(I)V"⟩ : MethodName) jdk_68_method_9_code 3 none :: ws) ({ frames := 0, cells := 0, slots := 0, locals := 0 } : Room)) (fun a U => a = #[(.ref a1), (.int (Int32.ofNat mn))] ∧ Z.Warmed39 U.vm ∧ U.heap = h0) (fun _ _ _ _ _ => True) (fun _ U o U' => ∃ v L, o = .returned v ∧ Q19 Z a1 cs d dk ds cn mn h0 n0 v U'.heap L ∧ FrameEnd U o U' L ({ frames := 0, cells := 0, slots := 0, locals := 0 } : Room).cells ({ frames := 0, cells := 0, slots := 0, locals := 0 } : Room).slots) := by
  refine MetFree.of_bodySF (plainFor_of_name pn_19) hisR ?_
  intro p e s m args below meth c s₁ Bd hml0 hP hK
  obtain ⟨rfl, hZ, hh⟩ := hP
  have hx := Bd.exec
  have hby := Bd.bytes
  have hml : c.maxLocals = 3 := hml0
  have hown0 := findClass_of_methodNamed Bd.named
  have hown : s.vm.findClass "java/lang/AbstractStringBuilder" = some m.cls := hown0
  have hnm := (name_of_methodNamed Bd.named Bd.method).1
  have X0 : Stand p l e ({ frames := 0, cells := 0, slots := 0, locals := 0 } : Room) s m #[(.ref a1), (.int (Int32.ofNat mn))] below meth c s₁ [] 0 0 := Stand.of_body Bd
  have e0 : s₁.heap = h0 := by rw [← hh, Bd.state]; rfl
  have N0 := Fr.nil n0
  have pre0 : ∀ t, Steps p.tables e below (s₁.setTop (mkF m 0 #[.val (.ref a1), .val (.int (Int32.ofNat mn)), .unset] [])) t → Steps p.tables e below (s₁.setTop (entryFrame m #[(.ref a1), (.int (Int32.ofNat mn))] 3)) t := fun t k => castTop (ef_19 m a1 ((Int32.ofNat mn))) k
  refine Classical.byContradiction fun hneg => ?_
  obtain ⟨T1, X1, e1, st1⟩ := getF X0 hx hZ hown (host := "") (Or.inl (hw _ (List.mem_of_getElem? (i := 108) rfl))) Via.refl e0 F_a1_v (g := (mkF m 1 #[.val (.ref a1), .val (.int (Int32.ofNat mn)), .unset] [(.ref a1)])) rfl rfl (hb hby d19_1)
  obtain ⟨cl2, Ar2, q2, S2_, N2_, H2_, G2_⟩ := V_d.1
  obtain ⟨T3, X3, e3, st3⟩ := getF X1 hx hZ hown (host := "") (Or.inl (hw _ (List.mem_of_getElem? (i := 110) rfl))) Via.refl e1 F_a1_c (g := (mkF m 6 #[.val (.ref a1), .val (.int (Int32.ofNat mn)), .unset] [(.ref a1), (.int (Int32.ofNat ds.length))])) rfl rfl (hb hby d19_6)
  have nq4 : ((Int32.ofNat ds.length) >>> ((0 : Int32) &&& 31)) = (Int32.ofNat ds.length) := shr0 _
  refine hneg ?_
  obtain ⟨fs, hr, hrun, hended, hW, hsame⟩ := X3.leave (v := none) (fun _ => rfl)
  refine ⟨_, _, pre0 _ ?_, hrun, hended, _, _, rfl, ?_, ⟨_, rfl⟩, hW, hsame.mono (by decide) (by decide)⟩
  · show Steps p.tables e below (s₁.setTop (mkF m 0 #[.val (.ref a1), .val (.int (Int32.ofNat mn)), .unset] [])) _
    refine XS.aloadN X0.here hx rfl (hb hby d19_0) rfl rfl ?_
    show Steps p.tables e below (s₁.setTop (mkF m 1 #[.val (.ref a1), .val (.int (Int32.ofNat mn)), .unset] [(.ref a1)])) _
    refine st1 _ ?_
    show Steps p.tables e below (T1.setTop (mkF m 4 #[.val (.ref a1), .val (.int (Int32.ofNat mn)), .unset] [(.ref d)])) _
    refine X1.arraylength hx (by rw [e1]; exact Ar2.1) (State.isArrayOf_alike hZ.alike Ar2.2.1) (g := (mkF m 4 #[.val (.ref a1), .val (.int (Int32.ofNat mn)), .unset] [(.ref d)])) rfl rfl (hb hby d19_4) _ ?_
    rw [len_of S2_ N2_]
    show Steps p.tables e below (T1.setTop (mkF m 5 #[.val (.ref a1), .val (.int (Int32.ofNat mn)), .unset] [(.int (Int32.ofNat ds.length))])) _
    refine XS.aloadN X1.here hx rfl (hb hby d19_5) rfl rfl ?_
    show Steps p.tables e below (T1.setTop (mkF m 6 #[.val (.ref a1), .val (.int (Int32.ofNat mn)), .unset] [(.ref a1), (.int (Int32.ofNat ds.length))])) _
    refine st3 _ ?_
    show Steps p.tables e below (T3.setTop (mkF m 9 #[.val (.ref a1), .val (.int (Int32.ofNat mn)), .unset] [(.int (0 : Int32)), (.int (Int32.ofNat ds.length))])) _
    refine XS.ishr X3.here hx rfl (hb hby d19_9) rfl ?_
    show Steps p.tables e below (T3.setTop (mkF m 10 #[.val (.ref a1), .val (.int (Int32.ofNat mn)), .unset] [(.int ((Int32.ofNat ds.length) >>> ((0 : Int32) &&& 31)))])) _
    rw [nq4]
    show Steps p.tables e below (T3.setTop (mkF m 10 #[.val (.ref a1), .val (.int (Int32.ofNat mn)), .unset] [(.int (Int32.ofNat ds.length))])) _
    refine XS.istoreN X3.here hx rfl (hb hby d19_10) rfl (l' := #[.val (.ref a1), .val (.int (Int32.ofNat mn)), .val (.int (Int32.ofNat ds.length))]) rfl ?_
    show Steps p.tables e below (T3.setTop (mkF m 11 #[.val (.ref a1), .val (.int (Int32.ofNat mn)), .val (.int (Int32.ofNat ds.length))] [])) _
    refine XS.iloadN X3.here hx rfl (hb hby d19_11) rfl ?_
    show Steps p.tables e below (T3.setTop (mkF m 12 #[.val (.ref a1), .val (.int (Int32.ofNat mn)), .val (.int (Int32.ofNat ds.length))] [(.int (Int32.ofNat mn))])) _
    refine XS.iloadN X3.here hx rfl (hb hby d19_12) rfl ?_
    show Steps p.tables e below (T3.setTop (mkF m 13 #[.val (.ref a1), .val (.int (Int32.ofNat mn)), .val (.int (Int32.ofNat ds.length))] [(.int (Int32.ofNat ds.length)), (.int (Int32.ofNat mn))])) _
    refine XS.isub X3.here hx rfl (hb hby d19_13) rfl ?_
    show Steps p.tables e below (T3.setTop (mkF m 14 #[.val (.ref a1), .val (.int (Int32.ofNat mn)), .val (.int (Int32.ofNat ds.length))] [(.int ((Int32.ofNat mn) - (Int32.ofNat ds.length)))])) _
    refine XS.ifYes X3.here hx rfl (pc0 := 14) (pc' := 38) rfl (hb hby d19_14) rfl ((if0 _ _).trans (flt (by rw [subpos (by omega) (by omega)]; omega)).2.2.2) (by decide) (by decide) ?_
    show Steps p.tables e below (T3.setTop (mkF m 38 #[.val (.ref a1), .val (.int (Int32.ofNat mn)), .val (.int (Int32.ofNat ds.length))] [])) _
    exact X3.returnOut hx Bd.returns (hb hby d19_38) hr
  · show Q19 Z a1 cs d dk ds cn mn h0 n0 _ T3.heap _
    rw [e3]
    exact ⟨_, _, _, rfl, N0, (Keep.refl h0 [a1]), E_a1, F_a1_v, F_a1_c, F_a1_n, V_d, (if_pos hsm).symm, List.take_length, Or.inl rfl⟩

theorem d16_0 : decode jdk_68_method_22_code 0 = .ok (.aload_n 1, 1) := by decide +kernel
theorem d16_1 : decode jdk_68_method_22_code 1 = .ok (.ifnonnull 8, 3) := by decide +kernel
theorem d16_9 : decode jdk_68_method_22_code 9 = .ok (.aload_n 1, 1) := by decide +kernel
theorem d16_10 : decode jdk_68_method_22_code 10 = .ok (.invokevirtual 32, 3) := by decide +kernel
theorem d16_13 : decode jdk_68_method_22_code 13 = .ok (.istore_n 2, 1) := by decide +kernel
theorem d16_14 : decode jdk_68_method_22_code 14 = .ok (.aload_n 0, 1) := by decide +kernel
theorem d16_15 : decode jdk_68_method_22_code 15 = .ok (.aload_n 0, 1) := by decide +kernel
theorem d16_16 : decode jdk_68_method_22_code 16 = .ok (.getfield 79, 3) := by decide +kernel
theorem d16_19 : decode jdk_68_method_22_code 19 = .ok (.iload_n 2, 1) := by decide +kernel
theorem d16_20 : decode jdk_68_method_22_code 20 = .ok (.iadd, 1) := by decide +kernel
theorem d16_21 : decode jdk_68_method_22_code 21 = .ok (.invokevirtual 100, 3) := by decide +kernel
theorem d16_24 : decode jdk_68_method_22_code 24 = .ok (.aload_n 0, 1) := by decide +kernel
theorem d16_25 : decode jdk_68_method_22_code 25 = .ok (.aload_n 0, 1) := by decide +kernel
theorem d16_26 : decode jdk_68_method_22_code 26 = .ok (.getfield 79, 3) := by decide +kernel
theorem d16_29 : decode jdk_68_method_22_code 29 = .ok (.aload_n 1, 1) := by decide +kernel
theorem d16_30 : decode jdk_68_method_22_code 30 = .ok (.invokevirtual 208, 3) := by decide +kernel
theorem d16_33 : decode jdk_68_method_22_code 33 = .ok (.aload_n 0, 1) := by decide +kernel
theorem d16_34 : decode jdk_68_method_22_code 34 = .ok (.dup, 1) := by decide +kernel
theorem d16_35 : decode jdk_68_method_22_code 35 = .ok (.getfield 79, 3) := by decide +kernel
theorem d16_38 : decode jdk_68_method_22_code 38 = .ok (.iload_n 2, 1) := by decide +kernel
theorem d16_39 : decode jdk_68_method_22_code 39 = .ok (.iadd, 1) := by decide +kernel
theorem d16_40 : decode jdk_68_method_22_code 40 = .ok (.putfield 79, 3) := by decide +kernel
theorem d16_43 : decode jdk_68_method_22_code 43 = .ok (.aload_n 0, 1) := by decide +kernel
theorem d16_44 : decode jdk_68_method_22_code 44 = .ok (.areturn, 1) := by decide +kernel
theorem pn_16 : plainName "java/lang/AbstractStringBuilder" = true := by first | (simp [plainName, overriddenIn]; done) | decide +kernel
theorem ef_16 (m : MethodId) (a1 : Addr) (a2 : Addr) : entryFrame m #[(.ref a1), (.ref a2)] 3 = mkF m 0 #[.val (.ref a1), .val (.ref a2), .unset] [] := by first | (simp [entryFrame, mkF, argsToLocals, Value.category]; done) | rfl
def Q16 (Z : State) (a1 : Addr) (a2 : Addr) (cs : Int32) (d : Addr) (dk : ClassId) (ds : List Int32) (cn : Nat) (sd : Addr) (sk : ClassId) (src : List Int32) (h0 : Heap) (n0 : Nat) (v : Option Value) (h : Heap) (L : List Loc) : Prop := ∃ (d' : Addr) (k' : ClassId) (bs' : List Int32), v = some (.ref a1) ∧ Fr n0 L ∧ Keep h0 h [a1, d] ∧ Exa Z h a1 "java/lang/StringBuilder" ∧ Fld Z h a1 "java/lang/AbstractStringBuilder" "value" "[B" (.ref d') ∧ Fld Z h a1 "java/lang/AbstractStringBuilder" "coder" "B" (.int 0) ∧ Fld Z h a1 "java/lang/AbstractStringBuilder" "count" "I" (.int (Int32.ofNat (cn + src.length))) ∧ BL Z h d' k' bs' ∧ bs'.length = cap2 ds.length (cn + src.length) ∧ bs'.take (cn + src.length) = ds.take cn ++ src ∧ (d' = d ∨ h0.size ≤ d')
set_option maxRecDepth 65536 in
set_option maxHeartbeats 40000000 in
theorem rm16 (l : Launch) (Z : State) (a0 : Array Value) (hw : ∀ d ∈ tables_1, d.before a0 Z = true) (ws : List Jvm.Cond) (a1 : Addr) (a2 : Addr) (h0 : Heap) (n0 : Nat) (cs : Int32) (d : Addr) (dk : ClassId) (ds : List Int32) (cn : Nat) (sd : Addr) (sk : ClassId) (src : List Int32) (CS : Sta Z Z.heap "java/lang/String" "COMPACT_STRINGS" "Z" (.int cs)) (hcs : ¬ cs = 0) (O0 : Old Z n0 h0) (E_a1 : Exa Z h0 a1 "java/lang/StringBuilder") (F_a1_v : Fld Z h0 a1 "java/lang/AbstractStringBuilder" "value" "[B" (.ref d)) (F_a1_c : Fld Z h0 a1 "java/lang/AbstractStringBuilder" "coder" "B" (.int 0)) (F_a1_n : Fld Z h0 a1 "java/lang/AbstractStringBuilder" "count" "I" (.int (Int32.ofNat cn))) (V_d : BL Z h0 d dk ds) (E_a2 : Exa Z h0 a2 "java/lang/String") (F_a2_c : Fld Z h0 a2 "java/lang/String" "coder" "B" (.int 0)) (F_a2_v : Fld Z h0 a2 "java/lang/String" "value" "[B" (.ref sd)) (V_sd : B0 Z h0 sd sk src) (qn : cn ≤ ds.length) (qm : cn + src.length ≤ ds.length) (qL : ds.length ≤ 70) (g_a1 : n0 ≤ a1) (g_d : n0 ≤ d) (Z0 : n0 ≤ h0.size) (ne_2 : sd ≠ d) :
    MetFree l (⟨"java/lang/AbstractStringBuilder", "append", "(Ljava/lang/String;)Ljava/lang/AbstractStringBuilder;"⟩ : MethodName) (head1 (Jvm.Cond.code (⟨"java/lang/AbstractStringBuilder", "append", "(Ljava/lang/String;)Ljava/lang/AbstractStringBuilder;"⟩ : MethodName) jdk_68_method_22_code 3 (some (.object "java/lang/AbstractStringBuilder")) :: ws) ({ frames := 3, cells := 0, slots := 0, locals := 79 } : Room)) (fun a U => a = #[(.ref a1), (.ref a2)] ∧ Z.Warmed39 U.vm ∧ U.heap = h0) (fun _ _ _ _ _ => True) (fun _ U o U' => ∃ v L, o = .returned v ∧ Q16 Z a1 a2 cs d dk ds cn sd sk src h0 n0 v U'.heap L ∧ FrameEnd U o U' L ({ frames := 3, cells := 0, slots := 0, locals := 79 } : Room).cells ({ frames := 3, cells := 0, slots := 0, locals := 79 } : Room).slots) := by
  refine MetFree.of_bodySF (plainFor_of_name pn_16) hisR ?_
  intro p e s m args below meth c s₁ Bd hml0 hP hK
  obtain ⟨rfl, hZ, hh⟩ := hP
  have hx := Bd.exec
  have hby := Bd.bytes
  have hml : c.maxLocals = 3 := hml0
  have hown0 := findClass_of_methodNamed Bd.named
  have hown : s.vm.findClass "java/lang/AbstractStringBuilder" = some m.cls := hown0
  have hnm := (name_of_methodNamed Bd.named Bd.method).1
  have X0 : Stand p l e ({ frames := 3, cells := 0, slots := 0, locals := 79 } : Room) s m #[(.ref a1), (.ref a2)] below meth c s₁ [] 0 0 := Stand.of_body Bd
  have e0 : s₁.heap = h0 := by rw [← hh, Bd.state]; rfl
  have N0 := Fr.nil n0
  have pre0 : ∀ t, Steps p.tables e below (s₁.setTop (mkF m 0 #[.val (.ref a1), .val (.ref a2), .unset] [])) t → Steps p.tables e below (s₁.setTop (entryFrame m #[(.ref a1), (.ref a2)] 3)) t := fun t k => castTop (ef_16 m a1 a2) k
  refine Classical.byContradiction fun hneg => ?_
  obtain ⟨cq1, kq1, q1a, q1b, q1c⟩ := isOf hZ e0 E_a2
  obtain ⟨_, _, ⟨T1, L1, k1, n1⟩, -, X1, ⟨Lc1, hQ1, l1, y1, z1⟩, st1⟩ := X0.virtualBack hx (y := (⟨"java/lang/String", "length", "()I"⟩ : MethodName)) (z := (⟨"java/lang/String", "length", "()I"⟩ : MethodName)) hown (mvT hZ (hw _ (List.mem_of_getElem? (i := 123) rfl))) (mvT hZ (hw _ (List.mem_of_getElem? (i := 124) rfl))) (notFace_of_selects (args := #[]) (mvT hZ (hw _ (List.mem_of_getElem? (i := 126) rfl)))) (mvT hZ (hw _ (List.mem_of_getElem? (i := 126) rfl))) (mvT hZ (hw _ (List.mem_of_getElem? (i := 125) rfl))) (by decide) (backOf (W := 0) (rm17 l Z a0 hw [] a2  h0 n0 cs sd sk src CS hcs O0 E_a2 F_a2_c F_a2_v V_sd) hZ (hw _ (List.mem_of_getElem? (i := 127) rfl)) (hw _ (List.mem_of_getElem? (i := 2) rfl)) (by decide) (by decide)) q1a q1c (g := (mkF m 10 #[.val (.ref a1), .val (.ref a2), .unset] [(.ref a2)])) rfl (by rw [hml]; rfl) (Steps.refl _) (argsL := []) (rest := []) (lenOf pd3 rfl) rfl (by show 2 * 0 + _ ≤ _; exact Nat.le_of_eq rfl) (hb hby d16_10) (fun _ _ => ⟨rfl, e0, (by decide : 0 + 0 ≤ _), (by decide : 0 + 0 ≤ _)⟩)
  dsimp only [Pt.U, Pt.locs, Pt.cells, Pt.slots] at X1 l1 y1 z1 st1 hQ1
  subst l1 y1 z1
  obtain ⟨rfl, N1q, e1⟩ := hQ1
  have N1 := Fr.app N0 N1q
  obtain ⟨T2, X2, e2, st2⟩ := getF X1 hx hZ hown (host := "") (Or.inl (hw _ (List.mem_of_getElem? (i := 133) rfl))) Via.refl e1 F_a1_n (g := (mkF m 16 #[.val (.ref a1), .val (.ref a2), .val (.int (Int32.ofNat src.length))] [(.ref a1), (.ref a1)])) rfl rfl (hb hby d16_16)
  have nq3 : ((Int32.ofNat cn) + (Int32.ofNat src.length)) = (Int32.ofNat (cn + src.length)) := ofN_add _ _
  obtain ⟨cq4, kq4, q4a, q4b, q4c⟩ := isOf hZ e2 E_a1
  obtain ⟨_, _, ⟨T4, L4, k4, n4⟩, -, X4, ⟨Lc4, hQ4, l4, y4, z4⟩, st4⟩ := X2.virtualBack hx (y := (⟨"java/lang/AbstractStringBuilder", "ensureCapacityInternal", "(I)V"⟩ : MethodName)) (z := (⟨"java/lang/AbstractStringBuilder", "ensureCapacityInternal", "(I)V"⟩ : MethodName)) hown (mvT hZ (hw _ (List.mem_of_getElem? (i := 135) rfl))) (mvT hZ (decl_of (hw _ (List.mem_of_getElem? (i := 136) rfl)) (hw _ (List.mem_of_getElem? (i := 139) rfl)))) (notFace_of_selects (args := #[]) (mvT hZ (hw _ (List.mem_of_getElem? (i := 138) rfl)))) (mvT hZ (hw _ (List.mem_of_getElem? (i := 138) rfl))) (mvT hZ (hw _ (List.mem_of_getElem? (i := 136) rfl))) (by decide) (backOf (W := 0) (rm19 l Z a0 hw [] a1 h0 n0 cs d dk ds cn ((cn + src.length)) CS hcs O0 E_a1 F_a1_v F_a1_c F_a1_n V_d (by omega) (by omega) g_a1 g_d Z0 (by omega)) hZ (hw _ (List.mem_of_getElem? (i := 139) rfl)) (hw _ (List.mem_of_getElem? (i := 104) rfl)) (by decide) (by decide)) q4a q4c (g := (mkF m 21 #[.val (.ref a1), .val (.ref a2), .val (.int (Int32.ofNat src.length))] [(.int (Int32.ofNat (cn + src.length))), (.ref a1)])) rfl (by rw [hml]; rfl) (Steps.refl _) (argsL := [(.int (Int32.ofNat (cn + src.length)))]) (rest := []) (lenOf pd4 rfl) rfl (by show 2 * 0 + _ ≤ _; exact Nat.le_of_eq rfl) (hb hby d16_21) (fun _ _ => ⟨rfl, e2, (by decide : 0 + 0 ≤ _), (by decide : 0 + 0 ≤ _)⟩)
  dsimp only [Pt.U, Pt.locs, Pt.cells, Pt.slots] at X4 l4 y4 z4 st4 hQ4
  subst l4 y4 z4
  obtain ⟨d'_4, k'_4, bs'_4, rfl, N4q, Kc4, G4_0, G4_1, G4_2, G4_3, G4_4, len_4, tk_4, mb_4⟩ := hQ4
  have N4 := Fr.app N1 N4q
  have ne_a1_d'_4 : a1 ≠ d'_4 := mb_4.elim (fun q => by rw [q]; exact (Exa.neArv E_a1 V_d.1 (hw _ (List.mem_of_getElem? (i := 95) rfl)))) (fun q => Nat.ne_of_lt (Nat.lt_of_lt_of_le E_a1.lt q))
  have ne_a2_d'_4 : a2 ≠ d'_4 := mb_4.elim (fun q => by rw [q]; exact (Exa.neArv E_a2 V_d.1 (hw _ (List.mem_of_getElem? (i := 1) rfl)))) (fun q => Nat.ne_of_lt (Nat.lt_of_lt_of_le E_a2.lt q))
  have ne_sd_d'_4 : sd ≠ d'_4 := mb_4.elim (fun q => by rw [q]; exact ne_2) (fun q => Nat.ne_of_lt (Nat.lt_of_lt_of_le V_sd.lt q))
  have g_d'_4 : n0 ≤ d'_4 := mb_4.elim (fun q => by rw [q]; exact g_d) (fun q => Nat.le_trans Z0 q)
  have wk_d'_4 : d'_4 ∈ [a1, d] ∨ h0.size ≤ d'_4 := mb_4.elim (fun q => by rw [q]; exact (Or.inl (by simp))) (fun q => Or.inr (Nat.le_trans (Keep.refl h0 [a1, d]).1 q))
  have V_d_4 := V_d.keep Kc4 (ninS (Ne.symm (Exa.neArv E_a1 V_d.1 (hw _ (List.mem_of_getElem? (i := 95) rfl)))) nin0)
  have E_a2_4 := E_a2.keep Kc4
  have F_a2_coder_4 := F_a2_c.keep Kc4 (ninS (Exa.ne E_a2 E_a1 (by decide)) nin0)
  have F_a2_value_4 := F_a2_v.keep Kc4 (ninS (Exa.ne E_a2 E_a1 (by decide)) nin0)
  have V_sd_4 := V_sd.keep Kc4 (ninS (Ne.symm (Exa.neArv E_a1 V_sd.1 (hw _ (List.mem_of_getElem? (i := 95) rfl)))) nin0)
  have K4 : Keep h0 T4.heap [a1, d] := (Keep.refl h0 [a1, d]).trans Kc4 (allS (P := fun x => x ∈ [a1, d] ∨ h0.size ≤ x) (Or.inl (by simp)) all0)
  have Z4 : n0 ≤ T4.heap.size := Nat.le_trans Z0 Kc4.1
  have O4 := Old.keep O0 Kc4 (allS g_a1 all0)
  have hn : cn + src.length ≤ bs'_4.length := by rw [len_4]; exact (cap2_ge _ _).1
  obtain ⟨T5, X5, e5, st5⟩ := getF X4 hx hZ hown (host := "") (Or.inl (hw _ (List.mem_of_getElem? (i := 133) rfl))) Via.refl rfl G4_3 (g := (mkF m 26 #[.val (.ref a1), .val (.ref a2), .val (.int (Int32.ofNat src.length))] [(.ref a1), (.ref a1)])) rfl rfl (hb hby d16_26)
  obtain ⟨cq6, kq6, q6a, q6b, q6c⟩ := isOf hZ e5 G4_0
  obtain ⟨_, _, ⟨T6, L6, k6, n6⟩, -, X6, ⟨Lc6, hQ6, l6, y6, z6⟩, st6⟩ := X5.virtualBack hx (y := (⟨"java/lang/AbstractStringBuilder", "putStringAt", "(ILjava/lang/String;)V"⟩ : MethodName)) (z := (⟨"java/lang/AbstractStringBuilder", "putStringAt", "(ILjava/lang/String;)V"⟩ : MethodName)) hown (mvT hZ (hw _ (List.mem_of_getElem? (i := 140) rfl))) (mvT hZ (decl_of (hw _ (List.mem_of_getElem? (i := 141) rfl)) (hw _ (List.mem_of_getElem? (i := 144) rfl)))) (notFace_of_selects (args := #[]) (mvT hZ (hw _ (List.mem_of_getElem? (i := 143) rfl)))) (mvT hZ (hw _ (List.mem_of_getElem? (i := 143) rfl))) (mvT hZ (hw _ (List.mem_of_getElem? (i := 141) rfl))) (by decide) (backOf (W := 0) (rm20 l Z a0 hw [] a1 a2 T4.heap n0 cs d'_4 k'_4 bs'_4 cn sd sk src cn CS hcs O4 G4_0 G4_1 G4_2 G4_3 G4_4 E_a2_4 F_a2_coder_4 F_a2_value_4 V_sd_4 g_d'_4 ne_sd_d'_4 hn Z4) hZ (hw _ (List.mem_of_getElem? (i := 144) rfl)) (hw _ (List.mem_of_getElem? (i := 104) rfl)) (by decide) (by decide)) q6a q6c (g := (mkF m 30 #[.val (.ref a1), .val (.ref a2), .val (.int (Int32.ofNat src.length))] [(.ref a2), (.int (Int32.ofNat cn)), (.ref a1)])) rfl (by rw [hml]; rfl) (Steps.refl _) (argsL := [(.int (Int32.ofNat cn)), (.ref a2)]) (rest := []) (lenOf pd5 rfl) rfl (by show 2 * 0 + _ ≤ _; exact Nat.le_of_eq rfl) (hb hby d16_30) (fun _ _ => ⟨rfl, e5, (by decide : 0 + 0 ≤ _), (by decide : 0 + 0 ≤ _)⟩)
  dsimp only [Pt.U, Pt.locs, Pt.cells, Pt.slots] at X6 l6 y6 z6 st6 hQ6
  subst l6 y6 z6
  obtain ⟨rfl, N6q, Kc6, G6_0⟩ := hQ6
  have N6 := Fr.app N4 N6q
  have E_a1_6 := G4_0.keep Kc6
  have F_a1_value_6 := G4_1.keep Kc6 (ninS ne_a1_d'_4 nin0)
  have F_a1_coder_6 := G4_2.keep Kc6 (ninS ne_a1_d'_4 nin0)
  have F_a1_count_6 := G4_3.keep Kc6 (ninS ne_a1_d'_4 nin0)
  have E_a2_6 := E_a2_4.keep Kc6
  have F_a2_coder_6 := F_a2_coder_4.keep Kc6 (ninS ne_a2_d'_4 nin0)
  have F_a2_value_6 := F_a2_value_4.keep Kc6 (ninS ne_a2_d'_4 nin0)
  have V_sd_6 := V_sd_4.keep Kc6 (ninS ne_sd_d'_4 nin0)
  have K6 : Keep h0 T6.heap [a1, d] := K4.trans Kc6 (allS (P := fun x => x ∈ [a1, d] ∨ h0.size ≤ x) wk_d'_4 all0)
  have Z6 : n0 ≤ T6.heap.size := Nat.le_trans Z4 Kc6.1
  have O6 := Old.keep O4 Kc6 (allS g_d'_4 all0)
  obtain ⟨T7, X7, e7, st7⟩ := getF X6 hx hZ hown (host := "") (Or.inl (hw _ (List.mem_of_getElem? (i := 133) rfl))) Via.refl rfl F_a1_count_6 (g := (mkF m 35 #[.val (.ref a1), .val (.ref a2), .val (.int (Int32.ofNat src.length))] [(.ref a1), (.ref a1)])) rfl rfl (hb hby d16_35)
  have nq8 : ((Int32.ofNat cn) + (Int32.ofNat src.length)) = (Int32.ofNat (cn + src.length)) := ofN_add _ _
  obtain ⟨T9, h9, X9, e9, W9, st9⟩ := putF X7 hx hZ hown (host := "") (Or.inl (hw _ (List.mem_of_getElem? (i := 133) rfl))) Via.refl e7 F_a1_count_6 E_a1_6 (Or.inl (hw _ (List.mem_of_getElem? (i := 134) rfl))) (hw _ (List.mem_of_getElem? (i := 95) rfl)) (ty := .int) (by decide) rfl rfl (g := (mkF m 40 #[.val (.ref a1), .val (.ref a2), .val (.int (Int32.ofNat src.length))] [(.int (Int32.ofNat (cn + src.length))), (.ref a1)])) rfl rfl (hb hby d16_40)
  have E_a1_9 := E_a1_6.wr W9
  have F_a1_value_9 := F_a1_value_6.other W9 (Or.inr (slot_ne (Or.inl (hw _ (List.mem_of_getElem? (i := 109) rfl))) (Or.inl (hw _ (List.mem_of_getElem? (i := 134) rfl))) (by decide) (t := (.array .byte)) (t' := .int) (by decide) (by decide)))
  have F_a1_coder_9 := F_a1_coder_6.other W9 (Or.inr (slot_ne (Or.inl (hw _ (List.mem_of_getElem? (i := 111) rfl))) (Or.inl (hw _ (List.mem_of_getElem? (i := 134) rfl))) (by decide) (t := .byte) (t' := .int) (by decide) (by decide)))
  have F_a1_count_9 := F_a1_count_6.same W9
  have E_a2_9 := E_a2_6.wr W9
  have F_a2_coder_9 := F_a2_coder_6.other W9 (Or.inl (Exa.ne E_a2_6 E_a1_6 (by decide)))
  have F_a2_value_9 := F_a2_value_6.other W9 (Or.inl (Exa.ne E_a2_6 E_a1_6 (by decide)))
  have V_sd_9 := V_sd_6.other W9 (Ne.symm (Exa.neArv E_a1_6 V_sd_6.1 (hw _ (List.mem_of_getElem? (i := 95) rfl))))
  have V_d__4_9 := G6_0.other W9 (Ne.symm ne_a1_d'_4)
  have K9 : Keep h0 h9 [a1, d] := K6.wr W9 (Or.inl (by simp))
  have N9 := Fr.snoc X9 N6 g_a1
  have Z9 : n0 ≤ h9.size := Nat.le_trans Z6 (Keep.of_wr W9).1
  have O9 := Old.wr O6 W9 g_a1
  refine hneg ?_
  obtain ⟨fs, hr, hrun, hended, hW, hsame⟩ := X9.leave (v := some (.ref a1)) (fun h => by rw [Bd.returns] at h; cases h)
  refine ⟨_, _, pre0 _ ?_, hrun, hended, _, _, rfl, ?_, ⟨_, rfl⟩, hW, hsame.mono (by decide) (by decide)⟩
  · show Steps p.tables e below (s₁.setTop (mkF m 0 #[.val (.ref a1), .val (.ref a2), .unset] [])) _
    refine XS.aloadN X0.here hx rfl (hb hby d16_0) rfl rfl ?_
    show Steps p.tables e below (s₁.setTop (mkF m 1 #[.val (.ref a1), .val (.ref a2), .unset] [(.ref a2)])) _
    refine XS.ifnonnullYes X0.here hx rfl (pc0 := 1) (pc' := 9) rfl (hb hby d16_1) rfl (by decide) (by decide) ?_
    show Steps p.tables e below (s₁.setTop (mkF m 9 #[.val (.ref a1), .val (.ref a2), .unset] [])) _
    refine XS.aloadN X0.here hx rfl (hb hby d16_9) rfl rfl ?_
    show Steps p.tables e below (s₁.setTop (mkF m 10 #[.val (.ref a1), .val (.ref a2), .unset] [(.ref a2)])) _
    refine st1.trans ?_
    show Steps p.tables e below (T1.setTop (mkF m 13 #[.val (.ref a1), .val (.ref a2), .unset] [(.int (Int32.ofNat src.length))])) _
    refine XS.istoreN X1.here hx rfl (hb hby d16_13) rfl (l' := #[.val (.ref a1), .val (.ref a2), .val (.int (Int32.ofNat src.length))]) rfl ?_
    show Steps p.tables e below (T1.setTop (mkF m 14 #[.val (.ref a1), .val (.ref a2), .val (.int (Int32.ofNat src.length))] [])) _
    refine XS.aloadN X1.here hx rfl (hb hby d16_14) rfl rfl ?_
    show Steps p.tables e below (T1.setTop (mkF m 15 #[.val (.ref a1), .val (.ref a2), .val (.int (Int32.ofNat src.length))] [(.ref a1)])) _
    refine XS.aloadN X1.here hx rfl (hb hby d16_15) rfl rfl ?_
    show Steps p.tables e below (T1.setTop (mkF m 16 #[.val (.ref a1), .val (.ref a2), .val (.int (Int32.ofNat src.length))] [(.ref a1), (.ref a1)])) _
    refine st2 _ ?_
    show Steps p.tables e below (T2.setTop (mkF m 19 #[.val (.ref a1), .val (.ref a2), .val (.int (Int32.ofNat src.length))] [(.int (Int32.ofNat cn)), (.ref a1)])) _
    refine XS.iloadN X2.here hx rfl (hb hby d16_19) rfl ?_
    show Steps p.tables e below (T2.setTop (mkF m 20 #[.val (.ref a1), .val (.ref a2), .val (.int (Int32.ofNat src.length))] [(.int (Int32.ofNat src.length)), (.int (Int32.ofNat cn)), (.ref a1)])) _
    refine XS.iadd X2.here hx rfl (hb hby d16_20) rfl ?_
    show Steps p.tables e below (T2.setTop (mkF m 21 #[.val (.ref a1), .val (.ref a2), .val (.int (Int32.ofNat src.length))] [(.int ((Int32.ofNat cn) + (Int32.ofNat src.length))), (.ref a1)])) _
    rw [nq3]
    show Steps p.tables e below (T2.setTop (mkF m 21 #[.val (.ref a1), .val (.ref a2), .val (.int (Int32.ofNat src.length))] [(.int (Int32.ofNat (cn + src.length))), (.ref a1)])) _
    refine st4.trans ?_
    show Steps p.tables e below (T4.setTop (mkF m 24 #[.val (.ref a1), .val (.ref a2), .val (.int (Int32.ofNat src.length))] [])) _
    refine XS.aloadN X4.here hx rfl (hb hby d16_24) rfl rfl ?_
    show Steps p.tables e below (T4.setTop (mkF m 25 #[.val (.ref a1), .val (.ref a2), .val (.int (Int32.ofNat src.length))] [(.ref a1)])) _
    refine XS.aloadN X4.here hx rfl (hb hby d16_25) rfl rfl ?_
    show Steps p.tables e below (T4.setTop (mkF m 26 #[.val (.ref a1), .val (.ref a2), .val (.int (Int32.ofNat src.length))] [(.ref a1), (.ref a1)])) _
    refine st5 _ ?_
    show Steps p.tables e below (T5.setTop (mkF m 29 #[.val (.ref a1), .val (.ref a2), .val (.int (Int32.ofNat src.length))] [(.int (Int32.ofNat cn)), (.ref a1)])) _
    refine XS.aloadN X5.here hx rfl (hb hby d16_29) rfl rfl ?_
    show Steps p.tables e below (T5.setTop (mkF m 30 #[.val (.ref a1), .val (.ref a2), .val (.int (Int32.ofNat src.length))] [(.ref a2), (.int (Int32.ofNat cn)), (.ref a1)])) _
    refine st6.trans ?_
    show Steps p.tables e below (T6.setTop (mkF m 33 #[.val (.ref a1), .val (.ref a2), .val (.int (Int32.ofNat src.length))] [])) _
    refine XS.aloadN X6.here hx rfl (hb hby d16_33) rfl rfl ?_
    show Steps p.tables e below (T6.setTop (mkF m 34 #[.val (.ref a1), .val (.ref a2), .val (.int (Int32.ofNat src.length))] [(.ref a1)])) _
    refine XS.dup X6.here hx rfl (hb hby d16_34) rfl rfl ?_
    show Steps p.tables e below (T6.setTop (mkF m 35 #[.val (.ref a1), .val (.ref a2), .val (.int (Int32.ofNat src.length))] [(.ref a1), (.ref a1)])) _
    refine st7 _ ?_
    show Steps p.tables e below (T7.setTop (mkF m 38 #[.val (.ref a1), .val (.ref a2), .val (.int (Int32.ofNat src.length))] [(.int (Int32.ofNat cn)), (.ref a1)])) _
    refine XS.iloadN X7.here hx rfl (hb hby d16_38) rfl ?_
    show Steps p.tables e below (T7.setTop (mkF m 39 #[.val (.ref a1), .val (.ref a2), .val (.int (Int32.ofNat src.length))] [(.int (Int32.ofNat src.length)), (.int (Int32.ofNat cn)), (.ref a1)])) _
    refine XS.iadd X7.here hx rfl (hb hby d16_39) rfl ?_
    show Steps p.tables e below (T7.setTop (mkF m 40 #[.val (.ref a1), .val (.ref a2), .val (.int (Int32.ofNat src.length))] [(.int ((Int32.ofNat cn) + (Int32.ofNat src.length))), (.ref a1)])) _
    rw [nq8]
    show Steps p.tables e below (T7.setTop (mkF m 40 #[.val (.ref a1), .val (.ref a2), .val (.int (Int32.ofNat src.length))] [(.int (Int32.ofNat (cn + src.length))), (.ref a1)])) _
    refine st9 _ ?_
    show Steps p.tables e below (T9.setTop (mkF m 43 #[.val (.ref a1), .val (.ref a2), .val (.int (Int32.ofNat src.length))] [])) _
    refine XS.aloadN X9.here hx rfl (hb hby d16_43) rfl rfl ?_
    show Steps p.tables e below (T9.setTop (mkF m 44 #[.val (.ref a1), .val (.ref a2), .val (.int (Int32.ofNat src.length))] [(.ref a1)])) _
    exact retOut X9 hx (t := (.object "java/lang/AbstractStringBuilder")) Bd.returns rfl (Or.inr (Or.inr (Or.inr (Or.inr ⟨rfl, rfl, rfl⟩)))) (hb hby d16_44) hr
  · show Q16 Z a1 a2 cs d dk ds cn sd sk src h0 n0 _ T9.heap _
    rw [e9]
    exact ⟨_, _, _, rfl, N9, K9, E_a1_9, F_a1_value_9, F_a1_coder_9, F_a1_count_9, V_d__4_9, (app_len hn).trans len_4, app_take qn tk_4 hn, mb_4⟩

theorem d15_0 : decode jdk_67_method_7_code 0 = .ok (.aload_n 0, 1) := by decide +kernel
theorem d15_1 : decode jdk_67_method_7_code 1 = .ok (.aload_n 1, 1) := by decide +kernel
theorem d15_2 : decode jdk_67_method_7_code 2 = .ok (.invokespecial 29, 3) := by decide +kernel
theorem d15_5 : decode jdk_67_method_7_code 5 = .ok (.pop, 1) := by decide +kernel
theorem d15_6 : decode jdk_67_method_7_code 6 = .ok (.aload_n 0, 1) := by decide +kernel
theorem d15_7 : decode jdk_67_method_7_code 7 = .ok (.areturn, 1) := by decide +kernel
theorem pn_15 : plainName "java/lang/StringBuilder" = true := by first | (simp [plainName, overriddenIn]; done) | decide +kernel
theorem ef_15 (m : MethodId) (a1 : Addr) (a2 : Addr) : entryFrame m #[(.ref a1), (.ref a2)] 2 = mkF m 0 #[.val (.ref a1), .val (.ref a2)] [] := by first | (simp [entryFrame, mkF, argsToLocals, Value.category]; done) | rfl
def Q15 (Z : State) (a1 : Addr) (a2 : Addr) (cs : Int32) (d : Addr) (dk : ClassId) (ds : List Int32) (cn : Nat) (sd : Addr) (sk : ClassId) (src : List Int32) (h0 : Heap) (n0 : Nat) (v : Option Value) (h : Heap) (L : List Loc) : Prop := ∃ (d' : Addr) (k' : ClassId) (bs' : List Int32), v = some (.ref a1) ∧ Fr n0 L ∧ Keep h0 h [a1, d] ∧ Exa Z h a1 "java/lang/StringBuilder" ∧ Fld Z h a1 "java/lang/AbstractStringBuilder" "value" "[B" (.ref d') ∧ Fld Z h a1 "java/lang/AbstractStringBuilder" "coder" "B" (.int 0) ∧ Fld Z h a1 "java/lang/AbstractStringBuilder" "count" "I" (.int (Int32.ofNat (cn + src.length))) ∧ BL Z h d' k' bs' ∧ bs'.length = cap2 ds.length (cn + src.length) ∧ bs'.take (cn + src.length) = ds.take cn ++ src ∧ (d' = d ∨ h0.size ≤ d')
set_option maxRecDepth 65536 in
set_option maxHeartbeats 40000000 in
theorem rm15 (l : Launch) (Z : State) (a0 : Array Value) (hw : ∀ d ∈ tables_1, d.before a0 Z = true) (ws : List Jvm.Cond) (a1 : Addr) (a2 : Addr) (h0 : Heap) (n0 : Nat) (cs : Int32) (d : Addr) (dk : ClassId) (ds : List Int32) (cn : Nat) (sd : Addr) (sk : ClassId) (src : List Int32) (CS : Sta Z Z.heap "java/lang/String" "COMPACT_STRINGS" "Z" (.int cs)) (hcs : ¬ cs = 0) (O0 : Old Z n0 h0) (E_a1 : Exa Z h0 a1 "java/lang/StringBuilder") (F_a1_v : Fld Z h0 a1 "java/lang/AbstractStringBuilder" "value" "[B" (.ref d)) (F_a1_c : Fld Z h0 a1 "java/lang/AbstractStringBuilder" "coder" "B" (.int 0)) (F_a1_n : Fld Z h0 a1 "java/lang/AbstractStringBuilder" "count" "I" (.int (Int32.ofNat cn))) (V_d : BL Z h0 d dk ds) (E_a2 : Exa Z h0 a2 "java/lang/String") (F_a2_c : Fld Z h0 a2 "java/lang/String" "coder" "B" (.int 0)) (F_a2_v : Fld Z h0 a2 "java/lang/String" "value" "[B" (.ref sd)) (V_sd : B0 Z h0 sd sk src) (qn : cn ≤ ds.length) (qm : cn + src.length ≤ ds.length) (qL : ds.length ≤ 70) (g_a1 : n0 ≤ a1) (g_d : n0 ≤ d) (Z0 : n0 ≤ h0.size) (ne_2 : sd ≠ d) :
    MetFree l (⟨"java/lang/StringBuilder", "append", "(Ljava/lang/String;)Ljava/lang/StringBuilder;"⟩ : MethodName) (head1 (Jvm.Cond.code (⟨"java/lang/StringBuilder", "append", "(Ljava/lang/String;)Ljava/lang/StringBuilder;"⟩ : MethodName) jdk_67_method_7_code 2 (some (.object "java/lang/StringBuilder")) :: ws) ({ frames := 4, cells := 0, slots := 0, locals := 93 } : Room)) (fun a U => a = #[(.ref a1), (.ref a2)] ∧ Z.Warmed39 U.vm ∧ U.heap = h0) (fun _ _ _ _ _ => True) (fun _ U o U' => ∃ v L, o = .returned v ∧ Q15 Z a1 a2 cs d dk ds cn sd sk src h0 n0 v U'.heap L ∧ FrameEnd U o U' L ({ frames := 4, cells := 0, slots := 0, locals := 93 } : Room).cells ({ frames := 4, cells := 0, slots := 0, locals := 93 } : Room).slots) := by
  refine MetFree.of_bodySF (plainFor_of_name pn_15) hisR ?_
  intro p e s m args below meth c s₁ Bd hml0 hP hK
  obtain ⟨rfl, hZ, hh⟩ := hP
  have hx := Bd.exec
  have hby := Bd.bytes
  have hml : c.maxLocals = 2 := hml0
  have hown0 := findClass_of_methodNamed Bd.named
  have hown : s.vm.findClass "java/lang/StringBuilder" = some m.cls := hown0
  have hnm := (name_of_methodNamed Bd.named Bd.method).1
  have X0 : Stand p l e ({ frames := 4, cells := 0, slots := 0, locals := 93 } : Room) s m #[(.ref a1), (.ref a2)] below meth c s₁ [] 0 0 := Stand.of_body Bd
  have e0 : s₁.heap = h0 := by rw [← hh, Bd.state]; rfl
  have N0 := Fr.nil n0
  have pre0 : ∀ t, Steps p.tables e below (s₁.setTop (mkF m 0 #[.val (.ref a1), .val (.ref a2)] [])) t → Steps p.tables e below (s₁.setTop (entryFrame m #[(.ref a1), (.ref a2)] 2)) t := fun t k => castTop (ef_15 m a1 a2) k
  refine Classical.byContradiction fun hneg => ?_
  obtain ⟨_, _, ⟨T1, L1, k1, n1⟩, -, X1, ⟨Lc1, hQ1, l1, y1, z1⟩, st1⟩ := superBack X0 hx hZ (y := (⟨"java/lang/AbstractStringBuilder", "append", "(Ljava/lang/String;)Ljava/lang/AbstractStringBuilder;"⟩ : MethodName)) hown (hw _ (List.mem_of_getElem? (i := 118) rfl)) (same_self (y := (⟨"java/lang/AbstractStringBuilder", "append", "(Ljava/lang/String;)Ljava/lang/AbstractStringBuilder;"⟩ : MethodName)) (hw _ (List.mem_of_getElem? (i := 119) rfl)) (hw _ (List.mem_of_getElem? (i := 138) rfl)) rfl (by decide)) (hw _ (List.mem_of_getElem? (i := 119) rfl)) (hw _ (List.mem_of_getElem? (i := 120) rfl)) (by decide) (backOf (W := 0) (rm16 l Z a0 hw [] a1 a2 h0 n0 cs d dk ds cn sd sk src CS hcs O0 E_a1 F_a1_v F_a1_c F_a1_n V_d E_a2 F_a2_c F_a2_v V_sd qn qm (by omega) g_a1 g_d Z0 ne_2) hZ (hw _ (List.mem_of_getElem? (i := 122) rfl)) (hw _ (List.mem_of_getElem? (i := 104) rfl)) (by decide) (by decide)) e0 (Ins.self E_a1) (g := (mkF m 2 #[.val (.ref a1), .val (.ref a2)] [(.ref a2), (.ref a1)])) rfl (by rw [hml]; rfl) (hw _ (List.mem_of_getElem? (i := 122) rfl)) (argsL := [(.ref a2)]) (rest := []) (lenOf pd6 rfl) rfl (by show 2 * 0 + _ ≤ _; exact Nat.le_of_eq rfl) (hb hby d15_2) (fun _ _ => ⟨rfl, e0, (by decide : 0 + 0 ≤ _), (by decide : 0 + 0 ≤ _)⟩)
  dsimp only [Pt.U, Pt.locs, Pt.cells, Pt.slots] at X1 l1 y1 z1 st1 hQ1
  subst l1 y1 z1
  obtain ⟨d'_1, k'_1, bs'_1, rfl, N1q, Kc1, G1_0, G1_1, G1_2, G1_3, G1_4, len_1, tk_1, mb_1⟩ := hQ1
  have N1 := Fr.app N0 N1q
  have ne_a1_d'_1 : a1 ≠ d'_1 := mb_1.elim (fun q => by rw [q]; exact (Exa.neArv E_a1 V_d.1 (hw _ (List.mem_of_getElem? (i := 95) rfl)))) (fun q => Nat.ne_of_lt (Nat.lt_of_lt_of_le E_a1.lt q))
  have ne_a2_d'_1 : a2 ≠ d'_1 := mb_1.elim (fun q => by rw [q]; exact (Exa.neArv E_a2 V_d.1 (hw _ (List.mem_of_getElem? (i := 1) rfl)))) (fun q => Nat.ne_of_lt (Nat.lt_of_lt_of_le E_a2.lt q))
  have ne_sd_d'_1 : sd ≠ d'_1 := mb_1.elim (fun q => by rw [q]; exact ne_2) (fun q => Nat.ne_of_lt (Nat.lt_of_lt_of_le V_sd.lt q))
  have g_d'_1 : n0 ≤ d'_1 := mb_1.elim (fun q => by rw [q]; exact g_d) (fun q => Nat.le_trans Z0 q)
  have wk_d'_1 : d'_1 ∈ [a1, d] ∨ h0.size ≤ d'_1 := mb_1.elim (fun q => by rw [q]; exact (Or.inl (by simp))) (fun q => Or.inr (Nat.le_trans (Keep.refl h0 [a1, d]).1 q))
  have E_a2_1 := E_a2.keep Kc1
  have F_a2_coder_1 := F_a2_c.keep Kc1 (ninS (Exa.ne E_a2 E_a1 (by decide)) (ninS (Exa.neArv E_a2 V_d.1 (hw _ (List.mem_of_getElem? (i := 1) rfl))) nin0))
  have F_a2_value_1 := F_a2_v.keep Kc1 (ninS (Exa.ne E_a2 E_a1 (by decide)) (ninS (Exa.neArv E_a2 V_d.1 (hw _ (List.mem_of_getElem? (i := 1) rfl))) nin0))
  have V_sd_1 := V_sd.keep Kc1 (ninS (Ne.symm (Exa.neArv E_a1 V_sd.1 (hw _ (List.mem_of_getElem? (i := 95) rfl)))) (ninS ne_2 nin0))
  have K1 : Keep h0 T1.heap [a1, d] := (Keep.refl h0 [a1, d]).trans Kc1 (allS (P := fun x => x ∈ [a1, d] ∨ h0.size ≤ x) (Or.inl (by simp)) (allS (P := fun x => x ∈ [a1, d] ∨ h0.size ≤ x) (Or.inl (by simp)) all0))
  have Z1 : n0 ≤ T1.heap.size := Nat.le_trans Z0 Kc1.1
  have O1 := Old.keep O0 Kc1 (allS g_a1 (allS g_d all0))
  refine hneg ?_
  obtain ⟨fs, hr, hrun, hended, hW, hsame⟩ := X1.leave (v := some (.ref a1)) (fun h => by rw [Bd.returns] at h; cases h)
  refine ⟨_, _, pre0 _ ?_, hrun, hended, _, _, rfl, ?_, ⟨_, rfl⟩, hW, hsame.mono (by decide) (by decide)⟩
  · show Steps p.tables e below (s₁.setTop (mkF m 0 #[.val (.ref a1), .val (.ref a2)] [])) _
    refine XS.aloadN X0.here hx rfl (hb hby d15_0) rfl rfl ?_
    show Steps p.tables e below (s₁.setTop (mkF m 1 #[.val (.ref a1), .val (.ref a2)] [(.ref a1)])) _
    refine XS.aloadN X0.here hx rfl (hb hby d15_1) rfl rfl ?_
    show Steps p.tables e below (s₁.setTop (mkF m 2 #[.val (.ref a1), .val (.ref a2)] [(.ref a2), (.ref a1)])) _
    refine st1.trans ?_
    show Steps p.tables e below (T1.setTop (mkF m 5 #[.val (.ref a1), .val (.ref a2)] [(.ref a1)])) _
    refine XS.pop X1.here hx rfl (hb hby d15_5) rfl rfl ?_
    show Steps p.tables e below (T1.setTop (mkF m 6 #[.val (.ref a1), .val (.ref a2)] [])) _
    refine XS.aloadN X1.here hx rfl (hb hby d15_6) rfl rfl ?_
    show Steps p.tables e below (T1.setTop (mkF m 7 #[.val (.ref a1), .val (.ref a2)] [(.ref a1)])) _
    exact retOut X1 hx (t := (.object "java/lang/StringBuilder")) Bd.returns rfl (Or.inr (Or.inr (Or.inr (Or.inr ⟨rfl, rfl, rfl⟩)))) (hb hby d15_7) hr
  · show Q15 Z a1 a2 cs d dk ds cn sd sk src h0 n0 _ T1.heap _
    exact ⟨_, _, _, rfl, N1, K1, G1_0, G1_1, G1_2, G1_3, G1_4, len_1, tk_1, mb_1⟩

theorem d29_0 : decode jdk_68_method_68_code 0 = .ok (.getstatic 18, 3) := by decide +kernel
theorem d29_3 : decode jdk_68_method_68_code 3 = .ok (.ifCond .eq 14, 3) := by decide +kernel
theorem d29_6 : decode jdk_68_method_68_code 6 = .ok (.aload_n 0, 1) := by decide +kernel
theorem d29_7 : decode jdk_68_method_68_code 7 = .ok (.getfield 22, 3) := by decide +kernel
theorem d29_10 : decode jdk_68_method_68_code 10 = .ok (.ifCond .ne 7, 3) := by decide +kernel
theorem d29_13 : decode jdk_68_method_68_code 13 = .ok (.iconst 1, 1) := by decide +kernel
theorem d29_14 : decode jdk_68_method_68_code 14 = .ok (.goto 4, 3) := by decide +kernel
theorem d29_18 : decode jdk_68_method_68_code 18 = .ok (.ireturn, 1) := by decide +kernel
theorem pn_29 : plainName "java/lang/AbstractStringBuilder" = true := by first | (simp [plainName, overriddenIn]; done) | decide +kernel
theorem ef_29 (m : MethodId) (a1 : Addr) : entryFrame m #[(.ref a1)] 1 = mkF m 0 #[.val (.ref a1)] [] := by first | (simp [entryFrame, mkF, argsToLocals, Value.category]; done) | rfl
def Q29 (Z : State) (a1 : Addr) (cs : Int32) (h0 : Heap) (n0 : Nat) (v : Option Value) (h : Heap) (L : List Loc) : Prop := v = some (.int (1 : Int32)) ∧ Fr n0 L ∧ h = h0
set_option maxRecDepth 65536 in
set_option maxHeartbeats 40000000 in
theorem rm29 (l : Launch) (Z : State) (a0 : Array Value) (hw : ∀ d ∈ tables_1, d.before a0 Z = true) (ws : List Jvm.Cond) (a1 : Addr) (h0 : Heap) (n0 : Nat) (cs : Int32) (CS : Sta Z Z.heap "java/lang/String" "COMPACT_STRINGS" "Z" (.int cs)) (hcs : ¬ cs = 0) (O0 : Old Z n0 h0) (F_a1_c : Fld Z h0 a1 "java/lang/AbstractStringBuilder" "coder" "B" (.int 0)) :
    MetFree l (⟨"java/lang/AbstractStringBuilder", "isLatin1", "()Z"⟩ : MethodName) (head1 (Jvm.Cond.code (⟨"java/lang/AbstractStringBuilder", "isLatin1", "()Z"⟩ : MethodName) jdk_68_method_68_code 1 (some .boolean) :: ws) ({ frames := 0, cells := 0, slots := 0, locals := 0 } : Room)) (fun a U => a = #[(.ref a1)] ∧ Z.Warmed39 U.vm ∧ U.heap = h0) (fun _ _ _ _ _ => True) (fun _ U o U' => ∃ v L, o = .returned v ∧ Q29 Z a1 cs h0 n0 v U'.heap L ∧ FrameEnd U o U' L ({ frames := 0, cells := 0, slots := 0, locals := 0 } : Room).cells ({ frames := 0, cells := 0, slots := 0, locals := 0 } : Room).slots) := by
  refine MetFree.of_bodySF (plainFor_of_name pn_29) hisR ?_
  intro p e s m args below meth c s₁ Bd hml0 hP hK
  obtain ⟨rfl, hZ, hh⟩ := hP
  have hx := Bd.exec
  have hby := Bd.bytes
  have hml : c.maxLocals = 1 := hml0
  have hown0 := findClass_of_methodNamed Bd.named
  have hown : s.vm.findClass "java/lang/AbstractStringBuilder" = some m.cls := hown0
  have hnm := (name_of_methodNamed Bd.named Bd.method).1
  have X0 : Stand p l e ({ frames := 0, cells := 0, slots := 0, locals := 0 } : Room) s m #[(.ref a1)] below meth c s₁ [] 0 0 := Stand.of_body Bd
  have e0 : s₁.heap = h0 := by rw [← hh, Bd.state]; rfl
  have N0 := Fr.nil n0
  have pre0 : ∀ t, Steps p.tables e below (s₁.setTop (mkF m 0 #[.val (.ref a1)] [])) t → Steps p.tables e below (s₁.setTop (entryFrame m #[(.ref a1)] 1)) t := fun t k => castTop (ef_29 m a1) k
  refine Classical.byContradiction fun hneg => ?_
  obtain ⟨T1, X1, e1, st1⟩ := getS2 X0 hx hZ hown (host := "") (Or.inl (hw _ (List.mem_of_getElem? (i := 107) rfl))) Via.refl e0 (CS.ext O0.2) (g := (mkF m 0 #[.val (.ref a1)] [])) rfl (hb hby d29_0)
  obtain ⟨T2, X2, e2, st2⟩ := getF X1 hx hZ hown (host := "") (Or.inl (hw _ (List.mem_of_getElem? (i := 110) rfl))) Via.refl e1 F_a1_c (g := (mkF m 7 #[.val (.ref a1)] [(.ref a1)])) rfl rfl (hb hby d29_7)
  refine hneg ?_
  obtain ⟨fs, hr, hrun, hended, hW, hsame⟩ := X2.leave (v := some (.int (1 : Int32))) (fun h => by rw [Bd.returns] at h; cases h)
  refine ⟨_, _, pre0 _ ?_, hrun, hended, _, _, rfl, ?_, ⟨_, rfl⟩, hW, hsame.mono (by decide) (by decide)⟩
  · show Steps p.tables e below (s₁.setTop (mkF m 0 #[.val (.ref a1)] [])) _
    refine st1 _ ?_
    show Steps p.tables e below (T1.setTop (mkF m 3 #[.val (.ref a1)] [(.int cs)])) _
    refine XS.ifNo X1.here hx rfl (hb hby d29_3) rfl ((if0 _ _).trans (feq hcs).1) ?_
    show Steps p.tables e below (T1.setTop (mkF m 6 #[.val (.ref a1)] [])) _
    refine XS.aloadN X1.here hx rfl (hb hby d29_6) rfl rfl ?_
    show Steps p.tables e below (T1.setTop (mkF m 7 #[.val (.ref a1)] [(.ref a1)])) _
    refine st2 _ ?_
    show Steps p.tables e below (T2.setTop (mkF m 10 #[.val (.ref a1)] [(.int (0 : Int32))])) _
    refine XS.ifNo X2.here hx rfl (hb hby d29_10) rfl ((if0 _ _).trans (teq (by decide : (0 : Int32) = (0 : Int32))).2) ?_
    show Steps p.tables e below (T2.setTop (mkF m 13 #[.val (.ref a1)] [])) _
    refine XS.iconst X2.here hx rfl (hb hby d29_13) ?_
    show Steps p.tables e below (T2.setTop (mkF m 14 #[.val (.ref a1)] [(.int (1 : Int32))])) _
    refine XS.goto X2.here hx rfl (pc0 := 14) (pc' := 18) rfl (hb hby d29_14) (by decide) (by decide) ?_
    show Steps p.tables e below (T2.setTop (mkF m 18 #[.val (.ref a1)] [(.int (1 : Int32))])) _
    exact retN X2 hx (t := .boolean) Bd.returns (by simp) (hb hby d29_18) hr
  · show Q29 Z a1 cs h0 n0 _ T2.heap _
    rw [e2]
    exact ⟨rfl, N0, rfl⟩

theorem d14_0 : decode jdk_68_method_2_code 0 = .ok (.aload_n 0, 1) := by decide +kernel
theorem d14_1 : decode jdk_68_method_2_code 1 = .ok (.invokespecial 3, 3) := by decide +kernel
theorem d14_4 : decode jdk_68_method_2_code 4 = .ok (.getstatic 18, 3) := by decide +kernel
theorem d14_7 : decode jdk_68_method_2_code 7 = .ok (.ifCond .eq 18, 3) := by decide +kernel
theorem d14_10 : decode jdk_68_method_2_code 10 = .ok (.aload_n 0, 1) := by decide +kernel
theorem d14_11 : decode jdk_68_method_2_code 11 = .ok (.iload_n 1, 1) := by decide +kernel
theorem d14_12 : decode jdk_68_method_2_code 12 = .ok (.newarray .byte, 2) := by decide +kernel
theorem d14_14 : decode jdk_68_method_2_code 14 = .ok (.putfield 15, 3) := by decide +kernel
theorem d14_17 : decode jdk_68_method_2_code 17 = .ok (.aload_n 0, 1) := by decide +kernel
theorem d14_18 : decode jdk_68_method_2_code 18 = .ok (.iconst 0, 1) := by decide +kernel
theorem d14_19 : decode jdk_68_method_2_code 19 = .ok (.putfield 22, 3) := by decide +kernel
theorem d14_22 : decode jdk_68_method_2_code 22 = .ok (.goto 16, 3) := by decide +kernel
theorem d14_38 : decode jdk_68_method_2_code 38 = .ok (.return_, 1) := by decide +kernel
theorem pn_14 : plainName "java/lang/AbstractStringBuilder" = true := by first | (simp [plainName, overriddenIn]; done) | decide +kernel
theorem ef_14 (m : MethodId) (a1 : Addr) (zf1 : Int32) : entryFrame m #[(.ref a1), (.int zf1)] 2 = mkF m 0 #[.val (.ref a1), .val (.int zf1)] [] := by first | (simp [entryFrame, mkF, argsToLocals, Value.category]; done) | rfl
def Q14 (Z : State) (a1 : Addr) (cs : Int32) (h0 : Heap) (n0 : Nat) (v : Option Value) (h : Heap) (L : List Loc) : Prop := ∃ (d' : Addr) (k' : ClassId) (bs' : List Int32), v = none ∧ Fr n0 L ∧ Keep h0 h [a1] ∧ Exa Z h a1 "java/lang/StringBuilder" ∧ Fld Z h a1 "java/lang/AbstractStringBuilder" "value" "[B" (.ref d') ∧ Fld Z h a1 "java/lang/AbstractStringBuilder" "coder" "B" (.int 0) ∧ Fld Z h a1 "java/lang/AbstractStringBuilder" "count" "I" (.int (Int32.ofNat 0)) ∧ BL Z h d' k' bs' ∧ bs' = List.replicate 16 (0 : Int32) ∧ h0.size ≤ d'
set_option maxRecDepth 65536 in
set_option maxHeartbeats 40000000 in
theorem rm14 (l : Launch) (Z : State) (a0 : Array Value) (hw : ∀ d ∈ tables_1, d.before a0 Z = true) (ws : List Jvm.Cond) (a1 : Addr) (h0 : Heap) (n0 : Nat) (cs : Int32) (CS : Sta Z Z.heap "java/lang/String" "COMPACT_STRINGS" "Z" (.int cs)) (hcs : ¬ cs = 0) (O0 : Old Z n0 h0) (u_v u_c : Value) (Z0 : n0 ≤ h0.size) (g_a1 : n0 ≤ a1) (E_a1 : Exa Z h0 a1 "java/lang/StringBuilder") (F_a1_v : Fld Z h0 a1 "java/lang/AbstractStringBuilder" "value" "[B" u_v) (F_a1_c : Fld Z h0 a1 "java/lang/AbstractStringBuilder" "coder" "B" u_c) (F_a1_n : Fld Z h0 a1 "java/lang/AbstractStringBuilder" "count" "I" (.int 0)) :
    MetFree l (⟨"java/lang/AbstractStringBuilder", "<init>", "(I)V"⟩ : MethodName) (head1 (Jvm.Cond.code (⟨"java/lang/AbstractStringBuilder", "<init>", "(I)V"⟩ : MethodName) jdk_68_method_2_code 2 none :: ws) ({ frames := 1, cells := 1, slots := 16, locals := 12 } : Room)) (fun a U => a = #[(.ref a1), (.int (16 : Int32))] ∧ Z.Warmed39 U.vm ∧ U.heap = h0) (fun _ _ _ _ _ => True) (fun _ U o U' => ∃ v L, o = .returned v ∧ Q14 Z a1 cs h0 n0 v U'.heap L ∧ FrameEnd U o U' L ({ frames := 1, cells := 1, slots := 16, locals := 12 } : Room).cells ({ frames := 1, cells := 1, slots := 16, locals := 12 } : Room).slots) := by
  refine MetFree.of_bodySF (plainFor_of_name pn_14) hisR ?_
  intro p e s m args below meth c s₁ Bd hml0 hP hK
  obtain ⟨rfl, hZ, hh⟩ := hP
  have hx := Bd.exec
  have hby := Bd.bytes
  have hml : c.maxLocals = 2 := hml0
  have hown0 := findClass_of_methodNamed Bd.named
  have hown : s.vm.findClass "java/lang/AbstractStringBuilder" = some m.cls := hown0
  have hnm := (name_of_methodNamed Bd.named Bd.method).1
  have X0 : Stand p l e ({ frames := 1, cells := 1, slots := 16, locals := 12 } : Room) s m #[(.ref a1), (.int (16 : Int32))] below meth c s₁ [] 0 0 := Stand.of_body Bd
  have e0 : s₁.heap = h0 := by rw [← hh, Bd.state]; rfl
  have N0 := Fr.nil n0
  have pre0 : ∀ t, Steps p.tables e below (s₁.setTop (mkF m 0 #[.val (.ref a1), .val (.int (16 : Int32))] [])) t → Steps p.tables e below (s₁.setTop (entryFrame m #[(.ref a1), (.int (16 : Int32))] 2)) t := fun t k => castTop (ef_14 m a1 ((16 : Int32))) k
  refine Classical.byContradiction fun hneg => ?_
  obtain ⟨T1, X1, e1, st1⟩ := initO X0 hx hZ hown (hw _ (List.mem_of_getElem? (i := 106) rfl)) (hw _ (List.mem_of_getElem? (i := 12) rfl)) (hw _ (List.mem_of_getElem? (i := 13) rfl)) e0 (g := (mkF m 1 #[.val (.ref a1), .val (.int (16 : Int32))] [(.ref a1)])) rfl (by rw [hml]; rfl) rfl (hb hby d14_1) (by decide) (W := 0) (by show 2 * 0 + _ ≤ _; exact Nat.le_of_eq rfl) (by decide)
  obtain ⟨T2, X2, e2, st2⟩ := getS2 X1 hx hZ hown (host := "") (Or.inl (hw _ (List.mem_of_getElem? (i := 107) rfl))) Via.refl e1 (CS.ext O0.2) (g := (mkF m 4 #[.val (.ref a1), .val (.int (16 : Int32))] [])) rfl (hb hby d14_4)
  obtain ⟨T3, h3, k3, X3, e3, E3, V3, st3⟩ := newB X2 hx hZ (hw _ (List.mem_of_getElem? (i := 19) rfl)) e2 (g := (mkF m 12 #[.val (.ref a1), .val (.int (16 : Int32))] [(.int (16 : Int32)), (.ref a1)])) rfl (hb hby d14_12) (n := 16) rfl (cap := 16) (by decide) (by decide) (by decide) (by decide)
  obtain ⟨b3, g3⟩ : ∃ z, z = h0.size := ⟨_, rfl⟩
  rw [← g3] at V3 st3
  have ne_a1_b3 : a1 ≠ b3 := Nat.ne_of_lt (Nat.lt_of_lt_of_le E_a1.lt (Nat.le_of_eq g3.symm))
  have g_b3 : n0 ≤ b3 := Nat.le_trans Z0 (Nat.le_of_eq g3.symm)
  have sz_b3 : h0.size ≤ b3 := Nat.le_trans (Keep.refl h0 [a1]).1 (Nat.le_of_eq g3.symm)
  have E_a1_3 := E_a1.ext E3
  have F_a1_value_3 := F_a1_v.ext E3
  have F_a1_coder_3 := F_a1_c.ext E3
  have F_a1_count_3 := F_a1_n.ext E3
  have K3 : Keep h0 h3 [a1] := (Keep.refl h0 [a1]).ext E3
  have Z3 : n0 ≤ h3.size := Nat.le_trans Z0 E3.1
  have O3 := Old.ext O0 E3
  obtain ⟨T4, h4, X4, e4, W4, st4⟩ := putF X3 hx hZ hown (host := "") (Or.inl (hw _ (List.mem_of_getElem? (i := 108) rfl))) Via.refl e3 F_a1_value_3 E_a1_3 (Or.inl (hw _ (List.mem_of_getElem? (i := 109) rfl))) (hw _ (List.mem_of_getElem? (i := 95) rfl)) (ty := (.array .byte)) (by decide) rfl rfl (g := (mkF m 14 #[.val (.ref a1), .val (.int (16 : Int32))] [(.ref b3), (.ref a1)])) rfl rfl (hb hby d14_14)
  have E_a1_4 := E_a1_3.wr W4
  have F_a1_value_4 := F_a1_value_3.same W4
  have F_a1_coder_4 := F_a1_coder_3.other W4 (Or.inr (slot_ne (Or.inl (hw _ (List.mem_of_getElem? (i := 111) rfl))) (Or.inl (hw _ (List.mem_of_getElem? (i := 109) rfl))) (by decide) (t := .byte) (t' := (.array .byte)) (by decide) (by decide)))
  have F_a1_count_4 := F_a1_count_3.other W4 (Or.inr (slot_ne (Or.inl (hw _ (List.mem_of_getElem? (i := 134) rfl))) (Or.inl (hw _ (List.mem_of_getElem? (i := 109) rfl))) (by decide) (t := .int) (t' := (.array .byte)) (by decide) (by decide)))
  have V_b3_4 := V3.other W4 (Ne.symm ne_a1_b3)
  have K4 : Keep h0 h4 [a1] := K3.wr W4 (Or.inl (by simp))
  have N4 := Fr.snoc X4 N0 g_a1
  have Z4 : n0 ≤ h4.size := Nat.le_trans Z3 (Keep.of_wr W4).1
  have O4 := Old.wr O3 W4 g_a1
  obtain ⟨T5, h5, X5, e5, W5, st5⟩ := putF X4 hx hZ hown (host := "") (Or.inl (hw _ (List.mem_of_getElem? (i := 110) rfl))) Via.refl e4 F_a1_coder_4 E_a1_4 (Or.inl (hw _ (List.mem_of_getElem? (i := 111) rfl))) (hw _ (List.mem_of_getElem? (i := 95) rfl)) (ty := .byte) (by decide) rfl rfl (g := (mkF m 19 #[.val (.ref a1), .val (.int (16 : Int32))] [(.int (0 : Int32)), (.ref a1)])) rfl rfl (hb hby d14_19)
  have E_a1_5 := E_a1_4.wr W5
  have F_a1_value_5 := F_a1_value_4.other W5 (Or.inr (slot_ne (Or.inl (hw _ (List.mem_of_getElem? (i := 109) rfl))) (Or.inl (hw _ (List.mem_of_getElem? (i := 111) rfl))) (by decide) (t := (.array .byte)) (t' := .byte) (by decide) (by decide)))
  have F_a1_coder_5 := F_a1_coder_4.same W5
  have F_a1_count_5 := F_a1_count_4.other W5 (Or.inr (slot_ne (Or.inl (hw _ (List.mem_of_getElem? (i := 134) rfl))) (Or.inl (hw _ (List.mem_of_getElem? (i := 111) rfl))) (by decide) (t := .int) (t' := .byte) (by decide) (by decide)))
  have V_b3_5 := V_b3_4.other W5 (Ne.symm ne_a1_b3)
  have K5 : Keep h0 h5 [a1] := K4.wr W5 (Or.inl (by simp))
  have N5 := Fr.snoc X5 N4 g_a1
  have Z5 : n0 ≤ h5.size := Nat.le_trans Z4 (Keep.of_wr W5).1
  have O5 := Old.wr O4 W5 g_a1
  refine hneg ?_
  obtain ⟨fs, hr, hrun, hended, hW, hsame⟩ := X5.leave (v := none) (fun _ => rfl)
  refine ⟨_, _, pre0 _ ?_, hrun, hended, _, _, rfl, ?_, ⟨_, rfl⟩, hW, hsame.mono (by decide) (by decide)⟩
  · show Steps p.tables e below (s₁.setTop (mkF m 0 #[.val (.ref a1), .val (.int (16 : Int32))] [])) _
    refine XS.aloadN X0.here hx rfl (hb hby d14_0) rfl rfl ?_
    show Steps p.tables e below (s₁.setTop (mkF m 1 #[.val (.ref a1), .val (.int (16 : Int32))] [(.ref a1)])) _
    refine st1 _ ?_
    show Steps p.tables e below (T1.setTop (mkF m 4 #[.val (.ref a1), .val (.int (16 : Int32))] [])) _
    refine st2 _ ?_
    show Steps p.tables e below (T2.setTop (mkF m 7 #[.val (.ref a1), .val (.int (16 : Int32))] [(.int cs)])) _
    refine XS.ifNo X2.here hx rfl (hb hby d14_7) rfl ((if0 _ _).trans (feq hcs).1) ?_
    show Steps p.tables e below (T2.setTop (mkF m 10 #[.val (.ref a1), .val (.int (16 : Int32))] [])) _
    refine XS.aloadN X2.here hx rfl (hb hby d14_10) rfl rfl ?_
    show Steps p.tables e below (T2.setTop (mkF m 11 #[.val (.ref a1), .val (.int (16 : Int32))] [(.ref a1)])) _
    refine XS.iloadN X2.here hx rfl (hb hby d14_11) rfl ?_
    show Steps p.tables e below (T2.setTop (mkF m 12 #[.val (.ref a1), .val (.int (16 : Int32))] [(.int (16 : Int32)), (.ref a1)])) _
    refine st3 _ ?_
    show Steps p.tables e below (T3.setTop (mkF m 14 #[.val (.ref a1), .val (.int (16 : Int32))] [(.ref b3), (.ref a1)])) _
    refine st4 _ ?_
    show Steps p.tables e below (T4.setTop (mkF m 17 #[.val (.ref a1), .val (.int (16 : Int32))] [])) _
    refine XS.aloadN X4.here hx rfl (hb hby d14_17) rfl rfl ?_
    show Steps p.tables e below (T4.setTop (mkF m 18 #[.val (.ref a1), .val (.int (16 : Int32))] [(.ref a1)])) _
    refine XS.iconst X4.here hx rfl (hb hby d14_18) ?_
    show Steps p.tables e below (T4.setTop (mkF m 19 #[.val (.ref a1), .val (.int (16 : Int32))] [(.int (0 : Int32)), (.ref a1)])) _
    refine st5 _ ?_
    show Steps p.tables e below (T5.setTop (mkF m 22 #[.val (.ref a1), .val (.int (16 : Int32))] [])) _
    refine XS.goto X5.here hx rfl (pc0 := 22) (pc' := 38) rfl (hb hby d14_22) (by decide) (by decide) ?_
    show Steps p.tables e below (T5.setTop (mkF m 38 #[.val (.ref a1), .val (.int (16 : Int32))] [])) _
    exact X5.returnOut hx Bd.returns (hb hby d14_38) hr
  · show Q14 Z a1 cs h0 n0 _ T5.heap _
    rw [e5]
    exact ⟨_, _, _, rfl, N5, K5, E_a1_5, F_a1_value_5, F_a1_coder_5, F_a1_count_5, V_b3_5, rfl, sz_b3⟩

theorem d13_0 : decode jdk_67_method_1_code 0 = .ok (.aload_n 0, 1) := by decide +kernel
theorem d13_1 : decode jdk_67_method_1_code 1 = .ok (.bipush 16, 2) := by decide +kernel
theorem d13_3 : decode jdk_67_method_1_code 3 = .ok (.invokespecial 1, 3) := by decide +kernel
theorem d13_6 : decode jdk_67_method_1_code 6 = .ok (.return_, 1) := by decide +kernel
theorem pn_13 : plainName "java/lang/StringBuilder" = true := by first | (simp [plainName, overriddenIn]; done) | decide +kernel
theorem ef_13 (m : MethodId) (a1 : Addr) : entryFrame m #[(.ref a1)] 1 = mkF m 0 #[.val (.ref a1)] [] := by first | (simp [entryFrame, mkF, argsToLocals, Value.category]; done) | rfl
def Q13 (Z : State) (a1 : Addr) (cs : Int32) (h0 : Heap) (n0 : Nat) (v : Option Value) (h : Heap) (L : List Loc) : Prop := ∃ (d' : Addr) (k' : ClassId) (bs' : List Int32), v = none ∧ Fr n0 L ∧ Keep h0 h [a1] ∧ Exa Z h a1 "java/lang/StringBuilder" ∧ Fld Z h a1 "java/lang/AbstractStringBuilder" "value" "[B" (.ref d') ∧ Fld Z h a1 "java/lang/AbstractStringBuilder" "coder" "B" (.int 0) ∧ Fld Z h a1 "java/lang/AbstractStringBuilder" "count" "I" (.int (Int32.ofNat 0)) ∧ BL Z h d' k' bs' ∧ bs' = List.replicate 16 (0 : Int32) ∧ h0.size ≤ d'
set_option maxRecDepth 65536 in
set_option maxHeartbeats 40000000 in
theorem rm13 (l : Launch) (Z : State) (a0 : Array Value) (hw : ∀ d ∈ tables_1, d.before a0 Z = true) (ws : List Jvm.Cond) (a1 : Addr) (h0 : Heap) (n0 : Nat) (cs : Int32) (CS : Sta Z Z.heap "java/lang/String" "COMPACT_STRINGS" "Z" (.int cs)) (hcs : ¬ cs = 0) (O0 : Old Z n0 h0) (u_v u_c : Value) (Z0 : n0 ≤ h0.size) (g_a1 : n0 ≤ a1) (E_a1 : Exa Z h0 a1 "java/lang/StringBuilder") (F_a1_v : Fld Z h0 a1 "java/lang/AbstractStringBuilder" "value" "[B" u_v) (F_a1_c : Fld Z h0 a1 "java/lang/AbstractStringBuilder" "coder" "B" u_c) (F_a1_n : Fld Z h0 a1 "java/lang/AbstractStringBuilder" "count" "I" (.int 0)) :
    MetFree l (⟨"java/lang/StringBuilder", "<init>", "()V"⟩ : MethodName) (head1 (Jvm.Cond.code (⟨"java/lang/StringBuilder", "<init>", "()V"⟩ : MethodName) jdk_67_method_1_code 1 none :: ws) ({ frames := 2, cells := 1, slots := 16, locals := 25 } : Room)) (fun a U => a = #[(.ref a1)] ∧ Z.Warmed39 U.vm ∧ U.heap = h0) (fun _ _ _ _ _ => True) (fun _ U o U' => ∃ v L, o = .returned v ∧ Q13 Z a1 cs h0 n0 v U'.heap L ∧ FrameEnd U o U' L ({ frames := 2, cells := 1, slots := 16, locals := 25 } : Room).cells ({ frames := 2, cells := 1, slots := 16, locals := 25 } : Room).slots) := by
  refine MetFree.of_bodySF (plainFor_of_name pn_13) hisR ?_
  intro p e s m args below meth c s₁ Bd hml0 hP hK
  obtain ⟨rfl, hZ, hh⟩ := hP
  have hx := Bd.exec
  have hby := Bd.bytes
  have hml : c.maxLocals = 1 := hml0
  have hown0 := findClass_of_methodNamed Bd.named
  have hown : s.vm.findClass "java/lang/StringBuilder" = some m.cls := hown0
  have hnm := (name_of_methodNamed Bd.named Bd.method).1
  have X0 : Stand p l e ({ frames := 2, cells := 1, slots := 16, locals := 25 } : Room) s m #[(.ref a1)] below meth c s₁ [] 0 0 := Stand.of_body Bd
  have e0 : s₁.heap = h0 := by rw [← hh, Bd.state]; rfl
  have N0 := Fr.nil n0
  have pre0 : ∀ t, Steps p.tables e below (s₁.setTop (mkF m 0 #[.val (.ref a1)] [])) t → Steps p.tables e below (s₁.setTop (entryFrame m #[(.ref a1)] 1)) t := fun t k => castTop (ef_13 m a1) k
  refine Classical.byContradiction fun hneg => ?_
  obtain ⟨_, _, ⟨T1, L1, k1, n1⟩, -, X1, ⟨Lc1, hQ1, l1, y1, z1⟩, st1⟩ := X0.specialBack hx (y := (⟨"java/lang/AbstractStringBuilder", "<init>", "(I)V"⟩ : MethodName)) rfl hown (mvT hZ (hw _ (List.mem_of_getElem? (i := 100) rfl))) (mvT hZ (hw _ (List.mem_of_getElem? (i := 101) rfl))) (mvT hZ (hw _ (List.mem_of_getElem? (i := 105) rfl))) (by decide) (backOf (W := 0) (rm14 l Z a0 hw [] a1  h0 n0 cs CS hcs O0 _ _ Z0 g_a1 E_a1 F_a1_v F_a1_c F_a1_n) hZ (hw _ (List.mem_of_getElem? (i := 105) rfl)) (hw _ (List.mem_of_getElem? (i := 104) rfl)) (by decide) (by decide)) (g := (mkF m 3 #[.val (.ref a1)] [(.int (16 : Int32)), (.ref a1)])) rfl (by rw [hml]; rfl) (Steps.refl _) (a := a1) (argsL := [(.int (16 : Int32))]) (rest := []) (lenOf pd4 rfl) rfl (by show 2 * 0 + _ ≤ _; exact Nat.le_of_eq rfl) (hb hby d13_3) (fun _ _ => ⟨rfl, e0, (by decide : 0 + 1 ≤ _), (by decide : 0 + 16 ≤ _)⟩)
  dsimp only [Pt.U, Pt.locs, Pt.cells, Pt.slots] at X1 l1 y1 z1 st1 hQ1
  subst l1 y1 z1
  obtain ⟨d'_1, k'_1, bs'_1, rfl, N1q, Kc1, G1_0, G1_1, G1_2, G1_3, G1_4, rep_1, f_d'_1⟩ := hQ1
  have N1 := Fr.app N0 N1q
  have ne_a1_d'_1 : a1 ≠ d'_1 := Nat.ne_of_lt (Nat.lt_of_lt_of_le E_a1.lt f_d'_1)
  have g_d'_1 : n0 ≤ d'_1 := Nat.le_trans Z0 f_d'_1
  have sz_d'_1 : h0.size ≤ d'_1 := Nat.le_trans (Keep.refl h0 [a1]).1 f_d'_1
  have K1 : Keep h0 T1.heap [a1] := (Keep.refl h0 [a1]).trans Kc1 (allS (P := fun x => x ∈ [a1] ∨ h0.size ≤ x) (Or.inl (by simp)) all0)
  have Z1 : n0 ≤ T1.heap.size := Nat.le_trans Z0 Kc1.1
  have O1 := Old.keep O0 Kc1 (allS g_a1 all0)
  refine hneg ?_
  obtain ⟨fs, hr, hrun, hended, hW, hsame⟩ := X1.leave (v := none) (fun _ => rfl)
  refine ⟨_, _, pre0 _ ?_, hrun, hended, _, _, rfl, ?_, ⟨_, rfl⟩, hW, hsame.mono (by decide) (by decide)⟩
  · show Steps p.tables e below (s₁.setTop (mkF m 0 #[.val (.ref a1)] [])) _
    refine XS.aloadN X0.here hx rfl (hb hby d13_0) rfl rfl ?_
    show Steps p.tables e below (s₁.setTop (mkF m 1 #[.val (.ref a1)] [(.ref a1)])) _
    refine XS.bipush X0.here hx rfl (hb hby d13_1) ?_
    show Steps p.tables e below (s₁.setTop (mkF m 3 #[.val (.ref a1)] [(.int (16 : Int32)), (.ref a1)])) _
    refine st1.trans ?_
    show Steps p.tables e below (T1.setTop (mkF m 6 #[.val (.ref a1)] [])) _
    exact X1.returnOut hx Bd.returns (hb hby d13_6) hr
  · show Q13 Z a1 cs h0 n0 _ T1.heap _
    exact ⟨_, _, _, rfl, N1, K1, G1_0, G1_1, G1_2, G1_3, G1_4, rep_1, sz_d'_1⟩

theorem d26_0 : decode jdk_68_method_64_code 0 = .ok (.aload_n 0, 1) := by decide +kernel
theorem d26_1 : decode jdk_68_method_64_code 1 = .ok (.getfield 15, 3) := by decide +kernel
theorem d26_4 : decode jdk_68_method_64_code 4 = .ok (.areturn, 1) := by decide +kernel
theorem pn_26 : plainName "java/lang/AbstractStringBuilder" = true := by first | (simp [plainName, overriddenIn]; done) | decide +kernel
theorem ef_26 (m : MethodId) (a1 : Addr) : entryFrame m #[(.ref a1)] 1 = mkF m 0 #[.val (.ref a1)] [] := by first | (simp [entryFrame, mkF, argsToLocals, Value.category]; done) | rfl
def Q26 (Z : State) (a1 : Addr) (d : Addr) (h0 : Heap) (n0 : Nat) (v : Option Value) (h : Heap) (L : List Loc) : Prop := v = some (.ref d) ∧ Fr n0 L ∧ h = h0
set_option maxRecDepth 65536 in
set_option maxHeartbeats 40000000 in
theorem rm26 (l : Launch) (Z : State) (a0 : Array Value) (hw : ∀ d ∈ tables_1, d.before a0 Z = true) (ws : List Jvm.Cond) (a1 : Addr) (h0 : Heap) (n0 : Nat) (d : Addr) (F_a1_v : Fld Z h0 a1 "java/lang/AbstractStringBuilder" "value" "[B" (.ref d)) :
    MetFree l (⟨"java/lang/AbstractStringBuilder", "getValue", "()[B"⟩ : MethodName) (head1 (Jvm.Cond.code (⟨"java/lang/AbstractStringBuilder", "getValue", "()[B"⟩ : MethodName) jdk_68_method_64_code 1 (some (.array .byte)) :: ws) ({ frames := 0, cells := 0, slots := 0, locals := 0 } : Room)) (fun a U => a = #[(.ref a1)] ∧ Z.Warmed39 U.vm ∧ U.heap = h0) (fun _ _ _ _ _ => True) (fun _ U o U' => ∃ v L, o = .returned v ∧ Q26 Z a1 d h0 n0 v U'.heap L ∧ FrameEnd U o U' L ({ frames := 0, cells := 0, slots := 0, locals := 0 } : Room).cells ({ frames := 0, cells := 0, slots := 0, locals := 0 } : Room).slots) := by
  refine MetFree.of_bodySF (plainFor_of_name pn_26) hisR ?_
  intro p e s m args below meth c s₁ Bd hml0 hP hK
  obtain ⟨rfl, hZ, hh⟩ := hP
  have hx := Bd.exec
  have hby := Bd.bytes
  have hml : c.maxLocals = 1 := hml0
  have hown0 := findClass_of_methodNamed Bd.named
  have hown : s.vm.findClass "java/lang/AbstractStringBuilder" = some m.cls := hown0
  have hnm := (name_of_methodNamed Bd.named Bd.method).1
  have X0 : Stand p l e ({ frames := 0, cells := 0, slots := 0, locals := 0 } : Room) s m #[(.ref a1)] below meth c s₁ [] 0 0 := Stand.of_body Bd
  have e0 : s₁.heap = h0 := by rw [← hh, Bd.state]; rfl
  have N0 := Fr.nil n0
  have pre0 : ∀ t, Steps p.tables e below (s₁.setTop (mkF m 0 #[.val (.ref a1)] [])) t → Steps p.tables e below (s₁.setTop (entryFrame m #[(.ref a1)] 1)) t := fun t k => castTop (ef_26 m a1) k
  refine Classical.byContradiction fun hneg => ?_
  obtain ⟨T1, X1, e1, st1⟩ := getF X0 hx hZ hown (host := "") (Or.inl (hw _ (List.mem_of_getElem? (i := 108) rfl))) Via.refl e0 F_a1_v (g := (mkF m 1 #[.val (.ref a1)] [(.ref a1)])) rfl rfl (hb hby d26_1)
  refine hneg ?_
  obtain ⟨fs, hr, hrun, hended, hW, hsame⟩ := X1.leave (v := some (.ref d)) (fun h => by rw [Bd.returns] at h; cases h)
  refine ⟨_, _, pre0 _ ?_, hrun, hended, _, _, rfl, ?_, ⟨_, rfl⟩, hW, hsame.mono (by decide) (by decide)⟩
  · show Steps p.tables e below (s₁.setTop (mkF m 0 #[.val (.ref a1)] [])) _
    refine XS.aloadN X0.here hx rfl (hb hby d26_0) rfl rfl ?_
    show Steps p.tables e below (s₁.setTop (mkF m 1 #[.val (.ref a1)] [(.ref a1)])) _
    refine st1 _ ?_
    show Steps p.tables e below (T1.setTop (mkF m 4 #[.val (.ref a1)] [(.ref d)])) _
    exact retOut X1 hx (t := (.array .byte)) Bd.returns rfl (Or.inr (Or.inr (Or.inr (Or.inr ⟨rfl, rfl, rfl⟩)))) (hb hby d26_4) hr
  · show Q26 Z a1 d h0 n0 _ T1.heap _
    rw [e1]
    exact ⟨rfl, N0, rfl⟩

theorem d28_0 : decode jdk_68_method_6_code 0 = .ok (.aload_n 0, 1) := by decide +kernel
theorem d28_1 : decode jdk_68_method_6_code 1 = .ok (.getfield 79, 3) := by decide +kernel
theorem d28_4 : decode jdk_68_method_6_code 4 = .ok (.ireturn, 1) := by decide +kernel
theorem pn_28 : plainName "java/lang/AbstractStringBuilder" = true := by first | (simp [plainName, overriddenIn]; done) | decide +kernel
theorem ef_28 (m : MethodId) (a1 : Addr) : entryFrame m #[(.ref a1)] 1 = mkF m 0 #[.val (.ref a1)] [] := by first | (simp [entryFrame, mkF, argsToLocals, Value.category]; done) | rfl
def Q28 (Z : State) (a1 : Addr) (cn : Nat) (h0 : Heap) (n0 : Nat) (v : Option Value) (h : Heap) (L : List Loc) : Prop := v = some (.int (Int32.ofNat cn)) ∧ Fr n0 L ∧ h = h0
set_option maxRecDepth 65536 in
set_option maxHeartbeats 40000000 in
theorem rm28 (l : Launch) (Z : State) (a0 : Array Value) (hw : ∀ d ∈ tables_1, d.before a0 Z = true) (ws : List Jvm.Cond) (a1 : Addr) (h0 : Heap) (n0 : Nat) (cn : Nat) (E_a1 : Exa Z h0 a1 "java/lang/StringBuilder") (F_a1_n : Fld Z h0 a1 "java/lang/AbstractStringBuilder" "count" "I" (.int (Int32.ofNat cn))) :
    MetFree l (⟨"java/lang/AbstractStringBuilder", "length", "()I"⟩ : MethodName) (head1 (Jvm.Cond.code (⟨"java/lang/AbstractStringBuilder", "length", "()I"⟩ : MethodName) jdk_68_method_6_code 1 (some .int) :: ws) ({ frames := 0, cells := 0, slots := 0, locals := 0 } : Room)) (fun a U => a = #[(.ref a1)] ∧ Z.Warmed39 U.vm ∧ U.heap = h0) (fun _ _ _ _ _ => True) (fun _ U o U' => ∃ v L, o = .returned v ∧ Q28 Z a1 cn h0 n0 v U'.heap L ∧ FrameEnd U o U' L ({ frames := 0, cells := 0, slots := 0, locals := 0 } : Room).cells ({ frames := 0, cells := 0, slots := 0, locals := 0 } : Room).slots) := by
  refine MetFree.of_bodySF (plainFor_of_name pn_28) hisR ?_
  intro p e s m args below meth c s₁ Bd hml0 hP hK
  obtain ⟨rfl, hZ, hh⟩ := hP
  have hx := Bd.exec
  have hby := Bd.bytes
  have hml : c.maxLocals = 1 := hml0
  have hown0 := findClass_of_methodNamed Bd.named
  have hown : s.vm.findClass "java/lang/AbstractStringBuilder" = some m.cls := hown0
  have hnm := (name_of_methodNamed Bd.named Bd.method).1
  have X0 : Stand p l e ({ frames := 0, cells := 0, slots := 0, locals := 0 } : Room) s m #[(.ref a1)] below meth c s₁ [] 0 0 := Stand.of_body Bd
  have e0 : s₁.heap = h0 := by rw [← hh, Bd.state]; rfl
  have N0 := Fr.nil n0
  have pre0 : ∀ t, Steps p.tables e below (s₁.setTop (mkF m 0 #[.val (.ref a1)] [])) t → Steps p.tables e below (s₁.setTop (entryFrame m #[(.ref a1)] 1)) t := fun t k => castTop (ef_28 m a1) k
  refine Classical.byContradiction fun hneg => ?_
  obtain ⟨T1, X1, e1, st1⟩ := getF X0 hx hZ hown (host := "") (Or.inl (hw _ (List.mem_of_getElem? (i := 133) rfl))) Via.refl e0 F_a1_n (g := (mkF m 1 #[.val (.ref a1)] [(.ref a1)])) rfl rfl (hb hby d28_1)
  refine hneg ?_
  obtain ⟨fs, hr, hrun, hended, hW, hsame⟩ := X1.leave (v := some (.int (Int32.ofNat cn))) (fun h => by rw [Bd.returns] at h; cases h)
  refine ⟨_, _, pre0 _ ?_, hrun, hended, _, _, rfl, ?_, ⟨_, rfl⟩, hW, hsame.mono (by decide) (by decide)⟩
  · show Steps p.tables e below (s₁.setTop (mkF m 0 #[.val (.ref a1)] [])) _
    refine XS.aloadN X0.here hx rfl (hb hby d28_0) rfl rfl ?_
    show Steps p.tables e below (s₁.setTop (mkF m 1 #[.val (.ref a1)] [(.ref a1)])) _
    refine st1 _ ?_
    show Steps p.tables e below (T1.setTop (mkF m 4 #[.val (.ref a1)] [(.int (Int32.ofNat cn))])) _
    exact retI X1 hx Bd.returns (hb hby d28_4) hr
  · show Q28 Z a1 cn h0 n0 _ T1.heap _
    rw [e1]
    exact ⟨rfl, N0, rfl⟩

theorem d27_0 : decode jdk_67_method_93_code 0 = .ok (.aload_n 0, 1) := by decide +kernel
theorem d27_1 : decode jdk_67_method_93_code 1 = .ok (.invokespecial 343, 3) := by decide +kernel
theorem d27_4 : decode jdk_67_method_93_code 4 = .ok (.ireturn, 1) := by decide +kernel
theorem pn_27 : plainName "java/lang/StringBuilder" = true := by first | (simp [plainName, overriddenIn]; done) | decide +kernel
theorem ef_27 (m : MethodId) (a1 : Addr) : entryFrame m #[(.ref a1)] 1 = mkF m 0 #[.val (.ref a1)] [] := by first | (simp [entryFrame, mkF, argsToLocals, Value.category]; done) | rfl
def Q27 (Z : State) (a1 : Addr) (cn : Nat) (h0 : Heap) (n0 : Nat) (v : Option Value) (h : Heap) (L : List Loc) : Prop := v = some (.int (Int32.ofNat cn)) ∧ Fr n0 L ∧ h = h0
set_option maxRecDepth 65536 in
set_option maxHeartbeats 40000000 in
theorem rm27 (l : Launch) (Z : State) (a0 : Array Value) (hw : ∀ d ∈ tables_1, d.before a0 Z = true) (ws : List Jvm.Cond) (a1 : Addr) (h0 : Heap) (n0 : Nat) (cn : Nat) (E_a1 : Exa Z h0 a1 "java/lang/StringBuilder") (F_a1_n : Fld Z h0 a1 "java/lang/AbstractStringBuilder" "count" "I" (.int (Int32.ofNat cn))) :
    MetFree l (⟨"java/lang/StringBuilder", "length", "()I"⟩ : MethodName) (head1 (Jvm.Cond.code (⟨"java/lang/StringBuilder", "length", "()I"⟩ : MethodName) jdk_67_method_93_code 1 (some .int) :: ws) ({ frames := 1, cells := 0, slots := 0, locals := 12 } : Room)) (fun a U => a = #[(.ref a1)] ∧ Z.Warmed39 U.vm ∧ U.heap = h0) (fun _ _ _ _ _ => True) (fun _ U o U' => ∃ v L, o = .returned v ∧ Q27 Z a1 cn h0 n0 v U'.heap L ∧ FrameEnd U o U' L ({ frames := 1, cells := 0, slots := 0, locals := 12 } : Room).cells ({ frames := 1, cells := 0, slots := 0, locals := 12 } : Room).slots) := by
  refine MetFree.of_bodySF (plainFor_of_name pn_27) hisR ?_
  intro p e s m args below meth c s₁ Bd hml0 hP hK
  obtain ⟨rfl, hZ, hh⟩ := hP
  have hx := Bd.exec
  have hby := Bd.bytes
  have hml : c.maxLocals = 1 := hml0
  have hown0 := findClass_of_methodNamed Bd.named
  have hown : s.vm.findClass "java/lang/StringBuilder" = some m.cls := hown0
  have hnm := (name_of_methodNamed Bd.named Bd.method).1
  have X0 : Stand p l e ({ frames := 1, cells := 0, slots := 0, locals := 12 } : Room) s m #[(.ref a1)] below meth c s₁ [] 0 0 := Stand.of_body Bd
  have e0 : s₁.heap = h0 := by rw [← hh, Bd.state]; rfl
  have N0 := Fr.nil n0
  have pre0 : ∀ t, Steps p.tables e below (s₁.setTop (mkF m 0 #[.val (.ref a1)] [])) t → Steps p.tables e below (s₁.setTop (entryFrame m #[(.ref a1)] 1)) t := fun t k => castTop (ef_27 m a1) k
  refine Classical.byContradiction fun hneg => ?_
  obtain ⟨_, _, ⟨T1, L1, k1, n1⟩, -, X1, ⟨Lc1, hQ1, l1, y1, z1⟩, st1⟩ := superBack X0 hx hZ (y := (⟨"java/lang/AbstractStringBuilder", "length", "()I"⟩ : MethodName)) hown (hw _ (List.mem_of_getElem? (i := 183) rfl)) (same_self (y := (⟨"java/lang/AbstractStringBuilder", "length", "()I"⟩ : MethodName)) (hw _ (List.mem_of_getElem? (i := 179) rfl)) (hw _ (List.mem_of_getElem? (i := 138) rfl)) rfl (by decide)) (hw _ (List.mem_of_getElem? (i := 179) rfl)) (hw _ (List.mem_of_getElem? (i := 120) rfl)) (by decide) (backOf (W := 0) (rm28 l Z a0 hw [] a1 h0 n0 cn E_a1 F_a1_n) hZ (hw _ (List.mem_of_getElem? (i := 184) rfl)) (hw _ (List.mem_of_getElem? (i := 104) rfl)) (by decide) (by decide)) e0 (Ins.self E_a1) (g := (mkF m 1 #[.val (.ref a1)] [(.ref a1)])) rfl (by rw [hml]; rfl) (hw _ (List.mem_of_getElem? (i := 184) rfl)) (argsL := []) (rest := []) (lenOf pd3 rfl) rfl (by show 2 * 0 + _ ≤ _; exact Nat.le_of_eq rfl) (hb hby d27_1) (fun _ _ => ⟨rfl, e0, (by decide : 0 + 0 ≤ _), (by decide : 0 + 0 ≤ _)⟩)
  dsimp only [Pt.U, Pt.locs, Pt.cells, Pt.slots] at X1 l1 y1 z1 st1 hQ1
  subst l1 y1 z1
  obtain ⟨rfl, N1q, e1⟩ := hQ1
  have N1 := Fr.app N0 N1q
  refine hneg ?_
  obtain ⟨fs, hr, hrun, hended, hW, hsame⟩ := X1.leave (v := some (.int (Int32.ofNat cn))) (fun h => by rw [Bd.returns] at h; cases h)
  refine ⟨_, _, pre0 _ ?_, hrun, hended, _, _, rfl, ?_, ⟨_, rfl⟩, hW, hsame.mono (by decide) (by decide)⟩
  · show Steps p.tables e below (s₁.setTop (mkF m 0 #[.val (.ref a1)] [])) _
    refine XS.aloadN X0.here hx rfl (hb hby d27_0) rfl rfl ?_
    show Steps p.tables e below (s₁.setTop (mkF m 1 #[.val (.ref a1)] [(.ref a1)])) _
    refine st1.trans ?_
    show Steps p.tables e below (T1.setTop (mkF m 4 #[.val (.ref a1)] [(.int (Int32.ofNat cn))])) _
    exact retI X1 hx Bd.returns (hb hby d27_4) hr
  · show Q27 Z a1 cn h0 n0 _ T1.heap _
    rw [e1]
    exact ⟨rfl, N1, rfl⟩

theorem d32_0 : decode jdk_65_method_131_code 0 = .ok (.iload_n 1, 1) := by decide +kernel
theorem d32_1 : decode jdk_65_method_131_code 1 = .ok (.iload_n 0, 1) := by decide +kernel
theorem d32_2 : decode jdk_65_method_131_code 2 = .ok (.if_icmp .ge 35, 3) := by decide +kernel
theorem d32_37 : decode jdk_65_method_131_code 37 = .ok (.return_, 1) := by decide +kernel
theorem pn_32 : plainName "java/util/Arrays" = true := by first | (simp [plainName, overriddenIn]; done) | decide +kernel
theorem ef_32 (m : MethodId) (p1 : Int32) (p2 : Int32) : entryFrame m #[(.int p1), (.int p2)] 2 = mkF m 0 #[.val (.int p1), .val (.int p2)] [] := by first | (simp [entryFrame, mkF, argsToLocals, Value.category]; done) | rfl
def Q32 (Z : State) (p1 : Int32) (p2 : Int32) (h0 : Heap) (n0 : Nat) (v : Option Value) (h : Heap) (L : List Loc) : Prop := v = none ∧ Fr n0 L ∧ h = h0
set_option maxRecDepth 65536 in
set_option maxHeartbeats 40000000 in
theorem rm32 (l : Launch) (Z : State) (a0 : Array Value) (hw : ∀ d ∈ tables_1, d.before a0 Z = true) (ws : List Jvm.Cond) (p1 : Int32) (p2 : Int32) (h0 : Heap) (n0 : Nat) (hle : ¬ p2 < p1) :
    MetFree l (⟨"java/util/Arrays", "checkLength", "(II)V"⟩ : MethodName) (head1 (Jvm.Cond.code (⟨"java/util/Arrays", "checkLength", "(II)V"⟩ : MethodName) jdk_65_method_131_code 2 none :: ws) ({ frames := 0, cells := 0, slots := 0, locals := 0 } : Room)) (fun a U => a = #[(.int p1), (.int p2)] ∧ Z.Warmed39 U.vm ∧ U.heap = h0) (fun _ _ _ _ _ => True) (fun _ U o U' => ∃ v L, o = .returned v ∧ Q32 Z p1 p2 h0 n0 v U'.heap L ∧ FrameEnd U o U' L ({ frames := 0, cells := 0, slots := 0, locals := 0 } : Room).cells ({ frames := 0, cells := 0, slots := 0, locals := 0 } : Room).slots) := by
  refine MetFree.of_bodySF (plainFor_of_name pn_32) hisR ?_
  intro p e s m args below meth c s₁ Bd hml0 hP hK
  obtain ⟨rfl, hZ, hh⟩ := hP
  have hx := Bd.exec
  have hby := Bd.bytes
  have hml : c.maxLocals = 2 := hml0
  have hown0 := findClass_of_methodNamed Bd.named
  have hown : s.vm.findClass "java/util/Arrays" = some m.cls := hown0
  have hnm := (name_of_methodNamed Bd.named Bd.method).1
  have X0 : Stand p l e ({ frames := 0, cells := 0, slots := 0, locals := 0 } : Room) s m #[(.int p1), (.int p2)] below meth c s₁ [] 0 0 := Stand.of_body Bd
  have e0 : s₁.heap = h0 := by rw [← hh, Bd.state]; rfl
  have N0 := Fr.nil n0
  have pre0 : ∀ t, Steps p.tables e below (s₁.setTop (mkF m 0 #[.val (.int p1), .val (.int p2)] [])) t → Steps p.tables e below (s₁.setTop (entryFrame m #[(.int p1), (.int p2)] 2)) t := fun t k => castTop (ef_32 m p1 p2) k
  refine Classical.byContradiction fun hneg => ?_
  refine hneg ?_
  obtain ⟨fs, hr, hrun, hended, hW, hsame⟩ := X0.leave (v := none) (fun _ => rfl)
  refine ⟨_, _, pre0 _ ?_, hrun, hended, _, _, rfl, ?_, ⟨_, rfl⟩, hW, hsame.mono (by decide) (by decide)⟩
  · show Steps p.tables e below (s₁.setTop (mkF m 0 #[.val (.int p1), .val (.int p2)] [])) _
    refine XS.iloadN X0.here hx rfl (hb hby d32_0) rfl ?_
    show Steps p.tables e below (s₁.setTop (mkF m 1 #[.val (.int p1), .val (.int p2)] [(.int p2)])) _
    refine XS.iloadN X0.here hx rfl (hb hby d32_1) rfl ?_
    show Steps p.tables e below (s₁.setTop (mkF m 2 #[.val (.int p1), .val (.int p2)] [(.int p1), (.int p2)])) _
    refine XS.icmpYes X0.here hx rfl (pc0 := 2) (pc' := 37) rfl (hb hby d32_2) rfl (flt hle).2.1 (by decide) (by decide) ?_
    show Steps p.tables e below (s₁.setTop (mkF m 37 #[.val (.int p1), .val (.int p2)] [])) _
    exact X0.returnOut hx Bd.returns (hb hby d32_37) hr
  · show Q32 Z p1 p2 h0 n0 _ s₁.heap _
    rw [e0]
    exact ⟨rfl, N0, rfl⟩

theorem d31_0 : decode jdk_65_method_133_code 0 = .ok (.iload_n 1, 1) := by decide +kernel
theorem d31_1 : decode jdk_65_method_133_code 1 = .ok (.iload_n 2, 1) := by decide +kernel
theorem d31_2 : decode jdk_65_method_133_code 2 = .ok (.invokestatic 343, 3) := by decide +kernel
theorem d31_5 : decode jdk_65_method_133_code 5 = .ok (.iload_n 2, 1) := by decide +kernel
theorem d31_6 : decode jdk_65_method_133_code 6 = .ok (.iload_n 1, 1) := by decide +kernel
theorem d31_7 : decode jdk_65_method_133_code 7 = .ok (.isub, 1) := by decide +kernel
theorem d31_8 : decode jdk_65_method_133_code 8 = .ok (.istore_n 3, 1) := by decide +kernel
theorem d31_9 : decode jdk_65_method_133_code 9 = .ok (.iload_n 3, 1) := by decide +kernel
theorem d31_10 : decode jdk_65_method_133_code 10 = .ok (.newarray .byte, 2) := by decide +kernel
theorem d31_12 : decode jdk_65_method_133_code 12 = .ok (.astore 4, 2) := by decide +kernel
theorem d31_14 : decode jdk_65_method_133_code 14 = .ok (.aload_n 0, 1) := by decide +kernel
theorem d31_15 : decode jdk_65_method_133_code 15 = .ok (.iload_n 1, 1) := by decide +kernel
theorem d31_16 : decode jdk_65_method_133_code 16 = .ok (.aload 4, 2) := by decide +kernel
theorem d31_18 : decode jdk_65_method_133_code 18 = .ok (.iconst 0, 1) := by decide +kernel
theorem d31_19 : decode jdk_65_method_133_code 19 = .ok (.aload_n 0, 1) := by decide +kernel
theorem d31_20 : decode jdk_65_method_133_code 20 = .ok (.arraylength, 1) := by decide +kernel
theorem d31_21 : decode jdk_65_method_133_code 21 = .ok (.iload_n 1, 1) := by decide +kernel
theorem d31_22 : decode jdk_65_method_133_code 22 = .ok (.isub, 1) := by decide +kernel
theorem d31_23 : decode jdk_65_method_133_code 23 = .ok (.iload_n 3, 1) := by decide +kernel
theorem d31_24 : decode jdk_65_method_133_code 24 = .ok (.invokestatic 304, 3) := by decide +kernel
theorem d31_27 : decode jdk_65_method_133_code 27 = .ok (.invokestatic 150, 3) := by decide +kernel
theorem d31_30 : decode jdk_65_method_133_code 30 = .ok (.aload 4, 2) := by decide +kernel
theorem d31_32 : decode jdk_65_method_133_code 32 = .ok (.areturn, 1) := by decide +kernel
theorem pn_31 : plainName "java/util/Arrays" = true := by first | (simp [plainName, overriddenIn]; done) | decide +kernel
theorem ef_31 (m : MethodId) (a1 : Addr) (zf1 : Int32) (zf2 : Int32) : entryFrame m #[(.ref a1), (.int zf1), (.int zf2)] 5 = mkF m 0 #[.val (.ref a1), .val (.int zf1), .val (.int zf2), .unset, .unset] [] := by first | (simp [entryFrame, mkF, argsToLocals, Value.category]; done) | rfl
def Q31 (Z : State) (a1 : Addr) (k : ClassId) (bs : List Int32) (n : Nat) (h0 : Heap) (n0 : Nat) (v : Option Value) (h : Heap) (L : List Loc) : Prop := ∃ (d' : Addr) (k' : ClassId) (bs' : List Int32), v = some (.ref d') ∧ Fr n0 L ∧ Keep h0 h [] ∧ BL Z h d' k' bs' ∧ bs' = bs.take n ∧ h0.size ≤ d'
set_option maxRecDepth 65536 in
set_option maxHeartbeats 40000000 in
theorem rm31 (l : Launch) (Z : State) (a0 : Array Value) (hw : ∀ d ∈ tables_1, d.before a0 Z = true) (ws : List Jvm.Cond) (a1 : Addr) (h0 : Heap) (n0 : Nat) (k : ClassId) (bs : List Int32) (n : Nat) (V_a1 : BL Z h0 a1 k bs) (hn1 : n ≤ bs.length) (hn2 : bs.length ≤ 142) (Z0 : n0 ≤ h0.size) :
    MetFree l (⟨"java/util/Arrays", "copyOfRangeByte", "([BII)[B"⟩ : MethodName) (head1 (Jvm.Cond.code (⟨"java/util/Arrays", "copyOfRangeByte", "([BII)[B"⟩ : MethodName) jdk_65_method_133_code 5 (some (.array .byte)) :: ws) ({ frames := 1, cells := 1, slots := 142, locals := 50 } : Room)) (fun a U => a = #[(.ref a1), (.int (0 : Int32)), (.int (Int32.ofNat n))] ∧ Z.Warmed39 U.vm ∧ U.heap = h0) (fun _ _ _ _ _ => True) (fun _ U o U' => ∃ v L, o = .returned v ∧ Q31 Z a1 k bs n h0 n0 v U'.heap L ∧ FrameEnd U o U' L ({ frames := 1, cells := 1, slots := 142, locals := 50 } : Room).cells ({ frames := 1, cells := 1, slots := 142, locals := 50 } : Room).slots) := by
  refine MetFree.of_bodySF (plainFor_of_name pn_31) hisR ?_
  intro p e s m args below meth c s₁ Bd hml0 hP hK
  obtain ⟨rfl, hZ, hh⟩ := hP
  have hx := Bd.exec
  have hby := Bd.bytes
  have hml : c.maxLocals = 5 := hml0
  have hown0 := findClass_of_methodNamed Bd.named
  have hown : s.vm.findClass "java/util/Arrays" = some m.cls := hown0
  have hnm := (name_of_methodNamed Bd.named Bd.method).1
  have X0 : Stand p l e ({ frames := 1, cells := 1, slots := 142, locals := 50 } : Room) s m #[(.ref a1), (.int (0 : Int32)), (.int (Int32.ofNat n))] below meth c s₁ [] 0 0 := Stand.of_body Bd
  have e0 : s₁.heap = h0 := by rw [← hh, Bd.state]; rfl
  have N0 := Fr.nil n0
  have pre0 : ∀ t, Steps p.tables e below (s₁.setTop (mkF m 0 #[.val (.ref a1), .val (.int (0 : Int32)), .val (.int (Int32.ofNat n)), .unset, .unset] [])) t → Steps p.tables e below (s₁.setTop (entryFrame m #[(.ref a1), (.int (0 : Int32)), (.int (Int32.ofNat n))] 5)) t := fun t k => castTop (ef_31 m a1 ((0 : Int32)) ((Int32.ofNat n))) k
  refine Classical.byContradiction fun hneg => ?_
  obtain ⟨_, _, ⟨T1, L1, k1, n1⟩, -, X1, ⟨Lc1, hQ1, l1, y1, z1⟩, st1⟩ := Jvm.LawKit.callS X0 hx (y := (⟨"java/util/Arrays", "checkLength", "(II)V"⟩ : MethodName)) hown (mvT hZ (hw _ (List.mem_of_getElem? (i := 197) rfl))) (mvT hZ (hw _ (List.mem_of_getElem? (i := 198) rfl))) (mvT hZ (hw _ (List.mem_of_getElem? (i := 192) rfl))) (mvT hZ (hw _ (List.mem_of_getElem? (i := 199) rfl))) (by decide) (backOf (W := 0) (rm32 l Z a0 hw [] (0 : Int32) (Int32.ofNat n)  h0 n0  (ofN_nn (by omega))) hZ (hw _ (List.mem_of_getElem? (i := 199) rfl)) (hw _ (List.mem_of_getElem? (i := 192) rfl)) (by decide) (by decide)) (g := (mkF m 2 #[.val (.ref a1), .val (.int (0 : Int32)), .val (.int (Int32.ofNat n)), .unset, .unset] [(.int (Int32.ofNat n)), (.int (0 : Int32))])) rfl (by rw [hml]; rfl) (argsL := [(.int (0 : Int32)), (.int (Int32.ofNat n))]) (rest := []) (lenOf pd7 rfl) rfl (by show 2 * 0 + _ ≤ _; exact Nat.le_of_eq rfl) (hb hby d31_2) (fun _ _ => ⟨rfl, e0, (by decide : 0 + 0 ≤ _), (by decide : 0 + 0 ≤ _)⟩)
  dsimp only [Pt.U, Pt.locs, Pt.cells, Pt.slots] at X1 l1 y1 z1 st1 hQ1
  subst l1 y1 z1
  obtain ⟨rfl, N1q, e1⟩ := hQ1
  have N1 := Fr.app N0 N1q
  have nq2 : ((Int32.ofNat n) - (0 : Int32)) = (Int32.ofNat n) := by simp
  obtain ⟨T3, h3, k3, X3, e3, E3, V3, st3⟩ := newB X1 hx hZ (hw _ (List.mem_of_getElem? (i := 19) rfl)) e1 (g := (mkF m 10 #[.val (.ref a1), .val (.int (0 : Int32)), .val (.int (Int32.ofNat n)), .val (.int (Int32.ofNat n)), .unset] [(.int (Int32.ofNat n))])) rfl (hb hby d31_10) (n := n) rfl (cap := 142) (by omega) (by decide) (by decide) (by decide)
  obtain ⟨b3, g3⟩ : ∃ z, z = h0.size := ⟨_, rfl⟩
  rw [← g3] at V3 st3
  have ne_a1_b3 : a1 ≠ b3 := Nat.ne_of_lt (Nat.lt_of_lt_of_le V_a1.lt (Nat.le_of_eq g3.symm))
  have g_b3 : n0 ≤ b3 := Nat.le_trans Z0 (Nat.le_of_eq g3.symm)
  have sz_b3 : h0.size ≤ b3 := Nat.le_trans (Keep.refl h0 []).1 (Nat.le_of_eq g3.symm)
  have V_a1_3 := V_a1.ext E3
  have K3 : Keep h0 h3 [] := (Keep.refl h0 []).ext E3
  have Z3 : n0 ≤ h3.size := Nat.le_trans Z0 E3.1
  obtain ⟨cl4, Ar4, q4, S4_, N4_, H4_, G4_⟩ := V_a1_3.1
  have nq5 : ((Int32.ofNat bs.length) - (0 : Int32)) = (Int32.ofNat bs.length) := by simp
  obtain ⟨_, _, ⟨T6, L6, k6, n6⟩, -, X6, ⟨Lc6, hQ6, l6, y6, z6⟩, st6⟩ := Jvm.LawKit.callS X3 hx (y := (⟨"java/lang/Math", "min", "(II)I"⟩ : MethodName)) hown (mvT hZ (hw _ (List.mem_of_getElem? (i := 200) rfl))) (mvT hZ (hw _ (List.mem_of_getElem? (i := 201) rfl))) (mvT hZ (hw _ (List.mem_of_getElem? (i := 202) rfl))) (mvT hZ (hw _ (List.mem_of_getElem? (i := 203) rfl))) (by decide) (backOf (W := 4) (rm33 l Z a0 hw [] (Int32.ofNat bs.length) (Int32.ofNat n)  h3 n0  ) hZ (hw _ (List.mem_of_getElem? (i := 203) rfl)) (hw _ (List.mem_of_getElem? (i := 202) rfl)) (by decide) (by decide)) (g := (mkF m 24 #[.val (.ref a1), .val (.int (0 : Int32)), .val (.int (Int32.ofNat n)), .val (.int (Int32.ofNat n)), .val (.ref b3)] [(.int (Int32.ofNat n)), (.int (Int32.ofNat bs.length)), (.int (0 : Int32)), (.ref b3), (.int (0 : Int32)), (.ref a1)])) rfl (by rw [hml]; rfl) (argsL := [(.int (Int32.ofNat bs.length)), (.int (Int32.ofNat n))]) (rest := [(.int (0 : Int32)), (.ref b3), (.int (0 : Int32)), (.ref a1)]) (lenOf pd8 rfl) rfl (by show 2 * 0 + _ ≤ _; exact Nat.le_of_eq rfl) (hb hby d31_24) (fun _ _ => ⟨rfl, e3, (by decide : 1 + 0 ≤ _), (by decide : 142 + 0 ≤ _)⟩)
  dsimp only [Pt.U, Pt.locs, Pt.cells, Pt.slots] at X6 l6 y6 z6 st6 hQ6
  subst l6 y6 z6
  obtain ⟨rfl, N6q, e6⟩ := hQ6
  have N6 := Fr.app N1 N6q
  have nq7 : (f33 (Int32.ofNat bs.length) (Int32.ofNat n)) = (Int32.ofNat n) := by rw [f33_of (by omega) (by omega)]; congr 1; omega
  obtain ⟨T8, h8, L8, X8, e8, N8, Kc8, V8, st8⟩ := cpB X6 hx hZ hown (hw _ (List.mem_of_getElem? (i := 204) rfl)) (hw _ (List.mem_of_getElem? (i := 159) rfl)) (hw _ (List.mem_of_getElem? (i := 157) rfl)) (hw _ (List.mem_of_getElem? (i := 158) rfl)) e6 V_a1_3.b0 V3 (sp := 0) (dp := 0) (nn := n) (by omega) (by simp) N6 g_b3 (g := (mkF m 27 #[.val (.ref a1), .val (.int (0 : Int32)), .val (.int (Int32.ofNat n)), .val (.int (Int32.ofNat n)), .val (.ref b3)] [(.int (Int32.ofNat n)), (.int (0 : Int32)), (.ref b3), (.int (0 : Int32)), (.ref a1)])) rfl (by rw [hml]; rfl) (rest := []) rfl (hb hby d31_27) (by decide) (W := 0) (by show 2 * 0 + _ ≤ _; exact Nat.le_of_eq rfl) (by decide)
  have V_a1_8 := V_a1_3.keep Kc8 (ninS ne_a1_b3 nin0)
  have K8 : Keep h0 h8 [] := K3.trans Kc8 (allS (P := fun x => x ∈ ([] : List Addr) ∨ h0.size ≤ x) (Or.inr sz_b3) all0)
  have Z8 : n0 ≤ h8.size := Nat.le_trans Z3 Kc8.1
  refine hneg ?_
  obtain ⟨fs, hr, hrun, hended, hW, hsame⟩ := X8.leave (v := some (.ref b3)) (fun h => by rw [Bd.returns] at h; cases h)
  refine ⟨_, _, pre0 _ ?_, hrun, hended, _, _, rfl, ?_, ⟨_, rfl⟩, hW, hsame.mono (by decide) (by decide)⟩
  · show Steps p.tables e below (s₁.setTop (mkF m 0 #[.val (.ref a1), .val (.int (0 : Int32)), .val (.int (Int32.ofNat n)), .unset, .unset] [])) _
    refine XS.iloadN X0.here hx rfl (hb hby d31_0) rfl ?_
    show Steps p.tables e below (s₁.setTop (mkF m 1 #[.val (.ref a1), .val (.int (0 : Int32)), .val (.int (Int32.ofNat n)), .unset, .unset] [(.int (0 : Int32))])) _
    refine XS.iloadN X0.here hx rfl (hb hby d31_1) rfl ?_
    show Steps p.tables e below (s₁.setTop (mkF m 2 #[.val (.ref a1), .val (.int (0 : Int32)), .val (.int (Int32.ofNat n)), .unset, .unset] [(.int (Int32.ofNat n)), (.int (0 : Int32))])) _
    refine st1 _ ?_
    show Steps p.tables e below (T1.setTop (mkF m 5 #[.val (.ref a1), .val (.int (0 : Int32)), .val (.int (Int32.ofNat n)), .unset, .unset] [])) _
    refine XS.iloadN X1.here hx rfl (hb hby d31_5) rfl ?_
    show Steps p.tables e below (T1.setTop (mkF m 6 #[.val (.ref a1), .val (.int (0 : Int32)), .val (.int (Int32.ofNat n)), .unset, .unset] [(.int (Int32.ofNat n))])) _
    refine XS.iloadN X1.here hx rfl (hb hby d31_6) rfl ?_
    show Steps p.tables e below (T1.setTop (mkF m 7 #[.val (.ref a1), .val (.int (0 : Int32)), .val (.int (Int32.ofNat n)), .unset, .unset] [(.int (0 : Int32)), (.int (Int32.ofNat n))])) _
    refine XS.isub X1.here hx rfl (hb hby d31_7) rfl ?_
    show Steps p.tables e below (T1.setTop (mkF m 8 #[.val (.ref a1), .val (.int (0 : Int32)), .val (.int (Int32.ofNat n)), .unset, .unset] [(.int ((Int32.ofNat n) - (0 : Int32)))])) _
    rw [nq2]
    show Steps p.tables e below (T1.setTop (mkF m 8 #[.val (.ref a1), .val (.int (0 : Int32)), .val (.int (Int32.ofNat n)), .unset, .unset] [(.int (Int32.ofNat n))])) _
    refine XS.istoreN X1.here hx rfl (hb hby d31_8) rfl (l' := #[.val (.ref a1), .val (.int (0 : Int32)), .val (.int (Int32.ofNat n)), .val (.int (Int32.ofNat n)), .unset]) rfl ?_
    show Steps p.tables e below (T1.setTop (mkF m 9 #[.val (.ref a1), .val (.int (0 : Int32)), .val (.int (Int32.ofNat n)), .val (.int (Int32.ofNat n)), .unset] [])) _
    refine XS.iloadN X1.here hx rfl (hb hby d31_9) rfl ?_
    show Steps p.tables e below (T1.setTop (mkF m 10 #[.val (.ref a1), .val (.int (0 : Int32)), .val (.int (Int32.ofNat n)), .val (.int (Int32.ofNat n)), .unset] [(.int (Int32.ofNat n))])) _
    refine st3 _ ?_
    show Steps p.tables e below (T3.setTop (mkF m 12 #[.val (.ref a1), .val (.int (0 : Int32)), .val (.int (Int32.ofNat n)), .val (.int (Int32.ofNat n)), .unset] [(.ref b3)])) _
    refine XS.astore X3.here hx rfl (hb hby d31_12) rfl rfl (l' := #[.val (.ref a1), .val (.int (0 : Int32)), .val (.int (Int32.ofNat n)), .val (.int (Int32.ofNat n)), .val (.ref b3)]) rfl ?_
    show Steps p.tables e below (T3.setTop (mkF m 14 #[.val (.ref a1), .val (.int (0 : Int32)), .val (.int (Int32.ofNat n)), .val (.int (Int32.ofNat n)), .val (.ref b3)] [])) _
    refine XS.aloadN X3.here hx rfl (hb hby d31_14) rfl rfl ?_
    show Steps p.tables e below (T3.setTop (mkF m 15 #[.val (.ref a1), .val (.int (0 : Int32)), .val (.int (Int32.ofNat n)), .val (.int (Int32.ofNat n)), .val (.ref b3)] [(.ref a1)])) _
    refine XS.iloadN X3.here hx rfl (hb hby d31_15) rfl ?_
    show Steps p.tables e below (T3.setTop (mkF m 16 #[.val (.ref a1), .val (.int (0 : Int32)), .val (.int (Int32.ofNat n)), .val (.int (Int32.ofNat n)), .val (.ref b3)] [(.int (0 : Int32)), (.ref a1)])) _
    refine XS.aload X3.here hx rfl (hb hby d31_16) rfl rfl ?_
    show Steps p.tables e below (T3.setTop (mkF m 18 #[.val (.ref a1), .val (.int (0 : Int32)), .val (.int (Int32.ofNat n)), .val (.int (Int32.ofNat n)), .val (.ref b3)] [(.ref b3), (.int (0 : Int32)), (.ref a1)])) _
    refine XS.iconst X3.here hx rfl (hb hby d31_18) ?_
    show Steps p.tables e below (T3.setTop (mkF m 19 #[.val (.ref a1), .val (.int (0 : Int32)), .val (.int (Int32.ofNat n)), .val (.int (Int32.ofNat n)), .val (.ref b3)] [(.int (0 : Int32)), (.ref b3), (.int (0 : Int32)), (.ref a1)])) _
    refine XS.aloadN X3.here hx rfl (hb hby d31_19) rfl rfl ?_
    show Steps p.tables e below (T3.setTop (mkF m 20 #[.val (.ref a1), .val (.int (0 : Int32)), .val (.int (Int32.ofNat n)), .val (.int (Int32.ofNat n)), .val (.ref b3)] [(.ref a1), (.int (0 : Int32)), (.ref b3), (.int (0 : Int32)), (.ref a1)])) _
    refine X3.arraylength hx (by rw [e3]; exact Ar4.1) (State.isArrayOf_alike hZ.alike Ar4.2.1) (g := (mkF m 20 #[.val (.ref a1), .val (.int (0 : Int32)), .val (.int (Int32.ofNat n)), .val (.int (Int32.ofNat n)), .val (.ref b3)] [(.ref a1), (.int (0 : Int32)), (.ref b3), (.int (0 : Int32)), (.ref a1)])) rfl rfl (hb hby d31_20) _ ?_
    rw [len_of S4_ N4_]
    show Steps p.tables e below (T3.setTop (mkF m 21 #[.val (.ref a1), .val (.int (0 : Int32)), .val (.int (Int32.ofNat n)), .val (.int (Int32.ofNat n)), .val (.ref b3)] [(.int (Int32.ofNat bs.length)), (.int (0 : Int32)), (.ref b3), (.int (0 : Int32)), (.ref a1)])) _
    refine XS.iloadN X3.here hx rfl (hb hby d31_21) rfl ?_
    show Steps p.tables e below (T3.setTop (mkF m 22 #[.val (.ref a1), .val (.int (0 : Int32)), .val (.int (Int32.ofNat n)), .val (.int (Int32.ofNat n)), .val (.ref b3)] [(.int (0 : Int32)), (.int (Int32.ofNat bs.length)), (.int (0 : Int32)), (.ref b3), (.int (0 : Int32)), (.ref a1)])) _
    refine XS.isub X3.here hx rfl (hb hby d31_22) rfl ?_
    show Steps p.tables e below (T3.setTop (mkF m 23 #[.val (.ref a1), .val (.int (0 : Int32)), .val (.int (Int32.ofNat n)), .val (.int (Int32.ofNat n)), .val (.ref b3)] [(.int ((Int32.ofNat bs.length) - (0 : Int32))), (.int (0 : Int32)), (.ref b3), (.int (0 : Int32)), (.ref a1)])) _
    rw [nq5]
    show Steps p.tables e below (T3.setTop (mkF m 23 #[.val (.ref a1), .val (.int (0 : Int32)), .val (.int (Int32.ofNat n)), .val (.int (Int32.ofNat n)), .val (.ref b3)] [(.int (Int32.ofNat bs.length)), (.int (0 : Int32)), (.ref b3), (.int (0 : Int32)), (.ref a1)])) _
    refine XS.iloadN X3.here hx rfl (hb hby d31_23) rfl ?_
    show Steps p.tables e below (T3.setTop (mkF m 24 #[.val (.ref a1), .val (.int (0 : Int32)), .val (.int (Int32.ofNat n)), .val (.int (Int32.ofNat n)), .val (.ref b3)] [(.int (Int32.ofNat n)), (.int (Int32.ofNat bs.length)), (.int (0 : Int32)), (.ref b3), (.int (0 : Int32)), (.ref a1)])) _
    refine st6 _ ?_
    show Steps p.tables e below (T6.setTop (mkF m 27 #[.val (.ref a1), .val (.int (0 : Int32)), .val (.int (Int32.ofNat n)), .val (.int (Int32.ofNat n)), .val (.ref b3)] [(.int (f33 (Int32.ofNat bs.length) (Int32.ofNat n))), (.int (0 : Int32)), (.ref b3), (.int (0 : Int32)), (.ref a1)])) _
    rw [nq7]
    show Steps p.tables e below (T6.setTop (mkF m 27 #[.val (.ref a1), .val (.int (0 : Int32)), .val (.int (Int32.ofNat n)), .val (.int (Int32.ofNat n)), .val (.ref b3)] [(.int (Int32.ofNat n)), (.int (0 : Int32)), (.ref b3), (.int (0 : Int32)), (.ref a1)])) _
    refine st8 _ ?_
    show Steps p.tables e below (T8.setTop (mkF m 30 #[.val (.ref a1), .val (.int (0 : Int32)), .val (.int (Int32.ofNat n)), .val (.int (Int32.ofNat n)), .val (.ref b3)] [])) _
    refine XS.aload X8.here hx rfl (hb hby d31_30) rfl rfl ?_
    show Steps p.tables e below (T8.setTop (mkF m 32 #[.val (.ref a1), .val (.int (0 : Int32)), .val (.int (Int32.ofNat n)), .val (.int (Int32.ofNat n)), .val (.ref b3)] [(.ref b3)])) _
    exact retOut X8 hx (t := (.array .byte)) Bd.returns rfl (Or.inr (Or.inr (Or.inr (Or.inr ⟨rfl, rfl, rfl⟩)))) (hb hby d31_32) hr
  · show Q31 Z a1 k bs n h0 n0 _ T8.heap _
    rw [e8]
    exact ⟨_, _, _, rfl, N8, K8, V8, by simp, sz_b3⟩

theorem d30_0 : decode jdk_65_method_132_code 0 = .ok (.iload_n 1, 1) := by decide +kernel
theorem d30_1 : decode jdk_65_method_132_code 1 = .ok (.ifCond .ne 9, 3) := by decide +kernel
theorem d30_4 : decode jdk_65_method_132_code 4 = .ok (.iload_n 2, 1) := by decide +kernel
theorem d30_5 : decode jdk_65_method_132_code 5 = .ok (.aload_n 0, 1) := by decide +kernel
theorem d30_6 : decode jdk_65_method_132_code 6 = .ok (.arraylength, 1) := by decide +kernel
theorem d30_7 : decode jdk_65_method_132_code 7 = .ok (.if_icmp .eq 10, 3) := by decide +kernel
theorem d30_10 : decode jdk_65_method_132_code 10 = .ok (.aload_n 0, 1) := by decide +kernel
theorem d30_11 : decode jdk_65_method_132_code 11 = .ok (.iload_n 1, 1) := by decide +kernel
theorem d30_12 : decode jdk_65_method_132_code 12 = .ok (.iload_n 2, 1) := by decide +kernel
theorem d30_13 : decode jdk_65_method_132_code 13 = .ok (.invokestatic 339, 3) := by decide +kernel
theorem d30_16 : decode jdk_65_method_132_code 16 = .ok (.areturn, 1) := by decide +kernel
theorem pn_30 : plainName "java/util/Arrays" = true := by first | (simp [plainName, overriddenIn]; done) | decide +kernel
theorem ef_30 (m : MethodId) (a1 : Addr) (zf1 : Int32) (zf2 : Int32) : entryFrame m #[(.ref a1), (.int zf1), (.int zf2)] 3 = mkF m 0 #[.val (.ref a1), .val (.int zf1), .val (.int zf2)] [] := by first | (simp [entryFrame, mkF, argsToLocals, Value.category]; done) | rfl
def Q30 (Z : State) (a1 : Addr) (k : ClassId) (bs : List Int32) (n : Nat) (h0 : Heap) (n0 : Nat) (v : Option Value) (h : Heap) (L : List Loc) : Prop := ∃ (d' : Addr) (k' : ClassId) (bs' : List Int32), v = some (.ref d') ∧ Fr n0 L ∧ Keep h0 h [] ∧ BL Z h d' k' bs' ∧ bs' = bs.take n ∧ h0.size ≤ d'
set_option maxRecDepth 65536 in
set_option maxHeartbeats 40000000 in
theorem rm30 (l : Launch) (Z : State) (a0 : Array Value) (hw : ∀ d ∈ tables_1, d.before a0 Z = true) (ws : List Jvm.Cond) (a1 : Addr) (h0 : Heap) (n0 : Nat) (k : ClassId) (bs : List Int32) (n : Nat) (V_a1 : BL Z h0 a1 k bs) (hn1 : n ≤ bs.length) (hn2 : bs.length ≤ 142) (Z0 : n0 ≤ h0.size) (hnq : ¬ n = bs.length) :
    MetFree l (⟨"java/util/Arrays", "copyOfRange", "([BII)[B"⟩ : MethodName) (head1 (Jvm.Cond.code (⟨"java/util/Arrays", "copyOfRange", "([BII)[B"⟩ : MethodName) jdk_65_method_132_code 3 (some (.array .byte)) :: ws) ({ frames := 2, cells := 1, slots := 142, locals := 66 } : Room)) (fun a U => a = #[(.ref a1), (.int (0 : Int32)), (.int (Int32.ofNat n))] ∧ Z.Warmed39 U.vm ∧ U.heap = h0) (fun _ _ _ _ _ => True) (fun _ U o U' => ∃ v L, o = .returned v ∧ Q30 Z a1 k bs n h0 n0 v U'.heap L ∧ FrameEnd U o U' L ({ frames := 2, cells := 1, slots := 142, locals := 66 } : Room).cells ({ frames := 2, cells := 1, slots := 142, locals := 66 } : Room).slots) := by
  refine MetFree.of_bodySF (plainFor_of_name pn_30) hisR ?_
  intro p e s m args below meth c s₁ Bd hml0 hP hK
  obtain ⟨rfl, hZ, hh⟩ := hP
  have hx := Bd.exec
  have hby := Bd.bytes
  have hml : c.maxLocals = 3 := hml0
  have hown0 := findClass_of_methodNamed Bd.named
  have hown : s.vm.findClass "java/util/Arrays" = some m.cls := hown0
  have hnm := (name_of_methodNamed Bd.named Bd.method).1
  have X0 : Stand p l e ({ frames := 2, cells := 1, slots := 142, locals := 66 } : Room) s m #[(.ref a1), (.int (0 : Int32)), (.int (Int32.ofNat n))] below meth c s₁ [] 0 0 := Stand.of_body Bd
  have e0 : s₁.heap = h0 := by rw [← hh, Bd.state]; rfl
  have N0 := Fr.nil n0
  have pre0 : ∀ t, Steps p.tables e below (s₁.setTop (mkF m 0 #[.val (.ref a1), .val (.int (0 : Int32)), .val (.int (Int32.ofNat n))] [])) t → Steps p.tables e below (s₁.setTop (entryFrame m #[(.ref a1), (.int (0 : Int32)), (.int (Int32.ofNat n))] 3)) t := fun t k => castTop (ef_30 m a1 ((0 : Int32)) ((Int32.ofNat n))) k
  refine Classical.byContradiction fun hneg => ?_
  obtain ⟨cl1, Ar1, q1, S1_, N1_, H1_, G1_⟩ := V_a1.1
  obtain ⟨_, _, ⟨T2, L2, k2, n2⟩, -, X2, ⟨Lc2, hQ2, l2, y2, z2⟩, st2⟩ := Jvm.LawKit.callS X0 hx (y := (⟨"java/util/Arrays", "copyOfRangeByte", "([BII)[B"⟩ : MethodName)) hown (mvT hZ (hw _ (List.mem_of_getElem? (i := 194) rfl))) (mvT hZ (hw _ (List.mem_of_getElem? (i := 195) rfl))) (mvT hZ (hw _ (List.mem_of_getElem? (i := 192) rfl))) (mvT hZ (hw _ (List.mem_of_getElem? (i := 196) rfl))) (by decide) (backOf (W := 0) (rm31 l Z a0 hw [] a1  h0 n0 k bs n V_a1 (by omega) (by omega) Z0) hZ (hw _ (List.mem_of_getElem? (i := 196) rfl)) (hw _ (List.mem_of_getElem? (i := 192) rfl)) (by decide) (by decide)) (g := (mkF m 13 #[.val (.ref a1), .val (.int (0 : Int32)), .val (.int (Int32.ofNat n))] [(.int (Int32.ofNat n)), (.int (0 : Int32)), (.ref a1)])) rfl (by rw [hml]; rfl) (argsL := [(.ref a1), (.int (0 : Int32)), (.int (Int32.ofNat n))]) (rest := []) (lenOf pd9 rfl) rfl (by show 2 * 0 + _ ≤ _; exact Nat.le_of_eq rfl) (hb hby d30_13) (fun _ _ => ⟨rfl, e0, (by decide : 0 + 1 ≤ _), (by decide : 0 + 142 ≤ _)⟩)
  dsimp only [Pt.U, Pt.locs, Pt.cells, Pt.slots] at X2 l2 y2 z2 st2 hQ2
  subst l2 y2 z2
  obtain ⟨d'_2, k'_2, bs'_2, rfl, N2q, Kc2, G2_0, eqb_2, f_d'_2⟩ := hQ2
  have N2 := Fr.app N0 N2q
  have ne_a1_d'_2 : a1 ≠ d'_2 := Nat.ne_of_lt (Nat.lt_of_lt_of_le V_a1.lt f_d'_2)
  have g_d'_2 : n0 ≤ d'_2 := Nat.le_trans Z0 f_d'_2
  have sz_d'_2 : h0.size ≤ d'_2 := Nat.le_trans (Keep.refl h0 []).1 f_d'_2
  have V_a1_2 := V_a1.keep Kc2 nin0
  have K2 : Keep h0 T2.heap [] := (Keep.refl h0 []).trans Kc2 all0
  have Z2 : n0 ≤ T2.heap.size := Nat.le_trans Z0 Kc2.1
  refine hneg ?_
  obtain ⟨fs, hr, hrun, hended, hW, hsame⟩ := X2.leave (v := some (.ref d'_2)) (fun h => by rw [Bd.returns] at h; cases h)
  refine ⟨_, _, pre0 _ ?_, hrun, hended, _, _, rfl, ?_, ⟨_, rfl⟩, hW, hsame.mono (by decide) (by decide)⟩
  · show Steps p.tables e below (s₁.setTop (mkF m 0 #[.val (.ref a1), .val (.int (0 : Int32)), .val (.int (Int32.ofNat n))] [])) _
    refine XS.iloadN X0.here hx rfl (hb hby d30_0) rfl ?_
    show Steps p.tables e below (s₁.setTop (mkF m 1 #[.val (.ref a1), .val (.int (0 : Int32)), .val (.int (Int32.ofNat n))] [(.int (0 : Int32))])) _
    refine XS.ifNo X0.here hx rfl (hb hby d30_1) rfl ((if0 _ _).trans (teq (by decide : (0 : Int32) = (0 : Int32))).2) ?_
    show Steps p.tables e below (s₁.setTop (mkF m 4 #[.val (.ref a1), .val (.int (0 : Int32)), .val (.int (Int32.ofNat n))] [])) _
    refine XS.iloadN X0.here hx rfl (hb hby d30_4) rfl ?_
    show Steps p.tables e below (s₁.setTop (mkF m 5 #[.val (.ref a1), .val (.int (0 : Int32)), .val (.int (Int32.ofNat n))] [(.int (Int32.ofNat n))])) _
    refine XS.aloadN X0.here hx rfl (hb hby d30_5) rfl rfl ?_
    show Steps p.tables e below (s₁.setTop (mkF m 6 #[.val (.ref a1), .val (.int (0 : Int32)), .val (.int (Int32.ofNat n))] [(.ref a1), (.int (Int32.ofNat n))])) _
    refine X0.arraylength hx (by rw [e0]; exact Ar1.1) (State.isArrayOf_alike hZ.alike Ar1.2.1) (g := (mkF m 6 #[.val (.ref a1), .val (.int (0 : Int32)), .val (.int (Int32.ofNat n))] [(.ref a1), (.int (Int32.ofNat n))])) rfl rfl (hb hby d30_6) _ ?_
    rw [len_of S1_ N1_]
    show Steps p.tables e below (s₁.setTop (mkF m 7 #[.val (.ref a1), .val (.int (0 : Int32)), .val (.int (Int32.ofNat n))] [(.int (Int32.ofNat bs.length)), (.int (Int32.ofNat n))])) _
    refine XS.icmpNo X0.here hx rfl (hb hby d30_7) rfl (feq (fun z => hnq ((ofN_eq (by omega) (by omega)).mp z))).1 ?_
    show Steps p.tables e below (s₁.setTop (mkF m 10 #[.val (.ref a1), .val (.int (0 : Int32)), .val (.int (Int32.ofNat n))] [])) _
    refine XS.aloadN X0.here hx rfl (hb hby d30_10) rfl rfl ?_
    show Steps p.tables e below (s₁.setTop (mkF m 11 #[.val (.ref a1), .val (.int (0 : Int32)), .val (.int (Int32.ofNat n))] [(.ref a1)])) _
    refine XS.iloadN X0.here hx rfl (hb hby d30_11) rfl ?_
    show Steps p.tables e below (s₁.setTop (mkF m 12 #[.val (.ref a1), .val (.int (0 : Int32)), .val (.int (Int32.ofNat n))] [(.int (0 : Int32)), (.ref a1)])) _
    refine XS.iloadN X0.here hx rfl (hb hby d30_12) rfl ?_
    show Steps p.tables e below (s₁.setTop (mkF m 13 #[.val (.ref a1), .val (.int (0 : Int32)), .val (.int (Int32.ofNat n))] [(.int (Int32.ofNat n)), (.int (0 : Int32)), (.ref a1)])) _
    refine st2 _ ?_
    show Steps p.tables e below (T2.setTop (mkF m 16 #[.val (.ref a1), .val (.int (0 : Int32)), .val (.int (Int32.ofNat n))] [(.ref d'_2)])) _
    exact retOut X2 hx (t := (.array .byte)) Bd.returns rfl (Or.inr (Or.inr (Or.inr (Or.inr ⟨rfl, rfl, rfl⟩)))) (hb hby d30_16) hr
  · show Q30 Z a1 k bs n h0 n0 _ T2.heap _
    exact ⟨_, _, _, rfl, N2, K2, G2_0, eqb_2, sz_d'_2⟩

theorem d25_0 : decode jdk_42_method_150_code 0 = .ok (.aload_n 0, 1) := by decide +kernel
theorem d25_1 : decode jdk_42_method_150_code 1 = .ok (.invokespecial 1, 3) := by decide +kernel
theorem d25_4 : decode jdk_42_method_150_code 4 = .ok (.aload_n 1, 1) := by decide +kernel
theorem d25_5 : decode jdk_42_method_150_code 5 = .ok (.invokevirtual 552, 3) := by decide +kernel
theorem d25_8 : decode jdk_42_method_150_code 8 = .ok (.astore_n 3, 1) := by decide +kernel
theorem d25_9 : decode jdk_42_method_150_code 9 = .ok (.aload_n 1, 1) := by decide +kernel
theorem d25_10 : decode jdk_42_method_150_code 10 = .ok (.invokevirtual 549, 3) := by decide +kernel
theorem d25_13 : decode jdk_42_method_150_code 13 = .ok (.istore 4, 2) := by decide +kernel
theorem d25_15 : decode jdk_42_method_150_code 15 = .ok (.aload_n 1, 1) := by decide +kernel
theorem d25_16 : decode jdk_42_method_150_code 16 = .ok (.invokevirtual 1047, 3) := by decide +kernel
theorem d25_19 : decode jdk_42_method_150_code 19 = .ok (.ifCond .eq 22, 3) := by decide +kernel
theorem d25_22 : decode jdk_42_method_150_code 22 = .ok (.aload_n 0, 1) := by decide +kernel
theorem d25_23 : decode jdk_42_method_150_code 23 = .ok (.iconst 0, 1) := by decide +kernel
theorem d25_24 : decode jdk_42_method_150_code 24 = .ok (.putfield 15, 3) := by decide +kernel
theorem d25_27 : decode jdk_42_method_150_code 27 = .ok (.aload_n 0, 1) := by decide +kernel
theorem d25_28 : decode jdk_42_method_150_code 28 = .ok (.aload_n 3, 1) := by decide +kernel
theorem d25_29 : decode jdk_42_method_150_code 29 = .ok (.iconst 0, 1) := by decide +kernel
theorem d25_30 : decode jdk_42_method_150_code 30 = .ok (.iload 4, 2) := by decide +kernel
theorem d25_32 : decode jdk_42_method_150_code 32 = .ok (.invokestatic 54, 3) := by decide +kernel
theorem d25_35 : decode jdk_42_method_150_code 35 = .ok (.putfield 9, 3) := by decide +kernel
theorem d25_38 : decode jdk_42_method_150_code 38 = .ok (.goto 59, 3) := by decide +kernel
theorem d25_97 : decode jdk_42_method_150_code 97 = .ok (.return_, 1) := by decide +kernel
theorem pn_25 : plainName "java/lang/String" = true := by first | (simp [plainName, overriddenIn]; done) | decide +kernel
theorem ef_25 (m : MethodId) (a1 : Addr) (a2 : Addr) : entryFrame m #[(.ref a1), (.ref a2), .null] 5 = mkF m 0 #[.val (.ref a1), .val (.ref a2), .val .null, .unset, .unset] [] := by first | (simp [entryFrame, mkF, argsToLocals, Value.category]; done) | rfl
def Q25 (Z : State) (a1 : Addr) (a2 : Addr) (cs : Int32) (d : Addr) (dk : ClassId) (ds : List Int32) (cn : Nat) (h0 : Heap) (n0 : Nat) (v : Option Value) (h : Heap) (L : List Loc) : Prop := ∃ (d' : Addr) (k' : ClassId) (bs' : List Int32), v = none ∧ Fr n0 L ∧ Keep h0 h [a1] ∧ Exa Z h a1 "java/lang/String" ∧ Fld Z h a1 "java/lang/String" "coder" "B" (.int 0) ∧ Fld Z h a1 "java/lang/String" "value" "[B" (.ref d') ∧ B0 Z h d' k' bs' ∧ bs' = ds.take cn ∧ h0.size ≤ d'
set_option maxRecDepth 65536 in
set_option maxHeartbeats 40000000 in
theorem rm25 (l : Launch) (Z : State) (a0 : Array Value) (hw : ∀ d ∈ tables_1, d.before a0 Z = true) (ws : List Jvm.Cond) (a1 : Addr) (a2 : Addr) (h0 : Heap) (n0 : Nat) (cs : Int32) (d : Addr) (dk : ClassId) (ds : List Int32) (cn : Nat) (CS : Sta Z Z.heap "java/lang/String" "COMPACT_STRINGS" "Z" (.int cs)) (hcs : ¬ cs = 0) (O0 : Old Z n0 h0) (u_v u_c : Value) (Z0 : n0 ≤ h0.size) (g_a1 : n0 ≤ a1) (E_a1 : Exa Z h0 a1 "java/lang/String") (F_a1_v : Fld Z h0 a1 "java/lang/String" "value" "[B" u_v) (F_a1_c : Fld Z h0 a1 "java/lang/String" "coder" "B" u_c) (E_a2 : Exa Z h0 a2 "java/lang/StringBuilder") (F_a2_v : Fld Z h0 a2 "java/lang/AbstractStringBuilder" "value" "[B" (.ref d)) (F_a2_c : Fld Z h0 a2 "java/lang/AbstractStringBuilder" "coder" "B" (.int 0)) (F_a2_n : Fld Z h0 a2 "java/lang/AbstractStringBuilder" "count" "I" (.int (Int32.ofNat cn))) (V_d : BL Z h0 d dk ds) (hn1 : cn < ds.length) (hn2 : ds.length ≤ 142) :
    MetFree l (⟨"java/lang/String", "<init>", "(Ljava/lang/AbstractStringBuilder;Ljava/lang/Void;)V"⟩ : MethodName) (head1 (Jvm.Cond.code (⟨"java/lang/String", "<init>", "(Ljava/lang/AbstractStringBuilder;Ljava/lang/Void;)V"⟩ : MethodName) jdk_42_method_150_code 5 none :: ws) ({ frames := 3, cells := 1, slots := 142, locals := 81 } : Room)) (fun a U => a = #[(.ref a1), (.ref a2), .null] ∧ Z.Warmed39 U.vm ∧ U.heap = h0) (fun _ _ _ _ _ => True) (fun _ U o U' => ∃ v L, o = .returned v ∧ Q25 Z a1 a2 cs d dk ds cn h0 n0 v U'.heap L ∧ FrameEnd U o U' L ({ frames := 3, cells := 1, slots := 142, locals := 81 } : Room).cells ({ frames := 3, cells := 1, slots := 142, locals := 81 } : Room).slots) := by
  refine MetFree.of_bodySF (plainFor_of_name pn_25) hisR ?_
  intro p e s m args below meth c s₁ Bd hml0 hP hK
  obtain ⟨rfl, hZ, hh⟩ := hP
  have hx := Bd.exec
  have hby := Bd.bytes
  have hml : c.maxLocals = 5 := hml0
  have hown0 := findClass_of_methodNamed Bd.named
  have hown : s.vm.findClass "java/lang/String" = some m.cls := hown0
  have hnm := (name_of_methodNamed Bd.named Bd.method).1
  have X0 : Stand p l e ({ frames := 3, cells := 1, slots := 142, locals := 81 } : Room) s m #[(.ref a1), (.ref a2), .null] below meth c s₁ [] 0 0 := Stand.of_body Bd
  have e0 : s₁.heap = h0 := by rw [← hh, Bd.state]; rfl
  have N0 := Fr.nil n0
  have pre0 : ∀ t, Steps p.tables e below (s₁.setTop (mkF m 0 #[.val (.ref a1), .val (.ref a2), .val .null, .unset, .unset] [])) t → Steps p.tables e below (s₁.setTop (entryFrame m #[(.ref a1), (.ref a2), .null] 5)) t := fun t k => castTop (ef_25 m a1 a2) k
  refine Classical.byContradiction fun hneg => ?_
  obtain ⟨T1, X1, e1, st1⟩ := initO X0 hx hZ hown (hw _ (List.mem_of_getElem? (i := 11) rfl)) (hw _ (List.mem_of_getElem? (i := 12) rfl)) (hw _ (List.mem_of_getElem? (i := 13) rfl)) e0 (g := (mkF m 1 #[.val (.ref a1), .val (.ref a2), .val .null, .unset, .unset] [(.ref a1)])) rfl (by rw [hml]; rfl) rfl (hb hby d25_1) (by decide) (W := 0) (by show 2 * 0 + _ ≤ _; exact Nat.le_of_eq rfl) (by decide)
  obtain ⟨cq2, kq2, q2a, q2b, q2c⟩ := isOf hZ e1 E_a2
  obtain ⟨_, _, ⟨T2, L2, k2, n2⟩, -, X2, ⟨Lc2, hQ2, l2, y2, z2⟩, st2⟩ := X1.virtualBack hx (y := (⟨"java/lang/AbstractStringBuilder", "getValue", "()[B"⟩ : MethodName)) (z := (⟨"java/lang/AbstractStringBuilder", "getValue", "()[B"⟩ : MethodName)) hown (mvT hZ (hw _ (List.mem_of_getElem? (i := 172) rfl))) (mvT hZ (hw _ (List.mem_of_getElem? (i := 173) rfl))) (notFace_of_selects (args := #[]) (mvT hZ (hw _ (List.mem_of_getElem? (i := 175) rfl)))) (mvT hZ (hw _ (List.mem_of_getElem? (i := 175) rfl))) (mvT hZ (hw _ (List.mem_of_getElem? (i := 174) rfl))) (by decide) (backOf (W := 0) (rm26 l Z a0 hw [] a2  h0 n0 d F_a2_v) hZ (hw _ (List.mem_of_getElem? (i := 176) rfl)) (hw _ (List.mem_of_getElem? (i := 104) rfl)) (by decide) (by decide)) q2a q2c (g := (mkF m 5 #[.val (.ref a1), .val (.ref a2), .val .null, .unset, .unset] [(.ref a2)])) rfl (by rw [hml]; rfl) (Steps.refl _) (argsL := []) (rest := []) (lenOf pd10 rfl) rfl (by show 2 * 0 + _ ≤ _; exact Nat.le_of_eq rfl) (hb hby d25_5) (fun _ _ => ⟨rfl, e1, (by decide : 0 + 0 ≤ _), (by decide : 0 + 0 ≤ _)⟩)
  dsimp only [Pt.U, Pt.locs, Pt.cells, Pt.slots] at X2 l2 y2 z2 st2 hQ2
  subst l2 y2 z2
  obtain ⟨rfl, N2q, e2⟩ := hQ2
  have N2 := Fr.app N0 N2q
  obtain ⟨cq3, kq3, q3a, q3b, q3c⟩ := isOf hZ e2 E_a2
  obtain ⟨_, _, ⟨T3, L3, k3, n3⟩, -, X3, ⟨Lc3, hQ3, l3, y3, z3⟩, st3⟩ := X2.virtualBack hx (y := (⟨"java/lang/AbstractStringBuilder", "length", "()I"⟩ : MethodName)) (z := (⟨"java/lang/StringBuilder", "length", "()I"⟩ : MethodName)) hown (mvT hZ (hw _ (List.mem_of_getElem? (i := 177) rfl))) (mvT hZ (hw _ (List.mem_of_getElem? (i := 178) rfl))) (nf_of (args := #[]) (mvT hZ (hw _ (List.mem_of_getElem? (i := 138) rfl))) rfl) (mvT hZ (hw _ (List.mem_of_getElem? (i := 180) rfl))) (mvT hZ (hw _ (List.mem_of_getElem? (i := 181) rfl))) (by decide) (backOf (W := 0) (rm27 l Z a0 hw [] a2  h0 n0 cn E_a2 F_a2_n) hZ (hw _ (List.mem_of_getElem? (i := 182) rfl)) (hw _ (List.mem_of_getElem? (i := 96) rfl)) (by decide) (by decide)) q3a q3c (g := (mkF m 10 #[.val (.ref a1), .val (.ref a2), .val .null, .val (.ref d), .unset] [(.ref a2)])) rfl (by rw [hml]; rfl) (Steps.refl _) (argsL := []) (rest := []) (lenOf pd3 rfl) rfl (by show 2 * 0 + _ ≤ _; exact Nat.le_of_eq rfl) (hb hby d25_10) (fun _ _ => ⟨rfl, e2, (by decide : 0 + 0 ≤ _), (by decide : 0 + 0 ≤ _)⟩)
  dsimp only [Pt.U, Pt.locs, Pt.cells, Pt.slots] at X3 l3 y3 z3 st3 hQ3
  subst l3 y3 z3
  obtain ⟨rfl, N3q, e3⟩ := hQ3
  have N3 := Fr.app N2 N3q
  obtain ⟨cq4, kq4, q4a, q4b, q4c⟩ := isOf hZ e3 E_a2
  obtain ⟨_, _, ⟨T4, L4, k4, n4⟩, -, X4, ⟨Lc4, hQ4, l4, y4, z4⟩, st4⟩ := X3.virtualBack hx (y := (⟨"java/lang/AbstractStringBuilder", "isLatin1", "()Z"⟩ : MethodName)) (z := (⟨"java/lang/AbstractStringBuilder", "isLatin1", "()Z"⟩ : MethodName)) hown (mvT hZ (hw _ (List.mem_of_getElem? (i := 185) rfl))) (mvT hZ (hw _ (List.mem_of_getElem? (i := 186) rfl))) (notFace_of_selects (args := #[]) (mvT hZ (hw _ (List.mem_of_getElem? (i := 188) rfl)))) (mvT hZ (hw _ (List.mem_of_getElem? (i := 188) rfl))) (mvT hZ (hw _ (List.mem_of_getElem? (i := 187) rfl))) (by decide) (backOf (W := 0) (rm29 l Z a0 hw [] a2  h0 n0 cs CS hcs O0 F_a2_c) hZ (hw _ (List.mem_of_getElem? (i := 189) rfl)) (hw _ (List.mem_of_getElem? (i := 104) rfl)) (by decide) (by decide)) q4a q4c (g := (mkF m 16 #[.val (.ref a1), .val (.ref a2), .val .null, .val (.ref d), .val (.int (Int32.ofNat cn))] [(.ref a2)])) rfl (by rw [hml]; rfl) (Steps.refl _) (argsL := []) (rest := []) (lenOf pd11 rfl) rfl (by show 2 * 0 + _ ≤ _; exact Nat.le_of_eq rfl) (hb hby d25_16) (fun _ _ => ⟨rfl, e3, (by decide : 0 + 0 ≤ _), (by decide : 0 + 0 ≤ _)⟩)
  dsimp only [Pt.U, Pt.locs, Pt.cells, Pt.slots] at X4 l4 y4 z4 st4 hQ4
  subst l4 y4 z4
  obtain ⟨rfl, N4q, e4⟩ := hQ4
  have N4 := Fr.app N3 N4q
  obtain ⟨T5, h5, X5, e5, W5, st5⟩ := putF X4 hx hZ hown (host := "") (Or.inl (hw _ (List.mem_of_getElem? (i := 26) rfl))) Via.refl e4 F_a1_c E_a1 (Or.inr ⟨(hw _ (List.mem_of_getElem? (i := 27) rfl)), rfl, hnm⟩) (hw _ (List.mem_of_getElem? (i := 1) rfl)) (ty := .byte) (by decide) rfl rfl (g := (mkF m 24 #[.val (.ref a1), .val (.ref a2), .val .null, .val (.ref d), .val (.int (Int32.ofNat cn))] [(.int (0 : Int32)), (.ref a1)])) rfl rfl (hb hby d25_24)
  have E_a1_5 := E_a1.wr W5
  have F_a1_value_5 := F_a1_v.other W5 (Or.inr (slot_ne (Or.inr (hw _ (List.mem_of_getElem? (i := 29) rfl))) (Or.inr (hw _ (List.mem_of_getElem? (i := 27) rfl))) (by decide) (t := (.array .byte)) (t' := .byte) (by decide) (by decide)))
  have F_a1_coder_5 := F_a1_c.same W5
  have E_a2_5 := E_a2.wr W5
  have F_a2_value_5 := F_a2_v.other W5 (Or.inl (Exa.ne E_a2 E_a1 (by decide)))
  have F_a2_coder_5 := F_a2_c.other W5 (Or.inl (Exa.ne E_a2 E_a1 (by decide)))
  have F_a2_count_5 := F_a2_n.other W5 (Or.inl (Exa.ne E_a2 E_a1 (by decide)))
  have V_d_5 := V_d.other W5 (Ne.symm (Exa.neArv E_a1 V_d.1 (hw _ (List.mem_of_getElem? (i := 1) rfl))))
  have K5 : Keep h0 h5 [a1] := (Keep.refl h0 [a1]).wr W5 (Or.inl (by simp))
  have N5 := Fr.snoc X5 N4 g_a1
  have Z5 : n0 ≤ h5.size := Nat.le_trans Z0 (Keep.of_wr W5).1
  have O5 := Old.wr O0 W5 g_a1
  obtain ⟨_, _, ⟨T6, L6, k6, n6⟩, -, X6, ⟨Lc6, hQ6, l6, y6, z6⟩, st6⟩ := Jvm.LawKit.callS X5 hx (y := (⟨"java/util/Arrays", "copyOfRange", "([BII)[B"⟩ : MethodName)) hown (mvT hZ (hw _ (List.mem_of_getElem? (i := 190) rfl))) (mvT hZ (hw _ (List.mem_of_getElem? (i := 191) rfl))) (mvT hZ (hw _ (List.mem_of_getElem? (i := 192) rfl))) (mvT hZ (hw _ (List.mem_of_getElem? (i := 193) rfl))) (by decide) (backOf (W := 1) (rm30 l Z a0 hw [] d  h5 n0 dk ds cn V_d_5 (by omega) (by omega) Z5 (by omega)) hZ (hw _ (List.mem_of_getElem? (i := 193) rfl)) (hw _ (List.mem_of_getElem? (i := 192) rfl)) (by decide) (by decide)) (g := (mkF m 32 #[.val (.ref a1), .val (.ref a2), .val .null, .val (.ref d), .val (.int (Int32.ofNat cn))] [(.int (Int32.ofNat cn)), (.int (0 : Int32)), (.ref d), (.ref a1)])) rfl (by rw [hml]; rfl) (argsL := [(.ref d), (.int (0 : Int32)), (.int (Int32.ofNat cn))]) (rest := [(.ref a1)]) (lenOf pd9 rfl) rfl (by show 2 * 0 + _ ≤ _; exact Nat.le_of_eq rfl) (hb hby d25_32) (fun _ _ => ⟨rfl, e5, (by decide : 0 + 1 ≤ _), (by decide : 0 + 142 ≤ _)⟩)
  dsimp only [Pt.U, Pt.locs, Pt.cells, Pt.slots] at X6 l6 y6 z6 st6 hQ6
  subst l6 y6 z6
  obtain ⟨d'_6, k'_6, bs'_6, rfl, N6q, Kc6, G6_0, eqb_6, f_d'_6⟩ := hQ6
  have N6 := Fr.app N5 N6q
  have ne_a1_d'_6 : a1 ≠ d'_6 := Nat.ne_of_lt (Nat.lt_of_lt_of_le E_a1_5.lt f_d'_6)
  have ne_a2_d'_6 : a2 ≠ d'_6 := Nat.ne_of_lt (Nat.lt_of_lt_of_le E_a2_5.lt f_d'_6)
  have ne_d_d'_6 : d ≠ d'_6 := Nat.ne_of_lt (Nat.lt_of_lt_of_le V_d_5.lt f_d'_6)
  have g_d'_6 : n0 ≤ d'_6 := Nat.le_trans Z5 f_d'_6
  have sz_d'_6 : h0.size ≤ d'_6 := Nat.le_trans K5.1 f_d'_6
  have E_a1_6 := E_a1_5.keep Kc6
  have F_a1_value_6 := F_a1_value_5.keep Kc6 nin0
  have F_a1_coder_6 := F_a1_coder_5.keep Kc6 nin0
  have E_a2_6 := E_a2_5.keep Kc6
  have F_a2_value_6 := F_a2_value_5.keep Kc6 nin0
  have F_a2_coder_6 := F_a2_coder_5.keep Kc6 nin0
  have F_a2_count_6 := F_a2_count_5.keep Kc6 nin0
  have V_d_6 := V_d_5.keep Kc6 nin0
  have K6 : Keep h0 T6.heap [a1] := K5.trans Kc6 all0
  have Z6 : n0 ≤ T6.heap.size := Nat.le_trans Z5 Kc6.1
  have O6 := Old.keep O5 Kc6 all0
  obtain ⟨T7, h7, X7, e7, W7, st7⟩ := putF X6 hx hZ hown (host := "") (Or.inl (hw _ (List.mem_of_getElem? (i := 28) rfl))) Via.refl rfl F_a1_value_6 E_a1_6 (Or.inr ⟨(hw _ (List.mem_of_getElem? (i := 29) rfl)), rfl, hnm⟩) (hw _ (List.mem_of_getElem? (i := 1) rfl)) (ty := (.array .byte)) (by decide) rfl rfl (g := (mkF m 35 #[.val (.ref a1), .val (.ref a2), .val .null, .val (.ref d), .val (.int (Int32.ofNat cn))] [(.ref d'_6), (.ref a1)])) rfl rfl (hb hby d25_35)
  have E_a1_7 := E_a1_6.wr W7
  have F_a1_value_7 := F_a1_value_6.same W7
  have F_a1_coder_7 := F_a1_coder_6.other W7 (Or.inr (slot_ne (Or.inr (hw _ (List.mem_of_getElem? (i := 27) rfl))) (Or.inr (hw _ (List.mem_of_getElem? (i := 29) rfl))) (by decide) (t := .byte) (t' := (.array .byte)) (by decide) (by decide)))
  have E_a2_7 := E_a2_6.wr W7
  have F_a2_value_7 := F_a2_value_6.other W7 (Or.inl (Exa.ne E_a2_6 E_a1_6 (by decide)))
  have F_a2_coder_7 := F_a2_coder_6.other W7 (Or.inl (Exa.ne E_a2_6 E_a1_6 (by decide)))
  have F_a2_count_7 := F_a2_count_6.other W7 (Or.inl (Exa.ne E_a2_6 E_a1_6 (by decide)))
  have V_d_7 := V_d_6.other W7 (Ne.symm (Exa.neArv E_a1_6 V_d_6.1 (hw _ (List.mem_of_getElem? (i := 1) rfl))))
  have V_d__6_7 := G6_0.other W7 (Ne.symm ne_a1_d'_6)
  have K7 : Keep h0 h7 [a1] := K6.wr W7 (Or.inl (by simp))
  have N7 := Fr.snoc X7 N6 g_a1
  have Z7 : n0 ≤ h7.size := Nat.le_trans Z6 (Keep.of_wr W7).1
  have O7 := Old.wr O6 W7 g_a1
  refine hneg ?_
  obtain ⟨fs, hr, hrun, hended, hW, hsame⟩ := X7.leave (v := none) (fun _ => rfl)
  refine ⟨_, _, pre0 _ ?_, hrun, hended, _, _, rfl, ?_, ⟨_, rfl⟩, hW, hsame.mono (by decide) (by decide)⟩
  · show Steps p.tables e below (s₁.setTop (mkF m 0 #[.val (.ref a1), .val (.ref a2), .val .null, .unset, .unset] [])) _
    refine XS.aloadN X0.here hx rfl (hb hby d25_0) rfl rfl ?_
    show Steps p.tables e below (s₁.setTop (mkF m 1 #[.val (.ref a1), .val (.ref a2), .val .null, .unset, .unset] [(.ref a1)])) _
    refine st1 _ ?_
    show Steps p.tables e below (T1.setTop (mkF m 4 #[.val (.ref a1), .val (.ref a2), .val .null, .unset, .unset] [])) _
    refine XS.aloadN X1.here hx rfl (hb hby d25_4) rfl rfl ?_
    show Steps p.tables e below (T1.setTop (mkF m 5 #[.val (.ref a1), .val (.ref a2), .val .null, .unset, .unset] [(.ref a2)])) _
    refine st2.trans ?_
    show Steps p.tables e below (T2.setTop (mkF m 8 #[.val (.ref a1), .val (.ref a2), .val .null, .unset, .unset] [(.ref d)])) _
    refine XS.astoreN X2.here hx rfl (hb hby d25_8) rfl rfl (l' := #[.val (.ref a1), .val (.ref a2), .val .null, .val (.ref d), .unset]) rfl ?_
    show Steps p.tables e below (T2.setTop (mkF m 9 #[.val (.ref a1), .val (.ref a2), .val .null, .val (.ref d), .unset] [])) _
    refine XS.aloadN X2.here hx rfl (hb hby d25_9) rfl rfl ?_
    show Steps p.tables e below (T2.setTop (mkF m 10 #[.val (.ref a1), .val (.ref a2), .val .null, .val (.ref d), .unset] [(.ref a2)])) _
    refine st3.trans ?_
    show Steps p.tables e below (T3.setTop (mkF m 13 #[.val (.ref a1), .val (.ref a2), .val .null, .val (.ref d), .unset] [(.int (Int32.ofNat cn))])) _
    refine XS.istore X3.here hx rfl (hb hby d25_13) rfl (l' := #[.val (.ref a1), .val (.ref a2), .val .null, .val (.ref d), .val (.int (Int32.ofNat cn))]) rfl ?_
    show Steps p.tables e below (T3.setTop (mkF m 15 #[.val (.ref a1), .val (.ref a2), .val .null, .val (.ref d), .val (.int (Int32.ofNat cn))] [])) _
    refine XS.aloadN X3.here hx rfl (hb hby d25_15) rfl rfl ?_
    show Steps p.tables e below (T3.setTop (mkF m 16 #[.val (.ref a1), .val (.ref a2), .val .null, .val (.ref d), .val (.int (Int32.ofNat cn))] [(.ref a2)])) _
    refine st4.trans ?_
    show Steps p.tables e below (T4.setTop (mkF m 19 #[.val (.ref a1), .val (.ref a2), .val .null, .val (.ref d), .val (.int (Int32.ofNat cn))] [(.int (1 : Int32))])) _
    refine XS.ifNo X4.here hx rfl (hb hby d25_19) rfl ((if0 _ _).trans (feq (by decide : ¬ ((1 : Int32) = (0 : Int32)))).1) ?_
    show Steps p.tables e below (T4.setTop (mkF m 22 #[.val (.ref a1), .val (.ref a2), .val .null, .val (.ref d), .val (.int (Int32.ofNat cn))] [])) _
    refine XS.aloadN X4.here hx rfl (hb hby d25_22) rfl rfl ?_
    show Steps p.tables e below (T4.setTop (mkF m 23 #[.val (.ref a1), .val (.ref a2), .val .null, .val (.ref d), .val (.int (Int32.ofNat cn))] [(.ref a1)])) _
    refine XS.iconst X4.here hx rfl (hb hby d25_23) ?_
    show Steps p.tables e below (T4.setTop (mkF m 24 #[.val (.ref a1), .val (.ref a2), .val .null, .val (.ref d), .val (.int (Int32.ofNat cn))] [(.int (0 : Int32)), (.ref a1)])) _
    refine st5 _ ?_
    show Steps p.tables e below (T5.setTop (mkF m 27 #[.val (.ref a1), .val (.ref a2), .val .null, .val (.ref d), .val (.int (Int32.ofNat cn))] [])) _
    refine XS.aloadN X5.here hx rfl (hb hby d25_27) rfl rfl ?_
    show Steps p.tables e below (T5.setTop (mkF m 28 #[.val (.ref a1), .val (.ref a2), .val .null, .val (.ref d), .val (.int (Int32.ofNat cn))] [(.ref a1)])) _
    refine XS.aloadN X5.here hx rfl (hb hby d25_28) rfl rfl ?_
    show Steps p.tables e below (T5.setTop (mkF m 29 #[.val (.ref a1), .val (.ref a2), .val .null, .val (.ref d), .val (.int (Int32.ofNat cn))] [(.ref d), (.ref a1)])) _
    refine XS.iconst X5.here hx rfl (hb hby d25_29) ?_
    show Steps p.tables e below (T5.setTop (mkF m 30 #[.val (.ref a1), .val (.ref a2), .val .null, .val (.ref d), .val (.int (Int32.ofNat cn))] [(.int (0 : Int32)), (.ref d), (.ref a1)])) _
    refine XS.iload X5.here hx rfl (hb hby d25_30) rfl ?_
    show Steps p.tables e below (T5.setTop (mkF m 32 #[.val (.ref a1), .val (.ref a2), .val .null, .val (.ref d), .val (.int (Int32.ofNat cn))] [(.int (Int32.ofNat cn)), (.int (0 : Int32)), (.ref d), (.ref a1)])) _
    refine st6 _ ?_
    show Steps p.tables e below (T6.setTop (mkF m 35 #[.val (.ref a1), .val (.ref a2), .val .null, .val (.ref d), .val (.int (Int32.ofNat cn))] [(.ref d'_6), (.ref a1)])) _
    refine st7 _ ?_
    show Steps p.tables e below (T7.setTop (mkF m 38 #[.val (.ref a1), .val (.ref a2), .val .null, .val (.ref d), .val (.int (Int32.ofNat cn))] [])) _
    refine XS.goto X7.here hx rfl (pc0 := 38) (pc' := 97) rfl (hb hby d25_38) (by decide) (by decide) ?_
    show Steps p.tables e below (T7.setTop (mkF m 97 #[.val (.ref a1), .val (.ref a2), .val .null, .val (.ref d), .val (.int (Int32.ofNat cn))] [])) _
    exact X7.returnOut hx Bd.returns (hb hby d25_97) hr
  · show Q25 Z a1 a2 cs d dk ds cn h0 n0 _ T7.heap _
    rw [e7]
    exact ⟨_, _, _, rfl, N7, K7, E_a1_7, F_a1_coder_7, F_a1_value_7, V_d__6_7.b0, eqb_6, sz_d'_6⟩

theorem d24_0 : decode jdk_42_method_53_code 0 = .ok (.aload_n 0, 1) := by decide +kernel
theorem d24_1 : decode jdk_42_method_53_code 1 = .ok (.aload_n 1, 1) := by decide +kernel
theorem d24_2 : decode jdk_42_method_53_code 2 = .ok (.aconst_null, 1) := by decide +kernel
theorem d24_3 : decode jdk_42_method_53_code 3 = .ok (.invokespecial 489, 3) := by decide +kernel
theorem d24_6 : decode jdk_42_method_53_code 6 = .ok (.return_, 1) := by decide +kernel
theorem pn_24 : plainName "java/lang/String" = true := by first | (simp [plainName, overriddenIn]; done) | decide +kernel
theorem ef_24 (m : MethodId) (a1 : Addr) (a2 : Addr) : entryFrame m #[(.ref a1), (.ref a2)] 2 = mkF m 0 #[.val (.ref a1), .val (.ref a2)] [] := by first | (simp [entryFrame, mkF, argsToLocals, Value.category]; done) | rfl
def Q24 (Z : State) (a1 : Addr) (a2 : Addr) (cs : Int32) (d : Addr) (dk : ClassId) (ds : List Int32) (cn : Nat) (h0 : Heap) (n0 : Nat) (v : Option Value) (h : Heap) (L : List Loc) : Prop := ∃ (d' : Addr) (k' : ClassId) (bs' : List Int32), v = none ∧ Fr n0 L ∧ Keep h0 h [a1] ∧ Exa Z h a1 "java/lang/String" ∧ Fld Z h a1 "java/lang/String" "coder" "B" (.int 0) ∧ Fld Z h a1 "java/lang/String" "value" "[B" (.ref d') ∧ B0 Z h d' k' bs' ∧ bs' = ds.take cn ∧ h0.size ≤ d'
set_option maxRecDepth 65536 in
set_option maxHeartbeats 40000000 in
theorem rm24 (l : Launch) (Z : State) (a0 : Array Value) (hw : ∀ d ∈ tables_1, d.before a0 Z = true) (ws : List Jvm.Cond) (a1 : Addr) (a2 : Addr) (h0 : Heap) (n0 : Nat) (cs : Int32) (d : Addr) (dk : ClassId) (ds : List Int32) (cn : Nat) (CS : Sta Z Z.heap "java/lang/String" "COMPACT_STRINGS" "Z" (.int cs)) (hcs : ¬ cs = 0) (O0 : Old Z n0 h0) (u_v u_c : Value) (Z0 : n0 ≤ h0.size) (g_a1 : n0 ≤ a1) (E_a1 : Exa Z h0 a1 "java/lang/String") (F_a1_v : Fld Z h0 a1 "java/lang/String" "value" "[B" u_v) (F_a1_c : Fld Z h0 a1 "java/lang/String" "coder" "B" u_c) (E_a2 : Exa Z h0 a2 "java/lang/StringBuilder") (F_a2_v : Fld Z h0 a2 "java/lang/AbstractStringBuilder" "value" "[B" (.ref d)) (F_a2_c : Fld Z h0 a2 "java/lang/AbstractStringBuilder" "coder" "B" (.int 0)) (F_a2_n : Fld Z h0 a2 "java/lang/AbstractStringBuilder" "count" "I" (.int (Int32.ofNat cn))) (V_d : BL Z h0 d dk ds) (hn1 : cn < ds.length) (hn2 : ds.length ≤ 142) :
    MetFree l (⟨"java/lang/String", "<init>", "(Ljava/lang/StringBuilder;)V"⟩ : MethodName) (head1 (Jvm.Cond.code (⟨"java/lang/String", "<init>", "(Ljava/lang/StringBuilder;)V"⟩ : MethodName) jdk_42_method_53_code 2 none :: ws) ({ frames := 4, cells := 1, slots := 142, locals := 97 } : Room)) (fun a U => a = #[(.ref a1), (.ref a2)] ∧ Z.Warmed39 U.vm ∧ U.heap = h0) (fun _ _ _ _ _ => True) (fun _ U o U' => ∃ v L, o = .returned v ∧ Q24 Z a1 a2 cs d dk ds cn h0 n0 v U'.heap L ∧ FrameEnd U o U' L ({ frames := 4, cells := 1, slots := 142, locals := 97 } : Room).cells ({ frames := 4, cells := 1, slots := 142, locals := 97 } : Room).slots) := by
  refine MetFree.of_bodySF (plainFor_of_name pn_24) hisR ?_
  intro p e s m args below meth c s₁ Bd hml0 hP hK
  obtain ⟨rfl, hZ, hh⟩ := hP
  have hx := Bd.exec
  have hby := Bd.bytes
  have hml : c.maxLocals = 2 := hml0
  have hown0 := findClass_of_methodNamed Bd.named
  have hown : s.vm.findClass "java/lang/String" = some m.cls := hown0
  have hnm := (name_of_methodNamed Bd.named Bd.method).1
  have X0 : Stand p l e ({ frames := 4, cells := 1, slots := 142, locals := 97 } : Room) s m #[(.ref a1), (.ref a2)] below meth c s₁ [] 0 0 := Stand.of_body Bd
  have e0 : s₁.heap = h0 := by rw [← hh, Bd.state]; rfl
  have N0 := Fr.nil n0
  have pre0 : ∀ t, Steps p.tables e below (s₁.setTop (mkF m 0 #[.val (.ref a1), .val (.ref a2)] [])) t → Steps p.tables e below (s₁.setTop (entryFrame m #[(.ref a1), (.ref a2)] 2)) t := fun t k => castTop (ef_24 m a1 a2) k
  refine Classical.byContradiction fun hneg => ?_
  obtain ⟨_, _, ⟨T1, L1, k1, n1⟩, -, X1, ⟨Lc1, hQ1, l1, y1, z1⟩, st1⟩ := X0.specialBack hx (y := (⟨"java/lang/String", "<init>", "(Ljava/lang/AbstractStringBuilder;Ljava/lang/Void;)V"⟩ : MethodName)) rfl hown (mvT hZ (hw _ (List.mem_of_getElem? (i := 169) rfl))) (mvT hZ (hw _ (List.mem_of_getElem? (i := 170) rfl))) (mvT hZ (hw _ (List.mem_of_getElem? (i := 171) rfl))) (by decide) (backOf (W := 0) (rm25 l Z a0 hw [] a1 a2  h0 n0 cs d dk ds cn CS hcs O0 _ _ Z0 g_a1 E_a1 F_a1_v F_a1_c E_a2 F_a2_v F_a2_c F_a2_n V_d hn1 hn2) hZ (hw _ (List.mem_of_getElem? (i := 171) rfl)) (hw _ (List.mem_of_getElem? (i := 2) rfl)) (by decide) (by decide)) (g := (mkF m 3 #[.val (.ref a1), .val (.ref a2)] [.null, (.ref a2), (.ref a1)])) rfl (by rw [hml]; rfl) (Steps.refl _) (a := a1) (argsL := [(.ref a2), .null]) (rest := []) (lenOf pd12 rfl) rfl (by show 2 * 0 + _ ≤ _; exact Nat.le_of_eq rfl) (hb hby d24_3) (fun _ _ => ⟨rfl, e0, (by decide : 0 + 1 ≤ _), (by decide : 0 + 142 ≤ _)⟩)
  dsimp only [Pt.U, Pt.locs, Pt.cells, Pt.slots] at X1 l1 y1 z1 st1 hQ1
  subst l1 y1 z1
  obtain ⟨d'_1, k'_1, bs'_1, rfl, N1q, Kc1, G1_0, G1_1, G1_2, G1_3, eqb_1, f_d'_1⟩ := hQ1
  have N1 := Fr.app N0 N1q
  have ne_a1_d'_1 : a1 ≠ d'_1 := Nat.ne_of_lt (Nat.lt_of_lt_of_le E_a1.lt f_d'_1)
  have ne_a2_d'_1 : a2 ≠ d'_1 := Nat.ne_of_lt (Nat.lt_of_lt_of_le E_a2.lt f_d'_1)
  have ne_d_d'_1 : d ≠ d'_1 := Nat.ne_of_lt (Nat.lt_of_lt_of_le V_d.lt f_d'_1)
  have g_d'_1 : n0 ≤ d'_1 := Nat.le_trans Z0 f_d'_1
  have sz_d'_1 : h0.size ≤ d'_1 := Nat.le_trans (Keep.refl h0 [a1]).1 f_d'_1
  have E_a2_1 := E_a2.keep Kc1
  have F_a2_value_1 := F_a2_v.keep Kc1 (ninS (Exa.ne E_a2 E_a1 (by decide)) nin0)
  have F_a2_coder_1 := F_a2_c.keep Kc1 (ninS (Exa.ne E_a2 E_a1 (by decide)) nin0)
  have F_a2_count_1 := F_a2_n.keep Kc1 (ninS (Exa.ne E_a2 E_a1 (by decide)) nin0)
  have V_d_1 := V_d.keep Kc1 (ninS (Ne.symm (Exa.neArv E_a1 V_d.1 (hw _ (List.mem_of_getElem? (i := 1) rfl)))) nin0)
  have K1 : Keep h0 T1.heap [a1] := (Keep.refl h0 [a1]).trans Kc1 (allS (P := fun x => x ∈ [a1] ∨ h0.size ≤ x) (Or.inl (by simp)) all0)
  have Z1 : n0 ≤ T1.heap.size := Nat.le_trans Z0 Kc1.1
  have O1 := Old.keep O0 Kc1 (allS g_a1 all0)
  refine hneg ?_
  obtain ⟨fs, hr, hrun, hended, hW, hsame⟩ := X1.leave (v := none) (fun _ => rfl)
  refine ⟨_, _, pre0 _ ?_, hrun, hended, _, _, rfl, ?_, ⟨_, rfl⟩, hW, hsame.mono (by decide) (by decide)⟩
  · show Steps p.tables e below (s₁.setTop (mkF m 0 #[.val (.ref a1), .val (.ref a2)] [])) _
    refine XS.aloadN X0.here hx rfl (hb hby d24_0) rfl rfl ?_
    show Steps p.tables e below (s₁.setTop (mkF m 1 #[.val (.ref a1), .val (.ref a2)] [(.ref a1)])) _
    refine XS.aloadN X0.here hx rfl (hb hby d24_1) rfl rfl ?_
    show Steps p.tables e below (s₁.setTop (mkF m 2 #[.val (.ref a1), .val (.ref a2)] [(.ref a2), (.ref a1)])) _
    refine XS.aconstNull X0.here hx rfl (hb hby d24_2) ?_
    show Steps p.tables e below (s₁.setTop (mkF m 3 #[.val (.ref a1), .val (.ref a2)] [.null, (.ref a2), (.ref a1)])) _
    refine st1.trans ?_
    show Steps p.tables e below (T1.setTop (mkF m 6 #[.val (.ref a1), .val (.ref a2)] [])) _
    exact X1.returnOut hx Bd.returns (hb hby d24_6) hr
  · show Q24 Z a1 a2 cs d dk ds cn h0 n0 _ T1.heap _
    exact ⟨_, _, _, rfl, N1, K1, G1_0, G1_1, G1_2, G1_3, eqb_1, sz_d'_1⟩

theorem d23_0 : decode jdk_67_method_42_code 0 = .ok (.new 18, 3) := by decide +kernel
theorem d23_3 : decode jdk_67_method_42_code 3 = .ok (.dup, 1) := by decide +kernel
theorem d23_4 : decode jdk_67_method_42_code 4 = .ok (.aload_n 0, 1) := by decide +kernel
theorem d23_5 : decode jdk_67_method_42_code 5 = .ok (.invokespecial 137, 3) := by decide +kernel
theorem d23_8 : decode jdk_67_method_42_code 8 = .ok (.areturn, 1) := by decide +kernel
theorem pn_23 : plainName "java/lang/StringBuilder" = true := by first | (simp [plainName, overriddenIn]; done) | decide +kernel
theorem ef_23 (m : MethodId) (a1 : Addr) : entryFrame m #[(.ref a1)] 1 = mkF m 0 #[.val (.ref a1)] [] := by first | (simp [entryFrame, mkF, argsToLocals, Value.category]; done) | rfl
def Q23 (Z : State) (a1 : Addr) (cs : Int32) (d : Addr) (dk : ClassId) (ds : List Int32) (cn : Nat) (h0 : Heap) (n0 : Nat) (v : Option Value) (h : Heap) (L : List Loc) : Prop := ∃ (s' : Addr) (d' : Addr) (k' : ClassId) (bs' : List Int32), v = some (.ref s') ∧ Fr n0 L ∧ Keep h0 h [] ∧ Exa Z h s' "java/lang/String" ∧ Fld Z h s' "java/lang/String" "coder" "B" (.int 0) ∧ Fld Z h s' "java/lang/String" "value" "[B" (.ref d') ∧ B0 Z h d' k' bs' ∧ bs' = ds.take cn ∧ h0.size ≤ s' ∧ h0.size ≤ d'
set_option maxRecDepth 65536 in
set_option maxHeartbeats 40000000 in
theorem rm23 (l : Launch) (Z : State) (a0 : Array Value) (hw : ∀ d ∈ tables_1, d.before a0 Z = true) (ws : List Jvm.Cond) (a1 : Addr) (h0 : Heap) (n0 : Nat) (cs : Int32) (d : Addr) (dk : ClassId) (ds : List Int32) (cn : Nat) (CS : Sta Z Z.heap "java/lang/String" "COMPACT_STRINGS" "Z" (.int cs)) (hcs : ¬ cs = 0) (O0 : Old Z n0 h0) (E_a1 : Exa Z h0 a1 "java/lang/StringBuilder") (F_a1_v : Fld Z h0 a1 "java/lang/AbstractStringBuilder" "value" "[B" (.ref d)) (F_a1_c : Fld Z h0 a1 "java/lang/AbstractStringBuilder" "coder" "B" (.int 0)) (F_a1_n : Fld Z h0 a1 "java/lang/AbstractStringBuilder" "count" "I" (.int (Int32.ofNat cn))) (V_d : BL Z h0 d dk ds) (hn1 : cn < ds.length) (hn2 : ds.length ≤ 142) (Z0 : n0 ≤ h0.size) :
    MetFree l (⟨"java/lang/StringBuilder", "toString", "()Ljava/lang/String;"⟩ : MethodName) (head1 (Jvm.Cond.code (⟨"java/lang/StringBuilder", "toString", "()Ljava/lang/String;"⟩ : MethodName) jdk_67_method_42_code 1 (some (.object "java/lang/String")) :: ws) ({ frames := 5, cells := 2, slots := 146, locals := 111 } : Room)) (fun a U => a = #[(.ref a1)] ∧ Z.Warmed39 U.vm ∧ U.heap = h0) (fun _ _ _ _ _ => True) (fun _ U o U' => ∃ v L, o = .returned v ∧ Q23 Z a1 cs d dk ds cn h0 n0 v U'.heap L ∧ FrameEnd U o U' L ({ frames := 5, cells := 2, slots := 146, locals := 111 } : Room).cells ({ frames := 5, cells := 2, slots := 146, locals := 111 } : Room).slots) := by
  refine MetFree.of_bodySF (plainFor_of_name pn_23) hisR ?_
  intro p e s m args below meth c s₁ Bd hml0 hP hK
  obtain ⟨rfl, hZ, hh⟩ := hP
  have hx := Bd.exec
  have hby := Bd.bytes
  have hml : c.maxLocals = 1 := hml0
  have hown0 := findClass_of_methodNamed Bd.named
  have hown : s.vm.findClass "java/lang/StringBuilder" = some m.cls := hown0
  have hnm := (name_of_methodNamed Bd.named Bd.method).1
  have X0 : Stand p l e ({ frames := 5, cells := 2, slots := 146, locals := 111 } : Room) s m #[(.ref a1)] below meth c s₁ [] 0 0 := Stand.of_body Bd
  have e0 : s₁.heap = h0 := by rw [← hh, Bd.state]; rfl
  have N0 := Fr.nil n0
  have pre0 : ∀ t, Steps p.tables e below (s₁.setTop (mkF m 0 #[.val (.ref a1)] [])) t → Steps p.tables e below (s₁.setTop (entryFrame m #[(.ref a1)] 1)) t := fun t k => castTop (ef_23 m a1) k
  refine Classical.byContradiction fun hneg => ?_
  obtain ⟨T1, h1, X1, e1, E1, A1, D1, U1, st1⟩ := newO X0 hx hZ hown (hw _ (List.mem_of_getElem? (i := 165) rfl)) (hw _ (List.mem_of_getElem? (i := 1) rfl)) (hw _ (List.mem_of_getElem? (i := 2) rfl)) e0 (g := (mkF m 0 #[.val (.ref a1)] [])) rfl (hb hby d23_0) (by decide) (by decide)
  obtain ⟨b1, g1⟩ : ∃ z, z = h0.size := ⟨_, rfl⟩
  rw [← g1] at A1 D1 U1 st1
  have ne_a1_b1 : a1 ≠ b1 := Nat.ne_of_lt (Nat.lt_of_lt_of_le E_a1.lt (Nat.le_of_eq g1.symm))
  have ne_d_b1 : d ≠ b1 := Nat.ne_of_lt (Nat.lt_of_lt_of_le V_d.lt (Nat.le_of_eq g1.symm))
  have g_b1 : n0 ≤ b1 := Nat.le_trans Z0 (Nat.le_of_eq g1.symm)
  have sz_b1 : h0.size ≤ b1 := Nat.le_trans (Keep.refl h0 []).1 (Nat.le_of_eq g1.symm)
  have E_a1_1 := E_a1.ext E1
  have F_a1_value_1 := F_a1_v.ext E1
  have F_a1_coder_1 := F_a1_c.ext E1
  have F_a1_count_1 := F_a1_n.ext E1
  have V_d_1 := V_d.ext E1
  have K1 : Keep h0 h1 [] := (Keep.refl h0 []).ext E1
  have Z1 : n0 ≤ h1.size := Nat.le_trans Z0 E1.1
  have O1 := Old.ext O0 E1
  have F_coder_b1 : Fld Z h1 b1 "java/lang/String" "coder" "B" (.int (0 : Int32)) := D1 (Or.inr (hw _ (List.mem_of_getElem? (i := 27) rfl))) (ty := .byte) (by decide)
  have F_value_b1 : Fld Z h1 b1 "java/lang/String" "value" "[B" .null := D1 (Or.inr (hw _ (List.mem_of_getElem? (i := 29) rfl))) (ty := (.array .byte)) (by decide)
  obtain ⟨_, _, ⟨T2, L2, k2, n2⟩, -, X2, ⟨Lc2, hQ2, l2, y2, z2⟩, st2⟩ := X1.specialBack hx (y := (⟨"java/lang/String", "<init>", "(Ljava/lang/StringBuilder;)V"⟩ : MethodName)) rfl hown (mvT hZ (hw _ (List.mem_of_getElem? (i := 166) rfl))) (mvT hZ (hw _ (List.mem_of_getElem? (i := 167) rfl))) (mvT hZ (hw _ (List.mem_of_getElem? (i := 168) rfl))) (by decide) (backOf (W := 1) (rm24 l Z a0 hw [] b1 a1  h1 n0 cs d dk ds cn CS hcs O1 _ _ Z1 g_b1 A1 F_value_b1 F_coder_b1 E_a1_1 F_a1_value_1 F_a1_coder_1 F_a1_count_1 V_d_1 hn1 hn2) hZ (hw _ (List.mem_of_getElem? (i := 168) rfl)) (hw _ (List.mem_of_getElem? (i := 2) rfl)) (by decide) (by decide)) (g := (mkF m 5 #[.val (.ref a1)] [(.ref a1), (.ref b1), (.ref b1)])) rfl (by rw [hml]; rfl) (Steps.refl _) (a := b1) (argsL := [(.ref a1)]) (rest := [(.ref b1)]) (lenOf pd13 rfl) rfl (by show 2 * 0 + _ ≤ _; exact Nat.le_of_eq rfl) (hb hby d23_5) (fun _ _ => ⟨rfl, e1, (by decide : 1 + 1 ≤ _), (by decide : 4 + 142 ≤ _)⟩)
  dsimp only [Pt.U, Pt.locs, Pt.cells, Pt.slots] at X2 l2 y2 z2 st2 hQ2
  subst l2 y2 z2
  obtain ⟨d'_2, k'_2, bs'_2, rfl, N2q, Kc2, G2_0, G2_1, G2_2, G2_3, eqb_2, f_d'_2⟩ := hQ2
  have N2 := Fr.app N0 N2q
  have ne_a1_d'_2 : a1 ≠ d'_2 := Nat.ne_of_lt (Nat.lt_of_lt_of_le E_a1_1.lt f_d'_2)
  have ne_d_d'_2 : d ≠ d'_2 := Nat.ne_of_lt (Nat.lt_of_lt_of_le V_d_1.lt f_d'_2)
  have ne_b1_d'_2 : b1 ≠ d'_2 := Nat.ne_of_lt (Nat.lt_of_lt_of_le A1.lt f_d'_2)
  have g_d'_2 : n0 ≤ d'_2 := Nat.le_trans Z1 f_d'_2
  have sz_d'_2 : h0.size ≤ d'_2 := Nat.le_trans K1.1 f_d'_2
  have E_a1_2 := E_a1_1.keep Kc2
  have F_a1_value_2 := F_a1_value_1.keep Kc2 (ninS ne_a1_b1 nin0)
  have F_a1_coder_2 := F_a1_coder_1.keep Kc2 (ninS ne_a1_b1 nin0)
  have F_a1_count_2 := F_a1_count_1.keep Kc2 (ninS ne_a1_b1 nin0)
  have V_d_2 := V_d_1.keep Kc2 (ninS ne_d_b1 nin0)
  have K2 : Keep h0 T2.heap [] := K1.trans Kc2 (allS (P := fun x => x ∈ ([] : List Addr) ∨ h0.size ≤ x) (Or.inr sz_b1) all0)
  have Z2 : n0 ≤ T2.heap.size := Nat.le_trans Z1 Kc2.1
  have O2 := Old.keep O1 Kc2 (allS g_b1 all0)
  refine hneg ?_
  obtain ⟨fs, hr, hrun, hended, hW, hsame⟩ := X2.leave (v := some (.ref b1)) (fun h => by rw [Bd.returns] at h; cases h)
  refine ⟨_, _, pre0 _ ?_, hrun, hended, _, _, rfl, ?_, ⟨_, rfl⟩, hW, hsame.mono (by decide) (by decide)⟩
  · show Steps p.tables e below (s₁.setTop (mkF m 0 #[.val (.ref a1)] [])) _
    refine st1 _ ?_
    show Steps p.tables e below (T1.setTop (mkF m 3 #[.val (.ref a1)] [(.ref b1)])) _
    refine XS.dup X1.here hx rfl (hb hby d23_3) rfl rfl ?_
    show Steps p.tables e below (T1.setTop (mkF m 4 #[.val (.ref a1)] [(.ref b1), (.ref b1)])) _
    refine XS.aloadN X1.here hx rfl (hb hby d23_4) rfl rfl ?_
    show Steps p.tables e below (T1.setTop (mkF m 5 #[.val (.ref a1)] [(.ref a1), (.ref b1), (.ref b1)])) _
    refine st2.trans ?_
    show Steps p.tables e below (T2.setTop (mkF m 8 #[.val (.ref a1)] [(.ref b1)])) _
    exact retOut X2 hx (t := (.object "java/lang/String")) Bd.returns rfl (Or.inr (Or.inr (Or.inr (Or.inr ⟨rfl, rfl, rfl⟩)))) (hb hby d23_8) hr
  · show Q23 Z a1 cs d dk ds cn h0 n0 _ T2.heap _
    exact ⟨_, _, _, _, rfl, N2, K2, G2_0, G2_1, G2_2, G2_3, eqb_2, sz_b1, sz_d'_2⟩

theorem d34_0 : decode jdk_78_method_6_code 0 = .ok (.aload_n 0, 1) := by decide +kernel
theorem d34_1 : decode jdk_78_method_6_code 1 = .ok (.getfield 31, 3) := by decide +kernel
theorem d34_4 : decode jdk_78_method_6_code 4 = .ok (.areturn, 1) := by decide +kernel
theorem pn_34 : plainName "java/lang/Throwable" = true := by first | (simp [plainName, overriddenIn]; done) | decide +kernel
theorem ef_34 (m : MethodId) (a1 : Addr) : entryFrame m #[(.ref a1)] 1 = mkF m 0 #[.val (.ref a1)] [] := by first | (simp [entryFrame, mkF, argsToLocals, Value.category]; done) | rfl
def Q34 (Z : State) (a1 : Addr) (mg : Addr) (h0 : Heap) (n0 : Nat) (v : Option Value) (h : Heap) (L : List Loc) : Prop := v = some (.ref mg) ∧ Fr n0 L ∧ h = h0
set_option maxRecDepth 65536 in
set_option maxHeartbeats 40000000 in
theorem rm34 (l : Launch) (Z : State) (a0 : Array Value) (hw : ∀ d ∈ tables_1, d.before a0 Z = true) (ws : List Jvm.Cond) (a1 : Addr) (h0 : Heap) (n0 : Nat) (mg : Addr) (F_m : Fld Z h0 a1 "java/lang/Throwable" "detailMessage" "Ljava/lang/String;" (.ref mg)) :
    MetFree l (⟨"java/lang/Throwable", "getMessage", "()Ljava/lang/String;"⟩ : MethodName) (head1 (Jvm.Cond.code (⟨"java/lang/Throwable", "getMessage", "()Ljava/lang/String;"⟩ : MethodName) jdk_78_method_6_code 1 (some (.object "java/lang/String")) :: ws) ({ frames := 0, cells := 0, slots := 0, locals := 0 } : Room)) (fun a U => a = #[(.ref a1)] ∧ Z.Warmed39 U.vm ∧ U.heap = h0) (fun _ _ _ _ _ => True) (fun _ U o U' => ∃ v L, o = .returned v ∧ Q34 Z a1 mg h0 n0 v U'.heap L ∧ FrameEnd U o U' L ({ frames := 0, cells := 0, slots := 0, locals := 0 } : Room).cells ({ frames := 0, cells := 0, slots := 0, locals := 0 } : Room).slots) := by
  refine MetFree.of_bodySF (plainFor_of_name pn_34) hisR ?_
  intro p e s m args below meth c s₁ Bd hml0 hP hK
  obtain ⟨rfl, hZ, hh⟩ := hP
  have hx := Bd.exec
  have hby := Bd.bytes
  have hml : c.maxLocals = 1 := hml0
  have hown0 := findClass_of_methodNamed Bd.named
  have hown : s.vm.findClass "java/lang/Throwable" = some m.cls := hown0
  have hnm := (name_of_methodNamed Bd.named Bd.method).1
  have X0 : Stand p l e ({ frames := 0, cells := 0, slots := 0, locals := 0 } : Room) s m #[(.ref a1)] below meth c s₁ [] 0 0 := Stand.of_body Bd
  have e0 : s₁.heap = h0 := by rw [← hh, Bd.state]; rfl
  have N0 := Fr.nil n0
  have pre0 : ∀ t, Steps p.tables e below (s₁.setTop (mkF m 0 #[.val (.ref a1)] [])) t → Steps p.tables e below (s₁.setTop (entryFrame m #[(.ref a1)] 1)) t := fun t k => castTop (ef_34 m a1) k
  refine Classical.byContradiction fun hneg => ?_
  obtain ⟨T1, X1, e1, st1⟩ := getF X0 hx hZ hown (host := "") (Or.inl (hw _ (List.mem_of_getElem? (i := 86) rfl))) Via.refl e0 F_m (g := (mkF m 1 #[.val (.ref a1)] [(.ref a1)])) rfl rfl (hb hby d34_1)
  refine hneg ?_
  obtain ⟨fs, hr, hrun, hended, hW, hsame⟩ := X1.leave (v := some (.ref mg)) (fun h => by rw [Bd.returns] at h; cases h)
  refine ⟨_, _, pre0 _ ?_, hrun, hended, _, _, rfl, ?_, ⟨_, rfl⟩, hW, hsame.mono (by decide) (by decide)⟩
  · show Steps p.tables e below (s₁.setTop (mkF m 0 #[.val (.ref a1)] [])) _
    refine XS.aloadN X0.here hx rfl (hb hby d34_0) rfl rfl ?_
    show Steps p.tables e below (s₁.setTop (mkF m 1 #[.val (.ref a1)] [(.ref a1)])) _
    refine st1 _ ?_
    show Steps p.tables e below (T1.setTop (mkF m 4 #[.val (.ref a1)] [(.ref mg)])) _
    exact retOut X1 hx (t := (.object "java/lang/String")) Bd.returns rfl (Or.inr (Or.inr (Or.inr (Or.inr ⟨rfl, rfl, rfl⟩)))) (hb hby d34_4) hr
  · show Q34 Z a1 mg h0 n0 _ T1.heap _
    rw [e1]
    exact ⟨rfl, N0, rfl⟩

theorem d39_0 : decode jdk_22_method_1_code 0 = .ok (.aload_n 0, 1) := by decide +kernel
theorem d39_1 : decode jdk_22_method_1_code 1 = .ok (.invokespecial 1, 3) := by decide +kernel
theorem d39_4 : decode jdk_22_method_1_code 4 = .ok (.return_, 1) := by decide +kernel
theorem pn_39 : plainName "java/util/AbstractCollection" = true := by first | (simp [plainName, overriddenIn]; done) | decide +kernel
theorem ef_39 (m : MethodId) (a1 : Addr) : entryFrame m #[(.ref a1)] 1 = mkF m 0 #[.val (.ref a1)] [] := by first | (simp [entryFrame, mkF, argsToLocals, Value.category]; done) | rfl
def Q39 (Z : State) (a1 : Addr) (h0 : Heap) (n0 : Nat) (v : Option Value) (h : Heap) (L : List Loc) : Prop := v = none ∧ Fr n0 L ∧ h = h0
set_option maxRecDepth 65536 in
set_option maxHeartbeats 40000000 in
theorem rm39 (l : Launch) (Z : State) (a0 : Array Value) (hw : ∀ d ∈ tables_1, d.before a0 Z = true) (ws : List Jvm.Cond) (a1 : Addr) (h0 : Heap) (n0 : Nat)  :
    MetFree l (⟨"java/util/AbstractCollection", "<init>", "()V"⟩ : MethodName) (head1 (Jvm.Cond.code (⟨"java/util/AbstractCollection", "<init>", "()V"⟩ : MethodName) jdk_22_method_1_code 1 none :: ws) ({ frames := 1, cells := 0, slots := 0, locals := 12 } : Room)) (fun a U => a = #[(.ref a1)] ∧ Z.Warmed39 U.vm ∧ U.heap = h0) (fun _ _ _ _ _ => True) (fun _ U o U' => ∃ v L, o = .returned v ∧ Q39 Z a1 h0 n0 v U'.heap L ∧ FrameEnd U o U' L ({ frames := 1, cells := 0, slots := 0, locals := 12 } : Room).cells ({ frames := 1, cells := 0, slots := 0, locals := 12 } : Room).slots) := by
  refine MetFree.of_bodySF (plainFor_of_name pn_39) hisR ?_
  intro p e s m args below meth c s₁ Bd hml0 hP hK
  obtain ⟨rfl, hZ, hh⟩ := hP
  have hx := Bd.exec
  have hby := Bd.bytes
  have hml : c.maxLocals = 1 := hml0
  have hown0 := findClass_of_methodNamed Bd.named
  have hown : s.vm.findClass "java/util/AbstractCollection" = some m.cls := hown0
  have hnm := (name_of_methodNamed Bd.named Bd.method).1
  have X0 : Stand p l e ({ frames := 1, cells := 0, slots := 0, locals := 12 } : Room) s m #[(.ref a1)] below meth c s₁ [] 0 0 := Stand.of_body Bd
  have e0 : s₁.heap = h0 := by rw [← hh, Bd.state]; rfl
  have N0 := Fr.nil n0
  have pre0 : ∀ t, Steps p.tables e below (s₁.setTop (mkF m 0 #[.val (.ref a1)] [])) t → Steps p.tables e below (s₁.setTop (entryFrame m #[(.ref a1)] 1)) t := fun t k => castTop (ef_39 m a1) k
  refine Classical.byContradiction fun hneg => ?_
  obtain ⟨T1, X1, e1, st1⟩ := initO X0 hx hZ hown (hw _ (List.mem_of_getElem? (i := 240) rfl)) (hw _ (List.mem_of_getElem? (i := 12) rfl)) (hw _ (List.mem_of_getElem? (i := 13) rfl)) e0 (g := (mkF m 1 #[.val (.ref a1)] [(.ref a1)])) rfl (by rw [hml]; rfl) rfl (hb hby d39_1) (by decide) (W := 0) (by show 2 * 0 + _ ≤ _; exact Nat.le_of_eq rfl) (by decide)
  refine hneg ?_
  obtain ⟨fs, hr, hrun, hended, hW, hsame⟩ := X1.leave (v := none) (fun _ => rfl)
  refine ⟨_, _, pre0 _ ?_, hrun, hended, _, _, rfl, ?_, ⟨_, rfl⟩, hW, hsame.mono (by decide) (by decide)⟩
  · show Steps p.tables e below (s₁.setTop (mkF m 0 #[.val (.ref a1)] [])) _
    refine XS.aloadN X0.here hx rfl (hb hby d39_0) rfl rfl ?_
    show Steps p.tables e below (s₁.setTop (mkF m 1 #[.val (.ref a1)] [(.ref a1)])) _
    refine st1 _ ?_
    show Steps p.tables e below (T1.setTop (mkF m 4 #[.val (.ref a1)] [])) _
    exact X1.returnOut hx Bd.returns (hb hby d39_4) hr
  · show Q39 Z a1 h0 n0 _ T1.heap _
    rw [e1]
    exact ⟨rfl, N0, rfl⟩

theorem d38_0 : decode jdk_47_method_1_code 0 = .ok (.aload_n 0, 1) := by decide +kernel
theorem d38_1 : decode jdk_47_method_1_code 1 = .ok (.invokespecial 1, 3) := by decide +kernel
theorem d38_4 : decode jdk_47_method_1_code 4 = .ok (.return_, 1) := by decide +kernel
theorem pn_38 : plainName "java/util/ImmutableCollections$AbstractImmutableCollection" = true := by first | (simp [plainName, overriddenIn]; done) | decide +kernel
theorem ef_38 (m : MethodId) (a1 : Addr) : entryFrame m #[(.ref a1)] 1 = mkF m 0 #[.val (.ref a1)] [] := by first | (simp [entryFrame, mkF, argsToLocals, Value.category]; done) | rfl
def Q38 (Z : State) (a1 : Addr) (h0 : Heap) (n0 : Nat) (v : Option Value) (h : Heap) (L : List Loc) : Prop := v = none ∧ Fr n0 L ∧ h = h0
set_option maxRecDepth 65536 in
set_option maxHeartbeats 40000000 in
theorem rm38 (l : Launch) (Z : State) (a0 : Array Value) (hw : ∀ d ∈ tables_1, d.before a0 Z = true) (ws : List Jvm.Cond) (a1 : Addr) (h0 : Heap) (n0 : Nat)  :
    MetFree l (⟨"java/util/ImmutableCollections$AbstractImmutableCollection", "<init>", "()V"⟩ : MethodName) (head1 (Jvm.Cond.code (⟨"java/util/ImmutableCollections$AbstractImmutableCollection", "<init>", "()V"⟩ : MethodName) jdk_47_method_1_code 1 none :: ws) ({ frames := 2, cells := 0, slots := 0, locals := 24 } : Room)) (fun a U => a = #[(.ref a1)] ∧ Z.Warmed39 U.vm ∧ U.heap = h0) (fun _ _ _ _ _ => True) (fun _ U o U' => ∃ v L, o = .returned v ∧ Q38 Z a1 h0 n0 v U'.heap L ∧ FrameEnd U o U' L ({ frames := 2, cells := 0, slots := 0, locals := 24 } : Room).cells ({ frames := 2, cells := 0, slots := 0, locals := 24 } : Room).slots) := by
  refine MetFree.of_bodySF (plainFor_of_name pn_38) hisR ?_
  intro p e s m args below meth c s₁ Bd hml0 hP hK
  obtain ⟨rfl, hZ, hh⟩ := hP
  have hx := Bd.exec
  have hby := Bd.bytes
  have hml : c.maxLocals = 1 := hml0
  have hown0 := findClass_of_methodNamed Bd.named
  have hown : s.vm.findClass "java/util/ImmutableCollections$AbstractImmutableCollection" = some m.cls := hown0
  have hnm := (name_of_methodNamed Bd.named Bd.method).1
  have X0 : Stand p l e ({ frames := 2, cells := 0, slots := 0, locals := 24 } : Room) s m #[(.ref a1)] below meth c s₁ [] 0 0 := Stand.of_body Bd
  have e0 : s₁.heap = h0 := by rw [← hh, Bd.state]; rfl
  have N0 := Fr.nil n0
  have pre0 : ∀ t, Steps p.tables e below (s₁.setTop (mkF m 0 #[.val (.ref a1)] [])) t → Steps p.tables e below (s₁.setTop (entryFrame m #[(.ref a1)] 1)) t := fun t k => castTop (ef_38 m a1) k
  refine Classical.byContradiction fun hneg => ?_
  obtain ⟨_, _, ⟨T1, L1, k1, n1⟩, -, X1, ⟨Lc1, hQ1, l1, y1, z1⟩, st1⟩ := X0.specialBack hx (y := (⟨"java/util/AbstractCollection", "<init>", "()V"⟩ : MethodName)) rfl hown (mvT hZ (hw _ (List.mem_of_getElem? (i := 234) rfl))) (mvT hZ (hw _ (List.mem_of_getElem? (i := 235) rfl))) (mvT hZ (hw _ (List.mem_of_getElem? (i := 239) rfl))) (by decide) (backOf (W := 0) (rm39 l Z a0 hw [] a1  h0 n0  ) hZ (hw _ (List.mem_of_getElem? (i := 239) rfl)) (hw _ (List.mem_of_getElem? (i := 238) rfl)) (by decide) (by decide)) (g := (mkF m 1 #[.val (.ref a1)] [(.ref a1)])) rfl (by rw [hml]; rfl) (Steps.refl _) (a := a1) (argsL := []) (rest := []) (lenOf pd14 rfl) rfl (by show 2 * 0 + _ ≤ _; exact Nat.le_of_eq rfl) (hb hby d38_1) (fun _ _ => ⟨rfl, e0, (by decide : 0 + 0 ≤ _), (by decide : 0 + 0 ≤ _)⟩)
  dsimp only [Pt.U, Pt.locs, Pt.cells, Pt.slots] at X1 l1 y1 z1 st1 hQ1
  subst l1 y1 z1
  obtain ⟨rfl, N1q, e1⟩ := hQ1
  have N1 := Fr.app N0 N1q
  refine hneg ?_
  obtain ⟨fs, hr, hrun, hended, hW, hsame⟩ := X1.leave (v := none) (fun _ => rfl)
  refine ⟨_, _, pre0 _ ?_, hrun, hended, _, _, rfl, ?_, ⟨_, rfl⟩, hW, hsame.mono (by decide) (by decide)⟩
  · show Steps p.tables e below (s₁.setTop (mkF m 0 #[.val (.ref a1)] [])) _
    refine XS.aloadN X0.here hx rfl (hb hby d38_0) rfl rfl ?_
    show Steps p.tables e below (s₁.setTop (mkF m 1 #[.val (.ref a1)] [(.ref a1)])) _
    refine st1.trans ?_
    show Steps p.tables e below (T1.setTop (mkF m 4 #[.val (.ref a1)] [])) _
    exact X1.returnOut hx Bd.returns (hb hby d38_4) hr
  · show Q38 Z a1 h0 n0 _ T1.heap _
    rw [e1]
    exact ⟨rfl, N1, rfl⟩

theorem d37_0 : decode jdk_46_method_1_code 0 = .ok (.aload_n 0, 1) := by decide +kernel
theorem d37_1 : decode jdk_46_method_1_code 1 = .ok (.invokespecial 1, 3) := by decide +kernel
theorem d37_4 : decode jdk_46_method_1_code 4 = .ok (.return_, 1) := by decide +kernel
theorem pn_37 : plainName "java/util/ImmutableCollections$AbstractImmutableList" = true := by first | (simp [plainName, overriddenIn]; done) | decide +kernel
theorem ef_37 (m : MethodId) (a1 : Addr) : entryFrame m #[(.ref a1)] 1 = mkF m 0 #[.val (.ref a1)] [] := by first | (simp [entryFrame, mkF, argsToLocals, Value.category]; done) | rfl
def Q37 (Z : State) (a1 : Addr) (h0 : Heap) (n0 : Nat) (v : Option Value) (h : Heap) (L : List Loc) : Prop := v = none ∧ Fr n0 L ∧ h = h0
set_option maxRecDepth 65536 in
set_option maxHeartbeats 40000000 in
theorem rm37 (l : Launch) (Z : State) (a0 : Array Value) (hw : ∀ d ∈ tables_1, d.before a0 Z = true) (ws : List Jvm.Cond) (a1 : Addr) (h0 : Heap) (n0 : Nat)  :
    MetFree l (⟨"java/util/ImmutableCollections$AbstractImmutableList", "<init>", "()V"⟩ : MethodName) (head1 (Jvm.Cond.code (⟨"java/util/ImmutableCollections$AbstractImmutableList", "<init>", "()V"⟩ : MethodName) jdk_46_method_1_code 1 none :: ws) ({ frames := 3, cells := 0, slots := 0, locals := 36 } : Room)) (fun a U => a = #[(.ref a1)] ∧ Z.Warmed39 U.vm ∧ U.heap = h0) (fun _ _ _ _ _ => True) (fun _ U o U' => ∃ v L, o = .returned v ∧ Q37 Z a1 h0 n0 v U'.heap L ∧ FrameEnd U o U' L ({ frames := 3, cells := 0, slots := 0, locals := 36 } : Room).cells ({ frames := 3, cells := 0, slots := 0, locals := 36 } : Room).slots) := by
  refine MetFree.of_bodySF (plainFor_of_name pn_37) hisR ?_
  intro p e s m args below meth c s₁ Bd hml0 hP hK
  obtain ⟨rfl, hZ, hh⟩ := hP
  have hx := Bd.exec
  have hby := Bd.bytes
  have hml : c.maxLocals = 1 := hml0
  have hown0 := findClass_of_methodNamed Bd.named
  have hown : s.vm.findClass "java/util/ImmutableCollections$AbstractImmutableList" = some m.cls := hown0
  have hnm := (name_of_methodNamed Bd.named Bd.method).1
  have X0 : Stand p l e ({ frames := 3, cells := 0, slots := 0, locals := 36 } : Room) s m #[(.ref a1)] below meth c s₁ [] 0 0 := Stand.of_body Bd
  have e0 : s₁.heap = h0 := by rw [← hh, Bd.state]; rfl
  have N0 := Fr.nil n0
  have pre0 : ∀ t, Steps p.tables e below (s₁.setTop (mkF m 0 #[.val (.ref a1)] [])) t → Steps p.tables e below (s₁.setTop (entryFrame m #[(.ref a1)] 1)) t := fun t k => castTop (ef_37 m a1) k
  refine Classical.byContradiction fun hneg => ?_
  obtain ⟨_, _, ⟨T1, L1, k1, n1⟩, -, X1, ⟨Lc1, hQ1, l1, y1, z1⟩, st1⟩ := X0.specialBack hx (y := (⟨"java/util/ImmutableCollections$AbstractImmutableCollection", "<init>", "()V"⟩ : MethodName)) rfl hown (mvT hZ (hw _ (List.mem_of_getElem? (i := 228) rfl))) (mvT hZ (hw _ (List.mem_of_getElem? (i := 229) rfl))) (mvT hZ (hw _ (List.mem_of_getElem? (i := 233) rfl))) (by decide) (backOf (W := 0) (rm38 l Z a0 hw [] a1  h0 n0  ) hZ (hw _ (List.mem_of_getElem? (i := 233) rfl)) (hw _ (List.mem_of_getElem? (i := 232) rfl)) (by decide) (by decide)) (g := (mkF m 1 #[.val (.ref a1)] [(.ref a1)])) rfl (by rw [hml]; rfl) (Steps.refl _) (a := a1) (argsL := []) (rest := []) (lenOf pd14 rfl) rfl (by show 2 * 0 + _ ≤ _; exact Nat.le_of_eq rfl) (hb hby d37_1) (fun _ _ => ⟨rfl, e0, (by decide : 0 + 0 ≤ _), (by decide : 0 + 0 ≤ _)⟩)
  dsimp only [Pt.U, Pt.locs, Pt.cells, Pt.slots] at X1 l1 y1 z1 st1 hQ1
  subst l1 y1 z1
  obtain ⟨rfl, N1q, e1⟩ := hQ1
  have N1 := Fr.app N0 N1q
  refine hneg ?_
  obtain ⟨fs, hr, hrun, hended, hW, hsame⟩ := X1.leave (v := none) (fun _ => rfl)
  refine ⟨_, _, pre0 _ ?_, hrun, hended, _, _, rfl, ?_, ⟨_, rfl⟩, hW, hsame.mono (by decide) (by decide)⟩
  · show Steps p.tables e below (s₁.setTop (mkF m 0 #[.val (.ref a1)] [])) _
    refine XS.aloadN X0.here hx rfl (hb hby d37_0) rfl rfl ?_
    show Steps p.tables e below (s₁.setTop (mkF m 1 #[.val (.ref a1)] [(.ref a1)])) _
    refine st1.trans ?_
    show Steps p.tables e below (T1.setTop (mkF m 4 #[.val (.ref a1)] [])) _
    exact X1.returnOut hx Bd.returns (hb hby d37_4) hr
  · show Q37 Z a1 h0 n0 _ T1.heap _
    rw [e1]
    exact ⟨rfl, N1, rfl⟩

theorem d40_0 : decode jdk_31_method_10_code 0 = .ok (.aload_n 0, 1) := by decide +kernel
theorem d40_1 : decode jdk_31_method_10_code 1 = .ok (.ifnonnull 11, 3) := by decide +kernel
theorem d40_12 : decode jdk_31_method_10_code 12 = .ok (.aload_n 0, 1) := by decide +kernel
theorem d40_13 : decode jdk_31_method_10_code 13 = .ok (.areturn, 1) := by decide +kernel
theorem pn_40 : plainName "java/util/Objects" = true := by first | (simp [plainName, overriddenIn]; done) | decide +kernel
theorem ef_40 (m : MethodId) (a1 : Addr) : entryFrame m #[(.ref a1)] 1 = mkF m 0 #[.val (.ref a1)] [] := by first | (simp [entryFrame, mkF, argsToLocals, Value.category]; done) | rfl
def Q40 (Z : State) (a1 : Addr) (h0 : Heap) (n0 : Nat) (v : Option Value) (h : Heap) (L : List Loc) : Prop := v = some (.ref a1) ∧ Fr n0 L ∧ h = h0
set_option maxRecDepth 65536 in
set_option maxHeartbeats 40000000 in
theorem rm40 (l : Launch) (Z : State) (a0 : Array Value) (hw : ∀ d ∈ tables_1, d.before a0 Z = true) (ws : List Jvm.Cond) (a1 : Addr) (h0 : Heap) (n0 : Nat)  :
    MetFree l (⟨"java/util/Objects", "requireNonNull", "(Ljava/lang/Object;)Ljava/lang/Object;"⟩ : MethodName) (head1 (Jvm.Cond.code (⟨"java/util/Objects", "requireNonNull", "(Ljava/lang/Object;)Ljava/lang/Object;"⟩ : MethodName) jdk_31_method_10_code 1 (some (.object "java/lang/Object")) :: ws) ({ frames := 0, cells := 0, slots := 0, locals := 0 } : Room)) (fun a U => a = #[(.ref a1)] ∧ Z.Warmed39 U.vm ∧ U.heap = h0) (fun _ _ _ _ _ => True) (fun _ U o U' => ∃ v L, o = .returned v ∧ Q40 Z a1 h0 n0 v U'.heap L ∧ FrameEnd U o U' L ({ frames := 0, cells := 0, slots := 0, locals := 0 } : Room).cells ({ frames := 0, cells := 0, slots := 0, locals := 0 } : Room).slots) := by
  refine MetFree.of_bodySF (plainFor_of_name pn_40) hisR ?_
  intro p e s m args below meth c s₁ Bd hml0 hP hK
  obtain ⟨rfl, hZ, hh⟩ := hP
  have hx := Bd.exec
  have hby := Bd.bytes
  have hml : c.maxLocals = 1 := hml0
  have hown0 := findClass_of_methodNamed Bd.named
  have hown : s.vm.findClass "java/util/Objects" = some m.cls := hown0
  have hnm := (name_of_methodNamed Bd.named Bd.method).1
  have X0 : Stand p l e ({ frames := 0, cells := 0, slots := 0, locals := 0 } : Room) s m #[(.ref a1)] below meth c s₁ [] 0 0 := Stand.of_body Bd
  have e0 : s₁.heap = h0 := by rw [← hh, Bd.state]; rfl
  have N0 := Fr.nil n0
  have pre0 : ∀ t, Steps p.tables e below (s₁.setTop (mkF m 0 #[.val (.ref a1)] [])) t → Steps p.tables e below (s₁.setTop (entryFrame m #[(.ref a1)] 1)) t := fun t k => castTop (ef_40 m a1) k
  refine Classical.byContradiction fun hneg => ?_
  refine hneg ?_
  obtain ⟨fs, hr, hrun, hended, hW, hsame⟩ := X0.leave (v := some (.ref a1)) (fun h => by rw [Bd.returns] at h; cases h)
  refine ⟨_, _, pre0 _ ?_, hrun, hended, _, _, rfl, ?_, ⟨_, rfl⟩, hW, hsame.mono (by decide) (by decide)⟩
  · show Steps p.tables e below (s₁.setTop (mkF m 0 #[.val (.ref a1)] [])) _
    refine XS.aloadN X0.here hx rfl (hb hby d40_0) rfl rfl ?_
    show Steps p.tables e below (s₁.setTop (mkF m 1 #[.val (.ref a1)] [(.ref a1)])) _
    refine XS.ifnonnullYes X0.here hx rfl (pc0 := 1) (pc' := 12) rfl (hb hby d40_1) rfl (by decide) (by decide) ?_
    show Steps p.tables e below (s₁.setTop (mkF m 12 #[.val (.ref a1)] [])) _
    refine XS.aloadN X0.here hx rfl (hb hby d40_12) rfl rfl ?_
    show Steps p.tables e below (s₁.setTop (mkF m 13 #[.val (.ref a1)] [(.ref a1)])) _
    exact retOut X0 hx (t := (.object "java/lang/Object")) Bd.returns rfl (Or.inr (Or.inr (Or.inr (Or.inr ⟨rfl, rfl, rfl⟩)))) (hb hby d40_13) hr
  · show Q40 Z a1 h0 n0 _ s₁.heap _
    rw [e0]
    exact ⟨rfl, N0, rfl⟩

theorem d36_0 : decode jdk_44_method_2_code 0 = .ok (.aload_n 0, 1) := by decide +kernel
theorem d36_1 : decode jdk_44_method_2_code 1 = .ok (.invokespecial 1, 3) := by decide +kernel
theorem d36_4 : decode jdk_44_method_2_code 4 = .ok (.aload_n 0, 1) := by decide +kernel
theorem d36_5 : decode jdk_44_method_2_code 5 = .ok (.aload_n 1, 1) := by decide +kernel
theorem d36_6 : decode jdk_44_method_2_code 6 = .ok (.invokestatic 7, 3) := by decide +kernel
theorem d36_9 : decode jdk_44_method_2_code 9 = .ok (.putfield 13, 3) := by decide +kernel
theorem d36_12 : decode jdk_44_method_2_code 12 = .ok (.aload_n 0, 1) := by decide +kernel
theorem d36_13 : decode jdk_44_method_2_code 13 = .ok (.aload_n 2, 1) := by decide +kernel
theorem d36_14 : decode jdk_44_method_2_code 14 = .ok (.invokestatic 7, 3) := by decide +kernel
theorem d36_17 : decode jdk_44_method_2_code 17 = .ok (.putfield 24, 3) := by decide +kernel
theorem d36_20 : decode jdk_44_method_2_code 20 = .ok (.return_, 1) := by decide +kernel
theorem pn_36 : plainName "java/util/ImmutableCollections$List12" = true := by first | (simp [plainName, overriddenIn]; done) | decide +kernel
theorem ef_36 (m : MethodId) (a1 : Addr) (a2 : Addr) (a3 : Addr) : entryFrame m #[(.ref a1), (.ref a2), (.ref a3)] 3 = mkF m 0 #[.val (.ref a1), .val (.ref a2), .val (.ref a3)] [] := by first | (simp [entryFrame, mkF, argsToLocals, Value.category]; done) | rfl
def Q36 (Z : State) (a1 : Addr) (a2 : Addr) (a3 : Addr) (h0 : Heap) (n0 : Nat) (v : Option Value) (h : Heap) (L : List Loc) : Prop := v = none ∧ Fr n0 L ∧ Keep h0 h [a1] ∧ Exa Z h a1 "java/util/ImmutableCollections$List12" ∧ Fld Z h a1 "java/util/ImmutableCollections$List12" "e0" "Ljava/lang/Object;" (.ref a2) ∧ Fld Z h a1 "java/util/ImmutableCollections$List12" "e1" "Ljava/lang/Object;" (.ref a3)
set_option maxRecDepth 65536 in
set_option maxHeartbeats 40000000 in
theorem rm36 (l : Launch) (Z : State) (a0 : Array Value) (hw : ∀ d ∈ tables_1, d.before a0 Z = true) (ws : List Jvm.Cond) (a1 : Addr) (a2 : Addr) (a3 : Addr) (h0 : Heap) (n0 : Nat) (u_e0 u_e1 : Value) (Z0 : n0 ≤ h0.size) (g_a1 : n0 ≤ a1) (E_a1 : Exa Z h0 a1 "java/util/ImmutableCollections$List12") (F_e0 : Fld Z h0 a1 "java/util/ImmutableCollections$List12" "e0" "Ljava/lang/Object;" u_e0) (F_e1 : Fld Z h0 a1 "java/util/ImmutableCollections$List12" "e1" "Ljava/lang/Object;" u_e1) :
    MetFree l (⟨"java/util/ImmutableCollections$List12", "<init>", "(Ljava/lang/Object;Ljava/lang/Object;)V"⟩ : MethodName) (head1 (Jvm.Cond.code (⟨"java/util/ImmutableCollections$List12", "<init>", "(Ljava/lang/Object;Ljava/lang/Object;)V"⟩ : MethodName) jdk_44_method_2_code 3 none :: ws) ({ frames := 4, cells := 0, slots := 0, locals := 48 } : Room)) (fun a U => a = #[(.ref a1), (.ref a2), (.ref a3)] ∧ Z.Warmed39 U.vm ∧ U.heap = h0) (fun _ _ _ _ _ => True) (fun _ U o U' => ∃ v L, o = .returned v ∧ Q36 Z a1 a2 a3 h0 n0 v U'.heap L ∧ FrameEnd U o U' L ({ frames := 4, cells := 0, slots := 0, locals := 48 } : Room).cells ({ frames := 4, cells := 0, slots := 0, locals := 48 } : Room).slots) := by
  refine MetFree.of_bodySF (plainFor_of_name pn_36) hisR ?_
  intro p e s m args below meth c s₁ Bd hml0 hP hK
  obtain ⟨rfl, hZ, hh⟩ := hP
  have hx := Bd.exec
  have hby := Bd.bytes
  have hml : c.maxLocals = 3 := hml0
  have hown0 := findClass_of_methodNamed Bd.named
  have hown : s.vm.findClass "java/util/ImmutableCollections$List12" = some m.cls := hown0
  have hnm := (name_of_methodNamed Bd.named Bd.method).1
  have X0 : Stand p l e ({ frames := 4, cells := 0, slots := 0, locals := 48 } : Room) s m #[(.ref a1), (.ref a2), (.ref a3)] below meth c s₁ [] 0 0 := Stand.of_body Bd
  have e0 : s₁.heap = h0 := by rw [← hh, Bd.state]; rfl
  have N0 := Fr.nil n0
  have pre0 : ∀ t, Steps p.tables e below (s₁.setTop (mkF m 0 #[.val (.ref a1), .val (.ref a2), .val (.ref a3)] [])) t → Steps p.tables e below (s₁.setTop (entryFrame m #[(.ref a1), (.ref a2), (.ref a3)] 3)) t := fun t k => castTop (ef_36 m a1 a2 a3) k
  refine Classical.byContradiction fun hneg => ?_
  obtain ⟨_, _, ⟨T1, L1, k1, n1⟩, -, X1, ⟨Lc1, hQ1, l1, y1, z1⟩, st1⟩ := X0.specialBack hx (y := (⟨"java/util/ImmutableCollections$AbstractImmutableList", "<init>", "()V"⟩ : MethodName)) rfl hown (mvT hZ (hw _ (List.mem_of_getElem? (i := 222) rfl))) (mvT hZ (hw _ (List.mem_of_getElem? (i := 223) rfl))) (mvT hZ (hw _ (List.mem_of_getElem? (i := 227) rfl))) (by decide) (backOf (W := 0) (rm37 l Z a0 hw [] a1  h0 n0  ) hZ (hw _ (List.mem_of_getElem? (i := 227) rfl)) (hw _ (List.mem_of_getElem? (i := 226) rfl)) (by decide) (by decide)) (g := (mkF m 1 #[.val (.ref a1), .val (.ref a2), .val (.ref a3)] [(.ref a1)])) rfl (by rw [hml]; rfl) (Steps.refl _) (a := a1) (argsL := []) (rest := []) (lenOf pd14 rfl) rfl (by show 2 * 0 + _ ≤ _; exact Nat.le_of_eq rfl) (hb hby d36_1) (fun _ _ => ⟨rfl, e0, (by decide : 0 + 0 ≤ _), (by decide : 0 + 0 ≤ _)⟩)
  dsimp only [Pt.U, Pt.locs, Pt.cells, Pt.slots] at X1 l1 y1 z1 st1 hQ1
  subst l1 y1 z1
  obtain ⟨rfl, N1q, e1⟩ := hQ1
  have N1 := Fr.app N0 N1q
  obtain ⟨_, _, ⟨T2, L2, k2, n2⟩, -, X2, ⟨Lc2, hQ2, l2, y2, z2⟩, st2⟩ := Jvm.LawKit.callS X1 hx (y := (⟨"java/util/Objects", "requireNonNull", "(Ljava/lang/Object;)Ljava/lang/Object;"⟩ : MethodName)) hown (mvT hZ (hw _ (List.mem_of_getElem? (i := 241) rfl))) (mvT hZ (hw _ (List.mem_of_getElem? (i := 242) rfl))) (mvT hZ (hw _ (List.mem_of_getElem? (i := 243) rfl))) (mvT hZ (hw _ (List.mem_of_getElem? (i := 244) rfl))) (by decide) (backOf (W := 1) (rm40 l Z a0 hw [] a2  h0 n0  ) hZ (hw _ (List.mem_of_getElem? (i := 244) rfl)) (hw _ (List.mem_of_getElem? (i := 243) rfl)) (by decide) (by decide)) (g := (mkF m 6 #[.val (.ref a1), .val (.ref a2), .val (.ref a3)] [(.ref a2), (.ref a1)])) rfl (by rw [hml]; rfl) (argsL := [(.ref a2)]) (rest := [(.ref a1)]) (lenOf pd15 rfl) rfl (by show 2 * 0 + _ ≤ _; exact Nat.le_of_eq rfl) (hb hby d36_6) (fun _ _ => ⟨rfl, e1, (by decide : 0 + 0 ≤ _), (by decide : 0 + 0 ≤ _)⟩)
  dsimp only [Pt.U, Pt.locs, Pt.cells, Pt.slots] at X2 l2 y2 z2 st2 hQ2
  subst l2 y2 z2
  obtain ⟨rfl, N2q, e2⟩ := hQ2
  have N2 := Fr.app N1 N2q
  obtain ⟨T3, h3, X3, e3, W3, st3⟩ := putF X2 hx hZ hown (host := "") (Or.inl (hw _ (List.mem_of_getElem? (i := 245) rfl))) Via.refl e2 F_e0 E_a1 (Or.inr ⟨(hw _ (List.mem_of_getElem? (i := 246) rfl)), rfl, hnm⟩) (hw _ (List.mem_of_getElem? (i := 216) rfl)) (ty := (.object "java/lang/Object")) (by decide) rfl rfl (g := (mkF m 9 #[.val (.ref a1), .val (.ref a2), .val (.ref a3)] [(.ref a2), (.ref a1)])) rfl rfl (hb hby d36_9)
  have E_a1_3 := E_a1.wr W3
  have F_a1_e0_3 := F_e0.same W3
  have F_a1_e1_3 := F_e1.other W3 (Or.inr (slot_ne (Or.inr (hw _ (List.mem_of_getElem? (i := 248) rfl))) (Or.inr (hw _ (List.mem_of_getElem? (i := 246) rfl))) (by decide) (t := (.object "java/lang/Object")) (t' := (.object "java/lang/Object")) (by decide) (by decide)))
  have K3 : Keep h0 h3 [a1] := (Keep.refl h0 [a1]).wr W3 (Or.inl (by simp))
  have N3 := Fr.snoc X3 N2 g_a1
  have Z3 : n0 ≤ h3.size := Nat.le_trans Z0 (Keep.of_wr W3).1
  obtain ⟨_, _, ⟨T4, L4, k4, n4⟩, -, X4, ⟨Lc4, hQ4, l4, y4, z4⟩, st4⟩ := Jvm.LawKit.callS X3 hx (y := (⟨"java/util/Objects", "requireNonNull", "(Ljava/lang/Object;)Ljava/lang/Object;"⟩ : MethodName)) hown (mvT hZ (hw _ (List.mem_of_getElem? (i := 241) rfl))) (mvT hZ (hw _ (List.mem_of_getElem? (i := 242) rfl))) (mvT hZ (hw _ (List.mem_of_getElem? (i := 243) rfl))) (mvT hZ (hw _ (List.mem_of_getElem? (i := 244) rfl))) (by decide) (backOf (W := 1) (rm40 l Z a0 hw [] a3  h3 n0  ) hZ (hw _ (List.mem_of_getElem? (i := 244) rfl)) (hw _ (List.mem_of_getElem? (i := 243) rfl)) (by decide) (by decide)) (g := (mkF m 14 #[.val (.ref a1), .val (.ref a2), .val (.ref a3)] [(.ref a3), (.ref a1)])) rfl (by rw [hml]; rfl) (argsL := [(.ref a3)]) (rest := [(.ref a1)]) (lenOf pd15 rfl) rfl (by show 2 * 0 + _ ≤ _; exact Nat.le_of_eq rfl) (hb hby d36_14) (fun _ _ => ⟨rfl, e3, (by decide : 0 + 0 ≤ _), (by decide : 0 + 0 ≤ _)⟩)
  dsimp only [Pt.U, Pt.locs, Pt.cells, Pt.slots] at X4 l4 y4 z4 st4 hQ4
  subst l4 y4 z4
  obtain ⟨rfl, N4q, e4⟩ := hQ4
  have N4 := Fr.app N3 N4q
  obtain ⟨T5, h5, X5, e5, W5, st5⟩ := putF X4 hx hZ hown (host := "") (Or.inl (hw _ (List.mem_of_getElem? (i := 247) rfl))) Via.refl e4 F_a1_e1_3 E_a1_3 (Or.inr ⟨(hw _ (List.mem_of_getElem? (i := 248) rfl)), rfl, hnm⟩) (hw _ (List.mem_of_getElem? (i := 216) rfl)) (ty := (.object "java/lang/Object")) (by decide) rfl rfl (g := (mkF m 17 #[.val (.ref a1), .val (.ref a2), .val (.ref a3)] [(.ref a3), (.ref a1)])) rfl rfl (hb hby d36_17)
  have E_a1_5 := E_a1_3.wr W5
  have F_a1_e0_5 := F_a1_e0_3.other W5 (Or.inr (slot_ne (Or.inr (hw _ (List.mem_of_getElem? (i := 246) rfl))) (Or.inr (hw _ (List.mem_of_getElem? (i := 248) rfl))) (by decide) (t := (.object "java/lang/Object")) (t' := (.object "java/lang/Object")) (by decide) (by decide)))
  have F_a1_e1_5 := F_a1_e1_3.same W5
  have K5 : Keep h0 h5 [a1] := K3.wr W5 (Or.inl (by simp))
  have N5 := Fr.snoc X5 N4 g_a1
  have Z5 : n0 ≤ h5.size := Nat.le_trans Z3 (Keep.of_wr W5).1
  refine hneg ?_
  obtain ⟨fs, hr, hrun, hended, hW, hsame⟩ := X5.leave (v := none) (fun _ => rfl)
  refine ⟨_, _, pre0 _ ?_, hrun, hended, _, _, rfl, ?_, ⟨_, rfl⟩, hW, hsame.mono (by decide) (by decide)⟩
  · show Steps p.tables e below (s₁.setTop (mkF m 0 #[.val (.ref a1), .val (.ref a2), .val (.ref a3)] [])) _
    refine XS.aloadN X0.here hx rfl (hb hby d36_0) rfl rfl ?_
    show Steps p.tables e below (s₁.setTop (mkF m 1 #[.val (.ref a1), .val (.ref a2), .val (.ref a3)] [(.ref a1)])) _
    refine st1.trans ?_
    show Steps p.tables e below (T1.setTop (mkF m 4 #[.val (.ref a1), .val (.ref a2), .val (.ref a3)] [])) _
    refine XS.aloadN X1.here hx rfl (hb hby d36_4) rfl rfl ?_
    show Steps p.tables e below (T1.setTop (mkF m 5 #[.val (.ref a1), .val (.ref a2), .val (.ref a3)] [(.ref a1)])) _
    refine XS.aloadN X1.here hx rfl (hb hby d36_5) rfl rfl ?_
    show Steps p.tables e below (T1.setTop (mkF m 6 #[.val (.ref a1), .val (.ref a2), .val (.ref a3)] [(.ref a2), (.ref a1)])) _
    refine st2 _ ?_
    show Steps p.tables e below (T2.setTop (mkF m 9 #[.val (.ref a1), .val (.ref a2), .val (.ref a3)] [(.ref a2), (.ref a1)])) _
    refine st3 _ ?_
    show Steps p.tables e below (T3.setTop (mkF m 12 #[.val (.ref a1), .val (.ref a2), .val (.ref a3)] [])) _
    refine XS.aloadN X3.here hx rfl (hb hby d36_12) rfl rfl ?_
    show Steps p.tables e below (T3.setTop (mkF m 13 #[.val (.ref a1), .val (.ref a2), .val (.ref a3)] [(.ref a1)])) _
    refine XS.aloadN X3.here hx rfl (hb hby d36_13) rfl rfl ?_
    show Steps p.tables e below (T3.setTop (mkF m 14 #[.val (.ref a1), .val (.ref a2), .val (.ref a3)] [(.ref a3), (.ref a1)])) _
    refine st4 _ ?_
    show Steps p.tables e below (T4.setTop (mkF m 17 #[.val (.ref a1), .val (.ref a2), .val (.ref a3)] [(.ref a3), (.ref a1)])) _
    refine st5 _ ?_
    show Steps p.tables e below (T5.setTop (mkF m 20 #[.val (.ref a1), .val (.ref a2), .val (.ref a3)] [])) _
    exact X5.returnOut hx Bd.returns (hb hby d36_20) hr
  · show Q36 Z a1 a2 a3 h0 n0 _ T5.heap _
    rw [e5]
    exact ⟨rfl, N5, K5, E_a1_5, F_a1_e0_5, F_a1_e1_5⟩

theorem d35_0 : decode jdk_40_method_38_code 0 = .ok (.new 96, 3) := by decide +kernel
theorem d35_3 : decode jdk_40_method_38_code 3 = .ok (.dup, 1) := by decide +kernel
theorem d35_4 : decode jdk_40_method_38_code 4 = .ok (.aload_n 0, 1) := by decide +kernel
theorem d35_5 : decode jdk_40_method_38_code 5 = .ok (.aload_n 1, 1) := by decide +kernel
theorem d35_6 : decode jdk_40_method_38_code 6 = .ok (.invokespecial 100, 3) := by decide +kernel
theorem d35_9 : decode jdk_40_method_38_code 9 = .ok (.areturn, 1) := by decide +kernel
theorem pn_35 : plainName "java/util/List" = true := by first | (simp [plainName, overriddenIn]; done) | decide +kernel
theorem ef_35 (m : MethodId) (a1 : Addr) (a2 : Addr) : entryFrame m #[(.ref a1), (.ref a2)] 2 = mkF m 0 #[.val (.ref a1), .val (.ref a2)] [] := by first | (simp [entryFrame, mkF, argsToLocals, Value.category]; done) | rfl
def Q35 (Z : State) (a1 : Addr) (a2 : Addr) (h0 : Heap) (n0 : Nat) (v : Option Value) (h : Heap) (L : List Loc) : Prop := ∃ (r' : Addr), v = some (.ref r') ∧ Fr n0 L ∧ Keep h0 h [] ∧ Exa Z h r' "java/util/ImmutableCollections$List12" ∧ Fld Z h r' "java/util/ImmutableCollections$List12" "e0" "Ljava/lang/Object;" (.ref a1) ∧ Fld Z h r' "java/util/ImmutableCollections$List12" "e1" "Ljava/lang/Object;" (.ref a2) ∧ h0.size ≤ r'
set_option maxRecDepth 65536 in
set_option maxHeartbeats 40000000 in
theorem rm35 (l : Launch) (Z : State) (a0 : Array Value) (hw : ∀ d ∈ tables_1, d.before a0 Z = true) (ws : List Jvm.Cond) (a1 : Addr) (a2 : Addr) (h0 : Heap) (n0 : Nat) (Z0 : n0 ≤ h0.size) :
    MetFree l (⟨"java/util/List", "of", "(Ljava/lang/Object;Ljava/lang/Object;)Ljava/util/List;"⟩ : MethodName) (head1 (Jvm.Cond.code (⟨"java/util/List", "of", "(Ljava/lang/Object;Ljava/lang/Object;)Ljava/util/List;"⟩ : MethodName) jdk_40_method_38_code 2 (some (.object "java/util/List")) :: ws) ({ frames := 5, cells := 1, slots := 2, locals := 63 } : Room)) (fun a U => a = #[(.ref a1), (.ref a2)] ∧ Z.Warmed39 U.vm ∧ U.heap = h0) (fun _ _ _ _ _ => True) (fun _ U o U' => ∃ v L, o = .returned v ∧ Q35 Z a1 a2 h0 n0 v U'.heap L ∧ FrameEnd U o U' L ({ frames := 5, cells := 1, slots := 2, locals := 63 } : Room).cells ({ frames := 5, cells := 1, slots := 2, locals := 63 } : Room).slots) := by
  refine MetFree.of_bodySF (plainFor_of_name pn_35) hisR ?_
  intro p e s m args below meth c s₁ Bd hml0 hP hK
  obtain ⟨rfl, hZ, hh⟩ := hP
  have hx := Bd.exec
  have hby := Bd.bytes
  have hml : c.maxLocals = 2 := hml0
  have hown0 := findClass_of_methodNamed Bd.named
  have hown : s.vm.findClass "java/util/List" = some m.cls := hown0
  have hnm := (name_of_methodNamed Bd.named Bd.method).1
  have X0 : Stand p l e ({ frames := 5, cells := 1, slots := 2, locals := 63 } : Room) s m #[(.ref a1), (.ref a2)] below meth c s₁ [] 0 0 := Stand.of_body Bd
  have e0 : s₁.heap = h0 := by rw [← hh, Bd.state]; rfl
  have N0 := Fr.nil n0
  have pre0 : ∀ t, Steps p.tables e below (s₁.setTop (mkF m 0 #[.val (.ref a1), .val (.ref a2)] [])) t → Steps p.tables e below (s₁.setTop (entryFrame m #[(.ref a1), (.ref a2)] 2)) t := fun t k => castTop (ef_35 m a1 a2) k
  refine Classical.byContradiction fun hneg => ?_
  obtain ⟨T1, h1, X1, e1, E1, A1, D1, U1, st1⟩ := newO X0 hx hZ hown (hw _ (List.mem_of_getElem? (i := 215) rfl)) (hw _ (List.mem_of_getElem? (i := 216) rfl)) (hw _ (List.mem_of_getElem? (i := 217) rfl)) e0 (g := (mkF m 0 #[.val (.ref a1), .val (.ref a2)] [])) rfl (hb hby d35_0) (by decide) (by decide)
  obtain ⟨b1, g1⟩ : ∃ z, z = h0.size := ⟨_, rfl⟩
  rw [← g1] at A1 D1 U1 st1
  have g_b1 : n0 ≤ b1 := Nat.le_trans Z0 (Nat.le_of_eq g1.symm)
  have sz_b1 : h0.size ≤ b1 := Nat.le_trans (Keep.refl h0 []).1 (Nat.le_of_eq g1.symm)
  have K1 : Keep h0 h1 [] := (Keep.refl h0 []).ext E1
  have Z1 : n0 ≤ h1.size := Nat.le_trans Z0 E1.1
  have F_e0_b1 : Fld Z h1 b1 "java/util/ImmutableCollections$List12" "e0" "Ljava/lang/Object;" .null := D1 (Or.inr (hw _ (List.mem_of_getElem? (i := 246) rfl))) (ty := (.object "java/lang/Object")) (by decide)
  have F_e1_b1 : Fld Z h1 b1 "java/util/ImmutableCollections$List12" "e1" "Ljava/lang/Object;" .null := D1 (Or.inr (hw _ (List.mem_of_getElem? (i := 248) rfl))) (ty := (.object "java/lang/Object")) (by decide)
  obtain ⟨_, _, ⟨T2, L2, k2, n2⟩, -, X2, ⟨Lc2, hQ2, l2, y2, z2⟩, st2⟩ := X1.specialBack hx (y := (⟨"java/util/ImmutableCollections$List12", "<init>", "(Ljava/lang/Object;Ljava/lang/Object;)V"⟩ : MethodName)) rfl hown (mvT hZ (hw _ (List.mem_of_getElem? (i := 218) rfl))) (mvT hZ (hw _ (List.mem_of_getElem? (i := 219) rfl))) (mvT hZ (hw _ (List.mem_of_getElem? (i := 221) rfl))) (by decide) (backOf (W := 1) (rm36 l Z a0 hw [] b1 a1 a2  h1 n0  _ _ Z1 g_b1 A1 F_e0_b1 F_e1_b1) hZ (hw _ (List.mem_of_getElem? (i := 221) rfl)) (hw _ (List.mem_of_getElem? (i := 217) rfl)) (by decide) (by decide)) (g := (mkF m 6 #[.val (.ref a1), .val (.ref a2)] [(.ref a2), (.ref a1), (.ref b1), (.ref b1)])) rfl (by rw [hml]; rfl) (Steps.refl _) (a := b1) (argsL := [(.ref a1), (.ref a2)]) (rest := [(.ref b1)]) (lenOf pd16 rfl) rfl (by show 2 * 0 + _ ≤ _; exact Nat.le_of_eq rfl) (hb hby d35_6) (fun _ _ => ⟨rfl, e1, (by decide : 1 + 0 ≤ _), (by decide : 2 + 0 ≤ _)⟩)
  dsimp only [Pt.U, Pt.locs, Pt.cells, Pt.slots] at X2 l2 y2 z2 st2 hQ2
  subst l2 y2 z2
  obtain ⟨rfl, N2q, Kc2, G2_0, G2_1, G2_2⟩ := hQ2
  have N2 := Fr.app N0 N2q
  have K2 : Keep h0 T2.heap [] := K1.trans Kc2 (allS (P := fun x => x ∈ ([] : List Addr) ∨ h0.size ≤ x) (Or.inr sz_b1) all0)
  have Z2 : n0 ≤ T2.heap.size := Nat.le_trans Z1 Kc2.1
  refine hneg ?_
  obtain ⟨fs, hr, hrun, hended, hW, hsame⟩ := X2.leave (v := some (.ref b1)) (fun h => by rw [Bd.returns] at h; cases h)
  refine ⟨_, _, pre0 _ ?_, hrun, hended, _, _, rfl, ?_, ⟨_, rfl⟩, hW, hsame.mono (by decide) (by decide)⟩
  · show Steps p.tables e below (s₁.setTop (mkF m 0 #[.val (.ref a1), .val (.ref a2)] [])) _
    refine st1 _ ?_
    show Steps p.tables e below (T1.setTop (mkF m 3 #[.val (.ref a1), .val (.ref a2)] [(.ref b1)])) _
    refine XS.dup X1.here hx rfl (hb hby d35_3) rfl rfl ?_
    show Steps p.tables e below (T1.setTop (mkF m 4 #[.val (.ref a1), .val (.ref a2)] [(.ref b1), (.ref b1)])) _
    refine XS.aloadN X1.here hx rfl (hb hby d35_4) rfl rfl ?_
    show Steps p.tables e below (T1.setTop (mkF m 5 #[.val (.ref a1), .val (.ref a2)] [(.ref a1), (.ref b1), (.ref b1)])) _
    refine XS.aloadN X1.here hx rfl (hb hby d35_5) rfl rfl ?_
    show Steps p.tables e below (T1.setTop (mkF m 6 #[.val (.ref a1), .val (.ref a2)] [(.ref a2), (.ref a1), (.ref b1), (.ref b1)])) _
    refine st2.trans ?_
    show Steps p.tables e below (T2.setTop (mkF m 9 #[.val (.ref a1), .val (.ref a2)] [(.ref b1)])) _
    exact retOut X2 hx (t := (.object "java/util/List")) Bd.returns rfl (Or.inr (Or.inr (Or.inr (Or.inr ⟨rfl, rfl, rfl⟩)))) (hb hby d35_9) hr
  · show Q35 Z a1 a2 h0 n0 _ T2.heap _
    exact ⟨_, rfl, N2, K2, G2_0, G2_1, G2_2, sz_b1⟩

theorem d41_0 : decode jdk_44_method_3_code 0 = .ok (.aload_n 0, 1) := by decide +kernel
theorem d41_1 : decode jdk_44_method_3_code 1 = .ok (.getfield 24, 3) := by decide +kernel
theorem d41_4 : decode jdk_44_method_3_code 4 = .ok (.getstatic 19, 3) := by decide +kernel
theorem d41_7 : decode jdk_44_method_3_code 7 = .ok (.if_acmp .eq 7, 3) := by decide +kernel
theorem d41_10 : decode jdk_44_method_3_code 10 = .ok (.iconst 2, 1) := by decide +kernel
theorem d41_11 : decode jdk_44_method_3_code 11 = .ok (.goto 4, 3) := by decide +kernel
theorem d41_15 : decode jdk_44_method_3_code 15 = .ok (.ireturn, 1) := by decide +kernel
theorem pn_41 : plainName "java/util/ImmutableCollections$List12" = true := by first | (simp [plainName, overriddenIn]; done) | decide +kernel
theorem ef_41 (m : MethodId) (a1 : Addr) : entryFrame m #[(.ref a1)] 1 = mkF m 0 #[.val (.ref a1)] [] := by first | (simp [entryFrame, mkF, argsToLocals, Value.category]; done) | rfl
def Q41 (Z : State) (a1 : Addr) (em : Addr) (x0 : Addr) (x1 : Addr) (h0 : Heap) (n0 : Nat) (v : Option Value) (h : Heap) (L : List Loc) : Prop := v = some (.int (2 : Int32)) ∧ Fr n0 L ∧ h = h0
set_option maxRecDepth 65536 in
set_option maxHeartbeats 40000000 in
theorem rm41 (l : Launch) (Z : State) (a0 : Array Value) (hw : ∀ d ∈ tables_1, d.before a0 Z = true) (ws : List Jvm.Cond) (a1 : Addr) (h0 : Heap) (n0 : Nat) (em : Addr) (x0 : Addr) (x1 : Addr) (EM : Sta Z Z.heap "java/util/ImmutableCollections" "EMPTY" "Ljava/lang/Object;" (.ref em)) (E_em : Exa Z Z.heap em "java/lang/Object") (O0 : Old Z n0 h0) (E_e1 : Exa Z h0 x1 "java/lang/String") (F_0 : Fld Z h0 a1 "java/util/ImmutableCollections$List12" "e0" "Ljava/lang/Object;" (.ref x0)) (F_1 : Fld Z h0 a1 "java/util/ImmutableCollections$List12" "e1" "Ljava/lang/Object;" (.ref x1)) :
    MetFree l (⟨"java/util/ImmutableCollections$List12", "size", "()I"⟩ : MethodName) (head1 (Jvm.Cond.code (⟨"java/util/ImmutableCollections$List12", "size", "()I"⟩ : MethodName) jdk_44_method_3_code 1 (some .int) :: ws) ({ frames := 0, cells := 0, slots := 0, locals := 0 } : Room)) (fun a U => a = #[(.ref a1)] ∧ Z.Warmed39 U.vm ∧ U.heap = h0) (fun _ _ _ _ _ => True) (fun _ U o U' => ∃ v L, o = .returned v ∧ Q41 Z a1 em x0 x1 h0 n0 v U'.heap L ∧ FrameEnd U o U' L ({ frames := 0, cells := 0, slots := 0, locals := 0 } : Room).cells ({ frames := 0, cells := 0, slots := 0, locals := 0 } : Room).slots) := by
  refine MetFree.of_bodySF (plainFor_of_name pn_41) hisR ?_
  intro p e s m args below meth c s₁ Bd hml0 hP hK
  obtain ⟨rfl, hZ, hh⟩ := hP
  have hx := Bd.exec
  have hby := Bd.bytes
  have hml : c.maxLocals = 1 := hml0
  have hown0 := findClass_of_methodNamed Bd.named
  have hown : s.vm.findClass "java/util/ImmutableCollections$List12" = some m.cls := hown0
  have hnm := (name_of_methodNamed Bd.named Bd.method).1
  have X0 : Stand p l e ({ frames := 0, cells := 0, slots := 0, locals := 0 } : Room) s m #[(.ref a1)] below meth c s₁ [] 0 0 := Stand.of_body Bd
  have e0 : s₁.heap = h0 := by rw [← hh, Bd.state]; rfl
  have N0 := Fr.nil n0
  have pre0 : ∀ t, Steps p.tables e below (s₁.setTop (mkF m 0 #[.val (.ref a1)] [])) t → Steps p.tables e below (s₁.setTop (entryFrame m #[(.ref a1)] 1)) t := fun t k => castTop (ef_41 m a1) k
  refine Classical.byContradiction fun hneg => ?_
  obtain ⟨T1, X1, e1, st1⟩ := getF X0 hx hZ hown (host := "") (Or.inl (hw _ (List.mem_of_getElem? (i := 247) rfl))) Via.refl e0 F_1 (g := (mkF m 1 #[.val (.ref a1)] [(.ref a1)])) rfl rfl (hb hby d41_1)
  obtain ⟨T2, X2, e2, st2⟩ := getS2 X1 hx hZ hown (Or.inr (hw _ (List.mem_of_getElem? (i := 258) rfl))) Via.refl e1 (EM.ext O0.2) (g := (mkF m 4 #[.val (.ref a1)] [(.ref x1)])) rfl (hb hby d41_4)
  refine hneg ?_
  obtain ⟨fs, hr, hrun, hended, hW, hsame⟩ := X2.leave (v := some (.int (2 : Int32))) (fun h => by rw [Bd.returns] at h; cases h)
  refine ⟨_, _, pre0 _ ?_, hrun, hended, _, _, rfl, ?_, ⟨_, rfl⟩, hW, hsame.mono (by decide) (by decide)⟩
  · show Steps p.tables e below (s₁.setTop (mkF m 0 #[.val (.ref a1)] [])) _
    refine XS.aloadN X0.here hx rfl (hb hby d41_0) rfl rfl ?_
    show Steps p.tables e below (s₁.setTop (mkF m 1 #[.val (.ref a1)] [(.ref a1)])) _
    refine st1 _ ?_
    show Steps p.tables e below (T1.setTop (mkF m 4 #[.val (.ref a1)] [(.ref x1)])) _
    refine st2 _ ?_
    show Steps p.tables e below (T2.setTop (mkF m 7 #[.val (.ref a1)] [(.ref em), (.ref x1)])) _
    refine Jvm.RoadKit.acmp (g := (mkF m 7 #[.val (.ref a1)] [(.ref em), (.ref x1)])) X2 hx rfl rfl rfl (pc0 := 7) (pc' := 10) (same := false) rfl (hb hby d41_7) rfl (decide_eq_false fun q => (Exa.ne E_e1 (E_em.ext O0.2) (by decide)) (Value.ref.inj q)) (by decide) (by decide) ?_
    show Steps p.tables e below (T2.setTop (mkF m 10 #[.val (.ref a1)] [])) _
    refine XS.iconst X2.here hx rfl (hb hby d41_10) ?_
    show Steps p.tables e below (T2.setTop (mkF m 11 #[.val (.ref a1)] [(.int (2 : Int32))])) _
    refine XS.goto X2.here hx rfl (pc0 := 11) (pc' := 15) rfl (hb hby d41_11) (by decide) (by decide) ?_
    show Steps p.tables e below (T2.setTop (mkF m 15 #[.val (.ref a1)] [(.int (2 : Int32))])) _
    exact retI X2 hx Bd.returns (hb hby d41_15) hr
  · show Q41 Z a1 em x0 x1 h0 n0 _ T2.heap _
    rw [e2]
    exact ⟨rfl, N0, rfl⟩

theorem d42_0 : decode jdk_44_method_5_code 0 = .ok (.iload_n 1, 1) := by decide +kernel
theorem d42_1 : decode jdk_44_method_5_code 1 = .ok (.ifCond .ne 8, 3) := by decide +kernel
theorem d42_4 : decode jdk_44_method_5_code 4 = .ok (.aload_n 0, 1) := by decide +kernel
theorem d42_5 : decode jdk_44_method_5_code 5 = .ok (.getfield 13, 3) := by decide +kernel
theorem d42_8 : decode jdk_44_method_5_code 8 = .ok (.areturn, 1) := by decide +kernel
theorem pn_42 : plainName "java/util/ImmutableCollections$List12" = true := by first | (simp [plainName, overriddenIn]; done) | decide +kernel
theorem ef_42 (m : MethodId) (a1 : Addr) (zf1 : Int32) : entryFrame m #[(.ref a1), (.int zf1)] 2 = mkF m 0 #[.val (.ref a1), .val (.int zf1)] [] := by first | (simp [entryFrame, mkF, argsToLocals, Value.category]; done) | rfl
def Q42 (Z : State) (a1 : Addr) (em : Addr) (x0 : Addr) (x1 : Addr) (h0 : Heap) (n0 : Nat) (v : Option Value) (h : Heap) (L : List Loc) : Prop := v = some (.ref x0) ∧ Fr n0 L ∧ h = h0
set_option maxRecDepth 65536 in
set_option maxHeartbeats 40000000 in
theorem rm42 (l : Launch) (Z : State) (a0 : Array Value) (hw : ∀ d ∈ tables_1, d.before a0 Z = true) (ws : List Jvm.Cond) (a1 : Addr) (h0 : Heap) (n0 : Nat) (em : Addr) (x0 : Addr) (x1 : Addr) (EM : Sta Z Z.heap "java/util/ImmutableCollections" "EMPTY" "Ljava/lang/Object;" (.ref em)) (E_em : Exa Z Z.heap em "java/lang/Object") (O0 : Old Z n0 h0) (E_e1 : Exa Z h0 x1 "java/lang/String") (F_0 : Fld Z h0 a1 "java/util/ImmutableCollections$List12" "e0" "Ljava/lang/Object;" (.ref x0)) (F_1 : Fld Z h0 a1 "java/util/ImmutableCollections$List12" "e1" "Ljava/lang/Object;" (.ref x1)) :
    MetFree l (⟨"java/util/ImmutableCollections$List12", "get", "(I)Ljava/lang/Object;"⟩ : MethodName) (head1 (Jvm.Cond.code (⟨"java/util/ImmutableCollections$List12", "get", "(I)Ljava/lang/Object;"⟩ : MethodName) jdk_44_method_5_code 2 (some (.object "java/lang/Object")) :: ws) ({ frames := 0, cells := 0, slots := 0, locals := 0 } : Room)) (fun a U => a = #[(.ref a1), (.int (0 : Int32))] ∧ Z.Warmed39 U.vm ∧ U.heap = h0) (fun _ _ _ _ _ => True) (fun _ U o U' => ∃ v L, o = .returned v ∧ Q42 Z a1 em x0 x1 h0 n0 v U'.heap L ∧ FrameEnd U o U' L ({ frames := 0, cells := 0, slots := 0, locals := 0 } : Room).cells ({ frames := 0, cells := 0, slots := 0, locals := 0 } : Room).slots) := by
  refine MetFree.of_bodySF (plainFor_of_name pn_42) hisR ?_
  intro p e s m args below meth c s₁ Bd hml0 hP hK
  obtain ⟨rfl, hZ, hh⟩ := hP
  have hx := Bd.exec
  have hby := Bd.bytes
  have hml : c.maxLocals = 2 := hml0
  have hown0 := findClass_of_methodNamed Bd.named
  have hown : s.vm.findClass "java/util/ImmutableCollections$List12" = some m.cls := hown0
  have hnm := (name_of_methodNamed Bd.named Bd.method).1
  have X0 : Stand p l e ({ frames := 0, cells := 0, slots := 0, locals := 0 } : Room) s m #[(.ref a1), (.int (0 : Int32))] below meth c s₁ [] 0 0 := Stand.of_body Bd
  have e0 : s₁.heap = h0 := by rw [← hh, Bd.state]; rfl
  have N0 := Fr.nil n0
  have pre0 : ∀ t, Steps p.tables e below (s₁.setTop (mkF m 0 #[.val (.ref a1), .val (.int (0 : Int32))] [])) t → Steps p.tables e below (s₁.setTop (entryFrame m #[(.ref a1), (.int (0 : Int32))] 2)) t := fun t k => castTop (ef_42 m a1 ((0 : Int32))) k
  refine Classical.byContradiction fun hneg => ?_
  obtain ⟨T1, X1, e1, st1⟩ := getF X0 hx hZ hown (host := "") (Or.inl (hw _ (List.mem_of_getElem? (i := 245) rfl))) Via.refl e0 F_0 (g := (mkF m 5 #[.val (.ref a1), .val (.int (0 : Int32))] [(.ref a1)])) rfl rfl (hb hby d42_5)
  refine hneg ?_
  obtain ⟨fs, hr, hrun, hended, hW, hsame⟩ := X1.leave (v := some (.ref x0)) (fun h => by rw [Bd.returns] at h; cases h)
  refine ⟨_, _, pre0 _ ?_, hrun, hended, _, _, rfl, ?_, ⟨_, rfl⟩, hW, hsame.mono (by decide) (by decide)⟩
  · show Steps p.tables e below (s₁.setTop (mkF m 0 #[.val (.ref a1), .val (.int (0 : Int32))] [])) _
    refine XS.iloadN X0.here hx rfl (hb hby d42_0) rfl ?_
    show Steps p.tables e below (s₁.setTop (mkF m 1 #[.val (.ref a1), .val (.int (0 : Int32))] [(.int (0 : Int32))])) _
    refine XS.ifNo X0.here hx rfl (hb hby d42_1) rfl ((if0 _ _).trans (teq (by decide : (0 : Int32) = (0 : Int32))).2) ?_
    show Steps p.tables e below (s₁.setTop (mkF m 4 #[.val (.ref a1), .val (.int (0 : Int32))] [])) _
    refine XS.aloadN X0.here hx rfl (hb hby d42_4) rfl rfl ?_
    show Steps p.tables e below (s₁.setTop (mkF m 5 #[.val (.ref a1), .val (.int (0 : Int32))] [(.ref a1)])) _
    refine st1 _ ?_
    show Steps p.tables e below (T1.setTop (mkF m 8 #[.val (.ref a1), .val (.int (0 : Int32))] [(.ref x0)])) _
    exact retOut X1 hx (t := (.object "java/lang/Object")) Bd.returns rfl (Or.inr (Or.inr (Or.inr (Or.inr ⟨rfl, rfl, rfl⟩)))) (hb hby d42_8) hr
  · show Q42 Z a1 em x0 x1 h0 n0 _ T1.heap _
    rw [e1]
    exact ⟨rfl, N0, rfl⟩

theorem d42_9 : decode jdk_44_method_5_code 9 = .ok (.iload_n 1, 1) := by decide +kernel
theorem d42_10 : decode jdk_44_method_5_code 10 = .ok (.iconst 1, 1) := by decide +kernel
theorem d42_11 : decode jdk_44_method_5_code 11 = .ok (.if_icmp .ne 18, 3) := by decide +kernel
theorem d42_14 : decode jdk_44_method_5_code 14 = .ok (.aload_n 0, 1) := by decide +kernel
theorem d42_15 : decode jdk_44_method_5_code 15 = .ok (.getfield 24, 3) := by decide +kernel
theorem d42_18 : decode jdk_44_method_5_code 18 = .ok (.getstatic 19, 3) := by decide +kernel
theorem d42_21 : decode jdk_44_method_5_code 21 = .ok (.if_acmp .eq 8, 3) := by decide +kernel
theorem d42_24 : decode jdk_44_method_5_code 24 = .ok (.aload_n 0, 1) := by decide +kernel
theorem d42_25 : decode jdk_44_method_5_code 25 = .ok (.getfield 24, 3) := by decide +kernel
theorem d42_28 : decode jdk_44_method_5_code 28 = .ok (.areturn, 1) := by decide +kernel
theorem ef_42b (m : MethodId) (a1 : Addr) (zf1 : Int32) : entryFrame m #[(.ref a1), (.int zf1)] 2 = mkF m 0 #[.val (.ref a1), .val (.int zf1)] [] := by first | (simp [entryFrame, mkF, argsToLocals, Value.category]; done) | rfl
def Q42b (Z : State) (a1 : Addr) (em : Addr) (x0 : Addr) (x1 : Addr) (h0 : Heap) (n0 : Nat) (v : Option Value) (h : Heap) (L : List Loc) : Prop := v = some (.ref x1) ∧ Fr n0 L ∧ h = h0
set_option maxRecDepth 65536 in
set_option maxHeartbeats 40000000 in
theorem rm42b (l : Launch) (Z : State) (a0 : Array Value) (hw : ∀ d ∈ tables_1, d.before a0 Z = true) (ws : List Jvm.Cond) (a1 : Addr) (h0 : Heap) (n0 : Nat) (em : Addr) (x0 : Addr) (x1 : Addr) (EM : Sta Z Z.heap "java/util/ImmutableCollections" "EMPTY" "Ljava/lang/Object;" (.ref em)) (E_em : Exa Z Z.heap em "java/lang/Object") (O0 : Old Z n0 h0) (E_e1 : Exa Z h0 x1 "java/lang/String") (F_0 : Fld Z h0 a1 "java/util/ImmutableCollections$List12" "e0" "Ljava/lang/Object;" (.ref x0)) (F_1 : Fld Z h0 a1 "java/util/ImmutableCollections$List12" "e1" "Ljava/lang/Object;" (.ref x1)) :
    MetFree l (⟨"java/util/ImmutableCollections$List12", "get", "(I)Ljava/lang/Object;"⟩ : MethodName) (head1 (Jvm.Cond.code (⟨"java/util/ImmutableCollections$List12", "get", "(I)Ljava/lang/Object;"⟩ : MethodName) jdk_44_method_5_code 2 (some (.object "java/lang/Object")) :: ws) ({ frames := 0, cells := 0, slots := 0, locals := 0 } : Room)) (fun a U => a = #[(.ref a1), (.int (1 : Int32))] ∧ Z.Warmed39 U.vm ∧ U.heap = h0) (fun _ _ _ _ _ => True) (fun _ U o U' => ∃ v L, o = .returned v ∧ Q42b Z a1 em x0 x1 h0 n0 v U'.heap L ∧ FrameEnd U o U' L ({ frames := 0, cells := 0, slots := 0, locals := 0 } : Room).cells ({ frames := 0, cells := 0, slots := 0, locals := 0 } : Room).slots) := by
  refine MetFree.of_bodySF (plainFor_of_name pn_42) hisR ?_
  intro p e s m args below meth c s₁ Bd hml0 hP hK
  obtain ⟨rfl, hZ, hh⟩ := hP
  have hx := Bd.exec
  have hby := Bd.bytes
  have hml : c.maxLocals = 2 := hml0
  have hown0 := findClass_of_methodNamed Bd.named
  have hown : s.vm.findClass "java/util/ImmutableCollections$List12" = some m.cls := hown0
  have hnm := (name_of_methodNamed Bd.named Bd.method).1
  have X0 : Stand p l e ({ frames := 0, cells := 0, slots := 0, locals := 0 } : Room) s m #[(.ref a1), (.int (1 : Int32))] below meth c s₁ [] 0 0 := Stand.of_body Bd
  have e0 : s₁.heap = h0 := by rw [← hh, Bd.state]; rfl
  have N0 := Fr.nil n0
  have pre0 : ∀ t, Steps p.tables e below (s₁.setTop (mkF m 0 #[.val (.ref a1), .val (.int (1 : Int32))] [])) t → Steps p.tables e below (s₁.setTop (entryFrame m #[(.ref a1), (.int (1 : Int32))] 2)) t := fun t k => castTop (ef_42b m a1 ((1 : Int32))) k
  refine Classical.byContradiction fun hneg => ?_
  obtain ⟨T1, X1, e1, st1⟩ := getF X0 hx hZ hown (host := "") (Or.inl (hw _ (List.mem_of_getElem? (i := 247) rfl))) Via.refl e0 F_1 (g := (mkF m 15 #[.val (.ref a1), .val (.int (1 : Int32))] [(.ref a1)])) rfl rfl (hb hby d42_15)
  obtain ⟨T2, X2, e2, st2⟩ := getS2 X1 hx hZ hown (Or.inr (hw _ (List.mem_of_getElem? (i := 258) rfl))) Via.refl e1 (EM.ext O0.2) (g := (mkF m 18 #[.val (.ref a1), .val (.int (1 : Int32))] [(.ref x1)])) rfl (hb hby d42_18)
  obtain ⟨T3, X3, e3, st3⟩ := getF X2 hx hZ hown (host := "") (Or.inl (hw _ (List.mem_of_getElem? (i := 247) rfl))) Via.refl e2 F_1 (g := (mkF m 25 #[.val (.ref a1), .val (.int (1 : Int32))] [(.ref a1)])) rfl rfl (hb hby d42_25)
  refine hneg ?_
  obtain ⟨fs, hr, hrun, hended, hW, hsame⟩ := X3.leave (v := some (.ref x1)) (fun h => by rw [Bd.returns] at h; cases h)
  refine ⟨_, _, pre0 _ ?_, hrun, hended, _, _, rfl, ?_, ⟨_, rfl⟩, hW, hsame.mono (by decide) (by decide)⟩
  · show Steps p.tables e below (s₁.setTop (mkF m 0 #[.val (.ref a1), .val (.int (1 : Int32))] [])) _
    refine XS.iloadN X0.here hx rfl (hb hby d42_0) rfl ?_
    show Steps p.tables e below (s₁.setTop (mkF m 1 #[.val (.ref a1), .val (.int (1 : Int32))] [(.int (1 : Int32))])) _
    refine XS.ifYes X0.here hx rfl (pc0 := 1) (pc' := 9) rfl (hb hby d42_1) rfl ((if0 _ _).trans (feq (by decide : ¬ ((1 : Int32) = (0 : Int32)))).2) (by decide) (by decide) ?_
    show Steps p.tables e below (s₁.setTop (mkF m 9 #[.val (.ref a1), .val (.int (1 : Int32))] [])) _
    refine XS.iloadN X0.here hx rfl (hb hby d42_9) rfl ?_
    show Steps p.tables e below (s₁.setTop (mkF m 10 #[.val (.ref a1), .val (.int (1 : Int32))] [(.int (1 : Int32))])) _
    refine XS.iconst X0.here hx rfl (hb hby d42_10) ?_
    show Steps p.tables e below (s₁.setTop (mkF m 11 #[.val (.ref a1), .val (.int (1 : Int32))] [(.int (1 : Int32)), (.int (1 : Int32))])) _
    refine XS.icmpNo X0.here hx rfl (hb hby d42_11) rfl (teq (by decide : (1 : Int32) = (1 : Int32))).2 ?_
    show Steps p.tables e below (s₁.setTop (mkF m 14 #[.val (.ref a1), .val (.int (1 : Int32))] [])) _
    refine XS.aloadN X0.here hx rfl (hb hby d42_14) rfl rfl ?_
    show Steps p.tables e below (s₁.setTop (mkF m 15 #[.val (.ref a1), .val (.int (1 : Int32))] [(.ref a1)])) _
    refine st1 _ ?_
    show Steps p.tables e below (T1.setTop (mkF m 18 #[.val (.ref a1), .val (.int (1 : Int32))] [(.ref x1)])) _
    refine st2 _ ?_
    show Steps p.tables e below (T2.setTop (mkF m 21 #[.val (.ref a1), .val (.int (1 : Int32))] [(.ref em), (.ref x1)])) _
    refine Jvm.RoadKit.acmp (g := (mkF m 21 #[.val (.ref a1), .val (.int (1 : Int32))] [(.ref em), (.ref x1)])) X2 hx rfl rfl rfl (pc0 := 21) (pc' := 24) (same := false) rfl (hb hby d42_21) rfl (decide_eq_false fun q => (Exa.ne E_e1 (E_em.ext O0.2) (by decide)) (Value.ref.inj q)) (by decide) (by decide) ?_
    show Steps p.tables e below (T2.setTop (mkF m 24 #[.val (.ref a1), .val (.int (1 : Int32))] [])) _
    refine XS.aloadN X2.here hx rfl (hb hby d42_24) rfl rfl ?_
    show Steps p.tables e below (T2.setTop (mkF m 25 #[.val (.ref a1), .val (.int (1 : Int32))] [(.ref a1)])) _
    refine st3 _ ?_
    show Steps p.tables e below (T3.setTop (mkF m 28 #[.val (.ref a1), .val (.int (1 : Int32))] [(.ref x1)])) _
    exact retOut X3 hx (t := (.object "java/lang/Object")) Bd.returns rfl (Or.inr (Or.inr (Or.inr (Or.inr ⟨rfl, rfl, rfl⟩)))) (hb hby d42_28) hr
  · show Q42b Z a1 em x0 x1 h0 n0 _ T3.heap _
    rw [e3]
    exact ⟨rfl, N0, rfl⟩

/-- the words of Throwable that this sheet has, at a state of the walk -/
def thrWords (rc : String) : List Cond := [.initialized Bundle.tN, .superclass Bundle.tN "java/lang/Object", .instanceMethod Bundle.tFill, .codeSync Bundle.tFill LibCode.Throwable.Fill.code 1 (some (.object Bundle.tN)), .instanceMethod Bundle.tFill0, .native Bundle.tFill0, .instanceMethod Bundle.oInit, .code Bundle.oInit ⟨#[0xb1]⟩ 1 none,
  .methodLink Bundle.tN 1 Bundle.oInit, .methodLink Bundle.tN 27 Bundle.tFill, .methodLink Bundle.tN 202 Bundle.tFill0, .fieldLink Bundle.tN 7 Bundle.tN "cause" "Ljava/lang/Throwable;", .lays rc Bundle.tN "cause" "Ljava/lang/Throwable;", .fieldLink Bundle.tN 17 Bundle.tN "stackTrace" Bundle.steD, .lays rc Bundle.tN "stackTrace" Bundle.steD,
  .fieldLink Bundle.tN 24 Bundle.tN "suppressedExceptions" Bundle.listD, .lays rc Bundle.tN "suppressedExceptions" Bundle.listD, .fieldLink Bundle.tN 13 Bundle.tN "UNASSIGNED_STACK" Bundle.steD, .laysStatic Bundle.tN "UNASSIGNED_STACK" Bundle.steD,
  .fieldLink Bundle.tN 20 Bundle.tN "SUPPRESSED_SENTINEL" Bundle.listD, .laysStatic Bundle.tN "SUPPRESSED_SENTINEL" Bundle.listD, .lays rc Bundle.tN "detailMessage" "Ljava/lang/String;"]
theorem thr_links {args : Array Value} {s : State} {pl : Platform} {rc : String} (howns : pl.frameOwnsMonitors = true) (hfin : pl.finalization = false) (hpl : pl.magicAccessors = ({} : Platform).magicAccessors) (h : ∀ c ∈ thrWords rc, c.before args s = true) :
    ∃ T : ThrowableC, T.Links pl s ∧ s.vm.findClass Bundle.tN = some T.cT ∧ s.methodNamed? Bundle.tFill = some T.fill ∧ s.methodNamed? Bundle.tFill0 = some T.fill0 ∧ s.fieldFound? Bundle.tN "stackTrace" Bundle.steD = some (T.cT, T.kT, T.i17, T.fStack) ∧ s.fieldFound? Bundle.tN "UNASSIGNED_STACK" Bundle.steD = some (T.cT, T.kT, T.i13, T.fUnassigned) := by
  have a : ∀ c : Cond, c ∈ thrWords rc → c.holds args s none s [] = true := fun c hc => h c hc
  have g : ∀ (i : Nat) (c : Cond), (thrWords rc)[i]? = some c → c.holds args s none s [] = true := fun i c q => a c (List.mem_of_getElem? q)
  obtain ⟨⟨c, j0⟩, me0, n0, v0, nat0, cod0, loc0, sig0⟩ := Cond.native_spec (g 5 _ rfl)
  have fc : s.vm.findClass Bundle.tN = some c := findClass_of_methodNamed n0
  obtain ⟨k, kc, nm⟩ := Vm.findClass_spec fc
  obtain ⟨_, k1, _, _, kc1, _, _, _, _, ni⟩ := Cond.superclass_spec fc (g 1 _ rfl)
  cases kc.symm.trans kc1
  obtain ⟨jF, mF, nF, vF, aF, sF, bF, -, -⟩ := Cond.ownMethod (x := Bundle.tFill) fc kc (g 2 _ rfl)
  obtain ⟨mF', cF, vF', F1, F2, F3, F4, F5, -, F6⟩ := Cond.codeSync_spec nF (g 3 _ rfl)
  cases vF.symm.trans vF'
  obtain ⟨j0', me0', n0', v0', a0', s0', b0', nm0, ds0⟩ := Cond.ownMethod (x := Bundle.tFill0) fc kc (g 4 _ rfl)
  cases n0.symm.trans n0'
  cases v0.symm.trans v0'
  obtain ⟨mO, meO, nO, vO, sO, bO⟩ := Cond.instanceMethod_spec (g 6 _ rfl)
  obtain ⟨meO', cO, vO', O1, O2, O3, -, O5, -, O6⟩ := Cond.code_spec nO (g 7 _ rfl)
  cases vO.symm.trans vO'
  obtain ⟨kO, kcO, nmO⟩ := Vm.findClass_spec (findClass_of_methodNamed nO)
  obtain ⟨nO1, nO2⟩ := name_of_methodNamed nO vO
  obtain ⟨x1, y1, cf, l1, r1, f1, p1⟩ := Cond.linkedMethod fc kc nO (g 8 _ rfl) pl hpl
  obtain ⟨x27, y27, cf27, l27, r27, f27, p27⟩ := Cond.linkedMethod fc kc nF (g 9 _ rfl) pl hpl
  cases f1.symm.trans f27
  obtain ⟨x202, y202, cf202, l202, r202, f202, p202⟩ := Cond.linkedMethod fc kc n0 (g 10 _ rfl) pl hpl
  cases f1.symm.trans f202
  obtain ⟨x7, i7, f7, k7, g7, h7, s7, e7, -, -, -⟩ := Cond.ownField (t := .object Bundle.tN) fc kc (by decide +kernel) (g 11 _ rfl) (g 12 _ rfl) pl hpl
  obtain ⟨x17, i17, f17, k17, g17, h17, s17, e17, n17, -, ff17⟩ := Cond.ownField (t := .array (.object "java/lang/StackTraceElement")) fc kc (by decide +kernel) (g 13 _ rfl) (g 14 _ rfl) pl hpl
  obtain ⟨x24, i24, f24, k24, g24, h24, s24, e24, n24, -, ff24⟩ := Cond.ownField (t := .object "java/util/List") fc kc (by decide +kernel) (g 15 _ rfl) (g 16 _ rfl) pl hpl
  obtain ⟨x13, i13, f13, aS, cS, k13, g13, h13, s13, -, -, st13, -, -, -, -, ff13⟩ := Cond.ownStatic (t := .array (.object "java/lang/StackTraceElement")) fc kc (by decide +kernel) (g 17 _ rfl) (g 18 _ rfl) pl hpl
  obtain ⟨x20, i20, f20, _, _, k20, g20, h20, s20, -⟩ := Cond.ownStatic (t := .object "java/util/List") fc kc (by decide +kernel) (g 19 _ rfl) (g 20 _ rfl) pl hpl
  obtain ⟨cR, kR, cM, kM, iM, fM, fcR, kcR, ffM, sM, eM, _⟩ := Cond.lays_spec (g 21 _ rfl)
  have apart : f17.slot ≠ f24.slot := by
    obtain ⟨-, d1, q1, q2⟩ := Cond.laysAt fcR kcR ff17 (g 14 _ rfl)
    obtain ⟨-, d2, q3, q4⟩ := Cond.laysAt fcR kcR ff24 (g 16 _ rfl)
    exact Cond.laysApart q1 q3 q2 q4 (by rw [n17, n24]; decide)
  have pF : mF.sig.parameters = [] := by
    have q : (parseMethodDescriptor Bundle.tFill.desc).map (·.parameters) = some [] := by decide +kernel
    rw [F6] at q; exact Option.some.inj q
  have pN : me0.sig.parameters = [.int] := by
    have q : (parseMethodDescriptor Bundle.tFill0.desc).map (·.parameters) = some [.int] := by decide +kernel
    rw [sig0] at q; exact Option.some.inj q
  have pO : meO.sig.parameters.length = 0 := by
    have q : (parseMethodDescriptor Bundle.oInit.desc).map (·.parameters) = some [] := by decide +kernel
    rw [O6] at q; rw [show meO.sig.parameters = [] from Option.some.inj q]; rfl
  refine ⟨{ cT := c, kT := k, cO := c, aS := aS, fillIdx := jF, fill0Idx := j0, initSIdx := 0, obj := mO, kObj := kO, methFill := mF, methFill0 := me0, methInitS := mF, methObj := meO, codeFill := cF, codeInitS := cF, codeObj := cO, fBack := f7, fDepth := f7, fStack := f17, fCause := f7, fSupp := f24, fMsg := fM, fUnassigned := f13, fSentinel := f20, cfT := cf, ci1 := x1, n1 := y1, ci27 := x27, n27 := y27, ci202 := x202, n202 := y202, ci7 := x7, i7 := i7, ci13 := x13, i13 := i13, ci17 := x17, i17 := i17, ci20 := x20, i20 := i20, ci24 := x24, i24 := i24 }, ?_, fc, nF, n0, ff17, ff13⟩
  constructor
  all_goals first | assumption | exact Cond.initialized_spec fc kc (g 0 _ rfl) | exact Vm.findClass_boot fc kc | (rw [nO2]; exact lookupSpecial_of_named nO vO sO)
def RF : String := "com/example/tranche/tranche/terms/Refusal"
def fillWords : List Cond := [.selects RF Bundle.tFill0 Bundle.tFill0, .fieldLink Bundle.tN 198 Bundle.tN "backtrace" "Ljava/lang/Object;", .lays RF Bundle.tN "backtrace" "Ljava/lang/Object;", .lays RF Bundle.tN "depth" "I", .soleField Bundle.tN "backtrace", .soleField Bundle.tN "depth", .arrayOver (.object "java/lang/Object"), .lays RF Bundle.tN "stackTrace" Bundle.steD]
def FQ (Z : State) (x : Addr) (h : Heap) (n0 : Nat) (v : Option Value) (h' : Heap) (L : List Loc) : Prop := v = some (.ref x) ∧ Fr n0 L ∧ Keep h h' [x] ∧ Exa Z h' x RF ∧
  ∀ (O n d : String) (w : Value), Fld Z h x O n d w → Jvm.RoadKit.slotOf Z O n d ≠ Jvm.RoadKit.slotOf Z Bundle.tN "backtrace" "Ljava/lang/Object;" → Jvm.RoadKit.slotOf Z O n d ≠ Jvm.RoadKit.slotOf Z Bundle.tN "depth" "I" → Jvm.RoadKit.slotOf Z O n d ≠ Jvm.RoadKit.slotOf Z Bundle.tN "stackTrace" Bundle.steD → Fld Z h' x O n d w
theorem payFill {p : Program} {l : Launch} {e : Env} {R : Room} {s : State} {args : Array Value} {below : List Frame} {W : Nat} {Z : State} {a0 : Array Value} {h : Heap} (hx : p.tables.exec = Jvm.exec) (hl : l.stackTraces = true) (hZ : Z.Warmed39 s.vm) (hw : ∀ d ∈ tables_1, d.before a0 Z = true) (hTh : ThS Z s.heap) (hTK : s.vm.MethodsKnown) (hBelow : s.vm.FramesKnown below)
    {x ua : Addr} {n0 : Nat} (E : Exa Z h x RF) (U : Unt h x) (FB : Fld Z h x Bundle.tN "backtrace" "Ljava/lang/Object;" .null) (FS : Fld Z h x Bundle.tN "stackTrace" Bundle.steD (.ref ua)) (SU : Sta Z h Bundle.tN "UNASSIGNED_STACK" Bundle.steD (.ref ua)) (gx : n0 ≤ x) (hfr : 3 ≤ R.frames) (hlo : W + 42 ≤ R.locals) :
    Back l R p e below s args Bundle.tFill 3 W (fun A a => a = #[.ref x] ∧ A.U.heap = h ∧ A.cells + 1 ≤ R.cells ∧ A.slots + 2752 ≤ R.slots)
      (fun A _ v B => ∃ L, FQ Z x h n0 v B.U.heap L ∧ B.locs = A.locs ++ L ∧ B.cells = A.cells + 1 ∧ B.slots = A.slots + 2752) := by
  intro m meth c A g ig mk a X hg hsz hd hWd hmk ⟨ha, hh, hcl, hsl⟩
  have WW : ∀ d : Cond, xOk d = true → d ∈ tables_1 → d.before args s = true := fun d ok hm => mvX hTh hZ ok (hw d hm)
  have hal := hZ.alike
  have htr : e.platform.stackTraces = true := by rw [X.admits.platform]; exact hl
  have howns : e.platform.frameOwnsMonitors = true := by rw [X.admits.platform]
  have hfin : e.platform.finalization = false := by rw [X.admits.platform]
  have hpl : e.platform.magicAccessors = ({} : Platform).magicAccessors := by rw [X.admits.platform]
  obtain ⟨T, L, tF, tN1, tN0, tS, tU⟩ := thr_links (args := args) (s := s) (rc := RF) howns hfin hpl (fun d hd => WW d ((by decide +kernel : ∀ d ∈ thrWords RF, xOk d = true) d hd) ((by decide +kernel : ∀ d ∈ thrWords RF, d ∈ tables_1) d hd))
  have fw : ∀ (i : Nat) (d : Cond), fillWords[i]? = some d → d.holds args s none s [] = true := fun i d q => WW d ((by decide +kernel : ∀ d ∈ fillWords, xOk d = true) d (List.mem_of_getElem? q)) ((by decide +kernel : ∀ d ∈ fillWords, d ∈ tables_1) d (List.mem_of_getElem? q))
  obtain ⟨cell, kZ, e1, e2, e3, e4, e5⟩ := E
  obtain ⟨cell', u1, u2, u3⟩ := U
  cases e1.symm.trans u1
  have fR : s.vm.findClass RF = some cell.cls := by rw [hal.findClass]; exact e2
  obtain ⟨kX, hkX, ekX⟩ := hal.2.2 _ _ e3
  have wi := WW (.instantiable RF 8) (by decide +kernel) (by decide +kernel)
  simp only [Cond.before, Cond.holds, Cond.value, fR, Option.bind_some, hkX, Option.map_some] at wi
  have hord : kX.kind = .ordinary := by
    simp only [beq_iff_eq, Option.some.injEq, Bool.and_eq_true, decide_eq_true_eq] at wi; exact wi.1.1.1
  have hszc : cell.slots.size = kX.instanceTypes.size := by rw [ekX]; exact e5 (by rw [← hord, ekX])
  obtain ⟨ci198, i198, fB, hk198, hg198, ha198, hsB, -, hnB, htB, hffB⟩ := Cond.ownField (t := .object "java/lang/Object") tF L.cls (by decide +kernel) (fw 1 _ rfl) (fw 2 _ rfl) e.platform hpl
  obtain ⟨_, _, cD, kD, iD, fD, _, _, hffD, hstD, _⟩ := Cond.lays_spec (fw 3 _ rfl)
  cases (Cond.lays_declared (fw 3 _ rfl) hffD).symm.trans tF
  obtain ⟨hkD, hatD⟩ := State.fieldFound?_spec hffD
  cases hkD.symm.trans L.cls
  obtain ⟨hnD, htD⟩ := State.fieldFound?_type hffD (t := .int) (by decide +kernel)
  have hfb := Cond.soleField_find tF L.cls (fw 4 _ rfl) ha198 hnB hsB
  have hfd := Cond.soleField_find tF L.cls (fw 5 _ rfl) hatD hnD hstD
  obtain ⟨comp, cO, kO, -, -, hkO, hkindO, hO⟩ := Cond.arrayOver_spec (fw 6 _ rfl)
  obtain ⟨tyS, -⟩ := Cond.laysAt fR hkX tS (fw 7 _ rfl)
  obtain ⟨tyB, -⟩ := Cond.laysAt fR hkX hffB (fw 2 _ rfl)
  obtain ⟨tyD, -⟩ := Cond.laysAt fR hkX hffD (fw 3 _ rfl)
  have tySt := (State.fieldFound?_type tS (t := .array (.object "java/lang/StackTraceElement")) (by decide +kernel)).2
  have tk : ∀ {f : Field} {v : Value}, kX.instanceTypes[f.slot]? = some f.type → fits f.type v = true → Jvm.Takes s cell f v := fun {f v} h1 h2 => by
    obtain ⟨q1, q2⟩ := Takes.of_laid (v := v) hkX hord h1 h2
    exact ⟨by rw [hszc]; simpa using q1, by rw [u2]; exact q2⟩
  have hsel0 : selectMethod e.platform s.vm cell.cls T.fill0 = .method T.fill0 := by
    obtain ⟨c2, r2, m2, q1, q2, q3, q4, -⟩ := Cond.selects_spec (fw 0 _ rfl)
    cases q1.symm.trans fR
    cases q2.symm.trans (State.methodFound?_of_named tN0 (by decide))
    cases q3.symm.trans tN0
    rw [Launch.admits_selectMethod X.admits]; exact q4
  obtain ⟨cfU, iU, kU, fU, stU, cellS, w1, w2, w3, w4, w5, w6, w7⟩ := SU
  obtain ⟨kU', w1', ekU⟩ := State.fieldFound?_setVm (s := Z) hal w1
  cases (show s.fieldFound? _ _ _ = _ from w1').symm.trans tU
  have eS : stU = T.aS := Option.some.inj (w4.symm.trans (by have := L.statics; rw [ekU] at this; exact this))
  subst eS
  obtain ⟨cS1, fa1, fa2, fa3, fa4, y1, y2, y3, y4, y5, y6, y7⟩ := FS
  cases y1.symm.trans e1
  obtain ⟨kS', y2', -⟩ := State.fieldFound?_setVm (s := Z) hal y2
  cases (show s.fieldFound? _ _ _ = _ from y2').symm.trans tS
  obtain ⟨cB1, fb1, fb2, fb3, fb4, z1, z2, z3, z4, z5, z6, z7⟩ := FB
  cases z1.symm.trans e1
  obtain ⟨kB', z2', -⟩ := State.fieldFound?_setVm (s := Z) hal z2
  cases (show s.fieldFound? _ _ _ = _ from z2').symm.trans hffB
  obtain ⟨kDz, d2⟩ := ff_back (U := s) hal hffD
  have hneS : T.aS ≠ x := fun q => by
    rw [q, e1] at w5; cases w5; rw [u2] at w6; cases w6
  obtain ⟨v, B, X', ⟨hv, vm', lines, hlen, hWm, hU, hL, hc', hs'⟩, st⟩ := Jvm.Free.Str.fillPays (l := l) (R := R) (len := 3) (W := W) (sargs := args) (s := s) hx htr T L tN1 (u0 := ⟨.ref ua, rfl⟩) (by simp) (self := x) (cell := cell) (cellS := cellS) (fun _ => by rw [u2]; simp) (by rw [u2]; simp) (by rw [u3]) (by rw [u3]) y7 hsel0 hneS (fun q => by rw [q] at w6; cases w6) w7
    (tk tyS (by rw [tySt]; rfl)) ⟨{ ci198 := ci198, i198 := i198, fBack := fB }, ⟨hk198, hg198, ha198, hsB⟩, z7⟩ hTK hBelow tF hO hkO hkindO hfb hfd (fun y => tk tyB (by rw [htB]; rfl)) (fun y => tk tyD (by rw [htD]; rfl)) (by omega) hlo m meth c A g ig mk a X hg hsz hd hWd hmk ⟨ha, hcl, hsl, by rw [hh]; exact e1, by rw [hh]; exact w5⟩
  have hsz2 : (traceHolder cO lines).slots.size ≤ 2752 := by
    simp only [traceHolder, Array.size_replicate]; omega
  refine ⟨v, ⟨B.U, B.locs, A.cells + 1, A.slots + 2752⟩, ?_, ⟨_, ⟨hv, ?_, ?_, ?_, ?_⟩, hL, rfl, rfl⟩, st⟩
  · refine X'.more ?_ ?_
    · show B.cells ≤ A.cells + 1; omega
    · show B.slots ≤ A.slots + 2752; omega
  · intro y hy
    simp only [List.mem_cons, List.not_mem_nil, or_false] at hy
    rcases hy with rfl | rfl | rfl <;> exact gx
  all_goals
    generalize hF : Jvm.Free.Str.filledOn T.toThrowableT fB fD cell ⟨.ref ua, rfl⟩ A.U.heap.size lines.length.toInt32 = C6 at hU
    have q1 : C6.cls = cell.cls := by rw [← hF]; rfl
    have q2 : C6.vm = cell.vm := by rw [← hF]; rfl
    have q3 : C6.slots.size = cell.slots.size := by rw [← hF]; simp [Jvm.Free.Str.filledOn, Cell.setSlot]
    have hp : B.U.heap = (h.push (traceHolder cO lines)).setIfInBounds x C6 := by rw [hU, ← hh]; rfl
    have hlt : x < h.size := (Array.getElem?_eq_some_iff.mp e1).1
    have hx6 : B.U.heap[x]? = some C6 := by rw [hp, Array.getElem?_setIfInBounds_self_of_lt (by rw [Array.size_push]; exact Nat.lt_succ_of_lt hlt)]
    have hot : ∀ (y : Addr) (cy : Cell), h[y]? = some cy → y ≠ x → B.U.heap[y]? = some cy := fun y cy q r => by
      rw [hp, Array.getElem?_setIfInBounds_ne (Ne.symm r), Array.getElem?_push_lt (Array.getElem?_eq_some_iff.mp q).1]; exact (Array.getElem?_eq_getElem _).symm.trans q
  · refine ⟨by rw [hp]; simp, fun y cy q r => hot y cy q (fun z => r (by simp [z])), fun y cy q => ?_⟩
    by_cases r : y = x
    · subst r; cases e1.symm.trans q; exact ⟨C6, hx6, q1, q2, q3⟩
    · exact ⟨cy, hot y cy q r, rfl, rfl, rfl⟩
  · exact ⟨C6, kZ, hx6, by rw [q1]; exact e2, by rw [q1]; exact e3, by rw [q2]; exact e4, fun ho => by rw [q3]; exact e5 ho⟩
  · intro O n d w F r1 r2 r3
    obtain ⟨c0, g1, g2, g3, g4, v1, v2, v3, v4, v5, v6, v7⟩ := F
    cases v1.symm.trans e1
    have s0 : Jvm.RoadKit.slotOf Z O n d = g4.slot := by simp [Jvm.RoadKit.slotOf, v2]
    have sB : Jvm.RoadKit.slotOf Z Bundle.tN "backtrace" "Ljava/lang/Object;" = fB.slot := by simp [Jvm.RoadKit.slotOf, z2]
    have sD : Jvm.RoadKit.slotOf Z Bundle.tN "depth" "I" = fD.slot := by simp [Jvm.RoadKit.slotOf, d2]
    have sS : Jvm.RoadKit.slotOf Z Bundle.tN "stackTrace" Bundle.steD = T.fStack.slot := by simp [Jvm.RoadKit.slotOf, y2]
    rw [s0, sB] at r1
    rw [s0, sD] at r2
    rw [s0, sS] at r3
    refine ⟨C6, g1, g2, g3, g4, hx6, v2, v3, by rw [q2]; exact v4, by rw [q2]; exact v5, by rw [q1]; exact v6, ?_⟩
    rw [← hF]
    simp only [Jvm.Free.Str.filledOn, Cell.setSlot]
    rw [Array.getElem?_setIfInBounds_ne (Ne.symm r3), Array.getElem?_setIfInBounds_ne (Ne.symm r2), Array.getElem?_setIfInBounds_ne (Ne.symm r1)]; exact v7

theorem d9_0 : decode jdk_78_method_2_code 0 = .ok (.aload_n 0, 1) := by decide +kernel
theorem d9_1 : decode jdk_78_method_2_code 1 = .ok (.invokespecial 1, 3) := by decide +kernel
theorem d9_4 : decode jdk_78_method_2_code 4 = .ok (.aload_n 0, 1) := by decide +kernel
theorem d9_5 : decode jdk_78_method_2_code 5 = .ok (.aload_n 0, 1) := by decide +kernel
theorem d9_6 : decode jdk_78_method_2_code 6 = .ok (.putfield 7, 3) := by decide +kernel
theorem d9_9 : decode jdk_78_method_2_code 9 = .ok (.aload_n 0, 1) := by decide +kernel
theorem d9_10 : decode jdk_78_method_2_code 10 = .ok (.getstatic 13, 3) := by decide +kernel
theorem d9_13 : decode jdk_78_method_2_code 13 = .ok (.putfield 17, 3) := by decide +kernel
theorem d9_16 : decode jdk_78_method_2_code 16 = .ok (.aload_n 0, 1) := by decide +kernel
theorem d9_17 : decode jdk_78_method_2_code 17 = .ok (.getstatic 20, 3) := by decide +kernel
theorem d9_20 : decode jdk_78_method_2_code 20 = .ok (.putfield 24, 3) := by decide +kernel
theorem d9_23 : decode jdk_78_method_2_code 23 = .ok (.aload_n 0, 1) := by decide +kernel
theorem d9_24 : decode jdk_78_method_2_code 24 = .ok (.invokevirtual 27, 3) := by decide +kernel
theorem d9_27 : decode jdk_78_method_2_code 27 = .ok (.pop, 1) := by decide +kernel
theorem d9_28 : decode jdk_78_method_2_code 28 = .ok (.aload_n 0, 1) := by decide +kernel
theorem d9_29 : decode jdk_78_method_2_code 29 = .ok (.aload_n 1, 1) := by decide +kernel
theorem d9_30 : decode jdk_78_method_2_code 30 = .ok (.putfield 31, 3) := by decide +kernel
theorem d9_33 : decode jdk_78_method_2_code 33 = .ok (.return_, 1) := by decide +kernel
theorem pn_9 : plainName "java/lang/Throwable" = true := by first | (simp [plainName, overriddenIn]; done) | decide +kernel
theorem ef_9 (m : MethodId) (a1 : Addr) (a2 : Addr) : entryFrame m #[(.ref a1), (.ref a2)] 2 = mkF m 0 #[.val (.ref a1), .val (.ref a2)] [] := by first | (simp [entryFrame, mkF, argsToLocals, Value.category]; done) | rfl
def Q9 (Z : State) (a1 : Addr) (a2 : Addr) (cs : Int32) (ua : Addr) (us : Addr) (u_r : Value) (h0 : Heap) (n0 : Nat) (v : Option Value) (h : Heap) (L : List Loc) : Prop := v = none ∧ Fr n0 L ∧ Keep h0 h [a1] ∧ Exa Z h a1 "com/example/tranche/tranche/terms/Refusal" ∧ Fld Z h a1 "java/lang/Throwable" "detailMessage" "Ljava/lang/String;" (.ref a2) ∧ Fld Z h a1 "com/example/tranche/tranche/terms/Refusal" "reason" "Ljava/lang/String;" u_r
set_option maxRecDepth 65536 in
set_option maxHeartbeats 40000000 in
theorem rm9 (l : Launch) (Z : State) (a0 : Array Value) (hw : ∀ d ∈ tables_1, d.before a0 Z = true) (ws : List Jvm.Cond) (a1 : Addr) (a2 : Addr) (h0 : Heap) (n0 : Nat) (cs : Int32) (ua : Addr) (us : Addr) (CS : Sta Z Z.heap "java/lang/String" "COMPACT_STRINGS" "Z" (.int cs)) (hcs : ¬ cs = 0) (O0 : Old Z n0 h0) (hl : l.stackTraces = true) (SUA : Sta Z Z.heap "java/lang/Throwable" "UNASSIGNED_STACK" "[Ljava/lang/StackTraceElement;" (.ref ua)) (SUS : Sta Z Z.heap "java/lang/Throwable" "SUPPRESSED_SENTINEL" "Ljava/util/List;" (.ref us)) (Z0 : n0 ≤ h0.size) (g_a1 : n0 ≤ a1) (E_a1 : Exa Z h0 a1 "com/example/tranche/tranche/terms/Refusal") (U_a1 : Unt h0 a1) (u_c u_s u_p u_d u_r : Value) (F_cause : Fld Z h0 a1 "java/lang/Throwable" "cause" "Ljava/lang/Throwable;" u_c) (F_stackTrace : Fld Z h0 a1 "java/lang/Throwable" "stackTrace" "[Ljava/lang/StackTraceElement;" u_s) (F_suppressedExceptions : Fld Z h0 a1 "java/lang/Throwable" "suppressedExceptions" "Ljava/util/List;" u_p) (F_detailMessage : Fld Z h0 a1 "java/lang/Throwable" "detailMessage" "Ljava/lang/String;" u_d) (F_backtrace : Fld Z h0 a1 "java/lang/Throwable" "backtrace" "Ljava/lang/Object;" .null) (F_reason : Fld Z h0 a1 "com/example/tranche/tranche/terms/Refusal" "reason" "Ljava/lang/String;" u_r) :
    MetFree l (⟨"java/lang/Throwable", "<init>", "(Ljava/lang/String;)V"⟩ : MethodName) (head1 (Jvm.Cond.code (⟨"java/lang/Throwable", "<init>", "(Ljava/lang/String;)V"⟩ : MethodName) jdk_78_method_2_code 2 none :: ws) ({ frames := 3, cells := 1, slots := 2752, locals := 42 } : Room)) (fun a U => a = #[(.ref a1), (.ref a2)] ∧ Z.Warmed39 U.vm ∧ U.heap = h0) (fun _ _ bl s _ => s.vm.MethodsKnown ∧ s.vm.FramesKnown bl) (fun _ U o U' => ∃ v L, o = .returned v ∧ Q9 Z a1 a2 cs ua us u_r h0 n0 v U'.heap L ∧ FrameEnd U o U' L ({ frames := 3, cells := 1, slots := 2752, locals := 42 } : Room).cells ({ frames := 3, cells := 1, slots := 2752, locals := 42 } : Room).slots) := by
  refine MetFree.of_bodySF (plainFor_of_name pn_9) hisR ?_
  intro p e s m args below meth c s₁ Bd hml0 hP hK
  obtain ⟨rfl, hZ, hh⟩ := hP
  have hx := Bd.exec
  have hby := Bd.bytes
  have hml : c.maxLocals = 2 := hml0
  have hown0 := findClass_of_methodNamed Bd.named
  have hown : s.vm.findClass "java/lang/Throwable" = some m.cls := hown0
  have hnm := (name_of_methodNamed Bd.named Bd.method).1
  have X0 : Stand p l e ({ frames := 3, cells := 1, slots := 2752, locals := 42 } : Room) s m #[(.ref a1), (.ref a2)] below meth c s₁ [] 0 0 := Stand.of_body Bd
  have e0 : s₁.heap = h0 := by rw [← hh, Bd.state]; rfl
  have N0 := Fr.nil n0
  have pre0 : ∀ t, Steps p.tables e below (s₁.setTop (mkF m 0 #[.val (.ref a1), .val (.ref a2)] [])) t → Steps p.tables e below (s₁.setTop (entryFrame m #[(.ref a1), (.ref a2)] 2)) t := fun t k => castTop (ef_9 m a1 a2) k
  refine Classical.byContradiction fun hneg => ?_
  obtain ⟨T1, X1, e1, st1⟩ := initO X0 hx hZ hown (hw _ (List.mem_of_getElem? (i := 50) rfl)) (hw _ (List.mem_of_getElem? (i := 12) rfl)) (hw _ (List.mem_of_getElem? (i := 13) rfl)) e0 (g := (mkF m 1 #[.val (.ref a1), .val (.ref a2)] [(.ref a1)])) rfl (by rw [hml]; rfl) rfl (hb hby d9_1) (by decide) (W := 0) (by show 2 * 0 + _ ≤ _; exact Nat.le_of_eq rfl) (by decide)
  obtain ⟨T2, h2, X2, e2, W2, st2⟩ := putF X1 hx hZ hown (host := "") (Or.inl (hw _ (List.mem_of_getElem? (i := 51) rfl))) Via.refl e1 F_cause E_a1 (Or.inl (hw _ (List.mem_of_getElem? (i := 52) rfl))) (hw _ (List.mem_of_getElem? (i := 34) rfl)) (ty := (.object "java/lang/Throwable")) (by decide) rfl rfl (g := (mkF m 6 #[.val (.ref a1), .val (.ref a2)] [(.ref a1), (.ref a1)])) rfl rfl (hb hby d9_6)
  have E_a1_2 := E_a1.wr W2
  have F_a1_cause_2 := F_cause.same W2
  have F_a1_stackTrace_2 := F_stackTrace.other W2 (Or.inr (slot_ne (Or.inl (hw _ (List.mem_of_getElem? (i := 55) rfl))) (Or.inl (hw _ (List.mem_of_getElem? (i := 52) rfl))) (by decide) (t := (.array (.object "java/lang/StackTraceElement"))) (t' := (.object "java/lang/Throwable")) (by decide) (by decide)))
  have F_a1_suppressedExceptions_2 := F_suppressedExceptions.other W2 (Or.inr (slot_ne (Or.inl (hw _ (List.mem_of_getElem? (i := 58) rfl))) (Or.inl (hw _ (List.mem_of_getElem? (i := 52) rfl))) (by decide) (t := (.object "java/util/List")) (t' := (.object "java/lang/Throwable")) (by decide) (by decide)))
  have F_a1_detailMessage_2 := F_detailMessage.other W2 (Or.inr (slot_ne (Or.inl (hw _ (List.mem_of_getElem? (i := 82) rfl))) (Or.inl (hw _ (List.mem_of_getElem? (i := 52) rfl))) (by decide) (t := (.object "java/lang/String")) (t' := (.object "java/lang/Throwable")) (by decide) (by decide)))
  have F_a1_backtrace_2 := F_backtrace.other W2 (Or.inr (slot_ne (Or.inl (hw _ (List.mem_of_getElem? (i := 83) rfl))) (Or.inl (hw _ (List.mem_of_getElem? (i := 52) rfl))) (by decide) (t := (.object "java/lang/Object")) (t' := (.object "java/lang/Throwable")) (by decide) (by decide)))
  have F_a1_reason_2 := F_reason.other W2 (Or.inr (slot_ne (Or.inr (hw _ (List.mem_of_getElem? (i := 88) rfl))) (Or.inl (hw _ (List.mem_of_getElem? (i := 52) rfl))) (by decide) (t := (.object "java/lang/String")) (t' := (.object "java/lang/Throwable")) (by decide) (by decide)))
  have U_a1_2 := U_a1.wr W2
  have K2 : Keep h0 h2 [a1] := (Keep.refl h0 [a1]).wr W2 (Or.inl (by simp))
  have N2 := Fr.snoc X2 N0 g_a1
  have Z2 : n0 ≤ h2.size := Nat.le_trans Z0 (Keep.of_wr W2).1
  have O2 := Old.wr O0 W2 g_a1
  obtain ⟨T3, X3, e3, st3⟩ := getS2 X2 hx hZ hown (host := "") (Or.inl (hw _ (List.mem_of_getElem? (i := 53) rfl))) Via.refl e2 (SUA.ext O2.2) (g := (mkF m 10 #[.val (.ref a1), .val (.ref a2)] [(.ref a1)])) rfl (hb hby d9_10)
  obtain ⟨T4, h4, X4, e4, W4, st4⟩ := putF X3 hx hZ hown (host := "") (Or.inl (hw _ (List.mem_of_getElem? (i := 54) rfl))) Via.refl e3 F_a1_stackTrace_2 E_a1_2 (Or.inl (hw _ (List.mem_of_getElem? (i := 55) rfl))) (hw _ (List.mem_of_getElem? (i := 34) rfl)) (ty := (.array (.object "java/lang/StackTraceElement"))) (by decide) rfl rfl (g := (mkF m 13 #[.val (.ref a1), .val (.ref a2)] [(.ref ua), (.ref a1)])) rfl rfl (hb hby d9_13)
  have E_a1_4 := E_a1_2.wr W4
  have F_a1_cause_4 := F_a1_cause_2.other W4 (Or.inr (slot_ne (Or.inl (hw _ (List.mem_of_getElem? (i := 52) rfl))) (Or.inl (hw _ (List.mem_of_getElem? (i := 55) rfl))) (by decide) (t := (.object "java/lang/Throwable")) (t' := (.array (.object "java/lang/StackTraceElement"))) (by decide) (by decide)))
  have F_a1_stackTrace_4 := F_a1_stackTrace_2.same W4
  have F_a1_suppressedExceptions_4 := F_a1_suppressedExceptions_2.other W4 (Or.inr (slot_ne (Or.inl (hw _ (List.mem_of_getElem? (i := 58) rfl))) (Or.inl (hw _ (List.mem_of_getElem? (i := 55) rfl))) (by decide) (t := (.object "java/util/List")) (t' := (.array (.object "java/lang/StackTraceElement"))) (by decide) (by decide)))
  have F_a1_detailMessage_4 := F_a1_detailMessage_2.other W4 (Or.inr (slot_ne (Or.inl (hw _ (List.mem_of_getElem? (i := 82) rfl))) (Or.inl (hw _ (List.mem_of_getElem? (i := 55) rfl))) (by decide) (t := (.object "java/lang/String")) (t' := (.array (.object "java/lang/StackTraceElement"))) (by decide) (by decide)))
  have F_a1_backtrace_4 := F_a1_backtrace_2.other W4 (Or.inr (slot_ne (Or.inl (hw _ (List.mem_of_getElem? (i := 83) rfl))) (Or.inl (hw _ (List.mem_of_getElem? (i := 55) rfl))) (by decide) (t := (.object "java/lang/Object")) (t' := (.array (.object "java/lang/StackTraceElement"))) (by decide) (by decide)))
  have F_a1_reason_4 := F_a1_reason_2.other W4 (Or.inr (slot_ne (Or.inr (hw _ (List.mem_of_getElem? (i := 88) rfl))) (Or.inl (hw _ (List.mem_of_getElem? (i := 55) rfl))) (by decide) (t := (.object "java/lang/String")) (t' := (.array (.object "java/lang/StackTraceElement"))) (by decide) (by decide)))
  have U_a1_4 := U_a1_2.wr W4
  have K4 : Keep h0 h4 [a1] := K2.wr W4 (Or.inl (by simp))
  have N4 := Fr.snoc X4 N2 g_a1
  have Z4 : n0 ≤ h4.size := Nat.le_trans Z2 (Keep.of_wr W4).1
  have O4 := Old.wr O2 W4 g_a1
  obtain ⟨T5, X5, e5, st5⟩ := getS2 X4 hx hZ hown (host := "") (Or.inl (hw _ (List.mem_of_getElem? (i := 56) rfl))) Via.refl e4 (SUS.ext O4.2) (g := (mkF m 17 #[.val (.ref a1), .val (.ref a2)] [(.ref a1)])) rfl (hb hby d9_17)
  obtain ⟨T6, h6, X6, e6, W6, st6⟩ := putF X5 hx hZ hown (host := "") (Or.inl (hw _ (List.mem_of_getElem? (i := 57) rfl))) Via.refl e5 F_a1_suppressedExceptions_4 E_a1_4 (Or.inl (hw _ (List.mem_of_getElem? (i := 58) rfl))) (hw _ (List.mem_of_getElem? (i := 34) rfl)) (ty := (.object "java/util/List")) (by decide) rfl rfl (g := (mkF m 20 #[.val (.ref a1), .val (.ref a2)] [(.ref us), (.ref a1)])) rfl rfl (hb hby d9_20)
  have E_a1_6 := E_a1_4.wr W6
  have F_a1_cause_6 := F_a1_cause_4.other W6 (Or.inr (slot_ne (Or.inl (hw _ (List.mem_of_getElem? (i := 52) rfl))) (Or.inl (hw _ (List.mem_of_getElem? (i := 58) rfl))) (by decide) (t := (.object "java/lang/Throwable")) (t' := (.object "java/util/List")) (by decide) (by decide)))
  have F_a1_stackTrace_6 := F_a1_stackTrace_4.other W6 (Or.inr (slot_ne (Or.inl (hw _ (List.mem_of_getElem? (i := 55) rfl))) (Or.inl (hw _ (List.mem_of_getElem? (i := 58) rfl))) (by decide) (t := (.array (.object "java/lang/StackTraceElement"))) (t' := (.object "java/util/List")) (by decide) (by decide)))
  have F_a1_suppressedExceptions_6 := F_a1_suppressedExceptions_4.same W6
  have F_a1_detailMessage_6 := F_a1_detailMessage_4.other W6 (Or.inr (slot_ne (Or.inl (hw _ (List.mem_of_getElem? (i := 82) rfl))) (Or.inl (hw _ (List.mem_of_getElem? (i := 58) rfl))) (by decide) (t := (.object "java/lang/String")) (t' := (.object "java/util/List")) (by decide) (by decide)))
  have F_a1_backtrace_6 := F_a1_backtrace_4.other W6 (Or.inr (slot_ne (Or.inl (hw _ (List.mem_of_getElem? (i := 83) rfl))) (Or.inl (hw _ (List.mem_of_getElem? (i := 58) rfl))) (by decide) (t := (.object "java/lang/Object")) (t' := (.object "java/util/List")) (by decide) (by decide)))
  have F_a1_reason_6 := F_a1_reason_4.other W6 (Or.inr (slot_ne (Or.inr (hw _ (List.mem_of_getElem? (i := 88) rfl))) (Or.inl (hw _ (List.mem_of_getElem? (i := 58) rfl))) (by decide) (t := (.object "java/lang/String")) (t' := (.object "java/util/List")) (by decide) (by decide)))
  have U_a1_6 := U_a1_4.wr W6
  have K6 : Keep h0 h6 [a1] := K4.wr W6 (Or.inl (by simp))
  have N6 := Fr.snoc X6 N4 g_a1
  have Z6 : n0 ≤ h6.size := Nat.le_trans Z4 (Keep.of_wr W6).1
  have O6 := Old.wr O4 W6 g_a1
  obtain ⟨cq7, kq7, q7a, q7b, q7c⟩ := isOf hZ e6 E_a1_6
  obtain ⟨_, _, ⟨T7, L7, k7, n7⟩, -, X7, ⟨Lc7, hQ7, l7, y7, z7⟩, st7⟩ := X6.virtualBack hx (y := (⟨"java/lang/Throwable", "fillInStackTrace", "()Ljava/lang/Throwable;"⟩ : MethodName)) (z := (⟨"java/lang/Throwable", "fillInStackTrace", "()Ljava/lang/Throwable;"⟩ : MethodName)) hown (mvT hZ (hw _ (List.mem_of_getElem? (i := 59) rfl))) (mvT hZ (hw _ (List.mem_of_getElem? (i := 60) rfl))) (notFace_of_selects (args := #[]) (mvT hZ (hw _ (List.mem_of_getElem? (i := 62) rfl)))) (mvT hZ (hw _ (List.mem_of_getElem? (i := 62) rfl))) (mvT hZ (hw _ (List.mem_of_getElem? (i := 61) rfl))) (by decide) (payFill (h := h6) (W := 0) (n0 := n0) hx hl hZ hw (by rw [hh]; exact ThS.ext O0.2 ThS.start) hK.1 hK.2 E_a1_6 U_a1_6 F_a1_backtrace_6 F_a1_stackTrace_6 (SUA.ext O6.2) g_a1 (by decide) (by decide)) q7a q7c (g := (mkF m 24 #[.val (.ref a1), .val (.ref a2)] [(.ref a1)])) rfl (by rw [hml]; rfl) (Steps.refl _) (argsL := []) (rest := []) (lenOf pd17 rfl) rfl (by show 2 * 0 + _ ≤ _; exact Nat.le_of_eq rfl) (hb hby d9_24) (fun _ _ => ⟨rfl, e6, (by decide : 0 + 1 ≤ _), (by decide : 0 + 2752 ≤ _)⟩)
  dsimp only [Pt.U, Pt.locs, Pt.cells, Pt.slots] at X7 l7 y7 z7 st7 hQ7
  subst l7 y7 z7
  obtain ⟨rfl, N7q, Kc7, Ex7, hFl7⟩ := hQ7
  have N7 := Fr.app N6 N7q
  have Fk_cause_7 := hFl7 _ _ _ _ F_a1_cause_6 (slot_ne (Or.inl (hw _ (List.mem_of_getElem? (i := 52) rfl))) (Or.inl (hw _ (List.mem_of_getElem? (i := 83) rfl))) (by decide) (t := (.object "java/lang/Throwable")) (t' := (.object "java/lang/Object")) (by decide) (by decide)) (slot_ne (Or.inl (hw _ (List.mem_of_getElem? (i := 52) rfl))) (Or.inl (hw _ (List.mem_of_getElem? (i := 84) rfl))) (by decide) (t := (.object "java/lang/Throwable")) (t' := .int) (by decide) (by decide)) (slot_ne (Or.inl (hw _ (List.mem_of_getElem? (i := 52) rfl))) (Or.inl (hw _ (List.mem_of_getElem? (i := 55) rfl))) (by decide) (t := (.object "java/lang/Throwable")) (t' := (.array (.object "java/lang/StackTraceElement"))) (by decide) (by decide))
  have Fk_suppressedExceptions_7 := hFl7 _ _ _ _ F_a1_suppressedExceptions_6 (slot_ne (Or.inl (hw _ (List.mem_of_getElem? (i := 58) rfl))) (Or.inl (hw _ (List.mem_of_getElem? (i := 83) rfl))) (by decide) (t := (.object "java/util/List")) (t' := (.object "java/lang/Object")) (by decide) (by decide)) (slot_ne (Or.inl (hw _ (List.mem_of_getElem? (i := 58) rfl))) (Or.inl (hw _ (List.mem_of_getElem? (i := 84) rfl))) (by decide) (t := (.object "java/util/List")) (t' := .int) (by decide) (by decide)) (slot_ne (Or.inl (hw _ (List.mem_of_getElem? (i := 58) rfl))) (Or.inl (hw _ (List.mem_of_getElem? (i := 55) rfl))) (by decide) (t := (.object "java/util/List")) (t' := (.array (.object "java/lang/StackTraceElement"))) (by decide) (by decide))
  have Fk_detailMessage_7 := hFl7 _ _ _ _ F_a1_detailMessage_6 (slot_ne (Or.inl (hw _ (List.mem_of_getElem? (i := 82) rfl))) (Or.inl (hw _ (List.mem_of_getElem? (i := 83) rfl))) (by decide) (t := (.object "java/lang/String")) (t' := (.object "java/lang/Object")) (by decide) (by decide)) (slot_ne (Or.inl (hw _ (List.mem_of_getElem? (i := 82) rfl))) (Or.inl (hw _ (List.mem_of_getElem? (i := 84) rfl))) (by decide) (t := (.object "java/lang/String")) (t' := .int) (by decide) (by decide)) (slot_ne (Or.inl (hw _ (List.mem_of_getElem? (i := 82) rfl))) (Or.inl (hw _ (List.mem_of_getElem? (i := 55) rfl))) (by decide) (t := (.object "java/lang/String")) (t' := (.array (.object "java/lang/StackTraceElement"))) (by decide) (by decide))
  have Fk_reason_7 := hFl7 _ _ _ _ F_a1_reason_6 (slot_ne (Or.inr (hw _ (List.mem_of_getElem? (i := 88) rfl))) (Or.inl (hw _ (List.mem_of_getElem? (i := 83) rfl))) (by decide) (t := (.object "java/lang/String")) (t' := (.object "java/lang/Object")) (by decide) (by decide)) (slot_ne (Or.inr (hw _ (List.mem_of_getElem? (i := 88) rfl))) (Or.inl (hw _ (List.mem_of_getElem? (i := 84) rfl))) (by decide) (t := (.object "java/lang/String")) (t' := .int) (by decide) (by decide)) (slot_ne (Or.inr (hw _ (List.mem_of_getElem? (i := 88) rfl))) (Or.inl (hw _ (List.mem_of_getElem? (i := 55) rfl))) (by decide) (t := (.object "java/lang/String")) (t' := (.array (.object "java/lang/StackTraceElement"))) (by decide) (by decide))
  have K7 : Keep h0 T7.heap [a1] := K6.trans Kc7 (allS (P := fun x => x ∈ [a1] ∨ h0.size ≤ x) (Or.inl (by simp)) all0)
  have Z7 : n0 ≤ T7.heap.size := Nat.le_trans Z6 Kc7.1
  have O7 := Old.keep O6 Kc7 (allS g_a1 all0)
  obtain ⟨T8, h8, X8, e8, W8, st8⟩ := putF X7 hx hZ hown (host := "") (Or.inl (hw _ (List.mem_of_getElem? (i := 86) rfl))) Via.refl rfl Fk_detailMessage_7 Ex7 (Or.inl (hw _ (List.mem_of_getElem? (i := 82) rfl))) (hw _ (List.mem_of_getElem? (i := 34) rfl)) (ty := (.object "java/lang/String")) (by decide) rfl rfl (g := (mkF m 30 #[.val (.ref a1), .val (.ref a2)] [(.ref a2), (.ref a1)])) rfl rfl (hb hby d9_30)
  have E_a1_8 := Ex7.wr W8
  have F_a1_cause_8 := Fk_cause_7.other W8 (Or.inr (slot_ne (Or.inl (hw _ (List.mem_of_getElem? (i := 52) rfl))) (Or.inl (hw _ (List.mem_of_getElem? (i := 82) rfl))) (by decide) (t := (.object "java/lang/Throwable")) (t' := (.object "java/lang/String")) (by decide) (by decide)))
  have F_a1_suppressedExceptions_8 := Fk_suppressedExceptions_7.other W8 (Or.inr (slot_ne (Or.inl (hw _ (List.mem_of_getElem? (i := 58) rfl))) (Or.inl (hw _ (List.mem_of_getElem? (i := 82) rfl))) (by decide) (t := (.object "java/util/List")) (t' := (.object "java/lang/String")) (by decide) (by decide)))
  have F_a1_detailMessage_8 := Fk_detailMessage_7.same W8
  have F_a1_reason_8 := Fk_reason_7.other W8 (Or.inr (slot_ne (Or.inr (hw _ (List.mem_of_getElem? (i := 88) rfl))) (Or.inl (hw _ (List.mem_of_getElem? (i := 82) rfl))) (by decide) (t := (.object "java/lang/String")) (t' := (.object "java/lang/String")) (by decide) (by decide)))
  have K8 : Keep h0 h8 [a1] := K7.wr W8 (Or.inl (by simp))
  have N8 := Fr.snoc X8 N7 g_a1
  have Z8 : n0 ≤ h8.size := Nat.le_trans Z7 (Keep.of_wr W8).1
  have O8 := Old.wr O7 W8 g_a1
  refine hneg ?_
  obtain ⟨fs, hr, hrun, hended, hW, hsame⟩ := X8.leave (v := none) (fun _ => rfl)
  refine ⟨_, _, pre0 _ ?_, hrun, hended, _, _, rfl, ?_, ⟨_, rfl⟩, hW, hsame.mono (by decide) (by decide)⟩
  · show Steps p.tables e below (s₁.setTop (mkF m 0 #[.val (.ref a1), .val (.ref a2)] [])) _
    refine XS.aloadN X0.here hx rfl (hb hby d9_0) rfl rfl ?_
    show Steps p.tables e below (s₁.setTop (mkF m 1 #[.val (.ref a1), .val (.ref a2)] [(.ref a1)])) _
    refine st1 _ ?_
    show Steps p.tables e below (T1.setTop (mkF m 4 #[.val (.ref a1), .val (.ref a2)] [])) _
    refine XS.aloadN X1.here hx rfl (hb hby d9_4) rfl rfl ?_
    show Steps p.tables e below (T1.setTop (mkF m 5 #[.val (.ref a1), .val (.ref a2)] [(.ref a1)])) _
    refine XS.aloadN X1.here hx rfl (hb hby d9_5) rfl rfl ?_
    show Steps p.tables e below (T1.setTop (mkF m 6 #[.val (.ref a1), .val (.ref a2)] [(.ref a1), (.ref a1)])) _
    refine st2 _ ?_
    show Steps p.tables e below (T2.setTop (mkF m 9 #[.val (.ref a1), .val (.ref a2)] [])) _
    refine XS.aloadN X2.here hx rfl (hb hby d9_9) rfl rfl ?_
    show Steps p.tables e below (T2.setTop (mkF m 10 #[.val (.ref a1), .val (.ref a2)] [(.ref a1)])) _
    refine st3 _ ?_
    show Steps p.tables e below (T3.setTop (mkF m 13 #[.val (.ref a1), .val (.ref a2)] [(.ref ua), (.ref a1)])) _
    refine st4 _ ?_
    show Steps p.tables e below (T4.setTop (mkF m 16 #[.val (.ref a1), .val (.ref a2)] [])) _
    refine XS.aloadN X4.here hx rfl (hb hby d9_16) rfl rfl ?_
    show Steps p.tables e below (T4.setTop (mkF m 17 #[.val (.ref a1), .val (.ref a2)] [(.ref a1)])) _
    refine st5 _ ?_
    show Steps p.tables e below (T5.setTop (mkF m 20 #[.val (.ref a1), .val (.ref a2)] [(.ref us), (.ref a1)])) _
    refine st6 _ ?_
    show Steps p.tables e below (T6.setTop (mkF m 23 #[.val (.ref a1), .val (.ref a2)] [])) _
    refine XS.aloadN X6.here hx rfl (hb hby d9_23) rfl rfl ?_
    show Steps p.tables e below (T6.setTop (mkF m 24 #[.val (.ref a1), .val (.ref a2)] [(.ref a1)])) _
    refine st7.trans ?_
    show Steps p.tables e below (T7.setTop (mkF m 27 #[.val (.ref a1), .val (.ref a2)] [(.ref a1)])) _
    refine XS.pop X7.here hx rfl (hb hby d9_27) rfl rfl ?_
    show Steps p.tables e below (T7.setTop (mkF m 28 #[.val (.ref a1), .val (.ref a2)] [])) _
    refine XS.aloadN X7.here hx rfl (hb hby d9_28) rfl rfl ?_
    show Steps p.tables e below (T7.setTop (mkF m 29 #[.val (.ref a1), .val (.ref a2)] [(.ref a1)])) _
    refine XS.aloadN X7.here hx rfl (hb hby d9_29) rfl rfl ?_
    show Steps p.tables e below (T7.setTop (mkF m 30 #[.val (.ref a1), .val (.ref a2)] [(.ref a2), (.ref a1)])) _
    refine st8 _ ?_
    show Steps p.tables e below (T8.setTop (mkF m 33 #[.val (.ref a1), .val (.ref a2)] [])) _
    exact X8.returnOut hx Bd.returns (hb hby d9_33) hr
  · show Q9 Z a1 a2 cs ua us u_r h0 n0 _ T8.heap _
    rw [e8]
    exact ⟨rfl, N8, K8, E_a1_8, F_a1_detailMessage_8, F_a1_reason_8⟩

theorem d8_0 : decode jdk_59_method_2_code 0 = .ok (.aload_n 0, 1) := by decide +kernel
theorem d8_1 : decode jdk_59_method_2_code 1 = .ok (.aload_n 1, 1) := by decide +kernel
theorem d8_2 : decode jdk_59_method_2_code 2 = .ok (.invokespecial 7, 3) := by decide +kernel
theorem d8_5 : decode jdk_59_method_2_code 5 = .ok (.return_, 1) := by decide +kernel
theorem pn_8 : plainName "java/lang/Exception" = true := by first | (simp [plainName, overriddenIn]; done) | decide +kernel
theorem ef_8 (m : MethodId) (a1 : Addr) (a2 : Addr) : entryFrame m #[(.ref a1), (.ref a2)] 2 = mkF m 0 #[.val (.ref a1), .val (.ref a2)] [] := by first | (simp [entryFrame, mkF, argsToLocals, Value.category]; done) | rfl
def Q8 (Z : State) (a1 : Addr) (a2 : Addr) (cs : Int32) (ua : Addr) (us : Addr) (u_r : Value) (h0 : Heap) (n0 : Nat) (v : Option Value) (h : Heap) (L : List Loc) : Prop := v = none ∧ Fr n0 L ∧ Keep h0 h [a1] ∧ Exa Z h a1 "com/example/tranche/tranche/terms/Refusal" ∧ Fld Z h a1 "java/lang/Throwable" "detailMessage" "Ljava/lang/String;" (.ref a2) ∧ Fld Z h a1 "com/example/tranche/tranche/terms/Refusal" "reason" "Ljava/lang/String;" u_r
set_option maxRecDepth 65536 in
set_option maxHeartbeats 40000000 in
theorem rm8 (l : Launch) (Z : State) (a0 : Array Value) (hw : ∀ d ∈ tables_1, d.before a0 Z = true) (ws : List Jvm.Cond) (a1 : Addr) (a2 : Addr) (h0 : Heap) (n0 : Nat) (cs : Int32) (ua : Addr) (us : Addr) (CS : Sta Z Z.heap "java/lang/String" "COMPACT_STRINGS" "Z" (.int cs)) (hcs : ¬ cs = 0) (O0 : Old Z n0 h0) (hl : l.stackTraces = true) (SUA : Sta Z Z.heap "java/lang/Throwable" "UNASSIGNED_STACK" "[Ljava/lang/StackTraceElement;" (.ref ua)) (SUS : Sta Z Z.heap "java/lang/Throwable" "SUPPRESSED_SENTINEL" "Ljava/util/List;" (.ref us)) (Z0 : n0 ≤ h0.size) (g_a1 : n0 ≤ a1) (E_a1 : Exa Z h0 a1 "com/example/tranche/tranche/terms/Refusal") (U_a1 : Unt h0 a1) (u_c u_s u_p u_d u_r : Value) (F_cause : Fld Z h0 a1 "java/lang/Throwable" "cause" "Ljava/lang/Throwable;" u_c) (F_stackTrace : Fld Z h0 a1 "java/lang/Throwable" "stackTrace" "[Ljava/lang/StackTraceElement;" u_s) (F_suppressedExceptions : Fld Z h0 a1 "java/lang/Throwable" "suppressedExceptions" "Ljava/util/List;" u_p) (F_detailMessage : Fld Z h0 a1 "java/lang/Throwable" "detailMessage" "Ljava/lang/String;" u_d) (F_backtrace : Fld Z h0 a1 "java/lang/Throwable" "backtrace" "Ljava/lang/Object;" .null) (F_reason : Fld Z h0 a1 "com/example/tranche/tranche/terms/Refusal" "reason" "Ljava/lang/String;" u_r) :
    MetFree l (⟨"java/lang/Exception", "<init>", "(Ljava/lang/String;)V"⟩ : MethodName) (head1 (Jvm.Cond.code (⟨"java/lang/Exception", "<init>", "(Ljava/lang/String;)V"⟩ : MethodName) jdk_59_method_2_code 2 none :: ws) ({ frames := 4, cells := 1, slots := 2752, locals := 55 } : Room)) (fun a U => a = #[(.ref a1), (.ref a2)] ∧ Z.Warmed39 U.vm ∧ U.heap = h0) (fun _ _ bl s _ => s.vm.MethodsKnown ∧ s.vm.FramesKnown bl) (fun _ U o U' => ∃ v L, o = .returned v ∧ Q8 Z a1 a2 cs ua us u_r h0 n0 v U'.heap L ∧ FrameEnd U o U' L ({ frames := 4, cells := 1, slots := 2752, locals := 55 } : Room).cells ({ frames := 4, cells := 1, slots := 2752, locals := 55 } : Room).slots) := by
  refine MetFree.of_bodySF (plainFor_of_name pn_8) hisR ?_
  intro p e s m args below meth c s₁ Bd hml0 hP hK
  obtain ⟨rfl, hZ, hh⟩ := hP
  have hx := Bd.exec
  have hby := Bd.bytes
  have hml : c.maxLocals = 2 := hml0
  have hown0 := findClass_of_methodNamed Bd.named
  have hown : s.vm.findClass "java/lang/Exception" = some m.cls := hown0
  have hnm := (name_of_methodNamed Bd.named Bd.method).1
  have X0 : Stand p l e ({ frames := 4, cells := 1, slots := 2752, locals := 55 } : Room) s m #[(.ref a1), (.ref a2)] below meth c s₁ [] 0 0 := Stand.of_body Bd
  have e0 : s₁.heap = h0 := by rw [← hh, Bd.state]; rfl
  have N0 := Fr.nil n0
  have pre0 : ∀ t, Steps p.tables e below (s₁.setTop (mkF m 0 #[.val (.ref a1), .val (.ref a2)] [])) t → Steps p.tables e below (s₁.setTop (entryFrame m #[(.ref a1), (.ref a2)] 2)) t := fun t k => castTop (ef_8 m a1 a2) k
  refine Classical.byContradiction fun hneg => ?_
  obtain ⟨_, _, ⟨T1, L1, k1, n1⟩, -, X1, ⟨Lc1, hQ1, l1, y1, z1⟩, st1⟩ := X0.specialBack hx (y := (⟨"java/lang/Throwable", "<init>", "(Ljava/lang/String;)V"⟩ : MethodName)) rfl hown (mvT hZ (hw _ (List.mem_of_getElem? (i := 44) rfl))) (mvT hZ (hw _ (List.mem_of_getElem? (i := 45) rfl))) (mvT hZ (hw _ (List.mem_of_getElem? (i := 49) rfl))) (by decide) (backOfKL (W := 0) (rm9 l Z a0 hw [] a1 a2 h0 n0 cs ua us CS hcs O0 hl SUA SUS Z0 g_a1 E_a1 U_a1 _ _ _ _ _ F_cause F_stackTrace F_suppressedExceptions F_detailMessage F_backtrace F_reason) hZ (hw _ (List.mem_of_getElem? (i := 49) rfl)) (hw _ (List.mem_of_getElem? (i := 48) rfl)) (by decide) (by decide) hK.1 hK.2) (g := (mkF m 2 #[.val (.ref a1), .val (.ref a2)] [(.ref a2), (.ref a1)])) rfl (by rw [hml]; rfl) (Steps.refl _) (a := a1) (argsL := [(.ref a2)]) (rest := []) (lenOf pd1 rfl) rfl (by show 2 * 0 + _ ≤ _; exact Nat.le_of_eq rfl) (hb hby d8_2) (fun _ _ => ⟨rfl, e0, (by decide : 0 + 1 ≤ _), (by decide : 0 + 2752 ≤ _)⟩)
  dsimp only [Pt.U, Pt.locs, Pt.cells, Pt.slots] at X1 l1 y1 z1 st1 hQ1
  subst l1 y1 z1
  obtain ⟨rfl, N1q, Kc1, G1_0, G1_1, G1_2⟩ := hQ1
  have N1 := Fr.app N0 N1q
  have K1 : Keep h0 T1.heap [a1] := (Keep.refl h0 [a1]).trans Kc1 (allS (P := fun x => x ∈ [a1] ∨ h0.size ≤ x) (Or.inl (by simp)) all0)
  have Z1 : n0 ≤ T1.heap.size := Nat.le_trans Z0 Kc1.1
  have O1 := Old.keep O0 Kc1 (allS g_a1 all0)
  refine hneg ?_
  obtain ⟨fs, hr, hrun, hended, hW, hsame⟩ := X1.leave (v := none) (fun _ => rfl)
  refine ⟨_, _, pre0 _ ?_, hrun, hended, _, _, rfl, ?_, ⟨_, rfl⟩, hW, hsame.mono (by decide) (by decide)⟩
  · show Steps p.tables e below (s₁.setTop (mkF m 0 #[.val (.ref a1), .val (.ref a2)] [])) _
    refine XS.aloadN X0.here hx rfl (hb hby d8_0) rfl rfl ?_
    show Steps p.tables e below (s₁.setTop (mkF m 1 #[.val (.ref a1), .val (.ref a2)] [(.ref a1)])) _
    refine XS.aloadN X0.here hx rfl (hb hby d8_1) rfl rfl ?_
    show Steps p.tables e below (s₁.setTop (mkF m 2 #[.val (.ref a1), .val (.ref a2)] [(.ref a2), (.ref a1)])) _
    refine st1.trans ?_
    show Steps p.tables e below (T1.setTop (mkF m 5 #[.val (.ref a1), .val (.ref a2)] [])) _
    exact X1.returnOut hx Bd.returns (hb hby d8_5) hr
  · show Q8 Z a1 a2 cs ua us u_r h0 n0 _ T1.heap _
    exact ⟨rfl, N1, K1, G1_0, G1_1, G1_2⟩

theorem d7_0 : decode prog_47_method_1_code 0 = .ok (.aload_n 0, 1) := by decide +kernel
theorem d7_1 : decode prog_47_method_1_code 1 = .ok (.aload_n 2, 1) := by decide +kernel
theorem d7_2 : decode prog_47_method_1_code 2 = .ok (.invokespecial 1, 3) := by decide +kernel
theorem d7_5 : decode prog_47_method_1_code 5 = .ok (.aload_n 0, 1) := by decide +kernel
theorem d7_6 : decode prog_47_method_1_code 6 = .ok (.aload_n 1, 1) := by decide +kernel
theorem d7_7 : decode prog_47_method_1_code 7 = .ok (.putfield 7, 3) := by decide +kernel
theorem d7_10 : decode prog_47_method_1_code 10 = .ok (.return_, 1) := by decide +kernel
theorem pn_7 : plainName "com/example/tranche/tranche/terms/Refusal" = true := by first | (simp [plainName, overriddenIn]; done) | decide +kernel
theorem ef_7 (m : MethodId) (a1 : Addr) (a2 : Addr) (a3 : Addr) : entryFrame m #[(.ref a1), (.ref a2), (.ref a3)] 3 = mkF m 0 #[.val (.ref a1), .val (.ref a2), .val (.ref a3)] [] := by first | (simp [entryFrame, mkF, argsToLocals, Value.category]; done) | rfl
def Q7 (Z : State) (a1 : Addr) (a2 : Addr) (a3 : Addr) (cs : Int32) (ua : Addr) (us : Addr) (h0 : Heap) (n0 : Nat) (v : Option Value) (h : Heap) (L : List Loc) : Prop := v = none ∧ Fr n0 L ∧ Keep h0 h [a1] ∧ Exa Z h a1 "com/example/tranche/tranche/terms/Refusal" ∧ Fld Z h a1 "java/lang/Throwable" "detailMessage" "Ljava/lang/String;" (.ref a3) ∧ Fld Z h a1 "com/example/tranche/tranche/terms/Refusal" "reason" "Ljava/lang/String;" (.ref a2)
set_option maxRecDepth 65536 in
set_option maxHeartbeats 40000000 in
theorem rm7 (l : Launch) (Z : State) (a0 : Array Value) (hw : ∀ d ∈ tables_1, d.before a0 Z = true) (ws : List Jvm.Cond) (a1 : Addr) (a2 : Addr) (a3 : Addr) (h0 : Heap) (n0 : Nat) (cs : Int32) (ua : Addr) (us : Addr) (CS : Sta Z Z.heap "java/lang/String" "COMPACT_STRINGS" "Z" (.int cs)) (hcs : ¬ cs = 0) (O0 : Old Z n0 h0) (hl : l.stackTraces = true) (SUA : Sta Z Z.heap "java/lang/Throwable" "UNASSIGNED_STACK" "[Ljava/lang/StackTraceElement;" (.ref ua)) (SUS : Sta Z Z.heap "java/lang/Throwable" "SUPPRESSED_SENTINEL" "Ljava/util/List;" (.ref us)) (Z0 : n0 ≤ h0.size) (g_a1 : n0 ≤ a1) (E_a1 : Exa Z h0 a1 "com/example/tranche/tranche/terms/Refusal") (U_a1 : Unt h0 a1) (u_c u_s u_p u_d u_r : Value) (F_cause : Fld Z h0 a1 "java/lang/Throwable" "cause" "Ljava/lang/Throwable;" u_c) (F_stackTrace : Fld Z h0 a1 "java/lang/Throwable" "stackTrace" "[Ljava/lang/StackTraceElement;" u_s) (F_suppressedExceptions : Fld Z h0 a1 "java/lang/Throwable" "suppressedExceptions" "Ljava/util/List;" u_p) (F_detailMessage : Fld Z h0 a1 "java/lang/Throwable" "detailMessage" "Ljava/lang/String;" u_d) (F_backtrace : Fld Z h0 a1 "java/lang/Throwable" "backtrace" "Ljava/lang/Object;" .null) (F_reason : Fld Z h0 a1 "com/example/tranche/tranche/terms/Refusal" "reason" "Ljava/lang/String;" u_r) :
    MetFree l (⟨"com/example/tranche/tranche/terms/Refusal", "<init>", "(Ljava/lang/String;Ljava/lang/String;)V"⟩ : MethodName) (head1 (Jvm.Cond.code (⟨"com/example/tranche/tranche/terms/Refusal", "<init>", "(Ljava/lang/String;Ljava/lang/String;)V"⟩ : MethodName) prog_47_method_1_code 3 none :: ws) ({ frames := 5, cells := 1, slots := 2752, locals := 68 } : Room)) (fun a U => a = #[(.ref a1), (.ref a2), (.ref a3)] ∧ Z.Warmed39 U.vm ∧ U.heap = h0) (fun _ _ bl s _ => s.vm.MethodsKnown ∧ s.vm.FramesKnown bl) (fun _ U o U' => ∃ v L, o = .returned v ∧ Q7 Z a1 a2 a3 cs ua us h0 n0 v U'.heap L ∧ FrameEnd U o U' L ({ frames := 5, cells := 1, slots := 2752, locals := 68 } : Room).cells ({ frames := 5, cells := 1, slots := 2752, locals := 68 } : Room).slots) := by
  refine MetFree.of_bodySF (plainFor_of_name pn_7) hisR ?_
  intro p e s m args below meth c s₁ Bd hml0 hP hK
  obtain ⟨rfl, hZ, hh⟩ := hP
  have hx := Bd.exec
  have hby := Bd.bytes
  have hml : c.maxLocals = 3 := hml0
  have hown0 := findClass_of_methodNamed Bd.named
  have hown : s.vm.findClass "com/example/tranche/tranche/terms/Refusal" = some m.cls := hown0
  have hnm := (name_of_methodNamed Bd.named Bd.method).1
  have X0 : Stand p l e ({ frames := 5, cells := 1, slots := 2752, locals := 68 } : Room) s m #[(.ref a1), (.ref a2), (.ref a3)] below meth c s₁ [] 0 0 := Stand.of_body Bd
  have e0 : s₁.heap = h0 := by rw [← hh, Bd.state]; rfl
  have N0 := Fr.nil n0
  have pre0 : ∀ t, Steps p.tables e below (s₁.setTop (mkF m 0 #[.val (.ref a1), .val (.ref a2), .val (.ref a3)] [])) t → Steps p.tables e below (s₁.setTop (entryFrame m #[(.ref a1), (.ref a2), (.ref a3)] 3)) t := fun t k => castTop (ef_7 m a1 a2 a3) k
  refine Classical.byContradiction fun hneg => ?_
  obtain ⟨_, _, ⟨T1, L1, k1, n1⟩, -, X1, ⟨Lc1, hQ1, l1, y1, z1⟩, st1⟩ := X0.specialBack hx (y := (⟨"java/lang/Exception", "<init>", "(Ljava/lang/String;)V"⟩ : MethodName)) rfl hown (mvT hZ (hw _ (List.mem_of_getElem? (i := 39) rfl))) (mvT hZ (hw _ (List.mem_of_getElem? (i := 40) rfl))) (mvT hZ (hw _ (List.mem_of_getElem? (i := 43) rfl))) (by decide) (backOfKL (W := 0) (rm8 l Z a0 hw [] a1 a3 h0 n0 cs ua us CS hcs O0 hl SUA SUS Z0 g_a1 E_a1 U_a1 _ _ _ _ _ F_cause F_stackTrace F_suppressedExceptions F_detailMessage F_backtrace F_reason) hZ (hw _ (List.mem_of_getElem? (i := 43) rfl)) (hw _ (List.mem_of_getElem? (i := 42) rfl)) (by decide) (by decide) hK.1 hK.2) (g := (mkF m 2 #[.val (.ref a1), .val (.ref a2), .val (.ref a3)] [(.ref a3), (.ref a1)])) rfl (by rw [hml]; rfl) (Steps.refl _) (a := a1) (argsL := [(.ref a3)]) (rest := []) (lenOf pd1 rfl) rfl (by show 2 * 0 + _ ≤ _; exact Nat.le_of_eq rfl) (hb hby d7_2) (fun _ _ => ⟨rfl, e0, (by decide : 0 + 1 ≤ _), (by decide : 0 + 2752 ≤ _)⟩)
  dsimp only [Pt.U, Pt.locs, Pt.cells, Pt.slots] at X1 l1 y1 z1 st1 hQ1
  subst l1 y1 z1
  obtain ⟨rfl, N1q, Kc1, G1_0, G1_1, G1_2⟩ := hQ1
  have N1 := Fr.app N0 N1q
  have K1 : Keep h0 T1.heap [a1] := (Keep.refl h0 [a1]).trans Kc1 (allS (P := fun x => x ∈ [a1] ∨ h0.size ≤ x) (Or.inl (by simp)) all0)
  have Z1 : n0 ≤ T1.heap.size := Nat.le_trans Z0 Kc1.1
  have O1 := Old.keep O0 Kc1 (allS g_a1 all0)
  obtain ⟨T2, h2, X2, e2, W2, st2⟩ := putF X1 hx hZ hown (host := "") (Or.inl (hw _ (List.mem_of_getElem? (i := 87) rfl))) Via.refl rfl G1_2 G1_0 (Or.inr ⟨(hw _ (List.mem_of_getElem? (i := 88) rfl)), rfl, hnm⟩) (hw _ (List.mem_of_getElem? (i := 34) rfl)) (ty := (.object "java/lang/String")) (by decide) rfl rfl (g := (mkF m 7 #[.val (.ref a1), .val (.ref a2), .val (.ref a3)] [(.ref a2), (.ref a1)])) rfl rfl (hb hby d7_7)
  have E_a1_2 := G1_0.wr W2
  have F_a1_detailMessage_2 := G1_1.other W2 (Or.inr (slot_ne (Or.inl (hw _ (List.mem_of_getElem? (i := 82) rfl))) (Or.inr (hw _ (List.mem_of_getElem? (i := 88) rfl))) (by decide) (t := (.object "java/lang/String")) (t' := (.object "java/lang/String")) (by decide) (by decide)))
  have F_a1_reason_2 := G1_2.same W2
  have K2 : Keep h0 h2 [a1] := K1.wr W2 (Or.inl (by simp))
  have N2 := Fr.snoc X2 N1 g_a1
  have Z2 : n0 ≤ h2.size := Nat.le_trans Z1 (Keep.of_wr W2).1
  have O2 := Old.wr O1 W2 g_a1
  refine hneg ?_
  obtain ⟨fs, hr, hrun, hended, hW, hsame⟩ := X2.leave (v := none) (fun _ => rfl)
  refine ⟨_, _, pre0 _ ?_, hrun, hended, _, _, rfl, ?_, ⟨_, rfl⟩, hW, hsame.mono (by decide) (by decide)⟩
  · show Steps p.tables e below (s₁.setTop (mkF m 0 #[.val (.ref a1), .val (.ref a2), .val (.ref a3)] [])) _
    refine XS.aloadN X0.here hx rfl (hb hby d7_0) rfl rfl ?_
    show Steps p.tables e below (s₁.setTop (mkF m 1 #[.val (.ref a1), .val (.ref a2), .val (.ref a3)] [(.ref a1)])) _
    refine XS.aloadN X0.here hx rfl (hb hby d7_1) rfl rfl ?_
    show Steps p.tables e below (s₁.setTop (mkF m 2 #[.val (.ref a1), .val (.ref a2), .val (.ref a3)] [(.ref a3), (.ref a1)])) _
    refine st1.trans ?_
    show Steps p.tables e below (T1.setTop (mkF m 5 #[.val (.ref a1), .val (.ref a2), .val (.ref a3)] [])) _
    refine XS.aloadN X1.here hx rfl (hb hby d7_5) rfl rfl ?_
    show Steps p.tables e below (T1.setTop (mkF m 6 #[.val (.ref a1), .val (.ref a2), .val (.ref a3)] [(.ref a1)])) _
    refine XS.aloadN X1.here hx rfl (hb hby d7_6) rfl rfl ?_
    show Steps p.tables e below (T1.setTop (mkF m 7 #[.val (.ref a1), .val (.ref a2), .val (.ref a3)] [(.ref a2), (.ref a1)])) _
    refine st2 _ ?_
    show Steps p.tables e below (T2.setTop (mkF m 10 #[.val (.ref a1), .val (.ref a2), .val (.ref a3)] [])) _
    exact X2.returnOut hx Bd.returns (hb hby d7_10) hr
  · show Q7 Z a1 a2 a3 cs ua us h0 n0 _ T2.heap _
    rw [e2]
    exact ⟨rfl, N2, K2, E_a1_2, F_a1_detailMessage_2, F_a1_reason_2⟩

def litR : List Int32 := [114, 101, 102, 117, 115, 101, 100, 58, 32]
def litE : List Int32 := []
theorem sa_1 {Z : State} {a0 : Array Value} (hw : ∀ d ∈ tables_1, d.before a0 Z = true) : ∀ a ∈ Bundle.stringAtoms, a.before a0 Z = true := by
  intro a ha
  simp only [Bundle.stringAtoms, List.mem_cons, List.not_mem_nil, or_false] at ha
  rcases ha with rfl | rfl | rfl | rfl | rfl | rfl | rfl
  · exact (hw _ (List.mem_of_getElem? (i := 2) rfl))
  · exact (hw _ (List.mem_of_getElem? (i := 1) rfl))
  · exact (hw _ (List.mem_of_getElem? (i := 19) rfl))
  · exact (hw _ (List.mem_of_getElem? (i := 29) rfl))
  · exact (hw _ (List.mem_of_getElem? (i := 27) rfl))
  · exact (hw _ (List.mem_of_getElem? (i := 31) rfl))
  · exact (hw _ (List.mem_of_getElem? (i := 32) rfl))

theorem ew_1 {Z : State} {a0 : Array Value} (hw : ∀ d ∈ tables_1, d.before a0 Z = true) : EW Z a0 consts_1 :=
  EW.cons (hw _ (List.mem_of_getElem? (i := 112) rfl)) (by decide) (EW.cons (hw _ (List.mem_of_getElem? (i := 30) rfl)) (by decide) (EW.cons (hw _ (List.mem_of_getElem? (i := 278) rfl)) (by decide) EW.nil))
theorem cap2_or (L mn : Nat) : (mn ≤ L ∧ cap2 L mn = L) ∨ (L < mn ∧ cap2 L mn = max mn (2 * L + 2)) := by unfold cap2; split <;> omega
theorem litR_len : litR.length = 9 := rfl
theorem litE_len : litE.length = 0 := rfl
theorem d12_0 : decode prog_47_method_4_code 0 = .ok (.new 17, 3) := by decide +kernel
theorem d12_3 : decode prog_47_method_4_code 3 = .ok (.dup, 1) := by decide +kernel
theorem d12_4 : decode prog_47_method_4_code 4 = .ok (.invokespecial 19, 3) := by decide +kernel
theorem d12_7 : decode prog_47_method_4_code 7 = .ok (.ldc 50, 2) := by decide +kernel
theorem d12_9 : decode prog_47_method_4_code 9 = .ok (.invokevirtual 28, 3) := by decide +kernel
theorem d12_12 : decode prog_47_method_4_code 12 = .ok (.aload_n 0, 1) := by decide +kernel
theorem d12_13 : decode prog_47_method_4_code 13 = .ok (.getfield 7, 3) := by decide +kernel
theorem d12_16 : decode prog_47_method_4_code 16 = .ok (.invokevirtual 28, 3) := by decide +kernel
theorem d12_19 : decode prog_47_method_4_code 19 = .ok (.invokevirtual 40, 3) := by decide +kernel
theorem d12_22 : decode prog_47_method_4_code 22 = .ok (.aload_n 0, 1) := by decide +kernel
theorem d12_23 : decode prog_47_method_4_code 23 = .ok (.invokevirtual 36, 3) := by decide +kernel
theorem d12_26 : decode prog_47_method_4_code 26 = .ok (.invokestatic 52, 3) := by decide +kernel
theorem d12_29 : decode prog_47_method_4_code 29 = .ok (.areturn, 1) := by decide +kernel
theorem pn_12 : plainName "com/example/tranche/tranche/terms/Refusal" = true := by first | (simp [plainName, overriddenIn]; done) | decide +kernel
theorem ef_12 (m : MethodId) (a1 : Addr) : entryFrame m #[(.ref a1)] 1 = mkF m 0 #[.val (.ref a1)] [] := by first | (simp [entryFrame, mkF, argsToLocals, Value.category]; done) | rfl
def Q12 (Z : State) (a1 : Addr) (cs : Int32) (rs : Addr) (mg : Addr) (rd : Addr) (rk : ClassId) (rsrc : List Int32) (h0 : Heap) (n0 : Nat) (v : Option Value) (h : Heap) (L : List Loc) : Prop := ∃ (r' : Addr) (s' : Addr) (d' : Addr) (k' : ClassId) (bs' : List Int32), v = some (.ref r') ∧ Fr n0 L ∧ Keep h0 h [] ∧ Exa Z h r' "java/util/ImmutableCollections$List12" ∧ Fld Z h r' "java/util/ImmutableCollections$List12" "e0" "Ljava/lang/Object;" (.ref s') ∧ Fld Z h r' "java/util/ImmutableCollections$List12" "e1" "Ljava/lang/Object;" (.ref mg) ∧ Exa Z h s' "java/lang/String" ∧ Fld Z h s' "java/lang/String" "coder" "B" (.int 0) ∧ Fld Z h s' "java/lang/String" "value" "[B" (.ref d') ∧ B0 Z h d' k' bs' ∧ bs' = litR ++ rsrc ∧ h0.size ≤ r' ∧ h0.size ≤ s' ∧ h0.size ≤ d'
set_option maxRecDepth 65536 in
set_option maxHeartbeats 40000000 in
theorem rm12 (l : Launch) (Z : State) (a0 : Array Value) (hw : ∀ d ∈ tables_1, d.before a0 Z = true) (ws : List Jvm.Cond) (a1 : Addr) (h0 : Heap) (n0 : Nat) (cs : Int32) (rs : Addr) (mg : Addr) (rd : Addr) (rk : ClassId) (rsrc : List Int32) (CS : Sta Z Z.heap "java/lang/String" "COMPACT_STRINGS" "Z" (.int cs)) (hcs : ¬ cs = 0) (O0 : Old Z n0 h0) (E_a1 : Exa Z h0 a1 "com/example/tranche/tranche/terms/Refusal") (F_r : Fld Z h0 a1 "com/example/tranche/tranche/terms/Refusal" "reason" "Ljava/lang/String;" (.ref rs)) (F_m : Fld Z h0 a1 "java/lang/Throwable" "detailMessage" "Ljava/lang/String;" (.ref mg)) (E_mg : Exa Z h0 mg "java/lang/String") (E_rs : Exa Z h0 rs "java/lang/String") (F_rs_c : Fld Z h0 rs "java/lang/String" "coder" "B" (.int 0)) (F_rs_v : Fld Z h0 rs "java/lang/String" "value" "[B" (.ref rd)) (V_rd : B0 Z h0 rd rk rsrc) (lrs : rsrc.length ≤ 2) (Z0 : n0 ≤ h0.size) :
    MetFree l (⟨"com/example/tranche/tranche/terms/Refusal", "report", "()Ljava/util/List;"⟩ : MethodName) (head1 (Jvm.Cond.code (⟨"com/example/tranche/tranche/terms/Refusal", "report", "()Ljava/util/List;"⟩ : MethodName) prog_47_method_4_code 1 (some (.object "java/util/List")) :: ws) ({ frames := 6, cells := 7, slots := 208, locals := 123 } : Room)) (fun a U => a = #[(.ref a1)] ∧ Z.Warmed39 U.vm ∧ U.heap = h0 ∧ CHv Z consts_1 U.vm h0) (fun _ _ _ _ _ => True) (fun _ U o U' => ∃ v L, o = .returned v ∧ Q12 Z a1 cs rs mg rd rk rsrc h0 n0 v U'.heap L ∧ CHr Z consts_1 U.vm U.heap U'.vm U'.heap ∧ ReturnedEndW U o U' L ({ frames := 6, cells := 7, slots := 208, locals := 123 } : Room).cells ({ frames := 6, cells := 7, slots := 208, locals := 123 } : Room).slots) := by
  refine MetFree.of_bodySF (plainFor_of_name pn_12) hisR ?_
  intro p e s m args below meth c s₁ Bd hml0 hP hK
  obtain ⟨rfl, hZ, hh, hCH⟩ := hP
  have hx := Bd.exec
  have hby := Bd.bytes
  have hml : c.maxLocals = 1 := hml0
  have hown0 := findClass_of_methodNamed Bd.named
  have hown : s.vm.findClass "com/example/tranche/tranche/terms/Refusal" = some m.cls := hown0
  have hnm := (name_of_methodNamed Bd.named Bd.method).1
  have X0 : Stand p l e ({ frames := 6, cells := 7, slots := 208, locals := 123 } : Room) (s.setVm s.vm) m #[(.ref a1)] below meth c s₁ [] 0 0 := Stand.of_body Bd
  have hS : s.Since s.vm 0 := State.WarmedH.since (State.WarmedH.refl s) 0
  have hk0 : 0 ≤ h0.size := Nat.zero_le _
  have R0 : CHr Z consts_1 s.vm h0 s.vm h0 := CHr.refl hCH
  have hEL := ew_1 (Z := Z) (a0 := a0) hw
  have wS := sa_1 (Z := Z) (a0 := a0) hw
  have e0 : s₁.heap = h0 := by rw [← hh, Bd.state]; rfl
  have N0 := Fr.nil n0
  have pre0 : ∀ t, Steps p.tables e below (s₁.setTop (mkF m 0 #[.val (.ref a1)] [])) t → Steps p.tables e below (s₁.setTop (entryFrame m #[(.ref a1)] 1)) t := fun t k => castTop (ef_12 m a1) k
  refine Classical.byContradiction fun hneg => ?_
  obtain ⟨T1, h1, X1, e1, E1, A1, D1, U1, st1⟩ := newO X0 hx hZ hown (hw _ (List.mem_of_getElem? (i := 94) rfl)) (hw _ (List.mem_of_getElem? (i := 95) rfl)) (hw _ (List.mem_of_getElem? (i := 96) rfl)) e0 (g := (mkF m 0 #[.val (.ref a1)] [])) rfl (hb hby d12_0) (by decide) (by decide)
  obtain ⟨b1, g1⟩ : ∃ z, z = h0.size := ⟨_, rfl⟩
  rw [← g1] at A1 D1 U1 st1
  have ne_a1_b1 : a1 ≠ b1 := Nat.ne_of_lt (Nat.lt_of_lt_of_le E_a1.lt (Nat.le_of_eq g1.symm))
  have ne_mg_b1 : mg ≠ b1 := Nat.ne_of_lt (Nat.lt_of_lt_of_le E_mg.lt (Nat.le_of_eq g1.symm))
  have ne_rs_b1 : rs ≠ b1 := Nat.ne_of_lt (Nat.lt_of_lt_of_le E_rs.lt (Nat.le_of_eq g1.symm))
  have ne_rd_b1 : rd ≠ b1 := Nat.ne_of_lt (Nat.lt_of_lt_of_le V_rd.lt (Nat.le_of_eq g1.symm))
  have g_b1 : n0 ≤ b1 := Nat.le_trans Z0 (Nat.le_of_eq g1.symm)
  have sz_b1 : h0.size ≤ b1 := Nat.le_trans (Keep.refl h0 []).1 (Nat.le_of_eq g1.symm)
  have E_a1_1 := E_a1.ext E1
  have F_a1_reason_1 := F_r.ext E1
  have F_a1_detailMessage_1 := F_m.ext E1
  have E_mg_1 := E_mg.ext E1
  have E_rs_1 := E_rs.ext E1
  have F_rs_coder_1 := F_rs_c.ext E1
  have F_rs_value_1 := F_rs_v.ext E1
  have V_rd_1 := V_rd.ext E1
  have K1 : Keep h0 h1 [] := (Keep.refl h0 []).ext E1
  have Z1 : n0 ≤ h1.size := Nat.le_trans Z0 E1.1
  have O1 := Old.ext O0 E1
  have r1 := CHr.ext E1 R0.1
  have R1 := R0.trans r1
  have hk1 := Nat.le_trans hk0 E1.1
  have F_value_b1 : Fld Z h1 b1 "java/lang/AbstractStringBuilder" "value" "[B" .null := D1 (Or.inl (hw _ (List.mem_of_getElem? (i := 109) rfl))) (ty := (.array .byte)) (by decide)
  have F_coder_b1 : Fld Z h1 b1 "java/lang/AbstractStringBuilder" "coder" "B" (.int (0 : Int32)) := D1 (Or.inl (hw _ (List.mem_of_getElem? (i := 111) rfl))) (ty := .byte) (by decide)
  have F_count_b1 : Fld Z h1 b1 "java/lang/AbstractStringBuilder" "count" "I" (.int (0 : Int32)) := D1 (Or.inl (hw _ (List.mem_of_getElem? (i := 134) rfl))) (ty := .int) (by decide)
  obtain ⟨_, _, ⟨T2, L2, k2, n2⟩, -, X2, ⟨Lc2, hQ2, l2, y2, z2⟩, st2⟩ := X1.specialBack hx (y := (⟨"java/lang/StringBuilder", "<init>", "()V"⟩ : MethodName)) rfl hown (mvT hZ (hw _ (List.mem_of_getElem? (i := 97) rfl))) (mvT hZ (hw _ (List.mem_of_getElem? (i := 98) rfl))) (mvT hZ (hw _ (List.mem_of_getElem? (i := 99) rfl))) (by decide) (backOf (W := 1) (rm13 l Z a0 hw [] b1  h1 n0 cs CS hcs O1 _ _ Z1 g_b1 A1 F_value_b1 F_coder_b1 F_count_b1) hZ (hw _ (List.mem_of_getElem? (i := 99) rfl)) (hw _ (List.mem_of_getElem? (i := 96) rfl)) (by decide) (by decide)) (g := (mkF m 4 #[.val (.ref a1)] [(.ref b1), (.ref b1)])) rfl (by rw [hml]; rfl) (Steps.refl _) (a := b1) (argsL := []) (rest := [(.ref b1)]) (lenOf pd14 rfl) rfl (by show 2 * 0 + _ ≤ _; exact Nat.le_of_eq rfl) (hb hby d12_4) (fun _ _ => ⟨rfl, e1, (by decide : 1 + 1 ≤ _), (by decide : 4 + 16 ≤ _)⟩)
  dsimp only [Pt.U, Pt.locs, Pt.cells, Pt.slots] at X2 l2 y2 z2 st2 hQ2
  subst l2 y2 z2
  obtain ⟨d'_2, k'_2, bs'_2, rfl, N2q, Kc2, G2_0, G2_1, G2_2, G2_3, G2_4, rep_2, f_d'_2⟩ := hQ2
  have N2 := Fr.app N0 N2q
  have ne_a1_d'_2 : a1 ≠ d'_2 := Nat.ne_of_lt (Nat.lt_of_lt_of_le E_a1_1.lt f_d'_2)
  have ne_mg_d'_2 : mg ≠ d'_2 := Nat.ne_of_lt (Nat.lt_of_lt_of_le E_mg_1.lt f_d'_2)
  have ne_rs_d'_2 : rs ≠ d'_2 := Nat.ne_of_lt (Nat.lt_of_lt_of_le E_rs_1.lt f_d'_2)
  have ne_rd_d'_2 : rd ≠ d'_2 := Nat.ne_of_lt (Nat.lt_of_lt_of_le V_rd_1.lt f_d'_2)
  have ne_b1_d'_2 : b1 ≠ d'_2 := Nat.ne_of_lt (Nat.lt_of_lt_of_le A1.lt f_d'_2)
  have g_d'_2 : n0 ≤ d'_2 := Nat.le_trans Z1 f_d'_2
  have sz_d'_2 : h0.size ≤ d'_2 := Nat.le_trans K1.1 f_d'_2
  have S0_d'_2 : Safe Z consts_1 s.vm h1 d'_2 := Safe.new f_d'_2
  have E_a1_2 := E_a1_1.keep Kc2
  have F_a1_reason_2 := F_a1_reason_1.keep Kc2 (ninS ne_a1_b1 nin0)
  have F_a1_detailMessage_2 := F_a1_detailMessage_1.keep Kc2 (ninS ne_a1_b1 nin0)
  have E_mg_2 := E_mg_1.keep Kc2
  have E_rs_2 := E_rs_1.keep Kc2
  have F_rs_coder_2 := F_rs_coder_1.keep Kc2 (ninS ne_rs_b1 nin0)
  have F_rs_value_2 := F_rs_value_1.keep Kc2 (ninS ne_rs_b1 nin0)
  have V_rd_2 := V_rd_1.keep Kc2 (ninS ne_rd_b1 nin0)
  have K2 : Keep h0 T2.heap [] := K1.trans Kc2 (allS (P := fun x => x ∈ ([] : List Addr) ∨ h0.size ≤ x) (Or.inr sz_b1) all0)
  have Z2 : n0 ≤ T2.heap.size := Nat.le_trans Z1 Kc2.1
  have O2 := Old.keep O1 Kc2 (allS g_b1 all0)
  have hs2 : ∀ x ∈ ([b1] : List Addr), Safe Z consts_1 s.vm h1 x := (sfS (Safe.exa hZ.alike A1 (by decide) (by decide)) sf0)
  have r2 := CHr.keep Kc2 hs2 R1.1
  have S2_d'_2 := Safe.keep Kc2 hs2 R1.1 S0_d'_2
  have R2 := R1.trans r2
  have hk2 := Nat.le_trans hk1 Kc2.1
  have rl : bs'_2.length = 16 := by rw [rep_2]; rfl
  have lR := litR_len
  have pre4 : ∀ t, Steps p.tables e below (T2.setTop (mkF m 7 #[.val (.ref a1)] [(.ref b1)])) t → Steps p.tables e below (s₁.setTop (entryFrame m #[(.ref a1)] 1)) t := by
    intro t k
    refine pre0 t ?_
    show Steps p.tables e below (s₁.setTop (mkF m 0 #[.val (.ref a1)] [])) _
    refine st1 _ ?_
    show Steps p.tables e below (T1.setTop (mkF m 3 #[.val (.ref a1)] [(.ref b1)])) _
    refine XS.dup X1.here hx rfl (hb hby d12_3) rfl rfl ?_
    show Steps p.tables e below (T1.setTop (mkF m 4 #[.val (.ref a1)] [(.ref b1), (.ref b1)])) _
    refine st2.trans ?_
    exact k
  obtain ⟨la3, T3, h3, kk3, lb3, lk3, X3, e3, E3, hS, hk3, hZ, hown, Le3, Lc3, Lv3, La3, -, -, r3, -, hne3, st3⟩ := ldcCH X2 hx hZ hown (hw _ (List.mem_of_getElem? (i := 112) rfl)) wS rfl hS hk2 hEL (List.mem_of_getElem? (i := 0) rfl) R2.1 (vs := litR.map Value.int) (z := Int32.ofNat litR.length) (by decide) (by decide) (by decide) (g := (mkF m 7 #[.val (.ref a1)] [(.ref b1)])) rfl (hb hby d12_7) (n := 36) (by decide) (by decide) (by decide) (by decide)
  have E_a1_3 := E_a1_2.ext E3
  have F_a1_reason_3 := F_a1_reason_2.ext E3
  have F_a1_detailMessage_3 := F_a1_detailMessage_2.ext E3
  have E_mg_3 := E_mg_2.ext E3
  have E_rs_3 := E_rs_2.ext E3
  have F_rs_coder_3 := F_rs_coder_2.ext E3
  have F_rs_value_3 := F_rs_value_2.ext E3
  have V_rd_3 := V_rd_2.ext E3
  have E_b1_3 := G2_0.ext E3
  have F_b1_value_3 := G2_1.ext E3
  have F_b1_coder_3 := G2_2.ext E3
  have F_b1_count_3 := G2_3.ext E3
  have V_d__2_3 := G2_4.ext E3
  have S3_d'_2 := r3.safe G2_4.lt S2_d'_2
  have R3 := R2.trans r3
  have K3 : Keep h0 h3 [] := K2.ext E3
  have Z3 : n0 ≤ h3.size := Nat.le_trans Z2 E3.1
  have O3 := Old.ext O2 E3
  have LV3 : B0 Z h3 lb3 lk3 litR := ⟨La3, by decide, trivial⟩
  obtain ⟨cq5, kq5, q5a, q5b, q5c⟩ := isOf hZ e3 E_b1_3
  obtain ⟨_, _, ⟨T5, L5, k5, n5⟩, -, X5, ⟨Lc5, hQ5, l5, y5, z5⟩, st5⟩ := X3.virtualBack hx (y := (⟨"java/lang/StringBuilder", "append", "(Ljava/lang/String;)Ljava/lang/StringBuilder;"⟩ : MethodName)) (z := (⟨"java/lang/StringBuilder", "append", "(Ljava/lang/String;)Ljava/lang/StringBuilder;"⟩ : MethodName)) hown (mvT hZ (hw _ (List.mem_of_getElem? (i := 113) rfl))) (mvT hZ (hw _ (List.mem_of_getElem? (i := 114) rfl))) (notFace_of_selects (args := #[]) (mvT hZ (hw _ (List.mem_of_getElem? (i := 116) rfl)))) (mvT hZ (hw _ (List.mem_of_getElem? (i := 116) rfl))) (mvT hZ (hw _ (List.mem_of_getElem? (i := 115) rfl))) (by decide) (backOf (W := 0) (rm15 l Z a0 hw [] b1 la3  h3 n0 cs d'_2 k'_2 bs'_2 0 lb3 lk3 litR CS hcs O3 E_b1_3 F_b1_value_3 F_b1_coder_3 F_b1_count_3 V_d__2_3 Le3 Lc3 Lv3 LV3 (by omega) (by omega) (by omega) g_b1 g_d'_2 Z3 (Ne.symm (hne3 _ S3_d'_2).2)) hZ (hw _ (List.mem_of_getElem? (i := 117) rfl)) (hw _ (List.mem_of_getElem? (i := 96) rfl)) (by decide) (by decide)) q5a q5c (g := (mkF m 9 #[.val (.ref a1)] [(.ref la3), (.ref b1)])) rfl (by rw [hml]; rfl) (Steps.refl _) (argsL := [(.ref la3)]) (rest := []) (lenOf pd18 rfl) rfl (by show 2 * 0 + _ ≤ _; exact Nat.le_of_eq rfl) (hb hby d12_9) (fun _ _ => ⟨rfl, e3, (by decide : 4 + 0 ≤ _), (by decide : 60 + 0 ≤ _)⟩)
  dsimp only [Pt.U, Pt.locs, Pt.cells, Pt.slots] at X5 l5 y5 z5 st5 hQ5
  subst l5 y5 z5
  obtain ⟨d'_5, k'_5, bs'_5, rfl, N5q, Kc5, G5_0, G5_1, G5_2, G5_3, G5_4, len_5, tk_5, mb_5⟩ := hQ5
  have N5 := Fr.app N2 N5q
  have ne_a1_d'_5 : a1 ≠ d'_5 := mb_5.elim (fun q => by rw [q]; exact ne_a1_d'_2) (fun q => Nat.ne_of_lt (Nat.lt_of_lt_of_le E_a1_3.lt q))
  have ne_mg_d'_5 : mg ≠ d'_5 := mb_5.elim (fun q => by rw [q]; exact ne_mg_d'_2) (fun q => Nat.ne_of_lt (Nat.lt_of_lt_of_le E_mg_3.lt q))
  have ne_rs_d'_5 : rs ≠ d'_5 := mb_5.elim (fun q => by rw [q]; exact ne_rs_d'_2) (fun q => Nat.ne_of_lt (Nat.lt_of_lt_of_le E_rs_3.lt q))
  have ne_rd_d'_5 : rd ≠ d'_5 := mb_5.elim (fun q => by rw [q]; exact ne_rd_d'_2) (fun q => Nat.ne_of_lt (Nat.lt_of_lt_of_le V_rd_3.lt q))
  have ne_b1_d'_5 : b1 ≠ d'_5 := mb_5.elim (fun q => by rw [q]; exact ne_b1_d'_2) (fun q => Nat.ne_of_lt (Nat.lt_of_lt_of_le E_b1_3.lt q))
  have ne_la3_d'_5 : la3 ≠ d'_5 := mb_5.elim (fun q => by rw [q]; exact (Exa.neArv Le3 V_d__2_3.1 (hw _ (List.mem_of_getElem? (i := 1) rfl)))) (fun q => Nat.ne_of_lt (Nat.lt_of_lt_of_le Le3.lt q))
  have ne_lb3_d'_5 : lb3 ≠ d'_5 := mb_5.elim (fun q => by rw [q]; exact (Ne.symm (hne3 _ S3_d'_2).2)) (fun q => Nat.ne_of_lt (Nat.lt_of_lt_of_le LV3.lt q))
  have g_d'_5 : n0 ≤ d'_5 := mb_5.elim (fun q => by rw [q]; exact g_d'_2) (fun q => Nat.le_trans Z3 q)
  have wk_d'_5 : d'_5 ∈ [] ∨ h0.size ≤ d'_5 := mb_5.elim (fun q => by rw [q]; exact (Or.inr sz_d'_2)) (fun q => Or.inr (Nat.le_trans K3.1 q))
  have S0_d'_5 : Safe Z consts_1 T3.vm h3 d'_5 := mb_5.elim (fun q => by rw [q]; exact S3_d'_2) (fun q => Safe.new q)
  have E_a1_5 := E_a1_3.keep Kc5
  have F_a1_reason_5 := F_a1_reason_3.keep Kc5 (ninS ne_a1_b1 (ninS ne_a1_d'_2 nin0))
  have F_a1_detailMessage_5 := F_a1_detailMessage_3.keep Kc5 (ninS ne_a1_b1 (ninS ne_a1_d'_2 nin0))
  have E_mg_5 := E_mg_3.keep Kc5
  have E_rs_5 := E_rs_3.keep Kc5
  have F_rs_coder_5 := F_rs_coder_3.keep Kc5 (ninS ne_rs_b1 (ninS ne_rs_d'_2 nin0))
  have F_rs_value_5 := F_rs_value_3.keep Kc5 (ninS ne_rs_b1 (ninS ne_rs_d'_2 nin0))
  have V_rd_5 := V_rd_3.keep Kc5 (ninS ne_rd_b1 (ninS ne_rd_d'_2 nin0))
  have E_la3_5 := Le3.keep Kc5
  have F_la3_coder_5 := Lc3.keep Kc5 (ninS (Exa.ne Le3 E_b1_3 (by decide)) (ninS (Exa.neArv Le3 V_d__2_3.1 (hw _ (List.mem_of_getElem? (i := 1) rfl))) nin0))
  have F_la3_value_5 := Lv3.keep Kc5 (ninS (Exa.ne Le3 E_b1_3 (by decide)) (ninS (Exa.neArv Le3 V_d__2_3.1 (hw _ (List.mem_of_getElem? (i := 1) rfl))) nin0))
  have V_lb3_5 := LV3.keep Kc5 (ninS (Ne.symm (Exa.neArv E_b1_3 LV3.1 (hw _ (List.mem_of_getElem? (i := 95) rfl)))) (ninS (Ne.symm (hne3 _ S3_d'_2).2) nin0))
  have K5 : Keep h0 T5.heap [] := K3.trans Kc5 (allS (P := fun x => x ∈ ([] : List Addr) ∨ h0.size ≤ x) (Or.inr sz_b1) (allS (P := fun x => x ∈ ([] : List Addr) ∨ h0.size ≤ x) (Or.inr sz_d'_2) all0))
  have Z5 : n0 ≤ T5.heap.size := Nat.le_trans Z3 Kc5.1
  have O5 := Old.keep O3 Kc5 (allS g_b1 (allS g_d'_2 all0))
  have hs5 : ∀ x ∈ ([b1, d'_2] : List Addr), Safe Z consts_1 T3.vm h3 x := (sfS (Safe.exa hZ.alike E_b1_3 (by decide) (by decide)) (sfS S3_d'_2 sf0))
  have r5 := CHr.keep Kc5 hs5 R3.1
  have S5_d'_2 := Safe.keep Kc5 hs5 R3.1 S3_d'_2
  have S5_d'_5 := Safe.keep Kc5 hs5 R3.1 S0_d'_5
  have R5 := R3.trans r5
  have hk5 := Nat.le_trans hk3 Kc5.1
  have cq5 := cap2_or bs'_2.length (0 + litR.length)
  rw [← len_5] at cq5
  obtain ⟨T6, X6, e6, st6⟩ := getF X5 hx hZ hown (host := "") (Or.inl (hw _ (List.mem_of_getElem? (i := 87) rfl))) Via.refl rfl F_a1_reason_5 (g := (mkF m 13 #[.val (.ref a1)] [(.ref a1), (.ref b1)])) rfl rfl (hb hby d12_13)
  obtain ⟨cq7, kq7, q7a, q7b, q7c⟩ := isOf hZ e6 G5_0
  obtain ⟨_, _, ⟨T7, L7, k7, n7⟩, -, X7, ⟨Lc7, hQ7, l7, y7, z7⟩, st7⟩ := X6.virtualBack hx (y := (⟨"java/lang/StringBuilder", "append", "(Ljava/lang/String;)Ljava/lang/StringBuilder;"⟩ : MethodName)) (z := (⟨"java/lang/StringBuilder", "append", "(Ljava/lang/String;)Ljava/lang/StringBuilder;"⟩ : MethodName)) hown (mvT hZ (hw _ (List.mem_of_getElem? (i := 113) rfl))) (mvT hZ (hw _ (List.mem_of_getElem? (i := 114) rfl))) (notFace_of_selects (args := #[]) (mvT hZ (hw _ (List.mem_of_getElem? (i := 116) rfl)))) (mvT hZ (hw _ (List.mem_of_getElem? (i := 116) rfl))) (mvT hZ (hw _ (List.mem_of_getElem? (i := 115) rfl))) (by decide) (backOf (W := 0) (rm15 l Z a0 hw [] b1 rs  T5.heap n0 cs d'_5 k'_5 bs'_5 (0 + litR.length) rd rk rsrc CS hcs O5 G5_0 G5_1 G5_2 G5_3 G5_4 E_rs_5 F_rs_coder_5 F_rs_value_5 V_rd_5 (by omega) (by omega) (by omega) g_b1 g_d'_5 Z5 ne_rd_d'_5) hZ (hw _ (List.mem_of_getElem? (i := 117) rfl)) (hw _ (List.mem_of_getElem? (i := 96) rfl)) (by decide) (by decide)) q7a q7c (g := (mkF m 16 #[.val (.ref a1)] [(.ref rs), (.ref b1)])) rfl (by rw [hml]; rfl) (Steps.refl _) (argsL := [(.ref rs)]) (rest := []) (lenOf pd18 rfl) rfl (by show 2 * 0 + _ ≤ _; exact Nat.le_of_eq rfl) (hb hby d12_16) (fun _ _ => ⟨rfl, e6, (by decide : 4 + 0 ≤ _), (by decide : 60 + 0 ≤ _)⟩)
  dsimp only [Pt.U, Pt.locs, Pt.cells, Pt.slots] at X7 l7 y7 z7 st7 hQ7
  subst l7 y7 z7
  obtain ⟨d'_7, k'_7, bs'_7, rfl, N7q, Kc7, G7_0, G7_1, G7_2, G7_3, G7_4, len_7, tk_7, mb_7⟩ := hQ7
  have N7 := Fr.app N5 N7q
  have ne_a1_d'_7 : a1 ≠ d'_7 := mb_7.elim (fun q => by rw [q]; exact ne_a1_d'_5) (fun q => Nat.ne_of_lt (Nat.lt_of_lt_of_le E_a1_5.lt q))
  have ne_mg_d'_7 : mg ≠ d'_7 := mb_7.elim (fun q => by rw [q]; exact ne_mg_d'_5) (fun q => Nat.ne_of_lt (Nat.lt_of_lt_of_le E_mg_5.lt q))
  have ne_rs_d'_7 : rs ≠ d'_7 := mb_7.elim (fun q => by rw [q]; exact ne_rs_d'_5) (fun q => Nat.ne_of_lt (Nat.lt_of_lt_of_le E_rs_5.lt q))
  have ne_rd_d'_7 : rd ≠ d'_7 := mb_7.elim (fun q => by rw [q]; exact ne_rd_d'_5) (fun q => Nat.ne_of_lt (Nat.lt_of_lt_of_le V_rd_5.lt q))
  have ne_b1_d'_7 : b1 ≠ d'_7 := mb_7.elim (fun q => by rw [q]; exact ne_b1_d'_5) (fun q => Nat.ne_of_lt (Nat.lt_of_lt_of_le G5_0.lt q))
  have ne_la3_d'_7 : la3 ≠ d'_7 := mb_7.elim (fun q => by rw [q]; exact ne_la3_d'_5) (fun q => Nat.ne_of_lt (Nat.lt_of_lt_of_le E_la3_5.lt q))
  have ne_lb3_d'_7 : lb3 ≠ d'_7 := mb_7.elim (fun q => by rw [q]; exact ne_lb3_d'_5) (fun q => Nat.ne_of_lt (Nat.lt_of_lt_of_le V_lb3_5.lt q))
  have g_d'_7 : n0 ≤ d'_7 := mb_7.elim (fun q => by rw [q]; exact g_d'_5) (fun q => Nat.le_trans Z5 q)
  have wk_d'_7 : d'_7 ∈ [] ∨ h0.size ≤ d'_7 := mb_7.elim (fun q => by rw [q]; exact wk_d'_5) (fun q => Or.inr (Nat.le_trans K5.1 q))
  have S0_d'_7 : Safe Z consts_1 T3.vm T5.heap d'_7 := mb_7.elim (fun q => by rw [q]; exact S5_d'_5) (fun q => Safe.new q)
  have E_a1_7 := E_a1_5.keep Kc7
  have F_a1_reason_7 := F_a1_reason_5.keep Kc7 (ninS ne_a1_b1 (ninS ne_a1_d'_5 nin0))
  have F_a1_detailMessage_7 := F_a1_detailMessage_5.keep Kc7 (ninS ne_a1_b1 (ninS ne_a1_d'_5 nin0))
  have E_mg_7 := E_mg_5.keep Kc7
  have E_rs_7 := E_rs_5.keep Kc7
  have F_rs_coder_7 := F_rs_coder_5.keep Kc7 (ninS ne_rs_b1 (ninS ne_rs_d'_5 nin0))
  have F_rs_value_7 := F_rs_value_5.keep Kc7 (ninS ne_rs_b1 (ninS ne_rs_d'_5 nin0))
  have V_rd_7 := V_rd_5.keep Kc7 (ninS ne_rd_b1 (ninS ne_rd_d'_5 nin0))
  have E_la3_7 := E_la3_5.keep Kc7
  have F_la3_coder_7 := F_la3_coder_5.keep Kc7 (ninS (Exa.ne E_la3_5 G5_0 (by decide)) (ninS ne_la3_d'_5 nin0))
  have F_la3_value_7 := F_la3_value_5.keep Kc7 (ninS (Exa.ne E_la3_5 G5_0 (by decide)) (ninS ne_la3_d'_5 nin0))
  have V_lb3_7 := V_lb3_5.keep Kc7 (ninS (Ne.symm (Exa.neArv G5_0 V_lb3_5.1 (hw _ (List.mem_of_getElem? (i := 95) rfl)))) (ninS ne_lb3_d'_5 nin0))
  have K7 : Keep h0 T7.heap [] := K5.trans Kc7 (allS (P := fun x => x ∈ ([] : List Addr) ∨ h0.size ≤ x) (Or.inr sz_b1) (allS (P := fun x => x ∈ ([] : List Addr) ∨ h0.size ≤ x) wk_d'_5 all0))
  have Z7 : n0 ≤ T7.heap.size := Nat.le_trans Z5 Kc7.1
  have O7 := Old.keep O5 Kc7 (allS g_b1 (allS g_d'_5 all0))
  have hs7 : ∀ x ∈ ([b1, d'_5] : List Addr), Safe Z consts_1 T3.vm T5.heap x := (sfS (Safe.exa hZ.alike G5_0 (by decide) (by decide)) (sfS S5_d'_5 sf0))
  have r7 := CHr.keep Kc7 hs7 R5.1
  have S7_d'_5 := Safe.keep Kc7 hs7 R5.1 S5_d'_5
  have S7_d'_7 := Safe.keep Kc7 hs7 R5.1 S0_d'_7
  have R7 := R5.trans r7
  have hk7 := Nat.le_trans hk5 Kc7.1
  have cq7 := cap2_or bs'_5.length ((0 + litR.length) + rsrc.length)
  rw [← len_7] at cq7
  obtain ⟨cq8, kq8, q8a, q8b, q8c⟩ := isOf hZ rfl G7_0
  obtain ⟨_, _, ⟨T8, L8, k8, n8⟩, -, X8, ⟨Lc8, hQ8, l8, y8, z8⟩, st8⟩ := X7.virtualBack hx (y := (⟨"java/lang/StringBuilder", "toString", "()Ljava/lang/String;"⟩ : MethodName)) (z := (⟨"java/lang/StringBuilder", "toString", "()Ljava/lang/String;"⟩ : MethodName)) hown (mvT hZ (hw _ (List.mem_of_getElem? (i := 160) rfl))) (mvT hZ (hw _ (List.mem_of_getElem? (i := 161) rfl))) (notFace_of_selects (args := #[]) (mvT hZ (hw _ (List.mem_of_getElem? (i := 163) rfl)))) (mvT hZ (hw _ (List.mem_of_getElem? (i := 163) rfl))) (mvT hZ (hw _ (List.mem_of_getElem? (i := 162) rfl))) (by decide) (backOf (W := 0) (rm23 l Z a0 hw [] b1  T7.heap n0 cs d'_7 k'_7 bs'_7 ((0 + litR.length) + rsrc.length) CS hcs O7 G7_0 G7_1 G7_2 G7_3 G7_4 (by omega) (by omega) Z7) hZ (hw _ (List.mem_of_getElem? (i := 164) rfl)) (hw _ (List.mem_of_getElem? (i := 96) rfl)) (by decide) (by decide)) q8a q8c (g := (mkF m 19 #[.val (.ref a1)] [(.ref b1)])) rfl (by rw [hml]; rfl) (Steps.refl _) (argsL := []) (rest := []) (lenOf pd19 rfl) rfl (by show 2 * 0 + _ ≤ _; exact Nat.le_of_eq rfl) (hb hby d12_19) (fun _ _ => ⟨rfl, rfl, (by decide : 4 + 2 ≤ _), (by decide : 60 + 146 ≤ _)⟩)
  dsimp only [Pt.U, Pt.locs, Pt.cells, Pt.slots] at X8 l8 y8 z8 st8 hQ8
  subst l8 y8 z8
  obtain ⟨s'_8, d'_8, k'_8, bs'_8, rfl, N8q, Kc8, G8_0, G8_1, G8_2, G8_3, eqb_8, f_s'_8, f_d'_8⟩ := hQ8
  have N8 := Fr.app N7 N8q
  have ne_a1_s'_8 : a1 ≠ s'_8 := Nat.ne_of_lt (Nat.lt_of_lt_of_le E_a1_7.lt f_s'_8)
  have ne_mg_s'_8 : mg ≠ s'_8 := Nat.ne_of_lt (Nat.lt_of_lt_of_le E_mg_7.lt f_s'_8)
  have ne_rs_s'_8 : rs ≠ s'_8 := Nat.ne_of_lt (Nat.lt_of_lt_of_le E_rs_7.lt f_s'_8)
  have ne_rd_s'_8 : rd ≠ s'_8 := Nat.ne_of_lt (Nat.lt_of_lt_of_le V_rd_7.lt f_s'_8)
  have ne_b1_s'_8 : b1 ≠ s'_8 := Nat.ne_of_lt (Nat.lt_of_lt_of_le G7_0.lt f_s'_8)
  have ne_la3_s'_8 : la3 ≠ s'_8 := Nat.ne_of_lt (Nat.lt_of_lt_of_le E_la3_7.lt f_s'_8)
  have ne_lb3_s'_8 : lb3 ≠ s'_8 := Nat.ne_of_lt (Nat.lt_of_lt_of_le V_lb3_7.lt f_s'_8)
  have ne_d__7_s'_8 : d'_7 ≠ s'_8 := Nat.ne_of_lt (Nat.lt_of_lt_of_le G7_4.lt f_s'_8)
  have g_s'_8 : n0 ≤ s'_8 := Nat.le_trans Z7 f_s'_8
  have sz_s'_8 : h0.size ≤ s'_8 := Nat.le_trans K7.1 f_s'_8
  have ne_a1_d'_8 : a1 ≠ d'_8 := Nat.ne_of_lt (Nat.lt_of_lt_of_le E_a1_7.lt f_d'_8)
  have ne_mg_d'_8 : mg ≠ d'_8 := Nat.ne_of_lt (Nat.lt_of_lt_of_le E_mg_7.lt f_d'_8)
  have ne_rs_d'_8 : rs ≠ d'_8 := Nat.ne_of_lt (Nat.lt_of_lt_of_le E_rs_7.lt f_d'_8)
  have ne_rd_d'_8 : rd ≠ d'_8 := Nat.ne_of_lt (Nat.lt_of_lt_of_le V_rd_7.lt f_d'_8)
  have ne_b1_d'_8 : b1 ≠ d'_8 := Nat.ne_of_lt (Nat.lt_of_lt_of_le G7_0.lt f_d'_8)
  have ne_la3_d'_8 : la3 ≠ d'_8 := Nat.ne_of_lt (Nat.lt_of_lt_of_le E_la3_7.lt f_d'_8)
  have ne_lb3_d'_8 : lb3 ≠ d'_8 := Nat.ne_of_lt (Nat.lt_of_lt_of_le V_lb3_7.lt f_d'_8)
  have ne_d__7_d'_8 : d'_7 ≠ d'_8 := Nat.ne_of_lt (Nat.lt_of_lt_of_le G7_4.lt f_d'_8)
  have g_d'_8 : n0 ≤ d'_8 := Nat.le_trans Z7 f_d'_8
  have sz_d'_8 : h0.size ≤ d'_8 := Nat.le_trans K7.1 f_d'_8
  have S0_s'_8 : Safe Z consts_1 T3.vm T7.heap s'_8 := Safe.new f_s'_8
  have S0_d'_8 : Safe Z consts_1 T3.vm T7.heap d'_8 := Safe.new f_d'_8
  have E_a1_8 := E_a1_7.keep Kc8
  have F_a1_reason_8 := F_a1_reason_7.keep Kc8 nin0
  have F_a1_detailMessage_8 := F_a1_detailMessage_7.keep Kc8 nin0
  have E_mg_8 := E_mg_7.keep Kc8
  have E_rs_8 := E_rs_7.keep Kc8
  have F_rs_coder_8 := F_rs_coder_7.keep Kc8 nin0
  have F_rs_value_8 := F_rs_value_7.keep Kc8 nin0
  have V_rd_8 := V_rd_7.keep Kc8 nin0
  have E_b1_8 := G7_0.keep Kc8
  have F_b1_value_8 := G7_1.keep Kc8 nin0
  have F_b1_coder_8 := G7_2.keep Kc8 nin0
  have F_b1_count_8 := G7_3.keep Kc8 nin0
  have E_la3_8 := E_la3_7.keep Kc8
  have F_la3_coder_8 := F_la3_coder_7.keep Kc8 nin0
  have F_la3_value_8 := F_la3_value_7.keep Kc8 nin0
  have V_lb3_8 := V_lb3_7.keep Kc8 nin0
  have V_d__7_8 := G7_4.keep Kc8 nin0
  have K8 : Keep h0 T8.heap [] := K7.trans Kc8 all0
  have Z8 : n0 ≤ T8.heap.size := Nat.le_trans Z7 Kc8.1
  have O8 := Old.keep O7 Kc8 all0
  have hs8 : ∀ x ∈ ([] : List Addr), Safe Z consts_1 T3.vm T7.heap x := sf0
  have r8 := CHr.keep Kc8 hs8 R7.1
  have S8_d'_7 := Safe.keep Kc8 hs8 R7.1 S7_d'_7
  have S8_s'_8 := Safe.keep Kc8 hs8 R7.1 S0_s'_8
  have S8_d'_8 := Safe.keep Kc8 hs8 R7.1 S0_d'_8
  have R8 := R7.trans r8
  have hk8 := Nat.le_trans hk7 Kc8.1
  obtain ⟨cq9, kq9, q9a, q9b, q9c⟩ := isOf hZ rfl E_a1_8
  obtain ⟨_, _, ⟨T9, L9, k9, n9⟩, -, X9, ⟨Lc9, hQ9, l9, y9, z9⟩, st9⟩ := X8.virtualBackUp hx (x := (⟨"com/example/tranche/tranche/terms/Refusal", "getMessage", "()Ljava/lang/String;"⟩ : MethodName)) (y := (⟨"java/lang/Throwable", "getMessage", "()Ljava/lang/String;"⟩ : MethodName)) (owner := "java/lang/Throwable") hown (mvT hZ (hw _ (List.mem_of_getElem? (i := 205) rfl))) (mvT hZ (hw _ (List.mem_of_getElem? (i := 206) rfl))) (mvT hZ (hw _ (List.mem_of_getElem? (i := 207) rfl))) (by decide) (mvT hZ (hw _ (List.mem_of_getElem? (i := 209) rfl))) (mvT hZ (hw _ (List.mem_of_getElem? (i := 208) rfl))) (backOf (W := 1) (rm34 l Z a0 hw [] a1 T8.heap n0 mg F_a1_detailMessage_8) hZ (hw _ (List.mem_of_getElem? (i := 210) rfl)) (hw _ (List.mem_of_getElem? (i := 48) rfl)) (by decide) (by decide)) q9a q9c (g := (mkF m 23 #[.val (.ref a1)] [(.ref a1), (.ref s'_8)])) rfl (by rw [hml]; rfl) (Steps.refl _) (argsL := []) (rest := [(.ref s'_8)]) (lenOf pd19 rfl) rfl (by show 2 * 0 + _ ≤ _; exact Nat.le_of_eq rfl) (hb hby d12_23) (fun _ _ => ⟨rfl, rfl, (by decide : 6 + 0 ≤ _), (by decide : 206 + 0 ≤ _)⟩)
  dsimp only [Pt.U, Pt.locs, Pt.cells, Pt.slots] at X9 l9 y9 z9 st9 hQ9
  subst l9 y9 z9
  obtain ⟨rfl, N9q, e9⟩ := hQ9
  have N9 := Fr.app N8 N9q
  obtain ⟨_, _, ⟨T10, L10, k10, n10⟩, -, X10, ⟨Lc10, hQ10, l10, y10, z10⟩, st10⟩ := Jvm.LawKit.callS X9 hx (y := (⟨"java/util/List", "of", "(Ljava/lang/Object;Ljava/lang/Object;)Ljava/util/List;"⟩ : MethodName)) hown (mvT hZ (hw _ (List.mem_of_getElem? (i := 211) rfl))) (mvT hZ (hw _ (List.mem_of_getElem? (i := 212) rfl))) (mvT hZ (hw _ (List.mem_of_getElem? (i := 213) rfl))) (mvT hZ (hw _ (List.mem_of_getElem? (i := 214) rfl))) (by decide) (backOf (W := 0) (rm35 l Z a0 hw [] s'_8 mg  T8.heap n0  Z8) hZ (hw _ (List.mem_of_getElem? (i := 214) rfl)) (hw _ (List.mem_of_getElem? (i := 213) rfl)) (by decide) (by decide)) (g := (mkF m 26 #[.val (.ref a1)] [(.ref mg), (.ref s'_8)])) rfl (by rw [hml]; rfl) (argsL := [(.ref s'_8), (.ref mg)]) (rest := []) (lenOf pd20 rfl) rfl (by show 2 * 0 + _ ≤ _; exact Nat.le_of_eq rfl) (hb hby d12_26) (fun _ _ => ⟨rfl, e9, (by decide : 6 + 1 ≤ _), (by decide : 206 + 2 ≤ _)⟩)
  dsimp only [Pt.U, Pt.locs, Pt.cells, Pt.slots] at X10 l10 y10 z10 st10 hQ10
  subst l10 y10 z10
  obtain ⟨r'_10, rfl, N10q, Kc10, G10_0, G10_1, G10_2, f_r'_10⟩ := hQ10
  have N10 := Fr.app N9 N10q
  have ne_a1_r'_10 : a1 ≠ r'_10 := Nat.ne_of_lt (Nat.lt_of_lt_of_le E_a1_8.lt f_r'_10)
  have ne_mg_r'_10 : mg ≠ r'_10 := Nat.ne_of_lt (Nat.lt_of_lt_of_le E_mg_8.lt f_r'_10)
  have ne_rs_r'_10 : rs ≠ r'_10 := Nat.ne_of_lt (Nat.lt_of_lt_of_le E_rs_8.lt f_r'_10)
  have ne_rd_r'_10 : rd ≠ r'_10 := Nat.ne_of_lt (Nat.lt_of_lt_of_le V_rd_8.lt f_r'_10)
  have ne_b1_r'_10 : b1 ≠ r'_10 := Nat.ne_of_lt (Nat.lt_of_lt_of_le E_b1_8.lt f_r'_10)
  have ne_la3_r'_10 : la3 ≠ r'_10 := Nat.ne_of_lt (Nat.lt_of_lt_of_le E_la3_8.lt f_r'_10)
  have ne_lb3_r'_10 : lb3 ≠ r'_10 := Nat.ne_of_lt (Nat.lt_of_lt_of_le V_lb3_8.lt f_r'_10)
  have ne_d__7_r'_10 : d'_7 ≠ r'_10 := Nat.ne_of_lt (Nat.lt_of_lt_of_le V_d__7_8.lt f_r'_10)
  have ne_s__8_r'_10 : s'_8 ≠ r'_10 := Nat.ne_of_lt (Nat.lt_of_lt_of_le G8_0.lt f_r'_10)
  have ne_d__8_r'_10 : d'_8 ≠ r'_10 := Nat.ne_of_lt (Nat.lt_of_lt_of_le G8_3.lt f_r'_10)
  have g_r'_10 : n0 ≤ r'_10 := Nat.le_trans Z8 f_r'_10
  have sz_r'_10 : h0.size ≤ r'_10 := Nat.le_trans K8.1 f_r'_10
  have S0_r'_10 : Safe Z consts_1 T3.vm T8.heap r'_10 := Safe.new f_r'_10
  have E_a1_10 := E_a1_8.keep Kc10
  have F_a1_reason_10 := F_a1_reason_8.keep Kc10 nin0
  have F_a1_detailMessage_10 := F_a1_detailMessage_8.keep Kc10 nin0
  have E_mg_10 := E_mg_8.keep Kc10
  have E_rs_10 := E_rs_8.keep Kc10
  have F_rs_coder_10 := F_rs_coder_8.keep Kc10 nin0
  have F_rs_value_10 := F_rs_value_8.keep Kc10 nin0
  have V_rd_10 := V_rd_8.keep Kc10 nin0
  have E_b1_10 := E_b1_8.keep Kc10
  have F_b1_value_10 := F_b1_value_8.keep Kc10 nin0
  have F_b1_coder_10 := F_b1_coder_8.keep Kc10 nin0
  have F_b1_count_10 := F_b1_count_8.keep Kc10 nin0
  have E_la3_10 := E_la3_8.keep Kc10
  have F_la3_coder_10 := F_la3_coder_8.keep Kc10 nin0
  have F_la3_value_10 := F_la3_value_8.keep Kc10 nin0
  have V_lb3_10 := V_lb3_8.keep Kc10 nin0
  have V_d__7_10 := V_d__7_8.keep Kc10 nin0
  have E_s__8_10 := G8_0.keep Kc10
  have F_s__8_coder_10 := G8_1.keep Kc10 nin0
  have F_s__8_value_10 := G8_2.keep Kc10 nin0
  have V_d__8_10 := G8_3.keep Kc10 nin0
  have K10 : Keep h0 T10.heap [] := K8.trans Kc10 all0
  have Z10 : n0 ≤ T10.heap.size := Nat.le_trans Z8 Kc10.1
  have O10 := Old.keep O8 Kc10 all0
  have hs10 : ∀ x ∈ ([] : List Addr), Safe Z consts_1 T3.vm T8.heap x := sf0
  have r10 := CHr.keep Kc10 hs10 R8.1
  have S10_d'_7 := Safe.keep Kc10 hs10 R8.1 S8_d'_7
  have S10_s'_8 := Safe.keep Kc10 hs10 R8.1 S8_s'_8
  have S10_d'_8 := Safe.keep Kc10 hs10 R8.1 S8_d'_8
  have S10_r'_10 := Safe.keep Kc10 hs10 R8.1 S0_r'_10
  have R10 := R8.trans r10
  have hk10 := Nat.le_trans hk8 Kc10.1
  refine hneg ?_
  have hR := R10.trans (CHv.at X10 hZ hEL R10.1)
  obtain ⟨fs, hr, hrun, hended, hW⟩ := X10.leaveW (v := some (.ref r'_10)) hS (by rw [show T10.heap = T10.heap from rfl]; exact hk10) (fun h => by rw [Bd.returns] at h; cases h)
  refine ⟨_, _, pre4 _ ?_, hrun, hended, _, _, rfl, ?_, ?_, rew_mono hW (by decide) (by decide)⟩
  · refine st3 _ ?_
    show Steps p.tables e below (T3.setTop (mkF m 9 #[.val (.ref a1)] [(.ref la3), (.ref b1)])) _
    refine st5.trans ?_
    show Steps p.tables e below (T5.setTop (mkF m 12 #[.val (.ref a1)] [(.ref b1)])) _
    refine XS.aloadN X5.here hx rfl (hb hby d12_12) rfl rfl ?_
    show Steps p.tables e below (T5.setTop (mkF m 13 #[.val (.ref a1)] [(.ref a1), (.ref b1)])) _
    refine st6 _ ?_
    show Steps p.tables e below (T6.setTop (mkF m 16 #[.val (.ref a1)] [(.ref rs), (.ref b1)])) _
    refine st7.trans ?_
    show Steps p.tables e below (T7.setTop (mkF m 19 #[.val (.ref a1)] [(.ref b1)])) _
    refine st8.trans ?_
    show Steps p.tables e below (T8.setTop (mkF m 22 #[.val (.ref a1)] [(.ref s'_8)])) _
    refine XS.aloadN X8.here hx rfl (hb hby d12_22) rfl rfl ?_
    show Steps p.tables e below (T8.setTop (mkF m 23 #[.val (.ref a1)] [(.ref a1), (.ref s'_8)])) _
    refine st9.trans ?_
    show Steps p.tables e below (T9.setTop (mkF m 26 #[.val (.ref a1)] [(.ref mg), (.ref s'_8)])) _
    refine st10 _ ?_
    show Steps p.tables e below (T10.setTop (mkF m 29 #[.val (.ref a1)] [(.ref r'_10)])) _
    exact retOut X10 hx (t := (.object "java/util/List")) Bd.returns rfl (Or.inr (Or.inr (Or.inr (Or.inr ⟨rfl, rfl, rfl⟩)))) (hb hby d12_29) hr
  · show Q12 Z a1 cs rs mg rd rk rsrc h0 n0 _ T10.heap _
    refine ⟨_, _, _, _, _, rfl, N10, K10, G10_0, G10_1, G10_2, E_s__8_10, F_s__8_coder_10, F_s__8_value_10, V_d__8_10, ?_, sz_r'_10, sz_s'_8, sz_d'_8⟩
    rw [eqb_8, tk_7, tk_5, List.take_zero, List.nil_append]
  · show CHr Z consts_1 s.vm s.heap T10.vm T10.heap
    rw [hh, show T10.heap = T10.heap from rfl]; exact hR

def low (c : Int32) : Int32 := c.toInt8.toInt32
def NSQ (Z : State) (x : Addr) (cs : List Int32) (h : Heap) (n0 : Nat) (v : Option Value) (h' : Heap) (L : List Loc) : Prop := ∃ (d' : Addr) (k' : ClassId) (bs' : List Int32), v = none ∧ Fr n0 L ∧ Keep h h' [x] ∧ Exa Z h' x "java/lang/String" ∧ Fld Z h' x "java/lang/String" "coder" "B" (.int 0) ∧ Fld Z h' x "java/lang/String" "value" "[B" (.ref d') ∧ B0 Z h' d' k' bs' ∧ bs' = cs.map low ∧ h.size ≤ d'
theorem payNew {p : Program} {l : Launch} {e : Env} {R : Room} {s : State} {args : Array Value} {below : List Frame} {W : Nat} {Z : State} {a0 : Array Value} {h : Heap} (hZ : Z.Warmed39 s.vm) (hw : ∀ d ∈ tables_1, d.before a0 Z = true)
    {x b : Addr} {kC : ClassId} {cs : List Int32} {d v0 c0 : Value} {z : Int32} {n0 n : Nat} (hn : cs.length = n) (hx0 : n0 ≤ x) (hh0 : n0 ≤ h.size) (E : Exa Z h x "java/lang/String") (V : Fld Z h x "java/lang/String" "value" "[B" v0) (C : Fld Z h x "java/lang/String" "coder" "B" c0) (K : Arv Z h b kC .char (Int32.ofNat n) (cs.map Value.int) d)
    (S : Sta Z h "java/lang/String" "COMPACT_STRINGS" "Z" (.int z)) (hz : ¬ z = 0) (l0 : 0 < n) (l2 : n ≤ 4000) (hp : ∀ c ∈ cs, ¬ c < 0 ∧ ¬ (255 : Int32) < c) (hfr : 4 ≤ R.frames) (hlo : W + 65 ≤ R.locals) :
    Back l R p e below s args (⟨"java/lang/String", "<init>", "([C)V"⟩ : MethodName) 3 W (fun P a => a = #[.ref x, .ref b] ∧ P.U.heap = h ∧ P.cells + 1 ≤ R.cells ∧ P.slots + n ≤ R.slots)
      (fun P _ v B => ∃ L, NSQ Z x cs h n0 v B.U.heap L ∧ B.locs = P.locs ++ L ∧ B.cells = P.cells + 1 ∧ B.slots = P.slots + n) := by
  have hws : ∀ d ∈ StrChars.Road.words, d.before a0 Z = true := fun d hd => hw d ((by decide +kernel : ∀ d ∈ StrChars.Road.words, d ∈ tables_1) d hd)
  refine Back.mono (StrChars.Road.backV (len := 3) (W := W) hZ hws (kI := 4) (hw _ (List.mem_of_getElem? (i := 1) rfl)) hx0 hh0 E V C K S hz hn rfl l0 l2 hp rfl hfr hlo) (fun P a q => q) (fun P a v B _ hq => ?_)
  obtain ⟨L, ⟨q1, q2, q3, q4, q5, t, kb, q6, q7, q8, q9, q10⟩, r⟩ := hq
  refine ⟨L, ⟨t, kb, cs.map low, q1, q2, q3, q4, q5, q9, ⟨?_, by rw [List.length_map, hn]; omega, trivial⟩, rfl, q7⟩, r⟩
  rw [List.length_map, hn]; exact q10
theorem payEq {p : Program} {l : Launch} {e : Env} {R : Room} {s : State} {args : Array Value} {below : List Frame} {W : Nat} {Z : State} {a0 : Array Value} {h : Heap} (hZ : Z.Warmed39 s.vm) (hw : ∀ d ∈ tables_1, d.before a0 Z = true)
    {x y t t' : Addr} {k k' : ClassId} {cs bs bs' : List Int32} {z : Int32} {n0 : Nat} (E : Exa Z h x "java/lang/String") (C : Fld Z h x "java/lang/String" "coder" "B" (.int 0)) (V : Fld Z h x "java/lang/String" "value" "[B" (.ref t)) (B : B0 Z h t k bs)
    (E' : Exa Z h y "java/lang/String") (C' : Fld Z h y "java/lang/String" "coder" "B" (.int 0)) (V' : Fld Z h y "java/lang/String" "value" "[B" (.ref t')) (B' : B0 Z h t' k' bs') (hb : bs = cs.map low) (hb' : bs' = cs.map low) (hp : ∀ c ∈ cs, ¬ c < 0 ∧ ¬ (255 : Int32) < c) (l2 : cs.length ≤ 4000)
    (S : Sta Z h "java/lang/String" "COMPACT_STRINGS" "Z" (.int z)) (hz : ¬ z = 0) (hfr : 2 ≤ R.frames) (hlo : W + 28 ≤ R.locals) :
    Back l R p e below s args (⟨"java/lang/String", "equals", "(Ljava/lang/Object;)Z"⟩ : MethodName) 3 W (fun P a => a = #[.ref x, .ref y] ∧ P.U.heap = h ∧ P.cells + 0 ≤ R.cells ∧ P.slots + 0 ≤ R.slots)
      (fun P _ v B => ∃ L, (v = some (.int 1) ∧ Fr n0 L ∧ B.U.heap = h) ∧ B.locs = P.locs ++ L ∧ B.cells = P.cells + 0 ∧ B.slots = P.slots + 0) := by
  have hws : ∀ d ∈ StrChars.Road.wordsEq, d.before a0 Z = true := fun d hd => hw d ((by decide +kernel : ∀ d ∈ StrChars.Road.wordsEq, d ∈ tables_1) d hd)
  have hc := StrChars.Road.codOf (cs := cs) rfl (fun c hc => (hp c hc).2)
  have hq : ∀ c ∈ cs, ¬ c < 0 ∧ ¬ (65535 : Int32) < c := fun c hc => ⟨(hp c hc).1, fun z => (hp c hc).2 (Int32.lt_trans (by decide) z)⟩
  have K := B.1
  have K' := B'.1
  rw [hb, List.length_map] at K
  rw [hb', List.length_map] at K'
  refine Back.mono (StrChars.Road.eqW (len := 3) (W := W) hZ hws (kI := 4) (hw _ (List.mem_of_getElem? (i := 1) rfl)) E V C K hc hq l2 E' V' C' K' hc hq l2 S hz hfr hlo) (fun P a q => q) (fun P a v B _ hq => ?_)
  obtain ⟨L, ⟨q1, q2, q3⟩, r⟩ := hq
  refine ⟨L, ⟨?_, by rw [q2]; exact Fr.nil n0, q3⟩, r⟩
  rcases q1 with ⟨q, -⟩ | ⟨-, q⟩
  · exact q
  · exact absurd rfl q

theorem ch0 : ∀ c ∈ ([] : List Int32), ¬ c < 0 ∧ ¬ (255 : Int32) < c := fun c h => by cases h
theorem chS {a : Int32} {cs : List Int32} (h : ¬ a < 0 ∧ ¬ (255 : Int32) < a) (t : ∀ c ∈ cs, ¬ c < 0 ∧ ¬ (255 : Int32) < c) : ∀ c ∈ a :: cs, ¬ c < 0 ∧ ¬ (255 : Int32) < c := fun c hc => by
  rcases List.mem_cons.mp hc with rfl | q
  · exact h
  · exact t c q
theorem ch_32 : ¬ (nar .char (32 : Int32)) < 0 ∧ ¬ (255 : Int32) < (nar .char (32 : Int32)) := by decide
theorem ch_58 : ¬ (nar .char (58 : Int32)) < 0 ∧ ¬ (255 : Int32) < (nar .char (58 : Int32)) := by decide
theorem ch_100 : ¬ (nar .char (100 : Int32)) < 0 ∧ ¬ (255 : Int32) < (nar .char (100 : Int32)) := by decide
theorem ch_101 : ¬ (nar .char (101 : Int32)) < 0 ∧ ¬ (255 : Int32) < (nar .char (101 : Int32)) := by decide
theorem ch_102 : ¬ (nar .char (102 : Int32)) < 0 ∧ ¬ (255 : Int32) < (nar .char (102 : Int32)) := by decide
theorem ch_114 : ¬ (nar .char (114 : Int32)) < 0 ∧ ¬ (255 : Int32) < (nar .char (114 : Int32)) := by decide
theorem ch_115 : ¬ (nar .char (115 : Int32)) < 0 ∧ ¬ (255 : Int32) < (nar .char (115 : Int32)) := by decide
theorem ch_117 : ¬ (nar .char (117 : Int32)) < 0 ∧ ¬ (255 : Int32) < (nar .char (117 : Int32)) := by decide
theorem litR_low : litR = ([(nar .char (114 : Int32)), (nar .char (101 : Int32)), (nar .char (102 : Int32)), (nar .char (117 : Int32)), (nar .char (115 : Int32)), (nar .char (101 : Int32)), (nar .char (100 : Int32)), (nar .char (58 : Int32)), (nar .char (32 : Int32))] : List Int32).map low := by decide
theorem mask_ch (x : Int32) : ∃ r : Int32, (x &&& (255 : Int32)).toUInt32.toUInt16.toUInt32.toInt32 = r ∧ nar .char r = r ∧ (¬ nar .char r < 0 ∧ ¬ (255 : Int32) < nar .char r) := by
  refine ⟨x &&& 255, i2c_mask x, i2c_mask x, ?_⟩
  rw [nar_mask]
  have h := c_and x 255 (by decide)
  have e : (255 : Int32).toInt = 255 := by decide
  have e0 : (0 : Int32).toInt = 0 := by decide
  rw [Int32.lt_iff_toInt_lt, Int32.lt_iff_toInt_lt, e, e0]
  omega

theorem stand_gen {p : Program} {l : Launch} {e : Env} {R : Room} {s : State} {m : MethodId} {args : Array Value} {below : List Frame} {meth : Method} {c : Code} {T : State} {L : List Loc} {n k n0 : Nat} (X : Stand p l e R s m args below meth c T L n k) (N : Fr n0 L) : ∃ L', Stand p l e R s m args below meth c T L' n k ∧ Fr n0 L' := ⟨L, X, N⟩
theorem pn_0 : plainName "com/example/tranche/tranche/terms/RefusalReportPinLaw" = true := by first | (simp [plainName, overriddenIn]; done) | decide +kernel
theorem ef_0 (m : MethodId) (p1 : Int32) (p2 : Int32) (p3 : Int32) : entryFrame m #[(.int p1), (.int p2), (.int p3)] maxLocals = mkF m 0 #[.val (.int p1), .val (.int p2), .val (.int p3), .unset, .unset, .unset, .unset, .unset, .unset, .unset, .unset, .unset, .unset, .unset] [] := by first | (simp [entryFrame, mkF, argsToLocals, Value.category, maxLocals]; done) | rfl
def Q0 (Z : State) (p1 : Int32) (p2 : Int32) (p3 : Int32) (cs : Int32) (ua : Addr) (us : Addr) (em : Addr) (h0 : Heap) (n0 : Nat) (v : Option Value) (h : Heap) (L : List Loc) : Prop := v = some (.int 1) ∧ Fr n0 L
set_option maxRecDepth 65536 in
set_option maxHeartbeats 40000000 in
theorem rm0 (l : Launch) (Z : State) (a0 : Array Value) (hw : ∀ d ∈ tables_1, d.before a0 Z = true) (ws : List Jvm.Cond) (p1 : Int32) (p2 : Int32) (p3 : Int32) (h0 : Heap) (n0 : Nat) (cs : Int32) (ua : Addr) (us : Addr) (em : Addr) (CS : Sta Z Z.heap "java/lang/String" "COMPACT_STRINGS" "Z" (.int cs)) (hcs : ¬ cs = 0) (O0 : Old Z n0 h0) (hl : l.stackTraces = true) (SUA : Sta Z Z.heap "java/lang/Throwable" "UNASSIGNED_STACK" "[Ljava/lang/StackTraceElement;" (.ref ua)) (SUS : Sta Z Z.heap "java/lang/Throwable" "SUPPRESSED_SENTINEL" "Ljava/util/List;" (.ref us)) (EM : Sta Z Z.heap "java/util/ImmutableCollections" "EMPTY" "Ljava/lang/Object;" (.ref em)) (E_em : Exa Z Z.heap em "java/lang/Object") (Z0 : n0 ≤ h0.size) :
    MetFree l x (head1 (Jvm.Cond.code x code maxLocals ret :: ws) room_1) (fun a U => a = #[(.int p1), (.int p2), (.int p3)] ∧ Z.Warmed39 U.vm ∧ U.heap = h0 ∧ CHv Z consts_1 U.vm h0) (fun _ _ bl s _ => s.vm.MethodsKnown ∧ s.vm.FramesKnown bl) (fun _ U o U' => ∃ v L, o = .returned v ∧ Q0 Z p1 p2 p3 cs ua us em h0 n0 v U'.heap L ∧ CHr Z consts_1 U.vm U.heap U'.vm U'.heap ∧ ReturnedEndW U o U' L room_1.cells room_1.slots) := by
  refine MetFree.of_bodySF (plainFor_of_name pn_0) hisR ?_
  intro p e s m args below meth c s₁ Bd hml0 hP hK
  obtain ⟨rfl, hZ, hh, hCH⟩ := hP
  have hx := Bd.exec
  have hby := Bd.bytes
  have hml : c.maxLocals = 14 := hml0
  have hown0 := findClass_of_methodNamed Bd.named
  have hown : s.vm.findClass "com/example/tranche/tranche/terms/RefusalReportPinLaw" = some m.cls := hown0
  have hnm := (name_of_methodNamed Bd.named Bd.method).1
  have X0 : Stand p l e room_1 (s.setVm s.vm) m #[(.int p1), (.int p2), (.int p3)] below meth c s₁ [] 0 0 := Stand.of_body Bd
  have hS : s.Since s.vm 0 := State.WarmedH.since (State.WarmedH.refl s) 0
  have hk0 : 0 ≤ h0.size := Nat.zero_le _
  have R0 : CHr Z consts_1 s.vm h0 s.vm h0 := CHr.refl hCH
  have hEL := ew_1 (Z := Z) (a0 := a0) hw
  have wS := sa_1 (Z := Z) (a0 := a0) hw
  have e0 : s₁.heap = h0 := by rw [← hh, Bd.state]; rfl
  have N0 := Fr.nil n0
  have pre0 : ∀ t, Steps p.tables e below (s₁.setTop (mkF m 0 #[.val (.int p1), .val (.int p2), .val (.int p3), .unset, .unset, .unset, .unset, .unset, .unset, .unset, .unset, .unset, .unset, .unset] [])) t → Steps p.tables e below (s₁.setTop (entryFrame m #[(.int p1), (.int p2), (.int p3)] maxLocals)) t := fun t k => castTop (ef_0 m p1 p2 p3) k
  refine Classical.byContradiction fun hneg => ?_
  obtain ⟨r0, e_r0, n_r0, b_r0⟩ := mask_ch p1
  have nq1 : ((p1 &&& (255 : Int32)).toUInt32.toUInt16.toUInt32.toInt32) = r0 := e_r0
  obtain ⟨r1, e_r1, n_r1, b_r1⟩ := mask_ch ((p1.toUInt32 >>> ((8 : Int32) &&& 31).toUInt32).toInt32)
  have nq2 : ((((p1.toUInt32 >>> ((8 : Int32) &&& 31).toUInt32).toInt32) &&& (255 : Int32)).toUInt32.toUInt16.toUInt32.toInt32) = r1 := e_r1
  obtain ⟨d0, e_d0, n_d0, b_d0⟩ := mask_ch p2
  have nq3 : ((p2 &&& (255 : Int32)).toUInt32.toUInt16.toUInt32.toInt32) = d0 := e_d0
  obtain ⟨d1, e_d1, n_d1, b_d1⟩ := mask_ch ((p2.toUInt32 >>> ((8 : Int32) &&& 31).toUInt32).toInt32)
  have nq4 : ((((p2.toUInt32 >>> ((8 : Int32) &&& 31).toUInt32).toInt32) &&& (255 : Int32)).toUInt32.toUInt16.toUInt32.toInt32) = d1 := e_d1
  have pre5 : ∀ t, Steps p.tables e below (s₁.setTop (mkF m 40 #[.val (.int p1), .val (.int p2), .val (.int p3), .val (.int r0), .val (.int r1), .val (.int d0), .val (.int d1), .unset, .unset, .unset, .unset, .unset, .unset, .unset] [(.int (p3 &&& (1 : Int32)))])) t → Steps p.tables e below (s₁.setTop (entryFrame m #[(.int p1), (.int p2), (.int p3)] maxLocals)) t := by
    intro t k
    refine pre0 t ?_
    show Steps p.tables e below (s₁.setTop (mkF m 0 #[.val (.int p1), .val (.int p2), .val (.int p3), .unset, .unset, .unset, .unset, .unset, .unset, .unset, .unset, .unset, .unset, .unset] [])) _
    refine XS.iloadN X0.here hx rfl (hb hby at_0) rfl ?_
    show Steps p.tables e below (s₁.setTop (mkF m 1 #[.val (.int p1), .val (.int p2), .val (.int p3), .unset, .unset, .unset, .unset, .unset, .unset, .unset, .unset, .unset, .unset, .unset] [(.int p1)])) _
    refine XS.sipush X0.here hx rfl (hb hby at_1) ?_
    show Steps p.tables e below (s₁.setTop (mkF m 4 #[.val (.int p1), .val (.int p2), .val (.int p3), .unset, .unset, .unset, .unset, .unset, .unset, .unset, .unset, .unset, .unset, .unset] [(.int (255 : Int32)), (.int p1)])) _
    refine XS.iand X0.here hx rfl (hb hby at_4) rfl ?_
    show Steps p.tables e below (s₁.setTop (mkF m 5 #[.val (.int p1), .val (.int p2), .val (.int p3), .unset, .unset, .unset, .unset, .unset, .unset, .unset, .unset, .unset, .unset, .unset] [(.int (p1 &&& (255 : Int32)))])) _
    refine XS.i2c X0.here hx rfl (hb hby at_5) rfl ?_
    show Steps p.tables e below (s₁.setTop (mkF m 6 #[.val (.int p1), .val (.int p2), .val (.int p3), .unset, .unset, .unset, .unset, .unset, .unset, .unset, .unset, .unset, .unset, .unset] [(.int ((p1 &&& (255 : Int32)).toUInt32.toUInt16.toUInt32.toInt32))])) _
    rw [nq1]
    show Steps p.tables e below (s₁.setTop (mkF m 6 #[.val (.int p1), .val (.int p2), .val (.int p3), .unset, .unset, .unset, .unset, .unset, .unset, .unset, .unset, .unset, .unset, .unset] [(.int r0)])) _
    refine XS.istoreN X0.here hx rfl (hb hby at_6) rfl (l' := #[.val (.int p1), .val (.int p2), .val (.int p3), .val (.int r0), .unset, .unset, .unset, .unset, .unset, .unset, .unset, .unset, .unset, .unset]) rfl ?_
    show Steps p.tables e below (s₁.setTop (mkF m 7 #[.val (.int p1), .val (.int p2), .val (.int p3), .val (.int r0), .unset, .unset, .unset, .unset, .unset, .unset, .unset, .unset, .unset, .unset] [])) _
    refine XS.iloadN X0.here hx rfl (hb hby at_7) rfl ?_
    show Steps p.tables e below (s₁.setTop (mkF m 8 #[.val (.int p1), .val (.int p2), .val (.int p3), .val (.int r0), .unset, .unset, .unset, .unset, .unset, .unset, .unset, .unset, .unset, .unset] [(.int p1)])) _
    refine XS.bipush X0.here hx rfl (hb hby at_8) ?_
    show Steps p.tables e below (s₁.setTop (mkF m 10 #[.val (.int p1), .val (.int p2), .val (.int p3), .val (.int r0), .unset, .unset, .unset, .unset, .unset, .unset, .unset, .unset, .unset, .unset] [(.int (8 : Int32)), (.int p1)])) _
    refine XS.iushr X0.here hx rfl (hb hby at_10) rfl ?_
    show Steps p.tables e below (s₁.setTop (mkF m 11 #[.val (.int p1), .val (.int p2), .val (.int p3), .val (.int r0), .unset, .unset, .unset, .unset, .unset, .unset, .unset, .unset, .unset, .unset] [(.int ((p1.toUInt32 >>> ((8 : Int32) &&& 31).toUInt32).toInt32))])) _
    refine XS.sipush X0.here hx rfl (hb hby at_11) ?_
    show Steps p.tables e below (s₁.setTop (mkF m 14 #[.val (.int p1), .val (.int p2), .val (.int p3), .val (.int r0), .unset, .unset, .unset, .unset, .unset, .unset, .unset, .unset, .unset, .unset] [(.int (255 : Int32)), (.int ((p1.toUInt32 >>> ((8 : Int32) &&& 31).toUInt32).toInt32))])) _
    refine XS.iand X0.here hx rfl (hb hby at_14) rfl ?_
    show Steps p.tables e below (s₁.setTop (mkF m 15 #[.val (.int p1), .val (.int p2), .val (.int p3), .val (.int r0), .unset, .unset, .unset, .unset, .unset, .unset, .unset, .unset, .unset, .unset] [(.int (((p1.toUInt32 >>> ((8 : Int32) &&& 31).toUInt32).toInt32) &&& (255 : Int32)))])) _
    refine XS.i2c X0.here hx rfl (hb hby at_15) rfl ?_
    show Steps p.tables e below (s₁.setTop (mkF m 16 #[.val (.int p1), .val (.int p2), .val (.int p3), .val (.int r0), .unset, .unset, .unset, .unset, .unset, .unset, .unset, .unset, .unset, .unset] [(.int ((((p1.toUInt32 >>> ((8 : Int32) &&& 31).toUInt32).toInt32) &&& (255 : Int32)).toUInt32.toUInt16.toUInt32.toInt32))])) _
    rw [nq2]
    show Steps p.tables e below (s₁.setTop (mkF m 16 #[.val (.int p1), .val (.int p2), .val (.int p3), .val (.int r0), .unset, .unset, .unset, .unset, .unset, .unset, .unset, .unset, .unset, .unset] [(.int r1)])) _
    refine XS.istore X0.here hx rfl (hb hby at_16) rfl (l' := #[.val (.int p1), .val (.int p2), .val (.int p3), .val (.int r0), .val (.int r1), .unset, .unset, .unset, .unset, .unset, .unset, .unset, .unset, .unset]) rfl ?_
    show Steps p.tables e below (s₁.setTop (mkF m 18 #[.val (.int p1), .val (.int p2), .val (.int p3), .val (.int r0), .val (.int r1), .unset, .unset, .unset, .unset, .unset, .unset, .unset, .unset, .unset] [])) _
    refine XS.iloadN X0.here hx rfl (hb hby at_18) rfl ?_
    show Steps p.tables e below (s₁.setTop (mkF m 19 #[.val (.int p1), .val (.int p2), .val (.int p3), .val (.int r0), .val (.int r1), .unset, .unset, .unset, .unset, .unset, .unset, .unset, .unset, .unset] [(.int p2)])) _
    refine XS.sipush X0.here hx rfl (hb hby at_19) ?_
    show Steps p.tables e below (s₁.setTop (mkF m 22 #[.val (.int p1), .val (.int p2), .val (.int p3), .val (.int r0), .val (.int r1), .unset, .unset, .unset, .unset, .unset, .unset, .unset, .unset, .unset] [(.int (255 : Int32)), (.int p2)])) _
    refine XS.iand X0.here hx rfl (hb hby at_22) rfl ?_
    show Steps p.tables e below (s₁.setTop (mkF m 23 #[.val (.int p1), .val (.int p2), .val (.int p3), .val (.int r0), .val (.int r1), .unset, .unset, .unset, .unset, .unset, .unset, .unset, .unset, .unset] [(.int (p2 &&& (255 : Int32)))])) _
    refine XS.i2c X0.here hx rfl (hb hby at_23) rfl ?_
    show Steps p.tables e below (s₁.setTop (mkF m 24 #[.val (.int p1), .val (.int p2), .val (.int p3), .val (.int r0), .val (.int r1), .unset, .unset, .unset, .unset, .unset, .unset, .unset, .unset, .unset] [(.int ((p2 &&& (255 : Int32)).toUInt32.toUInt16.toUInt32.toInt32))])) _
    rw [nq3]
    show Steps p.tables e below (s₁.setTop (mkF m 24 #[.val (.int p1), .val (.int p2), .val (.int p3), .val (.int r0), .val (.int r1), .unset, .unset, .unset, .unset, .unset, .unset, .unset, .unset, .unset] [(.int d0)])) _
    refine XS.istore X0.here hx rfl (hb hby at_24) rfl (l' := #[.val (.int p1), .val (.int p2), .val (.int p3), .val (.int r0), .val (.int r1), .val (.int d0), .unset, .unset, .unset, .unset, .unset, .unset, .unset, .unset]) rfl ?_
    show Steps p.tables e below (s₁.setTop (mkF m 26 #[.val (.int p1), .val (.int p2), .val (.int p3), .val (.int r0), .val (.int r1), .val (.int d0), .unset, .unset, .unset, .unset, .unset, .unset, .unset, .unset] [])) _
    refine XS.iloadN X0.here hx rfl (hb hby at_26) rfl ?_
    show Steps p.tables e below (s₁.setTop (mkF m 27 #[.val (.int p1), .val (.int p2), .val (.int p3), .val (.int r0), .val (.int r1), .val (.int d0), .unset, .unset, .unset, .unset, .unset, .unset, .unset, .unset] [(.int p2)])) _
    refine XS.bipush X0.here hx rfl (hb hby at_27) ?_
    show Steps p.tables e below (s₁.setTop (mkF m 29 #[.val (.int p1), .val (.int p2), .val (.int p3), .val (.int r0), .val (.int r1), .val (.int d0), .unset, .unset, .unset, .unset, .unset, .unset, .unset, .unset] [(.int (8 : Int32)), (.int p2)])) _
    refine XS.iushr X0.here hx rfl (hb hby at_29) rfl ?_
    show Steps p.tables e below (s₁.setTop (mkF m 30 #[.val (.int p1), .val (.int p2), .val (.int p3), .val (.int r0), .val (.int r1), .val (.int d0), .unset, .unset, .unset, .unset, .unset, .unset, .unset, .unset] [(.int ((p2.toUInt32 >>> ((8 : Int32) &&& 31).toUInt32).toInt32))])) _
    refine XS.sipush X0.here hx rfl (hb hby at_30) ?_
    show Steps p.tables e below (s₁.setTop (mkF m 33 #[.val (.int p1), .val (.int p2), .val (.int p3), .val (.int r0), .val (.int r1), .val (.int d0), .unset, .unset, .unset, .unset, .unset, .unset, .unset, .unset] [(.int (255 : Int32)), (.int ((p2.toUInt32 >>> ((8 : Int32) &&& 31).toUInt32).toInt32))])) _
    refine XS.iand X0.here hx rfl (hb hby at_33) rfl ?_
    show Steps p.tables e below (s₁.setTop (mkF m 34 #[.val (.int p1), .val (.int p2), .val (.int p3), .val (.int r0), .val (.int r1), .val (.int d0), .unset, .unset, .unset, .unset, .unset, .unset, .unset, .unset] [(.int (((p2.toUInt32 >>> ((8 : Int32) &&& 31).toUInt32).toInt32) &&& (255 : Int32)))])) _
    refine XS.i2c X0.here hx rfl (hb hby at_34) rfl ?_
    show Steps p.tables e below (s₁.setTop (mkF m 35 #[.val (.int p1), .val (.int p2), .val (.int p3), .val (.int r0), .val (.int r1), .val (.int d0), .unset, .unset, .unset, .unset, .unset, .unset, .unset, .unset] [(.int ((((p2.toUInt32 >>> ((8 : Int32) &&& 31).toUInt32).toInt32) &&& (255 : Int32)).toUInt32.toUInt16.toUInt32.toInt32))])) _
    rw [nq4]
    show Steps p.tables e below (s₁.setTop (mkF m 35 #[.val (.int p1), .val (.int p2), .val (.int p3), .val (.int r0), .val (.int r1), .val (.int d0), .unset, .unset, .unset, .unset, .unset, .unset, .unset, .unset] [(.int d1)])) _
    refine XS.istore X0.here hx rfl (hb hby at_35) rfl (l' := #[.val (.int p1), .val (.int p2), .val (.int p3), .val (.int r0), .val (.int r1), .val (.int d0), .val (.int d1), .unset, .unset, .unset, .unset, .unset, .unset, .unset]) rfl ?_
    show Steps p.tables e below (s₁.setTop (mkF m 37 #[.val (.int p1), .val (.int p2), .val (.int p3), .val (.int r0), .val (.int r1), .val (.int d0), .val (.int d1), .unset, .unset, .unset, .unset, .unset, .unset, .unset] [])) _
    refine XS.iloadN X0.here hx rfl (hb hby at_37) rfl ?_
    show Steps p.tables e below (s₁.setTop (mkF m 38 #[.val (.int p1), .val (.int p2), .val (.int p3), .val (.int r0), .val (.int r1), .val (.int d0), .val (.int d1), .unset, .unset, .unset, .unset, .unset, .unset, .unset] [(.int p3)])) _
    refine XS.iconst X0.here hx rfl (hb hby at_38) ?_
    show Steps p.tables e below (s₁.setTop (mkF m 39 #[.val (.int p1), .val (.int p2), .val (.int p3), .val (.int r0), .val (.int r1), .val (.int d0), .val (.int d1), .unset, .unset, .unset, .unset, .unset, .unset, .unset] [(.int (1 : Int32)), (.int p3)])) _
    refine XS.iand X0.here hx rfl (hb hby at_39) rfl ?_
    exact k
  by_cases hc40_6 : (p3 &&& (1 : Int32)) = (0 : Int32)
  · have pre7 : ∀ t, Steps p.tables e below (s₁.setTop (mkF m 53 #[.val (.int p1), .val (.int p2), .val (.int p3), .val (.int r0), .val (.int r1), .val (.int d0), .val (.int d1), .val (.int (0 : Int32)), .unset, .unset, .unset, .unset, .unset, .unset] [(.int (p3 &&& (2 : Int32)))])) t → Steps p.tables e below (s₁.setTop (entryFrame m #[(.int p1), (.int p2), (.int p3)] maxLocals)) t := by
      intro t k
      refine pre5 t ?_
      show Steps p.tables e below (s₁.setTop (mkF m 40 #[.val (.int p1), .val (.int p2), .val (.int p3), .val (.int r0), .val (.int r1), .val (.int d0), .val (.int d1), .unset, .unset, .unset, .unset, .unset, .unset, .unset] [(.int (p3 &&& (1 : Int32)))])) _
      refine XS.ifYes X0.here hx rfl (pc0 := 40) (pc' := 47) rfl (hb hby at_40) rfl ((if0 _ _).trans (teq hc40_6).1) (by decide) (by decide) ?_
      show Steps p.tables e below (s₁.setTop (mkF m 47 #[.val (.int p1), .val (.int p2), .val (.int p3), .val (.int r0), .val (.int r1), .val (.int d0), .val (.int d1), .unset, .unset, .unset, .unset, .unset, .unset, .unset] [])) _
      refine XS.iconst X0.here hx rfl (hb hby at_47) ?_
      show Steps p.tables e below (s₁.setTop (mkF m 48 #[.val (.int p1), .val (.int p2), .val (.int p3), .val (.int r0), .val (.int r1), .val (.int d0), .val (.int d1), .unset, .unset, .unset, .unset, .unset, .unset, .unset] [(.int (0 : Int32))])) _
      refine XS.istore X0.here hx rfl (hb hby at_48) rfl (l' := #[.val (.int p1), .val (.int p2), .val (.int p3), .val (.int r0), .val (.int r1), .val (.int d0), .val (.int d1), .val (.int (0 : Int32)), .unset, .unset, .unset, .unset, .unset, .unset]) rfl ?_
      show Steps p.tables e below (s₁.setTop (mkF m 50 #[.val (.int p1), .val (.int p2), .val (.int p3), .val (.int r0), .val (.int r1), .val (.int d0), .val (.int d1), .val (.int (0 : Int32)), .unset, .unset, .unset, .unset, .unset, .unset] [])) _
      refine XS.iloadN X0.here hx rfl (hb hby at_50) rfl ?_
      show Steps p.tables e below (s₁.setTop (mkF m 51 #[.val (.int p1), .val (.int p2), .val (.int p3), .val (.int r0), .val (.int r1), .val (.int d0), .val (.int d1), .val (.int (0 : Int32)), .unset, .unset, .unset, .unset, .unset, .unset] [(.int p3)])) _
      refine XS.iconst X0.here hx rfl (hb hby at_51) ?_
      show Steps p.tables e below (s₁.setTop (mkF m 52 #[.val (.int p1), .val (.int p2), .val (.int p3), .val (.int r0), .val (.int r1), .val (.int d0), .val (.int d1), .val (.int (0 : Int32)), .unset, .unset, .unset, .unset, .unset, .unset] [(.int (2 : Int32)), (.int p3)])) _
      refine XS.iand X0.here hx rfl (hb hby at_52) rfl ?_
      exact k
    by_cases hc53_8 : (p3 &&& (2 : Int32)) = (0 : Int32)
    · obtain ⟨T9, h9, X9, e9, E9, A9, D9, U9, st9⟩ := newO X0 hx hZ hown (hw _ (List.mem_of_getElem? (i := 0) rfl)) (hw _ (List.mem_of_getElem? (i := 1) rfl)) (hw _ (List.mem_of_getElem? (i := 2) rfl)) e0 (g := (mkF m 73 #[.val (.int p1), .val (.int p2), .val (.int p3), .val (.int r0), .val (.int r1), .val (.int d0), .val (.int d1), .val (.int (0 : Int32)), .val (.int (0 : Int32)), .unset, .unset, .unset, .unset, .unset] [])) rfl (hb hby at_73) (by decide) (by decide)
      obtain ⟨b9, g9⟩ : ∃ z, z = h0.size := ⟨_, rfl⟩
      rw [← g9] at A9 D9 U9 st9
      have g_b9 : n0 ≤ b9 := Nat.le_trans Z0 (Nat.le_of_eq g9.symm)
      have sz_b9 : h0.size ≤ b9 := Nat.le_trans (Keep.refl h0 []).1 (Nat.le_of_eq g9.symm)
      have K9 : Keep h0 h9 [] := (Keep.refl h0 []).ext E9
      have Z9 : n0 ≤ h9.size := Nat.le_trans Z0 E9.1
      have O9 := Old.ext O0 E9
      have S0_b9 : Safe Z consts_1 s.vm h0 b9 := Safe.new (Nat.le_of_eq g9.symm)
      have r9 := CHr.ext E9 R0.1
      have S9_b9 := Safe.ext E9 R0.1 S0_b9
      have R9 := R0.trans r9
      have hk9 := Nat.le_trans hk0 E9.1
      have F_coder_b9 : Fld Z h9 b9 "java/lang/String" "coder" "B" (.int (0 : Int32)) := D9 (Or.inr (hw _ (List.mem_of_getElem? (i := 27) rfl))) (ty := .byte) (by decide)
      have F_value_b9 : Fld Z h9 b9 "java/lang/String" "value" "[B" .null := D9 (Or.inr (hw _ (List.mem_of_getElem? (i := 29) rfl))) (ty := (.array .byte)) (by decide)
      obtain ⟨T10, h10, k10, X10, e10, E10, A10, st10⟩ := newP X9 hx hZ (hw _ (List.mem_of_getElem? (i := 3) rfl)) e9 (g := (mkF m 78 #[.val (.int p1), .val (.int p2), .val (.int p3), .val (.int r0), .val (.int r1), .val (.int d0), .val (.int d1), .val (.int (0 : Int32)), .val (.int (0 : Int32)), .unset, .unset, .unset, .unset, .unset] [(.int (2 : Int32)), (.ref b9), (.ref b9)])) rfl (hb hby at_78) rfl (by decide) (cap := 2) (by decide) (by decide) (by decide) (by decide)
      obtain ⟨b10, g10⟩ : ∃ z, z = h9.size := ⟨_, rfl⟩
      rw [← g10] at A10 st10
      have ne_b9_b10 : b9 ≠ b10 := Nat.ne_of_lt (Nat.lt_of_lt_of_le A9.lt (Nat.le_of_eq g10.symm))
      have g_b10 : n0 ≤ b10 := Nat.le_trans Z9 (Nat.le_of_eq g10.symm)
      have sz_b10 : h0.size ≤ b10 := Nat.le_trans K9.1 (Nat.le_of_eq g10.symm)
      have E_b9_10 := A9.ext E10
      have F_b9_coder_10 := F_coder_b9.ext E10
      have F_b9_value_10 := F_value_b9.ext E10
      have K10 : Keep h0 h10 [] := K9.ext E10
      have Z10 : n0 ≤ h10.size := Nat.le_trans Z9 E10.1
      have O10 := Old.ext O9 E10
      have r10 := CHr.ext E10 R9.1
      have S10_b9 := Safe.ext E10 R9.1 S9_b9
      have R10 := R9.trans r10
      have hk10 := Nat.le_trans hk9 E10.1
      have V_b10 : Arv Z h10 b10 k10 .char (2 : Int32) [(.int (0 : Int32)), (.int (0 : Int32))] (.int (0 : Int32)) := (Arv.new A10 (by decide)).pad (pad_rep [] (.int (0 : Int32)) 2)
      obtain ⟨cl11, Ar11, q11, S11_, N11_, H11_, G11_⟩ := V_b10
      have hin11 : ¬ ((0 : Int32) < 0 ∨ cl11.slots.size ≤ ((0 : Int32)).toNatClampNeg) := inb_of S11_ ⟨by decide, by decide⟩
      obtain ⟨T11, h11, X11, e11, W11, st11⟩ := stC X10 hx hZ e10 Ar11 (j := (0 : Int32)) hin11 (g := (mkF m 83 #[.val (.int p1), .val (.int p2), .val (.int p3), .val (.int r0), .val (.int r1), .val (.int d0), .val (.int d1), .val (.int (0 : Int32)), .val (.int (0 : Int32)), .unset, .unset, .unset, .unset, .unset] [(.int r0), (.int (0 : Int32)), (.ref b10), (.ref b10), (.ref b9), (.ref b9)])) rfl rfl (hb hby at_83)
      have E_b9_11 := E_b9_10.wr W11
      have F_b9_coder_11 := F_b9_coder_10.other W11 (Or.inl ne_b9_b10)
      have F_b9_value_11 := F_b9_value_10.other W11 (Or.inl ne_b9_b10)
      have V_b10_11 : Arv Z h11 b10 k10 .char (2 : Int32) [(.int (nar .char r0)), (.int (0 : Int32))] (.int (0 : Int32)) := Arv.set Ar11 q11 S11_ N11_ H11_ G11_ (fits_nar_char _) W11 0 rfl (Nat.le_of_ble_eq_true rfl)
      have K11 : Keep h0 h11 [] := K10.wr W11 (Or.inr sz_b10)
      have N11 := Fr.snoc X11 N0 g_b10
      have Z11 : n0 ≤ h11.size := Nat.le_trans Z10 (Keep.of_wr W11).1
      have O11 := Old.wr O10 W11 g_b10
      have r11 := CHr.wr W11 (Safe.arr hZ.alike Ar11 (by decide)) R10.1
      have S11_b9 := r11.safe E_b9_10.lt S10_b9
      have R11 := R10.trans r11
      have hk11 := Nat.le_trans hk10 (Keep.of_wr W11).1
      obtain ⟨cl12, Ar12, q12, S12_, N12_, H12_, G12_⟩ := V_b10_11
      have hin12 : ¬ ((1 : Int32) < 0 ∨ cl12.slots.size ≤ ((1 : Int32)).toNatClampNeg) := inb_of S12_ ⟨by decide, by decide⟩
      obtain ⟨T12, h12, X12, e12, W12, st12⟩ := stC X11 hx hZ e11 Ar12 (j := (1 : Int32)) hin12 (g := (mkF m 88 #[.val (.int p1), .val (.int p2), .val (.int p3), .val (.int r0), .val (.int r1), .val (.int d0), .val (.int d1), .val (.int (0 : Int32)), .val (.int (0 : Int32)), .unset, .unset, .unset, .unset, .unset] [(.int r1), (.int (1 : Int32)), (.ref b10), (.ref b10), (.ref b9), (.ref b9)])) rfl rfl (hb hby at_88)
      have E_b9_12 := E_b9_11.wr W12
      have F_b9_coder_12 := F_b9_coder_11.other W12 (Or.inl ne_b9_b10)
      have F_b9_value_12 := F_b9_value_11.other W12 (Or.inl ne_b9_b10)
      have V_b10_12 : Arv Z h12 b10 k10 .char (2 : Int32) [(.int (nar .char r0)), (.int (nar .char r1))] (.int (0 : Int32)) := Arv.set Ar12 q12 S12_ N12_ H12_ G12_ (fits_nar_char _) W12 1 rfl (Nat.le_of_ble_eq_true rfl)
      have K12 : Keep h0 h12 [] := K11.wr W12 (Or.inr sz_b10)
      have N12 := Fr.snoc X12 N11 g_b10
      have Z12 : n0 ≤ h12.size := Nat.le_trans Z11 (Keep.of_wr W12).1
      have O12 := Old.wr O11 W12 g_b10
      have r12 := CHr.wr W12 (Safe.arr hZ.alike Ar12 (by decide)) R11.1
      have S12_b9 := r12.safe E_b9_11.lt S11_b9
      have R12 := R11.trans r12
      have hk12 := Nat.le_trans hk11 (Keep.of_wr W12).1
      obtain ⟨lg13, Y13, M13⟩ := stand_gen X12 N12
      obtain ⟨_, _, ⟨T14, L14, k14, n14⟩, -, X14, ⟨Lc14, hQ14, l14, y14, z14⟩, st14⟩ := Y13.specialBack hx (y := (⟨"java/lang/String", "<init>", "([C)V"⟩ : MethodName)) rfl hown (mvT hZ (hw _ (List.mem_of_getElem? (i := 4) rfl))) (mvT hZ (hw _ (List.mem_of_getElem? (i := 5) rfl))) (mvT hZ (hw _ (List.mem_of_getElem? (i := 6) rfl))) (by decide) (payNew (h := h12) (W := 1) (n := 2) (cs := ([(nar .char r0), (nar .char r1)] : List Int32)) (n0 := n0) hZ hw rfl g_b9 Z12 E_b9_12 F_b9_value_12 F_b9_coder_12 V_b10_12 (CS.ext O12.2) hcs (by decide) (by decide) (chS b_r0 (chS b_r1 ch0)) (by decide) (by decide)) (g := (mkF m 89 #[.val (.int p1), .val (.int p2), .val (.int p3), .val (.int r0), .val (.int r1), .val (.int d0), .val (.int d1), .val (.int (0 : Int32)), .val (.int (0 : Int32)), .unset, .unset, .unset, .unset, .unset] [(.ref b10), (.ref b9), (.ref b9)])) rfl (by rw [hml]; rfl) (Steps.refl _) (a := b9) (argsL := [(.ref b10)]) (rest := [(.ref b9)]) (lenOf pd21 rfl) rfl (by show 2 * 0 + _ ≤ _; exact Nat.le_of_eq rfl) (hb hby at_89) (fun _ _ => ⟨rfl, e12, (by decide : 2 + 1 ≤ _), (by decide : 6 + 2 ≤ _)⟩)
      dsimp only [Pt.U, Pt.locs, Pt.cells, Pt.slots] at X14 l14 y14 z14 st14 hQ14
      subst l14 y14 z14
      obtain ⟨d'_14, k'_14, bs'_14, rfl, N14q, Kc14, G14_0, G14_1, G14_2, G14_3, eqs_14, f_d'_14⟩ := hQ14
      have N14 := Fr.app M13 N14q
      have ne_b9_d'_14 : b9 ≠ d'_14 := Nat.ne_of_lt (Nat.lt_of_lt_of_le E_b9_12.lt f_d'_14)
      have ne_b10_d'_14 : b10 ≠ d'_14 := Nat.ne_of_lt (Nat.lt_of_lt_of_le V_b10_12.lt f_d'_14)
      have g_d'_14 : n0 ≤ d'_14 := Nat.le_trans Z12 f_d'_14
      have sz_d'_14 : h0.size ≤ d'_14 := Nat.le_trans K12.1 f_d'_14
      have S0_d'_14 : Safe Z consts_1 s.vm h12 d'_14 := Safe.new f_d'_14
      have V_b10_14 := V_b10_12.keep Kc14 (ninS (Ne.symm ne_b9_b10) nin0)
      have K14 : Keep h0 T14.heap [] := K12.trans Kc14 (allS (P := fun x => x ∈ ([] : List Addr) ∨ h0.size ≤ x) (Or.inr sz_b9) all0)
      have Z14 : n0 ≤ T14.heap.size := Nat.le_trans Z12 Kc14.1
      have O14 := Old.keep O12 Kc14 (allS g_b9 all0)
      have hs14 : ∀ x ∈ ([b9] : List Addr), Safe Z consts_1 s.vm h12 x := (sfS S12_b9 sf0)
      have r14 := CHr.keep Kc14 hs14 R12.1
      have S14_b9 := Safe.keep Kc14 hs14 R12.1 S12_b9
      have S14_d'_14 := Safe.keep Kc14 hs14 R12.1 S0_d'_14
      have R14 := R12.trans r14
      have hk14 := Nat.le_trans hk12 Kc14.1
      obtain ⟨T15, h15, X15, e15, E15, A15, D15, U15, st15⟩ := newO X14 hx hZ hown (hw _ (List.mem_of_getElem? (i := 0) rfl)) (hw _ (List.mem_of_getElem? (i := 1) rfl)) (hw _ (List.mem_of_getElem? (i := 2) rfl)) rfl (g := (mkF m 104 #[.val (.int p1), .val (.int p2), .val (.int p3), .val (.int r0), .val (.int r1), .val (.int d0), .val (.int d1), .val (.int (0 : Int32)), .val (.int (0 : Int32)), .val (.ref b9), .unset, .unset, .unset, .unset] [])) rfl (hb hby at_104) (by decide) (by decide)
      obtain ⟨b15, g15⟩ : ∃ z, z = T14.heap.size := ⟨_, rfl⟩
      rw [← g15] at A15 D15 U15 st15
      have ne_b9_b15 : b9 ≠ b15 := Nat.ne_of_lt (Nat.lt_of_lt_of_le G14_0.lt (Nat.le_of_eq g15.symm))
      have ne_b10_b15 : b10 ≠ b15 := Nat.ne_of_lt (Nat.lt_of_lt_of_le V_b10_14.lt (Nat.le_of_eq g15.symm))
      have ne_d__14_b15 : d'_14 ≠ b15 := Nat.ne_of_lt (Nat.lt_of_lt_of_le G14_3.lt (Nat.le_of_eq g15.symm))
      have g_b15 : n0 ≤ b15 := Nat.le_trans Z14 (Nat.le_of_eq g15.symm)
      have sz_b15 : h0.size ≤ b15 := Nat.le_trans K14.1 (Nat.le_of_eq g15.symm)
      have E_b9_15 := G14_0.ext E15
      have F_b9_coder_15 := G14_1.ext E15
      have F_b9_value_15 := G14_2.ext E15
      have V_b10_15 := V_b10_14.ext E15
      have V_d__14_15 := G14_3.ext E15
      have K15 : Keep h0 h15 [] := K14.ext E15
      have Z15 : n0 ≤ h15.size := Nat.le_trans Z14 E15.1
      have O15 := Old.ext O14 E15
      have S0_b15 : Safe Z consts_1 s.vm T14.heap b15 := Safe.new (Nat.le_of_eq g15.symm)
      have r15 := CHr.ext E15 R14.1
      have S15_b15 := Safe.ext E15 R14.1 S0_b15
      have R15 := R14.trans r15
      have hk15 := Nat.le_trans hk14 E15.1
      have F_coder_b15 : Fld Z h15 b15 "java/lang/String" "coder" "B" (.int (0 : Int32)) := D15 (Or.inr (hw _ (List.mem_of_getElem? (i := 27) rfl))) (ty := .byte) (by decide)
      have F_value_b15 : Fld Z h15 b15 "java/lang/String" "value" "[B" .null := D15 (Or.inr (hw _ (List.mem_of_getElem? (i := 29) rfl))) (ty := (.array .byte)) (by decide)
      obtain ⟨T16, h16, k16, X16, e16, E16, A16, st16⟩ := newP X15 hx hZ (hw _ (List.mem_of_getElem? (i := 3) rfl)) e15 (g := (mkF m 109 #[.val (.int p1), .val (.int p2), .val (.int p3), .val (.int r0), .val (.int r1), .val (.int d0), .val (.int d1), .val (.int (0 : Int32)), .val (.int (0 : Int32)), .val (.ref b9), .unset, .unset, .unset, .unset] [(.int (2 : Int32)), (.ref b15), (.ref b15)])) rfl (hb hby at_109) rfl (by decide) (cap := 2) (by decide) (by decide) (by decide) (by decide)
      obtain ⟨b16, g16⟩ : ∃ z, z = h15.size := ⟨_, rfl⟩
      rw [← g16] at A16 st16
      have ne_b9_b16 : b9 ≠ b16 := Nat.ne_of_lt (Nat.lt_of_lt_of_le E_b9_15.lt (Nat.le_of_eq g16.symm))
      have ne_b10_b16 : b10 ≠ b16 := Nat.ne_of_lt (Nat.lt_of_lt_of_le V_b10_15.lt (Nat.le_of_eq g16.symm))
      have ne_d__14_b16 : d'_14 ≠ b16 := Nat.ne_of_lt (Nat.lt_of_lt_of_le V_d__14_15.lt (Nat.le_of_eq g16.symm))
      have ne_b15_b16 : b15 ≠ b16 := Nat.ne_of_lt (Nat.lt_of_lt_of_le A15.lt (Nat.le_of_eq g16.symm))
      have g_b16 : n0 ≤ b16 := Nat.le_trans Z15 (Nat.le_of_eq g16.symm)
      have sz_b16 : h0.size ≤ b16 := Nat.le_trans K15.1 (Nat.le_of_eq g16.symm)
      have E_b9_16 := E_b9_15.ext E16
      have F_b9_coder_16 := F_b9_coder_15.ext E16
      have F_b9_value_16 := F_b9_value_15.ext E16
      have V_b10_16 := V_b10_15.ext E16
      have V_d__14_16 := V_d__14_15.ext E16
      have E_b15_16 := A15.ext E16
      have F_b15_coder_16 := F_coder_b15.ext E16
      have F_b15_value_16 := F_value_b15.ext E16
      have K16 : Keep h0 h16 [] := K15.ext E16
      have Z16 : n0 ≤ h16.size := Nat.le_trans Z15 E16.1
      have O16 := Old.ext O15 E16
      have r16 := CHr.ext E16 R15.1
      have S16_b15 := Safe.ext E16 R15.1 S15_b15
      have R16 := R15.trans r16
      have hk16 := Nat.le_trans hk15 E16.1
      have V_b16 : Arv Z h16 b16 k16 .char (2 : Int32) [(.int (0 : Int32)), (.int (0 : Int32))] (.int (0 : Int32)) := (Arv.new A16 (by decide)).pad (pad_rep [] (.int (0 : Int32)) 2)
      obtain ⟨cl17, Ar17, q17, S17_, N17_, H17_, G17_⟩ := V_b16
      have hin17 : ¬ ((0 : Int32) < 0 ∨ cl17.slots.size ≤ ((0 : Int32)).toNatClampNeg) := inb_of S17_ ⟨by decide, by decide⟩
      obtain ⟨T17, h17, X17, e17, W17, st17⟩ := stC X16 hx hZ e16 Ar17 (j := (0 : Int32)) hin17 (g := (mkF m 115 #[.val (.int p1), .val (.int p2), .val (.int p3), .val (.int r0), .val (.int r1), .val (.int d0), .val (.int d1), .val (.int (0 : Int32)), .val (.int (0 : Int32)), .val (.ref b9), .unset, .unset, .unset, .unset] [(.int d0), (.int (0 : Int32)), (.ref b16), (.ref b16), (.ref b15), (.ref b15)])) rfl rfl (hb hby at_115)
      have E_b9_17 := E_b9_16.wr W17
      have F_b9_coder_17 := F_b9_coder_16.other W17 (Or.inl ne_b9_b16)
      have F_b9_value_17 := F_b9_value_16.other W17 (Or.inl ne_b9_b16)
      have V_b10_17 := V_b10_16.other W17 ne_b10_b16
      have V_d__14_17 := V_d__14_16.other W17 ne_d__14_b16
      have E_b15_17 := E_b15_16.wr W17
      have F_b15_coder_17 := F_b15_coder_16.other W17 (Or.inl ne_b15_b16)
      have F_b15_value_17 := F_b15_value_16.other W17 (Or.inl ne_b15_b16)
      have V_b16_17 : Arv Z h17 b16 k16 .char (2 : Int32) [(.int (nar .char d0)), (.int (0 : Int32))] (.int (0 : Int32)) := Arv.set Ar17 q17 S17_ N17_ H17_ G17_ (fits_nar_char _) W17 0 rfl (Nat.le_of_ble_eq_true rfl)
      have K17 : Keep h0 h17 [] := K16.wr W17 (Or.inr sz_b16)
      have N17 := Fr.snoc X17 N14 g_b16
      have Z17 : n0 ≤ h17.size := Nat.le_trans Z16 (Keep.of_wr W17).1
      have O17 := Old.wr O16 W17 g_b16
      have r17 := CHr.wr W17 (Safe.arr hZ.alike Ar17 (by decide)) R16.1
      have S17_b15 := r17.safe E_b15_16.lt S16_b15
      have R17 := R16.trans r17
      have hk17 := Nat.le_trans hk16 (Keep.of_wr W17).1
      obtain ⟨cl18, Ar18, q18, S18_, N18_, H18_, G18_⟩ := V_b16_17
      have hin18 : ¬ ((1 : Int32) < 0 ∨ cl18.slots.size ≤ ((1 : Int32)).toNatClampNeg) := inb_of S18_ ⟨by decide, by decide⟩
      obtain ⟨T18, h18, X18, e18, W18, st18⟩ := stC X17 hx hZ e17 Ar18 (j := (1 : Int32)) hin18 (g := (mkF m 120 #[.val (.int p1), .val (.int p2), .val (.int p3), .val (.int r0), .val (.int r1), .val (.int d0), .val (.int d1), .val (.int (0 : Int32)), .val (.int (0 : Int32)), .val (.ref b9), .unset, .unset, .unset, .unset] [(.int d1), (.int (1 : Int32)), (.ref b16), (.ref b16), (.ref b15), (.ref b15)])) rfl rfl (hb hby at_120)
      have E_b9_18 := E_b9_17.wr W18
      have F_b9_coder_18 := F_b9_coder_17.other W18 (Or.inl ne_b9_b16)
      have F_b9_value_18 := F_b9_value_17.other W18 (Or.inl ne_b9_b16)
      have V_b10_18 := V_b10_17.other W18 ne_b10_b16
      have V_d__14_18 := V_d__14_17.other W18 ne_d__14_b16
      have E_b15_18 := E_b15_17.wr W18
      have F_b15_coder_18 := F_b15_coder_17.other W18 (Or.inl ne_b15_b16)
      have F_b15_value_18 := F_b15_value_17.other W18 (Or.inl ne_b15_b16)
      have V_b16_18 : Arv Z h18 b16 k16 .char (2 : Int32) [(.int (nar .char d0)), (.int (nar .char d1))] (.int (0 : Int32)) := Arv.set Ar18 q18 S18_ N18_ H18_ G18_ (fits_nar_char _) W18 1 rfl (Nat.le_of_ble_eq_true rfl)
      have K18 : Keep h0 h18 [] := K17.wr W18 (Or.inr sz_b16)
      have N18 := Fr.snoc X18 N17 g_b16
      have Z18 : n0 ≤ h18.size := Nat.le_trans Z17 (Keep.of_wr W18).1
      have O18 := Old.wr O17 W18 g_b16
      have r18 := CHr.wr W18 (Safe.arr hZ.alike Ar18 (by decide)) R17.1
      have S18_b15 := r18.safe E_b15_17.lt S17_b15
      have R18 := R17.trans r18
      have hk18 := Nat.le_trans hk17 (Keep.of_wr W18).1
      obtain ⟨lg19, Y19, M19⟩ := stand_gen X18 N18
      obtain ⟨_, _, ⟨T20, L20, k20, n20⟩, -, X20, ⟨Lc20, hQ20, l20, y20, z20⟩, st20⟩ := Y19.specialBack hx (y := (⟨"java/lang/String", "<init>", "([C)V"⟩ : MethodName)) rfl hown (mvT hZ (hw _ (List.mem_of_getElem? (i := 4) rfl))) (mvT hZ (hw _ (List.mem_of_getElem? (i := 5) rfl))) (mvT hZ (hw _ (List.mem_of_getElem? (i := 6) rfl))) (by decide) (payNew (h := h18) (W := 1) (n := 2) (cs := ([(nar .char d0), (nar .char d1)] : List Int32)) (n0 := n0) hZ hw rfl g_b15 Z18 E_b15_18 F_b15_value_18 F_b15_coder_18 V_b16_18 (CS.ext O18.2) hcs (by decide) (by decide) (chS b_d0 (chS b_d1 ch0)) (by decide) (by decide)) (g := (mkF m 121 #[.val (.int p1), .val (.int p2), .val (.int p3), .val (.int r0), .val (.int r1), .val (.int d0), .val (.int d1), .val (.int (0 : Int32)), .val (.int (0 : Int32)), .val (.ref b9), .unset, .unset, .unset, .unset] [(.ref b16), (.ref b15), (.ref b15)])) rfl (by rw [hml]; rfl) (Steps.refl _) (a := b15) (argsL := [(.ref b16)]) (rest := [(.ref b15)]) (lenOf pd21 rfl) rfl (by show 2 * 0 + _ ≤ _; exact Nat.le_of_eq rfl) (hb hby at_121) (fun _ _ => ⟨rfl, e18, (by decide : 5 + 1 ≤ _), (by decide : 14 + 2 ≤ _)⟩)
      dsimp only [Pt.U, Pt.locs, Pt.cells, Pt.slots] at X20 l20 y20 z20 st20 hQ20
      subst l20 y20 z20
      obtain ⟨d'_20, k'_20, bs'_20, rfl, N20q, Kc20, G20_0, G20_1, G20_2, G20_3, eqs_20, f_d'_20⟩ := hQ20
      have N20 := Fr.app M19 N20q
      have ne_b9_d'_20 : b9 ≠ d'_20 := Nat.ne_of_lt (Nat.lt_of_lt_of_le E_b9_18.lt f_d'_20)
      have ne_b10_d'_20 : b10 ≠ d'_20 := Nat.ne_of_lt (Nat.lt_of_lt_of_le V_b10_18.lt f_d'_20)
      have ne_d__14_d'_20 : d'_14 ≠ d'_20 := Nat.ne_of_lt (Nat.lt_of_lt_of_le V_d__14_18.lt f_d'_20)
      have ne_b15_d'_20 : b15 ≠ d'_20 := Nat.ne_of_lt (Nat.lt_of_lt_of_le E_b15_18.lt f_d'_20)
      have ne_b16_d'_20 : b16 ≠ d'_20 := Nat.ne_of_lt (Nat.lt_of_lt_of_le V_b16_18.lt f_d'_20)
      have g_d'_20 : n0 ≤ d'_20 := Nat.le_trans Z18 f_d'_20
      have sz_d'_20 : h0.size ≤ d'_20 := Nat.le_trans K18.1 f_d'_20
      have S0_d'_20 : Safe Z consts_1 s.vm h18 d'_20 := Safe.new f_d'_20
      have E_b9_20 := E_b9_18.keep Kc20
      have F_b9_coder_20 := F_b9_coder_18.keep Kc20 (ninS ne_b9_b15 nin0)
      have F_b9_value_20 := F_b9_value_18.keep Kc20 (ninS ne_b9_b15 nin0)
      have V_b10_20 := V_b10_18.keep Kc20 (ninS ne_b10_b15 nin0)
      have V_d__14_20 := V_d__14_18.keep Kc20 (ninS ne_d__14_b15 nin0)
      have V_b16_20 := V_b16_18.keep Kc20 (ninS (Ne.symm ne_b15_b16) nin0)
      have K20 : Keep h0 T20.heap [] := K18.trans Kc20 (allS (P := fun x => x ∈ ([] : List Addr) ∨ h0.size ≤ x) (Or.inr sz_b15) all0)
      have Z20 : n0 ≤ T20.heap.size := Nat.le_trans Z18 Kc20.1
      have O20 := Old.keep O18 Kc20 (allS g_b15 all0)
      have hs20 : ∀ x ∈ ([b15] : List Addr), Safe Z consts_1 s.vm h18 x := (sfS S18_b15 sf0)
      have r20 := CHr.keep Kc20 hs20 R18.1
      have S20_b15 := Safe.keep Kc20 hs20 R18.1 S18_b15
      have S20_d'_20 := Safe.keep Kc20 hs20 R18.1 S0_d'_20
      have R20 := R18.trans r20
      have hk20 := Nat.le_trans hk18 Kc20.1
      obtain ⟨T21, h21, X21, e21, E21, A21, D21, U21, st21⟩ := newO X20 hx hZ hown (hw _ (List.mem_of_getElem? (i := 0) rfl)) (hw _ (List.mem_of_getElem? (i := 1) rfl)) (hw _ (List.mem_of_getElem? (i := 2) rfl)) rfl (g := (mkF m 136 #[.val (.int p1), .val (.int p2), .val (.int p3), .val (.int r0), .val (.int r1), .val (.int d0), .val (.int d1), .val (.int (0 : Int32)), .val (.int (0 : Int32)), .val (.ref b9), .val (.ref b15), .unset, .unset, .unset] [])) rfl (hb hby at_136) (by decide) (by decide)
      obtain ⟨b21, g21⟩ : ∃ z, z = T20.heap.size := ⟨_, rfl⟩
      rw [← g21] at A21 D21 U21 st21
      have ne_b9_b21 : b9 ≠ b21 := Nat.ne_of_lt (Nat.lt_of_lt_of_le E_b9_20.lt (Nat.le_of_eq g21.symm))
      have ne_b10_b21 : b10 ≠ b21 := Nat.ne_of_lt (Nat.lt_of_lt_of_le V_b10_20.lt (Nat.le_of_eq g21.symm))
      have ne_d__14_b21 : d'_14 ≠ b21 := Nat.ne_of_lt (Nat.lt_of_lt_of_le V_d__14_20.lt (Nat.le_of_eq g21.symm))
      have ne_b15_b21 : b15 ≠ b21 := Nat.ne_of_lt (Nat.lt_of_lt_of_le G20_0.lt (Nat.le_of_eq g21.symm))
      have ne_b16_b21 : b16 ≠ b21 := Nat.ne_of_lt (Nat.lt_of_lt_of_le V_b16_20.lt (Nat.le_of_eq g21.symm))
      have ne_d__20_b21 : d'_20 ≠ b21 := Nat.ne_of_lt (Nat.lt_of_lt_of_le G20_3.lt (Nat.le_of_eq g21.symm))
      have g_b21 : n0 ≤ b21 := Nat.le_trans Z20 (Nat.le_of_eq g21.symm)
      have sz_b21 : h0.size ≤ b21 := Nat.le_trans K20.1 (Nat.le_of_eq g21.symm)
      have E_b9_21 := E_b9_20.ext E21
      have F_b9_coder_21 := F_b9_coder_20.ext E21
      have F_b9_value_21 := F_b9_value_20.ext E21
      have V_b10_21 := V_b10_20.ext E21
      have V_d__14_21 := V_d__14_20.ext E21
      have E_b15_21 := G20_0.ext E21
      have F_b15_coder_21 := G20_1.ext E21
      have F_b15_value_21 := G20_2.ext E21
      have V_b16_21 := V_b16_20.ext E21
      have V_d__20_21 := G20_3.ext E21
      have K21 : Keep h0 h21 [] := K20.ext E21
      have Z21 : n0 ≤ h21.size := Nat.le_trans Z20 E21.1
      have O21 := Old.ext O20 E21
      have S0_b21 : Safe Z consts_1 s.vm T20.heap b21 := Safe.new (Nat.le_of_eq g21.symm)
      have r21 := CHr.ext E21 R20.1
      have S21_b21 := Safe.ext E21 R20.1 S0_b21
      have R21 := R20.trans r21
      have hk21 := Nat.le_trans hk20 E21.1
      have F_coder_b21 : Fld Z h21 b21 "java/lang/String" "coder" "B" (.int (0 : Int32)) := D21 (Or.inr (hw _ (List.mem_of_getElem? (i := 27) rfl))) (ty := .byte) (by decide)
      have F_value_b21 : Fld Z h21 b21 "java/lang/String" "value" "[B" .null := D21 (Or.inr (hw _ (List.mem_of_getElem? (i := 29) rfl))) (ty := (.array .byte)) (by decide)
      obtain ⟨T22, h22, k22, X22, e22, E22, A22, st22⟩ := newP X21 hx hZ (hw _ (List.mem_of_getElem? (i := 3) rfl)) e21 (g := (mkF m 142 #[.val (.int p1), .val (.int p2), .val (.int p3), .val (.int r0), .val (.int r1), .val (.int d0), .val (.int d1), .val (.int (0 : Int32)), .val (.int (0 : Int32)), .val (.ref b9), .val (.ref b15), .unset, .unset, .unset] [(.int (11 : Int32)), (.ref b21), (.ref b21)])) rfl (hb hby at_142) rfl (by decide) (cap := 11) (by decide) (by decide) (by decide) (by decide)
      obtain ⟨b22, g22⟩ : ∃ z, z = h21.size := ⟨_, rfl⟩
      rw [← g22] at A22 st22
      have ne_b9_b22 : b9 ≠ b22 := Nat.ne_of_lt (Nat.lt_of_lt_of_le E_b9_21.lt (Nat.le_of_eq g22.symm))
      have ne_b10_b22 : b10 ≠ b22 := Nat.ne_of_lt (Nat.lt_of_lt_of_le V_b10_21.lt (Nat.le_of_eq g22.symm))
      have ne_d__14_b22 : d'_14 ≠ b22 := Nat.ne_of_lt (Nat.lt_of_lt_of_le V_d__14_21.lt (Nat.le_of_eq g22.symm))
      have ne_b15_b22 : b15 ≠ b22 := Nat.ne_of_lt (Nat.lt_of_lt_of_le E_b15_21.lt (Nat.le_of_eq g22.symm))
      have ne_b16_b22 : b16 ≠ b22 := Nat.ne_of_lt (Nat.lt_of_lt_of_le V_b16_21.lt (Nat.le_of_eq g22.symm))
      have ne_d__20_b22 : d'_20 ≠ b22 := Nat.ne_of_lt (Nat.lt_of_lt_of_le V_d__20_21.lt (Nat.le_of_eq g22.symm))
      have ne_b21_b22 : b21 ≠ b22 := Nat.ne_of_lt (Nat.lt_of_lt_of_le A21.lt (Nat.le_of_eq g22.symm))
      have g_b22 : n0 ≤ b22 := Nat.le_trans Z21 (Nat.le_of_eq g22.symm)
      have sz_b22 : h0.size ≤ b22 := Nat.le_trans K21.1 (Nat.le_of_eq g22.symm)
      have E_b9_22 := E_b9_21.ext E22
      have F_b9_coder_22 := F_b9_coder_21.ext E22
      have F_b9_value_22 := F_b9_value_21.ext E22
      have V_b10_22 := V_b10_21.ext E22
      have V_d__14_22 := V_d__14_21.ext E22
      have E_b15_22 := E_b15_21.ext E22
      have F_b15_coder_22 := F_b15_coder_21.ext E22
      have F_b15_value_22 := F_b15_value_21.ext E22
      have V_b16_22 := V_b16_21.ext E22
      have V_d__20_22 := V_d__20_21.ext E22
      have E_b21_22 := A21.ext E22
      have F_b21_coder_22 := F_coder_b21.ext E22
      have F_b21_value_22 := F_value_b21.ext E22
      have K22 : Keep h0 h22 [] := K21.ext E22
      have Z22 : n0 ≤ h22.size := Nat.le_trans Z21 E22.1
      have O22 := Old.ext O21 E22
      have r22 := CHr.ext E22 R21.1
      have S22_b21 := Safe.ext E22 R21.1 S21_b21
      have R22 := R21.trans r22
      have hk22 := Nat.le_trans hk21 E22.1
      have V_b22 : Arv Z h22 b22 k22 .char (11 : Int32) [(.int (0 : Int32)), (.int (0 : Int32)), (.int (0 : Int32)), (.int (0 : Int32)), (.int (0 : Int32)), (.int (0 : Int32)), (.int (0 : Int32)), (.int (0 : Int32)), (.int (0 : Int32)), (.int (0 : Int32)), (.int (0 : Int32))] (.int (0 : Int32)) := (Arv.new A22 (by decide)).pad (pad_rep [] (.int (0 : Int32)) 11)
      obtain ⟨cl23, Ar23, q23, S23_, N23_, H23_, G23_⟩ := V_b22
      have hin23 : ¬ ((0 : Int32) < 0 ∨ cl23.slots.size ≤ ((0 : Int32)).toNatClampNeg) := inb_of S23_ ⟨by decide, by decide⟩
      obtain ⟨T23, h23, X23, e23, W23, st23⟩ := stC X22 hx hZ e22 Ar23 (j := (0 : Int32)) hin23 (g := (mkF m 148 #[.val (.int p1), .val (.int p2), .val (.int p3), .val (.int r0), .val (.int r1), .val (.int d0), .val (.int d1), .val (.int (0 : Int32)), .val (.int (0 : Int32)), .val (.ref b9), .val (.ref b15), .unset, .unset, .unset] [(.int (114 : Int32)), (.int (0 : Int32)), (.ref b22), (.ref b22), (.ref b21), (.ref b21)])) rfl rfl (hb hby at_148)
      have E_b9_23 := E_b9_22.wr W23
      have F_b9_coder_23 := F_b9_coder_22.other W23 (Or.inl ne_b9_b22)
      have F_b9_value_23 := F_b9_value_22.other W23 (Or.inl ne_b9_b22)
      have V_b10_23 := V_b10_22.other W23 ne_b10_b22
      have V_d__14_23 := V_d__14_22.other W23 ne_d__14_b22
      have E_b15_23 := E_b15_22.wr W23
      have F_b15_coder_23 := F_b15_coder_22.other W23 (Or.inl ne_b15_b22)
      have F_b15_value_23 := F_b15_value_22.other W23 (Or.inl ne_b15_b22)
      have V_b16_23 := V_b16_22.other W23 ne_b16_b22
      have V_d__20_23 := V_d__20_22.other W23 ne_d__20_b22
      have E_b21_23 := E_b21_22.wr W23
      have F_b21_coder_23 := F_b21_coder_22.other W23 (Or.inl ne_b21_b22)
      have F_b21_value_23 := F_b21_value_22.other W23 (Or.inl ne_b21_b22)
      have V_b22_23 : Arv Z h23 b22 k22 .char (11 : Int32) [(.int (nar .char (114 : Int32))), (.int (0 : Int32)), (.int (0 : Int32)), (.int (0 : Int32)), (.int (0 : Int32)), (.int (0 : Int32)), (.int (0 : Int32)), (.int (0 : Int32)), (.int (0 : Int32)), (.int (0 : Int32)), (.int (0 : Int32))] (.int (0 : Int32)) := Arv.set Ar23 q23 S23_ N23_ H23_ G23_ (fits_nar_char _) W23 0 rfl (Nat.le_of_ble_eq_true rfl)
      have K23 : Keep h0 h23 [] := K22.wr W23 (Or.inr sz_b22)
      have N23 := Fr.snoc X23 N20 g_b22
      have Z23 : n0 ≤ h23.size := Nat.le_trans Z22 (Keep.of_wr W23).1
      have O23 := Old.wr O22 W23 g_b22
      have r23 := CHr.wr W23 (Safe.arr hZ.alike Ar23 (by decide)) R22.1
      have S23_b21 := r23.safe E_b21_22.lt S22_b21
      have R23 := R22.trans r23
      have hk23 := Nat.le_trans hk22 (Keep.of_wr W23).1
      obtain ⟨cl24, Ar24, q24, S24_, N24_, H24_, G24_⟩ := V_b22_23
      have hin24 : ¬ ((1 : Int32) < 0 ∨ cl24.slots.size ≤ ((1 : Int32)).toNatClampNeg) := inb_of S24_ ⟨by decide, by decide⟩
      obtain ⟨T24, h24, X24, e24, W24, st24⟩ := stC X23 hx hZ e23 Ar24 (j := (1 : Int32)) hin24 (g := (mkF m 153 #[.val (.int p1), .val (.int p2), .val (.int p3), .val (.int r0), .val (.int r1), .val (.int d0), .val (.int d1), .val (.int (0 : Int32)), .val (.int (0 : Int32)), .val (.ref b9), .val (.ref b15), .unset, .unset, .unset] [(.int (101 : Int32)), (.int (1 : Int32)), (.ref b22), (.ref b22), (.ref b21), (.ref b21)])) rfl rfl (hb hby at_153)
      have E_b9_24 := E_b9_23.wr W24
      have F_b9_coder_24 := F_b9_coder_23.other W24 (Or.inl ne_b9_b22)
      have F_b9_value_24 := F_b9_value_23.other W24 (Or.inl ne_b9_b22)
      have V_b10_24 := V_b10_23.other W24 ne_b10_b22
      have V_d__14_24 := V_d__14_23.other W24 ne_d__14_b22
      have E_b15_24 := E_b15_23.wr W24
      have F_b15_coder_24 := F_b15_coder_23.other W24 (Or.inl ne_b15_b22)
      have F_b15_value_24 := F_b15_value_23.other W24 (Or.inl ne_b15_b22)
      have V_b16_24 := V_b16_23.other W24 ne_b16_b22
      have V_d__20_24 := V_d__20_23.other W24 ne_d__20_b22
      have E_b21_24 := E_b21_23.wr W24
      have F_b21_coder_24 := F_b21_coder_23.other W24 (Or.inl ne_b21_b22)
      have F_b21_value_24 := F_b21_value_23.other W24 (Or.inl ne_b21_b22)
      have V_b22_24 : Arv Z h24 b22 k22 .char (11 : Int32) [(.int (nar .char (114 : Int32))), (.int (nar .char (101 : Int32))), (.int (0 : Int32)), (.int (0 : Int32)), (.int (0 : Int32)), (.int (0 : Int32)), (.int (0 : Int32)), (.int (0 : Int32)), (.int (0 : Int32)), (.int (0 : Int32)), (.int (0 : Int32))] (.int (0 : Int32)) := Arv.set Ar24 q24 S24_ N24_ H24_ G24_ (fits_nar_char _) W24 1 rfl (Nat.le_of_ble_eq_true rfl)
      have K24 : Keep h0 h24 [] := K23.wr W24 (Or.inr sz_b22)
      have N24 := Fr.snoc X24 N23 g_b22
      have Z24 : n0 ≤ h24.size := Nat.le_trans Z23 (Keep.of_wr W24).1
      have O24 := Old.wr O23 W24 g_b22
      have r24 := CHr.wr W24 (Safe.arr hZ.alike Ar24 (by decide)) R23.1
      have S24_b21 := r24.safe E_b21_23.lt S23_b21
      have R24 := R23.trans r24
      have hk24 := Nat.le_trans hk23 (Keep.of_wr W24).1
      obtain ⟨cl25, Ar25, q25, S25_, N25_, H25_, G25_⟩ := V_b22_24
      have hin25 : ¬ ((2 : Int32) < 0 ∨ cl25.slots.size ≤ ((2 : Int32)).toNatClampNeg) := inb_of S25_ ⟨by decide, by decide⟩
      obtain ⟨T25, h25, X25, e25, W25, st25⟩ := stC X24 hx hZ e24 Ar25 (j := (2 : Int32)) hin25 (g := (mkF m 158 #[.val (.int p1), .val (.int p2), .val (.int p3), .val (.int r0), .val (.int r1), .val (.int d0), .val (.int d1), .val (.int (0 : Int32)), .val (.int (0 : Int32)), .val (.ref b9), .val (.ref b15), .unset, .unset, .unset] [(.int (102 : Int32)), (.int (2 : Int32)), (.ref b22), (.ref b22), (.ref b21), (.ref b21)])) rfl rfl (hb hby at_158)
      have E_b9_25 := E_b9_24.wr W25
      have F_b9_coder_25 := F_b9_coder_24.other W25 (Or.inl ne_b9_b22)
      have F_b9_value_25 := F_b9_value_24.other W25 (Or.inl ne_b9_b22)
      have V_b10_25 := V_b10_24.other W25 ne_b10_b22
      have V_d__14_25 := V_d__14_24.other W25 ne_d__14_b22
      have E_b15_25 := E_b15_24.wr W25
      have F_b15_coder_25 := F_b15_coder_24.other W25 (Or.inl ne_b15_b22)
      have F_b15_value_25 := F_b15_value_24.other W25 (Or.inl ne_b15_b22)
      have V_b16_25 := V_b16_24.other W25 ne_b16_b22
      have V_d__20_25 := V_d__20_24.other W25 ne_d__20_b22
      have E_b21_25 := E_b21_24.wr W25
      have F_b21_coder_25 := F_b21_coder_24.other W25 (Or.inl ne_b21_b22)
      have F_b21_value_25 := F_b21_value_24.other W25 (Or.inl ne_b21_b22)
      have V_b22_25 : Arv Z h25 b22 k22 .char (11 : Int32) [(.int (nar .char (114 : Int32))), (.int (nar .char (101 : Int32))), (.int (nar .char (102 : Int32))), (.int (0 : Int32)), (.int (0 : Int32)), (.int (0 : Int32)), (.int (0 : Int32)), (.int (0 : Int32)), (.int (0 : Int32)), (.int (0 : Int32)), (.int (0 : Int32))] (.int (0 : Int32)) := Arv.set Ar25 q25 S25_ N25_ H25_ G25_ (fits_nar_char _) W25 2 rfl (Nat.le_of_ble_eq_true rfl)
      have K25 : Keep h0 h25 [] := K24.wr W25 (Or.inr sz_b22)
      have N25 := Fr.snoc X25 N24 g_b22
      have Z25 : n0 ≤ h25.size := Nat.le_trans Z24 (Keep.of_wr W25).1
      have O25 := Old.wr O24 W25 g_b22
      have r25 := CHr.wr W25 (Safe.arr hZ.alike Ar25 (by decide)) R24.1
      have S25_b21 := r25.safe E_b21_24.lt S24_b21
      have R25 := R24.trans r25
      have hk25 := Nat.le_trans hk24 (Keep.of_wr W25).1
      obtain ⟨cl26, Ar26, q26, S26_, N26_, H26_, G26_⟩ := V_b22_25
      have hin26 : ¬ ((3 : Int32) < 0 ∨ cl26.slots.size ≤ ((3 : Int32)).toNatClampNeg) := inb_of S26_ ⟨by decide, by decide⟩
      obtain ⟨T26, h26, X26, e26, W26, st26⟩ := stC X25 hx hZ e25 Ar26 (j := (3 : Int32)) hin26 (g := (mkF m 163 #[.val (.int p1), .val (.int p2), .val (.int p3), .val (.int r0), .val (.int r1), .val (.int d0), .val (.int d1), .val (.int (0 : Int32)), .val (.int (0 : Int32)), .val (.ref b9), .val (.ref b15), .unset, .unset, .unset] [(.int (117 : Int32)), (.int (3 : Int32)), (.ref b22), (.ref b22), (.ref b21), (.ref b21)])) rfl rfl (hb hby at_163)
      have E_b9_26 := E_b9_25.wr W26
      have F_b9_coder_26 := F_b9_coder_25.other W26 (Or.inl ne_b9_b22)
      have F_b9_value_26 := F_b9_value_25.other W26 (Or.inl ne_b9_b22)
      have V_b10_26 := V_b10_25.other W26 ne_b10_b22
      have V_d__14_26 := V_d__14_25.other W26 ne_d__14_b22
      have E_b15_26 := E_b15_25.wr W26
      have F_b15_coder_26 := F_b15_coder_25.other W26 (Or.inl ne_b15_b22)
      have F_b15_value_26 := F_b15_value_25.other W26 (Or.inl ne_b15_b22)
      have V_b16_26 := V_b16_25.other W26 ne_b16_b22
      have V_d__20_26 := V_d__20_25.other W26 ne_d__20_b22
      have E_b21_26 := E_b21_25.wr W26
      have F_b21_coder_26 := F_b21_coder_25.other W26 (Or.inl ne_b21_b22)
      have F_b21_value_26 := F_b21_value_25.other W26 (Or.inl ne_b21_b22)
      have V_b22_26 : Arv Z h26 b22 k22 .char (11 : Int32) [(.int (nar .char (114 : Int32))), (.int (nar .char (101 : Int32))), (.int (nar .char (102 : Int32))), (.int (nar .char (117 : Int32))), (.int (0 : Int32)), (.int (0 : Int32)), (.int (0 : Int32)), (.int (0 : Int32)), (.int (0 : Int32)), (.int (0 : Int32)), (.int (0 : Int32))] (.int (0 : Int32)) := Arv.set Ar26 q26 S26_ N26_ H26_ G26_ (fits_nar_char _) W26 3 rfl (Nat.le_of_ble_eq_true rfl)
      have K26 : Keep h0 h26 [] := K25.wr W26 (Or.inr sz_b22)
      have N26 := Fr.snoc X26 N25 g_b22
      have Z26 : n0 ≤ h26.size := Nat.le_trans Z25 (Keep.of_wr W26).1
      have O26 := Old.wr O25 W26 g_b22
      have r26 := CHr.wr W26 (Safe.arr hZ.alike Ar26 (by decide)) R25.1
      have S26_b21 := r26.safe E_b21_25.lt S25_b21
      have R26 := R25.trans r26
      have hk26 := Nat.le_trans hk25 (Keep.of_wr W26).1
      obtain ⟨cl27, Ar27, q27, S27_, N27_, H27_, G27_⟩ := V_b22_26
      have hin27 : ¬ ((4 : Int32) < 0 ∨ cl27.slots.size ≤ ((4 : Int32)).toNatClampNeg) := inb_of S27_ ⟨by decide, by decide⟩
      obtain ⟨T27, h27, X27, e27, W27, st27⟩ := stC X26 hx hZ e26 Ar27 (j := (4 : Int32)) hin27 (g := (mkF m 168 #[.val (.int p1), .val (.int p2), .val (.int p3), .val (.int r0), .val (.int r1), .val (.int d0), .val (.int d1), .val (.int (0 : Int32)), .val (.int (0 : Int32)), .val (.ref b9), .val (.ref b15), .unset, .unset, .unset] [(.int (115 : Int32)), (.int (4 : Int32)), (.ref b22), (.ref b22), (.ref b21), (.ref b21)])) rfl rfl (hb hby at_168)
      have E_b9_27 := E_b9_26.wr W27
      have F_b9_coder_27 := F_b9_coder_26.other W27 (Or.inl ne_b9_b22)
      have F_b9_value_27 := F_b9_value_26.other W27 (Or.inl ne_b9_b22)
      have V_b10_27 := V_b10_26.other W27 ne_b10_b22
      have V_d__14_27 := V_d__14_26.other W27 ne_d__14_b22
      have E_b15_27 := E_b15_26.wr W27
      have F_b15_coder_27 := F_b15_coder_26.other W27 (Or.inl ne_b15_b22)
      have F_b15_value_27 := F_b15_value_26.other W27 (Or.inl ne_b15_b22)
      have V_b16_27 := V_b16_26.other W27 ne_b16_b22
      have V_d__20_27 := V_d__20_26.other W27 ne_d__20_b22
      have E_b21_27 := E_b21_26.wr W27
      have F_b21_coder_27 := F_b21_coder_26.other W27 (Or.inl ne_b21_b22)
      have F_b21_value_27 := F_b21_value_26.other W27 (Or.inl ne_b21_b22)
      have V_b22_27 : Arv Z h27 b22 k22 .char (11 : Int32) [(.int (nar .char (114 : Int32))), (.int (nar .char (101 : Int32))), (.int (nar .char (102 : Int32))), (.int (nar .char (117 : Int32))), (.int (nar .char (115 : Int32))), (.int (0 : Int32)), (.int (0 : Int32)), (.int (0 : Int32)), (.int (0 : Int32)), (.int (0 : Int32)), (.int (0 : Int32))] (.int (0 : Int32)) := Arv.set Ar27 q27 S27_ N27_ H27_ G27_ (fits_nar_char _) W27 4 rfl (Nat.le_of_ble_eq_true rfl)
      have K27 : Keep h0 h27 [] := K26.wr W27 (Or.inr sz_b22)
      have N27 := Fr.snoc X27 N26 g_b22
      have Z27 : n0 ≤ h27.size := Nat.le_trans Z26 (Keep.of_wr W27).1
      have O27 := Old.wr O26 W27 g_b22
      have r27 := CHr.wr W27 (Safe.arr hZ.alike Ar27 (by decide)) R26.1
      have S27_b21 := r27.safe E_b21_26.lt S26_b21
      have R27 := R26.trans r27
      have hk27 := Nat.le_trans hk26 (Keep.of_wr W27).1
      obtain ⟨cl28, Ar28, q28, S28_, N28_, H28_, G28_⟩ := V_b22_27
      have hin28 : ¬ ((5 : Int32) < 0 ∨ cl28.slots.size ≤ ((5 : Int32)).toNatClampNeg) := inb_of S28_ ⟨by decide, by decide⟩
      obtain ⟨T28, h28, X28, e28, W28, st28⟩ := stC X27 hx hZ e27 Ar28 (j := (5 : Int32)) hin28 (g := (mkF m 173 #[.val (.int p1), .val (.int p2), .val (.int p3), .val (.int r0), .val (.int r1), .val (.int d0), .val (.int d1), .val (.int (0 : Int32)), .val (.int (0 : Int32)), .val (.ref b9), .val (.ref b15), .unset, .unset, .unset] [(.int (101 : Int32)), (.int (5 : Int32)), (.ref b22), (.ref b22), (.ref b21), (.ref b21)])) rfl rfl (hb hby at_173)
      have E_b9_28 := E_b9_27.wr W28
      have F_b9_coder_28 := F_b9_coder_27.other W28 (Or.inl ne_b9_b22)
      have F_b9_value_28 := F_b9_value_27.other W28 (Or.inl ne_b9_b22)
      have V_b10_28 := V_b10_27.other W28 ne_b10_b22
      have V_d__14_28 := V_d__14_27.other W28 ne_d__14_b22
      have E_b15_28 := E_b15_27.wr W28
      have F_b15_coder_28 := F_b15_coder_27.other W28 (Or.inl ne_b15_b22)
      have F_b15_value_28 := F_b15_value_27.other W28 (Or.inl ne_b15_b22)
      have V_b16_28 := V_b16_27.other W28 ne_b16_b22
      have V_d__20_28 := V_d__20_27.other W28 ne_d__20_b22
      have E_b21_28 := E_b21_27.wr W28
      have F_b21_coder_28 := F_b21_coder_27.other W28 (Or.inl ne_b21_b22)
      have F_b21_value_28 := F_b21_value_27.other W28 (Or.inl ne_b21_b22)
      have V_b22_28 : Arv Z h28 b22 k22 .char (11 : Int32) [(.int (nar .char (114 : Int32))), (.int (nar .char (101 : Int32))), (.int (nar .char (102 : Int32))), (.int (nar .char (117 : Int32))), (.int (nar .char (115 : Int32))), (.int (nar .char (101 : Int32))), (.int (0 : Int32)), (.int (0 : Int32)), (.int (0 : Int32)), (.int (0 : Int32)), (.int (0 : Int32))] (.int (0 : Int32)) := Arv.set Ar28 q28 S28_ N28_ H28_ G28_ (fits_nar_char _) W28 5 rfl (Nat.le_of_ble_eq_true rfl)
      have K28 : Keep h0 h28 [] := K27.wr W28 (Or.inr sz_b22)
      have N28 := Fr.snoc X28 N27 g_b22
      have Z28 : n0 ≤ h28.size := Nat.le_trans Z27 (Keep.of_wr W28).1
      have O28 := Old.wr O27 W28 g_b22
      have r28 := CHr.wr W28 (Safe.arr hZ.alike Ar28 (by decide)) R27.1
      have S28_b21 := r28.safe E_b21_27.lt S27_b21
      have R28 := R27.trans r28
      have hk28 := Nat.le_trans hk27 (Keep.of_wr W28).1
      obtain ⟨cl29, Ar29, q29, S29_, N29_, H29_, G29_⟩ := V_b22_28
      have hin29 : ¬ ((6 : Int32) < 0 ∨ cl29.slots.size ≤ ((6 : Int32)).toNatClampNeg) := inb_of S29_ ⟨by decide, by decide⟩
      obtain ⟨T29, h29, X29, e29, W29, st29⟩ := stC X28 hx hZ e28 Ar29 (j := (6 : Int32)) hin29 (g := (mkF m 179 #[.val (.int p1), .val (.int p2), .val (.int p3), .val (.int r0), .val (.int r1), .val (.int d0), .val (.int d1), .val (.int (0 : Int32)), .val (.int (0 : Int32)), .val (.ref b9), .val (.ref b15), .unset, .unset, .unset] [(.int (100 : Int32)), (.int (6 : Int32)), (.ref b22), (.ref b22), (.ref b21), (.ref b21)])) rfl rfl (hb hby at_179)
      have E_b9_29 := E_b9_28.wr W29
      have F_b9_coder_29 := F_b9_coder_28.other W29 (Or.inl ne_b9_b22)
      have F_b9_value_29 := F_b9_value_28.other W29 (Or.inl ne_b9_b22)
      have V_b10_29 := V_b10_28.other W29 ne_b10_b22
      have V_d__14_29 := V_d__14_28.other W29 ne_d__14_b22
      have E_b15_29 := E_b15_28.wr W29
      have F_b15_coder_29 := F_b15_coder_28.other W29 (Or.inl ne_b15_b22)
      have F_b15_value_29 := F_b15_value_28.other W29 (Or.inl ne_b15_b22)
      have V_b16_29 := V_b16_28.other W29 ne_b16_b22
      have V_d__20_29 := V_d__20_28.other W29 ne_d__20_b22
      have E_b21_29 := E_b21_28.wr W29
      have F_b21_coder_29 := F_b21_coder_28.other W29 (Or.inl ne_b21_b22)
      have F_b21_value_29 := F_b21_value_28.other W29 (Or.inl ne_b21_b22)
      have V_b22_29 : Arv Z h29 b22 k22 .char (11 : Int32) [(.int (nar .char (114 : Int32))), (.int (nar .char (101 : Int32))), (.int (nar .char (102 : Int32))), (.int (nar .char (117 : Int32))), (.int (nar .char (115 : Int32))), (.int (nar .char (101 : Int32))), (.int (nar .char (100 : Int32))), (.int (0 : Int32)), (.int (0 : Int32)), (.int (0 : Int32)), (.int (0 : Int32))] (.int (0 : Int32)) := Arv.set Ar29 q29 S29_ N29_ H29_ G29_ (fits_nar_char _) W29 6 rfl (Nat.le_of_ble_eq_true rfl)
      have K29 : Keep h0 h29 [] := K28.wr W29 (Or.inr sz_b22)
      have N29 := Fr.snoc X29 N28 g_b22
      have Z29 : n0 ≤ h29.size := Nat.le_trans Z28 (Keep.of_wr W29).1
      have O29 := Old.wr O28 W29 g_b22
      have r29 := CHr.wr W29 (Safe.arr hZ.alike Ar29 (by decide)) R28.1
      have S29_b21 := r29.safe E_b21_28.lt S28_b21
      have R29 := R28.trans r29
      have hk29 := Nat.le_trans hk28 (Keep.of_wr W29).1
      obtain ⟨cl30, Ar30, q30, S30_, N30_, H30_, G30_⟩ := V_b22_29
      have hin30 : ¬ ((7 : Int32) < 0 ∨ cl30.slots.size ≤ ((7 : Int32)).toNatClampNeg) := inb_of S30_ ⟨by decide, by decide⟩
      obtain ⟨T30, h30, X30, e30, W30, st30⟩ := stC X29 hx hZ e29 Ar30 (j := (7 : Int32)) hin30 (g := (mkF m 185 #[.val (.int p1), .val (.int p2), .val (.int p3), .val (.int r0), .val (.int r1), .val (.int d0), .val (.int d1), .val (.int (0 : Int32)), .val (.int (0 : Int32)), .val (.ref b9), .val (.ref b15), .unset, .unset, .unset] [(.int (58 : Int32)), (.int (7 : Int32)), (.ref b22), (.ref b22), (.ref b21), (.ref b21)])) rfl rfl (hb hby at_185)
      have E_b9_30 := E_b9_29.wr W30
      have F_b9_coder_30 := F_b9_coder_29.other W30 (Or.inl ne_b9_b22)
      have F_b9_value_30 := F_b9_value_29.other W30 (Or.inl ne_b9_b22)
      have V_b10_30 := V_b10_29.other W30 ne_b10_b22
      have V_d__14_30 := V_d__14_29.other W30 ne_d__14_b22
      have E_b15_30 := E_b15_29.wr W30
      have F_b15_coder_30 := F_b15_coder_29.other W30 (Or.inl ne_b15_b22)
      have F_b15_value_30 := F_b15_value_29.other W30 (Or.inl ne_b15_b22)
      have V_b16_30 := V_b16_29.other W30 ne_b16_b22
      have V_d__20_30 := V_d__20_29.other W30 ne_d__20_b22
      have E_b21_30 := E_b21_29.wr W30
      have F_b21_coder_30 := F_b21_coder_29.other W30 (Or.inl ne_b21_b22)
      have F_b21_value_30 := F_b21_value_29.other W30 (Or.inl ne_b21_b22)
      have V_b22_30 : Arv Z h30 b22 k22 .char (11 : Int32) [(.int (nar .char (114 : Int32))), (.int (nar .char (101 : Int32))), (.int (nar .char (102 : Int32))), (.int (nar .char (117 : Int32))), (.int (nar .char (115 : Int32))), (.int (nar .char (101 : Int32))), (.int (nar .char (100 : Int32))), (.int (nar .char (58 : Int32))), (.int (0 : Int32)), (.int (0 : Int32)), (.int (0 : Int32))] (.int (0 : Int32)) := Arv.set Ar30 q30 S30_ N30_ H30_ G30_ (fits_nar_char _) W30 7 rfl (Nat.le_of_ble_eq_true rfl)
      have K30 : Keep h0 h30 [] := K29.wr W30 (Or.inr sz_b22)
      have N30 := Fr.snoc X30 N29 g_b22
      have Z30 : n0 ≤ h30.size := Nat.le_trans Z29 (Keep.of_wr W30).1
      have O30 := Old.wr O29 W30 g_b22
      have r30 := CHr.wr W30 (Safe.arr hZ.alike Ar30 (by decide)) R29.1
      have S30_b21 := r30.safe E_b21_29.lt S29_b21
      have R30 := R29.trans r30
      have hk30 := Nat.le_trans hk29 (Keep.of_wr W30).1
      obtain ⟨cl31, Ar31, q31, S31_, N31_, H31_, G31_⟩ := V_b22_30
      have hin31 : ¬ ((8 : Int32) < 0 ∨ cl31.slots.size ≤ ((8 : Int32)).toNatClampNeg) := inb_of S31_ ⟨by decide, by decide⟩
      obtain ⟨T31, h31, X31, e31, W31, st31⟩ := stC X30 hx hZ e30 Ar31 (j := (8 : Int32)) hin31 (g := (mkF m 191 #[.val (.int p1), .val (.int p2), .val (.int p3), .val (.int r0), .val (.int r1), .val (.int d0), .val (.int d1), .val (.int (0 : Int32)), .val (.int (0 : Int32)), .val (.ref b9), .val (.ref b15), .unset, .unset, .unset] [(.int (32 : Int32)), (.int (8 : Int32)), (.ref b22), (.ref b22), (.ref b21), (.ref b21)])) rfl rfl (hb hby at_191)
      have E_b9_31 := E_b9_30.wr W31
      have F_b9_coder_31 := F_b9_coder_30.other W31 (Or.inl ne_b9_b22)
      have F_b9_value_31 := F_b9_value_30.other W31 (Or.inl ne_b9_b22)
      have V_b10_31 := V_b10_30.other W31 ne_b10_b22
      have V_d__14_31 := V_d__14_30.other W31 ne_d__14_b22
      have E_b15_31 := E_b15_30.wr W31
      have F_b15_coder_31 := F_b15_coder_30.other W31 (Or.inl ne_b15_b22)
      have F_b15_value_31 := F_b15_value_30.other W31 (Or.inl ne_b15_b22)
      have V_b16_31 := V_b16_30.other W31 ne_b16_b22
      have V_d__20_31 := V_d__20_30.other W31 ne_d__20_b22
      have E_b21_31 := E_b21_30.wr W31
      have F_b21_coder_31 := F_b21_coder_30.other W31 (Or.inl ne_b21_b22)
      have F_b21_value_31 := F_b21_value_30.other W31 (Or.inl ne_b21_b22)
      have V_b22_31 : Arv Z h31 b22 k22 .char (11 : Int32) [(.int (nar .char (114 : Int32))), (.int (nar .char (101 : Int32))), (.int (nar .char (102 : Int32))), (.int (nar .char (117 : Int32))), (.int (nar .char (115 : Int32))), (.int (nar .char (101 : Int32))), (.int (nar .char (100 : Int32))), (.int (nar .char (58 : Int32))), (.int (nar .char (32 : Int32))), (.int (0 : Int32)), (.int (0 : Int32))] (.int (0 : Int32)) := Arv.set Ar31 q31 S31_ N31_ H31_ G31_ (fits_nar_char _) W31 8 rfl (Nat.le_of_ble_eq_true rfl)
      have K31 : Keep h0 h31 [] := K30.wr W31 (Or.inr sz_b22)
      have N31 := Fr.snoc X31 N30 g_b22
      have Z31 : n0 ≤ h31.size := Nat.le_trans Z30 (Keep.of_wr W31).1
      have O31 := Old.wr O30 W31 g_b22
      have r31 := CHr.wr W31 (Safe.arr hZ.alike Ar31 (by decide)) R30.1
      have S31_b21 := r31.safe E_b21_30.lt S30_b21
      have R31 := R30.trans r31
      have hk31 := Nat.le_trans hk30 (Keep.of_wr W31).1
      obtain ⟨cl32, Ar32, q32, S32_, N32_, H32_, G32_⟩ := V_b22_31
      have hin32 : ¬ ((9 : Int32) < 0 ∨ cl32.slots.size ≤ ((9 : Int32)).toNatClampNeg) := inb_of S32_ ⟨by decide, by decide⟩
      obtain ⟨T32, h32, X32, e32, W32, st32⟩ := stC X31 hx hZ e31 Ar32 (j := (9 : Int32)) hin32 (g := (mkF m 196 #[.val (.int p1), .val (.int p2), .val (.int p3), .val (.int r0), .val (.int r1), .val (.int d0), .val (.int d1), .val (.int (0 : Int32)), .val (.int (0 : Int32)), .val (.ref b9), .val (.ref b15), .unset, .unset, .unset] [(.int r0), (.int (9 : Int32)), (.ref b22), (.ref b22), (.ref b21), (.ref b21)])) rfl rfl (hb hby at_196)
      have E_b9_32 := E_b9_31.wr W32
      have F_b9_coder_32 := F_b9_coder_31.other W32 (Or.inl ne_b9_b22)
      have F_b9_value_32 := F_b9_value_31.other W32 (Or.inl ne_b9_b22)
      have V_b10_32 := V_b10_31.other W32 ne_b10_b22
      have V_d__14_32 := V_d__14_31.other W32 ne_d__14_b22
      have E_b15_32 := E_b15_31.wr W32
      have F_b15_coder_32 := F_b15_coder_31.other W32 (Or.inl ne_b15_b22)
      have F_b15_value_32 := F_b15_value_31.other W32 (Or.inl ne_b15_b22)
      have V_b16_32 := V_b16_31.other W32 ne_b16_b22
      have V_d__20_32 := V_d__20_31.other W32 ne_d__20_b22
      have E_b21_32 := E_b21_31.wr W32
      have F_b21_coder_32 := F_b21_coder_31.other W32 (Or.inl ne_b21_b22)
      have F_b21_value_32 := F_b21_value_31.other W32 (Or.inl ne_b21_b22)
      have V_b22_32 : Arv Z h32 b22 k22 .char (11 : Int32) [(.int (nar .char (114 : Int32))), (.int (nar .char (101 : Int32))), (.int (nar .char (102 : Int32))), (.int (nar .char (117 : Int32))), (.int (nar .char (115 : Int32))), (.int (nar .char (101 : Int32))), (.int (nar .char (100 : Int32))), (.int (nar .char (58 : Int32))), (.int (nar .char (32 : Int32))), (.int (nar .char r0)), (.int (0 : Int32))] (.int (0 : Int32)) := Arv.set Ar32 q32 S32_ N32_ H32_ G32_ (fits_nar_char _) W32 9 rfl (Nat.le_of_ble_eq_true rfl)
      have K32 : Keep h0 h32 [] := K31.wr W32 (Or.inr sz_b22)
      have N32 := Fr.snoc X32 N31 g_b22
      have Z32 : n0 ≤ h32.size := Nat.le_trans Z31 (Keep.of_wr W32).1
      have O32 := Old.wr O31 W32 g_b22
      have r32 := CHr.wr W32 (Safe.arr hZ.alike Ar32 (by decide)) R31.1
      have S32_b21 := r32.safe E_b21_31.lt S31_b21
      have R32 := R31.trans r32
      have hk32 := Nat.le_trans hk31 (Keep.of_wr W32).1
      obtain ⟨cl33, Ar33, q33, S33_, N33_, H33_, G33_⟩ := V_b22_32
      have hin33 : ¬ ((10 : Int32) < 0 ∨ cl33.slots.size ≤ ((10 : Int32)).toNatClampNeg) := inb_of S33_ ⟨by decide, by decide⟩
      obtain ⟨T33, h33, X33, e33, W33, st33⟩ := stC X32 hx hZ e32 Ar33 (j := (10 : Int32)) hin33 (g := (mkF m 202 #[.val (.int p1), .val (.int p2), .val (.int p3), .val (.int r0), .val (.int r1), .val (.int d0), .val (.int d1), .val (.int (0 : Int32)), .val (.int (0 : Int32)), .val (.ref b9), .val (.ref b15), .unset, .unset, .unset] [(.int r1), (.int (10 : Int32)), (.ref b22), (.ref b22), (.ref b21), (.ref b21)])) rfl rfl (hb hby at_202)
      have E_b9_33 := E_b9_32.wr W33
      have F_b9_coder_33 := F_b9_coder_32.other W33 (Or.inl ne_b9_b22)
      have F_b9_value_33 := F_b9_value_32.other W33 (Or.inl ne_b9_b22)
      have V_b10_33 := V_b10_32.other W33 ne_b10_b22
      have V_d__14_33 := V_d__14_32.other W33 ne_d__14_b22
      have E_b15_33 := E_b15_32.wr W33
      have F_b15_coder_33 := F_b15_coder_32.other W33 (Or.inl ne_b15_b22)
      have F_b15_value_33 := F_b15_value_32.other W33 (Or.inl ne_b15_b22)
      have V_b16_33 := V_b16_32.other W33 ne_b16_b22
      have V_d__20_33 := V_d__20_32.other W33 ne_d__20_b22
      have E_b21_33 := E_b21_32.wr W33
      have F_b21_coder_33 := F_b21_coder_32.other W33 (Or.inl ne_b21_b22)
      have F_b21_value_33 := F_b21_value_32.other W33 (Or.inl ne_b21_b22)
      have V_b22_33 : Arv Z h33 b22 k22 .char (11 : Int32) [(.int (nar .char (114 : Int32))), (.int (nar .char (101 : Int32))), (.int (nar .char (102 : Int32))), (.int (nar .char (117 : Int32))), (.int (nar .char (115 : Int32))), (.int (nar .char (101 : Int32))), (.int (nar .char (100 : Int32))), (.int (nar .char (58 : Int32))), (.int (nar .char (32 : Int32))), (.int (nar .char r0)), (.int (nar .char r1))] (.int (0 : Int32)) := Arv.set Ar33 q33 S33_ N33_ H33_ G33_ (fits_nar_char _) W33 10 rfl (Nat.le_of_ble_eq_true rfl)
      have K33 : Keep h0 h33 [] := K32.wr W33 (Or.inr sz_b22)
      have N33 := Fr.snoc X33 N32 g_b22
      have Z33 : n0 ≤ h33.size := Nat.le_trans Z32 (Keep.of_wr W33).1
      have O33 := Old.wr O32 W33 g_b22
      have r33 := CHr.wr W33 (Safe.arr hZ.alike Ar33 (by decide)) R32.1
      have S33_b21 := r33.safe E_b21_32.lt S32_b21
      have R33 := R32.trans r33
      have hk33 := Nat.le_trans hk32 (Keep.of_wr W33).1
      obtain ⟨lg34, Y34, M34⟩ := stand_gen X33 N33
      obtain ⟨_, _, ⟨T35, L35, k35, n35⟩, -, X35, ⟨Lc35, hQ35, l35, y35, z35⟩, st35⟩ := Y34.specialBack hx (y := (⟨"java/lang/String", "<init>", "([C)V"⟩ : MethodName)) rfl hown (mvT hZ (hw _ (List.mem_of_getElem? (i := 4) rfl))) (mvT hZ (hw _ (List.mem_of_getElem? (i := 5) rfl))) (mvT hZ (hw _ (List.mem_of_getElem? (i := 6) rfl))) (by decide) (payNew (h := h33) (W := 1) (n := 11) (cs := ([(nar .char (114 : Int32)), (nar .char (101 : Int32)), (nar .char (102 : Int32)), (nar .char (117 : Int32)), (nar .char (115 : Int32)), (nar .char (101 : Int32)), (nar .char (100 : Int32)), (nar .char (58 : Int32)), (nar .char (32 : Int32)), (nar .char r0), (nar .char r1)] : List Int32)) (n0 := n0) hZ hw rfl g_b21 Z33 E_b21_33 F_b21_value_33 F_b21_coder_33 V_b22_33 (CS.ext O33.2) hcs (by decide) (by decide) (chS ch_114 (chS ch_101 (chS ch_102 (chS ch_117 (chS ch_115 (chS ch_101 (chS ch_100 (chS ch_58 (chS ch_32 (chS b_r0 (chS b_r1 ch0))))))))))) (by decide) (by decide)) (g := (mkF m 203 #[.val (.int p1), .val (.int p2), .val (.int p3), .val (.int r0), .val (.int r1), .val (.int d0), .val (.int d1), .val (.int (0 : Int32)), .val (.int (0 : Int32)), .val (.ref b9), .val (.ref b15), .unset, .unset, .unset] [(.ref b22), (.ref b21), (.ref b21)])) rfl (by rw [hml]; rfl) (Steps.refl _) (a := b21) (argsL := [(.ref b22)]) (rest := [(.ref b21)]) (lenOf pd21 rfl) rfl (by show 2 * 0 + _ ≤ _; exact Nat.le_of_eq rfl) (hb hby at_203) (fun _ _ => ⟨rfl, e33, (by decide : 8 + 1 ≤ _), (by decide : 31 + 11 ≤ _)⟩)
      dsimp only [Pt.U, Pt.locs, Pt.cells, Pt.slots] at X35 l35 y35 z35 st35 hQ35
      subst l35 y35 z35
      obtain ⟨d'_35, k'_35, bs'_35, rfl, N35q, Kc35, G35_0, G35_1, G35_2, G35_3, eqs_35, f_d'_35⟩ := hQ35
      have N35 := Fr.app M34 N35q
      have ne_b9_d'_35 : b9 ≠ d'_35 := Nat.ne_of_lt (Nat.lt_of_lt_of_le E_b9_33.lt f_d'_35)
      have ne_b10_d'_35 : b10 ≠ d'_35 := Nat.ne_of_lt (Nat.lt_of_lt_of_le V_b10_33.lt f_d'_35)
      have ne_d__14_d'_35 : d'_14 ≠ d'_35 := Nat.ne_of_lt (Nat.lt_of_lt_of_le V_d__14_33.lt f_d'_35)
      have ne_b15_d'_35 : b15 ≠ d'_35 := Nat.ne_of_lt (Nat.lt_of_lt_of_le E_b15_33.lt f_d'_35)
      have ne_b16_d'_35 : b16 ≠ d'_35 := Nat.ne_of_lt (Nat.lt_of_lt_of_le V_b16_33.lt f_d'_35)
      have ne_d__20_d'_35 : d'_20 ≠ d'_35 := Nat.ne_of_lt (Nat.lt_of_lt_of_le V_d__20_33.lt f_d'_35)
      have ne_b21_d'_35 : b21 ≠ d'_35 := Nat.ne_of_lt (Nat.lt_of_lt_of_le E_b21_33.lt f_d'_35)
      have ne_b22_d'_35 : b22 ≠ d'_35 := Nat.ne_of_lt (Nat.lt_of_lt_of_le V_b22_33.lt f_d'_35)
      have g_d'_35 : n0 ≤ d'_35 := Nat.le_trans Z33 f_d'_35
      have sz_d'_35 : h0.size ≤ d'_35 := Nat.le_trans K33.1 f_d'_35
      have S0_d'_35 : Safe Z consts_1 s.vm h33 d'_35 := Safe.new f_d'_35
      have E_b9_35 := E_b9_33.keep Kc35
      have F_b9_coder_35 := F_b9_coder_33.keep Kc35 (ninS ne_b9_b21 nin0)
      have F_b9_value_35 := F_b9_value_33.keep Kc35 (ninS ne_b9_b21 nin0)
      have V_b10_35 := V_b10_33.keep Kc35 (ninS ne_b10_b21 nin0)
      have V_d__14_35 := V_d__14_33.keep Kc35 (ninS ne_d__14_b21 nin0)
      have E_b15_35 := E_b15_33.keep Kc35
      have F_b15_coder_35 := F_b15_coder_33.keep Kc35 (ninS ne_b15_b21 nin0)
      have F_b15_value_35 := F_b15_value_33.keep Kc35 (ninS ne_b15_b21 nin0)
      have V_b16_35 := V_b16_33.keep Kc35 (ninS ne_b16_b21 nin0)
      have V_d__20_35 := V_d__20_33.keep Kc35 (ninS ne_d__20_b21 nin0)
      have V_b22_35 := V_b22_33.keep Kc35 (ninS (Ne.symm ne_b21_b22) nin0)
      have K35 : Keep h0 T35.heap [] := K33.trans Kc35 (allS (P := fun x => x ∈ ([] : List Addr) ∨ h0.size ≤ x) (Or.inr sz_b21) all0)
      have Z35 : n0 ≤ T35.heap.size := Nat.le_trans Z33 Kc35.1
      have O35 := Old.keep O33 Kc35 (allS g_b21 all0)
      have hs35 : ∀ x ∈ ([b21] : List Addr), Safe Z consts_1 s.vm h33 x := (sfS S33_b21 sf0)
      have r35 := CHr.keep Kc35 hs35 R33.1
      have S35_b21 := Safe.keep Kc35 hs35 R33.1 S33_b21
      have S35_d'_35 := Safe.keep Kc35 hs35 R33.1 S0_d'_35
      have R35 := R33.trans r35
      have hk35 := Nat.le_trans hk33 Kc35.1
      obtain ⟨T36, h36, X36, e36, E36, A36, D36, U36, st36⟩ := newO X35 hx hZ hown (hw _ (List.mem_of_getElem? (i := 33) rfl)) (hw _ (List.mem_of_getElem? (i := 34) rfl)) (hw _ (List.mem_of_getElem? (i := 35) rfl)) rfl (g := (mkF m 208 #[.val (.int p1), .val (.int p2), .val (.int p3), .val (.int r0), .val (.int r1), .val (.int d0), .val (.int d1), .val (.int (0 : Int32)), .val (.int (0 : Int32)), .val (.ref b9), .val (.ref b15), .val (.ref b21), .unset, .unset] [])) rfl (hb hby at_208) (by decide) (by decide)
      obtain ⟨b36, g36⟩ : ∃ z, z = T35.heap.size := ⟨_, rfl⟩
      rw [← g36] at A36 D36 U36 st36
      have ne_b9_b36 : b9 ≠ b36 := Nat.ne_of_lt (Nat.lt_of_lt_of_le E_b9_35.lt (Nat.le_of_eq g36.symm))
      have ne_b10_b36 : b10 ≠ b36 := Nat.ne_of_lt (Nat.lt_of_lt_of_le V_b10_35.lt (Nat.le_of_eq g36.symm))
      have ne_d__14_b36 : d'_14 ≠ b36 := Nat.ne_of_lt (Nat.lt_of_lt_of_le V_d__14_35.lt (Nat.le_of_eq g36.symm))
      have ne_b15_b36 : b15 ≠ b36 := Nat.ne_of_lt (Nat.lt_of_lt_of_le E_b15_35.lt (Nat.le_of_eq g36.symm))
      have ne_b16_b36 : b16 ≠ b36 := Nat.ne_of_lt (Nat.lt_of_lt_of_le V_b16_35.lt (Nat.le_of_eq g36.symm))
      have ne_d__20_b36 : d'_20 ≠ b36 := Nat.ne_of_lt (Nat.lt_of_lt_of_le V_d__20_35.lt (Nat.le_of_eq g36.symm))
      have ne_b21_b36 : b21 ≠ b36 := Nat.ne_of_lt (Nat.lt_of_lt_of_le G35_0.lt (Nat.le_of_eq g36.symm))
      have ne_b22_b36 : b22 ≠ b36 := Nat.ne_of_lt (Nat.lt_of_lt_of_le V_b22_35.lt (Nat.le_of_eq g36.symm))
      have ne_d__35_b36 : d'_35 ≠ b36 := Nat.ne_of_lt (Nat.lt_of_lt_of_le G35_3.lt (Nat.le_of_eq g36.symm))
      have g_b36 : n0 ≤ b36 := Nat.le_trans Z35 (Nat.le_of_eq g36.symm)
      have sz_b36 : h0.size ≤ b36 := Nat.le_trans K35.1 (Nat.le_of_eq g36.symm)
      have E_b9_36 := E_b9_35.ext E36
      have F_b9_coder_36 := F_b9_coder_35.ext E36
      have F_b9_value_36 := F_b9_value_35.ext E36
      have V_b10_36 := V_b10_35.ext E36
      have V_d__14_36 := V_d__14_35.ext E36
      have E_b15_36 := E_b15_35.ext E36
      have F_b15_coder_36 := F_b15_coder_35.ext E36
      have F_b15_value_36 := F_b15_value_35.ext E36
      have V_b16_36 := V_b16_35.ext E36
      have V_d__20_36 := V_d__20_35.ext E36
      have E_b21_36 := G35_0.ext E36
      have F_b21_coder_36 := G35_1.ext E36
      have F_b21_value_36 := G35_2.ext E36
      have V_b22_36 := V_b22_35.ext E36
      have V_d__35_36 := G35_3.ext E36
      have K36 : Keep h0 h36 [] := K35.ext E36
      have Z36 : n0 ≤ h36.size := Nat.le_trans Z35 E36.1
      have O36 := Old.ext O35 E36
      have r36 := CHr.ext E36 R35.1
      have R36 := R35.trans r36
      have hk36 := Nat.le_trans hk35 E36.1
      have F_cause_b36 : Fld Z h36 b36 "java/lang/Throwable" "cause" "Ljava/lang/Throwable;" .null := D36 (Or.inl (hw _ (List.mem_of_getElem? (i := 52) rfl))) (ty := (.object "java/lang/Throwable")) (by decide)
      have F_stackTrace_b36 : Fld Z h36 b36 "java/lang/Throwable" "stackTrace" "[Ljava/lang/StackTraceElement;" .null := D36 (Or.inl (hw _ (List.mem_of_getElem? (i := 55) rfl))) (ty := (.array (.object "java/lang/StackTraceElement"))) (by decide)
      have F_suppressedExceptions_b36 : Fld Z h36 b36 "java/lang/Throwable" "suppressedExceptions" "Ljava/util/List;" .null := D36 (Or.inl (hw _ (List.mem_of_getElem? (i := 58) rfl))) (ty := (.object "java/util/List")) (by decide)
      have F_detailMessage_b36 : Fld Z h36 b36 "java/lang/Throwable" "detailMessage" "Ljava/lang/String;" .null := D36 (Or.inl (hw _ (List.mem_of_getElem? (i := 82) rfl))) (ty := (.object "java/lang/String")) (by decide)
      have F_backtrace_b36 : Fld Z h36 b36 "java/lang/Throwable" "backtrace" "Ljava/lang/Object;" .null := D36 (Or.inl (hw _ (List.mem_of_getElem? (i := 83) rfl))) (ty := (.object "java/lang/Object")) (by decide)
      have F_depth_b36 : Fld Z h36 b36 "java/lang/Throwable" "depth" "I" (.int (0 : Int32)) := D36 (Or.inl (hw _ (List.mem_of_getElem? (i := 84) rfl))) (ty := .int) (by decide)
      have F_reason_b36 : Fld Z h36 b36 "com/example/tranche/tranche/terms/Refusal" "reason" "Ljava/lang/String;" .null := D36 (Or.inr (hw _ (List.mem_of_getElem? (i := 88) rfl))) (ty := (.object "java/lang/String")) (by decide)
      obtain ⟨lg37, Y37, M37⟩ := stand_gen X36 N35
      obtain ⟨_, _, ⟨T38, L38, k38, n38⟩, -, X38, ⟨Lc38, hQ38, l38, y38, z38⟩, st38⟩ := Y37.specialBack hx (y := (⟨"com/example/tranche/tranche/terms/Refusal", "<init>", "(Ljava/lang/String;Ljava/lang/String;)V"⟩ : MethodName)) rfl hown (mvT hZ (hw _ (List.mem_of_getElem? (i := 36) rfl))) (mvT hZ (hw _ (List.mem_of_getElem? (i := 37) rfl))) (mvT hZ (hw _ (List.mem_of_getElem? (i := 38) rfl))) (by decide) (backOfKL (W := 1) (rm7 l Z a0 hw [] b36 b9 b15 h36 n0 cs ua us CS hcs O36 hl SUA SUS Z36 g_b36 A36 U36 _ _ _ _ _ F_cause_b36 F_stackTrace_b36 F_suppressedExceptions_b36 F_detailMessage_b36 F_backtrace_b36 F_reason_b36) hZ (hw _ (List.mem_of_getElem? (i := 38) rfl)) (hw _ (List.mem_of_getElem? (i := 35) rfl)) (by decide) (by decide) (Vm.MethodsKnown.alikeC hS.1.alike hK.1) (Vm.FramesKnown.alikeC hS.1.alike hK.2)) (g := (mkF m 216 #[.val (.int p1), .val (.int p2), .val (.int p3), .val (.int r0), .val (.int r1), .val (.int d0), .val (.int d1), .val (.int (0 : Int32)), .val (.int (0 : Int32)), .val (.ref b9), .val (.ref b15), .val (.ref b21), .unset, .unset] [(.ref b15), (.ref b9), (.ref b36), (.ref b36)])) rfl (by rw [hml]; rfl) (Steps.refl _) (a := b36) (argsL := [(.ref b9), (.ref b15)]) (rest := [(.ref b36)]) (lenOf pd22 rfl) rfl (by show 2 * 0 + _ ≤ _; exact Nat.le_of_eq rfl) (hb hby at_216) (fun _ _ => ⟨rfl, e36, (by decide : 10 + 1 ≤ _), (by decide : 50 + 2752 ≤ _)⟩)
      dsimp only [Pt.U, Pt.locs, Pt.cells, Pt.slots] at X38 l38 y38 z38 st38 hQ38
      subst l38 y38 z38
      obtain ⟨rfl, N38q, Kc38, G38_0, G38_1, G38_2⟩ := hQ38
      have N38 := Fr.app M37 N38q
      have E_b9_38 := E_b9_36.keep Kc38
      have F_b9_coder_38 := F_b9_coder_36.keep Kc38 (ninS ne_b9_b36 nin0)
      have F_b9_value_38 := F_b9_value_36.keep Kc38 (ninS ne_b9_b36 nin0)
      have V_b10_38 := V_b10_36.keep Kc38 (ninS ne_b10_b36 nin0)
      have V_d__14_38 := V_d__14_36.keep Kc38 (ninS ne_d__14_b36 nin0)
      have E_b15_38 := E_b15_36.keep Kc38
      have F_b15_coder_38 := F_b15_coder_36.keep Kc38 (ninS ne_b15_b36 nin0)
      have F_b15_value_38 := F_b15_value_36.keep Kc38 (ninS ne_b15_b36 nin0)
      have V_b16_38 := V_b16_36.keep Kc38 (ninS ne_b16_b36 nin0)
      have V_d__20_38 := V_d__20_36.keep Kc38 (ninS ne_d__20_b36 nin0)
      have E_b21_38 := E_b21_36.keep Kc38
      have F_b21_coder_38 := F_b21_coder_36.keep Kc38 (ninS ne_b21_b36 nin0)
      have F_b21_value_38 := F_b21_value_36.keep Kc38 (ninS ne_b21_b36 nin0)
      have V_b22_38 := V_b22_36.keep Kc38 (ninS ne_b22_b36 nin0)
      have V_d__35_38 := V_d__35_36.keep Kc38 (ninS ne_d__35_b36 nin0)
      have K38 : Keep h0 T38.heap [] := K36.trans Kc38 (allS (P := fun x => x ∈ ([] : List Addr) ∨ h0.size ≤ x) (Or.inr sz_b36) all0)
      have Z38 : n0 ≤ T38.heap.size := Nat.le_trans Z36 Kc38.1
      have O38 := Old.keep O36 Kc38 (allS g_b36 all0)
      have hs38 : ∀ x ∈ ([b36] : List Addr), Safe Z consts_1 s.vm h36 x := (sfS (Safe.exa hZ.alike A36 (by decide) (by decide)) sf0)
      have r38 := CHr.keep Kc38 hs38 R36.1
      have R38 := R36.trans r38
      have hk38 := Nat.le_trans hk36 Kc38.1
      obtain ⟨lg39, Y39, M39⟩ := stand_gen X38 N38
      have pre41 : ∀ t, Steps p.tables e below (T38.setTop (mkF m 223 #[.val (.int p1), .val (.int p2), .val (.int p3), .val (.int r0), .val (.int r1), .val (.int d0), .val (.int d1), .val (.int (0 : Int32)), .val (.int (0 : Int32)), .val (.ref b9), .val (.ref b15), .val (.ref b21), .val (.ref b36), .unset] [(.ref b36)])) t → Steps p.tables e below (s₁.setTop (entryFrame m #[(.int p1), (.int p2), (.int p3)] maxLocals)) t := by
        intro t k
        refine pre7 t ?_
        show Steps p.tables e below (s₁.setTop (mkF m 53 #[.val (.int p1), .val (.int p2), .val (.int p3), .val (.int r0), .val (.int r1), .val (.int d0), .val (.int d1), .val (.int (0 : Int32)), .unset, .unset, .unset, .unset, .unset, .unset] [(.int (p3 &&& (2 : Int32)))])) _
        refine XS.ifYes X0.here hx rfl (pc0 := 53) (pc' := 60) rfl (hb hby at_53) rfl ((if0 _ _).trans (teq hc53_8).1) (by decide) (by decide) ?_
        show Steps p.tables e below (s₁.setTop (mkF m 60 #[.val (.int p1), .val (.int p2), .val (.int p3), .val (.int r0), .val (.int r1), .val (.int d0), .val (.int d1), .val (.int (0 : Int32)), .unset, .unset, .unset, .unset, .unset, .unset] [])) _
        refine XS.iconst X0.here hx rfl (hb hby at_60) ?_
        show Steps p.tables e below (s₁.setTop (mkF m 61 #[.val (.int p1), .val (.int p2), .val (.int p3), .val (.int r0), .val (.int r1), .val (.int d0), .val (.int d1), .val (.int (0 : Int32)), .unset, .unset, .unset, .unset, .unset, .unset] [(.int (0 : Int32))])) _
        refine XS.istore X0.here hx rfl (hb hby at_61) rfl (l' := #[.val (.int p1), .val (.int p2), .val (.int p3), .val (.int r0), .val (.int r1), .val (.int d0), .val (.int d1), .val (.int (0 : Int32)), .val (.int (0 : Int32)), .unset, .unset, .unset, .unset, .unset]) rfl ?_
        show Steps p.tables e below (s₁.setTop (mkF m 63 #[.val (.int p1), .val (.int p2), .val (.int p3), .val (.int r0), .val (.int r1), .val (.int d0), .val (.int d1), .val (.int (0 : Int32)), .val (.int (0 : Int32)), .unset, .unset, .unset, .unset, .unset] [])) _
        refine XS.iload X0.here hx rfl (hb hby at_63) rfl ?_
        show Steps p.tables e below (s₁.setTop (mkF m 65 #[.val (.int p1), .val (.int p2), .val (.int p3), .val (.int r0), .val (.int r1), .val (.int d0), .val (.int d1), .val (.int (0 : Int32)), .val (.int (0 : Int32)), .unset, .unset, .unset, .unset, .unset] [(.int (0 : Int32))])) _
        refine XS.ifYes X0.here hx rfl (pc0 := 65) (pc' := 73) rfl (hb hby at_65) rfl ((if0 _ _).trans (teq (by decide : (0 : Int32) = (0 : Int32))).1) (by decide) (by decide) ?_
        show Steps p.tables e below (s₁.setTop (mkF m 73 #[.val (.int p1), .val (.int p2), .val (.int p3), .val (.int r0), .val (.int r1), .val (.int d0), .val (.int d1), .val (.int (0 : Int32)), .val (.int (0 : Int32)), .unset, .unset, .unset, .unset, .unset] [])) _
        refine st9 _ ?_
        show Steps p.tables e below (T9.setTop (mkF m 76 #[.val (.int p1), .val (.int p2), .val (.int p3), .val (.int r0), .val (.int r1), .val (.int d0), .val (.int d1), .val (.int (0 : Int32)), .val (.int (0 : Int32)), .unset, .unset, .unset, .unset, .unset] [(.ref b9)])) _
        refine XS.dup X9.here hx rfl (hb hby at_76) rfl rfl ?_
        show Steps p.tables e below (T9.setTop (mkF m 77 #[.val (.int p1), .val (.int p2), .val (.int p3), .val (.int r0), .val (.int r1), .val (.int d0), .val (.int d1), .val (.int (0 : Int32)), .val (.int (0 : Int32)), .unset, .unset, .unset, .unset, .unset] [(.ref b9), (.ref b9)])) _
        refine XS.iconst X9.here hx rfl (hb hby at_77) ?_
        show Steps p.tables e below (T9.setTop (mkF m 78 #[.val (.int p1), .val (.int p2), .val (.int p3), .val (.int r0), .val (.int r1), .val (.int d0), .val (.int d1), .val (.int (0 : Int32)), .val (.int (0 : Int32)), .unset, .unset, .unset, .unset, .unset] [(.int (2 : Int32)), (.ref b9), (.ref b9)])) _
        refine st10 _ ?_
        show Steps p.tables e below (T10.setTop (mkF m 80 #[.val (.int p1), .val (.int p2), .val (.int p3), .val (.int r0), .val (.int r1), .val (.int d0), .val (.int d1), .val (.int (0 : Int32)), .val (.int (0 : Int32)), .unset, .unset, .unset, .unset, .unset] [(.ref b10), (.ref b9), (.ref b9)])) _
        refine XS.dup X10.here hx rfl (hb hby at_80) rfl rfl ?_
        show Steps p.tables e below (T10.setTop (mkF m 81 #[.val (.int p1), .val (.int p2), .val (.int p3), .val (.int r0), .val (.int r1), .val (.int d0), .val (.int d1), .val (.int (0 : Int32)), .val (.int (0 : Int32)), .unset, .unset, .unset, .unset, .unset] [(.ref b10), (.ref b10), (.ref b9), (.ref b9)])) _
        refine XS.iconst X10.here hx rfl (hb hby at_81) ?_
        show Steps p.tables e below (T10.setTop (mkF m 82 #[.val (.int p1), .val (.int p2), .val (.int p3), .val (.int r0), .val (.int r1), .val (.int d0), .val (.int d1), .val (.int (0 : Int32)), .val (.int (0 : Int32)), .unset, .unset, .unset, .unset, .unset] [(.int (0 : Int32)), (.ref b10), (.ref b10), (.ref b9), (.ref b9)])) _
        refine XS.iloadN X10.here hx rfl (hb hby at_82) rfl ?_
        show Steps p.tables e below (T10.setTop (mkF m 83 #[.val (.int p1), .val (.int p2), .val (.int p3), .val (.int r0), .val (.int r1), .val (.int d0), .val (.int d1), .val (.int (0 : Int32)), .val (.int (0 : Int32)), .unset, .unset, .unset, .unset, .unset] [(.int r0), (.int (0 : Int32)), (.ref b10), (.ref b10), (.ref b9), (.ref b9)])) _
        refine st11 _ ?_
        show Steps p.tables e below (T11.setTop (mkF m 84 #[.val (.int p1), .val (.int p2), .val (.int p3), .val (.int r0), .val (.int r1), .val (.int d0), .val (.int d1), .val (.int (0 : Int32)), .val (.int (0 : Int32)), .unset, .unset, .unset, .unset, .unset] [(.ref b10), (.ref b9), (.ref b9)])) _
        refine XS.dup X11.here hx rfl (hb hby at_84) rfl rfl ?_
        show Steps p.tables e below (T11.setTop (mkF m 85 #[.val (.int p1), .val (.int p2), .val (.int p3), .val (.int r0), .val (.int r1), .val (.int d0), .val (.int d1), .val (.int (0 : Int32)), .val (.int (0 : Int32)), .unset, .unset, .unset, .unset, .unset] [(.ref b10), (.ref b10), (.ref b9), (.ref b9)])) _
        refine XS.iconst X11.here hx rfl (hb hby at_85) ?_
        show Steps p.tables e below (T11.setTop (mkF m 86 #[.val (.int p1), .val (.int p2), .val (.int p3), .val (.int r0), .val (.int r1), .val (.int d0), .val (.int d1), .val (.int (0 : Int32)), .val (.int (0 : Int32)), .unset, .unset, .unset, .unset, .unset] [(.int (1 : Int32)), (.ref b10), (.ref b10), (.ref b9), (.ref b9)])) _
        refine XS.iload X11.here hx rfl (hb hby at_86) rfl ?_
        show Steps p.tables e below (T11.setTop (mkF m 88 #[.val (.int p1), .val (.int p2), .val (.int p3), .val (.int r0), .val (.int r1), .val (.int d0), .val (.int d1), .val (.int (0 : Int32)), .val (.int (0 : Int32)), .unset, .unset, .unset, .unset, .unset] [(.int r1), (.int (1 : Int32)), (.ref b10), (.ref b10), (.ref b9), (.ref b9)])) _
        refine st12 _ ?_
        show Steps p.tables e below (T12.setTop (mkF m 89 #[.val (.int p1), .val (.int p2), .val (.int p3), .val (.int r0), .val (.int r1), .val (.int d0), .val (.int d1), .val (.int (0 : Int32)), .val (.int (0 : Int32)), .unset, .unset, .unset, .unset, .unset] [(.ref b10), (.ref b9), (.ref b9)])) _
        refine st14.trans ?_
        show Steps p.tables e below (T14.setTop (mkF m 92 #[.val (.int p1), .val (.int p2), .val (.int p3), .val (.int r0), .val (.int r1), .val (.int d0), .val (.int d1), .val (.int (0 : Int32)), .val (.int (0 : Int32)), .unset, .unset, .unset, .unset, .unset] [(.ref b9)])) _
        refine XS.astore X14.here hx rfl (hb hby at_92) rfl rfl (l' := #[.val (.int p1), .val (.int p2), .val (.int p3), .val (.int r0), .val (.int r1), .val (.int d0), .val (.int d1), .val (.int (0 : Int32)), .val (.int (0 : Int32)), .val (.ref b9), .unset, .unset, .unset, .unset]) rfl ?_
        show Steps p.tables e below (T14.setTop (mkF m 94 #[.val (.int p1), .val (.int p2), .val (.int p3), .val (.int r0), .val (.int r1), .val (.int d0), .val (.int d1), .val (.int (0 : Int32)), .val (.int (0 : Int32)), .val (.ref b9), .unset, .unset, .unset, .unset] [])) _
        refine XS.iload X14.here hx rfl (hb hby at_94) rfl ?_
        show Steps p.tables e below (T14.setTop (mkF m 96 #[.val (.int p1), .val (.int p2), .val (.int p3), .val (.int r0), .val (.int r1), .val (.int d0), .val (.int d1), .val (.int (0 : Int32)), .val (.int (0 : Int32)), .val (.ref b9), .unset, .unset, .unset, .unset] [(.int (0 : Int32))])) _
        refine XS.ifYes X14.here hx rfl (pc0 := 96) (pc' := 104) rfl (hb hby at_96) rfl ((if0 _ _).trans (teq (by decide : (0 : Int32) = (0 : Int32))).1) (by decide) (by decide) ?_
        show Steps p.tables e below (T14.setTop (mkF m 104 #[.val (.int p1), .val (.int p2), .val (.int p3), .val (.int r0), .val (.int r1), .val (.int d0), .val (.int d1), .val (.int (0 : Int32)), .val (.int (0 : Int32)), .val (.ref b9), .unset, .unset, .unset, .unset] [])) _
        refine st15 _ ?_
        show Steps p.tables e below (T15.setTop (mkF m 107 #[.val (.int p1), .val (.int p2), .val (.int p3), .val (.int r0), .val (.int r1), .val (.int d0), .val (.int d1), .val (.int (0 : Int32)), .val (.int (0 : Int32)), .val (.ref b9), .unset, .unset, .unset, .unset] [(.ref b15)])) _
        refine XS.dup X15.here hx rfl (hb hby at_107) rfl rfl ?_
        show Steps p.tables e below (T15.setTop (mkF m 108 #[.val (.int p1), .val (.int p2), .val (.int p3), .val (.int r0), .val (.int r1), .val (.int d0), .val (.int d1), .val (.int (0 : Int32)), .val (.int (0 : Int32)), .val (.ref b9), .unset, .unset, .unset, .unset] [(.ref b15), (.ref b15)])) _
        refine XS.iconst X15.here hx rfl (hb hby at_108) ?_
        show Steps p.tables e below (T15.setTop (mkF m 109 #[.val (.int p1), .val (.int p2), .val (.int p3), .val (.int r0), .val (.int r1), .val (.int d0), .val (.int d1), .val (.int (0 : Int32)), .val (.int (0 : Int32)), .val (.ref b9), .unset, .unset, .unset, .unset] [(.int (2 : Int32)), (.ref b15), (.ref b15)])) _
        refine st16 _ ?_
        show Steps p.tables e below (T16.setTop (mkF m 111 #[.val (.int p1), .val (.int p2), .val (.int p3), .val (.int r0), .val (.int r1), .val (.int d0), .val (.int d1), .val (.int (0 : Int32)), .val (.int (0 : Int32)), .val (.ref b9), .unset, .unset, .unset, .unset] [(.ref b16), (.ref b15), (.ref b15)])) _
        refine XS.dup X16.here hx rfl (hb hby at_111) rfl rfl ?_
        show Steps p.tables e below (T16.setTop (mkF m 112 #[.val (.int p1), .val (.int p2), .val (.int p3), .val (.int r0), .val (.int r1), .val (.int d0), .val (.int d1), .val (.int (0 : Int32)), .val (.int (0 : Int32)), .val (.ref b9), .unset, .unset, .unset, .unset] [(.ref b16), (.ref b16), (.ref b15), (.ref b15)])) _
        refine XS.iconst X16.here hx rfl (hb hby at_112) ?_
        show Steps p.tables e below (T16.setTop (mkF m 113 #[.val (.int p1), .val (.int p2), .val (.int p3), .val (.int r0), .val (.int r1), .val (.int d0), .val (.int d1), .val (.int (0 : Int32)), .val (.int (0 : Int32)), .val (.ref b9), .unset, .unset, .unset, .unset] [(.int (0 : Int32)), (.ref b16), (.ref b16), (.ref b15), (.ref b15)])) _
        refine XS.iload X16.here hx rfl (hb hby at_113) rfl ?_
        show Steps p.tables e below (T16.setTop (mkF m 115 #[.val (.int p1), .val (.int p2), .val (.int p3), .val (.int r0), .val (.int r1), .val (.int d0), .val (.int d1), .val (.int (0 : Int32)), .val (.int (0 : Int32)), .val (.ref b9), .unset, .unset, .unset, .unset] [(.int d0), (.int (0 : Int32)), (.ref b16), (.ref b16), (.ref b15), (.ref b15)])) _
        refine st17 _ ?_
        show Steps p.tables e below (T17.setTop (mkF m 116 #[.val (.int p1), .val (.int p2), .val (.int p3), .val (.int r0), .val (.int r1), .val (.int d0), .val (.int d1), .val (.int (0 : Int32)), .val (.int (0 : Int32)), .val (.ref b9), .unset, .unset, .unset, .unset] [(.ref b16), (.ref b15), (.ref b15)])) _
        refine XS.dup X17.here hx rfl (hb hby at_116) rfl rfl ?_
        show Steps p.tables e below (T17.setTop (mkF m 117 #[.val (.int p1), .val (.int p2), .val (.int p3), .val (.int r0), .val (.int r1), .val (.int d0), .val (.int d1), .val (.int (0 : Int32)), .val (.int (0 : Int32)), .val (.ref b9), .unset, .unset, .unset, .unset] [(.ref b16), (.ref b16), (.ref b15), (.ref b15)])) _
        refine XS.iconst X17.here hx rfl (hb hby at_117) ?_
        show Steps p.tables e below (T17.setTop (mkF m 118 #[.val (.int p1), .val (.int p2), .val (.int p3), .val (.int r0), .val (.int r1), .val (.int d0), .val (.int d1), .val (.int (0 : Int32)), .val (.int (0 : Int32)), .val (.ref b9), .unset, .unset, .unset, .unset] [(.int (1 : Int32)), (.ref b16), (.ref b16), (.ref b15), (.ref b15)])) _
        refine XS.iload X17.here hx rfl (hb hby at_118) rfl ?_
        show Steps p.tables e below (T17.setTop (mkF m 120 #[.val (.int p1), .val (.int p2), .val (.int p3), .val (.int r0), .val (.int r1), .val (.int d0), .val (.int d1), .val (.int (0 : Int32)), .val (.int (0 : Int32)), .val (.ref b9), .unset, .unset, .unset, .unset] [(.int d1), (.int (1 : Int32)), (.ref b16), (.ref b16), (.ref b15), (.ref b15)])) _
        refine st18 _ ?_
        show Steps p.tables e below (T18.setTop (mkF m 121 #[.val (.int p1), .val (.int p2), .val (.int p3), .val (.int r0), .val (.int r1), .val (.int d0), .val (.int d1), .val (.int (0 : Int32)), .val (.int (0 : Int32)), .val (.ref b9), .unset, .unset, .unset, .unset] [(.ref b16), (.ref b15), (.ref b15)])) _
        refine st20.trans ?_
        show Steps p.tables e below (T20.setTop (mkF m 124 #[.val (.int p1), .val (.int p2), .val (.int p3), .val (.int r0), .val (.int r1), .val (.int d0), .val (.int d1), .val (.int (0 : Int32)), .val (.int (0 : Int32)), .val (.ref b9), .unset, .unset, .unset, .unset] [(.ref b15)])) _
        refine XS.astore X20.here hx rfl (hb hby at_124) rfl rfl (l' := #[.val (.int p1), .val (.int p2), .val (.int p3), .val (.int r0), .val (.int r1), .val (.int d0), .val (.int d1), .val (.int (0 : Int32)), .val (.int (0 : Int32)), .val (.ref b9), .val (.ref b15), .unset, .unset, .unset]) rfl ?_
        show Steps p.tables e below (T20.setTop (mkF m 126 #[.val (.int p1), .val (.int p2), .val (.int p3), .val (.int r0), .val (.int r1), .val (.int d0), .val (.int d1), .val (.int (0 : Int32)), .val (.int (0 : Int32)), .val (.ref b9), .val (.ref b15), .unset, .unset, .unset] [])) _
        refine XS.iload X20.here hx rfl (hb hby at_126) rfl ?_
        show Steps p.tables e below (T20.setTop (mkF m 128 #[.val (.int p1), .val (.int p2), .val (.int p3), .val (.int r0), .val (.int r1), .val (.int d0), .val (.int d1), .val (.int (0 : Int32)), .val (.int (0 : Int32)), .val (.ref b9), .val (.ref b15), .unset, .unset, .unset] [(.int (0 : Int32))])) _
        refine XS.ifYes X20.here hx rfl (pc0 := 128) (pc' := 136) rfl (hb hby at_128) rfl ((if0 _ _).trans (teq (by decide : (0 : Int32) = (0 : Int32))).1) (by decide) (by decide) ?_
        show Steps p.tables e below (T20.setTop (mkF m 136 #[.val (.int p1), .val (.int p2), .val (.int p3), .val (.int r0), .val (.int r1), .val (.int d0), .val (.int d1), .val (.int (0 : Int32)), .val (.int (0 : Int32)), .val (.ref b9), .val (.ref b15), .unset, .unset, .unset] [])) _
        refine st21 _ ?_
        show Steps p.tables e below (T21.setTop (mkF m 139 #[.val (.int p1), .val (.int p2), .val (.int p3), .val (.int r0), .val (.int r1), .val (.int d0), .val (.int d1), .val (.int (0 : Int32)), .val (.int (0 : Int32)), .val (.ref b9), .val (.ref b15), .unset, .unset, .unset] [(.ref b21)])) _
        refine XS.dup X21.here hx rfl (hb hby at_139) rfl rfl ?_
        show Steps p.tables e below (T21.setTop (mkF m 140 #[.val (.int p1), .val (.int p2), .val (.int p3), .val (.int r0), .val (.int r1), .val (.int d0), .val (.int d1), .val (.int (0 : Int32)), .val (.int (0 : Int32)), .val (.ref b9), .val (.ref b15), .unset, .unset, .unset] [(.ref b21), (.ref b21)])) _
        refine XS.bipush X21.here hx rfl (hb hby at_140) ?_
        show Steps p.tables e below (T21.setTop (mkF m 142 #[.val (.int p1), .val (.int p2), .val (.int p3), .val (.int r0), .val (.int r1), .val (.int d0), .val (.int d1), .val (.int (0 : Int32)), .val (.int (0 : Int32)), .val (.ref b9), .val (.ref b15), .unset, .unset, .unset] [(.int (11 : Int32)), (.ref b21), (.ref b21)])) _
        refine st22 _ ?_
        show Steps p.tables e below (T22.setTop (mkF m 144 #[.val (.int p1), .val (.int p2), .val (.int p3), .val (.int r0), .val (.int r1), .val (.int d0), .val (.int d1), .val (.int (0 : Int32)), .val (.int (0 : Int32)), .val (.ref b9), .val (.ref b15), .unset, .unset, .unset] [(.ref b22), (.ref b21), (.ref b21)])) _
        refine XS.dup X22.here hx rfl (hb hby at_144) rfl rfl ?_
        show Steps p.tables e below (T22.setTop (mkF m 145 #[.val (.int p1), .val (.int p2), .val (.int p3), .val (.int r0), .val (.int r1), .val (.int d0), .val (.int d1), .val (.int (0 : Int32)), .val (.int (0 : Int32)), .val (.ref b9), .val (.ref b15), .unset, .unset, .unset] [(.ref b22), (.ref b22), (.ref b21), (.ref b21)])) _
        refine XS.iconst X22.here hx rfl (hb hby at_145) ?_
        show Steps p.tables e below (T22.setTop (mkF m 146 #[.val (.int p1), .val (.int p2), .val (.int p3), .val (.int r0), .val (.int r1), .val (.int d0), .val (.int d1), .val (.int (0 : Int32)), .val (.int (0 : Int32)), .val (.ref b9), .val (.ref b15), .unset, .unset, .unset] [(.int (0 : Int32)), (.ref b22), (.ref b22), (.ref b21), (.ref b21)])) _
        refine XS.bipush X22.here hx rfl (hb hby at_146) ?_
        show Steps p.tables e below (T22.setTop (mkF m 148 #[.val (.int p1), .val (.int p2), .val (.int p3), .val (.int r0), .val (.int r1), .val (.int d0), .val (.int d1), .val (.int (0 : Int32)), .val (.int (0 : Int32)), .val (.ref b9), .val (.ref b15), .unset, .unset, .unset] [(.int (114 : Int32)), (.int (0 : Int32)), (.ref b22), (.ref b22), (.ref b21), (.ref b21)])) _
        refine st23 _ ?_
        show Steps p.tables e below (T23.setTop (mkF m 149 #[.val (.int p1), .val (.int p2), .val (.int p3), .val (.int r0), .val (.int r1), .val (.int d0), .val (.int d1), .val (.int (0 : Int32)), .val (.int (0 : Int32)), .val (.ref b9), .val (.ref b15), .unset, .unset, .unset] [(.ref b22), (.ref b21), (.ref b21)])) _
        refine XS.dup X23.here hx rfl (hb hby at_149) rfl rfl ?_
        show Steps p.tables e below (T23.setTop (mkF m 150 #[.val (.int p1), .val (.int p2), .val (.int p3), .val (.int r0), .val (.int r1), .val (.int d0), .val (.int d1), .val (.int (0 : Int32)), .val (.int (0 : Int32)), .val (.ref b9), .val (.ref b15), .unset, .unset, .unset] [(.ref b22), (.ref b22), (.ref b21), (.ref b21)])) _
        refine XS.iconst X23.here hx rfl (hb hby at_150) ?_
        show Steps p.tables e below (T23.setTop (mkF m 151 #[.val (.int p1), .val (.int p2), .val (.int p3), .val (.int r0), .val (.int r1), .val (.int d0), .val (.int d1), .val (.int (0 : Int32)), .val (.int (0 : Int32)), .val (.ref b9), .val (.ref b15), .unset, .unset, .unset] [(.int (1 : Int32)), (.ref b22), (.ref b22), (.ref b21), (.ref b21)])) _
        refine XS.bipush X23.here hx rfl (hb hby at_151) ?_
        show Steps p.tables e below (T23.setTop (mkF m 153 #[.val (.int p1), .val (.int p2), .val (.int p3), .val (.int r0), .val (.int r1), .val (.int d0), .val (.int d1), .val (.int (0 : Int32)), .val (.int (0 : Int32)), .val (.ref b9), .val (.ref b15), .unset, .unset, .unset] [(.int (101 : Int32)), (.int (1 : Int32)), (.ref b22), (.ref b22), (.ref b21), (.ref b21)])) _
        refine st24 _ ?_
        show Steps p.tables e below (T24.setTop (mkF m 154 #[.val (.int p1), .val (.int p2), .val (.int p3), .val (.int r0), .val (.int r1), .val (.int d0), .val (.int d1), .val (.int (0 : Int32)), .val (.int (0 : Int32)), .val (.ref b9), .val (.ref b15), .unset, .unset, .unset] [(.ref b22), (.ref b21), (.ref b21)])) _
        refine XS.dup X24.here hx rfl (hb hby at_154) rfl rfl ?_
        show Steps p.tables e below (T24.setTop (mkF m 155 #[.val (.int p1), .val (.int p2), .val (.int p3), .val (.int r0), .val (.int r1), .val (.int d0), .val (.int d1), .val (.int (0 : Int32)), .val (.int (0 : Int32)), .val (.ref b9), .val (.ref b15), .unset, .unset, .unset] [(.ref b22), (.ref b22), (.ref b21), (.ref b21)])) _
        refine XS.iconst X24.here hx rfl (hb hby at_155) ?_
        show Steps p.tables e below (T24.setTop (mkF m 156 #[.val (.int p1), .val (.int p2), .val (.int p3), .val (.int r0), .val (.int r1), .val (.int d0), .val (.int d1), .val (.int (0 : Int32)), .val (.int (0 : Int32)), .val (.ref b9), .val (.ref b15), .unset, .unset, .unset] [(.int (2 : Int32)), (.ref b22), (.ref b22), (.ref b21), (.ref b21)])) _
        refine XS.bipush X24.here hx rfl (hb hby at_156) ?_
        show Steps p.tables e below (T24.setTop (mkF m 158 #[.val (.int p1), .val (.int p2), .val (.int p3), .val (.int r0), .val (.int r1), .val (.int d0), .val (.int d1), .val (.int (0 : Int32)), .val (.int (0 : Int32)), .val (.ref b9), .val (.ref b15), .unset, .unset, .unset] [(.int (102 : Int32)), (.int (2 : Int32)), (.ref b22), (.ref b22), (.ref b21), (.ref b21)])) _
        refine st25 _ ?_
        show Steps p.tables e below (T25.setTop (mkF m 159 #[.val (.int p1), .val (.int p2), .val (.int p3), .val (.int r0), .val (.int r1), .val (.int d0), .val (.int d1), .val (.int (0 : Int32)), .val (.int (0 : Int32)), .val (.ref b9), .val (.ref b15), .unset, .unset, .unset] [(.ref b22), (.ref b21), (.ref b21)])) _
        refine XS.dup X25.here hx rfl (hb hby at_159) rfl rfl ?_
        show Steps p.tables e below (T25.setTop (mkF m 160 #[.val (.int p1), .val (.int p2), .val (.int p3), .val (.int r0), .val (.int r1), .val (.int d0), .val (.int d1), .val (.int (0 : Int32)), .val (.int (0 : Int32)), .val (.ref b9), .val (.ref b15), .unset, .unset, .unset] [(.ref b22), (.ref b22), (.ref b21), (.ref b21)])) _
        refine XS.iconst X25.here hx rfl (hb hby at_160) ?_
        show Steps p.tables e below (T25.setTop (mkF m 161 #[.val (.int p1), .val (.int p2), .val (.int p3), .val (.int r0), .val (.int r1), .val (.int d0), .val (.int d1), .val (.int (0 : Int32)), .val (.int (0 : Int32)), .val (.ref b9), .val (.ref b15), .unset, .unset, .unset] [(.int (3 : Int32)), (.ref b22), (.ref b22), (.ref b21), (.ref b21)])) _
        refine XS.bipush X25.here hx rfl (hb hby at_161) ?_
        show Steps p.tables e below (T25.setTop (mkF m 163 #[.val (.int p1), .val (.int p2), .val (.int p3), .val (.int r0), .val (.int r1), .val (.int d0), .val (.int d1), .val (.int (0 : Int32)), .val (.int (0 : Int32)), .val (.ref b9), .val (.ref b15), .unset, .unset, .unset] [(.int (117 : Int32)), (.int (3 : Int32)), (.ref b22), (.ref b22), (.ref b21), (.ref b21)])) _
        refine st26 _ ?_
        show Steps p.tables e below (T26.setTop (mkF m 164 #[.val (.int p1), .val (.int p2), .val (.int p3), .val (.int r0), .val (.int r1), .val (.int d0), .val (.int d1), .val (.int (0 : Int32)), .val (.int (0 : Int32)), .val (.ref b9), .val (.ref b15), .unset, .unset, .unset] [(.ref b22), (.ref b21), (.ref b21)])) _
        refine XS.dup X26.here hx rfl (hb hby at_164) rfl rfl ?_
        show Steps p.tables e below (T26.setTop (mkF m 165 #[.val (.int p1), .val (.int p2), .val (.int p3), .val (.int r0), .val (.int r1), .val (.int d0), .val (.int d1), .val (.int (0 : Int32)), .val (.int (0 : Int32)), .val (.ref b9), .val (.ref b15), .unset, .unset, .unset] [(.ref b22), (.ref b22), (.ref b21), (.ref b21)])) _
        refine XS.iconst X26.here hx rfl (hb hby at_165) ?_
        show Steps p.tables e below (T26.setTop (mkF m 166 #[.val (.int p1), .val (.int p2), .val (.int p3), .val (.int r0), .val (.int r1), .val (.int d0), .val (.int d1), .val (.int (0 : Int32)), .val (.int (0 : Int32)), .val (.ref b9), .val (.ref b15), .unset, .unset, .unset] [(.int (4 : Int32)), (.ref b22), (.ref b22), (.ref b21), (.ref b21)])) _
        refine XS.bipush X26.here hx rfl (hb hby at_166) ?_
        show Steps p.tables e below (T26.setTop (mkF m 168 #[.val (.int p1), .val (.int p2), .val (.int p3), .val (.int r0), .val (.int r1), .val (.int d0), .val (.int d1), .val (.int (0 : Int32)), .val (.int (0 : Int32)), .val (.ref b9), .val (.ref b15), .unset, .unset, .unset] [(.int (115 : Int32)), (.int (4 : Int32)), (.ref b22), (.ref b22), (.ref b21), (.ref b21)])) _
        refine st27 _ ?_
        show Steps p.tables e below (T27.setTop (mkF m 169 #[.val (.int p1), .val (.int p2), .val (.int p3), .val (.int r0), .val (.int r1), .val (.int d0), .val (.int d1), .val (.int (0 : Int32)), .val (.int (0 : Int32)), .val (.ref b9), .val (.ref b15), .unset, .unset, .unset] [(.ref b22), (.ref b21), (.ref b21)])) _
        refine XS.dup X27.here hx rfl (hb hby at_169) rfl rfl ?_
        show Steps p.tables e below (T27.setTop (mkF m 170 #[.val (.int p1), .val (.int p2), .val (.int p3), .val (.int r0), .val (.int r1), .val (.int d0), .val (.int d1), .val (.int (0 : Int32)), .val (.int (0 : Int32)), .val (.ref b9), .val (.ref b15), .unset, .unset, .unset] [(.ref b22), (.ref b22), (.ref b21), (.ref b21)])) _
        refine XS.iconst X27.here hx rfl (hb hby at_170) ?_
        show Steps p.tables e below (T27.setTop (mkF m 171 #[.val (.int p1), .val (.int p2), .val (.int p3), .val (.int r0), .val (.int r1), .val (.int d0), .val (.int d1), .val (.int (0 : Int32)), .val (.int (0 : Int32)), .val (.ref b9), .val (.ref b15), .unset, .unset, .unset] [(.int (5 : Int32)), (.ref b22), (.ref b22), (.ref b21), (.ref b21)])) _
        refine XS.bipush X27.here hx rfl (hb hby at_171) ?_
        show Steps p.tables e below (T27.setTop (mkF m 173 #[.val (.int p1), .val (.int p2), .val (.int p3), .val (.int r0), .val (.int r1), .val (.int d0), .val (.int d1), .val (.int (0 : Int32)), .val (.int (0 : Int32)), .val (.ref b9), .val (.ref b15), .unset, .unset, .unset] [(.int (101 : Int32)), (.int (5 : Int32)), (.ref b22), (.ref b22), (.ref b21), (.ref b21)])) _
        refine st28 _ ?_
        show Steps p.tables e below (T28.setTop (mkF m 174 #[.val (.int p1), .val (.int p2), .val (.int p3), .val (.int r0), .val (.int r1), .val (.int d0), .val (.int d1), .val (.int (0 : Int32)), .val (.int (0 : Int32)), .val (.ref b9), .val (.ref b15), .unset, .unset, .unset] [(.ref b22), (.ref b21), (.ref b21)])) _
        refine XS.dup X28.here hx rfl (hb hby at_174) rfl rfl ?_
        show Steps p.tables e below (T28.setTop (mkF m 175 #[.val (.int p1), .val (.int p2), .val (.int p3), .val (.int r0), .val (.int r1), .val (.int d0), .val (.int d1), .val (.int (0 : Int32)), .val (.int (0 : Int32)), .val (.ref b9), .val (.ref b15), .unset, .unset, .unset] [(.ref b22), (.ref b22), (.ref b21), (.ref b21)])) _
        refine XS.bipush X28.here hx rfl (hb hby at_175) ?_
        show Steps p.tables e below (T28.setTop (mkF m 177 #[.val (.int p1), .val (.int p2), .val (.int p3), .val (.int r0), .val (.int r1), .val (.int d0), .val (.int d1), .val (.int (0 : Int32)), .val (.int (0 : Int32)), .val (.ref b9), .val (.ref b15), .unset, .unset, .unset] [(.int (6 : Int32)), (.ref b22), (.ref b22), (.ref b21), (.ref b21)])) _
        refine XS.bipush X28.here hx rfl (hb hby at_177) ?_
        show Steps p.tables e below (T28.setTop (mkF m 179 #[.val (.int p1), .val (.int p2), .val (.int p3), .val (.int r0), .val (.int r1), .val (.int d0), .val (.int d1), .val (.int (0 : Int32)), .val (.int (0 : Int32)), .val (.ref b9), .val (.ref b15), .unset, .unset, .unset] [(.int (100 : Int32)), (.int (6 : Int32)), (.ref b22), (.ref b22), (.ref b21), (.ref b21)])) _
        refine st29 _ ?_
        show Steps p.tables e below (T29.setTop (mkF m 180 #[.val (.int p1), .val (.int p2), .val (.int p3), .val (.int r0), .val (.int r1), .val (.int d0), .val (.int d1), .val (.int (0 : Int32)), .val (.int (0 : Int32)), .val (.ref b9), .val (.ref b15), .unset, .unset, .unset] [(.ref b22), (.ref b21), (.ref b21)])) _
        refine XS.dup X29.here hx rfl (hb hby at_180) rfl rfl ?_
        show Steps p.tables e below (T29.setTop (mkF m 181 #[.val (.int p1), .val (.int p2), .val (.int p3), .val (.int r0), .val (.int r1), .val (.int d0), .val (.int d1), .val (.int (0 : Int32)), .val (.int (0 : Int32)), .val (.ref b9), .val (.ref b15), .unset, .unset, .unset] [(.ref b22), (.ref b22), (.ref b21), (.ref b21)])) _
        refine XS.bipush X29.here hx rfl (hb hby at_181) ?_
        show Steps p.tables e below (T29.setTop (mkF m 183 #[.val (.int p1), .val (.int p2), .val (.int p3), .val (.int r0), .val (.int r1), .val (.int d0), .val (.int d1), .val (.int (0 : Int32)), .val (.int (0 : Int32)), .val (.ref b9), .val (.ref b15), .unset, .unset, .unset] [(.int (7 : Int32)), (.ref b22), (.ref b22), (.ref b21), (.ref b21)])) _
        refine XS.bipush X29.here hx rfl (hb hby at_183) ?_
        show Steps p.tables e below (T29.setTop (mkF m 185 #[.val (.int p1), .val (.int p2), .val (.int p3), .val (.int r0), .val (.int r1), .val (.int d0), .val (.int d1), .val (.int (0 : Int32)), .val (.int (0 : Int32)), .val (.ref b9), .val (.ref b15), .unset, .unset, .unset] [(.int (58 : Int32)), (.int (7 : Int32)), (.ref b22), (.ref b22), (.ref b21), (.ref b21)])) _
        refine st30 _ ?_
        show Steps p.tables e below (T30.setTop (mkF m 186 #[.val (.int p1), .val (.int p2), .val (.int p3), .val (.int r0), .val (.int r1), .val (.int d0), .val (.int d1), .val (.int (0 : Int32)), .val (.int (0 : Int32)), .val (.ref b9), .val (.ref b15), .unset, .unset, .unset] [(.ref b22), (.ref b21), (.ref b21)])) _
        refine XS.dup X30.here hx rfl (hb hby at_186) rfl rfl ?_
        show Steps p.tables e below (T30.setTop (mkF m 187 #[.val (.int p1), .val (.int p2), .val (.int p3), .val (.int r0), .val (.int r1), .val (.int d0), .val (.int d1), .val (.int (0 : Int32)), .val (.int (0 : Int32)), .val (.ref b9), .val (.ref b15), .unset, .unset, .unset] [(.ref b22), (.ref b22), (.ref b21), (.ref b21)])) _
        refine XS.bipush X30.here hx rfl (hb hby at_187) ?_
        show Steps p.tables e below (T30.setTop (mkF m 189 #[.val (.int p1), .val (.int p2), .val (.int p3), .val (.int r0), .val (.int r1), .val (.int d0), .val (.int d1), .val (.int (0 : Int32)), .val (.int (0 : Int32)), .val (.ref b9), .val (.ref b15), .unset, .unset, .unset] [(.int (8 : Int32)), (.ref b22), (.ref b22), (.ref b21), (.ref b21)])) _
        refine XS.bipush X30.here hx rfl (hb hby at_189) ?_
        show Steps p.tables e below (T30.setTop (mkF m 191 #[.val (.int p1), .val (.int p2), .val (.int p3), .val (.int r0), .val (.int r1), .val (.int d0), .val (.int d1), .val (.int (0 : Int32)), .val (.int (0 : Int32)), .val (.ref b9), .val (.ref b15), .unset, .unset, .unset] [(.int (32 : Int32)), (.int (8 : Int32)), (.ref b22), (.ref b22), (.ref b21), (.ref b21)])) _
        refine st31 _ ?_
        show Steps p.tables e below (T31.setTop (mkF m 192 #[.val (.int p1), .val (.int p2), .val (.int p3), .val (.int r0), .val (.int r1), .val (.int d0), .val (.int d1), .val (.int (0 : Int32)), .val (.int (0 : Int32)), .val (.ref b9), .val (.ref b15), .unset, .unset, .unset] [(.ref b22), (.ref b21), (.ref b21)])) _
        refine XS.dup X31.here hx rfl (hb hby at_192) rfl rfl ?_
        show Steps p.tables e below (T31.setTop (mkF m 193 #[.val (.int p1), .val (.int p2), .val (.int p3), .val (.int r0), .val (.int r1), .val (.int d0), .val (.int d1), .val (.int (0 : Int32)), .val (.int (0 : Int32)), .val (.ref b9), .val (.ref b15), .unset, .unset, .unset] [(.ref b22), (.ref b22), (.ref b21), (.ref b21)])) _
        refine XS.bipush X31.here hx rfl (hb hby at_193) ?_
        show Steps p.tables e below (T31.setTop (mkF m 195 #[.val (.int p1), .val (.int p2), .val (.int p3), .val (.int r0), .val (.int r1), .val (.int d0), .val (.int d1), .val (.int (0 : Int32)), .val (.int (0 : Int32)), .val (.ref b9), .val (.ref b15), .unset, .unset, .unset] [(.int (9 : Int32)), (.ref b22), (.ref b22), (.ref b21), (.ref b21)])) _
        refine XS.iloadN X31.here hx rfl (hb hby at_195) rfl ?_
        show Steps p.tables e below (T31.setTop (mkF m 196 #[.val (.int p1), .val (.int p2), .val (.int p3), .val (.int r0), .val (.int r1), .val (.int d0), .val (.int d1), .val (.int (0 : Int32)), .val (.int (0 : Int32)), .val (.ref b9), .val (.ref b15), .unset, .unset, .unset] [(.int r0), (.int (9 : Int32)), (.ref b22), (.ref b22), (.ref b21), (.ref b21)])) _
        refine st32 _ ?_
        show Steps p.tables e below (T32.setTop (mkF m 197 #[.val (.int p1), .val (.int p2), .val (.int p3), .val (.int r0), .val (.int r1), .val (.int d0), .val (.int d1), .val (.int (0 : Int32)), .val (.int (0 : Int32)), .val (.ref b9), .val (.ref b15), .unset, .unset, .unset] [(.ref b22), (.ref b21), (.ref b21)])) _
        refine XS.dup X32.here hx rfl (hb hby at_197) rfl rfl ?_
        show Steps p.tables e below (T32.setTop (mkF m 198 #[.val (.int p1), .val (.int p2), .val (.int p3), .val (.int r0), .val (.int r1), .val (.int d0), .val (.int d1), .val (.int (0 : Int32)), .val (.int (0 : Int32)), .val (.ref b9), .val (.ref b15), .unset, .unset, .unset] [(.ref b22), (.ref b22), (.ref b21), (.ref b21)])) _
        refine XS.bipush X32.here hx rfl (hb hby at_198) ?_
        show Steps p.tables e below (T32.setTop (mkF m 200 #[.val (.int p1), .val (.int p2), .val (.int p3), .val (.int r0), .val (.int r1), .val (.int d0), .val (.int d1), .val (.int (0 : Int32)), .val (.int (0 : Int32)), .val (.ref b9), .val (.ref b15), .unset, .unset, .unset] [(.int (10 : Int32)), (.ref b22), (.ref b22), (.ref b21), (.ref b21)])) _
        refine XS.iload X32.here hx rfl (hb hby at_200) rfl ?_
        show Steps p.tables e below (T32.setTop (mkF m 202 #[.val (.int p1), .val (.int p2), .val (.int p3), .val (.int r0), .val (.int r1), .val (.int d0), .val (.int d1), .val (.int (0 : Int32)), .val (.int (0 : Int32)), .val (.ref b9), .val (.ref b15), .unset, .unset, .unset] [(.int r1), (.int (10 : Int32)), (.ref b22), (.ref b22), (.ref b21), (.ref b21)])) _
        refine st33 _ ?_
        show Steps p.tables e below (T33.setTop (mkF m 203 #[.val (.int p1), .val (.int p2), .val (.int p3), .val (.int r0), .val (.int r1), .val (.int d0), .val (.int d1), .val (.int (0 : Int32)), .val (.int (0 : Int32)), .val (.ref b9), .val (.ref b15), .unset, .unset, .unset] [(.ref b22), (.ref b21), (.ref b21)])) _
        refine st35.trans ?_
        show Steps p.tables e below (T35.setTop (mkF m 206 #[.val (.int p1), .val (.int p2), .val (.int p3), .val (.int r0), .val (.int r1), .val (.int d0), .val (.int d1), .val (.int (0 : Int32)), .val (.int (0 : Int32)), .val (.ref b9), .val (.ref b15), .unset, .unset, .unset] [(.ref b21)])) _
        refine XS.astore X35.here hx rfl (hb hby at_206) rfl rfl (l' := #[.val (.int p1), .val (.int p2), .val (.int p3), .val (.int r0), .val (.int r1), .val (.int d0), .val (.int d1), .val (.int (0 : Int32)), .val (.int (0 : Int32)), .val (.ref b9), .val (.ref b15), .val (.ref b21), .unset, .unset]) rfl ?_
        show Steps p.tables e below (T35.setTop (mkF m 208 #[.val (.int p1), .val (.int p2), .val (.int p3), .val (.int r0), .val (.int r1), .val (.int d0), .val (.int d1), .val (.int (0 : Int32)), .val (.int (0 : Int32)), .val (.ref b9), .val (.ref b15), .val (.ref b21), .unset, .unset] [])) _
        refine st36 _ ?_
        show Steps p.tables e below (T36.setTop (mkF m 211 #[.val (.int p1), .val (.int p2), .val (.int p3), .val (.int r0), .val (.int r1), .val (.int d0), .val (.int d1), .val (.int (0 : Int32)), .val (.int (0 : Int32)), .val (.ref b9), .val (.ref b15), .val (.ref b21), .unset, .unset] [(.ref b36)])) _
        refine XS.dup X36.here hx rfl (hb hby at_211) rfl rfl ?_
        show Steps p.tables e below (T36.setTop (mkF m 212 #[.val (.int p1), .val (.int p2), .val (.int p3), .val (.int r0), .val (.int r1), .val (.int d0), .val (.int d1), .val (.int (0 : Int32)), .val (.int (0 : Int32)), .val (.ref b9), .val (.ref b15), .val (.ref b21), .unset, .unset] [(.ref b36), (.ref b36)])) _
        refine XS.aload X36.here hx rfl (hb hby at_212) rfl rfl ?_
        show Steps p.tables e below (T36.setTop (mkF m 214 #[.val (.int p1), .val (.int p2), .val (.int p3), .val (.int r0), .val (.int r1), .val (.int d0), .val (.int d1), .val (.int (0 : Int32)), .val (.int (0 : Int32)), .val (.ref b9), .val (.ref b15), .val (.ref b21), .unset, .unset] [(.ref b9), (.ref b36), (.ref b36)])) _
        refine XS.aload X36.here hx rfl (hb hby at_214) rfl rfl ?_
        show Steps p.tables e below (T36.setTop (mkF m 216 #[.val (.int p1), .val (.int p2), .val (.int p3), .val (.int r0), .val (.int r1), .val (.int d0), .val (.int d1), .val (.int (0 : Int32)), .val (.int (0 : Int32)), .val (.ref b9), .val (.ref b15), .val (.ref b21), .unset, .unset] [(.ref b15), (.ref b9), (.ref b36), (.ref b36)])) _
        refine st38.trans ?_
        show Steps p.tables e below (T38.setTop (mkF m 219 #[.val (.int p1), .val (.int p2), .val (.int p3), .val (.int r0), .val (.int r1), .val (.int d0), .val (.int d1), .val (.int (0 : Int32)), .val (.int (0 : Int32)), .val (.ref b9), .val (.ref b15), .val (.ref b21), .unset, .unset] [(.ref b36)])) _
        refine XS.astore X38.here hx rfl (hb hby at_219) rfl rfl (l' := #[.val (.int p1), .val (.int p2), .val (.int p3), .val (.int r0), .val (.int r1), .val (.int d0), .val (.int d1), .val (.int (0 : Int32)), .val (.int (0 : Int32)), .val (.ref b9), .val (.ref b15), .val (.ref b21), .val (.ref b36), .unset]) rfl ?_
        show Steps p.tables e below (T38.setTop (mkF m 221 #[.val (.int p1), .val (.int p2), .val (.int p3), .val (.int r0), .val (.int r1), .val (.int d0), .val (.int d1), .val (.int (0 : Int32)), .val (.int (0 : Int32)), .val (.ref b9), .val (.ref b15), .val (.ref b21), .val (.ref b36), .unset] [])) _
        refine XS.aload X38.here hx rfl (hb hby at_221) rfl rfl ?_
        show Steps p.tables e below (T38.setTop (mkF m 223 #[.val (.int p1), .val (.int p2), .val (.int p3), .val (.int r0), .val (.int r1), .val (.int d0), .val (.int d1), .val (.int (0 : Int32)), .val (.int (0 : Int32)), .val (.ref b9), .val (.ref b15), .val (.ref b21), .val (.ref b36), .unset] [(.ref b36)])) _
        exact k
      obtain ⟨cq40, kq40, q40a, q40b, q40c⟩ := isOf hZ rfl G38_0
      obtain ⟨_, _, ⟨T40, L40, k40, n40⟩, -, Xq40, hSq40, hgq40, ⟨Lc40, hQ40, l40, y40, z40, hRq40⟩, st40⟩ := Y39.virtualBackS hx (y := (⟨"com/example/tranche/tranche/terms/Refusal", "report", "()Ljava/util/List;"⟩ : MethodName)) (z := (⟨"com/example/tranche/tranche/terms/Refusal", "report", "()Ljava/util/List;"⟩ : MethodName)) hown (mvT hZ (hw _ (List.mem_of_getElem? (i := 89) rfl))) (mvT hZ (hw _ (List.mem_of_getElem? (i := 90) rfl))) (notFace_of_selects (args := #[]) (mvT hZ (hw _ (List.mem_of_getElem? (i := 92) rfl)))) (mvT hZ (hw _ (List.mem_of_getElem? (i := 92) rfl))) (mvT hZ (hw _ (List.mem_of_getElem? (i := 91) rfl))) (by decide) (backOfSH (W := 0) (rm12 l Z a0 hw [] b36 T38.heap n0 cs b9 b15 d'_14 k'_14 bs'_14 CS hcs O38 G38_0 G38_2 G38_1 E_b15_38 E_b9_38 F_b9_coder_38 F_b9_value_38 V_d__14_38 (by rw [eqs_14]; exact Nat.le_refl 2) Z38) hZ (hw _ (List.mem_of_getElem? (i := 93) rfl)) (hw _ (List.mem_of_getElem? (i := 35) rfl)) (by decide) (by decide) hEL R38.1) q40a q40c (g := (mkF m 223 #[.val (.int p1), .val (.int p2), .val (.int p3), .val (.int r0), .val (.int r1), .val (.int d0), .val (.int d1), .val (.int (0 : Int32)), .val (.int (0 : Int32)), .val (.ref b9), .val (.ref b15), .val (.ref b21), .val (.ref b36), .unset] [(.ref b36)])) rfl (by rw [hml]; rfl) (Steps.refl _) (argsL := []) (rest := []) (lenOf pd23 rfl) rfl (by show 2 * 0 + _ ≤ _; exact Nat.le_of_eq rfl) (hb hby at_223) (fun _ _ => ⟨rfl, rfl, (by decide : 11 + 7 ≤ _), (by decide : 2802 + 208 ≤ _)⟩)
      dsimp only [Pt.U, Pt.locs, Pt.cells, Pt.slots] at Xq40 hSq40 hgq40 l40 y40 z40 st40 hQ40 hRq40
      subst l40 y40 z40
      obtain ⟨X40, hS, hZ, hown⟩ := rebS hS (by rw [show T38.heap = T38.heap from rfl]; exact hk38) Xq40 hSq40 hgq40 hZ hown
      obtain ⟨r'_40, s'_40, d'_40, k'_40, bs'_40, rfl, N40q, Kc40, G40_0, G40_1, G40_2, G40_3, G40_4, G40_5, G40_6, eqb_40, f_r'_40, f_s'_40, f_d'_40⟩ := hQ40
      have N40 := Fr.app M39 N40q
      have ne_b9_r'_40 : b9 ≠ r'_40 := Nat.ne_of_lt (Nat.lt_of_lt_of_le E_b9_38.lt f_r'_40)
      have ne_b10_r'_40 : b10 ≠ r'_40 := Nat.ne_of_lt (Nat.lt_of_lt_of_le V_b10_38.lt f_r'_40)
      have ne_d__14_r'_40 : d'_14 ≠ r'_40 := Nat.ne_of_lt (Nat.lt_of_lt_of_le V_d__14_38.lt f_r'_40)
      have ne_b15_r'_40 : b15 ≠ r'_40 := Nat.ne_of_lt (Nat.lt_of_lt_of_le E_b15_38.lt f_r'_40)
      have ne_b16_r'_40 : b16 ≠ r'_40 := Nat.ne_of_lt (Nat.lt_of_lt_of_le V_b16_38.lt f_r'_40)
      have ne_d__20_r'_40 : d'_20 ≠ r'_40 := Nat.ne_of_lt (Nat.lt_of_lt_of_le V_d__20_38.lt f_r'_40)
      have ne_b21_r'_40 : b21 ≠ r'_40 := Nat.ne_of_lt (Nat.lt_of_lt_of_le E_b21_38.lt f_r'_40)
      have ne_b22_r'_40 : b22 ≠ r'_40 := Nat.ne_of_lt (Nat.lt_of_lt_of_le V_b22_38.lt f_r'_40)
      have ne_d__35_r'_40 : d'_35 ≠ r'_40 := Nat.ne_of_lt (Nat.lt_of_lt_of_le V_d__35_38.lt f_r'_40)
      have ne_b36_r'_40 : b36 ≠ r'_40 := Nat.ne_of_lt (Nat.lt_of_lt_of_le G38_0.lt f_r'_40)
      have g_r'_40 : n0 ≤ r'_40 := Nat.le_trans Z38 f_r'_40
      have sz_r'_40 : h0.size ≤ r'_40 := Nat.le_trans K38.1 f_r'_40
      have ne_b9_s'_40 : b9 ≠ s'_40 := Nat.ne_of_lt (Nat.lt_of_lt_of_le E_b9_38.lt f_s'_40)
      have ne_b10_s'_40 : b10 ≠ s'_40 := Nat.ne_of_lt (Nat.lt_of_lt_of_le V_b10_38.lt f_s'_40)
      have ne_d__14_s'_40 : d'_14 ≠ s'_40 := Nat.ne_of_lt (Nat.lt_of_lt_of_le V_d__14_38.lt f_s'_40)
      have ne_b15_s'_40 : b15 ≠ s'_40 := Nat.ne_of_lt (Nat.lt_of_lt_of_le E_b15_38.lt f_s'_40)
      have ne_b16_s'_40 : b16 ≠ s'_40 := Nat.ne_of_lt (Nat.lt_of_lt_of_le V_b16_38.lt f_s'_40)
      have ne_d__20_s'_40 : d'_20 ≠ s'_40 := Nat.ne_of_lt (Nat.lt_of_lt_of_le V_d__20_38.lt f_s'_40)
      have ne_b21_s'_40 : b21 ≠ s'_40 := Nat.ne_of_lt (Nat.lt_of_lt_of_le E_b21_38.lt f_s'_40)
      have ne_b22_s'_40 : b22 ≠ s'_40 := Nat.ne_of_lt (Nat.lt_of_lt_of_le V_b22_38.lt f_s'_40)
      have ne_d__35_s'_40 : d'_35 ≠ s'_40 := Nat.ne_of_lt (Nat.lt_of_lt_of_le V_d__35_38.lt f_s'_40)
      have ne_b36_s'_40 : b36 ≠ s'_40 := Nat.ne_of_lt (Nat.lt_of_lt_of_le G38_0.lt f_s'_40)
      have g_s'_40 : n0 ≤ s'_40 := Nat.le_trans Z38 f_s'_40
      have sz_s'_40 : h0.size ≤ s'_40 := Nat.le_trans K38.1 f_s'_40
      have ne_b9_d'_40 : b9 ≠ d'_40 := Nat.ne_of_lt (Nat.lt_of_lt_of_le E_b9_38.lt f_d'_40)
      have ne_b10_d'_40 : b10 ≠ d'_40 := Nat.ne_of_lt (Nat.lt_of_lt_of_le V_b10_38.lt f_d'_40)
      have ne_d__14_d'_40 : d'_14 ≠ d'_40 := Nat.ne_of_lt (Nat.lt_of_lt_of_le V_d__14_38.lt f_d'_40)
      have ne_b15_d'_40 : b15 ≠ d'_40 := Nat.ne_of_lt (Nat.lt_of_lt_of_le E_b15_38.lt f_d'_40)
      have ne_b16_d'_40 : b16 ≠ d'_40 := Nat.ne_of_lt (Nat.lt_of_lt_of_le V_b16_38.lt f_d'_40)
      have ne_d__20_d'_40 : d'_20 ≠ d'_40 := Nat.ne_of_lt (Nat.lt_of_lt_of_le V_d__20_38.lt f_d'_40)
      have ne_b21_d'_40 : b21 ≠ d'_40 := Nat.ne_of_lt (Nat.lt_of_lt_of_le E_b21_38.lt f_d'_40)
      have ne_b22_d'_40 : b22 ≠ d'_40 := Nat.ne_of_lt (Nat.lt_of_lt_of_le V_b22_38.lt f_d'_40)
      have ne_d__35_d'_40 : d'_35 ≠ d'_40 := Nat.ne_of_lt (Nat.lt_of_lt_of_le V_d__35_38.lt f_d'_40)
      have ne_b36_d'_40 : b36 ≠ d'_40 := Nat.ne_of_lt (Nat.lt_of_lt_of_le G38_0.lt f_d'_40)
      have g_d'_40 : n0 ≤ d'_40 := Nat.le_trans Z38 f_d'_40
      have sz_d'_40 : h0.size ≤ d'_40 := Nat.le_trans K38.1 f_d'_40
      have E_b9_40 := E_b9_38.keep Kc40
      have F_b9_coder_40 := F_b9_coder_38.keep Kc40 nin0
      have F_b9_value_40 := F_b9_value_38.keep Kc40 nin0
      have V_b10_40 := V_b10_38.keep Kc40 nin0
      have V_d__14_40 := V_d__14_38.keep Kc40 nin0
      have E_b15_40 := E_b15_38.keep Kc40
      have F_b15_coder_40 := F_b15_coder_38.keep Kc40 nin0
      have F_b15_value_40 := F_b15_value_38.keep Kc40 nin0
      have V_b16_40 := V_b16_38.keep Kc40 nin0
      have V_d__20_40 := V_d__20_38.keep Kc40 nin0
      have E_b21_40 := E_b21_38.keep Kc40
      have F_b21_coder_40 := F_b21_coder_38.keep Kc40 nin0
      have F_b21_value_40 := F_b21_value_38.keep Kc40 nin0
      have V_b22_40 := V_b22_38.keep Kc40 nin0
      have V_d__35_40 := V_d__35_38.keep Kc40 nin0
      have E_b36_40 := G38_0.keep Kc40
      have F_b36_detailMessage_40 := G38_1.keep Kc40 nin0
      have F_b36_reason_40 := G38_2.keep Kc40 nin0
      have K40 : Keep h0 T40.heap [] := K38.trans Kc40 all0
      have Z40 : n0 ≤ T40.heap.size := Nat.le_trans Z38 Kc40.1
      have O40 := Old.keep O38 Kc40 all0
      have r40 := hRq40
      have R40 := R38.trans r40
      have hk40 := Nat.le_trans hk38 Kc40.1
      have hkw40 : T40.heap.size ≤ T40.heap.size := Nat.le_refl _
      obtain ⟨lg42, Y42, M42⟩ := stand_gen X40 N40
      obtain ⟨cq43, kq43, q43a, q43b, q43c⟩ := isOf hZ rfl G40_0
      obtain ⟨_, _, ⟨T43, L43, k43, n43⟩, -, X43, ⟨Lc43, hQ43, l43, y43, z43⟩, st43⟩ := Y42.interfaceBack hx (xi := (⟨"java/util/List", "size", "()I"⟩ : MethodName)) (y := (⟨"java/util/ImmutableCollections$List12", "size", "()I"⟩ : MethodName)) hown (mvT hZ (hw _ (List.mem_of_getElem? (i := 249) rfl))) (mvT hZ (hw _ (List.mem_of_getElem? (i := 250) rfl))) (mvT hZ (hw _ (List.mem_of_getElem? (i := 251) rfl))) (mvT hZ (hw _ (List.mem_of_getElem? (i := 252) rfl))) (mvT hZ (hw _ (List.mem_of_getElem? (i := 253) rfl))) (mvT hZ (hw _ (List.mem_of_getElem? (i := 254) rfl))) (mvT hZ (hw _ (List.mem_of_getElem? (i := 255) rfl))) (mvT hZ (hw _ (List.mem_of_getElem? (i := 256) rfl))) (by decide) (backOf (W := 0) (rm41 l Z a0 hw [] r'_40 T40.heap n0 em s'_40 b15 EM E_em O40 E_b15_40 G40_1 G40_2) hZ (hw _ (List.mem_of_getElem? (i := 257) rfl)) (hw _ (List.mem_of_getElem? (i := 217) rfl)) (by decide) (by decide)) q43a q43b q43c (g := (mkF m 230 #[.val (.int p1), .val (.int p2), .val (.int p3), .val (.int r0), .val (.int r1), .val (.int d0), .val (.int d1), .val (.int (0 : Int32)), .val (.int (0 : Int32)), .val (.ref b9), .val (.ref b15), .val (.ref b21), .val (.ref b36), .val (.ref r'_40)] [(.ref r'_40)])) rfl (by rw [hml]; rfl) (Steps.refl _) (argsL := []) (rest := []) (lenOf pd3 rfl) rfl (by show 2 * 0 + _ ≤ _; exact Nat.le_of_eq rfl) (hb hby at_230) (fun _ _ => ⟨rfl, rfl, (by decide : 18 + 0 ≤ _), (by decide : 3010 + 0 ≤ _)⟩)
      dsimp only [Pt.U, Pt.locs, Pt.cells, Pt.slots] at X43 l43 y43 z43 st43 hQ43
      subst l43 y43 z43
      obtain ⟨rfl, N43q, e43⟩ := hQ43
      have N43 := Fr.app M42 N43q
      obtain ⟨lg44, Y44, M44⟩ := stand_gen X43 N43
      obtain ⟨cq45, kq45, q45a, q45b, q45c⟩ := isOf hZ e43 G40_0
      obtain ⟨_, _, ⟨T45, L45, k45, n45⟩, -, X45, ⟨Lc45, hQ45, l45, y45, z45⟩, st45⟩ := Y44.interfaceBack hx (xi := (⟨"java/util/List", "get", "(I)Ljava/lang/Object;"⟩ : MethodName)) (y := (⟨"java/util/ImmutableCollections$List12", "get", "(I)Ljava/lang/Object;"⟩ : MethodName)) hown (mvT hZ (hw _ (List.mem_of_getElem? (i := 260) rfl))) (mvT hZ (hw _ (List.mem_of_getElem? (i := 261) rfl))) (mvT hZ (hw _ (List.mem_of_getElem? (i := 262) rfl))) (mvT hZ (hw _ (List.mem_of_getElem? (i := 263) rfl))) (mvT hZ (hw _ (List.mem_of_getElem? (i := 264) rfl))) (mvT hZ (hw _ (List.mem_of_getElem? (i := 265) rfl))) (mvT hZ (hw _ (List.mem_of_getElem? (i := 266) rfl))) (mvT hZ (hw _ (List.mem_of_getElem? (i := 256) rfl))) (by decide) (backOf (W := 1) (rm42 l Z a0 hw [] r'_40 T40.heap n0 em s'_40 b15 EM E_em O40 E_b15_40 G40_1 G40_2) hZ (hw _ (List.mem_of_getElem? (i := 267) rfl)) (hw _ (List.mem_of_getElem? (i := 217) rfl)) (by decide) (by decide)) q45a q45b q45c (g := (mkF m 246 #[.val (.int p1), .val (.int p2), .val (.int p3), .val (.int r0), .val (.int r1), .val (.int d0), .val (.int d1), .val (.int (0 : Int32)), .val (.int (0 : Int32)), .val (.ref b9), .val (.ref b15), .val (.ref b21), .val (.ref b36), .val (.ref r'_40)] [(.int (0 : Int32)), (.ref r'_40), (.ref b21)])) rfl (by rw [hml]; rfl) (Steps.refl _) (argsL := [(.int (0 : Int32))]) (rest := [(.ref b21)]) (lenOf pd24 rfl) rfl (by show 2 * 0 + _ ≤ _; exact Nat.le_of_eq rfl) (hb hby at_246) (fun _ _ => ⟨rfl, e43, (by decide : 18 + 0 ≤ _), (by decide : 3010 + 0 ≤ _)⟩)
      dsimp only [Pt.U, Pt.locs, Pt.cells, Pt.slots] at X45 l45 y45 z45 st45 hQ45
      subst l45 y45 z45
      obtain ⟨rfl, N45q, e45⟩ := hQ45
      have N45 := Fr.app M44 N45q
      obtain ⟨lg46, Y46, M46⟩ := stand_gen X45 N45
      obtain ⟨cq47, kq47, q47a, q47b, q47c⟩ := isOf hZ e45 E_b21_40
      obtain ⟨_, _, ⟨T47, L47, k47, n47⟩, -, X47, ⟨Lc47, hQ47, l47, y47, z47⟩, st47⟩ := Y46.virtualBack hx (y := (⟨"java/lang/String", "equals", "(Ljava/lang/Object;)Z"⟩ : MethodName)) (z := (⟨"java/lang/String", "equals", "(Ljava/lang/Object;)Z"⟩ : MethodName)) hown (mvT hZ (hw _ (List.mem_of_getElem? (i := 268) rfl))) (mvT hZ (hw _ (List.mem_of_getElem? (i := 269) rfl))) (notFace_of_selects (args := #[]) (mvT hZ (hw _ (List.mem_of_getElem? (i := 271) rfl)))) (mvT hZ (hw _ (List.mem_of_getElem? (i := 271) rfl))) (mvT hZ (hw _ (List.mem_of_getElem? (i := 270) rfl))) (by decide) (payEq (h := T40.heap) (W := 0) (cs := ([(nar .char (114 : Int32)), (nar .char (101 : Int32)), (nar .char (102 : Int32)), (nar .char (117 : Int32)), (nar .char (115 : Int32)), (nar .char (101 : Int32)), (nar .char (100 : Int32)), (nar .char (58 : Int32)), (nar .char (32 : Int32)), (nar .char r0), (nar .char r1)] : List Int32)) (n0 := n0) hZ hw E_b21_40 F_b21_coder_40 F_b21_value_40 V_d__35_40 G40_3 G40_4 G40_5 G40_6 eqs_35 (by rw [eqb_40, eqs_14, litR_low]; exact List.map_append.symm) (chS ch_114 (chS ch_101 (chS ch_102 (chS ch_117 (chS ch_115 (chS ch_101 (chS ch_100 (chS ch_58 (chS ch_32 (chS b_r0 (chS b_r1 ch0))))))))))) (Nat.le_of_ble_eq_true rfl) (CS.ext O40.2) hcs (by decide) (by decide)) q47a q47c (g := (mkF m 251 #[.val (.int p1), .val (.int p2), .val (.int p3), .val (.int r0), .val (.int r1), .val (.int d0), .val (.int d1), .val (.int (0 : Int32)), .val (.int (0 : Int32)), .val (.ref b9), .val (.ref b15), .val (.ref b21), .val (.ref b36), .val (.ref r'_40)] [(.ref s'_40), (.ref b21)])) rfl (by rw [hml]; rfl) (Steps.refl _) (argsL := [(.ref s'_40)]) (rest := []) (lenOf pd25 rfl) rfl (by show 2 * 0 + _ ≤ _; exact Nat.le_of_eq rfl) (hb hby at_251) (fun _ _ => ⟨rfl, e45, (by decide : 18 + 0 ≤ _), (by decide : 3010 + 0 ≤ _)⟩)
      dsimp only [Pt.U, Pt.locs, Pt.cells, Pt.slots] at X47 l47 y47 z47 st47 hQ47
      subst l47 y47 z47
      obtain ⟨rfl, N47q, e47⟩ := hQ47
      have N47 := Fr.app M46 N47q
      obtain ⟨lg48, Y48, M48⟩ := stand_gen X47 N47
      obtain ⟨cq49, kq49, q49a, q49b, q49c⟩ := isOf hZ e47 G40_0
      obtain ⟨_, _, ⟨T49, L49, k49, n49⟩, -, X49, ⟨Lc49, hQ49, l49, y49, z49⟩, st49⟩ := Y48.interfaceBack hx (xi := (⟨"java/util/List", "get", "(I)Ljava/lang/Object;"⟩ : MethodName)) (y := (⟨"java/util/ImmutableCollections$List12", "get", "(I)Ljava/lang/Object;"⟩ : MethodName)) hown (mvT hZ (hw _ (List.mem_of_getElem? (i := 260) rfl))) (mvT hZ (hw _ (List.mem_of_getElem? (i := 261) rfl))) (mvT hZ (hw _ (List.mem_of_getElem? (i := 262) rfl))) (mvT hZ (hw _ (List.mem_of_getElem? (i := 263) rfl))) (mvT hZ (hw _ (List.mem_of_getElem? (i := 264) rfl))) (mvT hZ (hw _ (List.mem_of_getElem? (i := 265) rfl))) (mvT hZ (hw _ (List.mem_of_getElem? (i := 266) rfl))) (mvT hZ (hw _ (List.mem_of_getElem? (i := 256) rfl))) (by decide) (backOf (W := 1) (rm42b l Z a0 hw [] r'_40 T40.heap n0 em s'_40 b15 EM E_em O40 E_b15_40 G40_1 G40_2) hZ (hw _ (List.mem_of_getElem? (i := 267) rfl)) (hw _ (List.mem_of_getElem? (i := 217) rfl)) (by decide) (by decide)) q49a q49b q49c (g := (mkF m 262 #[.val (.int p1), .val (.int p2), .val (.int p3), .val (.int r0), .val (.int r1), .val (.int d0), .val (.int d1), .val (.int (0 : Int32)), .val (.int (0 : Int32)), .val (.ref b9), .val (.ref b15), .val (.ref b21), .val (.ref b36), .val (.ref r'_40)] [(.int (1 : Int32)), (.ref r'_40), (.ref b15)])) rfl (by rw [hml]; rfl) (Steps.refl _) (argsL := [(.int (1 : Int32))]) (rest := [(.ref b15)]) (lenOf pd24 rfl) rfl (by show 2 * 0 + _ ≤ _; exact Nat.le_of_eq rfl) (hb hby at_262) (fun _ _ => ⟨rfl, e47, (by decide : 18 + 0 ≤ _), (by decide : 3010 + 0 ≤ _)⟩)
      dsimp only [Pt.U, Pt.locs, Pt.cells, Pt.slots] at X49 l49 y49 z49 st49 hQ49
      subst l49 y49 z49
      obtain ⟨rfl, N49q, e49⟩ := hQ49
      have N49 := Fr.app M48 N49q
      obtain ⟨lg50, Y50, M50⟩ := stand_gen X49 N49
      obtain ⟨cq51, kq51, q51a, q51b, q51c⟩ := isOf hZ e49 E_b15_40
      obtain ⟨_, _, ⟨T51, L51, k51, n51⟩, -, X51, ⟨Lc51, hQ51, l51, y51, z51⟩, st51⟩ := Y50.virtualBack hx (y := (⟨"java/lang/String", "equals", "(Ljava/lang/Object;)Z"⟩ : MethodName)) (z := (⟨"java/lang/String", "equals", "(Ljava/lang/Object;)Z"⟩ : MethodName)) hown (mvT hZ (hw _ (List.mem_of_getElem? (i := 268) rfl))) (mvT hZ (hw _ (List.mem_of_getElem? (i := 269) rfl))) (notFace_of_selects (args := #[]) (mvT hZ (hw _ (List.mem_of_getElem? (i := 271) rfl)))) (mvT hZ (hw _ (List.mem_of_getElem? (i := 271) rfl))) (mvT hZ (hw _ (List.mem_of_getElem? (i := 270) rfl))) (by decide) (payEq (h := T40.heap) (W := 0) (cs := ([(nar .char d0), (nar .char d1)] : List Int32)) (n0 := n0) hZ hw E_b15_40 F_b15_coder_40 F_b15_value_40 V_d__20_40 E_b15_40 F_b15_coder_40 F_b15_value_40 V_d__20_40 eqs_20 eqs_20 (chS b_d0 (chS b_d1 ch0)) (Nat.le_of_ble_eq_true rfl) (CS.ext O40.2) hcs (by decide) (by decide)) q51a q51c (g := (mkF m 267 #[.val (.int p1), .val (.int p2), .val (.int p3), .val (.int r0), .val (.int r1), .val (.int d0), .val (.int d1), .val (.int (0 : Int32)), .val (.int (0 : Int32)), .val (.ref b9), .val (.ref b15), .val (.ref b21), .val (.ref b36), .val (.ref r'_40)] [(.ref b15), (.ref b15)])) rfl (by rw [hml]; rfl) (Steps.refl _) (argsL := [(.ref b15)]) (rest := []) (lenOf pd25 rfl) rfl (by show 2 * 0 + _ ≤ _; exact Nat.le_of_eq rfl) (hb hby at_267) (fun _ _ => ⟨rfl, e49, (by decide : 18 + 0 ≤ _), (by decide : 3010 + 0 ≤ _)⟩)
      dsimp only [Pt.U, Pt.locs, Pt.cells, Pt.slots] at X51 l51 y51 z51 st51 hQ51
      subst l51 y51 z51
      obtain ⟨rfl, N51q, e51⟩ := hQ51
      have N51 := Fr.app M50 N51q
      refine hneg ?_
      have hR := R40.trans (CHv.at X51 hZ hEL R40.1)
      obtain ⟨fs, hr, hrun, hended, hW⟩ := X51.leaveW (v := some (.int (1 : Int32))) hS (by rw [show T51.heap = T40.heap from e51]; exact hkw40) (fun h => by rw [Bd.returns] at h; cases h)
      refine ⟨_, _, pre41 _ ?_, hrun, hended, _, _, rfl, ?_, ?_, rew_mono hW (by decide) (by decide)⟩
      · refine st40.trans ?_
        show Steps p.tables e below (T40.setTop (mkF m 226 #[.val (.int p1), .val (.int p2), .val (.int p3), .val (.int r0), .val (.int r1), .val (.int d0), .val (.int d1), .val (.int (0 : Int32)), .val (.int (0 : Int32)), .val (.ref b9), .val (.ref b15), .val (.ref b21), .val (.ref b36), .unset] [(.ref r'_40)])) _
        refine XS.astore X40.here hx rfl (hb hby at_226) rfl rfl (l' := #[.val (.int p1), .val (.int p2), .val (.int p3), .val (.int r0), .val (.int r1), .val (.int d0), .val (.int d1), .val (.int (0 : Int32)), .val (.int (0 : Int32)), .val (.ref b9), .val (.ref b15), .val (.ref b21), .val (.ref b36), .val (.ref r'_40)]) rfl ?_
        show Steps p.tables e below (T40.setTop (mkF m 228 #[.val (.int p1), .val (.int p2), .val (.int p3), .val (.int r0), .val (.int r1), .val (.int d0), .val (.int d1), .val (.int (0 : Int32)), .val (.int (0 : Int32)), .val (.ref b9), .val (.ref b15), .val (.ref b21), .val (.ref b36), .val (.ref r'_40)] [])) _
        refine XS.aload X40.here hx rfl (hb hby at_228) rfl rfl ?_
        show Steps p.tables e below (T40.setTop (mkF m 230 #[.val (.int p1), .val (.int p2), .val (.int p3), .val (.int r0), .val (.int r1), .val (.int d0), .val (.int d1), .val (.int (0 : Int32)), .val (.int (0 : Int32)), .val (.ref b9), .val (.ref b15), .val (.ref b21), .val (.ref b36), .val (.ref r'_40)] [(.ref r'_40)])) _
        refine st43.trans ?_
        show Steps p.tables e below (T43.setTop (mkF m 235 #[.val (.int p1), .val (.int p2), .val (.int p3), .val (.int r0), .val (.int r1), .val (.int d0), .val (.int d1), .val (.int (0 : Int32)), .val (.int (0 : Int32)), .val (.ref b9), .val (.ref b15), .val (.ref b21), .val (.ref b36), .val (.ref r'_40)] [(.int (2 : Int32))])) _
        refine XS.iconst X43.here hx rfl (hb hby at_235) ?_
        show Steps p.tables e below (T43.setTop (mkF m 236 #[.val (.int p1), .val (.int p2), .val (.int p3), .val (.int r0), .val (.int r1), .val (.int d0), .val (.int d1), .val (.int (0 : Int32)), .val (.int (0 : Int32)), .val (.ref b9), .val (.ref b15), .val (.ref b21), .val (.ref b36), .val (.ref r'_40)] [(.int (2 : Int32)), (.int (2 : Int32))])) _
        refine XS.icmpYes X43.here hx rfl (pc0 := 236) (pc' := 241) rfl (hb hby at_236) rfl (teq (by decide : (2 : Int32) = (2 : Int32))).1 (by decide) (by decide) ?_
        show Steps p.tables e below (T43.setTop (mkF m 241 #[.val (.int p1), .val (.int p2), .val (.int p3), .val (.int r0), .val (.int r1), .val (.int d0), .val (.int d1), .val (.int (0 : Int32)), .val (.int (0 : Int32)), .val (.ref b9), .val (.ref b15), .val (.ref b21), .val (.ref b36), .val (.ref r'_40)] [])) _
        refine XS.aload X43.here hx rfl (hb hby at_241) rfl rfl ?_
        show Steps p.tables e below (T43.setTop (mkF m 243 #[.val (.int p1), .val (.int p2), .val (.int p3), .val (.int r0), .val (.int r1), .val (.int d0), .val (.int d1), .val (.int (0 : Int32)), .val (.int (0 : Int32)), .val (.ref b9), .val (.ref b15), .val (.ref b21), .val (.ref b36), .val (.ref r'_40)] [(.ref b21)])) _
        refine XS.aload X43.here hx rfl (hb hby at_243) rfl rfl ?_
        show Steps p.tables e below (T43.setTop (mkF m 245 #[.val (.int p1), .val (.int p2), .val (.int p3), .val (.int r0), .val (.int r1), .val (.int d0), .val (.int d1), .val (.int (0 : Int32)), .val (.int (0 : Int32)), .val (.ref b9), .val (.ref b15), .val (.ref b21), .val (.ref b36), .val (.ref r'_40)] [(.ref r'_40), (.ref b21)])) _
        refine XS.iconst X43.here hx rfl (hb hby at_245) ?_
        show Steps p.tables e below (T43.setTop (mkF m 246 #[.val (.int p1), .val (.int p2), .val (.int p3), .val (.int r0), .val (.int r1), .val (.int d0), .val (.int d1), .val (.int (0 : Int32)), .val (.int (0 : Int32)), .val (.ref b9), .val (.ref b15), .val (.ref b21), .val (.ref b36), .val (.ref r'_40)] [(.int (0 : Int32)), (.ref r'_40), (.ref b21)])) _
        refine st45.trans ?_
        show Steps p.tables e below (T45.setTop (mkF m 251 #[.val (.int p1), .val (.int p2), .val (.int p3), .val (.int r0), .val (.int r1), .val (.int d0), .val (.int d1), .val (.int (0 : Int32)), .val (.int (0 : Int32)), .val (.ref b9), .val (.ref b15), .val (.ref b21), .val (.ref b36), .val (.ref r'_40)] [(.ref s'_40), (.ref b21)])) _
        refine st47.trans ?_
        show Steps p.tables e below (T47.setTop (mkF m 254 #[.val (.int p1), .val (.int p2), .val (.int p3), .val (.int r0), .val (.int r1), .val (.int d0), .val (.int d1), .val (.int (0 : Int32)), .val (.int (0 : Int32)), .val (.ref b9), .val (.ref b15), .val (.ref b21), .val (.ref b36), .val (.ref r'_40)] [(.int (1 : Int32))])) _
        refine XS.ifNo X47.here hx rfl (hb hby at_254) rfl ((if0 _ _).trans (feq (by decide : ¬ ((1 : Int32) = (0 : Int32)))).1) ?_
        show Steps p.tables e below (T47.setTop (mkF m 257 #[.val (.int p1), .val (.int p2), .val (.int p3), .val (.int r0), .val (.int r1), .val (.int d0), .val (.int d1), .val (.int (0 : Int32)), .val (.int (0 : Int32)), .val (.ref b9), .val (.ref b15), .val (.ref b21), .val (.ref b36), .val (.ref r'_40)] [])) _
        refine XS.aload X47.here hx rfl (hb hby at_257) rfl rfl ?_
        show Steps p.tables e below (T47.setTop (mkF m 259 #[.val (.int p1), .val (.int p2), .val (.int p3), .val (.int r0), .val (.int r1), .val (.int d0), .val (.int d1), .val (.int (0 : Int32)), .val (.int (0 : Int32)), .val (.ref b9), .val (.ref b15), .val (.ref b21), .val (.ref b36), .val (.ref r'_40)] [(.ref b15)])) _
        refine XS.aload X47.here hx rfl (hb hby at_259) rfl rfl ?_
        show Steps p.tables e below (T47.setTop (mkF m 261 #[.val (.int p1), .val (.int p2), .val (.int p3), .val (.int r0), .val (.int r1), .val (.int d0), .val (.int d1), .val (.int (0 : Int32)), .val (.int (0 : Int32)), .val (.ref b9), .val (.ref b15), .val (.ref b21), .val (.ref b36), .val (.ref r'_40)] [(.ref r'_40), (.ref b15)])) _
        refine XS.iconst X47.here hx rfl (hb hby at_261) ?_
        show Steps p.tables e below (T47.setTop (mkF m 262 #[.val (.int p1), .val (.int p2), .val (.int p3), .val (.int r0), .val (.int r1), .val (.int d0), .val (.int d1), .val (.int (0 : Int32)), .val (.int (0 : Int32)), .val (.ref b9), .val (.ref b15), .val (.ref b21), .val (.ref b36), .val (.ref r'_40)] [(.int (1 : Int32)), (.ref r'_40), (.ref b15)])) _
        refine st49.trans ?_
        show Steps p.tables e below (T49.setTop (mkF m 267 #[.val (.int p1), .val (.int p2), .val (.int p3), .val (.int r0), .val (.int r1), .val (.int d0), .val (.int d1), .val (.int (0 : Int32)), .val (.int (0 : Int32)), .val (.ref b9), .val (.ref b15), .val (.ref b21), .val (.ref b36), .val (.ref r'_40)] [(.ref b15), (.ref b15)])) _
        refine st51.trans ?_
        show Steps p.tables e below (T51.setTop (mkF m 270 #[.val (.int p1), .val (.int p2), .val (.int p3), .val (.int r0), .val (.int r1), .val (.int d0), .val (.int d1), .val (.int (0 : Int32)), .val (.int (0 : Int32)), .val (.ref b9), .val (.ref b15), .val (.ref b21), .val (.ref b36), .val (.ref r'_40)] [(.int (1 : Int32))])) _
        refine XS.ifNo X51.here hx rfl (hb hby at_270) rfl ((if0 _ _).trans (feq (by decide : ¬ ((1 : Int32) = (0 : Int32)))).1) ?_
        show Steps p.tables e below (T51.setTop (mkF m 273 #[.val (.int p1), .val (.int p2), .val (.int p3), .val (.int r0), .val (.int r1), .val (.int d0), .val (.int d1), .val (.int (0 : Int32)), .val (.int (0 : Int32)), .val (.ref b9), .val (.ref b15), .val (.ref b21), .val (.ref b36), .val (.ref r'_40)] [])) _
        refine XS.iconst X51.here hx rfl (hb hby at_273) ?_
        show Steps p.tables e below (T51.setTop (mkF m 274 #[.val (.int p1), .val (.int p2), .val (.int p3), .val (.int r0), .val (.int r1), .val (.int d0), .val (.int d1), .val (.int (0 : Int32)), .val (.int (0 : Int32)), .val (.ref b9), .val (.ref b15), .val (.ref b21), .val (.ref b36), .val (.ref r'_40)] [(.int (1 : Int32))])) _
        refine XS.goto X51.here hx rfl (pc0 := 274) (pc' := 278) rfl (hb hby at_274) (by decide) (by decide) ?_
        show Steps p.tables e below (T51.setTop (mkF m 278 #[.val (.int p1), .val (.int p2), .val (.int p3), .val (.int r0), .val (.int r1), .val (.int d0), .val (.int d1), .val (.int (0 : Int32)), .val (.int (0 : Int32)), .val (.ref b9), .val (.ref b15), .val (.ref b21), .val (.ref b36), .val (.ref r'_40)] [(.int (1 : Int32))])) _
        exact retN X51 hx (t := .boolean) Bd.returns (by simp) (hb hby at_278) hr
      · show Q0 Z p1 p2 p3 cs ua us em h0 n0 _ T51.heap _
        rw [e51]
        exact ⟨rfl, N51⟩
      · show CHr Z consts_1 s.vm s.heap T51.vm T51.heap
        rw [hh, show T51.heap = T40.heap from e51]; exact hR
    · obtain ⟨T52, h52, X52, e52, E52, A52, D52, U52, st52⟩ := newO X0 hx hZ hown (hw _ (List.mem_of_getElem? (i := 0) rfl)) (hw _ (List.mem_of_getElem? (i := 1) rfl)) (hw _ (List.mem_of_getElem? (i := 2) rfl)) e0 (g := (mkF m 73 #[.val (.int p1), .val (.int p2), .val (.int p3), .val (.int r0), .val (.int r1), .val (.int d0), .val (.int d1), .val (.int (0 : Int32)), .val (.int (1 : Int32)), .unset, .unset, .unset, .unset, .unset] [])) rfl (hb hby at_73) (by decide) (by decide)
      obtain ⟨b52, g52⟩ : ∃ z, z = h0.size := ⟨_, rfl⟩
      rw [← g52] at A52 D52 U52 st52
      have g_b52 : n0 ≤ b52 := Nat.le_trans Z0 (Nat.le_of_eq g52.symm)
      have sz_b52 : h0.size ≤ b52 := Nat.le_trans (Keep.refl h0 []).1 (Nat.le_of_eq g52.symm)
      have K52 : Keep h0 h52 [] := (Keep.refl h0 []).ext E52
      have Z52 : n0 ≤ h52.size := Nat.le_trans Z0 E52.1
      have O52 := Old.ext O0 E52
      have S0_b52 : Safe Z consts_1 s.vm h0 b52 := Safe.new (Nat.le_of_eq g52.symm)
      have r52 := CHr.ext E52 R0.1
      have S52_b52 := Safe.ext E52 R0.1 S0_b52
      have R52 := R0.trans r52
      have hk52 := Nat.le_trans hk0 E52.1
      have F_coder_b52 : Fld Z h52 b52 "java/lang/String" "coder" "B" (.int (0 : Int32)) := D52 (Or.inr (hw _ (List.mem_of_getElem? (i := 27) rfl))) (ty := .byte) (by decide)
      have F_value_b52 : Fld Z h52 b52 "java/lang/String" "value" "[B" .null := D52 (Or.inr (hw _ (List.mem_of_getElem? (i := 29) rfl))) (ty := (.array .byte)) (by decide)
      obtain ⟨T53, h53, k53, X53, e53, E53, A53, st53⟩ := newP X52 hx hZ (hw _ (List.mem_of_getElem? (i := 3) rfl)) e52 (g := (mkF m 78 #[.val (.int p1), .val (.int p2), .val (.int p3), .val (.int r0), .val (.int r1), .val (.int d0), .val (.int d1), .val (.int (0 : Int32)), .val (.int (1 : Int32)), .unset, .unset, .unset, .unset, .unset] [(.int (2 : Int32)), (.ref b52), (.ref b52)])) rfl (hb hby at_78) rfl (by decide) (cap := 2) (by decide) (by decide) (by decide) (by decide)
      obtain ⟨b53, g53⟩ : ∃ z, z = h52.size := ⟨_, rfl⟩
      rw [← g53] at A53 st53
      have ne_b52_b53 : b52 ≠ b53 := Nat.ne_of_lt (Nat.lt_of_lt_of_le A52.lt (Nat.le_of_eq g53.symm))
      have g_b53 : n0 ≤ b53 := Nat.le_trans Z52 (Nat.le_of_eq g53.symm)
      have sz_b53 : h0.size ≤ b53 := Nat.le_trans K52.1 (Nat.le_of_eq g53.symm)
      have E_b52_53 := A52.ext E53
      have F_b52_coder_53 := F_coder_b52.ext E53
      have F_b52_value_53 := F_value_b52.ext E53
      have K53 : Keep h0 h53 [] := K52.ext E53
      have Z53 : n0 ≤ h53.size := Nat.le_trans Z52 E53.1
      have O53 := Old.ext O52 E53
      have r53 := CHr.ext E53 R52.1
      have S53_b52 := Safe.ext E53 R52.1 S52_b52
      have R53 := R52.trans r53
      have hk53 := Nat.le_trans hk52 E53.1
      have V_b53 : Arv Z h53 b53 k53 .char (2 : Int32) [(.int (0 : Int32)), (.int (0 : Int32))] (.int (0 : Int32)) := (Arv.new A53 (by decide)).pad (pad_rep [] (.int (0 : Int32)) 2)
      obtain ⟨cl54, Ar54, q54, S54_, N54_, H54_, G54_⟩ := V_b53
      have hin54 : ¬ ((0 : Int32) < 0 ∨ cl54.slots.size ≤ ((0 : Int32)).toNatClampNeg) := inb_of S54_ ⟨by decide, by decide⟩
      obtain ⟨T54, h54, X54, e54, W54, st54⟩ := stC X53 hx hZ e53 Ar54 (j := (0 : Int32)) hin54 (g := (mkF m 83 #[.val (.int p1), .val (.int p2), .val (.int p3), .val (.int r0), .val (.int r1), .val (.int d0), .val (.int d1), .val (.int (0 : Int32)), .val (.int (1 : Int32)), .unset, .unset, .unset, .unset, .unset] [(.int r0), (.int (0 : Int32)), (.ref b53), (.ref b53), (.ref b52), (.ref b52)])) rfl rfl (hb hby at_83)
      have E_b52_54 := E_b52_53.wr W54
      have F_b52_coder_54 := F_b52_coder_53.other W54 (Or.inl ne_b52_b53)
      have F_b52_value_54 := F_b52_value_53.other W54 (Or.inl ne_b52_b53)
      have V_b53_54 : Arv Z h54 b53 k53 .char (2 : Int32) [(.int (nar .char r0)), (.int (0 : Int32))] (.int (0 : Int32)) := Arv.set Ar54 q54 S54_ N54_ H54_ G54_ (fits_nar_char _) W54 0 rfl (Nat.le_of_ble_eq_true rfl)
      have K54 : Keep h0 h54 [] := K53.wr W54 (Or.inr sz_b53)
      have N54 := Fr.snoc X54 N0 g_b53
      have Z54 : n0 ≤ h54.size := Nat.le_trans Z53 (Keep.of_wr W54).1
      have O54 := Old.wr O53 W54 g_b53
      have r54 := CHr.wr W54 (Safe.arr hZ.alike Ar54 (by decide)) R53.1
      have S54_b52 := r54.safe E_b52_53.lt S53_b52
      have R54 := R53.trans r54
      have hk54 := Nat.le_trans hk53 (Keep.of_wr W54).1
      obtain ⟨cl55, Ar55, q55, S55_, N55_, H55_, G55_⟩ := V_b53_54
      have hin55 : ¬ ((1 : Int32) < 0 ∨ cl55.slots.size ≤ ((1 : Int32)).toNatClampNeg) := inb_of S55_ ⟨by decide, by decide⟩
      obtain ⟨T55, h55, X55, e55, W55, st55⟩ := stC X54 hx hZ e54 Ar55 (j := (1 : Int32)) hin55 (g := (mkF m 88 #[.val (.int p1), .val (.int p2), .val (.int p3), .val (.int r0), .val (.int r1), .val (.int d0), .val (.int d1), .val (.int (0 : Int32)), .val (.int (1 : Int32)), .unset, .unset, .unset, .unset, .unset] [(.int r1), (.int (1 : Int32)), (.ref b53), (.ref b53), (.ref b52), (.ref b52)])) rfl rfl (hb hby at_88)
      have E_b52_55 := E_b52_54.wr W55
      have F_b52_coder_55 := F_b52_coder_54.other W55 (Or.inl ne_b52_b53)
      have F_b52_value_55 := F_b52_value_54.other W55 (Or.inl ne_b52_b53)
      have V_b53_55 : Arv Z h55 b53 k53 .char (2 : Int32) [(.int (nar .char r0)), (.int (nar .char r1))] (.int (0 : Int32)) := Arv.set Ar55 q55 S55_ N55_ H55_ G55_ (fits_nar_char _) W55 1 rfl (Nat.le_of_ble_eq_true rfl)
      have K55 : Keep h0 h55 [] := K54.wr W55 (Or.inr sz_b53)
      have N55 := Fr.snoc X55 N54 g_b53
      have Z55 : n0 ≤ h55.size := Nat.le_trans Z54 (Keep.of_wr W55).1
      have O55 := Old.wr O54 W55 g_b53
      have r55 := CHr.wr W55 (Safe.arr hZ.alike Ar55 (by decide)) R54.1
      have S55_b52 := r55.safe E_b52_54.lt S54_b52
      have R55 := R54.trans r55
      have hk55 := Nat.le_trans hk54 (Keep.of_wr W55).1
      obtain ⟨lg56, Y56, M56⟩ := stand_gen X55 N55
      obtain ⟨_, _, ⟨T57, L57, k57, n57⟩, -, X57, ⟨Lc57, hQ57, l57, y57, z57⟩, st57⟩ := Y56.specialBack hx (y := (⟨"java/lang/String", "<init>", "([C)V"⟩ : MethodName)) rfl hown (mvT hZ (hw _ (List.mem_of_getElem? (i := 4) rfl))) (mvT hZ (hw _ (List.mem_of_getElem? (i := 5) rfl))) (mvT hZ (hw _ (List.mem_of_getElem? (i := 6) rfl))) (by decide) (payNew (h := h55) (W := 1) (n := 2) (cs := ([(nar .char r0), (nar .char r1)] : List Int32)) (n0 := n0) hZ hw rfl g_b52 Z55 E_b52_55 F_b52_value_55 F_b52_coder_55 V_b53_55 (CS.ext O55.2) hcs (by decide) (by decide) (chS b_r0 (chS b_r1 ch0)) (by decide) (by decide)) (g := (mkF m 89 #[.val (.int p1), .val (.int p2), .val (.int p3), .val (.int r0), .val (.int r1), .val (.int d0), .val (.int d1), .val (.int (0 : Int32)), .val (.int (1 : Int32)), .unset, .unset, .unset, .unset, .unset] [(.ref b53), (.ref b52), (.ref b52)])) rfl (by rw [hml]; rfl) (Steps.refl _) (a := b52) (argsL := [(.ref b53)]) (rest := [(.ref b52)]) (lenOf pd21 rfl) rfl (by show 2 * 0 + _ ≤ _; exact Nat.le_of_eq rfl) (hb hby at_89) (fun _ _ => ⟨rfl, e55, (by decide : 2 + 1 ≤ _), (by decide : 6 + 2 ≤ _)⟩)
      dsimp only [Pt.U, Pt.locs, Pt.cells, Pt.slots] at X57 l57 y57 z57 st57 hQ57
      subst l57 y57 z57
      obtain ⟨d'_57, k'_57, bs'_57, rfl, N57q, Kc57, G57_0, G57_1, G57_2, G57_3, eqs_57, f_d'_57⟩ := hQ57
      have N57 := Fr.app M56 N57q
      have ne_b52_d'_57 : b52 ≠ d'_57 := Nat.ne_of_lt (Nat.lt_of_lt_of_le E_b52_55.lt f_d'_57)
      have ne_b53_d'_57 : b53 ≠ d'_57 := Nat.ne_of_lt (Nat.lt_of_lt_of_le V_b53_55.lt f_d'_57)
      have g_d'_57 : n0 ≤ d'_57 := Nat.le_trans Z55 f_d'_57
      have sz_d'_57 : h0.size ≤ d'_57 := Nat.le_trans K55.1 f_d'_57
      have S0_d'_57 : Safe Z consts_1 s.vm h55 d'_57 := Safe.new f_d'_57
      have V_b53_57 := V_b53_55.keep Kc57 (ninS (Ne.symm ne_b52_b53) nin0)
      have K57 : Keep h0 T57.heap [] := K55.trans Kc57 (allS (P := fun x => x ∈ ([] : List Addr) ∨ h0.size ≤ x) (Or.inr sz_b52) all0)
      have Z57 : n0 ≤ T57.heap.size := Nat.le_trans Z55 Kc57.1
      have O57 := Old.keep O55 Kc57 (allS g_b52 all0)
      have hs57 : ∀ x ∈ ([b52] : List Addr), Safe Z consts_1 s.vm h55 x := (sfS S55_b52 sf0)
      have r57 := CHr.keep Kc57 hs57 R55.1
      have S57_b52 := Safe.keep Kc57 hs57 R55.1 S55_b52
      have S57_d'_57 := Safe.keep Kc57 hs57 R55.1 S0_d'_57
      have R57 := R55.trans r57
      have hk57 := Nat.le_trans hk55 Kc57.1
      have pre59 : ∀ t, Steps p.tables e below (T57.setTop (mkF m 99 #[.val (.int p1), .val (.int p2), .val (.int p3), .val (.int r0), .val (.int r1), .val (.int d0), .val (.int d1), .val (.int (0 : Int32)), .val (.int (1 : Int32)), .val (.ref b52), .unset, .unset, .unset, .unset] [])) t → Steps p.tables e below (s₁.setTop (entryFrame m #[(.int p1), (.int p2), (.int p3)] maxLocals)) t := by
        intro t k
        refine pre7 t ?_
        show Steps p.tables e below (s₁.setTop (mkF m 53 #[.val (.int p1), .val (.int p2), .val (.int p3), .val (.int r0), .val (.int r1), .val (.int d0), .val (.int d1), .val (.int (0 : Int32)), .unset, .unset, .unset, .unset, .unset, .unset] [(.int (p3 &&& (2 : Int32)))])) _
        refine XS.ifNo X0.here hx rfl (hb hby at_53) rfl ((if0 _ _).trans (feq hc53_8).1) ?_
        show Steps p.tables e below (s₁.setTop (mkF m 56 #[.val (.int p1), .val (.int p2), .val (.int p3), .val (.int r0), .val (.int r1), .val (.int d0), .val (.int d1), .val (.int (0 : Int32)), .unset, .unset, .unset, .unset, .unset, .unset] [])) _
        refine XS.iconst X0.here hx rfl (hb hby at_56) ?_
        show Steps p.tables e below (s₁.setTop (mkF m 57 #[.val (.int p1), .val (.int p2), .val (.int p3), .val (.int r0), .val (.int r1), .val (.int d0), .val (.int d1), .val (.int (0 : Int32)), .unset, .unset, .unset, .unset, .unset, .unset] [(.int (1 : Int32))])) _
        refine XS.goto X0.here hx rfl (pc0 := 57) (pc' := 61) rfl (hb hby at_57) (by decide) (by decide) ?_
        show Steps p.tables e below (s₁.setTop (mkF m 61 #[.val (.int p1), .val (.int p2), .val (.int p3), .val (.int r0), .val (.int r1), .val (.int d0), .val (.int d1), .val (.int (0 : Int32)), .unset, .unset, .unset, .unset, .unset, .unset] [(.int (1 : Int32))])) _
        refine XS.istore X0.here hx rfl (hb hby at_61) rfl (l' := #[.val (.int p1), .val (.int p2), .val (.int p3), .val (.int r0), .val (.int r1), .val (.int d0), .val (.int d1), .val (.int (0 : Int32)), .val (.int (1 : Int32)), .unset, .unset, .unset, .unset, .unset]) rfl ?_
        show Steps p.tables e below (s₁.setTop (mkF m 63 #[.val (.int p1), .val (.int p2), .val (.int p3), .val (.int r0), .val (.int r1), .val (.int d0), .val (.int d1), .val (.int (0 : Int32)), .val (.int (1 : Int32)), .unset, .unset, .unset, .unset, .unset] [])) _
        refine XS.iload X0.here hx rfl (hb hby at_63) rfl ?_
        show Steps p.tables e below (s₁.setTop (mkF m 65 #[.val (.int p1), .val (.int p2), .val (.int p3), .val (.int r0), .val (.int r1), .val (.int d0), .val (.int d1), .val (.int (0 : Int32)), .val (.int (1 : Int32)), .unset, .unset, .unset, .unset, .unset] [(.int (0 : Int32))])) _
        refine XS.ifYes X0.here hx rfl (pc0 := 65) (pc' := 73) rfl (hb hby at_65) rfl ((if0 _ _).trans (teq (by decide : (0 : Int32) = (0 : Int32))).1) (by decide) (by decide) ?_
        show Steps p.tables e below (s₁.setTop (mkF m 73 #[.val (.int p1), .val (.int p2), .val (.int p3), .val (.int r0), .val (.int r1), .val (.int d0), .val (.int d1), .val (.int (0 : Int32)), .val (.int (1 : Int32)), .unset, .unset, .unset, .unset, .unset] [])) _
        refine st52 _ ?_
        show Steps p.tables e below (T52.setTop (mkF m 76 #[.val (.int p1), .val (.int p2), .val (.int p3), .val (.int r0), .val (.int r1), .val (.int d0), .val (.int d1), .val (.int (0 : Int32)), .val (.int (1 : Int32)), .unset, .unset, .unset, .unset, .unset] [(.ref b52)])) _
        refine XS.dup X52.here hx rfl (hb hby at_76) rfl rfl ?_
        show Steps p.tables e below (T52.setTop (mkF m 77 #[.val (.int p1), .val (.int p2), .val (.int p3), .val (.int r0), .val (.int r1), .val (.int d0), .val (.int d1), .val (.int (0 : Int32)), .val (.int (1 : Int32)), .unset, .unset, .unset, .unset, .unset] [(.ref b52), (.ref b52)])) _
        refine XS.iconst X52.here hx rfl (hb hby at_77) ?_
        show Steps p.tables e below (T52.setTop (mkF m 78 #[.val (.int p1), .val (.int p2), .val (.int p3), .val (.int r0), .val (.int r1), .val (.int d0), .val (.int d1), .val (.int (0 : Int32)), .val (.int (1 : Int32)), .unset, .unset, .unset, .unset, .unset] [(.int (2 : Int32)), (.ref b52), (.ref b52)])) _
        refine st53 _ ?_
        show Steps p.tables e below (T53.setTop (mkF m 80 #[.val (.int p1), .val (.int p2), .val (.int p3), .val (.int r0), .val (.int r1), .val (.int d0), .val (.int d1), .val (.int (0 : Int32)), .val (.int (1 : Int32)), .unset, .unset, .unset, .unset, .unset] [(.ref b53), (.ref b52), (.ref b52)])) _
        refine XS.dup X53.here hx rfl (hb hby at_80) rfl rfl ?_
        show Steps p.tables e below (T53.setTop (mkF m 81 #[.val (.int p1), .val (.int p2), .val (.int p3), .val (.int r0), .val (.int r1), .val (.int d0), .val (.int d1), .val (.int (0 : Int32)), .val (.int (1 : Int32)), .unset, .unset, .unset, .unset, .unset] [(.ref b53), (.ref b53), (.ref b52), (.ref b52)])) _
        refine XS.iconst X53.here hx rfl (hb hby at_81) ?_
        show Steps p.tables e below (T53.setTop (mkF m 82 #[.val (.int p1), .val (.int p2), .val (.int p3), .val (.int r0), .val (.int r1), .val (.int d0), .val (.int d1), .val (.int (0 : Int32)), .val (.int (1 : Int32)), .unset, .unset, .unset, .unset, .unset] [(.int (0 : Int32)), (.ref b53), (.ref b53), (.ref b52), (.ref b52)])) _
        refine XS.iloadN X53.here hx rfl (hb hby at_82) rfl ?_
        show Steps p.tables e below (T53.setTop (mkF m 83 #[.val (.int p1), .val (.int p2), .val (.int p3), .val (.int r0), .val (.int r1), .val (.int d0), .val (.int d1), .val (.int (0 : Int32)), .val (.int (1 : Int32)), .unset, .unset, .unset, .unset, .unset] [(.int r0), (.int (0 : Int32)), (.ref b53), (.ref b53), (.ref b52), (.ref b52)])) _
        refine st54 _ ?_
        show Steps p.tables e below (T54.setTop (mkF m 84 #[.val (.int p1), .val (.int p2), .val (.int p3), .val (.int r0), .val (.int r1), .val (.int d0), .val (.int d1), .val (.int (0 : Int32)), .val (.int (1 : Int32)), .unset, .unset, .unset, .unset, .unset] [(.ref b53), (.ref b52), (.ref b52)])) _
        refine XS.dup X54.here hx rfl (hb hby at_84) rfl rfl ?_
        show Steps p.tables e below (T54.setTop (mkF m 85 #[.val (.int p1), .val (.int p2), .val (.int p3), .val (.int r0), .val (.int r1), .val (.int d0), .val (.int d1), .val (.int (0 : Int32)), .val (.int (1 : Int32)), .unset, .unset, .unset, .unset, .unset] [(.ref b53), (.ref b53), (.ref b52), (.ref b52)])) _
        refine XS.iconst X54.here hx rfl (hb hby at_85) ?_
        show Steps p.tables e below (T54.setTop (mkF m 86 #[.val (.int p1), .val (.int p2), .val (.int p3), .val (.int r0), .val (.int r1), .val (.int d0), .val (.int d1), .val (.int (0 : Int32)), .val (.int (1 : Int32)), .unset, .unset, .unset, .unset, .unset] [(.int (1 : Int32)), (.ref b53), (.ref b53), (.ref b52), (.ref b52)])) _
        refine XS.iload X54.here hx rfl (hb hby at_86) rfl ?_
        show Steps p.tables e below (T54.setTop (mkF m 88 #[.val (.int p1), .val (.int p2), .val (.int p3), .val (.int r0), .val (.int r1), .val (.int d0), .val (.int d1), .val (.int (0 : Int32)), .val (.int (1 : Int32)), .unset, .unset, .unset, .unset, .unset] [(.int r1), (.int (1 : Int32)), (.ref b53), (.ref b53), (.ref b52), (.ref b52)])) _
        refine st55 _ ?_
        show Steps p.tables e below (T55.setTop (mkF m 89 #[.val (.int p1), .val (.int p2), .val (.int p3), .val (.int r0), .val (.int r1), .val (.int d0), .val (.int d1), .val (.int (0 : Int32)), .val (.int (1 : Int32)), .unset, .unset, .unset, .unset, .unset] [(.ref b53), (.ref b52), (.ref b52)])) _
        refine st57.trans ?_
        show Steps p.tables e below (T57.setTop (mkF m 92 #[.val (.int p1), .val (.int p2), .val (.int p3), .val (.int r0), .val (.int r1), .val (.int d0), .val (.int d1), .val (.int (0 : Int32)), .val (.int (1 : Int32)), .unset, .unset, .unset, .unset, .unset] [(.ref b52)])) _
        refine XS.astore X57.here hx rfl (hb hby at_92) rfl rfl (l' := #[.val (.int p1), .val (.int p2), .val (.int p3), .val (.int r0), .val (.int r1), .val (.int d0), .val (.int d1), .val (.int (0 : Int32)), .val (.int (1 : Int32)), .val (.ref b52), .unset, .unset, .unset, .unset]) rfl ?_
        show Steps p.tables e below (T57.setTop (mkF m 94 #[.val (.int p1), .val (.int p2), .val (.int p3), .val (.int r0), .val (.int r1), .val (.int d0), .val (.int d1), .val (.int (0 : Int32)), .val (.int (1 : Int32)), .val (.ref b52), .unset, .unset, .unset, .unset] [])) _
        refine XS.iload X57.here hx rfl (hb hby at_94) rfl ?_
        show Steps p.tables e below (T57.setTop (mkF m 96 #[.val (.int p1), .val (.int p2), .val (.int p3), .val (.int r0), .val (.int r1), .val (.int d0), .val (.int d1), .val (.int (0 : Int32)), .val (.int (1 : Int32)), .val (.ref b52), .unset, .unset, .unset, .unset] [(.int (1 : Int32))])) _
        refine XS.ifNo X57.here hx rfl (hb hby at_96) rfl ((if0 _ _).trans (feq (by decide : ¬ ((1 : Int32) = (0 : Int32)))).1) ?_
        exact k
      obtain ⟨la58, T58, h58, kk58, lb58, lk58, X58, e58, E58, hS, hk58, hZ, hown, Le58, Lc58, Lv58, La58, -, -, r58, -, hne58, st58⟩ := ldcCH X57 hx hZ hown (hw _ (List.mem_of_getElem? (i := 30) rfl)) wS rfl hS hk57 hEL (List.mem_of_getElem? (i := 1) rfl) R57.1 (vs := litE.map Value.int) (z := Int32.ofNat litE.length) (by decide) (by decide) (by decide) (g := (mkF m 99 #[.val (.int p1), .val (.int p2), .val (.int p3), .val (.int r0), .val (.int r1), .val (.int d0), .val (.int d1), .val (.int (0 : Int32)), .val (.int (1 : Int32)), .val (.ref b52), .unset, .unset, .unset, .unset] [])) rfl (hb hby at_99) (n := 0) (by decide) (by decide) (by decide) (by decide)
      have E_b52_58 := G57_0.ext E58
      have F_b52_coder_58 := G57_1.ext E58
      have F_b52_value_58 := G57_2.ext E58
      have V_b53_58 := V_b53_57.ext E58
      have V_d__57_58 := G57_3.ext E58
      have R58 := R57.trans r58
      have K58 : Keep h0 h58 [] := K57.ext E58
      have Z58 : n0 ≤ h58.size := Nat.le_trans Z57 E58.1
      have O58 := Old.ext O57 E58
      have LV58 : B0 Z h58 lb58 lk58 litE := ⟨La58, by decide, trivial⟩
      obtain ⟨T60, h60, X60, e60, E60, A60, D60, U60, st60⟩ := newO X58 hx hZ hown (hw _ (List.mem_of_getElem? (i := 0) rfl)) (hw _ (List.mem_of_getElem? (i := 1) rfl)) (hw _ (List.mem_of_getElem? (i := 2) rfl)) e58 (g := (mkF m 136 #[.val (.int p1), .val (.int p2), .val (.int p3), .val (.int r0), .val (.int r1), .val (.int d0), .val (.int d1), .val (.int (0 : Int32)), .val (.int (1 : Int32)), .val (.ref b52), .val (.ref la58), .unset, .unset, .unset] [])) rfl (hb hby at_136) (by decide) (by decide)
      obtain ⟨b60, g60⟩ : ∃ z, z = h58.size := ⟨_, rfl⟩
      rw [← g60] at A60 D60 U60 st60
      have ne_b52_b60 : b52 ≠ b60 := Nat.ne_of_lt (Nat.lt_of_lt_of_le E_b52_58.lt (Nat.le_of_eq g60.symm))
      have ne_b53_b60 : b53 ≠ b60 := Nat.ne_of_lt (Nat.lt_of_lt_of_le V_b53_58.lt (Nat.le_of_eq g60.symm))
      have ne_d__57_b60 : d'_57 ≠ b60 := Nat.ne_of_lt (Nat.lt_of_lt_of_le V_d__57_58.lt (Nat.le_of_eq g60.symm))
      have ne_la58_b60 : la58 ≠ b60 := Nat.ne_of_lt (Nat.lt_of_lt_of_le Le58.lt (Nat.le_of_eq g60.symm))
      have ne_lb58_b60 : lb58 ≠ b60 := Nat.ne_of_lt (Nat.lt_of_lt_of_le LV58.lt (Nat.le_of_eq g60.symm))
      have g_b60 : n0 ≤ b60 := Nat.le_trans Z58 (Nat.le_of_eq g60.symm)
      have sz_b60 : h0.size ≤ b60 := Nat.le_trans K58.1 (Nat.le_of_eq g60.symm)
      have E_b52_60 := E_b52_58.ext E60
      have F_b52_coder_60 := F_b52_coder_58.ext E60
      have F_b52_value_60 := F_b52_value_58.ext E60
      have V_b53_60 := V_b53_58.ext E60
      have V_d__57_60 := V_d__57_58.ext E60
      have E_la58_60 := Le58.ext E60
      have F_la58_coder_60 := Lc58.ext E60
      have F_la58_value_60 := Lv58.ext E60
      have V_lb58_60 := LV58.ext E60
      have K60 : Keep h0 h60 [] := K58.ext E60
      have Z60 : n0 ≤ h60.size := Nat.le_trans Z58 E60.1
      have O60 := Old.ext O58 E60
      have S0_b60 : Safe Z consts_1 T58.vm h58 b60 := Safe.new (Nat.le_of_eq g60.symm)
      have r60 := CHr.ext E60 R58.1
      have S60_b60 := Safe.ext E60 R58.1 S0_b60
      have R60 := R58.trans r60
      have hk60 := Nat.le_trans hk58 E60.1
      have F_coder_b60 : Fld Z h60 b60 "java/lang/String" "coder" "B" (.int (0 : Int32)) := D60 (Or.inr (hw _ (List.mem_of_getElem? (i := 27) rfl))) (ty := .byte) (by decide)
      have F_value_b60 : Fld Z h60 b60 "java/lang/String" "value" "[B" .null := D60 (Or.inr (hw _ (List.mem_of_getElem? (i := 29) rfl))) (ty := (.array .byte)) (by decide)
      obtain ⟨T61, h61, k61, X61, e61, E61, A61, st61⟩ := newP X60 hx hZ (hw _ (List.mem_of_getElem? (i := 3) rfl)) e60 (g := (mkF m 142 #[.val (.int p1), .val (.int p2), .val (.int p3), .val (.int r0), .val (.int r1), .val (.int d0), .val (.int d1), .val (.int (0 : Int32)), .val (.int (1 : Int32)), .val (.ref b52), .val (.ref la58), .unset, .unset, .unset] [(.int (11 : Int32)), (.ref b60), (.ref b60)])) rfl (hb hby at_142) rfl (by decide) (cap := 11) (by decide) (by decide) (by decide) (by decide)
      obtain ⟨b61, g61⟩ : ∃ z, z = h60.size := ⟨_, rfl⟩
      rw [← g61] at A61 st61
      have ne_b52_b61 : b52 ≠ b61 := Nat.ne_of_lt (Nat.lt_of_lt_of_le E_b52_60.lt (Nat.le_of_eq g61.symm))
      have ne_b53_b61 : b53 ≠ b61 := Nat.ne_of_lt (Nat.lt_of_lt_of_le V_b53_60.lt (Nat.le_of_eq g61.symm))
      have ne_d__57_b61 : d'_57 ≠ b61 := Nat.ne_of_lt (Nat.lt_of_lt_of_le V_d__57_60.lt (Nat.le_of_eq g61.symm))
      have ne_la58_b61 : la58 ≠ b61 := Nat.ne_of_lt (Nat.lt_of_lt_of_le E_la58_60.lt (Nat.le_of_eq g61.symm))
      have ne_lb58_b61 : lb58 ≠ b61 := Nat.ne_of_lt (Nat.lt_of_lt_of_le V_lb58_60.lt (Nat.le_of_eq g61.symm))
      have ne_b60_b61 : b60 ≠ b61 := Nat.ne_of_lt (Nat.lt_of_lt_of_le A60.lt (Nat.le_of_eq g61.symm))
      have g_b61 : n0 ≤ b61 := Nat.le_trans Z60 (Nat.le_of_eq g61.symm)
      have sz_b61 : h0.size ≤ b61 := Nat.le_trans K60.1 (Nat.le_of_eq g61.symm)
      have E_b52_61 := E_b52_60.ext E61
      have F_b52_coder_61 := F_b52_coder_60.ext E61
      have F_b52_value_61 := F_b52_value_60.ext E61
      have V_b53_61 := V_b53_60.ext E61
      have V_d__57_61 := V_d__57_60.ext E61
      have E_la58_61 := E_la58_60.ext E61
      have F_la58_coder_61 := F_la58_coder_60.ext E61
      have F_la58_value_61 := F_la58_value_60.ext E61
      have V_lb58_61 := V_lb58_60.ext E61
      have E_b60_61 := A60.ext E61
      have F_b60_coder_61 := F_coder_b60.ext E61
      have F_b60_value_61 := F_value_b60.ext E61
      have K61 : Keep h0 h61 [] := K60.ext E61
      have Z61 : n0 ≤ h61.size := Nat.le_trans Z60 E61.1
      have O61 := Old.ext O60 E61
      have r61 := CHr.ext E61 R60.1
      have S61_b60 := Safe.ext E61 R60.1 S60_b60
      have R61 := R60.trans r61
      have hk61 := Nat.le_trans hk60 E61.1
      have V_b61 : Arv Z h61 b61 k61 .char (11 : Int32) [(.int (0 : Int32)), (.int (0 : Int32)), (.int (0 : Int32)), (.int (0 : Int32)), (.int (0 : Int32)), (.int (0 : Int32)), (.int (0 : Int32)), (.int (0 : Int32)), (.int (0 : Int32)), (.int (0 : Int32)), (.int (0 : Int32))] (.int (0 : Int32)) := (Arv.new A61 (by decide)).pad (pad_rep [] (.int (0 : Int32)) 11)
      obtain ⟨cl62, Ar62, q62, S62_, N62_, H62_, G62_⟩ := V_b61
      have hin62 : ¬ ((0 : Int32) < 0 ∨ cl62.slots.size ≤ ((0 : Int32)).toNatClampNeg) := inb_of S62_ ⟨by decide, by decide⟩
      obtain ⟨T62, h62, X62, e62, W62, st62⟩ := stC X61 hx hZ e61 Ar62 (j := (0 : Int32)) hin62 (g := (mkF m 148 #[.val (.int p1), .val (.int p2), .val (.int p3), .val (.int r0), .val (.int r1), .val (.int d0), .val (.int d1), .val (.int (0 : Int32)), .val (.int (1 : Int32)), .val (.ref b52), .val (.ref la58), .unset, .unset, .unset] [(.int (114 : Int32)), (.int (0 : Int32)), (.ref b61), (.ref b61), (.ref b60), (.ref b60)])) rfl rfl (hb hby at_148)
      have E_b52_62 := E_b52_61.wr W62
      have F_b52_coder_62 := F_b52_coder_61.other W62 (Or.inl ne_b52_b61)
      have F_b52_value_62 := F_b52_value_61.other W62 (Or.inl ne_b52_b61)
      have V_b53_62 := V_b53_61.other W62 ne_b53_b61
      have V_d__57_62 := V_d__57_61.other W62 ne_d__57_b61
      have E_la58_62 := E_la58_61.wr W62
      have F_la58_coder_62 := F_la58_coder_61.other W62 (Or.inl ne_la58_b61)
      have F_la58_value_62 := F_la58_value_61.other W62 (Or.inl ne_la58_b61)
      have V_lb58_62 := V_lb58_61.other W62 ne_lb58_b61
      have E_b60_62 := E_b60_61.wr W62
      have F_b60_coder_62 := F_b60_coder_61.other W62 (Or.inl ne_b60_b61)
      have F_b60_value_62 := F_b60_value_61.other W62 (Or.inl ne_b60_b61)
      have V_b61_62 : Arv Z h62 b61 k61 .char (11 : Int32) [(.int (nar .char (114 : Int32))), (.int (0 : Int32)), (.int (0 : Int32)), (.int (0 : Int32)), (.int (0 : Int32)), (.int (0 : Int32)), (.int (0 : Int32)), (.int (0 : Int32)), (.int (0 : Int32)), (.int (0 : Int32)), (.int (0 : Int32))] (.int (0 : Int32)) := Arv.set Ar62 q62 S62_ N62_ H62_ G62_ (fits_nar_char _) W62 0 rfl (Nat.le_of_ble_eq_true rfl)
      have K62 : Keep h0 h62 [] := K61.wr W62 (Or.inr sz_b61)
      have N62 := Fr.snoc X62 N57 g_b61
      have Z62 : n0 ≤ h62.size := Nat.le_trans Z61 (Keep.of_wr W62).1
      have O62 := Old.wr O61 W62 g_b61
      have r62 := CHr.wr W62 (Safe.arr hZ.alike Ar62 (by decide)) R61.1
      have S62_b60 := r62.safe E_b60_61.lt S61_b60
      have R62 := R61.trans r62
      have hk62 := Nat.le_trans hk61 (Keep.of_wr W62).1
      obtain ⟨cl63, Ar63, q63, S63_, N63_, H63_, G63_⟩ := V_b61_62
      have hin63 : ¬ ((1 : Int32) < 0 ∨ cl63.slots.size ≤ ((1 : Int32)).toNatClampNeg) := inb_of S63_ ⟨by decide, by decide⟩
      obtain ⟨T63, h63, X63, e63, W63, st63⟩ := stC X62 hx hZ e62 Ar63 (j := (1 : Int32)) hin63 (g := (mkF m 153 #[.val (.int p1), .val (.int p2), .val (.int p3), .val (.int r0), .val (.int r1), .val (.int d0), .val (.int d1), .val (.int (0 : Int32)), .val (.int (1 : Int32)), .val (.ref b52), .val (.ref la58), .unset, .unset, .unset] [(.int (101 : Int32)), (.int (1 : Int32)), (.ref b61), (.ref b61), (.ref b60), (.ref b60)])) rfl rfl (hb hby at_153)
      have E_b52_63 := E_b52_62.wr W63
      have F_b52_coder_63 := F_b52_coder_62.other W63 (Or.inl ne_b52_b61)
      have F_b52_value_63 := F_b52_value_62.other W63 (Or.inl ne_b52_b61)
      have V_b53_63 := V_b53_62.other W63 ne_b53_b61
      have V_d__57_63 := V_d__57_62.other W63 ne_d__57_b61
      have E_la58_63 := E_la58_62.wr W63
      have F_la58_coder_63 := F_la58_coder_62.other W63 (Or.inl ne_la58_b61)
      have F_la58_value_63 := F_la58_value_62.other W63 (Or.inl ne_la58_b61)
      have V_lb58_63 := V_lb58_62.other W63 ne_lb58_b61
      have E_b60_63 := E_b60_62.wr W63
      have F_b60_coder_63 := F_b60_coder_62.other W63 (Or.inl ne_b60_b61)
      have F_b60_value_63 := F_b60_value_62.other W63 (Or.inl ne_b60_b61)
      have V_b61_63 : Arv Z h63 b61 k61 .char (11 : Int32) [(.int (nar .char (114 : Int32))), (.int (nar .char (101 : Int32))), (.int (0 : Int32)), (.int (0 : Int32)), (.int (0 : Int32)), (.int (0 : Int32)), (.int (0 : Int32)), (.int (0 : Int32)), (.int (0 : Int32)), (.int (0 : Int32)), (.int (0 : Int32))] (.int (0 : Int32)) := Arv.set Ar63 q63 S63_ N63_ H63_ G63_ (fits_nar_char _) W63 1 rfl (Nat.le_of_ble_eq_true rfl)
      have K63 : Keep h0 h63 [] := K62.wr W63 (Or.inr sz_b61)
      have N63 := Fr.snoc X63 N62 g_b61
      have Z63 : n0 ≤ h63.size := Nat.le_trans Z62 (Keep.of_wr W63).1
      have O63 := Old.wr O62 W63 g_b61
      have r63 := CHr.wr W63 (Safe.arr hZ.alike Ar63 (by decide)) R62.1
      have S63_b60 := r63.safe E_b60_62.lt S62_b60
      have R63 := R62.trans r63
      have hk63 := Nat.le_trans hk62 (Keep.of_wr W63).1
      obtain ⟨cl64, Ar64, q64, S64_, N64_, H64_, G64_⟩ := V_b61_63
      have hin64 : ¬ ((2 : Int32) < 0 ∨ cl64.slots.size ≤ ((2 : Int32)).toNatClampNeg) := inb_of S64_ ⟨by decide, by decide⟩
      obtain ⟨T64, h64, X64, e64, W64, st64⟩ := stC X63 hx hZ e63 Ar64 (j := (2 : Int32)) hin64 (g := (mkF m 158 #[.val (.int p1), .val (.int p2), .val (.int p3), .val (.int r0), .val (.int r1), .val (.int d0), .val (.int d1), .val (.int (0 : Int32)), .val (.int (1 : Int32)), .val (.ref b52), .val (.ref la58), .unset, .unset, .unset] [(.int (102 : Int32)), (.int (2 : Int32)), (.ref b61), (.ref b61), (.ref b60), (.ref b60)])) rfl rfl (hb hby at_158)
      have E_b52_64 := E_b52_63.wr W64
      have F_b52_coder_64 := F_b52_coder_63.other W64 (Or.inl ne_b52_b61)
      have F_b52_value_64 := F_b52_value_63.other W64 (Or.inl ne_b52_b61)
      have V_b53_64 := V_b53_63.other W64 ne_b53_b61
      have V_d__57_64 := V_d__57_63.other W64 ne_d__57_b61
      have E_la58_64 := E_la58_63.wr W64
      have F_la58_coder_64 := F_la58_coder_63.other W64 (Or.inl ne_la58_b61)
      have F_la58_value_64 := F_la58_value_63.other W64 (Or.inl ne_la58_b61)
      have V_lb58_64 := V_lb58_63.other W64 ne_lb58_b61
      have E_b60_64 := E_b60_63.wr W64
      have F_b60_coder_64 := F_b60_coder_63.other W64 (Or.inl ne_b60_b61)
      have F_b60_value_64 := F_b60_value_63.other W64 (Or.inl ne_b60_b61)
      have V_b61_64 : Arv Z h64 b61 k61 .char (11 : Int32) [(.int (nar .char (114 : Int32))), (.int (nar .char (101 : Int32))), (.int (nar .char (102 : Int32))), (.int (0 : Int32)), (.int (0 : Int32)), (.int (0 : Int32)), (.int (0 : Int32)), (.int (0 : Int32)), (.int (0 : Int32)), (.int (0 : Int32)), (.int (0 : Int32))] (.int (0 : Int32)) := Arv.set Ar64 q64 S64_ N64_ H64_ G64_ (fits_nar_char _) W64 2 rfl (Nat.le_of_ble_eq_true rfl)
      have K64 : Keep h0 h64 [] := K63.wr W64 (Or.inr sz_b61)
      have N64 := Fr.snoc X64 N63 g_b61
      have Z64 : n0 ≤ h64.size := Nat.le_trans Z63 (Keep.of_wr W64).1
      have O64 := Old.wr O63 W64 g_b61
      have r64 := CHr.wr W64 (Safe.arr hZ.alike Ar64 (by decide)) R63.1
      have S64_b60 := r64.safe E_b60_63.lt S63_b60
      have R64 := R63.trans r64
      have hk64 := Nat.le_trans hk63 (Keep.of_wr W64).1
      obtain ⟨cl65, Ar65, q65, S65_, N65_, H65_, G65_⟩ := V_b61_64
      have hin65 : ¬ ((3 : Int32) < 0 ∨ cl65.slots.size ≤ ((3 : Int32)).toNatClampNeg) := inb_of S65_ ⟨by decide, by decide⟩
      obtain ⟨T65, h65, X65, e65, W65, st65⟩ := stC X64 hx hZ e64 Ar65 (j := (3 : Int32)) hin65 (g := (mkF m 163 #[.val (.int p1), .val (.int p2), .val (.int p3), .val (.int r0), .val (.int r1), .val (.int d0), .val (.int d1), .val (.int (0 : Int32)), .val (.int (1 : Int32)), .val (.ref b52), .val (.ref la58), .unset, .unset, .unset] [(.int (117 : Int32)), (.int (3 : Int32)), (.ref b61), (.ref b61), (.ref b60), (.ref b60)])) rfl rfl (hb hby at_163)
      have E_b52_65 := E_b52_64.wr W65
      have F_b52_coder_65 := F_b52_coder_64.other W65 (Or.inl ne_b52_b61)
      have F_b52_value_65 := F_b52_value_64.other W65 (Or.inl ne_b52_b61)
      have V_b53_65 := V_b53_64.other W65 ne_b53_b61
      have V_d__57_65 := V_d__57_64.other W65 ne_d__57_b61
      have E_la58_65 := E_la58_64.wr W65
      have F_la58_coder_65 := F_la58_coder_64.other W65 (Or.inl ne_la58_b61)
      have F_la58_value_65 := F_la58_value_64.other W65 (Or.inl ne_la58_b61)
      have V_lb58_65 := V_lb58_64.other W65 ne_lb58_b61
      have E_b60_65 := E_b60_64.wr W65
      have F_b60_coder_65 := F_b60_coder_64.other W65 (Or.inl ne_b60_b61)
      have F_b60_value_65 := F_b60_value_64.other W65 (Or.inl ne_b60_b61)
      have V_b61_65 : Arv Z h65 b61 k61 .char (11 : Int32) [(.int (nar .char (114 : Int32))), (.int (nar .char (101 : Int32))), (.int (nar .char (102 : Int32))), (.int (nar .char (117 : Int32))), (.int (0 : Int32)), (.int (0 : Int32)), (.int (0 : Int32)), (.int (0 : Int32)), (.int (0 : Int32)), (.int (0 : Int32)), (.int (0 : Int32))] (.int (0 : Int32)) := Arv.set Ar65 q65 S65_ N65_ H65_ G65_ (fits_nar_char _) W65 3 rfl (Nat.le_of_ble_eq_true rfl)
      have K65 : Keep h0 h65 [] := K64.wr W65 (Or.inr sz_b61)
      have N65 := Fr.snoc X65 N64 g_b61
      have Z65 : n0 ≤ h65.size := Nat.le_trans Z64 (Keep.of_wr W65).1
      have O65 := Old.wr O64 W65 g_b61
      have r65 := CHr.wr W65 (Safe.arr hZ.alike Ar65 (by decide)) R64.1
      have S65_b60 := r65.safe E_b60_64.lt S64_b60
      have R65 := R64.trans r65
      have hk65 := Nat.le_trans hk64 (Keep.of_wr W65).1
      obtain ⟨cl66, Ar66, q66, S66_, N66_, H66_, G66_⟩ := V_b61_65
      have hin66 : ¬ ((4 : Int32) < 0 ∨ cl66.slots.size ≤ ((4 : Int32)).toNatClampNeg) := inb_of S66_ ⟨by decide, by decide⟩
      obtain ⟨T66, h66, X66, e66, W66, st66⟩ := stC X65 hx hZ e65 Ar66 (j := (4 : Int32)) hin66 (g := (mkF m 168 #[.val (.int p1), .val (.int p2), .val (.int p3), .val (.int r0), .val (.int r1), .val (.int d0), .val (.int d1), .val (.int (0 : Int32)), .val (.int (1 : Int32)), .val (.ref b52), .val (.ref la58), .unset, .unset, .unset] [(.int (115 : Int32)), (.int (4 : Int32)), (.ref b61), (.ref b61), (.ref b60), (.ref b60)])) rfl rfl (hb hby at_168)
      have E_b52_66 := E_b52_65.wr W66
      have F_b52_coder_66 := F_b52_coder_65.other W66 (Or.inl ne_b52_b61)
      have F_b52_value_66 := F_b52_value_65.other W66 (Or.inl ne_b52_b61)
      have V_b53_66 := V_b53_65.other W66 ne_b53_b61
      have V_d__57_66 := V_d__57_65.other W66 ne_d__57_b61
      have E_la58_66 := E_la58_65.wr W66
      have F_la58_coder_66 := F_la58_coder_65.other W66 (Or.inl ne_la58_b61)
      have F_la58_value_66 := F_la58_value_65.other W66 (Or.inl ne_la58_b61)
      have V_lb58_66 := V_lb58_65.other W66 ne_lb58_b61
      have E_b60_66 := E_b60_65.wr W66
      have F_b60_coder_66 := F_b60_coder_65.other W66 (Or.inl ne_b60_b61)
      have F_b60_value_66 := F_b60_value_65.other W66 (Or.inl ne_b60_b61)
      have V_b61_66 : Arv Z h66 b61 k61 .char (11 : Int32) [(.int (nar .char (114 : Int32))), (.int (nar .char (101 : Int32))), (.int (nar .char (102 : Int32))), (.int (nar .char (117 : Int32))), (.int (nar .char (115 : Int32))), (.int (0 : Int32)), (.int (0 : Int32)), (.int (0 : Int32)), (.int (0 : Int32)), (.int (0 : Int32)), (.int (0 : Int32))] (.int (0 : Int32)) := Arv.set Ar66 q66 S66_ N66_ H66_ G66_ (fits_nar_char _) W66 4 rfl (Nat.le_of_ble_eq_true rfl)
      have K66 : Keep h0 h66 [] := K65.wr W66 (Or.inr sz_b61)
      have N66 := Fr.snoc X66 N65 g_b61
      have Z66 : n0 ≤ h66.size := Nat.le_trans Z65 (Keep.of_wr W66).1
      have O66 := Old.wr O65 W66 g_b61
      have r66 := CHr.wr W66 (Safe.arr hZ.alike Ar66 (by decide)) R65.1
      have S66_b60 := r66.safe E_b60_65.lt S65_b60
      have R66 := R65.trans r66
      have hk66 := Nat.le_trans hk65 (Keep.of_wr W66).1
      obtain ⟨cl67, Ar67, q67, S67_, N67_, H67_, G67_⟩ := V_b61_66
      have hin67 : ¬ ((5 : Int32) < 0 ∨ cl67.slots.size ≤ ((5 : Int32)).toNatClampNeg) := inb_of S67_ ⟨by decide, by decide⟩
      obtain ⟨T67, h67, X67, e67, W67, st67⟩ := stC X66 hx hZ e66 Ar67 (j := (5 : Int32)) hin67 (g := (mkF m 173 #[.val (.int p1), .val (.int p2), .val (.int p3), .val (.int r0), .val (.int r1), .val (.int d0), .val (.int d1), .val (.int (0 : Int32)), .val (.int (1 : Int32)), .val (.ref b52), .val (.ref la58), .unset, .unset, .unset] [(.int (101 : Int32)), (.int (5 : Int32)), (.ref b61), (.ref b61), (.ref b60), (.ref b60)])) rfl rfl (hb hby at_173)
      have E_b52_67 := E_b52_66.wr W67
      have F_b52_coder_67 := F_b52_coder_66.other W67 (Or.inl ne_b52_b61)
      have F_b52_value_67 := F_b52_value_66.other W67 (Or.inl ne_b52_b61)
      have V_b53_67 := V_b53_66.other W67 ne_b53_b61
      have V_d__57_67 := V_d__57_66.other W67 ne_d__57_b61
      have E_la58_67 := E_la58_66.wr W67
      have F_la58_coder_67 := F_la58_coder_66.other W67 (Or.inl ne_la58_b61)
      have F_la58_value_67 := F_la58_value_66.other W67 (Or.inl ne_la58_b61)
      have V_lb58_67 := V_lb58_66.other W67 ne_lb58_b61
      have E_b60_67 := E_b60_66.wr W67
      have F_b60_coder_67 := F_b60_coder_66.other W67 (Or.inl ne_b60_b61)
      have F_b60_value_67 := F_b60_value_66.other W67 (Or.inl ne_b60_b61)
      have V_b61_67 : Arv Z h67 b61 k61 .char (11 : Int32) [(.int (nar .char (114 : Int32))), (.int (nar .char (101 : Int32))), (.int (nar .char (102 : Int32))), (.int (nar .char (117 : Int32))), (.int (nar .char (115 : Int32))), (.int (nar .char (101 : Int32))), (.int (0 : Int32)), (.int (0 : Int32)), (.int (0 : Int32)), (.int (0 : Int32)), (.int (0 : Int32))] (.int (0 : Int32)) := Arv.set Ar67 q67 S67_ N67_ H67_ G67_ (fits_nar_char _) W67 5 rfl (Nat.le_of_ble_eq_true rfl)
      have K67 : Keep h0 h67 [] := K66.wr W67 (Or.inr sz_b61)
      have N67 := Fr.snoc X67 N66 g_b61
      have Z67 : n0 ≤ h67.size := Nat.le_trans Z66 (Keep.of_wr W67).1
      have O67 := Old.wr O66 W67 g_b61
      have r67 := CHr.wr W67 (Safe.arr hZ.alike Ar67 (by decide)) R66.1
      have S67_b60 := r67.safe E_b60_66.lt S66_b60
      have R67 := R66.trans r67
      have hk67 := Nat.le_trans hk66 (Keep.of_wr W67).1
      obtain ⟨cl68, Ar68, q68, S68_, N68_, H68_, G68_⟩ := V_b61_67
      have hin68 : ¬ ((6 : Int32) < 0 ∨ cl68.slots.size ≤ ((6 : Int32)).toNatClampNeg) := inb_of S68_ ⟨by decide, by decide⟩
      obtain ⟨T68, h68, X68, e68, W68, st68⟩ := stC X67 hx hZ e67 Ar68 (j := (6 : Int32)) hin68 (g := (mkF m 179 #[.val (.int p1), .val (.int p2), .val (.int p3), .val (.int r0), .val (.int r1), .val (.int d0), .val (.int d1), .val (.int (0 : Int32)), .val (.int (1 : Int32)), .val (.ref b52), .val (.ref la58), .unset, .unset, .unset] [(.int (100 : Int32)), (.int (6 : Int32)), (.ref b61), (.ref b61), (.ref b60), (.ref b60)])) rfl rfl (hb hby at_179)
      have E_b52_68 := E_b52_67.wr W68
      have F_b52_coder_68 := F_b52_coder_67.other W68 (Or.inl ne_b52_b61)
      have F_b52_value_68 := F_b52_value_67.other W68 (Or.inl ne_b52_b61)
      have V_b53_68 := V_b53_67.other W68 ne_b53_b61
      have V_d__57_68 := V_d__57_67.other W68 ne_d__57_b61
      have E_la58_68 := E_la58_67.wr W68
      have F_la58_coder_68 := F_la58_coder_67.other W68 (Or.inl ne_la58_b61)
      have F_la58_value_68 := F_la58_value_67.other W68 (Or.inl ne_la58_b61)
      have V_lb58_68 := V_lb58_67.other W68 ne_lb58_b61
      have E_b60_68 := E_b60_67.wr W68
      have F_b60_coder_68 := F_b60_coder_67.other W68 (Or.inl ne_b60_b61)
      have F_b60_value_68 := F_b60_value_67.other W68 (Or.inl ne_b60_b61)
      have V_b61_68 : Arv Z h68 b61 k61 .char (11 : Int32) [(.int (nar .char (114 : Int32))), (.int (nar .char (101 : Int32))), (.int (nar .char (102 : Int32))), (.int (nar .char (117 : Int32))), (.int (nar .char (115 : Int32))), (.int (nar .char (101 : Int32))), (.int (nar .char (100 : Int32))), (.int (0 : Int32)), (.int (0 : Int32)), (.int (0 : Int32)), (.int (0 : Int32))] (.int (0 : Int32)) := Arv.set Ar68 q68 S68_ N68_ H68_ G68_ (fits_nar_char _) W68 6 rfl (Nat.le_of_ble_eq_true rfl)
      have K68 : Keep h0 h68 [] := K67.wr W68 (Or.inr sz_b61)
      have N68 := Fr.snoc X68 N67 g_b61
      have Z68 : n0 ≤ h68.size := Nat.le_trans Z67 (Keep.of_wr W68).1
      have O68 := Old.wr O67 W68 g_b61
      have r68 := CHr.wr W68 (Safe.arr hZ.alike Ar68 (by decide)) R67.1
      have S68_b60 := r68.safe E_b60_67.lt S67_b60
      have R68 := R67.trans r68
      have hk68 := Nat.le_trans hk67 (Keep.of_wr W68).1
      obtain ⟨cl69, Ar69, q69, S69_, N69_, H69_, G69_⟩ := V_b61_68
      have hin69 : ¬ ((7 : Int32) < 0 ∨ cl69.slots.size ≤ ((7 : Int32)).toNatClampNeg) := inb_of S69_ ⟨by decide, by decide⟩
      obtain ⟨T69, h69, X69, e69, W69, st69⟩ := stC X68 hx hZ e68 Ar69 (j := (7 : Int32)) hin69 (g := (mkF m 185 #[.val (.int p1), .val (.int p2), .val (.int p3), .val (.int r0), .val (.int r1), .val (.int d0), .val (.int d1), .val (.int (0 : Int32)), .val (.int (1 : Int32)), .val (.ref b52), .val (.ref la58), .unset, .unset, .unset] [(.int (58 : Int32)), (.int (7 : Int32)), (.ref b61), (.ref b61), (.ref b60), (.ref b60)])) rfl rfl (hb hby at_185)
      have E_b52_69 := E_b52_68.wr W69
      have F_b52_coder_69 := F_b52_coder_68.other W69 (Or.inl ne_b52_b61)
      have F_b52_value_69 := F_b52_value_68.other W69 (Or.inl ne_b52_b61)
      have V_b53_69 := V_b53_68.other W69 ne_b53_b61
      have V_d__57_69 := V_d__57_68.other W69 ne_d__57_b61
      have E_la58_69 := E_la58_68.wr W69
      have F_la58_coder_69 := F_la58_coder_68.other W69 (Or.inl ne_la58_b61)
      have F_la58_value_69 := F_la58_value_68.other W69 (Or.inl ne_la58_b61)
      have V_lb58_69 := V_lb58_68.other W69 ne_lb58_b61
      have E_b60_69 := E_b60_68.wr W69
      have F_b60_coder_69 := F_b60_coder_68.other W69 (Or.inl ne_b60_b61)
      have F_b60_value_69 := F_b60_value_68.other W69 (Or.inl ne_b60_b61)
      have V_b61_69 : Arv Z h69 b61 k61 .char (11 : Int32) [(.int (nar .char (114 : Int32))), (.int (nar .char (101 : Int32))), (.int (nar .char (102 : Int32))), (.int (nar .char (117 : Int32))), (.int (nar .char (115 : Int32))), (.int (nar .char (101 : Int32))), (.int (nar .char (100 : Int32))), (.int (nar .char (58 : Int32))), (.int (0 : Int32)), (.int (0 : Int32)), (.int (0 : Int32))] (.int (0 : Int32)) := Arv.set Ar69 q69 S69_ N69_ H69_ G69_ (fits_nar_char _) W69 7 rfl (Nat.le_of_ble_eq_true rfl)
      have K69 : Keep h0 h69 [] := K68.wr W69 (Or.inr sz_b61)
      have N69 := Fr.snoc X69 N68 g_b61
      have Z69 : n0 ≤ h69.size := Nat.le_trans Z68 (Keep.of_wr W69).1
      have O69 := Old.wr O68 W69 g_b61
      have r69 := CHr.wr W69 (Safe.arr hZ.alike Ar69 (by decide)) R68.1
      have S69_b60 := r69.safe E_b60_68.lt S68_b60
      have R69 := R68.trans r69
      have hk69 := Nat.le_trans hk68 (Keep.of_wr W69).1
      obtain ⟨cl70, Ar70, q70, S70_, N70_, H70_, G70_⟩ := V_b61_69
      have hin70 : ¬ ((8 : Int32) < 0 ∨ cl70.slots.size ≤ ((8 : Int32)).toNatClampNeg) := inb_of S70_ ⟨by decide, by decide⟩
      obtain ⟨T70, h70, X70, e70, W70, st70⟩ := stC X69 hx hZ e69 Ar70 (j := (8 : Int32)) hin70 (g := (mkF m 191 #[.val (.int p1), .val (.int p2), .val (.int p3), .val (.int r0), .val (.int r1), .val (.int d0), .val (.int d1), .val (.int (0 : Int32)), .val (.int (1 : Int32)), .val (.ref b52), .val (.ref la58), .unset, .unset, .unset] [(.int (32 : Int32)), (.int (8 : Int32)), (.ref b61), (.ref b61), (.ref b60), (.ref b60)])) rfl rfl (hb hby at_191)
      have E_b52_70 := E_b52_69.wr W70
      have F_b52_coder_70 := F_b52_coder_69.other W70 (Or.inl ne_b52_b61)
      have F_b52_value_70 := F_b52_value_69.other W70 (Or.inl ne_b52_b61)
      have V_b53_70 := V_b53_69.other W70 ne_b53_b61
      have V_d__57_70 := V_d__57_69.other W70 ne_d__57_b61
      have E_la58_70 := E_la58_69.wr W70
      have F_la58_coder_70 := F_la58_coder_69.other W70 (Or.inl ne_la58_b61)
      have F_la58_value_70 := F_la58_value_69.other W70 (Or.inl ne_la58_b61)
      have V_lb58_70 := V_lb58_69.other W70 ne_lb58_b61
      have E_b60_70 := E_b60_69.wr W70
      have F_b60_coder_70 := F_b60_coder_69.other W70 (Or.inl ne_b60_b61)
      have F_b60_value_70 := F_b60_value_69.other W70 (Or.inl ne_b60_b61)
      have V_b61_70 : Arv Z h70 b61 k61 .char (11 : Int32) [(.int (nar .char (114 : Int32))), (.int (nar .char (101 : Int32))), (.int (nar .char (102 : Int32))), (.int (nar .char (117 : Int32))), (.int (nar .char (115 : Int32))), (.int (nar .char (101 : Int32))), (.int (nar .char (100 : Int32))), (.int (nar .char (58 : Int32))), (.int (nar .char (32 : Int32))), (.int (0 : Int32)), (.int (0 : Int32))] (.int (0 : Int32)) := Arv.set Ar70 q70 S70_ N70_ H70_ G70_ (fits_nar_char _) W70 8 rfl (Nat.le_of_ble_eq_true rfl)
      have K70 : Keep h0 h70 [] := K69.wr W70 (Or.inr sz_b61)
      have N70 := Fr.snoc X70 N69 g_b61
      have Z70 : n0 ≤ h70.size := Nat.le_trans Z69 (Keep.of_wr W70).1
      have O70 := Old.wr O69 W70 g_b61
      have r70 := CHr.wr W70 (Safe.arr hZ.alike Ar70 (by decide)) R69.1
      have S70_b60 := r70.safe E_b60_69.lt S69_b60
      have R70 := R69.trans r70
      have hk70 := Nat.le_trans hk69 (Keep.of_wr W70).1
      obtain ⟨cl71, Ar71, q71, S71_, N71_, H71_, G71_⟩ := V_b61_70
      have hin71 : ¬ ((9 : Int32) < 0 ∨ cl71.slots.size ≤ ((9 : Int32)).toNatClampNeg) := inb_of S71_ ⟨by decide, by decide⟩
      obtain ⟨T71, h71, X71, e71, W71, st71⟩ := stC X70 hx hZ e70 Ar71 (j := (9 : Int32)) hin71 (g := (mkF m 196 #[.val (.int p1), .val (.int p2), .val (.int p3), .val (.int r0), .val (.int r1), .val (.int d0), .val (.int d1), .val (.int (0 : Int32)), .val (.int (1 : Int32)), .val (.ref b52), .val (.ref la58), .unset, .unset, .unset] [(.int r0), (.int (9 : Int32)), (.ref b61), (.ref b61), (.ref b60), (.ref b60)])) rfl rfl (hb hby at_196)
      have E_b52_71 := E_b52_70.wr W71
      have F_b52_coder_71 := F_b52_coder_70.other W71 (Or.inl ne_b52_b61)
      have F_b52_value_71 := F_b52_value_70.other W71 (Or.inl ne_b52_b61)
      have V_b53_71 := V_b53_70.other W71 ne_b53_b61
      have V_d__57_71 := V_d__57_70.other W71 ne_d__57_b61
      have E_la58_71 := E_la58_70.wr W71
      have F_la58_coder_71 := F_la58_coder_70.other W71 (Or.inl ne_la58_b61)
      have F_la58_value_71 := F_la58_value_70.other W71 (Or.inl ne_la58_b61)
      have V_lb58_71 := V_lb58_70.other W71 ne_lb58_b61
      have E_b60_71 := E_b60_70.wr W71
      have F_b60_coder_71 := F_b60_coder_70.other W71 (Or.inl ne_b60_b61)
      have F_b60_value_71 := F_b60_value_70.other W71 (Or.inl ne_b60_b61)
      have V_b61_71 : Arv Z h71 b61 k61 .char (11 : Int32) [(.int (nar .char (114 : Int32))), (.int (nar .char (101 : Int32))), (.int (nar .char (102 : Int32))), (.int (nar .char (117 : Int32))), (.int (nar .char (115 : Int32))), (.int (nar .char (101 : Int32))), (.int (nar .char (100 : Int32))), (.int (nar .char (58 : Int32))), (.int (nar .char (32 : Int32))), (.int (nar .char r0)), (.int (0 : Int32))] (.int (0 : Int32)) := Arv.set Ar71 q71 S71_ N71_ H71_ G71_ (fits_nar_char _) W71 9 rfl (Nat.le_of_ble_eq_true rfl)
      have K71 : Keep h0 h71 [] := K70.wr W71 (Or.inr sz_b61)
      have N71 := Fr.snoc X71 N70 g_b61
      have Z71 : n0 ≤ h71.size := Nat.le_trans Z70 (Keep.of_wr W71).1
      have O71 := Old.wr O70 W71 g_b61
      have r71 := CHr.wr W71 (Safe.arr hZ.alike Ar71 (by decide)) R70.1
      have S71_b60 := r71.safe E_b60_70.lt S70_b60
      have R71 := R70.trans r71
      have hk71 := Nat.le_trans hk70 (Keep.of_wr W71).1
      obtain ⟨cl72, Ar72, q72, S72_, N72_, H72_, G72_⟩ := V_b61_71
      have hin72 : ¬ ((10 : Int32) < 0 ∨ cl72.slots.size ≤ ((10 : Int32)).toNatClampNeg) := inb_of S72_ ⟨by decide, by decide⟩
      obtain ⟨T72, h72, X72, e72, W72, st72⟩ := stC X71 hx hZ e71 Ar72 (j := (10 : Int32)) hin72 (g := (mkF m 202 #[.val (.int p1), .val (.int p2), .val (.int p3), .val (.int r0), .val (.int r1), .val (.int d0), .val (.int d1), .val (.int (0 : Int32)), .val (.int (1 : Int32)), .val (.ref b52), .val (.ref la58), .unset, .unset, .unset] [(.int r1), (.int (10 : Int32)), (.ref b61), (.ref b61), (.ref b60), (.ref b60)])) rfl rfl (hb hby at_202)
      have E_b52_72 := E_b52_71.wr W72
      have F_b52_coder_72 := F_b52_coder_71.other W72 (Or.inl ne_b52_b61)
      have F_b52_value_72 := F_b52_value_71.other W72 (Or.inl ne_b52_b61)
      have V_b53_72 := V_b53_71.other W72 ne_b53_b61
      have V_d__57_72 := V_d__57_71.other W72 ne_d__57_b61
      have E_la58_72 := E_la58_71.wr W72
      have F_la58_coder_72 := F_la58_coder_71.other W72 (Or.inl ne_la58_b61)
      have F_la58_value_72 := F_la58_value_71.other W72 (Or.inl ne_la58_b61)
      have V_lb58_72 := V_lb58_71.other W72 ne_lb58_b61
      have E_b60_72 := E_b60_71.wr W72
      have F_b60_coder_72 := F_b60_coder_71.other W72 (Or.inl ne_b60_b61)
      have F_b60_value_72 := F_b60_value_71.other W72 (Or.inl ne_b60_b61)
      have V_b61_72 : Arv Z h72 b61 k61 .char (11 : Int32) [(.int (nar .char (114 : Int32))), (.int (nar .char (101 : Int32))), (.int (nar .char (102 : Int32))), (.int (nar .char (117 : Int32))), (.int (nar .char (115 : Int32))), (.int (nar .char (101 : Int32))), (.int (nar .char (100 : Int32))), (.int (nar .char (58 : Int32))), (.int (nar .char (32 : Int32))), (.int (nar .char r0)), (.int (nar .char r1))] (.int (0 : Int32)) := Arv.set Ar72 q72 S72_ N72_ H72_ G72_ (fits_nar_char _) W72 10 rfl (Nat.le_of_ble_eq_true rfl)
      have K72 : Keep h0 h72 [] := K71.wr W72 (Or.inr sz_b61)
      have N72 := Fr.snoc X72 N71 g_b61
      have Z72 : n0 ≤ h72.size := Nat.le_trans Z71 (Keep.of_wr W72).1
      have O72 := Old.wr O71 W72 g_b61
      have r72 := CHr.wr W72 (Safe.arr hZ.alike Ar72 (by decide)) R71.1
      have S72_b60 := r72.safe E_b60_71.lt S71_b60
      have R72 := R71.trans r72
      have hk72 := Nat.le_trans hk71 (Keep.of_wr W72).1
      obtain ⟨lg73, Y73, M73⟩ := stand_gen X72 N72
      obtain ⟨_, _, ⟨T74, L74, k74, n74⟩, -, X74, ⟨Lc74, hQ74, l74, y74, z74⟩, st74⟩ := Y73.specialBack hx (y := (⟨"java/lang/String", "<init>", "([C)V"⟩ : MethodName)) rfl hown (mvT hZ (hw _ (List.mem_of_getElem? (i := 4) rfl))) (mvT hZ (hw _ (List.mem_of_getElem? (i := 5) rfl))) (mvT hZ (hw _ (List.mem_of_getElem? (i := 6) rfl))) (by decide) (payNew (h := h72) (W := 1) (n := 11) (cs := ([(nar .char (114 : Int32)), (nar .char (101 : Int32)), (nar .char (102 : Int32)), (nar .char (117 : Int32)), (nar .char (115 : Int32)), (nar .char (101 : Int32)), (nar .char (100 : Int32)), (nar .char (58 : Int32)), (nar .char (32 : Int32)), (nar .char r0), (nar .char r1)] : List Int32)) (n0 := n0) hZ hw rfl g_b60 Z72 E_b60_72 F_b60_value_72 F_b60_coder_72 V_b61_72 (CS.ext O72.2) hcs (by decide) (by decide) (chS ch_114 (chS ch_101 (chS ch_102 (chS ch_117 (chS ch_115 (chS ch_101 (chS ch_100 (chS ch_58 (chS ch_32 (chS b_r0 (chS b_r1 ch0))))))))))) (by decide) (by decide)) (g := (mkF m 203 #[.val (.int p1), .val (.int p2), .val (.int p3), .val (.int r0), .val (.int r1), .val (.int d0), .val (.int d1), .val (.int (0 : Int32)), .val (.int (1 : Int32)), .val (.ref b52), .val (.ref la58), .unset, .unset, .unset] [(.ref b61), (.ref b60), (.ref b60)])) rfl (by rw [hml]; rfl) (Steps.refl _) (a := b60) (argsL := [(.ref b61)]) (rest := [(.ref b60)]) (lenOf pd21 rfl) rfl (by show 2 * 0 + _ ≤ _; exact Nat.le_of_eq rfl) (hb hby at_203) (fun _ _ => ⟨rfl, e72, (by decide : 7 + 1 ≤ _), (by decide : 27 + 11 ≤ _)⟩)
      dsimp only [Pt.U, Pt.locs, Pt.cells, Pt.slots] at X74 l74 y74 z74 st74 hQ74
      subst l74 y74 z74
      obtain ⟨d'_74, k'_74, bs'_74, rfl, N74q, Kc74, G74_0, G74_1, G74_2, G74_3, eqs_74, f_d'_74⟩ := hQ74
      have N74 := Fr.app M73 N74q
      have ne_b52_d'_74 : b52 ≠ d'_74 := Nat.ne_of_lt (Nat.lt_of_lt_of_le E_b52_72.lt f_d'_74)
      have ne_b53_d'_74 : b53 ≠ d'_74 := Nat.ne_of_lt (Nat.lt_of_lt_of_le V_b53_72.lt f_d'_74)
      have ne_d__57_d'_74 : d'_57 ≠ d'_74 := Nat.ne_of_lt (Nat.lt_of_lt_of_le V_d__57_72.lt f_d'_74)
      have ne_la58_d'_74 : la58 ≠ d'_74 := Nat.ne_of_lt (Nat.lt_of_lt_of_le E_la58_72.lt f_d'_74)
      have ne_lb58_d'_74 : lb58 ≠ d'_74 := Nat.ne_of_lt (Nat.lt_of_lt_of_le V_lb58_72.lt f_d'_74)
      have ne_b60_d'_74 : b60 ≠ d'_74 := Nat.ne_of_lt (Nat.lt_of_lt_of_le E_b60_72.lt f_d'_74)
      have ne_b61_d'_74 : b61 ≠ d'_74 := Nat.ne_of_lt (Nat.lt_of_lt_of_le V_b61_72.lt f_d'_74)
      have g_d'_74 : n0 ≤ d'_74 := Nat.le_trans Z72 f_d'_74
      have sz_d'_74 : h0.size ≤ d'_74 := Nat.le_trans K72.1 f_d'_74
      have S0_d'_74 : Safe Z consts_1 T58.vm h72 d'_74 := Safe.new f_d'_74
      have E_b52_74 := E_b52_72.keep Kc74
      have F_b52_coder_74 := F_b52_coder_72.keep Kc74 (ninS ne_b52_b60 nin0)
      have F_b52_value_74 := F_b52_value_72.keep Kc74 (ninS ne_b52_b60 nin0)
      have V_b53_74 := V_b53_72.keep Kc74 (ninS ne_b53_b60 nin0)
      have V_d__57_74 := V_d__57_72.keep Kc74 (ninS ne_d__57_b60 nin0)
      have E_la58_74 := E_la58_72.keep Kc74
      have F_la58_coder_74 := F_la58_coder_72.keep Kc74 (ninS ne_la58_b60 nin0)
      have F_la58_value_74 := F_la58_value_72.keep Kc74 (ninS ne_la58_b60 nin0)
      have V_lb58_74 := V_lb58_72.keep Kc74 (ninS ne_lb58_b60 nin0)
      have V_b61_74 := V_b61_72.keep Kc74 (ninS (Ne.symm ne_b60_b61) nin0)
      have K74 : Keep h0 T74.heap [] := K72.trans Kc74 (allS (P := fun x => x ∈ ([] : List Addr) ∨ h0.size ≤ x) (Or.inr sz_b60) all0)
      have Z74 : n0 ≤ T74.heap.size := Nat.le_trans Z72 Kc74.1
      have O74 := Old.keep O72 Kc74 (allS g_b60 all0)
      have hs74 : ∀ x ∈ ([b60] : List Addr), Safe Z consts_1 T58.vm h72 x := (sfS S72_b60 sf0)
      have r74 := CHr.keep Kc74 hs74 R72.1
      have S74_b60 := Safe.keep Kc74 hs74 R72.1 S72_b60
      have S74_d'_74 := Safe.keep Kc74 hs74 R72.1 S0_d'_74
      have R74 := R72.trans r74
      have hk74 := Nat.le_trans hk72 Kc74.1
      obtain ⟨T75, h75, X75, e75, E75, A75, D75, U75, st75⟩ := newO X74 hx hZ hown (hw _ (List.mem_of_getElem? (i := 33) rfl)) (hw _ (List.mem_of_getElem? (i := 34) rfl)) (hw _ (List.mem_of_getElem? (i := 35) rfl)) rfl (g := (mkF m 208 #[.val (.int p1), .val (.int p2), .val (.int p3), .val (.int r0), .val (.int r1), .val (.int d0), .val (.int d1), .val (.int (0 : Int32)), .val (.int (1 : Int32)), .val (.ref b52), .val (.ref la58), .val (.ref b60), .unset, .unset] [])) rfl (hb hby at_208) (by decide) (by decide)
      obtain ⟨b75, g75⟩ : ∃ z, z = T74.heap.size := ⟨_, rfl⟩
      rw [← g75] at A75 D75 U75 st75
      have ne_b52_b75 : b52 ≠ b75 := Nat.ne_of_lt (Nat.lt_of_lt_of_le E_b52_74.lt (Nat.le_of_eq g75.symm))
      have ne_b53_b75 : b53 ≠ b75 := Nat.ne_of_lt (Nat.lt_of_lt_of_le V_b53_74.lt (Nat.le_of_eq g75.symm))
      have ne_d__57_b75 : d'_57 ≠ b75 := Nat.ne_of_lt (Nat.lt_of_lt_of_le V_d__57_74.lt (Nat.le_of_eq g75.symm))
      have ne_la58_b75 : la58 ≠ b75 := Nat.ne_of_lt (Nat.lt_of_lt_of_le E_la58_74.lt (Nat.le_of_eq g75.symm))
      have ne_lb58_b75 : lb58 ≠ b75 := Nat.ne_of_lt (Nat.lt_of_lt_of_le V_lb58_74.lt (Nat.le_of_eq g75.symm))
      have ne_b60_b75 : b60 ≠ b75 := Nat.ne_of_lt (Nat.lt_of_lt_of_le G74_0.lt (Nat.le_of_eq g75.symm))
      have ne_b61_b75 : b61 ≠ b75 := Nat.ne_of_lt (Nat.lt_of_lt_of_le V_b61_74.lt (Nat.le_of_eq g75.symm))
      have ne_d__74_b75 : d'_74 ≠ b75 := Nat.ne_of_lt (Nat.lt_of_lt_of_le G74_3.lt (Nat.le_of_eq g75.symm))
      have g_b75 : n0 ≤ b75 := Nat.le_trans Z74 (Nat.le_of_eq g75.symm)
      have sz_b75 : h0.size ≤ b75 := Nat.le_trans K74.1 (Nat.le_of_eq g75.symm)
      have E_b52_75 := E_b52_74.ext E75
      have F_b52_coder_75 := F_b52_coder_74.ext E75
      have F_b52_value_75 := F_b52_value_74.ext E75
      have V_b53_75 := V_b53_74.ext E75
      have V_d__57_75 := V_d__57_74.ext E75
      have E_la58_75 := E_la58_74.ext E75
      have F_la58_coder_75 := F_la58_coder_74.ext E75
      have F_la58_value_75 := F_la58_value_74.ext E75
      have V_lb58_75 := V_lb58_74.ext E75
      have E_b60_75 := G74_0.ext E75
      have F_b60_coder_75 := G74_1.ext E75
      have F_b60_value_75 := G74_2.ext E75
      have V_b61_75 := V_b61_74.ext E75
      have V_d__74_75 := G74_3.ext E75
      have K75 : Keep h0 h75 [] := K74.ext E75
      have Z75 : n0 ≤ h75.size := Nat.le_trans Z74 E75.1
      have O75 := Old.ext O74 E75
      have r75 := CHr.ext E75 R74.1
      have R75 := R74.trans r75
      have hk75 := Nat.le_trans hk74 E75.1
      have F_cause_b75 : Fld Z h75 b75 "java/lang/Throwable" "cause" "Ljava/lang/Throwable;" .null := D75 (Or.inl (hw _ (List.mem_of_getElem? (i := 52) rfl))) (ty := (.object "java/lang/Throwable")) (by decide)
      have F_stackTrace_b75 : Fld Z h75 b75 "java/lang/Throwable" "stackTrace" "[Ljava/lang/StackTraceElement;" .null := D75 (Or.inl (hw _ (List.mem_of_getElem? (i := 55) rfl))) (ty := (.array (.object "java/lang/StackTraceElement"))) (by decide)
      have F_suppressedExceptions_b75 : Fld Z h75 b75 "java/lang/Throwable" "suppressedExceptions" "Ljava/util/List;" .null := D75 (Or.inl (hw _ (List.mem_of_getElem? (i := 58) rfl))) (ty := (.object "java/util/List")) (by decide)
      have F_detailMessage_b75 : Fld Z h75 b75 "java/lang/Throwable" "detailMessage" "Ljava/lang/String;" .null := D75 (Or.inl (hw _ (List.mem_of_getElem? (i := 82) rfl))) (ty := (.object "java/lang/String")) (by decide)
      have F_backtrace_b75 : Fld Z h75 b75 "java/lang/Throwable" "backtrace" "Ljava/lang/Object;" .null := D75 (Or.inl (hw _ (List.mem_of_getElem? (i := 83) rfl))) (ty := (.object "java/lang/Object")) (by decide)
      have F_depth_b75 : Fld Z h75 b75 "java/lang/Throwable" "depth" "I" (.int (0 : Int32)) := D75 (Or.inl (hw _ (List.mem_of_getElem? (i := 84) rfl))) (ty := .int) (by decide)
      have F_reason_b75 : Fld Z h75 b75 "com/example/tranche/tranche/terms/Refusal" "reason" "Ljava/lang/String;" .null := D75 (Or.inr (hw _ (List.mem_of_getElem? (i := 88) rfl))) (ty := (.object "java/lang/String")) (by decide)
      obtain ⟨lg76, Y76, M76⟩ := stand_gen X75 N74
      obtain ⟨_, _, ⟨T77, L77, k77, n77⟩, -, X77, ⟨Lc77, hQ77, l77, y77, z77⟩, st77⟩ := Y76.specialBack hx (y := (⟨"com/example/tranche/tranche/terms/Refusal", "<init>", "(Ljava/lang/String;Ljava/lang/String;)V"⟩ : MethodName)) rfl hown (mvT hZ (hw _ (List.mem_of_getElem? (i := 36) rfl))) (mvT hZ (hw _ (List.mem_of_getElem? (i := 37) rfl))) (mvT hZ (hw _ (List.mem_of_getElem? (i := 38) rfl))) (by decide) (backOfKL (W := 1) (rm7 l Z a0 hw [] b75 b52 la58 h75 n0 cs ua us CS hcs O75 hl SUA SUS Z75 g_b75 A75 U75 _ _ _ _ _ F_cause_b75 F_stackTrace_b75 F_suppressedExceptions_b75 F_detailMessage_b75 F_backtrace_b75 F_reason_b75) hZ (hw _ (List.mem_of_getElem? (i := 38) rfl)) (hw _ (List.mem_of_getElem? (i := 35) rfl)) (by decide) (by decide) (Vm.MethodsKnown.alikeC hS.1.alike hK.1) (Vm.FramesKnown.alikeC hS.1.alike hK.2)) (g := (mkF m 216 #[.val (.int p1), .val (.int p2), .val (.int p3), .val (.int r0), .val (.int r1), .val (.int d0), .val (.int d1), .val (.int (0 : Int32)), .val (.int (1 : Int32)), .val (.ref b52), .val (.ref la58), .val (.ref b60), .unset, .unset] [(.ref la58), (.ref b52), (.ref b75), (.ref b75)])) rfl (by rw [hml]; rfl) (Steps.refl _) (a := b75) (argsL := [(.ref b52), (.ref la58)]) (rest := [(.ref b75)]) (lenOf pd22 rfl) rfl (by show 2 * 0 + _ ≤ _; exact Nat.le_of_eq rfl) (hb hby at_216) (fun _ _ => ⟨rfl, e75, (by decide : 9 + 1 ≤ _), (by decide : 46 + 2752 ≤ _)⟩)
      dsimp only [Pt.U, Pt.locs, Pt.cells, Pt.slots] at X77 l77 y77 z77 st77 hQ77
      subst l77 y77 z77
      obtain ⟨rfl, N77q, Kc77, G77_0, G77_1, G77_2⟩ := hQ77
      have N77 := Fr.app M76 N77q
      have E_b52_77 := E_b52_75.keep Kc77
      have F_b52_coder_77 := F_b52_coder_75.keep Kc77 (ninS ne_b52_b75 nin0)
      have F_b52_value_77 := F_b52_value_75.keep Kc77 (ninS ne_b52_b75 nin0)
      have V_b53_77 := V_b53_75.keep Kc77 (ninS ne_b53_b75 nin0)
      have V_d__57_77 := V_d__57_75.keep Kc77 (ninS ne_d__57_b75 nin0)
      have E_la58_77 := E_la58_75.keep Kc77
      have F_la58_coder_77 := F_la58_coder_75.keep Kc77 (ninS ne_la58_b75 nin0)
      have F_la58_value_77 := F_la58_value_75.keep Kc77 (ninS ne_la58_b75 nin0)
      have V_lb58_77 := V_lb58_75.keep Kc77 (ninS ne_lb58_b75 nin0)
      have E_b60_77 := E_b60_75.keep Kc77
      have F_b60_coder_77 := F_b60_coder_75.keep Kc77 (ninS ne_b60_b75 nin0)
      have F_b60_value_77 := F_b60_value_75.keep Kc77 (ninS ne_b60_b75 nin0)
      have V_b61_77 := V_b61_75.keep Kc77 (ninS ne_b61_b75 nin0)
      have V_d__74_77 := V_d__74_75.keep Kc77 (ninS ne_d__74_b75 nin0)
      have K77 : Keep h0 T77.heap [] := K75.trans Kc77 (allS (P := fun x => x ∈ ([] : List Addr) ∨ h0.size ≤ x) (Or.inr sz_b75) all0)
      have Z77 : n0 ≤ T77.heap.size := Nat.le_trans Z75 Kc77.1
      have O77 := Old.keep O75 Kc77 (allS g_b75 all0)
      have hs77 : ∀ x ∈ ([b75] : List Addr), Safe Z consts_1 T58.vm h75 x := (sfS (Safe.exa hZ.alike A75 (by decide) (by decide)) sf0)
      have r77 := CHr.keep Kc77 hs77 R75.1
      have R77 := R75.trans r77
      have hk77 := Nat.le_trans hk75 Kc77.1
      obtain ⟨lg78, Y78, M78⟩ := stand_gen X77 N77
      have pre80 : ∀ t, Steps p.tables e below (T77.setTop (mkF m 223 #[.val (.int p1), .val (.int p2), .val (.int p3), .val (.int r0), .val (.int r1), .val (.int d0), .val (.int d1), .val (.int (0 : Int32)), .val (.int (1 : Int32)), .val (.ref b52), .val (.ref la58), .val (.ref b60), .val (.ref b75), .unset] [(.ref b75)])) t → Steps p.tables e below (s₁.setTop (entryFrame m #[(.int p1), (.int p2), (.int p3)] maxLocals)) t := by
        intro t k
        refine pre59 t ?_
        refine st58 _ ?_
        show Steps p.tables e below (T58.setTop (mkF m 101 #[.val (.int p1), .val (.int p2), .val (.int p3), .val (.int r0), .val (.int r1), .val (.int d0), .val (.int d1), .val (.int (0 : Int32)), .val (.int (1 : Int32)), .val (.ref b52), .unset, .unset, .unset, .unset] [(.ref la58)])) _
        refine XS.goto X58.here hx rfl (pc0 := 101) (pc' := 124) rfl (hb hby at_101) (by decide) (by decide) ?_
        show Steps p.tables e below (T58.setTop (mkF m 124 #[.val (.int p1), .val (.int p2), .val (.int p3), .val (.int r0), .val (.int r1), .val (.int d0), .val (.int d1), .val (.int (0 : Int32)), .val (.int (1 : Int32)), .val (.ref b52), .unset, .unset, .unset, .unset] [(.ref la58)])) _
        refine XS.astore X58.here hx rfl (hb hby at_124) rfl rfl (l' := #[.val (.int p1), .val (.int p2), .val (.int p3), .val (.int r0), .val (.int r1), .val (.int d0), .val (.int d1), .val (.int (0 : Int32)), .val (.int (1 : Int32)), .val (.ref b52), .val (.ref la58), .unset, .unset, .unset]) rfl ?_
        show Steps p.tables e below (T58.setTop (mkF m 126 #[.val (.int p1), .val (.int p2), .val (.int p3), .val (.int r0), .val (.int r1), .val (.int d0), .val (.int d1), .val (.int (0 : Int32)), .val (.int (1 : Int32)), .val (.ref b52), .val (.ref la58), .unset, .unset, .unset] [])) _
        refine XS.iload X58.here hx rfl (hb hby at_126) rfl ?_
        show Steps p.tables e below (T58.setTop (mkF m 128 #[.val (.int p1), .val (.int p2), .val (.int p3), .val (.int r0), .val (.int r1), .val (.int d0), .val (.int d1), .val (.int (0 : Int32)), .val (.int (1 : Int32)), .val (.ref b52), .val (.ref la58), .unset, .unset, .unset] [(.int (0 : Int32))])) _
        refine XS.ifYes X58.here hx rfl (pc0 := 128) (pc' := 136) rfl (hb hby at_128) rfl ((if0 _ _).trans (teq (by decide : (0 : Int32) = (0 : Int32))).1) (by decide) (by decide) ?_
        show Steps p.tables e below (T58.setTop (mkF m 136 #[.val (.int p1), .val (.int p2), .val (.int p3), .val (.int r0), .val (.int r1), .val (.int d0), .val (.int d1), .val (.int (0 : Int32)), .val (.int (1 : Int32)), .val (.ref b52), .val (.ref la58), .unset, .unset, .unset] [])) _
        refine st60 _ ?_
        show Steps p.tables e below (T60.setTop (mkF m 139 #[.val (.int p1), .val (.int p2), .val (.int p3), .val (.int r0), .val (.int r1), .val (.int d0), .val (.int d1), .val (.int (0 : Int32)), .val (.int (1 : Int32)), .val (.ref b52), .val (.ref la58), .unset, .unset, .unset] [(.ref b60)])) _
        refine XS.dup X60.here hx rfl (hb hby at_139) rfl rfl ?_
        show Steps p.tables e below (T60.setTop (mkF m 140 #[.val (.int p1), .val (.int p2), .val (.int p3), .val (.int r0), .val (.int r1), .val (.int d0), .val (.int d1), .val (.int (0 : Int32)), .val (.int (1 : Int32)), .val (.ref b52), .val (.ref la58), .unset, .unset, .unset] [(.ref b60), (.ref b60)])) _
        refine XS.bipush X60.here hx rfl (hb hby at_140) ?_
        show Steps p.tables e below (T60.setTop (mkF m 142 #[.val (.int p1), .val (.int p2), .val (.int p3), .val (.int r0), .val (.int r1), .val (.int d0), .val (.int d1), .val (.int (0 : Int32)), .val (.int (1 : Int32)), .val (.ref b52), .val (.ref la58), .unset, .unset, .unset] [(.int (11 : Int32)), (.ref b60), (.ref b60)])) _
        refine st61 _ ?_
        show Steps p.tables e below (T61.setTop (mkF m 144 #[.val (.int p1), .val (.int p2), .val (.int p3), .val (.int r0), .val (.int r1), .val (.int d0), .val (.int d1), .val (.int (0 : Int32)), .val (.int (1 : Int32)), .val (.ref b52), .val (.ref la58), .unset, .unset, .unset] [(.ref b61), (.ref b60), (.ref b60)])) _
        refine XS.dup X61.here hx rfl (hb hby at_144) rfl rfl ?_
        show Steps p.tables e below (T61.setTop (mkF m 145 #[.val (.int p1), .val (.int p2), .val (.int p3), .val (.int r0), .val (.int r1), .val (.int d0), .val (.int d1), .val (.int (0 : Int32)), .val (.int (1 : Int32)), .val (.ref b52), .val (.ref la58), .unset, .unset, .unset] [(.ref b61), (.ref b61), (.ref b60), (.ref b60)])) _
        refine XS.iconst X61.here hx rfl (hb hby at_145) ?_
        show Steps p.tables e below (T61.setTop (mkF m 146 #[.val (.int p1), .val (.int p2), .val (.int p3), .val (.int r0), .val (.int r1), .val (.int d0), .val (.int d1), .val (.int (0 : Int32)), .val (.int (1 : Int32)), .val (.ref b52), .val (.ref la58), .unset, .unset, .unset] [(.int (0 : Int32)), (.ref b61), (.ref b61), (.ref b60), (.ref b60)])) _
        refine XS.bipush X61.here hx rfl (hb hby at_146) ?_
        show Steps p.tables e below (T61.setTop (mkF m 148 #[.val (.int p1), .val (.int p2), .val (.int p3), .val (.int r0), .val (.int r1), .val (.int d0), .val (.int d1), .val (.int (0 : Int32)), .val (.int (1 : Int32)), .val (.ref b52), .val (.ref la58), .unset, .unset, .unset] [(.int (114 : Int32)), (.int (0 : Int32)), (.ref b61), (.ref b61), (.ref b60), (.ref b60)])) _
        refine st62 _ ?_
        show Steps p.tables e below (T62.setTop (mkF m 149 #[.val (.int p1), .val (.int p2), .val (.int p3), .val (.int r0), .val (.int r1), .val (.int d0), .val (.int d1), .val (.int (0 : Int32)), .val (.int (1 : Int32)), .val (.ref b52), .val (.ref la58), .unset, .unset, .unset] [(.ref b61), (.ref b60), (.ref b60)])) _
        refine XS.dup X62.here hx rfl (hb hby at_149) rfl rfl ?_
        show Steps p.tables e below (T62.setTop (mkF m 150 #[.val (.int p1), .val (.int p2), .val (.int p3), .val (.int r0), .val (.int r1), .val (.int d0), .val (.int d1), .val (.int (0 : Int32)), .val (.int (1 : Int32)), .val (.ref b52), .val (.ref la58), .unset, .unset, .unset] [(.ref b61), (.ref b61), (.ref b60), (.ref b60)])) _
        refine XS.iconst X62.here hx rfl (hb hby at_150) ?_
        show Steps p.tables e below (T62.setTop (mkF m 151 #[.val (.int p1), .val (.int p2), .val (.int p3), .val (.int r0), .val (.int r1), .val (.int d0), .val (.int d1), .val (.int (0 : Int32)), .val (.int (1 : Int32)), .val (.ref b52), .val (.ref la58), .unset, .unset, .unset] [(.int (1 : Int32)), (.ref b61), (.ref b61), (.ref b60), (.ref b60)])) _
        refine XS.bipush X62.here hx rfl (hb hby at_151) ?_
        show Steps p.tables e below (T62.setTop (mkF m 153 #[.val (.int p1), .val (.int p2), .val (.int p3), .val (.int r0), .val (.int r1), .val (.int d0), .val (.int d1), .val (.int (0 : Int32)), .val (.int (1 : Int32)), .val (.ref b52), .val (.ref la58), .unset, .unset, .unset] [(.int (101 : Int32)), (.int (1 : Int32)), (.ref b61), (.ref b61), (.ref b60), (.ref b60)])) _
        refine st63 _ ?_
        show Steps p.tables e below (T63.setTop (mkF m 154 #[.val (.int p1), .val (.int p2), .val (.int p3), .val (.int r0), .val (.int r1), .val (.int d0), .val (.int d1), .val (.int (0 : Int32)), .val (.int (1 : Int32)), .val (.ref b52), .val (.ref la58), .unset, .unset, .unset] [(.ref b61), (.ref b60), (.ref b60)])) _
        refine XS.dup X63.here hx rfl (hb hby at_154) rfl rfl ?_
        show Steps p.tables e below (T63.setTop (mkF m 155 #[.val (.int p1), .val (.int p2), .val (.int p3), .val (.int r0), .val (.int r1), .val (.int d0), .val (.int d1), .val (.int (0 : Int32)), .val (.int (1 : Int32)), .val (.ref b52), .val (.ref la58), .unset, .unset, .unset] [(.ref b61), (.ref b61), (.ref b60), (.ref b60)])) _
        refine XS.iconst X63.here hx rfl (hb hby at_155) ?_
        show Steps p.tables e below (T63.setTop (mkF m 156 #[.val (.int p1), .val (.int p2), .val (.int p3), .val (.int r0), .val (.int r1), .val (.int d0), .val (.int d1), .val (.int (0 : Int32)), .val (.int (1 : Int32)), .val (.ref b52), .val (.ref la58), .unset, .unset, .unset] [(.int (2 : Int32)), (.ref b61), (.ref b61), (.ref b60), (.ref b60)])) _
        refine XS.bipush X63.here hx rfl (hb hby at_156) ?_
        show Steps p.tables e below (T63.setTop (mkF m 158 #[.val (.int p1), .val (.int p2), .val (.int p3), .val (.int r0), .val (.int r1), .val (.int d0), .val (.int d1), .val (.int (0 : Int32)), .val (.int (1 : Int32)), .val (.ref b52), .val (.ref la58), .unset, .unset, .unset] [(.int (102 : Int32)), (.int (2 : Int32)), (.ref b61), (.ref b61), (.ref b60), (.ref b60)])) _
        refine st64 _ ?_
        show Steps p.tables e below (T64.setTop (mkF m 159 #[.val (.int p1), .val (.int p2), .val (.int p3), .val (.int r0), .val (.int r1), .val (.int d0), .val (.int d1), .val (.int (0 : Int32)), .val (.int (1 : Int32)), .val (.ref b52), .val (.ref la58), .unset, .unset, .unset] [(.ref b61), (.ref b60), (.ref b60)])) _
        refine XS.dup X64.here hx rfl (hb hby at_159) rfl rfl ?_
        show Steps p.tables e below (T64.setTop (mkF m 160 #[.val (.int p1), .val (.int p2), .val (.int p3), .val (.int r0), .val (.int r1), .val (.int d0), .val (.int d1), .val (.int (0 : Int32)), .val (.int (1 : Int32)), .val (.ref b52), .val (.ref la58), .unset, .unset, .unset] [(.ref b61), (.ref b61), (.ref b60), (.ref b60)])) _
        refine XS.iconst X64.here hx rfl (hb hby at_160) ?_
        show Steps p.tables e below (T64.setTop (mkF m 161 #[.val (.int p1), .val (.int p2), .val (.int p3), .val (.int r0), .val (.int r1), .val (.int d0), .val (.int d1), .val (.int (0 : Int32)), .val (.int (1 : Int32)), .val (.ref b52), .val (.ref la58), .unset, .unset, .unset] [(.int (3 : Int32)), (.ref b61), (.ref b61), (.ref b60), (.ref b60)])) _
        refine XS.bipush X64.here hx rfl (hb hby at_161) ?_
        show Steps p.tables e below (T64.setTop (mkF m 163 #[.val (.int p1), .val (.int p2), .val (.int p3), .val (.int r0), .val (.int r1), .val (.int d0), .val (.int d1), .val (.int (0 : Int32)), .val (.int (1 : Int32)), .val (.ref b52), .val (.ref la58), .unset, .unset, .unset] [(.int (117 : Int32)), (.int (3 : Int32)), (.ref b61), (.ref b61), (.ref b60), (.ref b60)])) _
        refine st65 _ ?_
        show Steps p.tables e below (T65.setTop (mkF m 164 #[.val (.int p1), .val (.int p2), .val (.int p3), .val (.int r0), .val (.int r1), .val (.int d0), .val (.int d1), .val (.int (0 : Int32)), .val (.int (1 : Int32)), .val (.ref b52), .val (.ref la58), .unset, .unset, .unset] [(.ref b61), (.ref b60), (.ref b60)])) _
        refine XS.dup X65.here hx rfl (hb hby at_164) rfl rfl ?_
        show Steps p.tables e below (T65.setTop (mkF m 165 #[.val (.int p1), .val (.int p2), .val (.int p3), .val (.int r0), .val (.int r1), .val (.int d0), .val (.int d1), .val (.int (0 : Int32)), .val (.int (1 : Int32)), .val (.ref b52), .val (.ref la58), .unset, .unset, .unset] [(.ref b61), (.ref b61), (.ref b60), (.ref b60)])) _
        refine XS.iconst X65.here hx rfl (hb hby at_165) ?_
        show Steps p.tables e below (T65.setTop (mkF m 166 #[.val (.int p1), .val (.int p2), .val (.int p3), .val (.int r0), .val (.int r1), .val (.int d0), .val (.int d1), .val (.int (0 : Int32)), .val (.int (1 : Int32)), .val (.ref b52), .val (.ref la58), .unset, .unset, .unset] [(.int (4 : Int32)), (.ref b61), (.ref b61), (.ref b60), (.ref b60)])) _
        refine XS.bipush X65.here hx rfl (hb hby at_166) ?_
        show Steps p.tables e below (T65.setTop (mkF m 168 #[.val (.int p1), .val (.int p2), .val (.int p3), .val (.int r0), .val (.int r1), .val (.int d0), .val (.int d1), .val (.int (0 : Int32)), .val (.int (1 : Int32)), .val (.ref b52), .val (.ref la58), .unset, .unset, .unset] [(.int (115 : Int32)), (.int (4 : Int32)), (.ref b61), (.ref b61), (.ref b60), (.ref b60)])) _
        refine st66 _ ?_
        show Steps p.tables e below (T66.setTop (mkF m 169 #[.val (.int p1), .val (.int p2), .val (.int p3), .val (.int r0), .val (.int r1), .val (.int d0), .val (.int d1), .val (.int (0 : Int32)), .val (.int (1 : Int32)), .val (.ref b52), .val (.ref la58), .unset, .unset, .unset] [(.ref b61), (.ref b60), (.ref b60)])) _
        refine XS.dup X66.here hx rfl (hb hby at_169) rfl rfl ?_
        show Steps p.tables e below (T66.setTop (mkF m 170 #[.val (.int p1), .val (.int p2), .val (.int p3), .val (.int r0), .val (.int r1), .val (.int d0), .val (.int d1), .val (.int (0 : Int32)), .val (.int (1 : Int32)), .val (.ref b52), .val (.ref la58), .unset, .unset, .unset] [(.ref b61), (.ref b61), (.ref b60), (.ref b60)])) _
        refine XS.iconst X66.here hx rfl (hb hby at_170) ?_
        show Steps p.tables e below (T66.setTop (mkF m 171 #[.val (.int p1), .val (.int p2), .val (.int p3), .val (.int r0), .val (.int r1), .val (.int d0), .val (.int d1), .val (.int (0 : Int32)), .val (.int (1 : Int32)), .val (.ref b52), .val (.ref la58), .unset, .unset, .unset] [(.int (5 : Int32)), (.ref b61), (.ref b61), (.ref b60), (.ref b60)])) _
        refine XS.bipush X66.here hx rfl (hb hby at_171) ?_
        show Steps p.tables e below (T66.setTop (mkF m 173 #[.val (.int p1), .val (.int p2), .val (.int p3), .val (.int r0), .val (.int r1), .val (.int d0), .val (.int d1), .val (.int (0 : Int32)), .val (.int (1 : Int32)), .val (.ref b52), .val (.ref la58), .unset, .unset, .unset] [(.int (101 : Int32)), (.int (5 : Int32)), (.ref b61), (.ref b61), (.ref b60), (.ref b60)])) _
        refine st67 _ ?_
        show Steps p.tables e below (T67.setTop (mkF m 174 #[.val (.int p1), .val (.int p2), .val (.int p3), .val (.int r0), .val (.int r1), .val (.int d0), .val (.int d1), .val (.int (0 : Int32)), .val (.int (1 : Int32)), .val (.ref b52), .val (.ref la58), .unset, .unset, .unset] [(.ref b61), (.ref b60), (.ref b60)])) _
        refine XS.dup X67.here hx rfl (hb hby at_174) rfl rfl ?_
        show Steps p.tables e below (T67.setTop (mkF m 175 #[.val (.int p1), .val (.int p2), .val (.int p3), .val (.int r0), .val (.int r1), .val (.int d0), .val (.int d1), .val (.int (0 : Int32)), .val (.int (1 : Int32)), .val (.ref b52), .val (.ref la58), .unset, .unset, .unset] [(.ref b61), (.ref b61), (.ref b60), (.ref b60)])) _
        refine XS.bipush X67.here hx rfl (hb hby at_175) ?_
        show Steps p.tables e below (T67.setTop (mkF m 177 #[.val (.int p1), .val (.int p2), .val (.int p3), .val (.int r0), .val (.int r1), .val (.int d0), .val (.int d1), .val (.int (0 : Int32)), .val (.int (1 : Int32)), .val (.ref b52), .val (.ref la58), .unset, .unset, .unset] [(.int (6 : Int32)), (.ref b61), (.ref b61), (.ref b60), (.ref b60)])) _
        refine XS.bipush X67.here hx rfl (hb hby at_177) ?_
        show Steps p.tables e below (T67.setTop (mkF m 179 #[.val (.int p1), .val (.int p2), .val (.int p3), .val (.int r0), .val (.int r1), .val (.int d0), .val (.int d1), .val (.int (0 : Int32)), .val (.int (1 : Int32)), .val (.ref b52), .val (.ref la58), .unset, .unset, .unset] [(.int (100 : Int32)), (.int (6 : Int32)), (.ref b61), (.ref b61), (.ref b60), (.ref b60)])) _
        refine st68 _ ?_
        show Steps p.tables e below (T68.setTop (mkF m 180 #[.val (.int p1), .val (.int p2), .val (.int p3), .val (.int r0), .val (.int r1), .val (.int d0), .val (.int d1), .val (.int (0 : Int32)), .val (.int (1 : Int32)), .val (.ref b52), .val (.ref la58), .unset, .unset, .unset] [(.ref b61), (.ref b60), (.ref b60)])) _
        refine XS.dup X68.here hx rfl (hb hby at_180) rfl rfl ?_
        show Steps p.tables e below (T68.setTop (mkF m 181 #[.val (.int p1), .val (.int p2), .val (.int p3), .val (.int r0), .val (.int r1), .val (.int d0), .val (.int d1), .val (.int (0 : Int32)), .val (.int (1 : Int32)), .val (.ref b52), .val (.ref la58), .unset, .unset, .unset] [(.ref b61), (.ref b61), (.ref b60), (.ref b60)])) _
        refine XS.bipush X68.here hx rfl (hb hby at_181) ?_
        show Steps p.tables e below (T68.setTop (mkF m 183 #[.val (.int p1), .val (.int p2), .val (.int p3), .val (.int r0), .val (.int r1), .val (.int d0), .val (.int d1), .val (.int (0 : Int32)), .val (.int (1 : Int32)), .val (.ref b52), .val (.ref la58), .unset, .unset, .unset] [(.int (7 : Int32)), (.ref b61), (.ref b61), (.ref b60), (.ref b60)])) _
        refine XS.bipush X68.here hx rfl (hb hby at_183) ?_
        show Steps p.tables e below (T68.setTop (mkF m 185 #[.val (.int p1), .val (.int p2), .val (.int p3), .val (.int r0), .val (.int r1), .val (.int d0), .val (.int d1), .val (.int (0 : Int32)), .val (.int (1 : Int32)), .val (.ref b52), .val (.ref la58), .unset, .unset, .unset] [(.int (58 : Int32)), (.int (7 : Int32)), (.ref b61), (.ref b61), (.ref b60), (.ref b60)])) _
        refine st69 _ ?_
        show Steps p.tables e below (T69.setTop (mkF m 186 #[.val (.int p1), .val (.int p2), .val (.int p3), .val (.int r0), .val (.int r1), .val (.int d0), .val (.int d1), .val (.int (0 : Int32)), .val (.int (1 : Int32)), .val (.ref b52), .val (.ref la58), .unset, .unset, .unset] [(.ref b61), (.ref b60), (.ref b60)])) _
        refine XS.dup X69.here hx rfl (hb hby at_186) rfl rfl ?_
        show Steps p.tables e below (T69.setTop (mkF m 187 #[.val (.int p1), .val (.int p2), .val (.int p3), .val (.int r0), .val (.int r1), .val (.int d0), .val (.int d1), .val (.int (0 : Int32)), .val (.int (1 : Int32)), .val (.ref b52), .val (.ref la58), .unset, .unset, .unset] [(.ref b61), (.ref b61), (.ref b60), (.ref b60)])) _
        refine XS.bipush X69.here hx rfl (hb hby at_187) ?_
        show Steps p.tables e below (T69.setTop (mkF m 189 #[.val (.int p1), .val (.int p2), .val (.int p3), .val (.int r0), .val (.int r1), .val (.int d0), .val (.int d1), .val (.int (0 : Int32)), .val (.int (1 : Int32)), .val (.ref b52), .val (.ref la58), .unset, .unset, .unset] [(.int (8 : Int32)), (.ref b61), (.ref b61), (.ref b60), (.ref b60)])) _
        refine XS.bipush X69.here hx rfl (hb hby at_189) ?_
        show Steps p.tables e below (T69.setTop (mkF m 191 #[.val (.int p1), .val (.int p2), .val (.int p3), .val (.int r0), .val (.int r1), .val (.int d0), .val (.int d1), .val (.int (0 : Int32)), .val (.int (1 : Int32)), .val (.ref b52), .val (.ref la58), .unset, .unset, .unset] [(.int (32 : Int32)), (.int (8 : Int32)), (.ref b61), (.ref b61), (.ref b60), (.ref b60)])) _
        refine st70 _ ?_
        show Steps p.tables e below (T70.setTop (mkF m 192 #[.val (.int p1), .val (.int p2), .val (.int p3), .val (.int r0), .val (.int r1), .val (.int d0), .val (.int d1), .val (.int (0 : Int32)), .val (.int (1 : Int32)), .val (.ref b52), .val (.ref la58), .unset, .unset, .unset] [(.ref b61), (.ref b60), (.ref b60)])) _
        refine XS.dup X70.here hx rfl (hb hby at_192) rfl rfl ?_
        show Steps p.tables e below (T70.setTop (mkF m 193 #[.val (.int p1), .val (.int p2), .val (.int p3), .val (.int r0), .val (.int r1), .val (.int d0), .val (.int d1), .val (.int (0 : Int32)), .val (.int (1 : Int32)), .val (.ref b52), .val (.ref la58), .unset, .unset, .unset] [(.ref b61), (.ref b61), (.ref b60), (.ref b60)])) _
        refine XS.bipush X70.here hx rfl (hb hby at_193) ?_
        show Steps p.tables e below (T70.setTop (mkF m 195 #[.val (.int p1), .val (.int p2), .val (.int p3), .val (.int r0), .val (.int r1), .val (.int d0), .val (.int d1), .val (.int (0 : Int32)), .val (.int (1 : Int32)), .val (.ref b52), .val (.ref la58), .unset, .unset, .unset] [(.int (9 : Int32)), (.ref b61), (.ref b61), (.ref b60), (.ref b60)])) _
        refine XS.iloadN X70.here hx rfl (hb hby at_195) rfl ?_
        show Steps p.tables e below (T70.setTop (mkF m 196 #[.val (.int p1), .val (.int p2), .val (.int p3), .val (.int r0), .val (.int r1), .val (.int d0), .val (.int d1), .val (.int (0 : Int32)), .val (.int (1 : Int32)), .val (.ref b52), .val (.ref la58), .unset, .unset, .unset] [(.int r0), (.int (9 : Int32)), (.ref b61), (.ref b61), (.ref b60), (.ref b60)])) _
        refine st71 _ ?_
        show Steps p.tables e below (T71.setTop (mkF m 197 #[.val (.int p1), .val (.int p2), .val (.int p3), .val (.int r0), .val (.int r1), .val (.int d0), .val (.int d1), .val (.int (0 : Int32)), .val (.int (1 : Int32)), .val (.ref b52), .val (.ref la58), .unset, .unset, .unset] [(.ref b61), (.ref b60), (.ref b60)])) _
        refine XS.dup X71.here hx rfl (hb hby at_197) rfl rfl ?_
        show Steps p.tables e below (T71.setTop (mkF m 198 #[.val (.int p1), .val (.int p2), .val (.int p3), .val (.int r0), .val (.int r1), .val (.int d0), .val (.int d1), .val (.int (0 : Int32)), .val (.int (1 : Int32)), .val (.ref b52), .val (.ref la58), .unset, .unset, .unset] [(.ref b61), (.ref b61), (.ref b60), (.ref b60)])) _
        refine XS.bipush X71.here hx rfl (hb hby at_198) ?_
        show Steps p.tables e below (T71.setTop (mkF m 200 #[.val (.int p1), .val (.int p2), .val (.int p3), .val (.int r0), .val (.int r1), .val (.int d0), .val (.int d1), .val (.int (0 : Int32)), .val (.int (1 : Int32)), .val (.ref b52), .val (.ref la58), .unset, .unset, .unset] [(.int (10 : Int32)), (.ref b61), (.ref b61), (.ref b60), (.ref b60)])) _
        refine XS.iload X71.here hx rfl (hb hby at_200) rfl ?_
        show Steps p.tables e below (T71.setTop (mkF m 202 #[.val (.int p1), .val (.int p2), .val (.int p3), .val (.int r0), .val (.int r1), .val (.int d0), .val (.int d1), .val (.int (0 : Int32)), .val (.int (1 : Int32)), .val (.ref b52), .val (.ref la58), .unset, .unset, .unset] [(.int r1), (.int (10 : Int32)), (.ref b61), (.ref b61), (.ref b60), (.ref b60)])) _
        refine st72 _ ?_
        show Steps p.tables e below (T72.setTop (mkF m 203 #[.val (.int p1), .val (.int p2), .val (.int p3), .val (.int r0), .val (.int r1), .val (.int d0), .val (.int d1), .val (.int (0 : Int32)), .val (.int (1 : Int32)), .val (.ref b52), .val (.ref la58), .unset, .unset, .unset] [(.ref b61), (.ref b60), (.ref b60)])) _
        refine st74.trans ?_
        show Steps p.tables e below (T74.setTop (mkF m 206 #[.val (.int p1), .val (.int p2), .val (.int p3), .val (.int r0), .val (.int r1), .val (.int d0), .val (.int d1), .val (.int (0 : Int32)), .val (.int (1 : Int32)), .val (.ref b52), .val (.ref la58), .unset, .unset, .unset] [(.ref b60)])) _
        refine XS.astore X74.here hx rfl (hb hby at_206) rfl rfl (l' := #[.val (.int p1), .val (.int p2), .val (.int p3), .val (.int r0), .val (.int r1), .val (.int d0), .val (.int d1), .val (.int (0 : Int32)), .val (.int (1 : Int32)), .val (.ref b52), .val (.ref la58), .val (.ref b60), .unset, .unset]) rfl ?_
        show Steps p.tables e below (T74.setTop (mkF m 208 #[.val (.int p1), .val (.int p2), .val (.int p3), .val (.int r0), .val (.int r1), .val (.int d0), .val (.int d1), .val (.int (0 : Int32)), .val (.int (1 : Int32)), .val (.ref b52), .val (.ref la58), .val (.ref b60), .unset, .unset] [])) _
        refine st75 _ ?_
        show Steps p.tables e below (T75.setTop (mkF m 211 #[.val (.int p1), .val (.int p2), .val (.int p3), .val (.int r0), .val (.int r1), .val (.int d0), .val (.int d1), .val (.int (0 : Int32)), .val (.int (1 : Int32)), .val (.ref b52), .val (.ref la58), .val (.ref b60), .unset, .unset] [(.ref b75)])) _
        refine XS.dup X75.here hx rfl (hb hby at_211) rfl rfl ?_
        show Steps p.tables e below (T75.setTop (mkF m 212 #[.val (.int p1), .val (.int p2), .val (.int p3), .val (.int r0), .val (.int r1), .val (.int d0), .val (.int d1), .val (.int (0 : Int32)), .val (.int (1 : Int32)), .val (.ref b52), .val (.ref la58), .val (.ref b60), .unset, .unset] [(.ref b75), (.ref b75)])) _
        refine XS.aload X75.here hx rfl (hb hby at_212) rfl rfl ?_
        show Steps p.tables e below (T75.setTop (mkF m 214 #[.val (.int p1), .val (.int p2), .val (.int p3), .val (.int r0), .val (.int r1), .val (.int d0), .val (.int d1), .val (.int (0 : Int32)), .val (.int (1 : Int32)), .val (.ref b52), .val (.ref la58), .val (.ref b60), .unset, .unset] [(.ref b52), (.ref b75), (.ref b75)])) _
        refine XS.aload X75.here hx rfl (hb hby at_214) rfl rfl ?_
        show Steps p.tables e below (T75.setTop (mkF m 216 #[.val (.int p1), .val (.int p2), .val (.int p3), .val (.int r0), .val (.int r1), .val (.int d0), .val (.int d1), .val (.int (0 : Int32)), .val (.int (1 : Int32)), .val (.ref b52), .val (.ref la58), .val (.ref b60), .unset, .unset] [(.ref la58), (.ref b52), (.ref b75), (.ref b75)])) _
        refine st77.trans ?_
        show Steps p.tables e below (T77.setTop (mkF m 219 #[.val (.int p1), .val (.int p2), .val (.int p3), .val (.int r0), .val (.int r1), .val (.int d0), .val (.int d1), .val (.int (0 : Int32)), .val (.int (1 : Int32)), .val (.ref b52), .val (.ref la58), .val (.ref b60), .unset, .unset] [(.ref b75)])) _
        refine XS.astore X77.here hx rfl (hb hby at_219) rfl rfl (l' := #[.val (.int p1), .val (.int p2), .val (.int p3), .val (.int r0), .val (.int r1), .val (.int d0), .val (.int d1), .val (.int (0 : Int32)), .val (.int (1 : Int32)), .val (.ref b52), .val (.ref la58), .val (.ref b60), .val (.ref b75), .unset]) rfl ?_
        show Steps p.tables e below (T77.setTop (mkF m 221 #[.val (.int p1), .val (.int p2), .val (.int p3), .val (.int r0), .val (.int r1), .val (.int d0), .val (.int d1), .val (.int (0 : Int32)), .val (.int (1 : Int32)), .val (.ref b52), .val (.ref la58), .val (.ref b60), .val (.ref b75), .unset] [])) _
        refine XS.aload X77.here hx rfl (hb hby at_221) rfl rfl ?_
        show Steps p.tables e below (T77.setTop (mkF m 223 #[.val (.int p1), .val (.int p2), .val (.int p3), .val (.int r0), .val (.int r1), .val (.int d0), .val (.int d1), .val (.int (0 : Int32)), .val (.int (1 : Int32)), .val (.ref b52), .val (.ref la58), .val (.ref b60), .val (.ref b75), .unset] [(.ref b75)])) _
        exact k
      obtain ⟨cq79, kq79, q79a, q79b, q79c⟩ := isOf hZ rfl G77_0
      obtain ⟨_, _, ⟨T79, L79, k79, n79⟩, -, Xq79, hSq79, hgq79, ⟨Lc79, hQ79, l79, y79, z79, hRq79⟩, st79⟩ := Y78.virtualBackS hx (y := (⟨"com/example/tranche/tranche/terms/Refusal", "report", "()Ljava/util/List;"⟩ : MethodName)) (z := (⟨"com/example/tranche/tranche/terms/Refusal", "report", "()Ljava/util/List;"⟩ : MethodName)) hown (mvT hZ (hw _ (List.mem_of_getElem? (i := 89) rfl))) (mvT hZ (hw _ (List.mem_of_getElem? (i := 90) rfl))) (notFace_of_selects (args := #[]) (mvT hZ (hw _ (List.mem_of_getElem? (i := 92) rfl)))) (mvT hZ (hw _ (List.mem_of_getElem? (i := 92) rfl))) (mvT hZ (hw _ (List.mem_of_getElem? (i := 91) rfl))) (by decide) (backOfSH (W := 0) (rm12 l Z a0 hw [] b75 T77.heap n0 cs b52 la58 d'_57 k'_57 bs'_57 CS hcs O77 G77_0 G77_2 G77_1 E_la58_77 E_b52_77 F_b52_coder_77 F_b52_value_77 V_d__57_77 (by rw [eqs_57]; exact Nat.le_refl 2) Z77) hZ (hw _ (List.mem_of_getElem? (i := 93) rfl)) (hw _ (List.mem_of_getElem? (i := 35) rfl)) (by decide) (by decide) hEL R77.1) q79a q79c (g := (mkF m 223 #[.val (.int p1), .val (.int p2), .val (.int p3), .val (.int r0), .val (.int r1), .val (.int d0), .val (.int d1), .val (.int (0 : Int32)), .val (.int (1 : Int32)), .val (.ref b52), .val (.ref la58), .val (.ref b60), .val (.ref b75), .unset] [(.ref b75)])) rfl (by rw [hml]; rfl) (Steps.refl _) (argsL := []) (rest := []) (lenOf pd23 rfl) rfl (by show 2 * 0 + _ ≤ _; exact Nat.le_of_eq rfl) (hb hby at_223) (fun _ _ => ⟨rfl, rfl, (by decide : 10 + 7 ≤ _), (by decide : 2798 + 208 ≤ _)⟩)
      dsimp only [Pt.U, Pt.locs, Pt.cells, Pt.slots] at Xq79 hSq79 hgq79 l79 y79 z79 st79 hQ79 hRq79
      subst l79 y79 z79
      obtain ⟨X79, hS, hZ, hown⟩ := rebS hS (by rw [show T77.heap = T77.heap from rfl]; exact hk77) Xq79 hSq79 hgq79 hZ hown
      obtain ⟨r'_79, s'_79, d'_79, k'_79, bs'_79, rfl, N79q, Kc79, G79_0, G79_1, G79_2, G79_3, G79_4, G79_5, G79_6, eqb_79, f_r'_79, f_s'_79, f_d'_79⟩ := hQ79
      have N79 := Fr.app M78 N79q
      have ne_b52_r'_79 : b52 ≠ r'_79 := Nat.ne_of_lt (Nat.lt_of_lt_of_le E_b52_77.lt f_r'_79)
      have ne_b53_r'_79 : b53 ≠ r'_79 := Nat.ne_of_lt (Nat.lt_of_lt_of_le V_b53_77.lt f_r'_79)
      have ne_d__57_r'_79 : d'_57 ≠ r'_79 := Nat.ne_of_lt (Nat.lt_of_lt_of_le V_d__57_77.lt f_r'_79)
      have ne_la58_r'_79 : la58 ≠ r'_79 := Nat.ne_of_lt (Nat.lt_of_lt_of_le E_la58_77.lt f_r'_79)
      have ne_lb58_r'_79 : lb58 ≠ r'_79 := Nat.ne_of_lt (Nat.lt_of_lt_of_le V_lb58_77.lt f_r'_79)
      have ne_b60_r'_79 : b60 ≠ r'_79 := Nat.ne_of_lt (Nat.lt_of_lt_of_le E_b60_77.lt f_r'_79)
      have ne_b61_r'_79 : b61 ≠ r'_79 := Nat.ne_of_lt (Nat.lt_of_lt_of_le V_b61_77.lt f_r'_79)
      have ne_d__74_r'_79 : d'_74 ≠ r'_79 := Nat.ne_of_lt (Nat.lt_of_lt_of_le V_d__74_77.lt f_r'_79)
      have ne_b75_r'_79 : b75 ≠ r'_79 := Nat.ne_of_lt (Nat.lt_of_lt_of_le G77_0.lt f_r'_79)
      have g_r'_79 : n0 ≤ r'_79 := Nat.le_trans Z77 f_r'_79
      have sz_r'_79 : h0.size ≤ r'_79 := Nat.le_trans K77.1 f_r'_79
      have ne_b52_s'_79 : b52 ≠ s'_79 := Nat.ne_of_lt (Nat.lt_of_lt_of_le E_b52_77.lt f_s'_79)
      have ne_b53_s'_79 : b53 ≠ s'_79 := Nat.ne_of_lt (Nat.lt_of_lt_of_le V_b53_77.lt f_s'_79)
      have ne_d__57_s'_79 : d'_57 ≠ s'_79 := Nat.ne_of_lt (Nat.lt_of_lt_of_le V_d__57_77.lt f_s'_79)
      have ne_la58_s'_79 : la58 ≠ s'_79 := Nat.ne_of_lt (Nat.lt_of_lt_of_le E_la58_77.lt f_s'_79)
      have ne_lb58_s'_79 : lb58 ≠ s'_79 := Nat.ne_of_lt (Nat.lt_of_lt_of_le V_lb58_77.lt f_s'_79)
      have ne_b60_s'_79 : b60 ≠ s'_79 := Nat.ne_of_lt (Nat.lt_of_lt_of_le E_b60_77.lt f_s'_79)
      have ne_b61_s'_79 : b61 ≠ s'_79 := Nat.ne_of_lt (Nat.lt_of_lt_of_le V_b61_77.lt f_s'_79)
      have ne_d__74_s'_79 : d'_74 ≠ s'_79 := Nat.ne_of_lt (Nat.lt_of_lt_of_le V_d__74_77.lt f_s'_79)
      have ne_b75_s'_79 : b75 ≠ s'_79 := Nat.ne_of_lt (Nat.lt_of_lt_of_le G77_0.lt f_s'_79)
      have g_s'_79 : n0 ≤ s'_79 := Nat.le_trans Z77 f_s'_79
      have sz_s'_79 : h0.size ≤ s'_79 := Nat.le_trans K77.1 f_s'_79
      have ne_b52_d'_79 : b52 ≠ d'_79 := Nat.ne_of_lt (Nat.lt_of_lt_of_le E_b52_77.lt f_d'_79)
      have ne_b53_d'_79 : b53 ≠ d'_79 := Nat.ne_of_lt (Nat.lt_of_lt_of_le V_b53_77.lt f_d'_79)
      have ne_d__57_d'_79 : d'_57 ≠ d'_79 := Nat.ne_of_lt (Nat.lt_of_lt_of_le V_d__57_77.lt f_d'_79)
      have ne_la58_d'_79 : la58 ≠ d'_79 := Nat.ne_of_lt (Nat.lt_of_lt_of_le E_la58_77.lt f_d'_79)
      have ne_lb58_d'_79 : lb58 ≠ d'_79 := Nat.ne_of_lt (Nat.lt_of_lt_of_le V_lb58_77.lt f_d'_79)
      have ne_b60_d'_79 : b60 ≠ d'_79 := Nat.ne_of_lt (Nat.lt_of_lt_of_le E_b60_77.lt f_d'_79)
      have ne_b61_d'_79 : b61 ≠ d'_79 := Nat.ne_of_lt (Nat.lt_of_lt_of_le V_b61_77.lt f_d'_79)
      have ne_d__74_d'_79 : d'_74 ≠ d'_79 := Nat.ne_of_lt (Nat.lt_of_lt_of_le V_d__74_77.lt f_d'_79)
      have ne_b75_d'_79 : b75 ≠ d'_79 := Nat.ne_of_lt (Nat.lt_of_lt_of_le G77_0.lt f_d'_79)
      have g_d'_79 : n0 ≤ d'_79 := Nat.le_trans Z77 f_d'_79
      have sz_d'_79 : h0.size ≤ d'_79 := Nat.le_trans K77.1 f_d'_79
      have E_b52_79 := E_b52_77.keep Kc79
      have F_b52_coder_79 := F_b52_coder_77.keep Kc79 nin0
      have F_b52_value_79 := F_b52_value_77.keep Kc79 nin0
      have V_b53_79 := V_b53_77.keep Kc79 nin0
      have V_d__57_79 := V_d__57_77.keep Kc79 nin0
      have E_la58_79 := E_la58_77.keep Kc79
      have F_la58_coder_79 := F_la58_coder_77.keep Kc79 nin0
      have F_la58_value_79 := F_la58_value_77.keep Kc79 nin0
      have V_lb58_79 := V_lb58_77.keep Kc79 nin0
      have E_b60_79 := E_b60_77.keep Kc79
      have F_b60_coder_79 := F_b60_coder_77.keep Kc79 nin0
      have F_b60_value_79 := F_b60_value_77.keep Kc79 nin0
      have V_b61_79 := V_b61_77.keep Kc79 nin0
      have V_d__74_79 := V_d__74_77.keep Kc79 nin0
      have E_b75_79 := G77_0.keep Kc79
      have F_b75_detailMessage_79 := G77_1.keep Kc79 nin0
      have F_b75_reason_79 := G77_2.keep Kc79 nin0
      have K79 : Keep h0 T79.heap [] := K77.trans Kc79 all0
      have Z79 : n0 ≤ T79.heap.size := Nat.le_trans Z77 Kc79.1
      have O79 := Old.keep O77 Kc79 all0
      have r79 := hRq79
      have R79 := R77.trans r79
      have hk79 := Nat.le_trans hk77 Kc79.1
      have hkw79 : T79.heap.size ≤ T79.heap.size := Nat.le_refl _
      obtain ⟨lg81, Y81, M81⟩ := stand_gen X79 N79
      obtain ⟨cq82, kq82, q82a, q82b, q82c⟩ := isOf hZ rfl G79_0
      obtain ⟨_, _, ⟨T82, L82, k82, n82⟩, -, X82, ⟨Lc82, hQ82, l82, y82, z82⟩, st82⟩ := Y81.interfaceBack hx (xi := (⟨"java/util/List", "size", "()I"⟩ : MethodName)) (y := (⟨"java/util/ImmutableCollections$List12", "size", "()I"⟩ : MethodName)) hown (mvT hZ (hw _ (List.mem_of_getElem? (i := 249) rfl))) (mvT hZ (hw _ (List.mem_of_getElem? (i := 250) rfl))) (mvT hZ (hw _ (List.mem_of_getElem? (i := 251) rfl))) (mvT hZ (hw _ (List.mem_of_getElem? (i := 252) rfl))) (mvT hZ (hw _ (List.mem_of_getElem? (i := 253) rfl))) (mvT hZ (hw _ (List.mem_of_getElem? (i := 254) rfl))) (mvT hZ (hw _ (List.mem_of_getElem? (i := 255) rfl))) (mvT hZ (hw _ (List.mem_of_getElem? (i := 256) rfl))) (by decide) (backOf (W := 0) (rm41 l Z a0 hw [] r'_79 T79.heap n0 em s'_79 la58 EM E_em O79 E_la58_79 G79_1 G79_2) hZ (hw _ (List.mem_of_getElem? (i := 257) rfl)) (hw _ (List.mem_of_getElem? (i := 217) rfl)) (by decide) (by decide)) q82a q82b q82c (g := (mkF m 230 #[.val (.int p1), .val (.int p2), .val (.int p3), .val (.int r0), .val (.int r1), .val (.int d0), .val (.int d1), .val (.int (0 : Int32)), .val (.int (1 : Int32)), .val (.ref b52), .val (.ref la58), .val (.ref b60), .val (.ref b75), .val (.ref r'_79)] [(.ref r'_79)])) rfl (by rw [hml]; rfl) (Steps.refl _) (argsL := []) (rest := []) (lenOf pd3 rfl) rfl (by show 2 * 0 + _ ≤ _; exact Nat.le_of_eq rfl) (hb hby at_230) (fun _ _ => ⟨rfl, rfl, (by decide : 17 + 0 ≤ _), (by decide : 3006 + 0 ≤ _)⟩)
      dsimp only [Pt.U, Pt.locs, Pt.cells, Pt.slots] at X82 l82 y82 z82 st82 hQ82
      subst l82 y82 z82
      obtain ⟨rfl, N82q, e82⟩ := hQ82
      have N82 := Fr.app M81 N82q
      obtain ⟨lg83, Y83, M83⟩ := stand_gen X82 N82
      obtain ⟨cq84, kq84, q84a, q84b, q84c⟩ := isOf hZ e82 G79_0
      obtain ⟨_, _, ⟨T84, L84, k84, n84⟩, -, X84, ⟨Lc84, hQ84, l84, y84, z84⟩, st84⟩ := Y83.interfaceBack hx (xi := (⟨"java/util/List", "get", "(I)Ljava/lang/Object;"⟩ : MethodName)) (y := (⟨"java/util/ImmutableCollections$List12", "get", "(I)Ljava/lang/Object;"⟩ : MethodName)) hown (mvT hZ (hw _ (List.mem_of_getElem? (i := 260) rfl))) (mvT hZ (hw _ (List.mem_of_getElem? (i := 261) rfl))) (mvT hZ (hw _ (List.mem_of_getElem? (i := 262) rfl))) (mvT hZ (hw _ (List.mem_of_getElem? (i := 263) rfl))) (mvT hZ (hw _ (List.mem_of_getElem? (i := 264) rfl))) (mvT hZ (hw _ (List.mem_of_getElem? (i := 265) rfl))) (mvT hZ (hw _ (List.mem_of_getElem? (i := 266) rfl))) (mvT hZ (hw _ (List.mem_of_getElem? (i := 256) rfl))) (by decide) (backOf (W := 1) (rm42 l Z a0 hw [] r'_79 T79.heap n0 em s'_79 la58 EM E_em O79 E_la58_79 G79_1 G79_2) hZ (hw _ (List.mem_of_getElem? (i := 267) rfl)) (hw _ (List.mem_of_getElem? (i := 217) rfl)) (by decide) (by decide)) q84a q84b q84c (g := (mkF m 246 #[.val (.int p1), .val (.int p2), .val (.int p3), .val (.int r0), .val (.int r1), .val (.int d0), .val (.int d1), .val (.int (0 : Int32)), .val (.int (1 : Int32)), .val (.ref b52), .val (.ref la58), .val (.ref b60), .val (.ref b75), .val (.ref r'_79)] [(.int (0 : Int32)), (.ref r'_79), (.ref b60)])) rfl (by rw [hml]; rfl) (Steps.refl _) (argsL := [(.int (0 : Int32))]) (rest := [(.ref b60)]) (lenOf pd24 rfl) rfl (by show 2 * 0 + _ ≤ _; exact Nat.le_of_eq rfl) (hb hby at_246) (fun _ _ => ⟨rfl, e82, (by decide : 17 + 0 ≤ _), (by decide : 3006 + 0 ≤ _)⟩)
      dsimp only [Pt.U, Pt.locs, Pt.cells, Pt.slots] at X84 l84 y84 z84 st84 hQ84
      subst l84 y84 z84
      obtain ⟨rfl, N84q, e84⟩ := hQ84
      have N84 := Fr.app M83 N84q
      obtain ⟨lg85, Y85, M85⟩ := stand_gen X84 N84
      obtain ⟨cq86, kq86, q86a, q86b, q86c⟩ := isOf hZ e84 E_b60_79
      obtain ⟨_, _, ⟨T86, L86, k86, n86⟩, -, X86, ⟨Lc86, hQ86, l86, y86, z86⟩, st86⟩ := Y85.virtualBack hx (y := (⟨"java/lang/String", "equals", "(Ljava/lang/Object;)Z"⟩ : MethodName)) (z := (⟨"java/lang/String", "equals", "(Ljava/lang/Object;)Z"⟩ : MethodName)) hown (mvT hZ (hw _ (List.mem_of_getElem? (i := 268) rfl))) (mvT hZ (hw _ (List.mem_of_getElem? (i := 269) rfl))) (notFace_of_selects (args := #[]) (mvT hZ (hw _ (List.mem_of_getElem? (i := 271) rfl)))) (mvT hZ (hw _ (List.mem_of_getElem? (i := 271) rfl))) (mvT hZ (hw _ (List.mem_of_getElem? (i := 270) rfl))) (by decide) (payEq (h := T79.heap) (W := 0) (cs := ([(nar .char (114 : Int32)), (nar .char (101 : Int32)), (nar .char (102 : Int32)), (nar .char (117 : Int32)), (nar .char (115 : Int32)), (nar .char (101 : Int32)), (nar .char (100 : Int32)), (nar .char (58 : Int32)), (nar .char (32 : Int32)), (nar .char r0), (nar .char r1)] : List Int32)) (n0 := n0) hZ hw E_b60_79 F_b60_coder_79 F_b60_value_79 V_d__74_79 G79_3 G79_4 G79_5 G79_6 eqs_74 (by rw [eqb_79, eqs_57, litR_low]; exact List.map_append.symm) (chS ch_114 (chS ch_101 (chS ch_102 (chS ch_117 (chS ch_115 (chS ch_101 (chS ch_100 (chS ch_58 (chS ch_32 (chS b_r0 (chS b_r1 ch0))))))))))) (Nat.le_of_ble_eq_true rfl) (CS.ext O79.2) hcs (by decide) (by decide)) q86a q86c (g := (mkF m 251 #[.val (.int p1), .val (.int p2), .val (.int p3), .val (.int r0), .val (.int r1), .val (.int d0), .val (.int d1), .val (.int (0 : Int32)), .val (.int (1 : Int32)), .val (.ref b52), .val (.ref la58), .val (.ref b60), .val (.ref b75), .val (.ref r'_79)] [(.ref s'_79), (.ref b60)])) rfl (by rw [hml]; rfl) (Steps.refl _) (argsL := [(.ref s'_79)]) (rest := []) (lenOf pd25 rfl) rfl (by show 2 * 0 + _ ≤ _; exact Nat.le_of_eq rfl) (hb hby at_251) (fun _ _ => ⟨rfl, e84, (by decide : 17 + 0 ≤ _), (by decide : 3006 + 0 ≤ _)⟩)
      dsimp only [Pt.U, Pt.locs, Pt.cells, Pt.slots] at X86 l86 y86 z86 st86 hQ86
      subst l86 y86 z86
      obtain ⟨rfl, N86q, e86⟩ := hQ86
      have N86 := Fr.app M85 N86q
      obtain ⟨lg87, Y87, M87⟩ := stand_gen X86 N86
      obtain ⟨cq88, kq88, q88a, q88b, q88c⟩ := isOf hZ e86 G79_0
      obtain ⟨_, _, ⟨T88, L88, k88, n88⟩, -, X88, ⟨Lc88, hQ88, l88, y88, z88⟩, st88⟩ := Y87.interfaceBack hx (xi := (⟨"java/util/List", "get", "(I)Ljava/lang/Object;"⟩ : MethodName)) (y := (⟨"java/util/ImmutableCollections$List12", "get", "(I)Ljava/lang/Object;"⟩ : MethodName)) hown (mvT hZ (hw _ (List.mem_of_getElem? (i := 260) rfl))) (mvT hZ (hw _ (List.mem_of_getElem? (i := 261) rfl))) (mvT hZ (hw _ (List.mem_of_getElem? (i := 262) rfl))) (mvT hZ (hw _ (List.mem_of_getElem? (i := 263) rfl))) (mvT hZ (hw _ (List.mem_of_getElem? (i := 264) rfl))) (mvT hZ (hw _ (List.mem_of_getElem? (i := 265) rfl))) (mvT hZ (hw _ (List.mem_of_getElem? (i := 266) rfl))) (mvT hZ (hw _ (List.mem_of_getElem? (i := 256) rfl))) (by decide) (backOf (W := 1) (rm42b l Z a0 hw [] r'_79 T79.heap n0 em s'_79 la58 EM E_em O79 E_la58_79 G79_1 G79_2) hZ (hw _ (List.mem_of_getElem? (i := 267) rfl)) (hw _ (List.mem_of_getElem? (i := 217) rfl)) (by decide) (by decide)) q88a q88b q88c (g := (mkF m 262 #[.val (.int p1), .val (.int p2), .val (.int p3), .val (.int r0), .val (.int r1), .val (.int d0), .val (.int d1), .val (.int (0 : Int32)), .val (.int (1 : Int32)), .val (.ref b52), .val (.ref la58), .val (.ref b60), .val (.ref b75), .val (.ref r'_79)] [(.int (1 : Int32)), (.ref r'_79), (.ref la58)])) rfl (by rw [hml]; rfl) (Steps.refl _) (argsL := [(.int (1 : Int32))]) (rest := [(.ref la58)]) (lenOf pd24 rfl) rfl (by show 2 * 0 + _ ≤ _; exact Nat.le_of_eq rfl) (hb hby at_262) (fun _ _ => ⟨rfl, e86, (by decide : 17 + 0 ≤ _), (by decide : 3006 + 0 ≤ _)⟩)
      dsimp only [Pt.U, Pt.locs, Pt.cells, Pt.slots] at X88 l88 y88 z88 st88 hQ88
      subst l88 y88 z88
      obtain ⟨rfl, N88q, e88⟩ := hQ88
      have N88 := Fr.app M87 N88q
      obtain ⟨lg89, Y89, M89⟩ := stand_gen X88 N88
      obtain ⟨cq90, kq90, q90a, q90b, q90c⟩ := isOf hZ e88 E_la58_79
      obtain ⟨_, _, ⟨T90, L90, k90, n90⟩, -, X90, ⟨Lc90, hQ90, l90, y90, z90⟩, st90⟩ := Y89.virtualBack hx (y := (⟨"java/lang/String", "equals", "(Ljava/lang/Object;)Z"⟩ : MethodName)) (z := (⟨"java/lang/String", "equals", "(Ljava/lang/Object;)Z"⟩ : MethodName)) hown (mvT hZ (hw _ (List.mem_of_getElem? (i := 268) rfl))) (mvT hZ (hw _ (List.mem_of_getElem? (i := 269) rfl))) (notFace_of_selects (args := #[]) (mvT hZ (hw _ (List.mem_of_getElem? (i := 271) rfl)))) (mvT hZ (hw _ (List.mem_of_getElem? (i := 271) rfl))) (mvT hZ (hw _ (List.mem_of_getElem? (i := 270) rfl))) (by decide) (payEq (h := T79.heap) (W := 0) (cs := litE) (n0 := n0) hZ hw E_la58_79 F_la58_coder_79 F_la58_value_79 V_lb58_79 E_la58_79 F_la58_coder_79 F_la58_value_79 V_lb58_79 rfl rfl (by decide) (Nat.le_of_ble_eq_true rfl) (CS.ext O79.2) hcs (by decide) (by decide)) q90a q90c (g := (mkF m 267 #[.val (.int p1), .val (.int p2), .val (.int p3), .val (.int r0), .val (.int r1), .val (.int d0), .val (.int d1), .val (.int (0 : Int32)), .val (.int (1 : Int32)), .val (.ref b52), .val (.ref la58), .val (.ref b60), .val (.ref b75), .val (.ref r'_79)] [(.ref la58), (.ref la58)])) rfl (by rw [hml]; rfl) (Steps.refl _) (argsL := [(.ref la58)]) (rest := []) (lenOf pd25 rfl) rfl (by show 2 * 0 + _ ≤ _; exact Nat.le_of_eq rfl) (hb hby at_267) (fun _ _ => ⟨rfl, e88, (by decide : 17 + 0 ≤ _), (by decide : 3006 + 0 ≤ _)⟩)
      dsimp only [Pt.U, Pt.locs, Pt.cells, Pt.slots] at X90 l90 y90 z90 st90 hQ90
      subst l90 y90 z90
      obtain ⟨rfl, N90q, e90⟩ := hQ90
      have N90 := Fr.app M89 N90q
      refine hneg ?_
      have hR := R79.trans (CHv.at X90 hZ hEL R79.1)
      obtain ⟨fs, hr, hrun, hended, hW⟩ := X90.leaveW (v := some (.int (1 : Int32))) hS (by rw [show T90.heap = T79.heap from e90]; exact hkw79) (fun h => by rw [Bd.returns] at h; cases h)
      refine ⟨_, _, pre80 _ ?_, hrun, hended, _, _, rfl, ?_, ?_, rew_mono hW (by decide) (by decide)⟩
      · refine st79.trans ?_
        show Steps p.tables e below (T79.setTop (mkF m 226 #[.val (.int p1), .val (.int p2), .val (.int p3), .val (.int r0), .val (.int r1), .val (.int d0), .val (.int d1), .val (.int (0 : Int32)), .val (.int (1 : Int32)), .val (.ref b52), .val (.ref la58), .val (.ref b60), .val (.ref b75), .unset] [(.ref r'_79)])) _
        refine XS.astore X79.here hx rfl (hb hby at_226) rfl rfl (l' := #[.val (.int p1), .val (.int p2), .val (.int p3), .val (.int r0), .val (.int r1), .val (.int d0), .val (.int d1), .val (.int (0 : Int32)), .val (.int (1 : Int32)), .val (.ref b52), .val (.ref la58), .val (.ref b60), .val (.ref b75), .val (.ref r'_79)]) rfl ?_
        show Steps p.tables e below (T79.setTop (mkF m 228 #[.val (.int p1), .val (.int p2), .val (.int p3), .val (.int r0), .val (.int r1), .val (.int d0), .val (.int d1), .val (.int (0 : Int32)), .val (.int (1 : Int32)), .val (.ref b52), .val (.ref la58), .val (.ref b60), .val (.ref b75), .val (.ref r'_79)] [])) _
        refine XS.aload X79.here hx rfl (hb hby at_228) rfl rfl ?_
        show Steps p.tables e below (T79.setTop (mkF m 230 #[.val (.int p1), .val (.int p2), .val (.int p3), .val (.int r0), .val (.int r1), .val (.int d0), .val (.int d1), .val (.int (0 : Int32)), .val (.int (1 : Int32)), .val (.ref b52), .val (.ref la58), .val (.ref b60), .val (.ref b75), .val (.ref r'_79)] [(.ref r'_79)])) _
        refine st82.trans ?_
        show Steps p.tables e below (T82.setTop (mkF m 235 #[.val (.int p1), .val (.int p2), .val (.int p3), .val (.int r0), .val (.int r1), .val (.int d0), .val (.int d1), .val (.int (0 : Int32)), .val (.int (1 : Int32)), .val (.ref b52), .val (.ref la58), .val (.ref b60), .val (.ref b75), .val (.ref r'_79)] [(.int (2 : Int32))])) _
        refine XS.iconst X82.here hx rfl (hb hby at_235) ?_
        show Steps p.tables e below (T82.setTop (mkF m 236 #[.val (.int p1), .val (.int p2), .val (.int p3), .val (.int r0), .val (.int r1), .val (.int d0), .val (.int d1), .val (.int (0 : Int32)), .val (.int (1 : Int32)), .val (.ref b52), .val (.ref la58), .val (.ref b60), .val (.ref b75), .val (.ref r'_79)] [(.int (2 : Int32)), (.int (2 : Int32))])) _
        refine XS.icmpYes X82.here hx rfl (pc0 := 236) (pc' := 241) rfl (hb hby at_236) rfl (teq (by decide : (2 : Int32) = (2 : Int32))).1 (by decide) (by decide) ?_
        show Steps p.tables e below (T82.setTop (mkF m 241 #[.val (.int p1), .val (.int p2), .val (.int p3), .val (.int r0), .val (.int r1), .val (.int d0), .val (.int d1), .val (.int (0 : Int32)), .val (.int (1 : Int32)), .val (.ref b52), .val (.ref la58), .val (.ref b60), .val (.ref b75), .val (.ref r'_79)] [])) _
        refine XS.aload X82.here hx rfl (hb hby at_241) rfl rfl ?_
        show Steps p.tables e below (T82.setTop (mkF m 243 #[.val (.int p1), .val (.int p2), .val (.int p3), .val (.int r0), .val (.int r1), .val (.int d0), .val (.int d1), .val (.int (0 : Int32)), .val (.int (1 : Int32)), .val (.ref b52), .val (.ref la58), .val (.ref b60), .val (.ref b75), .val (.ref r'_79)] [(.ref b60)])) _
        refine XS.aload X82.here hx rfl (hb hby at_243) rfl rfl ?_
        show Steps p.tables e below (T82.setTop (mkF m 245 #[.val (.int p1), .val (.int p2), .val (.int p3), .val (.int r0), .val (.int r1), .val (.int d0), .val (.int d1), .val (.int (0 : Int32)), .val (.int (1 : Int32)), .val (.ref b52), .val (.ref la58), .val (.ref b60), .val (.ref b75), .val (.ref r'_79)] [(.ref r'_79), (.ref b60)])) _
        refine XS.iconst X82.here hx rfl (hb hby at_245) ?_
        show Steps p.tables e below (T82.setTop (mkF m 246 #[.val (.int p1), .val (.int p2), .val (.int p3), .val (.int r0), .val (.int r1), .val (.int d0), .val (.int d1), .val (.int (0 : Int32)), .val (.int (1 : Int32)), .val (.ref b52), .val (.ref la58), .val (.ref b60), .val (.ref b75), .val (.ref r'_79)] [(.int (0 : Int32)), (.ref r'_79), (.ref b60)])) _
        refine st84.trans ?_
        show Steps p.tables e below (T84.setTop (mkF m 251 #[.val (.int p1), .val (.int p2), .val (.int p3), .val (.int r0), .val (.int r1), .val (.int d0), .val (.int d1), .val (.int (0 : Int32)), .val (.int (1 : Int32)), .val (.ref b52), .val (.ref la58), .val (.ref b60), .val (.ref b75), .val (.ref r'_79)] [(.ref s'_79), (.ref b60)])) _
        refine st86.trans ?_
        show Steps p.tables e below (T86.setTop (mkF m 254 #[.val (.int p1), .val (.int p2), .val (.int p3), .val (.int r0), .val (.int r1), .val (.int d0), .val (.int d1), .val (.int (0 : Int32)), .val (.int (1 : Int32)), .val (.ref b52), .val (.ref la58), .val (.ref b60), .val (.ref b75), .val (.ref r'_79)] [(.int (1 : Int32))])) _
        refine XS.ifNo X86.here hx rfl (hb hby at_254) rfl ((if0 _ _).trans (feq (by decide : ¬ ((1 : Int32) = (0 : Int32)))).1) ?_
        show Steps p.tables e below (T86.setTop (mkF m 257 #[.val (.int p1), .val (.int p2), .val (.int p3), .val (.int r0), .val (.int r1), .val (.int d0), .val (.int d1), .val (.int (0 : Int32)), .val (.int (1 : Int32)), .val (.ref b52), .val (.ref la58), .val (.ref b60), .val (.ref b75), .val (.ref r'_79)] [])) _
        refine XS.aload X86.here hx rfl (hb hby at_257) rfl rfl ?_
        show Steps p.tables e below (T86.setTop (mkF m 259 #[.val (.int p1), .val (.int p2), .val (.int p3), .val (.int r0), .val (.int r1), .val (.int d0), .val (.int d1), .val (.int (0 : Int32)), .val (.int (1 : Int32)), .val (.ref b52), .val (.ref la58), .val (.ref b60), .val (.ref b75), .val (.ref r'_79)] [(.ref la58)])) _
        refine XS.aload X86.here hx rfl (hb hby at_259) rfl rfl ?_
        show Steps p.tables e below (T86.setTop (mkF m 261 #[.val (.int p1), .val (.int p2), .val (.int p3), .val (.int r0), .val (.int r1), .val (.int d0), .val (.int d1), .val (.int (0 : Int32)), .val (.int (1 : Int32)), .val (.ref b52), .val (.ref la58), .val (.ref b60), .val (.ref b75), .val (.ref r'_79)] [(.ref r'_79), (.ref la58)])) _
        refine XS.iconst X86.here hx rfl (hb hby at_261) ?_
        show Steps p.tables e below (T86.setTop (mkF m 262 #[.val (.int p1), .val (.int p2), .val (.int p3), .val (.int r0), .val (.int r1), .val (.int d0), .val (.int d1), .val (.int (0 : Int32)), .val (.int (1 : Int32)), .val (.ref b52), .val (.ref la58), .val (.ref b60), .val (.ref b75), .val (.ref r'_79)] [(.int (1 : Int32)), (.ref r'_79), (.ref la58)])) _
        refine st88.trans ?_
        show Steps p.tables e below (T88.setTop (mkF m 267 #[.val (.int p1), .val (.int p2), .val (.int p3), .val (.int r0), .val (.int r1), .val (.int d0), .val (.int d1), .val (.int (0 : Int32)), .val (.int (1 : Int32)), .val (.ref b52), .val (.ref la58), .val (.ref b60), .val (.ref b75), .val (.ref r'_79)] [(.ref la58), (.ref la58)])) _
        refine st90.trans ?_
        show Steps p.tables e below (T90.setTop (mkF m 270 #[.val (.int p1), .val (.int p2), .val (.int p3), .val (.int r0), .val (.int r1), .val (.int d0), .val (.int d1), .val (.int (0 : Int32)), .val (.int (1 : Int32)), .val (.ref b52), .val (.ref la58), .val (.ref b60), .val (.ref b75), .val (.ref r'_79)] [(.int (1 : Int32))])) _
        refine XS.ifNo X90.here hx rfl (hb hby at_270) rfl ((if0 _ _).trans (feq (by decide : ¬ ((1 : Int32) = (0 : Int32)))).1) ?_
        show Steps p.tables e below (T90.setTop (mkF m 273 #[.val (.int p1), .val (.int p2), .val (.int p3), .val (.int r0), .val (.int r1), .val (.int d0), .val (.int d1), .val (.int (0 : Int32)), .val (.int (1 : Int32)), .val (.ref b52), .val (.ref la58), .val (.ref b60), .val (.ref b75), .val (.ref r'_79)] [])) _
        refine XS.iconst X90.here hx rfl (hb hby at_273) ?_
        show Steps p.tables e below (T90.setTop (mkF m 274 #[.val (.int p1), .val (.int p2), .val (.int p3), .val (.int r0), .val (.int r1), .val (.int d0), .val (.int d1), .val (.int (0 : Int32)), .val (.int (1 : Int32)), .val (.ref b52), .val (.ref la58), .val (.ref b60), .val (.ref b75), .val (.ref r'_79)] [(.int (1 : Int32))])) _
        refine XS.goto X90.here hx rfl (pc0 := 274) (pc' := 278) rfl (hb hby at_274) (by decide) (by decide) ?_
        show Steps p.tables e below (T90.setTop (mkF m 278 #[.val (.int p1), .val (.int p2), .val (.int p3), .val (.int r0), .val (.int r1), .val (.int d0), .val (.int d1), .val (.int (0 : Int32)), .val (.int (1 : Int32)), .val (.ref b52), .val (.ref la58), .val (.ref b60), .val (.ref b75), .val (.ref r'_79)] [(.int (1 : Int32))])) _
        exact retN X90 hx (t := .boolean) Bd.returns (by simp) (hb hby at_278) hr
      · show Q0 Z p1 p2 p3 cs ua us em h0 n0 _ T90.heap _
        rw [e90]
        exact ⟨rfl, N90⟩
      · show CHr Z consts_1 s.vm s.heap T90.vm T90.heap
        rw [hh, show T90.heap = T79.heap from e90]; exact hR
  · have pre91 : ∀ t, Steps p.tables e below (s₁.setTop (mkF m 53 #[.val (.int p1), .val (.int p2), .val (.int p3), .val (.int r0), .val (.int r1), .val (.int d0), .val (.int d1), .val (.int (1 : Int32)), .unset, .unset, .unset, .unset, .unset, .unset] [(.int (p3 &&& (2 : Int32)))])) t → Steps p.tables e below (s₁.setTop (entryFrame m #[(.int p1), (.int p2), (.int p3)] maxLocals)) t := by
      intro t k
      refine pre5 t ?_
      show Steps p.tables e below (s₁.setTop (mkF m 40 #[.val (.int p1), .val (.int p2), .val (.int p3), .val (.int r0), .val (.int r1), .val (.int d0), .val (.int d1), .unset, .unset, .unset, .unset, .unset, .unset, .unset] [(.int (p3 &&& (1 : Int32)))])) _
      refine XS.ifNo X0.here hx rfl (hb hby at_40) rfl ((if0 _ _).trans (feq hc40_6).1) ?_
      show Steps p.tables e below (s₁.setTop (mkF m 43 #[.val (.int p1), .val (.int p2), .val (.int p3), .val (.int r0), .val (.int r1), .val (.int d0), .val (.int d1), .unset, .unset, .unset, .unset, .unset, .unset, .unset] [])) _
      refine XS.iconst X0.here hx rfl (hb hby at_43) ?_
      show Steps p.tables e below (s₁.setTop (mkF m 44 #[.val (.int p1), .val (.int p2), .val (.int p3), .val (.int r0), .val (.int r1), .val (.int d0), .val (.int d1), .unset, .unset, .unset, .unset, .unset, .unset, .unset] [(.int (1 : Int32))])) _
      refine XS.goto X0.here hx rfl (pc0 := 44) (pc' := 48) rfl (hb hby at_44) (by decide) (by decide) ?_
      show Steps p.tables e below (s₁.setTop (mkF m 48 #[.val (.int p1), .val (.int p2), .val (.int p3), .val (.int r0), .val (.int r1), .val (.int d0), .val (.int d1), .unset, .unset, .unset, .unset, .unset, .unset, .unset] [(.int (1 : Int32))])) _
      refine XS.istore X0.here hx rfl (hb hby at_48) rfl (l' := #[.val (.int p1), .val (.int p2), .val (.int p3), .val (.int r0), .val (.int r1), .val (.int d0), .val (.int d1), .val (.int (1 : Int32)), .unset, .unset, .unset, .unset, .unset, .unset]) rfl ?_
      show Steps p.tables e below (s₁.setTop (mkF m 50 #[.val (.int p1), .val (.int p2), .val (.int p3), .val (.int r0), .val (.int r1), .val (.int d0), .val (.int d1), .val (.int (1 : Int32)), .unset, .unset, .unset, .unset, .unset, .unset] [])) _
      refine XS.iloadN X0.here hx rfl (hb hby at_50) rfl ?_
      show Steps p.tables e below (s₁.setTop (mkF m 51 #[.val (.int p1), .val (.int p2), .val (.int p3), .val (.int r0), .val (.int r1), .val (.int d0), .val (.int d1), .val (.int (1 : Int32)), .unset, .unset, .unset, .unset, .unset, .unset] [(.int p3)])) _
      refine XS.iconst X0.here hx rfl (hb hby at_51) ?_
      show Steps p.tables e below (s₁.setTop (mkF m 52 #[.val (.int p1), .val (.int p2), .val (.int p3), .val (.int r0), .val (.int r1), .val (.int d0), .val (.int d1), .val (.int (1 : Int32)), .unset, .unset, .unset, .unset, .unset, .unset] [(.int (2 : Int32)), (.int p3)])) _
      refine XS.iand X0.here hx rfl (hb hby at_52) rfl ?_
      exact k
    by_cases hc53_92 : (p3 &&& (2 : Int32)) = (0 : Int32)
    · have pre94 : ∀ t, Steps p.tables e below (s₁.setTop (mkF m 68 #[.val (.int p1), .val (.int p2), .val (.int p3), .val (.int r0), .val (.int r1), .val (.int d0), .val (.int d1), .val (.int (1 : Int32)), .val (.int (0 : Int32)), .unset, .unset, .unset, .unset, .unset] [])) t → Steps p.tables e below (s₁.setTop (entryFrame m #[(.int p1), (.int p2), (.int p3)] maxLocals)) t := by
        intro t k
        refine pre91 t ?_
        show Steps p.tables e below (s₁.setTop (mkF m 53 #[.val (.int p1), .val (.int p2), .val (.int p3), .val (.int r0), .val (.int r1), .val (.int d0), .val (.int d1), .val (.int (1 : Int32)), .unset, .unset, .unset, .unset, .unset, .unset] [(.int (p3 &&& (2 : Int32)))])) _
        refine XS.ifYes X0.here hx rfl (pc0 := 53) (pc' := 60) rfl (hb hby at_53) rfl ((if0 _ _).trans (teq hc53_92).1) (by decide) (by decide) ?_
        show Steps p.tables e below (s₁.setTop (mkF m 60 #[.val (.int p1), .val (.int p2), .val (.int p3), .val (.int r0), .val (.int r1), .val (.int d0), .val (.int d1), .val (.int (1 : Int32)), .unset, .unset, .unset, .unset, .unset, .unset] [])) _
        refine XS.iconst X0.here hx rfl (hb hby at_60) ?_
        show Steps p.tables e below (s₁.setTop (mkF m 61 #[.val (.int p1), .val (.int p2), .val (.int p3), .val (.int r0), .val (.int r1), .val (.int d0), .val (.int d1), .val (.int (1 : Int32)), .unset, .unset, .unset, .unset, .unset, .unset] [(.int (0 : Int32))])) _
        refine XS.istore X0.here hx rfl (hb hby at_61) rfl (l' := #[.val (.int p1), .val (.int p2), .val (.int p3), .val (.int r0), .val (.int r1), .val (.int d0), .val (.int d1), .val (.int (1 : Int32)), .val (.int (0 : Int32)), .unset, .unset, .unset, .unset, .unset]) rfl ?_
        show Steps p.tables e below (s₁.setTop (mkF m 63 #[.val (.int p1), .val (.int p2), .val (.int p3), .val (.int r0), .val (.int r1), .val (.int d0), .val (.int d1), .val (.int (1 : Int32)), .val (.int (0 : Int32)), .unset, .unset, .unset, .unset, .unset] [])) _
        refine XS.iload X0.here hx rfl (hb hby at_63) rfl ?_
        show Steps p.tables e below (s₁.setTop (mkF m 65 #[.val (.int p1), .val (.int p2), .val (.int p3), .val (.int r0), .val (.int r1), .val (.int d0), .val (.int d1), .val (.int (1 : Int32)), .val (.int (0 : Int32)), .unset, .unset, .unset, .unset, .unset] [(.int (1 : Int32))])) _
        refine XS.ifNo X0.here hx rfl (hb hby at_65) rfl ((if0 _ _).trans (feq (by decide : ¬ ((1 : Int32) = (0 : Int32)))).1) ?_
        exact k
      obtain ⟨la93, T93, h93, kk93, lb93, lk93, X93, e93, E93, hS, hk93, hZ, hown, Le93, Lc93, Lv93, La93, -, -, r93, -, hne93, st93⟩ := ldcCH X0 hx hZ hown (hw _ (List.mem_of_getElem? (i := 30) rfl)) wS e0 hS hk0 hEL (List.mem_of_getElem? (i := 1) rfl) R0.1 (vs := litE.map Value.int) (z := Int32.ofNat litE.length) (by decide) (by decide) (by decide) (g := (mkF m 68 #[.val (.int p1), .val (.int p2), .val (.int p3), .val (.int r0), .val (.int r1), .val (.int d0), .val (.int d1), .val (.int (1 : Int32)), .val (.int (0 : Int32)), .unset, .unset, .unset, .unset, .unset] [])) rfl (hb hby at_68) (n := 0) (by decide) (by decide) (by decide) (by decide)
      have R93 := R0.trans r93
      have K93 : Keep h0 h93 [] := (Keep.refl h0 []).ext E93
      have Z93 : n0 ≤ h93.size := Nat.le_trans Z0 E93.1
      have O93 := Old.ext O0 E93
      have LV93 : B0 Z h93 lb93 lk93 litE := ⟨La93, by decide, trivial⟩
      obtain ⟨T95, h95, X95, e95, E95, A95, D95, U95, st95⟩ := newO X93 hx hZ hown (hw _ (List.mem_of_getElem? (i := 0) rfl)) (hw _ (List.mem_of_getElem? (i := 1) rfl)) (hw _ (List.mem_of_getElem? (i := 2) rfl)) e93 (g := (mkF m 104 #[.val (.int p1), .val (.int p2), .val (.int p3), .val (.int r0), .val (.int r1), .val (.int d0), .val (.int d1), .val (.int (1 : Int32)), .val (.int (0 : Int32)), .val (.ref la93), .unset, .unset, .unset, .unset] [])) rfl (hb hby at_104) (by decide) (by decide)
      obtain ⟨b95, g95⟩ : ∃ z, z = h93.size := ⟨_, rfl⟩
      rw [← g95] at A95 D95 U95 st95
      have ne_la93_b95 : la93 ≠ b95 := Nat.ne_of_lt (Nat.lt_of_lt_of_le Le93.lt (Nat.le_of_eq g95.symm))
      have ne_lb93_b95 : lb93 ≠ b95 := Nat.ne_of_lt (Nat.lt_of_lt_of_le LV93.lt (Nat.le_of_eq g95.symm))
      have g_b95 : n0 ≤ b95 := Nat.le_trans Z93 (Nat.le_of_eq g95.symm)
      have sz_b95 : h0.size ≤ b95 := Nat.le_trans K93.1 (Nat.le_of_eq g95.symm)
      have E_la93_95 := Le93.ext E95
      have F_la93_coder_95 := Lc93.ext E95
      have F_la93_value_95 := Lv93.ext E95
      have V_lb93_95 := LV93.ext E95
      have K95 : Keep h0 h95 [] := K93.ext E95
      have Z95 : n0 ≤ h95.size := Nat.le_trans Z93 E95.1
      have O95 := Old.ext O93 E95
      have S0_b95 : Safe Z consts_1 T93.vm h93 b95 := Safe.new (Nat.le_of_eq g95.symm)
      have r95 := CHr.ext E95 R93.1
      have S95_b95 := Safe.ext E95 R93.1 S0_b95
      have R95 := R93.trans r95
      have hk95 := Nat.le_trans hk93 E95.1
      have F_coder_b95 : Fld Z h95 b95 "java/lang/String" "coder" "B" (.int (0 : Int32)) := D95 (Or.inr (hw _ (List.mem_of_getElem? (i := 27) rfl))) (ty := .byte) (by decide)
      have F_value_b95 : Fld Z h95 b95 "java/lang/String" "value" "[B" .null := D95 (Or.inr (hw _ (List.mem_of_getElem? (i := 29) rfl))) (ty := (.array .byte)) (by decide)
      obtain ⟨T96, h96, k96, X96, e96, E96, A96, st96⟩ := newP X95 hx hZ (hw _ (List.mem_of_getElem? (i := 3) rfl)) e95 (g := (mkF m 109 #[.val (.int p1), .val (.int p2), .val (.int p3), .val (.int r0), .val (.int r1), .val (.int d0), .val (.int d1), .val (.int (1 : Int32)), .val (.int (0 : Int32)), .val (.ref la93), .unset, .unset, .unset, .unset] [(.int (2 : Int32)), (.ref b95), (.ref b95)])) rfl (hb hby at_109) rfl (by decide) (cap := 2) (by decide) (by decide) (by decide) (by decide)
      obtain ⟨b96, g96⟩ : ∃ z, z = h95.size := ⟨_, rfl⟩
      rw [← g96] at A96 st96
      have ne_la93_b96 : la93 ≠ b96 := Nat.ne_of_lt (Nat.lt_of_lt_of_le E_la93_95.lt (Nat.le_of_eq g96.symm))
      have ne_lb93_b96 : lb93 ≠ b96 := Nat.ne_of_lt (Nat.lt_of_lt_of_le V_lb93_95.lt (Nat.le_of_eq g96.symm))
      have ne_b95_b96 : b95 ≠ b96 := Nat.ne_of_lt (Nat.lt_of_lt_of_le A95.lt (Nat.le_of_eq g96.symm))
      have g_b96 : n0 ≤ b96 := Nat.le_trans Z95 (Nat.le_of_eq g96.symm)
      have sz_b96 : h0.size ≤ b96 := Nat.le_trans K95.1 (Nat.le_of_eq g96.symm)
      have E_la93_96 := E_la93_95.ext E96
      have F_la93_coder_96 := F_la93_coder_95.ext E96
      have F_la93_value_96 := F_la93_value_95.ext E96
      have V_lb93_96 := V_lb93_95.ext E96
      have E_b95_96 := A95.ext E96
      have F_b95_coder_96 := F_coder_b95.ext E96
      have F_b95_value_96 := F_value_b95.ext E96
      have K96 : Keep h0 h96 [] := K95.ext E96
      have Z96 : n0 ≤ h96.size := Nat.le_trans Z95 E96.1
      have O96 := Old.ext O95 E96
      have r96 := CHr.ext E96 R95.1
      have S96_b95 := Safe.ext E96 R95.1 S95_b95
      have R96 := R95.trans r96
      have hk96 := Nat.le_trans hk95 E96.1
      have V_b96 : Arv Z h96 b96 k96 .char (2 : Int32) [(.int (0 : Int32)), (.int (0 : Int32))] (.int (0 : Int32)) := (Arv.new A96 (by decide)).pad (pad_rep [] (.int (0 : Int32)) 2)
      obtain ⟨cl97, Ar97, q97, S97_, N97_, H97_, G97_⟩ := V_b96
      have hin97 : ¬ ((0 : Int32) < 0 ∨ cl97.slots.size ≤ ((0 : Int32)).toNatClampNeg) := inb_of S97_ ⟨by decide, by decide⟩
      obtain ⟨T97, h97, X97, e97, W97, st97⟩ := stC X96 hx hZ e96 Ar97 (j := (0 : Int32)) hin97 (g := (mkF m 115 #[.val (.int p1), .val (.int p2), .val (.int p3), .val (.int r0), .val (.int r1), .val (.int d0), .val (.int d1), .val (.int (1 : Int32)), .val (.int (0 : Int32)), .val (.ref la93), .unset, .unset, .unset, .unset] [(.int d0), (.int (0 : Int32)), (.ref b96), (.ref b96), (.ref b95), (.ref b95)])) rfl rfl (hb hby at_115)
      have E_la93_97 := E_la93_96.wr W97
      have F_la93_coder_97 := F_la93_coder_96.other W97 (Or.inl ne_la93_b96)
      have F_la93_value_97 := F_la93_value_96.other W97 (Or.inl ne_la93_b96)
      have V_lb93_97 := V_lb93_96.other W97 ne_lb93_b96
      have E_b95_97 := E_b95_96.wr W97
      have F_b95_coder_97 := F_b95_coder_96.other W97 (Or.inl ne_b95_b96)
      have F_b95_value_97 := F_b95_value_96.other W97 (Or.inl ne_b95_b96)
      have V_b96_97 : Arv Z h97 b96 k96 .char (2 : Int32) [(.int (nar .char d0)), (.int (0 : Int32))] (.int (0 : Int32)) := Arv.set Ar97 q97 S97_ N97_ H97_ G97_ (fits_nar_char _) W97 0 rfl (Nat.le_of_ble_eq_true rfl)
      have K97 : Keep h0 h97 [] := K96.wr W97 (Or.inr sz_b96)
      have N97 := Fr.snoc X97 N0 g_b96
      have Z97 : n0 ≤ h97.size := Nat.le_trans Z96 (Keep.of_wr W97).1
      have O97 := Old.wr O96 W97 g_b96
      have r97 := CHr.wr W97 (Safe.arr hZ.alike Ar97 (by decide)) R96.1
      have S97_b95 := r97.safe E_b95_96.lt S96_b95
      have R97 := R96.trans r97
      have hk97 := Nat.le_trans hk96 (Keep.of_wr W97).1
      obtain ⟨cl98, Ar98, q98, S98_, N98_, H98_, G98_⟩ := V_b96_97
      have hin98 : ¬ ((1 : Int32) < 0 ∨ cl98.slots.size ≤ ((1 : Int32)).toNatClampNeg) := inb_of S98_ ⟨by decide, by decide⟩
      obtain ⟨T98, h98, X98, e98, W98, st98⟩ := stC X97 hx hZ e97 Ar98 (j := (1 : Int32)) hin98 (g := (mkF m 120 #[.val (.int p1), .val (.int p2), .val (.int p3), .val (.int r0), .val (.int r1), .val (.int d0), .val (.int d1), .val (.int (1 : Int32)), .val (.int (0 : Int32)), .val (.ref la93), .unset, .unset, .unset, .unset] [(.int d1), (.int (1 : Int32)), (.ref b96), (.ref b96), (.ref b95), (.ref b95)])) rfl rfl (hb hby at_120)
      have E_la93_98 := E_la93_97.wr W98
      have F_la93_coder_98 := F_la93_coder_97.other W98 (Or.inl ne_la93_b96)
      have F_la93_value_98 := F_la93_value_97.other W98 (Or.inl ne_la93_b96)
      have V_lb93_98 := V_lb93_97.other W98 ne_lb93_b96
      have E_b95_98 := E_b95_97.wr W98
      have F_b95_coder_98 := F_b95_coder_97.other W98 (Or.inl ne_b95_b96)
      have F_b95_value_98 := F_b95_value_97.other W98 (Or.inl ne_b95_b96)
      have V_b96_98 : Arv Z h98 b96 k96 .char (2 : Int32) [(.int (nar .char d0)), (.int (nar .char d1))] (.int (0 : Int32)) := Arv.set Ar98 q98 S98_ N98_ H98_ G98_ (fits_nar_char _) W98 1 rfl (Nat.le_of_ble_eq_true rfl)
      have K98 : Keep h0 h98 [] := K97.wr W98 (Or.inr sz_b96)
      have N98 := Fr.snoc X98 N97 g_b96
      have Z98 : n0 ≤ h98.size := Nat.le_trans Z97 (Keep.of_wr W98).1
      have O98 := Old.wr O97 W98 g_b96
      have r98 := CHr.wr W98 (Safe.arr hZ.alike Ar98 (by decide)) R97.1
      have S98_b95 := r98.safe E_b95_97.lt S97_b95
      have R98 := R97.trans r98
      have hk98 := Nat.le_trans hk97 (Keep.of_wr W98).1
      obtain ⟨lg99, Y99, M99⟩ := stand_gen X98 N98
      obtain ⟨_, _, ⟨T100, L100, k100, n100⟩, -, X100, ⟨Lc100, hQ100, l100, y100, z100⟩, st100⟩ := Y99.specialBack hx (y := (⟨"java/lang/String", "<init>", "([C)V"⟩ : MethodName)) rfl hown (mvT hZ (hw _ (List.mem_of_getElem? (i := 4) rfl))) (mvT hZ (hw _ (List.mem_of_getElem? (i := 5) rfl))) (mvT hZ (hw _ (List.mem_of_getElem? (i := 6) rfl))) (by decide) (payNew (h := h98) (W := 1) (n := 2) (cs := ([(nar .char d0), (nar .char d1)] : List Int32)) (n0 := n0) hZ hw rfl g_b95 Z98 E_b95_98 F_b95_value_98 F_b95_coder_98 V_b96_98 (CS.ext O98.2) hcs (by decide) (by decide) (chS b_d0 (chS b_d1 ch0)) (by decide) (by decide)) (g := (mkF m 121 #[.val (.int p1), .val (.int p2), .val (.int p3), .val (.int r0), .val (.int r1), .val (.int d0), .val (.int d1), .val (.int (1 : Int32)), .val (.int (0 : Int32)), .val (.ref la93), .unset, .unset, .unset, .unset] [(.ref b96), (.ref b95), (.ref b95)])) rfl (by rw [hml]; rfl) (Steps.refl _) (a := b95) (argsL := [(.ref b96)]) (rest := [(.ref b95)]) (lenOf pd21 rfl) rfl (by show 2 * 0 + _ ≤ _; exact Nat.le_of_eq rfl) (hb hby at_121) (fun _ _ => ⟨rfl, e98, (by decide : 4 + 1 ≤ _), (by decide : 10 + 2 ≤ _)⟩)
      dsimp only [Pt.U, Pt.locs, Pt.cells, Pt.slots] at X100 l100 y100 z100 st100 hQ100
      subst l100 y100 z100
      obtain ⟨d'_100, k'_100, bs'_100, rfl, N100q, Kc100, G100_0, G100_1, G100_2, G100_3, eqs_100, f_d'_100⟩ := hQ100
      have N100 := Fr.app M99 N100q
      have ne_la93_d'_100 : la93 ≠ d'_100 := Nat.ne_of_lt (Nat.lt_of_lt_of_le E_la93_98.lt f_d'_100)
      have ne_lb93_d'_100 : lb93 ≠ d'_100 := Nat.ne_of_lt (Nat.lt_of_lt_of_le V_lb93_98.lt f_d'_100)
      have ne_b95_d'_100 : b95 ≠ d'_100 := Nat.ne_of_lt (Nat.lt_of_lt_of_le E_b95_98.lt f_d'_100)
      have ne_b96_d'_100 : b96 ≠ d'_100 := Nat.ne_of_lt (Nat.lt_of_lt_of_le V_b96_98.lt f_d'_100)
      have g_d'_100 : n0 ≤ d'_100 := Nat.le_trans Z98 f_d'_100
      have sz_d'_100 : h0.size ≤ d'_100 := Nat.le_trans K98.1 f_d'_100
      have S0_d'_100 : Safe Z consts_1 T93.vm h98 d'_100 := Safe.new f_d'_100
      have E_la93_100 := E_la93_98.keep Kc100
      have F_la93_coder_100 := F_la93_coder_98.keep Kc100 (ninS ne_la93_b95 nin0)
      have F_la93_value_100 := F_la93_value_98.keep Kc100 (ninS ne_la93_b95 nin0)
      have V_lb93_100 := V_lb93_98.keep Kc100 (ninS ne_lb93_b95 nin0)
      have V_b96_100 := V_b96_98.keep Kc100 (ninS (Ne.symm ne_b95_b96) nin0)
      have K100 : Keep h0 T100.heap [] := K98.trans Kc100 (allS (P := fun x => x ∈ ([] : List Addr) ∨ h0.size ≤ x) (Or.inr sz_b95) all0)
      have Z100 : n0 ≤ T100.heap.size := Nat.le_trans Z98 Kc100.1
      have O100 := Old.keep O98 Kc100 (allS g_b95 all0)
      have hs100 : ∀ x ∈ ([b95] : List Addr), Safe Z consts_1 T93.vm h98 x := (sfS S98_b95 sf0)
      have r100 := CHr.keep Kc100 hs100 R98.1
      have S100_b95 := Safe.keep Kc100 hs100 R98.1 S98_b95
      have S100_d'_100 := Safe.keep Kc100 hs100 R98.1 S0_d'_100
      have R100 := R98.trans r100
      have hk100 := Nat.le_trans hk98 Kc100.1
      have pre102 : ∀ t, Steps p.tables e below (T100.setTop (mkF m 131 #[.val (.int p1), .val (.int p2), .val (.int p3), .val (.int r0), .val (.int r1), .val (.int d0), .val (.int d1), .val (.int (1 : Int32)), .val (.int (0 : Int32)), .val (.ref la93), .val (.ref b95), .unset, .unset, .unset] [])) t → Steps p.tables e below (s₁.setTop (entryFrame m #[(.int p1), (.int p2), (.int p3)] maxLocals)) t := by
        intro t k
        refine pre94 t ?_
        refine st93 _ ?_
        show Steps p.tables e below (T93.setTop (mkF m 70 #[.val (.int p1), .val (.int p2), .val (.int p3), .val (.int r0), .val (.int r1), .val (.int d0), .val (.int d1), .val (.int (1 : Int32)), .val (.int (0 : Int32)), .unset, .unset, .unset, .unset, .unset] [(.ref la93)])) _
        refine XS.goto X93.here hx rfl (pc0 := 70) (pc' := 92) rfl (hb hby at_70) (by decide) (by decide) ?_
        show Steps p.tables e below (T93.setTop (mkF m 92 #[.val (.int p1), .val (.int p2), .val (.int p3), .val (.int r0), .val (.int r1), .val (.int d0), .val (.int d1), .val (.int (1 : Int32)), .val (.int (0 : Int32)), .unset, .unset, .unset, .unset, .unset] [(.ref la93)])) _
        refine XS.astore X93.here hx rfl (hb hby at_92) rfl rfl (l' := #[.val (.int p1), .val (.int p2), .val (.int p3), .val (.int r0), .val (.int r1), .val (.int d0), .val (.int d1), .val (.int (1 : Int32)), .val (.int (0 : Int32)), .val (.ref la93), .unset, .unset, .unset, .unset]) rfl ?_
        show Steps p.tables e below (T93.setTop (mkF m 94 #[.val (.int p1), .val (.int p2), .val (.int p3), .val (.int r0), .val (.int r1), .val (.int d0), .val (.int d1), .val (.int (1 : Int32)), .val (.int (0 : Int32)), .val (.ref la93), .unset, .unset, .unset, .unset] [])) _
        refine XS.iload X93.here hx rfl (hb hby at_94) rfl ?_
        show Steps p.tables e below (T93.setTop (mkF m 96 #[.val (.int p1), .val (.int p2), .val (.int p3), .val (.int r0), .val (.int r1), .val (.int d0), .val (.int d1), .val (.int (1 : Int32)), .val (.int (0 : Int32)), .val (.ref la93), .unset, .unset, .unset, .unset] [(.int (0 : Int32))])) _
        refine XS.ifYes X93.here hx rfl (pc0 := 96) (pc' := 104) rfl (hb hby at_96) rfl ((if0 _ _).trans (teq (by decide : (0 : Int32) = (0 : Int32))).1) (by decide) (by decide) ?_
        show Steps p.tables e below (T93.setTop (mkF m 104 #[.val (.int p1), .val (.int p2), .val (.int p3), .val (.int r0), .val (.int r1), .val (.int d0), .val (.int d1), .val (.int (1 : Int32)), .val (.int (0 : Int32)), .val (.ref la93), .unset, .unset, .unset, .unset] [])) _
        refine st95 _ ?_
        show Steps p.tables e below (T95.setTop (mkF m 107 #[.val (.int p1), .val (.int p2), .val (.int p3), .val (.int r0), .val (.int r1), .val (.int d0), .val (.int d1), .val (.int (1 : Int32)), .val (.int (0 : Int32)), .val (.ref la93), .unset, .unset, .unset, .unset] [(.ref b95)])) _
        refine XS.dup X95.here hx rfl (hb hby at_107) rfl rfl ?_
        show Steps p.tables e below (T95.setTop (mkF m 108 #[.val (.int p1), .val (.int p2), .val (.int p3), .val (.int r0), .val (.int r1), .val (.int d0), .val (.int d1), .val (.int (1 : Int32)), .val (.int (0 : Int32)), .val (.ref la93), .unset, .unset, .unset, .unset] [(.ref b95), (.ref b95)])) _
        refine XS.iconst X95.here hx rfl (hb hby at_108) ?_
        show Steps p.tables e below (T95.setTop (mkF m 109 #[.val (.int p1), .val (.int p2), .val (.int p3), .val (.int r0), .val (.int r1), .val (.int d0), .val (.int d1), .val (.int (1 : Int32)), .val (.int (0 : Int32)), .val (.ref la93), .unset, .unset, .unset, .unset] [(.int (2 : Int32)), (.ref b95), (.ref b95)])) _
        refine st96 _ ?_
        show Steps p.tables e below (T96.setTop (mkF m 111 #[.val (.int p1), .val (.int p2), .val (.int p3), .val (.int r0), .val (.int r1), .val (.int d0), .val (.int d1), .val (.int (1 : Int32)), .val (.int (0 : Int32)), .val (.ref la93), .unset, .unset, .unset, .unset] [(.ref b96), (.ref b95), (.ref b95)])) _
        refine XS.dup X96.here hx rfl (hb hby at_111) rfl rfl ?_
        show Steps p.tables e below (T96.setTop (mkF m 112 #[.val (.int p1), .val (.int p2), .val (.int p3), .val (.int r0), .val (.int r1), .val (.int d0), .val (.int d1), .val (.int (1 : Int32)), .val (.int (0 : Int32)), .val (.ref la93), .unset, .unset, .unset, .unset] [(.ref b96), (.ref b96), (.ref b95), (.ref b95)])) _
        refine XS.iconst X96.here hx rfl (hb hby at_112) ?_
        show Steps p.tables e below (T96.setTop (mkF m 113 #[.val (.int p1), .val (.int p2), .val (.int p3), .val (.int r0), .val (.int r1), .val (.int d0), .val (.int d1), .val (.int (1 : Int32)), .val (.int (0 : Int32)), .val (.ref la93), .unset, .unset, .unset, .unset] [(.int (0 : Int32)), (.ref b96), (.ref b96), (.ref b95), (.ref b95)])) _
        refine XS.iload X96.here hx rfl (hb hby at_113) rfl ?_
        show Steps p.tables e below (T96.setTop (mkF m 115 #[.val (.int p1), .val (.int p2), .val (.int p3), .val (.int r0), .val (.int r1), .val (.int d0), .val (.int d1), .val (.int (1 : Int32)), .val (.int (0 : Int32)), .val (.ref la93), .unset, .unset, .unset, .unset] [(.int d0), (.int (0 : Int32)), (.ref b96), (.ref b96), (.ref b95), (.ref b95)])) _
        refine st97 _ ?_
        show Steps p.tables e below (T97.setTop (mkF m 116 #[.val (.int p1), .val (.int p2), .val (.int p3), .val (.int r0), .val (.int r1), .val (.int d0), .val (.int d1), .val (.int (1 : Int32)), .val (.int (0 : Int32)), .val (.ref la93), .unset, .unset, .unset, .unset] [(.ref b96), (.ref b95), (.ref b95)])) _
        refine XS.dup X97.here hx rfl (hb hby at_116) rfl rfl ?_
        show Steps p.tables e below (T97.setTop (mkF m 117 #[.val (.int p1), .val (.int p2), .val (.int p3), .val (.int r0), .val (.int r1), .val (.int d0), .val (.int d1), .val (.int (1 : Int32)), .val (.int (0 : Int32)), .val (.ref la93), .unset, .unset, .unset, .unset] [(.ref b96), (.ref b96), (.ref b95), (.ref b95)])) _
        refine XS.iconst X97.here hx rfl (hb hby at_117) ?_
        show Steps p.tables e below (T97.setTop (mkF m 118 #[.val (.int p1), .val (.int p2), .val (.int p3), .val (.int r0), .val (.int r1), .val (.int d0), .val (.int d1), .val (.int (1 : Int32)), .val (.int (0 : Int32)), .val (.ref la93), .unset, .unset, .unset, .unset] [(.int (1 : Int32)), (.ref b96), (.ref b96), (.ref b95), (.ref b95)])) _
        refine XS.iload X97.here hx rfl (hb hby at_118) rfl ?_
        show Steps p.tables e below (T97.setTop (mkF m 120 #[.val (.int p1), .val (.int p2), .val (.int p3), .val (.int r0), .val (.int r1), .val (.int d0), .val (.int d1), .val (.int (1 : Int32)), .val (.int (0 : Int32)), .val (.ref la93), .unset, .unset, .unset, .unset] [(.int d1), (.int (1 : Int32)), (.ref b96), (.ref b96), (.ref b95), (.ref b95)])) _
        refine st98 _ ?_
        show Steps p.tables e below (T98.setTop (mkF m 121 #[.val (.int p1), .val (.int p2), .val (.int p3), .val (.int r0), .val (.int r1), .val (.int d0), .val (.int d1), .val (.int (1 : Int32)), .val (.int (0 : Int32)), .val (.ref la93), .unset, .unset, .unset, .unset] [(.ref b96), (.ref b95), (.ref b95)])) _
        refine st100.trans ?_
        show Steps p.tables e below (T100.setTop (mkF m 124 #[.val (.int p1), .val (.int p2), .val (.int p3), .val (.int r0), .val (.int r1), .val (.int d0), .val (.int d1), .val (.int (1 : Int32)), .val (.int (0 : Int32)), .val (.ref la93), .unset, .unset, .unset, .unset] [(.ref b95)])) _
        refine XS.astore X100.here hx rfl (hb hby at_124) rfl rfl (l' := #[.val (.int p1), .val (.int p2), .val (.int p3), .val (.int r0), .val (.int r1), .val (.int d0), .val (.int d1), .val (.int (1 : Int32)), .val (.int (0 : Int32)), .val (.ref la93), .val (.ref b95), .unset, .unset, .unset]) rfl ?_
        show Steps p.tables e below (T100.setTop (mkF m 126 #[.val (.int p1), .val (.int p2), .val (.int p3), .val (.int r0), .val (.int r1), .val (.int d0), .val (.int d1), .val (.int (1 : Int32)), .val (.int (0 : Int32)), .val (.ref la93), .val (.ref b95), .unset, .unset, .unset] [])) _
        refine XS.iload X100.here hx rfl (hb hby at_126) rfl ?_
        show Steps p.tables e below (T100.setTop (mkF m 128 #[.val (.int p1), .val (.int p2), .val (.int p3), .val (.int r0), .val (.int r1), .val (.int d0), .val (.int d1), .val (.int (1 : Int32)), .val (.int (0 : Int32)), .val (.ref la93), .val (.ref b95), .unset, .unset, .unset] [(.int (1 : Int32))])) _
        refine XS.ifNo X100.here hx rfl (hb hby at_128) rfl ((if0 _ _).trans (feq (by decide : ¬ ((1 : Int32) = (0 : Int32)))).1) ?_
        exact k
      obtain ⟨la101, T101, h101, kk101, lb101, lk101, X101, e101, E101, hS, hk101, hZ, hown, Le101, Lc101, Lv101, La101, -, -, r101, -, hne101, st101⟩ := ldcCH X100 hx hZ hown (hw _ (List.mem_of_getElem? (i := 278) rfl)) wS rfl hS hk100 hEL (List.mem_of_getElem? (i := 2) rfl) R100.1 (vs := litR.map Value.int) (z := Int32.ofNat litR.length) (by decide) (by decide) (by decide) (g := (mkF m 131 #[.val (.int p1), .val (.int p2), .val (.int p3), .val (.int r0), .val (.int r1), .val (.int d0), .val (.int d1), .val (.int (1 : Int32)), .val (.int (0 : Int32)), .val (.ref la93), .val (.ref b95), .unset, .unset, .unset] [])) rfl (hb hby at_131) (n := 36) (by decide) (by decide) (by decide) (by decide)
      have E_la93_101 := E_la93_100.ext E101
      have F_la93_coder_101 := F_la93_coder_100.ext E101
      have F_la93_value_101 := F_la93_value_100.ext E101
      have V_lb93_101 := V_lb93_100.ext E101
      have E_b95_101 := G100_0.ext E101
      have F_b95_coder_101 := G100_1.ext E101
      have F_b95_value_101 := G100_2.ext E101
      have V_b96_101 := V_b96_100.ext E101
      have V_d__100_101 := G100_3.ext E101
      have R101 := R100.trans r101
      have K101 : Keep h0 h101 [] := K100.ext E101
      have Z101 : n0 ≤ h101.size := Nat.le_trans Z100 E101.1
      have O101 := Old.ext O100 E101
      have LV101 : B0 Z h101 lb101 lk101 litR := ⟨La101, by decide, trivial⟩
      obtain ⟨T103, h103, X103, e103, E103, A103, D103, U103, st103⟩ := newO X101 hx hZ hown (hw _ (List.mem_of_getElem? (i := 33) rfl)) (hw _ (List.mem_of_getElem? (i := 34) rfl)) (hw _ (List.mem_of_getElem? (i := 35) rfl)) e101 (g := (mkF m 208 #[.val (.int p1), .val (.int p2), .val (.int p3), .val (.int r0), .val (.int r1), .val (.int d0), .val (.int d1), .val (.int (1 : Int32)), .val (.int (0 : Int32)), .val (.ref la93), .val (.ref b95), .val (.ref la101), .unset, .unset] [])) rfl (hb hby at_208) (by decide) (by decide)
      obtain ⟨b103, g103⟩ : ∃ z, z = h101.size := ⟨_, rfl⟩
      rw [← g103] at A103 D103 U103 st103
      have ne_la93_b103 : la93 ≠ b103 := Nat.ne_of_lt (Nat.lt_of_lt_of_le E_la93_101.lt (Nat.le_of_eq g103.symm))
      have ne_lb93_b103 : lb93 ≠ b103 := Nat.ne_of_lt (Nat.lt_of_lt_of_le V_lb93_101.lt (Nat.le_of_eq g103.symm))
      have ne_b95_b103 : b95 ≠ b103 := Nat.ne_of_lt (Nat.lt_of_lt_of_le E_b95_101.lt (Nat.le_of_eq g103.symm))
      have ne_b96_b103 : b96 ≠ b103 := Nat.ne_of_lt (Nat.lt_of_lt_of_le V_b96_101.lt (Nat.le_of_eq g103.symm))
      have ne_d__100_b103 : d'_100 ≠ b103 := Nat.ne_of_lt (Nat.lt_of_lt_of_le V_d__100_101.lt (Nat.le_of_eq g103.symm))
      have ne_la101_b103 : la101 ≠ b103 := Nat.ne_of_lt (Nat.lt_of_lt_of_le Le101.lt (Nat.le_of_eq g103.symm))
      have ne_lb101_b103 : lb101 ≠ b103 := Nat.ne_of_lt (Nat.lt_of_lt_of_le LV101.lt (Nat.le_of_eq g103.symm))
      have g_b103 : n0 ≤ b103 := Nat.le_trans Z101 (Nat.le_of_eq g103.symm)
      have sz_b103 : h0.size ≤ b103 := Nat.le_trans K101.1 (Nat.le_of_eq g103.symm)
      have E_la93_103 := E_la93_101.ext E103
      have F_la93_coder_103 := F_la93_coder_101.ext E103
      have F_la93_value_103 := F_la93_value_101.ext E103
      have V_lb93_103 := V_lb93_101.ext E103
      have E_b95_103 := E_b95_101.ext E103
      have F_b95_coder_103 := F_b95_coder_101.ext E103
      have F_b95_value_103 := F_b95_value_101.ext E103
      have V_b96_103 := V_b96_101.ext E103
      have V_d__100_103 := V_d__100_101.ext E103
      have E_la101_103 := Le101.ext E103
      have F_la101_coder_103 := Lc101.ext E103
      have F_la101_value_103 := Lv101.ext E103
      have V_lb101_103 := LV101.ext E103
      have K103 : Keep h0 h103 [] := K101.ext E103
      have Z103 : n0 ≤ h103.size := Nat.le_trans Z101 E103.1
      have O103 := Old.ext O101 E103
      have r103 := CHr.ext E103 R101.1
      have R103 := R101.trans r103
      have hk103 := Nat.le_trans hk101 E103.1
      have F_cause_b103 : Fld Z h103 b103 "java/lang/Throwable" "cause" "Ljava/lang/Throwable;" .null := D103 (Or.inl (hw _ (List.mem_of_getElem? (i := 52) rfl))) (ty := (.object "java/lang/Throwable")) (by decide)
      have F_stackTrace_b103 : Fld Z h103 b103 "java/lang/Throwable" "stackTrace" "[Ljava/lang/StackTraceElement;" .null := D103 (Or.inl (hw _ (List.mem_of_getElem? (i := 55) rfl))) (ty := (.array (.object "java/lang/StackTraceElement"))) (by decide)
      have F_suppressedExceptions_b103 : Fld Z h103 b103 "java/lang/Throwable" "suppressedExceptions" "Ljava/util/List;" .null := D103 (Or.inl (hw _ (List.mem_of_getElem? (i := 58) rfl))) (ty := (.object "java/util/List")) (by decide)
      have F_detailMessage_b103 : Fld Z h103 b103 "java/lang/Throwable" "detailMessage" "Ljava/lang/String;" .null := D103 (Or.inl (hw _ (List.mem_of_getElem? (i := 82) rfl))) (ty := (.object "java/lang/String")) (by decide)
      have F_backtrace_b103 : Fld Z h103 b103 "java/lang/Throwable" "backtrace" "Ljava/lang/Object;" .null := D103 (Or.inl (hw _ (List.mem_of_getElem? (i := 83) rfl))) (ty := (.object "java/lang/Object")) (by decide)
      have F_depth_b103 : Fld Z h103 b103 "java/lang/Throwable" "depth" "I" (.int (0 : Int32)) := D103 (Or.inl (hw _ (List.mem_of_getElem? (i := 84) rfl))) (ty := .int) (by decide)
      have F_reason_b103 : Fld Z h103 b103 "com/example/tranche/tranche/terms/Refusal" "reason" "Ljava/lang/String;" .null := D103 (Or.inr (hw _ (List.mem_of_getElem? (i := 88) rfl))) (ty := (.object "java/lang/String")) (by decide)
      obtain ⟨lg104, Y104, M104⟩ := stand_gen X103 N100
      obtain ⟨_, _, ⟨T105, L105, k105, n105⟩, -, X105, ⟨Lc105, hQ105, l105, y105, z105⟩, st105⟩ := Y104.specialBack hx (y := (⟨"com/example/tranche/tranche/terms/Refusal", "<init>", "(Ljava/lang/String;Ljava/lang/String;)V"⟩ : MethodName)) rfl hown (mvT hZ (hw _ (List.mem_of_getElem? (i := 36) rfl))) (mvT hZ (hw _ (List.mem_of_getElem? (i := 37) rfl))) (mvT hZ (hw _ (List.mem_of_getElem? (i := 38) rfl))) (by decide) (backOfKL (W := 1) (rm7 l Z a0 hw [] b103 la93 b95 h103 n0 cs ua us CS hcs O103 hl SUA SUS Z103 g_b103 A103 U103 _ _ _ _ _ F_cause_b103 F_stackTrace_b103 F_suppressedExceptions_b103 F_detailMessage_b103 F_backtrace_b103 F_reason_b103) hZ (hw _ (List.mem_of_getElem? (i := 38) rfl)) (hw _ (List.mem_of_getElem? (i := 35) rfl)) (by decide) (by decide) (Vm.MethodsKnown.alikeC hS.1.alike hK.1) (Vm.FramesKnown.alikeC hS.1.alike hK.2)) (g := (mkF m 216 #[.val (.int p1), .val (.int p2), .val (.int p3), .val (.int r0), .val (.int r1), .val (.int d0), .val (.int d1), .val (.int (1 : Int32)), .val (.int (0 : Int32)), .val (.ref la93), .val (.ref b95), .val (.ref la101), .unset, .unset] [(.ref b95), (.ref la93), (.ref b103), (.ref b103)])) rfl (by rw [hml]; rfl) (Steps.refl _) (a := b103) (argsL := [(.ref la93), (.ref b95)]) (rest := [(.ref b103)]) (lenOf pd22 rfl) rfl (by show 2 * 0 + _ ≤ _; exact Nat.le_of_eq rfl) (hb hby at_216) (fun _ _ => ⟨rfl, e103, (by decide : 8 + 1 ≤ _), (by decide : 60 + 2752 ≤ _)⟩)
      dsimp only [Pt.U, Pt.locs, Pt.cells, Pt.slots] at X105 l105 y105 z105 st105 hQ105
      subst l105 y105 z105
      obtain ⟨rfl, N105q, Kc105, G105_0, G105_1, G105_2⟩ := hQ105
      have N105 := Fr.app M104 N105q
      have E_la93_105 := E_la93_103.keep Kc105
      have F_la93_coder_105 := F_la93_coder_103.keep Kc105 (ninS ne_la93_b103 nin0)
      have F_la93_value_105 := F_la93_value_103.keep Kc105 (ninS ne_la93_b103 nin0)
      have V_lb93_105 := V_lb93_103.keep Kc105 (ninS ne_lb93_b103 nin0)
      have E_b95_105 := E_b95_103.keep Kc105
      have F_b95_coder_105 := F_b95_coder_103.keep Kc105 (ninS ne_b95_b103 nin0)
      have F_b95_value_105 := F_b95_value_103.keep Kc105 (ninS ne_b95_b103 nin0)
      have V_b96_105 := V_b96_103.keep Kc105 (ninS ne_b96_b103 nin0)
      have V_d__100_105 := V_d__100_103.keep Kc105 (ninS ne_d__100_b103 nin0)
      have E_la101_105 := E_la101_103.keep Kc105
      have F_la101_coder_105 := F_la101_coder_103.keep Kc105 (ninS ne_la101_b103 nin0)
      have F_la101_value_105 := F_la101_value_103.keep Kc105 (ninS ne_la101_b103 nin0)
      have V_lb101_105 := V_lb101_103.keep Kc105 (ninS ne_lb101_b103 nin0)
      have K105 : Keep h0 T105.heap [] := K103.trans Kc105 (allS (P := fun x => x ∈ ([] : List Addr) ∨ h0.size ≤ x) (Or.inr sz_b103) all0)
      have Z105 : n0 ≤ T105.heap.size := Nat.le_trans Z103 Kc105.1
      have O105 := Old.keep O103 Kc105 (allS g_b103 all0)
      have hs105 : ∀ x ∈ ([b103] : List Addr), Safe Z consts_1 T101.vm h103 x := (sfS (Safe.exa hZ.alike A103 (by decide) (by decide)) sf0)
      have r105 := CHr.keep Kc105 hs105 R103.1
      have R105 := R103.trans r105
      have hk105 := Nat.le_trans hk103 Kc105.1
      obtain ⟨lg106, Y106, M106⟩ := stand_gen X105 N105
      have pre108 : ∀ t, Steps p.tables e below (T105.setTop (mkF m 223 #[.val (.int p1), .val (.int p2), .val (.int p3), .val (.int r0), .val (.int r1), .val (.int d0), .val (.int d1), .val (.int (1 : Int32)), .val (.int (0 : Int32)), .val (.ref la93), .val (.ref b95), .val (.ref la101), .val (.ref b103), .unset] [(.ref b103)])) t → Steps p.tables e below (s₁.setTop (entryFrame m #[(.int p1), (.int p2), (.int p3)] maxLocals)) t := by
        intro t k
        refine pre102 t ?_
        refine st101 _ ?_
        show Steps p.tables e below (T101.setTop (mkF m 133 #[.val (.int p1), .val (.int p2), .val (.int p3), .val (.int r0), .val (.int r1), .val (.int d0), .val (.int d1), .val (.int (1 : Int32)), .val (.int (0 : Int32)), .val (.ref la93), .val (.ref b95), .unset, .unset, .unset] [(.ref la101)])) _
        refine XS.goto X101.here hx rfl (pc0 := 133) (pc' := 206) rfl (hb hby at_133) (by decide) (by decide) ?_
        show Steps p.tables e below (T101.setTop (mkF m 206 #[.val (.int p1), .val (.int p2), .val (.int p3), .val (.int r0), .val (.int r1), .val (.int d0), .val (.int d1), .val (.int (1 : Int32)), .val (.int (0 : Int32)), .val (.ref la93), .val (.ref b95), .unset, .unset, .unset] [(.ref la101)])) _
        refine XS.astore X101.here hx rfl (hb hby at_206) rfl rfl (l' := #[.val (.int p1), .val (.int p2), .val (.int p3), .val (.int r0), .val (.int r1), .val (.int d0), .val (.int d1), .val (.int (1 : Int32)), .val (.int (0 : Int32)), .val (.ref la93), .val (.ref b95), .val (.ref la101), .unset, .unset]) rfl ?_
        show Steps p.tables e below (T101.setTop (mkF m 208 #[.val (.int p1), .val (.int p2), .val (.int p3), .val (.int r0), .val (.int r1), .val (.int d0), .val (.int d1), .val (.int (1 : Int32)), .val (.int (0 : Int32)), .val (.ref la93), .val (.ref b95), .val (.ref la101), .unset, .unset] [])) _
        refine st103 _ ?_
        show Steps p.tables e below (T103.setTop (mkF m 211 #[.val (.int p1), .val (.int p2), .val (.int p3), .val (.int r0), .val (.int r1), .val (.int d0), .val (.int d1), .val (.int (1 : Int32)), .val (.int (0 : Int32)), .val (.ref la93), .val (.ref b95), .val (.ref la101), .unset, .unset] [(.ref b103)])) _
        refine XS.dup X103.here hx rfl (hb hby at_211) rfl rfl ?_
        show Steps p.tables e below (T103.setTop (mkF m 212 #[.val (.int p1), .val (.int p2), .val (.int p3), .val (.int r0), .val (.int r1), .val (.int d0), .val (.int d1), .val (.int (1 : Int32)), .val (.int (0 : Int32)), .val (.ref la93), .val (.ref b95), .val (.ref la101), .unset, .unset] [(.ref b103), (.ref b103)])) _
        refine XS.aload X103.here hx rfl (hb hby at_212) rfl rfl ?_
        show Steps p.tables e below (T103.setTop (mkF m 214 #[.val (.int p1), .val (.int p2), .val (.int p3), .val (.int r0), .val (.int r1), .val (.int d0), .val (.int d1), .val (.int (1 : Int32)), .val (.int (0 : Int32)), .val (.ref la93), .val (.ref b95), .val (.ref la101), .unset, .unset] [(.ref la93), (.ref b103), (.ref b103)])) _
        refine XS.aload X103.here hx rfl (hb hby at_214) rfl rfl ?_
        show Steps p.tables e below (T103.setTop (mkF m 216 #[.val (.int p1), .val (.int p2), .val (.int p3), .val (.int r0), .val (.int r1), .val (.int d0), .val (.int d1), .val (.int (1 : Int32)), .val (.int (0 : Int32)), .val (.ref la93), .val (.ref b95), .val (.ref la101), .unset, .unset] [(.ref b95), (.ref la93), (.ref b103), (.ref b103)])) _
        refine st105.trans ?_
        show Steps p.tables e below (T105.setTop (mkF m 219 #[.val (.int p1), .val (.int p2), .val (.int p3), .val (.int r0), .val (.int r1), .val (.int d0), .val (.int d1), .val (.int (1 : Int32)), .val (.int (0 : Int32)), .val (.ref la93), .val (.ref b95), .val (.ref la101), .unset, .unset] [(.ref b103)])) _
        refine XS.astore X105.here hx rfl (hb hby at_219) rfl rfl (l' := #[.val (.int p1), .val (.int p2), .val (.int p3), .val (.int r0), .val (.int r1), .val (.int d0), .val (.int d1), .val (.int (1 : Int32)), .val (.int (0 : Int32)), .val (.ref la93), .val (.ref b95), .val (.ref la101), .val (.ref b103), .unset]) rfl ?_
        show Steps p.tables e below (T105.setTop (mkF m 221 #[.val (.int p1), .val (.int p2), .val (.int p3), .val (.int r0), .val (.int r1), .val (.int d0), .val (.int d1), .val (.int (1 : Int32)), .val (.int (0 : Int32)), .val (.ref la93), .val (.ref b95), .val (.ref la101), .val (.ref b103), .unset] [])) _
        refine XS.aload X105.here hx rfl (hb hby at_221) rfl rfl ?_
        show Steps p.tables e below (T105.setTop (mkF m 223 #[.val (.int p1), .val (.int p2), .val (.int p3), .val (.int r0), .val (.int r1), .val (.int d0), .val (.int d1), .val (.int (1 : Int32)), .val (.int (0 : Int32)), .val (.ref la93), .val (.ref b95), .val (.ref la101), .val (.ref b103), .unset] [(.ref b103)])) _
        exact k
      obtain ⟨cq107, kq107, q107a, q107b, q107c⟩ := isOf hZ rfl G105_0
      obtain ⟨_, _, ⟨T107, L107, k107, n107⟩, -, Xq107, hSq107, hgq107, ⟨Lc107, hQ107, l107, y107, z107, hRq107⟩, st107⟩ := Y106.virtualBackS hx (y := (⟨"com/example/tranche/tranche/terms/Refusal", "report", "()Ljava/util/List;"⟩ : MethodName)) (z := (⟨"com/example/tranche/tranche/terms/Refusal", "report", "()Ljava/util/List;"⟩ : MethodName)) hown (mvT hZ (hw _ (List.mem_of_getElem? (i := 89) rfl))) (mvT hZ (hw _ (List.mem_of_getElem? (i := 90) rfl))) (notFace_of_selects (args := #[]) (mvT hZ (hw _ (List.mem_of_getElem? (i := 92) rfl)))) (mvT hZ (hw _ (List.mem_of_getElem? (i := 92) rfl))) (mvT hZ (hw _ (List.mem_of_getElem? (i := 91) rfl))) (by decide) (backOfSH (W := 0) (rm12 l Z a0 hw [] b103 T105.heap n0 cs la93 b95 lb93 lk93 litE CS hcs O105 G105_0 G105_2 G105_1 E_b95_105 E_la93_105 F_la93_coder_105 F_la93_value_105 V_lb93_105 (by decide) Z105) hZ (hw _ (List.mem_of_getElem? (i := 93) rfl)) (hw _ (List.mem_of_getElem? (i := 35) rfl)) (by decide) (by decide) hEL R105.1) q107a q107c (g := (mkF m 223 #[.val (.int p1), .val (.int p2), .val (.int p3), .val (.int r0), .val (.int r1), .val (.int d0), .val (.int d1), .val (.int (1 : Int32)), .val (.int (0 : Int32)), .val (.ref la93), .val (.ref b95), .val (.ref la101), .val (.ref b103), .unset] [(.ref b103)])) rfl (by rw [hml]; rfl) (Steps.refl _) (argsL := []) (rest := []) (lenOf pd23 rfl) rfl (by show 2 * 0 + _ ≤ _; exact Nat.le_of_eq rfl) (hb hby at_223) (fun _ _ => ⟨rfl, rfl, (by decide : 9 + 7 ≤ _), (by decide : 2812 + 208 ≤ _)⟩)
      dsimp only [Pt.U, Pt.locs, Pt.cells, Pt.slots] at Xq107 hSq107 hgq107 l107 y107 z107 st107 hQ107 hRq107
      subst l107 y107 z107
      obtain ⟨X107, hS, hZ, hown⟩ := rebS hS (by rw [show T105.heap = T105.heap from rfl]; exact hk105) Xq107 hSq107 hgq107 hZ hown
      obtain ⟨r'_107, s'_107, d'_107, k'_107, bs'_107, rfl, N107q, Kc107, G107_0, G107_1, G107_2, G107_3, G107_4, G107_5, G107_6, eqb_107, f_r'_107, f_s'_107, f_d'_107⟩ := hQ107
      have N107 := Fr.app M106 N107q
      have ne_la93_r'_107 : la93 ≠ r'_107 := Nat.ne_of_lt (Nat.lt_of_lt_of_le E_la93_105.lt f_r'_107)
      have ne_lb93_r'_107 : lb93 ≠ r'_107 := Nat.ne_of_lt (Nat.lt_of_lt_of_le V_lb93_105.lt f_r'_107)
      have ne_b95_r'_107 : b95 ≠ r'_107 := Nat.ne_of_lt (Nat.lt_of_lt_of_le E_b95_105.lt f_r'_107)
      have ne_b96_r'_107 : b96 ≠ r'_107 := Nat.ne_of_lt (Nat.lt_of_lt_of_le V_b96_105.lt f_r'_107)
      have ne_d__100_r'_107 : d'_100 ≠ r'_107 := Nat.ne_of_lt (Nat.lt_of_lt_of_le V_d__100_105.lt f_r'_107)
      have ne_la101_r'_107 : la101 ≠ r'_107 := Nat.ne_of_lt (Nat.lt_of_lt_of_le E_la101_105.lt f_r'_107)
      have ne_lb101_r'_107 : lb101 ≠ r'_107 := Nat.ne_of_lt (Nat.lt_of_lt_of_le V_lb101_105.lt f_r'_107)
      have ne_b103_r'_107 : b103 ≠ r'_107 := Nat.ne_of_lt (Nat.lt_of_lt_of_le G105_0.lt f_r'_107)
      have g_r'_107 : n0 ≤ r'_107 := Nat.le_trans Z105 f_r'_107
      have sz_r'_107 : h0.size ≤ r'_107 := Nat.le_trans K105.1 f_r'_107
      have ne_la93_s'_107 : la93 ≠ s'_107 := Nat.ne_of_lt (Nat.lt_of_lt_of_le E_la93_105.lt f_s'_107)
      have ne_lb93_s'_107 : lb93 ≠ s'_107 := Nat.ne_of_lt (Nat.lt_of_lt_of_le V_lb93_105.lt f_s'_107)
      have ne_b95_s'_107 : b95 ≠ s'_107 := Nat.ne_of_lt (Nat.lt_of_lt_of_le E_b95_105.lt f_s'_107)
      have ne_b96_s'_107 : b96 ≠ s'_107 := Nat.ne_of_lt (Nat.lt_of_lt_of_le V_b96_105.lt f_s'_107)
      have ne_d__100_s'_107 : d'_100 ≠ s'_107 := Nat.ne_of_lt (Nat.lt_of_lt_of_le V_d__100_105.lt f_s'_107)
      have ne_la101_s'_107 : la101 ≠ s'_107 := Nat.ne_of_lt (Nat.lt_of_lt_of_le E_la101_105.lt f_s'_107)
      have ne_lb101_s'_107 : lb101 ≠ s'_107 := Nat.ne_of_lt (Nat.lt_of_lt_of_le V_lb101_105.lt f_s'_107)
      have ne_b103_s'_107 : b103 ≠ s'_107 := Nat.ne_of_lt (Nat.lt_of_lt_of_le G105_0.lt f_s'_107)
      have g_s'_107 : n0 ≤ s'_107 := Nat.le_trans Z105 f_s'_107
      have sz_s'_107 : h0.size ≤ s'_107 := Nat.le_trans K105.1 f_s'_107
      have ne_la93_d'_107 : la93 ≠ d'_107 := Nat.ne_of_lt (Nat.lt_of_lt_of_le E_la93_105.lt f_d'_107)
      have ne_lb93_d'_107 : lb93 ≠ d'_107 := Nat.ne_of_lt (Nat.lt_of_lt_of_le V_lb93_105.lt f_d'_107)
      have ne_b95_d'_107 : b95 ≠ d'_107 := Nat.ne_of_lt (Nat.lt_of_lt_of_le E_b95_105.lt f_d'_107)
      have ne_b96_d'_107 : b96 ≠ d'_107 := Nat.ne_of_lt (Nat.lt_of_lt_of_le V_b96_105.lt f_d'_107)
      have ne_d__100_d'_107 : d'_100 ≠ d'_107 := Nat.ne_of_lt (Nat.lt_of_lt_of_le V_d__100_105.lt f_d'_107)
      have ne_la101_d'_107 : la101 ≠ d'_107 := Nat.ne_of_lt (Nat.lt_of_lt_of_le E_la101_105.lt f_d'_107)
      have ne_lb101_d'_107 : lb101 ≠ d'_107 := Nat.ne_of_lt (Nat.lt_of_lt_of_le V_lb101_105.lt f_d'_107)
      have ne_b103_d'_107 : b103 ≠ d'_107 := Nat.ne_of_lt (Nat.lt_of_lt_of_le G105_0.lt f_d'_107)
      have g_d'_107 : n0 ≤ d'_107 := Nat.le_trans Z105 f_d'_107
      have sz_d'_107 : h0.size ≤ d'_107 := Nat.le_trans K105.1 f_d'_107
      have E_la93_107 := E_la93_105.keep Kc107
      have F_la93_coder_107 := F_la93_coder_105.keep Kc107 nin0
      have F_la93_value_107 := F_la93_value_105.keep Kc107 nin0
      have V_lb93_107 := V_lb93_105.keep Kc107 nin0
      have E_b95_107 := E_b95_105.keep Kc107
      have F_b95_coder_107 := F_b95_coder_105.keep Kc107 nin0
      have F_b95_value_107 := F_b95_value_105.keep Kc107 nin0
      have V_b96_107 := V_b96_105.keep Kc107 nin0
      have V_d__100_107 := V_d__100_105.keep Kc107 nin0
      have E_la101_107 := E_la101_105.keep Kc107
      have F_la101_coder_107 := F_la101_coder_105.keep Kc107 nin0
      have F_la101_value_107 := F_la101_value_105.keep Kc107 nin0
      have V_lb101_107 := V_lb101_105.keep Kc107 nin0
      have E_b103_107 := G105_0.keep Kc107
      have F_b103_detailMessage_107 := G105_1.keep Kc107 nin0
      have F_b103_reason_107 := G105_2.keep Kc107 nin0
      have K107 : Keep h0 T107.heap [] := K105.trans Kc107 all0
      have Z107 : n0 ≤ T107.heap.size := Nat.le_trans Z105 Kc107.1
      have O107 := Old.keep O105 Kc107 all0
      have r107 := hRq107
      have R107 := R105.trans r107
      have hk107 := Nat.le_trans hk105 Kc107.1
      have hkw107 : T107.heap.size ≤ T107.heap.size := Nat.le_refl _
      obtain ⟨lg109, Y109, M109⟩ := stand_gen X107 N107
      obtain ⟨cq110, kq110, q110a, q110b, q110c⟩ := isOf hZ rfl G107_0
      obtain ⟨_, _, ⟨T110, L110, k110, n110⟩, -, X110, ⟨Lc110, hQ110, l110, y110, z110⟩, st110⟩ := Y109.interfaceBack hx (xi := (⟨"java/util/List", "size", "()I"⟩ : MethodName)) (y := (⟨"java/util/ImmutableCollections$List12", "size", "()I"⟩ : MethodName)) hown (mvT hZ (hw _ (List.mem_of_getElem? (i := 249) rfl))) (mvT hZ (hw _ (List.mem_of_getElem? (i := 250) rfl))) (mvT hZ (hw _ (List.mem_of_getElem? (i := 251) rfl))) (mvT hZ (hw _ (List.mem_of_getElem? (i := 252) rfl))) (mvT hZ (hw _ (List.mem_of_getElem? (i := 253) rfl))) (mvT hZ (hw _ (List.mem_of_getElem? (i := 254) rfl))) (mvT hZ (hw _ (List.mem_of_getElem? (i := 255) rfl))) (mvT hZ (hw _ (List.mem_of_getElem? (i := 256) rfl))) (by decide) (backOf (W := 0) (rm41 l Z a0 hw [] r'_107 T107.heap n0 em s'_107 b95 EM E_em O107 E_b95_107 G107_1 G107_2) hZ (hw _ (List.mem_of_getElem? (i := 257) rfl)) (hw _ (List.mem_of_getElem? (i := 217) rfl)) (by decide) (by decide)) q110a q110b q110c (g := (mkF m 230 #[.val (.int p1), .val (.int p2), .val (.int p3), .val (.int r0), .val (.int r1), .val (.int d0), .val (.int d1), .val (.int (1 : Int32)), .val (.int (0 : Int32)), .val (.ref la93), .val (.ref b95), .val (.ref la101), .val (.ref b103), .val (.ref r'_107)] [(.ref r'_107)])) rfl (by rw [hml]; rfl) (Steps.refl _) (argsL := []) (rest := []) (lenOf pd3 rfl) rfl (by show 2 * 0 + _ ≤ _; exact Nat.le_of_eq rfl) (hb hby at_230) (fun _ _ => ⟨rfl, rfl, (by decide : 16 + 0 ≤ _), (by decide : 3020 + 0 ≤ _)⟩)
      dsimp only [Pt.U, Pt.locs, Pt.cells, Pt.slots] at X110 l110 y110 z110 st110 hQ110
      subst l110 y110 z110
      obtain ⟨rfl, N110q, e110⟩ := hQ110
      have N110 := Fr.app M109 N110q
      obtain ⟨lg111, Y111, M111⟩ := stand_gen X110 N110
      obtain ⟨cq112, kq112, q112a, q112b, q112c⟩ := isOf hZ e110 G107_0
      obtain ⟨_, _, ⟨T112, L112, k112, n112⟩, -, X112, ⟨Lc112, hQ112, l112, y112, z112⟩, st112⟩ := Y111.interfaceBack hx (xi := (⟨"java/util/List", "get", "(I)Ljava/lang/Object;"⟩ : MethodName)) (y := (⟨"java/util/ImmutableCollections$List12", "get", "(I)Ljava/lang/Object;"⟩ : MethodName)) hown (mvT hZ (hw _ (List.mem_of_getElem? (i := 260) rfl))) (mvT hZ (hw _ (List.mem_of_getElem? (i := 261) rfl))) (mvT hZ (hw _ (List.mem_of_getElem? (i := 262) rfl))) (mvT hZ (hw _ (List.mem_of_getElem? (i := 263) rfl))) (mvT hZ (hw _ (List.mem_of_getElem? (i := 264) rfl))) (mvT hZ (hw _ (List.mem_of_getElem? (i := 265) rfl))) (mvT hZ (hw _ (List.mem_of_getElem? (i := 266) rfl))) (mvT hZ (hw _ (List.mem_of_getElem? (i := 256) rfl))) (by decide) (backOf (W := 1) (rm42 l Z a0 hw [] r'_107 T107.heap n0 em s'_107 b95 EM E_em O107 E_b95_107 G107_1 G107_2) hZ (hw _ (List.mem_of_getElem? (i := 267) rfl)) (hw _ (List.mem_of_getElem? (i := 217) rfl)) (by decide) (by decide)) q112a q112b q112c (g := (mkF m 246 #[.val (.int p1), .val (.int p2), .val (.int p3), .val (.int r0), .val (.int r1), .val (.int d0), .val (.int d1), .val (.int (1 : Int32)), .val (.int (0 : Int32)), .val (.ref la93), .val (.ref b95), .val (.ref la101), .val (.ref b103), .val (.ref r'_107)] [(.int (0 : Int32)), (.ref r'_107), (.ref la101)])) rfl (by rw [hml]; rfl) (Steps.refl _) (argsL := [(.int (0 : Int32))]) (rest := [(.ref la101)]) (lenOf pd24 rfl) rfl (by show 2 * 0 + _ ≤ _; exact Nat.le_of_eq rfl) (hb hby at_246) (fun _ _ => ⟨rfl, e110, (by decide : 16 + 0 ≤ _), (by decide : 3020 + 0 ≤ _)⟩)
      dsimp only [Pt.U, Pt.locs, Pt.cells, Pt.slots] at X112 l112 y112 z112 st112 hQ112
      subst l112 y112 z112
      obtain ⟨rfl, N112q, e112⟩ := hQ112
      have N112 := Fr.app M111 N112q
      obtain ⟨lg113, Y113, M113⟩ := stand_gen X112 N112
      obtain ⟨cq114, kq114, q114a, q114b, q114c⟩ := isOf hZ e112 E_la101_107
      obtain ⟨_, _, ⟨T114, L114, k114, n114⟩, -, X114, ⟨Lc114, hQ114, l114, y114, z114⟩, st114⟩ := Y113.virtualBack hx (y := (⟨"java/lang/String", "equals", "(Ljava/lang/Object;)Z"⟩ : MethodName)) (z := (⟨"java/lang/String", "equals", "(Ljava/lang/Object;)Z"⟩ : MethodName)) hown (mvT hZ (hw _ (List.mem_of_getElem? (i := 268) rfl))) (mvT hZ (hw _ (List.mem_of_getElem? (i := 269) rfl))) (notFace_of_selects (args := #[]) (mvT hZ (hw _ (List.mem_of_getElem? (i := 271) rfl)))) (mvT hZ (hw _ (List.mem_of_getElem? (i := 271) rfl))) (mvT hZ (hw _ (List.mem_of_getElem? (i := 270) rfl))) (by decide) (payEq (h := T107.heap) (W := 0) (cs := litR) (n0 := n0) hZ hw E_la101_107 F_la101_coder_107 F_la101_value_107 V_lb101_107 G107_3 G107_4 G107_5 G107_6 rfl (by rw [eqb_107]; exact (List.append_nil litR).trans litR_low) (by decide) (Nat.le_of_ble_eq_true rfl) (CS.ext O107.2) hcs (by decide) (by decide)) q114a q114c (g := (mkF m 251 #[.val (.int p1), .val (.int p2), .val (.int p3), .val (.int r0), .val (.int r1), .val (.int d0), .val (.int d1), .val (.int (1 : Int32)), .val (.int (0 : Int32)), .val (.ref la93), .val (.ref b95), .val (.ref la101), .val (.ref b103), .val (.ref r'_107)] [(.ref s'_107), (.ref la101)])) rfl (by rw [hml]; rfl) (Steps.refl _) (argsL := [(.ref s'_107)]) (rest := []) (lenOf pd25 rfl) rfl (by show 2 * 0 + _ ≤ _; exact Nat.le_of_eq rfl) (hb hby at_251) (fun _ _ => ⟨rfl, e112, (by decide : 16 + 0 ≤ _), (by decide : 3020 + 0 ≤ _)⟩)
      dsimp only [Pt.U, Pt.locs, Pt.cells, Pt.slots] at X114 l114 y114 z114 st114 hQ114
      subst l114 y114 z114
      obtain ⟨rfl, N114q, e114⟩ := hQ114
      have N114 := Fr.app M113 N114q
      obtain ⟨lg115, Y115, M115⟩ := stand_gen X114 N114
      obtain ⟨cq116, kq116, q116a, q116b, q116c⟩ := isOf hZ e114 G107_0
      obtain ⟨_, _, ⟨T116, L116, k116, n116⟩, -, X116, ⟨Lc116, hQ116, l116, y116, z116⟩, st116⟩ := Y115.interfaceBack hx (xi := (⟨"java/util/List", "get", "(I)Ljava/lang/Object;"⟩ : MethodName)) (y := (⟨"java/util/ImmutableCollections$List12", "get", "(I)Ljava/lang/Object;"⟩ : MethodName)) hown (mvT hZ (hw _ (List.mem_of_getElem? (i := 260) rfl))) (mvT hZ (hw _ (List.mem_of_getElem? (i := 261) rfl))) (mvT hZ (hw _ (List.mem_of_getElem? (i := 262) rfl))) (mvT hZ (hw _ (List.mem_of_getElem? (i := 263) rfl))) (mvT hZ (hw _ (List.mem_of_getElem? (i := 264) rfl))) (mvT hZ (hw _ (List.mem_of_getElem? (i := 265) rfl))) (mvT hZ (hw _ (List.mem_of_getElem? (i := 266) rfl))) (mvT hZ (hw _ (List.mem_of_getElem? (i := 256) rfl))) (by decide) (backOf (W := 1) (rm42b l Z a0 hw [] r'_107 T107.heap n0 em s'_107 b95 EM E_em O107 E_b95_107 G107_1 G107_2) hZ (hw _ (List.mem_of_getElem? (i := 267) rfl)) (hw _ (List.mem_of_getElem? (i := 217) rfl)) (by decide) (by decide)) q116a q116b q116c (g := (mkF m 262 #[.val (.int p1), .val (.int p2), .val (.int p3), .val (.int r0), .val (.int r1), .val (.int d0), .val (.int d1), .val (.int (1 : Int32)), .val (.int (0 : Int32)), .val (.ref la93), .val (.ref b95), .val (.ref la101), .val (.ref b103), .val (.ref r'_107)] [(.int (1 : Int32)), (.ref r'_107), (.ref b95)])) rfl (by rw [hml]; rfl) (Steps.refl _) (argsL := [(.int (1 : Int32))]) (rest := [(.ref b95)]) (lenOf pd24 rfl) rfl (by show 2 * 0 + _ ≤ _; exact Nat.le_of_eq rfl) (hb hby at_262) (fun _ _ => ⟨rfl, e114, (by decide : 16 + 0 ≤ _), (by decide : 3020 + 0 ≤ _)⟩)
      dsimp only [Pt.U, Pt.locs, Pt.cells, Pt.slots] at X116 l116 y116 z116 st116 hQ116
      subst l116 y116 z116
      obtain ⟨rfl, N116q, e116⟩ := hQ116
      have N116 := Fr.app M115 N116q
      obtain ⟨lg117, Y117, M117⟩ := stand_gen X116 N116
      obtain ⟨cq118, kq118, q118a, q118b, q118c⟩ := isOf hZ e116 E_b95_107
      obtain ⟨_, _, ⟨T118, L118, k118, n118⟩, -, X118, ⟨Lc118, hQ118, l118, y118, z118⟩, st118⟩ := Y117.virtualBack hx (y := (⟨"java/lang/String", "equals", "(Ljava/lang/Object;)Z"⟩ : MethodName)) (z := (⟨"java/lang/String", "equals", "(Ljava/lang/Object;)Z"⟩ : MethodName)) hown (mvT hZ (hw _ (List.mem_of_getElem? (i := 268) rfl))) (mvT hZ (hw _ (List.mem_of_getElem? (i := 269) rfl))) (notFace_of_selects (args := #[]) (mvT hZ (hw _ (List.mem_of_getElem? (i := 271) rfl)))) (mvT hZ (hw _ (List.mem_of_getElem? (i := 271) rfl))) (mvT hZ (hw _ (List.mem_of_getElem? (i := 270) rfl))) (by decide) (payEq (h := T107.heap) (W := 0) (cs := ([(nar .char d0), (nar .char d1)] : List Int32)) (n0 := n0) hZ hw E_b95_107 F_b95_coder_107 F_b95_value_107 V_d__100_107 E_b95_107 F_b95_coder_107 F_b95_value_107 V_d__100_107 eqs_100 eqs_100 (chS b_d0 (chS b_d1 ch0)) (Nat.le_of_ble_eq_true rfl) (CS.ext O107.2) hcs (by decide) (by decide)) q118a q118c (g := (mkF m 267 #[.val (.int p1), .val (.int p2), .val (.int p3), .val (.int r0), .val (.int r1), .val (.int d0), .val (.int d1), .val (.int (1 : Int32)), .val (.int (0 : Int32)), .val (.ref la93), .val (.ref b95), .val (.ref la101), .val (.ref b103), .val (.ref r'_107)] [(.ref b95), (.ref b95)])) rfl (by rw [hml]; rfl) (Steps.refl _) (argsL := [(.ref b95)]) (rest := []) (lenOf pd25 rfl) rfl (by show 2 * 0 + _ ≤ _; exact Nat.le_of_eq rfl) (hb hby at_267) (fun _ _ => ⟨rfl, e116, (by decide : 16 + 0 ≤ _), (by decide : 3020 + 0 ≤ _)⟩)
      dsimp only [Pt.U, Pt.locs, Pt.cells, Pt.slots] at X118 l118 y118 z118 st118 hQ118
      subst l118 y118 z118
      obtain ⟨rfl, N118q, e118⟩ := hQ118
      have N118 := Fr.app M117 N118q
      refine hneg ?_
      have hR := R107.trans (CHv.at X118 hZ hEL R107.1)
      obtain ⟨fs, hr, hrun, hended, hW⟩ := X118.leaveW (v := some (.int (1 : Int32))) hS (by rw [show T118.heap = T107.heap from e118]; exact hkw107) (fun h => by rw [Bd.returns] at h; cases h)
      refine ⟨_, _, pre108 _ ?_, hrun, hended, _, _, rfl, ?_, ?_, rew_mono hW (by decide) (by decide)⟩
      · refine st107.trans ?_
        show Steps p.tables e below (T107.setTop (mkF m 226 #[.val (.int p1), .val (.int p2), .val (.int p3), .val (.int r0), .val (.int r1), .val (.int d0), .val (.int d1), .val (.int (1 : Int32)), .val (.int (0 : Int32)), .val (.ref la93), .val (.ref b95), .val (.ref la101), .val (.ref b103), .unset] [(.ref r'_107)])) _
        refine XS.astore X107.here hx rfl (hb hby at_226) rfl rfl (l' := #[.val (.int p1), .val (.int p2), .val (.int p3), .val (.int r0), .val (.int r1), .val (.int d0), .val (.int d1), .val (.int (1 : Int32)), .val (.int (0 : Int32)), .val (.ref la93), .val (.ref b95), .val (.ref la101), .val (.ref b103), .val (.ref r'_107)]) rfl ?_
        show Steps p.tables e below (T107.setTop (mkF m 228 #[.val (.int p1), .val (.int p2), .val (.int p3), .val (.int r0), .val (.int r1), .val (.int d0), .val (.int d1), .val (.int (1 : Int32)), .val (.int (0 : Int32)), .val (.ref la93), .val (.ref b95), .val (.ref la101), .val (.ref b103), .val (.ref r'_107)] [])) _
        refine XS.aload X107.here hx rfl (hb hby at_228) rfl rfl ?_
        show Steps p.tables e below (T107.setTop (mkF m 230 #[.val (.int p1), .val (.int p2), .val (.int p3), .val (.int r0), .val (.int r1), .val (.int d0), .val (.int d1), .val (.int (1 : Int32)), .val (.int (0 : Int32)), .val (.ref la93), .val (.ref b95), .val (.ref la101), .val (.ref b103), .val (.ref r'_107)] [(.ref r'_107)])) _
        refine st110.trans ?_
        show Steps p.tables e below (T110.setTop (mkF m 235 #[.val (.int p1), .val (.int p2), .val (.int p3), .val (.int r0), .val (.int r1), .val (.int d0), .val (.int d1), .val (.int (1 : Int32)), .val (.int (0 : Int32)), .val (.ref la93), .val (.ref b95), .val (.ref la101), .val (.ref b103), .val (.ref r'_107)] [(.int (2 : Int32))])) _
        refine XS.iconst X110.here hx rfl (hb hby at_235) ?_
        show Steps p.tables e below (T110.setTop (mkF m 236 #[.val (.int p1), .val (.int p2), .val (.int p3), .val (.int r0), .val (.int r1), .val (.int d0), .val (.int d1), .val (.int (1 : Int32)), .val (.int (0 : Int32)), .val (.ref la93), .val (.ref b95), .val (.ref la101), .val (.ref b103), .val (.ref r'_107)] [(.int (2 : Int32)), (.int (2 : Int32))])) _
        refine XS.icmpYes X110.here hx rfl (pc0 := 236) (pc' := 241) rfl (hb hby at_236) rfl (teq (by decide : (2 : Int32) = (2 : Int32))).1 (by decide) (by decide) ?_
        show Steps p.tables e below (T110.setTop (mkF m 241 #[.val (.int p1), .val (.int p2), .val (.int p3), .val (.int r0), .val (.int r1), .val (.int d0), .val (.int d1), .val (.int (1 : Int32)), .val (.int (0 : Int32)), .val (.ref la93), .val (.ref b95), .val (.ref la101), .val (.ref b103), .val (.ref r'_107)] [])) _
        refine XS.aload X110.here hx rfl (hb hby at_241) rfl rfl ?_
        show Steps p.tables e below (T110.setTop (mkF m 243 #[.val (.int p1), .val (.int p2), .val (.int p3), .val (.int r0), .val (.int r1), .val (.int d0), .val (.int d1), .val (.int (1 : Int32)), .val (.int (0 : Int32)), .val (.ref la93), .val (.ref b95), .val (.ref la101), .val (.ref b103), .val (.ref r'_107)] [(.ref la101)])) _
        refine XS.aload X110.here hx rfl (hb hby at_243) rfl rfl ?_
        show Steps p.tables e below (T110.setTop (mkF m 245 #[.val (.int p1), .val (.int p2), .val (.int p3), .val (.int r0), .val (.int r1), .val (.int d0), .val (.int d1), .val (.int (1 : Int32)), .val (.int (0 : Int32)), .val (.ref la93), .val (.ref b95), .val (.ref la101), .val (.ref b103), .val (.ref r'_107)] [(.ref r'_107), (.ref la101)])) _
        refine XS.iconst X110.here hx rfl (hb hby at_245) ?_
        show Steps p.tables e below (T110.setTop (mkF m 246 #[.val (.int p1), .val (.int p2), .val (.int p3), .val (.int r0), .val (.int r1), .val (.int d0), .val (.int d1), .val (.int (1 : Int32)), .val (.int (0 : Int32)), .val (.ref la93), .val (.ref b95), .val (.ref la101), .val (.ref b103), .val (.ref r'_107)] [(.int (0 : Int32)), (.ref r'_107), (.ref la101)])) _
        refine st112.trans ?_
        show Steps p.tables e below (T112.setTop (mkF m 251 #[.val (.int p1), .val (.int p2), .val (.int p3), .val (.int r0), .val (.int r1), .val (.int d0), .val (.int d1), .val (.int (1 : Int32)), .val (.int (0 : Int32)), .val (.ref la93), .val (.ref b95), .val (.ref la101), .val (.ref b103), .val (.ref r'_107)] [(.ref s'_107), (.ref la101)])) _
        refine st114.trans ?_
        show Steps p.tables e below (T114.setTop (mkF m 254 #[.val (.int p1), .val (.int p2), .val (.int p3), .val (.int r0), .val (.int r1), .val (.int d0), .val (.int d1), .val (.int (1 : Int32)), .val (.int (0 : Int32)), .val (.ref la93), .val (.ref b95), .val (.ref la101), .val (.ref b103), .val (.ref r'_107)] [(.int (1 : Int32))])) _
        refine XS.ifNo X114.here hx rfl (hb hby at_254) rfl ((if0 _ _).trans (feq (by decide : ¬ ((1 : Int32) = (0 : Int32)))).1) ?_
        show Steps p.tables e below (T114.setTop (mkF m 257 #[.val (.int p1), .val (.int p2), .val (.int p3), .val (.int r0), .val (.int r1), .val (.int d0), .val (.int d1), .val (.int (1 : Int32)), .val (.int (0 : Int32)), .val (.ref la93), .val (.ref b95), .val (.ref la101), .val (.ref b103), .val (.ref r'_107)] [])) _
        refine XS.aload X114.here hx rfl (hb hby at_257) rfl rfl ?_
        show Steps p.tables e below (T114.setTop (mkF m 259 #[.val (.int p1), .val (.int p2), .val (.int p3), .val (.int r0), .val (.int r1), .val (.int d0), .val (.int d1), .val (.int (1 : Int32)), .val (.int (0 : Int32)), .val (.ref la93), .val (.ref b95), .val (.ref la101), .val (.ref b103), .val (.ref r'_107)] [(.ref b95)])) _
        refine XS.aload X114.here hx rfl (hb hby at_259) rfl rfl ?_
        show Steps p.tables e below (T114.setTop (mkF m 261 #[.val (.int p1), .val (.int p2), .val (.int p3), .val (.int r0), .val (.int r1), .val (.int d0), .val (.int d1), .val (.int (1 : Int32)), .val (.int (0 : Int32)), .val (.ref la93), .val (.ref b95), .val (.ref la101), .val (.ref b103), .val (.ref r'_107)] [(.ref r'_107), (.ref b95)])) _
        refine XS.iconst X114.here hx rfl (hb hby at_261) ?_
        show Steps p.tables e below (T114.setTop (mkF m 262 #[.val (.int p1), .val (.int p2), .val (.int p3), .val (.int r0), .val (.int r1), .val (.int d0), .val (.int d1), .val (.int (1 : Int32)), .val (.int (0 : Int32)), .val (.ref la93), .val (.ref b95), .val (.ref la101), .val (.ref b103), .val (.ref r'_107)] [(.int (1 : Int32)), (.ref r'_107), (.ref b95)])) _
        refine st116.trans ?_
        show Steps p.tables e below (T116.setTop (mkF m 267 #[.val (.int p1), .val (.int p2), .val (.int p3), .val (.int r0), .val (.int r1), .val (.int d0), .val (.int d1), .val (.int (1 : Int32)), .val (.int (0 : Int32)), .val (.ref la93), .val (.ref b95), .val (.ref la101), .val (.ref b103), .val (.ref r'_107)] [(.ref b95), (.ref b95)])) _
        refine st118.trans ?_
        show Steps p.tables e below (T118.setTop (mkF m 270 #[.val (.int p1), .val (.int p2), .val (.int p3), .val (.int r0), .val (.int r1), .val (.int d0), .val (.int d1), .val (.int (1 : Int32)), .val (.int (0 : Int32)), .val (.ref la93), .val (.ref b95), .val (.ref la101), .val (.ref b103), .val (.ref r'_107)] [(.int (1 : Int32))])) _
        refine XS.ifNo X118.here hx rfl (hb hby at_270) rfl ((if0 _ _).trans (feq (by decide : ¬ ((1 : Int32) = (0 : Int32)))).1) ?_
        show Steps p.tables e below (T118.setTop (mkF m 273 #[.val (.int p1), .val (.int p2), .val (.int p3), .val (.int r0), .val (.int r1), .val (.int d0), .val (.int d1), .val (.int (1 : Int32)), .val (.int (0 : Int32)), .val (.ref la93), .val (.ref b95), .val (.ref la101), .val (.ref b103), .val (.ref r'_107)] [])) _
        refine XS.iconst X118.here hx rfl (hb hby at_273) ?_
        show Steps p.tables e below (T118.setTop (mkF m 274 #[.val (.int p1), .val (.int p2), .val (.int p3), .val (.int r0), .val (.int r1), .val (.int d0), .val (.int d1), .val (.int (1 : Int32)), .val (.int (0 : Int32)), .val (.ref la93), .val (.ref b95), .val (.ref la101), .val (.ref b103), .val (.ref r'_107)] [(.int (1 : Int32))])) _
        refine XS.goto X118.here hx rfl (pc0 := 274) (pc' := 278) rfl (hb hby at_274) (by decide) (by decide) ?_
        show Steps p.tables e below (T118.setTop (mkF m 278 #[.val (.int p1), .val (.int p2), .val (.int p3), .val (.int r0), .val (.int r1), .val (.int d0), .val (.int d1), .val (.int (1 : Int32)), .val (.int (0 : Int32)), .val (.ref la93), .val (.ref b95), .val (.ref la101), .val (.ref b103), .val (.ref r'_107)] [(.int (1 : Int32))])) _
        exact retN X118 hx (t := .boolean) Bd.returns (by simp) (hb hby at_278) hr
      · show Q0 Z p1 p2 p3 cs ua us em h0 n0 _ T118.heap _
        rw [e118]
        exact ⟨rfl, N118⟩
      · show CHr Z consts_1 s.vm s.heap T118.vm T118.heap
        rw [hh, show T118.heap = T107.heap from e118]; exact hR
    · have pre120 : ∀ t, Steps p.tables e below (s₁.setTop (mkF m 68 #[.val (.int p1), .val (.int p2), .val (.int p3), .val (.int r0), .val (.int r1), .val (.int d0), .val (.int d1), .val (.int (1 : Int32)), .val (.int (1 : Int32)), .unset, .unset, .unset, .unset, .unset] [])) t → Steps p.tables e below (s₁.setTop (entryFrame m #[(.int p1), (.int p2), (.int p3)] maxLocals)) t := by
        intro t k
        refine pre91 t ?_
        show Steps p.tables e below (s₁.setTop (mkF m 53 #[.val (.int p1), .val (.int p2), .val (.int p3), .val (.int r0), .val (.int r1), .val (.int d0), .val (.int d1), .val (.int (1 : Int32)), .unset, .unset, .unset, .unset, .unset, .unset] [(.int (p3 &&& (2 : Int32)))])) _
        refine XS.ifNo X0.here hx rfl (hb hby at_53) rfl ((if0 _ _).trans (feq hc53_92).1) ?_
        show Steps p.tables e below (s₁.setTop (mkF m 56 #[.val (.int p1), .val (.int p2), .val (.int p3), .val (.int r0), .val (.int r1), .val (.int d0), .val (.int d1), .val (.int (1 : Int32)), .unset, .unset, .unset, .unset, .unset, .unset] [])) _
        refine XS.iconst X0.here hx rfl (hb hby at_56) ?_
        show Steps p.tables e below (s₁.setTop (mkF m 57 #[.val (.int p1), .val (.int p2), .val (.int p3), .val (.int r0), .val (.int r1), .val (.int d0), .val (.int d1), .val (.int (1 : Int32)), .unset, .unset, .unset, .unset, .unset, .unset] [(.int (1 : Int32))])) _
        refine XS.goto X0.here hx rfl (pc0 := 57) (pc' := 61) rfl (hb hby at_57) (by decide) (by decide) ?_
        show Steps p.tables e below (s₁.setTop (mkF m 61 #[.val (.int p1), .val (.int p2), .val (.int p3), .val (.int r0), .val (.int r1), .val (.int d0), .val (.int d1), .val (.int (1 : Int32)), .unset, .unset, .unset, .unset, .unset, .unset] [(.int (1 : Int32))])) _
        refine XS.istore X0.here hx rfl (hb hby at_61) rfl (l' := #[.val (.int p1), .val (.int p2), .val (.int p3), .val (.int r0), .val (.int r1), .val (.int d0), .val (.int d1), .val (.int (1 : Int32)), .val (.int (1 : Int32)), .unset, .unset, .unset, .unset, .unset]) rfl ?_
        show Steps p.tables e below (s₁.setTop (mkF m 63 #[.val (.int p1), .val (.int p2), .val (.int p3), .val (.int r0), .val (.int r1), .val (.int d0), .val (.int d1), .val (.int (1 : Int32)), .val (.int (1 : Int32)), .unset, .unset, .unset, .unset, .unset] [])) _
        refine XS.iload X0.here hx rfl (hb hby at_63) rfl ?_
        show Steps p.tables e below (s₁.setTop (mkF m 65 #[.val (.int p1), .val (.int p2), .val (.int p3), .val (.int r0), .val (.int r1), .val (.int d0), .val (.int d1), .val (.int (1 : Int32)), .val (.int (1 : Int32)), .unset, .unset, .unset, .unset, .unset] [(.int (1 : Int32))])) _
        refine XS.ifNo X0.here hx rfl (hb hby at_65) rfl ((if0 _ _).trans (feq (by decide : ¬ ((1 : Int32) = (0 : Int32)))).1) ?_
        exact k
      obtain ⟨la119, T119, h119, kk119, lb119, lk119, X119, e119, E119, hS, hk119, hZ, hown, Le119, Lc119, Lv119, La119, -, -, r119, -, hne119, st119⟩ := ldcCH X0 hx hZ hown (hw _ (List.mem_of_getElem? (i := 30) rfl)) wS e0 hS hk0 hEL (List.mem_of_getElem? (i := 1) rfl) R0.1 (vs := litE.map Value.int) (z := Int32.ofNat litE.length) (by decide) (by decide) (by decide) (g := (mkF m 68 #[.val (.int p1), .val (.int p2), .val (.int p3), .val (.int r0), .val (.int r1), .val (.int d0), .val (.int d1), .val (.int (1 : Int32)), .val (.int (1 : Int32)), .unset, .unset, .unset, .unset, .unset] [])) rfl (hb hby at_68) (n := 0) (by decide) (by decide) (by decide) (by decide)
      have R119 := R0.trans r119
      have K119 : Keep h0 h119 [] := (Keep.refl h0 []).ext E119
      have Z119 : n0 ≤ h119.size := Nat.le_trans Z0 E119.1
      have O119 := Old.ext O0 E119
      have LV119 : B0 Z h119 lb119 lk119 litE := ⟨La119, by decide, trivial⟩
      have pre122 : ∀ t, Steps p.tables e below (T119.setTop (mkF m 99 #[.val (.int p1), .val (.int p2), .val (.int p3), .val (.int r0), .val (.int r1), .val (.int d0), .val (.int d1), .val (.int (1 : Int32)), .val (.int (1 : Int32)), .val (.ref la119), .unset, .unset, .unset, .unset] [])) t → Steps p.tables e below (s₁.setTop (entryFrame m #[(.int p1), (.int p2), (.int p3)] maxLocals)) t := by
        intro t k
        refine pre120 t ?_
        refine st119 _ ?_
        show Steps p.tables e below (T119.setTop (mkF m 70 #[.val (.int p1), .val (.int p2), .val (.int p3), .val (.int r0), .val (.int r1), .val (.int d0), .val (.int d1), .val (.int (1 : Int32)), .val (.int (1 : Int32)), .unset, .unset, .unset, .unset, .unset] [(.ref la119)])) _
        refine XS.goto X119.here hx rfl (pc0 := 70) (pc' := 92) rfl (hb hby at_70) (by decide) (by decide) ?_
        show Steps p.tables e below (T119.setTop (mkF m 92 #[.val (.int p1), .val (.int p2), .val (.int p3), .val (.int r0), .val (.int r1), .val (.int d0), .val (.int d1), .val (.int (1 : Int32)), .val (.int (1 : Int32)), .unset, .unset, .unset, .unset, .unset] [(.ref la119)])) _
        refine XS.astore X119.here hx rfl (hb hby at_92) rfl rfl (l' := #[.val (.int p1), .val (.int p2), .val (.int p3), .val (.int r0), .val (.int r1), .val (.int d0), .val (.int d1), .val (.int (1 : Int32)), .val (.int (1 : Int32)), .val (.ref la119), .unset, .unset, .unset, .unset]) rfl ?_
        show Steps p.tables e below (T119.setTop (mkF m 94 #[.val (.int p1), .val (.int p2), .val (.int p3), .val (.int r0), .val (.int r1), .val (.int d0), .val (.int d1), .val (.int (1 : Int32)), .val (.int (1 : Int32)), .val (.ref la119), .unset, .unset, .unset, .unset] [])) _
        refine XS.iload X119.here hx rfl (hb hby at_94) rfl ?_
        show Steps p.tables e below (T119.setTop (mkF m 96 #[.val (.int p1), .val (.int p2), .val (.int p3), .val (.int r0), .val (.int r1), .val (.int d0), .val (.int d1), .val (.int (1 : Int32)), .val (.int (1 : Int32)), .val (.ref la119), .unset, .unset, .unset, .unset] [(.int (1 : Int32))])) _
        refine XS.ifNo X119.here hx rfl (hb hby at_96) rfl ((if0 _ _).trans (feq (by decide : ¬ ((1 : Int32) = (0 : Int32)))).1) ?_
        exact k
      obtain ⟨la121, T121, h121, kk121, lb121, lk121, X121, e121, E121, hS, hk121, hZ, hown, Le121, Lc121, Lv121, La121, -, -, r121, -, hne121, st121⟩ := ldcCH X119 hx hZ hown (hw _ (List.mem_of_getElem? (i := 30) rfl)) wS e119 hS hk119 hEL (List.mem_of_getElem? (i := 1) rfl) R119.1 (vs := litE.map Value.int) (z := Int32.ofNat litE.length) (by decide) (by decide) (by decide) (g := (mkF m 99 #[.val (.int p1), .val (.int p2), .val (.int p3), .val (.int r0), .val (.int r1), .val (.int d0), .val (.int d1), .val (.int (1 : Int32)), .val (.int (1 : Int32)), .val (.ref la119), .unset, .unset, .unset, .unset] [])) rfl (hb hby at_99) (n := 0) (by decide) (by decide) (by decide) (by decide)
      have E_la119_121 := Le119.ext E121
      have F_la119_coder_121 := Lc119.ext E121
      have F_la119_value_121 := Lv119.ext E121
      have V_lb119_121 := LV119.ext E121
      have R121 := R119.trans r121
      have K121 : Keep h0 h121 [] := K119.ext E121
      have Z121 : n0 ≤ h121.size := Nat.le_trans Z119 E121.1
      have O121 := Old.ext O119 E121
      have LV121 : B0 Z h121 lb121 lk121 litE := ⟨La121, by decide, trivial⟩
      have pre124 : ∀ t, Steps p.tables e below (T121.setTop (mkF m 131 #[.val (.int p1), .val (.int p2), .val (.int p3), .val (.int r0), .val (.int r1), .val (.int d0), .val (.int d1), .val (.int (1 : Int32)), .val (.int (1 : Int32)), .val (.ref la119), .val (.ref la121), .unset, .unset, .unset] [])) t → Steps p.tables e below (s₁.setTop (entryFrame m #[(.int p1), (.int p2), (.int p3)] maxLocals)) t := by
        intro t k
        refine pre122 t ?_
        refine st121 _ ?_
        show Steps p.tables e below (T121.setTop (mkF m 101 #[.val (.int p1), .val (.int p2), .val (.int p3), .val (.int r0), .val (.int r1), .val (.int d0), .val (.int d1), .val (.int (1 : Int32)), .val (.int (1 : Int32)), .val (.ref la119), .unset, .unset, .unset, .unset] [(.ref la121)])) _
        refine XS.goto X121.here hx rfl (pc0 := 101) (pc' := 124) rfl (hb hby at_101) (by decide) (by decide) ?_
        show Steps p.tables e below (T121.setTop (mkF m 124 #[.val (.int p1), .val (.int p2), .val (.int p3), .val (.int r0), .val (.int r1), .val (.int d0), .val (.int d1), .val (.int (1 : Int32)), .val (.int (1 : Int32)), .val (.ref la119), .unset, .unset, .unset, .unset] [(.ref la121)])) _
        refine XS.astore X121.here hx rfl (hb hby at_124) rfl rfl (l' := #[.val (.int p1), .val (.int p2), .val (.int p3), .val (.int r0), .val (.int r1), .val (.int d0), .val (.int d1), .val (.int (1 : Int32)), .val (.int (1 : Int32)), .val (.ref la119), .val (.ref la121), .unset, .unset, .unset]) rfl ?_
        show Steps p.tables e below (T121.setTop (mkF m 126 #[.val (.int p1), .val (.int p2), .val (.int p3), .val (.int r0), .val (.int r1), .val (.int d0), .val (.int d1), .val (.int (1 : Int32)), .val (.int (1 : Int32)), .val (.ref la119), .val (.ref la121), .unset, .unset, .unset] [])) _
        refine XS.iload X121.here hx rfl (hb hby at_126) rfl ?_
        show Steps p.tables e below (T121.setTop (mkF m 128 #[.val (.int p1), .val (.int p2), .val (.int p3), .val (.int r0), .val (.int r1), .val (.int d0), .val (.int d1), .val (.int (1 : Int32)), .val (.int (1 : Int32)), .val (.ref la119), .val (.ref la121), .unset, .unset, .unset] [(.int (1 : Int32))])) _
        refine XS.ifNo X121.here hx rfl (hb hby at_128) rfl ((if0 _ _).trans (feq (by decide : ¬ ((1 : Int32) = (0 : Int32)))).1) ?_
        exact k
      obtain ⟨la123, T123, h123, kk123, lb123, lk123, X123, e123, E123, hS, hk123, hZ, hown, Le123, Lc123, Lv123, La123, -, -, r123, -, hne123, st123⟩ := ldcCH X121 hx hZ hown (hw _ (List.mem_of_getElem? (i := 278) rfl)) wS e121 hS hk121 hEL (List.mem_of_getElem? (i := 2) rfl) R121.1 (vs := litR.map Value.int) (z := Int32.ofNat litR.length) (by decide) (by decide) (by decide) (g := (mkF m 131 #[.val (.int p1), .val (.int p2), .val (.int p3), .val (.int r0), .val (.int r1), .val (.int d0), .val (.int d1), .val (.int (1 : Int32)), .val (.int (1 : Int32)), .val (.ref la119), .val (.ref la121), .unset, .unset, .unset] [])) rfl (hb hby at_131) (n := 36) (by decide) (by decide) (by decide) (by decide)
      have E_la119_123 := E_la119_121.ext E123
      have F_la119_coder_123 := F_la119_coder_121.ext E123
      have F_la119_value_123 := F_la119_value_121.ext E123
      have V_lb119_123 := V_lb119_121.ext E123
      have E_la121_123 := Le121.ext E123
      have F_la121_coder_123 := Lc121.ext E123
      have F_la121_value_123 := Lv121.ext E123
      have V_lb121_123 := LV121.ext E123
      have R123 := R121.trans r123
      have K123 : Keep h0 h123 [] := K121.ext E123
      have Z123 : n0 ≤ h123.size := Nat.le_trans Z121 E123.1
      have O123 := Old.ext O121 E123
      have LV123 : B0 Z h123 lb123 lk123 litR := ⟨La123, by decide, trivial⟩
      obtain ⟨T125, h125, X125, e125, E125, A125, D125, U125, st125⟩ := newO X123 hx hZ hown (hw _ (List.mem_of_getElem? (i := 33) rfl)) (hw _ (List.mem_of_getElem? (i := 34) rfl)) (hw _ (List.mem_of_getElem? (i := 35) rfl)) e123 (g := (mkF m 208 #[.val (.int p1), .val (.int p2), .val (.int p3), .val (.int r0), .val (.int r1), .val (.int d0), .val (.int d1), .val (.int (1 : Int32)), .val (.int (1 : Int32)), .val (.ref la119), .val (.ref la121), .val (.ref la123), .unset, .unset] [])) rfl (hb hby at_208) (by decide) (by decide)
      obtain ⟨b125, g125⟩ : ∃ z, z = h123.size := ⟨_, rfl⟩
      rw [← g125] at A125 D125 U125 st125
      have ne_la119_b125 : la119 ≠ b125 := Nat.ne_of_lt (Nat.lt_of_lt_of_le E_la119_123.lt (Nat.le_of_eq g125.symm))
      have ne_lb119_b125 : lb119 ≠ b125 := Nat.ne_of_lt (Nat.lt_of_lt_of_le V_lb119_123.lt (Nat.le_of_eq g125.symm))
      have ne_la121_b125 : la121 ≠ b125 := Nat.ne_of_lt (Nat.lt_of_lt_of_le E_la121_123.lt (Nat.le_of_eq g125.symm))
      have ne_lb121_b125 : lb121 ≠ b125 := Nat.ne_of_lt (Nat.lt_of_lt_of_le V_lb121_123.lt (Nat.le_of_eq g125.symm))
      have ne_la123_b125 : la123 ≠ b125 := Nat.ne_of_lt (Nat.lt_of_lt_of_le Le123.lt (Nat.le_of_eq g125.symm))
      have ne_lb123_b125 : lb123 ≠ b125 := Nat.ne_of_lt (Nat.lt_of_lt_of_le LV123.lt (Nat.le_of_eq g125.symm))
      have g_b125 : n0 ≤ b125 := Nat.le_trans Z123 (Nat.le_of_eq g125.symm)
      have sz_b125 : h0.size ≤ b125 := Nat.le_trans K123.1 (Nat.le_of_eq g125.symm)
      have E_la119_125 := E_la119_123.ext E125
      have F_la119_coder_125 := F_la119_coder_123.ext E125
      have F_la119_value_125 := F_la119_value_123.ext E125
      have V_lb119_125 := V_lb119_123.ext E125
      have E_la121_125 := E_la121_123.ext E125
      have F_la121_coder_125 := F_la121_coder_123.ext E125
      have F_la121_value_125 := F_la121_value_123.ext E125
      have V_lb121_125 := V_lb121_123.ext E125
      have E_la123_125 := Le123.ext E125
      have F_la123_coder_125 := Lc123.ext E125
      have F_la123_value_125 := Lv123.ext E125
      have V_lb123_125 := LV123.ext E125
      have K125 : Keep h0 h125 [] := K123.ext E125
      have Z125 : n0 ≤ h125.size := Nat.le_trans Z123 E125.1
      have O125 := Old.ext O123 E125
      have r125 := CHr.ext E125 R123.1
      have R125 := R123.trans r125
      have hk125 := Nat.le_trans hk123 E125.1
      have F_cause_b125 : Fld Z h125 b125 "java/lang/Throwable" "cause" "Ljava/lang/Throwable;" .null := D125 (Or.inl (hw _ (List.mem_of_getElem? (i := 52) rfl))) (ty := (.object "java/lang/Throwable")) (by decide)
      have F_stackTrace_b125 : Fld Z h125 b125 "java/lang/Throwable" "stackTrace" "[Ljava/lang/StackTraceElement;" .null := D125 (Or.inl (hw _ (List.mem_of_getElem? (i := 55) rfl))) (ty := (.array (.object "java/lang/StackTraceElement"))) (by decide)
      have F_suppressedExceptions_b125 : Fld Z h125 b125 "java/lang/Throwable" "suppressedExceptions" "Ljava/util/List;" .null := D125 (Or.inl (hw _ (List.mem_of_getElem? (i := 58) rfl))) (ty := (.object "java/util/List")) (by decide)
      have F_detailMessage_b125 : Fld Z h125 b125 "java/lang/Throwable" "detailMessage" "Ljava/lang/String;" .null := D125 (Or.inl (hw _ (List.mem_of_getElem? (i := 82) rfl))) (ty := (.object "java/lang/String")) (by decide)
      have F_backtrace_b125 : Fld Z h125 b125 "java/lang/Throwable" "backtrace" "Ljava/lang/Object;" .null := D125 (Or.inl (hw _ (List.mem_of_getElem? (i := 83) rfl))) (ty := (.object "java/lang/Object")) (by decide)
      have F_depth_b125 : Fld Z h125 b125 "java/lang/Throwable" "depth" "I" (.int (0 : Int32)) := D125 (Or.inl (hw _ (List.mem_of_getElem? (i := 84) rfl))) (ty := .int) (by decide)
      have F_reason_b125 : Fld Z h125 b125 "com/example/tranche/tranche/terms/Refusal" "reason" "Ljava/lang/String;" .null := D125 (Or.inr (hw _ (List.mem_of_getElem? (i := 88) rfl))) (ty := (.object "java/lang/String")) (by decide)
      obtain ⟨lg126, Y126, M126⟩ := stand_gen X125 N0
      obtain ⟨_, _, ⟨T127, L127, k127, n127⟩, -, X127, ⟨Lc127, hQ127, l127, y127, z127⟩, st127⟩ := Y126.specialBack hx (y := (⟨"com/example/tranche/tranche/terms/Refusal", "<init>", "(Ljava/lang/String;Ljava/lang/String;)V"⟩ : MethodName)) rfl hown (mvT hZ (hw _ (List.mem_of_getElem? (i := 36) rfl))) (mvT hZ (hw _ (List.mem_of_getElem? (i := 37) rfl))) (mvT hZ (hw _ (List.mem_of_getElem? (i := 38) rfl))) (by decide) (backOfKL (W := 1) (rm7 l Z a0 hw [] b125 la119 la121 h125 n0 cs ua us CS hcs O125 hl SUA SUS Z125 g_b125 A125 U125 _ _ _ _ _ F_cause_b125 F_stackTrace_b125 F_suppressedExceptions_b125 F_detailMessage_b125 F_backtrace_b125 F_reason_b125) hZ (hw _ (List.mem_of_getElem? (i := 38) rfl)) (hw _ (List.mem_of_getElem? (i := 35) rfl)) (by decide) (by decide) (Vm.MethodsKnown.alikeC hS.1.alike hK.1) (Vm.FramesKnown.alikeC hS.1.alike hK.2)) (g := (mkF m 216 #[.val (.int p1), .val (.int p2), .val (.int p3), .val (.int r0), .val (.int r1), .val (.int d0), .val (.int d1), .val (.int (1 : Int32)), .val (.int (1 : Int32)), .val (.ref la119), .val (.ref la121), .val (.ref la123), .unset, .unset] [(.ref la121), (.ref la119), (.ref b125), (.ref b125)])) rfl (by rw [hml]; rfl) (Steps.refl _) (a := b125) (argsL := [(.ref la119), (.ref la121)]) (rest := [(.ref b125)]) (lenOf pd22 rfl) rfl (by show 2 * 0 + _ ≤ _; exact Nat.le_of_eq rfl) (hb hby at_216) (fun _ _ => ⟨rfl, e125, (by decide : 7 + 1 ≤ _), (by decide : 56 + 2752 ≤ _)⟩)
      dsimp only [Pt.U, Pt.locs, Pt.cells, Pt.slots] at X127 l127 y127 z127 st127 hQ127
      subst l127 y127 z127
      obtain ⟨rfl, N127q, Kc127, G127_0, G127_1, G127_2⟩ := hQ127
      have N127 := Fr.app M126 N127q
      have E_la119_127 := E_la119_125.keep Kc127
      have F_la119_coder_127 := F_la119_coder_125.keep Kc127 (ninS ne_la119_b125 nin0)
      have F_la119_value_127 := F_la119_value_125.keep Kc127 (ninS ne_la119_b125 nin0)
      have V_lb119_127 := V_lb119_125.keep Kc127 (ninS ne_lb119_b125 nin0)
      have E_la121_127 := E_la121_125.keep Kc127
      have F_la121_coder_127 := F_la121_coder_125.keep Kc127 (ninS ne_la121_b125 nin0)
      have F_la121_value_127 := F_la121_value_125.keep Kc127 (ninS ne_la121_b125 nin0)
      have V_lb121_127 := V_lb121_125.keep Kc127 (ninS ne_lb121_b125 nin0)
      have E_la123_127 := E_la123_125.keep Kc127
      have F_la123_coder_127 := F_la123_coder_125.keep Kc127 (ninS ne_la123_b125 nin0)
      have F_la123_value_127 := F_la123_value_125.keep Kc127 (ninS ne_la123_b125 nin0)
      have V_lb123_127 := V_lb123_125.keep Kc127 (ninS ne_lb123_b125 nin0)
      have K127 : Keep h0 T127.heap [] := K125.trans Kc127 (allS (P := fun x => x ∈ ([] : List Addr) ∨ h0.size ≤ x) (Or.inr sz_b125) all0)
      have Z127 : n0 ≤ T127.heap.size := Nat.le_trans Z125 Kc127.1
      have O127 := Old.keep O125 Kc127 (allS g_b125 all0)
      have hs127 : ∀ x ∈ ([b125] : List Addr), Safe Z consts_1 T123.vm h125 x := (sfS (Safe.exa hZ.alike A125 (by decide) (by decide)) sf0)
      have r127 := CHr.keep Kc127 hs127 R125.1
      have R127 := R125.trans r127
      have hk127 := Nat.le_trans hk125 Kc127.1
      obtain ⟨lg128, Y128, M128⟩ := stand_gen X127 N127
      have pre130 : ∀ t, Steps p.tables e below (T127.setTop (mkF m 223 #[.val (.int p1), .val (.int p2), .val (.int p3), .val (.int r0), .val (.int r1), .val (.int d0), .val (.int d1), .val (.int (1 : Int32)), .val (.int (1 : Int32)), .val (.ref la119), .val (.ref la121), .val (.ref la123), .val (.ref b125), .unset] [(.ref b125)])) t → Steps p.tables e below (s₁.setTop (entryFrame m #[(.int p1), (.int p2), (.int p3)] maxLocals)) t := by
        intro t k
        refine pre124 t ?_
        refine st123 _ ?_
        show Steps p.tables e below (T123.setTop (mkF m 133 #[.val (.int p1), .val (.int p2), .val (.int p3), .val (.int r0), .val (.int r1), .val (.int d0), .val (.int d1), .val (.int (1 : Int32)), .val (.int (1 : Int32)), .val (.ref la119), .val (.ref la121), .unset, .unset, .unset] [(.ref la123)])) _
        refine XS.goto X123.here hx rfl (pc0 := 133) (pc' := 206) rfl (hb hby at_133) (by decide) (by decide) ?_
        show Steps p.tables e below (T123.setTop (mkF m 206 #[.val (.int p1), .val (.int p2), .val (.int p3), .val (.int r0), .val (.int r1), .val (.int d0), .val (.int d1), .val (.int (1 : Int32)), .val (.int (1 : Int32)), .val (.ref la119), .val (.ref la121), .unset, .unset, .unset] [(.ref la123)])) _
        refine XS.astore X123.here hx rfl (hb hby at_206) rfl rfl (l' := #[.val (.int p1), .val (.int p2), .val (.int p3), .val (.int r0), .val (.int r1), .val (.int d0), .val (.int d1), .val (.int (1 : Int32)), .val (.int (1 : Int32)), .val (.ref la119), .val (.ref la121), .val (.ref la123), .unset, .unset]) rfl ?_
        show Steps p.tables e below (T123.setTop (mkF m 208 #[.val (.int p1), .val (.int p2), .val (.int p3), .val (.int r0), .val (.int r1), .val (.int d0), .val (.int d1), .val (.int (1 : Int32)), .val (.int (1 : Int32)), .val (.ref la119), .val (.ref la121), .val (.ref la123), .unset, .unset] [])) _
        refine st125 _ ?_
        show Steps p.tables e below (T125.setTop (mkF m 211 #[.val (.int p1), .val (.int p2), .val (.int p3), .val (.int r0), .val (.int r1), .val (.int d0), .val (.int d1), .val (.int (1 : Int32)), .val (.int (1 : Int32)), .val (.ref la119), .val (.ref la121), .val (.ref la123), .unset, .unset] [(.ref b125)])) _
        refine XS.dup X125.here hx rfl (hb hby at_211) rfl rfl ?_
        show Steps p.tables e below (T125.setTop (mkF m 212 #[.val (.int p1), .val (.int p2), .val (.int p3), .val (.int r0), .val (.int r1), .val (.int d0), .val (.int d1), .val (.int (1 : Int32)), .val (.int (1 : Int32)), .val (.ref la119), .val (.ref la121), .val (.ref la123), .unset, .unset] [(.ref b125), (.ref b125)])) _
        refine XS.aload X125.here hx rfl (hb hby at_212) rfl rfl ?_
        show Steps p.tables e below (T125.setTop (mkF m 214 #[.val (.int p1), .val (.int p2), .val (.int p3), .val (.int r0), .val (.int r1), .val (.int d0), .val (.int d1), .val (.int (1 : Int32)), .val (.int (1 : Int32)), .val (.ref la119), .val (.ref la121), .val (.ref la123), .unset, .unset] [(.ref la119), (.ref b125), (.ref b125)])) _
        refine XS.aload X125.here hx rfl (hb hby at_214) rfl rfl ?_
        show Steps p.tables e below (T125.setTop (mkF m 216 #[.val (.int p1), .val (.int p2), .val (.int p3), .val (.int r0), .val (.int r1), .val (.int d0), .val (.int d1), .val (.int (1 : Int32)), .val (.int (1 : Int32)), .val (.ref la119), .val (.ref la121), .val (.ref la123), .unset, .unset] [(.ref la121), (.ref la119), (.ref b125), (.ref b125)])) _
        refine st127.trans ?_
        show Steps p.tables e below (T127.setTop (mkF m 219 #[.val (.int p1), .val (.int p2), .val (.int p3), .val (.int r0), .val (.int r1), .val (.int d0), .val (.int d1), .val (.int (1 : Int32)), .val (.int (1 : Int32)), .val (.ref la119), .val (.ref la121), .val (.ref la123), .unset, .unset] [(.ref b125)])) _
        refine XS.astore X127.here hx rfl (hb hby at_219) rfl rfl (l' := #[.val (.int p1), .val (.int p2), .val (.int p3), .val (.int r0), .val (.int r1), .val (.int d0), .val (.int d1), .val (.int (1 : Int32)), .val (.int (1 : Int32)), .val (.ref la119), .val (.ref la121), .val (.ref la123), .val (.ref b125), .unset]) rfl ?_
        show Steps p.tables e below (T127.setTop (mkF m 221 #[.val (.int p1), .val (.int p2), .val (.int p3), .val (.int r0), .val (.int r1), .val (.int d0), .val (.int d1), .val (.int (1 : Int32)), .val (.int (1 : Int32)), .val (.ref la119), .val (.ref la121), .val (.ref la123), .val (.ref b125), .unset] [])) _
        refine XS.aload X127.here hx rfl (hb hby at_221) rfl rfl ?_
        show Steps p.tables e below (T127.setTop (mkF m 223 #[.val (.int p1), .val (.int p2), .val (.int p3), .val (.int r0), .val (.int r1), .val (.int d0), .val (.int d1), .val (.int (1 : Int32)), .val (.int (1 : Int32)), .val (.ref la119), .val (.ref la121), .val (.ref la123), .val (.ref b125), .unset] [(.ref b125)])) _
        exact k
      obtain ⟨cq129, kq129, q129a, q129b, q129c⟩ := isOf hZ rfl G127_0
      obtain ⟨_, _, ⟨T129, L129, k129, n129⟩, -, Xq129, hSq129, hgq129, ⟨Lc129, hQ129, l129, y129, z129, hRq129⟩, st129⟩ := Y128.virtualBackS hx (y := (⟨"com/example/tranche/tranche/terms/Refusal", "report", "()Ljava/util/List;"⟩ : MethodName)) (z := (⟨"com/example/tranche/tranche/terms/Refusal", "report", "()Ljava/util/List;"⟩ : MethodName)) hown (mvT hZ (hw _ (List.mem_of_getElem? (i := 89) rfl))) (mvT hZ (hw _ (List.mem_of_getElem? (i := 90) rfl))) (notFace_of_selects (args := #[]) (mvT hZ (hw _ (List.mem_of_getElem? (i := 92) rfl)))) (mvT hZ (hw _ (List.mem_of_getElem? (i := 92) rfl))) (mvT hZ (hw _ (List.mem_of_getElem? (i := 91) rfl))) (by decide) (backOfSH (W := 0) (rm12 l Z a0 hw [] b125 T127.heap n0 cs la119 la121 lb119 lk119 litE CS hcs O127 G127_0 G127_2 G127_1 E_la121_127 E_la119_127 F_la119_coder_127 F_la119_value_127 V_lb119_127 (by decide) Z127) hZ (hw _ (List.mem_of_getElem? (i := 93) rfl)) (hw _ (List.mem_of_getElem? (i := 35) rfl)) (by decide) (by decide) hEL R127.1) q129a q129c (g := (mkF m 223 #[.val (.int p1), .val (.int p2), .val (.int p3), .val (.int r0), .val (.int r1), .val (.int d0), .val (.int d1), .val (.int (1 : Int32)), .val (.int (1 : Int32)), .val (.ref la119), .val (.ref la121), .val (.ref la123), .val (.ref b125), .unset] [(.ref b125)])) rfl (by rw [hml]; rfl) (Steps.refl _) (argsL := []) (rest := []) (lenOf pd23 rfl) rfl (by show 2 * 0 + _ ≤ _; exact Nat.le_of_eq rfl) (hb hby at_223) (fun _ _ => ⟨rfl, rfl, (by decide : 8 + 7 ≤ _), (by decide : 2808 + 208 ≤ _)⟩)
      dsimp only [Pt.U, Pt.locs, Pt.cells, Pt.slots] at Xq129 hSq129 hgq129 l129 y129 z129 st129 hQ129 hRq129
      subst l129 y129 z129
      obtain ⟨X129, hS, hZ, hown⟩ := rebS hS (by rw [show T127.heap = T127.heap from rfl]; exact hk127) Xq129 hSq129 hgq129 hZ hown
      obtain ⟨r'_129, s'_129, d'_129, k'_129, bs'_129, rfl, N129q, Kc129, G129_0, G129_1, G129_2, G129_3, G129_4, G129_5, G129_6, eqb_129, f_r'_129, f_s'_129, f_d'_129⟩ := hQ129
      have N129 := Fr.app M128 N129q
      have ne_la119_r'_129 : la119 ≠ r'_129 := Nat.ne_of_lt (Nat.lt_of_lt_of_le E_la119_127.lt f_r'_129)
      have ne_lb119_r'_129 : lb119 ≠ r'_129 := Nat.ne_of_lt (Nat.lt_of_lt_of_le V_lb119_127.lt f_r'_129)
      have ne_la121_r'_129 : la121 ≠ r'_129 := Nat.ne_of_lt (Nat.lt_of_lt_of_le E_la121_127.lt f_r'_129)
      have ne_lb121_r'_129 : lb121 ≠ r'_129 := Nat.ne_of_lt (Nat.lt_of_lt_of_le V_lb121_127.lt f_r'_129)
      have ne_la123_r'_129 : la123 ≠ r'_129 := Nat.ne_of_lt (Nat.lt_of_lt_of_le E_la123_127.lt f_r'_129)
      have ne_lb123_r'_129 : lb123 ≠ r'_129 := Nat.ne_of_lt (Nat.lt_of_lt_of_le V_lb123_127.lt f_r'_129)
      have ne_b125_r'_129 : b125 ≠ r'_129 := Nat.ne_of_lt (Nat.lt_of_lt_of_le G127_0.lt f_r'_129)
      have g_r'_129 : n0 ≤ r'_129 := Nat.le_trans Z127 f_r'_129
      have sz_r'_129 : h0.size ≤ r'_129 := Nat.le_trans K127.1 f_r'_129
      have ne_la119_s'_129 : la119 ≠ s'_129 := Nat.ne_of_lt (Nat.lt_of_lt_of_le E_la119_127.lt f_s'_129)
      have ne_lb119_s'_129 : lb119 ≠ s'_129 := Nat.ne_of_lt (Nat.lt_of_lt_of_le V_lb119_127.lt f_s'_129)
      have ne_la121_s'_129 : la121 ≠ s'_129 := Nat.ne_of_lt (Nat.lt_of_lt_of_le E_la121_127.lt f_s'_129)
      have ne_lb121_s'_129 : lb121 ≠ s'_129 := Nat.ne_of_lt (Nat.lt_of_lt_of_le V_lb121_127.lt f_s'_129)
      have ne_la123_s'_129 : la123 ≠ s'_129 := Nat.ne_of_lt (Nat.lt_of_lt_of_le E_la123_127.lt f_s'_129)
      have ne_lb123_s'_129 : lb123 ≠ s'_129 := Nat.ne_of_lt (Nat.lt_of_lt_of_le V_lb123_127.lt f_s'_129)
      have ne_b125_s'_129 : b125 ≠ s'_129 := Nat.ne_of_lt (Nat.lt_of_lt_of_le G127_0.lt f_s'_129)
      have g_s'_129 : n0 ≤ s'_129 := Nat.le_trans Z127 f_s'_129
      have sz_s'_129 : h0.size ≤ s'_129 := Nat.le_trans K127.1 f_s'_129
      have ne_la119_d'_129 : la119 ≠ d'_129 := Nat.ne_of_lt (Nat.lt_of_lt_of_le E_la119_127.lt f_d'_129)
      have ne_lb119_d'_129 : lb119 ≠ d'_129 := Nat.ne_of_lt (Nat.lt_of_lt_of_le V_lb119_127.lt f_d'_129)
      have ne_la121_d'_129 : la121 ≠ d'_129 := Nat.ne_of_lt (Nat.lt_of_lt_of_le E_la121_127.lt f_d'_129)
      have ne_lb121_d'_129 : lb121 ≠ d'_129 := Nat.ne_of_lt (Nat.lt_of_lt_of_le V_lb121_127.lt f_d'_129)
      have ne_la123_d'_129 : la123 ≠ d'_129 := Nat.ne_of_lt (Nat.lt_of_lt_of_le E_la123_127.lt f_d'_129)
      have ne_lb123_d'_129 : lb123 ≠ d'_129 := Nat.ne_of_lt (Nat.lt_of_lt_of_le V_lb123_127.lt f_d'_129)
      have ne_b125_d'_129 : b125 ≠ d'_129 := Nat.ne_of_lt (Nat.lt_of_lt_of_le G127_0.lt f_d'_129)
      have g_d'_129 : n0 ≤ d'_129 := Nat.le_trans Z127 f_d'_129
      have sz_d'_129 : h0.size ≤ d'_129 := Nat.le_trans K127.1 f_d'_129
      have E_la119_129 := E_la119_127.keep Kc129
      have F_la119_coder_129 := F_la119_coder_127.keep Kc129 nin0
      have F_la119_value_129 := F_la119_value_127.keep Kc129 nin0
      have V_lb119_129 := V_lb119_127.keep Kc129 nin0
      have E_la121_129 := E_la121_127.keep Kc129
      have F_la121_coder_129 := F_la121_coder_127.keep Kc129 nin0
      have F_la121_value_129 := F_la121_value_127.keep Kc129 nin0
      have V_lb121_129 := V_lb121_127.keep Kc129 nin0
      have E_la123_129 := E_la123_127.keep Kc129
      have F_la123_coder_129 := F_la123_coder_127.keep Kc129 nin0
      have F_la123_value_129 := F_la123_value_127.keep Kc129 nin0
      have V_lb123_129 := V_lb123_127.keep Kc129 nin0
      have E_b125_129 := G127_0.keep Kc129
      have F_b125_detailMessage_129 := G127_1.keep Kc129 nin0
      have F_b125_reason_129 := G127_2.keep Kc129 nin0
      have K129 : Keep h0 T129.heap [] := K127.trans Kc129 all0
      have Z129 : n0 ≤ T129.heap.size := Nat.le_trans Z127 Kc129.1
      have O129 := Old.keep O127 Kc129 all0
      have r129 := hRq129
      have R129 := R127.trans r129
      have hk129 := Nat.le_trans hk127 Kc129.1
      have hkw129 : T129.heap.size ≤ T129.heap.size := Nat.le_refl _
      obtain ⟨lg131, Y131, M131⟩ := stand_gen X129 N129
      obtain ⟨cq132, kq132, q132a, q132b, q132c⟩ := isOf hZ rfl G129_0
      obtain ⟨_, _, ⟨T132, L132, k132, n132⟩, -, X132, ⟨Lc132, hQ132, l132, y132, z132⟩, st132⟩ := Y131.interfaceBack hx (xi := (⟨"java/util/List", "size", "()I"⟩ : MethodName)) (y := (⟨"java/util/ImmutableCollections$List12", "size", "()I"⟩ : MethodName)) hown (mvT hZ (hw _ (List.mem_of_getElem? (i := 249) rfl))) (mvT hZ (hw _ (List.mem_of_getElem? (i := 250) rfl))) (mvT hZ (hw _ (List.mem_of_getElem? (i := 251) rfl))) (mvT hZ (hw _ (List.mem_of_getElem? (i := 252) rfl))) (mvT hZ (hw _ (List.mem_of_getElem? (i := 253) rfl))) (mvT hZ (hw _ (List.mem_of_getElem? (i := 254) rfl))) (mvT hZ (hw _ (List.mem_of_getElem? (i := 255) rfl))) (mvT hZ (hw _ (List.mem_of_getElem? (i := 256) rfl))) (by decide) (backOf (W := 0) (rm41 l Z a0 hw [] r'_129 T129.heap n0 em s'_129 la121 EM E_em O129 E_la121_129 G129_1 G129_2) hZ (hw _ (List.mem_of_getElem? (i := 257) rfl)) (hw _ (List.mem_of_getElem? (i := 217) rfl)) (by decide) (by decide)) q132a q132b q132c (g := (mkF m 230 #[.val (.int p1), .val (.int p2), .val (.int p3), .val (.int r0), .val (.int r1), .val (.int d0), .val (.int d1), .val (.int (1 : Int32)), .val (.int (1 : Int32)), .val (.ref la119), .val (.ref la121), .val (.ref la123), .val (.ref b125), .val (.ref r'_129)] [(.ref r'_129)])) rfl (by rw [hml]; rfl) (Steps.refl _) (argsL := []) (rest := []) (lenOf pd3 rfl) rfl (by show 2 * 0 + _ ≤ _; exact Nat.le_of_eq rfl) (hb hby at_230) (fun _ _ => ⟨rfl, rfl, (by decide : 15 + 0 ≤ _), (by decide : 3016 + 0 ≤ _)⟩)
      dsimp only [Pt.U, Pt.locs, Pt.cells, Pt.slots] at X132 l132 y132 z132 st132 hQ132
      subst l132 y132 z132
      obtain ⟨rfl, N132q, e132⟩ := hQ132
      have N132 := Fr.app M131 N132q
      obtain ⟨lg133, Y133, M133⟩ := stand_gen X132 N132
      obtain ⟨cq134, kq134, q134a, q134b, q134c⟩ := isOf hZ e132 G129_0
      obtain ⟨_, _, ⟨T134, L134, k134, n134⟩, -, X134, ⟨Lc134, hQ134, l134, y134, z134⟩, st134⟩ := Y133.interfaceBack hx (xi := (⟨"java/util/List", "get", "(I)Ljava/lang/Object;"⟩ : MethodName)) (y := (⟨"java/util/ImmutableCollections$List12", "get", "(I)Ljava/lang/Object;"⟩ : MethodName)) hown (mvT hZ (hw _ (List.mem_of_getElem? (i := 260) rfl))) (mvT hZ (hw _ (List.mem_of_getElem? (i := 261) rfl))) (mvT hZ (hw _ (List.mem_of_getElem? (i := 262) rfl))) (mvT hZ (hw _ (List.mem_of_getElem? (i := 263) rfl))) (mvT hZ (hw _ (List.mem_of_getElem? (i := 264) rfl))) (mvT hZ (hw _ (List.mem_of_getElem? (i := 265) rfl))) (mvT hZ (hw _ (List.mem_of_getElem? (i := 266) rfl))) (mvT hZ (hw _ (List.mem_of_getElem? (i := 256) rfl))) (by decide) (backOf (W := 1) (rm42 l Z a0 hw [] r'_129 T129.heap n0 em s'_129 la121 EM E_em O129 E_la121_129 G129_1 G129_2) hZ (hw _ (List.mem_of_getElem? (i := 267) rfl)) (hw _ (List.mem_of_getElem? (i := 217) rfl)) (by decide) (by decide)) q134a q134b q134c (g := (mkF m 246 #[.val (.int p1), .val (.int p2), .val (.int p3), .val (.int r0), .val (.int r1), .val (.int d0), .val (.int d1), .val (.int (1 : Int32)), .val (.int (1 : Int32)), .val (.ref la119), .val (.ref la121), .val (.ref la123), .val (.ref b125), .val (.ref r'_129)] [(.int (0 : Int32)), (.ref r'_129), (.ref la123)])) rfl (by rw [hml]; rfl) (Steps.refl _) (argsL := [(.int (0 : Int32))]) (rest := [(.ref la123)]) (lenOf pd24 rfl) rfl (by show 2 * 0 + _ ≤ _; exact Nat.le_of_eq rfl) (hb hby at_246) (fun _ _ => ⟨rfl, e132, (by decide : 15 + 0 ≤ _), (by decide : 3016 + 0 ≤ _)⟩)
      dsimp only [Pt.U, Pt.locs, Pt.cells, Pt.slots] at X134 l134 y134 z134 st134 hQ134
      subst l134 y134 z134
      obtain ⟨rfl, N134q, e134⟩ := hQ134
      have N134 := Fr.app M133 N134q
      obtain ⟨lg135, Y135, M135⟩ := stand_gen X134 N134
      obtain ⟨cq136, kq136, q136a, q136b, q136c⟩ := isOf hZ e134 E_la123_129
      obtain ⟨_, _, ⟨T136, L136, k136, n136⟩, -, X136, ⟨Lc136, hQ136, l136, y136, z136⟩, st136⟩ := Y135.virtualBack hx (y := (⟨"java/lang/String", "equals", "(Ljava/lang/Object;)Z"⟩ : MethodName)) (z := (⟨"java/lang/String", "equals", "(Ljava/lang/Object;)Z"⟩ : MethodName)) hown (mvT hZ (hw _ (List.mem_of_getElem? (i := 268) rfl))) (mvT hZ (hw _ (List.mem_of_getElem? (i := 269) rfl))) (notFace_of_selects (args := #[]) (mvT hZ (hw _ (List.mem_of_getElem? (i := 271) rfl)))) (mvT hZ (hw _ (List.mem_of_getElem? (i := 271) rfl))) (mvT hZ (hw _ (List.mem_of_getElem? (i := 270) rfl))) (by decide) (payEq (h := T129.heap) (W := 0) (cs := litR) (n0 := n0) hZ hw E_la123_129 F_la123_coder_129 F_la123_value_129 V_lb123_129 G129_3 G129_4 G129_5 G129_6 rfl (by rw [eqb_129]; exact (List.append_nil litR).trans litR_low) (by decide) (Nat.le_of_ble_eq_true rfl) (CS.ext O129.2) hcs (by decide) (by decide)) q136a q136c (g := (mkF m 251 #[.val (.int p1), .val (.int p2), .val (.int p3), .val (.int r0), .val (.int r1), .val (.int d0), .val (.int d1), .val (.int (1 : Int32)), .val (.int (1 : Int32)), .val (.ref la119), .val (.ref la121), .val (.ref la123), .val (.ref b125), .val (.ref r'_129)] [(.ref s'_129), (.ref la123)])) rfl (by rw [hml]; rfl) (Steps.refl _) (argsL := [(.ref s'_129)]) (rest := []) (lenOf pd25 rfl) rfl (by show 2 * 0 + _ ≤ _; exact Nat.le_of_eq rfl) (hb hby at_251) (fun _ _ => ⟨rfl, e134, (by decide : 15 + 0 ≤ _), (by decide : 3016 + 0 ≤ _)⟩)
      dsimp only [Pt.U, Pt.locs, Pt.cells, Pt.slots] at X136 l136 y136 z136 st136 hQ136
      subst l136 y136 z136
      obtain ⟨rfl, N136q, e136⟩ := hQ136
      have N136 := Fr.app M135 N136q
      obtain ⟨lg137, Y137, M137⟩ := stand_gen X136 N136
      obtain ⟨cq138, kq138, q138a, q138b, q138c⟩ := isOf hZ e136 G129_0
      obtain ⟨_, _, ⟨T138, L138, k138, n138⟩, -, X138, ⟨Lc138, hQ138, l138, y138, z138⟩, st138⟩ := Y137.interfaceBack hx (xi := (⟨"java/util/List", "get", "(I)Ljava/lang/Object;"⟩ : MethodName)) (y := (⟨"java/util/ImmutableCollections$List12", "get", "(I)Ljava/lang/Object;"⟩ : MethodName)) hown (mvT hZ (hw _ (List.mem_of_getElem? (i := 260) rfl))) (mvT hZ (hw _ (List.mem_of_getElem? (i := 261) rfl))) (mvT hZ (hw _ (List.mem_of_getElem? (i := 262) rfl))) (mvT hZ (hw _ (List.mem_of_getElem? (i := 263) rfl))) (mvT hZ (hw _ (List.mem_of_getElem? (i := 264) rfl))) (mvT hZ (hw _ (List.mem_of_getElem? (i := 265) rfl))) (mvT hZ (hw _ (List.mem_of_getElem? (i := 266) rfl))) (mvT hZ (hw _ (List.mem_of_getElem? (i := 256) rfl))) (by decide) (backOf (W := 1) (rm42b l Z a0 hw [] r'_129 T129.heap n0 em s'_129 la121 EM E_em O129 E_la121_129 G129_1 G129_2) hZ (hw _ (List.mem_of_getElem? (i := 267) rfl)) (hw _ (List.mem_of_getElem? (i := 217) rfl)) (by decide) (by decide)) q138a q138b q138c (g := (mkF m 262 #[.val (.int p1), .val (.int p2), .val (.int p3), .val (.int r0), .val (.int r1), .val (.int d0), .val (.int d1), .val (.int (1 : Int32)), .val (.int (1 : Int32)), .val (.ref la119), .val (.ref la121), .val (.ref la123), .val (.ref b125), .val (.ref r'_129)] [(.int (1 : Int32)), (.ref r'_129), (.ref la121)])) rfl (by rw [hml]; rfl) (Steps.refl _) (argsL := [(.int (1 : Int32))]) (rest := [(.ref la121)]) (lenOf pd24 rfl) rfl (by show 2 * 0 + _ ≤ _; exact Nat.le_of_eq rfl) (hb hby at_262) (fun _ _ => ⟨rfl, e136, (by decide : 15 + 0 ≤ _), (by decide : 3016 + 0 ≤ _)⟩)
      dsimp only [Pt.U, Pt.locs, Pt.cells, Pt.slots] at X138 l138 y138 z138 st138 hQ138
      subst l138 y138 z138
      obtain ⟨rfl, N138q, e138⟩ := hQ138
      have N138 := Fr.app M137 N138q
      obtain ⟨lg139, Y139, M139⟩ := stand_gen X138 N138
      obtain ⟨cq140, kq140, q140a, q140b, q140c⟩ := isOf hZ e138 E_la121_129
      obtain ⟨_, _, ⟨T140, L140, k140, n140⟩, -, X140, ⟨Lc140, hQ140, l140, y140, z140⟩, st140⟩ := Y139.virtualBack hx (y := (⟨"java/lang/String", "equals", "(Ljava/lang/Object;)Z"⟩ : MethodName)) (z := (⟨"java/lang/String", "equals", "(Ljava/lang/Object;)Z"⟩ : MethodName)) hown (mvT hZ (hw _ (List.mem_of_getElem? (i := 268) rfl))) (mvT hZ (hw _ (List.mem_of_getElem? (i := 269) rfl))) (notFace_of_selects (args := #[]) (mvT hZ (hw _ (List.mem_of_getElem? (i := 271) rfl)))) (mvT hZ (hw _ (List.mem_of_getElem? (i := 271) rfl))) (mvT hZ (hw _ (List.mem_of_getElem? (i := 270) rfl))) (by decide) (payEq (h := T129.heap) (W := 0) (cs := litE) (n0 := n0) hZ hw E_la121_129 F_la121_coder_129 F_la121_value_129 V_lb121_129 E_la121_129 F_la121_coder_129 F_la121_value_129 V_lb121_129 rfl rfl (by decide) (Nat.le_of_ble_eq_true rfl) (CS.ext O129.2) hcs (by decide) (by decide)) q140a q140c (g := (mkF m 267 #[.val (.int p1), .val (.int p2), .val (.int p3), .val (.int r0), .val (.int r1), .val (.int d0), .val (.int d1), .val (.int (1 : Int32)), .val (.int (1 : Int32)), .val (.ref la119), .val (.ref la121), .val (.ref la123), .val (.ref b125), .val (.ref r'_129)] [(.ref la121), (.ref la121)])) rfl (by rw [hml]; rfl) (Steps.refl _) (argsL := [(.ref la121)]) (rest := []) (lenOf pd25 rfl) rfl (by show 2 * 0 + _ ≤ _; exact Nat.le_of_eq rfl) (hb hby at_267) (fun _ _ => ⟨rfl, e138, (by decide : 15 + 0 ≤ _), (by decide : 3016 + 0 ≤ _)⟩)
      dsimp only [Pt.U, Pt.locs, Pt.cells, Pt.slots] at X140 l140 y140 z140 st140 hQ140
      subst l140 y140 z140
      obtain ⟨rfl, N140q, e140⟩ := hQ140
      have N140 := Fr.app M139 N140q
      refine hneg ?_
      have hR := R129.trans (CHv.at X140 hZ hEL R129.1)
      obtain ⟨fs, hr, hrun, hended, hW⟩ := X140.leaveW (v := some (.int (1 : Int32))) hS (by rw [show T140.heap = T129.heap from e140]; exact hkw129) (fun h => by rw [Bd.returns] at h; cases h)
      refine ⟨_, _, pre130 _ ?_, hrun, hended, _, _, rfl, ?_, ?_, rew_mono hW (by decide) (by decide)⟩
      · refine st129.trans ?_
        show Steps p.tables e below (T129.setTop (mkF m 226 #[.val (.int p1), .val (.int p2), .val (.int p3), .val (.int r0), .val (.int r1), .val (.int d0), .val (.int d1), .val (.int (1 : Int32)), .val (.int (1 : Int32)), .val (.ref la119), .val (.ref la121), .val (.ref la123), .val (.ref b125), .unset] [(.ref r'_129)])) _
        refine XS.astore X129.here hx rfl (hb hby at_226) rfl rfl (l' := #[.val (.int p1), .val (.int p2), .val (.int p3), .val (.int r0), .val (.int r1), .val (.int d0), .val (.int d1), .val (.int (1 : Int32)), .val (.int (1 : Int32)), .val (.ref la119), .val (.ref la121), .val (.ref la123), .val (.ref b125), .val (.ref r'_129)]) rfl ?_
        show Steps p.tables e below (T129.setTop (mkF m 228 #[.val (.int p1), .val (.int p2), .val (.int p3), .val (.int r0), .val (.int r1), .val (.int d0), .val (.int d1), .val (.int (1 : Int32)), .val (.int (1 : Int32)), .val (.ref la119), .val (.ref la121), .val (.ref la123), .val (.ref b125), .val (.ref r'_129)] [])) _
        refine XS.aload X129.here hx rfl (hb hby at_228) rfl rfl ?_
        show Steps p.tables e below (T129.setTop (mkF m 230 #[.val (.int p1), .val (.int p2), .val (.int p3), .val (.int r0), .val (.int r1), .val (.int d0), .val (.int d1), .val (.int (1 : Int32)), .val (.int (1 : Int32)), .val (.ref la119), .val (.ref la121), .val (.ref la123), .val (.ref b125), .val (.ref r'_129)] [(.ref r'_129)])) _
        refine st132.trans ?_
        show Steps p.tables e below (T132.setTop (mkF m 235 #[.val (.int p1), .val (.int p2), .val (.int p3), .val (.int r0), .val (.int r1), .val (.int d0), .val (.int d1), .val (.int (1 : Int32)), .val (.int (1 : Int32)), .val (.ref la119), .val (.ref la121), .val (.ref la123), .val (.ref b125), .val (.ref r'_129)] [(.int (2 : Int32))])) _
        refine XS.iconst X132.here hx rfl (hb hby at_235) ?_
        show Steps p.tables e below (T132.setTop (mkF m 236 #[.val (.int p1), .val (.int p2), .val (.int p3), .val (.int r0), .val (.int r1), .val (.int d0), .val (.int d1), .val (.int (1 : Int32)), .val (.int (1 : Int32)), .val (.ref la119), .val (.ref la121), .val (.ref la123), .val (.ref b125), .val (.ref r'_129)] [(.int (2 : Int32)), (.int (2 : Int32))])) _
        refine XS.icmpYes X132.here hx rfl (pc0 := 236) (pc' := 241) rfl (hb hby at_236) rfl (teq (by decide : (2 : Int32) = (2 : Int32))).1 (by decide) (by decide) ?_
        show Steps p.tables e below (T132.setTop (mkF m 241 #[.val (.int p1), .val (.int p2), .val (.int p3), .val (.int r0), .val (.int r1), .val (.int d0), .val (.int d1), .val (.int (1 : Int32)), .val (.int (1 : Int32)), .val (.ref la119), .val (.ref la121), .val (.ref la123), .val (.ref b125), .val (.ref r'_129)] [])) _
        refine XS.aload X132.here hx rfl (hb hby at_241) rfl rfl ?_
        show Steps p.tables e below (T132.setTop (mkF m 243 #[.val (.int p1), .val (.int p2), .val (.int p3), .val (.int r0), .val (.int r1), .val (.int d0), .val (.int d1), .val (.int (1 : Int32)), .val (.int (1 : Int32)), .val (.ref la119), .val (.ref la121), .val (.ref la123), .val (.ref b125), .val (.ref r'_129)] [(.ref la123)])) _
        refine XS.aload X132.here hx rfl (hb hby at_243) rfl rfl ?_
        show Steps p.tables e below (T132.setTop (mkF m 245 #[.val (.int p1), .val (.int p2), .val (.int p3), .val (.int r0), .val (.int r1), .val (.int d0), .val (.int d1), .val (.int (1 : Int32)), .val (.int (1 : Int32)), .val (.ref la119), .val (.ref la121), .val (.ref la123), .val (.ref b125), .val (.ref r'_129)] [(.ref r'_129), (.ref la123)])) _
        refine XS.iconst X132.here hx rfl (hb hby at_245) ?_
        show Steps p.tables e below (T132.setTop (mkF m 246 #[.val (.int p1), .val (.int p2), .val (.int p3), .val (.int r0), .val (.int r1), .val (.int d0), .val (.int d1), .val (.int (1 : Int32)), .val (.int (1 : Int32)), .val (.ref la119), .val (.ref la121), .val (.ref la123), .val (.ref b125), .val (.ref r'_129)] [(.int (0 : Int32)), (.ref r'_129), (.ref la123)])) _
        refine st134.trans ?_
        show Steps p.tables e below (T134.setTop (mkF m 251 #[.val (.int p1), .val (.int p2), .val (.int p3), .val (.int r0), .val (.int r1), .val (.int d0), .val (.int d1), .val (.int (1 : Int32)), .val (.int (1 : Int32)), .val (.ref la119), .val (.ref la121), .val (.ref la123), .val (.ref b125), .val (.ref r'_129)] [(.ref s'_129), (.ref la123)])) _
        refine st136.trans ?_
        show Steps p.tables e below (T136.setTop (mkF m 254 #[.val (.int p1), .val (.int p2), .val (.int p3), .val (.int r0), .val (.int r1), .val (.int d0), .val (.int d1), .val (.int (1 : Int32)), .val (.int (1 : Int32)), .val (.ref la119), .val (.ref la121), .val (.ref la123), .val (.ref b125), .val (.ref r'_129)] [(.int (1 : Int32))])) _
        refine XS.ifNo X136.here hx rfl (hb hby at_254) rfl ((if0 _ _).trans (feq (by decide : ¬ ((1 : Int32) = (0 : Int32)))).1) ?_
        show Steps p.tables e below (T136.setTop (mkF m 257 #[.val (.int p1), .val (.int p2), .val (.int p3), .val (.int r0), .val (.int r1), .val (.int d0), .val (.int d1), .val (.int (1 : Int32)), .val (.int (1 : Int32)), .val (.ref la119), .val (.ref la121), .val (.ref la123), .val (.ref b125), .val (.ref r'_129)] [])) _
        refine XS.aload X136.here hx rfl (hb hby at_257) rfl rfl ?_
        show Steps p.tables e below (T136.setTop (mkF m 259 #[.val (.int p1), .val (.int p2), .val (.int p3), .val (.int r0), .val (.int r1), .val (.int d0), .val (.int d1), .val (.int (1 : Int32)), .val (.int (1 : Int32)), .val (.ref la119), .val (.ref la121), .val (.ref la123), .val (.ref b125), .val (.ref r'_129)] [(.ref la121)])) _
        refine XS.aload X136.here hx rfl (hb hby at_259) rfl rfl ?_
        show Steps p.tables e below (T136.setTop (mkF m 261 #[.val (.int p1), .val (.int p2), .val (.int p3), .val (.int r0), .val (.int r1), .val (.int d0), .val (.int d1), .val (.int (1 : Int32)), .val (.int (1 : Int32)), .val (.ref la119), .val (.ref la121), .val (.ref la123), .val (.ref b125), .val (.ref r'_129)] [(.ref r'_129), (.ref la121)])) _
        refine XS.iconst X136.here hx rfl (hb hby at_261) ?_
        show Steps p.tables e below (T136.setTop (mkF m 262 #[.val (.int p1), .val (.int p2), .val (.int p3), .val (.int r0), .val (.int r1), .val (.int d0), .val (.int d1), .val (.int (1 : Int32)), .val (.int (1 : Int32)), .val (.ref la119), .val (.ref la121), .val (.ref la123), .val (.ref b125), .val (.ref r'_129)] [(.int (1 : Int32)), (.ref r'_129), (.ref la121)])) _
        refine st138.trans ?_
        show Steps p.tables e below (T138.setTop (mkF m 267 #[.val (.int p1), .val (.int p2), .val (.int p3), .val (.int r0), .val (.int r1), .val (.int d0), .val (.int d1), .val (.int (1 : Int32)), .val (.int (1 : Int32)), .val (.ref la119), .val (.ref la121), .val (.ref la123), .val (.ref b125), .val (.ref r'_129)] [(.ref la121), (.ref la121)])) _
        refine st140.trans ?_
        show Steps p.tables e below (T140.setTop (mkF m 270 #[.val (.int p1), .val (.int p2), .val (.int p3), .val (.int r0), .val (.int r1), .val (.int d0), .val (.int d1), .val (.int (1 : Int32)), .val (.int (1 : Int32)), .val (.ref la119), .val (.ref la121), .val (.ref la123), .val (.ref b125), .val (.ref r'_129)] [(.int (1 : Int32))])) _
        refine XS.ifNo X140.here hx rfl (hb hby at_270) rfl ((if0 _ _).trans (feq (by decide : ¬ ((1 : Int32) = (0 : Int32)))).1) ?_
        show Steps p.tables e below (T140.setTop (mkF m 273 #[.val (.int p1), .val (.int p2), .val (.int p3), .val (.int r0), .val (.int r1), .val (.int d0), .val (.int d1), .val (.int (1 : Int32)), .val (.int (1 : Int32)), .val (.ref la119), .val (.ref la121), .val (.ref la123), .val (.ref b125), .val (.ref r'_129)] [])) _
        refine XS.iconst X140.here hx rfl (hb hby at_273) ?_
        show Steps p.tables e below (T140.setTop (mkF m 274 #[.val (.int p1), .val (.int p2), .val (.int p3), .val (.int r0), .val (.int r1), .val (.int d0), .val (.int d1), .val (.int (1 : Int32)), .val (.int (1 : Int32)), .val (.ref la119), .val (.ref la121), .val (.ref la123), .val (.ref b125), .val (.ref r'_129)] [(.int (1 : Int32))])) _
        refine XS.goto X140.here hx rfl (pc0 := 274) (pc' := 278) rfl (hb hby at_274) (by decide) (by decide) ?_
        show Steps p.tables e below (T140.setTop (mkF m 278 #[.val (.int p1), .val (.int p2), .val (.int p3), .val (.int r0), .val (.int r1), .val (.int d0), .val (.int d1), .val (.int (1 : Int32)), .val (.int (1 : Int32)), .val (.ref la119), .val (.ref la121), .val (.ref la123), .val (.ref b125), .val (.ref r'_129)] [(.int (1 : Int32))])) _
        exact retN X140 hx (t := .boolean) Bd.returns (by simp) (hb hby at_278) hr
      · show Q0 Z p1 p2 p3 cs ua us em h0 n0 _ T140.heap _
        rw [e140]
        exact ⟨rfl, N140⟩
      · show CHr Z consts_1 s.vm s.heap T140.vm T140.heap
        rw [hh, show T140.heap = T129.heap from e140]; exact hR

theorem known_of {vm : Vm} {m : MethodId} (h : methodKnown vm m = true) : vm.knowsMethod m := by
  unfold methodKnown at h
  cases hk : vm.classes[m.cls]? with
  | none => simp [hk] at h
  | some k => exact ⟨k, hk, fun cf hcf => by simpa [hk, hcf] using h⟩
theorem known_1 {s : State} {m : MethodId} {args : Array Value} {below : List Frame} (hF : framesKnown s = true) (hT : tablesKnown s = true) (hf : s.frames = .invoking m args :: below) : s.vm.MethodsKnown ∧ s.vm.FramesKnown below := by
  constructor
  · intro m x hm
    unfold Vm.method? at hm
    cases hk : s.vm.classes[m.cls]? with
    | none => simp [hk] at hm
    | some k =>
      simp only [hk, Option.bind_some] at hm
      refine ⟨k, hk, fun cf hcf => ?_⟩
      have h1 := (Array.all_eq_true_iff_forall_mem.mp hT) k (Array.mem_of_getElem? hk)
      simp only [hcf, beq_iff_eq] at h1
      have hlt : m.idx < k.methods.size := (Array.getElem?_eq_some_iff.mp hm).1
      rw [h1] at hlt
      simp [hlt]
  · intro y hy m' hm'
    unfold framesKnown at hF
    rw [hf] at hF
    have h1 := (List.all_eq_true.mp hF) y (List.mem_cons_of_mem _ hy)
    cases y with
    | java g => cases hm'; exact known_of h1
    | native n => cases hm'; exact known_of h1
    | _ => cases hm'

set_option maxRecDepth 65536 in
set_option maxHeartbeats 40000000 in
theorem comes_1 {Post : Tables → Env → Array Value → State → Outcome → State → Prop} (hpost : ∀ tb e args s v u, (limb_1_1.after args s (.returned v) u = true ∧ limb_1_2.after args s (.returned v) u = true ∧ True) → FramedW s (.returned v) u (Jvm.fieldLocs frame_1_writes args s ++ Jvm.arrayLocs frame_1_arrays args s ++ Jvm.staticLocs frame_1_statics s) 48 8832 → Post tb e args s (.returned v) u) :
    ArmFor flags0 classFile x code maxLocals ret World_1 tables_1 room_1 Calls_1 rest_1 Pre_1 Post := by
  intro l hfl _ _ p e ha hc hk s m args below hf hA hF happ hP
  obtain ⟨hcalls, hrest, hpre⟩ := hP
  obtain ⟨-, -, -, hnamed, -, -, -, hat⟩ := (Spec.applies_iff hf).mp happ
  obtain ⟨hg, hn⟩ := and_e (Cond.before_iff.mp (show (Jvm.Cond.and given_1 narrow_1).before args s = true from hpre))
  obtain ⟨gc, g0⟩ := and_e hg
  obtain ⟨ga0, gb0⟩ := and_e g0
  obtain ⟨ga1, gb1⟩ := and_e gb0
  obtain ⟨w0, w1, w2, rfl⟩ : ∃ w0 w1 w2 : Value, args = #[w0, w1, w2] := by
    have hs : args.size = 3 := by simpa [Cond.value, given_1] using gc
    obtain ⟨L⟩ := args
    match L, hs with
    | [w0, w1, w2], _ => exact ⟨w0, w1, w2, rfl⟩
  have hw := fun d (hd : d ∈ tables_1) => atoms_spec (ws := Jvm.Cond.code x code maxLocals ret :: tables_1) hat d (List.mem_cons_of_mem _ hd)
  have hfit : Fit s := fun {y c} hc i hi => by
    obtain ⟨ha, rfl⟩ := Array.getElem?_eq_some_iff.mp hc
    have q := List.all_eq_true.mp ((Array.all_eq_true_iff_forall_mem.mp hF) _ (Array.getElem_mem ha)) i (List.mem_range.mpr hi)
    simpa [Array.getElem?_eq_getElem hi] using q
  obtain ⟨i0, ei0⟩ := is_v ga0
  obtain rfl : w0 = (.int i0) := Option.some.inj ei0
  obtain ⟨i1, ei1⟩ := is_v ga1
  obtain rfl : w1 = (.int i1) := Option.some.inj ei1
  obtain ⟨i2, ei2⟩ := is_v gb1
  obtain rfl : w2 = (.int i2) := Option.some.inj ei2
  obtain ⟨hsets, hown0⟩ := atoms_of _ (rest_1_c_eq ▸ (show rest_1_c.before _ s = true from hrest))
  have n3 := not_v (Cond.before_iff.mp (hsets _ (List.mem_of_getElem? (i := 2) rfl)))
  obtain ⟨cs, e6⟩ := is_v (Cond.before_iff.mp (hsets _ (List.mem_of_getElem? (i := 1) rfl)))
  have CS : Sta s s.heap "java/lang/String" "COMPACT_STRINGS" "Z" (.int cs) := Sta.start e6 (Or.inl (hsets _ (List.mem_of_getElem? (i := 0) rfl)))
  have hcs : ¬ (cs = (0 : Int32)) := gotF (Cond.eq_ints e6 (Term.int_eval (0))) n3
  obtain ⟨ua, eua⟩ := arr_v (Cond.before_iff.mp (hsets _ (List.mem_of_getElem? (i := 17) rfl)))
  have SUA : Sta s s.heap "java/lang/Throwable" "UNASSIGNED_STACK" "[Ljava/lang/StackTraceElement;" (.ref ua) := Sta.start eua (Or.inl (hsets _ (List.mem_of_getElem? (i := 15) rfl)))
  obtain ⟨us, eus⟩ := exa_v (Cond.before_iff.mp (hsets _ (List.mem_of_getElem? (i := 22) rfl)))
  have SUS : Sta s s.heap "java/lang/Throwable" "SUPPRESSED_SENTINEL" "Ljava/util/List;" (.ref us) := Sta.start eus (Or.inl (hsets _ (List.mem_of_getElem? (i := 20) rfl)))
  obtain ⟨em, eem⟩ := exa_v (Cond.before_iff.mp (hsets _ (List.mem_of_getElem? (i := 31) rfl)))
  have E_em := exa_at eem (Cond.before_iff.mp (hsets _ (List.mem_of_getElem? (i := 31) rfl)))
  have EM : Sta s s.heap "java/util/ImmutableCollections" "EMPTY" "Ljava/lang/Object;" (.ref em) := Sta.start eem (Or.inl (hsets _ (List.mem_of_getElem? (i := 30) rfl)))
  have hl : l.stackTraces = true := by rw [Launch.stackTraces, hfl]; decide +kernel
  have hK := known_1 hcalls.1 hcalls.2.1 hf
  have hCH : CHv s consts_1 s.vm s.heap := CHv.start (ew_1 hw) hcalls.2.2.1 (hsets _ (List.mem_of_getElem? (i := 2) rfl)) (hw _ (List.mem_of_getElem? (i := 19) rfl)) (hw _ (List.mem_of_getElem? (i := 1) rfl))
  obtain ⟨n, o, h1, h2, h3, v, L, rfl, ⟨hv1, N⟩, -, hq⟩ := rm0 l s _ hw tables_1 i0 i1 i2 s.heap s.heap.size cs ua us em CS hcs (Old.start s) hl SUA SUS EM E_em (Nat.le_refl _) p e ha hc hk s m _ below hf ((Spec.applies_iff_loose hf).mp happ).1 ⟨rfl, State.Warmed39.refl s, rfl, hCH⟩ hK
  subst hv1
  refine ⟨n, _, h1, h2, h3, hpost _ _ _ _ _ _ ⟨Cond.after_iff.mpr rfl, Cond.after_iff.mpr (eq_i res_at (Term.int_eval (1)) rfl), trivial⟩ ⟨hq.1, hq.2.1, hq.2.2.1, (hq.2.2.2.sift fun y hy => Or.inr (N y hy)).mono (by decide) (by decide)⟩⟩
theorem main_1_1 : Claimed_1_1 := comes_1 fun _ _ _ _ _ _ h hF => ⟨h.1, hF⟩
theorem main_1_2 : Claimed_1_2 := comes_1 fun _ _ _ _ _ _ h hF => ⟨h.2.1, hF⟩
end Jvm.Pilot.@@N@@
namespace Jvm.Pilot.@@N@@
open Jvm Jvm.ClassFile Sem Op Lib Jvm.Free Jvm.Stand Jvm.Pilot.@@N@@.Jvm.D
/-! MADE BY PROGRAM (witnessworld.py) out of the Statement's table words and the real class files: 47 classes; the members and pool entries that the words name. The judged class is class 1, her method 1. -/
namespace start1
open Jvm.ClassFile
def u (s : String) : CpInfo := .utf8 (stringToUtf16 s)
/-- a pool by its gaps: so many unusable entries, then the entry; so many at the end -/
def gap : Nat → List CpInfo → List CpInfo
  | 0, r => r
  | n + 1, r => .unusable :: gap n r
def poolList (es : List (Nat × CpInfo)) (last : Nat) : List CpInfo := es.foldr (fun e r => gap e.1 (e.2 :: r)) (gap last [])
def pool (es : List (Nat × CpInfo)) (last : Nat) : Array CpInfo := ⟨poolList es last⟩
def fileOf (pool : Array CpInfo) (this : Nat) (attrs : Array Attribute := #[]) (ms : Array MethodInfo := #[]) (fl : Nat := 33) (sup : Nat := 0) (ifs : Array Nat := #[]) (fds : Array FieldInfo := #[]) : ClassFile where
  minorVersion := 0
  majorVersion := 65
  constantPool := pool
  accessFlags := fl
  thisClass := this
  superClass := sup
  interfaces := ifs
  fields := fds
  methods := ms
  attributes := attrs
def plain (name : String) (sup : Option ClassId) : Class where
  name := name
  kind := .ordinary
  loader := none
  accessFlags := 33
  super := sup
  interfaces := #[]
  cf := none
  fields := #[]
  methods := #[]
  instanceTypes := #[]
  staticTypes := #[]
  resolved := #[]
  callSites := []
  init := .initialized
  statics := none
  mirror := none

def pool0 : Array CpInfo := pool [(5, u "<init>"), (0, u "()V"), (1, .class_ 10), (1, u "java/lang/Object")] 113

def k0c0 : Code := { maxStack := 0, maxLocals := 1, code := object_method_1_code, exceptionTable := #[], attributes := #[] }
def k0m0 : Method := { name := "<init>", desc := "()V", sig := { parameters := [], returnType := none }, accessFlags := 1, code := some k0c0 }
/-- java/lang/Object -/
def k0 : Class := { plain "java/lang/Object" none with
  accessFlags := 33
  interfaces := #[]
  cf := some (fileOf pool0 8 #[] #[{ accessFlags := 1, nameIndex := 5, descriptorIndex := 6, attributes := #[] }] 33 0 #[] #[])
  fields := #[]
  methods := #[k0m0]
  instanceTypes := #[]
  staticTypes := #[]
  resolved := Array.replicate 124 none
  statics := none }

def pool1 : Array CpInfo := pool [(2, .class_ 4), (1, u "java/lang/Object"), (0, u "<init>"), (0, u "()V"), (0, .string 8), (0, u ""), (0, .class_ 10), (0, u "java/lang/String"), (0, .methodref 9 12), (0, .nameAndType 5 13), (0, u "([C)V"), (0, .string 15), (0, u "refused: "), (0, .class_ 17), (0, u "com/example/tranche/tranche/terms/Refusal"), (0, .methodref 16 19), (0, .nameAndType 5 20), (0, u "(Ljava/lang/String;Ljava/lang/String;)V"), (0, .methodref 16 22), (0, .nameAndType 23 24), (0, u "report"), (0, u "()Ljava/util/List;"), (0, .interfaceMethodref 26 27), (0, .class_ 28), (0, .nameAndType 29 30), (0, u "java/util/List"), (0, u "size"), (0, u "()I"), (0, .interfaceMethodref 26 32), (0, .nameAndType 33 34), (0, u "get"), (0, u "(I)Ljava/lang/Object;"), (0, .methodref 9 36), (0, .nameAndType 37 38), (0, u "equals"), (0, u "(Ljava/lang/Object;)Z"), (0, .class_ 40), (0, u "com/example/tranche/tranche/terms/RefusalReportPinLaw"), (2, u "law"), (0, u "(III)Z")] 3

def k1m0 : Method := { name := "<init>", desc := "()V", sig := { parameters := [], returnType := none }, accessFlags := 1, code := none }
def k1c1 : Code := { maxStack := 6, maxLocals := 14, code := code, exceptionTable := #[], attributes := #[] }
def k1m1 : Method := { name := "law", desc := "(III)Z", sig := { parameters := [.int, .int, .int], returnType := some .boolean }, accessFlags := 9, code := some k1c1 }
/-- com/example/tranche/tranche/terms/RefusalReportPinLaw -/
def k1 : Class := { plain "com/example/tranche/tranche/terms/RefusalReportPinLaw" (some 0) with
  accessFlags := 49
  interfaces := #[]
  cf := some (fileOf pool1 39 #[] #[{ accessFlags := 1, nameIndex := 5, descriptorIndex := 6, attributes := #[] }, { accessFlags := 9, nameIndex := 43, descriptorIndex := 44, attributes := #[] }] 49 2 #[] #[])
  fields := #[]
  methods := #[k1m0, k1m1]
  instanceTypes := #[]
  staticTypes := #[]
  resolved := Array.replicate 48 none
  statics := none }

def pool2 : Array CpInfo := pool [(1, .class_ 2), (0, u "java/io/Serializable"), (0, .class_ 4), (0, u "java/lang/Object")] 2

/-- java/io/Serializable -/
def k2 : Class := { plain "java/io/Serializable" (some 0) with
  accessFlags := 1537
  interfaces := #[]
  cf := some (fileOf pool2 1 #[] #[] 1537 3 #[] #[])
  fields := #[]
  methods := #[]
  instanceTypes := #[]
  staticTypes := #[]
  resolved := Array.replicate 7 none
  statics := none }

def pool3 : Array CpInfo := pool [(1, .class_ 2), (0, u "java/lang/Comparable"), (0, .class_ 4), (0, u "java/lang/Object")] 7

/-- java/lang/Comparable -/
def k3 : Class := { plain "java/lang/Comparable" (some 0) with
  accessFlags := 1537
  interfaces := #[]
  cf := some (fileOf pool3 1 #[] #[] 1537 3 #[] #[])
  fields := #[]
  methods := #[]
  instanceTypes := #[]
  staticTypes := #[]
  resolved := Array.replicate 12 none
  statics := none }

def pool4 : Array CpInfo := pool [(2, .class_ 4), (1, u "java/lang/CharSequence"), (42, .class_ 48), (0, u "java/lang/CharSequence$1CodePointIterator"), (10, .class_ 60), (0, u "java/lang/CharSequence$1CharIterator"), (5, .class_ 67), (0, u "java/lang/Object")] 63

/-- java/lang/CharSequence -/
def k4 : Class := { plain "java/lang/CharSequence" (some 0) with
  accessFlags := 1537
  interfaces := #[]
  cf := some (fileOf pool4 2 #[.nestMembers #[47, 59]] #[] 1537 66 #[] #[])
  fields := #[]
  methods := #[]
  instanceTypes := #[]
  staticTypes := #[]
  resolved := Array.replicate 131 none
  statics := none }

def pool5 : Array CpInfo := pool [(1, .class_ 2), (0, u "java/lang/constant/Constable"), (0, .class_ 4), (0, u "java/lang/Object")] 6

/-- java/lang/constant/Constable -/
def k5 : Class := { plain "java/lang/constant/Constable" (some 0) with
  accessFlags := 1537
  interfaces := #[]
  cf := some (fileOf pool5 1 #[] #[] 1537 3 #[] #[])
  fields := #[]
  methods := #[]
  instanceTypes := #[]
  staticTypes := #[]
  resolved := Array.replicate 11 none
  statics := none }

def pool6 : Array CpInfo := pool [(1, .class_ 2), (0, u "java/lang/constant/ConstantDesc"), (0, .class_ 4), (0, u "java/lang/Object")] 32

/-- java/lang/constant/ConstantDesc -/
def k6 : Class := { plain "java/lang/constant/ConstantDesc" (some 0) with
  accessFlags := 1537
  interfaces := #[]
  cf := some (fileOf pool6 1 #[] #[] 1537 3 #[] #[])
  fields := #[]
  methods := #[]
  instanceTypes := #[]
  staticTypes := #[]
  resolved := Array.replicate 37 none
  statics := none }

def pool7 : Array CpInfo := pool [(1, .methodref 2 3), (0, .class_ 4), (0, .nameAndType 5 6), (0, u "java/lang/Object"), (0, u "<init>"), (0, u "()V"), (2, .fieldref 10 11), (0, .class_ 12), (0, .nameAndType 13 14), (0, u "java/lang/String"), (0, u "value"), (0, u "[B"), (0, .fieldref 10 16), (0, .nameAndType 17 18), (0, u "coder"), (0, u "B"), (2, u "hash"), (0, u "I"), (2, u "hashIsZero"), (0, u "Z"), (0, .methodref 10 28), (0, .nameAndType 5 29), (0, u "([CIILjava/lang/Void;)V"), (8, .fieldref 10 39), (0, .nameAndType 40 26), (0, u "COMPACT_STRINGS"), (1, .class_ 44), (1, u "java/lang/StringUTF16"), (0, u "compress"), (1, .methodref 42 48), (0, .nameAndType 49 50), (0, u "coderFromArrayLen"), (0, u "([BI)B"), (3, .methodref 55 56), (0, .class_ 57), (0, .nameAndType 58 59), (0, u "java/util/Arrays"), (0, u "copyOfRange"), (0, u "([BII)[B"), (47, .class_ 109), (1, u "java/lang/StringLatin1"), (32, u "()Z"), (34, .methodref 42 178), (0, .nameAndType 45 179), (0, u "([CII)[B"), (13, .class_ 195), (1, u "java/lang/System"), (16, .methodref 193 213), (0, .nameAndType 214 215), (0, u "arraycopy"), (0, u "(Ljava/lang/Object;ILjava/lang/Object;II)V"), (118, u "()I"), (0, .methodref 10 336), (0, .nameAndType 17 337), (0, u "()B"), (2, u "()[B"), (148, .methodref 10 490), (0, .nameAndType 5 491), (0, u "(Ljava/lang/AbstractStringBuilder;Ljava/lang/Void;)V"), (1, .nameAndType 494 142), (0, u "isLatin1"), (11, .nameAndType 507 334), (0, u "length"), (24, u "getBytes"), (8, .methodref 107 542), (0, .nameAndType 543 544), (0, u "equals"), (0, u "([B[B)Z"), (4, .methodref 550 506), (0, .class_ 551), (0, u "java/lang/AbstractStringBuilder"), (0, .methodref 550 553), (0, .nameAndType 554 340), (0, u "getValue"), (18, u "(Ljava/lang/Object;)Z"), (1, .class_ 576), (0, u "java/lang/CharSequence"), (22, u "CASE_INSENSITIVE_ORDER"), (0, u "Ljava/util/Comparator;"), (220, u "([BIB)V"), (188, u "([C)V"), (36, .methodref 550 493), (53, u "serialPersistentFields"), (0, u "[Ljava/io/ObjectStreamField;"), (0, .class_ 1104), (0, u "java/lang/String$CaseInsensitiveComparator"), (1, .class_ 1107), (0, u "java/io/Serializable"), (0, .class_ 1109), (0, u "java/lang/Comparable"), (0, .class_ 1111), (0, u "java/lang/constant/Constable"), (0, .class_ 1113), (0, u "java/lang/constant/ConstantDesc"), (2, u "serialVersionUID"), (0, u "J"), (3, u "REPL"), (0, u "C"), (2, u "LATIN1"), (1, u "UTF16"), (105, u "(Ljava/lang/StringBuilder;)V")] 217

def k7m0 : Method := { name := "<init>", desc := "()V", sig := { parameters := [], returnType := none }, accessFlags := 1, code := none }
def k7c1 : Code := { maxStack := 5, maxLocals := 2, code := jdk_42_method_3_code, exceptionTable := #[], attributes := #[] }
def k7m1 : Method := { name := "<init>", desc := "([C)V", sig := { parameters := [(.array .char)], returnType := none }, accessFlags := 1, code := some k7c1 }
def k7c2 : Code := { maxStack := 3, maxLocals := 2, code := jdk_42_method_53_code, exceptionTable := #[], attributes := #[] }
def k7m2 : Method := { name := "<init>", desc := "(Ljava/lang/StringBuilder;)V", sig := { parameters := [(.object "java/lang/StringBuilder")], returnType := none }, accessFlags := 1, code := some k7c2 }
def k7c3 : Code := { maxStack := 2, maxLocals := 1, code := jdk_42_method_54_code, exceptionTable := #[], attributes := #[] }
def k7m3 : Method := { name := "length", desc := "()I", sig := { parameters := [], returnType := some .int }, accessFlags := 1, code := some k7c3 }
def k7c4 : Code := { maxStack := 2, maxLocals := 3, code := jdk_42_method_66_code, exceptionTable := #[], attributes := #[] }
def k7m4 : Method := { name := "equals", desc := "(Ljava/lang/Object;)Z", sig := { parameters := [(.object "java/lang/Object")], returnType := some .boolean }, accessFlags := 1, code := some k7c4 }
def k7c5 : Code := { maxStack := 5, maxLocals := 4, code := jdk_42_method_147_code, exceptionTable := #[], attributes := #[] }
def k7m5 : Method := { name := "getBytes", desc := "([BIB)V", sig := { parameters := [(.array .byte), .int, .byte], returnType := none }, accessFlags := 0, code := some k7c5 }
def k7c6 : Code := { maxStack := 4, maxLocals := 6, code := jdk_42_method_149_code, exceptionTable := #[], attributes := #[] }
def k7m6 : Method := { name := "<init>", desc := "([CIILjava/lang/Void;)V", sig := { parameters := [(.array .char), .int, .int, (.object "java/lang/Void")], returnType := none }, accessFlags := 2, code := some k7c6 }
def k7c7 : Code := { maxStack := 5, maxLocals := 5, code := jdk_42_method_150_code, exceptionTable := #[], attributes := #[] }
def k7m7 : Method := { name := "<init>", desc := "(Ljava/lang/AbstractStringBuilder;Ljava/lang/Void;)V", sig := { parameters := [(.object "java/lang/AbstractStringBuilder"), (.object "java/lang/Void")], returnType := none }, accessFlags := 0, code := some k7c7 }
def k7c8 : Code := { maxStack := 1, maxLocals := 1, code := jdk_42_method_152_code, exceptionTable := #[], attributes := #[] }
def k7m8 : Method := { name := "coder", desc := "()B", sig := { parameters := [], returnType := some .byte }, accessFlags := 0, code := some k7c8 }
/-- java/lang/String -/
def k7 : Class := { plain "java/lang/String" (some 0) with
  accessFlags := 49
  interfaces := #[2, 3, 4, 5, 6]
  cf := some (fileOf pool7 10 #[.nestMembers #[1103]] #[{ accessFlags := 1, nameIndex := 5, descriptorIndex := 6, attributes := #[] }, { accessFlags := 1, nameIndex := 5, descriptorIndex := 1010, attributes := #[] }, { accessFlags := 1, nameIndex := 5, descriptorIndex := 1233, attributes := #[] }, { accessFlags := 1, nameIndex := 507, descriptorIndex := 334, attributes := #[] }, { accessFlags := 1, nameIndex := 543, descriptorIndex := 573, attributes := #[] }, { accessFlags := 0, nameIndex := 532, descriptorIndex := 821, attributes := #[] }, { accessFlags := 2, nameIndex := 5, descriptorIndex := 29, attributes := #[] }, { accessFlags := 0, nameIndex := 5, descriptorIndex := 491, attributes := #[] }, { accessFlags := 0, nameIndex := 17, descriptorIndex := 337, attributes := #[] }] 49 2 #[1106, 1108, 575, 1110, 1112] #[{ accessFlags := 18, nameIndex := 13, descriptorIndex := 14, attributes := #[] }, { accessFlags := 18, nameIndex := 17, descriptorIndex := 18, attributes := #[] }, { accessFlags := 2, nameIndex := 21, descriptorIndex := 22, attributes := #[] }, { accessFlags := 2, nameIndex := 25, descriptorIndex := 26, attributes := #[] }, { accessFlags := 26, nameIndex := 1116, descriptorIndex := 1117, attributes := #[] }, { accessFlags := 24, nameIndex := 40, descriptorIndex := 26, attributes := #[] }, { accessFlags := 26, nameIndex := 1101, descriptorIndex := 1102, attributes := #[] }, { accessFlags := 26, nameIndex := 1121, descriptorIndex := 1122, attributes := #[] }, { accessFlags := 25, nameIndex := 599, descriptorIndex := 600, attributes := #[] }, { accessFlags := 24, nameIndex := 1125, descriptorIndex := 18, attributes := #[] }, { accessFlags := 24, nameIndex := 1127, descriptorIndex := 18, attributes := #[] }])
  fields := #[{ name := "value", type := (.array .byte), accessFlags := 18, slot := 0, constantValue := 0 }, { name := "coder", type := .byte, accessFlags := 18, slot := 1, constantValue := 0 }, { name := "hash", type := .int, accessFlags := 2, slot := 2, constantValue := 0 }, { name := "hashIsZero", type := .boolean, accessFlags := 2, slot := 3, constantValue := 0 }, { name := "serialVersionUID", type := .long, accessFlags := 26, slot := 0, constantValue := 0 }, { name := "COMPACT_STRINGS", type := .boolean, accessFlags := 24, slot := 1, constantValue := 0 }, { name := "serialPersistentFields", type := (.array (.object "java/io/ObjectStreamField")), accessFlags := 26, slot := 2, constantValue := 0 }, { name := "REPL", type := .char, accessFlags := 26, slot := 3, constantValue := 0 }, { name := "CASE_INSENSITIVE_ORDER", type := (.object "java/util/Comparator"), accessFlags := 25, slot := 4, constantValue := 0 }, { name := "LATIN1", type := .byte, accessFlags := 24, slot := 5, constantValue := 0 }, { name := "UTF16", type := .byte, accessFlags := 24, slot := 6, constantValue := 0 }]
  methods := #[k7m0, k7m1, k7m2, k7m3, k7m4, k7m5, k7m6, k7m7, k7m8]
  instanceTypes := #[(.array .byte), .byte, .int, .boolean]
  staticTypes := #[.long, .boolean, (.array (.object "java/io/ObjectStreamField")), .char, (.object "java/util/Comparator"), .byte, .byte]
  resolved := Array.replicate 1451 none
  statics := some 0 }

def pool8 : Array CpInfo := pool [(6, .class_ 8), (1, u "java/lang/Object"), (0, u "<init>"), (0, u "()V"), (1, .class_ 14), (1, u "java/lang/StringUTF16"), (31, u "$assertionsDisabled"), (0, u "Z"), (13, u "HI_BYTE_SHIFT"), (0, u "I"), (2, u "LO_BYTE_SHIFT"), (49, .methodref 12 116), (0, .nameAndType 117 118), (0, u "compress"), (0, u "([CI[BII)I"), (3, u "([CII)[B"), (138, u "coderFromArrayLen"), (0, u "([BI)B"), (106, .class_ 371), (1, u "java/lang/StringUTF16$LinesSpliterator"), (58, u "MAX_LENGTH"), (196, .class_ 628), (0, u "java/lang/StringUTF16$CodePointsSpliterator"), (0, .class_ 630), (0, u "java/lang/StringUTF16$CharsSpliterator")] 4

def k8m0 : Method := { name := "<init>", desc := "()V", sig := { parameters := [], returnType := none }, accessFlags := 0, code := none }
def k8c1 : Code := { maxStack := 2, maxLocals := 2, code := jdk_52_method_15_code, exceptionTable := #[], attributes := #[] }
def k8m1 : Method := { name := "coderFromArrayLen", desc := "([BI)B", sig := { parameters := [(.array .byte), .int], returnType := some .byte }, accessFlags := 8, code := some k8c1 }
def k8c2 : Code := { maxStack := 5, maxLocals := 6, code := jdk_52_method_16_code, exceptionTable := #[], attributes := #[] }
def k8m2 : Method := { name := "compress", desc := "([CII)[B", sig := { parameters := [(.array .char), .int, .int], returnType := some (.array .byte) }, accessFlags := 9, code := some k8c2 }
def k8c3 : Code := { maxStack := 3, maxLocals := 7, code := jdk_52_method_21_code, exceptionTable := #[], attributes := #[] }
def k8m3 : Method := { name := "compress", desc := "([CI[BII)I", sig := { parameters := [(.array .char), .int, (.array .byte), .int, .int], returnType := some .int }, accessFlags := 9, code := some k8c3 }
/-- java/lang/StringUTF16 -/
def k8 : Class := { plain "java/lang/StringUTF16" (some 0) with
  accessFlags := 48
  interfaces := #[]
  cf := some (fileOf pool8 12 #[.nestMembers #[627, 629, 369]] #[{ accessFlags := 0, nameIndex := 9, descriptorIndex := 10, attributes := #[] }, { accessFlags := 8, nameIndex := 261, descriptorIndex := 262, attributes := #[] }, { accessFlags := 9, nameIndex := 117, descriptorIndex := 122, attributes := #[] }, { accessFlags := 9, nameIndex := 117, descriptorIndex := 118, attributes := #[] }] 48 6 #[] #[{ accessFlags := 26, nameIndex := 61, descriptorIndex := 62, attributes := #[] }, { accessFlags := 26, nameIndex := 65, descriptorIndex := 62, attributes := #[] }, { accessFlags := 24, nameIndex := 430, descriptorIndex := 62, attributes := #[] }, { accessFlags := 4120, nameIndex := 46, descriptorIndex := 47, attributes := #[] }])
  fields := #[{ name := "HI_BYTE_SHIFT", type := .int, accessFlags := 26, slot := 0, constantValue := 0 }, { name := "LO_BYTE_SHIFT", type := .int, accessFlags := 26, slot := 1, constantValue := 0 }, { name := "MAX_LENGTH", type := .int, accessFlags := 24, slot := 2, constantValue := 0 }, { name := "$assertionsDisabled", type := .boolean, accessFlags := 4120, slot := 3, constantValue := 0 }]
  methods := #[k8m0, k8m1, k8m2, k8m3]
  instanceTypes := #[]
  staticTypes := #[.int, .int, .int, .boolean]
  resolved := Array.replicate 635 none
  statics := none }

def pool9 : Array CpInfo := pool [(1, .methodref 2 3), (0, .class_ 4), (0, .nameAndType 5 6), (0, u "java/lang/Object"), (0, u "<init>"), (0, u "()V"), (0, .fieldref 8 9), (0, .class_ 10), (0, .nameAndType 11 12), (0, u "java/lang/Throwable"), (0, u "cause"), (0, u "Ljava/lang/Throwable;"), (0, .fieldref 8 14), (0, .nameAndType 15 16), (0, u "UNASSIGNED_STACK"), (0, u "[Ljava/lang/StackTraceElement;"), (0, .fieldref 8 18), (0, .nameAndType 19 16), (0, u "stackTrace"), (0, .fieldref 8 21), (0, .nameAndType 22 23), (0, u "SUPPRESSED_SENTINEL"), (0, u "Ljava/util/List;"), (0, .fieldref 8 25), (0, .nameAndType 26 23), (0, u "suppressedExceptions"), (0, .methodref 8 28), (0, .nameAndType 29 30), (0, u "fillInStackTrace"), (0, u "()Ljava/lang/Throwable;"), (0, .fieldref 8 32), (0, .nameAndType 33 34), (0, u "detailMessage"), (0, u "Ljava/lang/String;"), (3, u "()Ljava/lang/String;"), (2, u "getMessage"), (51, .class_ 94), (0, u "java/lang/Throwable$WrappedPrintStream"), (6, .class_ 103), (1, u "java/lang/Throwable$PrintStreamOrWriter"), (61, u "$assertionsDisabled"), (0, u "Z"), (26, .class_ 194), (0, u "java/lang/Throwable$WrappedPrintWriter"), (3, .fieldref 8 199), (0, .nameAndType 200 201), (0, u "backtrace"), (0, u "Ljava/lang/Object;"), (0, .methodref 8 203), (0, .nameAndType 29 204), (0, u "(I)Ljava/lang/Throwable;"), (6, u "depth"), (0, u "I"), (10, u "(Ljava/lang/String;)V"), (45, .class_ 271), (1, u "java/lang/Throwable$SentinelHolder"), (32, u "EMPTY_THROWABLE_ARRAY"), (0, u "[Ljava/lang/Throwable;"), (12, .class_ 319), (0, u "java/io/Serializable"), (0, u "serialVersionUID"), (0, u "J"), (5, u "NULL_CAUSE_MESSAGE"), (0, u "SELF_SUPPRESSION_MESSAGE"), (0, u "CAUSE_CAPTION"), (0, u "SUPPRESSED_CAPTION")] 73

def k9c0 : Code := { maxStack := 2, maxLocals := 1, code := jdk_78_method_1_code, exceptionTable := #[], attributes := #[] }
def k9m0 : Method := { name := "<init>", desc := "()V", sig := { parameters := [], returnType := none }, accessFlags := 1, code := some k9c0 }
def k9c1 : Code := { maxStack := 2, maxLocals := 2, code := jdk_78_method_2_code, exceptionTable := #[], attributes := #[] }
def k9m1 : Method := { name := "<init>", desc := "(Ljava/lang/String;)V", sig := { parameters := [(.object "java/lang/String")], returnType := none }, accessFlags := 1, code := some k9c1 }
def k9c2 : Code := { maxStack := 1, maxLocals := 1, code := jdk_78_method_6_code, exceptionTable := #[], attributes := #[] }
def k9m2 : Method := { name := "getMessage", desc := "()Ljava/lang/String;", sig := { parameters := [], returnType := some (.object "java/lang/String") }, accessFlags := 1, code := some k9c2 }
def k9c3 : Code := { maxStack := 2, maxLocals := 1, code := jdk_78_method_18_code, exceptionTable := #[], attributes := #[] }
def k9m3 : Method := { name := "fillInStackTrace", desc := "()Ljava/lang/Throwable;", sig := { parameters := [], returnType := some (.object "java/lang/Throwable") }, accessFlags := 33, code := some k9c3 }
def k9m4 : Method := { name := "fillInStackTrace", desc := "(I)Ljava/lang/Throwable;", sig := { parameters := [.int], returnType := some (.object "java/lang/Throwable") }, accessFlags := 258, code := none }
/-- java/lang/Throwable -/
def k9 : Class := { plain "java/lang/Throwable" (some 0) with
  accessFlags := 33
  interfaces := #[2]
  cf := some (fileOf pool9 8 #[.nestMembers #[193, 93, 101, 269]] #[{ accessFlags := 1, nameIndex := 5, descriptorIndex := 6, attributes := #[] }, { accessFlags := 1, nameIndex := 5, descriptorIndex := 223, attributes := #[] }, { accessFlags := 1, nameIndex := 41, descriptorIndex := 38, attributes := #[] }, { accessFlags := 33, nameIndex := 29, descriptorIndex := 30, attributes := #[] }, { accessFlags := 258, nameIndex := 29, descriptorIndex := 204, attributes := #[] }] 33 2 #[318] #[{ accessFlags := 26, nameIndex := 320, descriptorIndex := 321, attributes := #[] }, { accessFlags := 130, nameIndex := 200, descriptorIndex := 201, attributes := #[] }, { accessFlags := 2, nameIndex := 33, descriptorIndex := 34, attributes := #[] }, { accessFlags := 26, nameIndex := 15, descriptorIndex := 16, attributes := #[] }, { accessFlags := 2, nameIndex := 11, descriptorIndex := 12, attributes := #[] }, { accessFlags := 2, nameIndex := 19, descriptorIndex := 16, attributes := #[] }, { accessFlags := 130, nameIndex := 211, descriptorIndex := 212, attributes := #[] }, { accessFlags := 26, nameIndex := 22, descriptorIndex := 23, attributes := #[] }, { accessFlags := 2, nameIndex := 26, descriptorIndex := 23, attributes := #[] }, { accessFlags := 26, nameIndex := 327, descriptorIndex := 34, attributes := #[] }, { accessFlags := 26, nameIndex := 328, descriptorIndex := 34, attributes := #[] }, { accessFlags := 26, nameIndex := 329, descriptorIndex := 34, attributes := #[] }, { accessFlags := 26, nameIndex := 330, descriptorIndex := 34, attributes := #[] }, { accessFlags := 26, nameIndex := 304, descriptorIndex := 305, attributes := #[] }, { accessFlags := 4120, nameIndex := 165, descriptorIndex := 166, attributes := #[] }])
  fields := #[{ name := "serialVersionUID", type := .long, accessFlags := 26, slot := 0, constantValue := 0 }, { name := "backtrace", type := (.object "java/lang/Object"), accessFlags := 130, slot := 0, constantValue := 0 }, { name := "detailMessage", type := (.object "java/lang/String"), accessFlags := 2, slot := 1, constantValue := 0 }, { name := "UNASSIGNED_STACK", type := (.array (.object "java/lang/StackTraceElement")), accessFlags := 26, slot := 1, constantValue := 0 }, { name := "cause", type := (.object "java/lang/Throwable"), accessFlags := 2, slot := 2, constantValue := 0 }, { name := "stackTrace", type := (.array (.object "java/lang/StackTraceElement")), accessFlags := 2, slot := 3, constantValue := 0 }, { name := "depth", type := .int, accessFlags := 130, slot := 4, constantValue := 0 }, { name := "SUPPRESSED_SENTINEL", type := (.object "java/util/List"), accessFlags := 26, slot := 2, constantValue := 0 }, { name := "suppressedExceptions", type := (.object "java/util/List"), accessFlags := 2, slot := 5, constantValue := 0 }, { name := "NULL_CAUSE_MESSAGE", type := (.object "java/lang/String"), accessFlags := 26, slot := 3, constantValue := 0 }, { name := "SELF_SUPPRESSION_MESSAGE", type := (.object "java/lang/String"), accessFlags := 26, slot := 4, constantValue := 0 }, { name := "CAUSE_CAPTION", type := (.object "java/lang/String"), accessFlags := 26, slot := 5, constantValue := 0 }, { name := "SUPPRESSED_CAPTION", type := (.object "java/lang/String"), accessFlags := 26, slot := 6, constantValue := 0 }, { name := "EMPTY_THROWABLE_ARRAY", type := (.array (.object "java/lang/Throwable")), accessFlags := 26, slot := 7, constantValue := 0 }, { name := "$assertionsDisabled", type := .boolean, accessFlags := 4120, slot := 8, constantValue := 0 }]
  methods := #[k9m0, k9m1, k9m2, k9m3, k9m4]
  instanceTypes := #[(.object "java/lang/Object"), (.object "java/lang/String"), (.object "java/lang/Throwable"), (.array (.object "java/lang/StackTraceElement")), .int, (.object "java/util/List")]
  staticTypes := #[.long, (.array (.object "java/lang/StackTraceElement")), (.object "java/util/List"), (.object "java/lang/String"), (.object "java/lang/String"), (.object "java/lang/String"), (.object "java/lang/String"), (.array (.object "java/lang/Throwable")), .boolean]
  resolved := Array.replicate 404 none
  statics := some 1 }

def pool10 : Array CpInfo := pool [(2, .class_ 4), (1, u "java/lang/Throwable"), (0, u "<init>"), (0, u "()V"), (0, .methodref 2 8), (0, .nameAndType 5 9), (0, u "(Ljava/lang/String;)V"), (9, .class_ 20), (0, u "java/lang/Exception"), (0, u "serialVersionUID"), (0, u "J")] 17

def k10m0 : Method := { name := "<init>", desc := "()V", sig := { parameters := [], returnType := none }, accessFlags := 1, code := none }
def k10c1 : Code := { maxStack := 2, maxLocals := 2, code := jdk_59_method_2_code, exceptionTable := #[], attributes := #[] }
def k10m1 : Method := { name := "<init>", desc := "(Ljava/lang/String;)V", sig := { parameters := [(.object "java/lang/String")], returnType := none }, accessFlags := 1, code := some k10c1 }
/-- java/lang/Exception -/
def k10 : Class := { plain "java/lang/Exception" (some 9) with
  accessFlags := 33
  interfaces := #[]
  cf := some (fileOf pool10 19 #[] #[{ accessFlags := 1, nameIndex := 5, descriptorIndex := 6, attributes := #[] }, { accessFlags := 1, nameIndex := 5, descriptorIndex := 9, attributes := #[] }] 33 2 #[] #[{ accessFlags := 24, nameIndex := 21, descriptorIndex := 22, attributes := #[] }])
  fields := #[{ name := "serialVersionUID", type := .long, accessFlags := 24, slot := 0, constantValue := 0 }]
  methods := #[k10m0, k10m1]
  instanceTypes := #[(.object "java/lang/Object"), (.object "java/lang/String"), (.object "java/lang/Throwable"), (.array (.object "java/lang/StackTraceElement")), .int, (.object "java/util/List")]
  staticTypes := #[.long]
  resolved := Array.replicate 40 none
  statics := none }

def pool11 : Array CpInfo := pool [(1, .methodref 2 3), (0, .class_ 4), (0, .nameAndType 5 6), (0, u "java/lang/Exception"), (0, u "<init>"), (0, u "(Ljava/lang/String;)V"), (0, .fieldref 8 9), (0, .class_ 10), (0, .nameAndType 11 12), (0, u "com/example/tranche/tranche/terms/Refusal"), (0, u "reason"), (0, u "Ljava/lang/String;"), (2, u "blamed"), (0, u "Z"), (0, .class_ 18), (0, u "java/lang/StringBuilder"), (0, .methodref 17 20), (0, .nameAndType 5 21), (0, u "()V"), (2, u "append"), (3, .methodref 17 29), (0, .nameAndType 24 30), (0, u "(Ljava/lang/String;)Ljava/lang/StringBuilder;"), (5, .methodref 8 37), (0, .nameAndType 38 39), (0, u "getMessage"), (0, u "()Ljava/lang/String;"), (0, .methodref 17 41), (0, .nameAndType 42 39), (0, u "toString"), (2, u "(Ljava/lang/String;Ljava/lang/String;)V"), (4, .string 51), (0, u "refused: "), (0, .interfaceMethodref 53 54), (0, .class_ 55), (0, .nameAndType 56 57), (0, u "java/util/List"), (0, u "of"), (0, u "(Ljava/lang/Object;Ljava/lang/Object;)Ljava/util/List;"), (0, u "serialVersionUID"), (0, u "J"), (8, u "report"), (0, u "()Ljava/util/List;")] 4

def k11c0 : Code := { maxStack := 2, maxLocals := 3, code := prog_47_method_1_code, exceptionTable := #[], attributes := #[] }
def k11m0 : Method := { name := "<init>", desc := "(Ljava/lang/String;Ljava/lang/String;)V", sig := { parameters := [(.object "java/lang/String"), (.object "java/lang/String")], returnType := none }, accessFlags := 1, code := some k11c0 }
def k11c1 : Code := { maxStack := 2, maxLocals := 1, code := prog_47_method_4_code, exceptionTable := #[], attributes := #[] }
def k11m1 : Method := { name := "report", desc := "()Ljava/util/List;", sig := { parameters := [], returnType := some (.object "java/util/List") }, accessFlags := 1, code := some k11c1 }
/-- com/example/tranche/tranche/terms/Refusal -/
def k11 : Class := { plain "com/example/tranche/tranche/terms/Refusal" (some 10) with
  accessFlags := 49
  interfaces := #[]
  cf := some (fileOf pool11 8 #[] #[{ accessFlags := 1, nameIndex := 5, descriptorIndex := 45, attributes := #[] }, { accessFlags := 1, nameIndex := 68, descriptorIndex := 69, attributes := #[] }] 49 2 #[] #[{ accessFlags := 26, nameIndex := 58, descriptorIndex := 59, attributes := #[] }, { accessFlags := 18, nameIndex := 11, descriptorIndex := 12, attributes := #[] }, { accessFlags := 2, nameIndex := 15, descriptorIndex := 16, attributes := #[] }])
  fields := #[{ name := "serialVersionUID", type := .long, accessFlags := 26, slot := 0, constantValue := 0 }, { name := "reason", type := (.object "java/lang/String"), accessFlags := 18, slot := 6, constantValue := 0 }, { name := "blamed", type := .boolean, accessFlags := 2, slot := 7, constantValue := 0 }]
  methods := #[k11m0, k11m1]
  instanceTypes := #[(.object "java/lang/Object"), (.object "java/lang/String"), (.object "java/lang/Throwable"), (.array (.object "java/lang/StackTraceElement")), .int, (.object "java/util/List"), (.object "java/lang/String"), .boolean]
  staticTypes := #[.long]
  resolved := Array.replicate 74 none
  statics := none }

def pool12 : Array CpInfo := pool [(1, .class_ 2), (0, u "java/lang/Appendable"), (0, .class_ 4), (0, u "java/lang/Object")] 9

/-- java/lang/Appendable -/
def k12 : Class := { plain "java/lang/Appendable" (some 0) with
  accessFlags := 1537
  interfaces := #[]
  cf := some (fileOf pool12 1 #[] #[] 1537 3 #[] #[])
  fields := #[]
  methods := #[]
  instanceTypes := #[]
  staticTypes := #[]
  resolved := Array.replicate 14 none
  statics := none }

def pool13 : Array CpInfo := pool [(1, .class_ 2), (0, u "java/lang/String"), (0, .methodref 4 5), (0, .class_ 6), (0, .nameAndType 7 8), (0, u "java/lang/Object"), (0, u "<init>"), (0, u "()V"), (1, .class_ 12), (1, u "java/lang/AbstractStringBuilder"), (0, u "EMPTYVALUE"), (0, u "[B"), (0, .fieldref 10 16), (0, .nameAndType 17 14), (0, u "value"), (0, .fieldref 1 19), (0, .nameAndType 20 21), (0, u "COMPACT_STRINGS"), (0, u "Z"), (0, .fieldref 10 23), (0, .nameAndType 24 25), (0, u "coder"), (0, u "B"), (6, .methodref 1 33), (0, .nameAndType 34 35), (0, u "length"), (0, u "()I"), (4, .methodref 1 41), (0, .nameAndType 24 42), (0, u "()B"), (2, u "append"), (0, u "(Ljava/lang/String;)Ljava/lang/AbstractStringBuilder;"), (1, .class_ 49), (0, u "java/lang/CharSequence"), (19, u "(Ljava/lang/String;)V"), (5, u "maybeLatin1"), (3, .fieldref 10 80), (0, .nameAndType 81 82), (0, u "count"), (0, u "I"), (2, u "isLatin1"), (0, u "()Z"), (13, .methodref 10 101), (0, .nameAndType 102 103), (0, u "ensureCapacityInternal"), (0, u "(I)V"), (104, .methodref 10 209), (0, .nameAndType 210 211), (0, u "putStringAt"), (0, u "(ILjava/lang/String;)V"), (5, u "inflateIfNeededFor"), (2, .nameAndType 221 222), (0, u "getBytes"), (0, u "([BIB)V"), (174, .methodref 10 398), (0, .nameAndType 217 69), (0, .methodref 1 220), (3, u "()[B"), (40, .class_ 445), (0, u "java/lang/Appendable"), (106, u "getValue")] 56

def k13m0 : Method := { name := "<init>", desc := "()V", sig := { parameters := [], returnType := none }, accessFlags := 0, code := none }
def k13c1 : Code := { maxStack := 2, maxLocals := 2, code := jdk_68_method_2_code, exceptionTable := #[], attributes := #[] }
def k13m1 : Method := { name := "<init>", desc := "(I)V", sig := { parameters := [.int], returnType := none }, accessFlags := 0, code := some k13c1 }
def k13c2 : Code := { maxStack := 1, maxLocals := 1, code := jdk_68_method_6_code, exceptionTable := #[], attributes := #[] }
def k13m2 : Method := { name := "length", desc := "()I", sig := { parameters := [], returnType := some .int }, accessFlags := 1, code := some k13c2 }
def k13c3 : Code := { maxStack := 4, maxLocals := 3, code := jdk_68_method_9_code, exceptionTable := #[], attributes := #[] }
def k13m3 : Method := { name := "ensureCapacityInternal", desc := "(I)V", sig := { parameters := [.int], returnType := none }, accessFlags := 2, code := some k13c3 }
def k13c4 : Code := { maxStack := 3, maxLocals := 3, code := jdk_68_method_22_code, exceptionTable := #[], attributes := #[] }
def k13m4 : Method := { name := "append", desc := "(Ljava/lang/String;)Ljava/lang/AbstractStringBuilder;", sig := { parameters := [(.object "java/lang/String")], returnType := some (.object "java/lang/AbstractStringBuilder") }, accessFlags := 1, code := some k13c4 }
def k13c5 : Code := { maxStack := 1, maxLocals := 1, code := jdk_68_method_64_code, exceptionTable := #[], attributes := #[] }
def k13m5 : Method := { name := "getValue", desc := "()[B", sig := { parameters := [], returnType := some (.array .byte) }, accessFlags := 16, code := some k13c5 }
def k13c6 : Code := { maxStack := 1, maxLocals := 1, code := jdk_68_method_68_code, exceptionTable := #[], attributes := #[] }
def k13m6 : Method := { name := "isLatin1", desc := "()Z", sig := { parameters := [], returnType := some .boolean }, accessFlags := 16, code := some k13c6 }
def k13c7 : Code := { maxStack := 2, maxLocals := 2, code := jdk_68_method_71_code, exceptionTable := #[], attributes := #[] }
def k13m7 : Method := { name := "inflateIfNeededFor", desc := "(Ljava/lang/String;)V", sig := { parameters := [(.object "java/lang/String")], returnType := none }, accessFlags := 2, code := some k13c7 }
def k13c8 : Code := { maxStack := 4, maxLocals := 3, code := jdk_68_method_73_code, exceptionTable := #[], attributes := #[] }
def k13m8 : Method := { name := "putStringAt", desc := "(ILjava/lang/String;)V", sig := { parameters := [.int, (.object "java/lang/String")], returnType := none }, accessFlags := 2, code := some k13c8 }
/-- java/lang/AbstractStringBuilder -/
def k13 : Class := { plain "java/lang/AbstractStringBuilder" (some 0) with
  accessFlags := 1056
  interfaces := #[12, 4]
  cf := some (fileOf pool13 10 #[] #[{ accessFlags := 0, nameIndex := 7, descriptorIndex := 8, attributes := #[] }, { accessFlags := 0, nameIndex := 7, descriptorIndex := 103, attributes := #[] }, { accessFlags := 1, nameIndex := 34, descriptorIndex := 35, attributes := #[] }, { accessFlags := 2, nameIndex := 102, descriptorIndex := 103, attributes := #[] }, { accessFlags := 1, nameIndex := 45, descriptorIndex := 46, attributes := #[] }, { accessFlags := 16, nameIndex := 552, descriptorIndex := 403, attributes := #[] }, { accessFlags := 16, nameIndex := 85, descriptorIndex := 86, attributes := #[] }, { accessFlags := 2, nameIndex := 217, descriptorIndex := 69, attributes := #[] }, { accessFlags := 2, nameIndex := 210, descriptorIndex := 211, attributes := #[] }] 1056 4 #[444, 48] #[{ accessFlags := 0, nameIndex := 17, descriptorIndex := 14, attributes := #[] }, { accessFlags := 0, nameIndex := 24, descriptorIndex := 25, attributes := #[] }, { accessFlags := 0, nameIndex := 75, descriptorIndex := 21, attributes := #[] }, { accessFlags := 0, nameIndex := 81, descriptorIndex := 82, attributes := #[] }, { accessFlags := 26, nameIndex := 13, descriptorIndex := 14, attributes := #[] }])
  fields := #[{ name := "value", type := (.array .byte), accessFlags := 0, slot := 0, constantValue := 0 }, { name := "coder", type := .byte, accessFlags := 0, slot := 1, constantValue := 0 }, { name := "maybeLatin1", type := .boolean, accessFlags := 0, slot := 2, constantValue := 0 }, { name := "count", type := .int, accessFlags := 0, slot := 3, constantValue := 0 }, { name := "EMPTYVALUE", type := (.array .byte), accessFlags := 26, slot := 0, constantValue := 0 }]
  methods := #[k13m0, k13m1, k13m2, k13m3, k13m4, k13m5, k13m6, k13m7, k13m8]
  instanceTypes := #[(.array .byte), .byte, .boolean, .int]
  staticTypes := #[(.array .byte)]
  resolved := Array.replicate 609 none
  statics := none }

def pool14 : Array CpInfo := pool [(1, .methodref 2 3), (0, .class_ 4), (0, .nameAndType 5 6), (0, u "java/lang/AbstractStringBuilder"), (0, u "<init>"), (0, u "(I)V"), (11, .class_ 20), (1, u "java/lang/String"), (3, .class_ 26), (1, u "java/lang/StringBuilder"), (0, u "append"), (0, u "(Ljava/lang/String;)Ljava/lang/StringBuilder;"), (0, .methodref 2 30), (0, .nameAndType 27 31), (0, u "(Ljava/lang/String;)Ljava/lang/AbstractStringBuilder;"), (105, .methodref 18 138), (0, .nameAndType 5 139), (0, u "(Ljava/lang/StringBuilder;)V"), (5, u "()V"), (10, u "()I"), (186, .methodref 2 344), (0, .nameAndType 345 156), (0, u "length"), (3, .class_ 350), (0, u "java/lang/Appendable"), (0, .class_ 352), (0, u "java/io/Serializable"), (0, .class_ 354), (0, u "java/lang/Comparable"), (0, .class_ 356), (0, u "java/lang/CharSequence"), (0, u "serialVersionUID"), (0, u "J"), (40, u "toString"), (0, u "()Ljava/lang/String;")] 21

def k14c0 : Code := { maxStack := 2, maxLocals := 1, code := jdk_67_method_1_code, exceptionTable := #[], attributes := #[] }
def k14m0 : Method := { name := "<init>", desc := "()V", sig := { parameters := [], returnType := none }, accessFlags := 1, code := some k14c0 }
def k14c1 : Code := { maxStack := 2, maxLocals := 2, code := jdk_67_method_7_code, exceptionTable := #[], attributes := #[] }
def k14m1 : Method := { name := "append", desc := "(Ljava/lang/String;)Ljava/lang/StringBuilder;", sig := { parameters := [(.object "java/lang/String")], returnType := some (.object "java/lang/StringBuilder") }, accessFlags := 1, code := some k14c1 }
def k14c2 : Code := { maxStack := 3, maxLocals := 1, code := jdk_67_method_42_code, exceptionTable := #[], attributes := #[] }
def k14m2 : Method := { name := "toString", desc := "()Ljava/lang/String;", sig := { parameters := [], returnType := some (.object "java/lang/String") }, accessFlags := 1, code := some k14c2 }
def k14c3 : Code := { maxStack := 1, maxLocals := 1, code := jdk_67_method_93_code, exceptionTable := #[], attributes := #[] }
def k14m3 : Method := { name := "length", desc := "()I", sig := { parameters := [], returnType := some .int }, accessFlags := 4161, code := some k14c3 }
/-- java/lang/StringBuilder -/
def k14 : Class := { plain "java/lang/StringBuilder" (some 13) with
  accessFlags := 49
  interfaces := #[12, 2, 3, 4]
  cf := some (fileOf pool14 24 #[] #[{ accessFlags := 1, nameIndex := 5, descriptorIndex := 145, attributes := #[] }, { accessFlags := 1, nameIndex := 27, descriptorIndex := 28, attributes := #[] }, { accessFlags := 1, nameIndex := 399, descriptorIndex := 400, attributes := #[] }, { accessFlags := 4161, nameIndex := 345, descriptorIndex := 156, attributes := #[] }] 49 2 #[349, 351, 353, 355] #[{ accessFlags := 24, nameIndex := 357, descriptorIndex := 358, attributes := #[] }])
  fields := #[{ name := "serialVersionUID", type := .long, accessFlags := 24, slot := 0, constantValue := 0 }]
  methods := #[k14m0, k14m1, k14m2, k14m3]
  instanceTypes := #[(.array .byte), .byte, .boolean, .int]
  staticTypes := #[.long]
  resolved := Array.replicate 422 none
  statics := none }

def pool15 : Array CpInfo := pool [(2, .class_ 4), (1, u "java/lang/Object"), (0, u "<init>"), (0, u "()V"), (1, .class_ 10), (1, u "java/lang/System"), (0, u "allowSecurityManager"), (0, u "I"), (16, u "cons"), (0, u "Ljava/io/Console;"), (77, .class_ 110), (1, u "java/lang/System$CallersHolder"), (43, u "initialErrStream"), (0, u "Ljava/io/PrintStream;"), (19, u "security"), (0, u "Ljava/lang/SecurityManager;"), (31, .class_ 209), (0, u "java/lang/System$1"), (7, u "props"), (0, u "Ljava/util/Properties;"), (2, u "lineSeparator"), (0, u "Ljava/lang/String;"), (96, .class_ 321), (1, u "java/lang/System$LoggerFinder"), (5, .class_ 328), (0, u "java/lang/System$Logger"), (67, u "err"), (2, u "out"), (91, u "notSupportedJnuEncoding"), (15, u "in"), (17, u "initialIn"), (0, u "Ljava/io/InputStream;"), (35, u "bootLayer"), (0, u "Ljava/lang/ModuleLayer;"), (99, .class_ 664), (0, u "java/lang/System$2"), (9, u "NEVER"), (2, u "MAYBE"), (49, u "arraycopy"), (0, u "(Ljava/lang/Object;ILjava/lang/Object;II)V"), (72, .class_ 802), (0, u "java/lang/System$Logger$Level")] 31

def k15m0 : Method := { name := "<init>", desc := "()V", sig := { parameters := [], returnType := none }, accessFlags := 2, code := none }
def k15m1 : Method := { name := "arraycopy", desc := "(Ljava/lang/Object;ILjava/lang/Object;II)V", sig := { parameters := [(.object "java/lang/Object"), .int, (.object "java/lang/Object"), .int, .int], returnType := none }, accessFlags := 265, code := none }
/-- java/lang/System -/
def k15 : Class := { plain "java/lang/System" (some 0) with
  accessFlags := 49
  interfaces := #[]
  cf := some (fileOf pool15 8 #[.nestMembers #[319, 327, 801, 108, 663, 208]] #[{ accessFlags := 2, nameIndex := 5, descriptorIndex := 6, attributes := #[] }, { accessFlags := 265, nameIndex := 727, descriptorIndex := 728, attributes := #[] }] 49 2 #[] #[{ accessFlags := 25, nameIndex := 507, descriptorIndex := 526, attributes := #[] }, { accessFlags := 25, nameIndex := 399, descriptorIndex := 155, attributes := #[] }, { accessFlags := 25, nameIndex := 396, descriptorIndex := 155, attributes := #[] }, { accessFlags := 10, nameIndex := 525, descriptorIndex := 526, attributes := #[] }, { accessFlags := 26, nameIndex := 674, descriptorIndex := 12, attributes := #[] }, { accessFlags := 26, nameIndex := 677, descriptorIndex := 12, attributes := #[] }, { accessFlags := 10, nameIndex := 11, descriptorIndex := 12, attributes := #[] }, { accessFlags := 74, nameIndex := 175, descriptorIndex := 176, attributes := #[] }, { accessFlags := 10, nameIndex := 491, descriptorIndex := 222, attributes := #[] }, { accessFlags := 74, nameIndex := 29, descriptorIndex := 30, attributes := #[] }, { accessFlags := 74, nameIndex := 154, descriptorIndex := 155, attributes := #[] }, { accessFlags := 10, nameIndex := 217, descriptorIndex := 218, attributes := #[] }, { accessFlags := 10, nameIndex := 221, descriptorIndex := 222, attributes := #[] }, { accessFlags := 8, nameIndex := 562, descriptorIndex := 563, attributes := #[] }])
  fields := #[{ name := "in", type := (.object "java/io/InputStream"), accessFlags := 25, slot := 0, constantValue := 0 }, { name := "out", type := (.object "java/io/PrintStream"), accessFlags := 25, slot := 1, constantValue := 0 }, { name := "err", type := (.object "java/io/PrintStream"), accessFlags := 25, slot := 2, constantValue := 0 }, { name := "initialIn", type := (.object "java/io/InputStream"), accessFlags := 10, slot := 3, constantValue := 0 }, { name := "NEVER", type := .int, accessFlags := 26, slot := 4, constantValue := 0 }, { name := "MAYBE", type := .int, accessFlags := 26, slot := 5, constantValue := 0 }, { name := "allowSecurityManager", type := .int, accessFlags := 10, slot := 6, constantValue := 0 }, { name := "security", type := (.object "java/lang/SecurityManager"), accessFlags := 74, slot := 7, constantValue := 0 }, { name := "notSupportedJnuEncoding", type := (.object "java/lang/String"), accessFlags := 10, slot := 8, constantValue := 0 }, { name := "cons", type := (.object "java/io/Console"), accessFlags := 74, slot := 9, constantValue := 0 }, { name := "initialErrStream", type := (.object "java/io/PrintStream"), accessFlags := 74, slot := 10, constantValue := 0 }, { name := "props", type := (.object "java/util/Properties"), accessFlags := 10, slot := 11, constantValue := 0 }, { name := "lineSeparator", type := (.object "java/lang/String"), accessFlags := 10, slot := 12, constantValue := 0 }, { name := "bootLayer", type := (.object "java/lang/ModuleLayer"), accessFlags := 8, slot := 13, constantValue := 0 }]
  methods := #[k15m0, k15m1]
  instanceTypes := #[]
  staticTypes := #[(.object "java/io/InputStream"), (.object "java/io/PrintStream"), (.object "java/io/PrintStream"), (.object "java/io/InputStream"), .int, .int, .int, (.object "java/lang/SecurityManager"), (.object "java/lang/String"), (.object "java/io/Console"), (.object "java/io/PrintStream"), (.object "java/util/Properties"), (.object "java/lang/String"), (.object "java/lang/ModuleLayer")]
  resolved := Array.replicate 834 none
  statics := none }

def pool16 : Array CpInfo := pool [(2, .class_ 4), (1, u "java/lang/Object"), (0, u "<init>"), (0, u "()V"), (7, .class_ 16), (1, u "java/util/Arrays"), (57, .class_ 76), (1, u "java/util/Arrays$NaturalOrder"), (36, .class_ 115), (1, u "java/util/Arrays$LegacyMergeSort"), (1, u "Z"), (21, u "copyOfRange"), (10, .methodref 151 152), (0, .class_ 153), (0, .nameAndType 154 155), (0, u "java/lang/System"), (0, u "arraycopy"), (0, u "(Ljava/lang/Object;ILjava/lang/Object;II)V"), (148, .methodref 305 306), (0, .class_ 307), (0, .nameAndType 308 309), (0, u "java/lang/Math"), (0, u "min"), (0, u "(II)I"), (29, .methodref 14 340), (0, .nameAndType 341 342), (0, u "copyOfRangeByte"), (0, u "([BII)[B"), (0, .methodref 14 344), (0, .nameAndType 345 346), (0, u "checkLength"), (0, u "(II)V"), (28, .class_ 376), (0, u "java/util/Arrays$ArrayList"), (68, u "$assertionsDisabled"), (269, u "MIN_ARRAY_SORT_GRAN"), (0, u "I"), (2, u "INSERTIONSORT_THRESHOLD"), (255, .class_ 976), (0, u "java/util/Arrays$ArrayItr")] 52

def k16m0 : Method := { name := "<init>", desc := "()V", sig := { parameters := [], returnType := none }, accessFlags := 2, code := none }
def k16c1 : Code := { maxStack := 4, maxLocals := 2, code := jdk_65_method_131_code, exceptionTable := #[], attributes := #[] }
def k16m1 : Method := { name := "checkLength", desc := "(II)V", sig := { parameters := [.int, .int], returnType := none }, accessFlags := 10, code := some k16c1 }
def k16c2 : Code := { maxStack := 3, maxLocals := 3, code := jdk_65_method_132_code, exceptionTable := #[], attributes := #[] }
def k16m2 : Method := { name := "copyOfRange", desc := "([BII)[B", sig := { parameters := [(.array .byte), .int, .int], returnType := some (.array .byte) }, accessFlags := 9, code := some k16c2 }
def k16c3 : Code := { maxStack := 6, maxLocals := 5, code := jdk_65_method_133_code, exceptionTable := #[], attributes := #[] }
def k16m3 : Method := { name := "copyOfRangeByte", desc := "([BII)[B", sig := { parameters := [(.array .byte), .int, .int], returnType := some (.array .byte) }, accessFlags := 10, code := some k16c3 }
/-- java/util/Arrays -/
def k16 : Class := { plain "java/util/Arrays" (some 0) with
  accessFlags := 49
  interfaces := #[]
  cf := some (fileOf pool16 14 #[.nestMembers #[975, 375, 113, 74]] #[{ accessFlags := 2, nameIndex := 5, descriptorIndex := 6, attributes := #[] }, { accessFlags := 10, nameIndex := 345, descriptorIndex := 346, attributes := #[] }, { accessFlags := 9, nameIndex := 139, descriptorIndex := 342, attributes := #[] }, { accessFlags := 10, nameIndex := 341, descriptorIndex := 342, attributes := #[] }] 49 2 #[] #[{ accessFlags := 26, nameIndex := 715, descriptorIndex := 716, attributes := #[] }, { accessFlags := 26, nameIndex := 719, descriptorIndex := 716, attributes := #[] }, { accessFlags := 4120, nameIndex := 445, descriptorIndex := 117, attributes := #[] }])
  fields := #[{ name := "MIN_ARRAY_SORT_GRAN", type := .int, accessFlags := 26, slot := 0, constantValue := 0 }, { name := "INSERTIONSORT_THRESHOLD", type := .int, accessFlags := 26, slot := 1, constantValue := 0 }, { name := "$assertionsDisabled", type := .boolean, accessFlags := 4120, slot := 2, constantValue := 0 }]
  methods := #[k16m0, k16m1, k16m2, k16m3]
  instanceTypes := #[]
  staticTypes := #[.int, .int, .boolean]
  resolved := Array.replicate 1029 none
  statics := none }

def pool17 : Array CpInfo := pool [(1, .class_ 2), (0, u "java/lang/Math"), (1, .class_ 6), (1, u "java/lang/Object"), (0, u "<init>"), (0, u "()V"), (89, .class_ 100), (1, u "java/lang/Math$RandomNumberGeneratorHolder"), (71, u "negativeZeroFloatBits"), (0, u "J"), (2, u "negativeZeroDoubleBits"), (24, u "min"), (43, u "$assertionsDisabled"), (0, u "Z"), (88, u "(II)I"), (2, u "twoToTheDoubleScaleDown"), (0, u "D"), (4, u "twoToTheDoubleScaleUp"), (9, u "E"), (3, u "PI"), (2, u "TAU"), (2, u "DEGREES_TO_RADIANS"), (0, u "RADIANS_TO_DEGREES")] 94

def k17m0 : Method := { name := "<init>", desc := "()V", sig := { parameters := [], returnType := none }, accessFlags := 2, code := none }
def k17c1 : Code := { maxStack := 2, maxLocals := 2, code := jdk_29_method_69_code, exceptionTable := #[], attributes := #[] }
def k17m1 : Method := { name := "min", desc := "(II)I", sig := { parameters := [.int, .int], returnType := some .int }, accessFlags := 9, code := some k17c1 }
/-- java/lang/Math -/
def k17 : Class := { plain "java/lang/Math" (some 0) with
  accessFlags := 49
  interfaces := #[]
  cf := some (fileOf pool17 1 #[.nestMembers #[98]] #[{ accessFlags := 2, nameIndex := 7, descriptorIndex := 8, attributes := #[] }, { accessFlags := 9, nameIndex := 201, descriptorIndex := 335, attributes := #[] }] 49 4 #[] #[{ accessFlags := 25, nameIndex := 354, descriptorIndex := 339, attributes := #[] }, { accessFlags := 25, nameIndex := 358, descriptorIndex := 339, attributes := #[] }, { accessFlags := 25, nameIndex := 361, descriptorIndex := 339, attributes := #[] }, { accessFlags := 26, nameIndex := 364, descriptorIndex := 339, attributes := #[] }, { accessFlags := 26, nameIndex := 365, descriptorIndex := 339, attributes := #[] }, { accessFlags := 26, nameIndex := 172, descriptorIndex := 173, attributes := #[] }, { accessFlags := 26, nameIndex := 176, descriptorIndex := 173, attributes := #[] }, { accessFlags := 8, nameIndex := 344, descriptorIndex := 339, attributes := #[] }, { accessFlags := 8, nameIndex := 338, descriptorIndex := 339, attributes := #[] }, { accessFlags := 4120, nameIndex := 245, descriptorIndex := 246, attributes := #[] }])
  fields := #[{ name := "E", type := .double, accessFlags := 25, slot := 0, constantValue := 0 }, { name := "PI", type := .double, accessFlags := 25, slot := 1, constantValue := 0 }, { name := "TAU", type := .double, accessFlags := 25, slot := 2, constantValue := 0 }, { name := "DEGREES_TO_RADIANS", type := .double, accessFlags := 26, slot := 3, constantValue := 0 }, { name := "RADIANS_TO_DEGREES", type := .double, accessFlags := 26, slot := 4, constantValue := 0 }, { name := "negativeZeroFloatBits", type := .long, accessFlags := 26, slot := 5, constantValue := 0 }, { name := "negativeZeroDoubleBits", type := .long, accessFlags := 26, slot := 6, constantValue := 0 }, { name := "twoToTheDoubleScaleUp", type := .double, accessFlags := 8, slot := 7, constantValue := 0 }, { name := "twoToTheDoubleScaleDown", type := .double, accessFlags := 8, slot := 8, constantValue := 0 }, { name := "$assertionsDisabled", type := .boolean, accessFlags := 4120, slot := 9, constantValue := 0 }]
  methods := #[k17m0, k17m1]
  instanceTypes := #[]
  staticTypes := #[.double, .double, .double, .double, .double, .long, .long, .double, .double, .boolean]
  resolved := Array.replicate 460 none
  statics := none }

def pool18 : Array CpInfo := pool [(8, .class_ 10), (1, u "java/lang/Iterable"), (24, .class_ 36), (0, u "java/lang/Object")] 25

/-- java/lang/Iterable -/
def k18 : Class := { plain "java/lang/Iterable" (some 0) with
  accessFlags := 1537
  interfaces := #[]
  cf := some (fileOf pool18 8 #[] #[] 1537 35 #[] #[])
  fields := #[]
  methods := #[]
  instanceTypes := #[]
  staticTypes := #[]
  resolved := Array.replicate 62 none
  statics := none }

def pool19 : Array CpInfo := pool [(10, .class_ 12), (1, u "java/util/Collection"), (47, .class_ 61), (0, u "java/lang/Object"), (0, .class_ 63), (0, u "java/lang/Iterable")] 51

/-- java/util/Collection -/
def k19 : Class := { plain "java/util/Collection" (some 0) with
  accessFlags := 1537
  interfaces := #[18]
  cf := some (fileOf pool19 10 #[] #[] 1537 60 #[62] #[])
  fields := #[]
  methods := #[]
  instanceTypes := #[]
  staticTypes := #[]
  resolved := Array.replicate 115 none
  statics := none }

def pool20 : Array CpInfo := pool [(8, .class_ 10), (1, u "java/util/SequencedCollection"), (15, .class_ 27), (0, u "java/lang/Object"), (0, .class_ 29), (0, u "java/util/Collection")] 27

/-- java/util/SequencedCollection -/
def k20 : Class := { plain "java/util/SequencedCollection" (some 0) with
  accessFlags := 1537
  interfaces := #[19]
  cf := some (fileOf pool20 8 #[] #[] 1537 26 #[28] #[])
  fields := #[]
  methods := #[]
  instanceTypes := #[]
  staticTypes := #[]
  resolved := Array.replicate 57 none
  statics := none }

def pool21 : Array CpInfo := pool [(8, .class_ 10), (1, u "java/util/List"), (37, u "<init>"), (26, u "get"), (0, u "(I)Ljava/lang/Object;"), (2, u "size"), (0, u "()I"), (7, u "of"), (7, .class_ 97), (0, u "java/util/ImmutableCollections$List12"), (2, .methodref 96 101), (0, .nameAndType 48 102), (0, u "(Ljava/lang/Object;Ljava/lang/Object;)V"), (0, .class_ 104), (0, u "java/lang/Object"), (15, .class_ 121), (0, u "java/util/SequencedCollection"), (79, u "(Ljava/lang/Object;Ljava/lang/Object;)Ljava/util/List;")] 49

def k21m0 : Method := { name := "size", desc := "()I", sig := { parameters := [], returnType := some .int }, accessFlags := 1025, code := none }
def k21m1 : Method := { name := "get", desc := "(I)Ljava/lang/Object;", sig := { parameters := [.int], returnType := some (.object "java/lang/Object") }, accessFlags := 1025, code := none }
def k21c2 : Code := { maxStack := 4, maxLocals := 2, code := jdk_40_method_38_code, exceptionTable := #[], attributes := #[] }
def k21m2 : Method := { name := "of", desc := "(Ljava/lang/Object;Ljava/lang/Object;)Ljava/util/List;", sig := { parameters := [(.object "java/lang/Object"), (.object "java/lang/Object")], returnType := some (.object "java/util/List") }, accessFlags := 9, code := some k21c2 }
/-- java/util/List -/
def k21 : Class := { plain "java/util/List" (some 0) with
  accessFlags := 1537
  interfaces := #[20]
  cf := some (fileOf pool21 8 #[] #[{ accessFlags := 1025, nameIndex := 79, descriptorIndex := 80, attributes := #[] }, { accessFlags := 1025, nameIndex := 75, descriptorIndex := 76, attributes := #[] }, { accessFlags := 9, nameIndex := 88, descriptorIndex := 201, attributes := #[] }] 1537 103 #[120] #[])
  fields := #[]
  methods := #[k21m0, k21m1, k21m2]
  instanceTypes := #[]
  staticTypes := #[]
  resolved := Array.replicate 251 none
  statics := none }

def pool22 : Array CpInfo := pool [(1, .methodref 2 3), (0, .class_ 4), (0, .nameAndType 5 6), (0, u "java/lang/Object"), (0, u "<init>"), (0, u "()V"), (1, .class_ 10), (1, u "java/util/AbstractCollection"), (66, .class_ 78), (0, u "java/util/Collection")] 81

def k22c0 : Code := { maxStack := 1, maxLocals := 1, code := jdk_22_method_1_code, exceptionTable := #[], attributes := #[] }
def k22m0 : Method := { name := "<init>", desc := "()V", sig := { parameters := [], returnType := none }, accessFlags := 4, code := some k22c0 }
/-- java/util/AbstractCollection -/
def k22 : Class := { plain "java/util/AbstractCollection" (some 0) with
  accessFlags := 1057
  interfaces := #[19]
  cf := some (fileOf pool22 8 #[] #[{ accessFlags := 4, nameIndex := 5, descriptorIndex := 6, attributes := #[] }] 1057 2 #[77] #[])
  fields := #[]
  methods := #[k22m0]
  instanceTypes := #[]
  staticTypes := #[]
  resolved := Array.replicate 160 none
  statics := none }

def pool23 : Array CpInfo := pool [(1, .methodref 2 3), (0, .class_ 4), (0, .nameAndType 5 6), (0, u "java/util/AbstractCollection"), (0, u "<init>"), (0, u "()V"), (1, .class_ 10), (1, u "java/util/ImmutableCollections"), (2, .class_ 14), (0, u "java/util/ImmutableCollections$AbstractImmutableCollection")] 41

def k23c0 : Code := { maxStack := 1, maxLocals := 1, code := jdk_47_method_1_code, exceptionTable := #[], attributes := #[] }
def k23m0 : Method := { name := "<init>", desc := "()V", sig := { parameters := [], returnType := none }, accessFlags := 0, code := some k23c0 }
/-- java/util/ImmutableCollections$AbstractImmutableCollection -/
def k23 : Class := { plain "java/util/ImmutableCollections$AbstractImmutableCollection" (some 22) with
  accessFlags := 1056
  interfaces := #[]
  cf := some (fileOf pool23 13 #[.nestHost 8] #[{ accessFlags := 0, nameIndex := 5, descriptorIndex := 6, attributes := #[] }] 1056 2 #[] #[])
  fields := #[]
  methods := #[k23m0]
  instanceTypes := #[]
  staticTypes := #[]
  resolved := Array.replicate 56 none
  statics := none }

def pool24 : Array CpInfo := pool [(1, .class_ 2), (0, u "java/util/RandomAccess"), (0, .class_ 4), (0, u "java/lang/Object")] 2

/-- java/util/RandomAccess -/
def k24 : Class := { plain "java/util/RandomAccess" (some 0) with
  accessFlags := 1537
  interfaces := #[]
  cf := some (fileOf pool24 1 #[] #[] 1537 3 #[] #[])
  fields := #[]
  methods := #[]
  instanceTypes := #[]
  staticTypes := #[]
  resolved := Array.replicate 7 none
  statics := none }

def pool25 : Array CpInfo := pool [(1, .methodref 2 3), (0, .class_ 4), (0, .nameAndType 5 6), (0, u "java/util/ImmutableCollections$AbstractImmutableCollection"), (0, u "<init>"), (0, u "()V"), (1, .class_ 10), (1, u "java/util/ImmutableCollections"), (3, .class_ 16), (1, u "java/util/ImmutableCollections$AbstractImmutableList"), (60, .class_ 78), (0, u "java/util/List"), (45, .class_ 125), (0, u "java/util/RandomAccess")] 70

def k25c0 : Code := { maxStack := 1, maxLocals := 1, code := jdk_46_method_1_code, exceptionTable := #[], attributes := #[] }
def k25m0 : Method := { name := "<init>", desc := "()V", sig := { parameters := [], returnType := none }, accessFlags := 0, code := some k25c0 }
/-- java/util/ImmutableCollections$AbstractImmutableList -/
def k25 : Class := { plain "java/util/ImmutableCollections$AbstractImmutableList" (some 23) with
  accessFlags := 1056
  interfaces := #[21, 24]
  cf := some (fileOf pool25 14 #[.nestHost 8] #[{ accessFlags := 0, nameIndex := 5, descriptorIndex := 6, attributes := #[] }] 1056 2 #[77, 124] #[])
  fields := #[]
  methods := #[k25m0]
  instanceTypes := #[]
  staticTypes := #[]
  resolved := Array.replicate 196 none
  statics := none }

def pool26 : Array CpInfo := pool [(1, .methodref 2 3), (0, .class_ 4), (0, .nameAndType 5 6), (0, u "java/util/ImmutableCollections$AbstractImmutableList"), (0, u "<init>"), (0, u "()V"), (0, .methodref 8 9), (0, .class_ 10), (0, .nameAndType 11 12), (0, u "java/util/Objects"), (0, u "requireNonNull"), (0, u "(Ljava/lang/Object;)Ljava/lang/Object;"), (0, .fieldref 14 15), (0, .class_ 16), (0, .nameAndType 17 18), (0, u "java/util/ImmutableCollections$List12"), (0, u "e0"), (0, u "Ljava/lang/Object;"), (0, .fieldref 20 21), (0, .class_ 22), (0, .nameAndType 23 18), (0, u "java/util/ImmutableCollections"), (0, u "EMPTY"), (0, .fieldref 14 25), (0, .nameAndType 26 18), (0, u "e1"), (24, u "size"), (0, u "()I"), (17, .class_ 71), (0, u "java/io/Serializable"), (13, u "(Ljava/lang/Object;Ljava/lang/Object;)V"), (4, u "get"), (0, u "(I)Ljava/lang/Object;")] 33

def k26c0 : Code := { maxStack := 2, maxLocals := 3, code := jdk_44_method_2_code, exceptionTable := #[], attributes := #[] }
def k26m0 : Method := { name := "<init>", desc := "(Ljava/lang/Object;Ljava/lang/Object;)V", sig := { parameters := [(.object "java/lang/Object"), (.object "java/lang/Object")], returnType := none }, accessFlags := 0, code := some k26c0 }
def k26c1 : Code := { maxStack := 2, maxLocals := 1, code := jdk_44_method_3_code, exceptionTable := #[], attributes := #[] }
def k26m1 : Method := { name := "size", desc := "()I", sig := { parameters := [], returnType := some .int }, accessFlags := 1, code := some k26c1 }
def k26c2 : Code := { maxStack := 2, maxLocals := 2, code := jdk_44_method_5_code, exceptionTable := #[], attributes := #[] }
def k26m2 : Method := { name := "get", desc := "(I)Ljava/lang/Object;", sig := { parameters := [.int], returnType := some (.object "java/lang/Object") }, accessFlags := 1, code := some k26c2 }
/-- java/util/ImmutableCollections$List12 -/
def k26 : Class := { plain "java/util/ImmutableCollections$List12" (some 25) with
  accessFlags := 48
  interfaces := #[2]
  cf := some (fileOf pool26 14 #[.nestHost 20] #[{ accessFlags := 0, nameIndex := 5, descriptorIndex := 85, attributes := #[] }, { accessFlags := 1, nameIndex := 51, descriptorIndex := 52, attributes := #[] }, { accessFlags := 1, nameIndex := 90, descriptorIndex := 91, attributes := #[] }] 48 2 #[70] #[{ accessFlags := 18, nameIndex := 17, descriptorIndex := 18, attributes := #[] }, { accessFlags := 18, nameIndex := 26, descriptorIndex := 18, attributes := #[] }])
  fields := #[{ name := "e0", type := (.object "java/lang/Object"), accessFlags := 18, slot := 0, constantValue := 0 }, { name := "e1", type := (.object "java/lang/Object"), accessFlags := 18, slot := 1, constantValue := 0 }]
  methods := #[k26m0, k26m1, k26m2]
  instanceTypes := #[(.object "java/lang/Object"), (.object "java/lang/Object")]
  staticTypes := #[]
  resolved := Array.replicate 125 none
  statics := none }

def pool27 : Array CpInfo := pool [(2, .class_ 4), (1, u "java/lang/Object"), (0, u "<init>"), (0, u "()V"), (35, .class_ 44), (1, u "java/util/Objects"), (0, u "requireNonNull"), (0, u "(Ljava/lang/Object;)Ljava/lang/Object;")] 137

def k27m0 : Method := { name := "<init>", desc := "()V", sig := { parameters := [], returnType := none }, accessFlags := 2, code := none }
def k27c1 : Code := { maxStack := 2, maxLocals := 1, code := jdk_31_method_10_code, exceptionTable := #[], attributes := #[] }
def k27m1 : Method := { name := "requireNonNull", desc := "(Ljava/lang/Object;)Ljava/lang/Object;", sig := { parameters := [(.object "java/lang/Object")], returnType := some (.object "java/lang/Object") }, accessFlags := 9, code := some k27c1 }
/-- java/util/Objects -/
def k27 : Class := { plain "java/util/Objects" (some 0) with
  accessFlags := 49
  interfaces := #[]
  cf := some (fileOf pool27 42 #[] #[{ accessFlags := 2, nameIndex := 5, descriptorIndex := 6, attributes := #[] }, { accessFlags := 9, nameIndex := 45, descriptorIndex := 46, attributes := #[] }] 49 2 #[] #[])
  fields := #[]
  methods := #[k27m0, k27m1]
  instanceTypes := #[]
  staticTypes := #[]
  resolved := Array.replicate 184 none
  statics := none }

def pool28 : Array CpInfo := pool [(2, .class_ 4), (1, u "java/lang/Object"), (0, u "<init>"), (0, u "()V"), (3, .class_ 11), (0, u "java/util/ImmutableCollections$List12"), (0, .class_ 13), (0, u "java/util/ImmutableCollections$ListN"), (3, u "Z"), (29, .class_ 49), (1, u "java/util/ImmutableCollections"), (0, u "$assertionsDisabled"), (5, u "[Ljava/lang/Object;"), (5, u "EMPTY_LIST"), (0, u "Ljava/util/ImmutableCollections$ListN;"), (8, u "EMPTY_LIST_NULLS"), (22, u "SALT32L"), (0, u "J"), (2, u "REVERSE"), (6, u "archivedObjects"), (2, u "EMPTY"), (0, u "Ljava/lang/Object;"), (0, .class_ 112), (0, u "java/util/ImmutableCollections$SetN"), (5, u "EMPTY_SET"), (0, u "Ljava/util/ImmutableCollections$SetN;"), (0, .class_ 121), (0, u "java/util/ImmutableCollections$MapN"), (3, u "EMPTY_MAP"), (0, u "Ljava/util/ImmutableCollections$MapN;"), (4, u "EXPAND_FACTOR"), (0, u "I"), (36, .class_ 170), (0, u "java/util/ImmutableCollections$MapN$MapNIterator"), (0, .class_ 172), (0, u "java/util/ImmutableCollections$MapN$1"), (0, .class_ 174), (0, u "java/util/ImmutableCollections$Map1"), (0, .class_ 176), (0, u "java/util/ImmutableCollections$AbstractImmutableMap"), (0, .class_ 178), (0, u "java/util/ImmutableCollections$SetN$SetNIterator"), (0, .class_ 180), (0, u "java/util/ImmutableCollections$Set12"), (0, .class_ 182), (0, u "java/util/ImmutableCollections$Set12$1"), (0, .class_ 184), (0, u "java/util/ImmutableCollections$AbstractImmutableSet"), (0, .class_ 186), (0, u "java/util/ImmutableCollections$SubList"), (0, .class_ 188), (0, u "java/util/ImmutableCollections$ListItr"), (0, .class_ 190), (0, u "java/util/ImmutableCollections$AbstractImmutableList"), (0, .class_ 192), (0, u "java/util/ImmutableCollections$AbstractImmutableCollection"), (0, .class_ 194), (0, u "java/util/ImmutableCollections$Access"), (0, .class_ 196), (0, u "java/util/ImmutableCollections$Access$1")] 16

def k28m0 : Method := { name := "<init>", desc := "()V", sig := { parameters := [], returnType := none }, accessFlags := 2, code := none }
/-- java/util/ImmutableCollections -/
def k28 : Class := { plain "java/util/ImmutableCollections" (some 0) with
  accessFlags := 32
  interfaces := #[]
  cf := some (fileOf pool28 47 #[.nestMembers #[120, 169, 171, 173, 175, 111, 177, 179, 181, 183, 12, 10, 185, 187, 189, 191, 193, 195]] #[{ accessFlags := 2, nameIndex := 5, descriptorIndex := 6, attributes := #[] }] 32 2 #[] #[{ accessFlags := 26, nameIndex := 95, descriptorIndex := 96, attributes := #[] }, { accessFlags := 26, nameIndex := 99, descriptorIndex := 17, attributes := #[] }, { accessFlags := 10, nameIndex := 106, descriptorIndex := 56, attributes := #[] }, { accessFlags := 26, nameIndex := 109, descriptorIndex := 110, attributes := #[] }, { accessFlags := 24, nameIndex := 62, descriptorIndex := 63, attributes := #[] }, { accessFlags := 24, nameIndex := 72, descriptorIndex := 63, attributes := #[] }, { accessFlags := 24, nameIndex := 118, descriptorIndex := 119, attributes := #[] }, { accessFlags := 24, nameIndex := 125, descriptorIndex := 126, attributes := #[] }, { accessFlags := 24, nameIndex := 131, descriptorIndex := 132, attributes := #[] }, { accessFlags := 4120, nameIndex := 50, descriptorIndex := 17, attributes := #[] }])
  fields := #[{ name := "SALT32L", type := .long, accessFlags := 26, slot := 0, constantValue := 0 }, { name := "REVERSE", type := .boolean, accessFlags := 26, slot := 1, constantValue := 0 }, { name := "archivedObjects", type := (.array (.object "java/lang/Object")), accessFlags := 10, slot := 2, constantValue := 0 }, { name := "EMPTY", type := (.object "java/lang/Object"), accessFlags := 26, slot := 3, constantValue := 0 }, { name := "EMPTY_LIST", type := (.object "java/util/ImmutableCollections$ListN"), accessFlags := 24, slot := 4, constantValue := 0 }, { name := "EMPTY_LIST_NULLS", type := (.object "java/util/ImmutableCollections$ListN"), accessFlags := 24, slot := 5, constantValue := 0 }, { name := "EMPTY_SET", type := (.object "java/util/ImmutableCollections$SetN"), accessFlags := 24, slot := 6, constantValue := 0 }, { name := "EMPTY_MAP", type := (.object "java/util/ImmutableCollections$MapN"), accessFlags := 24, slot := 7, constantValue := 0 }, { name := "EXPAND_FACTOR", type := .int, accessFlags := 24, slot := 8, constantValue := 0 }, { name := "$assertionsDisabled", type := .boolean, accessFlags := 4120, slot := 9, constantValue := 0 }]
  methods := #[k28m0]
  instanceTypes := #[]
  staticTypes := #[.long, .boolean, (.array (.object "java/lang/Object")), (.object "java/lang/Object"), (.object "java/util/ImmutableCollections$ListN"), (.object "java/util/ImmutableCollections$ListN"), (.object "java/util/ImmutableCollections$SetN"), (.object "java/util/ImmutableCollections$MapN"), .int, .boolean]
  resolved := Array.replicate 213 none
  statics := some 2 }

def pool29 : Array CpInfo := pool [(4, .class_ 6), (1, u "java/lang/Object"), (0, u "<init>"), (0, u "()V"), (5, .class_ 16), (1, u "java/lang/StringLatin1"), (104, u "$assertionsDisabled"), (0, u "Z"), (98, .class_ 223), (1, u "java/lang/StringLatin1$LinesSpliterator"), (57, u "equals"), (0, u "([B[B)Z"), (107, .class_ 391), (0, u "java/lang/StringLatin1$CharsSpliterator")] 3

def k29m0 : Method := { name := "<init>", desc := "()V", sig := { parameters := [], returnType := none }, accessFlags := 0, code := none }
def k29c1 : Code := { maxStack := 3, maxLocals := 3, code := jdk_43_method_13_code, exceptionTable := #[], attributes := #[] }
def k29m1 : Method := { name := "equals", desc := "([B[B)Z", sig := { parameters := [(.array .byte), (.array .byte)], returnType := some .boolean }, accessFlags := 9, code := some k29c1 }
/-- java/lang/StringLatin1 -/
def k29 : Class := { plain "java/lang/StringLatin1" (some 0) with
  accessFlags := 48
  interfaces := #[]
  cf := some (fileOf pool29 14 #[.nestMembers #[390, 221]] #[{ accessFlags := 0, nameIndex := 7, descriptorIndex := 8, attributes := #[] }, { accessFlags := 9, nameIndex := 281, descriptorIndex := 282, attributes := #[] }] 48 4 #[] #[{ accessFlags := 4120, nameIndex := 121, descriptorIndex := 122, attributes := #[] }])
  fields := #[{ name := "$assertionsDisabled", type := .boolean, accessFlags := 4120, slot := 0, constantValue := 0 }]
  methods := #[k29m0, k29m1]
  instanceTypes := #[]
  staticTypes := #[.boolean]
  resolved := Array.replicate 395 none
  statics := none }

def pool30 : Array CpInfo := pool [(2, .class_ 4), (1, u "java/lang/Object"), (0, u "<init>"), (0, u "()V"), (17, .class_ 26), (1, u "jdk/internal/util/Preconditions"), (28, .class_ 56), (0, u "jdk/internal/util/Preconditions$4"), (57, .class_ 115), (0, u "jdk/internal/util/Preconditions$1"), (7, u "SIOOBE_FORMATTER"), (0, u "Ljava/util/function/BiFunction;"), (0, .class_ 126), (0, u "jdk/internal/util/Preconditions$2"), (3, u "AIOOBE_FORMATTER"), (0, .class_ 132), (0, u "jdk/internal/util/Preconditions$3"), (3, u "IOOBE_FORMATTER")] 57

def k30m0 : Method := { name := "<init>", desc := "()V", sig := { parameters := [], returnType := none }, accessFlags := 1, code := none }
/-- jdk/internal/util/Preconditions -/
def k30 : Class := { plain "jdk/internal/util/Preconditions" (some 0) with
  accessFlags := 33
  interfaces := #[]
  cf := some (fileOf pool30 24 #[.nestMembers #[55, 131, 125, 114]] #[{ accessFlags := 1, nameIndex := 5, descriptorIndex := 6, attributes := #[] }] 33 2 #[] #[{ accessFlags := 25, nameIndex := 123, descriptorIndex := 124, attributes := #[] }, { accessFlags := 25, nameIndex := 130, descriptorIndex := 124, attributes := #[] }, { accessFlags := 25, nameIndex := 136, descriptorIndex := 124, attributes := #[] }])
  fields := #[{ name := "SIOOBE_FORMATTER", type := (.object "java/util/function/BiFunction"), accessFlags := 25, slot := 0, constantValue := 0 }, { name := "AIOOBE_FORMATTER", type := (.object "java/util/function/BiFunction"), accessFlags := 25, slot := 1, constantValue := 0 }, { name := "IOOBE_FORMATTER", type := (.object "java/util/function/BiFunction"), accessFlags := 25, slot := 2, constantValue := 0 }]
  methods := #[k30m0]
  instanceTypes := #[]
  staticTypes := #[(.object "java/util/function/BiFunction"), (.object "java/util/function/BiFunction"), (.object "java/util/function/BiFunction")]
  resolved := Array.replicate 194 none
  statics := some 3 }

def pool31 : Array CpInfo := pool [(9, u "<init>"), (6, .class_ 18), (1, u "java/lang/Object"), (0, u "()V"), (1, .class_ 23), (1, u "jdk/internal/util/ArraysSupport"), (0, u "LOG2_ARRAY_LONG_INDEX_SCALE"), (0, u "I"), (2, u "U"), (0, u "Ljdk/internal/misc/Unsafe;"), (8, u "BIG_ENDIAN"), (0, u "Z"), (8, u "LOG2_BYTE_BIT_SIZE"), (4, u "LOG2_ARRAY_INT_INDEX_SCALE"), (54, u "JLA"), (0, u "Ljdk/internal/access/JavaLangAccess;"), (11, u "LOG2_ARRAY_BOOLEAN_INDEX_SCALE"), (9, u "LOG2_ARRAY_BYTE_INDEX_SCALE"), (5, u "LOG2_ARRAY_CHAR_INDEX_SCALE"), (5, u "LOG2_ARRAY_SHORT_INDEX_SCALE"), (18, u "LOG2_ARRAY_FLOAT_INDEX_SCALE"), (24, u "LOG2_ARRAY_DOUBLE_INDEX_SCALE"), (89, u "T_BOOLEAN"), (2, u "T_CHAR"), (1, u "T_FLOAT"), (1, u "T_DOUBLE"), (1, u "T_BYTE"), (1, u "T_SHORT"), (1, u "T_INT"), (1, u "T_LONG"), (1, u "SOFT_MAX_ARRAY_LENGTH")] 83

def k31m0 : Method := { name := "<init>", desc := "()V", sig := { parameters := [], returnType := none }, accessFlags := 2, code := none }
/-- jdk/internal/util/ArraysSupport -/
def k31 : Class := { plain "jdk/internal/util/ArraysSupport" (some 0) with
  accessFlags := 33
  interfaces := #[]
  cf := some (fileOf pool31 21 #[] #[{ accessFlags := 2, nameIndex := 9, descriptorIndex := 19, attributes := #[] }] 33 16 #[] #[{ accessFlags := 24, nameIndex := 28, descriptorIndex := 29, attributes := #[] }, { accessFlags := 26, nameIndex := 38, descriptorIndex := 39, attributes := #[] }, { accessFlags := 25, nameIndex := 121, descriptorIndex := 25, attributes := #[] }, { accessFlags := 25, nameIndex := 131, descriptorIndex := 25, attributes := #[] }, { accessFlags := 25, nameIndex := 137, descriptorIndex := 25, attributes := #[] }, { accessFlags := 25, nameIndex := 143, descriptorIndex := 25, attributes := #[] }, { accessFlags := 25, nameIndex := 53, descriptorIndex := 25, attributes := #[] }, { accessFlags := 25, nameIndex := 24, descriptorIndex := 25, attributes := #[] }, { accessFlags := 25, nameIndex := 162, descriptorIndex := 25, attributes := #[] }, { accessFlags := 25, nameIndex := 187, descriptorIndex := 25, attributes := #[] }, { accessFlags := 26, nameIndex := 48, descriptorIndex := 25, attributes := #[] }, { accessFlags := 25, nameIndex := 277, descriptorIndex := 25, attributes := #[] }, { accessFlags := 25, nameIndex := 280, descriptorIndex := 25, attributes := #[] }, { accessFlags := 25, nameIndex := 282, descriptorIndex := 25, attributes := #[] }, { accessFlags := 25, nameIndex := 284, descriptorIndex := 25, attributes := #[] }, { accessFlags := 25, nameIndex := 286, descriptorIndex := 25, attributes := #[] }, { accessFlags := 25, nameIndex := 288, descriptorIndex := 25, attributes := #[] }, { accessFlags := 25, nameIndex := 290, descriptorIndex := 25, attributes := #[] }, { accessFlags := 25, nameIndex := 292, descriptorIndex := 25, attributes := #[] }, { accessFlags := 26, nameIndex := 108, descriptorIndex := 109, attributes := #[] }, { accessFlags := 25, nameIndex := 294, descriptorIndex := 25, attributes := #[] }])
  fields := #[{ name := "U", type := (.object "jdk/internal/misc/Unsafe"), accessFlags := 24, slot := 0, constantValue := 0 }, { name := "BIG_ENDIAN", type := .boolean, accessFlags := 26, slot := 1, constantValue := 0 }, { name := "LOG2_ARRAY_BOOLEAN_INDEX_SCALE", type := .int, accessFlags := 25, slot := 2, constantValue := 0 }, { name := "LOG2_ARRAY_BYTE_INDEX_SCALE", type := .int, accessFlags := 25, slot := 3, constantValue := 0 }, { name := "LOG2_ARRAY_CHAR_INDEX_SCALE", type := .int, accessFlags := 25, slot := 4, constantValue := 0 }, { name := "LOG2_ARRAY_SHORT_INDEX_SCALE", type := .int, accessFlags := 25, slot := 5, constantValue := 0 }, { name := "LOG2_ARRAY_INT_INDEX_SCALE", type := .int, accessFlags := 25, slot := 6, constantValue := 0 }, { name := "LOG2_ARRAY_LONG_INDEX_SCALE", type := .int, accessFlags := 25, slot := 7, constantValue := 0 }, { name := "LOG2_ARRAY_FLOAT_INDEX_SCALE", type := .int, accessFlags := 25, slot := 8, constantValue := 0 }, { name := "LOG2_ARRAY_DOUBLE_INDEX_SCALE", type := .int, accessFlags := 25, slot := 9, constantValue := 0 }, { name := "LOG2_BYTE_BIT_SIZE", type := .int, accessFlags := 26, slot := 10, constantValue := 0 }, { name := "T_BOOLEAN", type := .int, accessFlags := 25, slot := 11, constantValue := 0 }, { name := "T_CHAR", type := .int, accessFlags := 25, slot := 12, constantValue := 0 }, { name := "T_FLOAT", type := .int, accessFlags := 25, slot := 13, constantValue := 0 }, { name := "T_DOUBLE", type := .int, accessFlags := 25, slot := 14, constantValue := 0 }, { name := "T_BYTE", type := .int, accessFlags := 25, slot := 15, constantValue := 0 }, { name := "T_SHORT", type := .int, accessFlags := 25, slot := 16, constantValue := 0 }, { name := "T_INT", type := .int, accessFlags := 25, slot := 17, constantValue := 0 }, { name := "T_LONG", type := .int, accessFlags := 25, slot := 18, constantValue := 0 }, { name := "JLA", type := (.object "jdk/internal/access/JavaLangAccess"), accessFlags := 26, slot := 19, constantValue := 0 }, { name := "SOFT_MAX_ARRAY_LENGTH", type := .int, accessFlags := 25, slot := 20, constantValue := 0 }]
  methods := #[k31m0]
  instanceTypes := #[]
  staticTypes := #[(.object "jdk/internal/misc/Unsafe"), .boolean, .int, .int, .int, .int, .int, .int, .int, .int, .int, .int, .int, .int, .int, .int, .int, .int, .int, (.object "jdk/internal/access/JavaLangAccess"), .int]
  resolved := Array.replicate 378 none
  statics := none }

def pool32 : Array CpInfo := pool [(2, .class_ 4), (1, u "java/lang/Object"), (0, u "<init>"), (0, u "()V"), (12, .class_ 20), (0, u "java/util/Collections"), (63, u "r"), (0, u "Ljava/util/Random;"), (80, .class_ 167), (0, u "java/util/Collections$UnmodifiableCollection"), (6, .class_ 175), (0, u "java/util/Collections$UnmodifiableSequencedCollection"), (6, .class_ 183), (0, u "java/util/Collections$UnmodifiableSet"), (6, .class_ 191), (0, u "java/util/Collections$UnmodifiableSequencedSet"), (6, .class_ 199), (0, u "java/util/Collections$UnmodifiableSortedSet"), (6, .class_ 207), (0, u "java/util/Collections$UnmodifiableNavigableSet"), (4, .class_ 213), (0, u "java/util/Collections$UnmodifiableList"), (1, .class_ 216), (0, u "java/util/Collections$UnmodifiableRandomAccessList"), (6, .class_ 224), (0, u "java/util/Collections$UnmodifiableMap"), (6, .class_ 232), (0, u "java/util/Collections$UnmodifiableSequencedMap"), (4, .class_ 238), (0, u "java/util/Collections$UnmodifiableSortedMap"), (6, .class_ 246), (0, u "java/util/Collections$UnmodifiableNavigableMap"), (3, .class_ 251), (0, u "java/util/Collections$SynchronizedCollection"), (4, .class_ 257), (0, u "java/util/Collections$SynchronizedSet"), (4, .class_ 263), (0, u "java/util/Collections$SynchronizedSortedSet"), (1, .class_ 266), (0, u "java/util/Collections$SynchronizedNavigableSet"), (1, .class_ 269), (0, u "java/util/Collections$SynchronizedRandomAccessList"), (1, .class_ 272), (0, u "java/util/Collections$SynchronizedList"), (5, .class_ 279), (0, u "java/util/Collections$SynchronizedMap"), (1, .class_ 282), (0, u "java/util/Collections$SynchronizedSortedMap"), (1, .class_ 285), (0, u "java/util/Collections$SynchronizedNavigableMap"), (1, .class_ 288), (0, u "java/util/Collections$CheckedCollection"), (11, .class_ 301), (0, u "java/util/Collections$CheckedQueue"), (3, .class_ 306), (0, u "java/util/Collections$CheckedSet"), (3, .class_ 311), (0, u "java/util/Collections$CheckedSortedSet"), (3, .class_ 316), (0, u "java/util/Collections$CheckedNavigableSet"), (3, .class_ 321), (0, u "java/util/Collections$CheckedRandomAccessList"), (3, .class_ 326), (0, u "java/util/Collections$CheckedList"), (1, .class_ 329), (0, u "java/util/Collections$CheckedMap"), (3, .class_ 334), (0, u "java/util/Collections$CheckedSortedMap"), (3, .class_ 339), (0, u "java/util/Collections$CheckedNavigableMap"), (4, .class_ 346), (1, u "java/util/Collections$EmptyIterator"), (3, .class_ 352), (1, u "java/util/Collections$EmptyListIterator"), (2, .class_ 357), (1, u "java/util/Collections$EmptyEnumeration"), (4, u "EMPTY_SET"), (0, u "Ljava/util/Set;"), (6, u "EMPTY_LIST"), (0, u "Ljava/util/List;"), (2, u "EMPTY_MAP"), (0, u "Ljava/util/Map;"), (4, .class_ 381), (0, u "java/util/Collections$SingletonSet"), (2, .class_ 385), (0, u "java/util/Collections$1"), (1, .class_ 388), (0, u "java/util/Collections$2"), (1, .class_ 391), (0, u "java/util/Collections$SingletonList"), (1, .class_ 394), (0, u "java/util/Collections$SingletonMap"), (22, .class_ 418), (0, u "java/util/Collections$CopiesList"), (4, .class_ 425), (1, u "java/util/Collections$ReverseComparator"), (8, .class_ 435), (0, u "java/util/Collections$ReverseComparator2"), (6, .class_ 443), (0, u "java/util/Collections$3"), (25, .class_ 470), (0, u "java/util/Collections$SetFromMap"), (2, .class_ 474), (0, u "java/util/Collections$SequencedSetFromMap"), (3, .class_ 479), (0, u "java/util/Collections$AsLIFOQueue"), (11, .class_ 492), (0, u "java/util/Collections$EmptySet"), (1, .class_ 495), (0, u "java/util/Collections$EmptyList"), (1, .class_ 498), (0, u "java/util/Collections$EmptyMap"), (1, u "BINARYSEARCH_THRESHOLD"), (0, u "I"), (2, u "REVERSE_THRESHOLD"), (1, u "SHUFFLE_THRESHOLD"), (1, u "FILL_THRESHOLD"), (1, u "ROTATE_THRESHOLD"), (1, u "COPY_THRESHOLD"), (1, u "REPLACEALL_THRESHOLD"), (1, u "INDEXOFSUBLIST_THRESHOLD"), (333, .class_ 851), (0, u "java/util/Collections$CheckedMap$CheckedEntrySet"), (0, .class_ 853), (0, u "java/util/Collections$CheckedMap$CheckedEntrySet$CheckedEntry"), (0, .class_ 855), (0, u "java/util/Collections$CheckedMap$CheckedEntrySet$1"), (0, .class_ 857), (0, u "java/util/Collections$CheckedList$1"), (0, .class_ 859), (0, u "java/util/Collections$CheckedCollection$1"), (0, .class_ 861), (0, u "java/util/Collections$UnmodifiableNavigableMap$EmptyNavigableMap"), (0, .class_ 863), (0, u "java/util/Collections$UnmodifiableMap$UnmodifiableEntrySet"), (0, .class_ 865), (0, u "java/util/Collections$UnmodifiableMap$UnmodifiableEntrySet$UnmodifiableEntry"), (0, .class_ 867), (0, u "java/util/Collections$UnmodifiableMap$UnmodifiableEntrySet$UnmodifiableEntrySetSpliterator"), (0, .class_ 869), (0, u "java/util/Collections$UnmodifiableMap$UnmodifiableEntrySet$1"), (0, .class_ 871), (0, u "java/util/Collections$UnmodifiableList$1"), (0, .class_ 873), (0, u "java/util/Collections$UnmodifiableNavigableSet$EmptyNavigableSet"), (0, .class_ 875), (0, u "java/util/Collections$UnmodifiableCollection$1")] 57

def k32m0 : Method := { name := "<init>", desc := "()V", sig := { parameters := [], returnType := none }, accessFlags := 2, code := none }
/-- java/util/Collections -/
def k32 : Class := { plain "java/util/Collections" (some 0) with
  accessFlags := 33
  interfaces := #[]
  cf := some (fileOf pool32 19 #[.nestMembers #[478, 473, 469, 434, 423, 417, 393, 390, 380, 497, 494, 491, 355, 350, 344, 338, 333, 328, 850, 852, 854, 320, 325, 856, 315, 310, 305, 300, 287, 858, 284, 281, 278, 268, 271, 265, 262, 256, 250, 245, 860, 237, 231, 223, 862, 864, 866, 868, 215, 212, 870, 206, 872, 198, 190, 182, 174, 166, 874, 442, 387, 384]] #[{ accessFlags := 2, nameIndex := 5, descriptorIndex := 6, attributes := #[] }] 33 2 #[] #[{ accessFlags := 26, nameIndex := 500, descriptorIndex := 501, attributes := #[] }, { accessFlags := 26, nameIndex := 504, descriptorIndex := 501, attributes := #[] }, { accessFlags := 26, nameIndex := 506, descriptorIndex := 501, attributes := #[] }, { accessFlags := 26, nameIndex := 508, descriptorIndex := 501, attributes := #[] }, { accessFlags := 26, nameIndex := 510, descriptorIndex := 501, attributes := #[] }, { accessFlags := 26, nameIndex := 512, descriptorIndex := 501, attributes := #[] }, { accessFlags := 26, nameIndex := 514, descriptorIndex := 501, attributes := #[] }, { accessFlags := 26, nameIndex := 516, descriptorIndex := 501, attributes := #[] }, { accessFlags := 10, nameIndex := 84, descriptorIndex := 85, attributes := #[] }, { accessFlags := 25, nameIndex := 362, descriptorIndex := 363, attributes := #[] }, { accessFlags := 25, nameIndex := 370, descriptorIndex := 371, attributes := #[] }, { accessFlags := 25, nameIndex := 374, descriptorIndex := 375, attributes := #[] }])
  fields := #[{ name := "BINARYSEARCH_THRESHOLD", type := .int, accessFlags := 26, slot := 0, constantValue := 0 }, { name := "REVERSE_THRESHOLD", type := .int, accessFlags := 26, slot := 1, constantValue := 0 }, { name := "SHUFFLE_THRESHOLD", type := .int, accessFlags := 26, slot := 2, constantValue := 0 }, { name := "FILL_THRESHOLD", type := .int, accessFlags := 26, slot := 3, constantValue := 0 }, { name := "ROTATE_THRESHOLD", type := .int, accessFlags := 26, slot := 4, constantValue := 0 }, { name := "COPY_THRESHOLD", type := .int, accessFlags := 26, slot := 5, constantValue := 0 }, { name := "REPLACEALL_THRESHOLD", type := .int, accessFlags := 26, slot := 6, constantValue := 0 }, { name := "INDEXOFSUBLIST_THRESHOLD", type := .int, accessFlags := 26, slot := 7, constantValue := 0 }, { name := "r", type := (.object "java/util/Random"), accessFlags := 10, slot := 8, constantValue := 0 }, { name := "EMPTY_SET", type := (.object "java/util/Set"), accessFlags := 25, slot := 9, constantValue := 0 }, { name := "EMPTY_LIST", type := (.object "java/util/List"), accessFlags := 25, slot := 10, constantValue := 0 }, { name := "EMPTY_MAP", type := (.object "java/util/Map"), accessFlags := 25, slot := 11, constantValue := 0 }]
  methods := #[k32m0]
  instanceTypes := #[]
  staticTypes := #[.int, .int, .int, .int, .int, .int, .int, .int, (.object "java/util/Random"), (.object "java/util/Set"), (.object "java/util/List"), (.object "java/util/Map")]
  resolved := Array.replicate 933 none
  statics := some 4 }

def pool33 : Array CpInfo := pool [(2, .class_ 4), (1, u "java/util/AbstractCollection"), (0, u "<init>"), (0, u "()V"), (1, .class_ 10), (1, u "java/util/AbstractList"), (0, u "modCount"), (0, u "I"), (64, .class_ 78), (0, u "java/util/AbstractList$Itr"), (3, .class_ 83), (0, u "java/util/AbstractList$ListItr"), (9, .class_ 94), (0, u "java/util/AbstractList$RandomAccessSubList"), (3, .class_ 99), (0, u "java/util/AbstractList$SubList"), (33, .class_ 134), (0, u "java/util/List"), (73, .class_ 209), (0, u "java/util/AbstractList$SubList$1"), (0, .class_ 211), (0, u "java/util/AbstractList$RandomAccessSpliterator")] 6

def k33m0 : Method := { name := "<init>", desc := "()V", sig := { parameters := [], returnType := none }, accessFlags := 4, code := none }
/-- java/util/AbstractList -/
def k33 : Class := { plain "java/util/AbstractList" (some 22) with
  accessFlags := 1057
  interfaces := #[21]
  cf := some (fileOf pool33 8 #[.nestMembers #[93, 98, 208, 210, 82, 77]] #[{ accessFlags := 4, nameIndex := 5, descriptorIndex := 6, attributes := #[] }] 1057 2 #[133] #[{ accessFlags := 132, nameIndex := 11, descriptorIndex := 12, attributes := #[] }])
  fields := #[{ name := "modCount", type := .int, accessFlags := 132, slot := 0, constantValue := 0 }]
  methods := #[k33m0]
  instanceTypes := #[.int]
  staticTypes := #[]
  resolved := Array.replicate 218 none
  statics := none }

def pool34 : Array CpInfo := pool [(2, .class_ 4), (1, u "java/util/AbstractList"), (0, u "<init>"), (0, u "()V"), (1, .class_ 10), (1, u "java/util/Collections"), (54, .class_ 66), (0, u "java/util/Collections$EmptyList"), (0, .class_ 68), (0, u "java/util/RandomAccess"), (0, .class_ 70), (0, u "java/io/Serializable"), (0, u "serialVersionUID"), (0, u "J")] 77

def k34m0 : Method := { name := "<init>", desc := "()V", sig := { parameters := [], returnType := none }, accessFlags := 2, code := none }
/-- java/util/Collections$EmptyList -/
def k34 : Class := { plain "java/util/Collections$EmptyList" (some 33) with
  accessFlags := 32
  interfaces := #[24, 2]
  cf := some (fileOf pool34 65 #[.nestHost 8] #[{ accessFlags := 2, nameIndex := 5, descriptorIndex := 6, attributes := #[] }] 32 2 #[67, 69] #[{ accessFlags := 26, nameIndex := 71, descriptorIndex := 72, attributes := #[] }])
  fields := #[{ name := "serialVersionUID", type := .long, accessFlags := 26, slot := 0, constantValue := 0 }]
  methods := #[k34m0]
  instanceTypes := #[.int]
  staticTypes := #[.long]
  resolved := Array.replicate 150 none
  statics := none }

def pool35 : Array CpInfo := pool [(2, .class_ 4), (1, u "java/util/ImmutableCollections$AbstractImmutableList"), (3, .class_ 10), (1, u "java/util/ImmutableCollections$ListN"), (0, u "elements"), (0, u "[Ljava/lang/Object;"), (2, u "allowNulls"), (0, u "Z"), (42, .class_ 60), (0, u "java/io/Serializable"), (53, .class_ 115), (0, u "java/util/ImmutableCollections")] 3

/-- java/util/ImmutableCollections$ListN -/
def k35 : Class := { plain "java/util/ImmutableCollections$ListN" (some 25) with
  accessFlags := 48
  interfaces := #[2]
  cf := some (fileOf pool35 8 #[.nestHost 114] #[] 48 2 #[59] #[{ accessFlags := 18, nameIndex := 11, descriptorIndex := 12, attributes := #[] }, { accessFlags := 18, nameIndex := 15, descriptorIndex := 16, attributes := #[] }])
  fields := #[{ name := "elements", type := (.array (.object "java/lang/Object")), accessFlags := 18, slot := 0, constantValue := 0 }, { name := "allowNulls", type := .boolean, accessFlags := 18, slot := 1, constantValue := 0 }]
  methods := #[]
  instanceTypes := #[(.array (.object "java/lang/Object")), .boolean]
  staticTypes := #[]
  resolved := Array.replicate 119 none
  statics := none }

def pool36 : Array CpInfo := pool [(2, .class_ 4), (1, u "java/lang/StackTraceElement"), (0, u "<init>"), (2, .class_ 10), (1, u "java/lang/Object"), (0, u "()V"), (2, u "format"), (0, u "B"), (2, u "classLoaderName"), (0, u "Ljava/lang/String;"), (2, u "moduleName"), (2, u "moduleVersion"), (12, u "declaringClass"), (4, u "methodName"), (2, u "fileName"), (2, u "lineNumber"), (0, u "I"), (65, u "declaringClassObject"), (0, u "Ljava/lang/Class;"), (33, .class_ 153), (1, u "java/lang/StackTraceElement$HashedModules"), (17, .class_ 172), (0, u "java/io/Serializable"), (0, u "NATIVE_METHOD"), (1, u "UNKNOWN_SOURCE"), (2, u "BUILTIN_CLASS_LOADER"), (1, u "JDK_NON_UPGRADEABLE_MODULE"), (1, u "serialVersionUID"), (0, u "J")] 51

def k36m0 : Method := { name := "<init>", desc := "()V", sig := { parameters := [], returnType := none }, accessFlags := 2, code := none }
/-- java/lang/StackTraceElement -/
def k36 : Class := { plain "java/lang/StackTraceElement" (some 0) with
  accessFlags := 49
  interfaces := #[2]
  cf := some (fileOf pool36 2 #[.nestMembers #[151]] #[{ accessFlags := 2, nameIndex := 5, descriptorIndex := 11, attributes := #[] }] 49 8 #[171] #[{ accessFlags := 26, nameIndex := 173, descriptorIndex := 19, attributes := #[] }, { accessFlags := 26, nameIndex := 175, descriptorIndex := 19, attributes := #[] }, { accessFlags := 130, nameIndex := 116, descriptorIndex := 117, attributes := #[] }, { accessFlags := 2, nameIndex := 18, descriptorIndex := 19, attributes := #[] }, { accessFlags := 2, nameIndex := 22, descriptorIndex := 19, attributes := #[] }, { accessFlags := 2, nameIndex := 25, descriptorIndex := 19, attributes := #[] }, { accessFlags := 2, nameIndex := 38, descriptorIndex := 19, attributes := #[] }, { accessFlags := 2, nameIndex := 43, descriptorIndex := 19, attributes := #[] }, { accessFlags := 2, nameIndex := 46, descriptorIndex := 19, attributes := #[] }, { accessFlags := 2, nameIndex := 49, descriptorIndex := 50, attributes := #[] }, { accessFlags := 2, nameIndex := 14, descriptorIndex := 15, attributes := #[] }, { accessFlags := 26, nameIndex := 178, descriptorIndex := 15, attributes := #[] }, { accessFlags := 26, nameIndex := 180, descriptorIndex := 15, attributes := #[] }, { accessFlags := 26, nameIndex := 182, descriptorIndex := 183, attributes := #[] }])
  fields := #[{ name := "NATIVE_METHOD", type := (.object "java/lang/String"), accessFlags := 26, slot := 0, constantValue := 0 }, { name := "UNKNOWN_SOURCE", type := (.object "java/lang/String"), accessFlags := 26, slot := 1, constantValue := 0 }, { name := "declaringClassObject", type := (.object "java/lang/Class"), accessFlags := 130, slot := 0, constantValue := 0 }, { name := "classLoaderName", type := (.object "java/lang/String"), accessFlags := 2, slot := 1, constantValue := 0 }, { name := "moduleName", type := (.object "java/lang/String"), accessFlags := 2, slot := 2, constantValue := 0 }, { name := "moduleVersion", type := (.object "java/lang/String"), accessFlags := 2, slot := 3, constantValue := 0 }, { name := "declaringClass", type := (.object "java/lang/String"), accessFlags := 2, slot := 4, constantValue := 0 }, { name := "methodName", type := (.object "java/lang/String"), accessFlags := 2, slot := 5, constantValue := 0 }, { name := "fileName", type := (.object "java/lang/String"), accessFlags := 2, slot := 6, constantValue := 0 }, { name := "lineNumber", type := .int, accessFlags := 2, slot := 7, constantValue := 0 }, { name := "format", type := .byte, accessFlags := 2, slot := 8, constantValue := 0 }, { name := "BUILTIN_CLASS_LOADER", type := .byte, accessFlags := 26, slot := 2, constantValue := 0 }, { name := "JDK_NON_UPGRADEABLE_MODULE", type := .byte, accessFlags := 26, slot := 3, constantValue := 0 }, { name := "serialVersionUID", type := .long, accessFlags := 26, slot := 4, constantValue := 0 }]
  methods := #[k36m0]
  instanceTypes := #[(.object "java/lang/Class"), (.object "java/lang/String"), (.object "java/lang/String"), (.object "java/lang/String"), (.object "java/lang/String"), (.object "java/lang/String"), (.object "java/lang/String"), .int, .byte]
  staticTypes := #[(.object "java/lang/String"), (.object "java/lang/String"), .byte, .byte, .long]
  resolved := Array.replicate 235 none
  statics := none }

def pool37 : Array CpInfo := pool [(1, u "java/lang/Cloneable"), (0, .class_ 1), (0, u "java/lang/Object"), (0, .class_ 3)] 3

/-- java/lang/Cloneable -/
def k37 : Class := { plain "java/lang/Cloneable" (some 0) with
  accessFlags := 1537
  interfaces := #[]
  cf := some (fileOf pool37 2 #[] #[] 1537 4 #[] #[])
  fields := #[]
  methods := #[]
  instanceTypes := #[]
  staticTypes := #[]
  resolved := Array.replicate 8 none
  statics := none }

/-- the primitive byte -/
def k38 : Class := { plain "byte" none with kind := .primitive 'B', accessFlags := 0x411 }
/-- [B -/
def k39 : Class := { plain "[B" (some 0) with kind := .array 38 .byte, interfaces := #[37, 2], accessFlags := 1041 }

/-- the primitive char -/
def k40 : Class := { plain "char" none with kind := .primitive 'C', accessFlags := 0x411 }
/-- [C -/
def k41 : Class := { plain "[C" (some 0) with kind := .array 40 .char, interfaces := #[37, 2], accessFlags := 1041 }

/-- the primitive int -/
def k42 : Class := { plain "int" none with kind := .primitive 'I', accessFlags := 0x411 }
/-- [I -/
def k43 : Class := { plain "[I" (some 0) with kind := .array 42 .int, interfaces := #[37, 2], accessFlags := 1041 }

/-- [Ljava/lang/Object; -/
def k44 : Class := { plain "[Ljava/lang/Object;" (some 0) with kind := .array 0 (.object "java/lang/Object"), interfaces := #[37, 2], accessFlags := 1041 }

/-- [Ljava/lang/StackTraceElement; -/
def k45 : Class := { plain "[Ljava/lang/StackTraceElement;" (some 0) with kind := .array 36 (.object "java/lang/StackTraceElement"), interfaces := #[37, 2], accessFlags := 1041 }

/-- [Ljava/lang/Throwable; -/
def k46 : Class := { plain "[Ljava/lang/Throwable;" (some 0) with kind := .array 9 (.object "java/lang/Throwable"), interfaces := #[37, 2], accessFlags := 1041 }

def heap : Heap := #[{ cls := 7, slots := #[.long 0, .int 1, .null, .int 0, .null, .int 0, .int 0], vm := .statics 7 },
  { cls := 9, slots := #[.long 0, .ref 5, .ref 6, .null, .null, .null, .null, .ref 7, .int 1], vm := .statics 9 },
  { cls := 28, slots := #[.long 0, .int 0, .null, .ref 8, .ref 9, .null, .null, .null, .int 0, .int 1], vm := .statics 28 },
  { cls := 30, slots := #[.null, .null, .null], vm := .statics 30 },
  { cls := 32, slots := #[.int 0, .int 0, .int 0, .int 0, .int 0, .int 0, .int 0, .int 0, .null, .null, .ref 6, .null], vm := .statics 32 },
  { cls := 45, slots := #[], vm := .none },
  { cls := 34, slots := #[.int 0], vm := .none },
  { cls := 46, slots := #[], vm := .none },
  { cls := 0, slots := #[], vm := .none },
  { cls := 35, slots := #[.null, .int 0], vm := .none }]
def classes : Array Class := #[k0, k1, k2, k3, k4, k5, k6, k7, k8, k9, k10, k11, k12, k13, k14, k15, k16, k17, k18, k19, k20, k21, k22, k23, k24, k25, k26, k27, k28, k29, k30, k31, k32, k33, k34, k35, k36, k37, k38, k39, k40, k41, k42, k43, k44, k45, k46]
def interned : List (Array UInt16 × Addr) := []
def slotsUsed : Nat := 44
def theMethod : MethodId := ⟨1, 1⟩
def args0 : Array Value := #[.int 5, .int 7, .int 3]
def aboutOver (below : List Frame) : State where
  vm := { classes := classes, interned := interned.toArray }
  heap := heap
  slotsUsed := slotsUsed
  threads := #[{ frames := .invoking theMethod args0 :: below }]
def below0 : List Frame := [.native { method := ⟨0, 0⟩, args := #[] }]
def about1 : State := aboutOver below0
def p0 : Program := .bare "" "" ""
def e0 : Env := launch0.env 0 0 0
theorem w_frames : about1.frames = Frame.invoking theMethod args0 :: below0 := rfl
set_option maxRecDepth 65536 in
theorem w_args : argsFit about1.vm theMethod args0 = true := by decide +kernel
set_option maxRecDepth 65536 in
theorem w_heap : heapFits about1 = true := by decide +kernel
set_option maxRecDepth 65536 in
theorem w_runnable : about1.curStatus? = some .runnable := by decide +kernel
set_option maxRecDepth 65536 in
theorem w_alone : about1.alone = true := by decide +kernel
set_option maxRecDepth 65536 in
theorem w_named : about1.methodNamed? x = some theMethod := by decide +kernel
set_option maxRecDepth 65536 in
theorem w_hears : about1.hears theMethod below0 = true := by decide +kernel
set_option maxRecDepth 65536 in
theorem w_ripe : about1.ripe theMethod args0 below0 = true := by decide +kernel
theorem w_running : about1.status = .running := rfl
set_option maxRecDepth 65536 in
theorem w_room : about1.hasRoom e0.platform room_1 = true :=
  launch0.hasRoom_least _ room_1 (by decide +kernel) (by decide +kernel) (by decide +kernel) (by decide +kernel) (by decide +kernel) (by decide +kernel)
theorem allAtoms_all (ts : List Jvm.Cond) (a : Array Jvm.Value) (st : Jvm.State) : (allAtoms ts).before a st = ts.all (fun c => c.before a st) := by
  induction ts with
  | nil => rfl
  | cons c t ih =>
    show (Jvm.Cond.and c (allAtoms t)).before a st = _
    rw [Jvm.Cond.before_and, ih, List.all_cons]
def words1 : List Jvm.Cond := Jvm.Cond.code x code maxLocals ret :: tables_1
/-- a 'code' word, met by the world's own term for the bytes: nothing is compared byte by byte -/
theorem code_word {y : MethodName} {bytes : ByteArray} {mx : Nat} {rt : Option FieldType} {a : Array Value} {s : State} {m : MethodId} {meth : Method} {c : Code} (h1 : s.methodNamed? y = some m) (h2 : s.vm.method? m = some meth) (h3 : meth.code = some c) (h4 : c.code = bytes)
    (h5 : (c.maxLocals == mx && c.exceptionTable.isEmpty && decide (c.maxStack ≤ mostOperands) && decide (meth.sig.returnType = rt) && !meth.locks && decide (parseMethodDescriptor y.desc = some meth.sig)) = true) : (Jvm.Cond.code y bytes mx rt).before a s = true := by
  simp only [Bool.and_eq_true, beq_iff_eq, Bool.not_eq_true', decide_eq_true_eq] at h5
  obtain ⟨⟨⟨⟨⟨g1, g2⟩, g3⟩, g4⟩, g5⟩, g6⟩ := h5
  simp [Cond.before, Cond.holds, Cond.value, h1, h2, h3, h4, g1, g2, g3, g4, g5, g6]
def isCode : Jvm.Cond → Bool
  | .code _ _ _ _ => true
  | _ => false
theorem all_split {L : List Jvm.Cond} {P : Jvm.Cond → Bool} (h1 : L.all (fun c => isCode c || P c) = true) (h2 : ∀ c ∈ L.filter isCode, P c = true) : L.all P = true := by
  refine List.all_eq_true.mpr fun c hc => ?_
  have h := List.all_eq_true.mp h1 c hc
  rcases Bool.eq_false_or_eq_true (isCode c) with hi | hi
  · exact h2 c (List.mem_filter.mpr ⟨hc, hi⟩)
  · simpa [hi] using h
set_option maxRecDepth 65536 in
theorem w_c0 : (Jvm.Cond.code x code maxLocals ret).before args0 about1 = true := code_word (m := ⟨1, 1⟩) (meth := k1m1) (c := k1c1) (by decide +kernel) rfl rfl rfl (by decide +kernel)
set_option maxRecDepth 65536 in
theorem w_c1 : (Jvm.Cond.code ({ cls := "java/lang/String", name := "<init>", desc := "([C)V" } : Jvm.MethodName) jdk_42_method_3_code (2 : Nat) (Option.none : Option Jvm.ClassFile.FieldType)).before args0 about1 = true := code_word (m := ⟨7, 1⟩) (meth := k7m1) (c := k7c1) (by decide +kernel) rfl rfl rfl (by decide +kernel)
set_option maxRecDepth 65536 in
theorem w_c2 : (Jvm.Cond.code ({ cls := "java/lang/String", name := "<init>", desc := "([CIILjava/lang/Void;)V" } : Jvm.MethodName) jdk_42_method_149_code (6 : Nat) (Option.none : Option Jvm.ClassFile.FieldType)).before args0 about1 = true := code_word (m := ⟨7, 6⟩) (meth := k7m6) (c := k7c6) (by decide +kernel) rfl rfl rfl (by decide +kernel)
set_option maxRecDepth 65536 in
theorem w_c3 : (Jvm.Cond.code ({ cls := "java/lang/Object", name := "<init>", desc := "()V" } : Jvm.MethodName) object_method_1_code (1 : Nat) (Option.none : Option Jvm.ClassFile.FieldType)).before args0 about1 = true := code_word (m := ⟨0, 0⟩) (meth := k0m0) (c := k0c0) (by decide +kernel) rfl rfl rfl (by decide +kernel)
set_option maxRecDepth 65536 in
theorem w_c4 : (Jvm.Cond.code ({ cls := "java/lang/StringUTF16", name := "compress", desc := "([CII)[B" } : Jvm.MethodName) jdk_52_method_16_code (6 : Nat) (Option.some (Jvm.ClassFile.FieldType.array Jvm.ClassFile.FieldType.byte))).before args0 about1 = true := code_word (m := ⟨8, 2⟩) (meth := k8m2) (c := k8c2) (by decide +kernel) rfl rfl rfl (by decide +kernel)
set_option maxRecDepth 65536 in
theorem w_c5 : (Jvm.Cond.code ({ cls := "java/lang/StringUTF16", name := "compress", desc := "([CI[BII)I" } : Jvm.MethodName) jdk_52_method_21_code (7 : Nat) (Option.some Jvm.ClassFile.FieldType.int)).before args0 about1 = true := code_word (m := ⟨8, 3⟩) (meth := k8m3) (c := k8c3) (by decide +kernel) rfl rfl rfl (by decide +kernel)
set_option maxRecDepth 65536 in
theorem w_c6 : (Jvm.Cond.code ({ cls := "java/lang/StringUTF16", name := "coderFromArrayLen", desc := "([BI)B" } : Jvm.MethodName) jdk_52_method_15_code (2 : Nat) (Option.some Jvm.ClassFile.FieldType.byte)).before args0 about1 = true := code_word (m := ⟨8, 1⟩) (meth := k8m1) (c := k8c1) (by decide +kernel) rfl rfl rfl (by decide +kernel)
set_option maxRecDepth 65536 in
theorem w_c7 : (Jvm.Cond.code ({ cls := "com/example/tranche/tranche/terms/Refusal", name := "<init>", desc := "(Ljava/lang/String;Ljava/lang/String;)V" } : Jvm.MethodName) prog_47_method_1_code (3 : Nat) (Option.none : Option Jvm.ClassFile.FieldType)).before args0 about1 = true := code_word (m := ⟨11, 0⟩) (meth := k11m0) (c := k11c0) (by decide +kernel) rfl rfl rfl (by decide +kernel)
set_option maxRecDepth 65536 in
theorem w_c8 : (Jvm.Cond.code ({ cls := "java/lang/Exception", name := "<init>", desc := "(Ljava/lang/String;)V" } : Jvm.MethodName) jdk_59_method_2_code (2 : Nat) (Option.none : Option Jvm.ClassFile.FieldType)).before args0 about1 = true := code_word (m := ⟨10, 1⟩) (meth := k10m1) (c := k10c1) (by decide +kernel) rfl rfl rfl (by decide +kernel)
set_option maxRecDepth 65536 in
theorem w_c9 : (Jvm.Cond.code ({ cls := "java/lang/Throwable", name := "<init>", desc := "(Ljava/lang/String;)V" } : Jvm.MethodName) jdk_78_method_2_code (2 : Nat) (Option.none : Option Jvm.ClassFile.FieldType)).before args0 about1 = true := code_word (m := ⟨9, 1⟩) (meth := k9m1) (c := k9c1) (by decide +kernel) rfl rfl rfl (by decide +kernel)
set_option maxRecDepth 65536 in
theorem w_c10 : (Jvm.Cond.code ({ cls := "java/lang/Throwable", name := "<init>", desc := "()V" } : Jvm.MethodName) jdk_78_method_1_code (1 : Nat) (Option.none : Option Jvm.ClassFile.FieldType)).before args0 about1 = true := code_word (m := ⟨9, 0⟩) (meth := k9m0) (c := k9c0) (by decide +kernel) rfl rfl rfl (by decide +kernel)
set_option maxRecDepth 65536 in
theorem w_c11 : (Jvm.Cond.code ({ cls := "com/example/tranche/tranche/terms/Refusal", name := "report", desc := "()Ljava/util/List;" } : Jvm.MethodName) prog_47_method_4_code (1 : Nat) (Option.some (Jvm.ClassFile.FieldType.object "java/util/List"))).before args0 about1 = true := code_word (m := ⟨11, 1⟩) (meth := k11m1) (c := k11c1) (by decide +kernel) rfl rfl rfl (by decide +kernel)
set_option maxRecDepth 65536 in
theorem w_c12 : (Jvm.Cond.code ({ cls := "java/lang/StringBuilder", name := "<init>", desc := "()V" } : Jvm.MethodName) jdk_67_method_1_code (1 : Nat) (Option.none : Option Jvm.ClassFile.FieldType)).before args0 about1 = true := code_word (m := ⟨14, 0⟩) (meth := k14m0) (c := k14c0) (by decide +kernel) rfl rfl rfl (by decide +kernel)
set_option maxRecDepth 65536 in
theorem w_c13 : (Jvm.Cond.code ({ cls := "java/lang/AbstractStringBuilder", name := "<init>", desc := "(I)V" } : Jvm.MethodName) jdk_68_method_2_code (2 : Nat) (Option.none : Option Jvm.ClassFile.FieldType)).before args0 about1 = true := code_word (m := ⟨13, 1⟩) (meth := k13m1) (c := k13c1) (by decide +kernel) rfl rfl rfl (by decide +kernel)
set_option maxRecDepth 65536 in
theorem w_c14 : (Jvm.Cond.code ({ cls := "java/lang/StringBuilder", name := "append", desc := "(Ljava/lang/String;)Ljava/lang/StringBuilder;" } : Jvm.MethodName) jdk_67_method_7_code (2 : Nat) (Option.some (Jvm.ClassFile.FieldType.object "java/lang/StringBuilder"))).before args0 about1 = true := code_word (m := ⟨14, 1⟩) (meth := k14m1) (c := k14c1) (by decide +kernel) rfl rfl rfl (by decide +kernel)
set_option maxRecDepth 65536 in
theorem w_c15 : (Jvm.Cond.code ({ cls := "java/lang/AbstractStringBuilder", name := "append", desc := "(Ljava/lang/String;)Ljava/lang/AbstractStringBuilder;" } : Jvm.MethodName) jdk_68_method_22_code (3 : Nat) (Option.some (Jvm.ClassFile.FieldType.object "java/lang/AbstractStringBuilder"))).before args0 about1 = true := code_word (m := ⟨13, 4⟩) (meth := k13m4) (c := k13c4) (by decide +kernel) rfl rfl rfl (by decide +kernel)
set_option maxRecDepth 65536 in
theorem w_c16 : (Jvm.Cond.code ({ cls := "java/lang/String", name := "length", desc := "()I" } : Jvm.MethodName) jdk_42_method_54_code (1 : Nat) (Option.some Jvm.ClassFile.FieldType.int)).before args0 about1 = true := code_word (m := ⟨7, 3⟩) (meth := k7m3) (c := k7c3) (by decide +kernel) rfl rfl rfl (by decide +kernel)
set_option maxRecDepth 65536 in
theorem w_c17 : (Jvm.Cond.code ({ cls := "java/lang/String", name := "coder", desc := "()B" } : Jvm.MethodName) jdk_42_method_152_code (1 : Nat) (Option.some Jvm.ClassFile.FieldType.byte)).before args0 about1 = true := code_word (m := ⟨7, 8⟩) (meth := k7m8) (c := k7c8) (by decide +kernel) rfl rfl rfl (by decide +kernel)
set_option maxRecDepth 65536 in
theorem w_c18 : (Jvm.Cond.code ({ cls := "java/lang/AbstractStringBuilder", name := "ensureCapacityInternal", desc := "(I)V" } : Jvm.MethodName) jdk_68_method_9_code (3 : Nat) (Option.none : Option Jvm.ClassFile.FieldType)).before args0 about1 = true := code_word (m := ⟨13, 3⟩) (meth := k13m3) (c := k13c3) (by decide +kernel) rfl rfl rfl (by decide +kernel)
set_option maxRecDepth 65536 in
theorem w_c19 : (Jvm.Cond.code ({ cls := "java/lang/AbstractStringBuilder", name := "putStringAt", desc := "(ILjava/lang/String;)V" } : Jvm.MethodName) jdk_68_method_73_code (3 : Nat) (Option.none : Option Jvm.ClassFile.FieldType)).before args0 about1 = true := code_word (m := ⟨13, 8⟩) (meth := k13m8) (c := k13c8) (by decide +kernel) rfl rfl rfl (by decide +kernel)
set_option maxRecDepth 65536 in
theorem w_c20 : (Jvm.Cond.code ({ cls := "java/lang/AbstractStringBuilder", name := "inflateIfNeededFor", desc := "(Ljava/lang/String;)V" } : Jvm.MethodName) jdk_68_method_71_code (2 : Nat) (Option.none : Option Jvm.ClassFile.FieldType)).before args0 about1 = true := code_word (m := ⟨13, 7⟩) (meth := k13m7) (c := k13c7) (by decide +kernel) rfl rfl rfl (by decide +kernel)
set_option maxRecDepth 65536 in
theorem w_c21 : (Jvm.Cond.code ({ cls := "java/lang/String", name := "getBytes", desc := "([BIB)V" } : Jvm.MethodName) jdk_42_method_147_code (4 : Nat) (Option.none : Option Jvm.ClassFile.FieldType)).before args0 about1 = true := code_word (m := ⟨7, 5⟩) (meth := k7m5) (c := k7c5) (by decide +kernel) rfl rfl rfl (by decide +kernel)
set_option maxRecDepth 65536 in
theorem w_c22 : (Jvm.Cond.code ({ cls := "java/lang/StringBuilder", name := "toString", desc := "()Ljava/lang/String;" } : Jvm.MethodName) jdk_67_method_42_code (1 : Nat) (Option.some (Jvm.ClassFile.FieldType.object "java/lang/String"))).before args0 about1 = true := code_word (m := ⟨14, 2⟩) (meth := k14m2) (c := k14c2) (by decide +kernel) rfl rfl rfl (by decide +kernel)
set_option maxRecDepth 65536 in
theorem w_c23 : (Jvm.Cond.code ({ cls := "java/lang/String", name := "<init>", desc := "(Ljava/lang/StringBuilder;)V" } : Jvm.MethodName) jdk_42_method_53_code (2 : Nat) (Option.none : Option Jvm.ClassFile.FieldType)).before args0 about1 = true := code_word (m := ⟨7, 2⟩) (meth := k7m2) (c := k7c2) (by decide +kernel) rfl rfl rfl (by decide +kernel)
set_option maxRecDepth 65536 in
theorem w_c24 : (Jvm.Cond.code ({ cls := "java/lang/String", name := "<init>", desc := "(Ljava/lang/AbstractStringBuilder;Ljava/lang/Void;)V" } : Jvm.MethodName) jdk_42_method_150_code (5 : Nat) (Option.none : Option Jvm.ClassFile.FieldType)).before args0 about1 = true := code_word (m := ⟨7, 7⟩) (meth := k7m7) (c := k7c7) (by decide +kernel) rfl rfl rfl (by decide +kernel)
set_option maxRecDepth 65536 in
theorem w_c25 : (Jvm.Cond.code ({ cls := "java/lang/AbstractStringBuilder", name := "getValue", desc := "()[B" } : Jvm.MethodName) jdk_68_method_64_code (1 : Nat) (Option.some (Jvm.ClassFile.FieldType.array Jvm.ClassFile.FieldType.byte))).before args0 about1 = true := code_word (m := ⟨13, 5⟩) (meth := k13m5) (c := k13c5) (by decide +kernel) rfl rfl rfl (by decide +kernel)
set_option maxRecDepth 65536 in
theorem w_c26 : (Jvm.Cond.code ({ cls := "java/lang/StringBuilder", name := "length", desc := "()I" } : Jvm.MethodName) jdk_67_method_93_code (1 : Nat) (Option.some Jvm.ClassFile.FieldType.int)).before args0 about1 = true := code_word (m := ⟨14, 3⟩) (meth := k14m3) (c := k14c3) (by decide +kernel) rfl rfl rfl (by decide +kernel)
set_option maxRecDepth 65536 in
theorem w_c27 : (Jvm.Cond.code ({ cls := "java/lang/AbstractStringBuilder", name := "length", desc := "()I" } : Jvm.MethodName) jdk_68_method_6_code (1 : Nat) (Option.some Jvm.ClassFile.FieldType.int)).before args0 about1 = true := code_word (m := ⟨13, 2⟩) (meth := k13m2) (c := k13c2) (by decide +kernel) rfl rfl rfl (by decide +kernel)
set_option maxRecDepth 65536 in
theorem w_c28 : (Jvm.Cond.code ({ cls := "java/lang/AbstractStringBuilder", name := "isLatin1", desc := "()Z" } : Jvm.MethodName) jdk_68_method_68_code (1 : Nat) (Option.some Jvm.ClassFile.FieldType.boolean)).before args0 about1 = true := code_word (m := ⟨13, 6⟩) (meth := k13m6) (c := k13c6) (by decide +kernel) rfl rfl rfl (by decide +kernel)
set_option maxRecDepth 65536 in
theorem w_c29 : (Jvm.Cond.code ({ cls := "java/util/Arrays", name := "copyOfRange", desc := "([BII)[B" } : Jvm.MethodName) jdk_65_method_132_code (3 : Nat) (Option.some (Jvm.ClassFile.FieldType.array Jvm.ClassFile.FieldType.byte))).before args0 about1 = true := code_word (m := ⟨16, 2⟩) (meth := k16m2) (c := k16c2) (by decide +kernel) rfl rfl rfl (by decide +kernel)
set_option maxRecDepth 65536 in
theorem w_c30 : (Jvm.Cond.code ({ cls := "java/util/Arrays", name := "copyOfRangeByte", desc := "([BII)[B" } : Jvm.MethodName) jdk_65_method_133_code (5 : Nat) (Option.some (Jvm.ClassFile.FieldType.array Jvm.ClassFile.FieldType.byte))).before args0 about1 = true := code_word (m := ⟨16, 3⟩) (meth := k16m3) (c := k16c3) (by decide +kernel) rfl rfl rfl (by decide +kernel)
set_option maxRecDepth 65536 in
theorem w_c31 : (Jvm.Cond.code ({ cls := "java/util/Arrays", name := "checkLength", desc := "(II)V" } : Jvm.MethodName) jdk_65_method_131_code (2 : Nat) (Option.none : Option Jvm.ClassFile.FieldType)).before args0 about1 = true := code_word (m := ⟨16, 1⟩) (meth := k16m1) (c := k16c1) (by decide +kernel) rfl rfl rfl (by decide +kernel)
set_option maxRecDepth 65536 in
theorem w_c32 : (Jvm.Cond.code ({ cls := "java/lang/Math", name := "min", desc := "(II)I" } : Jvm.MethodName) jdk_29_method_69_code (2 : Nat) (Option.some Jvm.ClassFile.FieldType.int)).before args0 about1 = true := code_word (m := ⟨17, 1⟩) (meth := k17m1) (c := k17c1) (by decide +kernel) rfl rfl rfl (by decide +kernel)
set_option maxRecDepth 65536 in
theorem w_c33 : (Jvm.Cond.code ({ cls := "java/lang/Throwable", name := "getMessage", desc := "()Ljava/lang/String;" } : Jvm.MethodName) jdk_78_method_6_code (1 : Nat) (Option.some (Jvm.ClassFile.FieldType.object "java/lang/String"))).before args0 about1 = true := code_word (m := ⟨9, 2⟩) (meth := k9m2) (c := k9c2) (by decide +kernel) rfl rfl rfl (by decide +kernel)
set_option maxRecDepth 65536 in
theorem w_c34 : (Jvm.Cond.code ({ cls := "java/util/List", name := "of", desc := "(Ljava/lang/Object;Ljava/lang/Object;)Ljava/util/List;" } : Jvm.MethodName) jdk_40_method_38_code (2 : Nat) (Option.some (Jvm.ClassFile.FieldType.object "java/util/List"))).before args0 about1 = true := code_word (m := ⟨21, 2⟩) (meth := k21m2) (c := k21c2) (by decide +kernel) rfl rfl rfl (by decide +kernel)
set_option maxRecDepth 65536 in
theorem w_c35 : (Jvm.Cond.code ({ cls := "java/util/ImmutableCollections$List12", name := "<init>", desc := "(Ljava/lang/Object;Ljava/lang/Object;)V" } : Jvm.MethodName) jdk_44_method_2_code (3 : Nat) (Option.none : Option Jvm.ClassFile.FieldType)).before args0 about1 = true := code_word (m := ⟨26, 0⟩) (meth := k26m0) (c := k26c0) (by decide +kernel) rfl rfl rfl (by decide +kernel)
set_option maxRecDepth 65536 in
theorem w_c36 : (Jvm.Cond.code ({ cls := "java/util/ImmutableCollections$AbstractImmutableList", name := "<init>", desc := "()V" } : Jvm.MethodName) jdk_46_method_1_code (1 : Nat) (Option.none : Option Jvm.ClassFile.FieldType)).before args0 about1 = true := code_word (m := ⟨25, 0⟩) (meth := k25m0) (c := k25c0) (by decide +kernel) rfl rfl rfl (by decide +kernel)
set_option maxRecDepth 65536 in
theorem w_c37 : (Jvm.Cond.code ({ cls := "java/util/ImmutableCollections$AbstractImmutableCollection", name := "<init>", desc := "()V" } : Jvm.MethodName) jdk_47_method_1_code (1 : Nat) (Option.none : Option Jvm.ClassFile.FieldType)).before args0 about1 = true := code_word (m := ⟨23, 0⟩) (meth := k23m0) (c := k23c0) (by decide +kernel) rfl rfl rfl (by decide +kernel)
set_option maxRecDepth 65536 in
theorem w_c38 : (Jvm.Cond.code ({ cls := "java/util/AbstractCollection", name := "<init>", desc := "()V" } : Jvm.MethodName) jdk_22_method_1_code (1 : Nat) (Option.none : Option Jvm.ClassFile.FieldType)).before args0 about1 = true := code_word (m := ⟨22, 0⟩) (meth := k22m0) (c := k22c0) (by decide +kernel) rfl rfl rfl (by decide +kernel)
set_option maxRecDepth 65536 in
theorem w_c39 : (Jvm.Cond.code ({ cls := "java/util/Objects", name := "requireNonNull", desc := "(Ljava/lang/Object;)Ljava/lang/Object;" } : Jvm.MethodName) jdk_31_method_10_code (1 : Nat) (Option.some (Jvm.ClassFile.FieldType.object "java/lang/Object"))).before args0 about1 = true := code_word (m := ⟨27, 1⟩) (meth := k27m1) (c := k27c1) (by decide +kernel) rfl rfl rfl (by decide +kernel)
set_option maxRecDepth 65536 in
theorem w_c40 : (Jvm.Cond.code ({ cls := "java/util/ImmutableCollections$List12", name := "size", desc := "()I" } : Jvm.MethodName) jdk_44_method_3_code (1 : Nat) (Option.some Jvm.ClassFile.FieldType.int)).before args0 about1 = true := code_word (m := ⟨26, 1⟩) (meth := k26m1) (c := k26c1) (by decide +kernel) rfl rfl rfl (by decide +kernel)
set_option maxRecDepth 65536 in
theorem w_c41 : (Jvm.Cond.code ({ cls := "java/util/ImmutableCollections$List12", name := "get", desc := "(I)Ljava/lang/Object;" } : Jvm.MethodName) jdk_44_method_5_code (2 : Nat) (Option.some (Jvm.ClassFile.FieldType.object "java/lang/Object"))).before args0 about1 = true := code_word (m := ⟨26, 2⟩) (meth := k26m2) (c := k26c2) (by decide +kernel) rfl rfl rfl (by decide +kernel)
set_option maxRecDepth 65536 in
theorem w_c42 : (Jvm.Cond.code ({ cls := "java/lang/String", name := "equals", desc := "(Ljava/lang/Object;)Z" } : Jvm.MethodName) jdk_42_method_66_code (3 : Nat) (Option.some Jvm.ClassFile.FieldType.boolean)).before args0 about1 = true := code_word (m := ⟨7, 4⟩) (meth := k7m4) (c := k7c4) (by decide +kernel) rfl rfl rfl (by decide +kernel)
set_option maxRecDepth 65536 in
theorem w_c43 : (Jvm.Cond.code ({ cls := "java/lang/StringLatin1", name := "equals", desc := "([B[B)Z" } : Jvm.MethodName) jdk_43_method_13_code (3 : Nat) (Option.some Jvm.ClassFile.FieldType.boolean)).before args0 about1 = true := code_word (m := ⟨29, 1⟩) (meth := k29m1) (c := k29c1) (by decide +kernel) rfl rfl rfl (by decide +kernel)
def codes1 : List Jvm.Cond := [Jvm.Cond.code x code maxLocals ret, Jvm.Cond.code ({ cls := "java/lang/String", name := "<init>", desc := "([C)V" } : Jvm.MethodName) jdk_42_method_3_code (2 : Nat) (Option.none : Option Jvm.ClassFile.FieldType), Jvm.Cond.code ({ cls := "java/lang/String", name := "<init>", desc := "([CIILjava/lang/Void;)V" } : Jvm.MethodName) jdk_42_method_149_code (6 : Nat) (Option.none : Option Jvm.ClassFile.FieldType), Jvm.Cond.code ({ cls := "java/lang/Object", name := "<init>", desc := "()V" } : Jvm.MethodName) object_method_1_code (1 : Nat) (Option.none : Option Jvm.ClassFile.FieldType), Jvm.Cond.code ({ cls := "java/lang/StringUTF16", name := "compress", desc := "([CII)[B" } : Jvm.MethodName) jdk_52_method_16_code (6 : Nat) (Option.some (Jvm.ClassFile.FieldType.array Jvm.ClassFile.FieldType.byte)), Jvm.Cond.code ({ cls := "java/lang/StringUTF16", name := "compress", desc := "([CI[BII)I" } : Jvm.MethodName) jdk_52_method_21_code (7 : Nat) (Option.some Jvm.ClassFile.FieldType.int), Jvm.Cond.code ({ cls := "java/lang/StringUTF16", name := "coderFromArrayLen", desc := "([BI)B" } : Jvm.MethodName) jdk_52_method_15_code (2 : Nat) (Option.some Jvm.ClassFile.FieldType.byte), Jvm.Cond.code ({ cls := "com/example/tranche/tranche/terms/Refusal", name := "<init>", desc := "(Ljava/lang/String;Ljava/lang/String;)V" } : Jvm.MethodName) prog_47_method_1_code (3 : Nat) (Option.none : Option Jvm.ClassFile.FieldType), Jvm.Cond.code ({ cls := "java/lang/Exception", name := "<init>", desc := "(Ljava/lang/String;)V" } : Jvm.MethodName) jdk_59_method_2_code (2 : Nat) (Option.none : Option Jvm.ClassFile.FieldType), Jvm.Cond.code ({ cls := "java/lang/Throwable", name := "<init>", desc := "(Ljava/lang/String;)V" } : Jvm.MethodName) jdk_78_method_2_code (2 : Nat) (Option.none : Option Jvm.ClassFile.FieldType), Jvm.Cond.code ({ cls := "java/lang/Throwable", name := "<init>", desc := "()V" } : Jvm.MethodName) jdk_78_method_1_code (1 : Nat) (Option.none : Option Jvm.ClassFile.FieldType), Jvm.Cond.code ({ cls := "com/example/tranche/tranche/terms/Refusal", name := "report", desc := "()Ljava/util/List;" } : Jvm.MethodName) prog_47_method_4_code (1 : Nat) (Option.some (Jvm.ClassFile.FieldType.object "java/util/List")), Jvm.Cond.code ({ cls := "java/lang/StringBuilder", name := "<init>", desc := "()V" } : Jvm.MethodName) jdk_67_method_1_code (1 : Nat) (Option.none : Option Jvm.ClassFile.FieldType), Jvm.Cond.code ({ cls := "java/lang/AbstractStringBuilder", name := "<init>", desc := "(I)V" } : Jvm.MethodName) jdk_68_method_2_code (2 : Nat) (Option.none : Option Jvm.ClassFile.FieldType), Jvm.Cond.code ({ cls := "java/lang/StringBuilder", name := "append", desc := "(Ljava/lang/String;)Ljava/lang/StringBuilder;" } : Jvm.MethodName) jdk_67_method_7_code (2 : Nat) (Option.some (Jvm.ClassFile.FieldType.object "java/lang/StringBuilder")), Jvm.Cond.code ({ cls := "java/lang/AbstractStringBuilder", name := "append", desc := "(Ljava/lang/String;)Ljava/lang/AbstractStringBuilder;" } : Jvm.MethodName) jdk_68_method_22_code (3 : Nat) (Option.some (Jvm.ClassFile.FieldType.object "java/lang/AbstractStringBuilder")), Jvm.Cond.code ({ cls := "java/lang/String", name := "length", desc := "()I" } : Jvm.MethodName) jdk_42_method_54_code (1 : Nat) (Option.some Jvm.ClassFile.FieldType.int), Jvm.Cond.code ({ cls := "java/lang/String", name := "coder", desc := "()B" } : Jvm.MethodName) jdk_42_method_152_code (1 : Nat) (Option.some Jvm.ClassFile.FieldType.byte), Jvm.Cond.code ({ cls := "java/lang/AbstractStringBuilder", name := "ensureCapacityInternal", desc := "(I)V" } : Jvm.MethodName) jdk_68_method_9_code (3 : Nat) (Option.none : Option Jvm.ClassFile.FieldType), Jvm.Cond.code ({ cls := "java/lang/AbstractStringBuilder", name := "putStringAt", desc := "(ILjava/lang/String;)V" } : Jvm.MethodName) jdk_68_method_73_code (3 : Nat) (Option.none : Option Jvm.ClassFile.FieldType), Jvm.Cond.code ({ cls := "java/lang/AbstractStringBuilder", name := "inflateIfNeededFor", desc := "(Ljava/lang/String;)V" } : Jvm.MethodName) jdk_68_method_71_code (2 : Nat) (Option.none : Option Jvm.ClassFile.FieldType), Jvm.Cond.code ({ cls := "java/lang/String", name := "getBytes", desc := "([BIB)V" } : Jvm.MethodName) jdk_42_method_147_code (4 : Nat) (Option.none : Option Jvm.ClassFile.FieldType), Jvm.Cond.code ({ cls := "java/lang/StringBuilder", name := "toString", desc := "()Ljava/lang/String;" } : Jvm.MethodName) jdk_67_method_42_code (1 : Nat) (Option.some (Jvm.ClassFile.FieldType.object "java/lang/String")), Jvm.Cond.code ({ cls := "java/lang/String", name := "<init>", desc := "(Ljava/lang/StringBuilder;)V" } : Jvm.MethodName) jdk_42_method_53_code (2 : Nat) (Option.none : Option Jvm.ClassFile.FieldType), Jvm.Cond.code ({ cls := "java/lang/String", name := "<init>", desc := "(Ljava/lang/AbstractStringBuilder;Ljava/lang/Void;)V" } : Jvm.MethodName) jdk_42_method_150_code (5 : Nat) (Option.none : Option Jvm.ClassFile.FieldType), Jvm.Cond.code ({ cls := "java/lang/AbstractStringBuilder", name := "getValue", desc := "()[B" } : Jvm.MethodName) jdk_68_method_64_code (1 : Nat) (Option.some (Jvm.ClassFile.FieldType.array Jvm.ClassFile.FieldType.byte)), Jvm.Cond.code ({ cls := "java/lang/StringBuilder", name := "length", desc := "()I" } : Jvm.MethodName) jdk_67_method_93_code (1 : Nat) (Option.some Jvm.ClassFile.FieldType.int), Jvm.Cond.code ({ cls := "java/lang/AbstractStringBuilder", name := "length", desc := "()I" } : Jvm.MethodName) jdk_68_method_6_code (1 : Nat) (Option.some Jvm.ClassFile.FieldType.int), Jvm.Cond.code ({ cls := "java/lang/AbstractStringBuilder", name := "isLatin1", desc := "()Z" } : Jvm.MethodName) jdk_68_method_68_code (1 : Nat) (Option.some Jvm.ClassFile.FieldType.boolean), Jvm.Cond.code ({ cls := "java/util/Arrays", name := "copyOfRange", desc := "([BII)[B" } : Jvm.MethodName) jdk_65_method_132_code (3 : Nat) (Option.some (Jvm.ClassFile.FieldType.array Jvm.ClassFile.FieldType.byte)), Jvm.Cond.code ({ cls := "java/util/Arrays", name := "copyOfRangeByte", desc := "([BII)[B" } : Jvm.MethodName) jdk_65_method_133_code (5 : Nat) (Option.some (Jvm.ClassFile.FieldType.array Jvm.ClassFile.FieldType.byte)), Jvm.Cond.code ({ cls := "java/util/Arrays", name := "checkLength", desc := "(II)V" } : Jvm.MethodName) jdk_65_method_131_code (2 : Nat) (Option.none : Option Jvm.ClassFile.FieldType), Jvm.Cond.code ({ cls := "java/lang/Math", name := "min", desc := "(II)I" } : Jvm.MethodName) jdk_29_method_69_code (2 : Nat) (Option.some Jvm.ClassFile.FieldType.int), Jvm.Cond.code ({ cls := "java/lang/Throwable", name := "getMessage", desc := "()Ljava/lang/String;" } : Jvm.MethodName) jdk_78_method_6_code (1 : Nat) (Option.some (Jvm.ClassFile.FieldType.object "java/lang/String")), Jvm.Cond.code ({ cls := "java/util/List", name := "of", desc := "(Ljava/lang/Object;Ljava/lang/Object;)Ljava/util/List;" } : Jvm.MethodName) jdk_40_method_38_code (2 : Nat) (Option.some (Jvm.ClassFile.FieldType.object "java/util/List")), Jvm.Cond.code ({ cls := "java/util/ImmutableCollections$List12", name := "<init>", desc := "(Ljava/lang/Object;Ljava/lang/Object;)V" } : Jvm.MethodName) jdk_44_method_2_code (3 : Nat) (Option.none : Option Jvm.ClassFile.FieldType), Jvm.Cond.code ({ cls := "java/util/ImmutableCollections$AbstractImmutableList", name := "<init>", desc := "()V" } : Jvm.MethodName) jdk_46_method_1_code (1 : Nat) (Option.none : Option Jvm.ClassFile.FieldType), Jvm.Cond.code ({ cls := "java/util/ImmutableCollections$AbstractImmutableCollection", name := "<init>", desc := "()V" } : Jvm.MethodName) jdk_47_method_1_code (1 : Nat) (Option.none : Option Jvm.ClassFile.FieldType), Jvm.Cond.code ({ cls := "java/util/AbstractCollection", name := "<init>", desc := "()V" } : Jvm.MethodName) jdk_22_method_1_code (1 : Nat) (Option.none : Option Jvm.ClassFile.FieldType), Jvm.Cond.code ({ cls := "java/util/Objects", name := "requireNonNull", desc := "(Ljava/lang/Object;)Ljava/lang/Object;" } : Jvm.MethodName) jdk_31_method_10_code (1 : Nat) (Option.some (Jvm.ClassFile.FieldType.object "java/lang/Object")), Jvm.Cond.code ({ cls := "java/util/ImmutableCollections$List12", name := "size", desc := "()I" } : Jvm.MethodName) jdk_44_method_3_code (1 : Nat) (Option.some Jvm.ClassFile.FieldType.int), Jvm.Cond.code ({ cls := "java/util/ImmutableCollections$List12", name := "get", desc := "(I)Ljava/lang/Object;" } : Jvm.MethodName) jdk_44_method_5_code (2 : Nat) (Option.some (Jvm.ClassFile.FieldType.object "java/lang/Object")), Jvm.Cond.code ({ cls := "java/lang/String", name := "equals", desc := "(Ljava/lang/Object;)Z" } : Jvm.MethodName) jdk_42_method_66_code (3 : Nat) (Option.some Jvm.ClassFile.FieldType.boolean), Jvm.Cond.code ({ cls := "java/lang/StringLatin1", name := "equals", desc := "([B[B)Z" } : Jvm.MethodName) jdk_43_method_13_code (3 : Nat) (Option.some Jvm.ClassFile.FieldType.boolean)]
set_option maxRecDepth 65536 in
theorem codes_eq : words1.filter isCode = codes1 := rfl
theorem w_codes : ∀ c ∈ words1.filter isCode, c.before args0 about1 = true := by
  rw [codes_eq]
  intro c hc
  simp only [codes1, List.mem_cons, List.not_mem_nil, or_false] at hc
  rcases hc with rfl | rfl | rfl | rfl | rfl | rfl | rfl | rfl | rfl | rfl | rfl | rfl | rfl | rfl | rfl | rfl | rfl | rfl | rfl | rfl | rfl | rfl | rfl | rfl | rfl | rfl | rfl | rfl | rfl | rfl | rfl | rfl | rfl | rfl | rfl | rfl | rfl | rfl | rfl | rfl | rfl | rfl | rfl | rfl
  · exact w_c0
  · exact w_c1
  · exact w_c2
  · exact w_c3
  · exact w_c4
  · exact w_c5
  · exact w_c6
  · exact w_c7
  · exact w_c8
  · exact w_c9
  · exact w_c10
  · exact w_c11
  · exact w_c12
  · exact w_c13
  · exact w_c14
  · exact w_c15
  · exact w_c16
  · exact w_c17
  · exact w_c18
  · exact w_c19
  · exact w_c20
  · exact w_c21
  · exact w_c22
  · exact w_c23
  · exact w_c24
  · exact w_c25
  · exact w_c26
  · exact w_c27
  · exact w_c28
  · exact w_c29
  · exact w_c30
  · exact w_c31
  · exact w_c32
  · exact w_c33
  · exact w_c34
  · exact w_c35
  · exact w_c36
  · exact w_c37
  · exact w_c38
  · exact w_c39
  · exact w_c40
  · exact w_c41
  · exact w_c42
  · exact w_c43
set_option maxRecDepth 65536 in
theorem w_t1 : (words1.take 24).all (fun c => isCode c || c.before args0 about1) = true := by decide +kernel
set_option maxRecDepth 65536 in
theorem w_t2 : ((words1.drop 24).take 24).all (fun c => isCode c || c.before args0 about1) = true := by decide +kernel
set_option maxRecDepth 65536 in
theorem w_t3 : (((words1.drop 24).drop 24).take 24).all (fun c => isCode c || c.before args0 about1) = true := by decide +kernel
set_option maxRecDepth 65536 in
theorem w_t4 : ((((words1.drop 24).drop 24).drop 24).take 24).all (fun c => isCode c || c.before args0 about1) = true := by decide +kernel
set_option maxRecDepth 65536 in
theorem w_t5 : (((((words1.drop 24).drop 24).drop 24).drop 24).take 24).all (fun c => isCode c || c.before args0 about1) = true := by decide +kernel
set_option maxRecDepth 65536 in
theorem w_t6 : ((((((words1.drop 24).drop 24).drop 24).drop 24).drop 24).take 24).all (fun c => isCode c || c.before args0 about1) = true := by decide +kernel
set_option maxRecDepth 65536 in
theorem w_t7 : (((((((words1.drop 24).drop 24).drop 24).drop 24).drop 24).drop 24).take 24).all (fun c => isCode c || c.before args0 about1) = true := by decide +kernel
set_option maxRecDepth 65536 in
theorem w_t8 : ((((((((words1.drop 24).drop 24).drop 24).drop 24).drop 24).drop 24).drop 24).take 24).all (fun c => isCode c || c.before args0 about1) = true := by decide +kernel
set_option maxRecDepth 65536 in
theorem w_t9 : (((((((((words1.drop 24).drop 24).drop 24).drop 24).drop 24).drop 24).drop 24).drop 24).take 24).all (fun c => isCode c || c.before args0 about1) = true := by decide +kernel
set_option maxRecDepth 65536 in
theorem w_t10 : ((((((((((words1.drop 24).drop 24).drop 24).drop 24).drop 24).drop 24).drop 24).drop 24).drop 24).take 24).all (fun c => isCode c || c.before args0 about1) = true := by decide +kernel
set_option maxRecDepth 65536 in
theorem w_t11 : (((((((((((words1.drop 24).drop 24).drop 24).drop 24).drop 24).drop 24).drop 24).drop 24).drop 24).drop 24).take 24).all (fun c => isCode c || c.before args0 about1) = true := by decide +kernel
set_option maxRecDepth 65536 in
theorem w_t12 : (((((((((((words1.drop 24).drop 24).drop 24).drop 24).drop 24).drop 24).drop 24).drop 24).drop 24).drop 24).drop 24).all (fun c => isCode c || c.before args0 about1) = true := by decide +kernel
theorem w_tables : (allAtoms (Jvm.Cond.code x code maxLocals ret :: tables_1)).before args0 about1 = true := by
  rw [allAtoms_all]
  show words1.all (fun c => c.before args0 about1) = true
  refine all_split ?_ w_codes
  rw [← List.take_append_drop 24 words1, List.all_append, w_t1, ← List.take_append_drop 24 (words1.drop 24), List.all_append, w_t2, ← List.take_append_drop 24 ((words1.drop 24).drop 24), List.all_append, w_t3, ← List.take_append_drop 24 (((words1.drop 24).drop 24).drop 24), List.all_append, w_t4, ← List.take_append_drop 24 ((((words1.drop 24).drop 24).drop 24).drop 24), List.all_append, w_t5, ← List.take_append_drop 24 (((((words1.drop 24).drop 24).drop 24).drop 24).drop 24), List.all_append, w_t6, ← List.take_append_drop 24 ((((((words1.drop 24).drop 24).drop 24).drop 24).drop 24).drop 24), List.all_append, w_t7, ← List.take_append_drop 24 (((((((words1.drop 24).drop 24).drop 24).drop 24).drop 24).drop 24).drop 24), List.all_append, w_t8, ← List.take_append_drop 24 ((((((((words1.drop 24).drop 24).drop 24).drop 24).drop 24).drop 24).drop 24).drop 24), List.all_append, w_t9, ← List.take_append_drop 24 (((((((((words1.drop 24).drop 24).drop 24).drop 24).drop 24).drop 24).drop 24).drop 24).drop 24), List.all_append, w_t10, ← List.take_append_drop 24 ((((((((((words1.drop 24).drop 24).drop 24).drop 24).drop 24).drop 24).drop 24).drop 24).drop 24).drop 24), List.all_append, w_t11, w_t12]
  rfl
set_option maxRecDepth 65536 in
theorem w_rest : rest_1_c.before args0 about1 = true := by decide +kernel
set_option maxRecDepth 65536 in
theorem w_case : (Jvm.Cond.and given_1 narrow_1).before args0 about1 = true := by decide +kernel
set_option maxRecDepth 65536 in
theorem w_consts : constsHeld consts_1 about1 := Jvm.Lit.constsHeldB_iff.mp (by decide +kernel)
theorem w_applies : (headSpec (Jvm.Cond.code x code maxLocals ret :: tables_1) room_1).applies x e0.platform about1 = true :=
  (Spec.applies_iff w_frames).mpr ⟨w_running, w_runnable, w_alone, w_named, w_hears, w_ripe, w_room, w_tables⟩
theorem atStart : AtStart classFile x code maxLocals ret World_1 tables_1 room_1 Calls_1 rest_1 Pre_1 launch0 p0 e0 about1 theMethod args0 below0 :=
  ⟨lists_1, trivial, launch0.admits_env _ _ _, launch0.least_env, fairChoices_fair.cas, fairChoices_fair.clock, w_frames, w_args, w_heap, w_applies, ⟨(by decide +kernel : framesKnown about1 = true), ⟨(by decide +kernel : tablesKnown about1 = true), ⟨w_consts, trivial⟩⟩⟩, w_rest, w_case⟩
end start1
theorem witness_1 : WitnessClaimed_1 := ⟨start1.p0, start1.e0, start1.about1, start1.theMethod, start1.args0, start1.below0, start1.atStart⟩
end Jvm.Pilot.@@N@@
