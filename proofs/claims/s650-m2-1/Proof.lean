import JvmDerived
import JvmDerived.Pilot.@@N@@Statement
import JvmDerived.Pilot.@@N@@Code
set_option linter.unusedVariables false
set_option linter.unusedSimpArgs false
set_option maxRecDepth 65536
set_option maxHeartbeats 40000000
/- laws to paste: Road.backV, Road.eqW (cut by pick.py; bodies as the Statement names them) -/
namespace Jvm.Pilot.@@N@@
namespace StrChars
open Jvm Sem ClassFile Op Lib Jvm.Stand Jvm.Free.XT Jvm.Free.ALB Jvm.Free.JM Jvm.Free
open Jvm.Lib.Cold (StaticIs)
/-- a char array whose places are chars -/
def Ch (a : Addr) (A : Cell) (U : State) : Prop := Arr .char a A U ∧ Typed .char A
theorem Ch.mv {a : Addr} {A : Cell} {U U' : State} (h : Ch a A U) (hal : U.vm.Alike U'.vm) (hh : U'.heap = U.heap) : Ch a A U' := ⟨h.1.mv hal hh, h.2⟩
theorem Ch.keep {a : Addr} {A : Cell} {U U' : State} (h : Ch a A U) (hal : U.vm.Alike U'.vm) (hk : U'.heap[a]? = some A) : Ch a A U' := ⟨h.1.keep hal hk, h.2⟩
/-- what place i of a char[]'s cell holds -/
def cv (A : Cell) (i : Nat) : Int32 := match A.slots[i]? with | some (.int x) => x | _ => 0
theorem Ch.get {a : Addr} {A : Cell} {U : State} (h : Ch a A U) {i : Nat} (hi : i < A.slots.size) : A.slots[i]? = some (.int (cv A i)) := by
  have e := Array.getElem?_eq_getElem hi
  have f := h.2 i _ e
  unfold cv; rw [e]
  generalize A.slots[i] = v at f
  cases v <;> simp [fits] at f ⊢
/-- the byte that i2b leaves of a char -/
def lo8 (x : Int32) : Int32 := x.toInt8.toInt32
theorem fits_lo8 (y : Int32) : fits .byte (.int (lo8 y)) = true := by
  have h1 := y.toInt8.le_toInt
  have h2 := y.toInt8.toInt_lt
  simp only [lo8, fits, Bool.and_eq_true, decide_eq_true_eq, Int32.le_iff_toInt_le, Int8.toInt_toInt32, show (-128 : Int32).toInt = -128 from by decide, show (127 : Int32).toInt = 127 from by decide]
  omega
/-- A' is A but that each place j of lo .. hi - 1 holds f j -/
def Laid (A A' : Cell) (lo hi : Nat) (f : Nat → Value) : Prop := A'.cls = A.cls ∧ A'.vm = A.vm ∧ A'.slots.size = A.slots.size ∧ ∀ i, A'.slots[i]? = if lo ≤ i ∧ i < hi then some (f i) else A.slots[i]?
theorem Laid.zero (A : Cell) (lo : Nat) (f : Nat → Value) : Laid A A lo (lo + 0) f := ⟨rfl, rfl, rfl, fun i => by rw [if_neg (by omega)]⟩
theorem Laid.step {A Ak : Cell} {lo k : Nat} {f : Nat → Value} {v : Value} (h : Laid A Ak lo k f) (hlo : lo ≤ k) (hk : k < Ak.slots.size) (hv : v = f k) : Laid A (Ak.setSlot k v) lo (k + 1) f := by
  refine ⟨h.1, h.2.1, by simpa [Cell.setSlot] using h.2.2.1, fun i => ?_⟩
  by_cases e : k = i
  · subst e; rw [Cell.slots_setSlot_self v hk, if_pos (by omega), hv]
  · rw [Cell.slots_setSlot_ne v e, h.2.2.2 i]
    by_cases q : lo ≤ i ∧ i < k
    · rw [if_pos q, if_pos (by omega)]
    · rw [if_neg q, if_neg (by omega)]
def U16 : String := "java/lang/StringUTF16"
namespace Cmp5
def yN : MethodName := ⟨"java/lang/StringUTF16", "compress", "([CI[BII)I"⟩
abbrev yB : ByteArray := jdk_52_method_21_code
theorem d0 : decode yB 0 = .ok (.iconst 0, 1) := by decide +kernel
theorem d1 : decode yB 1 = .ok (.istore 5, 2) := by decide +kernel
theorem d3 : decode yB 3 = .ok (.iload 5, 2) := by decide +kernel
theorem d5 : decode yB 5 = .ok (.iload 4, 2) := by decide +kernel
theorem d7 : decode yB 7 = .ok (.if_icmp (.ge) 37, 3) := by decide +kernel
theorem d10 : decode yB 10 = .ok (.aload_n 0, 1) := by decide +kernel
theorem d11 : decode yB 11 = .ok (.iload_n 1, 1) := by decide +kernel
theorem d12 : decode yB 12 = .ok (.caload, 1) := by decide +kernel
theorem d13 : decode yB 13 = .ok (.istore 6, 2) := by decide +kernel
theorem d15 : decode yB 15 = .ok (.iload 6, 2) := by decide +kernel
theorem d17 : decode yB 17 = .ok (.sipush 255, 3) := by decide +kernel
theorem d20 : decode yB 20 = .ok (.if_icmp (.le) 6, 3) := by decide +kernel
theorem d26 : decode yB 26 = .ok (.aload_n 2, 1) := by decide +kernel
theorem d27 : decode yB 27 = .ok (.iload_n 3, 1) := by decide +kernel
theorem d28 : decode yB 28 = .ok (.iload 6, 2) := by decide +kernel
theorem d30 : decode yB 30 = .ok (.i2b, 1) := by decide +kernel
theorem d31 : decode yB 31 = .ok (.bastore, 1) := by decide +kernel
theorem d32 : decode yB 32 = .ok (.iinc 1 1, 3) := by decide +kernel
theorem d35 : decode yB 35 = .ok (.iinc 3 1, 3) := by decide +kernel
theorem d38 : decode yB 38 = .ok (.iinc 5 1, 3) := by decide +kernel
theorem d41 : decode yB 41 = .ok (.goto (-38), 3) := by decide +kernel
theorem d44 : decode yB 44 = .ok (.iload 4, 2) := by decide +kernel
theorem d46 : decode yB 46 = .ok (.ireturn, 1) := by decide +kernel
def site : List Cond := []
def tab : Cond := tabOf yN yB 7 (some .int) site
def P (b : Addr) (A : Cell) (d : Addr) (B : Cell) (o q len : Nat) (args : Array Value) (s : State) : Prop := args = #[.ref b, .int (Int32.ofNat o), .ref d, .int (Int32.ofNat q), .int (Int32.ofNat len)] ∧ Ch b A s ∧ Arr .byte d B s ∧ b ≠ d ∧ o + len ≤ A.slots.size ∧ q + len ≤ B.slots.size ∧ ∀ i, i < len → ¬ 255 < cv A (o + i)
def E (b : Addr) (A : Cell) (d : Addr) (B : Cell) (o q len : Nat) (r : Option Value) (s u : State) : Prop := r = some (.int (Int32.ofNat len)) ∧ ∃ B', Put d B' s u ∧ Laid B B' q (q + len) (fun j => Value.int (lo8 (cv A (o + (j - q)))))
/-- no char of the range above 255: len; the places written hold each char's low byte -/
theorem law (l : Launch) (b : Addr) (A : Cell) (d : Addr) (B : Cell) (o q len : Nat) : Law l yN 5 5 0 0 yB 7 (some .int) site (P b A d B o q len) (E b A d B o q len) (copyLocs d q len) 0 0 := by
  refine Law.of_walk (plainFor_of_name (by decide +kernel)) (by decide +kernel) (by decide +kernel) (by decide) (fun _ _ h => by rw [h.1]; rfl) (fun _ U U' hal hh h => ⟨h.1, h.2.1.mv hal hh, h.2.2.1.mv hal hh, h.2.2.2⟩) (fun r U U' V V' h1 hal h2 h => ⟨h.1, h.2.elim fun B' q => ⟨B', q.1.mv h1 h2, q.2⟩⟩) ?_
  intro p e s m args below meth c s₁ X0 hexec hbytes hml hret hlk hnm hown hh0 W hP
  obtain ⟨rfl, hA, hB, hne, l1, l2, hp⟩ := hP
  have c1 : Steps p.tables e below (s₁.setTop (entryFrame m #[.ref b, .int (Int32.ofNat o), .ref d, .int (Int32.ofNat q), .int (Int32.ofNat len)] 7)) (s₁.setTop (mkF m 0 #[.val (.ref b), .val (.int (Int32.ofNat o)), .val (.ref d), .val (.int (Int32.ofNat q)), .val (.int (Int32.ofNat len)), .unset, .unset] [])) := entry rfl
  have hA0 := hA.1.mv X0.warmed.alike hh0
  have hB0 := hB.mv X0.warmed.alike hh0
  have a31 := hA.1.2.2.2
  have c2 : Steps p.tables e below (s₁.setTop (entryFrame m #[.ref b, .int (Int32.ofNat o), .ref d, .int (Int32.ofNat q), .int (Int32.ofNat len)] 7)) (s₁.setTop (mkF m 3 #[.val (.ref b), .val (.int (Int32.ofNat o)), .val (.ref d), .val (.int (Int32.ofNat q)), .val (.int (Int32.ofNat len)), .val (.int 0), .unset] [])) := c1.trans (by
    refine iconstV X0.here hexec rfl 0 (hb hbytes d0) (by decide) ?_
    refine XS.istore X0.here hexec rfl (hb hbytes d1) rfl rfl ?_
    exact Steps.refl _)
  have loop : ∀ (r i : Nat), i + r = len → ∀ (z : Slot), (z = .unset ∨ ∃ w, z = .val w ∧ w.category = 1) → ∀ (Tl : State) (Bk : Cell), Stand p l e { frames := 0, locals := 0, cells := 0, slots := 0 } s m #[.ref b, .int (Int32.ofNat o), .ref d, .int (Int32.ofNat q), .int (Int32.ofNat len)] below meth c Tl ([] ++ copyLocs d q i) 0 0 → Put d Bk s₁ Tl → Laid B Bk q (q + i) (fun j => Value.int (lo8 (cv A (o + (j - q))))) →
      Steps p.tables e below (s₁.setTop (entryFrame m #[.ref b, .int (Int32.ofNat o), .ref d, .int (Int32.ofNat q), .int (Int32.ofNat len)] 7)) (Tl.setTop (mkF m 3 #[.val (.ref b), .val (.int (Int32.ofNat (o + i))), .val (.ref d), .val (.int (Int32.ofNat (q + i))), .val (.int (Int32.ofNat len)), .val (.int (Int32.ofNat i)), z] [])) → ∃ (T' : State) (B' : Cell) (z' : Slot), Stand p l e { frames := 0, locals := 0, cells := 0, slots := 0 } s m #[.ref b, .int (Int32.ofNat o), .ref d, .int (Int32.ofNat q), .int (Int32.ofNat len)] below meth c T' ([] ++ copyLocs d q len) 0 0 ∧ Put d B' s₁ T' ∧ Laid B B' q (q + len) (fun j => Value.int (lo8 (cv A (o + (j - q))))) ∧
      Steps p.tables e below (s₁.setTop (entryFrame m #[.ref b, .int (Int32.ofNat o), .ref d, .int (Int32.ofNat q), .int (Int32.ofNat len)] 7)) (T'.setTop (mkF m 3 #[.val (.ref b), .val (.int (Int32.ofNat (o + len))), .val (.ref d), .val (.int (Int32.ofNat (q + len))), .val (.int (Int32.ofNat len)), .val (.int (Int32.ofNat len)), z'] [])) := by
    intro r
    induction r with
    | zero =>
      intro i hi z hz Tl Bk Xl pl fl cl
      have hil : i = len := by omega
      rw [hil] at Xl fl cl
      exact ⟨Tl, Bk, z, Xl, pl, fl, cl⟩
    | succ r ih =>
      intro i hi z hz Tl Bk Xl pl fl cl
      have all := X0.warmed.alike.symm.trans Xl.warmed.alike
      have hAl := hA0.keep all (pl.other hne hA0.1)
      have hBk := hB0.like all pl.1 fl.1 fl.2.1 fl.2.2.1
      have hlt : q + i < Bk.slots.size := by rw [fl.2.2.1]; omega
      have c3 : Steps p.tables e below (s₁.setTop (entryFrame m #[.ref b, .int (Int32.ofNat o), .ref d, .int (Int32.ofNat q), .int (Int32.ofNat len)] 7)) (Tl.setTop (mkF m 12 #[.val (.ref b), .val (.int (Int32.ofNat (o + i))), .val (.ref d), .val (.int (Int32.ofNat (q + i))), .val (.int (Int32.ofNat len)), .val (.int (Int32.ofNat i)), z] [.int (Int32.ofNat (o + i)), .ref b])) := cl.trans (by
        refine XS.iload Xl.here hexec rfl (hb hbytes d3) rfl ?_
        refine XS.iload Xl.here hexec rfl (hb hbytes d5) rfl ?_
        refine XS.icmpNo Xl.here hexec rfl (hb hbytes d7) rfl (ii_ge_f (lt32 (by omega) (by omega))) ?_
        refine XS.aloadN Xl.here hexec rfl (hb hbytes d10) rfl rfl ?_
        refine XS.iloadN Xl.here hexec rfl (hb hbytes d11) rfl ?_
        exact Steps.refl _)
      have c4 : Steps p.tables e below (s₁.setTop (entryFrame m #[.ref b, .int (Int32.ofNat o), .ref d, .int (Int32.ofNat q), .int (Int32.ofNat len)] 7)) (Tl.setTop (mkF m 13 #[.val (.ref b), .val (.int (Int32.ofNat (o + i))), .val (.ref d), .val (.int (Int32.ofNat (q + i))), .val (.int (Int32.ofNat len)), .val (.int (Int32.ofNat i)), z] [.int (cv A (o + i))])) := c3.trans (by
        refine Xl.aget hexec hAl rfl (hA.get (i := o + i) (by omega)) rfl rfl (hb hbytes d12) ?_
        exact Steps.refl _)
      have c5 : Steps p.tables e below (s₁.setTop (entryFrame m #[.ref b, .int (Int32.ofNat o), .ref d, .int (Int32.ofNat q), .int (Int32.ofNat len)] 7)) (Tl.setTop (mkF m 15 #[.val (.ref b), .val (.int (Int32.ofNat (o + i))), .val (.ref d), .val (.int (Int32.ofNat (q + i))), .val (.int (Int32.ofNat len)), .val (.int (Int32.ofNat i)), .val (.int (cv A (o + i)))] [])) := c4.trans (by
        refine XS.istoreS Xl.here hexec rfl (hb hbytes d13) rfl rfl hz ?_
        exact Steps.refl _)
      have c6 : Steps p.tables e below (s₁.setTop (entryFrame m #[.ref b, .int (Int32.ofNat o), .ref d, .int (Int32.ofNat q), .int (Int32.ofNat len)] 7)) (Tl.setTop (mkF m 31 #[.val (.ref b), .val (.int (Int32.ofNat (o + i))), .val (.ref d), .val (.int (Int32.ofNat (q + i))), .val (.int (Int32.ofNat len)), .val (.int (Int32.ofNat i)), .val (.int (cv A (o + i)))] [.int (lo8 (cv A (o + i))), .int (Int32.ofNat (q + i)), .ref d])) := c5.trans (by
        refine XS.iload Xl.here hexec rfl (hb hbytes d15) rfl ?_
        refine sipushV Xl.here hexec rfl 255 (hb hbytes d17) (by decide) ?_
        refine XS.icmpYes Xl.here hexec rfl (pc0 := 20) rfl (hb hbytes d20) rfl (ii_le_t (hp i (by omega))) (by decide) rfl ?_
        refine XS.aloadN Xl.here hexec rfl (hb hbytes d26) rfl rfl ?_
        refine XS.iloadN Xl.here hexec rfl (hb hbytes d27) rfl ?_
        refine XS.iload Xl.here hexec rfl (hb hbytes d28) rfl ?_
        refine i2b Xl.here hexec rfl (hb hbytes d30) rfl ?_
        exact Steps.refl _)
      obtain ⟨T7, X7, p7, st7⟩ := Xl.aput hexec hBk rfl hlt rfl (fits_lo8 (cv A (o + i))) (g := (mkF m 31 #[.val (.ref b), .val (.int (Int32.ofNat (o + i))), .val (.ref d), .val (.int (Int32.ofNat (q + i))), .val (.int (Int32.ofNat len)), .val (.int (Int32.ofNat i)), .val (.int (cv A (o + i)))] [.int (lo8 (cv A (o + i))), .int (Int32.ofNat (q + i)), .ref d])) rfl (rest := []) rfl (hb hbytes d31)
      have c8 : Steps p.tables e below (s₁.setTop (entryFrame m #[.ref b, .int (Int32.ofNat o), .ref d, .int (Int32.ofNat q), .int (Int32.ofNat len)] 7)) (T7.setTop (mkF m 32 #[.val (.ref b), .val (.int (Int32.ofNat (o + i))), .val (.ref d), .val (.int (Int32.ofNat (q + i))), .val (.int (Int32.ofNat len)), .val (.int (Int32.ofNat i)), .val (.int (cv A (o + i)))] [])) := c6.trans (st7 _ (Steps.refl _))
      have c9 : Steps p.tables e below (s₁.setTop (entryFrame m #[.ref b, .int (Int32.ofNat o), .ref d, .int (Int32.ofNat q), .int (Int32.ofNat len)] 7)) (T7.setTop (mkF m 3 #[.val (.ref b), .val (.int (Int32.ofNat (o + i) + 1)), .val (.ref d), .val (.int (Int32.ofNat (q + i) + 1)), .val (.int (Int32.ofNat len)), .val (.int (Int32.ofNat i + 1)), .val (.int (cv A (o + i)))] [])) := c8.trans (by
        refine iincV X7.here hexec rfl 1 (hb hbytes d32) (by decide) rfl rfl ?_
        refine iincV X7.here hexec rfl 1 (hb hbytes d35) (by decide) rfl rfl ?_
        refine iincV X7.here hexec rfl 1 (hb hbytes d38) (by decide) rfl rfl ?_
        refine XS.goto X7.here hexec rfl (pc0 := 41) rfl (hb hbytes d41) (by decide) rfl ?_
        exact Steps.refl _)
      have c10 : Steps p.tables e below (s₁.setTop (entryFrame m #[.ref b, .int (Int32.ofNat o), .ref d, .int (Int32.ofNat q), .int (Int32.ofNat len)] 7)) (T7.setTop (mkF m 3 #[.val (.ref b), .val (.int (Int32.ofNat (o + (i + 1)))), .val (.ref d), .val (.int (Int32.ofNat (q + (i + 1)))), .val (.int (Int32.ofNat len)), .val (.int (Int32.ofNat (i + 1))), .val (.int (cv A (o + i)))] [])) := by
        have := c9
        rw [succ32, succ32, succ32] at this
        exact this
      exact ih (i + 1) (by omega) _ (Or.inr ⟨_, rfl, rfl⟩) T7 _ (by rw [copyLocs_step, ← List.append_assoc]; exact X7) (pl.trans p7) (fl.step (by omega) hlt (by simp)) c10
  obtain ⟨T9, B9, z9, X9, p9, f9, g9⟩ := loop len 0 (by omega) .unset (Or.inl rfl) s₁ B (by simpa [copyLocs] using X0) ⟨hB0.1, fun _ _ => rfl, rfl⟩ (Laid.zero _ _ _) c2
  have c11 : Steps p.tables e below (s₁.setTop (entryFrame m #[.ref b, .int (Int32.ofNat o), .ref d, .int (Int32.ofNat q), .int (Int32.ofNat len)] 7)) (T9.setTop (mkF m 46 #[.val (.ref b), .val (.int (Int32.ofNat (o + len))), .val (.ref d), .val (.int (Int32.ofNat (q + len))), .val (.int (Int32.ofNat len)), .val (.int (Int32.ofNat len)), z9] [.int (Int32.ofNat len)])) := g9.trans (by
    refine XS.iload X9.here hexec rfl (hb hbytes d3) rfl ?_
    refine XS.iload X9.here hexec rfl (hb hbytes d5) rfl ?_
    refine XS.icmpYes X9.here hexec rfl (pc0 := 7) rfl (hb hbytes d7) rfl (ii_ge_t (nlt32 (by omega) (Nat.le_refl _))) (by decide) rfl ?_
    refine XS.iload X9.here hexec rfl (hb hbytes d44) rfl ?_
    exact Steps.refl _)
  exact ⟨T9, some (.int (Int32.ofNat len)), _, _, _, X9, by simp, rfl, rfl, (fun h => by cases h), ⟨rfl, B9, p9.from hh0, f9⟩, fun fs hl => c11.trans (X9.ireturnOut hexec hret rfl (Or.inl rfl) (hb hbytes d46) hl)⟩
end Cmp5
namespace Cmp3
def yN : MethodName := ⟨"java/lang/StringUTF16", "compress", "([CII)[B"⟩
abbrev yB : ByteArray := jdk_52_method_16_code
theorem d0 : decode yB 0 = .ok (.iload_n 2, 1) := by decide +kernel
theorem d1 : decode yB 1 = .ok (.newarray .byte, 2) := by decide +kernel
theorem d3 : decode yB 3 = .ok (.astore_n 3, 1) := by decide +kernel
theorem d4 : decode yB 4 = .ok (.aload_n 0, 1) := by decide +kernel
theorem d5 : decode yB 5 = .ok (.iload_n 1, 1) := by decide +kernel
theorem d6 : decode yB 6 = .ok (.aload_n 3, 1) := by decide +kernel
theorem d7 : decode yB 7 = .ok (.iconst 0, 1) := by decide +kernel
theorem d8 : decode yB 8 = .ok (.iload_n 2, 1) := by decide +kernel
theorem d9 : decode yB 9 = .ok (.invokestatic 115, 3) := by decide +kernel
theorem d12 : decode yB 12 = .ok (.istore 4, 2) := by decide +kernel
theorem d14 : decode yB 14 = .ok (.iload 4, 2) := by decide +kernel
theorem d16 : decode yB 16 = .ok (.iload_n 2, 1) := by decide +kernel
theorem d17 : decode yB 17 = .ok (.if_icmp (.eq) 40, 3) := by decide +kernel
theorem d57 : decode yB 57 = .ok (.aload_n 3, 1) := by decide +kernel
theorem d58 : decode yB 58 = .ok (.areturn, 1) := by decide +kernel
def site : List Cond := [.arrayClass .byte, Cmp5.tab] ++ staticW U16 115 Cmp5.yN
def tab : Cond := tabOf yN yB 6 (some (.array .byte)) site
def P (b : Addr) (A : Cell) (o len : Nat) (args : Array Value) (s : State) : Prop := args = #[.ref b, .int (Int32.ofNat o), .int (Int32.ofNat len)] ∧ Ch b A s ∧ o + len ≤ A.slots.size ∧ len ≤ 536870912 ∧ ∀ i, i < len → ¬ 255 < cv A (o + i)
def E (b : Addr) (A : Cell) (o len : Nat) (r : Option Value) (s u : State) : Prop := NewArr .byte "[B" len (fun j => .int (lo8 (cv A (o + j)))) r s u ∧ u.heap.size = s.heap.size + 1
/-- no char of the range above 255: a new byte[] of their low bytes -/
theorem law (l : Launch) (b : Addr) (A : Cell) (o len : Nat) : Law l yN 3 3 1 18 yB 6 (some (.array .byte)) site (P b A o len) (E b A o len) [] 1 len := by
  refine Law.of_walk (plainFor_of_name (by decide +kernel)) (by decide +kernel) (by decide +kernel) (by decide) (fun _ _ h => by rw [h.1]; rfl) (fun _ U U' hal hh h => ⟨h.1, h.2.1.mv hal hh, h.2.2⟩) (fun r U U' V V' h1 hal h2 h => ⟨NewArr.mv r U U' V V' h1 hal h2 h.1, by rw [h1, h2]; exact h.2⟩) ?_
  intro p e s m args below meth c s₁ X0 hexec hbytes hml hret hlk hnm hown hh0 W hP
  obtain ⟨rfl, hA, l1, l2, hp⟩ := hP
  have a31 := hA.1.2.2.2
  have c1 : Steps p.tables e below (s₁.setTop (entryFrame m #[.ref b, .int (Int32.ofNat o), .int (Int32.ofNat len)] 6)) (s₁.setTop (mkF m 0 #[.val (.ref b), .val (.int (Int32.ofNat o)), .val (.int (Int32.ofNat len)), .unset, .unset, .unset] [])) := entry rfl
  have c2 : Steps p.tables e below (s₁.setTop (entryFrame m #[.ref b, .int (Int32.ofNat o), .int (Int32.ofNat len)] 6)) (s₁.setTop (mkF m 1 #[.val (.ref b), .val (.int (Int32.ofNat o)), .val (.int (Int32.ofNat len)), .unset, .unset, .unset] [.int (Int32.ofNat len)])) := c1.trans (by
    refine XS.iloadN X0.here hexec rfl (hb hbytes d0) rfl ?_
    exact Steps.refl _)
  obtain ⟨T3, B3, X3, ba3, bs3, bv3, bh3, bf3, st3⟩ := X0.anew hexec (atype := .byte) (wk W (.arrayClass .byte)) rfl (by show len * 1 ≤ _; omega) (by omega) (g := (mkF m 1 #[.val (.ref b), .val (.int (Int32.ofNat o)), .val (.int (Int32.ofNat len)), .unset, .unset, .unset] [.int (Int32.ofNat len)])) rfl (hb hbytes d1) (rest := []) rfl (Nat.le_refl _) (by show 0 + len ≤ len; omega)
  rw [hh0] at ba3 st3
  have kp3 : XT.Kept s T3 := (XT.Kept.of_eq hh0).push bh3
  have hA3 := hA.keep X3.warmed.alike (kp3 _ _ hA.1.1)
  have hne : b ≠ s.heap.size := hA.1.ne
  have c4 : Steps p.tables e below (s₁.setTop (entryFrame m #[.ref b, .int (Int32.ofNat o), .int (Int32.ofNat len)] 6)) (T3.setTop (mkF m 3 #[.val (.ref b), .val (.int (Int32.ofNat o)), .val (.int (Int32.ofNat len)), .unset, .unset, .unset] [.ref s.heap.size])) := c2.trans (st3 _ (Steps.refl _))
  have c5 : Steps p.tables e below (s₁.setTop (entryFrame m #[.ref b, .int (Int32.ofNat o), .int (Int32.ofNat len)] 6)) (T3.setTop (mkF m 9 #[.val (.ref b), .val (.int (Int32.ofNat o)), .val (.int (Int32.ofNat len)), .val (.ref s.heap.size), .unset, .unset] [.int (Int32.ofNat len), .int 0, .ref s.heap.size, .int (Int32.ofNat o), .ref b])) := c4.trans (by
    refine XS.astoreN X3.here hexec rfl (hb hbytes d3) rfl rfl rfl ?_
    refine XS.aloadN X3.here hexec rfl (hb hbytes d4) rfl rfl ?_
    refine XS.iloadN X3.here hexec rfl (hb hbytes d5) rfl ?_
    refine XS.aloadN X3.here hexec rfl (hb hbytes d6) rfl rfl ?_
    refine iconstV X3.here hexec rfl 0 (hb hbytes d7) (by decide) ?_
    refine XS.iloadN X3.here hexec rfl (hb hbytes d8) rfl ?_
    exact Steps.refl _)
  obtain ⟨v6, T6, X6, E6, g6⟩ := X3.callS hexec (Cmp5.law l b A s.heap.size B3 o 0 len) hown (wks W (staticW U16 115 Cmp5.yN)) (wk W Cmp5.tab) (W := 0) (Nat.le_of_ble_eq_true rfl) (Nat.le_of_ble_eq_true rfl) (Nat.le_refl _) (by show 0 + len + 0 ≤ len; omega) (g := (mkF m 9 #[.val (.ref b), .val (.int (Int32.ofNat o)), .val (.int (Int32.ofNat len)), .val (.ref s.heap.size), .unset, .unset] [.int (Int32.ofNat len), .int (Int32.ofNat 0), .ref s.heap.size, .int (Int32.ofNat o), .ref b])) rfl (by rw [hml]; rfl) c5 (argsL := [.ref b, .int (Int32.ofNat o), .ref s.heap.size, .int (Int32.ofNat 0), .int (Int32.ofNat len)]) (rest := []) rfl rfl (by show 2 * 0 + 0 ≤ _; decide) (hb hbytes d9) (⟨rfl, hA3, ba3, hne, l1, by rw [bs3]; simp, hp⟩)
  obtain ⟨rfl, B6, p6, f6⟩ := E6
  have c7 : Steps p.tables e below (s₁.setTop (entryFrame m #[.ref b, .int (Int32.ofNat o), .int (Int32.ofNat len)] 6)) (T6.setTop (mkF m 12 #[.val (.ref b), .val (.int (Int32.ofNat o)), .val (.int (Int32.ofNat len)), .val (.ref s.heap.size), .unset, .unset] [.int (Int32.ofNat len)])) := g6
  have c8 : Steps p.tables e below (s₁.setTop (entryFrame m #[.ref b, .int (Int32.ofNat o), .int (Int32.ofNat len)] 6)) (T6.setTop (mkF m 58 #[.val (.ref b), .val (.int (Int32.ofNat o)), .val (.int (Int32.ofNat len)), .val (.ref s.heap.size), .val (.int (Int32.ofNat len)), .unset] [.ref s.heap.size])) := c7.trans (by
    refine XS.istore X6.here hexec rfl (hb hbytes d12) rfl rfl ?_
    refine XS.iload X6.here hexec rfl (hb hbytes d14) rfl ?_
    refine XS.iloadN X6.here hexec rfl (hb hbytes d16) rfl ?_
    refine XS.icmpYes X6.here hexec rfl (pc0 := 17) rfl (hb hbytes d17) rfl (ii_eq_t rfl) (by decide) rfl ?_
    refine XS.aloadN X6.here hexec rfl (hb hbytes d57) rfl rfl ?_
    exact Steps.refl _)
  have X8 := X6.wide (L' := []) (cells' := 1) (slots' := len) (fun x hx hlt => by
    simp only [List.nil_append, copyLocs, List.mem_map, List.mem_range] at hx
    obtain ⟨i, -, rfl⟩ := hx
    exact absurd hlt (Nat.lt_irrefl _)) (Nat.le_refl _) (by omega)
  exact ⟨T6, some (.ref s.heap.size), _, _, _, X8, rfl, rfl, rfl, (fun h => by cases h), ⟨⟨rfl, B6, ba3.like (X3.warmed.alike.symm.trans X6.warmed.alike) p6.1 f6.1 f6.2.1 f6.2.2.1, f6.2.1.trans bv3, by rw [X6.warmed.alike.findClass, f6.1]; exact bf3, by rw [f6.2.2.1, bs3]; simp, fun j hj => by rw [f6.2.2.2 j, if_pos (by omega)]; rfl, kp3.put p6 (Nat.le_refl _)⟩, by rw [p6.2.2, bh3, hh0]; simp⟩, fun fs hl => c8.trans (X8.areturnOut hexec rfl hret rfl (hb hbytes d58) hl)⟩
end Cmp3
namespace CodL
def yN : MethodName := ⟨"java/lang/StringUTF16", "coderFromArrayLen", "([BI)B"⟩
abbrev yB : ByteArray := jdk_52_method_15_code
theorem d0 : decode yB 0 = .ok (.iload_n 1, 1) := by decide +kernel
theorem d1 : decode yB 1 = .ok (.aload_n 0, 1) := by decide +kernel
theorem d2 : decode yB 2 = .ok (.arraylength, 1) := by decide +kernel
theorem d3 : decode yB 3 = .ok (.isub, 1) := by decide +kernel
theorem d4 : decode yB 4 = .ok (.bipush 31, 2) := by decide +kernel
theorem d6 : decode yB 6 = .ok (.iushr, 1) := by decide +kernel
theorem d7 : decode yB 7 = .ok (.i2b, 1) := by decide +kernel
theorem d8 : decode yB 8 = .ok (.ireturn, 1) := by decide +kernel
def site : List Cond := []
def tab : Cond := tabOf yN yB 2 (some .byte) site
def P (d : Addr) (B : Cell) (args : Array Value) (s : State) : Prop := args = #[.ref d, .int (Int32.ofNat B.slots.size)] ∧ Arr .byte d B s
def E (r : Option Value) (s u : State) : Prop := XT.PureE (some (.int 0)) r s u
/-- an array as long as the number of chars: LATIN1 -/
theorem law (l : Launch) (d : Addr) (B : Cell) : Law l yN 2 2 0 0 yB 2 (some .byte) site (P d B) E [] 0 0 := by
  refine Law.of_walk (plainFor_of_name (by decide +kernel)) (by decide +kernel) (by decide +kernel) (by decide) (fun _ _ h => by rw [h.1]; rfl) (fun _ U U' hal hh h => ⟨h.1, h.2.mv hal hh⟩) (fun r U U' V V' h1 hal h2 h => XT.PureE.mv r U U' V V' h1 hal h2 h) ?_
  intro p e s m args below meth c s₁ X0 hexec hbytes hml hret hlk hnm hown hh0 W hP
  obtain ⟨rfl, hB⟩ := hP
  have hB0 := hB.mv X0.warmed.alike hh0
  have c1 : Steps p.tables e below (s₁.setTop (entryFrame m #[.ref d, .int (Int32.ofNat B.slots.size)] 2)) (s₁.setTop (mkF m 0 #[.val (.ref d), .val (.int (Int32.ofNat B.slots.size))] [])) := entry rfl
  have c2 : Steps p.tables e below (s₁.setTop (entryFrame m #[.ref d, .int (Int32.ofNat B.slots.size)] 2)) (s₁.setTop (mkF m 2 #[.val (.ref d), .val (.int (Int32.ofNat B.slots.size))] [.ref d, .int (Int32.ofNat B.slots.size)])) := c1.trans (by
    refine XS.iloadN X0.here hexec rfl (hb hbytes d0) rfl ?_
    refine XS.aloadN X0.here hexec rfl (hb hbytes d1) rfl rfl ?_
    exact Steps.refl _)
  have c3 : Steps p.tables e below (s₁.setTop (entryFrame m #[.ref d, .int (Int32.ofNat B.slots.size)] 2)) (s₁.setTop (mkF m 8 #[.val (.ref d), .val (.int (Int32.ofNat B.slots.size))] [.int (lo8 (ushr (Int32.ofNat B.slots.size - Int32.ofNat B.slots.size) 31))])) := c2.trans (by
    refine X0.alen hexec hB0 rfl rfl (hb hbytes d2) ?_
    refine XS.isub X0.here hexec rfl (hb hbytes d3) rfl ?_
    refine bipushV X0.here hexec rfl 31 (hb hbytes d4) (by decide) ?_
    refine iushr X0.here hexec rfl (hb hbytes d6) rfl ?_
    refine i2b X0.here hexec rfl (hb hbytes d7) rfl ?_
    exact Steps.refl _)
  have e0 : lo8 (ushr (Int32.ofNat B.slots.size - Int32.ofNat B.slots.size) 31) = 0 := by rw [Int32.sub_self]; decide
  rw [e0] at c3
  exact ⟨s₁, some (.int 0), _, _, _, X0, rfl, rfl, rfl, (fun h => by cases h), ⟨rfl, hh0⟩, fun fs hl => c3.trans (X0.ireturnOut hexec hret rfl (Or.inr (Or.inr (Or.inl rfl))) (hb hbytes d8) hl)⟩
end CodL
/-- the String at a is Latin-1 over a new byte[] (the heap's one new cell): the low bytes of the len chars of A from o on; every cell but a is kept -/
def Got (a : Addr) (D : Cell) (fV fC : Field) (A : Cell) (o len : Nat) (r : Option Value) (s u : State) : Prop := r = none ∧ ∃ D' V : Cell, Blank "java/lang/String" a D' u ∧ Same D D' [fV.slot, fC.slot] ∧ D'.slots[fV.slot]? = some (.ref s.heap.size) ∧ D'.slots[fC.slot]? = some (.int 0) ∧ Arr .byte s.heap.size V u ∧ V.vm = .none ∧ u.vm.findClass "[B" = some V.cls ∧ V.slots.size = len ∧ (∀ j, j < len → V.slots[j]? = some (.int (lo8 (cv A (o + j))))) ∧ (∀ (y : Addr) (c : Cell), y ≠ a → s.heap[y]? = some c → u.heap[y]? = some c) ∧ u.heap.size = s.heap.size + 1
theorem Got.mv {a : Addr} {D A : Cell} {fV fC : Field} {o len : Nat} : ∀ r (U U' V V' : State), U'.heap = U.heap → V.vm.Alike V'.vm → V'.heap = V.heap → Got a D fV fC A o len r U V → Got a D fV fC A o len r U' V' :=
  fun r U U' V V' h1 hal h2 ⟨e0, D', X, a1, a2, a3, a4, a5, a6, a7, a8, a9, a10, a11⟩ => ⟨e0, D', X, a1.mv hal h2, a2, by rw [h1]; exact a3, a4, by rw [h1]; exact a5.mv hal h2, a6, by rw [hal.findClass]; exact a7, a8, a9, by rw [h1, h2]; exact a10, by rw [h1, h2]; exact a11⟩
namespace New4
def yN : MethodName := ⟨"java/lang/String", "<init>", "([CIILjava/lang/Void;)V"⟩
abbrev yB : ByteArray := jdk_42_method_149_code
theorem d0 : decode yB 0 = .ok (.aload_n 0, 1) := by decide +kernel
theorem d1 : decode yB 1 = .ok (.invokespecial 1, 3) := by decide +kernel
theorem d4 : decode yB 4 = .ok (.iload_n 3, 1) := by decide +kernel
theorem d5 : decode yB 5 = .ok (.ifCond (.ne) 22, 3) := by decide +kernel
theorem d27 : decode yB 27 = .ok (.getstatic 38, 3) := by decide +kernel
theorem d30 : decode yB 30 = .ok (.ifCond (.eq) 28, 3) := by decide +kernel
theorem d33 : decode yB 33 = .ok (.aload_n 1, 1) := by decide +kernel
theorem d34 : decode yB 34 = .ok (.iload_n 2, 1) := by decide +kernel
theorem d35 : decode yB 35 = .ok (.iload_n 3, 1) := by decide +kernel
theorem d36 : decode yB 36 = .ok (.invokestatic 177, 3) := by decide +kernel
theorem d39 : decode yB 39 = .ok (.astore 5, 2) := by decide +kernel
theorem d41 : decode yB 41 = .ok (.aload_n 0, 1) := by decide +kernel
theorem d42 : decode yB 42 = .ok (.aload 5, 2) := by decide +kernel
theorem d44 : decode yB 44 = .ok (.iload_n 3, 1) := by decide +kernel
theorem d45 : decode yB 45 = .ok (.invokestatic 47, 3) := by decide +kernel
theorem d48 : decode yB 48 = .ok (.putfield 15, 3) := by decide +kernel
theorem d51 : decode yB 51 = .ok (.aload_n 0, 1) := by decide +kernel
theorem d52 : decode yB 52 = .ok (.aload 5, 2) := by decide +kernel
theorem d54 : decode yB 54 = .ok (.putfield 9, 3) := by decide +kernel
theorem d57 : decode yB 57 = .ok (.return_, 1) := by decide +kernel
def site : List Cond := [.fieldLink "java/lang/String" 38 "java/lang/String" "COMPACT_STRINGS" "Z", Cmp3.tab, CodL.tab, .laysFinal "java/lang/String" "java/lang/String" "value" "[B", .fieldLink "java/lang/String" 9 "java/lang/String" "value" "[B", .laysFinal "java/lang/String" "java/lang/String" "coder" "B", .fieldLink "java/lang/String" 15 "java/lang/String" "coder" "B"] ++ objW "java/lang/String" 1 ++ staticW "java/lang/String" 177 Cmp3.yN ++ staticW "java/lang/String" 47 CodL.yN
def tab : Cond := tabOf yN yB 6 none site
def P (a : Addr) (D : Cell) (fV fC : Field) (b : Addr) (A : Cell) (z : Int32) (o len : Nat) (args : Array Value) (s : State) : Prop := args = #[.ref a, .ref b, .int (Int32.ofNat o), .int (Int32.ofNat len), .null] ∧ Blank "java/lang/String" a D s ∧ Found "java/lang/String" "value" "[B" fV s ∧ Found "java/lang/String" "coder" "B" fC s ∧ Ch b A s ∧ StaticIs s "java/lang/String" "COMPACT_STRINGS" "Z" (.int z) ∧ ¬ z = 0 ∧ 0 < len ∧ o + len ≤ A.slots.size ∧ len ≤ 536870912 ∧ ∀ i, i < len → ¬ 255 < cv A (o + i)
def E (a : Addr) (D : Cell) (fV fC : Field) (A : Cell) (o len : Nat) (r : Option Value) (s u : State) : Prop := Got a D fV fC A o len r s u
/-- len > 0, no char of the range above 255: a Latin-1 String of their low bytes -/
theorem law (l : Launch) (a : Addr) (D : Cell) (fV fC : Field) (b : Addr) (A : Cell) (z : Int32) (o len : Nat) : Law l yN 5 4 2 35 yB 6 none site (P a D fV fC b A z o len) (E a D fV fC A o len) [⟨a, fC.slot⟩, ⟨a, fV.slot⟩] 1 len := by
  refine Law.of_walk (plainFor_of_name (by decide +kernel)) (by decide +kernel) (by decide +kernel) (by decide) (fun _ _ h => by rw [h.1]; rfl) (fun _ U U' hal hh h => ⟨h.1, h.2.1.mv hal hh, h.2.2.1.al hal, h.2.2.2.1.al hal, h.2.2.2.2.1.mv hal hh, h.2.2.2.2.2.1.there hal hh, h.2.2.2.2.2.2⟩) (fun r U U' V V' h1 hal h2 h => Got.mv r U U' V V' h1 hal h2 h) ?_
  intro p e s m args below meth c s₁ X0 hexec hbytes hml hret hlk hnm hown hh0 W hP
  obtain ⟨rfl, hB, f1, f2, hA, s1, hz, l0, l1, l2, hp⟩ := hP
  have a31 := hA.1.2.2.2
  have c1 : Steps p.tables e below (s₁.setTop (entryFrame m #[.ref a, .ref b, .int (Int32.ofNat o), .int (Int32.ofNat len), .null] 6)) (s₁.setTop (mkF m 0 #[.val (.ref a), .val (.ref b), .val (.int (Int32.ofNat o)), .val (.int (Int32.ofNat len)), .val .null, .unset] [])) := entry rfl
  have c2 : Steps p.tables e below (s₁.setTop (entryFrame m #[.ref a, .ref b, .int (Int32.ofNat o), .int (Int32.ofNat len), .null] 6)) (s₁.setTop (mkF m 1 #[.val (.ref a), .val (.ref b), .val (.int (Int32.ofNat o)), .val (.int (Int32.ofNat len)), .val .null, .unset] [.ref a])) := c1.trans (by
    refine XS.aloadN X0.here hexec rfl (hb hbytes d0) rfl rfl ?_
    exact Steps.refl _)
  obtain ⟨T3, X3, q3, st3⟩ := X0.oinit hexec hown (wks W (objW "java/lang/String" 1)) (g := (mkF m 1 #[.val (.ref a), .val (.ref b), .val (.int (Int32.ofNat o)), .val (.int (Int32.ofNat len)), .val .null, .unset] [.ref a])) rfl (by rw [hml]; rfl) (rest := []) rfl (hb hbytes d1) (W := 0) (by show 2 * 0 + 0 ≤ _; decide) (Nat.le_of_ble_eq_true rfl) (Nat.le_of_ble_eq_true rfl)
  have hh3 := q3.trans hh0
  have c4 : Steps p.tables e below (s₁.setTop (entryFrame m #[.ref a, .ref b, .int (Int32.ofNat o), .int (Int32.ofNat len), .null] 6)) (T3.setTop (mkF m 27 #[.val (.ref a), .val (.ref b), .val (.int (Int32.ofNat o)), .val (.int (Int32.ofNat len)), .val .null, .unset] [])) := (c2.trans (st3 _ (Steps.refl _))).trans (by
    refine XS.iloadN X3.here hexec rfl (hb hbytes d4) rfl ?_
    refine XS.ifYes X3.here hexec rfl (pc0 := 5) rfl (hb hbytes d5) rfl (i0_ne_t (nz32 (by omega) l0)) (by decide) rfl ?_
    exact Steps.refl _)
  obtain ⟨T5, X5, q5, st5⟩ := X3.sget hexec hown (wk W (.fieldLink "java/lang/String" 38 "java/lang/String" "COMPACT_STRINGS" "Z")) s1 (fun _ _ h => by rw [hh3]; exact h) (g := (mkF m 27 #[.val (.ref a), .val (.ref b), .val (.int (Int32.ofNat o)), .val (.int (Int32.ofNat len)), .val .null, .unset] [])) rfl (hb hbytes d27)
  have hh5 := q5.trans hh3
  have c6 : Steps p.tables e below (s₁.setTop (entryFrame m #[.ref a, .ref b, .int (Int32.ofNat o), .int (Int32.ofNat len), .null] 6)) (T5.setTop (mkF m 30 #[.val (.ref a), .val (.ref b), .val (.int (Int32.ofNat o)), .val (.int (Int32.ofNat len)), .val .null, .unset] [.int z])) := c4.trans (st5 _ (Steps.refl _))
  have c7 : Steps p.tables e below (s₁.setTop (entryFrame m #[.ref a, .ref b, .int (Int32.ofNat o), .int (Int32.ofNat len), .null] 6)) (T5.setTop (mkF m 36 #[.val (.ref a), .val (.ref b), .val (.int (Int32.ofNat o)), .val (.int (Int32.ofNat len)), .val .null, .unset] [.int (Int32.ofNat len), .int (Int32.ofNat o), .ref b])) := c6.trans (by
    refine XS.ifNo X5.here hexec rfl (hb hbytes d30) rfl (i0_eq_f hz) ?_
    refine XS.aloadN X5.here hexec rfl (hb hbytes d33) rfl rfl ?_
    refine XS.iloadN X5.here hexec rfl (hb hbytes d34) rfl ?_
    refine XS.iloadN X5.here hexec rfl (hb hbytes d35) rfl ?_
    exact Steps.refl _)
  obtain ⟨v8, T8, X8, E8, g8⟩ := X5.callS hexec (Cmp3.law l b A o len) hown (wks W (staticW "java/lang/String" 177 Cmp3.yN)) (wk W Cmp3.tab) (W := 0) (Nat.le_of_ble_eq_true rfl) (Nat.le_of_ble_eq_true rfl) (Nat.le_refl _) (by show 0 + len ≤ len; omega) (g := (mkF m 36 #[.val (.ref a), .val (.ref b), .val (.int (Int32.ofNat o)), .val (.int (Int32.ofNat len)), .val .null, .unset] [.int (Int32.ofNat len), .int (Int32.ofNat o), .ref b])) rfl (by rw [hml]; rfl) c7 (argsL := [.ref b, .int (Int32.ofNat o), .int (Int32.ofNat len)]) (rest := []) rfl rfl (by show 2 * 0 + 0 ≤ _; decide) (hb hbytes d36) (⟨rfl, hA.mv X5.warmed.alike hh5, l1, l2, hp⟩)
  obtain ⟨e8, z8⟩ := E8
  obtain ⟨rfl, N, n1, n2, n3, n4, n5, n6⟩ := NewArr.mv _ T5 s _ _ hh5.symm (Vm.Alike.refl _) rfl e8
  rw [hh5] at z8
  have hB1 := hB.keep X8.warmed.alike (n6 _ _ hB.1)
  have hne : s.heap.size ≠ a := (Nat.ne_of_lt (Array.getElem?_eq_some_iff.mp hB.1).1).symm
  have c9 : Steps p.tables e below (s₁.setTop (entryFrame m #[.ref a, .ref b, .int (Int32.ofNat o), .int (Int32.ofNat len), .null] 6)) (T8.setTop (mkF m 39 #[.val (.ref a), .val (.ref b), .val (.int (Int32.ofNat o)), .val (.int (Int32.ofNat len)), .val .null, .unset] [.ref s.heap.size])) := g8
  have c10 : Steps p.tables e below (s₁.setTop (entryFrame m #[.ref a, .ref b, .int (Int32.ofNat o), .int (Int32.ofNat len), .null] 6)) (T8.setTop (mkF m 45 #[.val (.ref a), .val (.ref b), .val (.int (Int32.ofNat o)), .val (.int (Int32.ofNat len)), .val .null, .val (.ref s.heap.size)] [.int (Int32.ofNat N.slots.size), .ref s.heap.size, .ref a])) := by
    have hc : Steps p.tables e below (s₁.setTop (entryFrame m #[.ref a, .ref b, .int (Int32.ofNat o), .int (Int32.ofNat len), .null] 6)) (T8.setTop (mkF m 45 #[.val (.ref a), .val (.ref b), .val (.int (Int32.ofNat o)), .val (.int (Int32.ofNat len)), .val .null, .val (.ref s.heap.size)] [.int (Int32.ofNat len), .ref s.heap.size, .ref a])) := c9.trans (by
      refine XS.astore X8.here hexec rfl (hb hbytes d39) rfl rfl rfl ?_
      refine XS.aloadN X8.here hexec rfl (hb hbytes d41) rfl rfl ?_
      refine XS.aload X8.here hexec rfl (hb hbytes d42) rfl rfl ?_
      refine XS.iloadN X8.here hexec rfl (hb hbytes d44) rfl ?_
      exact Steps.refl _)
    rw [n4]; exact hc
  obtain ⟨v11, T11, X11, E11, g11⟩ := X8.callS hexec (CodL.law l s.heap.size N) hown (wks W (staticW "java/lang/String" 47 CodL.yN)) (wk W CodL.tab) (W := 1) (Nat.le_of_ble_eq_true rfl) (Nat.le_of_ble_eq_true rfl) (Nat.le_refl _) (by show 0 + len + 0 ≤ len; omega) (g := (mkF m 45 #[.val (.ref a), .val (.ref b), .val (.int (Int32.ofNat o)), .val (.int (Int32.ofNat len)), .val .null, .val (.ref s.heap.size)] [.int (Int32.ofNat N.slots.size), .ref s.heap.size, .ref a])) rfl (by rw [hml]; rfl) c10 (argsL := [.ref s.heap.size, .int (Int32.ofNat N.slots.size)]) (rest := [.ref a]) rfl rfl (by show 2 * 0 + (1 + 0) ≤ _; decide) (hb hbytes d45) (⟨rfl, n1⟩)
  obtain ⟨rfl, q11⟩ := E11
  have hB11 := hB1.mv (X8.warmed.alike.symm.trans X11.warmed.alike) q11
  have c12 : Steps p.tables e below (s₁.setTop (entryFrame m #[.ref a, .ref b, .int (Int32.ofNat o), .int (Int32.ofNat len), .null] 6)) (T11.setTop (mkF m 48 #[.val (.ref a), .val (.ref b), .val (.int (Int32.ofNat o)), .val (.int (Int32.ofNat len)), .val .null, .val (.ref s.heap.size)] [.int 0, .ref a])) := g11
  obtain ⟨T13, X13, p13, bl13, sl13, st13⟩ := X11.finit hexec hown (wk W (.fieldLink "java/lang/String" 15 "java/lang/String" "coder" "B")) (Or.inr ⟨_, (wk W (.laysFinal "java/lang/String" "java/lang/String" "coder" "B"))⟩) (Or.inl ⟨rfl, hnm⟩) f2 (Or.inl rfl) hB11 (t := .byte) (by decide +kernel) rfl (g := (mkF m 48 #[.val (.ref a), .val (.ref b), .val (.int (Int32.ofNat o)), .val (.int (Int32.ofNat len)), .val .null, .val (.ref s.heap.size)] [.int 0, .ref a])) rfl (rest := []) rfl (hb hbytes d48)
  have c14 : Steps p.tables e below (s₁.setTop (entryFrame m #[.ref a, .ref b, .int (Int32.ofNat o), .int (Int32.ofNat len), .null] 6)) (T13.setTop (mkF m 54 #[.val (.ref a), .val (.ref b), .val (.int (Int32.ofNat o)), .val (.int (Int32.ofNat len)), .val .null, .val (.ref s.heap.size)] [.ref s.heap.size, .ref a])) := (c12.trans (st13 _ (Steps.refl _))).trans (by
    refine XS.aloadN X13.here hexec rfl (hb hbytes d51) rfl rfl ?_
    refine XS.aload X13.here hexec rfl (hb hbytes d52) rfl rfl ?_
    exact Steps.refl _)
  obtain ⟨T15, X15, p15, bl15, sl15, st15⟩ := X13.finit hexec hown (wk W (.fieldLink "java/lang/String" 9 "java/lang/String" "value" "[B")) (Or.inr ⟨_, (wk W (.laysFinal "java/lang/String" "java/lang/String" "value" "[B"))⟩) (Or.inl ⟨rfl, hnm⟩) f1 (Or.inl rfl) bl13 (t := (.array .byte)) (by decide +kernel) rfl (g := (mkF m 54 #[.val (.ref a), .val (.ref b), .val (.int (Int32.ofNat o)), .val (.int (Int32.ofNat len)), .val .null, .val (.ref s.heap.size)] [.ref s.heap.size, .ref a])) rfl (rest := []) rfl (hb hbytes d54)
  have c16 : Steps p.tables e below (s₁.setTop (entryFrame m #[.ref a, .ref b, .int (Int32.ofNat o), .int (Int32.ofNat len), .null] 6)) (T15.setTop (mkF m 57 #[.val (.ref a), .val (.ref b), .val (.int (Int32.ofNat o)), .val (.int (Int32.ofNat len)), .val .null, .val (.ref s.heap.size)] [])) := c14.trans (st15 _ (Steps.refl _))
  have ap := apart (Or.inr ⟨_, (wk W (.laysFinal "java/lang/String" "java/lang/String" "value" "[B"))⟩) (Or.inr ⟨_, (wk W (.laysFinal "java/lang/String" "java/lang/String" "coder" "B"))⟩) f1 f2 (t₁ := .array .byte) (t₂ := .byte) (by decide +kernel) (by decide +kernel) (by decide)
  have al := X8.warmed.alike.symm.trans X15.warmed.alike
  have n7 : T11.heap[s.heap.size]? = some N := by rw [q11]; exact n1.1
  exact ⟨T15, none, _, _, _, X15, by simp, rfl, by omega, (fun _ => rfl), ⟨rfl, _, N, bl15, ((Same.refl D _).set _ (by simp)).set _ (by simp), sl15, (Cell.slots_setSlot_ne _ ap).trans sl13, n1.keep al (p15.other hne (p13.other hne n7)), n2, by rw [al.findClass]; exact n3, n4, n5, fun y c h1 h2 => p15.other h1 (p13.other h1 (by rw [q11]; exact n6 y c h2)), by rw [p15.2.2, p13.2.2, q11]; exact z8⟩, fun fs hl => c16.trans (X15.returnOut hexec hret (hb hbytes d57) hl)⟩
end New4
namespace New1
def yN : MethodName := ⟨"java/lang/String", "<init>", "([C)V"⟩
abbrev yB : ByteArray := jdk_42_method_3_code
theorem d0 : decode yB 0 = .ok (.aload_n 0, 1) := by decide +kernel
theorem d1 : decode yB 1 = .ok (.aload_n 1, 1) := by decide +kernel
theorem d2 : decode yB 2 = .ok (.iconst 0, 1) := by decide +kernel
theorem d3 : decode yB 3 = .ok (.aload_n 1, 1) := by decide +kernel
theorem d4 : decode yB 4 = .ok (.arraylength, 1) := by decide +kernel
theorem d5 : decode yB 5 = .ok (.aconst_null, 1) := by decide +kernel
theorem d6 : decode yB 6 = .ok (.invokespecial 27, 3) := by decide +kernel
theorem d9 : decode yB 9 = .ok (.return_, 1) := by decide +kernel
def site : List Cond := [New4.tab] ++ initW "java/lang/String" 27 New4.yN
def tab : Cond := tabOf yN yB 2 none site
def P (a : Addr) (D : Cell) (fV fC : Field) (b : Addr) (A : Cell) (z : Int32) (args : Array Value) (s : State) : Prop := args = #[.ref a, .ref b] ∧ Blank "java/lang/String" a D s ∧ Found "java/lang/String" "value" "[B" fV s ∧ Found "java/lang/String" "coder" "B" fC s ∧ Ch b A s ∧ StaticIs s "java/lang/String" "COMPACT_STRINGS" "Z" (.int z) ∧ ¬ z = 0 ∧ 0 < A.slots.size ∧ A.slots.size ≤ 536870912 ∧ ∀ i, i < A.slots.size → ¬ 255 < cv A i
def E (a : Addr) (D : Cell) (fV fC : Field) (A : Cell) (r : Option Value) (s u : State) : Prop := Got a D fV fC A 0 A.slots.size r s u
/-- new String(chars), not empty, no char above 255: a Latin-1 String of their low bytes -/
theorem law (l : Launch) (a : Addr) (D : Cell) (fV fC : Field) (b : Addr) (A : Cell) (z : Int32) : Law l yN 2 1 3 52 yB 2 none site (P a D fV fC b A z) (E a D fV fC A) [⟨a, fC.slot⟩, ⟨a, fV.slot⟩] 1 A.slots.size := by
  refine Law.of_walk (plainFor_of_name (by decide +kernel)) (by decide +kernel) (by decide +kernel) (by decide) (fun _ _ h => by rw [h.1]; rfl) (fun _ U U' hal hh h => ⟨h.1, h.2.1.mv hal hh, h.2.2.1.al hal, h.2.2.2.1.al hal, h.2.2.2.2.1.mv hal hh, h.2.2.2.2.2.1.there hal hh, h.2.2.2.2.2.2⟩) (fun r U U' V V' h1 hal h2 h => Got.mv r U U' V V' h1 hal h2 h) ?_
  intro p e s m args below meth c s₁ X0 hexec hbytes hml hret hlk hnm hown hh0 W hP
  obtain ⟨rfl, hB, f1, f2, hA, s1, hz, l0, l2, hp⟩ := hP
  have c1 : Steps p.tables e below (s₁.setTop (entryFrame m #[.ref a, .ref b] 2)) (s₁.setTop (mkF m 0 #[.val (.ref a), .val (.ref b)] [])) := entry rfl
  have c2 : Steps p.tables e below (s₁.setTop (entryFrame m #[.ref a, .ref b] 2)) (s₁.setTop (mkF m 6 #[.val (.ref a), .val (.ref b)] [.null, .int (Int32.ofNat A.slots.size), .int 0, .ref b, .ref a])) := c1.trans (by
    refine XS.aloadN X0.here hexec rfl (hb hbytes d0) rfl rfl ?_
    refine XS.aloadN X0.here hexec rfl (hb hbytes d1) rfl rfl ?_
    refine iconstV X0.here hexec rfl 0 (hb hbytes d2) (by decide) ?_
    refine XS.aloadN X0.here hexec rfl (hb hbytes d3) rfl rfl ?_
    refine X0.alen hexec (hA.1.mv X0.warmed.alike hh0) rfl rfl (hb hbytes d4) ?_
    refine XS.aconstNull X0.here hexec rfl (hb hbytes d5) ?_
    exact Steps.refl _)
  obtain ⟨v3, T3, X3, E3, g3⟩ := X0.callN hexec (New4.law l a D fV fC b A z 0 A.slots.size) rfl hown (wks W (initW "java/lang/String" 27 New4.yN)) (W New4.tab (by simp only [site, List.mem_cons, List.mem_append, true_or, or_true])) (W := 0) (Nat.le_of_ble_eq_true rfl) (Nat.le_of_ble_eq_true rfl) (Nat.le_refl _) (by show 0 + A.slots.size ≤ A.slots.size; omega) (g := (mkF m 6 #[.val (.ref a), .val (.ref b)] [.null, .int (Int32.ofNat A.slots.size), .int (Int32.ofNat 0), .ref b, .ref a])) rfl (by rw [hml]; rfl) c2 (argsL := [.ref b, .int (Int32.ofNat 0), .int (Int32.ofNat A.slots.size), .null]) (rest := []) rfl rfl (by show 2 * 0 + 0 ≤ _; decide) (hb hbytes d6) (⟨rfl, hB.mv X0.warmed.alike hh0, f1.al X0.warmed.alike, f2.al X0.warmed.alike, hA.mv X0.warmed.alike hh0, s1.there X0.warmed.alike hh0, hz, l0, by omega, l2, fun i hi => by rw [Nat.zero_add]; exact hp i hi⟩)
  have e0 := Got.mv _ s₁ s _ _ hh0.symm (Vm.Alike.refl _) rfl E3
  obtain rfl := e0.1
  have c4 : Steps p.tables e below (s₁.setTop (entryFrame m #[.ref a, .ref b] 2)) (T3.setTop (mkF m 9 #[.val (.ref a), .val (.ref b)] [])) := g3
  exact ⟨T3, none, _, _, _, X3, by simp, rfl, by omega, (fun _ => rfl), e0, fun fs hl => c4.trans (X3.returnOut hexec hret (hb hbytes d9) hl)⟩
theorem pays {l : Launch} {R : Room} {p : Program} {e : Env} {below : List Frame} {s : State} {sargs : Array Value} {len W : Nat} (a : Addr) (D : Cell) (fV fC : Field) (b : Addr) (A : Cell) (z : Int32) (htab : tab.before sargs s = true) (hfr : 4 ≤ R.frames) (hlo : W + 65 ≤ R.locals) :
    Back l R p e below s sargs yN len W (fun A₁ a₁ => A₁.cells + 1 ≤ R.cells ∧ A₁.slots + A.slots.size ≤ R.slots ∧ P a D fV fC b A z a₁ A₁.U) (fun A₁ _ v₁ B₁ => E a D fV fC A v₁ A₁.U B₁.U ∧ B₁.locs = A₁.locs ++ [⟨a, fC.slot⟩, ⟨a, fV.slot⟩] ∧ B₁.cells = A₁.cells + 1 ∧ B₁.slots = A₁.slots + A.slots.size) :=
  (law l a D fV fC b A z).pays htab hfr (by omega)
end New1
/-- the byte, read back as charAt reads it, is the char -/
theorem lo8_mask {x : Int32} (h0 : ¬ x < 0) (h1 : ¬ 255 < x) : lo8 x &&& 255 = x := by
  have t : ∀ k : Fin 256, lo8 (Int32.ofNat k.val) &&& 255 = Int32.ofNat k.val := by decide +kernel
  rw [Int32.lt_iff_toInt_lt] at h0 h1
  have e0 : (0 : Int32).toInt = 0 := rfl
  have e1 : (255 : Int32).toInt = 255 := rfl
  obtain ⟨k, hk⟩ : ∃ k : Nat, x.toInt = k := ⟨x.toInt.toNat, by omega⟩
  have hx : x = Int32.ofNat k := Int32.toInt_inj.mp (by rw [hk, Int32.toInt_ofNat_small (by omega)])
  rw [hx]
  exact t ⟨k, by omega⟩
end StrChars
namespace StrChars.Road
open Jvm Sem ClassFile Op Lib Jvm.Stand Jvm.Free Jvm.Free.XT
open Jvm.Lib.Cold (StaticIs)
abbrev ST : String := "java/lang/String"
/-- every table word that New1's law asks, flat -/
abbrev words : List Jvm.Cond := [.code New1.yN New1.yB 2 none, .initialized ST, .methodLink ST 27 New4.yN, .instanceMethod New4.yN,
  .code New4.yN New4.yB 6 none, .fieldLink ST 38 ST "COMPACT_STRINGS" "Z", .laysFinal ST ST "value" "[B", .fieldLink ST 9 ST "value" "[B", .laysFinal ST ST "coder" "B", .fieldLink ST 15 ST "coder" "B",
  .methodLink ST 1 Lib.objectInit, .instanceMethod Lib.objectInit, .code Lib.objectInit ⟨#[0xb1]⟩ 1 none, .methodLink ST 177 Cmp3.yN, .static Cmp3.yN, .methodLink ST 47 CodL.yN, .static CodL.yN,
  .code Cmp3.yN Cmp3.yB 6 (some (.array .byte)), .initialized U16, .arrayClass .byte, .methodLink U16 115 Cmp5.yN, .static Cmp5.yN, .code Cmp5.yN Cmp5.yB 7 (some .int), .code CodL.yN CodL.yB 2 (some .byte)]
theorem tab_of {a : Array Value} {s : State} (h : ∀ w ∈ words, w.before a s = true) : New1.tab.before a s = true := by
  have h5 : Cmp5.tab.before a s = true := unparts (wk h (.code Cmp5.yN Cmp5.yB 7 (some .int))) (wks h (.initialized Cmp5.yN.cls :: Cmp5.site))
  have hc : CodL.tab.before a s = true := unparts (wk h (.code CodL.yN CodL.yB 2 (some .byte))) (wks h (.initialized CodL.yN.cls :: CodL.site))
  have q5 : ∀ w ∈ Cmp5.tab :: words, w.before a s = true := fun w hw => (List.mem_cons.mp hw).elim (fun e => e ▸ h5) (h w)
  have h3 : Cmp3.tab.before a s = true := unparts (wk q5 (.code Cmp3.yN Cmp3.yB 6 (some (.array .byte)))) (wks q5 (.initialized Cmp3.yN.cls :: Cmp3.site))
  have q3 : ∀ w ∈ Cmp3.tab :: CodL.tab :: words, w.before a s = true := fun w hw => (List.mem_cons.mp hw).elim (fun e => e ▸ h3) fun hw => (List.mem_cons.mp hw).elim (fun e => e ▸ hc) (h w)
  have h4 : New4.tab.before a s = true := unparts (wk q3 (.code New4.yN New4.yB 6 none)) (wks q3 (.initialized New4.yN.cls :: New4.site))
  have q4 : ∀ w ∈ New4.tab :: words, w.before a s = true := fun w hw => (List.mem_cons.mp hw).elim (fun e => e ▸ h4) (h w)
  exact unparts (wk q4 (.code New1.yN New1.yB 2 none)) (wks q4 (.initialized New1.yN.cls :: New1.site))
/-- the words ride from the start Z to the walk's own state -/
theorem moved {Z s : State} {a0 args : Array Value} (hZ : Z.Warmed39 s.vm) (hw : ∀ d ∈ words, d.before a0 Z = true) : ∀ d ∈ words, d.before args s = true := fun d hd => by
  have q := hw d hd
  have t : ∀ d ∈ words, d = .arrayClass .byte ∨ (d.onTables && d.keepsFace) = true := by decide +kernel
  rcases t d hd with rfl | t
  · exact RoadKit.mvA hZ q
  · exact RoadKit.mv hZ q t
/-- WHAT COMES BACK, over the tables of the start Z: h the heap at the call, h' behind it -/
def Q (Z : State) (x : Addr) (A : Cell) (h : Heap) (v : Option Value) (h' : Heap) (L : List Loc) : Prop := v = none ∧ (∀ y ∈ L, y.base = x) ∧ RoadKit.Keep h h' [x] ∧ h'.size = h.size + 1 ∧ RoadKit.Exa Z h' x ST ∧ RoadKit.Fld Z h' x ST "value" "[B" (.ref h.size) ∧ RoadKit.Fld Z h' x ST "coder" "B" (.int 0) ∧
  (∃ V : Cell, RoadKit.Arr Z h' h.size V .byte ∧ V.vm = .none ∧ Z.vm.findClass "[B" = some V.cls ∧ V.slots.size = A.slots.size ∧ ∀ j, j < A.slots.size → V.slots[j]? = some (.int (lo8 (cv A j)))) ∧
  ∀ (O n d : String) (w : Value), RoadKit.Fld Z h x O n d w → RoadKit.slotOf Z O n d ≠ RoadKit.slotOf Z ST "value" "[B" → RoadKit.slotOf Z O n d ≠ RoadKit.slotOf Z ST "coder" "B" → RoadKit.Fld Z h' x O n d w
/-- **new String(chars) AT A CALL, IN THE ROAD'S FORM**: for specialBack behind newO: x the fresh String, b the char[] with the cell A -/
theorem back {p : Program} {l : Launch} {e : Env} {R : Room} {s : State} {args : Array Value} {below : List Frame} {len W : Nat} {Z : State} {a0 : Array Value} {h : Heap} (hZ : Z.Warmed39 s.vm) (hw : ∀ d ∈ words, d.before a0 Z = true) {kI : Nat} (wi : (Jvm.Cond.instantiable ST kI).before a0 Z = true)
    {x b : Addr} {A : Cell} {z : Int32} {v0 c0 : Value} (E : RoadKit.Exa Z h x ST) (V : RoadKit.Fld Z h x ST "value" "[B" v0) (C : RoadKit.Fld Z h x ST "coder" "B" c0) (K : RoadKit.Arr Z h b A .char) (hty : Typed .char A) (S : RoadKit.Sta Z h ST "COMPACT_STRINGS" "Z" (.int z)) (hz : ¬ z = 0)
    (l0 : 0 < A.slots.size) (l2 : A.slots.size ≤ 536870912) (hp : ∀ i, i < A.slots.size → ¬ 255 < cv A i) (hfr : 4 ≤ R.frames) (hlo : W + 65 ≤ R.locals) :
    Back l R p e below s args New1.yN len W (fun P a => a = #[.ref x, .ref b] ∧ P.U.heap = h ∧ P.cells + 1 ≤ R.cells ∧ P.slots + A.slots.size ≤ R.slots)
      (fun P _ v B => ∃ L, Q Z x A h v B.U.heap L ∧ B.locs = P.locs ++ L ∧ B.cells = P.cells + 1 ∧ B.slots = P.slots + A.slots.size) := by
  intro m meth c P g ig mk a X hg hsize hdg hW hn hp'
  obtain ⟨rfl, rfl, r1, r2⟩ := hp'
  have al : Z.vm.Alike P.U.vm := hZ.alike.trans X.warmed.alike
  obtain ⟨D, cfV, kV, iV, fV, hD, gV, stV, knV, obV, asV, slV⟩ := id V
  obtain ⟨D', cfC, kC, iC, fC, hD', gC, stC, -, -, asC, slC⟩ := id C
  cases hD.symm.trans hD'
  obtain ⟨D2, kD, e1, e2, e3, e4, e5⟩ := id E
  cases hD.symm.trans e1
  obtain ⟨c2, k2, i1, i2, i3, -⟩ := Cond.instantiable_spec wi
  cases e2.symm.trans i1
  cases e3.symm.trans i2
  obtain ⟨kU, u1, u2⟩ := al.2.2 _ _ e3
  have hB : Blank ST x D P.U := ⟨hD, ⟨knV, fun q hq => by rw [hq] at obV; cases obV⟩, by rw [al.findClass]; exact e2, kU, u1, by rw [u2]; exact i3, by rw [u2]; exact e5 i3⟩
  have F1 : Found ST "value" "[B" fV P.U := ⟨SBG.found_only al ⟨cfV, kV, iV, gV⟩, stV⟩
  have F2 : Found ST "coder" "B" fC P.U := ⟨SBG.found_only al ⟨cfC, kC, iC, gC⟩, stC⟩
  have hA : Ch b A P.U := ⟨⟨K.1, State.isArrayOf_alike al K.2.1, K.2.2, by omega⟩, hty⟩
  have hS : StaticIs P.U ST "COMPACT_STRINGS" "Z" (.int z) := by
    obtain ⟨cfS, iS, kS, fS, st, cS, t1, t2, t3, t4, t5, t6, t7⟩ := S
    exact StaticIs.there (s := { Z with heap := P.U.heap }) ⟨cfS, iS, kS, fS, st, cS, t1, t2, t3, t4, t5, (fun q => by rw [q] at t6; cases t6), t7⟩ al rfl
  obtain ⟨v, B, X', ⟨⟨hv, E', V', q1, q2, q3, q4, q5, q6, q7, q8, q9, q10, q11⟩, hl, hc, hs⟩, st⟩ := New1.pays x D fV fC b A z (tab_of (moved hZ hw)) hfr hlo m meth c P g ig mk _ X hg hsize hdg hW hn ⟨r1, r2, rfl, hB, F1, F2, hA, hS, hz, l0, l2, hp⟩
  have al' : Z.vm.Alike B.U.vm := hZ.alike.trans X'.warmed.alike
  have hsz : E'.slots.size = D.slots.size := by
    obtain ⟨-, -, -, kB, w1, w2, w3⟩ := q1
    obtain ⟨kB', y1, y2⟩ := al'.2.2 _ _ e3
    rw [q2.2.1] at w1
    cases w1.symm.trans y1
    rw [w3, e5 i3, y2]
  refine ⟨v, B, X', ⟨_, ⟨hv, ?_, ⟨by omega, fun y cy hy hn' => q10 y cy (by simpa using hn') hy, fun y cy hy => ?_⟩, q11, ⟨E', _, q1.1, by rw [q2.2.1]; exact e2, by rw [q2.2.1]; exact e3, by rw [q2.1]; exact obV, fun _ => by rw [hsz]; exact e5 i3⟩,
    ⟨E', cfV, kV, iV, fV, q1.1, gV, stV, by rw [q2.1]; exact knV, by rw [q2.1]; exact obV, by rw [q2.2.1]; exact asV, q3⟩, ⟨E', cfC, kC, iC, fC, q1.1, gC, stC, by rw [q2.1]; exact knV, by rw [q2.1]; exact obV, by rw [q2.2.1]; exact asC, q4⟩,
    ⟨V', ⟨q5.1, State.isArrayOf_alike al'.symm q5.2.1, q5.2.2.1⟩, q6, by rw [← al'.findClass]; exact q7, q8, fun j hj => by have := q9 j hj; rwa [Nat.zero_add] at this⟩, fun O n d w F n1 n2 => ?_⟩, hl, hc, hs⟩, st⟩
  · intro y hy
    simp only [List.mem_cons, List.not_mem_nil, or_false] at hy
    rcases hy with rfl | rfl <;> rfl
  · by_cases q : y = x
    · subst q
      cases hD.symm.trans hy
      exact ⟨E', q1.1, q2.2.1, q2.1, hsz⟩
    · exact ⟨cy, q10 y cy q hy, rfl, rfl, rfl⟩
  · obtain ⟨D3, cf, k, i, f, g1, g2, g3, g4, g5, g6, g7⟩ := F
    cases hD.symm.trans g1
    simp only [RoadKit.slotOf, g2, gV, gC, Option.map_some, Option.getD_some] at n1 n2
    exact ⟨E', cf, k, i, f, q1.1, g2, g3, by rw [q2.1]; exact g4, by rw [q2.1]; exact g5, by rw [q2.2.1]; exact g6, by rw [q2.2.2 f.slot (by simp [n1, n2])]; exact g7⟩
end StrChars.Road
namespace StrChars.Road
open Jvm Sem ClassFile Op Lib Jvm.Stand Jvm.Free Jvm.Free.XT
/-- WHAT COMES BACK, the byte[] as a list of values -/
def QA (Z : State) (x : Addr) (zn : Int32) (cs : List Int32) (h : Heap) (v : Option Value) (h' : Heap) (L : List Loc) : Prop := v = none ∧ (∀ y ∈ L, y.base = x) ∧ RoadKit.Keep h h' [x] ∧ h'.size = h.size + 1 ∧ RoadKit.Exa Z h' x ST ∧ RoadKit.Fld Z h' x ST "value" "[B" (.ref h.size) ∧ RoadKit.Fld Z h' x ST "coder" "B" (.int 0) ∧
  (∃ kb, Z.vm.findClass "[B" = some kb ∧ RoadKit.Arv Z h' h.size kb .byte zn (cs.map fun c => .int (lo8 c)) (.int 0)) ∧
  ∀ (O n d : String) (w : Value), RoadKit.Fld Z h x O n d w → RoadKit.slotOf Z O n d ≠ RoadKit.slotOf Z ST "value" "[B" → RoadKit.slotOf Z O n d ≠ RoadKit.slotOf Z ST "coder" "B" → RoadKit.Fld Z h' x O n d w
/-- **new String(chars) AT A CALL, THE ARRAYS AS LISTS**: the char[] at b holds cs, not empty, no char above 255 -/
theorem backArv {p : Program} {l : Launch} {e : Env} {R : Room} {s : State} {args : Array Value} {below : List Frame} {len W : Nat} {Z : State} {a0 : Array Value} {h : Heap} (hZ : Z.Warmed39 s.vm) (hw : ∀ d ∈ words, d.before a0 Z = true) {kI : Nat} (wi : (Jvm.Cond.instantiable ST kI).before a0 Z = true)
    {x b : Addr} {k : ClassId} {zn z : Int32} {cs : List Int32} {dv v0 c0 : Value} (E : RoadKit.Exa Z h x ST) (V : RoadKit.Fld Z h x ST "value" "[B" v0) (C : RoadKit.Fld Z h x ST "coder" "B" c0) (K : RoadKit.Arv Z h b k .char zn (cs.map Value.int) dv) (S : RoadKit.Sta Z h ST "COMPACT_STRINGS" "Z" (.int z)) (hz : ¬ z = 0)
    (hlen : zn.toNatClampNeg = cs.length) (h0 : 0 < cs.length) (hbig : cs.length ≤ 536870912) (hall : ∀ c ∈ cs, ¬ 255 < c) (hfr : 4 ≤ R.frames) (hlo : W + 65 ≤ R.locals) :
    Back l R p e below s args New1.yN len W (fun P a => a = #[.ref x, .ref b] ∧ P.U.heap = h ∧ P.cells + 1 ≤ R.cells ∧ P.slots + cs.length ≤ R.slots)
      (fun P _ v B => ∃ L, QA Z x zn cs h v B.U.heap L ∧ B.locs = P.locs ++ L ∧ B.cells = P.cells + 1 ∧ B.slots = P.slots + cs.length) := by
  obtain ⟨A, K1, K2, K3, K4, K5, K6⟩ := K
  have e : A.slots.size = cs.length := K3.trans hlen
  have hat : ∀ (i : Nat) (hi : i < cs.length), A.slots[i]? = some (.int cs[i]) := fun i hi => by rw [K5 i (by omega)]; simp [List.getD_eq_getElem?_getD, hi]
  have hcv : ∀ (i : Nat) (hi : i < cs.length), cv A i = cs[i] := fun i hi => by unfold cv; rw [hat i hi]
  have hty : Typed .char A := fun i v hv => by
    have hi : i < A.slots.size := (Array.getElem?_eq_some_iff.mp hv).1
    have q := K5 i hi
    rw [hv] at q
    rw [Option.some.inj q]
    exact K6 i hi
  refine Back.mono (back hZ hw wi E V C K1 hty S hz (by omega) (by omega) (fun i hi => by rw [hcv i (by omega)]; exact hall _ (List.getElem_mem _)) hfr hlo) (fun P a hp => ⟨hp.1, hp.2.1, hp.2.2.1, by rw [e]; exact hp.2.2.2⟩) (fun P a v B hp hq => ?_)
  obtain ⟨L, ⟨q1, q2, q3, q4, q5, q6, q7, ⟨V', v1, v2, v3, v4, v5⟩, q9⟩, hl, hc, hs⟩ := hq
  refine ⟨L, ⟨q1, q2, q3, q4, q5, q6, q7, ⟨V'.cls, v3, V', v1, rfl, by rw [v4, e, hlen], K4, fun i hi => ?_, fun i hi => ?_⟩, q9⟩, hl, hc, by rw [hs, e]⟩
  · have hi' : i < cs.length := by omega
    rw [v5 i (by omega), hcv i hi']; simp [List.getD_eq_getElem?_getD, hi']
  · have hi' : i < cs.length := by omega
    simp only [List.getD_eq_getElem?_getD, List.getElem?_map, List.getElem?_eq_getElem hi', Option.map_some, Option.getD_some]
    exact fits_lo8 _
end StrChars.Road
namespace StrChars.Road
open Jvm Sem ClassFile Op Lib Jvm.Stand Jvm.Free Jvm.Free.XT
/-- WHAT COMES BACK, in the writer's own shape -/
def QV (Z : State) (x : Addr) (N : Int32) (bs : List Int32) (h : Heap) (n0 : Nat) (v : Option Value) (h' : Heap) (L : List Loc) : Prop := v = none ∧ RoadKit.Fr n0 L ∧ RoadKit.Keep h h' [x] ∧ RoadKit.Exa Z h' x ST ∧ RoadKit.Fld Z h' x ST "coder" "B" (.int 0) ∧
  ∃ (t : Addr) (kb : ClassId), n0 ≤ t ∧ h.size ≤ t ∧ ¬ t = x ∧ RoadKit.Fld Z h' x ST "value" "[B" (.ref t) ∧ RoadKit.Arv Z h' t kb .byte N (bs.map Value.int) (.int 0)
/-- **new String(chars) AT A CALL, FOR THE WRITER**: a char[] of n known ints, each 0 to 255 -/
theorem backV {p : Program} {l : Launch} {e : Env} {R : Room} {s : State} {args : Array Value} {below : List Frame} {len W : Nat} {Z : State} {a0 : Array Value} {h : Heap} (hZ : Z.Warmed39 s.vm) (hw : ∀ d ∈ words, d.before a0 Z = true) {kI : Nat} (wi : (Jvm.Cond.instantiable ST kI).before a0 Z = true)
    {x b : Addr} {kC : ClassId} {cs bs : List Int32} {d v0 c0 : Value} {z N : Int32} {n n0 : Nat} (hx0 : n0 ≤ x) (hh0 : n0 ≤ h.size) (E : RoadKit.Exa Z h x ST) (V : RoadKit.Fld Z h x ST "value" "[B" v0) (C : RoadKit.Fld Z h x ST "coder" "B" c0) (K : RoadKit.Arv Z h b kC .char N (cs.map Value.int) d) (S : RoadKit.Sta Z h ST "COMPACT_STRINGS" "Z" (.int z)) (hz : ¬ z = 0)
    (hn : cs.length = n) (hN : N = Int32.ofNat n) (l0 : 0 < n) (l2 : n ≤ 4000) (hp : ∀ c ∈ cs, ¬ c < 0 ∧ ¬ (255 : Int32) < c) (hb : bs = cs.map (fun c => c.toInt8.toInt32)) (hfr : 4 ≤ R.frames) (hlo : W + 65 ≤ R.locals) :
    Back l R p e below s args (⟨"java/lang/String", "<init>", "([C)V"⟩ : MethodName) len W (fun P a => a = #[.ref x, .ref b] ∧ P.U.heap = h ∧ P.cells + 1 ≤ R.cells ∧ P.slots + n ≤ R.slots)
      (fun P _ v B => ∃ L, QV Z x N bs h n0 v B.U.heap L ∧ B.locs = P.locs ++ L ∧ B.cells = P.cells + 1 ∧ B.slots = P.slots + n) := by
  subst hn hN hb
  refine Back.mono (backArv hZ hw wi E V C K S hz (n32 (by omega)) l0 (by omega) (fun c hc => (hp c hc).2) hfr hlo) (fun P a hp => hp) (fun P a v B hp hq => ?_)
  obtain ⟨L, ⟨q1, q2, q3, q4, q5, q6, q7, ⟨kb, v1, v2⟩, q9⟩, hl, hc, hs⟩ := hq
  exact ⟨L, ⟨q1, fun y hy => by rw [q2 y hy]; exact hx0, q3, q5, q7, h.size, kb, hh0, Nat.le_refl _, Nat.ne_of_gt E.lt, q6, by rw [List.map_map]; exact v2⟩, hl, hc, hs⟩
end StrChars.Road
namespace StrChars
open Jvm Sem ClassFile Op Lib Jvm.Stand Jvm.Free.XT Jvm.Free.ALB Jvm.Free.JM Jvm.Free
open Jvm.Lib.Cold (StaticIs)
def hi8 (x : Int32) : Int32 := lo8 (x >>> ((8 : Int32) &&& 31))
/-- what StringUTF16.getChar makes of two bytes -/
def pairCh (u v : Int32) : Int32 := (((u &&& 255) <<< ((0 : Int32) &&& 31)) ||| ((v &&& 255) <<< ((8 : Int32) &&& 31))).toUInt32.toUInt16.toUInt32.toInt32
theorem lo8_and (x : Int32) : (lo8 x &&& 255).toBitVec.toNat = x.toBitVec.toNat % 256 := by
  have h : (lo8 x).toBitVec = (x.toBitVec.signExtend 8).signExtend 32 := by rw [lo8, Int8.toBitVec_toInt32, Int32.toBitVec_toInt8]
  rw [Int32.toBitVec_and, BitVec.toNat_and, h]
  have e : ((x.toBitVec.signExtend 8).signExtend 32).toNat % 256 = x.toBitVec.toNat % 256 := by
    rw [BitVec.toNat_signExtend]
    have hlt := x.toBitVec.isLt
    simp only [BitVec.toNat_setWidth, BitVec.toNat_signExtend]
    split <;> split <;> omega
  rw [← e]
  exact Nat.and_two_pow_sub_one_eq_mod _ 8
theorem pair_says {c : Int32} (h0 : ¬ c < 0) (h1 : ¬ 65535 < c) : pairCh (lo8 c) (hi8 c) = c := by
  rw [Int32.lt_iff_toInt_lt] at h0 h1
  have e0 : (0 : Int32).toInt = 0 := rfl
  have e1 : (65535 : Int32).toInt = 65535 := rfl
  have hc : c.toInt = c.toBitVec.toNat := by
    have := c.toBitVec.isLt
    have e : c.toInt = c.toBitVec.toInt := rfl
    rw [e] at h0 h1
    rw [e]
    rw [BitVec.toInt_eq_toNat_cond] at h0 h1 ⊢
    split at h0 <;> split <;> omega
  have hn : c.toBitVec.toNat < 65536 := by omega
  have a1 := lo8_and c
  have a2 : (hi8 c &&& 255).toBitVec.toNat = c.toBitVec.toNat / 256 := by
    rw [hi8, lo8_and]
    have e : ((8 : Int32) &&& 31) = 8 := by decide
    rw [e, Int32.toBitVec_shiftRight]
    have e2 : ((8 : Int32).toBitVec.smod 32) = 8#32 := by decide
    rw [e2, BitVec.sshiftRight_eq', BitVec.toNat_sshiftRight_of_msb_false (by rw [BitVec.msb_eq_false_iff_two_mul_lt]; omega)]
    show c.toBitVec.toNat >>> 8 % 256 = _
    rw [Nat.shiftRight_eq_div_pow]
    omega
  unfold pairCh
  apply Int32.toBitVec_inj.mp
  apply BitVec.eq_of_toNat_eq
  have f0 : ((0 : Int32) &&& 31) = 0 := by decide
  have f8 : ((8 : Int32) &&& 31) = 8 := by decide
  rw [f0, f8]
  have g : (((lo8 c &&& 255) <<< (0 : Int32)) ||| ((hi8 c &&& 255) <<< (8 : Int32))).toBitVec.toNat = c.toBitVec.toNat := by
    rw [Int32.toBitVec_or, Int32.toBitVec_shiftLeft, Int32.toBitVec_shiftLeft]
    have s0 : ((0 : Int32).toBitVec.smod 32) = 0#32 := by decide
    have s8 : ((8 : Int32).toBitVec.smod 32) = 8#32 := by decide
    rw [s0, s8, BitVec.toNat_or]
    simp only [BitVec.shiftLeft_eq', BitVec.toNat_shiftLeft, a1, a2]
    show (c.toBitVec.toNat % 256) <<< 0 % 2 ^ 32 ||| (c.toBitVec.toNat / 256) <<< 8 % 2 ^ 32 = _
    rw [Nat.shiftLeft_zero, Nat.mod_eq_of_lt (show c.toBitVec.toNat % 256 < 2 ^ 32 by omega), Nat.mod_eq_of_lt (show (c.toBitVec.toNat / 256) <<< 8 < 2 ^ 32 by rw [Nat.shiftLeft_eq]; omega), Nat.or_comm, ← Nat.shiftLeft_add_eq_or_of_lt (by omega), Nat.shiftLeft_eq]
    omega
  show BitVec.toNat (((((lo8 c &&& 255) <<< (0 : Int32)) ||| ((hi8 c &&& 255) <<< (8 : Int32))).toBitVec.setWidth 16).setWidth 32) = _
  rw [BitVec.toNat_setWidth, BitVec.toNat_setWidth, g]
  omega
end StrChars
namespace StrChars
open Jvm Sem ClassFile Op Lib Jvm.Stand Jvm.Free.XT Jvm.Free.ALB Jvm.Free.JM Jvm.Free
open Jvm.Lib.Cold (StaticIs)
/-- the array's cell V codes the n chars f 0 .. f (n - 1) by the coder cd, as the JDK does: coder 1 just where some char is above 255 -/
def Cod (cd : Int32) (n : Nat) (f : Nat → Int32) (V : Cell) : Prop := (cd = 0 ∧ V.slots.size = n ∧ ∀ j, j < n → V.slots[j]? = some (.int (lo8 (f j))) ∧ ¬ 255 < f j) ∨ (cd = 1 ∧ V.slots.size = 2 * n ∧ (∀ j, j < n → V.slots[2 * j]? = some (.int (lo8 (f j))) ∧ V.slots[2 * j + 1]? = some (.int (hi8 (f j)))) ∧ ∃ j, j < n ∧ 255 < f j)
/-- **x is a String of the n chars f 0 .. f (n - 1)**, Latin-1 or UTF-16; its array at t has the cell V -/
def Txt (x t : Addr) (V : Cell) (cd : Int32) (n : Nat) (f : Nat → Int32) (U : State) : Prop := Exact "java/lang/String" x U ∧ Has x "java/lang/String" "value" "[B" (.ref t) U ∧ Has x "java/lang/String" "coder" "B" (.int cd) U ∧ XT.Arr .byte t V U ∧ Cod cd n f V ∧ ∀ j, j < n → ¬ f j < 0 ∧ ¬ 65535 < f j
theorem Txt.mv {x t : Addr} {V : Cell} {cd : Int32} {n : Nat} {f : Nat → Int32} {U U' : State} (h : Txt x t V cd n f U) (hal : U.vm.Alike U'.vm) (hh : U'.heap = U.heap) : Txt x t V cd n f U' := ⟨h.1.mv hal hh, h.2.1.mv hal hh, h.2.2.1.mv hal hh, h.2.2.2.1.mv hal hh, h.2.2.2.2⟩
end StrChars
namespace StrChars.Road
open Jvm Sem ClassFile Op Lib Jvm.Stand Jvm.Free Jvm.Free.XT
open Jvm.Lib.Cold (StaticIs)
theorem consq {a : Array Value} {s : State} {c : Jvm.Cond} {L : List Jvm.Cond} (h0 : c.before a s = true) (h : ∀ w ∈ L, w.before a s = true) : ∀ w ∈ c :: L, w.before a s = true := fun w hw => (List.mem_cons.mp hw).elim (fun e => e ▸ h0) (h w)
/-- the bytes of the chars cs, low before high -/
def wideBytes : List Int32 → List Value
  | [] => []
  | c :: cs => .int (lo8 c) :: .int (hi8 c) :: wideBytes cs
theorem wide_lo (d : Value) : ∀ (cs : List Int32) (j : Nat), j < cs.length → (wideBytes cs).getD (2 * j) d = .int (lo8 (cs.getD j 0))
  | [], j, h => absurd h (Nat.not_lt_zero j)
  | c :: cs, 0, _ => rfl
  | c :: cs, j + 1, h => by
    have q := wide_lo d cs j (by simpa using h)
    rw [show 2 * (j + 1) = 2 * j + 1 + 1 from by omega]
    simpa [wideBytes] using q
theorem wide_hi (d : Value) : ∀ (cs : List Int32) (j : Nat), j < cs.length → (wideBytes cs).getD (2 * j + 1) d = .int (hi8 (cs.getD j 0))
  | [], j, h => absurd h (Nat.not_lt_zero j)
  | c :: cs, 0, _ => rfl
  | c :: cs, j + 1, h => by
    have q := wide_hi d cs j (by simpa using h)
    rw [show 2 * (j + 1) + 1 = 2 * j + 1 + 1 + 1 from by omega]
    simpa [wideBytes] using q
theorem low_at (d : Value) (cs : List Int32) (j : Nat) (h : j < cs.length) : (cs.map fun c => Value.int (lo8 c)).getD j d = .int (lo8 (cs.getD j 0)) := by
  simp [List.getD_eq_getElem?_getD, h]
/-- an array of N2 bytes vs codes the chars cs by the coder cd -/
def CodA (cs : List Int32) (cd N2 : Int32) (vs : List Value) : Prop := (cd = 0 ∧ N2 = Int32.ofNat cs.length ∧ vs = (cs.map fun c => Value.int (lo8 c)) ∧ ∀ c ∈ cs, ¬ 255 < c) ∨ (cd = 1 ∧ N2 = Int32.ofNat (2 * cs.length) ∧ vs = wideBytes cs ∧ ∃ c ∈ cs, 255 < c)
theorem CodA.cod {cs : List Int32} {cd N2 : Int32} {vs : List Value} {V : Cell} (h : CodA cs cd N2 vs) (hn : 2 * cs.length < 2 ^ 31) (hs : V.slots.size = N2.toNatClampNeg) (hv : RoadKit.Has V vs (.int 0)) : Cod cd cs.length (fun j => cs.getD j 0) V := by
  rcases h with ⟨rfl, rfl, rfl, h⟩ | ⟨rfl, rfl, rfl, c, hc, hw⟩
  · rw [n32 (by omega)] at hs
    exact Or.inl ⟨rfl, hs, fun j hj => ⟨by rw [hv j (by omega), low_at _ _ _ hj], by
      have e : cs.getD j 0 = cs[j] := by simp [List.getD_eq_getElem?_getD, hj]
      show ¬ 255 < cs.getD j 0
      rw [e]; exact h _ (List.getElem_mem _)⟩⟩
  · rw [n32 (by omega)] at hs
    obtain ⟨j, hj, rfl⟩ := List.getElem_of_mem hc
    exact Or.inr ⟨rfl, hs, fun j hj => ⟨by rw [hv _ (by omega), wide_lo _ _ _ hj], by rw [hv _ (by omega), wide_hi _ _ _ hj]⟩, j, hj, by
      have e : cs.getD j 0 = cs[j] := by simp [List.getD_eq_getElem?_getD, hj]
      show 255 < cs.getD j 0
      rw [e]; exact hw⟩
/-- an object of exactly java/lang/String, its two fields found: as the laws ask it -/
theorem strObj {Z U : State} {a0 : Array Value} {kI : Nat} (wi : (Jvm.Cond.instantiable ST kI).before a0 Z = true) (al : Z.vm.Alike U.vm) {x : Addr} {v0 c0 : Value} (E : RoadKit.Exa Z U.heap x ST) (V : RoadKit.Fld Z U.heap x ST "value" "[B" v0) (C : RoadKit.Fld Z U.heap x ST "coder" "B" c0) :
    ∃ (D : Cell) (fV fC : Field), Blank ST x D U ∧ Found ST "value" "[B" fV U ∧ Found ST "coder" "B" fC U ∧ D.slots[fV.slot]? = some v0 ∧ D.slots[fC.slot]? = some c0 ∧ RoadKit.slotOf Z ST "value" "[B" = fV.slot ∧ RoadKit.slotOf Z ST "coder" "B" = fC.slot := by
  obtain ⟨D, cfV, kV, iV, fV, hD, gV, stV, knV, obV, asV, slV⟩ := V
  obtain ⟨D', cfC, kC, iC, fC, hD', gC, stC, -, -, asC, slC⟩ := C
  cases hD.symm.trans hD'
  obtain ⟨D2, kD, e1, e2, e3, e4, e5⟩ := E
  cases hD.symm.trans e1
  obtain ⟨c2, k2, i1, i2, i3, -⟩ := Cond.instantiable_spec wi
  cases e2.symm.trans i1
  cases e3.symm.trans i2
  obtain ⟨kU, u1, u2⟩ := al.2.2 _ _ e3
  exact ⟨D, fV, fC, ⟨hD, ⟨knV, fun q hq => by rw [hq] at obV; cases obV⟩, by rw [al.findClass]; exact e2, kU, u1, by rw [u2]; exact i3, by rw [u2]; exact e5 i3⟩, ⟨SBG.found_only al ⟨cfV, kV, iV, gV⟩, stV⟩, ⟨SBG.found_only al ⟨cfC, kC, iC, gC⟩, stC⟩, slV, slC, by simp [RoadKit.slotOf, gV], by simp [RoadKit.slotOf, gC]⟩
theorem sta_is {Z U : State} (al : Z.vm.Alike U.vm) {C n d : String} {v : Value} (S : RoadKit.Sta Z U.heap C n d v) : StaticIs U C n d v := by
  obtain ⟨cfS, iS, kS, fS, st, cS, t1, t2, t3, t4, t5, t6, t7⟩ := S
  exact StaticIs.there (s := { Z with heap := U.heap }) ⟨cfS, iS, kS, fS, st, cS, t1, t2, t3, t4, t5, (fun q => by rw [q] at t6; cases t6), t7⟩ al rfl
end StrChars.Road
namespace StrChars
open Jvm Sem ClassFile Op Lib Jvm.Stand Jvm.Free.XT Jvm.Free.ALB Jvm.Free.JM Jvm.Free
open Jvm.Lib.Cold (StaticIs)
/-- what place i of a byte[]'s cell holds -/
def yv (A : Cell) (i : Nat) : Int32 := match A.slots[i]? with | some (.int x) => x | _ => 0
theorem yv_get {a : Addr} {A : Cell} {U : State} (h : XT.Arr .byte a A U) (ht : Typed .byte A) {i : Nat} (hi : i < A.slots.size) : A.slots[i]? = some (.int (yv A i)) := by
  have e := Array.getElem?_eq_getElem hi
  have f := ht i _ e
  unfold yv; rw [e]
  generalize A.slots[i] = v at f
  cases v <;> simp [fits] at f ⊢
/-- the two arrays are equal, place for place -/
def EqC (A B : Cell) : Prop := A.slots.size = B.slots.size ∧ ∀ i, i < A.slots.size → yv A i = yv B i
/-- a boolean that says whether p -/
def Says01 (q : Prop) (r : Option Value) (s u : State) : Prop := ∃ v : Int32, r = some (.int v) ∧ u.heap = s.heap ∧ ((v = 1 ∧ q) ∨ (v = 0 ∧ ¬ q))
theorem Says01.mv {q : Prop} : ∀ r (U U' V V' : State), U'.heap = U.heap → V.vm.Alike V'.vm → V'.heap = V.heap → Says01 q r U V → Says01 q r U' V' :=
  fun r U U' V V' h1 _ h2 ⟨v, a, b, c⟩ => ⟨v, a, by rw [h1, h2]; exact b, c⟩
namespace LEq
def yN : MethodName := ⟨"java/lang/StringLatin1", "equals", "([B[B)Z"⟩
abbrev yB : ByteArray := jdk_43_method_13_code
theorem d0 : decode yB 0 = .ok (.aload_n 0, 1) := by decide +kernel
theorem d1 : decode yB 1 = .ok (.arraylength, 1) := by decide +kernel
theorem d2 : decode yB 2 = .ok (.aload_n 1, 1) := by decide +kernel
theorem d3 : decode yB 3 = .ok (.arraylength, 1) := by decide +kernel
theorem d4 : decode yB 4 = .ok (.if_icmp (.ne) 30, 3) := by decide +kernel
theorem d7 : decode yB 7 = .ok (.iconst 0, 1) := by decide +kernel
theorem d8 : decode yB 8 = .ok (.istore_n 2, 1) := by decide +kernel
theorem d9 : decode yB 9 = .ok (.iload_n 2, 1) := by decide +kernel
theorem d10 : decode yB 10 = .ok (.aload_n 0, 1) := by decide +kernel
theorem d11 : decode yB 11 = .ok (.arraylength, 1) := by decide +kernel
theorem d12 : decode yB 12 = .ok (.if_icmp (.ge) 20, 3) := by decide +kernel
theorem d15 : decode yB 15 = .ok (.aload_n 0, 1) := by decide +kernel
theorem d16 : decode yB 16 = .ok (.iload_n 2, 1) := by decide +kernel
theorem d17 : decode yB 17 = .ok (.baload, 1) := by decide +kernel
theorem d18 : decode yB 18 = .ok (.aload_n 1, 1) := by decide +kernel
theorem d19 : decode yB 19 = .ok (.iload_n 2, 1) := by decide +kernel
theorem d20 : decode yB 20 = .ok (.baload, 1) := by decide +kernel
theorem d21 : decode yB 21 = .ok (.if_icmp (.eq) 5, 3) := by decide +kernel
theorem d24 : decode yB 24 = .ok (.iconst 0, 1) := by decide +kernel
theorem d25 : decode yB 25 = .ok (.ireturn, 1) := by decide +kernel
theorem d26 : decode yB 26 = .ok (.iinc 2 1, 3) := by decide +kernel
theorem d29 : decode yB 29 = .ok (.goto (-20), 3) := by decide +kernel
theorem d32 : decode yB 32 = .ok (.iconst 1, 1) := by decide +kernel
theorem d33 : decode yB 33 = .ok (.ireturn, 1) := by decide +kernel
theorem d34 : decode yB 34 = .ok (.iconst 0, 1) := by decide +kernel
theorem d35 : decode yB 35 = .ok (.ireturn, 1) := by decide +kernel
def site : List Cond := []
def tab : Cond := tabOf yN yB 3 (some .boolean) site
def P (a : Addr) (A : Cell) (b : Addr) (B : Cell) (args : Array Value) (s : State) : Prop := args = #[.ref a, .ref b] ∧ XT.Arr .byte a A s ∧ Typed .byte A ∧ XT.Arr .byte b B s ∧ Typed .byte B
/-- whether two byte[] are equal, place for place -/
theorem law (l : Launch) (a : Addr) (A : Cell) (b : Addr) (B : Cell) : Law l yN 2 2 0 0 yB 3 (some .boolean) site (P a A b B) (Says01 (EqC A B)) [] 0 0 := by
  refine Law.of_walk (plainFor_of_name (by decide +kernel)) (by decide +kernel) (by decide +kernel) (by decide) (fun _ _ h => by rw [h.1]; rfl) (fun _ U U' hal hh h => ⟨h.1, h.2.1.mv hal hh, h.2.2.1, h.2.2.2.1.mv hal hh, h.2.2.2.2⟩) (fun r U U' V V' h1 hal h2 h => Says01.mv r U U' V V' h1 hal h2 h) ?_
  intro p e s m args below meth c s₁ X0 hexec hbytes hml hret hlk hnm hown hh0 W hP
  obtain ⟨rfl, hA, tA, hB, tB⟩ := hP
  have a31 := hA.2.2.2
  have b31 := hB.2.2.2
  have hA0 := hA.mv X0.warmed.alike hh0
  have hB0 := hB.mv X0.warmed.alike hh0
  have c1 : Steps p.tables e below (s₁.setTop (entryFrame m #[.ref a, .ref b] 3)) (s₁.setTop (mkF m 0 #[.val (.ref a), .val (.ref b), .unset] [])) := entry rfl
  have c2 : Steps p.tables e below (s₁.setTop (entryFrame m #[.ref a, .ref b] 3)) (s₁.setTop (mkF m 4 #[.val (.ref a), .val (.ref b), .unset] [.int (Int32.ofNat B.slots.size), .int (Int32.ofNat A.slots.size)])) := c1.trans (by
    refine XS.aloadN X0.here hexec rfl (hb hbytes d0) rfl rfl ?_
    refine X0.alen hexec hA0 rfl rfl (hb hbytes d1) ?_
    refine XS.aloadN X0.here hexec rfl (hb hbytes d2) rfl rfl ?_
    refine X0.alen hexec hB0 rfl rfl (hb hbytes d3) ?_
    exact Steps.refl _)
  by_cases hs : A.slots.size = B.slots.size
  · have c3 : Steps p.tables e below (s₁.setTop (entryFrame m #[.ref a, .ref b] 3)) (s₁.setTop (mkF m 9 #[.val (.ref a), .val (.ref b), .val (.int 0)] [])) := c2.trans (by
      refine XS.icmpNo X0.here hexec rfl (hb hbytes d4) rfl (ii_ne_f (by rw [hs])) ?_
      refine iconstV X0.here hexec rfl 0 (hb hbytes d7) (by decide) ?_
      refine XS.istoreN X0.here hexec rfl (hb hbytes d8) rfl rfl ?_
      exact Steps.refl _)
    have loop : ∀ (r i : Nat), i + r = A.slots.size → (∀ j, j < i → yv A j = yv B j) → Steps p.tables e below (s₁.setTop (entryFrame m #[.ref a, .ref b] 3)) (s₁.setTop (mkF m 9 #[.val (.ref a), .val (.ref b), .val (.int (Int32.ofNat i))] [])) → ∃ (pc : Nat) (Ls : Array Slot) (v : Int32), (pc = 25 ∨ pc = 33) ∧ ((v = 1 ∧ EqC A B) ∨ (v = 0 ∧ ¬ EqC A B)) ∧ Steps p.tables e below (s₁.setTop (entryFrame m #[.ref a, .ref b] 3)) (s₁.setTop (mkF m pc Ls [.int v])) := by
      intro r
      induction r with
      | zero =>
        intro i hi he cl
        exact ⟨33, _, 1, Or.inr rfl, Or.inl ⟨rfl, hs, fun j hj => he j (by omega)⟩, cl.trans (by
          refine XS.iloadN X0.here hexec rfl (hb hbytes d9) rfl ?_
          refine XS.aloadN X0.here hexec rfl (hb hbytes d10) rfl rfl ?_
          refine X0.alen hexec hA0 rfl rfl (hb hbytes d11) ?_
          refine XS.icmpYes X0.here hexec rfl (pc0 := 12) rfl (hb hbytes d12) rfl (ii_ge_t (nlt32 (by omega) (by omega))) (by decide) rfl ?_
          refine iconstV X0.here hexec rfl 1 (hb hbytes d32) (by decide) ?_
          exact Steps.refl _)⟩
      | succ r ih =>
        intro i hi he cl
        have c4 : Steps p.tables e below (s₁.setTop (entryFrame m #[.ref a, .ref b] 3)) (s₁.setTop (mkF m 21 #[.val (.ref a), .val (.ref b), .val (.int (Int32.ofNat i))] [.int (yv B i), .int (yv A i)])) := cl.trans (by
          refine XS.iloadN X0.here hexec rfl (hb hbytes d9) rfl ?_
          refine XS.aloadN X0.here hexec rfl (hb hbytes d10) rfl rfl ?_
          refine X0.alen hexec hA0 rfl rfl (hb hbytes d11) ?_
          refine XS.icmpNo X0.here hexec rfl (hb hbytes d12) rfl (ii_ge_f (lt32 (by omega) (by omega))) ?_
          refine XS.aloadN X0.here hexec rfl (hb hbytes d15) rfl rfl ?_
          refine XS.iloadN X0.here hexec rfl (hb hbytes d16) rfl ?_
          refine X0.aget hexec hA0 rfl (yv_get hA tA (i := i) (by omega)) rfl rfl (hb hbytes d17) ?_
          refine XS.aloadN X0.here hexec rfl (hb hbytes d18) rfl rfl ?_
          refine XS.iloadN X0.here hexec rfl (hb hbytes d19) rfl ?_
          refine X0.aget hexec hB0 rfl (yv_get hB tB (i := i) (by omega)) rfl rfl (hb hbytes d20) ?_
          exact Steps.refl _)
        by_cases hv : yv A i = yv B i
        · have c5 : Steps p.tables e below (s₁.setTop (entryFrame m #[.ref a, .ref b] 3)) (s₁.setTop (mkF m 9 #[.val (.ref a), .val (.ref b), .val (.int (Int32.ofNat i + 1))] [])) := c4.trans (by
            refine XS.icmpYes X0.here hexec rfl (pc0 := 21) rfl (hb hbytes d21) rfl (ii_eq_t hv) (by decide) rfl ?_
            refine iincV X0.here hexec rfl 1 (hb hbytes d26) (by decide) rfl rfl ?_
            refine XS.goto X0.here hexec rfl (pc0 := 29) rfl (hb hbytes d29) (by decide) rfl ?_
            exact Steps.refl _)
          rw [succ32] at c5
          exact ih (i + 1) (by omega) (fun j hj => by
            by_cases e : j = i
            · rw [e]; exact hv
            · exact he j (by omega)) c5
        · exact ⟨25, _, 0, Or.inl rfl, Or.inr ⟨rfl, fun q => hv (q.2 i (by omega))⟩, c4.trans (by
            refine XS.icmpNo X0.here hexec rfl (hb hbytes d21) rfl (ii_eq_f hv) ?_
            refine iconstV X0.here hexec rfl 0 (hb hbytes d24) (by decide) ?_
            exact Steps.refl _)⟩
    obtain ⟨pc, Ls, v, hpc, hv, cz⟩ := loop A.slots.size 0 (by omega) (fun j hj => absurd hj (Nat.not_lt_zero j)) c3
    have nv : narrow .boolean (.int v) = .int v := by rcases hv with ⟨rfl, -⟩ | ⟨rfl, -⟩ <;> rfl
    rcases hpc with rfl | rfl
    · exact ⟨s₁, some (.int v), _, _, _, X0, rfl, rfl, rfl, (fun h => by cases h), ⟨v, rfl, hh0, hv⟩, fun fs hl => cz.trans (X0.ireturnOut hexec hret nv (Or.inr (Or.inl rfl)) (hb hbytes d25) hl)⟩
    · exact ⟨s₁, some (.int v), _, _, _, X0, rfl, rfl, rfl, (fun h => by cases h), ⟨v, rfl, hh0, hv⟩, fun fs hl => cz.trans (X0.ireturnOut hexec hret nv (Or.inr (Or.inl rfl)) (hb hbytes d33) hl)⟩
  · have c3 : Steps p.tables e below (s₁.setTop (entryFrame m #[.ref a, .ref b] 3)) (s₁.setTop (mkF m 35 #[.val (.ref a), .val (.ref b), .unset] [.int 0])) := c2.trans (by
      refine XS.icmpYes X0.here hexec rfl (pc0 := 4) rfl (hb hbytes d4) rfl (ii_ne_t (ne32 a31 b31 hs)) (by decide) rfl ?_
      refine iconstV X0.here hexec rfl 0 (hb hbytes d34) (by decide) ?_
      exact Steps.refl _)
    exact ⟨s₁, some (.int 0), _, _, _, X0, rfl, rfl, rfl, (fun h => by cases h), ⟨0, rfl, hh0, Or.inr ⟨rfl, fun q => hs q.1⟩⟩, fun fs hl => c3.trans (X0.ireturnOut hexec hret rfl (Or.inr (Or.inl rfl)) (hb hbytes d35) hl)⟩
end LEq
theorem Cod.ty {cd : Int32} {n : Nat} {f : Nat → Int32} {V : Cell} (h : Cod cd n f V) : Typed .byte V := fun i v hv => by
  have hi : i < V.slots.size := (Array.getElem?_eq_some_iff.mp hv).1
  rcases h with ⟨-, k1, k2⟩ | ⟨-, k1, k2, -⟩
  · rw [(k2 i (by omega)).1] at hv; cases hv; exact fits_lo8 _
  · rcases Nat.mod_two_eq_zero_or_one i with e | e
    · obtain ⟨j, rfl⟩ : ∃ j, i = 2 * j := ⟨i / 2, by omega⟩
      rw [(k2 j (by omega)).1] at hv; cases hv; exact fits_lo8 _
    · obtain ⟨j, rfl⟩ : ∃ j, i = 2 * j + 1 := ⟨i / 2, by omega⟩
      rw [(k2 j (by omega)).2] at hv; cases hv; exact fits_lo8 _
/-- the same text -/
def SameT (n : Nat) (f : Nat → Int32) (k : Nat) (g : Nat → Int32) : Prop := n = k ∧ ∀ j, j < n → f j = g j
theorem lo8_inj {x y : Int32} (h0 : ¬ x < 0) (h1 : ¬ 255 < x) (k0 : ¬ y < 0) (k1 : ¬ 255 < y) (h : lo8 x = lo8 y) : x = y := by
  rw [← lo8_mask h0 h1, ← lo8_mask k0 k1, h]
/-- arrays coded by one coder are equal just where the texts are -/
theorem Cod.eqv {cd : Int32} {n k : Nat} {f g : Nat → Int32} {V V' : Cell} (h : Cod cd n f V) (h' : Cod cd k g V') (hf : ∀ j, j < n → ¬ f j < 0 ∧ ¬ 65535 < f j) (hg : ∀ j, j < k → ¬ g j < 0 ∧ ¬ 65535 < g j) : EqC V V' ↔ SameT n f k g := by
  have yvv : ∀ {W : Cell} {i : Nat} {x : Int32}, W.slots[i]? = some (.int x) → yv W i = x := fun q => by unfold yv; rw [q]
  rcases h with ⟨rfl, k1, k2⟩ | ⟨rfl, k1, k2, -⟩
  · rcases h' with ⟨-, m1, m2⟩ | ⟨e, -⟩
    · constructor
      · rintro ⟨e1, e2⟩
        refine ⟨by omega, fun j hj => ?_⟩
        have q := e2 j (by omega)
        rw [yvv (k2 j hj).1, yvv (m2 j (by omega)).1] at q
        exact lo8_inj (hf j hj).1 (k2 j hj).2 (hg j (by omega)).1 (m2 j (by omega)).2 q
      · rintro ⟨rfl, e2⟩
        refine ⟨by omega, fun j hj => ?_⟩
        rw [yvv (k2 j (by omega)).1, yvv (m2 j (by omega)).1, e2 j (by omega)]
    · exact absurd e (by decide)
  · rcases h' with ⟨e, -⟩ | ⟨-, m1, m2, -⟩
    · exact absurd e (by decide)
    · constructor
      · rintro ⟨e1, e2⟩
        refine ⟨by omega, fun j hj => ?_⟩
        have q1 := e2 (2 * j) (by omega)
        have q2 := e2 (2 * j + 1) (by omega)
        rw [yvv (k2 j hj).1, yvv (m2 j (by omega)).1] at q1
        rw [yvv (k2 j hj).2, yvv (m2 j (by omega)).2] at q2
        rw [← pair_says (hf j hj).1 (hf j hj).2, ← pair_says (hg j (by omega)).1 (hg j (by omega)).2, q1, q2]
      · rintro ⟨rfl, e2⟩
        refine ⟨by omega, fun i hi => ?_⟩
        rcases Nat.mod_two_eq_zero_or_one i with e | e
        · obtain ⟨j, rfl⟩ : ∃ j, i = 2 * j := ⟨i / 2, by omega⟩
          rw [yvv (k2 j (by omega)).1, yvv (m2 j (by omega)).1, e2 j (by omega)]
        · obtain ⟨j, rfl⟩ : ∃ j, i = 2 * j + 1 := ⟨i / 2, by omega⟩
          rw [yvv (k2 j (by omega)).2, yvv (m2 j (by omega)).2, e2 j (by omega)]
/-- two codings differ: so do the texts -/
theorem Cod.dif {cd cd' : Int32} {n k : Nat} {f g : Nat → Int32} {V V' : Cell} (h : Cod cd n f V) (h' : Cod cd' k g V') (hne : ¬ cd = cd') : ¬ SameT n f k g := by
  rintro ⟨rfl, e⟩
  rcases h with ⟨rfl, -, k2⟩ | ⟨rfl, -, -, j, hj, hw⟩
  · rcases h' with ⟨rfl, -⟩ | ⟨-, -, -, j, hj, hw⟩
    · exact hne rfl
    · exact (k2 j hj).2 (by rw [e j hj]; exact hw)
  · rcases h' with ⟨-, -, m2⟩ | ⟨rfl, -⟩
    · exact (m2 j hj).2 (by rw [← e j hj]; exact hw)
    · exact hne rfl
/-- an object of exactly C is an instance of C -/
theorem cinst {p : Program} {l : Launch} {e : Env} {R : Room} {s : State} {m : MethodId} {args : Array Value} {below : List Frame} {meth : Method} {c : Code} {T : State} {locs : List Loc} {cells slots : Nat} (X : Stand p l e R s m args below meth c T locs cells slots) (hexec : p.tables.exec = Jvm.exec) {own C : String} {index : Nat} (hown : s.vm.findClass own = some m.cls) (hlink : (Cond.classLink own index C).before args s = true) {a : Addr} (hE : Exact C a T)
    {g : JFrame} (hg : g.method = m) {rest : List Value} (hstack : g.stack = .ref a :: rest) (hdg : decode c.code g.pc = .ok (.instanceof index, 3)) :
    ∃ T', Stand p l e R s m args below meth c T' locs cells slots ∧ T'.heap = T.heap ∧ ∀ target, Steps p.tables e below (T'.setTop { g with pc := g.pc + 3, stack := .int 1 :: rest }) target → Steps p.tables e below (T.setTop g) target := by
  obtain ⟨cB, h1, D, h2, h3, h4⟩ := hE
  have h1' : s.vm.findClass C = some cB := by rw [← X.warmed.alike.findClass]; exact h1
  obtain ⟨vm', X', st⟩ := X.instanceofYes hexec hown hlink h2 h4 h1' (by rw [h3]; exact Jvm.Free.SB.assignable_self _ _) hg hstack hdg
  exact ⟨_, X', rfl, st⟩
theorem cself {p : Program} {l : Launch} {e : Env} {R : Room} {s : State} {m : MethodId} {args : Array Value} {below : List Frame} {meth : Method} {c : Code} {T : State} {locs : List Loc} {cells slots : Nat} (X : Stand p l e R s m args below meth c T locs cells slots) (hexec : p.tables.exec = Jvm.exec) {own C : String} {index : Nat} (hown : s.vm.findClass own = some m.cls) (hlink : (Cond.classLink own index C).before args s = true) {a : Addr} (hE : Exact C a T)
    {g : JFrame} (hg : g.method = m) {rest : List Value} (hstack : g.stack = .ref a :: rest) (hdg : decode c.code g.pc = .ok (.checkcast index, 3)) :
    ∃ T', Stand p l e R s m args below meth c T' locs cells slots ∧ T'.heap = T.heap ∧ ∀ target, Steps p.tables e below (T'.setTop { g with pc := g.pc + 3, stack := .ref a :: rest }) target → Steps p.tables e below (T.setTop g) target := by
  obtain ⟨cB, h1, D, h2, h3, h4⟩ := hE
  have h1' : s.vm.findClass C = some cB := by rw [← X.warmed.alike.findClass]; exact h1
  obtain ⟨vm', X', st⟩ := X.checkcastYes hexec hown hlink h2 h4 h1' (by rw [h3]; exact Jvm.Free.SB.assignable_self _ _) hg hstack hdg
  exact ⟨_, X', rfl, fun t h => st t (by rw [← hstack] at h; exact h)⟩
namespace SEq
def yN : MethodName := ⟨"java/lang/String", "equals", "(Ljava/lang/Object;)Z"⟩
abbrev yB : ByteArray := jdk_42_method_66_code
theorem d0 : decode yB 0 = .ok (.aload_n 0, 1) := by decide +kernel
theorem d1 : decode yB 1 = .ok (.aload_n 1, 1) := by decide +kernel
theorem d2 : decode yB 2 = .ok (.if_acmp (.ne) 5, 3) := by decide +kernel
theorem d5 : decode yB 5 = .ok (.iconst 1, 1) := by decide +kernel
theorem d6 : decode yB 6 = .ok (.ireturn, 1) := by decide +kernel
theorem d7 : decode yB 7 = .ok (.aload_n 1, 1) := by decide +kernel
theorem d8 : decode yB 8 = .ok (.instanceof 10, 3) := by decide +kernel
theorem d11 : decode yB 11 = .ok (.ifCond (.eq) 43, 3) := by decide +kernel
theorem d14 : decode yB 14 = .ok (.aload_n 1, 1) := by decide +kernel
theorem d15 : decode yB 15 = .ok (.checkcast 10, 3) := by decide +kernel
theorem d18 : decode yB 18 = .ok (.astore_n 2, 1) := by decide +kernel
theorem d19 : decode yB 19 = .ok (.getstatic 38, 3) := by decide +kernel
theorem d22 : decode yB 22 = .ok (.ifCond (.eq) 14, 3) := by decide +kernel
theorem d25 : decode yB 25 = .ok (.aload_n 0, 1) := by decide +kernel
theorem d26 : decode yB 26 = .ok (.getfield 15, 3) := by decide +kernel
theorem d29 : decode yB 29 = .ok (.aload_n 2, 1) := by decide +kernel
theorem d30 : decode yB 30 = .ok (.getfield 15, 3) := by decide +kernel
theorem d33 : decode yB 33 = .ok (.if_icmp (.ne) 21, 3) := by decide +kernel
theorem d36 : decode yB 36 = .ok (.aload_n 0, 1) := by decide +kernel
theorem d37 : decode yB 37 = .ok (.getfield 9, 3) := by decide +kernel
theorem d40 : decode yB 40 = .ok (.aload_n 2, 1) := by decide +kernel
theorem d41 : decode yB 41 = .ok (.getfield 9, 3) := by decide +kernel
theorem d44 : decode yB 44 = .ok (.invokestatic 541, 3) := by decide +kernel
theorem d47 : decode yB 47 = .ok (.ifCond (.eq) 7, 3) := by decide +kernel
theorem d50 : decode yB 50 = .ok (.iconst 1, 1) := by decide +kernel
theorem d51 : decode yB 51 = .ok (.goto 4, 3) := by decide +kernel
theorem d54 : decode yB 54 = .ok (.iconst 0, 1) := by decide +kernel
theorem d55 : decode yB 55 = .ok (.ireturn, 1) := by decide +kernel
def site : List Cond := [.classLink "java/lang/String" 10 "java/lang/String", .fieldLink "java/lang/String" 38 "java/lang/String" "COMPACT_STRINGS" "Z", .fieldLink "java/lang/String" 15 "java/lang/String" "coder" "B", .fieldLink "java/lang/String" 9 "java/lang/String" "value" "[B", LEq.tab] ++ staticW "java/lang/String" 541 LEq.yN
def tab : Cond := tabOf yN yB 3 (some .boolean) site
def P (x t : Addr) (V : Cell) (cd : Int32) (n : Nat) (f : Nat → Int32) (y t' : Addr) (V' : Cell) (cd' : Int32) (k : Nat) (g : Nat → Int32) (z : Int32) (args : Array Value) (s : State) : Prop := args = #[.ref x, .ref y] ∧ Txt x t V cd n f s ∧ Txt y t' V' cd' k g s ∧ StaticIs s "java/lang/String" "COMPACT_STRINGS" "Z" (.int z) ∧ ¬ z = 0
/-- equals(Object) of two Strings: whether the texts are the same -/
theorem law (l : Launch) (x t : Addr) (V : Cell) (cd : Int32) (n : Nat) (f : Nat → Int32) (y t' : Addr) (V' : Cell) (cd' : Int32) (k : Nat) (g : Nat → Int32) (z : Int32) : Law l yN 2 1 1 14 yB 3 (some .boolean) site (P x t V cd n f y t' V' cd' k g z) (Says01 (SameT n f k g)) [] 0 0 := by
  refine Law.of_walk (plainFor_of_name (by decide +kernel)) (by decide +kernel) (by decide +kernel) (by decide) (fun _ _ h => by rw [h.1]; rfl) (fun _ U U' hal hh h => ⟨h.1, h.2.1.mv hal hh, h.2.2.1.mv hal hh, h.2.2.2.1.there hal hh, h.2.2.2.2⟩) (fun r U U' V V' h1 hal h2 h => Says01.mv r U U' V V' h1 hal h2 h) ?_
  intro p e s m args below meth c s₁ X0 hexec hbytes hml hret hlk hnm hown hh0 W hP
  obtain ⟨rfl, hx, hy, s1, hz⟩ := hP
  have c1 : Steps p.tables e below (s₁.setTop (entryFrame m #[.ref x, .ref y] 3)) (s₁.setTop (mkF m 2 #[.val (.ref x), .val (.ref y), .unset] [.ref y, .ref x])) := Steps.trans (entry rfl) (by
    show Steps p.tables e below (s₁.setTop (mkF m 0 #[.val (.ref x), .val (.ref y), .unset] [])) _
    refine XS.aloadN X0.here hexec rfl (hb hbytes d0) rfl rfl ?_
    refine XS.aloadN X0.here hexec rfl (hb hbytes d1) rfl rfl ?_
    exact Steps.refl _)
  by_cases hxy : x = y
  · have c2 : Steps p.tables e below (s₁.setTop (entryFrame m #[.ref x, .ref y] 3)) (s₁.setTop (mkF m 6 #[.val (.ref x), .val (.ref y), .unset] [.int 1])) := c1.trans (by
      refine acmpNo X0.here hexec rfl (hb hbytes d2) rfl rfl rfl (by simp [acmp, hxy]) ?_
      refine iconstV X0.here hexec rfl 1 (hb hbytes d5) (by decide) ?_
      exact Steps.refl _)
    subst hxy
    have ec : cd = cd' := by
      obtain ⟨D, fd, a1, a2, a3⟩ := hx.2.2.1
      obtain ⟨D', fd', b1, b2, b3⟩ := hy.2.2.1
      cases a1.symm.trans b1
      obtain ⟨q1, q2, q3, q4⟩ := a2.1
      obtain ⟨r1, r2, r3, r4⟩ := b2.1
      cases q4.symm.trans r4
      cases a3.symm.trans b3; rfl
    have et : t = t' := by
      obtain ⟨D, fd, a1, a2, a3⟩ := hx.2.1
      obtain ⟨D', fd', b1, b2, b3⟩ := hy.2.1
      cases a1.symm.trans b1
      obtain ⟨q1, q2, q3, q4⟩ := a2.1
      obtain ⟨r1, r2, r3, r4⟩ := b2.1
      cases q4.symm.trans r4
      cases a3.symm.trans b3; rfl
    subst ec et
    have ev : V = V' := by cases hx.2.2.2.1.1.symm.trans hy.2.2.2.1.1; rfl
    subst ev
    have hs : SameT n f k g := (Cod.eqv hx.2.2.2.2.1 hy.2.2.2.2.1 hx.2.2.2.2.2 hy.2.2.2.2.2).mp ⟨rfl, fun _ _ => rfl⟩
    exact ⟨s₁, some (.int 1), _, _, _, X0, rfl, rfl, rfl, (fun h => by cases h), ⟨1, rfl, hh0, Or.inl ⟨rfl, hs⟩⟩, fun fs hl => c2.trans (X0.ireturnOut hexec hret rfl (Or.inr (Or.inl rfl)) (hb hbytes d6) hl)⟩
  · have c2 : Steps p.tables e below (s₁.setTop (entryFrame m #[.ref x, .ref y] 3)) (s₁.setTop (mkF m 8 #[.val (.ref x), .val (.ref y), .unset] [.ref y])) := c1.trans (by
      refine acmpYes X0.here hexec rfl (pc0 := 2) rfl (hb hbytes d2) rfl rfl rfl (by simp [acmp, hxy]) (by decide) rfl ?_
      refine XS.aloadN X0.here hexec rfl (hb hbytes d7) rfl rfl ?_
      exact Steps.refl _)
    obtain ⟨T3, X3, q3, st3⟩ := cinst X0 hexec hown (wk W (.classLink "java/lang/String" 10 "java/lang/String")) (hy.mv X0.warmed.alike hh0).1 (g := (mkF m 8 #[.val (.ref x), .val (.ref y), .unset] [.ref y])) rfl (rest := []) rfl (hb hbytes d8)
    have hh3 := q3.trans hh0
    have c4 : Steps p.tables e below (s₁.setTop (entryFrame m #[.ref x, .ref y] 3)) (T3.setTop (mkF m 15 #[.val (.ref x), .val (.ref y), .unset] [.ref y])) := (c2.trans (st3 _ (Steps.refl _))).trans (by
      refine XS.ifNo X3.here hexec rfl (hb hbytes d11) rfl (i0_eq_f (by decide)) ?_
      refine XS.aloadN X3.here hexec rfl (hb hbytes d14) rfl rfl ?_
      exact Steps.refl _)
    obtain ⟨T5, X5, q5, st5⟩ := cself X3 hexec hown (wk W (.classLink "java/lang/String" 10 "java/lang/String")) (hy.mv X3.warmed.alike hh3).1 (g := (mkF m 15 #[.val (.ref x), .val (.ref y), .unset] [.ref y])) rfl (rest := []) rfl (hb hbytes d15)
    have hh5 := q5.trans hh3
    have c6 : Steps p.tables e below (s₁.setTop (entryFrame m #[.ref x, .ref y] 3)) (T5.setTop (mkF m 19 #[.val (.ref x), .val (.ref y), .val (.ref y)] [])) := (c4.trans (st5 _ (Steps.refl _))).trans (by
      refine XS.astoreN X5.here hexec rfl (hb hbytes d18) rfl rfl rfl ?_
      exact Steps.refl _)
    obtain ⟨T7, X7, q7, st7⟩ := X5.sget hexec hown (wk W (.fieldLink "java/lang/String" 38 "java/lang/String" "COMPACT_STRINGS" "Z")) s1 (fun _ _ h => by rw [hh5]; exact h) (g := (mkF m 19 #[.val (.ref x), .val (.ref y), .val (.ref y)] [])) rfl (hb hbytes d19)
    have hh7 := q7.trans hh5
    have c8 : Steps p.tables e below (s₁.setTop (entryFrame m #[.ref x, .ref y] 3)) (T7.setTop (mkF m 26 #[.val (.ref x), .val (.ref y), .val (.ref y)] [.ref x])) := (c6.trans (st7 _ (Steps.refl _))).trans (by
      refine XS.ifNo X7.here hexec rfl (hb hbytes d22) rfl (i0_eq_f hz) ?_
      refine XS.aloadN X7.here hexec rfl (hb hbytes d25) rfl rfl ?_
      exact Steps.refl _)
    obtain ⟨T9, X9, q9, st9⟩ := X7.hget hexec hown (wk W (.fieldLink "java/lang/String" 15 "java/lang/String" "coder" "B")) (hx.mv X7.warmed.alike hh7).2.2.1 (g := (mkF m 26 #[.val (.ref x), .val (.ref y), .val (.ref y)] [.ref x])) rfl (rest := []) rfl (hb hbytes d26)
    have hh9 := q9.trans hh7
    have c10 : Steps p.tables e below (s₁.setTop (entryFrame m #[.ref x, .ref y] 3)) (T9.setTop (mkF m 30 #[.val (.ref x), .val (.ref y), .val (.ref y)] [.ref y, .int cd])) := (c8.trans (st9 _ (Steps.refl _))).trans (by
      refine XS.aloadN X9.here hexec rfl (hb hbytes d29) rfl rfl ?_
      exact Steps.refl _)
    obtain ⟨T11, X11, q11, st11⟩ := X9.hget hexec hown (wk W (.fieldLink "java/lang/String" 15 "java/lang/String" "coder" "B")) (hy.mv X9.warmed.alike hh9).2.2.1 (g := (mkF m 30 #[.val (.ref x), .val (.ref y), .val (.ref y)] [.ref y, .int cd])) rfl (rest := [.int cd]) rfl (hb hbytes d30)
    have hh11 := q11.trans hh9
    have c12 : Steps p.tables e below (s₁.setTop (entryFrame m #[.ref x, .ref y] 3)) (T11.setTop (mkF m 33 #[.val (.ref x), .val (.ref y), .val (.ref y)] [.int cd', .int cd])) := c10.trans (st11 _ (Steps.refl _))
    by_cases hcd : cd = cd'
    · subst hcd
      have c13 : Steps p.tables e below (s₁.setTop (entryFrame m #[.ref x, .ref y] 3)) (T11.setTop (mkF m 37 #[.val (.ref x), .val (.ref y), .val (.ref y)] [.ref x])) := c12.trans (by
        refine XS.icmpNo X11.here hexec rfl (hb hbytes d33) rfl (ii_ne_f rfl) ?_
        refine XS.aloadN X11.here hexec rfl (hb hbytes d36) rfl rfl ?_
        exact Steps.refl _)
      obtain ⟨T14, X14, q14, st14⟩ := X11.hget hexec hown (wk W (.fieldLink "java/lang/String" 9 "java/lang/String" "value" "[B")) (hx.mv X11.warmed.alike hh11).2.1 (g := (mkF m 37 #[.val (.ref x), .val (.ref y), .val (.ref y)] [.ref x])) rfl (rest := []) rfl (hb hbytes d37)
      have hh14 := q14.trans hh11
      have c15 : Steps p.tables e below (s₁.setTop (entryFrame m #[.ref x, .ref y] 3)) (T14.setTop (mkF m 41 #[.val (.ref x), .val (.ref y), .val (.ref y)] [.ref y, .ref t])) := (c13.trans (st14 _ (Steps.refl _))).trans (by
        refine XS.aloadN X14.here hexec rfl (hb hbytes d40) rfl rfl ?_
        exact Steps.refl _)
      obtain ⟨T16, X16, q16, st16⟩ := X14.hget hexec hown (wk W (.fieldLink "java/lang/String" 9 "java/lang/String" "value" "[B")) (hy.mv X14.warmed.alike hh14).2.1 (g := (mkF m 41 #[.val (.ref x), .val (.ref y), .val (.ref y)] [.ref y, .ref t])) rfl (rest := [.ref t]) rfl (hb hbytes d41)
      have hh16 := q16.trans hh14
      have c17 : Steps p.tables e below (s₁.setTop (entryFrame m #[.ref x, .ref y] 3)) (T16.setTop (mkF m 44 #[.val (.ref x), .val (.ref y), .val (.ref y)] [.ref t', .ref t])) := c15.trans (st16 _ (Steps.refl _))
      obtain ⟨v18, T18, X18, E18, g18⟩ := X16.callS hexec (LEq.law l t V t' V') hown (wks W (staticW "java/lang/String" 541 LEq.yN)) (wk W LEq.tab) (W := 0) (Nat.le_of_ble_eq_true rfl) (Nat.le_of_ble_eq_true rfl) (Nat.le_refl _) (Nat.le_refl _) (g := (mkF m 44 #[.val (.ref x), .val (.ref y), .val (.ref y)] [.ref t', .ref t])) rfl (by rw [hml]; rfl) c17 (argsL := [.ref t, .ref t']) (rest := []) rfl rfl (by show 2 * 0 + 0 ≤ _; decide) (hb hbytes d44) (⟨rfl, hx.2.2.2.1.mv X16.warmed.alike hh16, hx.2.2.2.2.1.ty, hy.2.2.2.1.mv X16.warmed.alike hh16, hy.2.2.2.2.1.ty⟩)
      obtain ⟨v, rfl, q18, hv⟩ := E18
      have iff := Cod.eqv hx.2.2.2.2.1 hy.2.2.2.2.1 hx.2.2.2.2.2 hy.2.2.2.2.2
      rcases hv with ⟨rfl, he⟩ | ⟨rfl, he⟩
      · have c19 : Steps p.tables e below (s₁.setTop (entryFrame m #[.ref x, .ref y] 3)) (T18.setTop (mkF m 55 #[.val (.ref x), .val (.ref y), .val (.ref y)] [.int 1])) := Steps.trans g18 (by
          refine XS.ifNo X18.here hexec rfl (hb hbytes d47) rfl (i0_eq_f (by decide)) ?_
          refine iconstV X18.here hexec rfl 1 (hb hbytes d50) (by decide) ?_
          refine XS.goto X18.here hexec rfl (pc0 := 51) rfl (hb hbytes d51) (by decide) rfl ?_
          exact Steps.refl _)
        exact ⟨T18, some (.int 1), _, _, _, X18, rfl, rfl, rfl, (fun h => by cases h), ⟨1, rfl, q18.trans hh16, Or.inl ⟨rfl, iff.mp he⟩⟩, fun fs hl => c19.trans (X18.ireturnOut hexec hret rfl (Or.inr (Or.inl rfl)) (hb hbytes d55) hl)⟩
      · have c19 : Steps p.tables e below (s₁.setTop (entryFrame m #[.ref x, .ref y] 3)) (T18.setTop (mkF m 55 #[.val (.ref x), .val (.ref y), .val (.ref y)] [.int 0])) := Steps.trans g18 (by
          refine XS.ifYes X18.here hexec rfl (pc0 := 47) rfl (hb hbytes d47) rfl (i0_eq_t rfl) (by decide) rfl ?_
          refine iconstV X18.here hexec rfl 0 (hb hbytes d54) (by decide) ?_
          exact Steps.refl _)
        exact ⟨T18, some (.int 0), _, _, _, X18, rfl, rfl, rfl, (fun h => by cases h), ⟨0, rfl, q18.trans hh16, Or.inr ⟨rfl, fun q => he (iff.mpr q)⟩⟩, fun fs hl => c19.trans (X18.ireturnOut hexec hret rfl (Or.inr (Or.inl rfl)) (hb hbytes d55) hl)⟩
    · have c13 : Steps p.tables e below (s₁.setTop (entryFrame m #[.ref x, .ref y] 3)) (T11.setTop (mkF m 55 #[.val (.ref x), .val (.ref y), .val (.ref y)] [.int 0])) := c12.trans (by
        refine XS.icmpYes X11.here hexec rfl (pc0 := 33) rfl (hb hbytes d33) rfl (ii_ne_t hcd) (by decide) rfl ?_
        refine iconstV X11.here hexec rfl 0 (hb hbytes d54) (by decide) ?_
        exact Steps.refl _)
      exact ⟨T11, some (.int 0), _, _, _, X11, rfl, rfl, rfl, (fun h => by cases h), ⟨0, rfl, hh11, Or.inr ⟨rfl, Cod.dif hx.2.2.2.2.1 hy.2.2.2.2.1 hcd⟩⟩, fun fs hl => c13.trans (X11.ireturnOut hexec hret rfl (Or.inr (Or.inl rfl)) (hb hbytes d55) hl)⟩
theorem pays {l : Launch} {R : Room} {p : Program} {e : Env} {below : List Frame} {s : State} {sargs : Array Value} {len W : Nat} (x t : Addr) (V : Cell) (cd : Int32) (n : Nat) (f : Nat → Int32) (y t' : Addr) (V' : Cell) (cd' : Int32) (k : Nat) (g : Nat → Int32) (z : Int32) (htab : tab.before sargs s = true) (hfr : 2 ≤ R.frames) (hlo : W + 28 ≤ R.locals) :
    Back l R p e below s sargs yN len W (fun A₁ a₁ => A₁.cells + 0 ≤ R.cells ∧ A₁.slots + 0 ≤ R.slots ∧ P x t V cd n f y t' V' cd' k g z a₁ A₁.U) (fun A₁ _ v₁ B₁ => Says01 (SameT n f k g) v₁ A₁.U B₁.U ∧ B₁.locs = A₁.locs ++ [] ∧ B₁.cells = A₁.cells + 0 ∧ B₁.slots = A₁.slots + 0) :=
  (law l x t V cd n f y t' V' cd' k g z).pays htab hfr (by omega)
end SEq
end StrChars
namespace StrChars.Road
open Jvm Sem ClassFile Op Lib Jvm.Stand Jvm.Free Jvm.Free.XT
open Jvm.Lib.Cold (StaticIs)
/-- the words of String.equals(Object) -/
abbrev wordsEq : List Jvm.Cond := [.code SEq.yN SEq.yB 3 (some .boolean), .initialized ST, .classLink ST 10 ST, .fieldLink ST 38 ST "COMPACT_STRINGS" "Z", .fieldLink ST 15 ST "coder" "B", .fieldLink ST 9 ST "value" "[B", .methodLink ST 541 LEq.yN, .static LEq.yN, .code LEq.yN LEq.yB 3 (some .boolean), .initialized "java/lang/StringLatin1"]
theorem tabEq_of {a : Array Value} {s : State} (h : ∀ w ∈ wordsEq, w.before a s = true) : SEq.tab.before a s = true := by
  have hl : LEq.tab.before a s = true := unparts (wk h (.code LEq.yN LEq.yB 3 (some .boolean))) (wks h (.initialized LEq.yN.cls :: LEq.site))
  have q := consq hl h
  exact unparts (wk q (.code SEq.yN SEq.yB 3 (some .boolean))) (wks q (.initialized SEq.yN.cls :: SEq.site))
theorem movedEq {Z s : State} {a0 args : Array Value} (hZ : Z.Warmed39 s.vm) (hw : ∀ d ∈ wordsEq, d.before a0 Z = true) : ∀ d ∈ wordsEq, d.before args s = true := fun d hd => by
  have t : ∀ d ∈ wordsEq, (d.onTables && d.keepsFace) = true := by decide +kernel
  exact RoadKit.mv hZ (hw d hd) (t d hd)
/-- the road's facts of a String, as the laws ask it -/
theorem txt_of {Z U : State} {a0 : Array Value} {kI : Nat} (wi : (Jvm.Cond.instantiable ST kI).before a0 Z = true) (al : Z.vm.Alike U.vm) {x t : Addr} {kb : ClassId} {cs : List Int32} {cd N2 : Int32} {vs : List Value} (E : RoadKit.Exa Z U.heap x ST) (V : RoadKit.Fld Z U.heap x ST "value" "[B" (.ref t)) (C : RoadKit.Fld Z U.heap x ST "coder" "B" (.int cd)) (K : RoadKit.Arv Z U.heap t kb .byte N2 vs (.int 0)) (hc : CodA cs cd N2 vs) (hb : ∀ c ∈ cs, ¬ c < 0 ∧ ¬ (65535 : Int32) < c) (l2 : cs.length ≤ 4000) :
    ∃ A, Txt x t A cd cs.length (fun j => cs.getD j 0) U := by
  obtain ⟨A, K1, K2, K3, K4, K5, K6⟩ := K
  have hcod := hc.cod (by omega) K3 K5
  obtain ⟨D, fV, fC, hB, F1, F2, g1, g2, -, -⟩ := strObj wi al E V C
  exact ⟨A, ⟨_, hB.2.2.1, D, hB.1, rfl, by cases q : D.vm <;> first | rfl | exact absurd q (hB.2.1.2 _)⟩, Has.of hB F1 g1, Has.of hB F2 g2, ⟨K1.1, State.isArrayOf_alike al K1.2.1, K1.2.2, by rcases hcod with ⟨-, q, -⟩ | ⟨-, q, -⟩ <;> omega⟩, hcod, fun j hj => by
    have e : cs.getD j 0 = cs[j] := by simp [List.getD_eq_getElem?_getD, hj]
    show ¬ cs.getD j 0 < 0 ∧ ¬ 65535 < cs.getD j 0
    rw [e]; exact hb _ (List.getElem_mem _)⟩
theorem same_list (cs ds : List Int32) : SameT cs.length (fun j => cs.getD j 0) ds.length (fun j => ds.getD j 0) ↔ cs = ds := by
  constructor
  · rintro ⟨e, q⟩
    refine List.ext_getElem e fun j h1 h2 => ?_
    have := q j h1
    simpa [List.getD_eq_getElem?_getD, h1, h2] using this
  · rintro rfl
    exact ⟨rfl, fun _ _ => rfl⟩
/-- **equals(Object) OF TWO SUCH STRINGS**: 1 just where the chars are the same -/
theorem eqW {p : Program} {l : Launch} {e : Env} {R : Room} {s : State} {args : Array Value} {below : List Frame} {len W : Nat} {Z : State} {a0 : Array Value} {h : Heap} (hZ : Z.Warmed39 s.vm) (hw : ∀ d ∈ wordsEq, d.before a0 Z = true) {kI : Nat} (wi : (Jvm.Cond.instantiable ST kI).before a0 Z = true)
    {x t : Addr} {kb : ClassId} {cs : List Int32} {cd N2 : Int32} {vs : List Value} (E : RoadKit.Exa Z h x ST) (V : RoadKit.Fld Z h x ST "value" "[B" (.ref t)) (C : RoadKit.Fld Z h x ST "coder" "B" (.int cd)) (K : RoadKit.Arv Z h t kb .byte N2 vs (.int 0)) (hc : CodA cs cd N2 vs) (hb : ∀ c ∈ cs, ¬ c < 0 ∧ ¬ (65535 : Int32) < c) (l2 : cs.length ≤ 4000)
    {y t' : Addr} {kb' : ClassId} {ds : List Int32} {cd' N2' : Int32} {vs' : List Value} (E' : RoadKit.Exa Z h y ST) (V' : RoadKit.Fld Z h y ST "value" "[B" (.ref t')) (C' : RoadKit.Fld Z h y ST "coder" "B" (.int cd')) (K' : RoadKit.Arv Z h t' kb' .byte N2' vs' (.int 0)) (hc' : CodA ds cd' N2' vs') (hb' : ∀ c ∈ ds, ¬ c < 0 ∧ ¬ (65535 : Int32) < c) (l2' : ds.length ≤ 4000)
    {z : Int32} (S : RoadKit.Sta Z h ST "COMPACT_STRINGS" "Z" (.int z)) (hz : ¬ z = 0) (hfr : 2 ≤ R.frames) (hlo : W + 28 ≤ R.locals) :
    Back l R p e below s args (⟨"java/lang/String", "equals", "(Ljava/lang/Object;)Z"⟩ : MethodName) len W (fun P a => a = #[.ref x, .ref y] ∧ P.U.heap = h ∧ P.cells + 0 ≤ R.cells ∧ P.slots + 0 ≤ R.slots)
      (fun P _ v B => ∃ L, (((v = some (.int 1) ∧ cs = ds) ∨ (v = some (.int 0) ∧ ¬ cs = ds)) ∧ L = [] ∧ B.U.heap = h) ∧ B.locs = P.locs ++ L ∧ B.cells = P.cells + 0 ∧ B.slots = P.slots + 0) := by
  intro m meth c P g ig mk a X hg hsize hdg hW hn hp'
  obtain ⟨rfl, rfl, r1, r2⟩ := hp'
  have al : Z.vm.Alike P.U.vm := hZ.alike.trans X.warmed.alike
  obtain ⟨A, hx⟩ := txt_of wi al E V C K hc hb l2
  obtain ⟨A', hy⟩ := txt_of wi al E' V' C' K' hc' hb' l2'
  obtain ⟨v, B, X', ⟨⟨w, hv, hh, hq⟩, hl, hk, hs⟩, st⟩ := SEq.pays x t A cd cs.length (fun j => cs.getD j 0) y t' A' cd' ds.length (fun j => ds.getD j 0) z (tabEq_of (movedEq hZ hw)) hfr hlo m meth c P g ig mk _ X hg hsize hdg hW hn ⟨r1, r2, rfl, hx, hy, sta_is al S, hz⟩
  refine ⟨v, B, X', ⟨[], ⟨?_, rfl, hh⟩, hl, hk, hs⟩, st⟩
  rcases hq with ⟨rfl, q⟩ | ⟨rfl, q⟩
  · exact Or.inl ⟨hv, (same_list cs ds).mp q⟩
  · exact Or.inr ⟨hv, fun e => q ((same_list cs ds).mpr e)⟩
end StrChars.Road
end Jvm.Pilot.@@N@@
namespace Jvm.Pilot.@@N@@
open Jvm Jvm.ClassFile Sem Op Lib Jvm.Free Jvm.Stand Jvm.LawKit Jvm.RoadKit Bundle Jvm.Pilot.@@N@@.Jvm.D
section OwnKit
variable {p : Program} {l : Launch} {e : Env} {R : Room} {s : State} {m : MethodId} {A : Array Value} {below : List Frame} {meth : Method} {c : Code} {T : State} {cells slots : Nat} {Z : State} {a0 : Array Value} {h : Heap} {own nm : String} {bytes : ByteArray} {maxL : Nat} {ret : Option FieldType} {W : Outcome → State → Prop} {pc pc' tgt : Nat} {Ls : Array Slot} {st : List Value}
/-- the run from the frame g over T comes to an end at which W holds -/
def Goes (p : Program) (e : Env) (below : List Frame) (W : Outcome → State → Prop) (T : State) (g : JFrame) : Prop :=
  ∃ s₂ o, Steps p.tables e below (T.setTop g) s₂ ∧ s₂.status = .running ∧ Ended s₂ below o ∧ W o s₂
theorem Goes.via {T' : State} {g g' : JFrame} (h : ∀ t, Steps p.tables e below (T'.setTop g') t → Steps p.tables e below (T.setTop g) t) (k : Goes p e below W T' g') : Goes p e below W T g := by
  obtain ⟨s₂, o, h1, h2⟩ := k; exact ⟨s₂, o, h _ h1, h2⟩
/-- what stays the same through a body -/
def Cx (p : Program) (s : State) (m : MethodId) (meth : Method) (c : Code) (Z : State) (own nm : String) (bytes : ByteArray) (maxL : Nat) (ret : Option FieldType) : Prop :=
  p.tables.exec = Jvm.exec ∧ Z.Warmed39 s.vm ∧ s.vm.findClass own = some m.cls ∧ c.code = bytes ∧ c.maxLocals = maxL ∧ meth.sig.returnType = ret ∧ meth.locks = false ∧ meth.name = nm
theorem Cx.hx (C : Cx p s m meth c Z own nm bytes maxL ret) : p.tables.exec = Jvm.exec := C.1
theorem Cx.hZ (C : Cx p s m meth c Z own nm bytes maxL ret) : Z.Warmed39 s.vm := C.2.1
theorem Cx.hown (C : Cx p s m meth c Z own nm bytes maxL ret) : s.vm.findClass own = some m.cls := C.2.2.1
theorem Cx.hby (C : Cx p s m meth c Z own nm bytes maxL ret) : c.code = bytes := C.2.2.2.1
theorem Cx.hml (C : Cx p s m meth c Z own nm bytes maxL ret) : c.maxLocals = maxL := C.2.2.2.2.1
theorem Cx.hret (C : Cx p s m meth c Z own nm bytes maxL ret) : meth.sig.returnType = ret := C.2.2.2.2.2.1
theorem Cx.hlk (C : Cx p s m meth c Z own nm bytes maxL ret) : meth.locks = false := C.2.2.2.2.2.2.1
theorem Cx.hnm (C : Cx p s m meth c Z own nm bytes maxL ret) : meth.name = nm := C.2.2.2.2.2.2.2
/-- where the walk stands: the heap is h; nothing that stood at Z was written; at most so many cells and slots were made -/
def St (p : Program) (l : Launch) (e : Env) (R : Room) (s : State) (m : MethodId) (A : Array Value) (below : List Frame) (meth : Method) (c : Code) (Z : State) (T : State) (h : Heap) (cells slots : Nat) : Prop :=
  ∃ locs, Stand p l e R s m A below meth c T locs cells slots ∧ T.heap = h ∧ Fr Z.heap.size locs ∧ Ext Z.heap h
theorem St.here (X : St p l e R s m A below meth c Z T h cells slots) : At T m c below := by obtain ⟨_, Y, _⟩ := X; exact Y.here
theorem St.ext (X : St p l e R s m A below meth c Z T h cells slots) : Ext Z.heap h := by obtain ⟨_, _, _, _, E⟩ := X; exact E
theorem St.more {cells' slots' : Nat} (X : St p l e R s m A below meth c Z T h cells slots) (h1 : cells ≤ cells') (h2 : slots ≤ slots') : St p l e R s m A below meth c Z T h cells' slots' := by
  obtain ⟨L, Y, r⟩ := X; exact ⟨L, Y.more h1 h2, r⟩
/-- the end of a body: Q of what it returned and of the heap -/
def EndW (Z s : State) (k n : Nat) (Q : Option Value → Heap → Prop) (o : Outcome) (u : State) : Prop :=
  ∃ v L, o = .returned v ∧ (Fr Z.heap.size L ∧ Ext Z.heap u.heap ∧ Q v u.heap) ∧ FrameEnd s o u L k n
/-- a body's contract: called with A at the heap h0, over tables warmer than Z's, it returns and leaves Q -/
def Con (l : Launch) (y : MethodName) (bytes : ByteArray) (maxL : Nat) (ret : Option FieldType) (ws : List Jvm.Cond) (rm : Room) (Z : State) (A : Array Value) (h0 : Heap) (Q : Option Value → Heap → Prop) : Prop :=
  MetFree l y (head1 (Jvm.Cond.code y bytes maxL ret :: ws) rm) (fun a U => a = A ∧ Z.Warmed39 U.vm ∧ U.heap = h0) (fun _ _ _ _ _ => True) (fun _ U o U' => EndW Z U rm.cells rm.slots Q o U')
theorem con_of {y : MethodName} {ws : List Jvm.Cond} {rm : Room} {h0 : Heap} {Q : Option Value → Heap → Prop} {Ls : Array Slot} (hp : plainFor y = true) (hE : Ext Z.heap h0) (hef : ∀ m, entryFrame m A maxL = mkF m 0 Ls [])
    (body : ∀ p e s m below meth c s₁, Cx p s m meth c Z y.cls y.name bytes maxL ret → St p l e rm s m A below meth c Z s₁ h0 0 0 → Goes p e below (EndW Z s rm.cells rm.slots Q) s₁ (mkF m 0 Ls [])) :
    Con l y bytes maxL ret ws rm Z A h0 Q := by
  refine MetFree.of_bodySF hp hisR ?_
  intro p e s m args below meth c s₁ Bd hml0 hP hK
  obtain ⟨rfl, hZ, hh⟩ := hP
  have X0 := Stand.of_body Bd
  have e0 : s₁.heap = h0 := by rw [← hh, Bd.state]; rfl
  have := body p e s m below meth c s₁ ⟨Bd.exec, hZ, findClass_of_methodNamed Bd.named, Bd.bytes, hml0, Bd.returns, Bd.notSynchronized, (name_of_methodNamed Bd.named Bd.method).1⟩ ⟨[], X0, e0, Fr.nil _, hE⟩
  rw [← hef m] at this
  exact this
/-- the instruction at pc, its length, the pc behind it -/
def Dc (b : ByteArray) (pc : Nat) (i : Instr) (n pc' : Nat) : Prop := decode b pc = .ok (i, n) ∧ pc + n = pc'
/-- a jump: besides, its target -/
def Dj (b : ByteArray) (pc : Nat) (i : Instr) (o : Int) (n pc' tgt : Nat) : Prop := decode b pc = .ok (i, n) ∧ pc + n = pc' ∧ 0 ≤ (pc : Int) + o ∧ ((pc : Int) + o).toNat = tgt
theorem g_goto {o : Int} (C : Cx p s m meth c Z own nm bytes maxL ret) (X : St p l e R s m A below meth c Z T h cells slots) (d : Dj bytes pc (.goto o) o 3 pc' tgt) (K : Goes p e below W T (mkF m tgt Ls st)) : Goes p e below W T (mkF m pc Ls st) :=
  Goes.via (fun _ k => XS.goto X.here C.hx rfl rfl (hb C.hby d.1) d.2.2.1 d.2.2.2 k) K
theorem g_if {cd : ClassFile.Cond} {o : Int} {x : Int32} {P : Prop} [Decidable P] (hP : ifCond.holds cd x = decide P) (C : Cx p s m meth c Z own nm bytes maxL ret) (X : St p l e R s m A below meth c Z T h cells slots) (d : Dj bytes pc (.ifCond cd o) o 3 pc' tgt) (K1 : P → Goes p e below W T (mkF m tgt Ls st)) (K2 : ¬ P → Goes p e below W T (mkF m pc' Ls st)) : Goes p e below W T (mkF m pc Ls (.int x :: st)) := by
  obtain ⟨d1, rfl, d3, d4⟩ := d
  by_cases q : P
  · exact Goes.via (fun _ k => XS.ifYes X.here C.hx rfl rfl (hb C.hby d1) rfl (hP.trans (decide_eq_true q)) d3 d4 k) (K1 q)
  · exact Goes.via (fun _ k => XS.ifNo X.here C.hx rfl (hb C.hby d1) rfl (hP.trans (decide_eq_false q)) k) (K2 q)
theorem g_icmp {cd : ClassFile.Cond} {o : Int} {x y : Int32} {P : Prop} [Decidable P] (hP : if_icmp.holds cd x y = decide P) (C : Cx p s m meth c Z own nm bytes maxL ret) (X : St p l e R s m A below meth c Z T h cells slots) (d : Dj bytes pc (.if_icmp cd o) o 3 pc' tgt) (K1 : P → Goes p e below W T (mkF m tgt Ls st)) (K2 : ¬ P → Goes p e below W T (mkF m pc' Ls st)) : Goes p e below W T (mkF m pc Ls (.int y :: .int x :: st)) := by
  obtain ⟨d1, rfl, d3, d4⟩ := d
  by_cases q : P
  · exact Goes.via (fun _ k => XS.icmpYes X.here C.hx rfl rfl (hb C.hby d1) rfl (hP.trans (decide_eq_true q)) d3 d4 k) (K1 q)
  · exact Goes.via (fun _ k => XS.icmpNo X.here C.hx rfl (hb C.hby d1) rfl (hP.trans (decide_eq_false q)) k) (K2 q)
theorem g_ifn {cd : ClassFile.Cond} {o : Int} {x : Int32} {P : Prop} [Decidable P] (hP : ifCond.holds cd x = !decide P) (C : Cx p s m meth c Z own nm bytes maxL ret) (X : St p l e R s m A below meth c Z T h cells slots) (d : Dj bytes pc (.ifCond cd o) o 3 pc' tgt) (K1 : ¬ P → Goes p e below W T (mkF m tgt Ls st)) (K2 : P → Goes p e below W T (mkF m pc' Ls st)) : Goes p e below W T (mkF m pc Ls (.int x :: st)) := by
  obtain ⟨d1, rfl, d3, d4⟩ := d
  by_cases q : P
  · exact Goes.via (fun _ k => XS.ifNo X.here C.hx rfl (hb C.hby d1) rfl (hP.trans (by simp [q])) k) (K2 q)
  · exact Goes.via (fun _ k => XS.ifYes X.here C.hx rfl rfl (hb C.hby d1) rfl (hP.trans (by simp [q])) d3 d4 k) (K1 q)
theorem g_icmpn {cd : ClassFile.Cond} {o : Int} {x y : Int32} {P : Prop} [Decidable P] (hP : if_icmp.holds cd x y = !decide P) (C : Cx p s m meth c Z own nm bytes maxL ret) (X : St p l e R s m A below meth c Z T h cells slots) (d : Dj bytes pc (.if_icmp cd o) o 3 pc' tgt) (K1 : ¬ P → Goes p e below W T (mkF m tgt Ls st)) (K2 : P → Goes p e below W T (mkF m pc' Ls st)) : Goes p e below W T (mkF m pc Ls (.int y :: .int x :: st)) := by
  obtain ⟨d1, rfl, d3, d4⟩ := d
  by_cases q : P
  · exact Goes.via (fun _ k => XS.icmpNo X.here C.hx rfl (hb C.hby d1) rfl (hP.trans (by simp [q])) k) (K2 q)
  · exact Goes.via (fun _ k => XS.icmpYes X.here C.hx rfl rfl (hb C.hby d1) rfl (hP.trans (by simp [q])) d3 d4 k) (K1 q)
theorem hI_eq (x y : Int32) : if_icmp.holds .eq x y = decide (x = y) := by
  by_cases q : x = y
  · rw [(teq q).1]; simp [q]
  · rw [(feq q).1]; simp [q]
theorem hI_ne (x y : Int32) : if_icmp.holds .ne x y = !decide (x = y) := by
  by_cases q : x = y
  · rw [(teq q).2]; simp [q]
  · rw [(feq q).2]; simp [q]
theorem hI_lt (x y : Int32) : if_icmp.holds .lt x y = decide (x < y) := by
  by_cases q : x < y
  · rw [(tlt q).1]; simp [q]
  · rw [(flt q).1]; simp [q]
theorem hI_ge (x y : Int32) : if_icmp.holds .ge x y = !decide (x < y) := by
  by_cases q : x < y
  · rw [(tlt q).2.1]; simp [q]
  · rw [(flt q).2.1]; simp [q]
theorem hI_gt (x y : Int32) : if_icmp.holds .gt x y = decide (y < x) := by
  by_cases q : y < x
  · rw [(tlt q).2.2.1]; simp [q]
  · rw [(flt q).2.2.1]; simp [q]
theorem hI_le (x y : Int32) : if_icmp.holds .le x y = !decide (y < x) := by
  by_cases q : y < x
  · rw [(tlt q).2.2.2]; simp [q]
  · rw [(flt q).2.2.2]; simp [q]
theorem h0_eq (x : Int32) : ifCond.holds .eq x = decide (x = 0) := (if0 _ _).trans (hI_eq x 0)
theorem h0_ne (x : Int32) : ifCond.holds .ne x = !decide (x = 0) := (if0 _ _).trans (hI_ne x 0)
theorem h0_lt (x : Int32) : ifCond.holds .lt x = decide (x < 0) := (if0 _ _).trans (hI_lt x 0)
theorem h0_ge (x : Int32) : ifCond.holds .ge x = !decide (x < 0) := (if0 _ _).trans (hI_ge x 0)
theorem h0_gt (x : Int32) : ifCond.holds .gt x = decide (0 < x) := (if0 _ _).trans (hI_gt x 0)
theorem h0_le (x : Int32) : ifCond.holds .le x = !decide (0 < x) := (if0 _ _).trans (hI_le x 0)
/-- a comparison of longs, then a branch on it: 'lcmp; if..' -/
theorem hL_eq (x y : Int64) : ifCond.holds .eq (lcmpW x y) = decide (x = y) := by rw [h0_eq]; exact decide_eq_decide.mpr (lw_eq x y)
theorem hL_ne (x y : Int64) : ifCond.holds .ne (lcmpW x y) = !decide (x = y) := by rw [h0_ne]; exact congrArg _ (decide_eq_decide.mpr (lw_eq x y))
theorem hL_lt (x y : Int64) : ifCond.holds .lt (lcmpW x y) = decide (x < y) := by rw [h0_lt]; exact decide_eq_decide.mpr (lw_lt x y)
theorem hL_ge (x y : Int64) : ifCond.holds .ge (lcmpW x y) = !decide (x < y) := by rw [h0_ge]; exact congrArg _ (decide_eq_decide.mpr (lw_lt x y))
theorem hL_gt (x y : Int64) : ifCond.holds .gt (lcmpW x y) = decide (y < x) := by rw [h0_gt]; exact decide_eq_decide.mpr (lw_gt x y)
theorem hL_le (x y : Int64) : ifCond.holds .le (lcmpW x y) = !decide (y < x) := by rw [h0_le]; exact congrArg _ (decide_eq_decide.mpr (lw_gt x y))
/-- two references compared; the values are references or null -/
theorem g_acmpeq {o : Int} {x y : Value} (C : Cx p s m meth c Z own nm bytes maxL ret) (X : St p l e R s m A below meth c Z T h cells slots) (d : Dj bytes pc (.if_acmp .eq o) o 3 pc' tgt) (h1 : x.isRef = true) (h2 : y.isRef = true) (K1 : x = y → Goes p e below W T (mkF m tgt Ls st)) (K2 : ¬ x = y → Goes p e below W T (mkF m pc' Ls st)) : Goes p e below W T (mkF m pc Ls (y :: x :: st)) := by
  obtain ⟨d1, rfl, d3, d4⟩ := d
  by_cases q : x = y
  · exact Goes.via (fun _ k => XT.acmpYes X.here C.hx rfl rfl (hb C.hby d1) rfl h1 h2 (XT.aa_eq_t q) d3 d4 k) (K1 q)
  · exact Goes.via (fun _ k => XT.acmpNo X.here C.hx rfl (hb C.hby d1) rfl h1 h2 (XT.aa_eq_f q) k) (K2 q)
theorem g_acmpne {o : Int} {x y : Value} (C : Cx p s m meth c Z own nm bytes maxL ret) (X : St p l e R s m A below meth c Z T h cells slots) (d : Dj bytes pc (.if_acmp .ne o) o 3 pc' tgt) (h1 : x.isRef = true) (h2 : y.isRef = true) (K1 : ¬ x = y → Goes p e below W T (mkF m tgt Ls st)) (K2 : x = y → Goes p e below W T (mkF m pc' Ls st)) : Goes p e below W T (mkF m pc Ls (y :: x :: st)) := by
  obtain ⟨d1, rfl, d3, d4⟩ := d
  by_cases q : x = y
  · exact Goes.via (fun _ k => XT.acmpNo X.here C.hx rfl (hb C.hby d1) rfl h1 h2 (XT.aa_ne_f q) k) (K2 q)
  · exact Goes.via (fun _ k => XT.acmpYes X.here C.hx rfl rfl (hb C.hby d1) rfl h1 h2 (XT.aa_ne_t q) d3 d4 k) (K1 q)
theorem g_ifnull {o : Int} {v : Value} (C : Cx p s m meth c Z own nm bytes maxL ret) (X : St p l e R s m A below meth c Z T h cells slots) (d : Dj bytes pc (.ifnull o) o 3 pc' tgt) (h1 : v.isRef = true) (K1 : v = .null → Goes p e below W T (mkF m tgt Ls st)) (K2 : ¬ v = .null → Goes p e below W T (mkF m pc' Ls st)) : Goes p e below W T (mkF m pc Ls (v :: st)) := by
  obtain ⟨d1, rfl, d3, d4⟩ := d
  by_cases q : v = .null
  · exact Goes.via (fun _ k => XT.nullYes X.here C.hx rfl rfl (hb C.hby d1) rfl q d3 d4 k) (K1 q)
  · exact Goes.via (fun _ k => XT.nullNo X.here C.hx rfl (hb C.hby d1) rfl h1 q k) (K2 q)
theorem g_ifnonnull {o : Int} {v : Value} (C : Cx p s m meth c Z own nm bytes maxL ret) (X : St p l e R s m A below meth c Z T h cells slots) (d : Dj bytes pc (.ifnonnull o) o 3 pc' tgt) (h1 : v.isRef = true) (K1 : ¬ v = .null → Goes p e below W T (mkF m tgt Ls st)) (K2 : v = .null → Goes p e below W T (mkF m pc' Ls st)) : Goes p e below W T (mkF m pc Ls (v :: st)) := by
  obtain ⟨d1, rfl, d3, d4⟩ := d
  by_cases q : v = .null
  · exact Goes.via (fun _ k => XT.nonnullNo X.here C.hx rfl (hb C.hby d1) rfl q k) (K2 q)
  · exact Goes.via (fun _ k => XT.nonnullYes X.here C.hx rfl rfl (hb C.hby d1) rfl h1 q d3 d4 k) (K1 q)
theorem g_iload {k : Nat} {v : Int32} (C : Cx p s m meth c Z own nm bytes maxL ret) (X : St p l e R s m A below meth c Z T h cells slots) (d : Dc bytes pc (.iload k) 2 pc') (hl : Ls[k]? = some (.val (.int v))) (K : Goes p e below W T (mkF m pc' Ls (.int v :: st))) : Goes p e below W T (mkF m pc Ls st) := by
  obtain ⟨d, rfl⟩ := d
  exact Goes.via (fun _ k => XS.iload X.here C.hx rfl (hb C.hby d) hl k) K
theorem g_iloadN {k : Fin 4} {v : Int32} (C : Cx p s m meth c Z own nm bytes maxL ret) (X : St p l e R s m A below meth c Z T h cells slots) (d : Dc bytes pc (.iload_n k) 1 pc') (hl : Ls[k.val]? = some (.val (.int v))) (K : Goes p e below W T (mkF m pc' Ls (.int v :: st))) : Goes p e below W T (mkF m pc Ls st) := by
  obtain ⟨d, rfl⟩ := d
  exact Goes.via (fun _ k => XS.iloadN X.here C.hx rfl (hb C.hby d) hl k) K
theorem g_lload {k : Nat} {v : Int64} (C : Cx p s m meth c Z own nm bytes maxL ret) (X : St p l e R s m A below meth c Z T h cells slots) (d : Dc bytes pc (.lload k) 2 pc') (hl : Ls[k]? = some (.val (.long v))) (K : Goes p e below W T (mkF m pc' Ls (.long v :: st))) : Goes p e below W T (mkF m pc Ls st) := by
  obtain ⟨d, rfl⟩ := d
  exact Goes.via (fun _ k => XT.lload X.here C.hx rfl (hb C.hby d) hl k) K
theorem g_lloadN {k : Fin 4} {v : Int64} (C : Cx p s m meth c Z own nm bytes maxL ret) (X : St p l e R s m A below meth c Z T h cells slots) (d : Dc bytes pc (.lload_n k) 1 pc') (hl : Ls[k.val]? = some (.val (.long v))) (K : Goes p e below W T (mkF m pc' Ls (.long v :: st))) : Goes p e below W T (mkF m pc Ls st) := by
  obtain ⟨d, rfl⟩ := d
  exact Goes.via (fun _ k => XT.lloadN X.here C.hx rfl (hb C.hby d) hl k) K
theorem g_aload {k : Nat} {v : Value} (C : Cx p s m meth c Z own nm bytes maxL ret) (X : St p l e R s m A below meth c Z T h cells slots) (d : Dc bytes pc (.aload k) 2 pc') (hl : Ls[k]? = some (.val v)) (hv : v.isRef = true) (K : Goes p e below W T (mkF m pc' Ls (v :: st))) : Goes p e below W T (mkF m pc Ls st) := by
  obtain ⟨d, rfl⟩ := d
  exact Goes.via (fun _ k => XS.aload X.here C.hx rfl (hb C.hby d) hl hv k) K
theorem g_aloadN {k : Fin 4} {v : Value} (C : Cx p s m meth c Z own nm bytes maxL ret) (X : St p l e R s m A below meth c Z T h cells slots) (d : Dc bytes pc (.aload_n k) 1 pc') (hl : Ls[k.val]? = some (.val v)) (hv : v.isRef = true) (K : Goes p e below W T (mkF m pc' Ls (v :: st))) : Goes p e below W T (mkF m pc Ls st) := by
  obtain ⟨d, rfl⟩ := d
  exact Goes.via (fun _ k => XS.aloadN X.here C.hx rfl (hb C.hby d) hl hv k) K
theorem g_istore {k : Nat} {x : Int32} {l' : Array Slot} (C : Cx p s m meth c Z own nm bytes maxL ret) (X : St p l e R s m A below meth c Z T h cells slots) (d : Dc bytes pc (.istore k) 2 pc') (hl : storeLocals Ls k (.int x) = some l') (K : Goes p e below W T (mkF m pc' l' st)) : Goes p e below W T (mkF m pc Ls (.int x :: st)) := by
  obtain ⟨d, rfl⟩ := d
  exact Goes.via (fun _ k => XS.istore X.here C.hx rfl (hb C.hby d) rfl hl k) K
theorem g_istoreN {k : Fin 4} {x : Int32} {l' : Array Slot} (C : Cx p s m meth c Z own nm bytes maxL ret) (X : St p l e R s m A below meth c Z T h cells slots) (d : Dc bytes pc (.istore_n k) 1 pc') (hl : storeLocals Ls k.val (.int x) = some l') (K : Goes p e below W T (mkF m pc' l' st)) : Goes p e below W T (mkF m pc Ls (.int x :: st)) := by
  obtain ⟨d, rfl⟩ := d
  exact Goes.via (fun _ k => XS.istoreN X.here C.hx rfl (hb C.hby d) rfl hl k) K
theorem g_lstore {k : Nat} {x : Int64} {l' : Array Slot} (C : Cx p s m meth c Z own nm bytes maxL ret) (X : St p l e R s m A below meth c Z T h cells slots) (d : Dc bytes pc (.lstore k) 2 pc') (hl : storeLocals Ls k (.long x) = some l') (K : Goes p e below W T (mkF m pc' l' st)) : Goes p e below W T (mkF m pc Ls (.long x :: st)) := by
  obtain ⟨d, rfl⟩ := d
  exact Goes.via (fun _ k => XT.lstore X.here C.hx rfl (hb C.hby d) rfl hl k) K
theorem g_lstoreN {k : Fin 4} {x : Int64} {l' : Array Slot} (C : Cx p s m meth c Z own nm bytes maxL ret) (X : St p l e R s m A below meth c Z T h cells slots) (d : Dc bytes pc (.lstore_n k) 1 pc') (hl : storeLocals Ls k.val (.long x) = some l') (K : Goes p e below W T (mkF m pc' l' st)) : Goes p e below W T (mkF m pc Ls (.long x :: st)) := by
  obtain ⟨d, rfl⟩ := d
  exact Goes.via (fun _ k => XT.lstoreN X.here C.hx rfl (hb C.hby d) rfl hl k) K
theorem g_astore {k : Nat} {x : Value} {l' : Array Slot} (C : Cx p s m meth c Z own nm bytes maxL ret) (X : St p l e R s m A below meth c Z T h cells slots) (d : Dc bytes pc (.astore k) 2 pc') (hv : x.isRef = true) (hl : storeLocals Ls k x = some l') (K : Goes p e below W T (mkF m pc' l' st)) : Goes p e below W T (mkF m pc Ls (x :: st)) := by
  obtain ⟨d, rfl⟩ := d
  exact Goes.via (fun _ k => XS.astore X.here C.hx rfl (hb C.hby d) rfl hv hl k) K
theorem g_astoreN {k : Fin 4} {x : Value} {l' : Array Slot} (C : Cx p s m meth c Z own nm bytes maxL ret) (X : St p l e R s m A below meth c Z T h cells slots) (d : Dc bytes pc (.astore_n k) 1 pc') (hv : x.isRef = true) (hl : storeLocals Ls k.val x = some l') (K : Goes p e below W T (mkF m pc' l' st)) : Goes p e below W T (mkF m pc Ls (x :: st)) := by
  obtain ⟨d, rfl⟩ := d
  exact Goes.via (fun _ k => XS.astoreN X.here C.hx rfl (hb C.hby d) rfl hv hl k) K
theorem g_iconst {i : Int} (v : Int32) (C : Cx p s m meth c Z own nm bytes maxL ret) (X : St p l e R s m A below meth c Z T h cells slots) (d : Dc bytes pc (.iconst i) 1 pc') (hv : Int32.ofInt i = v) (K : Goes p e below W T (mkF m pc' Ls (.int v :: st))) : Goes p e below W T (mkF m pc Ls st) := by
  obtain ⟨d, rfl⟩ := d
  exact Goes.via (fun _ k => XT.iconstV X.here C.hx rfl v (hb C.hby d) hv k) K
theorem g_bipush {i : Int} (v : Int32) (C : Cx p s m meth c Z own nm bytes maxL ret) (X : St p l e R s m A below meth c Z T h cells slots) (d : Dc bytes pc (.bipush i) 2 pc') (hv : (Int8.ofInt i).toInt32 = v) (K : Goes p e below W T (mkF m pc' Ls (.int v :: st))) : Goes p e below W T (mkF m pc Ls st) := by
  obtain ⟨d, rfl⟩ := d
  exact Goes.via (fun _ k => XT.bipushV X.here C.hx rfl v (hb C.hby d) hv k) K
theorem g_sipush {i : Int} (v : Int32) (C : Cx p s m meth c Z own nm bytes maxL ret) (X : St p l e R s m A below meth c Z T h cells slots) (d : Dc bytes pc (.sipush i) 3 pc') (hv : (Int16.ofInt i).toInt32 = v) (K : Goes p e below W T (mkF m pc' Ls (.int v :: st))) : Goes p e below W T (mkF m pc Ls st) := by
  obtain ⟨d, rfl⟩ := d
  exact Goes.via (fun _ k => XT.sipushV X.here C.hx rfl v (hb C.hby d) hv k) K
theorem g_lconst {k : Fin 2} (v : Int64) (C : Cx p s m meth c Z own nm bytes maxL ret) (X : St p l e R s m A below meth c Z T h cells slots) (d : Dc bytes pc (.lconst k) 1 pc') (hv : Int64.ofNat k = v) (K : Goes p e below W T (mkF m pc' Ls (.long v :: st))) : Goes p e below W T (mkF m pc Ls st) := by
  obtain ⟨d, rfl⟩ := d
  exact Goes.via (fun _ k => XT.lconstV X.here C.hx rfl v (hb C.hby d) hv k) K
theorem g_iinc {k : Nat} {i : Int} {x : Int32} {l' : Array Slot} (v : Int32) (C : Cx p s m meth c Z own nm bytes maxL ret) (X : St p l e R s m A below meth c Z T h cells slots) (d : Dc bytes pc (.iinc k i) 3 pc') (hv : Int32.ofInt i = v) (hl : Ls[k]? = some (.val (.int x))) (hl' : storeLocals Ls k (.int (x + v)) = some l') (K : Goes p e below W T (mkF m pc' l' st)) : Goes p e below W T (mkF m pc Ls st) := by
  obtain ⟨d, rfl⟩ := d
  exact Goes.via (fun _ k => XT.iincV X.here C.hx rfl v (hb C.hby d) hv hl hl' k) K
theorem g_aconst_null  (C : Cx p s m meth c Z own nm bytes maxL ret) (X : St p l e R s m A below meth c Z T h cells slots) (d : Dc bytes pc (.aconst_null) 1 pc')  (K : Goes p e below W T (mkF m pc' Ls (.null :: st))) : Goes p e below W T (mkF m pc Ls st) := by
  obtain ⟨d, rfl⟩ := d
  exact Goes.via (fun _ k => XS.aconstNull X.here C.hx rfl (hb C.hby d)  k) K
theorem g_iadd {x y : Int32} (C : Cx p s m meth c Z own nm bytes maxL ret) (X : St p l e R s m A below meth c Z T h cells slots) (d : Dc bytes pc (.iadd) 1 pc')  (K : Goes p e below W T (mkF m pc' Ls (.int (x + y) :: st))) : Goes p e below W T (mkF m pc Ls (.int y :: .int x :: st)) := by
  obtain ⟨d, rfl⟩ := d
  exact Goes.via (fun _ k => XS.iadd X.here C.hx rfl (hb C.hby d) rfl k) K
theorem g_ladd {x y : Int64} (C : Cx p s m meth c Z own nm bytes maxL ret) (X : St p l e R s m A below meth c Z T h cells slots) (d : Dc bytes pc (.ladd) 1 pc')  (K : Goes p e below W T (mkF m pc' Ls (.long (x + y) :: st))) : Goes p e below W T (mkF m pc Ls (.long y :: .long x :: st)) := by
  obtain ⟨d, rfl⟩ := d
  exact Goes.via (fun _ k => XT.ladd X.here C.hx rfl (hb C.hby d) rfl k) K
theorem g_isub {x y : Int32} (C : Cx p s m meth c Z own nm bytes maxL ret) (X : St p l e R s m A below meth c Z T h cells slots) (d : Dc bytes pc (.isub) 1 pc')  (K : Goes p e below W T (mkF m pc' Ls (.int (x - y) :: st))) : Goes p e below W T (mkF m pc Ls (.int y :: .int x :: st)) := by
  obtain ⟨d, rfl⟩ := d
  exact Goes.via (fun _ k => XS.isub X.here C.hx rfl (hb C.hby d) rfl k) K
theorem g_lsub {x y : Int64} (C : Cx p s m meth c Z own nm bytes maxL ret) (X : St p l e R s m A below meth c Z T h cells slots) (d : Dc bytes pc (.lsub) 1 pc')  (K : Goes p e below W T (mkF m pc' Ls (.long (x - y) :: st))) : Goes p e below W T (mkF m pc Ls (.long y :: .long x :: st)) := by
  obtain ⟨d, rfl⟩ := d
  exact Goes.via (fun _ k => XT.lsub X.here C.hx rfl (hb C.hby d) rfl k) K
theorem g_imul {x y : Int32} (C : Cx p s m meth c Z own nm bytes maxL ret) (X : St p l e R s m A below meth c Z T h cells slots) (d : Dc bytes pc (.imul) 1 pc')  (K : Goes p e below W T (mkF m pc' Ls (.int (x * y) :: st))) : Goes p e below W T (mkF m pc Ls (.int y :: .int x :: st)) := by
  obtain ⟨d, rfl⟩ := d
  exact Goes.via (fun _ k => XS.imul X.here C.hx rfl (hb C.hby d) rfl k) K
theorem g_lmul {x y : Int64} (C : Cx p s m meth c Z own nm bytes maxL ret) (X : St p l e R s m A below meth c Z T h cells slots) (d : Dc bytes pc (.lmul) 1 pc')  (K : Goes p e below W T (mkF m pc' Ls (.long (x * y) :: st))) : Goes p e below W T (mkF m pc Ls (.long y :: .long x :: st)) := by
  obtain ⟨d, rfl⟩ := d
  exact Goes.via (fun _ k => XT.lmul X.here C.hx rfl (hb C.hby d) rfl k) K
theorem g_iand {x y : Int32} (C : Cx p s m meth c Z own nm bytes maxL ret) (X : St p l e R s m A below meth c Z T h cells slots) (d : Dc bytes pc (.iand) 1 pc')  (K : Goes p e below W T (mkF m pc' Ls (.int (x &&& y) :: st))) : Goes p e below W T (mkF m pc Ls (.int y :: .int x :: st)) := by
  obtain ⟨d, rfl⟩ := d
  exact Goes.via (fun _ k => XS.iand X.here C.hx rfl (hb C.hby d) rfl k) K
theorem g_land {x y : Int64} (C : Cx p s m meth c Z own nm bytes maxL ret) (X : St p l e R s m A below meth c Z T h cells slots) (d : Dc bytes pc (.land) 1 pc')  (K : Goes p e below W T (mkF m pc' Ls (.long (x &&& y) :: st))) : Goes p e below W T (mkF m pc Ls (.long y :: .long x :: st)) := by
  obtain ⟨d, rfl⟩ := d
  exact Goes.via (fun _ k => XT.land X.here C.hx rfl (hb C.hby d) rfl k) K
theorem g_ior {x y : Int32} (C : Cx p s m meth c Z own nm bytes maxL ret) (X : St p l e R s m A below meth c Z T h cells slots) (d : Dc bytes pc (.ior) 1 pc')  (K : Goes p e below W T (mkF m pc' Ls (.int (x ||| y) :: st))) : Goes p e below W T (mkF m pc Ls (.int y :: .int x :: st)) := by
  obtain ⟨d, rfl⟩ := d
  exact Goes.via (fun _ k => XT.ior X.here C.hx rfl (hb C.hby d) rfl k) K
theorem g_lor {x y : Int64} (C : Cx p s m meth c Z own nm bytes maxL ret) (X : St p l e R s m A below meth c Z T h cells slots) (d : Dc bytes pc (.lor) 1 pc')  (K : Goes p e below W T (mkF m pc' Ls (.long (x ||| y) :: st))) : Goes p e below W T (mkF m pc Ls (.long y :: .long x :: st)) := by
  obtain ⟨d, rfl⟩ := d
  exact Goes.via (fun _ k => XT.lor X.here C.hx rfl (hb C.hby d) rfl k) K
theorem g_ixor {x y : Int32} (C : Cx p s m meth c Z own nm bytes maxL ret) (X : St p l e R s m A below meth c Z T h cells slots) (d : Dc bytes pc (.ixor) 1 pc')  (K : Goes p e below W T (mkF m pc' Ls (.int (x ^^^ y) :: st))) : Goes p e below W T (mkF m pc Ls (.int y :: .int x :: st)) := by
  obtain ⟨d, rfl⟩ := d
  exact Goes.via (fun _ k => XT.ixor X.here C.hx rfl (hb C.hby d) rfl k) K
theorem g_lxor {x y : Int64} (C : Cx p s m meth c Z own nm bytes maxL ret) (X : St p l e R s m A below meth c Z T h cells slots) (d : Dc bytes pc (.lxor) 1 pc')  (K : Goes p e below W T (mkF m pc' Ls (.long (x ^^^ y) :: st))) : Goes p e below W T (mkF m pc Ls (.long y :: .long x :: st)) := by
  obtain ⟨d, rfl⟩ := d
  exact Goes.via (fun _ k => XT.lxor X.here C.hx rfl (hb C.hby d) rfl k) K
theorem g_idiv {x y : Int32} (C : Cx p s m meth c Z own nm bytes maxL ret) (X : St p l e R s m A below meth c Z T h cells slots) (d : Dc bytes pc (.idiv) 1 pc') (hy : y ≠ 0) (K : Goes p e below W T (mkF m pc' Ls (.int (x / y) :: st))) : Goes p e below W T (mkF m pc Ls (.int y :: .int x :: st)) := by
  obtain ⟨d, rfl⟩ := d
  exact Goes.via (fun _ k => XS.idiv X.here C.hx rfl (hb C.hby d) rfl hy k) K
theorem g_ldiv {x y : Int64} (C : Cx p s m meth c Z own nm bytes maxL ret) (X : St p l e R s m A below meth c Z T h cells slots) (d : Dc bytes pc (.ldiv) 1 pc') (hy : y ≠ 0) (K : Goes p e below W T (mkF m pc' Ls (.long (x / y) :: st))) : Goes p e below W T (mkF m pc Ls (.long y :: .long x :: st)) := by
  obtain ⟨d, rfl⟩ := d
  exact Goes.via (fun _ k => XT.ldiv X.here C.hx rfl (hb C.hby d) rfl hy k) K
theorem g_ineg {x : Int32} (C : Cx p s m meth c Z own nm bytes maxL ret) (X : St p l e R s m A below meth c Z T h cells slots) (d : Dc bytes pc (.ineg) 1 pc')  (K : Goes p e below W T (mkF m pc' Ls (.int (-x) :: st))) : Goes p e below W T (mkF m pc Ls (.int x :: st)) := by
  obtain ⟨d, rfl⟩ := d
  exact Goes.via (fun _ k => XS.ineg X.here C.hx rfl (hb C.hby d) rfl k) K
theorem g_lneg {x : Int64} (C : Cx p s m meth c Z own nm bytes maxL ret) (X : St p l e R s m A below meth c Z T h cells slots) (d : Dc bytes pc (.lneg) 1 pc')  (K : Goes p e below W T (mkF m pc' Ls (.long (-x) :: st))) : Goes p e below W T (mkF m pc Ls (.long x :: st)) := by
  obtain ⟨d, rfl⟩ := d
  exact Goes.via (fun _ k => XT.lneg X.here C.hx rfl (hb C.hby d) rfl k) K
theorem g_ishl {x y : Int32} (C : Cx p s m meth c Z own nm bytes maxL ret) (X : St p l e R s m A below meth c Z T h cells slots) (d : Dc bytes pc (.ishl) 1 pc')  (K : Goes p e below W T (mkF m pc' Ls (.int (x <<< (y &&& 31)) :: st))) : Goes p e below W T (mkF m pc Ls (.int y :: .int x :: st)) := by
  obtain ⟨d, rfl⟩ := d
  exact Goes.via (fun _ k => XT.ishl X.here C.hx rfl (hb C.hby d) rfl k) K
theorem g_ishr {x y : Int32} (C : Cx p s m meth c Z own nm bytes maxL ret) (X : St p l e R s m A below meth c Z T h cells slots) (d : Dc bytes pc (.ishr) 1 pc')  (K : Goes p e below W T (mkF m pc' Ls (.int (x >>> (y &&& 31)) :: st))) : Goes p e below W T (mkF m pc Ls (.int y :: .int x :: st)) := by
  obtain ⟨d, rfl⟩ := d
  exact Goes.via (fun _ k => XT.ishr X.here C.hx rfl (hb C.hby d) rfl k) K
theorem g_iushr {x y : Int32} (C : Cx p s m meth c Z own nm bytes maxL ret) (X : St p l e R s m A below meth c Z T h cells slots) (d : Dc bytes pc (.iushr) 1 pc')  (K : Goes p e below W T (mkF m pc' Ls (.int ((x.toUInt32 >>> (y &&& 31).toUInt32).toInt32) :: st))) : Goes p e below W T (mkF m pc Ls (.int y :: .int x :: st)) := by
  obtain ⟨d, rfl⟩ := d
  exact Goes.via (fun _ k => XT.iushr X.here C.hx rfl (hb C.hby d) rfl k) K
theorem g_lshl {x : Int64} {y : Int32} (C : Cx p s m meth c Z own nm bytes maxL ret) (X : St p l e R s m A below meth c Z T h cells slots) (d : Dc bytes pc (.lshl) 1 pc')  (K : Goes p e below W T (mkF m pc' Ls (.long (x <<< (y &&& 0x3f).toInt64) :: st))) : Goes p e below W T (mkF m pc Ls (.int y :: .long x :: st)) := by
  obtain ⟨d, rfl⟩ := d
  exact Goes.via (fun _ k => XS.lshl X.here C.hx rfl (hb C.hby d) rfl k) K
theorem g_lshr {x : Int64} {y : Int32} (C : Cx p s m meth c Z own nm bytes maxL ret) (X : St p l e R s m A below meth c Z T h cells slots) (d : Dc bytes pc (.lshr) 1 pc')  (K : Goes p e below W T (mkF m pc' Ls (.long (x >>> (y &&& 0x3f).toInt64) :: st))) : Goes p e below W T (mkF m pc Ls (.int y :: .long x :: st)) := by
  obtain ⟨d, rfl⟩ := d
  exact Goes.via (fun _ k => XS.lshr X.here C.hx rfl (hb C.hby d) rfl k) K
theorem g_lushr {x : Int64} {y : Int32} (C : Cx p s m meth c Z own nm bytes maxL ret) (X : St p l e R s m A below meth c Z T h cells slots) (d : Dc bytes pc (.lushr) 1 pc')  (K : Goes p e below W T (mkF m pc' Ls (.long ((x.toUInt64 >>> (y &&& 0x3f).toInt64.toUInt64).toInt64) :: st))) : Goes p e below W T (mkF m pc Ls (.int y :: .long x :: st)) := by
  obtain ⟨d, rfl⟩ := d
  exact Goes.via (fun _ k => XS.lushr X.here C.hx rfl (hb C.hby d) rfl k) K
theorem g_i2l {x : Int32} (C : Cx p s m meth c Z own nm bytes maxL ret) (X : St p l e R s m A below meth c Z T h cells slots) (d : Dc bytes pc (.i2l) 1 pc')  (K : Goes p e below W T (mkF m pc' Ls (.long x.toInt64 :: st))) : Goes p e below W T (mkF m pc Ls (.int x :: st)) := by
  obtain ⟨d, rfl⟩ := d
  exact Goes.via (fun _ k => XT.i2l X.here C.hx rfl (hb C.hby d) rfl k) K
theorem g_l2i {x : Int64} (C : Cx p s m meth c Z own nm bytes maxL ret) (X : St p l e R s m A below meth c Z T h cells slots) (d : Dc bytes pc (.l2i) 1 pc')  (K : Goes p e below W T (mkF m pc' Ls (.int x.toInt32 :: st))) : Goes p e below W T (mkF m pc Ls (.long x :: st)) := by
  obtain ⟨d, rfl⟩ := d
  exact Goes.via (fun _ k => XT.l2i X.here C.hx rfl (hb C.hby d) rfl k) K
theorem g_i2b {x : Int32} (C : Cx p s m meth c Z own nm bytes maxL ret) (X : St p l e R s m A below meth c Z T h cells slots) (d : Dc bytes pc (.i2b) 1 pc')  (K : Goes p e below W T (mkF m pc' Ls (.int x.toInt8.toInt32 :: st))) : Goes p e below W T (mkF m pc Ls (.int x :: st)) := by
  obtain ⟨d, rfl⟩ := d
  exact Goes.via (fun _ k => XT.i2b X.here C.hx rfl (hb C.hby d) rfl k) K
theorem g_i2s {x : Int32} (C : Cx p s m meth c Z own nm bytes maxL ret) (X : St p l e R s m A below meth c Z T h cells slots) (d : Dc bytes pc (.i2s) 1 pc')  (K : Goes p e below W T (mkF m pc' Ls (.int x.toInt16.toInt32 :: st))) : Goes p e below W T (mkF m pc Ls (.int x :: st)) := by
  obtain ⟨d, rfl⟩ := d
  exact Goes.via (fun _ k => XT.i2s X.here C.hx rfl (hb C.hby d) rfl k) K
theorem g_i2c {x : Int32} (C : Cx p s m meth c Z own nm bytes maxL ret) (X : St p l e R s m A below meth c Z T h cells slots) (d : Dc bytes pc (.i2c) 1 pc')  (K : Goes p e below W T (mkF m pc' Ls (.int x.toUInt32.toUInt16.toUInt32.toInt32 :: st))) : Goes p e below W T (mkF m pc Ls (.int x :: st)) := by
  obtain ⟨d, rfl⟩ := d
  exact Goes.via (fun _ k => XT.i2c X.here C.hx rfl (hb C.hby d) rfl k) K
theorem g_lcmp {x y : Int64} (C : Cx p s m meth c Z own nm bytes maxL ret) (X : St p l e R s m A below meth c Z T h cells slots) (d : Dc bytes pc (.lcmp) 1 pc')  (K : Goes p e below W T (mkF m pc' Ls (.int (lcmpW x y) :: st))) : Goes p e below W T (mkF m pc Ls (.long y :: .long x :: st)) := by
  obtain ⟨d, rfl⟩ := d
  exact Goes.via (fun _ k => XT.lcmp X.here C.hx rfl (hb C.hby d) rfl k) K
theorem g_pop {x : Value} (C : Cx p s m meth c Z own nm bytes maxL ret) (X : St p l e R s m A below meth c Z T h cells slots) (d : Dc bytes pc (.pop) 1 pc') (hc : x.category = 1) (K : Goes p e below W T (mkF m pc' Ls st)) : Goes p e below W T (mkF m pc Ls (x :: st)) := by
  obtain ⟨d, rfl⟩ := d
  exact Goes.via (fun _ k => XT.pop X.here C.hx rfl (hb C.hby d) rfl hc k) K
theorem g_dup {x : Value} (C : Cx p s m meth c Z own nm bytes maxL ret) (X : St p l e R s m A below meth c Z T h cells slots) (d : Dc bytes pc (.dup) 1 pc') (hc : x.category = 1) (K : Goes p e below W T (mkF m pc' Ls (x :: x :: st))) : Goes p e below W T (mkF m pc Ls (x :: st)) := by
  obtain ⟨d, rfl⟩ := d
  exact Goes.via (fun _ k => XS.dup X.here C.hx rfl (hb C.hby d) rfl hc k) K
theorem g_dup_x1 {x y : Value} (C : Cx p s m meth c Z own nm bytes maxL ret) (X : St p l e R s m A below meth c Z T h cells slots) (d : Dc bytes pc (.dup_x1) 1 pc') (hc : x.category = 1) (hc' : y.category = 1) (K : Goes p e below W T (mkF m pc' Ls (x :: y :: x :: st))) : Goes p e below W T (mkF m pc Ls (x :: y :: st)) := by
  obtain ⟨d, rfl⟩ := d
  exact Goes.via (fun _ k => XT.dupX1 X.here C.hx rfl (hb C.hby d) rfl hc hc' k) K
theorem g_dup2 {x y : Value} (C : Cx p s m meth c Z own nm bytes maxL ret) (X : St p l e R s m A below meth c Z T h cells slots) (d : Dc bytes pc (.dup2) 1 pc') (hc : x.category = 1) (hc' : y.category = 1) (K : Goes p e below W T (mkF m pc' Ls (x :: y :: x :: y :: st))) : Goes p e below W T (mkF m pc Ls (x :: y :: st)) := by
  obtain ⟨d, rfl⟩ := d
  exact Goes.via (fun _ k => XT.dup2 X.here C.hx rfl (hb C.hby d) rfl hc hc' k) K
theorem g_dup2L {x : Int64} (C : Cx p s m meth c Z own nm bytes maxL ret) (X : St p l e R s m A below meth c Z T h cells slots) (d : Dc bytes pc (.dup2) 1 pc')  (K : Goes p e below W T (mkF m pc' Ls (.long x :: .long x :: st))) : Goes p e below W T (mkF m pc Ls (.long x :: st)) := by
  obtain ⟨d, rfl⟩ := d
  exact Goes.via (fun _ k => XT.dup2L X.here C.hx rfl (hb C.hby d) rfl k) K
theorem g_irem {x y : Int32} (C : Cx p s m meth c Z own nm bytes maxL ret) (X : St p l e R s m A below meth c Z T h cells slots) (d : Dc bytes pc .irem 1 pc') (hy : y ≠ 0) (K : Goes p e below W T (mkF m pc' Ls (.int (x % y) :: st))) : Goes p e below W T (mkF m pc Ls (.int y :: .int x :: st)) := by
  obtain ⟨d, rfl⟩ := d
  obtain ⟨_, Y, _⟩ := X
  exact Goes.via (fun _ k => iremM Y C.hx rfl (hb C.hby d) rfl hy k) K
theorem g_lrem {x y : Int64} (C : Cx p s m meth c Z own nm bytes maxL ret) (X : St p l e R s m A below meth c Z T h cells slots) (d : Dc bytes pc .lrem 1 pc') (hy : y ≠ 0) (K : Goes p e below W T (mkF m pc' Ls (.long (x % y) :: st))) : Goes p e below W T (mkF m pc Ls (.long y :: .long x :: st)) := by
  obtain ⟨d, rfl⟩ := d
  rw [← lrem_mod] at K
  exact Goes.via (fun _ k => XT.lrem X.here C.hx rfl (hb C.hby d) rfl hy k) K
theorem g_ldcI {index : Nat} {v : Int32} (C : Cx p s m meth c Z own nm bytes maxL ret) (X : St p l e R s m A below meth c Z T h cells slots) (w : (Jvm.Cond.constant own index v).before a0 Z = true) (d : Dc bytes pc (.ldc index) 2 pc') (K : Goes p e below W T (mkF m pc' Ls (.int v :: st))) : Goes p e below W T (mkF m pc Ls st) := by
  obtain ⟨d, rfl⟩ := d
  obtain ⟨_, Y, _⟩ := X
  exact Goes.via (fun t k => Y.ldcInt C.hx C.hown (mvT C.hZ w) (g := mkF m pc Ls st) rfl (hb C.hby d) t k) K
theorem g_ldcwI {index : Nat} {v : Int32} (C : Cx p s m meth c Z own nm bytes maxL ret) (X : St p l e R s m A below meth c Z T h cells slots) (w : (Jvm.Cond.constant own index v).before a0 Z = true) (d : Dc bytes pc (.ldc_w index) 3 pc') (K : Goes p e below W T (mkF m pc' Ls (.int v :: st))) : Goes p e below W T (mkF m pc Ls st) := by
  obtain ⟨d, rfl⟩ := d
  obtain ⟨_, Y, _⟩ := X
  exact Goes.via (fun t k => Y.ldcWI C.hx C.hown (mvT C.hZ w) (g := mkF m pc Ls st) rfl (hb C.hby d) k) K
theorem g_ldcJ {index : Nat} {v : Int64} (C : Cx p s m meth c Z own nm bytes maxL ret) (X : St p l e R s m A below meth c Z T h cells slots) (w : (Jvm.Cond.constantLong own index v).before a0 Z = true) (d : Dc bytes pc (.ldc2_w index) 3 pc') (K : Goes p e below W T (mkF m pc' Ls (.long v :: st))) : Goes p e below W T (mkF m pc Ls st) := by
  obtain ⟨d, rfl⟩ := d
  obtain ⟨_, Y, _⟩ := X
  exact Goes.via (fun t k => Y.ldc2Long C.hx C.hown (mvT C.hZ w) (g := mkF m pc Ls st) rfl (hb C.hby d) t k) K
theorem g_getstatic {R0 O n dd host : String} {index : Nat} {v : Value} (C : Cx p s m meth c Z own nm bytes maxL ret) (X : St p l e R s m A below meth c Z T h cells slots) (w : (Jvm.Cond.fieldLink own index R0 n dd).before a0 Z = true ∨ (Jvm.Cond.fieldLinkNest own index R0 n dd host).before a0 Z = true) (via : Via Z R0 O n dd) (F : Sta Z Z.heap O n dd v) (d : Dc bytes pc (.getstatic index) 3 pc')
    (K : ∀ T', St p l e R s m A below meth c Z T' h cells slots → Goes p e below W T' (mkF m pc' Ls (v :: st))) : Goes p e below W T (mkF m pc Ls st) := by
  obtain ⟨d, rfl⟩ := d
  obtain ⟨L, Y, eT, N, E⟩ := X
  obtain ⟨T', Y', e', q⟩ := getS2 Y C.hx C.hZ C.hown w via eT (F.ext E) (g := mkF m pc Ls st) rfl (hb C.hby d)
  exact Goes.via q (K T' ⟨L, Y', e', N, E⟩)
theorem g_getfield {R0 O n dd host : String} {index : Nat} {a : Addr} {v : Value} (C : Cx p s m meth c Z own nm bytes maxL ret) (X : St p l e R s m A below meth c Z T h cells slots) (w : (Jvm.Cond.fieldLink own index R0 n dd).before a0 Z = true ∨ (Jvm.Cond.fieldLinkNest own index R0 n dd host).before a0 Z = true) (via : Via Z R0 O n dd) (F : Fld Z h a O n dd v) (d : Dc bytes pc (.getfield index) 3 pc')
    (K : ∀ T', St p l e R s m A below meth c Z T' h cells slots → Goes p e below W T' (mkF m pc' Ls (v :: st))) : Goes p e below W T (mkF m pc Ls (.ref a :: st)) := by
  obtain ⟨d, rfl⟩ := d
  obtain ⟨L, Y, eT, N, E⟩ := X
  obtain ⟨T', Y', e', q⟩ := getF Y C.hx C.hZ C.hown w via eT F (g := mkF m pc Ls (.ref a :: st)) rfl rfl (hb C.hby d)
  exact Goes.via q (K T' ⟨L, Y', e', N, E⟩)
theorem ext_wr {h h' : Heap} {a : Addr} {sl : Nat} {v : Value} (E : Ext Z.heap h) (w : Wr h h' a sl v) (q : Z.heap.size ≤ a) : Ext Z.heap h' := (Old.wr (Z := Z) (n0 := Z.heap.size) (h := h) ⟨rfl, E⟩ w q).2
theorem ext_keep {h h' : Heap} {ws : List Addr} (E : Ext Z.heap h) (w : Keep h h' ws) (q : ∀ x ∈ ws, Z.heap.size ≤ x) : Ext Z.heap h' := (Old.keep (Z := Z) (n0 := Z.heap.size) (h := h) ⟨rfl, E⟩ w q).2
theorem ext_trans {h h' : Heap} (E : Ext Z.heap h) (E' : Ext h h') : Ext Z.heap h' := ⟨Nat.le_trans E.1 E'.1, fun x c q => E'.2 x c (E.2 x c q)⟩
theorem g_putfield {R0 O n dd host K0 : String} {index kk : Nat} {ty : FieldType} {a : Addr} {v old : Value} (C : Cx p s m meth c Z own nm bytes maxL ret) (X : St p l e R s m A below meth c Z T h cells slots) (w : (Jvm.Cond.fieldLink own index R0 n dd).before a0 Z = true ∨ (Jvm.Cond.fieldLinkNest own index R0 n dd host).before a0 Z = true) (via : Via Z R0 O n dd)
    (F : Fld Z h a O n dd old) (Ex : Exa Z h a K0) (L : (Jvm.Cond.lays K0 O n dd).before a0 Z = true ∨ ((Jvm.Cond.laysFinal K0 O n dd).before a0 Z = true ∧ own = O ∧ nm = "<init>")) (wi : (Jvm.Cond.instantiable K0 kk).before a0 Z = true) (hty : parseFieldDescriptor dd = some ty) (hn : narrow ty v = v) (hf : fits ty v = true) (hnew : Z.heap.size ≤ a) (d : Dc bytes pc (.putfield index) 3 pc')
    (K : ∀ T' h', St p l e R s m A below meth c Z T' h' cells slots → Wr h h' a (RoadKit.slotOf Z O n dd) v → Goes p e below W T' (mkF m pc' Ls st)) : Goes p e below W T (mkF m pc Ls (v :: .ref a :: st)) := by
  obtain ⟨d, rfl⟩ := d
  obtain ⟨L0, Y, eT, N, E⟩ := X
  obtain ⟨T', h', Y', e', W', q⟩ := putF Y C.hx C.hZ C.hown w via eT F Ex (L.imp id fun z => ⟨z.1, z.2.1, C.hnm.trans z.2.2⟩) wi hty hn hf (g := mkF m pc Ls (v :: .ref a :: st)) rfl rfl (hb C.hby d)
  exact Goes.via q (K T' h' ⟨_, Y', e', Fr.snoc Y' N hnew, ext_wr E W' hnew⟩ W')
theorem g_new {K0 : String} {index n : Nat} (C : Cx p s m meth c Z own nm bytes maxL ret) (X : St p l e R s m A below meth c Z T h cells slots) (w : (Jvm.Cond.classLink own index K0).before a0 Z = true) (wi : (Jvm.Cond.instantiable K0 n).before a0 Z = true) (wz : (Jvm.Cond.initialized K0).before a0 Z = true) (d : Dc bytes pc (.new index) 3 pc') (hc : cells + 1 ≤ R.cells) (hl : slots + n ≤ R.slots)
    (K : ∀ T' h' b, b = h.size → Z.heap.size ≤ b → St p l e R s m A below meth c Z T' h' (cells + 1) (slots + n) → Ext h h' → Exa Z h' b K0 → (∀ {O f dd : String} {ty : FieldType}, Laid Z a0 K0 O f dd → parseFieldDescriptor dd = some ty → Fld Z h' b O f dd (defaultValue ty)) → (∃ cell : Cell, h'[b]? = some cell ∧ cell.vm = .none ∧ cell.monitor = {}) → Goes p e below W T' (mkF m pc' Ls (.ref b :: st))) : Goes p e below W T (mkF m pc Ls st) := by
  obtain ⟨d, rfl⟩ := d
  obtain ⟨L0, Y, eT, N, E⟩ := X
  obtain ⟨T', h', Y', e', E', A', D', M', q⟩ := newO Y C.hx C.hZ C.hown w wi wz eT (g := mkF m pc Ls st) rfl (hb C.hby d) hc hl
  exact Goes.via q (K T' h' _ rfl E.1 ⟨_, Y', e', N, ext_trans E E'⟩ E' A' D' M')
theorem g_newarray {aty : ArrayType} {n : Int32} (C : Cx p s m meth c Z own nm bytes maxL ret) (X : St p l e R s m A below meth c Z T h cells slots) (w : (Jvm.Cond.arrayClass (newarray.typeOf aty)).before a0 Z = true) (d : Dc bytes pc (.newarray aty) 2 pc') (hn : ¬ n < 0) (len cap : Nat) (hcap : n.toNatClampNeg ≤ cap) (hb' : cap * 8 ≤ 536870912) (hc : cells + 1 ≤ R.cells) (hl : slots + cap ≤ R.slots)
    (K : ∀ T' h' b k, b = h.size → Z.heap.size ≤ b → St p l e R s m A below meth c Z T' h' (cells + 1) (slots + cap) → Ext h h' → Arv Z h' b k (newarray.typeOf aty) n (List.replicate len (defaultValue (newarray.typeOf aty))) (defaultValue (newarray.typeOf aty)) → Goes p e below W T' (mkF m pc' Ls (.ref b :: st))) : Goes p e below W T (mkF m pc Ls (.int n :: st)) := by
  obtain ⟨d, rfl⟩ := d
  obtain ⟨L0, Y, eT, N, E⟩ := X
  obtain ⟨T', h', k, Y', e', E', A', q⟩ := newP Y C.hx C.hZ w eT (g := mkF m pc Ls (.int n :: st)) rfl (hb C.hby d) rfl hn hcap hb' hc hl
  exact Goes.via q (K T' h' _ k rfl E.1 ⟨_, Y', e', N, ext_trans E E'⟩ E' ((Arv.new A' hn).pad (pad_rep [] _ len)))
theorem g_checkcast {K0 : String} {index : Nat} {a : Addr} (C : Cx p s m meth c Z own nm bytes maxL ret) (X : St p l e R s m A below meth c Z T h cells slots) (w : (Jvm.Cond.classLink own index K0).before a0 Z = true) (F : Ins Z h a K0 true) (d : Dc bytes pc (.checkcast index) 3 pc')
    (K : ∀ T', St p l e R s m A below meth c Z T' h cells slots → Goes p e below W T' (mkF m pc' Ls (.ref a :: st))) : Goes p e below W T (mkF m pc Ls (.ref a :: st)) := by
  obtain ⟨d, rfl⟩ := d
  obtain ⟨L, Y, eT, N, E⟩ := X
  obtain ⟨T', Y', e', q⟩ := castY Y C.hx C.hZ C.hown w eT F (g := mkF m pc Ls (.ref a :: st)) rfl rfl (hb C.hby d)
  exact Goes.via q (K T' ⟨L, Y', e', N, E⟩)
theorem g_checkcastN {index : Nat} (C : Cx p s m meth c Z own nm bytes maxL ret) (X : St p l e R s m A below meth c Z T h cells slots) (d : Dc bytes pc (.checkcast index) 3 pc') (K : Goes p e below W T (mkF m pc' Ls (.null :: st))) : Goes p e below W T (mkF m pc Ls (.null :: st)) := by
  obtain ⟨d, rfl⟩ := d
  obtain ⟨L, Y, eT, N, E⟩ := X
  exact Goes.via (Y.checkcastNull C.hx (g := mkF m pc Ls (.null :: st)) rfl rfl (hb C.hby d)) K
theorem g_instanceY {K0 : String} {index : Nat} {a : Addr} (C : Cx p s m meth c Z own nm bytes maxL ret) (X : St p l e R s m A below meth c Z T h cells slots) (w : (Jvm.Cond.classLink own index K0).before a0 Z = true) (F : Ins Z h a K0 true) (d : Dc bytes pc (.instanceof index) 3 pc')
    (K : ∀ T', St p l e R s m A below meth c Z T' h cells slots → Goes p e below W T' (mkF m pc' Ls (.int 1 :: st))) : Goes p e below W T (mkF m pc Ls (.ref a :: st)) := by
  obtain ⟨d, rfl⟩ := d
  obtain ⟨L, Y, eT, N, E⟩ := X
  obtain ⟨T', Y', e', q⟩ := instY Y C.hx C.hZ C.hown w eT F (g := mkF m pc Ls (.ref a :: st)) rfl rfl (hb C.hby d)
  exact Goes.via q (K T' ⟨L, Y', e', N, E⟩)
theorem g_instanceN {index : Nat} (C : Cx p s m meth c Z own nm bytes maxL ret) (X : St p l e R s m A below meth c Z T h cells slots) (d : Dc bytes pc (.instanceof index) 3 pc') (K : Goes p e below W T (mkF m pc' Ls (.int 0 :: st))) : Goes p e below W T (mkF m pc Ls (.null :: st)) := by
  obtain ⟨d, rfl⟩ := d
  obtain ⟨L, Y, eT, N, E⟩ := X
  exact Goes.via (Y.instanceofNull C.hx (g := mkF m pc Ls (.null :: st)) rfl rfl (hb C.hby d)) K
theorem keep_ext {h h' : Heap} (K : Keep h h' []) : Ext h h' := ⟨K.1, fun x c q => K.2.1 x c q nin0⟩
theorem ext_keep0 {h h' : Heap} (E : Ext h h') (ws : List Addr) : Keep h h' ws := (Keep.refl h ws).ext E
/-- a place of an array -/
theorem in_of {n j : Int32} {c : Cell} (S : c.slots.size = n.toNatClampNeg) (hj : ¬ j < 0) (hj' : j < n) : ¬ (j < 0 ∨ c.slots.size ≤ j.toNatClampNeg) := inb_of S ⟨hj, hj'⟩
theorem g_arraylength {a : Addr} {k : ClassId} {ty : FieldType} {n : Int32} {vs : List Value} {dv : Value} (C : Cx p s m meth c Z own nm bytes maxL ret) (X : St p l e R s m A below meth c Z T h cells slots) (F : Arv Z h a k ty n vs dv) (d : Dc bytes pc .arraylength 1 pc') (K : Goes p e below W T (mkF m pc' Ls (.int n :: st))) : Goes p e below W T (mkF m pc Ls (.ref a :: st)) := by
  obtain ⟨d, rfl⟩ := d
  obtain ⟨L0, Y, eT, N, E⟩ := X
  obtain ⟨cl, Ar, -, hS, hN, -, -⟩ := F
  rw [← len_of hS hN] at K
  exact Goes.via (Y.arraylength C.hx (by rw [eT]; exact Ar.1) (State.isArrayOf_alike C.hZ.alike Ar.2.1) (g := mkF m pc Ls (.ref a :: st)) rfl rfl (hb C.hby d)) K
theorem g_iaload {a : Addr} {k : ClassId} {n j : Int32} {vs : List Value} {dv : Value} {v : Int32} (C : Cx p s m meth c Z own nm bytes maxL ret) (X : St p l e R s m A below meth c Z T h cells slots) (F : Arv Z h a k .int n vs dv) (d : Dc bytes pc .iaload 1 pc') (hj : ¬ j < 0) (hj' : j < n) (hv : vs.getD j.toNatClampNeg dv = .int v) (K : Goes p e below W T (mkF m pc' Ls (.int v :: st))) : Goes p e below W T (mkF m pc Ls (.int j :: .ref a :: st)) := by
  obtain ⟨d, rfl⟩ := d
  obtain ⟨L0, Y, eT, N, E⟩ := X
  obtain ⟨cl, Ar, -, hS, hN, hH, -⟩ := F
  have hin := in_of hS hj hj'
  exact Goes.via (Y.iaload C.hx (j := j) (v := .int v) (by rw [eT]; exact Ar.1) (State.isArrayOf_alike C.hZ.alike Ar.2.1) Ar.2.2 hin (hH.at hin hv) (g := mkF m pc Ls (.int j :: .ref a :: st)) rfl rfl (hb C.hby d)) K
theorem g_caload {a : Addr} {k : ClassId} {n j : Int32} {vs : List Value} {dv : Value} {v : Int32} (C : Cx p s m meth c Z own nm bytes maxL ret) (X : St p l e R s m A below meth c Z T h cells slots) (F : Arv Z h a k .char n vs dv) (d : Dc bytes pc .caload 1 pc') (hj : ¬ j < 0) (hj' : j < n) (hv : vs.getD j.toNatClampNeg dv = .int v) (K : Goes p e below W T (mkF m pc' Ls (.int v :: st))) : Goes p e below W T (mkF m pc Ls (.int j :: .ref a :: st)) := by
  obtain ⟨d, rfl⟩ := d
  obtain ⟨L0, Y, eT, N, E⟩ := X
  obtain ⟨cl, Ar, -, hS, hN, hH, -⟩ := F
  have hin := in_of hS hj hj'
  exact Goes.via (Y.caload C.hx (j := j) (v := .int v) (by rw [eT]; exact Ar.1) (State.isArrayOf_alike C.hZ.alike Ar.2.1) Ar.2.2 hin (hH.at hin hv) (g := mkF m pc Ls (.int j :: .ref a :: st)) rfl rfl (hb C.hby d)) K
theorem g_saload {a : Addr} {k : ClassId} {n j : Int32} {vs : List Value} {dv : Value} {v : Int32} (C : Cx p s m meth c Z own nm bytes maxL ret) (X : St p l e R s m A below meth c Z T h cells slots) (F : Arv Z h a k .short n vs dv) (d : Dc bytes pc .saload 1 pc') (hj : ¬ j < 0) (hj' : j < n) (hv : vs.getD j.toNatClampNeg dv = .int v) (K : Goes p e below W T (mkF m pc' Ls (.int v :: st))) : Goes p e below W T (mkF m pc Ls (.int j :: .ref a :: st)) := by
  obtain ⟨d, rfl⟩ := d
  obtain ⟨L0, Y, eT, N, E⟩ := X
  obtain ⟨cl, Ar, -, hS, hN, hH, -⟩ := F
  have hin := in_of hS hj hj'
  exact Goes.via (Y.saload C.hx (j := j) (v := .int v) (by rw [eT]; exact Ar.1) (State.isArrayOf_alike C.hZ.alike Ar.2.1) Ar.2.2 hin (hH.at hin hv) (g := mkF m pc Ls (.int j :: .ref a :: st)) rfl rfl (hb C.hby d)) K
theorem g_baload {a : Addr} {k : ClassId} {n j : Int32} {vs : List Value} {dv : Value} {v : Int32} (C : Cx p s m meth c Z own nm bytes maxL ret) (X : St p l e R s m A below meth c Z T h cells slots) (F : Arv Z h a k .byte n vs dv) (d : Dc bytes pc .baload 1 pc') (hj : ¬ j < 0) (hj' : j < n) (hv : vs.getD j.toNatClampNeg dv = .int v) (K : Goes p e below W T (mkF m pc' Ls (.int v :: st))) : Goes p e below W T (mkF m pc Ls (.int j :: .ref a :: st)) := by
  obtain ⟨d, rfl⟩ := d
  obtain ⟨L0, Y, eT, N, E⟩ := X
  obtain ⟨cl, Ar, -, hS, hN, hH, -⟩ := F
  have hin := in_of hS hj hj'
  exact Goes.via (Y.baloadBytes C.hx (j := j) (v := .int v) (by rw [eT]; exact Ar.1) (State.isArrayOf_alike C.hZ.alike Ar.2.1) Ar.2.2 hin (hH.at hin hv) (g := mkF m pc Ls (.int j :: .ref a :: st)) rfl rfl (hb C.hby d)) K
theorem g_laload {a : Addr} {k : ClassId} {n j : Int32} {vs : List Value} {dv : Value} {v : Int64} (C : Cx p s m meth c Z own nm bytes maxL ret) (X : St p l e R s m A below meth c Z T h cells slots) (F : Arv Z h a k .long n vs dv) (d : Dc bytes pc .laload 1 pc') (hj : ¬ j < 0) (hj' : j < n) (hv : vs.getD j.toNatClampNeg dv = .long v) (K : Goes p e below W T (mkF m pc' Ls (.long v :: st))) : Goes p e below W T (mkF m pc Ls (.int j :: .ref a :: st)) := by
  obtain ⟨d, rfl⟩ := d
  obtain ⟨L0, Y, eT, N, E⟩ := X
  obtain ⟨cl, Ar, -, hS, hN, hH, -⟩ := F
  have hin := in_of hS hj hj'
  exact Goes.via (Y.laload C.hx (j := j) (v := .long v) (by rw [eT]; exact Ar.1) (State.isArrayOf_alike C.hZ.alike Ar.2.1) Ar.2.2 hin (hH.at hin hv) (g := mkF m pc Ls (.int j :: .ref a :: st)) rfl rfl (hb C.hby d)) K
theorem g_aaload {a : Addr} {k : ClassId} {ty : FieldType} {n j : Int32} {vs : List Value} {dv v : Value} (C : Cx p s m meth c Z own nm bytes maxL ret) (X : St p l e R s m A below meth c Z T h cells slots) (F : Arv Z h a k ty n vs dv) (hty : ty.isReference = true) (d : Dc bytes pc .aaload 1 pc') (hj : ¬ j < 0) (hj' : j < n) (hv : vs.getD j.toNatClampNeg dv = v) (K : Goes p e below W T (mkF m pc' Ls (v :: st))) : Goes p e below W T (mkF m pc Ls (.int j :: .ref a :: st)) := by
  obtain ⟨d, rfl⟩ := d
  obtain ⟨L0, Y, eT, N, E⟩ := X
  obtain ⟨cl, Ar, -, hS, hN, hH, -⟩ := F
  have hin := in_of hS hj hj'
  exact Goes.via (Y.aaload C.hx (j := j) (v := v) (by rw [eT]; exact Ar.1) (State.isArrayOf_alike C.hZ.alike Ar.2.1) hty Ar.2.2 hin (hH.at hin hv) (g := mkF m pc Ls (.int j :: .ref a :: st)) rfl rfl (hb C.hby d)) K
theorem g_iastore {a : Addr} {k : ClassId} {n j : Int32} {vs : List Value} {dv : Value} {x : Int32} (C : Cx p s m meth c Z own nm bytes maxL ret) (X : St p l e R s m A below meth c Z T h cells slots) (F : Arv Z h a k .int n vs dv) (hnew : Z.heap.size ≤ a) (d : Dc bytes pc .iastore 1 pc') (hj : ¬ j < 0) (hj' : j < n) (hi : j.toNatClampNeg < vs.length) (y : Value) (hy : .int x = y)
    (K : ∀ T' h', St p l e R s m A below meth c Z T' h' cells slots → Wr h h' a j.toNatClampNeg y → Arv Z h' a k .int n (vs.set j.toNatClampNeg y) dv → Goes p e below W T' (mkF m pc' Ls st)) : Goes p e below W T (mkF m pc Ls (.int x :: .int j :: .ref a :: st)) := by
  subst hy
  obtain ⟨d, rfl⟩ := d
  obtain ⟨L0, Y, eT, N, E⟩ := X
  obtain ⟨cl, Ar, q1, hS, hN, hH, hG⟩ := F
  have hin := in_of hS hj hj'
  obtain ⟨T', h', Y', e', W', q⟩ := stI Y C.hx C.hZ eT Ar hin (g := mkF m pc Ls (.int x :: .int j :: .ref a :: st)) rfl rfl (hb C.hby d)
  exact Goes.via q (K T' h' ⟨_, Y', e', Fr.snoc Y' N hnew, ext_wr E W' hnew⟩ W' (Arv.set Ar q1 hS hN hH hG rfl W' _ rfl hi))
theorem g_castore {a : Addr} {k : ClassId} {n j : Int32} {vs : List Value} {dv : Value} {x : Int32} (C : Cx p s m meth c Z own nm bytes maxL ret) (X : St p l e R s m A below meth c Z T h cells slots) (F : Arv Z h a k .char n vs dv) (hnew : Z.heap.size ≤ a) (d : Dc bytes pc .castore 1 pc') (hj : ¬ j < 0) (hj' : j < n) (hi : j.toNatClampNeg < vs.length) (y : Value) (hy : .int (nar .char x) = y)
    (K : ∀ T' h', St p l e R s m A below meth c Z T' h' cells slots → Wr h h' a j.toNatClampNeg y → Arv Z h' a k .char n (vs.set j.toNatClampNeg y) dv → Goes p e below W T' (mkF m pc' Ls st)) : Goes p e below W T (mkF m pc Ls (.int x :: .int j :: .ref a :: st)) := by
  subst hy
  obtain ⟨d, rfl⟩ := d
  obtain ⟨L0, Y, eT, N, E⟩ := X
  obtain ⟨cl, Ar, q1, hS, hN, hH, hG⟩ := F
  have hin := in_of hS hj hj'
  obtain ⟨T', h', Y', e', W', q⟩ := stC Y C.hx C.hZ eT Ar hin (g := mkF m pc Ls (.int x :: .int j :: .ref a :: st)) rfl rfl (hb C.hby d)
  exact Goes.via q (K T' h' ⟨_, Y', e', Fr.snoc Y' N hnew, ext_wr E W' hnew⟩ W' (Arv.set Ar q1 hS hN hH hG (fits_nar_char _) W' _ rfl hi))
theorem g_sastore {a : Addr} {k : ClassId} {n j : Int32} {vs : List Value} {dv : Value} {x : Int32} (C : Cx p s m meth c Z own nm bytes maxL ret) (X : St p l e R s m A below meth c Z T h cells slots) (F : Arv Z h a k .short n vs dv) (hnew : Z.heap.size ≤ a) (d : Dc bytes pc .sastore 1 pc') (hj : ¬ j < 0) (hj' : j < n) (hi : j.toNatClampNeg < vs.length) (y : Value) (hy : .int (nar .short x) = y)
    (K : ∀ T' h', St p l e R s m A below meth c Z T' h' cells slots → Wr h h' a j.toNatClampNeg y → Arv Z h' a k .short n (vs.set j.toNatClampNeg y) dv → Goes p e below W T' (mkF m pc' Ls st)) : Goes p e below W T (mkF m pc Ls (.int x :: .int j :: .ref a :: st)) := by
  subst hy
  obtain ⟨d, rfl⟩ := d
  obtain ⟨L0, Y, eT, N, E⟩ := X
  obtain ⟨cl, Ar, q1, hS, hN, hH, hG⟩ := F
  have hin := in_of hS hj hj'
  obtain ⟨T', h', Y', e', W', q⟩ := stS Y C.hx C.hZ eT Ar hin (g := mkF m pc Ls (.int x :: .int j :: .ref a :: st)) rfl rfl (hb C.hby d)
  exact Goes.via q (K T' h' ⟨_, Y', e', Fr.snoc Y' N hnew, ext_wr E W' hnew⟩ W' (Arv.set Ar q1 hS hN hH hG (fits_nar_short _) W' _ rfl hi))
theorem g_bastore {a : Addr} {k : ClassId} {n j : Int32} {vs : List Value} {dv : Value} {x : Int32} (C : Cx p s m meth c Z own nm bytes maxL ret) (X : St p l e R s m A below meth c Z T h cells slots) (F : Arv Z h a k .byte n vs dv) (hnew : Z.heap.size ≤ a) (d : Dc bytes pc .bastore 1 pc') (hj : ¬ j < 0) (hj' : j < n) (hi : j.toNatClampNeg < vs.length) (y : Value) (hy : .int (nar .byte x) = y)
    (K : ∀ T' h', St p l e R s m A below meth c Z T' h' cells slots → Wr h h' a j.toNatClampNeg y → Arv Z h' a k .byte n (vs.set j.toNatClampNeg y) dv → Goes p e below W T' (mkF m pc' Ls st)) : Goes p e below W T (mkF m pc Ls (.int x :: .int j :: .ref a :: st)) := by
  subst hy
  obtain ⟨d, rfl⟩ := d
  obtain ⟨L0, Y, eT, N, E⟩ := X
  obtain ⟨cl, Ar, q1, hS, hN, hH, hG⟩ := F
  have hin := in_of hS hj hj'
  obtain ⟨T', h', Y', e', W', q⟩ := stB Y C.hx C.hZ eT Ar hin (g := mkF m pc Ls (.int x :: .int j :: .ref a :: st)) rfl rfl (hb C.hby d)
  exact Goes.via q (K T' h' ⟨_, Y', e', Fr.snoc Y' N hnew, ext_wr E W' hnew⟩ W' (Arv.set Ar q1 hS hN hH hG (fits_nar_byte _) W' _ rfl hi))
theorem g_lastore {a : Addr} {k : ClassId} {n j : Int32} {vs : List Value} {dv : Value} {x : Int64} (C : Cx p s m meth c Z own nm bytes maxL ret) (X : St p l e R s m A below meth c Z T h cells slots) (F : Arv Z h a k .long n vs dv) (hnew : Z.heap.size ≤ a) (d : Dc bytes pc .lastore 1 pc') (hj : ¬ j < 0) (hj' : j < n) (hi : j.toNatClampNeg < vs.length) (y : Value) (hy : .long x = y)
    (K : ∀ T' h', St p l e R s m A below meth c Z T' h' cells slots → Wr h h' a j.toNatClampNeg y → Arv Z h' a k .long n (vs.set j.toNatClampNeg y) dv → Goes p e below W T' (mkF m pc' Ls st)) : Goes p e below W T (mkF m pc Ls (.long x :: .int j :: .ref a :: st)) := by
  subst hy
  obtain ⟨d, rfl⟩ := d
  obtain ⟨L0, Y, eT, N, E⟩ := X
  obtain ⟨cl, Ar, q1, hS, hN, hH, hG⟩ := F
  have hin := in_of hS hj hj'
  obtain ⟨T', h', Y', e', W', q⟩ := stJ Y C.hx C.hZ eT Ar hin (g := mkF m pc Ls (.long x :: .int j :: .ref a :: st)) rfl rfl (hb C.hby d)
  exact Goes.via q (K T' h' ⟨_, Y', e', Fr.snoc Y' N hnew, ext_wr E W' hnew⟩ W' (Arv.set Ar q1 hS hN hH hG rfl W' _ rfl hi))
theorem st_back {T' : State} {h' : Heap} {k n : Nat} {B : Pt} {locs L : List Loc} (Y' : Stand p l e R s m A below meth c B.U B.locs B.cells B.slots) (hB : B.locs = locs ++ L ∧ B.cells = cells + k ∧ B.slots = slots + n) (N : Fr Z.heap.size locs) (N' : Fr Z.heap.size L) (E : Ext Z.heap B.U.heap) : St p l e R s m A below meth c Z B.U B.U.heap (cells + k) (slots + n) := by
  obtain ⟨b1, b2, b3⟩ := hB
  rw [b1, b2, b3] at Y'
  exact ⟨_, Y', rfl, N.app N', E⟩
theorem g_arraycopy {index : Nat} {a b : Addr} {k k' : ClassId} {ty : FieldType} {z z' sp dp nn : Int32} {vs vd : List Value} {dv dd : Value} (C : Cx p s m meth c Z own nm bytes maxL ret) (X : St p l e R s m A below meth c Z T h cells slots)
    (w1 : (Jvm.Cond.methodLink own index Jvm.Stand.acN).before a0 Z = true) (w2 : (Jvm.Cond.native Jvm.Stand.acN).before a0 Z = true) (w3 : (Jvm.Cond.static Jvm.Stand.acN).before a0 Z = true) (w4 : (Jvm.Cond.initialized "java/lang/System").before a0 Z = true)
    (F : Arv Z h a k ty z vs dv) (G : Arv Z h b k' ty z' vd dd) (hty : refKind ty = false) (h1 : ¬ sp < 0) (h2 : ¬ dp < 0) (h3 : ¬ nn < 0) (h4 : sp.toNatClampNeg + nn.toNatClampNeg ≤ z.toNatClampNeg) (h5 : dp.toNatClampNeg + nn.toNatClampNeg ≤ z'.toNatClampNeg)
    (us : List Value) (hus : us = (List.range nn.toNatClampNeg).map fun i => vs.getD (sp.toNatClampNeg + i) dv) (hl : dp.toNatClampNeg + nn.toNatClampNeg ≤ vd.length) (hnew : Z.heap.size ≤ b) (hsz : Ls.size = maxL) (d : Dc bytes pc (.invokestatic index) 3 pc') (hf : 1 ≤ R.frames) (W' : Nat) (hW : (st.map fun v => v.category).sum ≤ W') (hlo : W' + (nativeFrameWords "java/lang/System" "arraycopy" 5 + 11) ≤ R.locals)
    (K : ∀ T' h', St p l e R s m A below meth c Z T' h' cells slots → Keep h h' [b] → Arv Z h' b k' ty z' (vd.take dp.toNatClampNeg ++ us ++ vd.drop (dp.toNatClampNeg + nn.toNatClampNeg)) dd → Goes p e below W T' (mkF m pc' Ls st)) : Goes p e below W T (mkF m pc Ls (.int nn :: .int dp :: .ref b :: .int sp :: .ref a :: st)) := by
  obtain ⟨d, rfl⟩ := d
  obtain ⟨L0, Y, eT, N, E⟩ := X
  obtain ⟨T', h', L', Y', e', N', K', A', q⟩ := cpA Y C.hx C.hZ C.hown w1 w2 w3 w4 eT F G (Or.inl ⟨rfl, hty⟩) h1 h2 h3 h4 h5 hus hl N hnew (g := mkF m pc Ls (.int nn :: .int dp :: .ref b :: .int sp :: .ref a :: st)) rfl (hsz.trans C.hml.symm) rfl (hb C.hby d) hf (W := W') (by show 2 * 0 + _ ≤ _; omega) hlo
  exact Goes.via q (K T' h' ⟨L', Y', e', N', ext_keep E K' (allS hnew all0)⟩ K' A')
/-- a Back that serves a call: what a contract pays -/
def Pay (l : Launch) (R : Room) (p : Program) (e : Env) (below : List Frame) (s : State) (A : Array Value) (y : MethodName) (len W k n : Nat) (Z : State) (as' : Array Value) (h : Heap) (Q : Option Value → Heap → Prop) : Prop :=
  Back l R p e below s A y len W (fun P a => a = as' ∧ P.U.heap = h ∧ P.cells + k ≤ R.cells ∧ P.slots + n ≤ R.slots)
    (fun P _ v B => ∃ L, (Fr Z.heap.size L ∧ Ext Z.heap B.U.heap ∧ Q v B.U.heap) ∧ B.locs = P.locs ++ L ∧ B.cells = P.cells + k ∧ B.slots = P.slots + n)
theorem pay_of {y : MethodName} {bytes' : ByteArray} {maxL' len W' : Nat} {ret' : Option FieldType} {rm : Room} {as' : Array Value} {Q : Option Value → Heap → Prop} (hM : Con l y bytes' maxL' ret' [] rm Z as' h Q) (hZ : Z.Warmed39 s.vm) (wc : (Jvm.Cond.code y bytes' maxL' ret').before a0 Z = true) (wz : (Jvm.Cond.initialized y.cls).before a0 Z = true) (hf : rm.frames + 1 ≤ R.frames) (hl : W' + (maxL' + 11) + rm.locals ≤ R.locals) :
    Pay l R p e below s A y len W' rm.cells rm.slots Z as' h Q := backOf (Q := fun v h' L => Fr Z.heap.size L ∧ Ext Z.heap h' ∧ Q v h') hM hZ wc wz hf hl
theorem g_static {index k n : Nat} {y : MethodName} {bytes' : ByteArray} {maxL' W' : Nat} {ret' : Option FieldType} {argsL : List Value} {Q : Option Value → Heap → Prop} {ps : List FieldType} {rt : Option FieldType} (C : Cx p s m meth c Z own nm bytes maxL ret) (X : St p l e R s m A below meth c Z T h cells slots)
    (w1 : (Jvm.Cond.methodLink own index y).before a0 Z = true) (w2 : (Jvm.Cond.static y).before a0 Z = true) (w3 : (Jvm.Cond.initialized y.cls).before a0 Z = true) (w4 : (Jvm.Cond.code y bytes' maxL' ret').before a0 Z = true) (hy : y.cls ≠ "java/lang/invoke/MethodHandle" ∧ y.cls ≠ "java/lang/invoke/VarHandle")
    (hK : Pay l R p e below s A y 3 W' k n Z argsL.toArray h Q) (pd : parseMethodDescriptor y.desc = some ⟨ps, rt⟩) (hlen : argsL.length = ps.length) (hsz : Ls.size = maxL) (stk : List Value) (hst : stk = argsL.reverse ++ st) (hW : (st.map fun v => v.category).sum ≤ W') (d : Dc bytes pc (.invokestatic index) 3 pc') (hc : cells + k ≤ R.cells) (hs : slots + n ≤ R.slots)
    (K : ∀ T' h' v, Q v h' → St p l e R s m A below meth c Z T' h' (cells + k) (slots + n) → Goes p e below W T' (mkF m pc' Ls (v.toList ++ st))) : Goes p e below W T (mkF m pc Ls stk) := by
  obtain ⟨d, rfl⟩ := d
  obtain ⟨L0, Y, eT, N, E⟩ := X
  obtain ⟨v, vm₁, B, -, Y', ⟨L, ⟨N', E', hQ⟩, hB⟩, q⟩ := Jvm.LawKit.callS Y C.hx C.hown (mvT C.hZ w1) (mvT C.hZ w2) (mvT C.hZ w3) (mvT C.hZ w4) hy hK (g := mkF m pc Ls stk) rfl (hsz.trans C.hml.symm) (argsL := argsL) (rest := st) (lenOf pd hlen) hst (by show 2 * 0 + _ ≤ _; omega) (hb C.hby d) (fun _ _ => ⟨rfl, eT, hc, hs⟩)
  exact Goes.via q (K _ _ v hQ (st_back (T' := T) (h' := h) Y' hB N N' E'))
theorem g_special {index k n : Nat} {y : MethodName} {bytes' : ByteArray} {maxL' W' : Nat} {argsL : List Value} {Q : Option Value → Heap → Prop} {ps : List FieldType} {rt : Option FieldType} {a : Addr} (C : Cx p s m meth c Z own nm bytes maxL ret) (X : St p l e R s m A below meth c Z T h cells slots) (hi : y.name = "<init>")
    (w1 : (Jvm.Cond.methodLink own index y).before a0 Z = true) (w2 : (Jvm.Cond.instanceMethod y).before a0 Z = true) (w4 : (Jvm.Cond.code y bytes' maxL' none).before a0 Z = true) (hy : y.cls ≠ "java/lang/invoke/MethodHandle" ∧ y.cls ≠ "java/lang/invoke/VarHandle")
    (hK : Pay l R p e below s A y 3 W' k n Z (.ref a :: argsL).toArray h Q) (pd : parseMethodDescriptor y.desc = some ⟨ps, rt⟩) (hlen : argsL.length = ps.length) (hsz : Ls.size = maxL) (stk : List Value) (hst : stk = argsL.reverse ++ .ref a :: st) (hW : (st.map fun v => v.category).sum ≤ W') (d : Dc bytes pc (.invokespecial index) 3 pc') (hc : cells + k ≤ R.cells) (hs : slots + n ≤ R.slots)
    (K : ∀ T' h' v, Q v h' → St p l e R s m A below meth c Z T' h' (cells + k) (slots + n) → Goes p e below W T' (mkF m pc' Ls (v.toList ++ st))) : Goes p e below W T (mkF m pc Ls stk) := by
  obtain ⟨d, rfl⟩ := d
  obtain ⟨L0, Y, eT, N, E⟩ := X
  obtain ⟨v, vm₁, B, -, Y', ⟨L, ⟨N', E', hQ⟩, hB⟩, q⟩ := Y.specialBack C.hx (y := y) hi C.hown (mvT C.hZ w1) (mvT C.hZ w2) (mvT C.hZ w4) hy hK (g := mkF m pc Ls stk) rfl (hsz.trans C.hml.symm) (Steps.refl _) (a := a) (argsL := argsL) (rest := st) (lenOf pd hlen) hst (by show 2 * 0 + _ ≤ _; omega) (hb C.hby d) (fun _ _ => ⟨rfl, eT, hc, hs⟩)
  exact Goes.via (fun _ k => q.trans k) (K _ _ v hQ (st_back (T' := T) (h' := h) Y' hB N N' E'))
theorem g_virtual {index k n : Nat} {y z : MethodName} {K0 : String} {W' : Nat} {argsL : List Value} {Q : Option Value → Heap → Prop} {ps : List FieldType} {rt : Option FieldType} {a : Addr} (C : Cx p s m meth c Z own nm bytes maxL ret) (X : St p l e R s m A below meth c Z T h cells slots)
    (w1 : (Jvm.Cond.methodLink own index y).before a0 Z = true) (w2 : (Jvm.Cond.declares y).before a0 Z = true) (nf : NotFace s y) (w3 : (Jvm.Cond.selects K0 y z).before a0 Z = true) (w4 : (Jvm.Cond.instanceMethod z).before a0 Z = true) (hy : y.cls ≠ "java/lang/invoke/MethodHandle" ∧ y.cls ≠ "java/lang/invoke/VarHandle") (Ex : Exa Z h a K0)
    (hK : Pay l R p e below s A z 3 W' k n Z (.ref a :: argsL).toArray h Q) (pd : parseMethodDescriptor y.desc = some ⟨ps, rt⟩) (hlen : argsL.length = ps.length) (hsz : Ls.size = maxL) (stk : List Value) (hst : stk = argsL.reverse ++ .ref a :: st) (hW : (st.map fun v => v.category).sum ≤ W') (d : Dc bytes pc (.invokevirtual index) 3 pc') (hc : cells + k ≤ R.cells) (hs : slots + n ≤ R.slots)
    (K : ∀ T' h' v, Q v h' → St p l e R s m A below meth c Z T' h' (cells + k) (slots + n) → Goes p e below W T' (mkF m pc' Ls (v.toList ++ st))) : Goes p e below W T (mkF m pc Ls stk) := by
  obtain ⟨d, rfl⟩ := d
  obtain ⟨L0, Y, eT, N, E⟩ := X
  obtain ⟨cq, kq, qa, qb, qc⟩ := isOf C.hZ eT Ex
  obtain ⟨v, vm₁, B, -, Y', ⟨L, ⟨N', E', hQ⟩, hB⟩, q⟩ := Y.virtualBack C.hx (y := y) (z := z) C.hown (mvT C.hZ w1) (mvT C.hZ w2) nf (mvT C.hZ w3) (mvT C.hZ w4) hy hK qa qc (g := mkF m pc Ls stk) rfl (hsz.trans C.hml.symm) (Steps.refl _) (argsL := argsL) (rest := st) (lenOf pd hlen) hst (by show 2 * 0 + _ ≤ _; omega) (hb C.hby d) (fun _ _ => ⟨rfl, eT, hc, hs⟩)
  exact Goes.via (fun _ k => q.trans k) (K _ _ v hQ (st_back (T' := T) (h' := h) Y' hB N N' E'))
theorem nf_of {K0 : String} {y z : MethodName} (C : Cx p s m meth c Z own nm bytes maxL ret) (w3 : (Jvm.Cond.selects K0 y z).before a0 Z = true) (e : K0 = y.cls) (e' : z = y) : NotFace s y := by
  subst e e'; exact notFace_of_selects (args := #[]) (mvT C.hZ w3)
theorem g_interface {index count k n : Nat} {y z : MethodName} {K0 : String} {W' : Nat} {argsL : List Value} {Q : Option Value → Heap → Prop} {ps : List FieldType} {rt : Option FieldType} {a : Addr} (C : Cx p s m meth c Z own nm bytes maxL ret) (X : St p l e R s m A below meth c Z T h cells slots)
    (w1 : (Jvm.Cond.methodLink own index y).before a0 Z = true) (w2 : (Jvm.Cond.declares y).before a0 Z = true) (w5 : (Jvm.Cond.interfaceMethod y.cls y.cls y.name y.desc).before A s = true) (w3 : (Jvm.Cond.selects K0 y z).before a0 Z = true) (w4 : (Jvm.Cond.instanceMethod z).before a0 Z = true) (w6 : (Jvm.Cond.publicMethod z).before a0 Z = true) (w7 : (Jvm.Cond.unhidden K0 y.name y.desc).before A s = true) (w8 : (Jvm.Cond.castable K0 y.cls).before a0 Z = true)
    (hy : y.cls ≠ "java/lang/invoke/MethodHandle" ∧ y.cls ≠ "java/lang/invoke/VarHandle") (Ex : Exa Z h a K0)
    (hK : Pay l R p e below s A z 5 W' k n Z (.ref a :: argsL).toArray h Q) (pd : parseMethodDescriptor y.desc = some ⟨ps, rt⟩) (hlen : argsL.length = ps.length) (hsz : Ls.size = maxL) (stk : List Value) (hst : stk = argsL.reverse ++ .ref a :: st) (hW : (st.map fun v => v.category).sum ≤ W') (d : Dc bytes pc (.invokeinterface index count) 5 pc') (hc : cells + k ≤ R.cells) (hs : slots + n ≤ R.slots)
    (K : ∀ T' h' v, Q v h' → St p l e R s m A below meth c Z T' h' (cells + k) (slots + n) → Goes p e below W T' (mkF m pc' Ls (v.toList ++ st))) : Goes p e below W T (mkF m pc Ls stk) := by
  obtain ⟨d, rfl⟩ := d
  obtain ⟨L0, Y, eT, N, E⟩ := X
  obtain ⟨cq, kq, qa, qb, qc⟩ := isOf C.hZ eT Ex
  obtain ⟨v, vm₁, B, -, Y', ⟨L, ⟨N', E', hQ⟩, hB⟩, q⟩ := Y.interfaceBack C.hx (xi := y) (y := z) C.hown (mvT C.hZ w1) (mvT C.hZ w2) w5 (mvT C.hZ w3) (mvT C.hZ w4) (mvT C.hZ w6) w7 (mvT C.hZ w8) hy hK qa qb qc (g := mkF m pc Ls stk) rfl (hsz.trans C.hml.symm) (Steps.refl _) (argsL := argsL) (rest := st) (lenOf pd hlen) hst (by show 2 * 0 + _ ≤ _; omega) (hb C.hby d) (fun _ _ => ⟨rfl, eT, hc, hs⟩)
  exact Goes.via (fun _ k => q.trans k) (K _ _ v hQ (st_back (T' := T) (h' := h) Y' hB N N' E'))
theorem g_staticP {index : Nat} {y : MethodName} {bytes' : ByteArray} {maxL' W' : Nat} {ret' : Option FieldType} {argsL : List Value} {v : Value} {ps : List FieldType} {rt : Option FieldType} (C : Cx p s m meth c Z own nm bytes maxL ret) (X : St p l e R s m A below meth c Z T h cells slots)
    (w1 : (Jvm.Cond.methodLink own index y).before a0 Z = true) (w2 : (Jvm.Cond.static y).before a0 Z = true) (w3 : (Jvm.Cond.initialized y.cls).before a0 Z = true) (w4 : (Jvm.Cond.code y bytes' maxL' ret').before a0 Z = true) (hy : y.cls ≠ "java/lang/invoke/MethodHandle" ∧ y.cls ≠ "java/lang/invoke/VarHandle")
    (hK : Pay l R p e below s A y 3 W' 0 0 Z argsL.toArray h (fun v' h' => v' = some v ∧ h' = h)) (pd : parseMethodDescriptor y.desc = some ⟨ps, rt⟩) (hlen : argsL.length = ps.length) (hsz : Ls.size = maxL) (stk : List Value) (hst : stk = argsL.reverse ++ st) (hW : (st.map fun v => v.category).sum ≤ W') (d : Dc bytes pc (.invokestatic index) 3 pc') (hc : cells ≤ R.cells) (hs : slots ≤ R.slots)
    (K : ∀ T', St p l e R s m A below meth c Z T' h cells slots → Goes p e below W T' (mkF m pc' Ls (v :: st))) : Goes p e below W T (mkF m pc Ls stk) :=
  g_static C X w1 w2 w3 w4 hy hK pd hlen hsz stk hst hW d hc hs fun T' h' v' hQ X' => by obtain ⟨rfl, rfl⟩ := hQ; exact K T' X'
theorem g_specialP {index : Nat} {y : MethodName} {bytes' : ByteArray} {maxL' W' : Nat} {argsL : List Value} {ps : List FieldType} {rt : Option FieldType} {a : Addr} (C : Cx p s m meth c Z own nm bytes maxL ret) (X : St p l e R s m A below meth c Z T h cells slots) (hi : y.name = "<init>")
    (w1 : (Jvm.Cond.methodLink own index y).before a0 Z = true) (w2 : (Jvm.Cond.instanceMethod y).before a0 Z = true) (w4 : (Jvm.Cond.code y bytes' maxL' none).before a0 Z = true) (hy : y.cls ≠ "java/lang/invoke/MethodHandle" ∧ y.cls ≠ "java/lang/invoke/VarHandle")
    (hK : Pay l R p e below s A y 3 W' 0 0 Z (.ref a :: argsL).toArray h (fun v' h' => v' = none ∧ h' = h)) (pd : parseMethodDescriptor y.desc = some ⟨ps, rt⟩) (hlen : argsL.length = ps.length) (hsz : Ls.size = maxL) (stk : List Value) (hst : stk = argsL.reverse ++ .ref a :: st) (hW : (st.map fun v => v.category).sum ≤ W') (d : Dc bytes pc (.invokespecial index) 3 pc') (hc : cells ≤ R.cells) (hs : slots ≤ R.slots)
    (K : ∀ T', St p l e R s m A below meth c Z T' h cells slots → Goes p e below W T' (mkF m pc' Ls st)) : Goes p e below W T (mkF m pc Ls stk) :=
  g_special C X hi w1 w2 w4 hy hK pd hlen hsz stk hst hW d hc hs fun T' h' v' hQ X' => by obtain ⟨rfl, rfl⟩ := hQ; exact K T' X'
theorem g_virtualP {index : Nat} {y z : MethodName} {K0 : String} {W' : Nat} {argsL : List Value} {v : Value} {ps : List FieldType} {rt : Option FieldType} {a : Addr} (C : Cx p s m meth c Z own nm bytes maxL ret) (X : St p l e R s m A below meth c Z T h cells slots)
    (w1 : (Jvm.Cond.methodLink own index y).before a0 Z = true) (w2 : (Jvm.Cond.declares y).before a0 Z = true) (nf : NotFace s y) (w3 : (Jvm.Cond.selects K0 y z).before a0 Z = true) (w4 : (Jvm.Cond.instanceMethod z).before a0 Z = true) (hy : y.cls ≠ "java/lang/invoke/MethodHandle" ∧ y.cls ≠ "java/lang/invoke/VarHandle") (Ex : Exa Z h a K0)
    (hK : Pay l R p e below s A z 3 W' 0 0 Z (.ref a :: argsL).toArray h (fun v' h' => v' = some v ∧ h' = h)) (pd : parseMethodDescriptor y.desc = some ⟨ps, rt⟩) (hlen : argsL.length = ps.length) (hsz : Ls.size = maxL) (stk : List Value) (hst : stk = argsL.reverse ++ .ref a :: st) (hW : (st.map fun v => v.category).sum ≤ W') (d : Dc bytes pc (.invokevirtual index) 3 pc') (hc : cells ≤ R.cells) (hs : slots ≤ R.slots)
    (K : ∀ T', St p l e R s m A below meth c Z T' h cells slots → Goes p e below W T' (mkF m pc' Ls (v :: st))) : Goes p e below W T (mkF m pc Ls stk) :=
  g_virtual C X w1 w2 nf w3 w4 hy Ex hK pd hlen hsz stk hst hW d hc hs fun T' h' v' hQ X' => by obtain ⟨rfl, rfl⟩ := hQ; exact K T' X'
theorem g_interfaceP {index count : Nat} {y z : MethodName} {K0 : String} {W' : Nat} {argsL : List Value} {v : Value} {ps : List FieldType} {rt : Option FieldType} {a : Addr} (C : Cx p s m meth c Z own nm bytes maxL ret) (X : St p l e R s m A below meth c Z T h cells slots)
    (w1 : (Jvm.Cond.methodLink own index y).before a0 Z = true) (w2 : (Jvm.Cond.declares y).before a0 Z = true) (w5 : (Jvm.Cond.interfaceMethod y.cls y.cls y.name y.desc).before A s = true) (w3 : (Jvm.Cond.selects K0 y z).before a0 Z = true) (w4 : (Jvm.Cond.instanceMethod z).before a0 Z = true) (w6 : (Jvm.Cond.publicMethod z).before a0 Z = true) (w7 : (Jvm.Cond.unhidden K0 y.name y.desc).before A s = true) (w8 : (Jvm.Cond.castable K0 y.cls).before a0 Z = true)
    (hy : y.cls ≠ "java/lang/invoke/MethodHandle" ∧ y.cls ≠ "java/lang/invoke/VarHandle") (Ex : Exa Z h a K0)
    (hK : Pay l R p e below s A z 5 W' 0 0 Z (.ref a :: argsL).toArray h (fun v' h' => v' = some v ∧ h' = h)) (pd : parseMethodDescriptor y.desc = some ⟨ps, rt⟩) (hlen : argsL.length = ps.length) (hsz : Ls.size = maxL) (stk : List Value) (hst : stk = argsL.reverse ++ .ref a :: st) (hW : (st.map fun v => v.category).sum ≤ W') (d : Dc bytes pc (.invokeinterface index count) 5 pc') (hc : cells ≤ R.cells) (hs : slots ≤ R.slots)
    (K : ∀ T', St p l e R s m A below meth c Z T' h cells slots → Goes p e below W T' (mkF m pc' Ls (v :: st))) : Goes p e below W T (mkF m pc Ls stk) :=
  g_interface C X w1 w2 w5 w3 w4 w6 w7 w8 hy Ex hK pd hlen hsz stk hst hW d hc hs fun T' h' v' hQ X' => by obtain ⟨rfl, rfl⟩ := hQ; exact K T' X'
theorem g_initO {index : Nat} {a : Addr} (C : Cx p s m meth c Z own nm bytes maxL ret) (X : St p l e R s m A below meth c Z T h cells slots) (w1 : (Jvm.Cond.methodLink own index Lib.objectInit).before a0 Z = true) (w2 : (Jvm.Cond.instanceMethod Lib.objectInit).before a0 Z = true) (w3 : (Jvm.Cond.code Lib.objectInit ⟨#[0xb1]⟩ 1 none).before a0 Z = true) (hsz : Ls.size = maxL) (d : Dc bytes pc (.invokespecial index) 3 pc') (hf : 1 ≤ R.frames) (W' : Nat) (hW : (st.map fun v => v.category).sum ≤ W') (hl : W' + 12 ≤ R.locals)
    (K : ∀ T', St p l e R s m A below meth c Z T' h cells slots → Goes p e below W T' (mkF m pc' Ls st)) : Goes p e below W T (mkF m pc Ls (.ref a :: st)) := by
  obtain ⟨d, rfl⟩ := d
  obtain ⟨L0, Y, eT, N, E⟩ := X
  obtain ⟨T', Y', e', q⟩ := initO Y C.hx C.hZ C.hown w1 w2 w3 eT (g := mkF m pc Ls (.ref a :: st)) rfl (hsz.trans C.hml.symm) rfl (hb C.hby d) hf (W := W') (by show 2 * 0 + _ ≤ _; omega) hl
  exact Goes.via q (K T' ⟨L0, Y', e', N, E⟩)
theorem end_of {k n : Nat} {Q : Option Value → Heap → Prop} {v : Option Value} {L : List Loc} {fs : List Frame} (N : Fr Z.heap.size L) (E : Ext Z.heap T.heap) (hW : s.WarmedH (T.setFrames fs).vm) (hS : s.sameButNew ({ T.setFrames fs with vm := s.vm } : State) L cells slots) (hc : cells ≤ k) (hs : slots ≤ n) (hQ : Q v T.heap) : EndW Z s k n Q (.returned v) (T.setFrames fs) :=
  ⟨v, L, rfl, ⟨N, E, hQ⟩, ⟨_, rfl⟩, hW, hS.mono hc hs⟩
theorem g_retI {k n : Nat} {Q : Option Value → Heap → Prop} {z : Int32} (C : Cx p s m meth c Z own nm bytes maxL (some .int)) (X : St p l e R s m A below meth c Z T h cells slots) (d : Dc bytes pc .ireturn 1 pc') (hc : cells ≤ k) (hs : slots ≤ n) (hQ : Q (some (.int z)) h) : Goes p e below (EndW Z s k n Q) T (mkF m pc Ls (.int z :: st)) := by
  obtain ⟨L0, Y, rfl, N, E⟩ := X
  have hlk := C.hlk
  obtain ⟨fs, hr, hrun, hended, hW, hS⟩ := Y.leave (v := some (.int z)) (fun h => by rw [C.hret] at h; cases h) hlk
  exact ⟨_, _, retOut Y C.hx C.hret rfl (Or.inl ⟨rfl, Or.inl rfl, z, rfl⟩) (hb C.hby d.1) hr, hrun, hended, end_of N E hW hS hc hs hQ⟩
theorem g_retN {k n : Nat} {Q : Option Value → Heap → Prop} {z : Int32} {t : FieldType} (C : Cx p s m meth c Z own nm bytes maxL (some t)) (X : St p l e R s m A below meth c Z T h cells slots) (ht : t = .boolean ∨ t = .byte ∨ t = .char ∨ t = .short) (d : Dc bytes pc .ireturn 1 pc') (z' : Int32) (hz : nar t z = z') (hc : cells ≤ k) (hs : slots ≤ n) (hQ : Q (some (.int z')) h) : Goes p e below (EndW Z s k n Q) T (mkF m pc Ls (.int z :: st)) := by
  obtain ⟨L0, Y, rfl, N, E⟩ := X
  have hlk := C.hlk
  obtain ⟨fs, hr, hrun, hended, hW, hS⟩ := Y.leave (v := some (.int z')) (fun h => by rw [C.hret] at h; cases h) hlk
  rw [← hz] at hr
  exact ⟨_, _, retN Y C.hx C.hret ht (hb C.hby d.1) hr, hrun, hended, end_of N E hW hS hc hs hQ⟩
theorem g_retJ {k n : Nat} {Q : Option Value → Heap → Prop} {z : Int64} (C : Cx p s m meth c Z own nm bytes maxL (some .long)) (X : St p l e R s m A below meth c Z T h cells slots) (d : Dc bytes pc .lreturn 1 pc') (hc : cells ≤ k) (hs : slots ≤ n) (hQ : Q (some (.long z)) h) : Goes p e below (EndW Z s k n Q) T (mkF m pc Ls (.long z :: st)) := by
  obtain ⟨L0, Y, rfl, N, E⟩ := X
  have hlk := C.hlk
  obtain ⟨fs, hr, hrun, hended, hW, hS⟩ := Y.leave (v := some (.long z)) (fun h => by rw [C.hret] at h; cases h) hlk
  exact ⟨_, _, retOut Y C.hx C.hret rfl (Or.inr (Or.inl ⟨rfl, rfl, z, rfl⟩)) (hb C.hby d.1) hr, hrun, hended, end_of N E hW hS hc hs hQ⟩
theorem g_retA {k n : Nat} {Q : Option Value → Heap → Prop} {z : Value} {t : FieldType} (C : Cx p s m meth c Z own nm bytes maxL (some t)) (X : St p l e R s m A below meth c Z T h cells slots) (ht : t.isReference = true) (hz : z.isRef = true) (d : Dc bytes pc .areturn 1 pc') (hc : cells ≤ k) (hs : slots ≤ n) (hQ : Q (some z) h) : Goes p e below (EndW Z s k n Q) T (mkF m pc Ls (z :: st)) := by
  obtain ⟨L0, Y, rfl, N, E⟩ := X
  have hlk := C.hlk
  have hn : narrow t z = z := by cases t <;> first | rfl | (simp [FieldType.isReference] at ht; done) | (cases z <;> simp [Value.isRef] at hz <;> rfl)
  obtain ⟨fs, hr, hrun, hended, hW, hS⟩ := Y.leave (v := some z) (fun h => by rw [C.hret] at h; cases h) hlk
  exact ⟨_, _, retOut Y C.hx C.hret hn (Or.inr (Or.inr (Or.inr (Or.inr ⟨rfl, ht, hz⟩)))) (hb C.hby d.1) hr, hrun, hended, end_of N E hW hS hc hs hQ⟩
theorem g_retV {k n : Nat} {Q : Option Value → Heap → Prop} (C : Cx p s m meth c Z own nm bytes maxL none) (X : St p l e R s m A below meth c Z T h cells slots) (d : Dc bytes pc .return_ 1 pc') (hc : cells ≤ k) (hs : slots ≤ n) (hQ : Q none h) : Goes p e below (EndW Z s k n Q) T (mkF m pc Ls []) := by
  obtain ⟨L0, Y, rfl, N, E⟩ := X
  have hlk := C.hlk
  obtain ⟨fs, hr, hrun, hended, hW, hS⟩ := Y.leave (v := none) (fun _ => rfl) hlk
  exact ⟨_, _, Y.returnOut C.hx C.hret (hb C.hby d.1) hr, hrun, hended, end_of N E hW hS hc hs hQ⟩
end OwnKit
/-! from the case's words -/
theorem wd {a0 : Array Value} {Z : State} (hw : ∀ d ∈ tables_1, d.before a0 Z = true) (i : Nat) {d : Jvm.Cond} (h : tables_1[i]? = some d) : d.before a0 Z = true := hw d (List.mem_of_getElem? h)
theorem eqI_v {args : Array Value} {first s : State} {o : Option Outcome} {idx : List Nat} {t : Term} {k : Int32} (h : (Jvm.Cond.eq t (.int k)).value args first o s idx = some true) : t.eval args first o idx s = some (.int k) := by
  simp only [Cond.value, Term.eval] at h
  cases ht : t.eval args first o idx s with
  | none => simp [ht] at h
  | some x => cases x <;> simp [ht] at h ⊢; exact h
theorem eqJ_v {args : Array Value} {first s : State} {o : Option Outcome} {idx : List Nat} {t : Term} {k : Int64} (h : (Jvm.Cond.eq t (.long k)).value args first o s idx = some true) : t.eval args first o idx s = some (.long k) := by
  simp only [Cond.value, Term.eval] at h
  cases ht : t.eval args first o idx s with
  | none => simp [ht] at h
  | some x => cases x <;> simp [ht] at h ⊢; exact h
theorem eqR_v {args : Array Value} {first s : State} {o : Option Outcome} {idx : List Nat} {t u : Term} {a : Addr} (h : (Jvm.Cond.eq t u).value args first o s idx = some true) (hu : u.eval args first o idx s = some (.ref a)) : t.eval args first o idx s = some (.ref a) := by
  simp only [Cond.value, hu] at h
  cases ht : t.eval args first o idx s with
  | none => simp [ht] at h
  | some x => cases x <;> simp [ht] at h ⊢; exact h
theorem arr_start {args : Array Value} {Z : State} {t : Term} {a : Addr} {cl : Cell} {ty : FieldType} {n : Int32} {vs : List Value} (dv : Value) (hf : Fit Z) (A : Arr Z Z.heap a cl ty) (ev : t.eval args Z none [] Z = some (.ref a)) (hl : (Term.length t).eval args Z none [] Z = some (.int n)) (hn : ¬ n < 0) (hv : n.toNatClampNeg = vs.length)
    (H : HasL cl 0 vs) : Arv Z Z.heap a cl.cls ty n vs dv := by
  obtain ⟨a', c', e1, e2, e4⟩ := Term.length_spec hl
  cases ev.symm.trans e1
  cases A.1.symm.trans (State.arrayAt?_spec e2).1
  have e3 : cl.slots.size < 2 ^ 31 := by
    by_cases q : cl.slots.size < 2147483648
    · exact q
    · exfalso; simp [Term.eval, ev, e2, q] at hl
  exact Arv.start hf A e3 (Value.int.inj e4.symm) hn hv H
theorem elem_start {args : Array Value} {Z : State} {t : Term} {a : Addr} {cl : Cell} {ty : FieldType} {j : Int32} {v : Value} (A : Arr Z Z.heap a cl ty) (ev : t.eval args Z none [] Z = some (.ref a)) (h : (Term.elem t (.int j)).eval args Z none [] Z = some v) : cl.slots[j.toNatClampNeg]? = some v := (elem_in h ev (Term.int_eval j) A.1).2
theorem own_ch (x : Int32) : Value.int (nar .char ((x &&& (255 : Int32)).toUInt32.toUInt16.toUInt32.toInt32)) = .int (x &&& (255 : Int32)) := by
  show Value.int (((x &&& (255 : Int32)).toUInt32.toUInt16.toUInt32.toInt32).toUInt32.toUInt16.toUInt32.toInt32) = _
  rw [i2c_mask, i2c_mask]
theorem nz_v {args : Array Value} {Z : State} {t : Term} {z : Int32} (ev : t.eval args Z none [] Z = some (.int z)) (h : (Jvm.Cond.not (.eq t (.int 0))).value args Z none Z [] = some true) : ¬ z = 0 := by
  intro e; subst e
  have q := not_v h
  simp [Cond.value, ev, Term.eval] at q
theorem fld_of {args : Array Value} {Z : State} {t : Term} {a : Addr} {C n d : String} {v : Value} (ht : t.eval args Z none [] Z = some (.ref a)) (h : (Term.field t C n d).eval args Z none [] Z = some v) : Fld Z Z.heap a C n d v := Fld.start (by rw [← fld_at (args := args) (first := Z) (o := none) (idx := []) ht]; exact h)
theorem own_m255 (x : Int32) : ¬ (x &&& (255 : Int32)) < 0 ∧ ¬ (255 : Int32) < (x &&& (255 : Int32)) := by
  have h1 := c_mask x 255 8 (by decide) (by decide)
  simp only [Int32.lt_iff_toInt_lt, Int32.reduceToInt] at *
  omega
/-- new String(char[]) of known chars, as a payment -/
theorem payV {p : Program} {l : Launch} {e : Env} {R : Room} {s : State} {A : Array Value} {below : List Frame} {W' : Nat} {Z : State} {a0 : Array Value} {h : Heap} (hZ : Z.Warmed39 s.vm) (hE : Ext Z.heap h) (hw : ∀ d ∈ StrChars.Road.words, d.before a0 Z = true) {kI : Nat} (wi : (Jvm.Cond.instantiable "java/lang/String" kI).before a0 Z = true)
    {x b : Addr} {kC : ClassId} {cs : List Int32} {d v0 c0 : Value} {z N : Int32} {n : Nat} (hx0 : Z.heap.size ≤ x) (E : Exa Z h x "java/lang/String") (V : Fld Z h x "java/lang/String" "value" "[B" v0) (C : Fld Z h x "java/lang/String" "coder" "B" c0) (K : Arv Z h b kC .char N (cs.map Value.int) d) (S : Sta Z Z.heap "java/lang/String" "COMPACT_STRINGS" "Z" (.int z)) (hz : ¬ z = 0)
    (hn : cs.length = n) (hN : N = Int32.ofNat n) (l0 : 0 < n) (l2 : n ≤ 4000) (hp : ∀ c ∈ cs, ¬ c < 0 ∧ ¬ (255 : Int32) < c) (hfr : 4 ≤ R.frames) (hlo : W' + 65 ≤ R.locals) :
    Pay l R p e below s A (⟨"java/lang/String", "<init>", "([C)V"⟩ : MethodName) 3 W' 1 n Z #[.ref x, .ref b] h (fun v h' => v = none ∧ Keep h h' [x] ∧ Exa Z h' x "java/lang/String" ∧ Fld Z h' x "java/lang/String" "coder" "B" (.int 0) ∧
      ∃ (t : Addr) (kb : ClassId), Z.heap.size ≤ t ∧ h.size ≤ t ∧ ¬ t = x ∧ Fld Z h' x "java/lang/String" "value" "[B" (.ref t) ∧ Arv Z h' t kb .byte N ((cs.map fun c => c.toInt8.toInt32).map Value.int) (.int 0)) :=
  Back.mono (StrChars.Road.backV (n0 := Z.heap.size) (W := W') hZ hw wi hx0 hE.1 E V C K (S.ext hE) hz hn hN l0 l2 hp rfl hfr hlo) (fun _ _ q => q)
    (fun P a v B hp hq => by
      obtain ⟨L, ⟨q1, q2, q3, q4, q5, q6⟩, r⟩ := hq
      exact ⟨L, ⟨q2, ext_keep hE q3 (allS hx0 all0), q1, q3, q4, q5, q6⟩, r⟩)

section OwnLit
variable {p : Program} {l : Launch} {e : Env} {R : Room} {s : State} {m : MethodId} {A : Array Value} {below : List Frame} {meth : Method} {c : Code} {T : State} {cells slots : Nat} {Z : State} {a0 : Array Value} {h : Heap} {own nm : String} {bytes : ByteArray} {maxL : Nat} {ret : Option FieldType} {W : Outcome → State → Prop} {pc pc' tgt : Nat} {Ls : Array Slot} {st : List Value} {EL : List (String × Nat)} {vm0 : Vm}
/-- what is known of the String constants: from the body's start s to the tables and the heap at hand -/
def Lits (Z : State) (EL : List (String × Nat)) (s : State) (vm0 : Vm) (h : Heap) : Prop := (∃ k0, s.Since vm0 k0 ∧ k0 ≤ h.size) ∧ CHr Z EL s.vm s.heap vm0 h
theorem Lits.keep {h' : Heap} {ws : List Addr} (I : Lits Z EL s vm0 h) (K : Keep h h' ws) (hs : ∀ x ∈ ws, Safe Z EL vm0 h x) : Lits Z EL s vm0 h' := by
  obtain ⟨⟨k0, a, b⟩, c⟩ := I
  exact ⟨⟨k0, a, Nat.le_trans b K.1⟩, c.trans (CHr.keep K hs c.1)⟩
theorem Lits.safe {h' : Heap} {ws : List Addr} {x : Addr} (I : Lits Z EL s vm0 h) (K : Keep h h' ws) (hs : ∀ x ∈ ws, Safe Z EL vm0 h x) (S : Safe Z EL vm0 h x) : Safe Z EL vm0 h' x := Safe.keep K hs I.2.1 S
theorem g_ldcs {index : Nat} {text : String} {vs : List Value} {z : Int32} (n : Nat) (C : Cx p (s.setVm vm0) m meth c Z own nm bytes maxL ret) (X : St p l e R (s.setVm vm0) m A below meth c Z T h cells slots) (I : Lits Z EL s vm0 h) (wS : ∀ a ∈ Bundle.stringAtoms, a.before a0 Z = true) (hEL : EW Z a0 EL) (hmem : (own, index) ∈ EL) (w : (Jvm.Cond.stringLink own index text).before a0 Z = true)
    (ht : (∀ c ∈ text.toList, c.toNat < 256) ∧ text.toList.map (fun c => Value.int (Jvm.Lit.byteI c.toNat.toUInt16)) = vs) (hz : ¬ z < 0) (hl : z.toNatClampNeg = vs.length) (hn : 4 * text.toList.length ≤ n) (hbig : n ≤ 536870912) (d : Dc bytes pc (.ldc index) 2 pc') (hc : cells + 2 ≤ R.cells) (hs : slots + (n + 4) ≤ R.slots)
    (K : ∀ a T' h' b k, Cx p (s.setVm T'.vm) m meth c Z own nm bytes maxL ret → St p l e R (s.setVm T'.vm) m A below meth c Z T' h' (cells + 2) (slots + (n + 4)) → Lits Z EL s T'.vm h' → CHr Z EL vm0 h T'.vm h' → Ext h h' → Exa Z h' a "java/lang/String" → Fld Z h' a "java/lang/String" "coder" "B" (.int 0) → Fld Z h' a "java/lang/String" "value" "[B" (.ref b) → Arv Z h' b k .byte z vs (.int 0) → (∀ x, Safe Z EL T'.vm h' x → x ≠ a ∧ x ≠ b) → Goes p e below W T' (mkF m pc' Ls (.ref a :: st))) : Goes p e below W T (mkF m pc Ls st) := by
  obtain ⟨d, rfl⟩ := d
  obtain ⟨L0, Y, eT, N, E⟩ := X
  obtain ⟨⟨k0, hS, hk⟩, hC⟩ := I
  obtain ⟨a, T', h', k1, b, k, Y', e', E', hS', hk', hZ', ho', r1, r2, r3, r4, -, -, hR, -, hne, q⟩ := ldcCH Y C.hx C.hZ C.hown w wS eT hS hk hEL hmem hC.1 ht hz hl (g := mkF m pc Ls st) rfl (hb C.hby d) hn hbig hc hs
  exact Goes.via q (K a T' h' b k ⟨C.1, hZ', ho', C.2.2.2⟩ ⟨L0, Y', e', N, ext_trans E E'⟩ ⟨⟨k1, hS', hk'⟩, hC.trans hR⟩ hR E' r1 r2 r3 r4 hne)
/-- the end of a body that may load String constants -/
def EndL (Z : State) (EL : List (String × Nat)) (s : State) (k n : Nat) (Q : Option Value → Heap → Prop) (o : Outcome) (u : State) : Prop :=
  ∃ v L, o = .returned v ∧ (Fr Z.heap.size L ∧ Ext Z.heap u.heap ∧ Q v u.heap) ∧ CHr Z EL s.vm s.heap u.vm u.heap ∧ ReturnedEndW s o u L k n
theorem goes_L {k n : Nat} {Q : Option Value → Heap → Prop} {g : JFrame} (I : Lits Z EL s vm0 h) (hEL : EW Z a0 EL) (hZ : Z.Warmed39 vm0) (G : Goes p e below (EndW Z (s.setVm vm0) k n (fun v h' => Q v h' ∧ h' = h)) T g) : Goes p e below (EndL Z EL s k n Q) T g := by
  obtain ⟨s₂, o, g1, g2, g3, v, L, rfl, ⟨N, E, hQ, hh⟩, hv, hW, hs⟩ := G
  obtain ⟨⟨k0, hS, hk⟩, hC⟩ := I
  obtain ⟨a, b, c'⟩ := hS.ended (U := s₂) hW (by rw [hh]; exact hk) hs
  refine ⟨s₂, _, g1, g2, g3, v, L, rfl, ⟨N, E, hQ⟩, ?_, ⟨v, rfl⟩, a, b, c'⟩
  have q := CHv.later (h' := h) hZ (hW := (show (Wst Z vm0 h).Warmed39 s₂.vm from hW.wide)) hEL ⟨Nat.le_refl _, fun _ _ q => q⟩ (Or.inl hW.interned_eq) hC.1
  rw [hh]; exact hC.trans ⟨q.1, Nat.le_refl _, q.2⟩
def ConL (l : Launch) (y : MethodName) (bytes : ByteArray) (maxL : Nat) (ret : Option FieldType) (ws : List Jvm.Cond) (rm : Room) (Z : State) (EL : List (String × Nat)) (sf : List Addr) (A : Array Value) (h0 : Heap) (Q : Option Value → Heap → Prop) : Prop :=
  MetFree l y (head1 (Jvm.Cond.code y bytes maxL ret :: ws) rm) (fun a U => a = A ∧ Z.Warmed39 U.vm ∧ U.heap = h0 ∧ CHv Z EL U.vm h0 ∧ ∀ x ∈ sf, Safe Z EL U.vm h0 x) (fun _ _ _ _ _ => True) (fun _ U o U' => EndL Z EL U rm.cells rm.slots Q o U')
theorem con_ofL {y : MethodName} {ws : List Jvm.Cond} {rm : Room} {h0 : Heap} {Q : Option Value → Heap → Prop} {Ls : Array Slot} {sf : List Addr} (hp : plainFor y = true) (hE : Ext Z.heap h0) (hef : ∀ m, entryFrame m A maxL = mkF m 0 Ls [])
    (body : ∀ p e s m below meth c s₁, Cx p (s.setVm s.vm) m meth c Z y.cls y.name bytes maxL ret → St p l e rm (s.setVm s.vm) m A below meth c Z s₁ h0 0 0 → Lits Z EL s s.vm h0 → (∀ x ∈ sf, Safe Z EL s.vm h0 x) → Goes p e below (EndL Z EL s rm.cells rm.slots Q) s₁ (mkF m 0 Ls [])) :
    ConL l y bytes maxL ret ws rm Z EL sf A h0 Q := by
  refine MetFree.of_bodySF hp hisR ?_
  intro p e s m args below meth c s₁ Bd hml0 hP hK
  obtain ⟨rfl, hZ, hh, hV, hsf⟩ := hP
  have X0 := Stand.of_body Bd
  have e0 : s₁.heap = h0 := by rw [← hh, Bd.state]; rfl
  have := body p e s m below meth c s₁ ⟨Bd.exec, hZ, findClass_of_methodNamed Bd.named, Bd.bytes, hml0, Bd.returns, Bd.notSynchronized, (name_of_methodNamed Bd.named Bd.method).1⟩ ⟨[], X0, e0, Fr.nil _, hE⟩ ⟨⟨0, (State.WarmedH.refl s).since 0, Nat.zero_le _⟩, by rw [hh]; exact CHr.refl hV⟩ hsf
  rw [← hef m] at this
  exact this
def PayL (l : Launch) (R : Room) (p : Program) (e : Env) (below : List Frame) (s : State) (vm0 : Vm) (A : Array Value) (y : MethodName) (len W k n : Nat) (Z : State) (EL : List (String × Nat)) (as' : Array Value) (h : Heap) (Q : Option Value → Heap → Prop) : Prop :=
  BackS l R p e below (s.setVm vm0) A y len W (fun P a => a = as' ∧ P.U.heap = h ∧ P.cells + k ≤ R.cells ∧ P.slots + n ≤ R.slots)
    (fun P _ v B => ∃ L, (Fr Z.heap.size L ∧ Ext Z.heap B.U.heap ∧ Q v B.U.heap) ∧ (B.locs = P.locs ++ L ∧ B.cells = P.cells + k ∧ B.slots = P.slots + n) ∧ CHr Z EL vm0 h B.U.vm B.U.heap)
theorem payL_of {y : MethodName} {bytes' : ByteArray} {maxL' len W' : Nat} {ret' : Option FieldType} {rm : Room} {sf : List Addr} {as' : Array Value} {Q : Option Value → Heap → Prop} (hM : ConL l y bytes' maxL' ret' [] rm Z EL sf as' h Q) (hZ : Z.Warmed39 vm0) (wc : (Jvm.Cond.code y bytes' maxL' ret').before a0 Z = true) (wz : (Jvm.Cond.initialized y.cls).before a0 Z = true) (hf : rm.frames + 1 ≤ R.frames) (hl : W' + (maxL' + 11) + rm.locals ≤ R.locals) (hEL : EW Z a0 EL) (I : Lits Z EL s vm0 h) (hsf : ∀ x ∈ sf, x < h.size ∧ Safe Z EL vm0 h x) :
    PayL l R p e below s vm0 A y len W' rm.cells rm.slots Z EL as' h Q :=
  BackS.of_freeW (bytes := bytes') (maxL := maxL') (ret := ret') (E := fun _ first o t L k n => k = rm.cells ∧ n = rm.slots ∧ (∃ v, o = .returned v ∧ Fr Z.heap.size L ∧ Ext Z.heap t.heap ∧ Q v t.heap) ∧ CHr Z EL first.vm first.heap t.vm t.heap) hM hf hl
    (fun m meth c A a Y hp => have hU : Z.Warmed39 A.U.vm := wtrans (s := s.setVm vm0) hZ Y.warmed
      ⟨by show (Jvm.Cond.and _ .tt).before a A.U = true; rw [Jvm.Cond.before_and, mv hU wc]; rfl, mv hU wc, mv hU wz, hp.2.2.1, hp.2.2.2⟩)
    (fun m meth c A a g mk Y hp => ⟨hp.1, wtrans (s := s.setVm vm0) hZ Y.warmed, hp.2.1, (CHv.at Y hZ hEL I.2.1).1, fun x hx => (CHv.at Y hZ hEL I.2.1).safe (hsf x hx).1 (hsf x hx).2⟩) (fun _ _ _ _ _ _ _ _ _ => trivial)
    (fun _ _ _ _ ⟨v, L, h1, h2, h3, h4⟩ => ⟨L, _, _, h4, rfl, rfl, ⟨v, h1, h2⟩, h3⟩)
    (fun m meth c A a g mk v t L k n Y hp _ _ ⟨e1, e2, ⟨v', e3, e4⟩, e5⟩ => by
      cases e3; subst e1 e2
      refine ⟨L, e4, ⟨rfl, rfl, rfl⟩, (CHv.at Y hZ hEL I.2.1).trans ?_⟩
      rw [← hp.2.1]; exact e5)
theorem g_staticL {index k n : Nat} {y : MethodName} {bytes' : ByteArray} {maxL' W' : Nat} {ret' : Option FieldType} {argsL : List Value} {Q : Option Value → Heap → Prop} {ps : List FieldType} {rt : Option FieldType} (C : Cx p (s.setVm vm0) m meth c Z own nm bytes maxL ret) (X : St p l e R (s.setVm vm0) m A below meth c Z T h cells slots) (I : Lits Z EL s vm0 h)
    (w1 : (Jvm.Cond.methodLink own index y).before a0 Z = true) (w2 : (Jvm.Cond.static y).before a0 Z = true) (w3 : (Jvm.Cond.initialized y.cls).before a0 Z = true) (w4 : (Jvm.Cond.code y bytes' maxL' ret').before a0 Z = true) (hy : y.cls ≠ "java/lang/invoke/MethodHandle" ∧ y.cls ≠ "java/lang/invoke/VarHandle")
    (hK : PayL l R p e below s vm0 A y 3 W' k n Z EL argsL.toArray h Q) (pd : parseMethodDescriptor y.desc = some ⟨ps, rt⟩) (hlen : argsL.length = ps.length) (hsz : Ls.size = maxL) (stk : List Value) (hst : stk = argsL.reverse ++ st) (hW : (st.map fun v => v.category).sum ≤ W') (d : Dc bytes pc (.invokestatic index) 3 pc') (hc : cells + k ≤ R.cells) (hs : slots + n ≤ R.slots)
    (K : ∀ T' h' v, Q v h' → Cx p (s.setVm T'.vm) m meth c Z own nm bytes maxL ret → St p l e R (s.setVm T'.vm) m A below meth c Z T' h' (cells + k) (slots + n) → Lits Z EL s T'.vm h' → CHr Z EL vm0 h T'.vm h' → Goes p e below W T' (mkF m pc' Ls (v.toList ++ st))) : Goes p e below W T (mkF m pc Ls stk) := by
  obtain ⟨d, rfl⟩ := d
  obtain ⟨L0, Y, eT, N, E⟩ := X
  obtain ⟨⟨k0, hS, hk⟩, hC⟩ := I
  obtain ⟨v, vm₁, B, -, Y', hS', hg', ⟨L, ⟨N', E', hQ⟩, ⟨b1, b2, b3⟩, hR⟩, q⟩ := callSS Y C.hx C.hown (mvT C.hZ w1) (mvT C.hZ w2) (mvT C.hZ w3) (mvT C.hZ w4) hy hK (g := mkF m pc Ls stk) rfl (hsz.trans C.hml.symm) (argsL := argsL) (rest := st) (lenOf pd hlen) hst (by show 2 * 0 + _ ≤ _; omega) (hb C.hby d) (fun _ _ => ⟨rfl, eT, hc, hs⟩)
  have q1 : B.locs = L0 ++ L := b1
  have q2 : B.cells = cells + k := b2
  have q3 : B.slots = slots + n := b3
  rw [q1, q2, q3] at Y'
  subst eT
  exact Goes.via (fun _ k => q.trans k) (K B.U B.U.heap v hQ ⟨C.1, State.Warmed39.trans (t := s.setVm vm0) C.hZ hS'.1, by rw [show (s.setVm B.U.vm).vm = B.U.vm from rfl, hS'.1.alike.findClass]; exact C.hown, C.2.2.2⟩ ⟨_, Y', rfl, N.app N', E'⟩ ⟨⟨_, hS.trans hS' (Nat.le_trans hk hg'), Nat.le_refl _⟩, hC.trans hR⟩ hR)
theorem g_specialL {index k n : Nat} {y : MethodName} {bytes' : ByteArray} {maxL' W' : Nat} {argsL : List Value} {Q : Option Value → Heap → Prop} {ps : List FieldType} {rt : Option FieldType} {a : Addr} (C : Cx p (s.setVm vm0) m meth c Z own nm bytes maxL ret) (X : St p l e R (s.setVm vm0) m A below meth c Z T h cells slots) (I : Lits Z EL s vm0 h) (hi : y.name = "<init>")
    (w1 : (Jvm.Cond.methodLink own index y).before a0 Z = true) (w2 : (Jvm.Cond.instanceMethod y).before a0 Z = true) (w4 : (Jvm.Cond.code y bytes' maxL' none).before a0 Z = true) (hy : y.cls ≠ "java/lang/invoke/MethodHandle" ∧ y.cls ≠ "java/lang/invoke/VarHandle")
    (hK : PayL l R p e below s vm0 A y 3 W' k n Z EL (.ref a :: argsL).toArray h Q) (pd : parseMethodDescriptor y.desc = some ⟨ps, rt⟩) (hlen : argsL.length = ps.length) (hsz : Ls.size = maxL) (stk : List Value) (hst : stk = argsL.reverse ++ .ref a :: st) (hW : (st.map fun v => v.category).sum ≤ W') (d : Dc bytes pc (.invokespecial index) 3 pc') (hc : cells + k ≤ R.cells) (hs : slots + n ≤ R.slots)
    (K : ∀ T' h' v, Q v h' → Cx p (s.setVm T'.vm) m meth c Z own nm bytes maxL ret → St p l e R (s.setVm T'.vm) m A below meth c Z T' h' (cells + k) (slots + n) → Lits Z EL s T'.vm h' → CHr Z EL vm0 h T'.vm h' → Goes p e below W T' (mkF m pc' Ls (v.toList ++ st))) : Goes p e below W T (mkF m pc Ls stk) := by
  obtain ⟨d, rfl⟩ := d
  obtain ⟨L0, Y, eT, N, E⟩ := X
  obtain ⟨⟨k0, hS, hk⟩, hC⟩ := I
  obtain ⟨v, vm₁, B, -, Y', hS', hg', ⟨L, ⟨N', E', hQ⟩, ⟨b1, b2, b3⟩, hR⟩, q⟩ := Y.specialBackS C.hx (y := y) hi C.hown (mvT C.hZ w1) (mvT C.hZ w2) (mvT C.hZ w4) hy hK (g := mkF m pc Ls stk) rfl (hsz.trans C.hml.symm) (Steps.refl _) (a := a) (argsL := argsL) (rest := st) (lenOf pd hlen) hst (by show 2 * 0 + _ ≤ _; omega) (hb C.hby d) (fun _ _ => ⟨rfl, eT, hc, hs⟩)
  have q1 : B.locs = L0 ++ L := b1
  have q2 : B.cells = cells + k := b2
  have q3 : B.slots = slots + n := b3
  rw [q1, q2, q3] at Y'
  subst eT
  exact Goes.via (fun _ k => q.trans k) (K B.U B.U.heap v hQ ⟨C.1, State.Warmed39.trans (t := s.setVm vm0) C.hZ hS'.1, by rw [show (s.setVm B.U.vm).vm = B.U.vm from rfl, hS'.1.alike.findClass]; exact C.hown, C.2.2.2⟩ ⟨_, Y', rfl, N.app N', E'⟩ ⟨⟨_, hS.trans hS' (Nat.le_trans hk hg'), Nat.le_refl _⟩, hC.trans hR⟩ hR)
end OwnLit
section OwnClone
variable {p : Program} {l : Launch} {e : Env} {R : Room} {s : State} {m : MethodId} {A : Array Value} {below : List Frame} {meth : Method} {c : Code} {T : State} {cells slots : Nat} {Z : State} {a0 : Array Value} {h : Heap} {own nm : String} {bytes : ByteArray} {maxL : Nat} {ret : Option FieldType} {W : Outcome → State → Prop} {pc pc' tgt : Nat} {Ls : Array Slot} {st : List Value} {EL : List (String × Nat)} {vm0 : Vm}
theorem g_clone {ad : String} {index cap : Nat} {a : Addr} {k : ClassId} {ty : FieldType} {z : Int32} {vs : List Value} {dv : Value} (C : Cx p s m meth c Z own nm bytes maxL ret) (X : St p l e R s m A below meth c Z T h cells slots)
    (w1 : (Jvm.Cond.methodLink own index ⟨ad, "clone", "()Ljava/lang/Object;"⟩).before a0 Z = true) (w2 : (Jvm.Cond.sameMethod ad "java/lang/Object" "clone" "()Ljava/lang/Object;").before a0 Z = true) (w3 : (Jvm.Cond.native ⟨"java/lang/Object", "clone", "()Ljava/lang/Object;"⟩).before a0 Z = true)
    (w4 : (Jvm.Cond.instanceMethod ⟨"java/lang/Object", "clone", "()Ljava/lang/Object;"⟩).before a0 Z = true) (w5 : (Jvm.Cond.selects ad ⟨ad, "clone", "()Ljava/lang/Object;"⟩ ⟨"java/lang/Object", "clone", "()Ljava/lang/Object;"⟩).before a0 Z = true) (w6 : (Jvm.Cond.castable ad "java/lang/Cloneable").before a0 Z = true)
    (F : Arv Z h a k ty z vs dv) (E0 : Exa Z h a ad) (hsz : Ls.size = maxL) (d : Dc bytes pc (.invokevirtual index) 3 pc') (hf : 1 ≤ R.frames) (W' : Nat) (hW : (st.map fun v => v.category).sum ≤ W') (hl : W' + 14 ≤ R.locals) (hcap : z.toNatClampNeg ≤ cap) (hc : cells + 1 ≤ R.cells) (hs : slots + cap ≤ R.slots)
    (K : ∀ T' h' b, b = h.size → Z.heap.size ≤ b → St p l e R s m A below meth c Z T' h' (cells + 1) (slots + cap) → Ext h h' → Arv Z h' b k ty z vs dv → Exa Z h' b ad → Goes p e below W T' (mkF m pc' Ls (.ref b :: st))) : Goes p e below W T (mkF m pc Ls (.ref a :: st)) := by
  obtain ⟨d, rfl⟩ := d
  obtain ⟨L0, Y, eT, N, E⟩ := X
  obtain ⟨cl, Ar, q1, S, q3, H, G⟩ := F
  have FC : FitC Z cl := fitC_of Ar fun i hi v hv => by rw [H i hi] at hv; cases hv; exact G i hi
  obtain ⟨T', h', Y', e', ex, A', E', q⟩ := cloneA Y C.hx C.hZ C.hown w1 w2 w3 w4 w5 w6 eT Ar E0 FC (g := mkF m pc Ls (.ref a :: st)) rfl (hsz.trans C.hml.symm) rfl (hb C.hby d) hf (W := W') (by show 2 * 0 + _ ≤ _; omega) hl (by rw [S]; exact hcap) hc hs
  exact Goes.via q (K T' h' h.size rfl E.1 ⟨L0, Y', e', N, ext_trans E ex⟩ ex ⟨cloneOf cl, A', q1, S, q3, H, G⟩ E')
end OwnClone
theorem own_up {c : Int32} (h : ¬ (255 : Int32) < c) : ¬ (65535 : Int32) < c := by
  simp only [Int32.lt_iff_toInt_lt, Int32.reduceToInt] at *
  omega

/-- String.equals of two Strings of known chars, as a payment -/
theorem payEq {p : Program} {l : Launch} {e : Env} {R : Room} {s : State} {A : Array Value} {below : List Frame} {W' : Nat} {Z : State} {a0 : Array Value} {h : Heap} (hZ : Z.Warmed39 s.vm) (hE : Ext Z.heap h) (hw : ∀ d ∈ StrChars.Road.wordsEq, d.before a0 Z = true) {kI : Nat} (wi : (Jvm.Cond.instantiable "java/lang/String" kI).before a0 Z = true)
    {x t : Addr} {kb : ClassId} {cs : List Int32} {N2 : Int32} {vs : List Value} (E : Exa Z h x "java/lang/String") (V : Fld Z h x "java/lang/String" "value" "[B" (.ref t)) (C : Fld Z h x "java/lang/String" "coder" "B" (.int 0)) (K : Arv Z h t kb .byte N2 vs (.int 0)) (hc : StrChars.Road.CodA cs 0 N2 vs) (hb : ∀ c ∈ cs, ¬ c < 0 ∧ ¬ (255 : Int32) < c) (l2 : cs.length ≤ 4000)
    {y t' : Addr} {kb' : ClassId} {ds : List Int32} {N2' : Int32} {vs' : List Value} (E' : Exa Z h y "java/lang/String") (V' : Fld Z h y "java/lang/String" "value" "[B" (.ref t')) (C' : Fld Z h y "java/lang/String" "coder" "B" (.int 0)) (K' : Arv Z h t' kb' .byte N2' vs' (.int 0)) (hc' : StrChars.Road.CodA ds 0 N2' vs') (hb' : ∀ c ∈ ds, ¬ c < 0 ∧ ¬ (255 : Int32) < c) (l2' : ds.length ≤ 4000)
    {z : Int32} (S : Sta Z Z.heap "java/lang/String" "COMPACT_STRINGS" "Z" (.int z)) (hz : ¬ z = 0) (hfr : 2 ≤ R.frames) (hlo : W' + 28 ≤ R.locals) (b : Int32) (h1 : cs = ds → b = 1) (h2 : ¬ cs = ds → b = 0) :
    Pay l R p e below s A (⟨"java/lang/String", "equals", "(Ljava/lang/Object;)Z"⟩ : MethodName) 3 W' 0 0 Z #[.ref x, .ref y] h (fun v h' => v = some (.int b) ∧ h' = h) :=
  Back.mono (StrChars.Road.eqW (W := W') hZ hw wi E V C K hc (fun c q => ⟨(hb c q).1, own_up (hb c q).2⟩) l2 E' V' C' K' hc' (fun c q => ⟨(hb' c q).1, own_up (hb' c q).2⟩) l2' (S.ext hE) hz hfr hlo) (fun _ _ q => q)
    (fun P a v B hp hq => by
      obtain ⟨L, ⟨q1, rfl, q2⟩, r⟩ := hq
      refine ⟨[], ⟨Fr.nil _, by rw [q2]; exact hE, ?_, q2⟩, r⟩
      rcases q1 with ⟨rfl, q⟩ | ⟨rfl, q⟩
      · rw [h1 q]
      · rw [h2 q])
theorem own_EW {Z : State} {a0 : Array Value} (hw : ∀ d ∈ tables_1, d.before a0 Z = true) : EW Z a0 consts_1 := fun p hp => by
  simp only [consts_1, List.mem_cons, List.not_mem_nil, or_false] at hp
  rcases hp with rfl | rfl | rfl | rfl | rfl
  · exact ⟨"exclusiv", (wd hw 113 rfl), by decide +kernel⟩
  · exact ⟨"share", (wd hw 116 rfl), by decide +kernel⟩
  · exact ⟨"exclusive", (wd hw 31 rfl), by decide +kernel⟩
  · exact ⟨"shared", (wd hw 44 rfl), by decide +kernel⟩
  · exact ⟨"", (wd hw 114 rfl), by decide +kernel⟩
theorem own_wS {Z : State} {a0 : Array Value} (hw : ∀ d ∈ tables_1, d.before a0 Z = true) : ∀ a ∈ Bundle.stringAtoms, a.before a0 Z = true := fun d hd => hw d ((show ∀ d ∈ Bundle.stringAtoms, d ∈ tables_1 by decide +kernel) d hd)
theorem own_cod {cs : List Int32} {N : Int32} {vs : List Value} (h1 : N = Int32.ofNat cs.length) (h2 : vs = (cs.map fun c => c.toInt8.toInt32).map Value.int) (h3 : ∀ c ∈ cs, ¬ c < 0 ∧ ¬ (255 : Int32) < c) : StrChars.Road.CodA cs 0 N vs := Or.inl ⟨rfl, h1, by rw [h2, List.map_map]; rfl, fun c q => (h3 c q).2⟩
theorem own_rc (y : Int32) : ¬ nar .char ((y &&& (255 : Int32)).toUInt32.toUInt16.toUInt32.toInt32) < 0 ∧ ¬ (255 : Int32) < nar .char ((y &&& (255 : Int32)).toUInt32.toUInt16.toUInt32.toInt32) := by
  rw [Value.int.inj (own_ch y)]; exact own_m255 y
theorem own_set {l : List Int32} {j : Nat} {y : Int32} (hl : ∀ c ∈ l, ¬ c < 0 ∧ ¬ (255 : Int32) < c) (hy : ¬ y < 0 ∧ ¬ (255 : Int32) < y) : ∀ c ∈ l.set j y, ¬ c < 0 ∧ ¬ (255 : Int32) < c := fun c q => by
  rcases List.mem_or_eq_of_mem_set q with q | rfl
  · exact hl c q
  · exact hy
theorem own_mapset (l : List Int32) (j : Nat) (y : Int32) : (l.map Value.int).set j (.int y) = (l.set j y).map Value.int := by rw [List.map_set]
theorem own_nar {x : Int32} (h : ¬ x < 0 ∧ ¬ (255 : Int32) < x) : Value.int (nar .char x) = .int x := by
  have e : x = x &&& 255 := by
    apply Int32.toInt_inj.mp
    have h1 := c_mask x 255 8 (by decide) (by decide)
    simp only [Int32.lt_iff_toInt_lt, Int32.reduceToInt] at *
    omega
  show Value.int (x.toUInt32.toUInt16.toUInt32.toInt32) = _
  rw [e, i2c_mask]
theorem own_latc (y : Int32) : ¬ ((y &&& (255 : Int32)).toUInt32.toUInt16.toUInt32.toInt32) < 0 ∧ ¬ (255 : Int32) < ((y &&& (255 : Int32)).toUInt32.toUInt16.toUInt32.toInt32) := by
  rw [i2c_mask]; exact own_m255 y
theorem own_getlat {cs : List Int32} (h : ∀ c ∈ cs, ¬ c < 0 ∧ ¬ (255 : Int32) < c) {i : Nat} (hi : i < cs.length) : ¬ cs.getD i 0 < 0 ∧ ¬ (255 : Int32) < cs.getD i 0 := by
  have e : cs.getD i 0 = cs[i] := by simp [List.getD_eq_getElem?_getD, hi]
  rw [e]; exact h _ (List.getElem_mem _)
theorem own_ltn {k n : Nat} (hk : k ≤ 4000) (hn : n ≤ 4000) (h : Int32.ofNat k < Int32.ofNat n) : k < n := by
  rw [Int32.lt_iff_toInt_lt, Int32.toInt_ofNat_small (by omega), Int32.toInt_ofNat_small (by omega)] at h
  omega
theorem pn_0 : plainName "java/lang/String" = true := by first | (simp [plainName, overriddenIn]; done) | decide +kernel
theorem ef_rI4 (m : MethodId) (x : Addr) (ca : Addr) : entryFrame m #[(.ref x), (.ref ca), (.int 0), (.int 0), .null] 6 = mkF m 0 #[.val (.ref x), .val (.ref ca), .val (.int 0), .val (.int 0), .val .null, .unset] [] := by first | (simp [entryFrame, mkF, argsToLocals, Value.category]; done) | rfl
theorem d2_0 : Dc jdk_42_method_149_code 0 (.aload_n 0) 1 1 := ⟨by decide +kernel, rfl⟩
theorem d2_1 : Dc jdk_42_method_149_code 1 (.invokespecial 1) 3 4 := ⟨by decide +kernel, rfl⟩
theorem d2_4 : Dc jdk_42_method_149_code 4 (.iload_n 3) 1 5 := ⟨by decide +kernel, rfl⟩
theorem d2_5 : Dj jdk_42_method_149_code 5 (.ifCond .ne 22) 22 3 8 27 := ⟨by decide +kernel, rfl, by decide, by decide⟩
theorem d2_8 : Dc jdk_42_method_149_code 8 (.aload_n 0) 1 9 := ⟨by decide +kernel, rfl⟩
theorem d2_9 : Dc jdk_42_method_149_code 9 (.ldc 7) 2 11 := ⟨by decide +kernel, rfl⟩
theorem d2_11 : Dc jdk_42_method_149_code 11 (.getfield 9) 3 14 := ⟨by decide +kernel, rfl⟩
theorem d2_14 : Dc jdk_42_method_149_code 14 (.putfield 9) 3 17 := ⟨by decide +kernel, rfl⟩
theorem d2_17 : Dc jdk_42_method_149_code 17 (.aload_n 0) 1 18 := ⟨by decide +kernel, rfl⟩
theorem d2_18 : Dc jdk_42_method_149_code 18 (.ldc 7) 2 20 := ⟨by decide +kernel, rfl⟩
theorem d2_20 : Dc jdk_42_method_149_code 20 (.getfield 15) 3 23 := ⟨by decide +kernel, rfl⟩
theorem d2_23 : Dc jdk_42_method_149_code 23 (.putfield 15) 3 26 := ⟨by decide +kernel, rfl⟩
theorem d2_26 : Dc jdk_42_method_149_code 26 (.return_) 1 27 := ⟨by decide +kernel, rfl⟩
theorem rI4 (l : Launch) {Z : State} {a0 : Array Value} (hw : ∀ d ∈ tables_1, d.before a0 Z = true) {h : Heap} (hE : Ext Z.heap h) (x : Addr) (ca : Addr)  (EX : Exa Z h x "java/lang/String") (FC : Fld Z h x "java/lang/String" "coder" "B" (.int (0 : Int32))) (FV : Fld Z h x "java/lang/String" "value" "[B" .null) (hn : Z.heap.size ≤ x) (kc : ClassId) (VC : Arv Z h ca kc .char 0 [] (.int (0 : Int32))) :
    ConL l (⟨"java/lang/String", "<init>", "([CIILjava/lang/Void;)V"⟩ : MethodName) jdk_42_method_149_code 6 none [] ({ frames := 1, cells := 4, slots := 8, locals := 14 } : Room) Z consts_1 [x] #[(.ref x), (.ref ca), (.int 0), (.int 0), .null] h (fun v' h' => v' = none ∧ Keep h h' [x] ∧ Exa Z h' x "java/lang/String" ∧ Fld Z h' x "java/lang/String" "coder" "B" (.int 0) ∧ ∃ (t : Addr) (kb : ClassId), x ≠ t ∧ Fld Z h' x "java/lang/String" "value" "[B" (.ref t) ∧ Arv Z h' t kb .byte 0 [] (.int 0)) := by
  refine con_ofL (plainFor_of_name pn_0) hE (fun m => ef_rI4 m x ca) ?_
  intro p e s m below meth c T0 C X0 I0 hsf
  have C : Cx p (s.setVm s.vm) m meth c Z "java/lang/String" "<init>" jdk_42_method_149_code 6 none := C
  show Goes p e below _ T0 (mkF m 0 #[.val (.ref x), .val (.ref ca), .val (.int 0), .val (.int 0), .val .null, .unset] [])
  refine g_aloadN C X0 d2_0 rfl rfl (g_initO C X0 (wd hw 12 rfl) (wd hw 13 rfl) (wd hw 14 rfl) rfl d2_1 (by decide) 0 (Nat.le_of_eq rfl) (by decide) (fun T1 X1 => ?_))
  refine g_iloadN C X1 d2_4 rfl (g_ifn (h0_ne _) C X1 d2_5 (fun q => absurd (by decide) q) (fun _ => ?_))
  refine g_aloadN C X1 d2_8 rfl rfl (g_ldcs 0 C X1 I0 (own_wS hw) (own_EW hw) (by decide +kernel) (wd hw 114 rfl) (vs := []) (z := 0) ⟨by decide +kernel, by decide +kernel⟩ (by decide) rfl (by decide) (by decide) d2_9 (by decide) (by decide) (fun a2 T2 h2 t2 k_t2 C X2 I2 R2 E2 EA2 FC2 FV2 VA2 N2 => ?_))
  have sf3 := CHr.safe R2 (Exa.lt EX) (hsf _ (by simp))
  have ne4 := N2 _ sf3
  show Goes p e below _ T2 (mkF m 11 #[.val (.ref x), .val (.ref ca), .val (.int 0), .val (.int 0), .val .null, .unset] [(.ref a2), (.ref x)])
  refine g_getfield (host := "") C X2 (Or.inl (wd hw 29 rfl)) Via.refl FV2 d2_11 (fun T5 X5 => ?_)
  have f6 := (Fld.ext E2 FV)
  have f7 := (Exa.ext E2 EX)
  refine g_putfield (host := "") C X5 (Or.inl (wd hw 29 rfl)) Via.refl f6 f7 (Or.inr ⟨(wd hw 30 rfl), rfl, rfl⟩) (wd hw 3 rfl) (ty := (.array .byte)) (by decide) rfl rfl hn d2_14 (fun T8 h8 X8 W8 => ?_)
  have f8 := Fld.same W8 f6
  refine g_aloadN C X8 d2_17 rfl rfl ?_
  have kp9 := (Keep.refl h2 [x]).wr W8 (Or.inl (by simp))
  have I10 := Lits.keep I2 kp9 (sfS sf3 sf0)
  have sf11 := Lits.safe I2 kp9 (sfS sf3 sf0) sf3
  have f12 := (Exa.wr W8 f7)
  refine g_ldcs 0 C X8 I10 (own_wS hw) (own_EW hw) (by decide +kernel) (wd hw 114 rfl) (vs := []) (z := 0) ⟨by decide +kernel, by decide +kernel⟩ (by decide) rfl (by decide) (by decide) d2_18 (by decide) (by decide) (fun a13 T13 h13 t13 k_t13 C X13 I13 R13 E13 EA13 FC13 FV13 VA13 N13 => ?_)
  have sf14 := CHr.safe R13 (Exa.lt f12) sf11
  have ne15 := N13 _ sf14
  show Goes p e below _ T13 (mkF m 20 #[.val (.ref x), .val (.ref ca), .val (.int 0), .val (.int 0), .val .null, .unset] [(.ref a13), (.ref x)])
  refine g_getfield (host := "") C X13 (Or.inl (wd hw 27 rfl)) Via.refl FC13 d2_20 (fun T16 X16 => ?_)
  have f17 := (Fld.ext E13 (Fld.other W8 (Fld.ext E2 FC) (Or.inr (slot_ne (Or.inr (wd hw 28 rfl)) (Or.inr (wd hw 30 rfl)) (by decide) (t := .byte) (t' := (.array .byte)) (by decide) (by decide)))))
  have f18 := (Exa.ext E13 f12)
  refine g_putfield (host := "") C X16 (Or.inl (wd hw 27 rfl)) Via.refl f17 f18 (Or.inr ⟨(wd hw 28 rfl), rfl, rfl⟩) (wd hw 3 rfl) (ty := .byte) (by decide) rfl rfl hn d2_23 (fun T19 h19 X19 W19 => ?_)
  have f19 := Fld.same W19 f17
  have kp20 := (Keep.refl h [x]).ext E2
  have kp21 := kp20.wr W8 (Or.inl (by simp))
  have kp22 := kp21.ext E13
  have kp23 := kp22.wr W19 (Or.inl (by simp))
  have f24 := (Exa.wr W19 f18)
  have f25 := (Fld.other W19 (Fld.ext E13 f8) (Or.inr (slot_ne (Or.inr (wd hw 30 rfl)) (Or.inr (wd hw 28 rfl)) (by decide) (t := (.array .byte)) (t' := .byte) (by decide) (by decide))))
  have f26 := (Arv.other (Arv.ext (Arv.other VA2 W8 (Ne.symm ne4.2)) E13) W19 (Ne.symm ne4.2))
  have kp27 := (Keep.refl h13 [x]).wr W19 (Or.inl (by simp))
  have I28 := Lits.keep I13 kp27 (sfS sf14 sf0)
  have sf29 := Lits.safe I13 kp27 (sfS sf14 sf0) sf14
  exact goes_L I28 (own_EW hw) C.hZ (g_retV C X19 d2_26 (by decide) (by decide) ⟨⟨rfl, kp23, f24, f19, t2, k_t2, ne4.2, f25, f26⟩, rfl⟩)
theorem ef_rI1 (m : MethodId) (x : Addr) (ca : Addr) : entryFrame m #[(.ref x), (.ref ca)] 2 = mkF m 0 #[.val (.ref x), .val (.ref ca)] [] := by first | (simp [entryFrame, mkF, argsToLocals, Value.category]; done) | rfl
theorem d1_0 : Dc jdk_42_method_3_code 0 (.aload_n 0) 1 1 := ⟨by decide +kernel, rfl⟩
theorem d1_1 : Dc jdk_42_method_3_code 1 (.aload_n 1) 1 2 := ⟨by decide +kernel, rfl⟩
theorem d1_2 : Dc jdk_42_method_3_code 2 (.iconst 0) 1 3 := ⟨by decide +kernel, rfl⟩
theorem d1_3 : Dc jdk_42_method_3_code 3 (.aload_n 1) 1 4 := ⟨by decide +kernel, rfl⟩
theorem d1_4 : Dc jdk_42_method_3_code 4 (.arraylength) 1 5 := ⟨by decide +kernel, rfl⟩
theorem d1_5 : Dc jdk_42_method_3_code 5 (.aconst_null) 1 6 := ⟨by decide +kernel, rfl⟩
theorem d1_6 : Dc jdk_42_method_3_code 6 (.invokespecial 27) 3 9 := ⟨by decide +kernel, rfl⟩
theorem pd_0 : parseMethodDescriptor "([CIILjava/lang/Void;)V" = some ⟨[(.array .char), .int, .int, (.object "java/lang/Void")], none⟩ := by decide +kernel
theorem d1_9 : Dc jdk_42_method_3_code 9 (.return_) 1 10 := ⟨by decide +kernel, rfl⟩
theorem rI1 (l : Launch) {Z : State} {a0 : Array Value} (hw : ∀ d ∈ tables_1, d.before a0 Z = true) {h : Heap} (hE : Ext Z.heap h) (x : Addr) (ca : Addr)  (EX : Exa Z h x "java/lang/String") (FC : Fld Z h x "java/lang/String" "coder" "B" (.int (0 : Int32))) (FV : Fld Z h x "java/lang/String" "value" "[B" .null) (hn : Z.heap.size ≤ x) (kc : ClassId) (VC : Arv Z h ca kc .char 0 [] (.int (0 : Int32))) :
    ConL l (⟨"java/lang/String", "<init>", "([C)V"⟩ : MethodName) jdk_42_method_3_code 2 none [] ({ frames := 2, cells := 4, slots := 8, locals := 36 } : Room) Z consts_1 [x] #[(.ref x), (.ref ca)] h (fun v' h' => v' = none ∧ Keep h h' [x] ∧ Exa Z h' x "java/lang/String" ∧ Fld Z h' x "java/lang/String" "coder" "B" (.int 0) ∧ ∃ (t : Addr) (kb : ClassId), x ≠ t ∧ Fld Z h' x "java/lang/String" "value" "[B" (.ref t) ∧ Arv Z h' t kb .byte 0 [] (.int 0)) := by
  refine con_ofL (plainFor_of_name pn_0) hE (fun m => ef_rI1 m x ca) ?_
  intro p e s m below meth c T0 C X0 I0 hsf
  have C : Cx p (s.setVm s.vm) m meth c Z "java/lang/String" "<init>" jdk_42_method_3_code 2 none := C
  show Goes p e below _ T0 (mkF m 0 #[.val (.ref x), .val (.ref ca)] [])
  refine g_aloadN C X0 d1_0 rfl rfl (g_aloadN C X0 d1_1 rfl rfl (g_iconst 0 C X0 d1_2 rfl (g_aloadN C X0 d1_3 rfl rfl (g_arraylength C X0 VC d1_4 (g_aconst_null C X0 d1_5 (g_specialL (argsL := [(.ref ca), (.int 0), (.int 0), .null]) (st := []) C X0 I0 rfl (wd hw 8 rfl) (wd hw 9 rfl) (wd hw 11 rfl) (by decide) (payL_of (W' := 0) (rI4 l hw X0.ext x ca EX FC FV hn kc VC) C.hZ (wd hw 11 rfl) (wd hw 4 rfl) (by decide) (by decide) (own_EW hw) I0 (List.forall_mem_cons.mpr ⟨⟨(Exa.lt EX), (hsf _ (by simp))⟩, fun _ q => nomatch q⟩)) pd_0 rfl rfl _ rfl (Nat.le_of_eq rfl) d1_6 (by decide) (by decide) (fun T30 h30 v30 q30 C X30 I30 R30 => ?_)))))))
  obtain ⟨rfl, K30, A30⟩ := q30
  have sf31 := CHr.safe R30 (Exa.lt EX) (hsf _ (by simp))
  show Goes p e below _ T30 (mkF m 9 #[.val (.ref x), .val (.ref ca)] [])
  exact goes_L I30 (own_EW hw) C.hZ (g_retV C X30 d1_9 (by decide) (by decide) ⟨⟨rfl, K30, A30⟩, rfl⟩)
theorem own_words {Z : State} {a0 : Array Value} (hw : ∀ d ∈ tables_1, d.before a0 Z = true) : ∀ d ∈ StrChars.Road.words, d.before a0 Z = true := fun d hd => hw d ((show ∀ d ∈ StrChars.Road.words, d ∈ tables_1 by decide +kernel) d hd)
theorem own_wordsEq {Z : State} {a0 : Array Value} (hw : ∀ d ∈ tables_1, d.before a0 Z = true) : ∀ d ∈ StrChars.Road.wordsEq, d.before a0 Z = true := fun d hd => hw d ((show ∀ d ∈ StrChars.Road.wordsEq, d ∈ tables_1 by decide +kernel) d hd)
theorem own_r10 (x : Int32) : ¬ ((x &&& (2147483647 : Int32)) % (10 : Int32)) < 0 := by
  have h1 := c_mask x 2147483647 31 (by decide) (by decide)
  have h2 := (c_irem (x &&& 2147483647) 10 10 (by decide)).1 (by rw [h1]; omega)
  simp only [Int32.lt_iff_toInt_lt, Int32.reduceToInt] at *
  omega
theorem own_clamp {j n : Int32} {k : Nat} (h0 : ¬ j < 0) (h1 : j < n) (hn : n.toInt = k) : j.toNatClampNeg < k := by
  simp only [Int32.lt_iff_toInt_lt, Int32.toNatClampNeg, Int32.reduceToInt] at *
  omega
def own_c1 (s : Slot) : Prop := s = .unset ∨ (∃ a : Addr, s = .val (.ref a)) ∨ ∃ i : Int32, s = .val (.int i)
theorem eqN_v {args : Array Value} {first s : State} {o : Option Outcome} {idx : List Nat} {t : Term} (h : (Jvm.Cond.eq t .null).value args first o s idx = some true) : t.eval args first o idx s = some .null := by
  simp only [Cond.value, Term.eval] at h
  cases ht : t.eval args first o idx s with
  | none => simp [ht] at h
  | some v => cases v <;> simp [ht] at h ⊢
theorem pn_1 : plainName "java/util/Optional" = true := by first | (simp [plainName, overriddenIn]; done) | decide +kernel
theorem ef_rEm (m : MethodId)  : entryFrame m #[] 1 = mkF m 0 #[.unset] [] := by first | (simp [entryFrame, mkF, argsToLocals, Value.category]; done) | rfl
theorem d10_0 : Dc jdk_32_method_1_code 0 (.getstatic 1) 3 3 := ⟨by decide +kernel, rfl⟩
theorem d10_3 : Dc jdk_32_method_1_code 3 (.astore_n 0) 1 4 := ⟨by decide +kernel, rfl⟩
theorem d10_4 : Dc jdk_32_method_1_code 4 (.aload_n 0) 1 5 := ⟨by decide +kernel, rfl⟩
theorem d10_5 : Dc jdk_32_method_1_code 5 (.areturn) 1 6 := ⟨by decide +kernel, rfl⟩
theorem rEm (l : Launch) {Z : State} {a0 : Array Value} (hw : ∀ d ∈ tables_1, d.before a0 Z = true) {h : Heap} (hE : Ext Z.heap h)  (oe : Addr) (SE : Sta Z Z.heap "java/util/Optional" "EMPTY" "Ljava/util/Optional;" (.ref oe)) (EE : Exa Z Z.heap oe "java/util/Optional") (FE : Fld Z Z.heap oe "java/util/Optional" "value" "Ljava/lang/Object;" .null)  :
    Con l (⟨"java/util/Optional", "empty", "()Ljava/util/Optional;"⟩ : MethodName) jdk_32_method_1_code 1 (some (.object "java/util/Optional")) [] ({ frames := 0, cells := 0, slots := 0, locals := 0 } : Room) Z #[] h (fun v' h' => v' = some (.ref oe) ∧ h' = h) := by
  refine con_of (plainFor_of_name pn_1) hE (fun m => ef_rEm m ) ?_
  intro p e s m below meth c T0 C X0
  have C : Cx p s m meth c Z "java/util/Optional" "empty" jdk_32_method_1_code 1 (some (.object "java/util/Optional")) := C
  show Goes p e below _ T0 (mkF m 0 #[.unset] [])
  refine g_getstatic (host := "") C X0 (Or.inl (wd hw 53 rfl)) Via.refl SE d10_0 (fun T32 X32 => ?_)
  refine g_astoreN C X32 d10_3 rfl (l' := #[.val (.ref oe)]) rfl (g_aloadN C X32 d10_4 rfl rfl ?_)
  exact g_retA C X32 rfl rfl d10_5 (by decide) (by decide) ⟨rfl, rfl⟩
theorem pn_2 : plainName "java/util/Objects" = true := by first | (simp [plainName, overriddenIn]; done) | decide +kernel
theorem ef_rReq (m : MethodId) (a : Addr) : entryFrame m #[(.ref a)] 1 = mkF m 0 #[.val (.ref a)] [] := by first | (simp [entryFrame, mkF, argsToLocals, Value.category]; done) | rfl
theorem d18_0 : Dc jdk_31_method_10_code 0 (.aload_n 0) 1 1 := ⟨by decide +kernel, rfl⟩
theorem d18_1 : Dj jdk_31_method_10_code 1 (.ifnonnull 11) 11 3 4 12 := ⟨by decide +kernel, rfl, by decide, by decide⟩
theorem d18_12 : Dc jdk_31_method_10_code 12 (.aload_n 0) 1 13 := ⟨by decide +kernel, rfl⟩
theorem d18_13 : Dc jdk_31_method_10_code 13 (.areturn) 1 14 := ⟨by decide +kernel, rfl⟩
theorem rReq (l : Launch) {Z : State} {a0 : Array Value} (hw : ∀ d ∈ tables_1, d.before a0 Z = true) {h : Heap} (hE : Ext Z.heap h) (a : Addr)   :
    Con l (⟨"java/util/Objects", "requireNonNull", "(Ljava/lang/Object;)Ljava/lang/Object;"⟩ : MethodName) jdk_31_method_10_code 1 (some (.object "java/lang/Object")) [] ({ frames := 0, cells := 0, slots := 0, locals := 0 } : Room) Z #[(.ref a)] h (fun v' h' => v' = some (.ref a) ∧ h' = h) := by
  refine con_of (plainFor_of_name pn_2) hE (fun m => ef_rReq m a) ?_
  intro p e s m below meth c T0 C X0
  have C : Cx p s m meth c Z "java/util/Objects" "requireNonNull" jdk_31_method_10_code 1 (some (.object "java/lang/Object")) := C
  show Goes p e below _ T0 (mkF m 0 #[.val (.ref a)] [])
  refine g_aloadN C X0 d18_0 rfl rfl (g_ifnonnull C X0 d18_1 rfl (fun _ => ?_) (fun q => absurd q nofun))
  refine g_aloadN C X0 d18_12 rfl rfl ?_
  exact g_retA C X0 rfl rfl d18_13 (by decide) (by decide) ⟨rfl, rfl⟩
theorem ef_rOi (m : MethodId) (a : Addr) (v : Addr) : entryFrame m #[(.ref a), (.ref v)] 2 = mkF m 0 #[.val (.ref a), .val (.ref v)] [] := by first | (simp [entryFrame, mkF, argsToLocals, Value.category]; done) | rfl
theorem d19_0 : Dc jdk_32_method_2_code 0 (.aload_n 0) 1 1 := ⟨by decide +kernel, rfl⟩
theorem d19_1 : Dc jdk_32_method_2_code 1 (.invokespecial 7) 3 4 := ⟨by decide +kernel, rfl⟩
theorem d19_4 : Dc jdk_32_method_2_code 4 (.aload_n 0) 1 5 := ⟨by decide +kernel, rfl⟩
theorem d19_5 : Dc jdk_32_method_2_code 5 (.aload_n 1) 1 6 := ⟨by decide +kernel, rfl⟩
theorem d19_6 : Dc jdk_32_method_2_code 6 (.putfield 13) 3 9 := ⟨by decide +kernel, rfl⟩
theorem d19_9 : Dc jdk_32_method_2_code 9 (.return_) 1 10 := ⟨by decide +kernel, rfl⟩
theorem rOi (l : Launch) {Z : State} {a0 : Array Value} (hw : ∀ d ∈ tables_1, d.before a0 Z = true) {h : Heap} (hE : Ext Z.heap h) (a : Addr) (v : Addr)  (E : Exa Z h a "java/util/Optional") (F : Fld Z h a "java/util/Optional" "value" "Ljava/lang/Object;" .null) (hn : Z.heap.size ≤ a) :
    Con l (⟨"java/util/Optional", "<init>", "(Ljava/lang/Object;)V"⟩ : MethodName) jdk_32_method_2_code 2 none [] ({ frames := 1, cells := 0, slots := 0, locals := 14 } : Room) Z #[(.ref a), (.ref v)] h (fun v' h' => v' = none ∧ Keep h h' [a] ∧ Fld Z h' a "java/util/Optional" "value" "Ljava/lang/Object;" (.ref v)) := by
  refine con_of (plainFor_of_name pn_1) hE (fun m => ef_rOi m a v) ?_
  intro p e s m below meth c T0 C X0
  have C : Cx p s m meth c Z "java/util/Optional" "<init>" jdk_32_method_2_code 2 none := C
  show Goes p e below _ T0 (mkF m 0 #[.val (.ref a), .val (.ref v)] [])
  refine g_aloadN C X0 d19_0 rfl rfl (g_initO C X0 (wd hw 106 rfl) (wd hw 13 rfl) (wd hw 14 rfl) rfl d19_1 (by decide) 0 (Nat.le_of_eq rfl) (by decide) (fun T33 X33 => ?_))
  refine g_aloadN C X33 d19_4 rfl rfl (g_aloadN C X33 d19_5 rfl rfl (g_putfield (host := "") C X33 (Or.inl (wd hw 79 rfl)) Via.refl F E (Or.inr ⟨(wd hw 80 rfl), rfl, rfl⟩) (wd hw 97 rfl) (ty := (.object "java/lang/Object")) (by decide) rfl rfl hn d19_6 (fun T34 h34 X34 W34 => ?_)))
  have f34 := Fld.same W34 F
  have kp35 := (Keep.refl h [a]).wr W34 (Or.inl (by simp))
  exact g_retV C X34 d19_9 (by decide) (by decide) ⟨rfl, kp35, f34⟩
theorem ef_rOf (m : MethodId) (v : Addr) : entryFrame m #[(.ref v)] 1 = mkF m 0 #[.val (.ref v)] [] := by first | (simp [entryFrame, mkF, argsToLocals, Value.category]; done) | rfl
theorem d17_0 : Dc jdk_32_method_3_code 0 (.new 2) 3 3 := ⟨by decide +kernel, rfl⟩
theorem d17_3 : Dc jdk_32_method_3_code 3 (.dup) 1 4 := ⟨by decide +kernel, rfl⟩
theorem d17_4 : Dc jdk_32_method_3_code 4 (.aload_n 0) 1 5 := ⟨by decide +kernel, rfl⟩
theorem d17_5 : Dc jdk_32_method_3_code 5 (.invokestatic 17) 3 8 := ⟨by decide +kernel, rfl⟩
theorem pd_1 : parseMethodDescriptor "(Ljava/lang/Object;)Ljava/lang/Object;" = some ⟨[(.object "java/lang/Object")], some (.object "java/lang/Object")⟩ := by decide +kernel
theorem d17_8 : Dc jdk_32_method_3_code 8 (.invokespecial 23) 3 11 := ⟨by decide +kernel, rfl⟩
theorem pd_2 : parseMethodDescriptor "(Ljava/lang/Object;)V" = some ⟨[(.object "java/lang/Object")], none⟩ := by decide +kernel
theorem d17_11 : Dc jdk_32_method_3_code 11 (.areturn) 1 12 := ⟨by decide +kernel, rfl⟩
theorem rOf (l : Launch) {Z : State} {a0 : Array Value} (hw : ∀ d ∈ tables_1, d.before a0 Z = true) {h : Heap} (hE : Ext Z.heap h) (v : Addr)   :
    Con l (⟨"java/util/Optional", "of", "(Ljava/lang/Object;)Ljava/util/Optional;"⟩ : MethodName) jdk_32_method_3_code 1 (some (.object "java/util/Optional")) [] ({ frames := 2, cells := 1, slots := 1, locals := 30 } : Room) Z #[(.ref v)] h (fun v' h' => ∃ b, v' = some (.ref b) ∧ Z.heap.size ≤ b ∧ h.size ≤ b ∧ Ext h h' ∧ Exa Z h' b "java/util/Optional" ∧ Fld Z h' b "java/util/Optional" "value" "Ljava/lang/Object;" (.ref v)) := by
  refine con_of (plainFor_of_name pn_1) hE (fun m => ef_rOf m v) ?_
  intro p e s m below meth c T0 C X0
  have C : Cx p s m meth c Z "java/util/Optional" "of" jdk_32_method_3_code 1 (some (.object "java/util/Optional")) := C
  show Goes p e below _ T0 (mkF m 0 #[.val (.ref v)] [])
  refine g_new C X0 (wd hw 96 rfl) (wd hw 97 rfl) (wd hw 51 rfl) d17_0 (by decide) (by decide) (fun T36 h36 b36 g_b36 n_b36 X36 E36 A36 D36 M36 => ?_)
  have F_value_b36 : Fld Z h36 b36 "java/util/Optional" "value" "Ljava/lang/Object;" .null := D36 (Or.inr (wd hw 80 rfl)) (ty := (.object "java/lang/Object")) (by decide)
  refine g_dup C X36 d17_3 rfl (g_aloadN C X36 d17_4 rfl rfl (g_staticP (argsL := [(.ref v)]) (st := [(.ref b36), (.ref b36)]) C X36 (wd hw 98 rfl) (wd hw 99 rfl) (wd hw 100 rfl) (wd hw 101 rfl) (by decide) (pay_of (W' := 2) (rReq l hw X36.ext v) C.hZ (wd hw 101 rfl) (wd hw 100 rfl) (by decide) (by decide)) pd_1 rfl rfl _ rfl (Nat.le_of_eq rfl) d17_5 (by decide) (by decide) (fun T37 X37 => ?_)))
  refine g_special (argsL := [(.ref v)]) (st := [(.ref b36)]) C X37 rfl (wd hw 102 rfl) (wd hw 103 rfl) (wd hw 105 rfl) (by decide) (pay_of (W' := 1) (rOi l hw X37.ext b36 v A36 F_value_b36 n_b36) C.hZ (wd hw 105 rfl) (wd hw 51 rfl) (by decide) (by decide)) pd_2 rfl rfl _ rfl (Nat.le_of_eq rfl) d17_8 (by decide) (by decide) (fun T38 h38 v38 q38 X38 => ?_)
  obtain ⟨rfl, K38, F38⟩ := q38
  show Goes p e below _ T38 (mkF m 11 #[.val (.ref v)] [(.ref b36)])
  have sz39 : h.size ≤ b36 := by rw [g_b36]; exact (Keep.refl h []).1
  have kp40 := (Keep.refl h []).ext E36
  have kp41 := kp40.trans K38 (allS (Or.inr sz39) all0)
  have f42 := (Exa.keep A36 K38)
  exact g_retA C X38 rfl rfl d17_11 (by decide) (by decide) ⟨b36, rfl, n_b36, sz39, keep_ext kp41, f42, F38⟩
theorem ef_rIsN (m : MethodId) (a : Addr) : entryFrame m #[(.ref a)] 1 = mkF m 0 #[.val (.ref a)] [] := by first | (simp [entryFrame, mkF, argsToLocals, Value.category]; done) | rfl
theorem d12_0 : Dc jdk_32_method_6_code 0 (.aload_n 0) 1 1 := ⟨by decide +kernel, rfl⟩
theorem d12_1 : Dc jdk_32_method_6_code 1 (.getfield 13) 3 4 := ⟨by decide +kernel, rfl⟩
theorem d12_4 : Dj jdk_32_method_6_code 4 (.ifnull 7) 7 3 7 11 := ⟨by decide +kernel, rfl, by decide, by decide⟩
theorem d12_11 : Dc jdk_32_method_6_code 11 (.iconst 0) 1 12 := ⟨by decide +kernel, rfl⟩
theorem d12_12 : Dc jdk_32_method_6_code 12 (.ireturn) 1 13 := ⟨by decide +kernel, rfl⟩
theorem rIsN (l : Launch) {Z : State} {a0 : Array Value} (hw : ∀ d ∈ tables_1, d.before a0 Z = true) {h : Heap} (hE : Ext Z.heap h) (a : Addr)  (F : Fld Z h a "java/util/Optional" "value" "Ljava/lang/Object;" .null) :
    Con l (⟨"java/util/Optional", "isPresent", "()Z"⟩ : MethodName) jdk_32_method_6_code 1 (some .boolean) [] ({ frames := 0, cells := 0, slots := 0, locals := 0 } : Room) Z #[(.ref a)] h (fun v' h' => v' = some (.int 0) ∧ h' = h) := by
  refine con_of (plainFor_of_name pn_1) hE (fun m => ef_rIsN m a) ?_
  intro p e s m below meth c T0 C X0
  have C : Cx p s m meth c Z "java/util/Optional" "isPresent" jdk_32_method_6_code 1 (some .boolean) := C
  show Goes p e below _ T0 (mkF m 0 #[.val (.ref a)] [])
  refine g_aloadN C X0 d12_0 rfl rfl (g_getfield (host := "") C X0 (Or.inl (wd hw 79 rfl)) Via.refl F d12_1 (fun T43 X43 => ?_))
  refine g_ifnull C X43 d12_4 rfl (fun _ => ?_) (fun q => absurd rfl q)
  refine g_iconst 0 C X43 d12_11 rfl ?_
  exact g_retN C X43 (by simp) d12_12 (0 : Int32) rfl (by decide) (by decide) ⟨rfl, rfl⟩
theorem ef_rIsR (m : MethodId) (a : Addr) : entryFrame m #[(.ref a)] 1 = mkF m 0 #[.val (.ref a)] [] := by first | (simp [entryFrame, mkF, argsToLocals, Value.category]; done) | rfl
theorem d12_7 : Dc jdk_32_method_6_code 7 (.iconst 1) 1 8 := ⟨by decide +kernel, rfl⟩
theorem d12_8 : Dj jdk_32_method_6_code 8 (.goto 4) 4 3 11 12 := ⟨by decide +kernel, rfl, by decide, by decide⟩
theorem rIsR (l : Launch) {Z : State} {a0 : Array Value} (hw : ∀ d ∈ tables_1, d.before a0 Z = true) {h : Heap} (hE : Ext Z.heap h) (a : Addr) (v : Addr) (F : Fld Z h a "java/util/Optional" "value" "Ljava/lang/Object;" (.ref v)) :
    Con l (⟨"java/util/Optional", "isPresent", "()Z"⟩ : MethodName) jdk_32_method_6_code 1 (some .boolean) [] ({ frames := 0, cells := 0, slots := 0, locals := 0 } : Room) Z #[(.ref a)] h (fun v' h' => v' = some (.int 1) ∧ h' = h) := by
  refine con_of (plainFor_of_name pn_1) hE (fun m => ef_rIsR m a) ?_
  intro p e s m below meth c T0 C X0
  have C : Cx p s m meth c Z "java/util/Optional" "isPresent" jdk_32_method_6_code 1 (some .boolean) := C
  show Goes p e below _ T0 (mkF m 0 #[.val (.ref a)] [])
  refine g_aloadN C X0 d12_0 rfl rfl (g_getfield (host := "") C X0 (Or.inl (wd hw 79 rfl)) Via.refl F d12_1 (fun T44 X44 => ?_))
  refine g_ifnull C X44 d12_4 rfl (fun q => absurd q nofun) (fun _ => ?_)
  refine g_iconst 1 C X44 d12_7 rfl (g_goto C X44 d12_8 ?_)
  exact g_retN C X44 (by simp) d12_12 (1 : Int32) rfl (by decide) (by decide) ⟨rfl, rfl⟩
theorem ef_rGet (m : MethodId) (a : Addr) : entryFrame m #[(.ref a)] 1 = mkF m 0 #[.val (.ref a)] [] := by first | (simp [entryFrame, mkF, argsToLocals, Value.category]; done) | rfl
theorem d20_0 : Dc jdk_32_method_5_code 0 (.aload_n 0) 1 1 := ⟨by decide +kernel, rfl⟩
theorem d20_1 : Dc jdk_32_method_5_code 1 (.getfield 13) 3 4 := ⟨by decide +kernel, rfl⟩
theorem d20_4 : Dj jdk_32_method_5_code 4 (.ifnonnull 13) 13 3 7 17 := ⟨by decide +kernel, rfl, by decide, by decide⟩
theorem d20_17 : Dc jdk_32_method_5_code 17 (.aload_n 0) 1 18 := ⟨by decide +kernel, rfl⟩
theorem d20_18 : Dc jdk_32_method_5_code 18 (.getfield 13) 3 21 := ⟨by decide +kernel, rfl⟩
theorem d20_21 : Dc jdk_32_method_5_code 21 (.areturn) 1 22 := ⟨by decide +kernel, rfl⟩
theorem rGet (l : Launch) {Z : State} {a0 : Array Value} (hw : ∀ d ∈ tables_1, d.before a0 Z = true) {h : Heap} (hE : Ext Z.heap h) (a : Addr) (v : Addr) (F : Fld Z h a "java/util/Optional" "value" "Ljava/lang/Object;" (.ref v)) :
    Con l (⟨"java/util/Optional", "get", "()Ljava/lang/Object;"⟩ : MethodName) jdk_32_method_5_code 1 (some (.object "java/lang/Object")) [] ({ frames := 0, cells := 0, slots := 0, locals := 0 } : Room) Z #[(.ref a)] h (fun v' h' => v' = some (.ref v) ∧ h' = h) := by
  refine con_of (plainFor_of_name pn_1) hE (fun m => ef_rGet m a) ?_
  intro p e s m below meth c T0 C X0
  have C : Cx p s m meth c Z "java/util/Optional" "get" jdk_32_method_5_code 1 (some (.object "java/lang/Object")) := C
  show Goes p e below _ T0 (mkF m 0 #[.val (.ref a)] [])
  refine g_aloadN C X0 d20_0 rfl rfl (g_getfield (host := "") C X0 (Or.inl (wd hw 79 rfl)) Via.refl F d20_1 (fun T45 X45 => ?_))
  refine g_ifnonnull C X45 d20_4 rfl (fun _ => ?_) (fun q => absurd q nofun)
  refine g_aloadN C X45 d20_17 rfl rfl (g_getfield (host := "") C X45 (Or.inl (wd hw 79 rfl)) Via.refl F d20_18 (fun T46 X46 => ?_))
  exact g_retA C X46 rfl rfl d20_21 (by decide) (by decide) ⟨rfl, rfl⟩
theorem pn_3 : plainName "java/lang/StringLatin1" = true := by first | (simp [plainName, overriddenIn]; done) | decide +kernel
theorem ef_rCan (m : MethodId) (ch : Int32) : entryFrame m #[(.int ch)] 1 = mkF m 0 #[.val (.int ch)] [] := by first | (simp [entryFrame, mkF, argsToLocals, Value.category]; done) | rfl
theorem d14_0 : Dc jdk_43_method_3_code 0 (.iload_n 0) 1 1 := ⟨by decide +kernel, rfl⟩
theorem d14_1 : Dc jdk_43_method_3_code 1 (.sipush 255) 3 4 := ⟨by decide +kernel, rfl⟩
theorem d14_4 : Dj jdk_43_method_3_code 4 (.if_icmp .gt 7) 7 3 7 11 := ⟨by decide +kernel, rfl, by decide, by decide⟩
theorem d14_7 : Dc jdk_43_method_3_code 7 (.iconst 1) 1 8 := ⟨by decide +kernel, rfl⟩
theorem d14_8 : Dj jdk_43_method_3_code 8 (.goto 4) 4 3 11 12 := ⟨by decide +kernel, rfl, by decide, by decide⟩
theorem d14_12 : Dc jdk_43_method_3_code 12 (.ireturn) 1 13 := ⟨by decide +kernel, rfl⟩
theorem rCan (l : Launch) {Z : State} {a0 : Array Value} (hw : ∀ d ∈ tables_1, d.before a0 Z = true) {h : Heap} (hE : Ext Z.heap h) (ch : Int32)  (hc : ¬ ch < 0 ∧ ¬ (255 : Int32) < ch) :
    Con l (⟨"java/lang/StringLatin1", "canEncode", "(C)Z"⟩ : MethodName) jdk_43_method_3_code 1 (some .boolean) [] ({ frames := 0, cells := 0, slots := 0, locals := 0 } : Room) Z #[(.int ch)] h (fun v' h' => v' = some (.int 1) ∧ h' = h) := by
  refine con_of (plainFor_of_name pn_3) hE (fun m => ef_rCan m ch) ?_
  intro p e s m below meth c T0 C X0
  have C : Cx p s m meth c Z "java/lang/StringLatin1" "canEncode" jdk_43_method_3_code 1 (some .boolean) := C
  show Goes p e below _ T0 (mkF m 0 #[.val (.int ch)] [])
  refine g_iloadN C X0 d14_0 rfl (g_sipush 255 C X0 d14_1 rfl (g_icmp (hI_gt _ _) C X0 d14_4 (fun q => absurd q hc.2) (fun _ => ?_)))
  refine g_iconst 1 C X0 d14_7 rfl (g_goto C X0 d14_8 ?_)
  exact g_retN C X0 (by simp) d14_12 (1 : Int32) rfl (by decide) (by decide) ⟨rfl, rfl⟩
theorem own_nb (x : Int32) : Value.int (nar .byte x.toInt8.toInt32) = .int x.toInt8.toInt32 := by
  show Value.int x.toInt8.toInt32.toInt8.toInt32 = _
  simp
theorem ef_rTb (m : MethodId) (ch : Int32) : entryFrame m #[(.int ch)] 1 = mkF m 0 #[.val (.int ch)] [] := by first | (simp [entryFrame, mkF, argsToLocals, Value.category]; done) | rfl
theorem d15_0 : Dc jdk_43_method_46_code 0 (.iconst 1) 1 1 := ⟨by decide +kernel, rfl⟩
theorem d15_1 : Dc jdk_43_method_46_code 1 (.newarray .byte) 2 3 := ⟨by decide +kernel, rfl⟩
theorem d15_3 : Dc jdk_43_method_46_code 3 (.dup) 1 4 := ⟨by decide +kernel, rfl⟩
theorem d15_4 : Dc jdk_43_method_46_code 4 (.iconst 0) 1 5 := ⟨by decide +kernel, rfl⟩
theorem d15_5 : Dc jdk_43_method_46_code 5 (.iload_n 0) 1 6 := ⟨by decide +kernel, rfl⟩
theorem d15_6 : Dc jdk_43_method_46_code 6 (.i2b) 1 7 := ⟨by decide +kernel, rfl⟩
theorem d15_7 : Dc jdk_43_method_46_code 7 (.bastore) 1 8 := ⟨by decide +kernel, rfl⟩
theorem d15_8 : Dc jdk_43_method_46_code 8 (.areturn) 1 9 := ⟨by decide +kernel, rfl⟩
theorem rTb (l : Launch) {Z : State} {a0 : Array Value} (hw : ∀ d ∈ tables_1, d.before a0 Z = true) {h : Heap} (hE : Ext Z.heap h) (ch : Int32)   :
    Con l (⟨"java/lang/StringLatin1", "toBytes", "(C)[B"⟩ : MethodName) jdk_43_method_46_code 1 (some (.array .byte)) [] ({ frames := 0, cells := 1, slots := 1, locals := 0 } : Room) Z #[(.int ch)] h (fun v' h' => ∃ b kb, v' = some (.ref b) ∧ Z.heap.size ≤ b ∧ h.size ≤ b ∧ Ext h h' ∧ Arv Z h' b kb .byte 1 [.int (ch.toInt8.toInt32)] (.int (0 : Int32))) := by
  refine con_of (plainFor_of_name pn_3) hE (fun m => ef_rTb m ch) ?_
  intro p e s m below meth c T0 C X0
  have C : Cx p s m meth c Z "java/lang/StringLatin1" "toBytes" jdk_43_method_46_code 1 (some (.array .byte)) := C
  show Goes p e below _ T0 (mkF m 0 #[.val (.int ch)] [])
  refine g_iconst 1 C X0 d15_0 rfl (g_newarray C X0 (wd hw 20 rfl) d15_1 (by decide) 1 1 (by decide) (by decide) (by decide) (by decide) (fun T47 h47 b47 k_b47 g_b47 n_b47 X47 E47 V47 => ?_))
  have V_b47 : Arv Z h47 b47 k_b47 .byte (1 : Int32) [(.int 0)] (.int 0) := V47
  refine g_dup C X47 d15_3 rfl (g_iconst 0 C X47 d15_4 rfl (g_iloadN C X47 d15_5 rfl (g_i2b C X47 d15_6 (g_bastore C X47 V_b47 n_b47 d15_7 (by decide) (by decide) (Nat.le_of_ble_eq_true rfl) (.int (ch.toInt8.toInt32)) (own_nb _) (fun T48 h48 X48 W48 V48 => ?_)))))
  have V48_b47 : Arv Z h48 b47 k_b47 .byte (1 : Int32) [(.int (ch.toInt8.toInt32))] (.int 0) := V48
  have sz49 : h.size ≤ b47 := by rw [g_b47]; exact (Keep.refl h []).1
  have kp50 := (Keep.refl h []).ext E47
  have kp51 := kp50.wr W48 (Or.inr sz49)
  exact g_retA C X48 rfl rfl d15_8 (by decide) (by decide) ⟨b47, k_b47, rfl, n_b47, sz49, keep_ext kp51, V48_b47⟩
theorem ef_rIB (m : MethodId) (x : Addr) (t : Addr) : entryFrame m #[(.ref x), (.ref t), (.int 0)] 3 = mkF m 0 #[.val (.ref x), .val (.ref t), .val (.int 0)] [] := by first | (simp [entryFrame, mkF, argsToLocals, Value.category]; done) | rfl
theorem d16_0 : Dc jdk_42_method_151_code 0 (.aload_n 0) 1 1 := ⟨by decide +kernel, rfl⟩
theorem d16_1 : Dc jdk_42_method_151_code 1 (.invokespecial 1) 3 4 := ⟨by decide +kernel, rfl⟩
theorem d16_4 : Dc jdk_42_method_151_code 4 (.aload_n 0) 1 5 := ⟨by decide +kernel, rfl⟩
theorem d16_5 : Dc jdk_42_method_151_code 5 (.aload_n 1) 1 6 := ⟨by decide +kernel, rfl⟩
theorem d16_6 : Dc jdk_42_method_151_code 6 (.putfield 9) 3 9 := ⟨by decide +kernel, rfl⟩
theorem d16_9 : Dc jdk_42_method_151_code 9 (.aload_n 0) 1 10 := ⟨by decide +kernel, rfl⟩
theorem d16_10 : Dc jdk_42_method_151_code 10 (.iload_n 2) 1 11 := ⟨by decide +kernel, rfl⟩
theorem d16_11 : Dc jdk_42_method_151_code 11 (.putfield 15) 3 14 := ⟨by decide +kernel, rfl⟩
theorem d16_14 : Dc jdk_42_method_151_code 14 (.return_) 1 15 := ⟨by decide +kernel, rfl⟩
theorem rIB (l : Launch) {Z : State} {a0 : Array Value} (hw : ∀ d ∈ tables_1, d.before a0 Z = true) {h : Heap} (hE : Ext Z.heap h) (x : Addr) (t : Addr)  (E : Exa Z h x "java/lang/String") (FC : Fld Z h x "java/lang/String" "coder" "B" (.int (0 : Int32))) (FV : Fld Z h x "java/lang/String" "value" "[B" .null) (hn : Z.heap.size ≤ x) :
    Con l (⟨"java/lang/String", "<init>", "([BB)V"⟩ : MethodName) jdk_42_method_151_code 3 none [] ({ frames := 1, cells := 0, slots := 0, locals := 14 } : Room) Z #[(.ref x), (.ref t), (.int 0)] h (fun v' h' => v' = none ∧ Keep h h' [x] ∧ Exa Z h' x "java/lang/String" ∧ Fld Z h' x "java/lang/String" "coder" "B" (.int (0 : Int32)) ∧ Fld Z h' x "java/lang/String" "value" "[B" (.ref t)) := by
  refine con_of (plainFor_of_name pn_0) hE (fun m => ef_rIB m x t) ?_
  intro p e s m below meth c T0 C X0
  have C : Cx p s m meth c Z "java/lang/String" "<init>" jdk_42_method_151_code 3 none := C
  show Goes p e below _ T0 (mkF m 0 #[.val (.ref x), .val (.ref t), .val (.int 0)] [])
  refine g_aloadN C X0 d16_0 rfl rfl (g_initO C X0 (wd hw 12 rfl) (wd hw 13 rfl) (wd hw 14 rfl) rfl d16_1 (by decide) 0 (Nat.le_of_eq rfl) (by decide) (fun T52 X52 => ?_))
  refine g_aloadN C X52 d16_4 rfl rfl (g_aloadN C X52 d16_5 rfl rfl (g_putfield (host := "") C X52 (Or.inl (wd hw 29 rfl)) Via.refl FV E (Or.inr ⟨(wd hw 30 rfl), rfl, rfl⟩) (wd hw 3 rfl) (ty := (.array .byte)) (by decide) rfl rfl hn d16_6 (fun T53 h53 X53 W53 => ?_)))
  have f53 := Fld.same W53 FV
  refine g_aloadN C X53 d16_9 rfl rfl (g_iloadN C X53 d16_10 rfl ?_)
  have f54 := (Fld.other W53 FC (Or.inr (slot_ne (Or.inr (wd hw 28 rfl)) (Or.inr (wd hw 30 rfl)) (by decide) (t := .byte) (t' := (.array .byte)) (by decide) (by decide))))
  have f55 := (Exa.wr W53 E)
  refine g_putfield (host := "") C X53 (Or.inl (wd hw 27 rfl)) Via.refl f54 f55 (Or.inr ⟨(wd hw 28 rfl), rfl, rfl⟩) (wd hw 3 rfl) (ty := .byte) (by decide) rfl rfl hn d16_11 (fun T56 h56 X56 W56 => ?_)
  have f56 := Fld.same W56 f54
  have kp57 := (Keep.refl h [x]).wr W53 (Or.inl (by simp))
  have kp58 := kp57.wr W56 (Or.inl (by simp))
  have f59 := (Exa.wr W56 f55)
  have f60 := (Fld.other W56 f53 (Or.inr (slot_ne (Or.inr (wd hw 30 rfl)) (Or.inr (wd hw 28 rfl)) (by decide) (t := (.array .byte)) (t' := .byte) (by decide) (by decide))))
  exact g_retV C X56 d16_14 (by decide) (by decide) ⟨rfl, kp58, f59, f56, f60⟩
theorem ef_rVo (m : MethodId) (ch : Int32) : entryFrame m #[(.int ch)] 1 = mkF m 0 #[.val (.int ch)] [] := by first | (simp [entryFrame, mkF, argsToLocals, Value.category]; done) | rfl
theorem d13_0 : Dc jdk_42_method_139_code 0 (.getstatic 38) 3 3 := ⟨by decide +kernel, rfl⟩
theorem d13_3 : Dj jdk_42_method_139_code 3 (.ifCond .eq 23) 23 3 6 26 := ⟨by decide +kernel, rfl, by decide, by decide⟩
theorem d13_6 : Dc jdk_42_method_139_code 6 (.iload_n 0) 1 7 := ⟨by decide +kernel, rfl⟩
theorem d13_7 : Dc jdk_42_method_139_code 7 (.invokestatic 1015) 3 10 := ⟨by decide +kernel, rfl⟩
theorem pd_3 : parseMethodDescriptor "(C)Z" = some ⟨[.char], some .boolean⟩ := by decide +kernel
theorem d13_10 : Dj jdk_42_method_139_code 10 (.ifCond .eq 16) 16 3 13 26 := ⟨by decide +kernel, rfl, by decide, by decide⟩
theorem d13_13 : Dc jdk_42_method_139_code 13 (.new 10) 3 16 := ⟨by decide +kernel, rfl⟩
theorem d13_16 : Dc jdk_42_method_139_code 16 (.dup) 1 17 := ⟨by decide +kernel, rfl⟩
theorem d13_17 : Dc jdk_42_method_139_code 17 (.iload_n 0) 1 18 := ⟨by decide +kernel, rfl⟩
theorem d13_18 : Dc jdk_42_method_139_code 18 (.invokestatic 1018) 3 21 := ⟨by decide +kernel, rfl⟩
theorem pd_4 : parseMethodDescriptor "(C)[B" = some ⟨[.char], some (.array .byte)⟩ := by decide +kernel
theorem d13_21 : Dc jdk_42_method_139_code 21 (.iconst 0) 1 22 := ⟨by decide +kernel, rfl⟩
theorem d13_22 : Dc jdk_42_method_139_code 22 (.invokespecial 209) 3 25 := ⟨by decide +kernel, rfl⟩
theorem pd_5 : parseMethodDescriptor "([BB)V" = some ⟨[(.array .byte), .byte], none⟩ := by decide +kernel
theorem d13_25 : Dc jdk_42_method_139_code 25 (.areturn) 1 26 := ⟨by decide +kernel, rfl⟩
theorem rVo (l : Launch) {Z : State} {a0 : Array Value} (hw : ∀ d ∈ tables_1, d.before a0 Z = true) {h : Heap} (hE : Ext Z.heap h) (ch : Int32) (z_ : Int32) (SZ : Sta Z Z.heap "java/lang/String" "COMPACT_STRINGS" "Z" (.int z_)) (hz : ¬ z_ = 0) (hc : ¬ ch < 0 ∧ ¬ (255 : Int32) < ch) :
    Con l (⟨"java/lang/String", "valueOf", "(C)Ljava/lang/String;"⟩ : MethodName) jdk_42_method_139_code 1 (some (.object "java/lang/String")) [] ({ frames := 2, cells := 2, slots := 5, locals := 32 } : Room) Z #[(.int ch)] h (fun v' h' => ∃ x t kb, v' = some (.ref x) ∧ Z.heap.size ≤ x ∧ h.size ≤ x ∧ Ext h h' ∧ Exa Z h' x "java/lang/String" ∧ Fld Z h' x "java/lang/String" "coder" "B" (.int (0 : Int32)) ∧ Fld Z h' x "java/lang/String" "value" "[B" (.ref t) ∧ Arv Z h' t kb .byte 1 [.int (ch.toInt8.toInt32)] (.int (0 : Int32))) := by
  refine con_of (plainFor_of_name pn_0) hE (fun m => ef_rVo m ch) ?_
  intro p e s m below meth c T0 C X0
  have C : Cx p s m meth c Z "java/lang/String" "valueOf" jdk_42_method_139_code 1 (some (.object "java/lang/String")) := C
  show Goes p e below _ T0 (mkF m 0 #[.val (.int ch)] [])
  refine g_getstatic (host := "") C X0 (Or.inl (wd hw 15 rfl)) Via.refl SZ d13_0 (fun T61 X61 => ?_)
  refine g_if (h0_eq _) C X61 d13_3 (fun q => absurd q hz) (fun _ => ?_)
  refine g_iloadN C X61 d13_6 rfl (g_staticP (argsL := [(.int ch)]) (st := []) C X61 (wd hw 84 rfl) (wd hw 85 rfl) (wd hw 42 rfl) (wd hw 86 rfl) (by decide) (pay_of (W' := 0) (rCan l hw X61.ext ch hc) C.hZ (wd hw 86 rfl) (wd hw 42 rfl) (by decide) (by decide)) pd_3 rfl rfl _ rfl (Nat.le_of_eq rfl) d13_7 (by decide) (by decide) (fun T62 X62 => ?_))
  refine g_if (h0_eq _) C X62 d13_10 (fun q => absurd q (by decide)) (fun _ => ?_)
  refine g_new C X62 (wd hw 39 rfl) (wd hw 3 rfl) (wd hw 4 rfl) d13_13 (by decide) (by decide) (fun T63 h63 b63 g_b63 n_b63 X63 E63 A63 D63 M63 => ?_)
  have F_coder_b63 : Fld Z h63 b63 "java/lang/String" "coder" "B" (.int 0) := D63 (Or.inr (wd hw 28 rfl)) (ty := .byte) (by decide)
  have F_value_b63 : Fld Z h63 b63 "java/lang/String" "value" "[B" .null := D63 (Or.inr (wd hw 30 rfl)) (ty := (.array .byte)) (by decide)
  refine g_dup C X63 d13_16 rfl (g_iloadN C X63 d13_17 rfl (g_static (argsL := [(.int ch)]) (st := [(.ref b63), (.ref b63)]) C X63 (wd hw 87 rfl) (wd hw 88 rfl) (wd hw 42 rfl) (wd hw 89 rfl) (by decide) (pay_of (W' := 2) (rTb l hw X63.ext ch) C.hZ (wd hw 89 rfl) (wd hw 42 rfl) (by decide) (by decide)) pd_4 rfl rfl _ rfl (Nat.le_of_eq rfl) d13_18 (by decide) (by decide) (fun T64 h64 v64 q64 X64 => ?_)))
  obtain ⟨b64, k_b64, rfl, n_b64, g64, E64, V64⟩ := q64
  have lt65 : b63 < b64 := Nat.lt_of_lt_of_le (Exa.lt A63) g64
  show Goes p e below _ T64 (mkF m 21 #[.val (.int ch)] [(.ref b64), (.ref b63), (.ref b63)])
  refine g_iconst 0 C X64 d13_21 rfl ?_
  have f66 := (Exa.ext E64 A63)
  have f67 := (Fld.ext E64 F_coder_b63)
  have f68 := (Fld.ext E64 F_value_b63)
  refine g_special (argsL := [(.ref b64), (.int 0)]) (st := [(.ref b63)]) C X64 rfl (wd hw 90 rfl) (wd hw 91 rfl) (wd hw 92 rfl) (by decide) (pay_of (W' := 1) (rIB l hw X64.ext b63 b64 f66 f67 f68 n_b63) C.hZ (wd hw 92 rfl) (wd hw 4 rfl) (by decide) (by decide)) pd_5 rfl rfl _ rfl (Nat.le_of_eq rfl) d13_22 (by decide) (by decide) (fun T69 h69 v69 q69 X69 => ?_)
  obtain ⟨rfl, K69, E69, C69, F69⟩ := q69
  show Goes p e below _ T69 (mkF m 25 #[.val (.int ch)] [(.ref b63)])
  have sz70 : h.size ≤ b63 := by rw [g_b63]; exact (Keep.refl h []).1
  have kp71 := (Keep.refl h []).ext E63
  have kp72 := kp71.ext E64
  have kp73 := kp72.trans K69 (allS (Or.inr sz70) all0)
  have f74 := (Arv.keep V64 K69 (ninS (Nat.ne_of_gt lt65) nin0))
  exact g_retA C X69 rfl rfl d13_25 (by decide) (by decide) ⟨b63, b64, k_b64, rfl, n_b63, sz70, keep_ext kp73, E69, C69, F69, f74⟩
theorem pn_4 : plainName "com/example/synctoken/synctoken/lock/WriteLock$Scope" = true := by first | (simp [plainName, overriddenIn]; done) | decide +kernel
theorem ef_rVal (m : MethodId)  : entryFrame m #[] 0 = mkF m 0 #[] [] := by first | (simp [entryFrame, mkF, argsToLocals, Value.category]; done) | rfl
theorem d11_0 : Dc prog_12_method_1_code 0 (.getstatic 10) 3 3 := ⟨by decide +kernel, rfl⟩
theorem d11_3 : Dc prog_12_method_1_code 3 (.invokevirtual 14) 3 6 := ⟨by decide +kernel, rfl⟩
theorem d11_6 : Dc prog_12_method_1_code 6 (.checkcast 15) 3 9 := ⟨by decide +kernel, rfl⟩
theorem d11_9 : Dc prog_12_method_1_code 9 (.areturn) 1 10 := ⟨by decide +kernel, rfl⟩
theorem rVal (l : Launch) {Z : State} {a0 : Array Value} (hw : ∀ d ∈ tables_1, d.before a0 Z = true) {h : Heap} (hE : Ext Z.heap h)  (p_1 p_7 p_11 p_15 p_20 p_25 p_30 : Addr) (k_36 k_38 k_40 : ClassId) (S_3 : Sta Z Z.heap "com/example/synctoken/synctoken/lock/WriteLock$Scope" "$VALUES" "[Lcom/example/synctoken/synctoken/lock/WriteLock$Scope;" (.ref p_1)) (E_6 : Exa Z Z.heap p_1 "[Lcom/example/synctoken/synctoken/lock/WriteLock$Scope;") (S_9 : Sta Z Z.heap "com/example/synctoken/synctoken/lock/WriteLock$Scope" "EXCLUSIVE" "Lcom/example/synctoken/synctoken/lock/WriteLock$Scope;" (.ref p_7)) (E_10 : Exa Z Z.heap p_7 "com/example/synctoken/synctoken/lock/WriteLock$Scope") (S_13 : Sta Z Z.heap "com/example/synctoken/synctoken/lock/WriteLock$Scope" "SHARED" "Lcom/example/synctoken/synctoken/lock/WriteLock$Scope;" (.ref p_11)) (E_14 : Exa Z Z.heap p_11 "com/example/synctoken/synctoken/lock/WriteLock$Scope") (F_17 : Fld Z Z.heap p_7 "com/example/synctoken/synctoken/lock/WriteLock$Scope" "elementName" "Ljava/lang/String;" (.ref p_15)) (E_18 : Exa Z Z.heap p_15 "java/lang/String") (F_19 : Fld Z Z.heap p_15 "java/lang/String" "coder" "B" (.int 0)) (F_22 : Fld Z Z.heap p_15 "java/lang/String" "value" "[B" (.ref p_20)) (F_27 : Fld Z Z.heap p_11 "com/example/synctoken/synctoken/lock/WriteLock$Scope" "elementName" "Ljava/lang/String;" (.ref p_25)) (E_28 : Exa Z Z.heap p_25 "java/lang/String") (F_29 : Fld Z Z.heap p_25 "java/lang/String" "coder" "B" (.int 0)) (F_32 : Fld Z Z.heap p_25 "java/lang/String" "value" "[B" (.ref p_30)) (V_35 : Arv Z Z.heap p_1 k_36 (.object "com/example/synctoken/synctoken/lock/WriteLock$Scope") 2 [(.ref p_7), (.ref p_11)] .null) (V_37 : Arv Z Z.heap p_20 k_38 .byte 9 [(.int 101), (.int 120), (.int 99), (.int 108), (.int 117), (.int 115), (.int 105), (.int 118), (.int 101)] (.int 0)) (V_39 : Arv Z Z.heap p_30 k_40 .byte 6 [(.int 115), (.int 104), (.int 97), (.int 114), (.int 101), (.int 100)] (.int 0)) :
    Con l (⟨"com/example/synctoken/synctoken/lock/WriteLock$Scope", "values", "()[Lcom/example/synctoken/synctoken/lock/WriteLock$Scope;"⟩ : MethodName) prog_12_method_1_code 0 (some (.array (.object "com/example/synctoken/synctoken/lock/WriteLock$Scope"))) [] ({ frames := 1, cells := 1, slots := 2, locals := 14 } : Room) Z #[] h (fun v' h' => ∃ b, v' = some (.ref b) ∧ Z.heap.size ≤ b ∧ h.size ≤ b ∧ Ext h h' ∧ Arv Z h' b k_36 (.object "com/example/synctoken/synctoken/lock/WriteLock$Scope") 2 [(.ref p_7), (.ref p_11)] .null) := by
  refine con_of (plainFor_of_name pn_4) hE (fun m => ef_rVal m ) ?_
  intro p e s m below meth c T0 C X0
  have C : Cx p s m meth c Z "com/example/synctoken/synctoken/lock/WriteLock$Scope" "values" prog_12_method_1_code 0 (some (.array (.object "com/example/synctoken/synctoken/lock/WriteLock$Scope"))) := C
  show Goes p e below _ T0 (mkF m 0 #[] [])
  refine g_getstatic (host := "") C X0 (Or.inl (wd hw 57 rfl)) Via.refl S_3 d11_0 (fun T75 X75 => ?_)
  refine g_clone (cap := 2) C X75 (wd hw 59 rfl) (wd hw 60 rfl) (wd hw 64 rfl) (wd hw 62 rfl) (wd hw 63 rfl) (wd hw 65 rfl) (Arv.ext V_35 X75.ext) (Exa.ext X75.ext E_6) rfl d11_3 (by decide) 0 (Nat.le_of_eq rfl) (by decide) (by decide) (by decide) (by decide) (fun T76 h76 b76 g_b76 n_b76 X76 E76 V76 A76 => ?_)
  refine g_checkcast C X76 (wd hw 69 rfl) (Ins.self A76) d11_6 (fun T77 X77 => ?_)
  have sz78 : h.size ≤ b76 := by rw [g_b76]; exact (Keep.refl h []).1
  have kp79 := (Keep.refl h []).ext E76
  exact g_retA C X77 rfl rfl d11_9 (by decide) (by decide) ⟨b76, rfl, n_b76, sz78, keep_ext kp79, V76⟩
theorem ef_rNm (m : MethodId) (x : Addr) : entryFrame m #[(.ref x)] 6 = mkF m 0 #[.val (.ref x), .unset, .unset, .unset, .unset, .unset] [] := by first | (simp [entryFrame, mkF, argsToLocals, Value.category]; done) | rfl
theorem d9_0 : Dc prog_12_method_4_code 0 (.invokestatic 33) 3 3 := ⟨by decide +kernel, rfl⟩
theorem pd_6 : parseMethodDescriptor "()Ljava/util/Optional;" = some ⟨[], some (.object "java/util/Optional")⟩ := by decide +kernel
theorem d9_3 : Dc prog_12_method_4_code 3 (.astore_n 1) 1 4 := ⟨by decide +kernel, rfl⟩
theorem d9_4 : Dc prog_12_method_4_code 4 (.invokestatic 39) 3 7 := ⟨by decide +kernel, rfl⟩
theorem pd_7 : parseMethodDescriptor "()[Lcom/example/synctoken/synctoken/lock/WriteLock$Scope;" = some ⟨[], some (.array (.object "com/example/synctoken/synctoken/lock/WriteLock$Scope"))⟩ := by decide +kernel
theorem d9_7 : Dc prog_12_method_4_code 7 (.astore_n 2) 1 8 := ⟨by decide +kernel, rfl⟩
theorem d9_8 : Dc prog_12_method_4_code 8 (.aload_n 2) 1 9 := ⟨by decide +kernel, rfl⟩
theorem d9_9 : Dc prog_12_method_4_code 9 (.arraylength) 1 10 := ⟨by decide +kernel, rfl⟩
theorem d9_10 : Dc prog_12_method_4_code 10 (.istore_n 3) 1 11 := ⟨by decide +kernel, rfl⟩
theorem d9_11 : Dc prog_12_method_4_code 11 (.iconst 0) 1 12 := ⟨by decide +kernel, rfl⟩
theorem d9_12 : Dc prog_12_method_4_code 12 (.istore 4) 2 14 := ⟨by decide +kernel, rfl⟩
theorem d9_14 : Dc prog_12_method_4_code 14 (.iload 4) 2 16 := ⟨by decide +kernel, rfl⟩
theorem d9_16 : Dc prog_12_method_4_code 16 (.iload_n 3) 1 17 := ⟨by decide +kernel, rfl⟩
theorem d9_17 : Dj prog_12_method_4_code 17 (.if_icmp .ge 33) 33 3 20 50 := ⟨by decide +kernel, rfl, by decide, by decide⟩
theorem d9_20 : Dc prog_12_method_4_code 20 (.aload_n 2) 1 21 := ⟨by decide +kernel, rfl⟩
theorem d9_21 : Dc prog_12_method_4_code 21 (.iload 4) 2 23 := ⟨by decide +kernel, rfl⟩
theorem d9_23 : Dc prog_12_method_4_code 23 (.aaload) 1 24 := ⟨by decide +kernel, rfl⟩
theorem d9_24 : Dc prog_12_method_4_code 24 (.astore 5) 2 26 := ⟨by decide +kernel, rfl⟩
theorem d9_26 : Dc prog_12_method_4_code 26 (.aload 5) 2 28 := ⟨by decide +kernel, rfl⟩
theorem d9_28 : Dc prog_12_method_4_code 28 (.getfield 29) 3 31 := ⟨by decide +kernel, rfl⟩
theorem d9_31 : Dc prog_12_method_4_code 31 (.aload_n 0) 1 32 := ⟨by decide +kernel, rfl⟩
theorem d9_32 : Dc prog_12_method_4_code 32 (.invokevirtual 43) 3 35 := ⟨by decide +kernel, rfl⟩
theorem pd_8 : parseMethodDescriptor "(Ljava/lang/Object;)Z" = some ⟨[(.object "java/lang/Object")], some .boolean⟩ := by decide +kernel
theorem d9_35 : Dj prog_12_method_4_code 35 (.ifCond .eq 9) 9 3 38 44 := ⟨by decide +kernel, rfl, by decide, by decide⟩
theorem d9_38 : Dc prog_12_method_4_code 38 (.aload 5) 2 40 := ⟨by decide +kernel, rfl⟩
theorem d9_40 : Dc prog_12_method_4_code 40 (.invokestatic 49) 3 43 := ⟨by decide +kernel, rfl⟩
theorem pd_9 : parseMethodDescriptor "(Ljava/lang/Object;)Ljava/util/Optional;" = some ⟨[(.object "java/lang/Object")], some (.object "java/util/Optional")⟩ := by decide +kernel
theorem d9_43 : Dc prog_12_method_4_code 43 (.astore_n 1) 1 44 := ⟨by decide +kernel, rfl⟩
theorem d9_44 : Dc prog_12_method_4_code 44 (.iinc 4 1) 3 47 := ⟨by decide +kernel, rfl⟩
theorem d9_47 : Dj prog_12_method_4_code 47 (.goto (-33)) (-33) 3 50 14 := ⟨by decide +kernel, rfl, by decide, by decide⟩
theorem d9_50 : Dc prog_12_method_4_code 50 (.aload_n 1) 1 51 := ⟨by decide +kernel, rfl⟩
theorem d9_51 : Dc prog_12_method_4_code 51 (.areturn) 1 52 := ⟨by decide +kernel, rfl⟩
theorem rNm (l : Launch) {Z : State} {a0 : Array Value} (hw : ∀ d ∈ tables_1, d.before a0 Z = true) {h : Heap} (hE : Ext Z.heap h) (x : Addr) (p_1 p_7 p_11 p_15 p_20 p_25 p_30 : Addr) (k_36 k_38 k_40 : ClassId) (z_ : Int32) (SZ : Sta Z Z.heap "java/lang/String" "COMPACT_STRINGS" "Z" (.int z_)) (hz : ¬ z_ = 0) (oe : Addr) (SE : Sta Z Z.heap "java/util/Optional" "EMPTY" "Ljava/util/Optional;" (.ref oe)) (EE : Exa Z Z.heap oe "java/util/Optional") (FE : Fld Z Z.heap oe "java/util/Optional" "value" "Ljava/lang/Object;" .null) (t : Addr) (kb : ClassId) (N_ : Int32) (vs : List Value) (cs : List Int32) (S_3 : Sta Z Z.heap "com/example/synctoken/synctoken/lock/WriteLock$Scope" "$VALUES" "[Lcom/example/synctoken/synctoken/lock/WriteLock$Scope;" (.ref p_1)) (E_6 : Exa Z Z.heap p_1 "[Lcom/example/synctoken/synctoken/lock/WriteLock$Scope;") (S_9 : Sta Z Z.heap "com/example/synctoken/synctoken/lock/WriteLock$Scope" "EXCLUSIVE" "Lcom/example/synctoken/synctoken/lock/WriteLock$Scope;" (.ref p_7)) (E_10 : Exa Z Z.heap p_7 "com/example/synctoken/synctoken/lock/WriteLock$Scope") (S_13 : Sta Z Z.heap "com/example/synctoken/synctoken/lock/WriteLock$Scope" "SHARED" "Lcom/example/synctoken/synctoken/lock/WriteLock$Scope;" (.ref p_11)) (E_14 : Exa Z Z.heap p_11 "com/example/synctoken/synctoken/lock/WriteLock$Scope") (F_17 : Fld Z Z.heap p_7 "com/example/synctoken/synctoken/lock/WriteLock$Scope" "elementName" "Ljava/lang/String;" (.ref p_15)) (E_18 : Exa Z Z.heap p_15 "java/lang/String") (F_19 : Fld Z Z.heap p_15 "java/lang/String" "coder" "B" (.int 0)) (F_22 : Fld Z Z.heap p_15 "java/lang/String" "value" "[B" (.ref p_20)) (F_27 : Fld Z Z.heap p_11 "com/example/synctoken/synctoken/lock/WriteLock$Scope" "elementName" "Ljava/lang/String;" (.ref p_25)) (E_28 : Exa Z Z.heap p_25 "java/lang/String") (F_29 : Fld Z Z.heap p_25 "java/lang/String" "coder" "B" (.int 0)) (F_32 : Fld Z Z.heap p_25 "java/lang/String" "value" "[B" (.ref p_30)) (V_35 : Arv Z Z.heap p_1 k_36 (.object "com/example/synctoken/synctoken/lock/WriteLock$Scope") 2 [(.ref p_7), (.ref p_11)] .null) (V_37 : Arv Z Z.heap p_20 k_38 .byte 9 [(.int 101), (.int 120), (.int 99), (.int 108), (.int 117), (.int 115), (.int 105), (.int 118), (.int 101)] (.int 0)) (V_39 : Arv Z Z.heap p_30 k_40 .byte 6 [(.int 115), (.int 104), (.int 97), (.int 114), (.int 101), (.int 100)] (.int 0)) (EX : Exa Z h x "java/lang/String") (FC : Fld Z h x "java/lang/String" "coder" "B" (.int (0 : Int32))) (FV : Fld Z h x "java/lang/String" "value" "[B" (.ref t)) (VT : Arv Z h t kb .byte N_ vs (.int (0 : Int32))) (hcod : StrChars.Road.CodA cs 0 N_ vs) (hcs : ∀ c ∈ cs, ¬ c < 0 ∧ ¬ (255 : Int32) < c) (hcl : cs.length ≤ 4000) :
    Con l (⟨"com/example/synctoken/synctoken/lock/WriteLock$Scope", "named", "(Ljava/lang/String;)Ljava/util/Optional;"⟩ : MethodName) prog_12_method_4_code 6 (some (.object "java/util/Optional")) [] ({ frames := 4, cells := 2, slots := 3, locals := 60 } : Room) Z #[(.ref x)] h (fun v' h' => ∃ b, v' = some (.ref b) ∧ Ext h h' ∧ Exa Z h' b "java/util/Optional" ∧ Fld Z h' b "java/util/Optional" "value" "Ljava/lang/Object;" (if cs = [(101 : Int32), (120 : Int32), (99 : Int32), (108 : Int32), (117 : Int32), (115 : Int32), (105 : Int32), (118 : Int32), (101 : Int32)] then .ref p_7 else if cs = [(115 : Int32), (104 : Int32), (97 : Int32), (114 : Int32), (101 : Int32), (100 : Int32)] then .ref p_11 else .null)) := by
  refine con_of (plainFor_of_name pn_4) hE (fun m => ef_rNm m x) ?_
  intro p e s m below meth c T0 C X0
  have C : Cx p s m meth c Z "com/example/synctoken/synctoken/lock/WriteLock$Scope" "named" prog_12_method_4_code 6 (some (.object "java/util/Optional")) := C
  show Goes p e below _ T0 (mkF m 0 #[.val (.ref x), .unset, .unset, .unset, .unset, .unset] [])
  refine g_staticP (argsL := []) (st := []) C X0 (wd hw 49 rfl) (wd hw 50 rfl) (wd hw 51 rfl) (wd hw 52 rfl) (by decide) (pay_of (W' := 0) (rEm l hw X0.ext oe SE EE FE) C.hZ (wd hw 52 rfl) (wd hw 51 rfl) (by decide) (by decide)) pd_6 rfl rfl _ rfl (Nat.le_of_eq rfl) d9_0 (by decide) (by decide) (fun T80 X80 => ?_)
  refine g_astoreN C X80 d9_3 rfl (l' := #[.val (.ref x), .val (.ref oe), .unset, .unset, .unset, .unset]) rfl (g_static (argsL := []) (st := []) C X80 (wd hw 54 rfl) (wd hw 55 rfl) (wd hw 47 rfl) (wd hw 56 rfl) (by decide) (pay_of (W' := 0) (rVal l hw X80.ext p_1 p_7 p_11 p_15 p_20 p_25 p_30 k_36 k_38 k_40 S_3 E_6 S_9 E_10 S_13 E_14 F_17 E_18 F_19 F_22 F_27 E_28 F_29 F_32 V_35 V_37 V_39) C.hZ (wd hw 56 rfl) (wd hw 47 rfl) (by decide) (by decide)) pd_7 rfl rfl _ rfl (Nat.le_of_eq rfl) d9_4 (by decide) (by decide) (fun T81 h81 v81 q81 X81 => ?_))
  obtain ⟨b81, rfl, n_b81, g81, E81, V81⟩ := q81
  show Goes p e below _ T81 (mkF m 7 #[.val (.ref x), .val (.ref oe), .unset, .unset, .unset, .unset] [(.ref b81)])
  refine g_astoreN C X81 d9_7 rfl (l' := #[.val (.ref x), .val (.ref oe), .val (.ref b81), .unset, .unset, .unset]) rfl (g_aloadN C X81 d9_8 rfl rfl (g_arraylength C X81 V81 d9_9 (g_istoreN C X81 d9_10 (l' := #[.val (.ref x), .val (.ref oe), .val (.ref b81), .val (.int 2), .unset, .unset]) rfl (g_iconst 0 C X81 d9_11 rfl (g_istore C X81 d9_12 (l' := #[.val (.ref x), .val (.ref oe), .val (.ref b81), .val (.int 2), .val (.int 0), .unset]) rfl (g_iload C X81 d9_14 rfl (g_iloadN C X81 d9_16 rfl (g_icmpn (hI_ge _ _) C X81 d9_17 (fun q => absurd (by decide) q) (fun _ => ?_)))))))))
  refine g_aloadN C X81 d9_20 rfl rfl (g_iload C X81 d9_21 rfl (g_aaload C X81 V81 rfl d9_23 (by decide) (by decide) rfl (g_astore C X81 d9_24 rfl (l' := #[.val (.ref x), .val (.ref oe), .val (.ref b81), .val (.int 2), .val (.int 0), .val (.ref p_7)]) rfl (g_aload C X81 d9_26 rfl rfl (g_getfield (host := "") C X81 (Or.inl (wd hw 71 rfl)) Via.refl (Fld.ext X81.ext F_17) d9_28 (fun T82 X82 => ?_))))))
  refine g_aloadN C X82 d9_31 rfl rfl ?_
  by_cases q83 : [(101 : Int32), (120 : Int32), (99 : Int32), (108 : Int32), (117 : Int32), (115 : Int32), (105 : Int32), (118 : Int32), (101 : Int32)] = cs
  · have f85 := (Exa.ext E81 EX)
    have f86 := (Fld.ext E81 FV)
    have f87 := (Fld.ext E81 FC)
    have f88 := (Arv.ext VT E81)
    refine g_virtualP (argsL := [(.ref x)]) (st := []) C X82 (wd hw 73 rfl) (wd hw 35 rfl) (nf_of C (wd hw 37 rfl) rfl rfl) (wd hw 37 rfl) (wd hw 36 rfl) (by decide) (Exa.ext X82.ext E_18) (payEq (W' := 0) C.hZ X82.ext (own_wordsEq hw) (kI := 4) (wd hw 3 rfl) (cs := [(101 : Int32), (120 : Int32), (99 : Int32), (108 : Int32), (117 : Int32), (115 : Int32), (105 : Int32), (118 : Int32), (101 : Int32)]) (Exa.ext X82.ext E_18) (Fld.ext X82.ext F_22) (Fld.ext X82.ext F_19) (Arv.ext V_37 X82.ext) (own_cod rfl rfl (by decide)) (by decide) (by decide) (ds := cs) f85 f86 f87 f88 hcod hcs hcl SZ hz (by decide) (by decide) 1 (fun _ => rfl) (fun q => absurd q83 q)) pd_8 rfl rfl _ rfl (Nat.le_of_eq rfl) d9_32 (by decide) (by decide) (fun T84 X84 => ?_)
    refine g_if (h0_eq _) C X84 d9_35 (fun q => absurd q (by decide)) (fun _ => ?_)
    refine g_aload C X84 d9_38 rfl rfl (g_static (argsL := [(.ref p_7)]) (st := []) C X84 (wd hw 93 rfl) (wd hw 94 rfl) (wd hw 51 rfl) (wd hw 95 rfl) (by decide) (pay_of (W' := 0) (rOf l hw X84.ext p_7) C.hZ (wd hw 95 rfl) (wd hw 51 rfl) (by decide) (by decide)) pd_9 rfl rfl _ rfl (Nat.le_of_eq rfl) d9_40 (by decide) (by decide) (fun T89 h89 v89 q89 X89 => ?_))
    obtain ⟨b89, rfl, n_b89, g89, E89, A89, F89⟩ := q89
    show Goes p e below _ T89 (mkF m 43 #[.val (.ref x), .val (.ref oe), .val (.ref b81), .val (.int 2), .val (.int 0), .val (.ref p_7)] [(.ref b89)])
    refine g_astoreN C X89 d9_43 rfl (l' := #[.val (.ref x), .val (.ref b89), .val (.ref b81), .val (.int 2), .val (.int 0), .val (.ref p_7)]) rfl (g_iinc 1 C X89 d9_44 rfl rfl (l' := #[.val (.ref x), .val (.ref b89), .val (.ref b81), .val (.int 2), .val (.int 1), .val (.ref p_7)]) rfl (g_goto C X89 d9_47 (g_iload C X89 d9_14 rfl (g_iloadN C X89 d9_16 rfl (g_icmpn (hI_ge _ _) C X89 d9_17 (fun q => absurd (by decide) q) (fun _ => ?_))))))
    refine g_aloadN C X89 d9_20 rfl rfl (g_iload C X89 d9_21 rfl ?_)
    have f90 := (Arv.ext V81 E89)
    refine g_aaload C X89 f90 rfl d9_23 (by decide) (by decide) rfl (g_astore C X89 d9_24 rfl (l' := #[.val (.ref x), .val (.ref b89), .val (.ref b81), .val (.int 2), .val (.int 1), .val (.ref p_11)]) rfl (g_aload C X89 d9_26 rfl rfl (g_getfield (host := "") C X89 (Or.inl (wd hw 71 rfl)) Via.refl (Fld.ext X89.ext F_27) d9_28 (fun T91 X91 => ?_))))
    refine g_aloadN C X91 d9_31 rfl rfl ?_
    have f93 := (Exa.ext E89 f85)
    have f94 := (Fld.ext E89 f86)
    have f95 := (Fld.ext E89 f87)
    have f96 := (Arv.ext f88 E89)
    refine g_virtualP (argsL := [(.ref x)]) (st := []) C X91 (wd hw 73 rfl) (wd hw 35 rfl) (nf_of C (wd hw 37 rfl) rfl rfl) (wd hw 37 rfl) (wd hw 36 rfl) (by decide) (Exa.ext X91.ext E_28) (payEq (W' := 0) C.hZ X91.ext (own_wordsEq hw) (kI := 4) (wd hw 3 rfl) (cs := [(115 : Int32), (104 : Int32), (97 : Int32), (114 : Int32), (101 : Int32), (100 : Int32)]) (Exa.ext X91.ext E_28) (Fld.ext X91.ext F_32) (Fld.ext X91.ext F_29) (Arv.ext V_39 X91.ext) (own_cod rfl rfl (by decide)) (by decide) (by decide) (ds := cs) f93 f94 f95 f96 hcod hcs hcl SZ hz (by decide) (by decide) 0 (fun q => absurd q (by rw [← q83]; decide)) (fun _ => rfl)) pd_8 rfl rfl _ rfl (Nat.le_of_eq rfl) d9_32 (by decide) (by decide) (fun T92 X92 => ?_)
    refine g_if (h0_eq _) C X92 d9_35 (fun _ => ?_) (fun q => absurd (by decide) q)
    refine g_iinc 1 C X92 d9_44 rfl rfl (l' := #[.val (.ref x), .val (.ref b89), .val (.ref b81), .val (.int 2), .val (.int 2), .val (.ref p_11)]) rfl (g_goto C X92 d9_47 (g_iload C X92 d9_14 rfl (g_iloadN C X92 d9_16 rfl (g_icmpn (hI_ge _ _) C X92 d9_17 (fun _ => ?_) (fun q => absurd q (by decide))))))
    refine g_aloadN C X92 d9_50 rfl rfl ?_
    have kp97 := (Keep.refl h []).ext E81
    have kp98 := kp97.ext E89
    exact g_retA C X92 rfl rfl d9_51 (by decide) (by decide) ⟨b89, rfl, keep_ext kp98, A89, by rw [if_pos (Eq.symm q83)]; exact F89⟩
  · have f100 := (Exa.ext E81 EX)
    have f101 := (Fld.ext E81 FV)
    have f102 := (Fld.ext E81 FC)
    have f103 := (Arv.ext VT E81)
    refine g_virtualP (argsL := [(.ref x)]) (st := []) C X82 (wd hw 73 rfl) (wd hw 35 rfl) (nf_of C (wd hw 37 rfl) rfl rfl) (wd hw 37 rfl) (wd hw 36 rfl) (by decide) (Exa.ext X82.ext E_18) (payEq (W' := 0) C.hZ X82.ext (own_wordsEq hw) (kI := 4) (wd hw 3 rfl) (cs := [(101 : Int32), (120 : Int32), (99 : Int32), (108 : Int32), (117 : Int32), (115 : Int32), (105 : Int32), (118 : Int32), (101 : Int32)]) (Exa.ext X82.ext E_18) (Fld.ext X82.ext F_22) (Fld.ext X82.ext F_19) (Arv.ext V_37 X82.ext) (own_cod rfl rfl (by decide)) (by decide) (by decide) (ds := cs) f100 f101 f102 f103 hcod hcs hcl SZ hz (by decide) (by decide) 0 (fun q => absurd q q83) (fun _ => rfl)) pd_8 rfl rfl _ rfl (Nat.le_of_eq rfl) d9_32 (by decide) (by decide) (fun T99 X99 => ?_)
    refine g_if (h0_eq _) C X99 d9_35 (fun _ => ?_) (fun q => absurd (by decide) q)
    refine g_iinc 1 C X99 d9_44 rfl rfl (l' := #[.val (.ref x), .val (.ref oe), .val (.ref b81), .val (.int 2), .val (.int 1), .val (.ref p_7)]) rfl (g_goto C X99 d9_47 (g_iload C X99 d9_14 rfl (g_iloadN C X99 d9_16 rfl (g_icmpn (hI_ge _ _) C X99 d9_17 (fun q => absurd (by decide) q) (fun _ => ?_)))))
    refine g_aloadN C X99 d9_20 rfl rfl (g_iload C X99 d9_21 rfl (g_aaload C X99 V81 rfl d9_23 (by decide) (by decide) rfl (g_astore C X99 d9_24 rfl (l' := #[.val (.ref x), .val (.ref oe), .val (.ref b81), .val (.int 2), .val (.int 1), .val (.ref p_11)]) rfl (g_aload C X99 d9_26 rfl rfl (g_getfield (host := "") C X99 (Or.inl (wd hw 71 rfl)) Via.refl (Fld.ext X99.ext F_27) d9_28 (fun T104 X104 => ?_))))))
    refine g_aloadN C X104 d9_31 rfl rfl ?_
    by_cases q105 : [(115 : Int32), (104 : Int32), (97 : Int32), (114 : Int32), (101 : Int32), (100 : Int32)] = cs
    · refine g_virtualP (argsL := [(.ref x)]) (st := []) C X104 (wd hw 73 rfl) (wd hw 35 rfl) (nf_of C (wd hw 37 rfl) rfl rfl) (wd hw 37 rfl) (wd hw 36 rfl) (by decide) (Exa.ext X104.ext E_28) (payEq (W' := 0) C.hZ X104.ext (own_wordsEq hw) (kI := 4) (wd hw 3 rfl) (cs := [(115 : Int32), (104 : Int32), (97 : Int32), (114 : Int32), (101 : Int32), (100 : Int32)]) (Exa.ext X104.ext E_28) (Fld.ext X104.ext F_32) (Fld.ext X104.ext F_29) (Arv.ext V_39 X104.ext) (own_cod rfl rfl (by decide)) (by decide) (by decide) (ds := cs) f100 f101 f102 f103 hcod hcs hcl SZ hz (by decide) (by decide) 1 (fun _ => rfl) (fun q => absurd q105 q)) pd_8 rfl rfl _ rfl (Nat.le_of_eq rfl) d9_32 (by decide) (by decide) (fun T106 X106 => ?_)
      refine g_if (h0_eq _) C X106 d9_35 (fun q => absurd q (by decide)) (fun _ => ?_)
      refine g_aload C X106 d9_38 rfl rfl (g_static (argsL := [(.ref p_11)]) (st := []) C X106 (wd hw 93 rfl) (wd hw 94 rfl) (wd hw 51 rfl) (wd hw 95 rfl) (by decide) (pay_of (W' := 0) (rOf l hw X106.ext p_11) C.hZ (wd hw 95 rfl) (wd hw 51 rfl) (by decide) (by decide)) pd_9 rfl rfl _ rfl (Nat.le_of_eq rfl) d9_40 (by decide) (by decide) (fun T107 h107 v107 q107 X107 => ?_))
      obtain ⟨b107, rfl, n_b107, g107, E107, A107, F107⟩ := q107
      show Goes p e below _ T107 (mkF m 43 #[.val (.ref x), .val (.ref oe), .val (.ref b81), .val (.int 2), .val (.int 1), .val (.ref p_11)] [(.ref b107)])
      refine g_astoreN C X107 d9_43 rfl (l' := #[.val (.ref x), .val (.ref b107), .val (.ref b81), .val (.int 2), .val (.int 1), .val (.ref p_11)]) rfl (g_iinc 1 C X107 d9_44 rfl rfl (l' := #[.val (.ref x), .val (.ref b107), .val (.ref b81), .val (.int 2), .val (.int 2), .val (.ref p_11)]) rfl (g_goto C X107 d9_47 (g_iload C X107 d9_14 rfl (g_iloadN C X107 d9_16 rfl (g_icmpn (hI_ge _ _) C X107 d9_17 (fun _ => ?_) (fun q => absurd q (by decide)))))))
      refine g_aloadN C X107 d9_50 rfl rfl ?_
      have kp108 := (Keep.refl h []).ext E81
      have kp109 := kp108.ext E107
      exact g_retA C X107 rfl rfl d9_51 (by decide) (by decide) ⟨b107, rfl, keep_ext kp109, A107, by rw [if_neg (Ne.symm q83), if_pos (Eq.symm q105)]; exact F107⟩
    · refine g_virtualP (argsL := [(.ref x)]) (st := []) C X104 (wd hw 73 rfl) (wd hw 35 rfl) (nf_of C (wd hw 37 rfl) rfl rfl) (wd hw 37 rfl) (wd hw 36 rfl) (by decide) (Exa.ext X104.ext E_28) (payEq (W' := 0) C.hZ X104.ext (own_wordsEq hw) (kI := 4) (wd hw 3 rfl) (cs := [(115 : Int32), (104 : Int32), (97 : Int32), (114 : Int32), (101 : Int32), (100 : Int32)]) (Exa.ext X104.ext E_28) (Fld.ext X104.ext F_32) (Fld.ext X104.ext F_29) (Arv.ext V_39 X104.ext) (own_cod rfl rfl (by decide)) (by decide) (by decide) (ds := cs) f100 f101 f102 f103 hcod hcs hcl SZ hz (by decide) (by decide) 0 (fun q => absurd q q105) (fun _ => rfl)) pd_8 rfl rfl _ rfl (Nat.le_of_eq rfl) d9_32 (by decide) (by decide) (fun T110 X110 => ?_)
      refine g_if (h0_eq _) C X110 d9_35 (fun _ => ?_) (fun q => absurd (by decide) q)
      refine g_iinc 1 C X110 d9_44 rfl rfl (l' := #[.val (.ref x), .val (.ref oe), .val (.ref b81), .val (.int 2), .val (.int 2), .val (.ref p_11)]) rfl (g_goto C X110 d9_47 (g_iload C X110 d9_14 rfl (g_iloadN C X110 d9_16 rfl (g_icmpn (hI_ge _ _) C X110 d9_17 (fun _ => ?_) (fun q => absurd q (by decide))))))
      refine g_aloadN C X110 d9_50 rfl rfl ?_
      have kp111 := (Keep.refl h []).ext E81
      exact g_retA C X110 rfl rfl d9_51 (by decide) (by decide) ⟨oe, rfl, keep_ext kp111, (Exa.ext X110.ext EE), by rw [if_neg (Ne.symm q83), if_neg (Ne.symm q105)]; exact (Fld.ext X110.ext FE)⟩
theorem d0_477 : Dc code 477 (.aload 9) 2 479 := ⟨at_477, rfl⟩
theorem d0_479 : Dc code 479 (.ldc 21) 2 481 := ⟨at_479, rfl⟩
theorem d0_481 : Dc code 481 (.invokevirtual 23) 3 484 := ⟨at_481, rfl⟩
theorem d0_484 : Dj code 484 (.ifCond .eq 7) 7 3 487 491 := ⟨at_484, rfl, by decide, by decide⟩
theorem d0_487 : Dc code 487 (.iconst 1) 1 488 := ⟨at_487, rfl⟩
theorem d0_488 : Dj code 488 (.goto 18) 18 3 491 506 := ⟨at_488, rfl, by decide, by decide⟩
theorem d0_506 : Dc code 506 (.istore 10) 2 508 := ⟨at_506, rfl⟩
theorem d0_508 : Dc code 508 (.aload 9) 2 510 := ⟨at_508, rfl⟩
theorem d0_510 : Dc code 510 (.invokestatic 29) 3 513 := ⟨at_510, rfl⟩
theorem pd_10 : parseMethodDescriptor "(Ljava/lang/String;)Ljava/util/Optional;" = some ⟨[(.object "java/lang/String")], some (.object "java/util/Optional")⟩ := by decide +kernel
theorem d0_513 : Dc code 513 (.astore 11) 2 515 := ⟨at_513, rfl⟩
theorem d0_515 : Dc code 515 (.iload 10) 2 517 := ⟨at_515, rfl⟩
theorem d0_517 : Dj code 517 (.ifCond .ne 17) 17 3 520 534 := ⟨at_517, rfl, by decide, by decide⟩
theorem d0_534 : Dc code 534 (.iload 10) 2 536 := ⟨at_534, rfl⟩
theorem d0_536 : Dc code 536 (.iconst 1) 1 537 := ⟨at_536, rfl⟩
theorem d0_537 : Dj code 537 (.if_icmp .ne 9) 9 3 540 546 := ⟨at_537, rfl, by decide, by decide⟩
theorem d0_540 : Dc code 540 (.getstatic 41) 3 543 := ⟨at_540, rfl⟩
theorem d0_543 : Dj code 543 (.goto 6) 6 3 546 549 := ⟨at_543, rfl, by decide, by decide⟩
theorem d0_549 : Dc code 549 (.astore 12) 2 551 := ⟨at_549, rfl⟩
theorem d0_551 : Dc code 551 (.aload 11) 2 553 := ⟨at_551, rfl⟩
theorem d0_553 : Dc code 553 (.invokevirtual 35) 3 556 := ⟨at_553, rfl⟩
theorem pd_11 : parseMethodDescriptor "()Z" = some ⟨[], some .boolean⟩ := by decide +kernel
theorem d0_556 : Dj code 556 (.ifCond .eq 17) 17 3 559 573 := ⟨at_556, rfl, by decide, by decide⟩
theorem d0_559 : Dc code 559 (.aload 11) 2 561 := ⟨at_559, rfl⟩
theorem d0_561 : Dc code 561 (.invokevirtual 48) 3 564 := ⟨at_561, rfl⟩
theorem pd_12 : parseMethodDescriptor "()Ljava/lang/Object;" = some ⟨[], some (.object "java/lang/Object")⟩ := by decide +kernel
theorem d0_564 : Dc code 564 (.aload 12) 2 566 := ⟨at_564, rfl⟩
theorem d0_566 : Dj code 566 (.if_acmp .ne 7) 7 3 569 573 := ⟨at_566, rfl, by decide, by decide⟩
theorem d0_569 : Dc code 569 (.iconst 1) 1 570 := ⟨at_569, rfl⟩
theorem d0_570 : Dj code 570 (.goto 4) 4 3 573 574 := ⟨at_570, rfl, by decide, by decide⟩
theorem d0_574 : Dc code 574 (.ireturn) 1 575 := ⟨at_574, rfl⟩
theorem d0_491 : Dc code 491 (.aload 9) 2 493 := ⟨at_491, rfl⟩
theorem d0_493 : Dc code 493 (.ldc 27) 2 495 := ⟨at_493, rfl⟩
theorem d0_495 : Dc code 495 (.invokevirtual 23) 3 498 := ⟨at_495, rfl⟩
theorem d0_498 : Dj code 498 (.ifCond .eq 7) 7 3 501 505 := ⟨at_498, rfl, by decide, by decide⟩
theorem d0_501 : Dc code 501 (.iconst 2) 1 502 := ⟨at_501, rfl⟩
theorem d0_502 : Dj code 502 (.goto 4) 4 3 505 506 := ⟨at_502, rfl, by decide, by decide⟩
theorem d0_546 : Dc code 546 (.getstatic 45) 3 549 := ⟨at_546, rfl⟩
theorem d0_505 : Dc code 505 (.iconst 0) 1 506 := ⟨at_505, rfl⟩
theorem d0_520 : Dc code 520 (.aload 11) 2 522 := ⟨at_520, rfl⟩
theorem d0_522 : Dc code 522 (.invokevirtual 35) 3 525 := ⟨at_522, rfl⟩
theorem d0_525 : Dj code 525 (.ifCond .ne 7) 7 3 528 532 := ⟨at_525, rfl, by decide, by decide⟩
theorem d0_528 : Dc code 528 (.iconst 1) 1 529 := ⟨at_528, rfl⟩
theorem d0_529 : Dj code 529 (.goto 4) 4 3 532 533 := ⟨at_529, rfl, by decide, by decide⟩
theorem d0_533 : Dc code 533 (.ireturn) 1 534 := ⟨at_533, rfl⟩
theorem segS {p : Program} {l : Launch} {e : Env} {s : State} {m : MethodId} {A : Array Value} {below : List Frame} {meth : Method} {c : Code} {Z : State} {a0 : Array Value} (hw : ∀ d ∈ tables_1, d.before a0 Z = true) {T0 : State} {h : Heap} {vm0 : Vm} (s0 s1 s2 s3 s4 s5 s6 s7 s8 s10 s11 : Slot) (h10 : own_c1 s10) (h11 : own_c1 s11) (p_1 p_7 p_11 p_15 p_20 p_25 p_30 : Addr) (k_36 k_38 k_40 : ClassId) (z_ : Int32) (SZ : Sta Z Z.heap "java/lang/String" "COMPACT_STRINGS" "Z" (.int z_)) (hz : ¬ z_ = 0) (oe : Addr) (SE : Sta Z Z.heap "java/util/Optional" "EMPTY" "Ljava/util/Optional;" (.ref oe)) (EE : Exa Z Z.heap oe "java/util/Optional") (FE : Fld Z Z.heap oe "java/util/Optional" "value" "Ljava/lang/Object;" .null) (x : Addr) (t : Addr) (kb : ClassId) (N_ : Int32) (vs : List Value) (cs : List Int32) (C : Cx p (s.setVm vm0) m meth c Z "com/example/synctoken/synctoken/lock/ScopeNamedPinLaw" "law" code maxLocals ret) (X0 : St p l e room_1 (s.setVm vm0) m A below meth c Z T0 h 8 200) (I0 : Lits Z consts_1 s vm0 h) (S_3 : Sta Z Z.heap "com/example/synctoken/synctoken/lock/WriteLock$Scope" "$VALUES" "[Lcom/example/synctoken/synctoken/lock/WriteLock$Scope;" (.ref p_1)) (E_6 : Exa Z Z.heap p_1 "[Lcom/example/synctoken/synctoken/lock/WriteLock$Scope;") (S_9 : Sta Z Z.heap "com/example/synctoken/synctoken/lock/WriteLock$Scope" "EXCLUSIVE" "Lcom/example/synctoken/synctoken/lock/WriteLock$Scope;" (.ref p_7)) (E_10 : Exa Z Z.heap p_7 "com/example/synctoken/synctoken/lock/WriteLock$Scope") (S_13 : Sta Z Z.heap "com/example/synctoken/synctoken/lock/WriteLock$Scope" "SHARED" "Lcom/example/synctoken/synctoken/lock/WriteLock$Scope;" (.ref p_11)) (E_14 : Exa Z Z.heap p_11 "com/example/synctoken/synctoken/lock/WriteLock$Scope") (F_17 : Fld Z Z.heap p_7 "com/example/synctoken/synctoken/lock/WriteLock$Scope" "elementName" "Ljava/lang/String;" (.ref p_15)) (E_18 : Exa Z Z.heap p_15 "java/lang/String") (F_19 : Fld Z Z.heap p_15 "java/lang/String" "coder" "B" (.int 0)) (F_22 : Fld Z Z.heap p_15 "java/lang/String" "value" "[B" (.ref p_20)) (F_27 : Fld Z Z.heap p_11 "com/example/synctoken/synctoken/lock/WriteLock$Scope" "elementName" "Ljava/lang/String;" (.ref p_25)) (E_28 : Exa Z Z.heap p_25 "java/lang/String") (F_29 : Fld Z Z.heap p_25 "java/lang/String" "coder" "B" (.int 0)) (F_32 : Fld Z Z.heap p_25 "java/lang/String" "value" "[B" (.ref p_30)) (V_35 : Arv Z Z.heap p_1 k_36 (.object "com/example/synctoken/synctoken/lock/WriteLock$Scope") 2 [(.ref p_7), (.ref p_11)] .null) (V_37 : Arv Z Z.heap p_20 k_38 .byte 9 [(.int 101), (.int 120), (.int 99), (.int 108), (.int 117), (.int 115), (.int 105), (.int 118), (.int 101)] (.int 0)) (V_39 : Arv Z Z.heap p_30 k_40 .byte 6 [(.int 115), (.int 104), (.int 97), (.int 114), (.int 101), (.int 100)] (.int 0)) (EX : Exa Z h x "java/lang/String") (FC : Fld Z h x "java/lang/String" "coder" "B" (.int (0 : Int32))) (FV : Fld Z h x "java/lang/String" "value" "[B" (.ref t)) (VT : Arv Z h t kb .byte N_ vs (.int (0 : Int32))) (hcod : StrChars.Road.CodA cs 0 N_ vs) (hcs : ∀ c ∈ cs, ¬ c < 0 ∧ ¬ (255 : Int32) < c) (hcl : cs.length ≤ 4000) :
    Goes p e below (EndL Z consts_1 s 32 5312 (fun v' h' => v' = some (.int 1))) T0 (mkF m 477 #[s0, s1, s2, s3, s4, s5, s6, s7, s8, .val (.ref x), s10, s11, .unset] []) := by
  refine g_aload C X0 d0_477 rfl rfl (g_ldcs 36 C X0 I0 (own_wS hw) (own_EW hw) (by decide +kernel) (wd hw 31 rfl) (vs := [(.int 101), (.int 120), (.int 99), (.int 108), (.int 117), (.int 115), (.int 105), (.int 118), (.int 101)]) (z := 9) ⟨by decide +kernel, by decide +kernel⟩ (by decide) rfl (by decide) (by decide) d0_479 (by decide) (by decide) (fun a112 T112 h112 t112 k_t112 C X112 I112 R112 E112 EA112 FC112 FV112 VA112 N112 => ?_))
  show Goes p e below _ T112 (mkF m 481 #[s0, s1, s2, s3, s4, s5, s6, s7, s8, .val (.ref x), s10, s11, .unset] [(.ref a112), (.ref x)])
  by_cases q113 : cs = [(101 : Int32), (120 : Int32), (99 : Int32), (108 : Int32), (117 : Int32), (115 : Int32), (105 : Int32), (118 : Int32), (101 : Int32)]
  · have f115 := (Exa.ext E112 EX)
    have f116 := (Fld.ext E112 FV)
    have f117 := (Fld.ext E112 FC)
    have f118 := (Arv.ext VT E112)
    refine g_virtualP (argsL := [(.ref a112)]) (st := []) C X112 (wd hw 34 rfl) (wd hw 35 rfl) (nf_of C (wd hw 37 rfl) rfl rfl) (wd hw 37 rfl) (wd hw 36 rfl) (by decide) f115 (payEq (W' := 0) C.hZ X112.ext (own_wordsEq hw) (kI := 4) (wd hw 3 rfl) (cs := cs) f115 f116 f117 f118 hcod hcs hcl (ds := [(101 : Int32), (120 : Int32), (99 : Int32), (108 : Int32), (117 : Int32), (115 : Int32), (105 : Int32), (118 : Int32), (101 : Int32)]) EA112 FV112 FC112 VA112 (own_cod rfl rfl (by decide)) (by decide) (by decide) SZ hz (by decide) (by decide) 1 (fun _ => rfl) (fun q => absurd q113 q)) pd_8 rfl rfl _ rfl (Nat.le_of_eq rfl) d0_481 (by decide) (by decide) (fun T114 X114 => ?_)
    refine g_if (h0_eq _) C X114 d0_484 (fun q => absurd q (by decide)) (fun _ => ?_)
    refine g_iconst 1 C X114 d0_487 rfl (g_goto C X114 d0_488 (g_istore C X114 d0_506 (l' := #[s0, s1, s2, s3, s4, s5, s6, s7, s8, .val (.ref x), .val (.int 1), s11, .unset]) (by rcases h10 with h | ⟨a, h⟩ | ⟨a, h⟩ <;> subst h <;> rfl) (g_aload C X114 d0_508 rfl rfl (g_static (argsL := [(.ref x)]) (st := []) C X114 (wd hw 45 rfl) (wd hw 46 rfl) (wd hw 47 rfl) (wd hw 48 rfl) (by decide) (pay_of (W' := 0) (rNm l hw X114.ext x p_1 p_7 p_11 p_15 p_20 p_25 p_30 k_36 k_38 k_40 z_ SZ hz oe SE EE FE t _ _ _ cs S_3 E_6 S_9 E_10 S_13 E_14 F_17 E_18 F_19 F_22 F_27 E_28 F_29 F_32 V_35 V_37 V_39 f115 f117 f116 f118 hcod hcs hcl) C.hZ (wd hw 48 rfl) (wd hw 47 rfl) (by decide) (by decide)) pd_10 rfl rfl _ rfl (Nat.le_of_eq rfl) d0_510 (by decide) (by decide) (fun T119 h119 v119 q119 X119 => ?_)))))
    obtain ⟨b119, rfl, E119, A119, F119⟩ := q119
    rw [if_pos q113] at F119
    show Goes p e below _ T119 (mkF m 513 #[s0, s1, s2, s3, s4, s5, s6, s7, s8, .val (.ref x), .val (.int 1), s11, .unset] [(.ref b119)])
    refine g_astore C X119 d0_513 rfl (l' := #[s0, s1, s2, s3, s4, s5, s6, s7, s8, .val (.ref x), .val (.int 1), .val (.ref b119), .unset]) (by rcases h11 with h | ⟨a, h⟩ | ⟨a, h⟩ <;> subst h <;> rfl) (g_iload C X119 d0_515 rfl (g_ifn (h0_ne _) C X119 d0_517 (fun _ => ?_) (fun q => absurd q (by decide))))
    refine g_iload C X119 d0_534 rfl (g_iconst 1 C X119 d0_536 rfl (g_icmpn (hI_ne _ _) C X119 d0_537 (fun q => absurd (by decide) q) (fun _ => ?_)))
    refine g_getstatic (host := "") C X119 (Or.inl (wd hw 115 rfl)) Via.refl S_9 d0_540 (fun T120 X120 => ?_)
    refine g_goto C X120 d0_543 (g_astore C X120 d0_549 rfl (l' := #[s0, s1, s2, s3, s4, s5, s6, s7, s8, .val (.ref x), .val (.int 1), .val (.ref b119), .val (.ref p_7)]) rfl (g_aload C X120 d0_551 rfl rfl (g_virtualP (argsL := []) (st := []) C X120 (wd hw 74 rfl) (wd hw 75 rfl) (nf_of C (wd hw 77 rfl) rfl rfl) (wd hw 77 rfl) (wd hw 76 rfl) (by decide) A119 (pay_of (W' := 0) (rIsR l hw X120.ext b119 p_7 F119) C.hZ (wd hw 78 rfl) (wd hw 51 rfl) (by decide) (by decide)) pd_11 rfl rfl _ rfl (Nat.le_of_eq rfl) d0_553 (by decide) (by decide) (fun T121 X121 => ?_))))
    refine g_if (h0_eq _) C X121 d0_556 (fun q => absurd q (by decide)) (fun _ => ?_)
    refine g_aload C X121 d0_559 rfl rfl (g_virtualP (argsL := []) (st := []) C X121 (wd hw 108 rfl) (wd hw 109 rfl) (nf_of C (wd hw 111 rfl) rfl rfl) (wd hw 111 rfl) (wd hw 110 rfl) (by decide) A119 (pay_of (W' := 0) (rGet l hw X121.ext b119 p_7 F119) C.hZ (wd hw 112 rfl) (wd hw 51 rfl) (by decide) (by decide)) pd_12 rfl rfl _ rfl (Nat.le_of_eq rfl) d0_561 (by decide) (by decide) (fun T122 X122 => ?_))
    refine g_aload C X122 d0_564 rfl rfl (g_acmpne C X122 d0_566 rfl rfl (fun q => absurd rfl q) (fun _ => ?_))
    refine g_iconst 1 C X122 d0_569 rfl (g_goto C X122 d0_570 ?_)
    have kp123 := (Keep.refl h112 []).ext E119
    have I124 := Lits.keep I112 kp123 sf0
    exact goes_L I124 (own_EW hw) C.hZ (g_retN C X122 (by simp) d0_574 (1 : Int32) rfl (by decide) (by decide) ⟨rfl, rfl⟩)
  · have f126 := (Exa.ext E112 EX)
    have f127 := (Fld.ext E112 FV)
    have f128 := (Fld.ext E112 FC)
    have f129 := (Arv.ext VT E112)
    refine g_virtualP (argsL := [(.ref a112)]) (st := []) C X112 (wd hw 34 rfl) (wd hw 35 rfl) (nf_of C (wd hw 37 rfl) rfl rfl) (wd hw 37 rfl) (wd hw 36 rfl) (by decide) f126 (payEq (W' := 0) C.hZ X112.ext (own_wordsEq hw) (kI := 4) (wd hw 3 rfl) (cs := cs) f126 f127 f128 f129 hcod hcs hcl (ds := [(101 : Int32), (120 : Int32), (99 : Int32), (108 : Int32), (117 : Int32), (115 : Int32), (105 : Int32), (118 : Int32), (101 : Int32)]) EA112 FV112 FC112 VA112 (own_cod rfl rfl (by decide)) (by decide) (by decide) SZ hz (by decide) (by decide) 0 (fun q => absurd q q113) (fun _ => rfl)) pd_8 rfl rfl _ rfl (Nat.le_of_eq rfl) d0_481 (by decide) (by decide) (fun T125 X125 => ?_)
    refine g_if (h0_eq _) C X125 d0_484 (fun _ => ?_) (fun q => absurd (by decide) q)
    refine g_aload C X125 d0_491 rfl rfl (g_ldcs 24 C X125 I112 (own_wS hw) (own_EW hw) (by decide +kernel) (wd hw 44 rfl) (vs := [(.int 115), (.int 104), (.int 97), (.int 114), (.int 101), (.int 100)]) (z := 6) ⟨by decide +kernel, by decide +kernel⟩ (by decide) rfl (by decide) (by decide) d0_493 (by decide) (by decide) (fun a130 T130 h130 t130 k_t130 C X130 I130 R130 E130 EA130 FC130 FV130 VA130 N130 => ?_))
    show Goes p e below _ T130 (mkF m 495 #[s0, s1, s2, s3, s4, s5, s6, s7, s8, .val (.ref x), s10, s11, .unset] [(.ref a130), (.ref x)])
    by_cases q131 : cs = [(115 : Int32), (104 : Int32), (97 : Int32), (114 : Int32), (101 : Int32), (100 : Int32)]
    · have f133 := (Exa.ext E130 f126)
      have f134 := (Fld.ext E130 f127)
      have f135 := (Fld.ext E130 f128)
      have f136 := (Arv.ext f129 E130)
      refine g_virtualP (argsL := [(.ref a130)]) (st := []) C X130 (wd hw 34 rfl) (wd hw 35 rfl) (nf_of C (wd hw 37 rfl) rfl rfl) (wd hw 37 rfl) (wd hw 36 rfl) (by decide) f133 (payEq (W' := 0) C.hZ X130.ext (own_wordsEq hw) (kI := 4) (wd hw 3 rfl) (cs := cs) f133 f134 f135 f136 hcod hcs hcl (ds := [(115 : Int32), (104 : Int32), (97 : Int32), (114 : Int32), (101 : Int32), (100 : Int32)]) EA130 FV130 FC130 VA130 (own_cod rfl rfl (by decide)) (by decide) (by decide) SZ hz (by decide) (by decide) 1 (fun _ => rfl) (fun q => absurd q131 q)) pd_8 rfl rfl _ rfl (Nat.le_of_eq rfl) d0_495 (by decide) (by decide) (fun T132 X132 => ?_)
      refine g_if (h0_eq _) C X132 d0_498 (fun q => absurd q (by decide)) (fun _ => ?_)
      refine g_iconst 2 C X132 d0_501 rfl (g_goto C X132 d0_502 (g_istore C X132 d0_506 (l' := #[s0, s1, s2, s3, s4, s5, s6, s7, s8, .val (.ref x), .val (.int 2), s11, .unset]) (by rcases h10 with h | ⟨a, h⟩ | ⟨a, h⟩ <;> subst h <;> rfl) (g_aload C X132 d0_508 rfl rfl (g_static (argsL := [(.ref x)]) (st := []) C X132 (wd hw 45 rfl) (wd hw 46 rfl) (wd hw 47 rfl) (wd hw 48 rfl) (by decide) (pay_of (W' := 0) (rNm l hw X132.ext x p_1 p_7 p_11 p_15 p_20 p_25 p_30 k_36 k_38 k_40 z_ SZ hz oe SE EE FE t _ _ _ cs S_3 E_6 S_9 E_10 S_13 E_14 F_17 E_18 F_19 F_22 F_27 E_28 F_29 F_32 V_35 V_37 V_39 f133 f135 f134 f136 hcod hcs hcl) C.hZ (wd hw 48 rfl) (wd hw 47 rfl) (by decide) (by decide)) pd_10 rfl rfl _ rfl (Nat.le_of_eq rfl) d0_510 (by decide) (by decide) (fun T137 h137 v137 q137 X137 => ?_)))))
      obtain ⟨b137, rfl, E137, A137, F137⟩ := q137
      rw [if_neg q113, if_pos q131] at F137
      show Goes p e below _ T137 (mkF m 513 #[s0, s1, s2, s3, s4, s5, s6, s7, s8, .val (.ref x), .val (.int 2), s11, .unset] [(.ref b137)])
      refine g_astore C X137 d0_513 rfl (l' := #[s0, s1, s2, s3, s4, s5, s6, s7, s8, .val (.ref x), .val (.int 2), .val (.ref b137), .unset]) (by rcases h11 with h | ⟨a, h⟩ | ⟨a, h⟩ <;> subst h <;> rfl) (g_iload C X137 d0_515 rfl (g_ifn (h0_ne _) C X137 d0_517 (fun _ => ?_) (fun q => absurd q (by decide))))
      refine g_iload C X137 d0_534 rfl (g_iconst 1 C X137 d0_536 rfl (g_icmpn (hI_ne _ _) C X137 d0_537 (fun _ => ?_) (fun q => absurd q (by decide))))
      refine g_getstatic (host := "") C X137 (Or.inl (wd hw 107 rfl)) Via.refl S_13 d0_546 (fun T138 X138 => ?_)
      refine g_astore C X138 d0_549 rfl (l' := #[s0, s1, s2, s3, s4, s5, s6, s7, s8, .val (.ref x), .val (.int 2), .val (.ref b137), .val (.ref p_11)]) rfl (g_aload C X138 d0_551 rfl rfl (g_virtualP (argsL := []) (st := []) C X138 (wd hw 74 rfl) (wd hw 75 rfl) (nf_of C (wd hw 77 rfl) rfl rfl) (wd hw 77 rfl) (wd hw 76 rfl) (by decide) A137 (pay_of (W' := 0) (rIsR l hw X138.ext b137 p_11 F137) C.hZ (wd hw 78 rfl) (wd hw 51 rfl) (by decide) (by decide)) pd_11 rfl rfl _ rfl (Nat.le_of_eq rfl) d0_553 (by decide) (by decide) (fun T139 X139 => ?_)))
      refine g_if (h0_eq _) C X139 d0_556 (fun q => absurd q (by decide)) (fun _ => ?_)
      refine g_aload C X139 d0_559 rfl rfl (g_virtualP (argsL := []) (st := []) C X139 (wd hw 108 rfl) (wd hw 109 rfl) (nf_of C (wd hw 111 rfl) rfl rfl) (wd hw 111 rfl) (wd hw 110 rfl) (by decide) A137 (pay_of (W' := 0) (rGet l hw X139.ext b137 p_11 F137) C.hZ (wd hw 112 rfl) (wd hw 51 rfl) (by decide) (by decide)) pd_12 rfl rfl _ rfl (Nat.le_of_eq rfl) d0_561 (by decide) (by decide) (fun T140 X140 => ?_))
      refine g_aload C X140 d0_564 rfl rfl (g_acmpne C X140 d0_566 rfl rfl (fun q => absurd rfl q) (fun _ => ?_))
      refine g_iconst 1 C X140 d0_569 rfl (g_goto C X140 d0_570 ?_)
      have kp141 := (Keep.refl h130 []).ext E137
      have I142 := Lits.keep I130 kp141 sf0
      exact goes_L I142 (own_EW hw) C.hZ (g_retN C X140 (by simp) d0_574 (1 : Int32) rfl (by decide) (by decide) ⟨rfl, rfl⟩)
    · have f144 := (Exa.ext E130 f126)
      have f145 := (Fld.ext E130 f127)
      have f146 := (Fld.ext E130 f128)
      have f147 := (Arv.ext f129 E130)
      refine g_virtualP (argsL := [(.ref a130)]) (st := []) C X130 (wd hw 34 rfl) (wd hw 35 rfl) (nf_of C (wd hw 37 rfl) rfl rfl) (wd hw 37 rfl) (wd hw 36 rfl) (by decide) f144 (payEq (W' := 0) C.hZ X130.ext (own_wordsEq hw) (kI := 4) (wd hw 3 rfl) (cs := cs) f144 f145 f146 f147 hcod hcs hcl (ds := [(115 : Int32), (104 : Int32), (97 : Int32), (114 : Int32), (101 : Int32), (100 : Int32)]) EA130 FV130 FC130 VA130 (own_cod rfl rfl (by decide)) (by decide) (by decide) SZ hz (by decide) (by decide) 0 (fun q => absurd q q131) (fun _ => rfl)) pd_8 rfl rfl _ rfl (Nat.le_of_eq rfl) d0_495 (by decide) (by decide) (fun T143 X143 => ?_)
      refine g_if (h0_eq _) C X143 d0_498 (fun _ => ?_) (fun q => absurd (by decide) q)
      refine g_iconst 0 C X143 d0_505 rfl (g_istore C X143 d0_506 (l' := #[s0, s1, s2, s3, s4, s5, s6, s7, s8, .val (.ref x), .val (.int 0), s11, .unset]) (by rcases h10 with h | ⟨a, h⟩ | ⟨a, h⟩ <;> subst h <;> rfl) (g_aload C X143 d0_508 rfl rfl (g_static (argsL := [(.ref x)]) (st := []) C X143 (wd hw 45 rfl) (wd hw 46 rfl) (wd hw 47 rfl) (wd hw 48 rfl) (by decide) (pay_of (W' := 0) (rNm l hw X143.ext x p_1 p_7 p_11 p_15 p_20 p_25 p_30 k_36 k_38 k_40 z_ SZ hz oe SE EE FE t _ _ _ cs S_3 E_6 S_9 E_10 S_13 E_14 F_17 E_18 F_19 F_22 F_27 E_28 F_29 F_32 V_35 V_37 V_39 f144 f146 f145 f147 hcod hcs hcl) C.hZ (wd hw 48 rfl) (wd hw 47 rfl) (by decide) (by decide)) pd_10 rfl rfl _ rfl (Nat.le_of_eq rfl) d0_510 (by decide) (by decide) (fun T148 h148 v148 q148 X148 => ?_))))
      obtain ⟨b148, rfl, E148, A148, F148⟩ := q148
      rw [if_neg q113, if_neg q131] at F148
      show Goes p e below _ T148 (mkF m 513 #[s0, s1, s2, s3, s4, s5, s6, s7, s8, .val (.ref x), .val (.int 0), s11, .unset] [(.ref b148)])
      refine g_astore C X148 d0_513 rfl (l' := #[s0, s1, s2, s3, s4, s5, s6, s7, s8, .val (.ref x), .val (.int 0), .val (.ref b148), .unset]) (by rcases h11 with h | ⟨a, h⟩ | ⟨a, h⟩ <;> subst h <;> rfl) (g_iload C X148 d0_515 rfl (g_ifn (h0_ne _) C X148 d0_517 (fun q => absurd (by decide) q) (fun _ => ?_)))
      refine g_aload C X148 d0_520 rfl rfl (g_virtualP (argsL := []) (st := []) C X148 (wd hw 74 rfl) (wd hw 75 rfl) (nf_of C (wd hw 77 rfl) rfl rfl) (wd hw 77 rfl) (wd hw 76 rfl) (by decide) A148 (pay_of (W' := 0) (rIsN l hw X148.ext b148 F148) C.hZ (wd hw 78 rfl) (wd hw 51 rfl) (by decide) (by decide)) pd_11 rfl rfl _ rfl (Nat.le_of_eq rfl) d0_522 (by decide) (by decide) (fun T149 X149 => ?_))
      refine g_ifn (h0_ne _) C X149 d0_525 (fun q => absurd (by decide) q) (fun _ => ?_)
      refine g_iconst 1 C X149 d0_528 rfl (g_goto C X149 d0_529 ?_)
      have kp150 := (Keep.refl h130 []).ext E148
      have I151 := Lits.keep I130 kp150 sf0
      exact goes_L I151 (own_EW hw) C.hZ (g_retN C X149 (by simp) d0_533 (1 : Int32) rfl (by decide) (by decide) ⟨rfl, rfl⟩)
theorem pn_5 : plainName "com/example/synctoken/synctoken/lock/ScopeNamedPinLaw" = true := by first | (simp [plainName, overriddenIn]; done) | decide +kernel
theorem ef_rm0 (m : MethodId) (p0 : Int32) (p1 : Int32) (p2 : Int32) (p3 : Int32) : entryFrame m #[(.int p0), (.int p1), (.int p2), (.int p3)] maxLocals = mkF m 0 #[.val (.int p0), .val (.int p1), .val (.int p2), .val (.int p3), .unset, .unset, .unset, .unset, .unset, .unset, .unset, .unset, .unset] [] := by first | (simp [entryFrame, mkF, argsToLocals, Value.category, maxLocals]; done) | rfl
theorem d0_0 : Dc code 0 (.iload_n 0) 1 1 := ⟨at_0, rfl⟩
theorem d0_1 : Dc code 1 (.iconst 3) 1 2 := ⟨at_1, rfl⟩
theorem d0_2 : Dc code 2 (.iand) 1 3 := ⟨at_2, rfl⟩
theorem d0_3 : Dc code 3 (.istore 4) 2 5 := ⟨at_3, rfl⟩
theorem d0_5 : Dc code 5 (.iload_n 1) 1 6 := ⟨at_5, rfl⟩
theorem d0_6 : Dc code 6 (.ldc 7) 2 8 := ⟨at_6, rfl⟩
theorem d0_8 : Dc code 8 (.iand) 1 9 := ⟨at_8, rfl⟩
theorem d0_9 : Dc code 9 (.bipush 10) 2 11 := ⟨at_9, rfl⟩
theorem d0_11 : Dc code 11 (.irem) 1 12 := ⟨at_11, rfl⟩
theorem d0_12 : Dc code 12 (.istore 5) 2 14 := ⟨at_12, rfl⟩
theorem d0_14 : Dc code 14 (.iload_n 2) 1 15 := ⟨at_14, rfl⟩
theorem d0_15 : Dc code 15 (.sipush 255) 3 18 := ⟨at_15, rfl⟩
theorem d0_18 : Dc code 18 (.iand) 1 19 := ⟨at_18, rfl⟩
theorem d0_19 : Dc code 19 (.i2c) 1 20 := ⟨at_19, rfl⟩
theorem d0_20 : Dc code 20 (.istore 6) 2 22 := ⟨at_20, rfl⟩
theorem d0_22 : Dc code 22 (.iload_n 3) 1 23 := ⟨at_22, rfl⟩
theorem d0_23 : Dc code 23 (.sipush 255) 3 26 := ⟨at_23, rfl⟩
theorem d0_26 : Dc code 26 (.iand) 1 27 := ⟨at_26, rfl⟩
theorem d0_27 : Dc code 27 (.i2c) 1 28 := ⟨at_27, rfl⟩
theorem d0_28 : Dc code 28 (.istore 7) 2 30 := ⟨at_28, rfl⟩
theorem d0_30 : Dc code 30 (.iload_n 3) 1 31 := ⟨at_30, rfl⟩
theorem d0_31 : Dc code 31 (.bipush 8) 2 33 := ⟨at_31, rfl⟩
theorem d0_33 : Dc code 33 (.iushr) 1 34 := ⟨at_33, rfl⟩
theorem d0_34 : Dc code 34 (.sipush 255) 3 37 := ⟨at_34, rfl⟩
theorem d0_37 : Dc code 37 (.iand) 1 38 := ⟨at_37, rfl⟩
theorem d0_38 : Dc code 38 (.i2c) 1 39 := ⟨at_38, rfl⟩
theorem d0_39 : Dc code 39 (.istore 8) 2 41 := ⟨at_39, rfl⟩
theorem d0_41 : Dc code 41 (.iload 4) 2 43 := ⟨at_41, rfl⟩
theorem d0_43 : Dj code 43 (.ifCond .ne 85) 85 3 46 128 := ⟨at_43, rfl, by decide, by decide⟩
theorem d0_128 : Dc code 128 (.iload 4) 2 130 := ⟨at_128, rfl⟩
theorem d0_130 : Dc code 130 (.iconst 1) 1 131 := ⟨at_130, rfl⟩
theorem d0_131 : Dj code 131 (.if_icmp .ne 67) 67 3 134 198 := ⟨at_131, rfl, by decide, by decide⟩
theorem d0_198 : Dc code 198 (.iload 4) 2 200 := ⟨at_198, rfl⟩
theorem d0_200 : Dc code 200 (.iconst 2) 1 201 := ⟨at_200, rfl⟩
theorem d0_201 : Dj code 201 (.if_icmp .ne 139) 139 3 204 340 := ⟨at_201, rfl, by decide, by decide⟩
theorem d0_340 : Dc code 340 (.iload_n 1) 1 341 := ⟨at_340, rfl⟩
theorem d0_341 : Dc code 341 (.ldc 7) 2 343 := ⟨at_341, rfl⟩
theorem d0_343 : Dc code 343 (.iand) 1 344 := ⟨at_343, rfl⟩
theorem d0_344 : Dc code 344 (.bipush 6) 2 346 := ⟨at_344, rfl⟩
theorem d0_346 : Dc code 346 (.irem) 1 347 := ⟨at_346, rfl⟩
theorem d0_347 : Dc code 347 (.istore 10) 2 349 := ⟨at_347, rfl⟩
theorem d0_349 : Dc code 349 (.iload 10) 2 351 := ⟨at_349, rfl⟩
theorem d0_351 : Dj code 351 (.ifCond .ne 18) 18 3 354 369 := ⟨at_351, rfl, by decide, by decide⟩
theorem d0_369 : Dc code 369 (.iload 10) 2 371 := ⟨at_369, rfl⟩
theorem d0_371 : Dc code 371 (.iconst 1) 1 372 := ⟨at_371, rfl⟩
theorem d0_372 : Dj code 372 (.if_icmp .ne 13) 13 3 375 385 := ⟨at_372, rfl, by decide, by decide⟩
theorem d0_385 : Dc code 385 (.iload 10) 2 387 := ⟨at_385, rfl⟩
theorem d0_387 : Dc code 387 (.iconst 2) 1 388 := ⟨at_387, rfl⟩
theorem d0_388 : Dj code 388 (.if_icmp .ne 32) 32 3 391 420 := ⟨at_388, rfl, by decide, by decide⟩
theorem d0_420 : Dc code 420 (.iload 10) 2 422 := ⟨at_420, rfl⟩
theorem d0_422 : Dc code 422 (.iconst 3) 1 423 := ⟨at_422, rfl⟩
theorem d0_423 : Dj code 423 (.if_icmp .ne 37) 37 3 426 460 := ⟨at_423, rfl, by decide, by decide⟩
theorem d0_460 : Dc code 460 (.iload 10) 2 462 := ⟨at_460, rfl⟩
theorem d0_462 : Dc code 462 (.iconst 4) 1 463 := ⟨at_462, rfl⟩
theorem d0_463 : Dj code 463 (.if_icmp .ne 10) 10 3 466 473 := ⟨at_463, rfl, by decide, by decide⟩
theorem d0_473 : Dc code 473 (.ldc 19) 2 475 := ⟨at_473, rfl⟩
theorem d0_475 : Dc code 475 (.astore 9) 2 477 := ⟨at_475, rfl⟩
theorem d0_466 : Dc code 466 (.ldc 17) 2 468 := ⟨at_466, rfl⟩
theorem d0_468 : Dc code 468 (.astore 9) 2 470 := ⟨at_468, rfl⟩
theorem d0_470 : Dj code 470 (.goto 7) 7 3 473 477 := ⟨at_470, rfl, by decide, by decide⟩
theorem d0_426 : Dc code 426 (.iconst 3) 1 427 := ⟨at_426, rfl⟩
theorem d0_427 : Dc code 427 (.newarray .char) 2 429 := ⟨at_427, rfl⟩
theorem d0_429 : Dc code 429 (.dup) 1 430 := ⟨at_429, rfl⟩
theorem d0_430 : Dc code 430 (.iconst 0) 1 431 := ⟨at_430, rfl⟩
theorem d0_431 : Dc code 431 (.iload 6) 2 433 := ⟨at_431, rfl⟩
theorem d0_433 : Dc code 433 (.castore) 1 434 := ⟨at_433, rfl⟩
theorem d0_434 : Dc code 434 (.dup) 1 435 := ⟨at_434, rfl⟩
theorem d0_435 : Dc code 435 (.iconst 1) 1 436 := ⟨at_435, rfl⟩
theorem d0_436 : Dc code 436 (.iload 7) 2 438 := ⟨at_436, rfl⟩
theorem d0_438 : Dc code 438 (.castore) 1 439 := ⟨at_438, rfl⟩
theorem d0_439 : Dc code 439 (.dup) 1 440 := ⟨at_439, rfl⟩
theorem d0_440 : Dc code 440 (.iconst 2) 1 441 := ⟨at_440, rfl⟩
theorem d0_441 : Dc code 441 (.iload 8) 2 443 := ⟨at_441, rfl⟩
theorem d0_443 : Dc code 443 (.castore) 1 444 := ⟨at_443, rfl⟩
theorem d0_444 : Dc code 444 (.astore 11) 2 446 := ⟨at_444, rfl⟩
theorem d0_446 : Dc code 446 (.new 8) 3 449 := ⟨at_446, rfl⟩
theorem d0_449 : Dc code 449 (.dup) 1 450 := ⟨at_449, rfl⟩
theorem d0_450 : Dc code 450 (.aload 11) 2 452 := ⟨at_450, rfl⟩
theorem d0_452 : Dc code 452 (.invokespecial 10) 3 455 := ⟨at_452, rfl⟩
theorem pd_13 : parseMethodDescriptor "([C)V" = some ⟨[(.array .char)], none⟩ := by decide +kernel
theorem d0_455 : Dc code 455 (.astore 9) 2 457 := ⟨at_455, rfl⟩
theorem d0_457 : Dj code 457 (.goto 20) 20 3 460 477 := ⟨at_457, rfl, by decide, by decide⟩
theorem d0_391 : Dc code 391 (.iconst 2) 1 392 := ⟨at_391, rfl⟩
theorem d0_392 : Dc code 392 (.newarray .char) 2 394 := ⟨at_392, rfl⟩
theorem d0_394 : Dc code 394 (.dup) 1 395 := ⟨at_394, rfl⟩
theorem d0_395 : Dc code 395 (.iconst 0) 1 396 := ⟨at_395, rfl⟩
theorem d0_396 : Dc code 396 (.iload 6) 2 398 := ⟨at_396, rfl⟩
theorem d0_398 : Dc code 398 (.castore) 1 399 := ⟨at_398, rfl⟩
theorem d0_399 : Dc code 399 (.dup) 1 400 := ⟨at_399, rfl⟩
theorem d0_400 : Dc code 400 (.iconst 1) 1 401 := ⟨at_400, rfl⟩
theorem d0_401 : Dc code 401 (.iload 7) 2 403 := ⟨at_401, rfl⟩
theorem d0_403 : Dc code 403 (.castore) 1 404 := ⟨at_403, rfl⟩
theorem d0_404 : Dc code 404 (.astore 11) 2 406 := ⟨at_404, rfl⟩
theorem d0_406 : Dc code 406 (.new 8) 3 409 := ⟨at_406, rfl⟩
theorem d0_409 : Dc code 409 (.dup) 1 410 := ⟨at_409, rfl⟩
theorem d0_410 : Dc code 410 (.aload 11) 2 412 := ⟨at_410, rfl⟩
theorem d0_412 : Dc code 412 (.invokespecial 10) 3 415 := ⟨at_412, rfl⟩
theorem d0_415 : Dc code 415 (.astore 9) 2 417 := ⟨at_415, rfl⟩
theorem d0_417 : Dj code 417 (.goto 60) 60 3 420 477 := ⟨at_417, rfl, by decide, by decide⟩
theorem d0_375 : Dc code 375 (.iload 6) 2 377 := ⟨at_375, rfl⟩
theorem d0_377 : Dc code 377 (.invokestatic 13) 3 380 := ⟨at_377, rfl⟩
theorem pd_14 : parseMethodDescriptor "(C)Ljava/lang/String;" = some ⟨[.char], some (.object "java/lang/String")⟩ := by decide +kernel
theorem d0_380 : Dc code 380 (.astore 9) 2 382 := ⟨at_380, rfl⟩
theorem d0_382 : Dj code 382 (.goto 95) 95 3 385 477 := ⟨at_382, rfl, by decide, by decide⟩
theorem d0_354 : Dc code 354 (.new 8) 3 357 := ⟨at_354, rfl⟩
theorem d0_357 : Dc code 357 (.dup) 1 358 := ⟨at_357, rfl⟩
theorem d0_358 : Dc code 358 (.iconst 0) 1 359 := ⟨at_358, rfl⟩
theorem d0_359 : Dc code 359 (.newarray .char) 2 361 := ⟨at_359, rfl⟩
theorem d0_361 : Dc code 361 (.invokespecial 10) 3 364 := ⟨at_361, rfl⟩
theorem d0_364 : Dc code 364 (.astore 9) 2 366 := ⟨at_364, rfl⟩
theorem d0_366 : Dj code 366 (.goto 111) 111 3 369 477 := ⟨at_366, rfl, by decide, by decide⟩
theorem d0_204 : Dc code 204 (.iload_n 1) 1 205 := ⟨at_204, rfl⟩
theorem d0_205 : Dc code 205 (.iconst 1) 1 206 := ⟨at_205, rfl⟩
theorem d0_206 : Dc code 206 (.iand) 1 207 := ⟨at_206, rfl⟩
theorem d0_207 : Dj code 207 (.ifCond .ne 77) 77 3 210 284 := ⟨at_207, rfl, by decide, by decide⟩
theorem d0_284 : Dc code 284 (.bipush 7) 2 286 := ⟨at_284, rfl⟩
theorem d0_286 : Dc code 286 (.newarray .char) 2 288 := ⟨at_286, rfl⟩
theorem d0_288 : Dc code 288 (.dup) 1 289 := ⟨at_288, rfl⟩
theorem d0_289 : Dc code 289 (.iconst 0) 1 290 := ⟨at_289, rfl⟩
theorem d0_290 : Dc code 290 (.bipush 115) 2 292 := ⟨at_290, rfl⟩
theorem d0_292 : Dc code 292 (.castore) 1 293 := ⟨at_292, rfl⟩
theorem d0_293 : Dc code 293 (.dup) 1 294 := ⟨at_293, rfl⟩
theorem d0_294 : Dc code 294 (.iconst 1) 1 295 := ⟨at_294, rfl⟩
theorem d0_295 : Dc code 295 (.bipush 104) 2 297 := ⟨at_295, rfl⟩
theorem d0_297 : Dc code 297 (.castore) 1 298 := ⟨at_297, rfl⟩
theorem d0_298 : Dc code 298 (.dup) 1 299 := ⟨at_298, rfl⟩
theorem d0_299 : Dc code 299 (.iconst 2) 1 300 := ⟨at_299, rfl⟩
theorem d0_300 : Dc code 300 (.bipush 97) 2 302 := ⟨at_300, rfl⟩
theorem d0_302 : Dc code 302 (.castore) 1 303 := ⟨at_302, rfl⟩
theorem d0_303 : Dc code 303 (.dup) 1 304 := ⟨at_303, rfl⟩
theorem d0_304 : Dc code 304 (.iconst 3) 1 305 := ⟨at_304, rfl⟩
theorem d0_305 : Dc code 305 (.bipush 114) 2 307 := ⟨at_305, rfl⟩
theorem d0_307 : Dc code 307 (.castore) 1 308 := ⟨at_307, rfl⟩
theorem d0_308 : Dc code 308 (.dup) 1 309 := ⟨at_308, rfl⟩
theorem d0_309 : Dc code 309 (.iconst 4) 1 310 := ⟨at_309, rfl⟩
theorem d0_310 : Dc code 310 (.bipush 101) 2 312 := ⟨at_310, rfl⟩
theorem d0_312 : Dc code 312 (.castore) 1 313 := ⟨at_312, rfl⟩
theorem d0_313 : Dc code 313 (.dup) 1 314 := ⟨at_313, rfl⟩
theorem d0_314 : Dc code 314 (.iconst 5) 1 315 := ⟨at_314, rfl⟩
theorem d0_315 : Dc code 315 (.bipush 100) 2 317 := ⟨at_315, rfl⟩
theorem d0_317 : Dc code 317 (.castore) 1 318 := ⟨at_317, rfl⟩
theorem d0_318 : Dc code 318 (.dup) 1 319 := ⟨at_318, rfl⟩
theorem d0_319 : Dc code 319 (.bipush 6) 2 321 := ⟨at_319, rfl⟩
theorem d0_321 : Dc code 321 (.iload 6) 2 323 := ⟨at_321, rfl⟩
theorem d0_323 : Dc code 323 (.castore) 1 324 := ⟨at_323, rfl⟩
theorem d0_324 : Dc code 324 (.astore 10) 2 326 := ⟨at_324, rfl⟩
theorem d0_326 : Dc code 326 (.new 8) 3 329 := ⟨at_326, rfl⟩
theorem d0_329 : Dc code 329 (.dup) 1 330 := ⟨at_329, rfl⟩
theorem d0_330 : Dc code 330 (.aload 10) 2 332 := ⟨at_330, rfl⟩
theorem d0_332 : Dc code 332 (.invokespecial 10) 3 335 := ⟨at_332, rfl⟩
theorem d0_335 : Dc code 335 (.astore 9) 2 337 := ⟨at_335, rfl⟩
theorem d0_337 : Dj code 337 (.goto 140) 140 3 340 477 := ⟨at_337, rfl, by decide, by decide⟩
theorem d0_210 : Dc code 210 (.bipush 10) 2 212 := ⟨at_210, rfl⟩
theorem d0_212 : Dc code 212 (.newarray .char) 2 214 := ⟨at_212, rfl⟩
theorem d0_214 : Dc code 214 (.dup) 1 215 := ⟨at_214, rfl⟩
theorem d0_215 : Dc code 215 (.iconst 0) 1 216 := ⟨at_215, rfl⟩
theorem d0_216 : Dc code 216 (.bipush 101) 2 218 := ⟨at_216, rfl⟩
theorem d0_218 : Dc code 218 (.castore) 1 219 := ⟨at_218, rfl⟩
theorem d0_219 : Dc code 219 (.dup) 1 220 := ⟨at_219, rfl⟩
theorem d0_220 : Dc code 220 (.iconst 1) 1 221 := ⟨at_220, rfl⟩
theorem d0_221 : Dc code 221 (.bipush 120) 2 223 := ⟨at_221, rfl⟩
theorem d0_223 : Dc code 223 (.castore) 1 224 := ⟨at_223, rfl⟩
theorem d0_224 : Dc code 224 (.dup) 1 225 := ⟨at_224, rfl⟩
theorem d0_225 : Dc code 225 (.iconst 2) 1 226 := ⟨at_225, rfl⟩
theorem d0_226 : Dc code 226 (.bipush 99) 2 228 := ⟨at_226, rfl⟩
theorem d0_228 : Dc code 228 (.castore) 1 229 := ⟨at_228, rfl⟩
theorem d0_229 : Dc code 229 (.dup) 1 230 := ⟨at_229, rfl⟩
theorem d0_230 : Dc code 230 (.iconst 3) 1 231 := ⟨at_230, rfl⟩
theorem d0_231 : Dc code 231 (.bipush 108) 2 233 := ⟨at_231, rfl⟩
theorem d0_233 : Dc code 233 (.castore) 1 234 := ⟨at_233, rfl⟩
theorem d0_234 : Dc code 234 (.dup) 1 235 := ⟨at_234, rfl⟩
theorem d0_235 : Dc code 235 (.iconst 4) 1 236 := ⟨at_235, rfl⟩
theorem d0_236 : Dc code 236 (.bipush 117) 2 238 := ⟨at_236, rfl⟩
theorem d0_238 : Dc code 238 (.castore) 1 239 := ⟨at_238, rfl⟩
theorem d0_239 : Dc code 239 (.dup) 1 240 := ⟨at_239, rfl⟩
theorem d0_240 : Dc code 240 (.iconst 5) 1 241 := ⟨at_240, rfl⟩
theorem d0_241 : Dc code 241 (.bipush 115) 2 243 := ⟨at_241, rfl⟩
theorem d0_243 : Dc code 243 (.castore) 1 244 := ⟨at_243, rfl⟩
theorem d0_244 : Dc code 244 (.dup) 1 245 := ⟨at_244, rfl⟩
theorem d0_245 : Dc code 245 (.bipush 6) 2 247 := ⟨at_245, rfl⟩
theorem d0_247 : Dc code 247 (.bipush 105) 2 249 := ⟨at_247, rfl⟩
theorem d0_249 : Dc code 249 (.castore) 1 250 := ⟨at_249, rfl⟩
theorem d0_250 : Dc code 250 (.dup) 1 251 := ⟨at_250, rfl⟩
theorem d0_251 : Dc code 251 (.bipush 7) 2 253 := ⟨at_251, rfl⟩
theorem d0_253 : Dc code 253 (.bipush 118) 2 255 := ⟨at_253, rfl⟩
theorem d0_255 : Dc code 255 (.castore) 1 256 := ⟨at_255, rfl⟩
theorem d0_256 : Dc code 256 (.dup) 1 257 := ⟨at_256, rfl⟩
theorem d0_257 : Dc code 257 (.bipush 8) 2 259 := ⟨at_257, rfl⟩
theorem d0_259 : Dc code 259 (.bipush 101) 2 261 := ⟨at_259, rfl⟩
theorem d0_261 : Dc code 261 (.castore) 1 262 := ⟨at_261, rfl⟩
theorem d0_262 : Dc code 262 (.dup) 1 263 := ⟨at_262, rfl⟩
theorem d0_263 : Dc code 263 (.bipush 9) 2 265 := ⟨at_263, rfl⟩
theorem d0_265 : Dc code 265 (.iload 6) 2 267 := ⟨at_265, rfl⟩
theorem d0_267 : Dc code 267 (.castore) 1 268 := ⟨at_267, rfl⟩
theorem d0_268 : Dc code 268 (.astore 10) 2 270 := ⟨at_268, rfl⟩
theorem d0_270 : Dc code 270 (.new 8) 3 273 := ⟨at_270, rfl⟩
theorem d0_273 : Dc code 273 (.dup) 1 274 := ⟨at_273, rfl⟩
theorem d0_274 : Dc code 274 (.aload 10) 2 276 := ⟨at_274, rfl⟩
theorem d0_276 : Dc code 276 (.invokespecial 10) 3 279 := ⟨at_276, rfl⟩
theorem d0_279 : Dc code 279 (.astore 9) 2 281 := ⟨at_279, rfl⟩
theorem d0_281 : Dj code 281 (.goto 196) 196 3 284 477 := ⟨at_281, rfl, by decide, by decide⟩
theorem d0_134 : Dc code 134 (.bipush 6) 2 136 := ⟨at_134, rfl⟩
theorem d0_136 : Dc code 136 (.newarray .char) 2 138 := ⟨at_136, rfl⟩
theorem d0_138 : Dc code 138 (.dup) 1 139 := ⟨at_138, rfl⟩
theorem d0_139 : Dc code 139 (.iconst 0) 1 140 := ⟨at_139, rfl⟩
theorem d0_140 : Dc code 140 (.bipush 115) 2 142 := ⟨at_140, rfl⟩
theorem d0_142 : Dc code 142 (.castore) 1 143 := ⟨at_142, rfl⟩
theorem d0_143 : Dc code 143 (.dup) 1 144 := ⟨at_143, rfl⟩
theorem d0_144 : Dc code 144 (.iconst 1) 1 145 := ⟨at_144, rfl⟩
theorem d0_145 : Dc code 145 (.bipush 104) 2 147 := ⟨at_145, rfl⟩
theorem d0_147 : Dc code 147 (.castore) 1 148 := ⟨at_147, rfl⟩
theorem d0_148 : Dc code 148 (.dup) 1 149 := ⟨at_148, rfl⟩
theorem d0_149 : Dc code 149 (.iconst 2) 1 150 := ⟨at_149, rfl⟩
theorem d0_150 : Dc code 150 (.bipush 97) 2 152 := ⟨at_150, rfl⟩
theorem d0_152 : Dc code 152 (.castore) 1 153 := ⟨at_152, rfl⟩
theorem d0_153 : Dc code 153 (.dup) 1 154 := ⟨at_153, rfl⟩
theorem d0_154 : Dc code 154 (.iconst 3) 1 155 := ⟨at_154, rfl⟩
theorem d0_155 : Dc code 155 (.bipush 114) 2 157 := ⟨at_155, rfl⟩
theorem d0_157 : Dc code 157 (.castore) 1 158 := ⟨at_157, rfl⟩
theorem d0_158 : Dc code 158 (.dup) 1 159 := ⟨at_158, rfl⟩
theorem d0_159 : Dc code 159 (.iconst 4) 1 160 := ⟨at_159, rfl⟩
theorem d0_160 : Dc code 160 (.bipush 101) 2 162 := ⟨at_160, rfl⟩
theorem d0_162 : Dc code 162 (.castore) 1 163 := ⟨at_162, rfl⟩
theorem d0_163 : Dc code 163 (.dup) 1 164 := ⟨at_163, rfl⟩
theorem d0_164 : Dc code 164 (.iconst 5) 1 165 := ⟨at_164, rfl⟩
theorem d0_165 : Dc code 165 (.bipush 100) 2 167 := ⟨at_165, rfl⟩
theorem d0_167 : Dc code 167 (.castore) 1 168 := ⟨at_167, rfl⟩
theorem d0_168 : Dc code 168 (.astore 10) 2 170 := ⟨at_168, rfl⟩
theorem d0_170 : Dc code 170 (.iload 5) 2 172 := ⟨at_170, rfl⟩
theorem d0_172 : Dc code 172 (.bipush 6) 2 174 := ⟨at_172, rfl⟩
theorem d0_174 : Dj code 174 (.if_icmp .ge 10) 10 3 177 184 := ⟨at_174, rfl, by decide, by decide⟩
theorem d0_184 : Dc code 184 (.new 8) 3 187 := ⟨at_184, rfl⟩
theorem d0_187 : Dc code 187 (.dup) 1 188 := ⟨at_187, rfl⟩
theorem d0_188 : Dc code 188 (.aload 10) 2 190 := ⟨at_188, rfl⟩
theorem d0_190 : Dc code 190 (.invokespecial 10) 3 193 := ⟨at_190, rfl⟩
theorem d0_193 : Dc code 193 (.astore 9) 2 195 := ⟨at_193, rfl⟩
theorem d0_195 : Dj code 195 (.goto 282) 282 3 198 477 := ⟨at_195, rfl, by decide, by decide⟩
theorem d0_177 : Dc code 177 (.aload 10) 2 179 := ⟨at_177, rfl⟩
theorem d0_179 : Dc code 179 (.iload 5) 2 181 := ⟨at_179, rfl⟩
theorem d0_181 : Dc code 181 (.iload 6) 2 183 := ⟨at_181, rfl⟩
theorem d0_183 : Dc code 183 (.castore) 1 184 := ⟨at_183, rfl⟩
theorem d0_46 : Dc code 46 (.bipush 9) 2 48 := ⟨at_46, rfl⟩
theorem d0_48 : Dc code 48 (.newarray .char) 2 50 := ⟨at_48, rfl⟩
theorem d0_50 : Dc code 50 (.dup) 1 51 := ⟨at_50, rfl⟩
theorem d0_51 : Dc code 51 (.iconst 0) 1 52 := ⟨at_51, rfl⟩
theorem d0_52 : Dc code 52 (.bipush 101) 2 54 := ⟨at_52, rfl⟩
theorem d0_54 : Dc code 54 (.castore) 1 55 := ⟨at_54, rfl⟩
theorem d0_55 : Dc code 55 (.dup) 1 56 := ⟨at_55, rfl⟩
theorem d0_56 : Dc code 56 (.iconst 1) 1 57 := ⟨at_56, rfl⟩
theorem d0_57 : Dc code 57 (.bipush 120) 2 59 := ⟨at_57, rfl⟩
theorem d0_59 : Dc code 59 (.castore) 1 60 := ⟨at_59, rfl⟩
theorem d0_60 : Dc code 60 (.dup) 1 61 := ⟨at_60, rfl⟩
theorem d0_61 : Dc code 61 (.iconst 2) 1 62 := ⟨at_61, rfl⟩
theorem d0_62 : Dc code 62 (.bipush 99) 2 64 := ⟨at_62, rfl⟩
theorem d0_64 : Dc code 64 (.castore) 1 65 := ⟨at_64, rfl⟩
theorem d0_65 : Dc code 65 (.dup) 1 66 := ⟨at_65, rfl⟩
theorem d0_66 : Dc code 66 (.iconst 3) 1 67 := ⟨at_66, rfl⟩
theorem d0_67 : Dc code 67 (.bipush 108) 2 69 := ⟨at_67, rfl⟩
theorem d0_69 : Dc code 69 (.castore) 1 70 := ⟨at_69, rfl⟩
theorem d0_70 : Dc code 70 (.dup) 1 71 := ⟨at_70, rfl⟩
theorem d0_71 : Dc code 71 (.iconst 4) 1 72 := ⟨at_71, rfl⟩
theorem d0_72 : Dc code 72 (.bipush 117) 2 74 := ⟨at_72, rfl⟩
theorem d0_74 : Dc code 74 (.castore) 1 75 := ⟨at_74, rfl⟩
theorem d0_75 : Dc code 75 (.dup) 1 76 := ⟨at_75, rfl⟩
theorem d0_76 : Dc code 76 (.iconst 5) 1 77 := ⟨at_76, rfl⟩
theorem d0_77 : Dc code 77 (.bipush 115) 2 79 := ⟨at_77, rfl⟩
theorem d0_79 : Dc code 79 (.castore) 1 80 := ⟨at_79, rfl⟩
theorem d0_80 : Dc code 80 (.dup) 1 81 := ⟨at_80, rfl⟩
theorem d0_81 : Dc code 81 (.bipush 6) 2 83 := ⟨at_81, rfl⟩
theorem d0_83 : Dc code 83 (.bipush 105) 2 85 := ⟨at_83, rfl⟩
theorem d0_85 : Dc code 85 (.castore) 1 86 := ⟨at_85, rfl⟩
theorem d0_86 : Dc code 86 (.dup) 1 87 := ⟨at_86, rfl⟩
theorem d0_87 : Dc code 87 (.bipush 7) 2 89 := ⟨at_87, rfl⟩
theorem d0_89 : Dc code 89 (.bipush 118) 2 91 := ⟨at_89, rfl⟩
theorem d0_91 : Dc code 91 (.castore) 1 92 := ⟨at_91, rfl⟩
theorem d0_92 : Dc code 92 (.dup) 1 93 := ⟨at_92, rfl⟩
theorem d0_93 : Dc code 93 (.bipush 8) 2 95 := ⟨at_93, rfl⟩
theorem d0_95 : Dc code 95 (.bipush 101) 2 97 := ⟨at_95, rfl⟩
theorem d0_97 : Dc code 97 (.castore) 1 98 := ⟨at_97, rfl⟩
theorem d0_98 : Dc code 98 (.astore 10) 2 100 := ⟨at_98, rfl⟩
theorem d0_100 : Dc code 100 (.iload 5) 2 102 := ⟨at_100, rfl⟩
theorem d0_102 : Dc code 102 (.bipush 9) 2 104 := ⟨at_102, rfl⟩
theorem d0_104 : Dj code 104 (.if_icmp .ge 10) 10 3 107 114 := ⟨at_104, rfl, by decide, by decide⟩
theorem d0_114 : Dc code 114 (.new 8) 3 117 := ⟨at_114, rfl⟩
theorem d0_117 : Dc code 117 (.dup) 1 118 := ⟨at_117, rfl⟩
theorem d0_118 : Dc code 118 (.aload 10) 2 120 := ⟨at_118, rfl⟩
theorem d0_120 : Dc code 120 (.invokespecial 10) 3 123 := ⟨at_120, rfl⟩
theorem d0_123 : Dc code 123 (.astore 9) 2 125 := ⟨at_123, rfl⟩
theorem d0_125 : Dj code 125 (.goto 352) 352 3 128 477 := ⟨at_125, rfl, by decide, by decide⟩
theorem d0_107 : Dc code 107 (.aload 10) 2 109 := ⟨at_107, rfl⟩
theorem d0_109 : Dc code 109 (.iload 5) 2 111 := ⟨at_109, rfl⟩
theorem d0_111 : Dc code 111 (.iload 6) 2 113 := ⟨at_111, rfl⟩
theorem d0_113 : Dc code 113 (.castore) 1 114 := ⟨at_113, rfl⟩
theorem rm0 (l : Launch) {Z : State} {a0 : Array Value} (hw : ∀ d ∈ tables_1, d.before a0 Z = true) {h : Heap} (hE : Ext Z.heap h) (p0 : Int32) (p1 : Int32) (p2 : Int32) (p3 : Int32) (p_1 p_7 p_11 p_15 p_20 p_25 p_30 : Addr) (k_36 k_38 k_40 : ClassId) (z_ : Int32) (SZ : Sta Z Z.heap "java/lang/String" "COMPACT_STRINGS" "Z" (.int z_)) (hz : ¬ z_ = 0) (oe : Addr) (SE : Sta Z Z.heap "java/util/Optional" "EMPTY" "Ljava/util/Optional;" (.ref oe)) (EE : Exa Z Z.heap oe "java/util/Optional") (FE : Fld Z Z.heap oe "java/util/Optional" "value" "Ljava/lang/Object;" .null) (S_3 : Sta Z Z.heap "com/example/synctoken/synctoken/lock/WriteLock$Scope" "$VALUES" "[Lcom/example/synctoken/synctoken/lock/WriteLock$Scope;" (.ref p_1)) (E_6 : Exa Z Z.heap p_1 "[Lcom/example/synctoken/synctoken/lock/WriteLock$Scope;") (S_9 : Sta Z Z.heap "com/example/synctoken/synctoken/lock/WriteLock$Scope" "EXCLUSIVE" "Lcom/example/synctoken/synctoken/lock/WriteLock$Scope;" (.ref p_7)) (E_10 : Exa Z Z.heap p_7 "com/example/synctoken/synctoken/lock/WriteLock$Scope") (S_13 : Sta Z Z.heap "com/example/synctoken/synctoken/lock/WriteLock$Scope" "SHARED" "Lcom/example/synctoken/synctoken/lock/WriteLock$Scope;" (.ref p_11)) (E_14 : Exa Z Z.heap p_11 "com/example/synctoken/synctoken/lock/WriteLock$Scope") (F_17 : Fld Z Z.heap p_7 "com/example/synctoken/synctoken/lock/WriteLock$Scope" "elementName" "Ljava/lang/String;" (.ref p_15)) (E_18 : Exa Z Z.heap p_15 "java/lang/String") (F_19 : Fld Z Z.heap p_15 "java/lang/String" "coder" "B" (.int 0)) (F_22 : Fld Z Z.heap p_15 "java/lang/String" "value" "[B" (.ref p_20)) (F_27 : Fld Z Z.heap p_11 "com/example/synctoken/synctoken/lock/WriteLock$Scope" "elementName" "Ljava/lang/String;" (.ref p_25)) (E_28 : Exa Z Z.heap p_25 "java/lang/String") (F_29 : Fld Z Z.heap p_25 "java/lang/String" "coder" "B" (.int 0)) (F_32 : Fld Z Z.heap p_25 "java/lang/String" "value" "[B" (.ref p_30)) (V_35 : Arv Z Z.heap p_1 k_36 (.object "com/example/synctoken/synctoken/lock/WriteLock$Scope") 2 [(.ref p_7), (.ref p_11)] .null) (V_37 : Arv Z Z.heap p_20 k_38 .byte 9 [(.int 101), (.int 120), (.int 99), (.int 108), (.int 117), (.int 115), (.int 105), (.int 118), (.int 101)] (.int 0)) (V_39 : Arv Z Z.heap p_30 k_40 .byte 6 [(.int 115), (.int 104), (.int 97), (.int 114), (.int 101), (.int 100)] (.int 0)) :
    ConL l x code maxLocals ret tables_1 room_1 Z consts_1 [] #[(.int p0), (.int p1), (.int p2), (.int p3)] h (fun v' h' => v' = some (.int 1)) := by
  refine con_ofL (plainFor_of_name pn_5) hE (fun m => ef_rm0 m p0 p1 p2 p3) ?_
  intro p e s m below meth c T0 C X0 I0 hsf
  have C : Cx p (s.setVm s.vm) m meth c Z "com/example/synctoken/synctoken/lock/ScopeNamedPinLaw" "law" code maxLocals ret := C
  show Goes p e below _ T0 (mkF m 0 #[.val (.int p0), .val (.int p1), .val (.int p2), .val (.int p3), .unset, .unset, .unset, .unset, .unset, .unset, .unset, .unset, .unset] [])
  refine g_iloadN C X0 d0_0 rfl (g_iconst 3 C X0 d0_1 rfl (g_iand C X0 d0_2 (g_istore C X0 d0_3 (l' := #[.val (.int p0), .val (.int p1), .val (.int p2), .val (.int p3), .val (.int (p0 &&& (3 : Int32))), .unset, .unset, .unset, .unset, .unset, .unset, .unset, .unset]) rfl (g_iloadN C X0 d0_5 rfl (g_ldcI C X0 (wd hw 0 rfl) d0_6 (g_iand C X0 d0_8 (g_bipush 10 C X0 d0_9 rfl (g_irem C X0 d0_11 (by decide) (g_istore C X0 d0_12 (l' := #[.val (.int p0), .val (.int p1), .val (.int p2), .val (.int p3), .val (.int (p0 &&& (3 : Int32))), .val (.int ((p1 &&& (2147483647 : Int32)) % (10 : Int32))), .unset, .unset, .unset, .unset, .unset, .unset, .unset]) rfl (g_iloadN C X0 d0_14 rfl (g_sipush 255 C X0 d0_15 rfl ?_)))))))))))
  refine g_iand C X0 d0_18 (g_i2c C X0 d0_19 (g_istore C X0 d0_20 (l' := #[.val (.int p0), .val (.int p1), .val (.int p2), .val (.int p3), .val (.int (p0 &&& (3 : Int32))), .val (.int ((p1 &&& (2147483647 : Int32)) % (10 : Int32))), .val (.int ((p2 &&& (255 : Int32)).toUInt32.toUInt16.toUInt32.toInt32)), .unset, .unset, .unset, .unset, .unset, .unset]) rfl (g_iloadN C X0 d0_22 rfl (g_sipush 255 C X0 d0_23 rfl (g_iand C X0 d0_26 (g_i2c C X0 d0_27 (g_istore C X0 d0_28 (l' := #[.val (.int p0), .val (.int p1), .val (.int p2), .val (.int p3), .val (.int (p0 &&& (3 : Int32))), .val (.int ((p1 &&& (2147483647 : Int32)) % (10 : Int32))), .val (.int ((p2 &&& (255 : Int32)).toUInt32.toUInt16.toUInt32.toInt32)), .val (.int ((p3 &&& (255 : Int32)).toUInt32.toUInt16.toUInt32.toInt32)), .unset, .unset, .unset, .unset, .unset]) rfl (g_iloadN C X0 d0_30 rfl (g_bipush 8 C X0 d0_31 rfl (g_iushr C X0 d0_33 (g_sipush 255 C X0 d0_34 rfl ?_)))))))))))
  refine g_iand C X0 d0_37 (g_i2c C X0 d0_38 (g_istore C X0 d0_39 (l' := #[.val (.int p0), .val (.int p1), .val (.int p2), .val (.int p3), .val (.int (p0 &&& (3 : Int32))), .val (.int ((p1 &&& (2147483647 : Int32)) % (10 : Int32))), .val (.int ((p2 &&& (255 : Int32)).toUInt32.toUInt16.toUInt32.toInt32)), .val (.int ((p3 &&& (255 : Int32)).toUInt32.toUInt16.toUInt32.toInt32)), .val (.int ((((p3.toUInt32 >>> ((8 : Int32) &&& 31).toUInt32).toInt32) &&& (255 : Int32)).toUInt32.toUInt16.toUInt32.toInt32)), .unset, .unset, .unset, .unset]) rfl (g_iload C X0 d0_41 rfl (g_ifn (h0_ne _) C X0 d0_43 (fun c43_152 => ?_) (fun c43_152 => ?_)))))
  · refine g_iload C X0 d0_128 rfl (g_iconst 1 C X0 d0_130 rfl (g_icmpn (hI_ne _ _) C X0 d0_131 (fun c131_153 => ?_) (fun c131_153 => ?_)))
    · refine g_iload C X0 d0_198 rfl (g_iconst 2 C X0 d0_200 rfl (g_icmpn (hI_ne _ _) C X0 d0_201 (fun c201_154 => ?_) (fun c201_154 => ?_)))
      · refine g_iloadN C X0 d0_340 rfl (g_ldcI C X0 (wd hw 0 rfl) d0_341 (g_iand C X0 d0_343 (g_bipush 6 C X0 d0_344 rfl (g_irem C X0 d0_346 (by decide) (g_istore C X0 d0_347 (l' := #[.val (.int p0), .val (.int p1), .val (.int p2), .val (.int p3), .val (.int (p0 &&& (3 : Int32))), .val (.int ((p1 &&& (2147483647 : Int32)) % (10 : Int32))), .val (.int ((p2 &&& (255 : Int32)).toUInt32.toUInt16.toUInt32.toInt32)), .val (.int ((p3 &&& (255 : Int32)).toUInt32.toUInt16.toUInt32.toInt32)), .val (.int ((((p3.toUInt32 >>> ((8 : Int32) &&& 31).toUInt32).toInt32) &&& (255 : Int32)).toUInt32.toUInt16.toUInt32.toInt32)), .unset, .val (.int ((p1 &&& (2147483647 : Int32)) % (6 : Int32))), .unset, .unset]) rfl (g_iload C X0 d0_349 rfl (g_ifn (h0_ne _) C X0 d0_351 (fun c351_155 => ?_) (fun c351_155 => ?_))))))))
        · refine g_iload C X0 d0_369 rfl (g_iconst 1 C X0 d0_371 rfl (g_icmpn (hI_ne _ _) C X0 d0_372 (fun c372_156 => ?_) (fun c372_156 => ?_)))
          · refine g_iload C X0 d0_385 rfl (g_iconst 2 C X0 d0_387 rfl (g_icmpn (hI_ne _ _) C X0 d0_388 (fun c388_157 => ?_) (fun c388_157 => ?_)))
            · refine g_iload C X0 d0_420 rfl (g_iconst 3 C X0 d0_422 rfl (g_icmpn (hI_ne _ _) C X0 d0_423 (fun c423_158 => ?_) (fun c423_158 => ?_)))
              · refine g_iload C X0 d0_460 rfl (g_iconst 4 C X0 d0_462 rfl (g_icmpn (hI_ne _ _) C X0 d0_463 (fun c463_159 => ?_) (fun c463_159 => ?_)))
                · refine g_ldcs 20 C X0 I0 (own_wS hw) (own_EW hw) (by decide +kernel) (wd hw 116 rfl) (vs := [(.int 115), (.int 104), (.int 97), (.int 114), (.int 101)]) (z := 5) ⟨by decide +kernel, by decide +kernel⟩ (by decide) rfl (by decide) (by decide) d0_473 (by decide) (by decide) (fun a160 T160 h160 t160 k_t160 C X160 I160 R160 E160 EA160 FC160 FV160 VA160 N160 => ?_)
                  show Goes p e below _ T160 (mkF m 475 #[.val (.int p0), .val (.int p1), .val (.int p2), .val (.int p3), .val (.int (p0 &&& (3 : Int32))), .val (.int ((p1 &&& (2147483647 : Int32)) % (10 : Int32))), .val (.int ((p2 &&& (255 : Int32)).toUInt32.toUInt16.toUInt32.toInt32)), .val (.int ((p3 &&& (255 : Int32)).toUInt32.toUInt16.toUInt32.toInt32)), .val (.int ((((p3.toUInt32 >>> ((8 : Int32) &&& 31).toUInt32).toInt32) &&& (255 : Int32)).toUInt32.toUInt16.toUInt32.toInt32)), .unset, .val (.int ((p1 &&& (2147483647 : Int32)) % (6 : Int32))), .unset, .unset] [(.ref a160)])
                  refine g_astore C X160 d0_475 rfl (l' := #[.val (.int p0), .val (.int p1), .val (.int p2), .val (.int p3), .val (.int (p0 &&& (3 : Int32))), .val (.int ((p1 &&& (2147483647 : Int32)) % (10 : Int32))), .val (.int ((p2 &&& (255 : Int32)).toUInt32.toUInt16.toUInt32.toInt32)), .val (.int ((p3 &&& (255 : Int32)).toUInt32.toUInt16.toUInt32.toInt32)), .val (.int ((((p3.toUInt32 >>> ((8 : Int32) &&& 31).toUInt32).toInt32) &&& (255 : Int32)).toUInt32.toUInt16.toUInt32.toInt32)), .val (.ref a160), .val (.int ((p1 &&& (2147483647 : Int32)) % (6 : Int32))), .unset, .unset]) rfl ?_
                  have Y161 := X160.more (cells' := 8) (slots' := 200) (by decide) (by decide)
                  exact segS hw (.val (.int p0)) (.val (.int p1)) (.val (.int p2)) (.val (.int p3)) (.val (.int (p0 &&& (3 : Int32)))) (.val (.int ((p1 &&& (2147483647 : Int32)) % (10 : Int32)))) (.val (.int ((p2 &&& (255 : Int32)).toUInt32.toUInt16.toUInt32.toInt32))) (.val (.int ((p3 &&& (255 : Int32)).toUInt32.toUInt16.toUInt32.toInt32))) (.val (.int ((((p3.toUInt32 >>> ((8 : Int32) &&& 31).toUInt32).toInt32) &&& (255 : Int32)).toUInt32.toUInt16.toUInt32.toInt32))) (.val (.int ((p1 &&& (2147483647 : Int32)) % (6 : Int32)))) (.unset) (Or.inr (Or.inr ⟨_, rfl⟩)) (Or.inl rfl) p_1 p_7 p_11 p_15 p_20 p_25 p_30 k_36 k_38 k_40 z_ SZ hz oe SE EE FE a160 t160 _ _ _ [(115 : Int32), (104 : Int32), (97 : Int32), (114 : Int32), (101 : Int32)] C Y161 I160 S_3 E_6 S_9 E_10 S_13 E_14 F_17 E_18 F_19 F_22 F_27 E_28 F_29 F_32 V_35 V_37 V_39 EA160 FC160 FV160 VA160 (own_cod rfl rfl (by decide)) (by decide) (by decide)
                · refine g_ldcs 32 C X0 I0 (own_wS hw) (own_EW hw) (by decide +kernel) (wd hw 113 rfl) (vs := [(.int 101), (.int 120), (.int 99), (.int 108), (.int 117), (.int 115), (.int 105), (.int 118)]) (z := 8) ⟨by decide +kernel, by decide +kernel⟩ (by decide) rfl (by decide) (by decide) d0_466 (by decide) (by decide) (fun a162 T162 h162 t162 k_t162 C X162 I162 R162 E162 EA162 FC162 FV162 VA162 N162 => ?_)
                  show Goes p e below _ T162 (mkF m 468 #[.val (.int p0), .val (.int p1), .val (.int p2), .val (.int p3), .val (.int (p0 &&& (3 : Int32))), .val (.int ((p1 &&& (2147483647 : Int32)) % (10 : Int32))), .val (.int ((p2 &&& (255 : Int32)).toUInt32.toUInt16.toUInt32.toInt32)), .val (.int ((p3 &&& (255 : Int32)).toUInt32.toUInt16.toUInt32.toInt32)), .val (.int ((((p3.toUInt32 >>> ((8 : Int32) &&& 31).toUInt32).toInt32) &&& (255 : Int32)).toUInt32.toUInt16.toUInt32.toInt32)), .unset, .val (.int ((p1 &&& (2147483647 : Int32)) % (6 : Int32))), .unset, .unset] [(.ref a162)])
                  refine g_astore C X162 d0_468 rfl (l' := #[.val (.int p0), .val (.int p1), .val (.int p2), .val (.int p3), .val (.int (p0 &&& (3 : Int32))), .val (.int ((p1 &&& (2147483647 : Int32)) % (10 : Int32))), .val (.int ((p2 &&& (255 : Int32)).toUInt32.toUInt16.toUInt32.toInt32)), .val (.int ((p3 &&& (255 : Int32)).toUInt32.toUInt16.toUInt32.toInt32)), .val (.int ((((p3.toUInt32 >>> ((8 : Int32) &&& 31).toUInt32).toInt32) &&& (255 : Int32)).toUInt32.toUInt16.toUInt32.toInt32)), .val (.ref a162), .val (.int ((p1 &&& (2147483647 : Int32)) % (6 : Int32))), .unset, .unset]) rfl (g_goto C X162 d0_470 ?_)
                  have Y163 := X162.more (cells' := 8) (slots' := 200) (by decide) (by decide)
                  exact segS hw (.val (.int p0)) (.val (.int p1)) (.val (.int p2)) (.val (.int p3)) (.val (.int (p0 &&& (3 : Int32)))) (.val (.int ((p1 &&& (2147483647 : Int32)) % (10 : Int32)))) (.val (.int ((p2 &&& (255 : Int32)).toUInt32.toUInt16.toUInt32.toInt32))) (.val (.int ((p3 &&& (255 : Int32)).toUInt32.toUInt16.toUInt32.toInt32))) (.val (.int ((((p3.toUInt32 >>> ((8 : Int32) &&& 31).toUInt32).toInt32) &&& (255 : Int32)).toUInt32.toUInt16.toUInt32.toInt32))) (.val (.int ((p1 &&& (2147483647 : Int32)) % (6 : Int32)))) (.unset) (Or.inr (Or.inr ⟨_, rfl⟩)) (Or.inl rfl) p_1 p_7 p_11 p_15 p_20 p_25 p_30 k_36 k_38 k_40 z_ SZ hz oe SE EE FE a162 t162 _ _ _ [(101 : Int32), (120 : Int32), (99 : Int32), (108 : Int32), (117 : Int32), (115 : Int32), (105 : Int32), (118 : Int32)] C Y163 I162 S_3 E_6 S_9 E_10 S_13 E_14 F_17 E_18 F_19 F_22 F_27 E_28 F_29 F_32 V_35 V_37 V_39 EA162 FC162 FV162 VA162 (own_cod rfl rfl (by decide)) (by decide) (by decide)
              · refine g_iconst 3 C X0 d0_426 rfl (g_newarray C X0 (wd hw 1 rfl) d0_427 (by decide) 3 3 (by decide) (by decide) (by decide) (by decide) (fun T164 h164 b164 k_b164 g_b164 n_b164 X164 E164 V164 => ?_))
                have V_b164 : Arv Z h164 b164 k_b164 .char (3 : Int32) [(.int 0), (.int 0), (.int 0)] (.int 0) := V164
                refine g_dup C X164 d0_429 rfl (g_iconst 0 C X164 d0_430 rfl (g_iload C X164 d0_431 rfl (g_castore C X164 V_b164 n_b164 d0_433 (by decide) (by decide) (Nat.le_of_ble_eq_true rfl) (.int (p2 &&& (255 : Int32))) (own_ch _) (fun T165 h165 X165 W165 V165 => ?_))))
                have V165_b164 : Arv Z h165 b164 k_b164 .char (3 : Int32) [(.int (p2 &&& (255 : Int32))), (.int 0), (.int 0)] (.int 0) := V165
                refine g_dup C X165 d0_434 rfl (g_iconst 1 C X165 d0_435 rfl (g_iload C X165 d0_436 rfl (g_castore C X165 V165_b164 n_b164 d0_438 (by decide) (by decide) (Nat.le_of_ble_eq_true rfl) (.int (p3 &&& (255 : Int32))) (own_ch _) (fun T166 h166 X166 W166 V166 => ?_))))
                have V166_b164 : Arv Z h166 b164 k_b164 .char (3 : Int32) [(.int (p2 &&& (255 : Int32))), (.int (p3 &&& (255 : Int32))), (.int 0)] (.int 0) := V166
                refine g_dup C X166 d0_439 rfl (g_iconst 2 C X166 d0_440 rfl (g_iload C X166 d0_441 rfl (g_castore C X166 V166_b164 n_b164 d0_443 (by decide) (by decide) (Nat.le_of_ble_eq_true rfl) (.int (((p3.toUInt32 >>> ((8 : Int32) &&& 31).toUInt32).toInt32) &&& (255 : Int32))) (own_ch _) (fun T167 h167 X167 W167 V167 => ?_))))
                have V167_b164 : Arv Z h167 b164 k_b164 .char (3 : Int32) [(.int (p2 &&& (255 : Int32))), (.int (p3 &&& (255 : Int32))), (.int (((p3.toUInt32 >>> ((8 : Int32) &&& 31).toUInt32).toInt32) &&& (255 : Int32)))] (.int 0) := V167
                refine g_astore C X167 d0_444 rfl (l' := #[.val (.int p0), .val (.int p1), .val (.int p2), .val (.int p3), .val (.int (p0 &&& (3 : Int32))), .val (.int ((p1 &&& (2147483647 : Int32)) % (10 : Int32))), .val (.int ((p2 &&& (255 : Int32)).toUInt32.toUInt16.toUInt32.toInt32)), .val (.int ((p3 &&& (255 : Int32)).toUInt32.toUInt16.toUInt32.toInt32)), .val (.int ((((p3.toUInt32 >>> ((8 : Int32) &&& 31).toUInt32).toInt32) &&& (255 : Int32)).toUInt32.toUInt16.toUInt32.toInt32)), .unset, .val (.int ((p1 &&& (2147483647 : Int32)) % (6 : Int32))), .val (.ref b164), .unset]) rfl (g_new C X167 (wd hw 2 rfl) (wd hw 3 rfl) (wd hw 4 rfl) d0_446 (by decide) (by decide) (fun T168 h168 b168 g_b168 n_b168 X168 E168 A168 D168 M168 => ?_))
                have lt169 : b164 < b168 := by rw [g_b168]; exact Arv.lt V167_b164
                have F_coder_b168 : Fld Z h168 b168 "java/lang/String" "coder" "B" (.int 0) := D168 (Or.inr (wd hw 28 rfl)) (ty := .byte) (by decide)
                have F_value_b168 : Fld Z h168 b168 "java/lang/String" "value" "[B" .null := D168 (Or.inr (wd hw 30 rfl)) (ty := (.array .byte)) (by decide)
                refine g_dup C X168 d0_449 rfl (g_aload C X168 d0_450 rfl rfl ?_)
                have hp170 : ∀ c ∈ [(p2 &&& (255 : Int32)), (p3 &&& (255 : Int32)), (((p3.toUInt32 >>> ((8 : Int32) &&& 31).toUInt32).toInt32) &&& (255 : Int32))], ¬ c < 0 ∧ ¬ (255 : Int32) < c := (List.forall_mem_cons.mpr ⟨(own_m255 _), (List.forall_mem_cons.mpr ⟨(own_m255 _), (List.forall_mem_cons.mpr ⟨(own_m255 _), (fun _ q => nomatch q)⟩)⟩)⟩)
                have f172 := (Arv.ext V167_b164 E168)
                refine g_special (argsL := [(.ref b164)]) (st := [(.ref b168)]) C X168 rfl (wd hw 5 rfl) (wd hw 6 rfl) (wd hw 7 rfl) (by decide) (payV (W' := 1) (cs := [(p2 &&& (255 : Int32)), (p3 &&& (255 : Int32)), (((p3.toUInt32 >>> ((8 : Int32) &&& 31).toUInt32).toInt32) &&& (255 : Int32))]) (n := 3) C.hZ X168.ext (own_words hw) (kI := 4) (wd hw 3 rfl) n_b168 A168 F_value_b168 F_coder_b168 f172 SZ hz rfl rfl (by decide) (by decide) hp170 (by decide) (by decide)) pd_13 rfl rfl _ rfl (Nat.le_of_eq rfl) d0_452 (by decide) (by decide) (fun T171 h171 v171 q171 X171 => ?_)
                obtain ⟨rfl, K171, EX171, FC171, t171, k_t171, nt0_171, gt171, nt171, FV171, VT171⟩ := q171
                have lt173 : b164 < t171 := Nat.lt_of_lt_of_le (Arv.lt f172) gt171
                have lt174 : b168 < t171 := Nat.lt_of_lt_of_le (Exa.lt A168) gt171
                show Goes p e below _ T171 (mkF m 455 #[.val (.int p0), .val (.int p1), .val (.int p2), .val (.int p3), .val (.int (p0 &&& (3 : Int32))), .val (.int ((p1 &&& (2147483647 : Int32)) % (10 : Int32))), .val (.int ((p2 &&& (255 : Int32)).toUInt32.toUInt16.toUInt32.toInt32)), .val (.int ((p3 &&& (255 : Int32)).toUInt32.toUInt16.toUInt32.toInt32)), .val (.int ((((p3.toUInt32 >>> ((8 : Int32) &&& 31).toUInt32).toInt32) &&& (255 : Int32)).toUInt32.toUInt16.toUInt32.toInt32)), .unset, .val (.int ((p1 &&& (2147483647 : Int32)) % (6 : Int32))), .val (.ref b164), .unset] [(.ref b168)])
                refine g_astore C X171 d0_455 rfl (l' := #[.val (.int p0), .val (.int p1), .val (.int p2), .val (.int p3), .val (.int (p0 &&& (3 : Int32))), .val (.int ((p1 &&& (2147483647 : Int32)) % (10 : Int32))), .val (.int ((p2 &&& (255 : Int32)).toUInt32.toUInt16.toUInt32.toInt32)), .val (.int ((p3 &&& (255 : Int32)).toUInt32.toUInt16.toUInt32.toInt32)), .val (.int ((((p3.toUInt32 >>> ((8 : Int32) &&& 31).toUInt32).toInt32) &&& (255 : Int32)).toUInt32.toUInt16.toUInt32.toInt32)), .val (.ref b168), .val (.int ((p1 &&& (2147483647 : Int32)) % (6 : Int32))), .val (.ref b164), .unset]) rfl (g_goto C X171 d0_457 ?_)
                have sz175 : h.size ≤ b164 := by rw [g_b164]; exact (Keep.refl h []).1
                have kp176 := (Keep.refl h []).ext E164
                have kp177 := kp176.wr W165 (Or.inr sz175)
                have kp178 := kp177.wr W166 (Or.inr sz175)
                have kp179 := kp178.wr W167 (Or.inr sz175)
                have sz180 : h.size ≤ b168 := by rw [g_b168]; exact kp179.1
                have kp181 := kp179.ext E168
                have kp182 := kp181.trans K171 (allS (Or.inr sz180) all0)
                have I183 := Lits.keep I0 kp182 sf0
                have f184 := (Arv.keep f172 K171 (ninS (Nat.ne_of_lt lt169) nin0))
                have Y185 := X171.more (cells' := 8) (slots' := 200) (by decide) (by decide)
                exact segS hw (.val (.int p0)) (.val (.int p1)) (.val (.int p2)) (.val (.int p3)) (.val (.int (p0 &&& (3 : Int32)))) (.val (.int ((p1 &&& (2147483647 : Int32)) % (10 : Int32)))) (.val (.int ((p2 &&& (255 : Int32)).toUInt32.toUInt16.toUInt32.toInt32))) (.val (.int ((p3 &&& (255 : Int32)).toUInt32.toUInt16.toUInt32.toInt32))) (.val (.int ((((p3.toUInt32 >>> ((8 : Int32) &&& 31).toUInt32).toInt32) &&& (255 : Int32)).toUInt32.toUInt16.toUInt32.toInt32))) (.val (.int ((p1 &&& (2147483647 : Int32)) % (6 : Int32)))) (.val (.ref b164)) (Or.inr (Or.inr ⟨_, rfl⟩)) (Or.inr (Or.inl ⟨_, rfl⟩)) p_1 p_7 p_11 p_15 p_20 p_25 p_30 k_36 k_38 k_40 z_ SZ hz oe SE EE FE b168 t171 _ _ _ [(p2 &&& (255 : Int32)), (p3 &&& (255 : Int32)), (((p3.toUInt32 >>> ((8 : Int32) &&& 31).toUInt32).toInt32) &&& (255 : Int32))] C Y185 I183 S_3 E_6 S_9 E_10 S_13 E_14 F_17 E_18 F_19 F_22 F_27 E_28 F_29 F_32 V_35 V_37 V_39 EX171 FC171 FV171 VT171 (own_cod rfl rfl hp170) hp170 (Nat.le_of_ble_eq_true rfl)
            · refine g_iconst 2 C X0 d0_391 rfl (g_newarray C X0 (wd hw 1 rfl) d0_392 (by decide) 2 2 (by decide) (by decide) (by decide) (by decide) (fun T186 h186 b186 k_b186 g_b186 n_b186 X186 E186 V186 => ?_))
              have V_b186 : Arv Z h186 b186 k_b186 .char (2 : Int32) [(.int 0), (.int 0)] (.int 0) := V186
              refine g_dup C X186 d0_394 rfl (g_iconst 0 C X186 d0_395 rfl (g_iload C X186 d0_396 rfl (g_castore C X186 V_b186 n_b186 d0_398 (by decide) (by decide) (Nat.le_of_ble_eq_true rfl) (.int (p2 &&& (255 : Int32))) (own_ch _) (fun T187 h187 X187 W187 V187 => ?_))))
              have V187_b186 : Arv Z h187 b186 k_b186 .char (2 : Int32) [(.int (p2 &&& (255 : Int32))), (.int 0)] (.int 0) := V187
              refine g_dup C X187 d0_399 rfl (g_iconst 1 C X187 d0_400 rfl (g_iload C X187 d0_401 rfl (g_castore C X187 V187_b186 n_b186 d0_403 (by decide) (by decide) (Nat.le_of_ble_eq_true rfl) (.int (p3 &&& (255 : Int32))) (own_ch _) (fun T188 h188 X188 W188 V188 => ?_))))
              have V188_b186 : Arv Z h188 b186 k_b186 .char (2 : Int32) [(.int (p2 &&& (255 : Int32))), (.int (p3 &&& (255 : Int32)))] (.int 0) := V188
              refine g_astore C X188 d0_404 rfl (l' := #[.val (.int p0), .val (.int p1), .val (.int p2), .val (.int p3), .val (.int (p0 &&& (3 : Int32))), .val (.int ((p1 &&& (2147483647 : Int32)) % (10 : Int32))), .val (.int ((p2 &&& (255 : Int32)).toUInt32.toUInt16.toUInt32.toInt32)), .val (.int ((p3 &&& (255 : Int32)).toUInt32.toUInt16.toUInt32.toInt32)), .val (.int ((((p3.toUInt32 >>> ((8 : Int32) &&& 31).toUInt32).toInt32) &&& (255 : Int32)).toUInt32.toUInt16.toUInt32.toInt32)), .unset, .val (.int ((p1 &&& (2147483647 : Int32)) % (6 : Int32))), .val (.ref b186), .unset]) rfl (g_new C X188 (wd hw 2 rfl) (wd hw 3 rfl) (wd hw 4 rfl) d0_406 (by decide) (by decide) (fun T189 h189 b189 g_b189 n_b189 X189 E189 A189 D189 M189 => ?_))
              have lt190 : b186 < b189 := by rw [g_b189]; exact Arv.lt V188_b186
              have F_coder_b189 : Fld Z h189 b189 "java/lang/String" "coder" "B" (.int 0) := D189 (Or.inr (wd hw 28 rfl)) (ty := .byte) (by decide)
              have F_value_b189 : Fld Z h189 b189 "java/lang/String" "value" "[B" .null := D189 (Or.inr (wd hw 30 rfl)) (ty := (.array .byte)) (by decide)
              refine g_dup C X189 d0_409 rfl (g_aload C X189 d0_410 rfl rfl ?_)
              have hp191 : ∀ c ∈ [(p2 &&& (255 : Int32)), (p3 &&& (255 : Int32))], ¬ c < 0 ∧ ¬ (255 : Int32) < c := (List.forall_mem_cons.mpr ⟨(own_m255 _), (List.forall_mem_cons.mpr ⟨(own_m255 _), (fun _ q => nomatch q)⟩)⟩)
              have f193 := (Arv.ext V188_b186 E189)
              refine g_special (argsL := [(.ref b186)]) (st := [(.ref b189)]) C X189 rfl (wd hw 5 rfl) (wd hw 6 rfl) (wd hw 7 rfl) (by decide) (payV (W' := 1) (cs := [(p2 &&& (255 : Int32)), (p3 &&& (255 : Int32))]) (n := 2) C.hZ X189.ext (own_words hw) (kI := 4) (wd hw 3 rfl) n_b189 A189 F_value_b189 F_coder_b189 f193 SZ hz rfl rfl (by decide) (by decide) hp191 (by decide) (by decide)) pd_13 rfl rfl _ rfl (Nat.le_of_eq rfl) d0_412 (by decide) (by decide) (fun T192 h192 v192 q192 X192 => ?_)
              obtain ⟨rfl, K192, EX192, FC192, t192, k_t192, nt0_192, gt192, nt192, FV192, VT192⟩ := q192
              have lt194 : b186 < t192 := Nat.lt_of_lt_of_le (Arv.lt f193) gt192
              have lt195 : b189 < t192 := Nat.lt_of_lt_of_le (Exa.lt A189) gt192
              show Goes p e below _ T192 (mkF m 415 #[.val (.int p0), .val (.int p1), .val (.int p2), .val (.int p3), .val (.int (p0 &&& (3 : Int32))), .val (.int ((p1 &&& (2147483647 : Int32)) % (10 : Int32))), .val (.int ((p2 &&& (255 : Int32)).toUInt32.toUInt16.toUInt32.toInt32)), .val (.int ((p3 &&& (255 : Int32)).toUInt32.toUInt16.toUInt32.toInt32)), .val (.int ((((p3.toUInt32 >>> ((8 : Int32) &&& 31).toUInt32).toInt32) &&& (255 : Int32)).toUInt32.toUInt16.toUInt32.toInt32)), .unset, .val (.int ((p1 &&& (2147483647 : Int32)) % (6 : Int32))), .val (.ref b186), .unset] [(.ref b189)])
              refine g_astore C X192 d0_415 rfl (l' := #[.val (.int p0), .val (.int p1), .val (.int p2), .val (.int p3), .val (.int (p0 &&& (3 : Int32))), .val (.int ((p1 &&& (2147483647 : Int32)) % (10 : Int32))), .val (.int ((p2 &&& (255 : Int32)).toUInt32.toUInt16.toUInt32.toInt32)), .val (.int ((p3 &&& (255 : Int32)).toUInt32.toUInt16.toUInt32.toInt32)), .val (.int ((((p3.toUInt32 >>> ((8 : Int32) &&& 31).toUInt32).toInt32) &&& (255 : Int32)).toUInt32.toUInt16.toUInt32.toInt32)), .val (.ref b189), .val (.int ((p1 &&& (2147483647 : Int32)) % (6 : Int32))), .val (.ref b186), .unset]) rfl (g_goto C X192 d0_417 ?_)
              have sz196 : h.size ≤ b186 := by rw [g_b186]; exact (Keep.refl h []).1
              have kp197 := (Keep.refl h []).ext E186
              have kp198 := kp197.wr W187 (Or.inr sz196)
              have kp199 := kp198.wr W188 (Or.inr sz196)
              have sz200 : h.size ≤ b189 := by rw [g_b189]; exact kp199.1
              have kp201 := kp199.ext E189
              have kp202 := kp201.trans K192 (allS (Or.inr sz200) all0)
              have I203 := Lits.keep I0 kp202 sf0
              have f204 := (Arv.keep f193 K192 (ninS (Nat.ne_of_lt lt190) nin0))
              have Y205 := X192.more (cells' := 8) (slots' := 200) (by decide) (by decide)
              exact segS hw (.val (.int p0)) (.val (.int p1)) (.val (.int p2)) (.val (.int p3)) (.val (.int (p0 &&& (3 : Int32)))) (.val (.int ((p1 &&& (2147483647 : Int32)) % (10 : Int32)))) (.val (.int ((p2 &&& (255 : Int32)).toUInt32.toUInt16.toUInt32.toInt32))) (.val (.int ((p3 &&& (255 : Int32)).toUInt32.toUInt16.toUInt32.toInt32))) (.val (.int ((((p3.toUInt32 >>> ((8 : Int32) &&& 31).toUInt32).toInt32) &&& (255 : Int32)).toUInt32.toUInt16.toUInt32.toInt32))) (.val (.int ((p1 &&& (2147483647 : Int32)) % (6 : Int32)))) (.val (.ref b186)) (Or.inr (Or.inr ⟨_, rfl⟩)) (Or.inr (Or.inl ⟨_, rfl⟩)) p_1 p_7 p_11 p_15 p_20 p_25 p_30 k_36 k_38 k_40 z_ SZ hz oe SE EE FE b189 t192 _ _ _ [(p2 &&& (255 : Int32)), (p3 &&& (255 : Int32))] C Y205 I203 S_3 E_6 S_9 E_10 S_13 E_14 F_17 E_18 F_19 F_22 F_27 E_28 F_29 F_32 V_35 V_37 V_39 EX192 FC192 FV192 VT192 (own_cod rfl rfl hp191) hp191 (Nat.le_of_ble_eq_true rfl)
          · refine g_iload C X0 d0_375 rfl (g_static (argsL := [(.int ((p2 &&& (255 : Int32)).toUInt32.toUInt16.toUInt32.toInt32))]) (st := []) C X0 (wd hw 81 rfl) (wd hw 82 rfl) (wd hw 4 rfl) (wd hw 83 rfl) (by decide) (pay_of (W' := 0) (rVo l hw X0.ext ((p2 &&& (255 : Int32)).toUInt32.toUInt16.toUInt32.toInt32) z_ SZ hz (own_latc _)) C.hZ (wd hw 83 rfl) (wd hw 4 rfl) (by decide) (by decide)) pd_14 rfl rfl _ rfl (Nat.le_of_eq rfl) d0_377 (by decide) (by decide) (fun T206 h206 v206 q206 X206 => ?_))
            obtain ⟨b206, t206, k_t206, rfl, n_b206, g206, E206, A206, C206, F206, V206⟩ := q206
            show Goes p e below _ T206 (mkF m 380 #[.val (.int p0), .val (.int p1), .val (.int p2), .val (.int p3), .val (.int (p0 &&& (3 : Int32))), .val (.int ((p1 &&& (2147483647 : Int32)) % (10 : Int32))), .val (.int ((p2 &&& (255 : Int32)).toUInt32.toUInt16.toUInt32.toInt32)), .val (.int ((p3 &&& (255 : Int32)).toUInt32.toUInt16.toUInt32.toInt32)), .val (.int ((((p3.toUInt32 >>> ((8 : Int32) &&& 31).toUInt32).toInt32) &&& (255 : Int32)).toUInt32.toUInt16.toUInt32.toInt32)), .unset, .val (.int ((p1 &&& (2147483647 : Int32)) % (6 : Int32))), .unset, .unset] [(.ref b206)])
            refine g_astore C X206 d0_380 rfl (l' := #[.val (.int p0), .val (.int p1), .val (.int p2), .val (.int p3), .val (.int (p0 &&& (3 : Int32))), .val (.int ((p1 &&& (2147483647 : Int32)) % (10 : Int32))), .val (.int ((p2 &&& (255 : Int32)).toUInt32.toUInt16.toUInt32.toInt32)), .val (.int ((p3 &&& (255 : Int32)).toUInt32.toUInt16.toUInt32.toInt32)), .val (.int ((((p3.toUInt32 >>> ((8 : Int32) &&& 31).toUInt32).toInt32) &&& (255 : Int32)).toUInt32.toUInt16.toUInt32.toInt32)), .val (.ref b206), .val (.int ((p1 &&& (2147483647 : Int32)) % (6 : Int32))), .unset, .unset]) rfl (g_goto C X206 d0_382 ?_)
            have kp207 := (Keep.refl h []).ext E206
            have I208 := Lits.keep I0 kp207 sf0
            have Y209 := X206.more (cells' := 8) (slots' := 200) (by decide) (by decide)
            exact segS hw (.val (.int p0)) (.val (.int p1)) (.val (.int p2)) (.val (.int p3)) (.val (.int (p0 &&& (3 : Int32)))) (.val (.int ((p1 &&& (2147483647 : Int32)) % (10 : Int32)))) (.val (.int ((p2 &&& (255 : Int32)).toUInt32.toUInt16.toUInt32.toInt32))) (.val (.int ((p3 &&& (255 : Int32)).toUInt32.toUInt16.toUInt32.toInt32))) (.val (.int ((((p3.toUInt32 >>> ((8 : Int32) &&& 31).toUInt32).toInt32) &&& (255 : Int32)).toUInt32.toUInt16.toUInt32.toInt32))) (.val (.int ((p1 &&& (2147483647 : Int32)) % (6 : Int32)))) (.unset) (Or.inr (Or.inr ⟨_, rfl⟩)) (Or.inl rfl) p_1 p_7 p_11 p_15 p_20 p_25 p_30 k_36 k_38 k_40 z_ SZ hz oe SE EE FE b206 t206 _ _ _ [((p2 &&& (255 : Int32)).toUInt32.toUInt16.toUInt32.toInt32)] C Y209 I208 S_3 E_6 S_9 E_10 S_13 E_14 F_17 E_18 F_19 F_22 F_27 E_28 F_29 F_32 V_35 V_37 V_39 A206 C206 F206 V206 (own_cod rfl rfl (List.forall_mem_cons.mpr ⟨own_latc _, fun _ q => nomatch q⟩)) (List.forall_mem_cons.mpr ⟨own_latc _, fun _ q => nomatch q⟩) (Nat.le_of_ble_eq_true rfl)
        · refine g_new C X0 (wd hw 2 rfl) (wd hw 3 rfl) (wd hw 4 rfl) d0_354 (by decide) (by decide) (fun T210 h210 b210 g_b210 n_b210 X210 E210 A210 D210 M210 => ?_)
          have F_coder_b210 : Fld Z h210 b210 "java/lang/String" "coder" "B" (.int 0) := D210 (Or.inr (wd hw 28 rfl)) (ty := .byte) (by decide)
          have F_value_b210 : Fld Z h210 b210 "java/lang/String" "value" "[B" .null := D210 (Or.inr (wd hw 30 rfl)) (ty := (.array .byte)) (by decide)
          refine g_dup C X210 d0_357 rfl (g_iconst 0 C X210 d0_358 rfl (g_newarray C X210 (wd hw 1 rfl) d0_359 (by decide) 0 0 (by decide) (by decide) (by decide) (by decide) (fun T211 h211 b211 k_b211 g_b211 n_b211 X211 E211 V211 => ?_)))
          have lt212 : b210 < b211 := by rw [g_b211]; exact Exa.lt A210
          have V_b211 : Arv Z h211 b211 k_b211 .char (0 : Int32) [] (.int 0) := V211
          have sz213 : h.size ≤ b210 := by rw [g_b210]; exact (Keep.refl h []).1
          have kp214 := (Keep.refl h []).ext E210
          have sz215 : h.size ≤ b211 := by rw [g_b211]; exact kp214.1
          have kp216 := kp214.ext E211
          have I217 := Lits.keep I0 kp216 sf0
          have sf218 := Lits.safe I0 kp216 sf0 (Safe.new sz213)
          have f219 := (Exa.ext E211 A210)
          have lx220 : b210 < h211.size := (Exa.lt f219)
          have f221 := (Fld.ext E211 F_coder_b210)
          have f222 := (Fld.ext E211 F_value_b210)
          refine g_specialL (argsL := [(.ref b211)]) (st := [(.ref b210)]) C X211 I217 rfl (wd hw 5 rfl) (wd hw 6 rfl) (wd hw 7 rfl) (by decide) (payL_of (W' := 1) (rI1 l hw X211.ext b210 b211 f219 f221 f222 n_b210 k_b211 V_b211) C.hZ (wd hw 7 rfl) (wd hw 4 rfl) (by decide) (by decide) (own_EW hw) I217 (List.forall_mem_cons.mpr ⟨⟨lx220, sf218⟩, fun _ q => nomatch q⟩)) pd_13 rfl rfl _ rfl (Nat.le_of_eq rfl) d0_361 (by decide) (by decide) (fun T223 h223 v223 q223 C X223 I223 R223 => ?_)
          obtain ⟨rfl, K223, EX223, FC223, t223, k_t223, nt223, FV223, VT223⟩ := q223
          have sf224 := CHr.safe R223 (Exa.lt f219) sf218
          have f225 := (Arv.keep V_b211 K223 (ninS (Nat.ne_of_gt lt212) nin0))
          show Goes p e below _ T223 (mkF m 364 #[.val (.int p0), .val (.int p1), .val (.int p2), .val (.int p3), .val (.int (p0 &&& (3 : Int32))), .val (.int ((p1 &&& (2147483647 : Int32)) % (10 : Int32))), .val (.int ((p2 &&& (255 : Int32)).toUInt32.toUInt16.toUInt32.toInt32)), .val (.int ((p3 &&& (255 : Int32)).toUInt32.toUInt16.toUInt32.toInt32)), .val (.int ((((p3.toUInt32 >>> ((8 : Int32) &&& 31).toUInt32).toInt32) &&& (255 : Int32)).toUInt32.toUInt16.toUInt32.toInt32)), .unset, .val (.int ((p1 &&& (2147483647 : Int32)) % (6 : Int32))), .unset, .unset] [(.ref b210)])
          refine g_astore C X223 d0_364 rfl (l' := #[.val (.int p0), .val (.int p1), .val (.int p2), .val (.int p3), .val (.int (p0 &&& (3 : Int32))), .val (.int ((p1 &&& (2147483647 : Int32)) % (10 : Int32))), .val (.int ((p2 &&& (255 : Int32)).toUInt32.toUInt16.toUInt32.toInt32)), .val (.int ((p3 &&& (255 : Int32)).toUInt32.toUInt16.toUInt32.toInt32)), .val (.int ((((p3.toUInt32 >>> ((8 : Int32) &&& 31).toUInt32).toInt32) &&& (255 : Int32)).toUInt32.toUInt16.toUInt32.toInt32)), .val (.ref b210), .val (.int ((p1 &&& (2147483647 : Int32)) % (6 : Int32))), .unset, .unset]) rfl (g_goto C X223 d0_366 ?_)
          have Y226 := X223.more (cells' := 8) (slots' := 200) (by decide) (by decide)
          exact segS hw (.val (.int p0)) (.val (.int p1)) (.val (.int p2)) (.val (.int p3)) (.val (.int (p0 &&& (3 : Int32)))) (.val (.int ((p1 &&& (2147483647 : Int32)) % (10 : Int32)))) (.val (.int ((p2 &&& (255 : Int32)).toUInt32.toUInt16.toUInt32.toInt32))) (.val (.int ((p3 &&& (255 : Int32)).toUInt32.toUInt16.toUInt32.toInt32))) (.val (.int ((((p3.toUInt32 >>> ((8 : Int32) &&& 31).toUInt32).toInt32) &&& (255 : Int32)).toUInt32.toUInt16.toUInt32.toInt32))) (.val (.int ((p1 &&& (2147483647 : Int32)) % (6 : Int32)))) (.unset) (Or.inr (Or.inr ⟨_, rfl⟩)) (Or.inl rfl) p_1 p_7 p_11 p_15 p_20 p_25 p_30 k_36 k_38 k_40 z_ SZ hz oe SE EE FE b210 t223 _ _ _ [] C Y226 I223 S_3 E_6 S_9 E_10 S_13 E_14 F_17 E_18 F_19 F_22 F_27 E_28 F_29 F_32 V_35 V_37 V_39 EX223 FC223 FV223 VT223 (own_cod rfl rfl (fun _ q => nomatch q)) (fun _ q => nomatch q) (by decide)
      · refine g_iloadN C X0 d0_204 rfl (g_iconst 1 C X0 d0_205 rfl (g_iand C X0 d0_206 (g_ifn (h0_ne _) C X0 d0_207 (fun c207_227 => ?_) (fun c207_227 => ?_))))
        · refine g_bipush 7 C X0 d0_284 rfl (g_newarray C X0 (wd hw 1 rfl) d0_286 (by decide) 7 7 (by decide) (by decide) (by decide) (by decide) (fun T228 h228 b228 k_b228 g_b228 n_b228 X228 E228 V228 => ?_))
          have V_b228 : Arv Z h228 b228 k_b228 .char (7 : Int32) [(.int 0), (.int 0), (.int 0), (.int 0), (.int 0), (.int 0), (.int 0)] (.int 0) := V228
          refine g_dup C X228 d0_288 rfl (g_iconst 0 C X228 d0_289 rfl (g_bipush 115 C X228 d0_290 rfl (g_castore C X228 V_b228 n_b228 d0_292 (by decide) (by decide) (Nat.le_of_ble_eq_true rfl) (.int 115) rfl (fun T229 h229 X229 W229 V229 => ?_))))
          have V229_b228 : Arv Z h229 b228 k_b228 .char (7 : Int32) [(.int 115), (.int 0), (.int 0), (.int 0), (.int 0), (.int 0), (.int 0)] (.int 0) := V229
          refine g_dup C X229 d0_293 rfl (g_iconst 1 C X229 d0_294 rfl (g_bipush 104 C X229 d0_295 rfl (g_castore C X229 V229_b228 n_b228 d0_297 (by decide) (by decide) (Nat.le_of_ble_eq_true rfl) (.int 104) rfl (fun T230 h230 X230 W230 V230 => ?_))))
          have V230_b228 : Arv Z h230 b228 k_b228 .char (7 : Int32) [(.int 115), (.int 104), (.int 0), (.int 0), (.int 0), (.int 0), (.int 0)] (.int 0) := V230
          refine g_dup C X230 d0_298 rfl (g_iconst 2 C X230 d0_299 rfl (g_bipush 97 C X230 d0_300 rfl (g_castore C X230 V230_b228 n_b228 d0_302 (by decide) (by decide) (Nat.le_of_ble_eq_true rfl) (.int 97) rfl (fun T231 h231 X231 W231 V231 => ?_))))
          have V231_b228 : Arv Z h231 b228 k_b228 .char (7 : Int32) [(.int 115), (.int 104), (.int 97), (.int 0), (.int 0), (.int 0), (.int 0)] (.int 0) := V231
          refine g_dup C X231 d0_303 rfl (g_iconst 3 C X231 d0_304 rfl (g_bipush 114 C X231 d0_305 rfl (g_castore C X231 V231_b228 n_b228 d0_307 (by decide) (by decide) (Nat.le_of_ble_eq_true rfl) (.int 114) rfl (fun T232 h232 X232 W232 V232 => ?_))))
          have V232_b228 : Arv Z h232 b228 k_b228 .char (7 : Int32) [(.int 115), (.int 104), (.int 97), (.int 114), (.int 0), (.int 0), (.int 0)] (.int 0) := V232
          refine g_dup C X232 d0_308 rfl (g_iconst 4 C X232 d0_309 rfl (g_bipush 101 C X232 d0_310 rfl (g_castore C X232 V232_b228 n_b228 d0_312 (by decide) (by decide) (Nat.le_of_ble_eq_true rfl) (.int 101) rfl (fun T233 h233 X233 W233 V233 => ?_))))
          have V233_b228 : Arv Z h233 b228 k_b228 .char (7 : Int32) [(.int 115), (.int 104), (.int 97), (.int 114), (.int 101), (.int 0), (.int 0)] (.int 0) := V233
          refine g_dup C X233 d0_313 rfl (g_iconst 5 C X233 d0_314 rfl (g_bipush 100 C X233 d0_315 rfl (g_castore C X233 V233_b228 n_b228 d0_317 (by decide) (by decide) (Nat.le_of_ble_eq_true rfl) (.int 100) rfl (fun T234 h234 X234 W234 V234 => ?_))))
          have V234_b228 : Arv Z h234 b228 k_b228 .char (7 : Int32) [(.int 115), (.int 104), (.int 97), (.int 114), (.int 101), (.int 100), (.int 0)] (.int 0) := V234
          refine g_dup C X234 d0_318 rfl (g_bipush 6 C X234 d0_319 rfl (g_iload C X234 d0_321 rfl (g_castore C X234 V234_b228 n_b228 d0_323 (by decide) (by decide) (Nat.le_of_ble_eq_true rfl) (.int (p2 &&& (255 : Int32))) (own_ch _) (fun T235 h235 X235 W235 V235 => ?_))))
          have V235_b228 : Arv Z h235 b228 k_b228 .char (7 : Int32) [(.int 115), (.int 104), (.int 97), (.int 114), (.int 101), (.int 100), (.int (p2 &&& (255 : Int32)))] (.int 0) := V235
          refine g_astore C X235 d0_324 rfl (l' := #[.val (.int p0), .val (.int p1), .val (.int p2), .val (.int p3), .val (.int (p0 &&& (3 : Int32))), .val (.int ((p1 &&& (2147483647 : Int32)) % (10 : Int32))), .val (.int ((p2 &&& (255 : Int32)).toUInt32.toUInt16.toUInt32.toInt32)), .val (.int ((p3 &&& (255 : Int32)).toUInt32.toUInt16.toUInt32.toInt32)), .val (.int ((((p3.toUInt32 >>> ((8 : Int32) &&& 31).toUInt32).toInt32) &&& (255 : Int32)).toUInt32.toUInt16.toUInt32.toInt32)), .unset, .val (.ref b228), .unset, .unset]) rfl (g_new C X235 (wd hw 2 rfl) (wd hw 3 rfl) (wd hw 4 rfl) d0_326 (by decide) (by decide) (fun T236 h236 b236 g_b236 n_b236 X236 E236 A236 D236 M236 => ?_))
          have lt237 : b228 < b236 := by rw [g_b236]; exact Arv.lt V235_b228
          have F_coder_b236 : Fld Z h236 b236 "java/lang/String" "coder" "B" (.int 0) := D236 (Or.inr (wd hw 28 rfl)) (ty := .byte) (by decide)
          have F_value_b236 : Fld Z h236 b236 "java/lang/String" "value" "[B" .null := D236 (Or.inr (wd hw 30 rfl)) (ty := (.array .byte)) (by decide)
          refine g_dup C X236 d0_329 rfl (g_aload C X236 d0_330 rfl rfl ?_)
          have hp238 : ∀ c ∈ [(115 : Int32), (104 : Int32), (97 : Int32), (114 : Int32), (101 : Int32), (100 : Int32), (p2 &&& (255 : Int32))], ¬ c < 0 ∧ ¬ (255 : Int32) < c := (List.forall_mem_cons.mpr ⟨(by decide), (List.forall_mem_cons.mpr ⟨(by decide), (List.forall_mem_cons.mpr ⟨(by decide), (List.forall_mem_cons.mpr ⟨(by decide), (List.forall_mem_cons.mpr ⟨(by decide), (List.forall_mem_cons.mpr ⟨(by decide), (List.forall_mem_cons.mpr ⟨(own_m255 _), (fun _ q => nomatch q)⟩)⟩)⟩)⟩)⟩)⟩)⟩)
          have f240 := (Arv.ext V235_b228 E236)
          refine g_special (argsL := [(.ref b228)]) (st := [(.ref b236)]) C X236 rfl (wd hw 5 rfl) (wd hw 6 rfl) (wd hw 7 rfl) (by decide) (payV (W' := 1) (cs := [(115 : Int32), (104 : Int32), (97 : Int32), (114 : Int32), (101 : Int32), (100 : Int32), (p2 &&& (255 : Int32))]) (n := 7) C.hZ X236.ext (own_words hw) (kI := 4) (wd hw 3 rfl) n_b236 A236 F_value_b236 F_coder_b236 f240 SZ hz rfl rfl (by decide) (by decide) hp238 (by decide) (by decide)) pd_13 rfl rfl _ rfl (Nat.le_of_eq rfl) d0_332 (by decide) (by decide) (fun T239 h239 v239 q239 X239 => ?_)
          obtain ⟨rfl, K239, EX239, FC239, t239, k_t239, nt0_239, gt239, nt239, FV239, VT239⟩ := q239
          have lt241 : b228 < t239 := Nat.lt_of_lt_of_le (Arv.lt f240) gt239
          have lt242 : b236 < t239 := Nat.lt_of_lt_of_le (Exa.lt A236) gt239
          show Goes p e below _ T239 (mkF m 335 #[.val (.int p0), .val (.int p1), .val (.int p2), .val (.int p3), .val (.int (p0 &&& (3 : Int32))), .val (.int ((p1 &&& (2147483647 : Int32)) % (10 : Int32))), .val (.int ((p2 &&& (255 : Int32)).toUInt32.toUInt16.toUInt32.toInt32)), .val (.int ((p3 &&& (255 : Int32)).toUInt32.toUInt16.toUInt32.toInt32)), .val (.int ((((p3.toUInt32 >>> ((8 : Int32) &&& 31).toUInt32).toInt32) &&& (255 : Int32)).toUInt32.toUInt16.toUInt32.toInt32)), .unset, .val (.ref b228), .unset, .unset] [(.ref b236)])
          refine g_astore C X239 d0_335 rfl (l' := #[.val (.int p0), .val (.int p1), .val (.int p2), .val (.int p3), .val (.int (p0 &&& (3 : Int32))), .val (.int ((p1 &&& (2147483647 : Int32)) % (10 : Int32))), .val (.int ((p2 &&& (255 : Int32)).toUInt32.toUInt16.toUInt32.toInt32)), .val (.int ((p3 &&& (255 : Int32)).toUInt32.toUInt16.toUInt32.toInt32)), .val (.int ((((p3.toUInt32 >>> ((8 : Int32) &&& 31).toUInt32).toInt32) &&& (255 : Int32)).toUInt32.toUInt16.toUInt32.toInt32)), .val (.ref b236), .val (.ref b228), .unset, .unset]) rfl (g_goto C X239 d0_337 ?_)
          have sz243 : h.size ≤ b228 := by rw [g_b228]; exact (Keep.refl h []).1
          have kp244 := (Keep.refl h []).ext E228
          have kp245 := kp244.wr W229 (Or.inr sz243)
          have kp246 := kp245.wr W230 (Or.inr sz243)
          have kp247 := kp246.wr W231 (Or.inr sz243)
          have kp248 := kp247.wr W232 (Or.inr sz243)
          have kp249 := kp248.wr W233 (Or.inr sz243)
          have kp250 := kp249.wr W234 (Or.inr sz243)
          have kp251 := kp250.wr W235 (Or.inr sz243)
          have sz252 : h.size ≤ b236 := by rw [g_b236]; exact kp251.1
          have kp253 := kp251.ext E236
          have kp254 := kp253.trans K239 (allS (Or.inr sz252) all0)
          have I255 := Lits.keep I0 kp254 sf0
          have f256 := (Arv.keep f240 K239 (ninS (Nat.ne_of_lt lt237) nin0))
          have Y257 := X239.more (cells' := 8) (slots' := 200) (by decide) (by decide)
          exact segS hw (.val (.int p0)) (.val (.int p1)) (.val (.int p2)) (.val (.int p3)) (.val (.int (p0 &&& (3 : Int32)))) (.val (.int ((p1 &&& (2147483647 : Int32)) % (10 : Int32)))) (.val (.int ((p2 &&& (255 : Int32)).toUInt32.toUInt16.toUInt32.toInt32))) (.val (.int ((p3 &&& (255 : Int32)).toUInt32.toUInt16.toUInt32.toInt32))) (.val (.int ((((p3.toUInt32 >>> ((8 : Int32) &&& 31).toUInt32).toInt32) &&& (255 : Int32)).toUInt32.toUInt16.toUInt32.toInt32))) (.val (.ref b228)) (.unset) (Or.inr (Or.inl ⟨_, rfl⟩)) (Or.inl rfl) p_1 p_7 p_11 p_15 p_20 p_25 p_30 k_36 k_38 k_40 z_ SZ hz oe SE EE FE b236 t239 _ _ _ [(115 : Int32), (104 : Int32), (97 : Int32), (114 : Int32), (101 : Int32), (100 : Int32), (p2 &&& (255 : Int32))] C Y257 I255 S_3 E_6 S_9 E_10 S_13 E_14 F_17 E_18 F_19 F_22 F_27 E_28 F_29 F_32 V_35 V_37 V_39 EX239 FC239 FV239 VT239 (own_cod rfl rfl hp238) hp238 (Nat.le_of_ble_eq_true rfl)
        · refine g_bipush 10 C X0 d0_210 rfl (g_newarray C X0 (wd hw 1 rfl) d0_212 (by decide) 10 10 (by decide) (by decide) (by decide) (by decide) (fun T258 h258 b258 k_b258 g_b258 n_b258 X258 E258 V258 => ?_))
          have V_b258 : Arv Z h258 b258 k_b258 .char (10 : Int32) [(.int 0), (.int 0), (.int 0), (.int 0), (.int 0), (.int 0), (.int 0), (.int 0), (.int 0), (.int 0)] (.int 0) := V258
          refine g_dup C X258 d0_214 rfl (g_iconst 0 C X258 d0_215 rfl (g_bipush 101 C X258 d0_216 rfl (g_castore C X258 V_b258 n_b258 d0_218 (by decide) (by decide) (Nat.le_of_ble_eq_true rfl) (.int 101) rfl (fun T259 h259 X259 W259 V259 => ?_))))
          have V259_b258 : Arv Z h259 b258 k_b258 .char (10 : Int32) [(.int 101), (.int 0), (.int 0), (.int 0), (.int 0), (.int 0), (.int 0), (.int 0), (.int 0), (.int 0)] (.int 0) := V259
          refine g_dup C X259 d0_219 rfl (g_iconst 1 C X259 d0_220 rfl (g_bipush 120 C X259 d0_221 rfl (g_castore C X259 V259_b258 n_b258 d0_223 (by decide) (by decide) (Nat.le_of_ble_eq_true rfl) (.int 120) rfl (fun T260 h260 X260 W260 V260 => ?_))))
          have V260_b258 : Arv Z h260 b258 k_b258 .char (10 : Int32) [(.int 101), (.int 120), (.int 0), (.int 0), (.int 0), (.int 0), (.int 0), (.int 0), (.int 0), (.int 0)] (.int 0) := V260
          refine g_dup C X260 d0_224 rfl (g_iconst 2 C X260 d0_225 rfl (g_bipush 99 C X260 d0_226 rfl (g_castore C X260 V260_b258 n_b258 d0_228 (by decide) (by decide) (Nat.le_of_ble_eq_true rfl) (.int 99) rfl (fun T261 h261 X261 W261 V261 => ?_))))
          have V261_b258 : Arv Z h261 b258 k_b258 .char (10 : Int32) [(.int 101), (.int 120), (.int 99), (.int 0), (.int 0), (.int 0), (.int 0), (.int 0), (.int 0), (.int 0)] (.int 0) := V261
          refine g_dup C X261 d0_229 rfl (g_iconst 3 C X261 d0_230 rfl (g_bipush 108 C X261 d0_231 rfl (g_castore C X261 V261_b258 n_b258 d0_233 (by decide) (by decide) (Nat.le_of_ble_eq_true rfl) (.int 108) rfl (fun T262 h262 X262 W262 V262 => ?_))))
          have V262_b258 : Arv Z h262 b258 k_b258 .char (10 : Int32) [(.int 101), (.int 120), (.int 99), (.int 108), (.int 0), (.int 0), (.int 0), (.int 0), (.int 0), (.int 0)] (.int 0) := V262
          refine g_dup C X262 d0_234 rfl (g_iconst 4 C X262 d0_235 rfl (g_bipush 117 C X262 d0_236 rfl (g_castore C X262 V262_b258 n_b258 d0_238 (by decide) (by decide) (Nat.le_of_ble_eq_true rfl) (.int 117) rfl (fun T263 h263 X263 W263 V263 => ?_))))
          have V263_b258 : Arv Z h263 b258 k_b258 .char (10 : Int32) [(.int 101), (.int 120), (.int 99), (.int 108), (.int 117), (.int 0), (.int 0), (.int 0), (.int 0), (.int 0)] (.int 0) := V263
          refine g_dup C X263 d0_239 rfl (g_iconst 5 C X263 d0_240 rfl (g_bipush 115 C X263 d0_241 rfl (g_castore C X263 V263_b258 n_b258 d0_243 (by decide) (by decide) (Nat.le_of_ble_eq_true rfl) (.int 115) rfl (fun T264 h264 X264 W264 V264 => ?_))))
          have V264_b258 : Arv Z h264 b258 k_b258 .char (10 : Int32) [(.int 101), (.int 120), (.int 99), (.int 108), (.int 117), (.int 115), (.int 0), (.int 0), (.int 0), (.int 0)] (.int 0) := V264
          refine g_dup C X264 d0_244 rfl (g_bipush 6 C X264 d0_245 rfl (g_bipush 105 C X264 d0_247 rfl (g_castore C X264 V264_b258 n_b258 d0_249 (by decide) (by decide) (Nat.le_of_ble_eq_true rfl) (.int 105) rfl (fun T265 h265 X265 W265 V265 => ?_))))
          have V265_b258 : Arv Z h265 b258 k_b258 .char (10 : Int32) [(.int 101), (.int 120), (.int 99), (.int 108), (.int 117), (.int 115), (.int 105), (.int 0), (.int 0), (.int 0)] (.int 0) := V265
          refine g_dup C X265 d0_250 rfl (g_bipush 7 C X265 d0_251 rfl (g_bipush 118 C X265 d0_253 rfl (g_castore C X265 V265_b258 n_b258 d0_255 (by decide) (by decide) (Nat.le_of_ble_eq_true rfl) (.int 118) rfl (fun T266 h266 X266 W266 V266 => ?_))))
          have V266_b258 : Arv Z h266 b258 k_b258 .char (10 : Int32) [(.int 101), (.int 120), (.int 99), (.int 108), (.int 117), (.int 115), (.int 105), (.int 118), (.int 0), (.int 0)] (.int 0) := V266
          refine g_dup C X266 d0_256 rfl (g_bipush 8 C X266 d0_257 rfl (g_bipush 101 C X266 d0_259 rfl (g_castore C X266 V266_b258 n_b258 d0_261 (by decide) (by decide) (Nat.le_of_ble_eq_true rfl) (.int 101) rfl (fun T267 h267 X267 W267 V267 => ?_))))
          have V267_b258 : Arv Z h267 b258 k_b258 .char (10 : Int32) [(.int 101), (.int 120), (.int 99), (.int 108), (.int 117), (.int 115), (.int 105), (.int 118), (.int 101), (.int 0)] (.int 0) := V267
          refine g_dup C X267 d0_262 rfl (g_bipush 9 C X267 d0_263 rfl (g_iload C X267 d0_265 rfl (g_castore C X267 V267_b258 n_b258 d0_267 (by decide) (by decide) (Nat.le_of_ble_eq_true rfl) (.int (p2 &&& (255 : Int32))) (own_ch _) (fun T268 h268 X268 W268 V268 => ?_))))
          have V268_b258 : Arv Z h268 b258 k_b258 .char (10 : Int32) [(.int 101), (.int 120), (.int 99), (.int 108), (.int 117), (.int 115), (.int 105), (.int 118), (.int 101), (.int (p2 &&& (255 : Int32)))] (.int 0) := V268
          refine g_astore C X268 d0_268 rfl (l' := #[.val (.int p0), .val (.int p1), .val (.int p2), .val (.int p3), .val (.int (p0 &&& (3 : Int32))), .val (.int ((p1 &&& (2147483647 : Int32)) % (10 : Int32))), .val (.int ((p2 &&& (255 : Int32)).toUInt32.toUInt16.toUInt32.toInt32)), .val (.int ((p3 &&& (255 : Int32)).toUInt32.toUInt16.toUInt32.toInt32)), .val (.int ((((p3.toUInt32 >>> ((8 : Int32) &&& 31).toUInt32).toInt32) &&& (255 : Int32)).toUInt32.toUInt16.toUInt32.toInt32)), .unset, .val (.ref b258), .unset, .unset]) rfl (g_new C X268 (wd hw 2 rfl) (wd hw 3 rfl) (wd hw 4 rfl) d0_270 (by decide) (by decide) (fun T269 h269 b269 g_b269 n_b269 X269 E269 A269 D269 M269 => ?_))
          have lt270 : b258 < b269 := by rw [g_b269]; exact Arv.lt V268_b258
          have F_coder_b269 : Fld Z h269 b269 "java/lang/String" "coder" "B" (.int 0) := D269 (Or.inr (wd hw 28 rfl)) (ty := .byte) (by decide)
          have F_value_b269 : Fld Z h269 b269 "java/lang/String" "value" "[B" .null := D269 (Or.inr (wd hw 30 rfl)) (ty := (.array .byte)) (by decide)
          refine g_dup C X269 d0_273 rfl (g_aload C X269 d0_274 rfl rfl ?_)
          have hp271 : ∀ c ∈ [(101 : Int32), (120 : Int32), (99 : Int32), (108 : Int32), (117 : Int32), (115 : Int32), (105 : Int32), (118 : Int32), (101 : Int32), (p2 &&& (255 : Int32))], ¬ c < 0 ∧ ¬ (255 : Int32) < c := (List.forall_mem_cons.mpr ⟨(by decide), (List.forall_mem_cons.mpr ⟨(by decide), (List.forall_mem_cons.mpr ⟨(by decide), (List.forall_mem_cons.mpr ⟨(by decide), (List.forall_mem_cons.mpr ⟨(by decide), (List.forall_mem_cons.mpr ⟨(by decide), (List.forall_mem_cons.mpr ⟨(by decide), (List.forall_mem_cons.mpr ⟨(by decide), (List.forall_mem_cons.mpr ⟨(by decide), (List.forall_mem_cons.mpr ⟨(own_m255 _), (fun _ q => nomatch q)⟩)⟩)⟩)⟩)⟩)⟩)⟩)⟩)⟩)⟩)
          have f273 := (Arv.ext V268_b258 E269)
          refine g_special (argsL := [(.ref b258)]) (st := [(.ref b269)]) C X269 rfl (wd hw 5 rfl) (wd hw 6 rfl) (wd hw 7 rfl) (by decide) (payV (W' := 1) (cs := [(101 : Int32), (120 : Int32), (99 : Int32), (108 : Int32), (117 : Int32), (115 : Int32), (105 : Int32), (118 : Int32), (101 : Int32), (p2 &&& (255 : Int32))]) (n := 10) C.hZ X269.ext (own_words hw) (kI := 4) (wd hw 3 rfl) n_b269 A269 F_value_b269 F_coder_b269 f273 SZ hz rfl rfl (by decide) (by decide) hp271 (by decide) (by decide)) pd_13 rfl rfl _ rfl (Nat.le_of_eq rfl) d0_276 (by decide) (by decide) (fun T272 h272 v272 q272 X272 => ?_)
          obtain ⟨rfl, K272, EX272, FC272, t272, k_t272, nt0_272, gt272, nt272, FV272, VT272⟩ := q272
          have lt274 : b258 < t272 := Nat.lt_of_lt_of_le (Arv.lt f273) gt272
          have lt275 : b269 < t272 := Nat.lt_of_lt_of_le (Exa.lt A269) gt272
          show Goes p e below _ T272 (mkF m 279 #[.val (.int p0), .val (.int p1), .val (.int p2), .val (.int p3), .val (.int (p0 &&& (3 : Int32))), .val (.int ((p1 &&& (2147483647 : Int32)) % (10 : Int32))), .val (.int ((p2 &&& (255 : Int32)).toUInt32.toUInt16.toUInt32.toInt32)), .val (.int ((p3 &&& (255 : Int32)).toUInt32.toUInt16.toUInt32.toInt32)), .val (.int ((((p3.toUInt32 >>> ((8 : Int32) &&& 31).toUInt32).toInt32) &&& (255 : Int32)).toUInt32.toUInt16.toUInt32.toInt32)), .unset, .val (.ref b258), .unset, .unset] [(.ref b269)])
          refine g_astore C X272 d0_279 rfl (l' := #[.val (.int p0), .val (.int p1), .val (.int p2), .val (.int p3), .val (.int (p0 &&& (3 : Int32))), .val (.int ((p1 &&& (2147483647 : Int32)) % (10 : Int32))), .val (.int ((p2 &&& (255 : Int32)).toUInt32.toUInt16.toUInt32.toInt32)), .val (.int ((p3 &&& (255 : Int32)).toUInt32.toUInt16.toUInt32.toInt32)), .val (.int ((((p3.toUInt32 >>> ((8 : Int32) &&& 31).toUInt32).toInt32) &&& (255 : Int32)).toUInt32.toUInt16.toUInt32.toInt32)), .val (.ref b269), .val (.ref b258), .unset, .unset]) rfl (g_goto C X272 d0_281 ?_)
          have sz276 : h.size ≤ b258 := by rw [g_b258]; exact (Keep.refl h []).1
          have kp277 := (Keep.refl h []).ext E258
          have kp278 := kp277.wr W259 (Or.inr sz276)
          have kp279 := kp278.wr W260 (Or.inr sz276)
          have kp280 := kp279.wr W261 (Or.inr sz276)
          have kp281 := kp280.wr W262 (Or.inr sz276)
          have kp282 := kp281.wr W263 (Or.inr sz276)
          have kp283 := kp282.wr W264 (Or.inr sz276)
          have kp284 := kp283.wr W265 (Or.inr sz276)
          have kp285 := kp284.wr W266 (Or.inr sz276)
          have kp286 := kp285.wr W267 (Or.inr sz276)
          have kp287 := kp286.wr W268 (Or.inr sz276)
          have sz288 : h.size ≤ b269 := by rw [g_b269]; exact kp287.1
          have kp289 := kp287.ext E269
          have kp290 := kp289.trans K272 (allS (Or.inr sz288) all0)
          have I291 := Lits.keep I0 kp290 sf0
          have f292 := (Arv.keep f273 K272 (ninS (Nat.ne_of_lt lt270) nin0))
          have Y293 := X272.more (cells' := 8) (slots' := 200) (by decide) (by decide)
          exact segS hw (.val (.int p0)) (.val (.int p1)) (.val (.int p2)) (.val (.int p3)) (.val (.int (p0 &&& (3 : Int32)))) (.val (.int ((p1 &&& (2147483647 : Int32)) % (10 : Int32)))) (.val (.int ((p2 &&& (255 : Int32)).toUInt32.toUInt16.toUInt32.toInt32))) (.val (.int ((p3 &&& (255 : Int32)).toUInt32.toUInt16.toUInt32.toInt32))) (.val (.int ((((p3.toUInt32 >>> ((8 : Int32) &&& 31).toUInt32).toInt32) &&& (255 : Int32)).toUInt32.toUInt16.toUInt32.toInt32))) (.val (.ref b258)) (.unset) (Or.inr (Or.inl ⟨_, rfl⟩)) (Or.inl rfl) p_1 p_7 p_11 p_15 p_20 p_25 p_30 k_36 k_38 k_40 z_ SZ hz oe SE EE FE b269 t272 _ _ _ [(101 : Int32), (120 : Int32), (99 : Int32), (108 : Int32), (117 : Int32), (115 : Int32), (105 : Int32), (118 : Int32), (101 : Int32), (p2 &&& (255 : Int32))] C Y293 I291 S_3 E_6 S_9 E_10 S_13 E_14 F_17 E_18 F_19 F_22 F_27 E_28 F_29 F_32 V_35 V_37 V_39 EX272 FC272 FV272 VT272 (own_cod rfl rfl hp271) hp271 (Nat.le_of_ble_eq_true rfl)
    · refine g_bipush 6 C X0 d0_134 rfl (g_newarray C X0 (wd hw 1 rfl) d0_136 (by decide) 6 6 (by decide) (by decide) (by decide) (by decide) (fun T294 h294 b294 k_b294 g_b294 n_b294 X294 E294 V294 => ?_))
      have V_b294 : Arv Z h294 b294 k_b294 .char (6 : Int32) [(.int 0), (.int 0), (.int 0), (.int 0), (.int 0), (.int 0)] (.int 0) := V294
      refine g_dup C X294 d0_138 rfl (g_iconst 0 C X294 d0_139 rfl (g_bipush 115 C X294 d0_140 rfl (g_castore C X294 V_b294 n_b294 d0_142 (by decide) (by decide) (Nat.le_of_ble_eq_true rfl) (.int 115) rfl (fun T295 h295 X295 W295 V295 => ?_))))
      have V295_b294 : Arv Z h295 b294 k_b294 .char (6 : Int32) [(.int 115), (.int 0), (.int 0), (.int 0), (.int 0), (.int 0)] (.int 0) := V295
      refine g_dup C X295 d0_143 rfl (g_iconst 1 C X295 d0_144 rfl (g_bipush 104 C X295 d0_145 rfl (g_castore C X295 V295_b294 n_b294 d0_147 (by decide) (by decide) (Nat.le_of_ble_eq_true rfl) (.int 104) rfl (fun T296 h296 X296 W296 V296 => ?_))))
      have V296_b294 : Arv Z h296 b294 k_b294 .char (6 : Int32) [(.int 115), (.int 104), (.int 0), (.int 0), (.int 0), (.int 0)] (.int 0) := V296
      refine g_dup C X296 d0_148 rfl (g_iconst 2 C X296 d0_149 rfl (g_bipush 97 C X296 d0_150 rfl (g_castore C X296 V296_b294 n_b294 d0_152 (by decide) (by decide) (Nat.le_of_ble_eq_true rfl) (.int 97) rfl (fun T297 h297 X297 W297 V297 => ?_))))
      have V297_b294 : Arv Z h297 b294 k_b294 .char (6 : Int32) [(.int 115), (.int 104), (.int 97), (.int 0), (.int 0), (.int 0)] (.int 0) := V297
      refine g_dup C X297 d0_153 rfl (g_iconst 3 C X297 d0_154 rfl (g_bipush 114 C X297 d0_155 rfl (g_castore C X297 V297_b294 n_b294 d0_157 (by decide) (by decide) (Nat.le_of_ble_eq_true rfl) (.int 114) rfl (fun T298 h298 X298 W298 V298 => ?_))))
      have V298_b294 : Arv Z h298 b294 k_b294 .char (6 : Int32) [(.int 115), (.int 104), (.int 97), (.int 114), (.int 0), (.int 0)] (.int 0) := V298
      refine g_dup C X298 d0_158 rfl (g_iconst 4 C X298 d0_159 rfl (g_bipush 101 C X298 d0_160 rfl (g_castore C X298 V298_b294 n_b294 d0_162 (by decide) (by decide) (Nat.le_of_ble_eq_true rfl) (.int 101) rfl (fun T299 h299 X299 W299 V299 => ?_))))
      have V299_b294 : Arv Z h299 b294 k_b294 .char (6 : Int32) [(.int 115), (.int 104), (.int 97), (.int 114), (.int 101), (.int 0)] (.int 0) := V299
      refine g_dup C X299 d0_163 rfl (g_iconst 5 C X299 d0_164 rfl (g_bipush 100 C X299 d0_165 rfl (g_castore C X299 V299_b294 n_b294 d0_167 (by decide) (by decide) (Nat.le_of_ble_eq_true rfl) (.int 100) rfl (fun T300 h300 X300 W300 V300 => ?_))))
      have V300_b294 : Arv Z h300 b294 k_b294 .char (6 : Int32) [(.int 115), (.int 104), (.int 97), (.int 114), (.int 101), (.int 100)] (.int 0) := V300
      refine g_astore C X300 d0_168 rfl (l' := #[.val (.int p0), .val (.int p1), .val (.int p2), .val (.int p3), .val (.int (p0 &&& (3 : Int32))), .val (.int ((p1 &&& (2147483647 : Int32)) % (10 : Int32))), .val (.int ((p2 &&& (255 : Int32)).toUInt32.toUInt16.toUInt32.toInt32)), .val (.int ((p3 &&& (255 : Int32)).toUInt32.toUInt16.toUInt32.toInt32)), .val (.int ((((p3.toUInt32 >>> ((8 : Int32) &&& 31).toUInt32).toInt32) &&& (255 : Int32)).toUInt32.toUInt16.toUInt32.toInt32)), .unset, .val (.ref b294), .unset, .unset]) rfl (g_iload C X300 d0_170 rfl (g_bipush 6 C X300 d0_172 rfl (g_icmpn (hI_ge _ _) C X300 d0_174 (fun c174_301 => ?_) (fun c174_301 => ?_))))
      · refine g_new C X300 (wd hw 2 rfl) (wd hw 3 rfl) (wd hw 4 rfl) d0_184 (by decide) (by decide) (fun T302 h302 b302 g_b302 n_b302 X302 E302 A302 D302 M302 => ?_)
        have lt303 : b294 < b302 := by rw [g_b302]; exact Arv.lt V300_b294
        have F_coder_b302 : Fld Z h302 b302 "java/lang/String" "coder" "B" (.int 0) := D302 (Or.inr (wd hw 28 rfl)) (ty := .byte) (by decide)
        have F_value_b302 : Fld Z h302 b302 "java/lang/String" "value" "[B" .null := D302 (Or.inr (wd hw 30 rfl)) (ty := (.array .byte)) (by decide)
        refine g_dup C X302 d0_187 rfl (g_aload C X302 d0_188 rfl rfl ?_)
        have hp304 : ∀ c ∈ [(115 : Int32), (104 : Int32), (97 : Int32), (114 : Int32), (101 : Int32), (100 : Int32)], ¬ c < 0 ∧ ¬ (255 : Int32) < c := (List.forall_mem_cons.mpr ⟨(by decide), (List.forall_mem_cons.mpr ⟨(by decide), (List.forall_mem_cons.mpr ⟨(by decide), (List.forall_mem_cons.mpr ⟨(by decide), (List.forall_mem_cons.mpr ⟨(by decide), (List.forall_mem_cons.mpr ⟨(by decide), (fun _ q => nomatch q)⟩)⟩)⟩)⟩)⟩)⟩)
        have f306 := (Arv.ext V300_b294 E302)
        refine g_special (argsL := [(.ref b294)]) (st := [(.ref b302)]) C X302 rfl (wd hw 5 rfl) (wd hw 6 rfl) (wd hw 7 rfl) (by decide) (payV (W' := 1) (cs := [(115 : Int32), (104 : Int32), (97 : Int32), (114 : Int32), (101 : Int32), (100 : Int32)]) (n := 6) C.hZ X302.ext (own_words hw) (kI := 4) (wd hw 3 rfl) n_b302 A302 F_value_b302 F_coder_b302 f306 SZ hz rfl rfl (by decide) (by decide) hp304 (by decide) (by decide)) pd_13 rfl rfl _ rfl (Nat.le_of_eq rfl) d0_190 (by decide) (by decide) (fun T305 h305 v305 q305 X305 => ?_)
        obtain ⟨rfl, K305, EX305, FC305, t305, k_t305, nt0_305, gt305, nt305, FV305, VT305⟩ := q305
        have lt307 : b294 < t305 := Nat.lt_of_lt_of_le (Arv.lt f306) gt305
        have lt308 : b302 < t305 := Nat.lt_of_lt_of_le (Exa.lt A302) gt305
        show Goes p e below _ T305 (mkF m 193 #[.val (.int p0), .val (.int p1), .val (.int p2), .val (.int p3), .val (.int (p0 &&& (3 : Int32))), .val (.int ((p1 &&& (2147483647 : Int32)) % (10 : Int32))), .val (.int ((p2 &&& (255 : Int32)).toUInt32.toUInt16.toUInt32.toInt32)), .val (.int ((p3 &&& (255 : Int32)).toUInt32.toUInt16.toUInt32.toInt32)), .val (.int ((((p3.toUInt32 >>> ((8 : Int32) &&& 31).toUInt32).toInt32) &&& (255 : Int32)).toUInt32.toUInt16.toUInt32.toInt32)), .unset, .val (.ref b294), .unset, .unset] [(.ref b302)])
        refine g_astore C X305 d0_193 rfl (l' := #[.val (.int p0), .val (.int p1), .val (.int p2), .val (.int p3), .val (.int (p0 &&& (3 : Int32))), .val (.int ((p1 &&& (2147483647 : Int32)) % (10 : Int32))), .val (.int ((p2 &&& (255 : Int32)).toUInt32.toUInt16.toUInt32.toInt32)), .val (.int ((p3 &&& (255 : Int32)).toUInt32.toUInt16.toUInt32.toInt32)), .val (.int ((((p3.toUInt32 >>> ((8 : Int32) &&& 31).toUInt32).toInt32) &&& (255 : Int32)).toUInt32.toUInt16.toUInt32.toInt32)), .val (.ref b302), .val (.ref b294), .unset, .unset]) rfl (g_goto C X305 d0_195 ?_)
        have sz309 : h.size ≤ b294 := by rw [g_b294]; exact (Keep.refl h []).1
        have kp310 := (Keep.refl h []).ext E294
        have kp311 := kp310.wr W295 (Or.inr sz309)
        have kp312 := kp311.wr W296 (Or.inr sz309)
        have kp313 := kp312.wr W297 (Or.inr sz309)
        have kp314 := kp313.wr W298 (Or.inr sz309)
        have kp315 := kp314.wr W299 (Or.inr sz309)
        have kp316 := kp315.wr W300 (Or.inr sz309)
        have sz317 : h.size ≤ b302 := by rw [g_b302]; exact kp316.1
        have kp318 := kp316.ext E302
        have kp319 := kp318.trans K305 (allS (Or.inr sz317) all0)
        have I320 := Lits.keep I0 kp319 sf0
        have f321 := (Arv.keep f306 K305 (ninS (Nat.ne_of_lt lt303) nin0))
        have Y322 := X305.more (cells' := 8) (slots' := 200) (by decide) (by decide)
        exact segS hw (.val (.int p0)) (.val (.int p1)) (.val (.int p2)) (.val (.int p3)) (.val (.int (p0 &&& (3 : Int32)))) (.val (.int ((p1 &&& (2147483647 : Int32)) % (10 : Int32)))) (.val (.int ((p2 &&& (255 : Int32)).toUInt32.toUInt16.toUInt32.toInt32))) (.val (.int ((p3 &&& (255 : Int32)).toUInt32.toUInt16.toUInt32.toInt32))) (.val (.int ((((p3.toUInt32 >>> ((8 : Int32) &&& 31).toUInt32).toInt32) &&& (255 : Int32)).toUInt32.toUInt16.toUInt32.toInt32))) (.val (.ref b294)) (.unset) (Or.inr (Or.inl ⟨_, rfl⟩)) (Or.inl rfl) p_1 p_7 p_11 p_15 p_20 p_25 p_30 k_36 k_38 k_40 z_ SZ hz oe SE EE FE b302 t305 _ _ _ [(115 : Int32), (104 : Int32), (97 : Int32), (114 : Int32), (101 : Int32), (100 : Int32)] C Y322 I320 S_3 E_6 S_9 E_10 S_13 E_14 F_17 E_18 F_19 F_22 F_27 E_28 F_29 F_32 V_35 V_37 V_39 EX305 FC305 FV305 VT305 (own_cod rfl rfl hp304) hp304 (Nat.le_of_ble_eq_true rfl)
      · refine g_aload C X300 d0_177 rfl rfl (g_iload C X300 d0_179 rfl (g_iload C X300 d0_181 rfl (g_castore C X300 V300_b294 n_b294 d0_183 (own_r10 p1) c174_301 (own_clamp (own_r10 p1) c174_301 (by decide)) (.int (p2 &&& (255 : Int32))) (own_ch _) (fun T323 h323 X323 W323 V323 => ?_))))
        have W_323 : Arv Z h323 b294 k_b294 .char 6 (([(115 : Int32), (104 : Int32), (97 : Int32), (114 : Int32), (101 : Int32), (100 : Int32)].set (((p1 &&& (2147483647 : Int32)) % (10 : Int32))).toNatClampNeg (p2 &&& (255 : Int32))).map Value.int) (.int (0 : Int32)) := own_mapset [(115 : Int32), (104 : Int32), (97 : Int32), (114 : Int32), (101 : Int32), (100 : Int32)] _ _ ▸ V323
        show Goes p e below _ T323 (mkF m 184 #[.val (.int p0), .val (.int p1), .val (.int p2), .val (.int p3), .val (.int (p0 &&& (3 : Int32))), .val (.int ((p1 &&& (2147483647 : Int32)) % (10 : Int32))), .val (.int ((p2 &&& (255 : Int32)).toUInt32.toUInt16.toUInt32.toInt32)), .val (.int ((p3 &&& (255 : Int32)).toUInt32.toUInt16.toUInt32.toInt32)), .val (.int ((((p3.toUInt32 >>> ((8 : Int32) &&& 31).toUInt32).toInt32) &&& (255 : Int32)).toUInt32.toUInt16.toUInt32.toInt32)), .unset, .val (.ref b294), .unset, .unset] [])
        refine g_new C X323 (wd hw 2 rfl) (wd hw 3 rfl) (wd hw 4 rfl) d0_184 (by decide) (by decide) (fun T324 h324 b324 g_b324 n_b324 X324 E324 A324 D324 M324 => ?_)
        have lt325 : b294 < b324 := by rw [g_b324]; exact Arv.lt W_323
        have F_coder_b324 : Fld Z h324 b324 "java/lang/String" "coder" "B" (.int 0) := D324 (Or.inr (wd hw 28 rfl)) (ty := .byte) (by decide)
        have F_value_b324 : Fld Z h324 b324 "java/lang/String" "value" "[B" .null := D324 (Or.inr (wd hw 30 rfl)) (ty := (.array .byte)) (by decide)
        refine g_dup C X324 d0_187 rfl (g_aload C X324 d0_188 rfl rfl ?_)
        have hp326 : ∀ c ∈ ([(115 : Int32), (104 : Int32), (97 : Int32), (114 : Int32), (101 : Int32), (100 : Int32)].set (((p1 &&& (2147483647 : Int32)) % (10 : Int32))).toNatClampNeg (p2 &&& (255 : Int32))), ¬ c < 0 ∧ ¬ (255 : Int32) < c := own_set (by decide) (own_m255 _)
        have f328 := (Arv.ext W_323 E324)
        refine g_special (argsL := [(.ref b294)]) (st := [(.ref b324)]) C X324 rfl (wd hw 5 rfl) (wd hw 6 rfl) (wd hw 7 rfl) (by decide) (payV (W' := 1) (cs := ([(115 : Int32), (104 : Int32), (97 : Int32), (114 : Int32), (101 : Int32), (100 : Int32)].set (((p1 &&& (2147483647 : Int32)) % (10 : Int32))).toNatClampNeg (p2 &&& (255 : Int32)))) (n := 6) C.hZ X324.ext (own_words hw) (kI := 4) (wd hw 3 rfl) n_b324 A324 F_value_b324 F_coder_b324 f328 SZ hz (List.length_set) rfl (by decide) (by decide) hp326 (by decide) (by decide)) pd_13 rfl rfl _ rfl (Nat.le_of_eq rfl) d0_190 (by decide) (by decide) (fun T327 h327 v327 q327 X327 => ?_)
        obtain ⟨rfl, K327, EX327, FC327, t327, k_t327, nt0_327, gt327, nt327, FV327, VT327⟩ := q327
        have lt329 : b294 < t327 := Nat.lt_of_lt_of_le (Arv.lt f328) gt327
        have lt330 : b324 < t327 := Nat.lt_of_lt_of_le (Exa.lt A324) gt327
        show Goes p e below _ T327 (mkF m 193 #[.val (.int p0), .val (.int p1), .val (.int p2), .val (.int p3), .val (.int (p0 &&& (3 : Int32))), .val (.int ((p1 &&& (2147483647 : Int32)) % (10 : Int32))), .val (.int ((p2 &&& (255 : Int32)).toUInt32.toUInt16.toUInt32.toInt32)), .val (.int ((p3 &&& (255 : Int32)).toUInt32.toUInt16.toUInt32.toInt32)), .val (.int ((((p3.toUInt32 >>> ((8 : Int32) &&& 31).toUInt32).toInt32) &&& (255 : Int32)).toUInt32.toUInt16.toUInt32.toInt32)), .unset, .val (.ref b294), .unset, .unset] [(.ref b324)])
        refine g_astore C X327 d0_193 rfl (l' := #[.val (.int p0), .val (.int p1), .val (.int p2), .val (.int p3), .val (.int (p0 &&& (3 : Int32))), .val (.int ((p1 &&& (2147483647 : Int32)) % (10 : Int32))), .val (.int ((p2 &&& (255 : Int32)).toUInt32.toUInt16.toUInt32.toInt32)), .val (.int ((p3 &&& (255 : Int32)).toUInt32.toUInt16.toUInt32.toInt32)), .val (.int ((((p3.toUInt32 >>> ((8 : Int32) &&& 31).toUInt32).toInt32) &&& (255 : Int32)).toUInt32.toUInt16.toUInt32.toInt32)), .val (.ref b324), .val (.ref b294), .unset, .unset]) rfl (g_goto C X327 d0_195 ?_)
        have sz331 : h.size ≤ b294 := by rw [g_b294]; exact (Keep.refl h []).1
        have kp332 := (Keep.refl h []).ext E294
        have kp333 := kp332.wr W295 (Or.inr sz331)
        have kp334 := kp333.wr W296 (Or.inr sz331)
        have kp335 := kp334.wr W297 (Or.inr sz331)
        have kp336 := kp335.wr W298 (Or.inr sz331)
        have kp337 := kp336.wr W299 (Or.inr sz331)
        have kp338 := kp337.wr W300 (Or.inr sz331)
        have kp339 := kp338.wr W323 (Or.inr sz331)
        have sz340 : h.size ≤ b324 := by rw [g_b324]; exact kp339.1
        have kp341 := kp339.ext E324
        have kp342 := kp341.trans K327 (allS (Or.inr sz340) all0)
        have I343 := Lits.keep I0 kp342 sf0
        have f344 := (Arv.keep f328 K327 (ninS (Nat.ne_of_lt lt325) nin0))
        have Y345 := X327.more (cells' := 8) (slots' := 200) (by decide) (by decide)
        exact segS hw (.val (.int p0)) (.val (.int p1)) (.val (.int p2)) (.val (.int p3)) (.val (.int (p0 &&& (3 : Int32)))) (.val (.int ((p1 &&& (2147483647 : Int32)) % (10 : Int32)))) (.val (.int ((p2 &&& (255 : Int32)).toUInt32.toUInt16.toUInt32.toInt32))) (.val (.int ((p3 &&& (255 : Int32)).toUInt32.toUInt16.toUInt32.toInt32))) (.val (.int ((((p3.toUInt32 >>> ((8 : Int32) &&& 31).toUInt32).toInt32) &&& (255 : Int32)).toUInt32.toUInt16.toUInt32.toInt32))) (.val (.ref b294)) (.unset) (Or.inr (Or.inl ⟨_, rfl⟩)) (Or.inl rfl) p_1 p_7 p_11 p_15 p_20 p_25 p_30 k_36 k_38 k_40 z_ SZ hz oe SE EE FE b324 t327 _ _ _ ([(115 : Int32), (104 : Int32), (97 : Int32), (114 : Int32), (101 : Int32), (100 : Int32)].set (((p1 &&& (2147483647 : Int32)) % (10 : Int32))).toNatClampNeg (p2 &&& (255 : Int32))) C Y345 I343 S_3 E_6 S_9 E_10 S_13 E_14 F_17 E_18 F_19 F_22 F_27 E_28 F_29 F_32 V_35 V_37 V_39 EX327 FC327 FV327 VT327 (own_cod (by rw [(List.length_set)]; rfl) rfl hp326) hp326 (by rw [(List.length_set)]; decide)
  · refine g_bipush 9 C X0 d0_46 rfl (g_newarray C X0 (wd hw 1 rfl) d0_48 (by decide) 9 9 (by decide) (by decide) (by decide) (by decide) (fun T346 h346 b346 k_b346 g_b346 n_b346 X346 E346 V346 => ?_))
    have V_b346 : Arv Z h346 b346 k_b346 .char (9 : Int32) [(.int 0), (.int 0), (.int 0), (.int 0), (.int 0), (.int 0), (.int 0), (.int 0), (.int 0)] (.int 0) := V346
    refine g_dup C X346 d0_50 rfl (g_iconst 0 C X346 d0_51 rfl (g_bipush 101 C X346 d0_52 rfl (g_castore C X346 V_b346 n_b346 d0_54 (by decide) (by decide) (Nat.le_of_ble_eq_true rfl) (.int 101) rfl (fun T347 h347 X347 W347 V347 => ?_))))
    have V347_b346 : Arv Z h347 b346 k_b346 .char (9 : Int32) [(.int 101), (.int 0), (.int 0), (.int 0), (.int 0), (.int 0), (.int 0), (.int 0), (.int 0)] (.int 0) := V347
    refine g_dup C X347 d0_55 rfl (g_iconst 1 C X347 d0_56 rfl (g_bipush 120 C X347 d0_57 rfl (g_castore C X347 V347_b346 n_b346 d0_59 (by decide) (by decide) (Nat.le_of_ble_eq_true rfl) (.int 120) rfl (fun T348 h348 X348 W348 V348 => ?_))))
    have V348_b346 : Arv Z h348 b346 k_b346 .char (9 : Int32) [(.int 101), (.int 120), (.int 0), (.int 0), (.int 0), (.int 0), (.int 0), (.int 0), (.int 0)] (.int 0) := V348
    refine g_dup C X348 d0_60 rfl (g_iconst 2 C X348 d0_61 rfl (g_bipush 99 C X348 d0_62 rfl (g_castore C X348 V348_b346 n_b346 d0_64 (by decide) (by decide) (Nat.le_of_ble_eq_true rfl) (.int 99) rfl (fun T349 h349 X349 W349 V349 => ?_))))
    have V349_b346 : Arv Z h349 b346 k_b346 .char (9 : Int32) [(.int 101), (.int 120), (.int 99), (.int 0), (.int 0), (.int 0), (.int 0), (.int 0), (.int 0)] (.int 0) := V349
    refine g_dup C X349 d0_65 rfl (g_iconst 3 C X349 d0_66 rfl (g_bipush 108 C X349 d0_67 rfl (g_castore C X349 V349_b346 n_b346 d0_69 (by decide) (by decide) (Nat.le_of_ble_eq_true rfl) (.int 108) rfl (fun T350 h350 X350 W350 V350 => ?_))))
    have V350_b346 : Arv Z h350 b346 k_b346 .char (9 : Int32) [(.int 101), (.int 120), (.int 99), (.int 108), (.int 0), (.int 0), (.int 0), (.int 0), (.int 0)] (.int 0) := V350
    refine g_dup C X350 d0_70 rfl (g_iconst 4 C X350 d0_71 rfl (g_bipush 117 C X350 d0_72 rfl (g_castore C X350 V350_b346 n_b346 d0_74 (by decide) (by decide) (Nat.le_of_ble_eq_true rfl) (.int 117) rfl (fun T351 h351 X351 W351 V351 => ?_))))
    have V351_b346 : Arv Z h351 b346 k_b346 .char (9 : Int32) [(.int 101), (.int 120), (.int 99), (.int 108), (.int 117), (.int 0), (.int 0), (.int 0), (.int 0)] (.int 0) := V351
    refine g_dup C X351 d0_75 rfl (g_iconst 5 C X351 d0_76 rfl (g_bipush 115 C X351 d0_77 rfl (g_castore C X351 V351_b346 n_b346 d0_79 (by decide) (by decide) (Nat.le_of_ble_eq_true rfl) (.int 115) rfl (fun T352 h352 X352 W352 V352 => ?_))))
    have V352_b346 : Arv Z h352 b346 k_b346 .char (9 : Int32) [(.int 101), (.int 120), (.int 99), (.int 108), (.int 117), (.int 115), (.int 0), (.int 0), (.int 0)] (.int 0) := V352
    refine g_dup C X352 d0_80 rfl (g_bipush 6 C X352 d0_81 rfl (g_bipush 105 C X352 d0_83 rfl (g_castore C X352 V352_b346 n_b346 d0_85 (by decide) (by decide) (Nat.le_of_ble_eq_true rfl) (.int 105) rfl (fun T353 h353 X353 W353 V353 => ?_))))
    have V353_b346 : Arv Z h353 b346 k_b346 .char (9 : Int32) [(.int 101), (.int 120), (.int 99), (.int 108), (.int 117), (.int 115), (.int 105), (.int 0), (.int 0)] (.int 0) := V353
    refine g_dup C X353 d0_86 rfl (g_bipush 7 C X353 d0_87 rfl (g_bipush 118 C X353 d0_89 rfl (g_castore C X353 V353_b346 n_b346 d0_91 (by decide) (by decide) (Nat.le_of_ble_eq_true rfl) (.int 118) rfl (fun T354 h354 X354 W354 V354 => ?_))))
    have V354_b346 : Arv Z h354 b346 k_b346 .char (9 : Int32) [(.int 101), (.int 120), (.int 99), (.int 108), (.int 117), (.int 115), (.int 105), (.int 118), (.int 0)] (.int 0) := V354
    refine g_dup C X354 d0_92 rfl (g_bipush 8 C X354 d0_93 rfl (g_bipush 101 C X354 d0_95 rfl (g_castore C X354 V354_b346 n_b346 d0_97 (by decide) (by decide) (Nat.le_of_ble_eq_true rfl) (.int 101) rfl (fun T355 h355 X355 W355 V355 => ?_))))
    have V355_b346 : Arv Z h355 b346 k_b346 .char (9 : Int32) [(.int 101), (.int 120), (.int 99), (.int 108), (.int 117), (.int 115), (.int 105), (.int 118), (.int 101)] (.int 0) := V355
    refine g_astore C X355 d0_98 rfl (l' := #[.val (.int p0), .val (.int p1), .val (.int p2), .val (.int p3), .val (.int (p0 &&& (3 : Int32))), .val (.int ((p1 &&& (2147483647 : Int32)) % (10 : Int32))), .val (.int ((p2 &&& (255 : Int32)).toUInt32.toUInt16.toUInt32.toInt32)), .val (.int ((p3 &&& (255 : Int32)).toUInt32.toUInt16.toUInt32.toInt32)), .val (.int ((((p3.toUInt32 >>> ((8 : Int32) &&& 31).toUInt32).toInt32) &&& (255 : Int32)).toUInt32.toUInt16.toUInt32.toInt32)), .unset, .val (.ref b346), .unset, .unset]) rfl (g_iload C X355 d0_100 rfl (g_bipush 9 C X355 d0_102 rfl (g_icmpn (hI_ge _ _) C X355 d0_104 (fun c104_356 => ?_) (fun c104_356 => ?_))))
    · refine g_new C X355 (wd hw 2 rfl) (wd hw 3 rfl) (wd hw 4 rfl) d0_114 (by decide) (by decide) (fun T357 h357 b357 g_b357 n_b357 X357 E357 A357 D357 M357 => ?_)
      have lt358 : b346 < b357 := by rw [g_b357]; exact Arv.lt V355_b346
      have F_coder_b357 : Fld Z h357 b357 "java/lang/String" "coder" "B" (.int 0) := D357 (Or.inr (wd hw 28 rfl)) (ty := .byte) (by decide)
      have F_value_b357 : Fld Z h357 b357 "java/lang/String" "value" "[B" .null := D357 (Or.inr (wd hw 30 rfl)) (ty := (.array .byte)) (by decide)
      refine g_dup C X357 d0_117 rfl (g_aload C X357 d0_118 rfl rfl ?_)
      have hp359 : ∀ c ∈ [(101 : Int32), (120 : Int32), (99 : Int32), (108 : Int32), (117 : Int32), (115 : Int32), (105 : Int32), (118 : Int32), (101 : Int32)], ¬ c < 0 ∧ ¬ (255 : Int32) < c := (List.forall_mem_cons.mpr ⟨(by decide), (List.forall_mem_cons.mpr ⟨(by decide), (List.forall_mem_cons.mpr ⟨(by decide), (List.forall_mem_cons.mpr ⟨(by decide), (List.forall_mem_cons.mpr ⟨(by decide), (List.forall_mem_cons.mpr ⟨(by decide), (List.forall_mem_cons.mpr ⟨(by decide), (List.forall_mem_cons.mpr ⟨(by decide), (List.forall_mem_cons.mpr ⟨(by decide), (fun _ q => nomatch q)⟩)⟩)⟩)⟩)⟩)⟩)⟩)⟩)⟩)
      have f361 := (Arv.ext V355_b346 E357)
      refine g_special (argsL := [(.ref b346)]) (st := [(.ref b357)]) C X357 rfl (wd hw 5 rfl) (wd hw 6 rfl) (wd hw 7 rfl) (by decide) (payV (W' := 1) (cs := [(101 : Int32), (120 : Int32), (99 : Int32), (108 : Int32), (117 : Int32), (115 : Int32), (105 : Int32), (118 : Int32), (101 : Int32)]) (n := 9) C.hZ X357.ext (own_words hw) (kI := 4) (wd hw 3 rfl) n_b357 A357 F_value_b357 F_coder_b357 f361 SZ hz rfl rfl (by decide) (by decide) hp359 (by decide) (by decide)) pd_13 rfl rfl _ rfl (Nat.le_of_eq rfl) d0_120 (by decide) (by decide) (fun T360 h360 v360 q360 X360 => ?_)
      obtain ⟨rfl, K360, EX360, FC360, t360, k_t360, nt0_360, gt360, nt360, FV360, VT360⟩ := q360
      have lt362 : b346 < t360 := Nat.lt_of_lt_of_le (Arv.lt f361) gt360
      have lt363 : b357 < t360 := Nat.lt_of_lt_of_le (Exa.lt A357) gt360
      show Goes p e below _ T360 (mkF m 123 #[.val (.int p0), .val (.int p1), .val (.int p2), .val (.int p3), .val (.int (p0 &&& (3 : Int32))), .val (.int ((p1 &&& (2147483647 : Int32)) % (10 : Int32))), .val (.int ((p2 &&& (255 : Int32)).toUInt32.toUInt16.toUInt32.toInt32)), .val (.int ((p3 &&& (255 : Int32)).toUInt32.toUInt16.toUInt32.toInt32)), .val (.int ((((p3.toUInt32 >>> ((8 : Int32) &&& 31).toUInt32).toInt32) &&& (255 : Int32)).toUInt32.toUInt16.toUInt32.toInt32)), .unset, .val (.ref b346), .unset, .unset] [(.ref b357)])
      refine g_astore C X360 d0_123 rfl (l' := #[.val (.int p0), .val (.int p1), .val (.int p2), .val (.int p3), .val (.int (p0 &&& (3 : Int32))), .val (.int ((p1 &&& (2147483647 : Int32)) % (10 : Int32))), .val (.int ((p2 &&& (255 : Int32)).toUInt32.toUInt16.toUInt32.toInt32)), .val (.int ((p3 &&& (255 : Int32)).toUInt32.toUInt16.toUInt32.toInt32)), .val (.int ((((p3.toUInt32 >>> ((8 : Int32) &&& 31).toUInt32).toInt32) &&& (255 : Int32)).toUInt32.toUInt16.toUInt32.toInt32)), .val (.ref b357), .val (.ref b346), .unset, .unset]) rfl (g_goto C X360 d0_125 ?_)
      have sz364 : h.size ≤ b346 := by rw [g_b346]; exact (Keep.refl h []).1
      have kp365 := (Keep.refl h []).ext E346
      have kp366 := kp365.wr W347 (Or.inr sz364)
      have kp367 := kp366.wr W348 (Or.inr sz364)
      have kp368 := kp367.wr W349 (Or.inr sz364)
      have kp369 := kp368.wr W350 (Or.inr sz364)
      have kp370 := kp369.wr W351 (Or.inr sz364)
      have kp371 := kp370.wr W352 (Or.inr sz364)
      have kp372 := kp371.wr W353 (Or.inr sz364)
      have kp373 := kp372.wr W354 (Or.inr sz364)
      have kp374 := kp373.wr W355 (Or.inr sz364)
      have sz375 : h.size ≤ b357 := by rw [g_b357]; exact kp374.1
      have kp376 := kp374.ext E357
      have kp377 := kp376.trans K360 (allS (Or.inr sz375) all0)
      have I378 := Lits.keep I0 kp377 sf0
      have f379 := (Arv.keep f361 K360 (ninS (Nat.ne_of_lt lt358) nin0))
      have Y380 := X360.more (cells' := 8) (slots' := 200) (by decide) (by decide)
      exact segS hw (.val (.int p0)) (.val (.int p1)) (.val (.int p2)) (.val (.int p3)) (.val (.int (p0 &&& (3 : Int32)))) (.val (.int ((p1 &&& (2147483647 : Int32)) % (10 : Int32)))) (.val (.int ((p2 &&& (255 : Int32)).toUInt32.toUInt16.toUInt32.toInt32))) (.val (.int ((p3 &&& (255 : Int32)).toUInt32.toUInt16.toUInt32.toInt32))) (.val (.int ((((p3.toUInt32 >>> ((8 : Int32) &&& 31).toUInt32).toInt32) &&& (255 : Int32)).toUInt32.toUInt16.toUInt32.toInt32))) (.val (.ref b346)) (.unset) (Or.inr (Or.inl ⟨_, rfl⟩)) (Or.inl rfl) p_1 p_7 p_11 p_15 p_20 p_25 p_30 k_36 k_38 k_40 z_ SZ hz oe SE EE FE b357 t360 _ _ _ [(101 : Int32), (120 : Int32), (99 : Int32), (108 : Int32), (117 : Int32), (115 : Int32), (105 : Int32), (118 : Int32), (101 : Int32)] C Y380 I378 S_3 E_6 S_9 E_10 S_13 E_14 F_17 E_18 F_19 F_22 F_27 E_28 F_29 F_32 V_35 V_37 V_39 EX360 FC360 FV360 VT360 (own_cod rfl rfl hp359) hp359 (Nat.le_of_ble_eq_true rfl)
    · refine g_aload C X355 d0_107 rfl rfl (g_iload C X355 d0_109 rfl (g_iload C X355 d0_111 rfl (g_castore C X355 V355_b346 n_b346 d0_113 (own_r10 p1) c104_356 (own_clamp (own_r10 p1) c104_356 (by decide)) (.int (p2 &&& (255 : Int32))) (own_ch _) (fun T381 h381 X381 W381 V381 => ?_))))
      have W_381 : Arv Z h381 b346 k_b346 .char 9 (([(101 : Int32), (120 : Int32), (99 : Int32), (108 : Int32), (117 : Int32), (115 : Int32), (105 : Int32), (118 : Int32), (101 : Int32)].set (((p1 &&& (2147483647 : Int32)) % (10 : Int32))).toNatClampNeg (p2 &&& (255 : Int32))).map Value.int) (.int (0 : Int32)) := own_mapset [(101 : Int32), (120 : Int32), (99 : Int32), (108 : Int32), (117 : Int32), (115 : Int32), (105 : Int32), (118 : Int32), (101 : Int32)] _ _ ▸ V381
      show Goes p e below _ T381 (mkF m 114 #[.val (.int p0), .val (.int p1), .val (.int p2), .val (.int p3), .val (.int (p0 &&& (3 : Int32))), .val (.int ((p1 &&& (2147483647 : Int32)) % (10 : Int32))), .val (.int ((p2 &&& (255 : Int32)).toUInt32.toUInt16.toUInt32.toInt32)), .val (.int ((p3 &&& (255 : Int32)).toUInt32.toUInt16.toUInt32.toInt32)), .val (.int ((((p3.toUInt32 >>> ((8 : Int32) &&& 31).toUInt32).toInt32) &&& (255 : Int32)).toUInt32.toUInt16.toUInt32.toInt32)), .unset, .val (.ref b346), .unset, .unset] [])
      refine g_new C X381 (wd hw 2 rfl) (wd hw 3 rfl) (wd hw 4 rfl) d0_114 (by decide) (by decide) (fun T382 h382 b382 g_b382 n_b382 X382 E382 A382 D382 M382 => ?_)
      have lt383 : b346 < b382 := by rw [g_b382]; exact Arv.lt W_381
      have F_coder_b382 : Fld Z h382 b382 "java/lang/String" "coder" "B" (.int 0) := D382 (Or.inr (wd hw 28 rfl)) (ty := .byte) (by decide)
      have F_value_b382 : Fld Z h382 b382 "java/lang/String" "value" "[B" .null := D382 (Or.inr (wd hw 30 rfl)) (ty := (.array .byte)) (by decide)
      refine g_dup C X382 d0_117 rfl (g_aload C X382 d0_118 rfl rfl ?_)
      have hp384 : ∀ c ∈ ([(101 : Int32), (120 : Int32), (99 : Int32), (108 : Int32), (117 : Int32), (115 : Int32), (105 : Int32), (118 : Int32), (101 : Int32)].set (((p1 &&& (2147483647 : Int32)) % (10 : Int32))).toNatClampNeg (p2 &&& (255 : Int32))), ¬ c < 0 ∧ ¬ (255 : Int32) < c := own_set (by decide) (own_m255 _)
      have f386 := (Arv.ext W_381 E382)
      refine g_special (argsL := [(.ref b346)]) (st := [(.ref b382)]) C X382 rfl (wd hw 5 rfl) (wd hw 6 rfl) (wd hw 7 rfl) (by decide) (payV (W' := 1) (cs := ([(101 : Int32), (120 : Int32), (99 : Int32), (108 : Int32), (117 : Int32), (115 : Int32), (105 : Int32), (118 : Int32), (101 : Int32)].set (((p1 &&& (2147483647 : Int32)) % (10 : Int32))).toNatClampNeg (p2 &&& (255 : Int32)))) (n := 9) C.hZ X382.ext (own_words hw) (kI := 4) (wd hw 3 rfl) n_b382 A382 F_value_b382 F_coder_b382 f386 SZ hz (List.length_set) rfl (by decide) (by decide) hp384 (by decide) (by decide)) pd_13 rfl rfl _ rfl (Nat.le_of_eq rfl) d0_120 (by decide) (by decide) (fun T385 h385 v385 q385 X385 => ?_)
      obtain ⟨rfl, K385, EX385, FC385, t385, k_t385, nt0_385, gt385, nt385, FV385, VT385⟩ := q385
      have lt387 : b346 < t385 := Nat.lt_of_lt_of_le (Arv.lt f386) gt385
      have lt388 : b382 < t385 := Nat.lt_of_lt_of_le (Exa.lt A382) gt385
      show Goes p e below _ T385 (mkF m 123 #[.val (.int p0), .val (.int p1), .val (.int p2), .val (.int p3), .val (.int (p0 &&& (3 : Int32))), .val (.int ((p1 &&& (2147483647 : Int32)) % (10 : Int32))), .val (.int ((p2 &&& (255 : Int32)).toUInt32.toUInt16.toUInt32.toInt32)), .val (.int ((p3 &&& (255 : Int32)).toUInt32.toUInt16.toUInt32.toInt32)), .val (.int ((((p3.toUInt32 >>> ((8 : Int32) &&& 31).toUInt32).toInt32) &&& (255 : Int32)).toUInt32.toUInt16.toUInt32.toInt32)), .unset, .val (.ref b346), .unset, .unset] [(.ref b382)])
      refine g_astore C X385 d0_123 rfl (l' := #[.val (.int p0), .val (.int p1), .val (.int p2), .val (.int p3), .val (.int (p0 &&& (3 : Int32))), .val (.int ((p1 &&& (2147483647 : Int32)) % (10 : Int32))), .val (.int ((p2 &&& (255 : Int32)).toUInt32.toUInt16.toUInt32.toInt32)), .val (.int ((p3 &&& (255 : Int32)).toUInt32.toUInt16.toUInt32.toInt32)), .val (.int ((((p3.toUInt32 >>> ((8 : Int32) &&& 31).toUInt32).toInt32) &&& (255 : Int32)).toUInt32.toUInt16.toUInt32.toInt32)), .val (.ref b382), .val (.ref b346), .unset, .unset]) rfl (g_goto C X385 d0_125 ?_)
      have sz389 : h.size ≤ b346 := by rw [g_b346]; exact (Keep.refl h []).1
      have kp390 := (Keep.refl h []).ext E346
      have kp391 := kp390.wr W347 (Or.inr sz389)
      have kp392 := kp391.wr W348 (Or.inr sz389)
      have kp393 := kp392.wr W349 (Or.inr sz389)
      have kp394 := kp393.wr W350 (Or.inr sz389)
      have kp395 := kp394.wr W351 (Or.inr sz389)
      have kp396 := kp395.wr W352 (Or.inr sz389)
      have kp397 := kp396.wr W353 (Or.inr sz389)
      have kp398 := kp397.wr W354 (Or.inr sz389)
      have kp399 := kp398.wr W355 (Or.inr sz389)
      have kp400 := kp399.wr W381 (Or.inr sz389)
      have sz401 : h.size ≤ b382 := by rw [g_b382]; exact kp400.1
      have kp402 := kp400.ext E382
      have kp403 := kp402.trans K385 (allS (Or.inr sz401) all0)
      have I404 := Lits.keep I0 kp403 sf0
      have f405 := (Arv.keep f386 K385 (ninS (Nat.ne_of_lt lt383) nin0))
      have Y406 := X385.more (cells' := 8) (slots' := 200) (by decide) (by decide)
      exact segS hw (.val (.int p0)) (.val (.int p1)) (.val (.int p2)) (.val (.int p3)) (.val (.int (p0 &&& (3 : Int32)))) (.val (.int ((p1 &&& (2147483647 : Int32)) % (10 : Int32)))) (.val (.int ((p2 &&& (255 : Int32)).toUInt32.toUInt16.toUInt32.toInt32))) (.val (.int ((p3 &&& (255 : Int32)).toUInt32.toUInt16.toUInt32.toInt32))) (.val (.int ((((p3.toUInt32 >>> ((8 : Int32) &&& 31).toUInt32).toInt32) &&& (255 : Int32)).toUInt32.toUInt16.toUInt32.toInt32))) (.val (.ref b346)) (.unset) (Or.inr (Or.inl ⟨_, rfl⟩)) (Or.inl rfl) p_1 p_7 p_11 p_15 p_20 p_25 p_30 k_36 k_38 k_40 z_ SZ hz oe SE EE FE b382 t385 _ _ _ ([(101 : Int32), (120 : Int32), (99 : Int32), (108 : Int32), (117 : Int32), (115 : Int32), (105 : Int32), (118 : Int32), (101 : Int32)].set (((p1 &&& (2147483647 : Int32)) % (10 : Int32))).toNatClampNeg (p2 &&& (255 : Int32))) C Y406 I404 S_3 E_6 S_9 E_10 S_13 E_14 F_17 E_18 F_19 F_22 F_27 E_28 F_29 F_32 V_35 V_37 V_39 EX385 FC385 FV385 VT385 (own_cod (by rw [(List.length_set)]; rfl) rfl hp384) hp384 (by rw [(List.length_set)]; decide)
theorem comes_1 {Post : Tables → Env → Array Value → State → Outcome → State → Prop} (hpost : ∀ tb e args s v u, (limb_1_1.after args s (.returned v) u = true ∧ limb_1_2.after args s (.returned v) u = true ∧ True) → ReturnedEndW s (.returned v) u (Jvm.fieldLocs frame_1_writes args s ++ Jvm.arrayLocs frame_1_arrays args s ++ Jvm.staticLocs frame_1_statics s) 32 5312 → Post tb e args s (.returned v) u) :
    ArmFor flags0 classFile x code maxLocals ret World_1 tables_1 room_1 Calls_1 rest_1 Pre_1 Post := by
  intro l hfl _ _ p e ha hc hk s m args below hf hA hF happ hP
  obtain ⟨hcalls, hrest, hpre⟩ := hP
  obtain ⟨-, -, -, hnamed, -, -, -, hat⟩ := (Spec.applies_iff hf).mp happ
  obtain ⟨hg, hn⟩ := and_e (Cond.before_iff.mp (show (Jvm.Cond.and given_1 narrow_1).before args s = true from hpre))
  obtain ⟨hcount, hg⟩ := and_e hg
  obtain ⟨ha0, hg⟩ := and_e hg
  obtain ⟨ha1, hg⟩ := and_e hg
  obtain ⟨ha2, hg⟩ := and_e hg
  have ha3 := hg
  obtain ⟨w0, w1, w2, w3, rfl⟩ : ∃ w0 w1 w2 w3 : Value, args = #[w0, w1, w2, w3] := by
    have hs : args.size = 4 := by simpa [Cond.value, given_1] using hcount
    obtain ⟨L⟩ := args
    match L, hs with
    | [w0, w1, w2, w3], _ => exact ⟨w0, w1, w2, w3, rfl⟩
  have hw := fun d (hd : d ∈ tables_1) => atoms_spec (ws := Jvm.Cond.code x code maxLocals ret :: tables_1) hat d (List.mem_cons_of_mem _ hd)
  have hfit : Fit s := fun {y c} hc i hi => by
    obtain ⟨ha, rfl⟩ := Array.getElem?_eq_some_iff.mp hc
    have q := List.all_eq_true.mp ((Array.all_eq_true_iff_forall_mem.mp hF) _ (Array.getElem_mem ha)) i (List.mem_range.mpr hi)
    simpa [Array.getElem?_eq_getElem hi] using q
  obtain ⟨hsets, hown0⟩ := atoms_of _ (rest_1_c_eq ▸ (show rest_1_c.before _ s = true from hrest))
  have hr0 := Cond.before_iff.mp hown0
  obtain ⟨i0, ei0⟩ := is_v ha0
  obtain rfl : w0 = (.int i0) := Option.some.inj ei0
  obtain ⟨i1, ei1⟩ := is_v ha1
  obtain rfl : w1 = (.int i1) := Option.some.inj ei1
  obtain ⟨i2, ei2⟩ := is_v ha2
  obtain rfl : w2 = (.int i2) := Option.some.inj ei2
  obtain ⟨i3, ei3⟩ := is_v ha3
  obtain rfl : w3 = (.int i3) := Option.some.inj ei3
  obtain ⟨z_, vz⟩ := is_v (Cond.before_iff.mp (hsets _ (List.mem_of_getElem? (i := 1) rfl)))
  have SZ := Sta.start vz (Or.inl (hsets _ (List.mem_of_getElem? (i := 0) rfl)))
  have hz := nz_v vz (Cond.before_iff.mp (hsets _ (List.mem_of_getElem? (i := 2) rfl)))
  obtain ⟨oe, ve⟩ := exa_v (Cond.before_iff.mp (hsets _ (List.mem_of_getElem? (i := 11) rfl)))
  have SE := Sta.start ve (Or.inl (hsets _ (List.mem_of_getElem? (i := 10) rfl)))
  have EE := Exa.start ve (Cond.before_iff.mp (hsets _ (List.mem_of_getElem? (i := 11) rfl)))
  have FE := fld_of ve (eqN_v (Cond.before_iff.mp (hsets _ (List.mem_of_getElem? (i := 12) rfl))))
  obtain ⟨n0, hn⟩ := and_e hn
  obtain ⟨n1, hn⟩ := and_e hn
  obtain ⟨n2, hn⟩ := and_e hn
  obtain ⟨n3, hn⟩ := and_e hn
  obtain ⟨n4, hn⟩ := and_e hn
  obtain ⟨n5, hn⟩ := and_e hn
  obtain ⟨n6, hn⟩ := and_e hn
  obtain ⟨n7, hn⟩ := and_e hn
  obtain ⟨n8, hn⟩ := and_e hn
  obtain ⟨n9, hn⟩ := and_e hn
  obtain ⟨n10, hn⟩ := and_e hn
  obtain ⟨n11, hn⟩ := and_e hn
  obtain ⟨n12, hn⟩ := and_e hn
  obtain ⟨n13, hn⟩ := and_e hn
  obtain ⟨n14, hn⟩ := and_e hn
  obtain ⟨n15, hn⟩ := and_e hn
  obtain ⟨n16, hn⟩ := and_e hn
  obtain ⟨n17, hn⟩ := and_e hn
  obtain ⟨n18, hn⟩ := and_e hn
  obtain ⟨n19, hn⟩ := and_e hn
  obtain ⟨n20, hn⟩ := and_e hn
  obtain ⟨n21, hn⟩ := and_e hn
  obtain ⟨n22, hn⟩ := and_e hn
  obtain ⟨n23, hn⟩ := and_e hn
  obtain ⟨n24, hn⟩ := and_e hn
  obtain ⟨n25, hn⟩ := and_e hn
  obtain ⟨n26, hn⟩ := and_e hn
  obtain ⟨n27, hn⟩ := and_e hn
  obtain ⟨n28, hn⟩ := and_e hn
  have n29 := hn
  obtain ⟨p_1, v_2⟩ := arr_v n0
  have S_3 := Sta.start v_2 (Or.inl (wd hw 68 rfl))
  obtain ⟨c_4, A_5⟩ := Arr.start v_2 n0
  have E_6 := Exa.start v_2 n1
  obtain ⟨p_7, v_8⟩ := exa_v n3
  have S_9 := Sta.start v_8 (Or.inr ⟨(wd hw 47 rfl), (wd hw 66 rfl)⟩)
  have E_10 := Exa.start v_8 n3
  obtain ⟨p_11, v_12⟩ := exa_v n5
  have S_13 := Sta.start v_12 (Or.inr ⟨(wd hw 47 rfl), (wd hw 67 rfl)⟩)
  have E_14 := Exa.start v_12 n5
  obtain ⟨p_15, v_16⟩ := exa_v n7
  have F_17 := fld_of v_8 v_16
  have E_18 := Exa.start v_16 n7
  have F_19 := fld_of v_16 (eqI_v n8)
  obtain ⟨p_20, v_21⟩ := arr_v n9
  have F_22 := fld_of v_16 v_21
  obtain ⟨c_23, A_24⟩ := Arr.start v_21 n9
  obtain ⟨p_25, v_26⟩ := exa_v n11
  have F_27 := fld_of v_12 v_26
  have E_28 := Exa.start v_26 n11
  have F_29 := fld_of v_26 (eqI_v n12)
  obtain ⟨p_30, v_31⟩ := arr_v n13
  have F_32 := fld_of v_26 v_31
  obtain ⟨c_33, A_34⟩ := Arr.start v_31 n13
  have V_35 := arr_start (vs := [(.ref p_7), (.ref p_11)]) .null hfit A_5 v_2 (eqI_v n2) (by decide) rfl ⟨elem_start A_5 v_2 (eqR_v n4 v_8), elem_start A_5 v_2 (eqR_v n6 v_12), trivial⟩
  have V_37 := arr_start (vs := [(.int 101), (.int 120), (.int 99), (.int 108), (.int 117), (.int 115), (.int 105), (.int 118), (.int 101)]) (.int 0) hfit A_24 v_21 (eqI_v n10) (by decide) rfl ⟨elem_start A_24 v_21 (eqI_v n15), elem_start A_24 v_21 (eqI_v n16), elem_start A_24 v_21 (eqI_v n17), elem_start A_24 v_21 (eqI_v n18), elem_start A_24 v_21 (eqI_v n19), elem_start A_24 v_21 (eqI_v n20), elem_start A_24 v_21 (eqI_v n21), elem_start A_24 v_21 (eqI_v n22), elem_start A_24 v_21 (eqI_v n23), trivial⟩
  have V_39 := arr_start (vs := [(.int 115), (.int 104), (.int 97), (.int 114), (.int 101), (.int 100)]) (.int 0) hfit A_34 v_31 (eqI_v n14) (by decide) rfl ⟨elem_start A_34 v_31 (eqI_v n24), elem_start A_34 v_31 (eqI_v n25), elem_start A_34 v_31 (eqI_v n26), elem_start A_34 v_31 (eqI_v n27), elem_start A_34 v_31 (eqI_v n28), elem_start A_34 v_31 (eqI_v n29), trivial⟩
  have hCH : CHv s consts_1 s.vm s.heap := CHv.start (own_EW hw) (fun q hq => hcalls.1 q hq) (hsets _ (List.mem_of_getElem? (i := 2) rfl)) (wd hw 20 rfl) (wd hw 3 rfl)
  obtain ⟨n, o, h1, h2, h3, _, L, rfl, ⟨N, _, rfl⟩, -, hq⟩ := rm0 l (Z := s) hw ⟨Nat.le_refl _, fun _ _ q => q⟩ i0 i1 i2 i3 p_1 p_7 p_11 p_15 p_20 p_25 p_30 _ _ _ z_ SZ hz oe SE EE FE S_3 E_6 S_9 E_10 S_13 E_14 F_17 E_18 F_19 F_22 F_27 E_28 F_29 F_32 V_35 V_37 V_39 p e ha hc hk s m _ below hf ((Spec.applies_iff_loose hf).mp happ).1 ⟨rfl, State.Warmed39.refl s, rfl, hCH, sf0⟩ trivial
  exact ⟨n, _, h1, h2, h3, hpost _ _ _ _ _ _ ⟨Cond.after_iff.mpr rfl, Cond.after_iff.mpr (eq_i res_at (Term.int_eval (1)) rfl), trivial⟩ ⟨hq.1, hq.2.1, hq.2.2.1, (hq.2.2.2.sift fun y hy => Or.inr (N y hy)).mono (by decide) (by decide)⟩⟩
theorem main_1_1 : Claimed_1_1 := comes_1 fun _ _ _ _ _ _ h hF => ⟨h.1, hF⟩
theorem main_1_2 : Claimed_1_2 := comes_1 fun _ _ _ _ _ _ h hF => ⟨h.2.1, hF⟩
end Jvm.Pilot.@@N@@
namespace Jvm.Pilot.@@N@@
open Jvm Jvm.ClassFile Sem Op Lib Jvm.Free Jvm.Stand Jvm.Pilot.@@N@@.Jvm.D
/-! MADE BY PROGRAM (witnessworld.py) out of the Statement's table words and the real class files: 24 classes; the members and pool entries that the words name. The judged class is class 1, her method 1. -/
namespace start1
open Jvm.ClassFile
def u (s : String) : CpInfo := .utf8 (stringToUtf16 s)
/-- a pool by its gaps: so many unusable entries, then the entry; so many at the end -/
def gap : Nat → List CpInfo → List CpInfo
  | 0, r => r
  | n + 1, r => .unusable :: gap n r
def poolList (es : List (Nat × CpInfo)) (last : Nat) : List CpInfo := es.foldr (fun e r => gap e.1 (e.2 :: r)) (gap last [])
def pool (es : List (Nat × CpInfo)) (last : Nat) : Array CpInfo := ⟨poolList es last⟩
def fileOf (pool : Array CpInfo) (this : Nat) (attrs : Array Attribute := #[]) (ms : Array MethodInfo := #[]) (fl : Nat := 33) (sup : Nat := 0) (ifs : Array Nat := #[]) (fds : Array FieldInfo := #[]) : ClassFile where
  minorVersion := 0
  majorVersion := 65
  constantPool := pool
  accessFlags := fl
  thisClass := this
  superClass := sup
  interfaces := ifs
  fields := fds
  methods := ms
  attributes := attrs
def plain (name : String) (sup : Option ClassId) : Class where
  name := name
  kind := .ordinary
  loader := none
  accessFlags := 33
  super := sup
  interfaces := #[]
  cf := none
  fields := #[]
  methods := #[]
  instanceTypes := #[]
  staticTypes := #[]
  resolved := #[]
  callSites := []
  init := .initialized
  statics := none
  mirror := none

def pool0 : Array CpInfo := pool [(5, u "<init>"), (0, u "()V"), (1, .class_ 10), (1, u "java/lang/Object"), (85, u "clone"), (0, u "()Ljava/lang/Object;")] 26

def k0c0 : Code := { maxStack := 0, maxLocals := 1, code := object_method_1_code, exceptionTable := #[], attributes := #[] }
def k0m0 : Method := { name := "<init>", desc := "()V", sig := { parameters := [], returnType := none }, accessFlags := 1, code := some k0c0 }
def k0m1 : Method := { name := "clone", desc := "()Ljava/lang/Object;", sig := { parameters := [], returnType := some (.object "java/lang/Object") }, accessFlags := 260, code := none }
/-- java/lang/Object -/
def k0 : Class := { plain "java/lang/Object" none with
  accessFlags := 33
  interfaces := #[]
  cf := some (fileOf pool0 8 #[] #[{ accessFlags := 1, nameIndex := 5, descriptorIndex := 6, attributes := #[] }, { accessFlags := 260, nameIndex := 96, descriptorIndex := 97, attributes := #[] }] 33 0 #[] #[])
  fields := #[]
  methods := #[k0m0, k0m1]
  instanceTypes := #[]
  staticTypes := #[]
  resolved := Array.replicate 124 none
  statics := none }

def pool1 : Array CpInfo := pool [(2, .class_ 4), (1, u "java/lang/Object"), (0, u "<init>"), (0, u "()V"), (0, .integer 2147483647), (0, .class_ 9), (0, u "java/lang/String"), (0, .methodref 8 11), (0, .nameAndType 5 12), (0, u "([C)V"), (0, .methodref 8 14), (0, .nameAndType 15 16), (0, u "valueOf"), (0, u "(C)Ljava/lang/String;"), (0, .string 18), (0, u "exclusiv"), (0, .string 20), (0, u "share"), (0, .string 22), (0, u "exclusive"), (0, .methodref 8 24), (0, .nameAndType 25 26), (0, u "equals"), (0, u "(Ljava/lang/Object;)Z"), (0, .string 28), (0, u "shared"), (0, .methodref 30 31), (0, .class_ 32), (0, .nameAndType 33 34), (0, u "com/example/synctoken/synctoken/lock/WriteLock$Scope"), (0, u "named"), (0, u "(Ljava/lang/String;)Ljava/util/Optional;"), (0, .methodref 36 37), (0, .class_ 38), (0, .nameAndType 39 40), (0, u "java/util/Optional"), (0, u "isPresent"), (0, u "()Z"), (0, .fieldref 30 42), (0, .nameAndType 43 44), (0, u "EXCLUSIVE"), (0, u "Lcom/example/synctoken/synctoken/lock/WriteLock$Scope;"), (0, .fieldref 30 46), (0, .nameAndType 47 44), (0, u "SHARED"), (0, .methodref 36 49), (0, .nameAndType 50 51), (0, u "get"), (0, u "()Ljava/lang/Object;"), (0, .class_ 53), (0, u "com/example/synctoken/synctoken/lock/ScopeNamedPinLaw"), (2, u "law"), (0, u "(IIII)Z")] 9

def k1m0 : Method := { name := "<init>", desc := "()V", sig := { parameters := [], returnType := none }, accessFlags := 2, code := none }
def k1c1 : Code := { maxStack := 4, maxLocals := 13, code := code, exceptionTable := #[], attributes := #[] }
def k1m1 : Method := { name := "law", desc := "(IIII)Z", sig := { parameters := [.int, .int, .int, .int], returnType := some .boolean }, accessFlags := 9, code := some k1c1 }
/-- com/example/synctoken/synctoken/lock/ScopeNamedPinLaw -/
def k1 : Class := { plain "com/example/synctoken/synctoken/lock/ScopeNamedPinLaw" (some 0) with
  accessFlags := 49
  interfaces := #[]
  cf := some (fileOf pool1 52 #[] #[{ accessFlags := 2, nameIndex := 5, descriptorIndex := 6, attributes := #[] }, { accessFlags := 9, nameIndex := 56, descriptorIndex := 57, attributes := #[] }] 49 2 #[] #[])
  fields := #[]
  methods := #[k1m0, k1m1]
  instanceTypes := #[]
  staticTypes := #[]
  resolved := Array.replicate 67 none
  statics := none }

def pool2 : Array CpInfo := pool [(1, .class_ 2), (0, u "java/io/Serializable"), (0, .class_ 4), (0, u "java/lang/Object")] 2

/-- java/io/Serializable -/
def k2 : Class := { plain "java/io/Serializable" (some 0) with
  accessFlags := 1537
  interfaces := #[]
  cf := some (fileOf pool2 1 #[] #[] 1537 3 #[] #[])
  fields := #[]
  methods := #[]
  instanceTypes := #[]
  staticTypes := #[]
  resolved := Array.replicate 7 none
  statics := none }

def pool3 : Array CpInfo := pool [(1, .class_ 2), (0, u "java/lang/Comparable"), (0, .class_ 4), (0, u "java/lang/Object")] 7

/-- java/lang/Comparable -/
def k3 : Class := { plain "java/lang/Comparable" (some 0) with
  accessFlags := 1537
  interfaces := #[]
  cf := some (fileOf pool3 1 #[] #[] 1537 3 #[] #[])
  fields := #[]
  methods := #[]
  instanceTypes := #[]
  staticTypes := #[]
  resolved := Array.replicate 12 none
  statics := none }

def pool4 : Array CpInfo := pool [(2, .class_ 4), (1, u "java/lang/CharSequence"), (42, .class_ 48), (0, u "java/lang/CharSequence$1CodePointIterator"), (10, .class_ 60), (0, u "java/lang/CharSequence$1CharIterator"), (5, .class_ 67), (0, u "java/lang/Object")] 63

/-- java/lang/CharSequence -/
def k4 : Class := { plain "java/lang/CharSequence" (some 0) with
  accessFlags := 1537
  interfaces := #[]
  cf := some (fileOf pool4 2 #[.nestMembers #[47, 59]] #[] 1537 66 #[] #[])
  fields := #[]
  methods := #[]
  instanceTypes := #[]
  staticTypes := #[]
  resolved := Array.replicate 131 none
  statics := none }

def pool5 : Array CpInfo := pool [(1, .class_ 2), (0, u "java/lang/constant/Constable"), (0, .class_ 4), (0, u "java/lang/Object")] 6

/-- java/lang/constant/Constable -/
def k5 : Class := { plain "java/lang/constant/Constable" (some 0) with
  accessFlags := 1537
  interfaces := #[]
  cf := some (fileOf pool5 1 #[] #[] 1537 3 #[] #[])
  fields := #[]
  methods := #[]
  instanceTypes := #[]
  staticTypes := #[]
  resolved := Array.replicate 11 none
  statics := none }

def pool6 : Array CpInfo := pool [(1, .class_ 2), (0, u "java/lang/constant/ConstantDesc"), (0, .class_ 4), (0, u "java/lang/Object")] 32

/-- java/lang/constant/ConstantDesc -/
def k6 : Class := { plain "java/lang/constant/ConstantDesc" (some 0) with
  accessFlags := 1537
  interfaces := #[]
  cf := some (fileOf pool6 1 #[] #[] 1537 3 #[] #[])
  fields := #[]
  methods := #[]
  instanceTypes := #[]
  staticTypes := #[]
  resolved := Array.replicate 37 none
  statics := none }

def pool7 : Array CpInfo := pool [(1, .methodref 2 3), (0, .class_ 4), (0, .nameAndType 5 6), (0, u "java/lang/Object"), (0, u "<init>"), (0, u "()V"), (0, .string 8), (0, u ""), (0, .fieldref 10 11), (0, .class_ 12), (0, .nameAndType 13 14), (0, u "java/lang/String"), (0, u "value"), (0, u "[B"), (0, .fieldref 10 16), (0, .nameAndType 17 18), (0, u "coder"), (0, u "B"), (2, u "hash"), (0, u "I"), (2, u "hashIsZero"), (0, u "Z"), (0, .methodref 10 28), (0, .nameAndType 5 29), (0, u "([CIILjava/lang/Void;)V"), (8, .fieldref 10 39), (0, .nameAndType 40 26), (0, u "COMPACT_STRINGS"), (1, .class_ 44), (1, u "java/lang/StringUTF16"), (0, u "compress"), (1, .methodref 42 48), (0, .nameAndType 49 50), (0, u "coderFromArrayLen"), (0, u "([BI)B"), (2, u "toBytes"), (53, .class_ 109), (1, u "java/lang/StringLatin1"), (67, .methodref 42 178), (0, .nameAndType 45 179), (0, u "([CII)[B"), (29, .methodref 10 210), (0, .nameAndType 5 211), (0, u "([BB)V"), (157, u "(C)Z"), (171, .methodref 107 542), (0, .nameAndType 543 544), (0, u "equals"), (0, u "([B[B)Z"), (28, u "(Ljava/lang/Object;)Z"), (1, .class_ 576), (0, u "java/lang/CharSequence"), (22, u "CASE_INSENSITIVE_ORDER"), (0, u "Ljava/util/Comparator;"), (181, u "valueOf"), (0, u "(C)Ljava/lang/String;"), (226, u "([C)V"), (4, .methodref 107 1016), (0, .nameAndType 1017 369), (0, u "canEncode"), (0, .methodref 107 1019), (0, .nameAndType 53 1020), (0, u "(C)[B"), (80, u "serialPersistentFields"), (0, u "[Ljava/io/ObjectStreamField;"), (0, .class_ 1104), (0, u "java/lang/String$CaseInsensitiveComparator"), (1, .class_ 1107), (0, u "java/io/Serializable"), (0, .class_ 1109), (0, u "java/lang/Comparable"), (0, .class_ 1111), (0, u "java/lang/constant/Constable"), (0, .class_ 1113), (0, u "java/lang/constant/ConstantDesc"), (2, u "serialVersionUID"), (0, u "J"), (3, u "REPL"), (0, u "C"), (2, u "LATIN1"), (1, u "UTF16")] 323

def k7m0 : Method := { name := "<init>", desc := "()V", sig := { parameters := [], returnType := none }, accessFlags := 1, code := none }
def k7c1 : Code := { maxStack := 5, maxLocals := 2, code := jdk_42_method_3_code, exceptionTable := #[], attributes := #[] }
def k7m1 : Method := { name := "<init>", desc := "([C)V", sig := { parameters := [(.array .char)], returnType := none }, accessFlags := 1, code := some k7c1 }
def k7c2 : Code := { maxStack := 2, maxLocals := 3, code := jdk_42_method_66_code, exceptionTable := #[], attributes := #[] }
def k7m2 : Method := { name := "equals", desc := "(Ljava/lang/Object;)Z", sig := { parameters := [(.object "java/lang/Object")], returnType := some .boolean }, accessFlags := 1, code := some k7c2 }
def k7c3 : Code := { maxStack := 4, maxLocals := 1, code := jdk_42_method_139_code, exceptionTable := #[], attributes := #[] }
def k7m3 : Method := { name := "valueOf", desc := "(C)Ljava/lang/String;", sig := { parameters := [.char], returnType := some (.object "java/lang/String") }, accessFlags := 9, code := some k7c3 }
def k7c4 : Code := { maxStack := 4, maxLocals := 6, code := jdk_42_method_149_code, exceptionTable := #[], attributes := #[] }
def k7m4 : Method := { name := "<init>", desc := "([CIILjava/lang/Void;)V", sig := { parameters := [(.array .char), .int, .int, (.object "java/lang/Void")], returnType := none }, accessFlags := 2, code := some k7c4 }
def k7c5 : Code := { maxStack := 2, maxLocals := 3, code := jdk_42_method_151_code, exceptionTable := #[], attributes := #[] }
def k7m5 : Method := { name := "<init>", desc := "([BB)V", sig := { parameters := [(.array .byte), .byte], returnType := none }, accessFlags := 0, code := some k7c5 }
/-- java/lang/String -/
def k7 : Class := { plain "java/lang/String" (some 0) with
  accessFlags := 49
  interfaces := #[2, 3, 4, 5, 6]
  cf := some (fileOf pool7 10 #[.nestMembers #[1103]] #[{ accessFlags := 1, nameIndex := 5, descriptorIndex := 6, attributes := #[] }, { accessFlags := 1, nameIndex := 5, descriptorIndex := 1010, attributes := #[] }, { accessFlags := 1, nameIndex := 543, descriptorIndex := 573, attributes := #[] }, { accessFlags := 9, nameIndex := 782, descriptorIndex := 783, attributes := #[] }, { accessFlags := 2, nameIndex := 5, descriptorIndex := 29, attributes := #[] }, { accessFlags := 0, nameIndex := 5, descriptorIndex := 211, attributes := #[] }] 49 2 #[1106, 1108, 575, 1110, 1112] #[{ accessFlags := 18, nameIndex := 13, descriptorIndex := 14, attributes := #[] }, { accessFlags := 18, nameIndex := 17, descriptorIndex := 18, attributes := #[] }, { accessFlags := 2, nameIndex := 21, descriptorIndex := 22, attributes := #[] }, { accessFlags := 2, nameIndex := 25, descriptorIndex := 26, attributes := #[] }, { accessFlags := 26, nameIndex := 1116, descriptorIndex := 1117, attributes := #[] }, { accessFlags := 24, nameIndex := 40, descriptorIndex := 26, attributes := #[] }, { accessFlags := 26, nameIndex := 1101, descriptorIndex := 1102, attributes := #[] }, { accessFlags := 26, nameIndex := 1121, descriptorIndex := 1122, attributes := #[] }, { accessFlags := 25, nameIndex := 599, descriptorIndex := 600, attributes := #[] }, { accessFlags := 24, nameIndex := 1125, descriptorIndex := 18, attributes := #[] }, { accessFlags := 24, nameIndex := 1127, descriptorIndex := 18, attributes := #[] }])
  fields := #[{ name := "value", type := (.array .byte), accessFlags := 18, slot := 0, constantValue := 0 }, { name := "coder", type := .byte, accessFlags := 18, slot := 1, constantValue := 0 }, { name := "hash", type := .int, accessFlags := 2, slot := 2, constantValue := 0 }, { name := "hashIsZero", type := .boolean, accessFlags := 2, slot := 3, constantValue := 0 }, { name := "serialVersionUID", type := .long, accessFlags := 26, slot := 0, constantValue := 0 }, { name := "COMPACT_STRINGS", type := .boolean, accessFlags := 24, slot := 1, constantValue := 0 }, { name := "serialPersistentFields", type := (.array (.object "java/io/ObjectStreamField")), accessFlags := 26, slot := 2, constantValue := 0 }, { name := "REPL", type := .char, accessFlags := 26, slot := 3, constantValue := 0 }, { name := "CASE_INSENSITIVE_ORDER", type := (.object "java/util/Comparator"), accessFlags := 25, slot := 4, constantValue := 0 }, { name := "LATIN1", type := .byte, accessFlags := 24, slot := 5, constantValue := 0 }, { name := "UTF16", type := .byte, accessFlags := 24, slot := 6, constantValue := 0 }]
  methods := #[k7m0, k7m1, k7m2, k7m3, k7m4, k7m5]
  instanceTypes := #[(.array .byte), .byte, .int, .boolean]
  staticTypes := #[.long, .boolean, (.array (.object "java/io/ObjectStreamField")), .char, (.object "java/util/Comparator"), .byte, .byte]
  resolved := Array.replicate 1451 none
  statics := some 0 }

def pool8 : Array CpInfo := pool [(6, .class_ 8), (1, u "java/lang/Object"), (0, u "<init>"), (0, u "()V"), (1, .class_ 14), (1, u "java/lang/StringUTF16"), (31, u "$assertionsDisabled"), (0, u "Z"), (13, u "HI_BYTE_SHIFT"), (0, u "I"), (2, u "LO_BYTE_SHIFT"), (49, .methodref 12 116), (0, .nameAndType 117 118), (0, u "compress"), (0, u "([CI[BII)I"), (3, u "([CII)[B"), (138, u "coderFromArrayLen"), (0, u "([BI)B"), (106, .class_ 371), (1, u "java/lang/StringUTF16$LinesSpliterator"), (58, u "MAX_LENGTH"), (196, .class_ 628), (0, u "java/lang/StringUTF16$CodePointsSpliterator"), (0, .class_ 630), (0, u "java/lang/StringUTF16$CharsSpliterator")] 4

def k8m0 : Method := { name := "<init>", desc := "()V", sig := { parameters := [], returnType := none }, accessFlags := 0, code := none }
def k8c1 : Code := { maxStack := 2, maxLocals := 2, code := jdk_52_method_15_code, exceptionTable := #[], attributes := #[] }
def k8m1 : Method := { name := "coderFromArrayLen", desc := "([BI)B", sig := { parameters := [(.array .byte), .int], returnType := some .byte }, accessFlags := 8, code := some k8c1 }
def k8c2 : Code := { maxStack := 5, maxLocals := 6, code := jdk_52_method_16_code, exceptionTable := #[], attributes := #[] }
def k8m2 : Method := { name := "compress", desc := "([CII)[B", sig := { parameters := [(.array .char), .int, .int], returnType := some (.array .byte) }, accessFlags := 9, code := some k8c2 }
def k8c3 : Code := { maxStack := 3, maxLocals := 7, code := jdk_52_method_21_code, exceptionTable := #[], attributes := #[] }
def k8m3 : Method := { name := "compress", desc := "([CI[BII)I", sig := { parameters := [(.array .char), .int, (.array .byte), .int, .int], returnType := some .int }, accessFlags := 9, code := some k8c3 }
/-- java/lang/StringUTF16 -/
def k8 : Class := { plain "java/lang/StringUTF16" (some 0) with
  accessFlags := 48
  interfaces := #[]
  cf := some (fileOf pool8 12 #[.nestMembers #[627, 629, 369]] #[{ accessFlags := 0, nameIndex := 9, descriptorIndex := 10, attributes := #[] }, { accessFlags := 8, nameIndex := 261, descriptorIndex := 262, attributes := #[] }, { accessFlags := 9, nameIndex := 117, descriptorIndex := 122, attributes := #[] }, { accessFlags := 9, nameIndex := 117, descriptorIndex := 118, attributes := #[] }] 48 6 #[] #[{ accessFlags := 26, nameIndex := 61, descriptorIndex := 62, attributes := #[] }, { accessFlags := 26, nameIndex := 65, descriptorIndex := 62, attributes := #[] }, { accessFlags := 24, nameIndex := 430, descriptorIndex := 62, attributes := #[] }, { accessFlags := 4120, nameIndex := 46, descriptorIndex := 47, attributes := #[] }])
  fields := #[{ name := "HI_BYTE_SHIFT", type := .int, accessFlags := 26, slot := 0, constantValue := 0 }, { name := "LO_BYTE_SHIFT", type := .int, accessFlags := 26, slot := 1, constantValue := 0 }, { name := "MAX_LENGTH", type := .int, accessFlags := 24, slot := 2, constantValue := 0 }, { name := "$assertionsDisabled", type := .boolean, accessFlags := 4120, slot := 3, constantValue := 0 }]
  methods := #[k8m0, k8m1, k8m2, k8m3]
  instanceTypes := #[]
  staticTypes := #[.int, .int, .int, .boolean]
  resolved := Array.replicate 635 none
  statics := none }

def pool9 : Array CpInfo := pool [(4, .class_ 6), (1, u "java/lang/Object"), (0, u "<init>"), (0, u "()V"), (5, .class_ 16), (1, u "java/lang/StringLatin1"), (73, u "canEncode"), (14, u "(C)Z"), (15, u "$assertionsDisabled"), (0, u "Z"), (98, .class_ 223), (1, u "java/lang/StringLatin1$LinesSpliterator"), (57, u "equals"), (0, u "([B[B)Z"), (97, u "toBytes"), (1, u "(C)[B"), (7, .class_ 391), (0, u "java/lang/StringLatin1$CharsSpliterator")] 3

def k9m0 : Method := { name := "<init>", desc := "()V", sig := { parameters := [], returnType := none }, accessFlags := 0, code := none }
def k9c1 : Code := { maxStack := 2, maxLocals := 1, code := jdk_43_method_3_code, exceptionTable := #[], attributes := #[] }
def k9m1 : Method := { name := "canEncode", desc := "(C)Z", sig := { parameters := [.char], returnType := some .boolean }, accessFlags := 9, code := some k9c1 }
def k9c2 : Code := { maxStack := 3, maxLocals := 3, code := jdk_43_method_13_code, exceptionTable := #[], attributes := #[] }
def k9m2 : Method := { name := "equals", desc := "([B[B)Z", sig := { parameters := [(.array .byte), (.array .byte)], returnType := some .boolean }, accessFlags := 9, code := some k9c2 }
def k9c3 : Code := { maxStack := 4, maxLocals := 1, code := jdk_43_method_46_code, exceptionTable := #[], attributes := #[] }
def k9m3 : Method := { name := "toBytes", desc := "(C)[B", sig := { parameters := [.char], returnType := some (.array .byte) }, accessFlags := 9, code := some k9c3 }
/-- java/lang/StringLatin1 -/
def k9 : Class := { plain "java/lang/StringLatin1" (some 0) with
  accessFlags := 48
  interfaces := #[]
  cf := some (fileOf pool9 14 #[.nestMembers #[390, 221]] #[{ accessFlags := 0, nameIndex := 7, descriptorIndex := 8, attributes := #[] }, { accessFlags := 9, nameIndex := 90, descriptorIndex := 105, attributes := #[] }, { accessFlags := 9, nameIndex := 281, descriptorIndex := 282, attributes := #[] }, { accessFlags := 9, nameIndex := 380, descriptorIndex := 382, attributes := #[] }] 48 4 #[] #[{ accessFlags := 4120, nameIndex := 121, descriptorIndex := 122, attributes := #[] }])
  fields := #[{ name := "$assertionsDisabled", type := .boolean, accessFlags := 4120, slot := 0, constantValue := 0 }]
  methods := #[k9m0, k9m1, k9m2, k9m3]
  instanceTypes := #[]
  staticTypes := #[.boolean]
  resolved := Array.replicate 395 none
  statics := none }

def pool10 : Array CpInfo := pool [(2, .class_ 4), (1, u "java/lang/Enum"), (0, u "name"), (0, u "Ljava/lang/String;"), (2, u "ordinal"), (0, u "I"), (1, .class_ 14), (1, u "java/lang/Object"), (4, u "hash"), (86, .class_ 108), (1, u "java/lang/Enum$EnumDesc"), (2, .class_ 112), (0, u "java/lang/constant/Constable"), (0, .class_ 114), (0, u "java/lang/Comparable"), (0, .class_ 116), (0, u "java/io/Serializable")] 87

/-- java/lang/Enum -/
def k10 : Class := { plain "java/lang/Enum" (some 0) with
  accessFlags := 1057
  interfaces := #[5, 3, 2]
  cf := some (fileOf pool10 2 #[.nestMembers #[106]] #[] 1057 12 #[111, 113, 115] #[{ accessFlags := 18, nameIndex := 5, descriptorIndex := 6, attributes := #[] }, { accessFlags := 18, nameIndex := 9, descriptorIndex := 10, attributes := #[] }, { accessFlags := 2, nameIndex := 19, descriptorIndex := 10, attributes := #[] }])
  fields := #[{ name := "name", type := (.object "java/lang/String"), accessFlags := 18, slot := 0, constantValue := 0 }, { name := "ordinal", type := .int, accessFlags := 18, slot := 1, constantValue := 0 }, { name := "hash", type := .int, accessFlags := 2, slot := 2, constantValue := 0 }]
  methods := #[]
  instanceTypes := #[(.object "java/lang/String"), .int, .int]
  staticTypes := #[]
  resolved := Array.replicate 204 none
  statics := none }

def pool11 : Array CpInfo := pool [(1, .class_ 2), (0, u "com/example/synctoken/synctoken/lock/WriteLock$Scope"), (2, u "EXCLUSIVE"), (0, u "Lcom/example/synctoken/synctoken/lock/WriteLock$Scope;"), (2, u "SHARED"), (0, .fieldref 1 11), (0, .nameAndType 12 13), (0, u "$VALUES"), (0, u "[Lcom/example/synctoken/synctoken/lock/WriteLock$Scope;"), (0, .methodref 15 16), (0, .class_ 13), (0, .nameAndType 17 18), (0, u "clone"), (0, u "()Ljava/lang/Object;"), (1, .class_ 22), (1, u "java/lang/Enum"), (6, .fieldref 1 30), (0, .nameAndType 31 32), (0, u "elementName"), (0, u "Ljava/lang/String;"), (0, .methodref 34 35), (0, .class_ 36), (0, .nameAndType 37 38), (0, u "java/util/Optional"), (0, u "empty"), (0, u "()Ljava/util/Optional;"), (0, .methodref 1 40), (0, .nameAndType 41 42), (0, u "values"), (0, u "()[Lcom/example/synctoken/synctoken/lock/WriteLock$Scope;"), (0, .methodref 44 45), (0, .class_ 46), (0, .nameAndType 47 48), (0, u "java/lang/String"), (0, u "equals"), (0, u "(Ljava/lang/Object;)Z"), (0, .methodref 34 50), (0, .nameAndType 51 52), (0, u "of"), (0, u "(Ljava/lang/Object;)Ljava/util/Optional;"), (18, u "named"), (0, u "(Ljava/lang/String;)Ljava/util/Optional;"), (9, .class_ 83), (0, u "com/example/synctoken/synctoken/lock/WriteLock")] 2

def k11c0 : Code := { maxStack := 1, maxLocals := 0, code := prog_12_method_1_code, exceptionTable := #[], attributes := #[] }
def k11m0 : Method := { name := "values", desc := "()[Lcom/example/synctoken/synctoken/lock/WriteLock$Scope;", sig := { parameters := [], returnType := some (.array (.object "com/example/synctoken/synctoken/lock/WriteLock$Scope")) }, accessFlags := 9, code := some k11c0 }
def k11c1 : Code := { maxStack := 2, maxLocals := 6, code := prog_12_method_4_code, exceptionTable := #[], attributes := #[] }
def k11m1 : Method := { name := "named", desc := "(Ljava/lang/String;)Ljava/util/Optional;", sig := { parameters := [(.object "java/lang/String")], returnType := some (.object "java/util/Optional") }, accessFlags := 9, code := some k11c1 }
/-- com/example/synctoken/synctoken/lock/WriteLock$Scope -/
def k11 : Class := { plain "com/example/synctoken/synctoken/lock/WriteLock$Scope" (some 10) with
  accessFlags := 16433
  interfaces := #[]
  cf := some (fileOf pool11 1 #[.nestHost 82] #[{ accessFlags := 9, nameIndex := 41, descriptorIndex := 42, attributes := #[] }, { accessFlags := 9, nameIndex := 71, descriptorIndex := 72, attributes := #[] }] 16433 20 #[] #[{ accessFlags := 16409, nameIndex := 5, descriptorIndex := 6, attributes := #[] }, { accessFlags := 16409, nameIndex := 9, descriptorIndex := 6, attributes := #[] }, { accessFlags := 18, nameIndex := 31, descriptorIndex := 32, attributes := #[] }, { accessFlags := 4122, nameIndex := 12, descriptorIndex := 13, attributes := #[] }])
  fields := #[{ name := "EXCLUSIVE", type := (.object "com/example/synctoken/synctoken/lock/WriteLock$Scope"), accessFlags := 16409, slot := 0, constantValue := 0 }, { name := "SHARED", type := (.object "com/example/synctoken/synctoken/lock/WriteLock$Scope"), accessFlags := 16409, slot := 1, constantValue := 0 }, { name := "elementName", type := (.object "java/lang/String"), accessFlags := 18, slot := 3, constantValue := 0 }, { name := "$VALUES", type := (.array (.object "com/example/synctoken/synctoken/lock/WriteLock$Scope")), accessFlags := 4122, slot := 2, constantValue := 0 }]
  methods := #[k11m0, k11m1]
  instanceTypes := #[(.object "java/lang/String"), .int, .int, (.object "java/lang/String")]
  staticTypes := #[(.object "com/example/synctoken/synctoken/lock/WriteLock$Scope"), (.object "com/example/synctoken/synctoken/lock/WriteLock$Scope"), (.array (.object "com/example/synctoken/synctoken/lock/WriteLock$Scope"))]
  resolved := Array.replicate 86 none
  statics := some 1 }

def pool12 : Array CpInfo := pool [(1, .fieldref 2 3), (0, .class_ 4), (0, .nameAndType 5 6), (0, u "java/util/Optional"), (0, u "EMPTY"), (0, u "Ljava/util/Optional;"), (0, .methodref 8 9), (0, .class_ 10), (0, .nameAndType 11 12), (0, u "java/lang/Object"), (0, u "<init>"), (0, u "()V"), (0, .fieldref 2 14), (0, .nameAndType 15 16), (0, u "value"), (0, u "Ljava/lang/Object;"), (0, .methodref 18 19), (0, .class_ 20), (0, .nameAndType 21 22), (0, u "java/util/Objects"), (0, u "requireNonNull"), (0, u "(Ljava/lang/Object;)Ljava/lang/Object;"), (0, .methodref 2 24), (0, .nameAndType 11 25), (0, u "(Ljava/lang/Object;)V"), (20, u "()Z"), (8, u "empty"), (0, u "()Ljava/util/Optional;"), (8, u "(Ljava/lang/Object;)Ljava/util/Optional;"), (2, u "isPresent"), (4, u "get"), (0, u "()Ljava/lang/Object;"), (7, u "of")] 104

def k12c0 : Code := { maxStack := 1, maxLocals := 1, code := jdk_32_method_1_code, exceptionTable := #[], attributes := #[] }
def k12m0 : Method := { name := "empty", desc := "()Ljava/util/Optional;", sig := { parameters := [], returnType := some (.object "java/util/Optional") }, accessFlags := 9, code := some k12c0 }
def k12c1 : Code := { maxStack := 2, maxLocals := 2, code := jdk_32_method_2_code, exceptionTable := #[], attributes := #[] }
def k12m1 : Method := { name := "<init>", desc := "(Ljava/lang/Object;)V", sig := { parameters := [(.object "java/lang/Object")], returnType := none }, accessFlags := 2, code := some k12c1 }
def k12c2 : Code := { maxStack := 3, maxLocals := 1, code := jdk_32_method_3_code, exceptionTable := #[], attributes := #[] }
def k12m2 : Method := { name := "of", desc := "(Ljava/lang/Object;)Ljava/util/Optional;", sig := { parameters := [(.object "java/lang/Object")], returnType := some (.object "java/util/Optional") }, accessFlags := 9, code := some k12c2 }
def k12c3 : Code := { maxStack := 3, maxLocals := 1, code := jdk_32_method_5_code, exceptionTable := #[], attributes := #[] }
def k12m3 : Method := { name := "get", desc := "()Ljava/lang/Object;", sig := { parameters := [], returnType := some (.object "java/lang/Object") }, accessFlags := 1, code := some k12c3 }
def k12c4 : Code := { maxStack := 1, maxLocals := 1, code := jdk_32_method_6_code, exceptionTable := #[], attributes := #[] }
def k12m4 : Method := { name := "isPresent", desc := "()Z", sig := { parameters := [], returnType := some .boolean }, accessFlags := 1, code := some k12c4 }
/-- java/util/Optional -/
def k12 : Class := { plain "java/util/Optional" (some 0) with
  accessFlags := 49
  interfaces := #[]
  cf := some (fileOf pool12 2 #[] #[{ accessFlags := 9, nameIndex := 55, descriptorIndex := 56, attributes := #[] }, { accessFlags := 2, nameIndex := 11, descriptorIndex := 25, attributes := #[] }, { accessFlags := 9, nameIndex := 82, descriptorIndex := 65, attributes := #[] }, { accessFlags := 1, nameIndex := 73, descriptorIndex := 74, attributes := #[] }, { accessFlags := 1, nameIndex := 68, descriptorIndex := 46, attributes := #[] }] 49 8 #[] #[{ accessFlags := 26, nameIndex := 5, descriptorIndex := 6, attributes := #[] }, { accessFlags := 18, nameIndex := 15, descriptorIndex := 16, attributes := #[] }])
  fields := #[{ name := "EMPTY", type := (.object "java/util/Optional"), accessFlags := 26, slot := 0, constantValue := 0 }, { name := "value", type := (.object "java/lang/Object"), accessFlags := 18, slot := 0, constantValue := 0 }]
  methods := #[k12m0, k12m1, k12m2, k12m3, k12m4]
  instanceTypes := #[(.object "java/lang/Object")]
  staticTypes := #[(.object "java/util/Optional")]
  resolved := Array.replicate 187 none
  statics := some 2 }

def pool13 : Array CpInfo := pool [(1, .class_ 2), (0, u "java/lang/Cloneable"), (0, .class_ 4), (0, u "java/lang/Object")] 2

/-- java/lang/Cloneable -/
def k13 : Class := { plain "java/lang/Cloneable" (some 0) with
  accessFlags := 1537
  interfaces := #[]
  cf := some (fileOf pool13 1 #[] #[] 1537 3 #[] #[])
  fields := #[]
  methods := #[]
  instanceTypes := #[]
  staticTypes := #[]
  resolved := Array.replicate 7 none
  statics := none }

def pool14 : Array CpInfo := pool [(2, .class_ 4), (1, u "java/lang/Object"), (0, u "<init>"), (0, u "()V"), (35, .class_ 44), (1, u "java/util/Objects"), (0, u "requireNonNull"), (0, u "(Ljava/lang/Object;)Ljava/lang/Object;")] 137

def k14m0 : Method := { name := "<init>", desc := "()V", sig := { parameters := [], returnType := none }, accessFlags := 2, code := none }
def k14c1 : Code := { maxStack := 2, maxLocals := 1, code := jdk_31_method_10_code, exceptionTable := #[], attributes := #[] }
def k14m1 : Method := { name := "requireNonNull", desc := "(Ljava/lang/Object;)Ljava/lang/Object;", sig := { parameters := [(.object "java/lang/Object")], returnType := some (.object "java/lang/Object") }, accessFlags := 9, code := some k14c1 }
/-- java/util/Objects -/
def k14 : Class := { plain "java/util/Objects" (some 0) with
  accessFlags := 49
  interfaces := #[]
  cf := some (fileOf pool14 42 #[] #[{ accessFlags := 2, nameIndex := 5, descriptorIndex := 6, attributes := #[] }, { accessFlags := 9, nameIndex := 45, descriptorIndex := 46, attributes := #[] }] 49 2 #[] #[])
  fields := #[]
  methods := #[k14m0, k14m1]
  instanceTypes := #[]
  staticTypes := #[]
  resolved := Array.replicate 184 none
  statics := none }

def pool15 : Array CpInfo := pool [(2, .class_ 4), (1, u "java/lang/Object"), (0, u "<init>"), (0, u "()V"), (17, .class_ 26), (1, u "jdk/internal/util/Preconditions"), (28, .class_ 56), (0, u "jdk/internal/util/Preconditions$4"), (57, .class_ 115), (0, u "jdk/internal/util/Preconditions$1"), (7, u "SIOOBE_FORMATTER"), (0, u "Ljava/util/function/BiFunction;"), (0, .class_ 126), (0, u "jdk/internal/util/Preconditions$2"), (3, u "AIOOBE_FORMATTER"), (0, .class_ 132), (0, u "jdk/internal/util/Preconditions$3"), (3, u "IOOBE_FORMATTER")] 57

def k15m0 : Method := { name := "<init>", desc := "()V", sig := { parameters := [], returnType := none }, accessFlags := 1, code := none }
/-- jdk/internal/util/Preconditions -/
def k15 : Class := { plain "jdk/internal/util/Preconditions" (some 0) with
  accessFlags := 33
  interfaces := #[]
  cf := some (fileOf pool15 24 #[.nestMembers #[55, 131, 125, 114]] #[{ accessFlags := 1, nameIndex := 5, descriptorIndex := 6, attributes := #[] }] 33 2 #[] #[{ accessFlags := 25, nameIndex := 123, descriptorIndex := 124, attributes := #[] }, { accessFlags := 25, nameIndex := 130, descriptorIndex := 124, attributes := #[] }, { accessFlags := 25, nameIndex := 136, descriptorIndex := 124, attributes := #[] }])
  fields := #[{ name := "SIOOBE_FORMATTER", type := (.object "java/util/function/BiFunction"), accessFlags := 25, slot := 0, constantValue := 0 }, { name := "AIOOBE_FORMATTER", type := (.object "java/util/function/BiFunction"), accessFlags := 25, slot := 1, constantValue := 0 }, { name := "IOOBE_FORMATTER", type := (.object "java/util/function/BiFunction"), accessFlags := 25, slot := 2, constantValue := 0 }]
  methods := #[k15m0]
  instanceTypes := #[]
  staticTypes := #[(.object "java/util/function/BiFunction"), (.object "java/util/function/BiFunction"), (.object "java/util/function/BiFunction")]
  resolved := Array.replicate 194 none
  statics := some 3 }

def pool16 : Array CpInfo := pool [(9, u "<init>"), (6, .class_ 18), (1, u "java/lang/Object"), (0, u "()V"), (1, .class_ 23), (1, u "jdk/internal/util/ArraysSupport"), (0, u "LOG2_ARRAY_LONG_INDEX_SCALE"), (0, u "I"), (2, u "U"), (0, u "Ljdk/internal/misc/Unsafe;"), (8, u "BIG_ENDIAN"), (0, u "Z"), (8, u "LOG2_BYTE_BIT_SIZE"), (4, u "LOG2_ARRAY_INT_INDEX_SCALE"), (54, u "JLA"), (0, u "Ljdk/internal/access/JavaLangAccess;"), (11, u "LOG2_ARRAY_BOOLEAN_INDEX_SCALE"), (9, u "LOG2_ARRAY_BYTE_INDEX_SCALE"), (5, u "LOG2_ARRAY_CHAR_INDEX_SCALE"), (5, u "LOG2_ARRAY_SHORT_INDEX_SCALE"), (18, u "LOG2_ARRAY_FLOAT_INDEX_SCALE"), (24, u "LOG2_ARRAY_DOUBLE_INDEX_SCALE"), (89, u "T_BOOLEAN"), (2, u "T_CHAR"), (1, u "T_FLOAT"), (1, u "T_DOUBLE"), (1, u "T_BYTE"), (1, u "T_SHORT"), (1, u "T_INT"), (1, u "T_LONG"), (1, u "SOFT_MAX_ARRAY_LENGTH")] 83

def k16m0 : Method := { name := "<init>", desc := "()V", sig := { parameters := [], returnType := none }, accessFlags := 2, code := none }
/-- jdk/internal/util/ArraysSupport -/
def k16 : Class := { plain "jdk/internal/util/ArraysSupport" (some 0) with
  accessFlags := 33
  interfaces := #[]
  cf := some (fileOf pool16 21 #[] #[{ accessFlags := 2, nameIndex := 9, descriptorIndex := 19, attributes := #[] }] 33 16 #[] #[{ accessFlags := 24, nameIndex := 28, descriptorIndex := 29, attributes := #[] }, { accessFlags := 26, nameIndex := 38, descriptorIndex := 39, attributes := #[] }, { accessFlags := 25, nameIndex := 121, descriptorIndex := 25, attributes := #[] }, { accessFlags := 25, nameIndex := 131, descriptorIndex := 25, attributes := #[] }, { accessFlags := 25, nameIndex := 137, descriptorIndex := 25, attributes := #[] }, { accessFlags := 25, nameIndex := 143, descriptorIndex := 25, attributes := #[] }, { accessFlags := 25, nameIndex := 53, descriptorIndex := 25, attributes := #[] }, { accessFlags := 25, nameIndex := 24, descriptorIndex := 25, attributes := #[] }, { accessFlags := 25, nameIndex := 162, descriptorIndex := 25, attributes := #[] }, { accessFlags := 25, nameIndex := 187, descriptorIndex := 25, attributes := #[] }, { accessFlags := 26, nameIndex := 48, descriptorIndex := 25, attributes := #[] }, { accessFlags := 25, nameIndex := 277, descriptorIndex := 25, attributes := #[] }, { accessFlags := 25, nameIndex := 280, descriptorIndex := 25, attributes := #[] }, { accessFlags := 25, nameIndex := 282, descriptorIndex := 25, attributes := #[] }, { accessFlags := 25, nameIndex := 284, descriptorIndex := 25, attributes := #[] }, { accessFlags := 25, nameIndex := 286, descriptorIndex := 25, attributes := #[] }, { accessFlags := 25, nameIndex := 288, descriptorIndex := 25, attributes := #[] }, { accessFlags := 25, nameIndex := 290, descriptorIndex := 25, attributes := #[] }, { accessFlags := 25, nameIndex := 292, descriptorIndex := 25, attributes := #[] }, { accessFlags := 26, nameIndex := 108, descriptorIndex := 109, attributes := #[] }, { accessFlags := 25, nameIndex := 294, descriptorIndex := 25, attributes := #[] }])
  fields := #[{ name := "U", type := (.object "jdk/internal/misc/Unsafe"), accessFlags := 24, slot := 0, constantValue := 0 }, { name := "BIG_ENDIAN", type := .boolean, accessFlags := 26, slot := 1, constantValue := 0 }, { name := "LOG2_ARRAY_BOOLEAN_INDEX_SCALE", type := .int, accessFlags := 25, slot := 2, constantValue := 0 }, { name := "LOG2_ARRAY_BYTE_INDEX_SCALE", type := .int, accessFlags := 25, slot := 3, constantValue := 0 }, { name := "LOG2_ARRAY_CHAR_INDEX_SCALE", type := .int, accessFlags := 25, slot := 4, constantValue := 0 }, { name := "LOG2_ARRAY_SHORT_INDEX_SCALE", type := .int, accessFlags := 25, slot := 5, constantValue := 0 }, { name := "LOG2_ARRAY_INT_INDEX_SCALE", type := .int, accessFlags := 25, slot := 6, constantValue := 0 }, { name := "LOG2_ARRAY_LONG_INDEX_SCALE", type := .int, accessFlags := 25, slot := 7, constantValue := 0 }, { name := "LOG2_ARRAY_FLOAT_INDEX_SCALE", type := .int, accessFlags := 25, slot := 8, constantValue := 0 }, { name := "LOG2_ARRAY_DOUBLE_INDEX_SCALE", type := .int, accessFlags := 25, slot := 9, constantValue := 0 }, { name := "LOG2_BYTE_BIT_SIZE", type := .int, accessFlags := 26, slot := 10, constantValue := 0 }, { name := "T_BOOLEAN", type := .int, accessFlags := 25, slot := 11, constantValue := 0 }, { name := "T_CHAR", type := .int, accessFlags := 25, slot := 12, constantValue := 0 }, { name := "T_FLOAT", type := .int, accessFlags := 25, slot := 13, constantValue := 0 }, { name := "T_DOUBLE", type := .int, accessFlags := 25, slot := 14, constantValue := 0 }, { name := "T_BYTE", type := .int, accessFlags := 25, slot := 15, constantValue := 0 }, { name := "T_SHORT", type := .int, accessFlags := 25, slot := 16, constantValue := 0 }, { name := "T_INT", type := .int, accessFlags := 25, slot := 17, constantValue := 0 }, { name := "T_LONG", type := .int, accessFlags := 25, slot := 18, constantValue := 0 }, { name := "JLA", type := (.object "jdk/internal/access/JavaLangAccess"), accessFlags := 26, slot := 19, constantValue := 0 }, { name := "SOFT_MAX_ARRAY_LENGTH", type := .int, accessFlags := 25, slot := 20, constantValue := 0 }]
  methods := #[k16m0]
  instanceTypes := #[]
  staticTypes := #[(.object "jdk/internal/misc/Unsafe"), .boolean, .int, .int, .int, .int, .int, .int, .int, .int, .int, .int, .int, .int, .int, .int, .int, .int, .int, (.object "jdk/internal/access/JavaLangAccess"), .int]
  resolved := Array.replicate 378 none
  statics := none }

/-- the primitive byte -/
def k17 : Class := { plain "byte" none with kind := .primitive 'B', accessFlags := 0x411 }
/-- [B -/
def k18 : Class := { plain "[B" (some 0) with kind := .array 17 .byte, interfaces := #[13, 2], accessFlags := 1041 }

/-- the primitive char -/
def k19 : Class := { plain "char" none with kind := .primitive 'C', accessFlags := 0x411 }
/-- [C -/
def k20 : Class := { plain "[C" (some 0) with kind := .array 19 .char, interfaces := #[13, 2], accessFlags := 1041 }

/-- the primitive int -/
def k21 : Class := { plain "int" none with kind := .primitive 'I', accessFlags := 0x411 }
/-- [I -/
def k22 : Class := { plain "[I" (some 0) with kind := .array 21 .int, interfaces := #[13, 2], accessFlags := 1041 }

/-- [Lcom/example/synctoken/synctoken/lock/WriteLock$Scope; -/
def k23 : Class := { plain "[Lcom/example/synctoken/synctoken/lock/WriteLock$Scope;" (some 0) with kind := .array 11 (.object "com/example/synctoken/synctoken/lock/WriteLock$Scope"), interfaces := #[13, 2], accessFlags := 1041 }

def heap : Heap := #[{ cls := 7, slots := #[.long 0, .int 1, .null, .int 0, .null, .int 0, .int 0], vm := .statics 7 },
  { cls := 11, slots := #[.ref 8, .ref 9, .ref 10], vm := .statics 11 },
  { cls := 12, slots := #[.ref 11], vm := .statics 12 },
  { cls := 15, slots := #[.null, .null, .null], vm := .statics 15 },
  { cls := 18, slots := #[.int 101, .int 120, .int 99, .int 108, .int 117, .int 115, .int 105, .int 118, .int 101], vm := .none },
  { cls := 18, slots := #[.int 115, .int 104, .int 97, .int 114, .int 101, .int 100], vm := .none },
  { cls := 7, slots := #[.ref 4, .int 0, .int 0, .int 0], vm := .none },
  { cls := 7, slots := #[.ref 5, .int 0, .int 0, .int 0], vm := .none },
  { cls := 11, slots := #[.null, .int 0, .int 0, .ref 6], vm := .none },
  { cls := 11, slots := #[.null, .int 1, .int 0, .ref 7], vm := .none },
  { cls := 23, slots := #[.ref 8, .ref 9], vm := .none },
  { cls := 12, slots := #[.null], vm := .none }]
def classes : Array Class := #[k0, k1, k2, k3, k4, k5, k6, k7, k8, k9, k10, k11, k12, k13, k14, k15, k16, k17, k18, k19, k20, k21, k22, k23]
def interned : List (Array UInt16 × Addr) := []
def slotsUsed : Nat := 48
def theMethod : MethodId := ⟨1, 1⟩
def args0 : Array Value := #[.int 5, .int 6, .int 7, .int 8]
def aboutOver (below : List Frame) : State where
  vm := { classes := classes, interned := interned.toArray }
  heap := heap
  slotsUsed := slotsUsed
  threads := #[{ frames := .invoking theMethod args0 :: below }]
def below0 : List Frame := [.native { method := ⟨0, 0⟩, args := #[] }]
def about1 : State := aboutOver below0
def p0 : Program := .bare "" "" ""
def e0 : Env := launch0.env 0 0 0
theorem w_frames : about1.frames = Frame.invoking theMethod args0 :: below0 := rfl
set_option maxRecDepth 65536 in
theorem w_args : argsFit about1.vm theMethod args0 = true := by decide +kernel
set_option maxRecDepth 65536 in
theorem w_heap : heapFits about1 = true := by decide +kernel
set_option maxRecDepth 65536 in
theorem w_runnable : about1.curStatus? = some .runnable := by decide +kernel
set_option maxRecDepth 65536 in
theorem w_alone : about1.alone = true := by decide +kernel
set_option maxRecDepth 65536 in
theorem w_named : about1.methodNamed? x = some theMethod := by decide +kernel
set_option maxRecDepth 65536 in
theorem w_hears : about1.hears theMethod below0 = true := by decide +kernel
set_option maxRecDepth 65536 in
theorem w_ripe : about1.ripe theMethod args0 below0 = true := by decide +kernel
theorem w_running : about1.status = .running := rfl
set_option maxRecDepth 65536 in
theorem w_room : about1.hasRoom e0.platform room_1 = true :=
  launch0.hasRoom_least _ room_1 (by decide +kernel) (by decide +kernel) (by decide +kernel) (by decide +kernel) (by decide +kernel) (by decide +kernel)
theorem allAtoms_all (ts : List Jvm.Cond) (a : Array Jvm.Value) (st : Jvm.State) : (allAtoms ts).before a st = ts.all (fun c => c.before a st) := by
  induction ts with
  | nil => rfl
  | cons c t ih =>
    show (Jvm.Cond.and c (allAtoms t)).before a st = _
    rw [Jvm.Cond.before_and, ih, List.all_cons]
def words1 : List Jvm.Cond := Jvm.Cond.code x code maxLocals ret :: tables_1
/-- a 'code' word, met by the world's own term for the bytes: nothing is compared byte by byte -/
theorem code_word {y : MethodName} {bytes : ByteArray} {mx : Nat} {rt : Option FieldType} {a : Array Value} {s : State} {m : MethodId} {meth : Method} {c : Code} (h1 : s.methodNamed? y = some m) (h2 : s.vm.method? m = some meth) (h3 : meth.code = some c) (h4 : c.code = bytes)
    (h5 : (c.maxLocals == mx && c.exceptionTable.isEmpty && decide (c.maxStack ≤ mostOperands) && decide (meth.sig.returnType = rt) && !meth.locks && decide (parseMethodDescriptor y.desc = some meth.sig)) = true) : (Jvm.Cond.code y bytes mx rt).before a s = true := by
  simp only [Bool.and_eq_true, beq_iff_eq, Bool.not_eq_true', decide_eq_true_eq] at h5
  obtain ⟨⟨⟨⟨⟨g1, g2⟩, g3⟩, g4⟩, g5⟩, g6⟩ := h5
  simp [Cond.before, Cond.holds, Cond.value, h1, h2, h3, h4, g1, g2, g3, g4, g5, g6]
def isCode : Jvm.Cond → Bool
  | .code _ _ _ _ => true
  | _ => false
theorem all_split {L : List Jvm.Cond} {P : Jvm.Cond → Bool} (h1 : L.all (fun c => isCode c || P c) = true) (h2 : ∀ c ∈ L.filter isCode, P c = true) : L.all P = true := by
  refine List.all_eq_true.mpr fun c hc => ?_
  have h := List.all_eq_true.mp h1 c hc
  rcases Bool.eq_false_or_eq_true (isCode c) with hi | hi
  · exact h2 c (List.mem_filter.mpr ⟨hc, hi⟩)
  · simpa [hi] using h
set_option maxRecDepth 65536 in
theorem w_c0 : (Jvm.Cond.code x code maxLocals ret).before args0 about1 = true := code_word (m := ⟨1, 1⟩) (meth := k1m1) (c := k1c1) (by decide +kernel) rfl rfl rfl (by decide +kernel)
set_option maxRecDepth 65536 in
theorem w_c1 : (Jvm.Cond.code ({ cls := "java/lang/String", name := "<init>", desc := "([C)V" } : Jvm.MethodName) jdk_42_method_3_code (2 : Nat) (Option.none : Option Jvm.ClassFile.FieldType)).before args0 about1 = true := code_word (m := ⟨7, 1⟩) (meth := k7m1) (c := k7c1) (by decide +kernel) rfl rfl rfl (by decide +kernel)
set_option maxRecDepth 65536 in
theorem w_c2 : (Jvm.Cond.code ({ cls := "java/lang/String", name := "<init>", desc := "([CIILjava/lang/Void;)V" } : Jvm.MethodName) jdk_42_method_149_code (6 : Nat) (Option.none : Option Jvm.ClassFile.FieldType)).before args0 about1 = true := code_word (m := ⟨7, 4⟩) (meth := k7m4) (c := k7c4) (by decide +kernel) rfl rfl rfl (by decide +kernel)
set_option maxRecDepth 65536 in
theorem w_c3 : (Jvm.Cond.code ({ cls := "java/lang/Object", name := "<init>", desc := "()V" } : Jvm.MethodName) object_method_1_code (1 : Nat) (Option.none : Option Jvm.ClassFile.FieldType)).before args0 about1 = true := code_word (m := ⟨0, 0⟩) (meth := k0m0) (c := k0c0) (by decide +kernel) rfl rfl rfl (by decide +kernel)
set_option maxRecDepth 65536 in
theorem w_c4 : (Jvm.Cond.code ({ cls := "java/lang/StringUTF16", name := "compress", desc := "([CII)[B" } : Jvm.MethodName) jdk_52_method_16_code (6 : Nat) (Option.some (Jvm.ClassFile.FieldType.array Jvm.ClassFile.FieldType.byte))).before args0 about1 = true := code_word (m := ⟨8, 2⟩) (meth := k8m2) (c := k8c2) (by decide +kernel) rfl rfl rfl (by decide +kernel)
set_option maxRecDepth 65536 in
theorem w_c5 : (Jvm.Cond.code ({ cls := "java/lang/StringUTF16", name := "compress", desc := "([CI[BII)I" } : Jvm.MethodName) jdk_52_method_21_code (7 : Nat) (Option.some Jvm.ClassFile.FieldType.int)).before args0 about1 = true := code_word (m := ⟨8, 3⟩) (meth := k8m3) (c := k8c3) (by decide +kernel) rfl rfl rfl (by decide +kernel)
set_option maxRecDepth 65536 in
theorem w_c6 : (Jvm.Cond.code ({ cls := "java/lang/StringUTF16", name := "coderFromArrayLen", desc := "([BI)B" } : Jvm.MethodName) jdk_52_method_15_code (2 : Nat) (Option.some Jvm.ClassFile.FieldType.byte)).before args0 about1 = true := code_word (m := ⟨8, 1⟩) (meth := k8m1) (c := k8c1) (by decide +kernel) rfl rfl rfl (by decide +kernel)
set_option maxRecDepth 65536 in
theorem w_c7 : (Jvm.Cond.code ({ cls := "java/lang/String", name := "equals", desc := "(Ljava/lang/Object;)Z" } : Jvm.MethodName) jdk_42_method_66_code (3 : Nat) (Option.some Jvm.ClassFile.FieldType.boolean)).before args0 about1 = true := code_word (m := ⟨7, 2⟩) (meth := k7m2) (c := k7c2) (by decide +kernel) rfl rfl rfl (by decide +kernel)
set_option maxRecDepth 65536 in
theorem w_c8 : (Jvm.Cond.code ({ cls := "java/lang/StringLatin1", name := "equals", desc := "([B[B)Z" } : Jvm.MethodName) jdk_43_method_13_code (3 : Nat) (Option.some Jvm.ClassFile.FieldType.boolean)).before args0 about1 = true := code_word (m := ⟨9, 2⟩) (meth := k9m2) (c := k9c2) (by decide +kernel) rfl rfl rfl (by decide +kernel)
set_option maxRecDepth 65536 in
theorem w_c9 : (Jvm.Cond.code ({ cls := "com/example/synctoken/synctoken/lock/WriteLock$Scope", name := "named", desc := "(Ljava/lang/String;)Ljava/util/Optional;" } : Jvm.MethodName) prog_12_method_4_code (6 : Nat) (Option.some (Jvm.ClassFile.FieldType.object "java/util/Optional"))).before args0 about1 = true := code_word (m := ⟨11, 1⟩) (meth := k11m1) (c := k11c1) (by decide +kernel) rfl rfl rfl (by decide +kernel)
set_option maxRecDepth 65536 in
theorem w_c10 : (Jvm.Cond.code ({ cls := "java/util/Optional", name := "empty", desc := "()Ljava/util/Optional;" } : Jvm.MethodName) jdk_32_method_1_code (1 : Nat) (Option.some (Jvm.ClassFile.FieldType.object "java/util/Optional"))).before args0 about1 = true := code_word (m := ⟨12, 0⟩) (meth := k12m0) (c := k12c0) (by decide +kernel) rfl rfl rfl (by decide +kernel)
set_option maxRecDepth 65536 in
theorem w_c11 : (Jvm.Cond.code ({ cls := "com/example/synctoken/synctoken/lock/WriteLock$Scope", name := "values", desc := "()[Lcom/example/synctoken/synctoken/lock/WriteLock$Scope;" } : Jvm.MethodName) prog_12_method_1_code (0 : Nat) (Option.some (Jvm.ClassFile.FieldType.array (Jvm.ClassFile.FieldType.object "com/example/synctoken/synctoken/lock/WriteLock$Scope")))).before args0 about1 = true := code_word (m := ⟨11, 0⟩) (meth := k11m0) (c := k11c0) (by decide +kernel) rfl rfl rfl (by decide +kernel)
set_option maxRecDepth 65536 in
theorem w_c12 : (Jvm.Cond.code ({ cls := "java/util/Optional", name := "isPresent", desc := "()Z" } : Jvm.MethodName) jdk_32_method_6_code (1 : Nat) (Option.some Jvm.ClassFile.FieldType.boolean)).before args0 about1 = true := code_word (m := ⟨12, 4⟩) (meth := k12m4) (c := k12c4) (by decide +kernel) rfl rfl rfl (by decide +kernel)
set_option maxRecDepth 65536 in
theorem w_c13 : (Jvm.Cond.code ({ cls := "java/lang/String", name := "valueOf", desc := "(C)Ljava/lang/String;" } : Jvm.MethodName) jdk_42_method_139_code (1 : Nat) (Option.some (Jvm.ClassFile.FieldType.object "java/lang/String"))).before args0 about1 = true := code_word (m := ⟨7, 3⟩) (meth := k7m3) (c := k7c3) (by decide +kernel) rfl rfl rfl (by decide +kernel)
set_option maxRecDepth 65536 in
theorem w_c14 : (Jvm.Cond.code ({ cls := "java/lang/StringLatin1", name := "canEncode", desc := "(C)Z" } : Jvm.MethodName) jdk_43_method_3_code (1 : Nat) (Option.some Jvm.ClassFile.FieldType.boolean)).before args0 about1 = true := code_word (m := ⟨9, 1⟩) (meth := k9m1) (c := k9c1) (by decide +kernel) rfl rfl rfl (by decide +kernel)
set_option maxRecDepth 65536 in
theorem w_c15 : (Jvm.Cond.code ({ cls := "java/lang/StringLatin1", name := "toBytes", desc := "(C)[B" } : Jvm.MethodName) jdk_43_method_46_code (1 : Nat) (Option.some (Jvm.ClassFile.FieldType.array Jvm.ClassFile.FieldType.byte))).before args0 about1 = true := code_word (m := ⟨9, 3⟩) (meth := k9m3) (c := k9c3) (by decide +kernel) rfl rfl rfl (by decide +kernel)
set_option maxRecDepth 65536 in
theorem w_c16 : (Jvm.Cond.code ({ cls := "java/lang/String", name := "<init>", desc := "([BB)V" } : Jvm.MethodName) jdk_42_method_151_code (3 : Nat) (Option.none : Option Jvm.ClassFile.FieldType)).before args0 about1 = true := code_word (m := ⟨7, 5⟩) (meth := k7m5) (c := k7c5) (by decide +kernel) rfl rfl rfl (by decide +kernel)
set_option maxRecDepth 65536 in
theorem w_c17 : (Jvm.Cond.code ({ cls := "java/util/Optional", name := "of", desc := "(Ljava/lang/Object;)Ljava/util/Optional;" } : Jvm.MethodName) jdk_32_method_3_code (1 : Nat) (Option.some (Jvm.ClassFile.FieldType.object "java/util/Optional"))).before args0 about1 = true := code_word (m := ⟨12, 2⟩) (meth := k12m2) (c := k12c2) (by decide +kernel) rfl rfl rfl (by decide +kernel)
set_option maxRecDepth 65536 in
theorem w_c18 : (Jvm.Cond.code ({ cls := "java/util/Objects", name := "requireNonNull", desc := "(Ljava/lang/Object;)Ljava/lang/Object;" } : Jvm.MethodName) jdk_31_method_10_code (1 : Nat) (Option.some (Jvm.ClassFile.FieldType.object "java/lang/Object"))).before args0 about1 = true := code_word (m := ⟨14, 1⟩) (meth := k14m1) (c := k14c1) (by decide +kernel) rfl rfl rfl (by decide +kernel)
set_option maxRecDepth 65536 in
theorem w_c19 : (Jvm.Cond.code ({ cls := "java/util/Optional", name := "<init>", desc := "(Ljava/lang/Object;)V" } : Jvm.MethodName) jdk_32_method_2_code (2 : Nat) (Option.none : Option Jvm.ClassFile.FieldType)).before args0 about1 = true := code_word (m := ⟨12, 1⟩) (meth := k12m1) (c := k12c1) (by decide +kernel) rfl rfl rfl (by decide +kernel)
set_option maxRecDepth 65536 in
theorem w_c20 : (Jvm.Cond.code ({ cls := "java/util/Optional", name := "get", desc := "()Ljava/lang/Object;" } : Jvm.MethodName) jdk_32_method_5_code (1 : Nat) (Option.some (Jvm.ClassFile.FieldType.object "java/lang/Object"))).before args0 about1 = true := code_word (m := ⟨12, 3⟩) (meth := k12m3) (c := k12c3) (by decide +kernel) rfl rfl rfl (by decide +kernel)
def codes1 : List Jvm.Cond := [Jvm.Cond.code x code maxLocals ret, Jvm.Cond.code ({ cls := "java/lang/String", name := "<init>", desc := "([C)V" } : Jvm.MethodName) jdk_42_method_3_code (2 : Nat) (Option.none : Option Jvm.ClassFile.FieldType), Jvm.Cond.code ({ cls := "java/lang/String", name := "<init>", desc := "([CIILjava/lang/Void;)V" } : Jvm.MethodName) jdk_42_method_149_code (6 : Nat) (Option.none : Option Jvm.ClassFile.FieldType), Jvm.Cond.code ({ cls := "java/lang/Object", name := "<init>", desc := "()V" } : Jvm.MethodName) object_method_1_code (1 : Nat) (Option.none : Option Jvm.ClassFile.FieldType), Jvm.Cond.code ({ cls := "java/lang/StringUTF16", name := "compress", desc := "([CII)[B" } : Jvm.MethodName) jdk_52_method_16_code (6 : Nat) (Option.some (Jvm.ClassFile.FieldType.array Jvm.ClassFile.FieldType.byte)), Jvm.Cond.code ({ cls := "java/lang/StringUTF16", name := "compress", desc := "([CI[BII)I" } : Jvm.MethodName) jdk_52_method_21_code (7 : Nat) (Option.some Jvm.ClassFile.FieldType.int), Jvm.Cond.code ({ cls := "java/lang/StringUTF16", name := "coderFromArrayLen", desc := "([BI)B" } : Jvm.MethodName) jdk_52_method_15_code (2 : Nat) (Option.some Jvm.ClassFile.FieldType.byte), Jvm.Cond.code ({ cls := "java/lang/String", name := "equals", desc := "(Ljava/lang/Object;)Z" } : Jvm.MethodName) jdk_42_method_66_code (3 : Nat) (Option.some Jvm.ClassFile.FieldType.boolean), Jvm.Cond.code ({ cls := "java/lang/StringLatin1", name := "equals", desc := "([B[B)Z" } : Jvm.MethodName) jdk_43_method_13_code (3 : Nat) (Option.some Jvm.ClassFile.FieldType.boolean), Jvm.Cond.code ({ cls := "com/example/synctoken/synctoken/lock/WriteLock$Scope", name := "named", desc := "(Ljava/lang/String;)Ljava/util/Optional;" } : Jvm.MethodName) prog_12_method_4_code (6 : Nat) (Option.some (Jvm.ClassFile.FieldType.object "java/util/Optional")), Jvm.Cond.code ({ cls := "java/util/Optional", name := "empty", desc := "()Ljava/util/Optional;" } : Jvm.MethodName) jdk_32_method_1_code (1 : Nat) (Option.some (Jvm.ClassFile.FieldType.object "java/util/Optional")), Jvm.Cond.code ({ cls := "com/example/synctoken/synctoken/lock/WriteLock$Scope", name := "values", desc := "()[Lcom/example/synctoken/synctoken/lock/WriteLock$Scope;" } : Jvm.MethodName) prog_12_method_1_code (0 : Nat) (Option.some (Jvm.ClassFile.FieldType.array (Jvm.ClassFile.FieldType.object "com/example/synctoken/synctoken/lock/WriteLock$Scope"))), Jvm.Cond.code ({ cls := "java/util/Optional", name := "isPresent", desc := "()Z" } : Jvm.MethodName) jdk_32_method_6_code (1 : Nat) (Option.some Jvm.ClassFile.FieldType.boolean), Jvm.Cond.code ({ cls := "java/lang/String", name := "valueOf", desc := "(C)Ljava/lang/String;" } : Jvm.MethodName) jdk_42_method_139_code (1 : Nat) (Option.some (Jvm.ClassFile.FieldType.object "java/lang/String")), Jvm.Cond.code ({ cls := "java/lang/StringLatin1", name := "canEncode", desc := "(C)Z" } : Jvm.MethodName) jdk_43_method_3_code (1 : Nat) (Option.some Jvm.ClassFile.FieldType.boolean), Jvm.Cond.code ({ cls := "java/lang/StringLatin1", name := "toBytes", desc := "(C)[B" } : Jvm.MethodName) jdk_43_method_46_code (1 : Nat) (Option.some (Jvm.ClassFile.FieldType.array Jvm.ClassFile.FieldType.byte)), Jvm.Cond.code ({ cls := "java/lang/String", name := "<init>", desc := "([BB)V" } : Jvm.MethodName) jdk_42_method_151_code (3 : Nat) (Option.none : Option Jvm.ClassFile.FieldType), Jvm.Cond.code ({ cls := "java/util/Optional", name := "of", desc := "(Ljava/lang/Object;)Ljava/util/Optional;" } : Jvm.MethodName) jdk_32_method_3_code (1 : Nat) (Option.some (Jvm.ClassFile.FieldType.object "java/util/Optional")), Jvm.Cond.code ({ cls := "java/util/Objects", name := "requireNonNull", desc := "(Ljava/lang/Object;)Ljava/lang/Object;" } : Jvm.MethodName) jdk_31_method_10_code (1 : Nat) (Option.some (Jvm.ClassFile.FieldType.object "java/lang/Object")), Jvm.Cond.code ({ cls := "java/util/Optional", name := "<init>", desc := "(Ljava/lang/Object;)V" } : Jvm.MethodName) jdk_32_method_2_code (2 : Nat) (Option.none : Option Jvm.ClassFile.FieldType), Jvm.Cond.code ({ cls := "java/util/Optional", name := "get", desc := "()Ljava/lang/Object;" } : Jvm.MethodName) jdk_32_method_5_code (1 : Nat) (Option.some (Jvm.ClassFile.FieldType.object "java/lang/Object"))]
set_option maxRecDepth 65536 in
theorem codes_eq : words1.filter isCode = codes1 := rfl
theorem w_codes : ∀ c ∈ words1.filter isCode, c.before args0 about1 = true := by
  rw [codes_eq]
  intro c hc
  simp only [codes1, List.mem_cons, List.not_mem_nil, or_false] at hc
  rcases hc with rfl | rfl | rfl | rfl | rfl | rfl | rfl | rfl | rfl | rfl | rfl | rfl | rfl | rfl | rfl | rfl | rfl | rfl | rfl | rfl | rfl
  · exact w_c0
  · exact w_c1
  · exact w_c2
  · exact w_c3
  · exact w_c4
  · exact w_c5
  · exact w_c6
  · exact w_c7
  · exact w_c8
  · exact w_c9
  · exact w_c10
  · exact w_c11
  · exact w_c12
  · exact w_c13
  · exact w_c14
  · exact w_c15
  · exact w_c16
  · exact w_c17
  · exact w_c18
  · exact w_c19
  · exact w_c20
set_option maxRecDepth 65536 in
theorem w_t1 : (words1.take 24).all (fun c => isCode c || c.before args0 about1) = true := by decide +kernel
set_option maxRecDepth 65536 in
theorem w_t2 : ((words1.drop 24).take 24).all (fun c => isCode c || c.before args0 about1) = true := by decide +kernel
set_option maxRecDepth 65536 in
theorem w_t3 : (((words1.drop 24).drop 24).take 24).all (fun c => isCode c || c.before args0 about1) = true := by decide +kernel
set_option maxRecDepth 65536 in
theorem w_t4 : ((((words1.drop 24).drop 24).drop 24).take 24).all (fun c => isCode c || c.before args0 about1) = true := by decide +kernel
set_option maxRecDepth 65536 in
theorem w_t5 : ((((words1.drop 24).drop 24).drop 24).drop 24).all (fun c => isCode c || c.before args0 about1) = true := by decide +kernel
theorem w_tables : (allAtoms (Jvm.Cond.code x code maxLocals ret :: tables_1)).before args0 about1 = true := by
  rw [allAtoms_all]
  show words1.all (fun c => c.before args0 about1) = true
  refine all_split ?_ w_codes
  rw [← List.take_append_drop 24 words1, List.all_append, w_t1, ← List.take_append_drop 24 (words1.drop 24), List.all_append, w_t2, ← List.take_append_drop 24 ((words1.drop 24).drop 24), List.all_append, w_t3, ← List.take_append_drop 24 (((words1.drop 24).drop 24).drop 24), List.all_append, w_t4, w_t5]
  rfl
set_option maxRecDepth 65536 in
theorem w_rest : rest_1_c.before args0 about1 = true := by decide +kernel
set_option maxRecDepth 65536 in
theorem w_case : (Jvm.Cond.and given_1 narrow_1).before args0 about1 = true := by decide +kernel
set_option maxRecDepth 65536 in
theorem w_consts : constsHeld consts_1 about1 := Jvm.Lit.constsHeldB_iff.mp (by decide +kernel)
theorem w_applies : (headSpec (Jvm.Cond.code x code maxLocals ret :: tables_1) room_1).applies x e0.platform about1 = true :=
  (Spec.applies_iff w_frames).mpr ⟨w_running, w_runnable, w_alone, w_named, w_hears, w_ripe, w_room, w_tables⟩
theorem atStart : AtStart classFile x code maxLocals ret World_1 tables_1 room_1 Calls_1 rest_1 Pre_1 launch0 p0 e0 about1 theMethod args0 below0 :=
  ⟨lists_1, trivial, launch0.admits_env _ _ _, launch0.least_env, fairChoices_fair.cas, fairChoices_fair.clock, w_frames, w_args, w_heap, w_applies, ⟨w_consts, trivial⟩, w_rest, w_case⟩
end start1
theorem witness_1 : WitnessClaimed_1 := ⟨start1.p0, start1.e0, start1.about1, start1.theMethod, start1.args0, start1.below0, start1.atStart⟩
end Jvm.Pilot.@@N@@
