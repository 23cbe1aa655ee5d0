import JvmDerived
import JvmDerived.Pilot.@@N@@Statement
import JvmDerived.Pilot.@@N@@Code
set_option linter.unusedVariables false
set_option linter.unusedSimpArgs false
/- laws to paste: Road.backV (cut by pick.py; bodies as the Statement names them) -/
namespace Jvm.Pilot.@@N@@
namespace StrChars
open Jvm Sem ClassFile Op Lib Jvm.Stand Jvm.Free.XT Jvm.Free.ALB Jvm.Free.JM Jvm.Free
open Jvm.Lib.Cold (StaticIs)
/-- a char array whose places are chars -/
def Ch (a : Addr) (A : Cell) (U : State) : Prop := Arr .char a A U ∧ Typed .char A
theorem Ch.mv {a : Addr} {A : Cell} {U U' : State} (h : Ch a A U) (hal : U.vm.Alike U'.vm) (hh : U'.heap = U.heap) : Ch a A U' := ⟨h.1.mv hal hh, h.2⟩
theorem Ch.keep {a : Addr} {A : Cell} {U U' : State} (h : Ch a A U) (hal : U.vm.Alike U'.vm) (hk : U'.heap[a]? = some A) : Ch a A U' := ⟨h.1.keep hal hk, h.2⟩
/-- what place i of a char[]'s cell holds -/
def cv (A : Cell) (i : Nat) : Int32 := match A.slots[i]? with | some (.int x) => x | _ => 0
theorem Ch.get {a : Addr} {A : Cell} {U : State} (h : Ch a A U) {i : Nat} (hi : i < A.slots.size) : A.slots[i]? = some (.int (cv A i)) := by
  have e := Array.getElem?_eq_getElem hi
  have f := h.2 i _ e
  unfold cv; rw [e]
  generalize A.slots[i] = v at f
  cases v <;> simp [fits] at f ⊢
/-- the byte that i2b leaves of a char -/
def lo8 (x : Int32) : Int32 := x.toInt8.toInt32
theorem fits_lo8 (y : Int32) : fits .byte (.int (lo8 y)) = true := by
  have h1 := y.toInt8.le_toInt
  have h2 := y.toInt8.toInt_lt
  simp only [lo8, fits, Bool.and_eq_true, decide_eq_true_eq, Int32.le_iff_toInt_le, Int8.toInt_toInt32, show (-128 : Int32).toInt = -128 from by decide, show (127 : Int32).toInt = 127 from by decide]
  omega
/-- A' is A but that each place j of lo .. hi - 1 holds f j -/
def Laid (A A' : Cell) (lo hi : Nat) (f : Nat → Value) : Prop := A'.cls = A.cls ∧ A'.vm = A.vm ∧ A'.slots.size = A.slots.size ∧ ∀ i, A'.slots[i]? = if lo ≤ i ∧ i < hi then some (f i) else A.slots[i]?
theorem Laid.zero (A : Cell) (lo : Nat) (f : Nat → Value) : Laid A A lo (lo + 0) f := ⟨rfl, rfl, rfl, fun i => by rw [if_neg (by omega)]⟩
theorem Laid.step {A Ak : Cell} {lo k : Nat} {f : Nat → Value} {v : Value} (h : Laid A Ak lo k f) (hlo : lo ≤ k) (hk : k < Ak.slots.size) (hv : v = f k) : Laid A (Ak.setSlot k v) lo (k + 1) f := by
  refine ⟨h.1, h.2.1, by simpa [Cell.setSlot] using h.2.2.1, fun i => ?_⟩
  by_cases e : k = i
  · subst e; rw [Cell.slots_setSlot_self v hk, if_pos (by omega), hv]
  · rw [Cell.slots_setSlot_ne v e, h.2.2.2 i]
    by_cases q : lo ≤ i ∧ i < k
    · rw [if_pos q, if_pos (by omega)]
    · rw [if_neg q, if_neg (by omega)]
def U16 : String := "java/lang/StringUTF16"
namespace Cmp5
def yN : MethodName := ⟨"java/lang/StringUTF16", "compress", "([CI[BII)I"⟩
abbrev yB : ByteArray := jdk_52_method_21_code
theorem d0 : decode yB 0 = .ok (.iconst 0, 1) := by decide +kernel
theorem d1 : decode yB 1 = .ok (.istore 5, 2) := by decide +kernel
theorem d3 : decode yB 3 = .ok (.iload 5, 2) := by decide +kernel
theorem d5 : decode yB 5 = .ok (.iload 4, 2) := by decide +kernel
theorem d7 : decode yB 7 = .ok (.if_icmp (.ge) 37, 3) := by decide +kernel
theorem d10 : decode yB 10 = .ok (.aload_n 0, 1) := by decide +kernel
theorem d11 : decode yB 11 = .ok (.iload_n 1, 1) := by decide +kernel
theorem d12 : decode yB 12 = .ok (.caload, 1) := by decide +kernel
theorem d13 : decode yB 13 = .ok (.istore 6, 2) := by decide +kernel
theorem d15 : decode yB 15 = .ok (.iload 6, 2) := by decide +kernel
theorem d17 : decode yB 17 = .ok (.sipush 255, 3) := by decide +kernel
theorem d20 : decode yB 20 = .ok (.if_icmp (.le) 6, 3) := by decide +kernel
theorem d26 : decode yB 26 = .ok (.aload_n 2, 1) := by decide +kernel
theorem d27 : decode yB 27 = .ok (.iload_n 3, 1) := by decide +kernel
theorem d28 : decode yB 28 = .ok (.iload 6, 2) := by decide +kernel
theorem d30 : decode yB 30 = .ok (.i2b, 1) := by decide +kernel
theorem d31 : decode yB 31 = .ok (.bastore, 1) := by decide +kernel
theorem d32 : decode yB 32 = .ok (.iinc 1 1, 3) := by decide +kernel
theorem d35 : decode yB 35 = .ok (.iinc 3 1, 3) := by decide +kernel
theorem d38 : decode yB 38 = .ok (.iinc 5 1, 3) := by decide +kernel
theorem d41 : decode yB 41 = .ok (.goto (-38), 3) := by decide +kernel
theorem d44 : decode yB 44 = .ok (.iload 4, 2) := by decide +kernel
theorem d46 : decode yB 46 = .ok (.ireturn, 1) := by decide +kernel
def site : List Cond := []
def tab : Cond := tabOf yN yB 7 (some .int) site
def P (b : Addr) (A : Cell) (d : Addr) (B : Cell) (o q len : Nat) (args : Array Value) (s : State) : Prop := args = #[.ref b, .int (Int32.ofNat o), .ref d, .int (Int32.ofNat q), .int (Int32.ofNat len)] ∧ Ch b A s ∧ Arr .byte d B s ∧ b ≠ d ∧ o + len ≤ A.slots.size ∧ q + len ≤ B.slots.size ∧ ∀ i, i < len → ¬ 255 < cv A (o + i)
def E (b : Addr) (A : Cell) (d : Addr) (B : Cell) (o q len : Nat) (r : Option Value) (s u : State) : Prop := r = some (.int (Int32.ofNat len)) ∧ ∃ B', Put d B' s u ∧ Laid B B' q (q + len) (fun j => Value.int (lo8 (cv A (o + (j - q)))))
/-- no char of the range above 255: len; the places written hold each char's low byte -/
theorem law (l : Launch) (b : Addr) (A : Cell) (d : Addr) (B : Cell) (o q len : Nat) : Law l yN 5 5 0 0 yB 7 (some .int) site (P b A d B o q len) (E b A d B o q len) (copyLocs d q len) 0 0 := by
  refine Law.of_walk (plainFor_of_name (by decide +kernel)) (by decide +kernel) (by decide +kernel) (by decide) (fun _ _ h => by rw [h.1]; rfl) (fun _ U U' hal hh h => ⟨h.1, h.2.1.mv hal hh, h.2.2.1.mv hal hh, h.2.2.2⟩) (fun r U U' V V' h1 hal h2 h => ⟨h.1, h.2.elim fun B' q => ⟨B', q.1.mv h1 h2, q.2⟩⟩) ?_
  intro p e s m args below meth c s₁ X0 hexec hbytes hml hret hlk hnm hown hh0 W hP
  obtain ⟨rfl, hA, hB, hne, l1, l2, hp⟩ := hP
  have c1 : Steps p.tables e below (s₁.setTop (entryFrame m #[.ref b, .int (Int32.ofNat o), .ref d, .int (Int32.ofNat q), .int (Int32.ofNat len)] 7)) (s₁.setTop (mkF m 0 #[.val (.ref b), .val (.int (Int32.ofNat o)), .val (.ref d), .val (.int (Int32.ofNat q)), .val (.int (Int32.ofNat len)), .unset, .unset] [])) := entry rfl
  have hA0 := hA.1.mv X0.warmed.alike hh0
  have hB0 := hB.mv X0.warmed.alike hh0
  have a31 := hA.1.2.2.2
  have c2 : Steps p.tables e below (s₁.setTop (entryFrame m #[.ref b, .int (Int32.ofNat o), .ref d, .int (Int32.ofNat q), .int (Int32.ofNat len)] 7)) (s₁.setTop (mkF m 3 #[.val (.ref b), .val (.int (Int32.ofNat o)), .val (.ref d), .val (.int (Int32.ofNat q)), .val (.int (Int32.ofNat len)), .val (.int 0), .unset] [])) := c1.trans (by
    refine iconstV X0.here hexec rfl 0 (hb hbytes d0) (by decide) ?_
    refine XS.istore X0.here hexec rfl (hb hbytes d1) rfl rfl ?_
    exact Steps.refl _)
  have loop : ∀ (r i : Nat), i + r = len → ∀ (z : Slot), (z = .unset ∨ ∃ w, z = .val w ∧ w.category = 1) → ∀ (Tl : State) (Bk : Cell), Stand p l e { frames := 0, locals := 0, cells := 0, slots := 0 } s m #[.ref b, .int (Int32.ofNat o), .ref d, .int (Int32.ofNat q), .int (Int32.ofNat len)] below meth c Tl ([] ++ copyLocs d q i) 0 0 → Put d Bk s₁ Tl → Laid B Bk q (q + i) (fun j => Value.int (lo8 (cv A (o + (j - q))))) →
      Steps p.tables e below (s₁.setTop (entryFrame m #[.ref b, .int (Int32.ofNat o), .ref d, .int (Int32.ofNat q), .int (Int32.ofNat len)] 7)) (Tl.setTop (mkF m 3 #[.val (.ref b), .val (.int (Int32.ofNat (o + i))), .val (.ref d), .val (.int (Int32.ofNat (q + i))), .val (.int (Int32.ofNat len)), .val (.int (Int32.ofNat i)), z] [])) → ∃ (T' : State) (B' : Cell) (z' : Slot), Stand p l e { frames := 0, locals := 0, cells := 0, slots := 0 } s m #[.ref b, .int (Int32.ofNat o), .ref d, .int (Int32.ofNat q), .int (Int32.ofNat len)] below meth c T' ([] ++ copyLocs d q len) 0 0 ∧ Put d B' s₁ T' ∧ Laid B B' q (q + len) (fun j => Value.int (lo8 (cv A (o + (j - q))))) ∧
      Steps p.tables e below (s₁.setTop (entryFrame m #[.ref b, .int (Int32.ofNat o), .ref d, .int (Int32.ofNat q), .int (Int32.ofNat len)] 7)) (T'.setTop (mkF m 3 #[.val (.ref b), .val (.int (Int32.ofNat (o + len))), .val (.ref d), .val (.int (Int32.ofNat (q + len))), .val (.int (Int32.ofNat len)), .val (.int (Int32.ofNat len)), z'] [])) := by
    intro r
    induction r with
    | zero =>
      intro i hi z hz Tl Bk Xl pl fl cl
      have hil : i = len := by omega
      rw [hil] at Xl fl cl
      exact ⟨Tl, Bk, z, Xl, pl, fl, cl⟩
    | succ r ih =>
      intro i hi z hz Tl Bk Xl pl fl cl
      have all := X0.warmed.alike.symm.trans Xl.warmed.alike
      have hAl := hA0.keep all (pl.other hne hA0.1)
      have hBk := hB0.like all pl.1 fl.1 fl.2.1 fl.2.2.1
      have hlt : q + i < Bk.slots.size := by rw [fl.2.2.1]; omega
      have c3 : Steps p.tables e below (s₁.setTop (entryFrame m #[.ref b, .int (Int32.ofNat o), .ref d, .int (Int32.ofNat q), .int (Int32.ofNat len)] 7)) (Tl.setTop (mkF m 12 #[.val (.ref b), .val (.int (Int32.ofNat (o + i))), .val (.ref d), .val (.int (Int32.ofNat (q + i))), .val (.int (Int32.ofNat len)), .val (.int (Int32.ofNat i)), z] [.int (Int32.ofNat (o + i)), .ref b])) := cl.trans (by
        refine XS.iload Xl.here hexec rfl (hb hbytes d3) rfl ?_
        refine XS.iload Xl.here hexec rfl (hb hbytes d5) rfl ?_
        refine XS.icmpNo Xl.here hexec rfl (hb hbytes d7) rfl (ii_ge_f (lt32 (by omega) (by omega))) ?_
        refine XS.aloadN Xl.here hexec rfl (hb hbytes d10) rfl rfl ?_
        refine XS.iloadN Xl.here hexec rfl (hb hbytes d11) rfl ?_
        exact Steps.refl _)
      have c4 : Steps p.tables e below (s₁.setTop (entryFrame m #[.ref b, .int (Int32.ofNat o), .ref d, .int (Int32.ofNat q), .int (Int32.ofNat len)] 7)) (Tl.setTop (mkF m 13 #[.val (.ref b), .val (.int (Int32.ofNat (o + i))), .val (.ref d), .val (.int (Int32.ofNat (q + i))), .val (.int (Int32.ofNat len)), .val (.int (Int32.ofNat i)), z] [.int (cv A (o + i))])) := c3.trans (by
        refine Xl.aget hexec hAl rfl (hA.get (i := o + i) (by omega)) rfl rfl (hb hbytes d12) ?_
        exact Steps.refl _)
      have c5 : Steps p.tables e below (s₁.setTop (entryFrame m #[.ref b, .int (Int32.ofNat o), .ref d, .int (Int32.ofNat q), .int (Int32.ofNat len)] 7)) (Tl.setTop (mkF m 15 #[.val (.ref b), .val (.int (Int32.ofNat (o + i))), .val (.ref d), .val (.int (Int32.ofNat (q + i))), .val (.int (Int32.ofNat len)), .val (.int (Int32.ofNat i)), .val (.int (cv A (o + i)))] [])) := c4.trans (by
        refine XS.istoreS Xl.here hexec rfl (hb hbytes d13) rfl rfl hz ?_
        exact Steps.refl _)
      have c6 : Steps p.tables e below (s₁.setTop (entryFrame m #[.ref b, .int (Int32.ofNat o), .ref d, .int (Int32.ofNat q), .int (Int32.ofNat len)] 7)) (Tl.setTop (mkF m 31 #[.val (.ref b), .val (.int (Int32.ofNat (o + i))), .val (.ref d), .val (.int (Int32.ofNat (q + i))), .val (.int (Int32.ofNat len)), .val (.int (Int32.ofNat i)), .val (.int (cv A (o + i)))] [.int (lo8 (cv A (o + i))), .int (Int32.ofNat (q + i)), .ref d])) := c5.trans (by
        refine XS.iload Xl.here hexec rfl (hb hbytes d15) rfl ?_
        refine sipushV Xl.here hexec rfl 255 (hb hbytes d17) (by decide) ?_
        refine XS.icmpYes Xl.here hexec rfl (pc0 := 20) rfl (hb hbytes d20) rfl (ii_le_t (hp i (by omega))) (by decide) rfl ?_
        refine XS.aloadN Xl.here hexec rfl (hb hbytes d26) rfl rfl ?_
        refine XS.iloadN Xl.here hexec rfl (hb hbytes d27) rfl ?_
        refine XS.iload Xl.here hexec rfl (hb hbytes d28) rfl ?_
        refine i2b Xl.here hexec rfl (hb hbytes d30) rfl ?_
        exact Steps.refl _)
      obtain ⟨T7, X7, p7, st7⟩ := Xl.aput hexec hBk rfl hlt rfl (fits_lo8 (cv A (o + i))) (g := (mkF m 31 #[.val (.ref b), .val (.int (Int32.ofNat (o + i))), .val (.ref d), .val (.int (Int32.ofNat (q + i))), .val (.int (Int32.ofNat len)), .val (.int (Int32.ofNat i)), .val (.int (cv A (o + i)))] [.int (lo8 (cv A (o + i))), .int (Int32.ofNat (q + i)), .ref d])) rfl (rest := []) rfl (hb hbytes d31)
      have c8 : Steps p.tables e below (s₁.setTop (entryFrame m #[.ref b, .int (Int32.ofNat o), .ref d, .int (Int32.ofNat q), .int (Int32.ofNat len)] 7)) (T7.setTop (mkF m 32 #[.val (.ref b), .val (.int (Int32.ofNat (o + i))), .val (.ref d), .val (.int (Int32.ofNat (q + i))), .val (.int (Int32.ofNat len)), .val (.int (Int32.ofNat i)), .val (.int (cv A (o + i)))] [])) := c6.trans (st7 _ (Steps.refl _))
      have c9 : Steps p.tables e below (s₁.setTop (entryFrame m #[.ref b, .int (Int32.ofNat o), .ref d, .int (Int32.ofNat q), .int (Int32.ofNat len)] 7)) (T7.setTop (mkF m 3 #[.val (.ref b), .val (.int (Int32.ofNat (o + i) + 1)), .val (.ref d), .val (.int (Int32.ofNat (q + i) + 1)), .val (.int (Int32.ofNat len)), .val (.int (Int32.ofNat i + 1)), .val (.int (cv A (o + i)))] [])) := c8.trans (by
        refine iincV X7.here hexec rfl 1 (hb hbytes d32) (by decide) rfl rfl ?_
        refine iincV X7.here hexec rfl 1 (hb hbytes d35) (by decide) rfl rfl ?_
        refine iincV X7.here hexec rfl 1 (hb hbytes d38) (by decide) rfl rfl ?_
        refine XS.goto X7.here hexec rfl (pc0 := 41) rfl (hb hbytes d41) (by decide) rfl ?_
        exact Steps.refl _)
      have c10 : Steps p.tables e below (s₁.setTop (entryFrame m #[.ref b, .int (Int32.ofNat o), .ref d, .int (Int32.ofNat q), .int (Int32.ofNat len)] 7)) (T7.setTop (mkF m 3 #[.val (.ref b), .val (.int (Int32.ofNat (o + (i + 1)))), .val (.ref d), .val (.int (Int32.ofNat (q + (i + 1)))), .val (.int (Int32.ofNat len)), .val (.int (Int32.ofNat (i + 1))), .val (.int (cv A (o + i)))] [])) := by
        have := c9
        rw [succ32, succ32, succ32] at this
        exact this
      exact ih (i + 1) (by omega) _ (Or.inr ⟨_, rfl, rfl⟩) T7 _ (by rw [copyLocs_step, ← List.append_assoc]; exact X7) (pl.trans p7) (fl.step (by omega) hlt (by simp)) c10
  obtain ⟨T9, B9, z9, X9, p9, f9, g9⟩ := loop len 0 (by omega) .unset (Or.inl rfl) s₁ B (by simpa [copyLocs] using X0) ⟨hB0.1, fun _ _ => rfl, rfl⟩ (Laid.zero _ _ _) c2
  have c11 : Steps p.tables e below (s₁.setTop (entryFrame m #[.ref b, .int (Int32.ofNat o), .ref d, .int (Int32.ofNat q), .int (Int32.ofNat len)] 7)) (T9.setTop (mkF m 46 #[.val (.ref b), .val (.int (Int32.ofNat (o + len))), .val (.ref d), .val (.int (Int32.ofNat (q + len))), .val (.int (Int32.ofNat len)), .val (.int (Int32.ofNat len)), z9] [.int (Int32.ofNat len)])) := g9.trans (by
    refine XS.iload X9.here hexec rfl (hb hbytes d3) rfl ?_
    refine XS.iload X9.here hexec rfl (hb hbytes d5) rfl ?_
    refine XS.icmpYes X9.here hexec rfl (pc0 := 7) rfl (hb hbytes d7) rfl (ii_ge_t (nlt32 (by omega) (Nat.le_refl _))) (by decide) rfl ?_
    refine XS.iload X9.here hexec rfl (hb hbytes d44) rfl ?_
    exact Steps.refl _)
  exact ⟨T9, some (.int (Int32.ofNat len)), _, _, _, X9, by simp, rfl, rfl, (fun h => by cases h), ⟨rfl, B9, p9.from hh0, f9⟩, fun fs hl => c11.trans (X9.ireturnOut hexec hret rfl (Or.inl rfl) (hb hbytes d46) hl)⟩
end Cmp5
namespace Cmp3
def yN : MethodName := ⟨"java/lang/StringUTF16", "compress", "([CII)[B"⟩
abbrev yB : ByteArray := jdk_52_method_16_code
theorem d0 : decode yB 0 = .ok (.iload_n 2, 1) := by decide +kernel
theorem d1 : decode yB 1 = .ok (.newarray .byte, 2) := by decide +kernel
theorem d3 : decode yB 3 = .ok (.astore_n 3, 1) := by decide +kernel
theorem d4 : decode yB 4 = .ok (.aload_n 0, 1) := by decide +kernel
theorem d5 : decode yB 5 = .ok (.iload_n 1, 1) := by decide +kernel
theorem d6 : decode yB 6 = .ok (.aload_n 3, 1) := by decide +kernel
theorem d7 : decode yB 7 = .ok (.iconst 0, 1) := by decide +kernel
theorem d8 : decode yB 8 = .ok (.iload_n 2, 1) := by decide +kernel
theorem d9 : decode yB 9 = .ok (.invokestatic 115, 3) := by decide +kernel
theorem d12 : decode yB 12 = .ok (.istore 4, 2) := by decide +kernel
theorem d14 : decode yB 14 = .ok (.iload 4, 2) := by decide +kernel
theorem d16 : decode yB 16 = .ok (.iload_n 2, 1) := by decide +kernel
theorem d17 : decode yB 17 = .ok (.if_icmp (.eq) 40, 3) := by decide +kernel
theorem d57 : decode yB 57 = .ok (.aload_n 3, 1) := by decide +kernel
theorem d58 : decode yB 58 = .ok (.areturn, 1) := by decide +kernel
def site : List Cond := [.arrayClass .byte, Cmp5.tab] ++ staticW U16 115 Cmp5.yN
def tab : Cond := tabOf yN yB 6 (some (.array .byte)) site
def P (b : Addr) (A : Cell) (o len : Nat) (args : Array Value) (s : State) : Prop := args = #[.ref b, .int (Int32.ofNat o), .int (Int32.ofNat len)] ∧ Ch b A s ∧ o + len ≤ A.slots.size ∧ len ≤ 536870912 ∧ ∀ i, i < len → ¬ 255 < cv A (o + i)
def E (b : Addr) (A : Cell) (o len : Nat) (r : Option Value) (s u : State) : Prop := NewArr .byte "[B" len (fun j => .int (lo8 (cv A (o + j)))) r s u ∧ u.heap.size = s.heap.size + 1
/-- no char of the range above 255: a new byte[] of their low bytes -/
theorem law (l : Launch) (b : Addr) (A : Cell) (o len : Nat) : Law l yN 3 3 1 18 yB 6 (some (.array .byte)) site (P b A o len) (E b A o len) [] 1 len := by
  refine Law.of_walk (plainFor_of_name (by decide +kernel)) (by decide +kernel) (by decide +kernel) (by decide) (fun _ _ h => by rw [h.1]; rfl) (fun _ U U' hal hh h => ⟨h.1, h.2.1.mv hal hh, h.2.2⟩) (fun r U U' V V' h1 hal h2 h => ⟨NewArr.mv r U U' V V' h1 hal h2 h.1, by rw [h1, h2]; exact h.2⟩) ?_
  intro p e s m args below meth c s₁ X0 hexec hbytes hml hret hlk hnm hown hh0 W hP
  obtain ⟨rfl, hA, l1, l2, hp⟩ := hP
  have a31 := hA.1.2.2.2
  have c1 : Steps p.tables e below (s₁.setTop (entryFrame m #[.ref b, .int (Int32.ofNat o), .int (Int32.ofNat len)] 6)) (s₁.setTop (mkF m 0 #[.val (.ref b), .val (.int (Int32.ofNat o)), .val (.int (Int32.ofNat len)), .unset, .unset, .unset] [])) := entry rfl
  have c2 : Steps p.tables e below (s₁.setTop (entryFrame m #[.ref b, .int (Int32.ofNat o), .int (Int32.ofNat len)] 6)) (s₁.setTop (mkF m 1 #[.val (.ref b), .val (.int (Int32.ofNat o)), .val (.int (Int32.ofNat len)), .unset, .unset, .unset] [.int (Int32.ofNat len)])) := c1.trans (by
    refine XS.iloadN X0.here hexec rfl (hb hbytes d0) rfl ?_
    exact Steps.refl _)
  obtain ⟨T3, B3, X3, ba3, bs3, bv3, bh3, bf3, st3⟩ := X0.anew hexec (atype := .byte) (wk W (.arrayClass .byte)) rfl (by show len * 1 ≤ _; omega) (by omega) (g := (mkF m 1 #[.val (.ref b), .val (.int (Int32.ofNat o)), .val (.int (Int32.ofNat len)), .unset, .unset, .unset] [.int (Int32.ofNat len)])) rfl (hb hbytes d1) (rest := []) rfl (Nat.le_refl _) (by show 0 + len ≤ len; omega)
  rw [hh0] at ba3 st3
  have kp3 : XT.Kept s T3 := (XT.Kept.of_eq hh0).push bh3
  have hA3 := hA.keep X3.warmed.alike (kp3 _ _ hA.1.1)
  have hne : b ≠ s.heap.size := hA.1.ne
  have c4 : Steps p.tables e below (s₁.setTop (entryFrame m #[.ref b, .int (Int32.ofNat o), .int (Int32.ofNat len)] 6)) (T3.setTop (mkF m 3 #[.val (.ref b), .val (.int (Int32.ofNat o)), .val (.int (Int32.ofNat len)), .unset, .unset, .unset] [.ref s.heap.size])) := c2.trans (st3 _ (Steps.refl _))
  have c5 : Steps p.tables e below (s₁.setTop (entryFrame m #[.ref b, .int (Int32.ofNat o), .int (Int32.ofNat len)] 6)) (T3.setTop (mkF m 9 #[.val (.ref b), .val (.int (Int32.ofNat o)), .val (.int (Int32.ofNat len)), .val (.ref s.heap.size), .unset, .unset] [.int (Int32.ofNat len), .int 0, .ref s.heap.size, .int (Int32.ofNat o), .ref b])) := c4.trans (by
    refine XS.astoreN X3.here hexec rfl (hb hbytes d3) rfl rfl rfl ?_
    refine XS.aloadN X3.here hexec rfl (hb hbytes d4) rfl rfl ?_
    refine XS.iloadN X3.here hexec rfl (hb hbytes d5) rfl ?_
    refine XS.aloadN X3.here hexec rfl (hb hbytes d6) rfl rfl ?_
    refine iconstV X3.here hexec rfl 0 (hb hbytes d7) (by decide) ?_
    refine XS.iloadN X3.here hexec rfl (hb hbytes d8) rfl ?_
    exact Steps.refl _)
  obtain ⟨v6, T6, X6, E6, g6⟩ := X3.callS hexec (Cmp5.law l b A s.heap.size B3 o 0 len) hown (wks W (staticW U16 115 Cmp5.yN)) (wk W Cmp5.tab) (W := 0) (Nat.le_of_ble_eq_true rfl) (Nat.le_of_ble_eq_true rfl) (Nat.le_refl _) (by show 0 + len + 0 ≤ len; omega) (g := (mkF m 9 #[.val (.ref b), .val (.int (Int32.ofNat o)), .val (.int (Int32.ofNat len)), .val (.ref s.heap.size), .unset, .unset] [.int (Int32.ofNat len), .int (Int32.ofNat 0), .ref s.heap.size, .int (Int32.ofNat o), .ref b])) rfl (by rw [hml]; rfl) c5 (argsL := [.ref b, .int (Int32.ofNat o), .ref s.heap.size, .int (Int32.ofNat 0), .int (Int32.ofNat len)]) (rest := []) rfl rfl (by show 2 * 0 + 0 ≤ _; decide) (hb hbytes d9) (⟨rfl, hA3, ba3, hne, l1, by rw [bs3]; simp, hp⟩)
  obtain ⟨rfl, B6, p6, f6⟩ := E6
  have c7 : Steps p.tables e below (s₁.setTop (entryFrame m #[.ref b, .int (Int32.ofNat o), .int (Int32.ofNat len)] 6)) (T6.setTop (mkF m 12 #[.val (.ref b), .val (.int (Int32.ofNat o)), .val (.int (Int32.ofNat len)), .val (.ref s.heap.size), .unset, .unset] [.int (Int32.ofNat len)])) := g6
  have c8 : Steps p.tables e below (s₁.setTop (entryFrame m #[.ref b, .int (Int32.ofNat o), .int (Int32.ofNat len)] 6)) (T6.setTop (mkF m 58 #[.val (.ref b), .val (.int (Int32.ofNat o)), .val (.int (Int32.ofNat len)), .val (.ref s.heap.size), .val (.int (Int32.ofNat len)), .unset] [.ref s.heap.size])) := c7.trans (by
    refine XS.istore X6.here hexec rfl (hb hbytes d12) rfl rfl ?_
    refine XS.iload X6.here hexec rfl (hb hbytes d14) rfl ?_
    refine XS.iloadN X6.here hexec rfl (hb hbytes d16) rfl ?_
    refine XS.icmpYes X6.here hexec rfl (pc0 := 17) rfl (hb hbytes d17) rfl (ii_eq_t rfl) (by decide) rfl ?_
    refine XS.aloadN X6.here hexec rfl (hb hbytes d57) rfl rfl ?_
    exact Steps.refl _)
  have X8 := X6.wide (L' := []) (cells' := 1) (slots' := len) (fun x hx hlt => by
    simp only [List.nil_append, copyLocs, List.mem_map, List.mem_range] at hx
    obtain ⟨i, -, rfl⟩ := hx
    exact absurd hlt (Nat.lt_irrefl _)) (Nat.le_refl _) (by omega)
  exact ⟨T6, some (.ref s.heap.size), _, _, _, X8, rfl, rfl, rfl, (fun h => by cases h), ⟨⟨rfl, B6, ba3.like (X3.warmed.alike.symm.trans X6.warmed.alike) p6.1 f6.1 f6.2.1 f6.2.2.1, f6.2.1.trans bv3, by rw [X6.warmed.alike.findClass, f6.1]; exact bf3, by rw [f6.2.2.1, bs3]; simp, fun j hj => by rw [f6.2.2.2 j, if_pos (by omega)]; rfl, kp3.put p6 (Nat.le_refl _)⟩, by rw [p6.2.2, bh3, hh0]; simp⟩, fun fs hl => c8.trans (X8.areturnOut hexec rfl hret rfl (hb hbytes d58) hl)⟩
end Cmp3
namespace CodL
def yN : MethodName := ⟨"java/lang/StringUTF16", "coderFromArrayLen", "([BI)B"⟩
abbrev yB : ByteArray := jdk_52_method_15_code
theorem d0 : decode yB 0 = .ok (.iload_n 1, 1) := by decide +kernel
theorem d1 : decode yB 1 = .ok (.aload_n 0, 1) := by decide +kernel
theorem d2 : decode yB 2 = .ok (.arraylength, 1) := by decide +kernel
theorem d3 : decode yB 3 = .ok (.isub, 1) := by decide +kernel
theorem d4 : decode yB 4 = .ok (.bipush 31, 2) := by decide +kernel
theorem d6 : decode yB 6 = .ok (.iushr, 1) := by decide +kernel
theorem d7 : decode yB 7 = .ok (.i2b, 1) := by decide +kernel
theorem d8 : decode yB 8 = .ok (.ireturn, 1) := by decide +kernel
def site : List Cond := []
def tab : Cond := tabOf yN yB 2 (some .byte) site
def P (d : Addr) (B : Cell) (args : Array Value) (s : State) : Prop := args = #[.ref d, .int (Int32.ofNat B.slots.size)] ∧ Arr .byte d B s
def E (r : Option Value) (s u : State) : Prop := XT.PureE (some (.int 0)) r s u
/-- an array as long as the number of chars: LATIN1 -/
theorem law (l : Launch) (d : Addr) (B : Cell) : Law l yN 2 2 0 0 yB 2 (some .byte) site (P d B) E [] 0 0 := by
  refine Law.of_walk (plainFor_of_name (by decide +kernel)) (by decide +kernel) (by decide +kernel) (by decide) (fun _ _ h => by rw [h.1]; rfl) (fun _ U U' hal hh h => ⟨h.1, h.2.mv hal hh⟩) (fun r U U' V V' h1 hal h2 h => XT.PureE.mv r U U' V V' h1 hal h2 h) ?_
  intro p e s m args below meth c s₁ X0 hexec hbytes hml hret hlk hnm hown hh0 W hP
  obtain ⟨rfl, hB⟩ := hP
  have hB0 := hB.mv X0.warmed.alike hh0
  have c1 : Steps p.tables e below (s₁.setTop (entryFrame m #[.ref d, .int (Int32.ofNat B.slots.size)] 2)) (s₁.setTop (mkF m 0 #[.val (.ref d), .val (.int (Int32.ofNat B.slots.size))] [])) := entry rfl
  have c2 : Steps p.tables e below (s₁.setTop (entryFrame m #[.ref d, .int (Int32.ofNat B.slots.size)] 2)) (s₁.setTop (mkF m 2 #[.val (.ref d), .val (.int (Int32.ofNat B.slots.size))] [.ref d, .int (Int32.ofNat B.slots.size)])) := c1.trans (by
    refine XS.iloadN X0.here hexec rfl (hb hbytes d0) rfl ?_
    refine XS.aloadN X0.here hexec rfl (hb hbytes d1) rfl rfl ?_
    exact Steps.refl _)
  have c3 : Steps p.tables e below (s₁.setTop (entryFrame m #[.ref d, .int (Int32.ofNat B.slots.size)] 2)) (s₁.setTop (mkF m 8 #[.val (.ref d), .val (.int (Int32.ofNat B.slots.size))] [.int (lo8 (ushr (Int32.ofNat B.slots.size - Int32.ofNat B.slots.size) 31))])) := c2.trans (by
    refine X0.alen hexec hB0 rfl rfl (hb hbytes d2) ?_
    refine XS.isub X0.here hexec rfl (hb hbytes d3) rfl ?_
    refine bipushV X0.here hexec rfl 31 (hb hbytes d4) (by decide) ?_
    refine iushr X0.here hexec rfl (hb hbytes d6) rfl ?_
    refine i2b X0.here hexec rfl (hb hbytes d7) rfl ?_
    exact Steps.refl _)
  have e0 : lo8 (ushr (Int32.ofNat B.slots.size - Int32.ofNat B.slots.size) 31) = 0 := by rw [Int32.sub_self]; decide
  rw [e0] at c3
  exact ⟨s₁, some (.int 0), _, _, _, X0, rfl, rfl, rfl, (fun h => by cases h), ⟨rfl, hh0⟩, fun fs hl => c3.trans (X0.ireturnOut hexec hret rfl (Or.inr (Or.inr (Or.inl rfl))) (hb hbytes d8) hl)⟩
end CodL
/-- the String at a is Latin-1 over a new byte[] (the heap's one new cell): the low bytes of the len chars of A from o on; every cell but a is kept -/
def Got (a : Addr) (D : Cell) (fV fC : Field) (A : Cell) (o len : Nat) (r : Option Value) (s u : State) : Prop := r = none ∧ ∃ D' V : Cell, Blank "java/lang/String" a D' u ∧ Same D D' [fV.slot, fC.slot] ∧ D'.slots[fV.slot]? = some (.ref s.heap.size) ∧ D'.slots[fC.slot]? = some (.int 0) ∧ Arr .byte s.heap.size V u ∧ V.vm = .none ∧ u.vm.findClass "[B" = some V.cls ∧ V.slots.size = len ∧ (∀ j, j < len → V.slots[j]? = some (.int (lo8 (cv A (o + j))))) ∧ (∀ (y : Addr) (c : Cell), y ≠ a → s.heap[y]? = some c → u.heap[y]? = some c) ∧ u.heap.size = s.heap.size + 1
theorem Got.mv {a : Addr} {D A : Cell} {fV fC : Field} {o len : Nat} : ∀ r (U U' V V' : State), U'.heap = U.heap → V.vm.Alike V'.vm → V'.heap = V.heap → Got a D fV fC A o len r U V → Got a D fV fC A o len r U' V' :=
  fun r U U' V V' h1 hal h2 ⟨e0, D', X, a1, a2, a3, a4, a5, a6, a7, a8, a9, a10, a11⟩ => ⟨e0, D', X, a1.mv hal h2, a2, by rw [h1]; exact a3, a4, by rw [h1]; exact a5.mv hal h2, a6, by rw [hal.findClass]; exact a7, a8, a9, by rw [h1, h2]; exact a10, by rw [h1, h2]; exact a11⟩
namespace New4
def yN : MethodName := ⟨"java/lang/String", "<init>", "([CIILjava/lang/Void;)V"⟩
abbrev yB : ByteArray := jdk_42_method_149_code
theorem d0 : decode yB 0 = .ok (.aload_n 0, 1) := by decide +kernel
theorem d1 : decode yB 1 = .ok (.invokespecial 1, 3) := by decide +kernel
theorem d4 : decode yB 4 = .ok (.iload_n 3, 1) := by decide +kernel
theorem d5 : decode yB 5 = .ok (.ifCond (.ne) 22, 3) := by decide +kernel
theorem d27 : decode yB 27 = .ok (.getstatic 38, 3) := by decide +kernel
theorem d30 : decode yB 30 = .ok (.ifCond (.eq) 28, 3) := by decide +kernel
theorem d33 : decode yB 33 = .ok (.aload_n 1, 1) := by decide +kernel
theorem d34 : decode yB 34 = .ok (.iload_n 2, 1) := by decide +kernel
theorem d35 : decode yB 35 = .ok (.iload_n 3, 1) := by decide +kernel
theorem d36 : decode yB 36 = .ok (.invokestatic 177, 3) := by decide +kernel
theorem d39 : decode yB 39 = .ok (.astore 5, 2) := by decide +kernel
theorem d41 : decode yB 41 = .ok (.aload_n 0, 1) := by decide +kernel
theorem d42 : decode yB 42 = .ok (.aload 5, 2) := by decide +kernel
theorem d44 : decode yB 44 = .ok (.iload_n 3, 1) := by decide +kernel
theorem d45 : decode yB 45 = .ok (.invokestatic 47, 3) := by decide +kernel
theorem d48 : decode yB 48 = .ok (.putfield 15, 3) := by decide +kernel
theorem d51 : decode yB 51 = .ok (.aload_n 0, 1) := by decide +kernel
theorem d52 : decode yB 52 = .ok (.aload 5, 2) := by decide +kernel
theorem d54 : decode yB 54 = .ok (.putfield 9, 3) := by decide +kernel
theorem d57 : decode yB 57 = .ok (.return_, 1) := by decide +kernel
def site : List Cond := [.fieldLink "java/lang/String" 38 "java/lang/String" "COMPACT_STRINGS" "Z", Cmp3.tab, CodL.tab, .laysFinal "java/lang/String" "java/lang/String" "value" "[B", .fieldLink "java/lang/String" 9 "java/lang/String" "value" "[B", .laysFinal "java/lang/String" "java/lang/String" "coder" "B", .fieldLink "java/lang/String" 15 "java/lang/String" "coder" "B"] ++ objW "java/lang/String" 1 ++ staticW "java/lang/String" 177 Cmp3.yN ++ staticW "java/lang/String" 47 CodL.yN
def tab : Cond := tabOf yN yB 6 none site
def P (a : Addr) (D : Cell) (fV fC : Field) (b : Addr) (A : Cell) (z : Int32) (o len : Nat) (args : Array Value) (s : State) : Prop := args = #[.ref a, .ref b, .int (Int32.ofNat o), .int (Int32.ofNat len), .null] ∧ Blank "java/lang/String" a D s ∧ Found "java/lang/String" "value" "[B" fV s ∧ Found "java/lang/String" "coder" "B" fC s ∧ Ch b A s ∧ StaticIs s "java/lang/String" "COMPACT_STRINGS" "Z" (.int z) ∧ ¬ z = 0 ∧ 0 < len ∧ o + len ≤ A.slots.size ∧ len ≤ 536870912 ∧ ∀ i, i < len → ¬ 255 < cv A (o + i)
def E (a : Addr) (D : Cell) (fV fC : Field) (A : Cell) (o len : Nat) (r : Option Value) (s u : State) : Prop := Got a D fV fC A o len r s u
/-- len > 0, no char of the range above 255: a Latin-1 String of their low bytes -/
theorem law (l : Launch) (a : Addr) (D : Cell) (fV fC : Field) (b : Addr) (A : Cell) (z : Int32) (o len : Nat) : Law l yN 5 4 2 35 yB 6 none site (P a D fV fC b A z o len) (E a D fV fC A o len) [⟨a, fC.slot⟩, ⟨a, fV.slot⟩] 1 len := by
  refine Law.of_walk (plainFor_of_name (by decide +kernel)) (by decide +kernel) (by decide +kernel) (by decide) (fun _ _ h => by rw [h.1]; rfl) (fun _ U U' hal hh h => ⟨h.1, h.2.1.mv hal hh, h.2.2.1.al hal, h.2.2.2.1.al hal, h.2.2.2.2.1.mv hal hh, h.2.2.2.2.2.1.there hal hh, h.2.2.2.2.2.2⟩) (fun r U U' V V' h1 hal h2 h => Got.mv r U U' V V' h1 hal h2 h) ?_
  intro p e s m args below meth c s₁ X0 hexec hbytes hml hret hlk hnm hown hh0 W hP
  obtain ⟨rfl, hB, f1, f2, hA, s1, hz, l0, l1, l2, hp⟩ := hP
  have a31 := hA.1.2.2.2
  have c1 : Steps p.tables e below (s₁.setTop (entryFrame m #[.ref a, .ref b, .int (Int32.ofNat o), .int (Int32.ofNat len), .null] 6)) (s₁.setTop (mkF m 0 #[.val (.ref a), .val (.ref b), .val (.int (Int32.ofNat o)), .val (.int (Int32.ofNat len)), .val .null, .unset] [])) := entry rfl
  have c2 : Steps p.tables e below (s₁.setTop (entryFrame m #[.ref a, .ref b, .int (Int32.ofNat o), .int (Int32.ofNat len), .null] 6)) (s₁.setTop (mkF m 1 #[.val (.ref a), .val (.ref b), .val (.int (Int32.ofNat o)), .val (.int (Int32.ofNat len)), .val .null, .unset] [.ref a])) := c1.trans (by
    refine XS.aloadN X0.here hexec rfl (hb hbytes d0) rfl rfl ?_
    exact Steps.refl _)
  obtain ⟨T3, X3, q3, st3⟩ := X0.oinit hexec hown (wks W (objW "java/lang/String" 1)) (g := (mkF m 1 #[.val (.ref a), .val (.ref b), .val (.int (Int32.ofNat o)), .val (.int (Int32.ofNat len)), .val .null, .unset] [.ref a])) rfl (by rw [hml]; rfl) (rest := []) rfl (hb hbytes d1) (W := 0) (by show 2 * 0 + 0 ≤ _; decide) (Nat.le_of_ble_eq_true rfl) (Nat.le_of_ble_eq_true rfl)
  have hh3 := q3.trans hh0
  have c4 : Steps p.tables e below (s₁.setTop (entryFrame m #[.ref a, .ref b, .int (Int32.ofNat o), .int (Int32.ofNat len), .null] 6)) (T3.setTop (mkF m 27 #[.val (.ref a), .val (.ref b), .val (.int (Int32.ofNat o)), .val (.int (Int32.ofNat len)), .val .null, .unset] [])) := (c2.trans (st3 _ (Steps.refl _))).trans (by
    refine XS.iloadN X3.here hexec rfl (hb hbytes d4) rfl ?_
    refine XS.ifYes X3.here hexec rfl (pc0 := 5) rfl (hb hbytes d5) rfl (i0_ne_t (nz32 (by omega) l0)) (by decide) rfl ?_
    exact Steps.refl _)
  obtain ⟨T5, X5, q5, st5⟩ := X3.sget hexec hown (wk W (.fieldLink "java/lang/String" 38 "java/lang/String" "COMPACT_STRINGS" "Z")) s1 (fun _ _ h => by rw [hh3]; exact h) (g := (mkF m 27 #[.val (.ref a), .val (.ref b), .val (.int (Int32.ofNat o)), .val (.int (Int32.ofNat len)), .val .null, .unset] [])) rfl (hb hbytes d27)
  have hh5 := q5.trans hh3
  have c6 : Steps p.tables e below (s₁.setTop (entryFrame m #[.ref a, .ref b, .int (Int32.ofNat o), .int (Int32.ofNat len), .null] 6)) (T5.setTop (mkF m 30 #[.val (.ref a), .val (.ref b), .val (.int (Int32.ofNat o)), .val (.int (Int32.ofNat len)), .val .null, .unset] [.int z])) := c4.trans (st5 _ (Steps.refl _))
  have c7 : Steps p.tables e below (s₁.setTop (entryFrame m #[.ref a, .ref b, .int (Int32.ofNat o), .int (Int32.ofNat len), .null] 6)) (T5.setTop (mkF m 36 #[.val (.ref a), .val (.ref b), .val (.int (Int32.ofNat o)), .val (.int (Int32.ofNat len)), .val .null, .unset] [.int (Int32.ofNat len), .int (Int32.ofNat o), .ref b])) := c6.trans (by
    refine XS.ifNo X5.here hexec rfl (hb hbytes d30) rfl (i0_eq_f hz) ?_
    refine XS.aloadN X5.here hexec rfl (hb hbytes d33) rfl rfl ?_
    refine XS.iloadN X5.here hexec rfl (hb hbytes d34) rfl ?_
    refine XS.iloadN X5.here hexec rfl (hb hbytes d35) rfl ?_
    exact Steps.refl _)
  obtain ⟨v8, T8, X8, E8, g8⟩ := X5.callS hexec (Cmp3.law l b A o len) hown (wks W (staticW "java/lang/String" 177 Cmp3.yN)) (wk W Cmp3.tab) (W := 0) (Nat.le_of_ble_eq_true rfl) (Nat.le_of_ble_eq_true rfl) (Nat.le_refl _) (by show 0 + len ≤ len; omega) (g := (mkF m 36 #[.val (.ref a), .val (.ref b), .val (.int (Int32.ofNat o)), .val (.int (Int32.ofNat len)), .val .null, .unset] [.int (Int32.ofNat len), .int (Int32.ofNat o), .ref b])) rfl (by rw [hml]; rfl) c7 (argsL := [.ref b, .int (Int32.ofNat o), .int (Int32.ofNat len)]) (rest := []) rfl rfl (by show 2 * 0 + 0 ≤ _; decide) (hb hbytes d36) (⟨rfl, hA.mv X5.warmed.alike hh5, l1, l2, hp⟩)
  obtain ⟨e8, z8⟩ := E8
  obtain ⟨rfl, N, n1, n2, n3, n4, n5, n6⟩ := NewArr.mv _ T5 s _ _ hh5.symm (Vm.Alike.refl _) rfl e8
  rw [hh5] at z8
  have hB1 := hB.keep X8.warmed.alike (n6 _ _ hB.1)
  have hne : s.heap.size ≠ a := (Nat.ne_of_lt (Array.getElem?_eq_some_iff.mp hB.1).1).symm
  have c9 : Steps p.tables e below (s₁.setTop (entryFrame m #[.ref a, .ref b, .int (Int32.ofNat o), .int (Int32.ofNat len), .null] 6)) (T8.setTop (mkF m 39 #[.val (.ref a), .val (.ref b), .val (.int (Int32.ofNat o)), .val (.int (Int32.ofNat len)), .val .null, .unset] [.ref s.heap.size])) := g8
  have c10 : Steps p.tables e below (s₁.setTop (entryFrame m #[.ref a, .ref b, .int (Int32.ofNat o), .int (Int32.ofNat len), .null] 6)) (T8.setTop (mkF m 45 #[.val (.ref a), .val (.ref b), .val (.int (Int32.ofNat o)), .val (.int (Int32.ofNat len)), .val .null, .val (.ref s.heap.size)] [.int (Int32.ofNat N.slots.size), .ref s.heap.size, .ref a])) := by
    have hc : Steps p.tables e below (s₁.setTop (entryFrame m #[.ref a, .ref b, .int (Int32.ofNat o), .int (Int32.ofNat len), .null] 6)) (T8.setTop (mkF m 45 #[.val (.ref a), .val (.ref b), .val (.int (Int32.ofNat o)), .val (.int (Int32.ofNat len)), .val .null, .val (.ref s.heap.size)] [.int (Int32.ofNat len), .ref s.heap.size, .ref a])) := c9.trans (by
      refine XS.astore X8.here hexec rfl (hb hbytes d39) rfl rfl rfl ?_
      refine XS.aloadN X8.here hexec rfl (hb hbytes d41) rfl rfl ?_
      refine XS.aload X8.here hexec rfl (hb hbytes d42) rfl rfl ?_
      refine XS.iloadN X8.here hexec rfl (hb hbytes d44) rfl ?_
      exact Steps.refl _)
    rw [n4]; exact hc
  obtain ⟨v11, T11, X11, E11, g11⟩ := X8.callS hexec (CodL.law l s.heap.size N) hown (wks W (staticW "java/lang/String" 47 CodL.yN)) (wk W CodL.tab) (W := 1) (Nat.le_of_ble_eq_true rfl) (Nat.le_of_ble_eq_true rfl) (Nat.le_refl _) (by show 0 + len + 0 ≤ len; omega) (g := (mkF m 45 #[.val (.ref a), .val (.ref b), .val (.int (Int32.ofNat o)), .val (.int (Int32.ofNat len)), .val .null, .val (.ref s.heap.size)] [.int (Int32.ofNat N.slots.size), .ref s.heap.size, .ref a])) rfl (by rw [hml]; rfl) c10 (argsL := [.ref s.heap.size, .int (Int32.ofNat N.slots.size)]) (rest := [.ref a]) rfl rfl (by show 2 * 0 + (1 + 0) ≤ _; decide) (hb hbytes d45) (⟨rfl, n1⟩)
  obtain ⟨rfl, q11⟩ := E11
  have hB11 := hB1.mv (X8.warmed.alike.symm.trans X11.warmed.alike) q11
  have c12 : Steps p.tables e below (s₁.setTop (entryFrame m #[.ref a, .ref b, .int (Int32.ofNat o), .int (Int32.ofNat len), .null] 6)) (T11.setTop (mkF m 48 #[.val (.ref a), .val (.ref b), .val (.int (Int32.ofNat o)), .val (.int (Int32.ofNat len)), .val .null, .val (.ref s.heap.size)] [.int 0, .ref a])) := g11
  obtain ⟨T13, X13, p13, bl13, sl13, st13⟩ := X11.finit hexec hown (wk W (.fieldLink "java/lang/String" 15 "java/lang/String" "coder" "B")) (Or.inr ⟨_, (wk W (.laysFinal "java/lang/String" "java/lang/String" "coder" "B"))⟩) (Or.inl ⟨rfl, hnm⟩) f2 (Or.inl rfl) hB11 (t := .byte) (by decide +kernel) rfl (g := (mkF m 48 #[.val (.ref a), .val (.ref b), .val (.int (Int32.ofNat o)), .val (.int (Int32.ofNat len)), .val .null, .val (.ref s.heap.size)] [.int 0, .ref a])) rfl (rest := []) rfl (hb hbytes d48)
  have c14 : Steps p.tables e below (s₁.setTop (entryFrame m #[.ref a, .ref b, .int (Int32.ofNat o), .int (Int32.ofNat len), .null] 6)) (T13.setTop (mkF m 54 #[.val (.ref a), .val (.ref b), .val (.int (Int32.ofNat o)), .val (.int (Int32.ofNat len)), .val .null, .val (.ref s.heap.size)] [.ref s.heap.size, .ref a])) := (c12.trans (st13 _ (Steps.refl _))).trans (by
    refine XS.aloadN X13.here hexec rfl (hb hbytes d51) rfl rfl ?_
    refine XS.aload X13.here hexec rfl (hb hbytes d52) rfl rfl ?_
    exact Steps.refl _)
  obtain ⟨T15, X15, p15, bl15, sl15, st15⟩ := X13.finit hexec hown (wk W (.fieldLink "java/lang/String" 9 "java/lang/String" "value" "[B")) (Or.inr ⟨_, (wk W (.laysFinal "java/lang/String" "java/lang/String" "value" "[B"))⟩) (Or.inl ⟨rfl, hnm⟩) f1 (Or.inl rfl) bl13 (t := (.array .byte)) (by decide +kernel) rfl (g := (mkF m 54 #[.val (.ref a), .val (.ref b), .val (.int (Int32.ofNat o)), .val (.int (Int32.ofNat len)), .val .null, .val (.ref s.heap.size)] [.ref s.heap.size, .ref a])) rfl (rest := []) rfl (hb hbytes d54)
  have c16 : Steps p.tables e below (s₁.setTop (entryFrame m #[.ref a, .ref b, .int (Int32.ofNat o), .int (Int32.ofNat len), .null] 6)) (T15.setTop (mkF m 57 #[.val (.ref a), .val (.ref b), .val (.int (Int32.ofNat o)), .val (.int (Int32.ofNat len)), .val .null, .val (.ref s.heap.size)] [])) := c14.trans (st15 _ (Steps.refl _))
  have ap := apart (Or.inr ⟨_, (wk W (.laysFinal "java/lang/String" "java/lang/String" "value" "[B"))⟩) (Or.inr ⟨_, (wk W (.laysFinal "java/lang/String" "java/lang/String" "coder" "B"))⟩) f1 f2 (t₁ := .array .byte) (t₂ := .byte) (by decide +kernel) (by decide +kernel) (by decide)
  have al := X8.warmed.alike.symm.trans X15.warmed.alike
  have n7 : T11.heap[s.heap.size]? = some N := by rw [q11]; exact n1.1
  exact ⟨T15, none, _, _, _, X15, by simp, rfl, by omega, (fun _ => rfl), ⟨rfl, _, N, bl15, ((Same.refl D _).set _ (by simp)).set _ (by simp), sl15, (Cell.slots_setSlot_ne _ ap).trans sl13, n1.keep al (p15.other hne (p13.other hne n7)), n2, by rw [al.findClass]; exact n3, n4, n5, fun y c h1 h2 => p15.other h1 (p13.other h1 (by rw [q11]; exact n6 y c h2)), by rw [p15.2.2, p13.2.2, q11]; exact z8⟩, fun fs hl => c16.trans (X15.returnOut hexec hret (hb hbytes d57) hl)⟩
end New4
namespace New1
def yN : MethodName := ⟨"java/lang/String", "<init>", "([C)V"⟩
abbrev yB : ByteArray := jdk_42_method_3_code
theorem d0 : decode yB 0 = .ok (.aload_n 0, 1) := by decide +kernel
theorem d1 : decode yB 1 = .ok (.aload_n 1, 1) := by decide +kernel
theorem d2 : decode yB 2 = .ok (.iconst 0, 1) := by decide +kernel
theorem d3 : decode yB 3 = .ok (.aload_n 1, 1) := by decide +kernel
theorem d4 : decode yB 4 = .ok (.arraylength, 1) := by decide +kernel
theorem d5 : decode yB 5 = .ok (.aconst_null, 1) := by decide +kernel
theorem d6 : decode yB 6 = .ok (.invokespecial 27, 3) := by decide +kernel
theorem d9 : decode yB 9 = .ok (.return_, 1) := by decide +kernel
def site : List Cond := [New4.tab] ++ initW "java/lang/String" 27 New4.yN
def tab : Cond := tabOf yN yB 2 none site
def P (a : Addr) (D : Cell) (fV fC : Field) (b : Addr) (A : Cell) (z : Int32) (args : Array Value) (s : State) : Prop := args = #[.ref a, .ref b] ∧ Blank "java/lang/String" a D s ∧ Found "java/lang/String" "value" "[B" fV s ∧ Found "java/lang/String" "coder" "B" fC s ∧ Ch b A s ∧ StaticIs s "java/lang/String" "COMPACT_STRINGS" "Z" (.int z) ∧ ¬ z = 0 ∧ 0 < A.slots.size ∧ A.slots.size ≤ 536870912 ∧ ∀ i, i < A.slots.size → ¬ 255 < cv A i
def E (a : Addr) (D : Cell) (fV fC : Field) (A : Cell) (r : Option Value) (s u : State) : Prop := Got a D fV fC A 0 A.slots.size r s u
/-- new String(chars), not empty, no char above 255: a Latin-1 String of their low bytes -/
theorem law (l : Launch) (a : Addr) (D : Cell) (fV fC : Field) (b : Addr) (A : Cell) (z : Int32) : Law l yN 2 1 3 52 yB 2 none site (P a D fV fC b A z) (E a D fV fC A) [⟨a, fC.slot⟩, ⟨a, fV.slot⟩] 1 A.slots.size := by
  refine Law.of_walk (plainFor_of_name (by decide +kernel)) (by decide +kernel) (by decide +kernel) (by decide) (fun _ _ h => by rw [h.1]; rfl) (fun _ U U' hal hh h => ⟨h.1, h.2.1.mv hal hh, h.2.2.1.al hal, h.2.2.2.1.al hal, h.2.2.2.2.1.mv hal hh, h.2.2.2.2.2.1.there hal hh, h.2.2.2.2.2.2⟩) (fun r U U' V V' h1 hal h2 h => Got.mv r U U' V V' h1 hal h2 h) ?_
  intro p e s m args below meth c s₁ X0 hexec hbytes hml hret hlk hnm hown hh0 W hP
  obtain ⟨rfl, hB, f1, f2, hA, s1, hz, l0, l2, hp⟩ := hP
  have c1 : Steps p.tables e below (s₁.setTop (entryFrame m #[.ref a, .ref b] 2)) (s₁.setTop (mkF m 0 #[.val (.ref a), .val (.ref b)] [])) := entry rfl
  have c2 : Steps p.tables e below (s₁.setTop (entryFrame m #[.ref a, .ref b] 2)) (s₁.setTop (mkF m 6 #[.val (.ref a), .val (.ref b)] [.null, .int (Int32.ofNat A.slots.size), .int 0, .ref b, .ref a])) := c1.trans (by
    refine XS.aloadN X0.here hexec rfl (hb hbytes d0) rfl rfl ?_
    refine XS.aloadN X0.here hexec rfl (hb hbytes d1) rfl rfl ?_
    refine iconstV X0.here hexec rfl 0 (hb hbytes d2) (by decide) ?_
    refine XS.aloadN X0.here hexec rfl (hb hbytes d3) rfl rfl ?_
    refine X0.alen hexec (hA.1.mv X0.warmed.alike hh0) rfl rfl (hb hbytes d4) ?_
    refine XS.aconstNull X0.here hexec rfl (hb hbytes d5) ?_
    exact Steps.refl _)
  obtain ⟨v3, T3, X3, E3, g3⟩ := X0.callN hexec (New4.law l a D fV fC b A z 0 A.slots.size) rfl hown (wks W (initW "java/lang/String" 27 New4.yN)) (W New4.tab (by simp only [site, List.mem_cons, List.mem_append, true_or, or_true])) (W := 0) (Nat.le_of_ble_eq_true rfl) (Nat.le_of_ble_eq_true rfl) (Nat.le_refl _) (by show 0 + A.slots.size ≤ A.slots.size; omega) (g := (mkF m 6 #[.val (.ref a), .val (.ref b)] [.null, .int (Int32.ofNat A.slots.size), .int (Int32.ofNat 0), .ref b, .ref a])) rfl (by rw [hml]; rfl) c2 (argsL := [.ref b, .int (Int32.ofNat 0), .int (Int32.ofNat A.slots.size), .null]) (rest := []) rfl rfl (by show 2 * 0 + 0 ≤ _; decide) (hb hbytes d6) (⟨rfl, hB.mv X0.warmed.alike hh0, f1.al X0.warmed.alike, f2.al X0.warmed.alike, hA.mv X0.warmed.alike hh0, s1.there X0.warmed.alike hh0, hz, l0, by omega, l2, fun i hi => by rw [Nat.zero_add]; exact hp i hi⟩)
  have e0 := Got.mv _ s₁ s _ _ hh0.symm (Vm.Alike.refl _) rfl E3
  obtain rfl := e0.1
  have c4 : Steps p.tables e below (s₁.setTop (entryFrame m #[.ref a, .ref b] 2)) (T3.setTop (mkF m 9 #[.val (.ref a), .val (.ref b)] [])) := g3
  exact ⟨T3, none, _, _, _, X3, by simp, rfl, by omega, (fun _ => rfl), e0, fun fs hl => c4.trans (X3.returnOut hexec hret (hb hbytes d9) hl)⟩
theorem pays {l : Launch} {R : Room} {p : Program} {e : Env} {below : List Frame} {s : State} {sargs : Array Value} {len W : Nat} (a : Addr) (D : Cell) (fV fC : Field) (b : Addr) (A : Cell) (z : Int32) (htab : tab.before sargs s = true) (hfr : 4 ≤ R.frames) (hlo : W + 65 ≤ R.locals) :
    Back l R p e below s sargs yN len W (fun A₁ a₁ => A₁.cells + 1 ≤ R.cells ∧ A₁.slots + A.slots.size ≤ R.slots ∧ P a D fV fC b A z a₁ A₁.U) (fun A₁ _ v₁ B₁ => E a D fV fC A v₁ A₁.U B₁.U ∧ B₁.locs = A₁.locs ++ [⟨a, fC.slot⟩, ⟨a, fV.slot⟩] ∧ B₁.cells = A₁.cells + 1 ∧ B₁.slots = A₁.slots + A.slots.size) :=
  (law l a D fV fC b A z).pays htab hfr (by omega)
end New1
end StrChars
namespace StrChars.Road
open Jvm Sem ClassFile Op Lib Jvm.Stand Jvm.Free Jvm.Free.XT
open Jvm.Lib.Cold (StaticIs)
abbrev ST : String := "java/lang/String"
/-- every table word that New1's law asks, flat -/
abbrev words : List Jvm.Cond := [.code New1.yN New1.yB 2 none, .initialized ST, .methodLink ST 27 New4.yN, .instanceMethod New4.yN,
  .code New4.yN New4.yB 6 none, .fieldLink ST 38 ST "COMPACT_STRINGS" "Z", .laysFinal ST ST "value" "[B", .fieldLink ST 9 ST "value" "[B", .laysFinal ST ST "coder" "B", .fieldLink ST 15 ST "coder" "B",
  .methodLink ST 1 Lib.objectInit, .instanceMethod Lib.objectInit, .code Lib.objectInit ⟨#[0xb1]⟩ 1 none, .methodLink ST 177 Cmp3.yN, .static Cmp3.yN, .methodLink ST 47 CodL.yN, .static CodL.yN,
  .code Cmp3.yN Cmp3.yB 6 (some (.array .byte)), .initialized U16, .arrayClass .byte, .methodLink U16 115 Cmp5.yN, .static Cmp5.yN, .code Cmp5.yN Cmp5.yB 7 (some .int), .code CodL.yN CodL.yB 2 (some .byte)]
theorem tab_of {a : Array Value} {s : State} (h : ∀ w ∈ words, w.before a s = true) : New1.tab.before a s = true := by
  have h5 : Cmp5.tab.before a s = true := unparts (wk h (.code Cmp5.yN Cmp5.yB 7 (some .int))) (wks h (.initialized Cmp5.yN.cls :: Cmp5.site))
  have hc : CodL.tab.before a s = true := unparts (wk h (.code CodL.yN CodL.yB 2 (some .byte))) (wks h (.initialized CodL.yN.cls :: CodL.site))
  have q5 : ∀ w ∈ Cmp5.tab :: words, w.before a s = true := fun w hw => (List.mem_cons.mp hw).elim (fun e => e ▸ h5) (h w)
  have h3 : Cmp3.tab.before a s = true := unparts (wk q5 (.code Cmp3.yN Cmp3.yB 6 (some (.array .byte)))) (wks q5 (.initialized Cmp3.yN.cls :: Cmp3.site))
  have q3 : ∀ w ∈ Cmp3.tab :: CodL.tab :: words, w.before a s = true := fun w hw => (List.mem_cons.mp hw).elim (fun e => e ▸ h3) fun hw => (List.mem_cons.mp hw).elim (fun e => e ▸ hc) (h w)
  have h4 : New4.tab.before a s = true := unparts (wk q3 (.code New4.yN New4.yB 6 none)) (wks q3 (.initialized New4.yN.cls :: New4.site))
  have q4 : ∀ w ∈ New4.tab :: words, w.before a s = true := fun w hw => (List.mem_cons.mp hw).elim (fun e => e ▸ h4) (h w)
  exact unparts (wk q4 (.code New1.yN New1.yB 2 none)) (wks q4 (.initialized New1.yN.cls :: New1.site))
/-- the words ride from the start Z to the walk's own state -/
theorem moved {Z s : State} {a0 args : Array Value} (hZ : Z.Warmed39 s.vm) (hw : ∀ d ∈ words, d.before a0 Z = true) : ∀ d ∈ words, d.before args s = true := fun d hd => by
  have q := hw d hd
  have t : ∀ d ∈ words, d = .arrayClass .byte ∨ (d.onTables && d.keepsFace) = true := by decide +kernel
  rcases t d hd with rfl | t
  · exact RoadKit.mvA hZ q
  · exact RoadKit.mv hZ q t
/-- WHAT COMES BACK, over the tables of the start Z: h the heap at the call, h' behind it -/
def Q (Z : State) (x : Addr) (A : Cell) (h : Heap) (v : Option Value) (h' : Heap) (L : List Loc) : Prop := v = none ∧ (∀ y ∈ L, y.base = x) ∧ RoadKit.Keep h h' [x] ∧ h'.size = h.size + 1 ∧ RoadKit.Exa Z h' x ST ∧ RoadKit.Fld Z h' x ST "value" "[B" (.ref h.size) ∧ RoadKit.Fld Z h' x ST "coder" "B" (.int 0) ∧
  (∃ V : Cell, RoadKit.Arr Z h' h.size V .byte ∧ V.vm = .none ∧ Z.vm.findClass "[B" = some V.cls ∧ V.slots.size = A.slots.size ∧ ∀ j, j < A.slots.size → V.slots[j]? = some (.int (lo8 (cv A j)))) ∧
  ∀ (O n d : String) (w : Value), RoadKit.Fld Z h x O n d w → RoadKit.slotOf Z O n d ≠ RoadKit.slotOf Z ST "value" "[B" → RoadKit.slotOf Z O n d ≠ RoadKit.slotOf Z ST "coder" "B" → RoadKit.Fld Z h' x O n d w
/-- **new String(chars) AT A CALL, IN THE ROAD'S FORM**: for specialBack behind newO: x the fresh String, b the char[] with the cell A -/
theorem back {p : Program} {l : Launch} {e : Env} {R : Room} {s : State} {args : Array Value} {below : List Frame} {len W : Nat} {Z : State} {a0 : Array Value} {h : Heap} (hZ : Z.Warmed39 s.vm) (hw : ∀ d ∈ words, d.before a0 Z = true) {kI : Nat} (wi : (Jvm.Cond.instantiable ST kI).before a0 Z = true)
    {x b : Addr} {A : Cell} {z : Int32} {v0 c0 : Value} (E : RoadKit.Exa Z h x ST) (V : RoadKit.Fld Z h x ST "value" "[B" v0) (C : RoadKit.Fld Z h x ST "coder" "B" c0) (K : RoadKit.Arr Z h b A .char) (hty : Typed .char A) (S : RoadKit.Sta Z h ST "COMPACT_STRINGS" "Z" (.int z)) (hz : ¬ z = 0)
    (l0 : 0 < A.slots.size) (l2 : A.slots.size ≤ 536870912) (hp : ∀ i, i < A.slots.size → ¬ 255 < cv A i) (hfr : 4 ≤ R.frames) (hlo : W + 65 ≤ R.locals) :
    Back l R p e below s args New1.yN len W (fun P a => a = #[.ref x, .ref b] ∧ P.U.heap = h ∧ P.cells + 1 ≤ R.cells ∧ P.slots + A.slots.size ≤ R.slots)
      (fun P _ v B => ∃ L, Q Z x A h v B.U.heap L ∧ B.locs = P.locs ++ L ∧ B.cells = P.cells + 1 ∧ B.slots = P.slots + A.slots.size) := by
  intro m meth c P g ig mk a X hg hsize hdg hW hn hp'
  obtain ⟨rfl, rfl, r1, r2⟩ := hp'
  have al : Z.vm.Alike P.U.vm := hZ.alike.trans X.warmed.alike
  obtain ⟨D, cfV, kV, iV, fV, hD, gV, stV, knV, obV, asV, slV⟩ := id V
  obtain ⟨D', cfC, kC, iC, fC, hD', gC, stC, -, -, asC, slC⟩ := id C
  cases hD.symm.trans hD'
  obtain ⟨D2, kD, e1, e2, e3, e4, e5⟩ := id E
  cases hD.symm.trans e1
  obtain ⟨c2, k2, i1, i2, i3, -⟩ := Cond.instantiable_spec wi
  cases e2.symm.trans i1
  cases e3.symm.trans i2
  obtain ⟨kU, u1, u2⟩ := al.2.2 _ _ e3
  have hB : Blank ST x D P.U := ⟨hD, ⟨knV, fun q hq => by rw [hq] at obV; cases obV⟩, by rw [al.findClass]; exact e2, kU, u1, by rw [u2]; exact i3, by rw [u2]; exact e5 i3⟩
  have F1 : Found ST "value" "[B" fV P.U := ⟨SBG.found_only al ⟨cfV, kV, iV, gV⟩, stV⟩
  have F2 : Found ST "coder" "B" fC P.U := ⟨SBG.found_only al ⟨cfC, kC, iC, gC⟩, stC⟩
  have hA : Ch b A P.U := ⟨⟨K.1, State.isArrayOf_alike al K.2.1, K.2.2, by omega⟩, hty⟩
  have hS : StaticIs P.U ST "COMPACT_STRINGS" "Z" (.int z) := by
    obtain ⟨cfS, iS, kS, fS, st, cS, t1, t2, t3, t4, t5, t6, t7⟩ := S
    exact StaticIs.there (s := { Z with heap := P.U.heap }) ⟨cfS, iS, kS, fS, st, cS, t1, t2, t3, t4, t5, (fun q => by rw [q] at t6; cases t6), t7⟩ al rfl
  obtain ⟨v, B, X', ⟨⟨hv, E', V', q1, q2, q3, q4, q5, q6, q7, q8, q9, q10, q11⟩, hl, hc, hs⟩, st⟩ := New1.pays x D fV fC b A z (tab_of (moved hZ hw)) hfr hlo m meth c P g ig mk _ X hg hsize hdg hW hn ⟨r1, r2, rfl, hB, F1, F2, hA, hS, hz, l0, l2, hp⟩
  have al' : Z.vm.Alike B.U.vm := hZ.alike.trans X'.warmed.alike
  have hsz : E'.slots.size = D.slots.size := by
    obtain ⟨-, -, -, kB, w1, w2, w3⟩ := q1
    obtain ⟨kB', y1, y2⟩ := al'.2.2 _ _ e3
    rw [q2.2.1] at w1
    cases w1.symm.trans y1
    rw [w3, e5 i3, y2]
  refine ⟨v, B, X', ⟨_, ⟨hv, ?_, ⟨by omega, fun y cy hy hn' => q10 y cy (by simpa using hn') hy, fun y cy hy => ?_⟩, q11, ⟨E', _, q1.1, by rw [q2.2.1]; exact e2, by rw [q2.2.1]; exact e3, by rw [q2.1]; exact obV, fun _ => by rw [hsz]; exact e5 i3⟩,
    ⟨E', cfV, kV, iV, fV, q1.1, gV, stV, by rw [q2.1]; exact knV, by rw [q2.1]; exact obV, by rw [q2.2.1]; exact asV, q3⟩, ⟨E', cfC, kC, iC, fC, q1.1, gC, stC, by rw [q2.1]; exact knV, by rw [q2.1]; exact obV, by rw [q2.2.1]; exact asC, q4⟩,
    ⟨V', ⟨q5.1, State.isArrayOf_alike al'.symm q5.2.1, q5.2.2.1⟩, q6, by rw [← al'.findClass]; exact q7, q8, fun j hj => by have := q9 j hj; rwa [Nat.zero_add] at this⟩, fun O n d w F n1 n2 => ?_⟩, hl, hc, hs⟩, st⟩
  · intro y hy
    simp only [List.mem_cons, List.not_mem_nil, or_false] at hy
    rcases hy with rfl | rfl <;> rfl
  · by_cases q : y = x
    · subst q
      cases hD.symm.trans hy
      exact ⟨E', q1.1, q2.2.1, q2.1, hsz⟩
    · exact ⟨cy, q10 y cy q hy, rfl, rfl, rfl⟩
  · obtain ⟨D3, cf, k, i, f, g1, g2, g3, g4, g5, g6, g7⟩ := F
    cases hD.symm.trans g1
    simp only [RoadKit.slotOf, g2, gV, gC, Option.map_some, Option.getD_some] at n1 n2
    exact ⟨E', cf, k, i, f, q1.1, g2, g3, by rw [q2.1]; exact g4, by rw [q2.1]; exact g5, by rw [q2.2.1]; exact g6, by rw [q2.2.2 f.slot (by simp [n1, n2])]; exact g7⟩
end StrChars.Road
namespace StrChars.Road
open Jvm Sem ClassFile Op Lib Jvm.Stand Jvm.Free Jvm.Free.XT
/-- WHAT COMES BACK, the byte[] as a list of values -/
def QA (Z : State) (x : Addr) (zn : Int32) (cs : List Int32) (h : Heap) (v : Option Value) (h' : Heap) (L : List Loc) : Prop := v = none ∧ (∀ y ∈ L, y.base = x) ∧ RoadKit.Keep h h' [x] ∧ h'.size = h.size + 1 ∧ RoadKit.Exa Z h' x ST ∧ RoadKit.Fld Z h' x ST "value" "[B" (.ref h.size) ∧ RoadKit.Fld Z h' x ST "coder" "B" (.int 0) ∧
  (∃ kb, Z.vm.findClass "[B" = some kb ∧ RoadKit.Arv Z h' h.size kb .byte zn (cs.map fun c => .int (lo8 c)) (.int 0)) ∧
  ∀ (O n d : String) (w : Value), RoadKit.Fld Z h x O n d w → RoadKit.slotOf Z O n d ≠ RoadKit.slotOf Z ST "value" "[B" → RoadKit.slotOf Z O n d ≠ RoadKit.slotOf Z ST "coder" "B" → RoadKit.Fld Z h' x O n d w
/-- **new String(chars) AT A CALL, THE ARRAYS AS LISTS**: the char[] at b holds cs, not empty, no char above 255 -/
theorem backArv {p : Program} {l : Launch} {e : Env} {R : Room} {s : State} {args : Array Value} {below : List Frame} {len W : Nat} {Z : State} {a0 : Array Value} {h : Heap} (hZ : Z.Warmed39 s.vm) (hw : ∀ d ∈ words, d.before a0 Z = true) {kI : Nat} (wi : (Jvm.Cond.instantiable ST kI).before a0 Z = true)
    {x b : Addr} {k : ClassId} {zn z : Int32} {cs : List Int32} {dv v0 c0 : Value} (E : RoadKit.Exa Z h x ST) (V : RoadKit.Fld Z h x ST "value" "[B" v0) (C : RoadKit.Fld Z h x ST "coder" "B" c0) (K : RoadKit.Arv Z h b k .char zn (cs.map Value.int) dv) (S : RoadKit.Sta Z h ST "COMPACT_STRINGS" "Z" (.int z)) (hz : ¬ z = 0)
    (hlen : zn.toNatClampNeg = cs.length) (h0 : 0 < cs.length) (hbig : cs.length ≤ 536870912) (hall : ∀ c ∈ cs, ¬ 255 < c) (hfr : 4 ≤ R.frames) (hlo : W + 65 ≤ R.locals) :
    Back l R p e below s args New1.yN len W (fun P a => a = #[.ref x, .ref b] ∧ P.U.heap = h ∧ P.cells + 1 ≤ R.cells ∧ P.slots + cs.length ≤ R.slots)
      (fun P _ v B => ∃ L, QA Z x zn cs h v B.U.heap L ∧ B.locs = P.locs ++ L ∧ B.cells = P.cells + 1 ∧ B.slots = P.slots + cs.length) := by
  obtain ⟨A, K1, K2, K3, K4, K5, K6⟩ := K
  have e : A.slots.size = cs.length := K3.trans hlen
  have hat : ∀ (i : Nat) (hi : i < cs.length), A.slots[i]? = some (.int cs[i]) := fun i hi => by rw [K5 i (by omega)]; simp [List.getD_eq_getElem?_getD, hi]
  have hcv : ∀ (i : Nat) (hi : i < cs.length), cv A i = cs[i] := fun i hi => by unfold cv; rw [hat i hi]
  have hty : Typed .char A := fun i v hv => by
    have hi : i < A.slots.size := (Array.getElem?_eq_some_iff.mp hv).1
    have q := K5 i hi
    rw [hv] at q
    rw [Option.some.inj q]
    exact K6 i hi
  refine Back.mono (back hZ hw wi E V C K1 hty S hz (by omega) (by omega) (fun i hi => by rw [hcv i (by omega)]; exact hall _ (List.getElem_mem _)) hfr hlo) (fun P a hp => ⟨hp.1, hp.2.1, hp.2.2.1, by rw [e]; exact hp.2.2.2⟩) (fun P a v B hp hq => ?_)
  obtain ⟨L, ⟨q1, q2, q3, q4, q5, q6, q7, ⟨V', v1, v2, v3, v4, v5⟩, q9⟩, hl, hc, hs⟩ := hq
  refine ⟨L, ⟨q1, q2, q3, q4, q5, q6, q7, ⟨V'.cls, v3, V', v1, rfl, by rw [v4, e, hlen], K4, fun i hi => ?_, fun i hi => ?_⟩, q9⟩, hl, hc, by rw [hs, e]⟩
  · have hi' : i < cs.length := by omega
    rw [v5 i (by omega), hcv i hi']; simp [List.getD_eq_getElem?_getD, hi']
  · have hi' : i < cs.length := by omega
    simp only [List.getD_eq_getElem?_getD, List.getElem?_map, List.getElem?_eq_getElem hi', Option.map_some, Option.getD_some]
    exact fits_lo8 _
end StrChars.Road
namespace StrChars.Road
open Jvm Sem ClassFile Op Lib Jvm.Stand Jvm.Free Jvm.Free.XT
/-- WHAT COMES BACK, in the writer's own shape -/
def QV (Z : State) (x : Addr) (N : Int32) (bs : List Int32) (h : Heap) (n0 : Nat) (v : Option Value) (h' : Heap) (L : List Loc) : Prop := v = none ∧ RoadKit.Fr n0 L ∧ RoadKit.Keep h h' [x] ∧ RoadKit.Exa Z h' x ST ∧ RoadKit.Fld Z h' x ST "coder" "B" (.int 0) ∧
  ∃ (t : Addr) (kb : ClassId), n0 ≤ t ∧ h.size ≤ t ∧ ¬ t = x ∧ RoadKit.Fld Z h' x ST "value" "[B" (.ref t) ∧ RoadKit.Arv Z h' t kb .byte N (bs.map Value.int) (.int 0)
/-- **new String(chars) AT A CALL, FOR THE WRITER**: a char[] of n known ints, each 0 to 255 -/
theorem backV {p : Program} {l : Launch} {e : Env} {R : Room} {s : State} {args : Array Value} {below : List Frame} {len W : Nat} {Z : State} {a0 : Array Value} {h : Heap} (hZ : Z.Warmed39 s.vm) (hw : ∀ d ∈ words, d.before a0 Z = true) {kI : Nat} (wi : (Jvm.Cond.instantiable ST kI).before a0 Z = true)
    {x b : Addr} {kC : ClassId} {cs bs : List Int32} {d v0 c0 : Value} {z N : Int32} {n n0 : Nat} (hx0 : n0 ≤ x) (hh0 : n0 ≤ h.size) (E : RoadKit.Exa Z h x ST) (V : RoadKit.Fld Z h x ST "value" "[B" v0) (C : RoadKit.Fld Z h x ST "coder" "B" c0) (K : RoadKit.Arv Z h b kC .char N (cs.map Value.int) d) (S : RoadKit.Sta Z h ST "COMPACT_STRINGS" "Z" (.int z)) (hz : ¬ z = 0)
    (hn : cs.length = n) (hN : N = Int32.ofNat n) (l0 : 0 < n) (l2 : n ≤ 4000) (hp : ∀ c ∈ cs, ¬ c < 0 ∧ ¬ (255 : Int32) < c) (hb : bs = cs.map (fun c => c.toInt8.toInt32)) (hfr : 4 ≤ R.frames) (hlo : W + 65 ≤ R.locals) :
    Back l R p e below s args (⟨"java/lang/String", "<init>", "([C)V"⟩ : MethodName) len W (fun P a => a = #[.ref x, .ref b] ∧ P.U.heap = h ∧ P.cells + 1 ≤ R.cells ∧ P.slots + n ≤ R.slots)
      (fun P _ v B => ∃ L, QV Z x N bs h n0 v B.U.heap L ∧ B.locs = P.locs ++ L ∧ B.cells = P.cells + 1 ∧ B.slots = P.slots + n) := by
  subst hn hN hb
  refine Back.mono (backArv hZ hw wi E V C K S hz (n32 (by omega)) l0 (by omega) (fun c hc => (hp c hc).2) hfr hlo) (fun P a hp => hp) (fun P a v B hp hq => ?_)
  obtain ⟨L, ⟨q1, q2, q3, q4, q5, q6, q7, ⟨kb, v1, v2⟩, q9⟩, hl, hc, hs⟩ := hq
  exact ⟨L, ⟨q1, fun y hy => by rw [q2 y hy]; exact hx0, q3, q5, q7, h.size, kb, hh0, Nat.le_refl _, Nat.ne_of_gt E.lt, q6, by rw [List.map_map]; exact v2⟩, hl, hc, hs⟩
end StrChars.Road
end Jvm.Pilot.@@N@@
namespace Jvm.Pilot.@@N@@
open Jvm Jvm.ClassFile Sem Op Lib Jvm.Free Jvm.Stand Jvm.LawKit Jvm.RoadKit Bundle Jvm.Pilot.@@N@@.Jvm.D
section OwnKit
variable {p : Program} {l : Launch} {e : Env} {R : Room} {s : State} {m : MethodId} {A : Array Value} {below : List Frame} {meth : Method} {c : Code} {T : State} {cells slots : Nat} {Z : State} {a0 : Array Value} {h : Heap} {own nm : String} {bytes : ByteArray} {maxL : Nat} {ret : Option FieldType} {W : Outcome → State → Prop} {pc pc' tgt : Nat} {Ls : Array Slot} {st : List Value}
/-- the run from the frame g over T comes to an end at which W holds -/
def Goes (p : Program) (e : Env) (below : List Frame) (W : Outcome → State → Prop) (T : State) (g : JFrame) : Prop :=
  ∃ s₂ o, Steps p.tables e below (T.setTop g) s₂ ∧ s₂.status = .running ∧ Ended s₂ below o ∧ W o s₂
theorem Goes.via {T' : State} {g g' : JFrame} (h : ∀ t, Steps p.tables e below (T'.setTop g') t → Steps p.tables e below (T.setTop g) t) (k : Goes p e below W T' g') : Goes p e below W T g := by
  obtain ⟨s₂, o, h1, h2⟩ := k; exact ⟨s₂, o, h _ h1, h2⟩
/-- what stays the same through a body -/
def Cx (p : Program) (s : State) (m : MethodId) (meth : Method) (c : Code) (Z : State) (own nm : String) (bytes : ByteArray) (maxL : Nat) (ret : Option FieldType) : Prop :=
  p.tables.exec = Jvm.exec ∧ Z.Warmed39 s.vm ∧ s.vm.findClass own = some m.cls ∧ c.code = bytes ∧ c.maxLocals = maxL ∧ meth.sig.returnType = ret ∧ meth.locks = false ∧ meth.name = nm
theorem Cx.hx (C : Cx p s m meth c Z own nm bytes maxL ret) : p.tables.exec = Jvm.exec := C.1
theorem Cx.hZ (C : Cx p s m meth c Z own nm bytes maxL ret) : Z.Warmed39 s.vm := C.2.1
theorem Cx.hown (C : Cx p s m meth c Z own nm bytes maxL ret) : s.vm.findClass own = some m.cls := C.2.2.1
theorem Cx.hby (C : Cx p s m meth c Z own nm bytes maxL ret) : c.code = bytes := C.2.2.2.1
theorem Cx.hml (C : Cx p s m meth c Z own nm bytes maxL ret) : c.maxLocals = maxL := C.2.2.2.2.1
theorem Cx.hret (C : Cx p s m meth c Z own nm bytes maxL ret) : meth.sig.returnType = ret := C.2.2.2.2.2.1
theorem Cx.hlk (C : Cx p s m meth c Z own nm bytes maxL ret) : meth.locks = false := C.2.2.2.2.2.2.1
theorem Cx.hnm (C : Cx p s m meth c Z own nm bytes maxL ret) : meth.name = nm := C.2.2.2.2.2.2.2
/-- where the walk stands: the heap is h; nothing that stood at Z was written; at most so many cells and slots were made -/
def St (p : Program) (l : Launch) (e : Env) (R : Room) (s : State) (m : MethodId) (A : Array Value) (below : List Frame) (meth : Method) (c : Code) (Z : State) (T : State) (h : Heap) (cells slots : Nat) : Prop :=
  ∃ locs, Stand p l e R s m A below meth c T locs cells slots ∧ T.heap = h ∧ Fr Z.heap.size locs ∧ Ext Z.heap h
theorem St.here (X : St p l e R s m A below meth c Z T h cells slots) : At T m c below := by obtain ⟨_, Y, _⟩ := X; exact Y.here
theorem St.ext (X : St p l e R s m A below meth c Z T h cells slots) : Ext Z.heap h := by obtain ⟨_, _, _, _, E⟩ := X; exact E
theorem St.more {cells' slots' : Nat} (X : St p l e R s m A below meth c Z T h cells slots) (h1 : cells ≤ cells') (h2 : slots ≤ slots') : St p l e R s m A below meth c Z T h cells' slots' := by
  obtain ⟨L, Y, r⟩ := X; exact ⟨L, Y.more h1 h2, r⟩
/-- the end of a body: Q of what it returned and of the heap -/
def EndW (Z s : State) (k n : Nat) (Q : Option Value → Heap → Prop) (o : Outcome) (u : State) : Prop :=
  ∃ v L, o = .returned v ∧ (Fr Z.heap.size L ∧ Ext Z.heap u.heap ∧ Q v u.heap) ∧ FrameEnd s o u L k n
/-- a body's contract: called with A at the heap h0, over tables warmer than Z's, it returns and leaves Q -/
def Con (l : Launch) (y : MethodName) (bytes : ByteArray) (maxL : Nat) (ret : Option FieldType) (ws : List Jvm.Cond) (rm : Room) (Z : State) (A : Array Value) (h0 : Heap) (Q : Option Value → Heap → Prop) : Prop :=
  MetFree l y (head1 (Jvm.Cond.code y bytes maxL ret :: ws) rm) (fun a U => a = A ∧ Z.Warmed39 U.vm ∧ U.heap = h0) (fun _ _ _ _ _ => True) (fun _ U o U' => EndW Z U rm.cells rm.slots Q o U')
theorem con_of {y : MethodName} {ws : List Jvm.Cond} {rm : Room} {h0 : Heap} {Q : Option Value → Heap → Prop} {Ls : Array Slot} (hp : plainFor y = true) (hE : Ext Z.heap h0) (hef : ∀ m, entryFrame m A maxL = mkF m 0 Ls [])
    (body : ∀ p e s m below meth c s₁, Cx p s m meth c Z y.cls y.name bytes maxL ret → St p l e rm s m A below meth c Z s₁ h0 0 0 → Goes p e below (EndW Z s rm.cells rm.slots Q) s₁ (mkF m 0 Ls [])) :
    Con l y bytes maxL ret ws rm Z A h0 Q := by
  refine MetFree.of_bodySF hp hisR ?_
  intro p e s m args below meth c s₁ Bd hml0 hP hK
  obtain ⟨rfl, hZ, hh⟩ := hP
  have X0 := Stand.of_body Bd
  have e0 : s₁.heap = h0 := by rw [← hh, Bd.state]; rfl
  have := body p e s m below meth c s₁ ⟨Bd.exec, hZ, findClass_of_methodNamed Bd.named, Bd.bytes, hml0, Bd.returns, Bd.notSynchronized, (name_of_methodNamed Bd.named Bd.method).1⟩ ⟨[], X0, e0, Fr.nil _, hE⟩
  rw [← hef m] at this
  exact this
/-- the instruction at pc, its length, the pc behind it -/
def Dc (b : ByteArray) (pc : Nat) (i : Instr) (n pc' : Nat) : Prop := decode b pc = .ok (i, n) ∧ pc + n = pc'
/-- a jump: besides, its target -/
def Dj (b : ByteArray) (pc : Nat) (i : Instr) (o : Int) (n pc' tgt : Nat) : Prop := decode b pc = .ok (i, n) ∧ pc + n = pc' ∧ 0 ≤ (pc : Int) + o ∧ ((pc : Int) + o).toNat = tgt
theorem g_goto {o : Int} (C : Cx p s m meth c Z own nm bytes maxL ret) (X : St p l e R s m A below meth c Z T h cells slots) (d : Dj bytes pc (.goto o) o 3 pc' tgt) (K : Goes p e below W T (mkF m tgt Ls st)) : Goes p e below W T (mkF m pc Ls st) :=
  Goes.via (fun _ k => XS.goto X.here C.hx rfl rfl (hb C.hby d.1) d.2.2.1 d.2.2.2 k) K
theorem g_if {cd : ClassFile.Cond} {o : Int} {x : Int32} {P : Prop} [Decidable P] (hP : ifCond.holds cd x = decide P) (C : Cx p s m meth c Z own nm bytes maxL ret) (X : St p l e R s m A below meth c Z T h cells slots) (d : Dj bytes pc (.ifCond cd o) o 3 pc' tgt) (K1 : P → Goes p e below W T (mkF m tgt Ls st)) (K2 : ¬ P → Goes p e below W T (mkF m pc' Ls st)) : Goes p e below W T (mkF m pc Ls (.int x :: st)) := by
  obtain ⟨d1, rfl, d3, d4⟩ := d
  by_cases q : P
  · exact Goes.via (fun _ k => XS.ifYes X.here C.hx rfl rfl (hb C.hby d1) rfl (hP.trans (decide_eq_true q)) d3 d4 k) (K1 q)
  · exact Goes.via (fun _ k => XS.ifNo X.here C.hx rfl (hb C.hby d1) rfl (hP.trans (decide_eq_false q)) k) (K2 q)
theorem g_icmp {cd : ClassFile.Cond} {o : Int} {x y : Int32} {P : Prop} [Decidable P] (hP : if_icmp.holds cd x y = decide P) (C : Cx p s m meth c Z own nm bytes maxL ret) (X : St p l e R s m A below meth c Z T h cells slots) (d : Dj bytes pc (.if_icmp cd o) o 3 pc' tgt) (K1 : P → Goes p e below W T (mkF m tgt Ls st)) (K2 : ¬ P → Goes p e below W T (mkF m pc' Ls st)) : Goes p e below W T (mkF m pc Ls (.int y :: .int x :: st)) := by
  obtain ⟨d1, rfl, d3, d4⟩ := d
  by_cases q : P
  · exact Goes.via (fun _ k => XS.icmpYes X.here C.hx rfl rfl (hb C.hby d1) rfl (hP.trans (decide_eq_true q)) d3 d4 k) (K1 q)
  · exact Goes.via (fun _ k => XS.icmpNo X.here C.hx rfl (hb C.hby d1) rfl (hP.trans (decide_eq_false q)) k) (K2 q)
theorem g_ifn {cd : ClassFile.Cond} {o : Int} {x : Int32} {P : Prop} [Decidable P] (hP : ifCond.holds cd x = !decide P) (C : Cx p s m meth c Z own nm bytes maxL ret) (X : St p l e R s m A below meth c Z T h cells slots) (d : Dj bytes pc (.ifCond cd o) o 3 pc' tgt) (K1 : ¬ P → Goes p e below W T (mkF m tgt Ls st)) (K2 : P → Goes p e below W T (mkF m pc' Ls st)) : Goes p e below W T (mkF m pc Ls (.int x :: st)) := by
  obtain ⟨d1, rfl, d3, d4⟩ := d
  by_cases q : P
  · exact Goes.via (fun _ k => XS.ifNo X.here C.hx rfl (hb C.hby d1) rfl (hP.trans (by simp [q])) k) (K2 q)
  · exact Goes.via (fun _ k => XS.ifYes X.here C.hx rfl rfl (hb C.hby d1) rfl (hP.trans (by simp [q])) d3 d4 k) (K1 q)
theorem g_icmpn {cd : ClassFile.Cond} {o : Int} {x y : Int32} {P : Prop} [Decidable P] (hP : if_icmp.holds cd x y = !decide P) (C : Cx p s m meth c Z own nm bytes maxL ret) (X : St p l e R s m A below meth c Z T h cells slots) (d : Dj bytes pc (.if_icmp cd o) o 3 pc' tgt) (K1 : ¬ P → Goes p e below W T (mkF m tgt Ls st)) (K2 : P → Goes p e below W T (mkF m pc' Ls st)) : Goes p e below W T (mkF m pc Ls (.int y :: .int x :: st)) := by
  obtain ⟨d1, rfl, d3, d4⟩ := d
  by_cases q : P
  · exact Goes.via (fun _ k => XS.icmpNo X.here C.hx rfl (hb C.hby d1) rfl (hP.trans (by simp [q])) k) (K2 q)
  · exact Goes.via (fun _ k => XS.icmpYes X.here C.hx rfl rfl (hb C.hby d1) rfl (hP.trans (by simp [q])) d3 d4 k) (K1 q)
theorem hI_eq (x y : Int32) : if_icmp.holds .eq x y = decide (x = y) := by
  by_cases q : x = y
  · rw [(teq q).1]; simp [q]
  · rw [(feq q).1]; simp [q]
theorem hI_ne (x y : Int32) : if_icmp.holds .ne x y = !decide (x = y) := by
  by_cases q : x = y
  · rw [(teq q).2]; simp [q]
  · rw [(feq q).2]; simp [q]
theorem hI_lt (x y : Int32) : if_icmp.holds .lt x y = decide (x < y) := by
  by_cases q : x < y
  · rw [(tlt q).1]; simp [q]
  · rw [(flt q).1]; simp [q]
theorem hI_ge (x y : Int32) : if_icmp.holds .ge x y = !decide (x < y) := by
  by_cases q : x < y
  · rw [(tlt q).2.1]; simp [q]
  · rw [(flt q).2.1]; simp [q]
theorem hI_gt (x y : Int32) : if_icmp.holds .gt x y = decide (y < x) := by
  by_cases q : y < x
  · rw [(tlt q).2.2.1]; simp [q]
  · rw [(flt q).2.2.1]; simp [q]
theorem hI_le (x y : Int32) : if_icmp.holds .le x y = !decide (y < x) := by
  by_cases q : y < x
  · rw [(tlt q).2.2.2]; simp [q]
  · rw [(flt q).2.2.2]; simp [q]
theorem h0_eq (x : Int32) : ifCond.holds .eq x = decide (x = 0) := (if0 _ _).trans (hI_eq x 0)
theorem h0_ne (x : Int32) : ifCond.holds .ne x = !decide (x = 0) := (if0 _ _).trans (hI_ne x 0)
theorem h0_lt (x : Int32) : ifCond.holds .lt x = decide (x < 0) := (if0 _ _).trans (hI_lt x 0)
theorem h0_ge (x : Int32) : ifCond.holds .ge x = !decide (x < 0) := (if0 _ _).trans (hI_ge x 0)
theorem h0_gt (x : Int32) : ifCond.holds .gt x = decide (0 < x) := (if0 _ _).trans (hI_gt x 0)
theorem h0_le (x : Int32) : ifCond.holds .le x = !decide (0 < x) := (if0 _ _).trans (hI_le x 0)
/-- a comparison of longs, then a branch on it: 'lcmp; if..' -/
theorem hL_eq (x y : Int64) : ifCond.holds .eq (lcmpW x y) = decide (x = y) := by rw [h0_eq]; exact decide_eq_decide.mpr (lw_eq x y)
theorem hL_ne (x y : Int64) : ifCond.holds .ne (lcmpW x y) = !decide (x = y) := by rw [h0_ne]; exact congrArg _ (decide_eq_decide.mpr (lw_eq x y))
theorem hL_lt (x y : Int64) : ifCond.holds .lt (lcmpW x y) = decide (x < y) := by rw [h0_lt]; exact decide_eq_decide.mpr (lw_lt x y)
theorem hL_ge (x y : Int64) : ifCond.holds .ge (lcmpW x y) = !decide (x < y) := by rw [h0_ge]; exact congrArg _ (decide_eq_decide.mpr (lw_lt x y))
theorem hL_gt (x y : Int64) : ifCond.holds .gt (lcmpW x y) = decide (y < x) := by rw [h0_gt]; exact decide_eq_decide.mpr (lw_gt x y)
theorem hL_le (x y : Int64) : ifCond.holds .le (lcmpW x y) = !decide (y < x) := by rw [h0_le]; exact congrArg _ (decide_eq_decide.mpr (lw_gt x y))
/-- two references compared; the values are references or null -/
theorem g_acmpeq {o : Int} {x y : Value} (C : Cx p s m meth c Z own nm bytes maxL ret) (X : St p l e R s m A below meth c Z T h cells slots) (d : Dj bytes pc (.if_acmp .eq o) o 3 pc' tgt) (h1 : x.isRef = true) (h2 : y.isRef = true) (K1 : x = y → Goes p e below W T (mkF m tgt Ls st)) (K2 : ¬ x = y → Goes p e below W T (mkF m pc' Ls st)) : Goes p e below W T (mkF m pc Ls (y :: x :: st)) := by
  obtain ⟨d1, rfl, d3, d4⟩ := d
  by_cases q : x = y
  · exact Goes.via (fun _ k => XT.acmpYes X.here C.hx rfl rfl (hb C.hby d1) rfl h1 h2 (XT.aa_eq_t q) d3 d4 k) (K1 q)
  · exact Goes.via (fun _ k => XT.acmpNo X.here C.hx rfl (hb C.hby d1) rfl h1 h2 (XT.aa_eq_f q) k) (K2 q)
theorem g_acmpne {o : Int} {x y : Value} (C : Cx p s m meth c Z own nm bytes maxL ret) (X : St p l e R s m A below meth c Z T h cells slots) (d : Dj bytes pc (.if_acmp .ne o) o 3 pc' tgt) (h1 : x.isRef = true) (h2 : y.isRef = true) (K1 : ¬ x = y → Goes p e below W T (mkF m tgt Ls st)) (K2 : x = y → Goes p e below W T (mkF m pc' Ls st)) : Goes p e below W T (mkF m pc Ls (y :: x :: st)) := by
  obtain ⟨d1, rfl, d3, d4⟩ := d
  by_cases q : x = y
  · exact Goes.via (fun _ k => XT.acmpNo X.here C.hx rfl (hb C.hby d1) rfl h1 h2 (XT.aa_ne_f q) k) (K2 q)
  · exact Goes.via (fun _ k => XT.acmpYes X.here C.hx rfl rfl (hb C.hby d1) rfl h1 h2 (XT.aa_ne_t q) d3 d4 k) (K1 q)
theorem g_ifnull {o : Int} {v : Value} (C : Cx p s m meth c Z own nm bytes maxL ret) (X : St p l e R s m A below meth c Z T h cells slots) (d : Dj bytes pc (.ifnull o) o 3 pc' tgt) (h1 : v.isRef = true) (K1 : v = .null → Goes p e below W T (mkF m tgt Ls st)) (K2 : ¬ v = .null → Goes p e below W T (mkF m pc' Ls st)) : Goes p e below W T (mkF m pc Ls (v :: st)) := by
  obtain ⟨d1, rfl, d3, d4⟩ := d
  by_cases q : v = .null
  · exact Goes.via (fun _ k => XT.nullYes X.here C.hx rfl rfl (hb C.hby d1) rfl q d3 d4 k) (K1 q)
  · exact Goes.via (fun _ k => XT.nullNo X.here C.hx rfl (hb C.hby d1) rfl h1 q k) (K2 q)
theorem g_ifnonnull {o : Int} {v : Value} (C : Cx p s m meth c Z own nm bytes maxL ret) (X : St p l e R s m A below meth c Z T h cells slots) (d : Dj bytes pc (.ifnonnull o) o 3 pc' tgt) (h1 : v.isRef = true) (K1 : ¬ v = .null → Goes p e below W T (mkF m tgt Ls st)) (K2 : v = .null → Goes p e below W T (mkF m pc' Ls st)) : Goes p e below W T (mkF m pc Ls (v :: st)) := by
  obtain ⟨d1, rfl, d3, d4⟩ := d
  by_cases q : v = .null
  · exact Goes.via (fun _ k => XT.nonnullNo X.here C.hx rfl (hb C.hby d1) rfl q k) (K2 q)
  · exact Goes.via (fun _ k => XT.nonnullYes X.here C.hx rfl rfl (hb C.hby d1) rfl h1 q d3 d4 k) (K1 q)
theorem g_iload {k : Nat} {v : Int32} (C : Cx p s m meth c Z own nm bytes maxL ret) (X : St p l e R s m A below meth c Z T h cells slots) (d : Dc bytes pc (.iload k) 2 pc') (hl : Ls[k]? = some (.val (.int v))) (K : Goes p e below W T (mkF m pc' Ls (.int v :: st))) : Goes p e below W T (mkF m pc Ls st) := by
  obtain ⟨d, rfl⟩ := d
  exact Goes.via (fun _ k => XS.iload X.here C.hx rfl (hb C.hby d) hl k) K
theorem g_iloadN {k : Fin 4} {v : Int32} (C : Cx p s m meth c Z own nm bytes maxL ret) (X : St p l e R s m A below meth c Z T h cells slots) (d : Dc bytes pc (.iload_n k) 1 pc') (hl : Ls[k.val]? = some (.val (.int v))) (K : Goes p e below W T (mkF m pc' Ls (.int v :: st))) : Goes p e below W T (mkF m pc Ls st) := by
  obtain ⟨d, rfl⟩ := d
  exact Goes.via (fun _ k => XS.iloadN X.here C.hx rfl (hb C.hby d) hl k) K
theorem g_lload {k : Nat} {v : Int64} (C : Cx p s m meth c Z own nm bytes maxL ret) (X : St p l e R s m A below meth c Z T h cells slots) (d : Dc bytes pc (.lload k) 2 pc') (hl : Ls[k]? = some (.val (.long v))) (K : Goes p e below W T (mkF m pc' Ls (.long v :: st))) : Goes p e below W T (mkF m pc Ls st) := by
  obtain ⟨d, rfl⟩ := d
  exact Goes.via (fun _ k => XT.lload X.here C.hx rfl (hb C.hby d) hl k) K
theorem g_lloadN {k : Fin 4} {v : Int64} (C : Cx p s m meth c Z own nm bytes maxL ret) (X : St p l e R s m A below meth c Z T h cells slots) (d : Dc bytes pc (.lload_n k) 1 pc') (hl : Ls[k.val]? = some (.val (.long v))) (K : Goes p e below W T (mkF m pc' Ls (.long v :: st))) : Goes p e below W T (mkF m pc Ls st) := by
  obtain ⟨d, rfl⟩ := d
  exact Goes.via (fun _ k => XT.lloadN X.here C.hx rfl (hb C.hby d) hl k) K
theorem g_aload {k : Nat} {v : Value} (C : Cx p s m meth c Z own nm bytes maxL ret) (X : St p l e R s m A below meth c Z T h cells slots) (d : Dc bytes pc (.aload k) 2 pc') (hl : Ls[k]? = some (.val v)) (hv : v.isRef = true) (K : Goes p e below W T (mkF m pc' Ls (v :: st))) : Goes p e below W T (mkF m pc Ls st) := by
  obtain ⟨d, rfl⟩ := d
  exact Goes.via (fun _ k => XS.aload X.here C.hx rfl (hb C.hby d) hl hv k) K
theorem g_aloadN {k : Fin 4} {v : Value} (C : Cx p s m meth c Z own nm bytes maxL ret) (X : St p l e R s m A below meth c Z T h cells slots) (d : Dc bytes pc (.aload_n k) 1 pc') (hl : Ls[k.val]? = some (.val v)) (hv : v.isRef = true) (K : Goes p e below W T (mkF m pc' Ls (v :: st))) : Goes p e below W T (mkF m pc Ls st) := by
  obtain ⟨d, rfl⟩ := d
  exact Goes.via (fun _ k => XS.aloadN X.here C.hx rfl (hb C.hby d) hl hv k) K
theorem g_istore {k : Nat} {x : Int32} {l' : Array Slot} (C : Cx p s m meth c Z own nm bytes maxL ret) (X : St p l e R s m A below meth c Z T h cells slots) (d : Dc bytes pc (.istore k) 2 pc') (hl : storeLocals Ls k (.int x) = some l') (K : Goes p e below W T (mkF m pc' l' st)) : Goes p e below W T (mkF m pc Ls (.int x :: st)) := by
  obtain ⟨d, rfl⟩ := d
  exact Goes.via (fun _ k => XS.istore X.here C.hx rfl (hb C.hby d) rfl hl k) K
theorem g_istoreN {k : Fin 4} {x : Int32} {l' : Array Slot} (C : Cx p s m meth c Z own nm bytes maxL ret) (X : St p l e R s m A below meth c Z T h cells slots) (d : Dc bytes pc (.istore_n k) 1 pc') (hl : storeLocals Ls k.val (.int x) = some l') (K : Goes p e below W T (mkF m pc' l' st)) : Goes p e below W T (mkF m pc Ls (.int x :: st)) := by
  obtain ⟨d, rfl⟩ := d
  exact Goes.via (fun _ k => XS.istoreN X.here C.hx rfl (hb C.hby d) rfl hl k) K
theorem g_lstore {k : Nat} {x : Int64} {l' : Array Slot} (C : Cx p s m meth c Z own nm bytes maxL ret) (X : St p l e R s m A below meth c Z T h cells slots) (d : Dc bytes pc (.lstore k) 2 pc') (hl : storeLocals Ls k (.long x) = some l') (K : Goes p e below W T (mkF m pc' l' st)) : Goes p e below W T (mkF m pc Ls (.long x :: st)) := by
  obtain ⟨d, rfl⟩ := d
  exact Goes.via (fun _ k => XT.lstore X.here C.hx rfl (hb C.hby d) rfl hl k) K
theorem g_lstoreN {k : Fin 4} {x : Int64} {l' : Array Slot} (C : Cx p s m meth c Z own nm bytes maxL ret) (X : St p l e R s m A below meth c Z T h cells slots) (d : Dc bytes pc (.lstore_n k) 1 pc') (hl : storeLocals Ls k.val (.long x) = some l') (K : Goes p e below W T (mkF m pc' l' st)) : Goes p e below W T (mkF m pc Ls (.long x :: st)) := by
  obtain ⟨d, rfl⟩ := d
  exact Goes.via (fun _ k => XT.lstoreN X.here C.hx rfl (hb C.hby d) rfl hl k) K
theorem g_astore {k : Nat} {x : Value} {l' : Array Slot} (C : Cx p s m meth c Z own nm bytes maxL ret) (X : St p l e R s m A below meth c Z T h cells slots) (d : Dc bytes pc (.astore k) 2 pc') (hv : x.isRef = true) (hl : storeLocals Ls k x = some l') (K : Goes p e below W T (mkF m pc' l' st)) : Goes p e below W T (mkF m pc Ls (x :: st)) := by
  obtain ⟨d, rfl⟩ := d
  exact Goes.via (fun _ k => XS.astore X.here C.hx rfl (hb C.hby d) rfl hv hl k) K
theorem g_astoreN {k : Fin 4} {x : Value} {l' : Array Slot} (C : Cx p s m meth c Z own nm bytes maxL ret) (X : St p l e R s m A below meth c Z T h cells slots) (d : Dc bytes pc (.astore_n k) 1 pc') (hv : x.isRef = true) (hl : storeLocals Ls k.val x = some l') (K : Goes p e below W T (mkF m pc' l' st)) : Goes p e below W T (mkF m pc Ls (x :: st)) := by
  obtain ⟨d, rfl⟩ := d
  exact Goes.via (fun _ k => XS.astoreN X.here C.hx rfl (hb C.hby d) rfl hv hl k) K
theorem g_iconst {i : Int} (v : Int32) (C : Cx p s m meth c Z own nm bytes maxL ret) (X : St p l e R s m A below meth c Z T h cells slots) (d : Dc bytes pc (.iconst i) 1 pc') (hv : Int32.ofInt i = v) (K : Goes p e below W T (mkF m pc' Ls (.int v :: st))) : Goes p e below W T (mkF m pc Ls st) := by
  obtain ⟨d, rfl⟩ := d
  exact Goes.via (fun _ k => XT.iconstV X.here C.hx rfl v (hb C.hby d) hv k) K
theorem g_bipush {i : Int} (v : Int32) (C : Cx p s m meth c Z own nm bytes maxL ret) (X : St p l e R s m A below meth c Z T h cells slots) (d : Dc bytes pc (.bipush i) 2 pc') (hv : (Int8.ofInt i).toInt32 = v) (K : Goes p e below W T (mkF m pc' Ls (.int v :: st))) : Goes p e below W T (mkF m pc Ls st) := by
  obtain ⟨d, rfl⟩ := d
  exact Goes.via (fun _ k => XT.bipushV X.here C.hx rfl v (hb C.hby d) hv k) K
theorem g_sipush {i : Int} (v : Int32) (C : Cx p s m meth c Z own nm bytes maxL ret) (X : St p l e R s m A below meth c Z T h cells slots) (d : Dc bytes pc (.sipush i) 3 pc') (hv : (Int16.ofInt i).toInt32 = v) (K : Goes p e below W T (mkF m pc' Ls (.int v :: st))) : Goes p e below W T (mkF m pc Ls st) := by
  obtain ⟨d, rfl⟩ := d
  exact Goes.via (fun _ k => XT.sipushV X.here C.hx rfl v (hb C.hby d) hv k) K
theorem g_lconst {k : Fin 2} (v : Int64) (C : Cx p s m meth c Z own nm bytes maxL ret) (X : St p l e R s m A below meth c Z T h cells slots) (d : Dc bytes pc (.lconst k) 1 pc') (hv : Int64.ofNat k = v) (K : Goes p e below W T (mkF m pc' Ls (.long v :: st))) : Goes p e below W T (mkF m pc Ls st) := by
  obtain ⟨d, rfl⟩ := d
  exact Goes.via (fun _ k => XT.lconstV X.here C.hx rfl v (hb C.hby d) hv k) K
theorem g_iinc {k : Nat} {i : Int} {x : Int32} {l' : Array Slot} (v : Int32) (C : Cx p s m meth c Z own nm bytes maxL ret) (X : St p l e R s m A below meth c Z T h cells slots) (d : Dc bytes pc (.iinc k i) 3 pc') (hv : Int32.ofInt i = v) (hl : Ls[k]? = some (.val (.int x))) (hl' : storeLocals Ls k (.int (x + v)) = some l') (K : Goes p e below W T (mkF m pc' l' st)) : Goes p e below W T (mkF m pc Ls st) := by
  obtain ⟨d, rfl⟩ := d
  exact Goes.via (fun _ k => XT.iincV X.here C.hx rfl v (hb C.hby d) hv hl hl' k) K
theorem g_aconst_null  (C : Cx p s m meth c Z own nm bytes maxL ret) (X : St p l e R s m A below meth c Z T h cells slots) (d : Dc bytes pc (.aconst_null) 1 pc')  (K : Goes p e below W T (mkF m pc' Ls (.null :: st))) : Goes p e below W T (mkF m pc Ls st) := by
  obtain ⟨d, rfl⟩ := d
  exact Goes.via (fun _ k => XS.aconstNull X.here C.hx rfl (hb C.hby d)  k) K
theorem g_iadd {x y : Int32} (C : Cx p s m meth c Z own nm bytes maxL ret) (X : St p l e R s m A below meth c Z T h cells slots) (d : Dc bytes pc (.iadd) 1 pc')  (K : Goes p e below W T (mkF m pc' Ls (.int (x + y) :: st))) : Goes p e below W T (mkF m pc Ls (.int y :: .int x :: st)) := by
  obtain ⟨d, rfl⟩ := d
  exact Goes.via (fun _ k => XS.iadd X.here C.hx rfl (hb C.hby d) rfl k) K
theorem g_ladd {x y : Int64} (C : Cx p s m meth c Z own nm bytes maxL ret) (X : St p l e R s m A below meth c Z T h cells slots) (d : Dc bytes pc (.ladd) 1 pc')  (K : Goes p e below W T (mkF m pc' Ls (.long (x + y) :: st))) : Goes p e below W T (mkF m pc Ls (.long y :: .long x :: st)) := by
  obtain ⟨d, rfl⟩ := d
  exact Goes.via (fun _ k => XT.ladd X.here C.hx rfl (hb C.hby d) rfl k) K
theorem g_isub {x y : Int32} (C : Cx p s m meth c Z own nm bytes maxL ret) (X : St p l e R s m A below meth c Z T h cells slots) (d : Dc bytes pc (.isub) 1 pc')  (K : Goes p e below W T (mkF m pc' Ls (.int (x - y) :: st))) : Goes p e below W T (mkF m pc Ls (.int y :: .int x :: st)) := by
  obtain ⟨d, rfl⟩ := d
  exact Goes.via (fun _ k => XS.isub X.here C.hx rfl (hb C.hby d) rfl k) K
theorem g_lsub {x y : Int64} (C : Cx p s m meth c Z own nm bytes maxL ret) (X : St p l e R s m A below meth c Z T h cells slots) (d : Dc bytes pc (.lsub) 1 pc')  (K : Goes p e below W T (mkF m pc' Ls (.long (x - y) :: st))) : Goes p e below W T (mkF m pc Ls (.long y :: .long x :: st)) := by
  obtain ⟨d, rfl⟩ := d
  exact Goes.via (fun _ k => XT.lsub X.here C.hx rfl (hb C.hby d) rfl k) K
theorem g_imul {x y : Int32} (C : Cx p s m meth c Z own nm bytes maxL ret) (X : St p l e R s m A below meth c Z T h cells slots) (d : Dc bytes pc (.imul) 1 pc')  (K : Goes p e below W T (mkF m pc' Ls (.int (x * y) :: st))) : Goes p e below W T (mkF m pc Ls (.int y :: .int x :: st)) := by
  obtain ⟨d, rfl⟩ := d
  exact Goes.via (fun _ k => XS.imul X.here C.hx rfl (hb C.hby d) rfl k) K
theorem g_lmul {x y : Int64} (C : Cx p s m meth c Z own nm bytes maxL ret) (X : St p l e R s m A below meth c Z T h cells slots) (d : Dc bytes pc (.lmul) 1 pc')  (K : Goes p e below W T (mkF m pc' Ls (.long (x * y) :: st))) : Goes p e below W T (mkF m pc Ls (.long y :: .long x :: st)) := by
  obtain ⟨d, rfl⟩ := d
  exact Goes.via (fun _ k => XT.lmul X.here C.hx rfl (hb C.hby d) rfl k) K
theorem g_iand {x y : Int32} (C : Cx p s m meth c Z own nm bytes maxL ret) (X : St p l e R s m A below meth c Z T h cells slots) (d : Dc bytes pc (.iand) 1 pc')  (K : Goes p e below W T (mkF m pc' Ls (.int (x &&& y) :: st))) : Goes p e below W T (mkF m pc Ls (.int y :: .int x :: st)) := by
  obtain ⟨d, rfl⟩ := d
  exact Goes.via (fun _ k => XS.iand X.here C.hx rfl (hb C.hby d) rfl k) K
theorem g_land {x y : Int64} (C : Cx p s m meth c Z own nm bytes maxL ret) (X : St p l e R s m A below meth c Z T h cells slots) (d : Dc bytes pc (.land) 1 pc')  (K : Goes p e below W T (mkF m pc' Ls (.long (x &&& y) :: st))) : Goes p e below W T (mkF m pc Ls (.long y :: .long x :: st)) := by
  obtain ⟨d, rfl⟩ := d
  exact Goes.via (fun _ k => XT.land X.here C.hx rfl (hb C.hby d) rfl k) K
theorem g_ior {x y : Int32} (C : Cx p s m meth c Z own nm bytes maxL ret) (X : St p l e R s m A below meth c Z T h cells slots) (d : Dc bytes pc (.ior) 1 pc')  (K : Goes p e below W T (mkF m pc' Ls (.int (x ||| y) :: st))) : Goes p e below W T (mkF m pc Ls (.int y :: .int x :: st)) := by
  obtain ⟨d, rfl⟩ := d
  exact Goes.via (fun _ k => XT.ior X.here C.hx rfl (hb C.hby d) rfl k) K
theorem g_lor {x y : Int64} (C : Cx p s m meth c Z own nm bytes maxL ret) (X : St p l e R s m A below meth c Z T h cells slots) (d : Dc bytes pc (.lor) 1 pc')  (K : Goes p e below W T (mkF m pc' Ls (.long (x ||| y) :: st))) : Goes p e below W T (mkF m pc Ls (.long y :: .long x :: st)) := by
  obtain ⟨d, rfl⟩ := d
  exact Goes.via (fun _ k => XT.lor X.here C.hx rfl (hb C.hby d) rfl k) K
theorem g_ixor {x y : Int32} (C : Cx p s m meth c Z own nm bytes maxL ret) (X : St p l e R s m A below meth c Z T h cells slots) (d : Dc bytes pc (.ixor) 1 pc')  (K : Goes p e below W T (mkF m pc' Ls (.int (x ^^^ y) :: st))) : Goes p e below W T (mkF m pc Ls (.int y :: .int x :: st)) := by
  obtain ⟨d, rfl⟩ := d
  exact Goes.via (fun _ k => XT.ixor X.here C.hx rfl (hb C.hby d) rfl k) K
theorem g_lxor {x y : Int64} (C : Cx p s m meth c Z own nm bytes maxL ret) (X : St p l e R s m A below meth c Z T h cells slots) (d : Dc bytes pc (.lxor) 1 pc')  (K : Goes p e below W T (mkF m pc' Ls (.long (x ^^^ y) :: st))) : Goes p e below W T (mkF m pc Ls (.long y :: .long x :: st)) := by
  obtain ⟨d, rfl⟩ := d
  exact Goes.via (fun _ k => XT.lxor X.here C.hx rfl (hb C.hby d) rfl k) K
theorem g_idiv {x y : Int32} (C : Cx p s m meth c Z own nm bytes maxL ret) (X : St p l e R s m A below meth c Z T h cells slots) (d : Dc bytes pc (.idiv) 1 pc') (hy : y ≠ 0) (K : Goes p e below W T (mkF m pc' Ls (.int (x / y) :: st))) : Goes p e below W T (mkF m pc Ls (.int y :: .int x :: st)) := by
  obtain ⟨d, rfl⟩ := d
  exact Goes.via (fun _ k => XS.idiv X.here C.hx rfl (hb C.hby d) rfl hy k) K
theorem g_ldiv {x y : Int64} (C : Cx p s m meth c Z own nm bytes maxL ret) (X : St p l e R s m A below meth c Z T h cells slots) (d : Dc bytes pc (.ldiv) 1 pc') (hy : y ≠ 0) (K : Goes p e below W T (mkF m pc' Ls (.long (x / y) :: st))) : Goes p e below W T (mkF m pc Ls (.long y :: .long x :: st)) := by
  obtain ⟨d, rfl⟩ := d
  exact Goes.via (fun _ k => XT.ldiv X.here C.hx rfl (hb C.hby d) rfl hy k) K
theorem g_ineg {x : Int32} (C : Cx p s m meth c Z own nm bytes maxL ret) (X : St p l e R s m A below meth c Z T h cells slots) (d : Dc bytes pc (.ineg) 1 pc')  (K : Goes p e below W T (mkF m pc' Ls (.int (-x) :: st))) : Goes p e below W T (mkF m pc Ls (.int x :: st)) := by
  obtain ⟨d, rfl⟩ := d
  exact Goes.via (fun _ k => XS.ineg X.here C.hx rfl (hb C.hby d) rfl k) K
theorem g_lneg {x : Int64} (C : Cx p s m meth c Z own nm bytes maxL ret) (X : St p l e R s m A below meth c Z T h cells slots) (d : Dc bytes pc (.lneg) 1 pc')  (K : Goes p e below W T (mkF m pc' Ls (.long (-x) :: st))) : Goes p e below W T (mkF m pc Ls (.long x :: st)) := by
  obtain ⟨d, rfl⟩ := d
  exact Goes.via (fun _ k => XT.lneg X.here C.hx rfl (hb C.hby d) rfl k) K
theorem g_ishl {x y : Int32} (C : Cx p s m meth c Z own nm bytes maxL ret) (X : St p l e R s m A below meth c Z T h cells slots) (d : Dc bytes pc (.ishl) 1 pc')  (K : Goes p e below W T (mkF m pc' Ls (.int (x <<< (y &&& 31)) :: st))) : Goes p e below W T (mkF m pc Ls (.int y :: .int x :: st)) := by
  obtain ⟨d, rfl⟩ := d
  exact Goes.via (fun _ k => XT.ishl X.here C.hx rfl (hb C.hby d) rfl k) K
theorem g_ishr {x y : Int32} (C : Cx p s m meth c Z own nm bytes maxL ret) (X : St p l e R s m A below meth c Z T h cells slots) (d : Dc bytes pc (.ishr) 1 pc')  (K : Goes p e below W T (mkF m pc' Ls (.int (x >>> (y &&& 31)) :: st))) : Goes p e below W T (mkF m pc Ls (.int y :: .int x :: st)) := by
  obtain ⟨d, rfl⟩ := d
  exact Goes.via (fun _ k => XT.ishr X.here C.hx rfl (hb C.hby d) rfl k) K
theorem g_iushr {x y : Int32} (C : Cx p s m meth c Z own nm bytes maxL ret) (X : St p l e R s m A below meth c Z T h cells slots) (d : Dc bytes pc (.iushr) 1 pc')  (K : Goes p e below W T (mkF m pc' Ls (.int ((x.toUInt32 >>> (y &&& 31).toUInt32).toInt32) :: st))) : Goes p e below W T (mkF m pc Ls (.int y :: .int x :: st)) := by
  obtain ⟨d, rfl⟩ := d
  exact Goes.via (fun _ k => XT.iushr X.here C.hx rfl (hb C.hby d) rfl k) K
theorem g_lshl {x : Int64} {y : Int32} (C : Cx p s m meth c Z own nm bytes maxL ret) (X : St p l e R s m A below meth c Z T h cells slots) (d : Dc bytes pc (.lshl) 1 pc')  (K : Goes p e below W T (mkF m pc' Ls (.long (x <<< (y &&& 0x3f).toInt64) :: st))) : Goes p e below W T (mkF m pc Ls (.int y :: .long x :: st)) := by
  obtain ⟨d, rfl⟩ := d
  exact Goes.via (fun _ k => XS.lshl X.here C.hx rfl (hb C.hby d) rfl k) K
theorem g_lshr {x : Int64} {y : Int32} (C : Cx p s m meth c Z own nm bytes maxL ret) (X : St p l e R s m A below meth c Z T h cells slots) (d : Dc bytes pc (.lshr) 1 pc')  (K : Goes p e below W T (mkF m pc' Ls (.long (x >>> (y &&& 0x3f).toInt64) :: st))) : Goes p e below W T (mkF m pc Ls (.int y :: .long x :: st)) := by
  obtain ⟨d, rfl⟩ := d
  exact Goes.via (fun _ k => XS.lshr X.here C.hx rfl (hb C.hby d) rfl k) K
theorem g_lushr {x : Int64} {y : Int32} (C : Cx p s m meth c Z own nm bytes maxL ret) (X : St p l e R s m A below meth c Z T h cells slots) (d : Dc bytes pc (.lushr) 1 pc')  (K : Goes p e below W T (mkF m pc' Ls (.long ((x.toUInt64 >>> (y &&& 0x3f).toInt64.toUInt64).toInt64) :: st))) : Goes p e below W T (mkF m pc Ls (.int y :: .long x :: st)) := by
  obtain ⟨d, rfl⟩ := d
  exact Goes.via (fun _ k => XS.lushr X.here C.hx rfl (hb C.hby d) rfl k) K
theorem g_i2l {x : Int32} (C : Cx p s m meth c Z own nm bytes maxL ret) (X : St p l e R s m A below meth c Z T h cells slots) (d : Dc bytes pc (.i2l) 1 pc')  (K : Goes p e below W T (mkF m pc' Ls (.long x.toInt64 :: st))) : Goes p e below W T (mkF m pc Ls (.int x :: st)) := by
  obtain ⟨d, rfl⟩ := d
  exact Goes.via (fun _ k => XT.i2l X.here C.hx rfl (hb C.hby d) rfl k) K
theorem g_l2i {x : Int64} (C : Cx p s m meth c Z own nm bytes maxL ret) (X : St p l e R s m A below meth c Z T h cells slots) (d : Dc bytes pc (.l2i) 1 pc')  (K : Goes p e below W T (mkF m pc' Ls (.int x.toInt32 :: st))) : Goes p e below W T (mkF m pc Ls (.long x :: st)) := by
  obtain ⟨d, rfl⟩ := d
  exact Goes.via (fun _ k => XT.l2i X.here C.hx rfl (hb C.hby d) rfl k) K
theorem g_i2b {x : Int32} (C : Cx p s m meth c Z own nm bytes maxL ret) (X : St p l e R s m A below meth c Z T h cells slots) (d : Dc bytes pc (.i2b) 1 pc')  (K : Goes p e below W T (mkF m pc' Ls (.int x.toInt8.toInt32 :: st))) : Goes p e below W T (mkF m pc Ls (.int x :: st)) := by
  obtain ⟨d, rfl⟩ := d
  exact Goes.via (fun _ k => XT.i2b X.here C.hx rfl (hb C.hby d) rfl k) K
theorem g_i2s {x : Int32} (C : Cx p s m meth c Z own nm bytes maxL ret) (X : St p l e R s m A below meth c Z T h cells slots) (d : Dc bytes pc (.i2s) 1 pc')  (K : Goes p e below W T (mkF m pc' Ls (.int x.toInt16.toInt32 :: st))) : Goes p e below W T (mkF m pc Ls (.int x :: st)) := by
  obtain ⟨d, rfl⟩ := d
  exact Goes.via (fun _ k => XT.i2s X.here C.hx rfl (hb C.hby d) rfl k) K
theorem g_i2c {x : Int32} (C : Cx p s m meth c Z own nm bytes maxL ret) (X : St p l e R s m A below meth c Z T h cells slots) (d : Dc bytes pc (.i2c) 1 pc')  (K : Goes p e below W T (mkF m pc' Ls (.int x.toUInt32.toUInt16.toUInt32.toInt32 :: st))) : Goes p e below W T (mkF m pc Ls (.int x :: st)) := by
  obtain ⟨d, rfl⟩ := d
  exact Goes.via (fun _ k => XT.i2c X.here C.hx rfl (hb C.hby d) rfl k) K
theorem g_lcmp {x y : Int64} (C : Cx p s m meth c Z own nm bytes maxL ret) (X : St p l e R s m A below meth c Z T h cells slots) (d : Dc bytes pc (.lcmp) 1 pc')  (K : Goes p e below W T (mkF m pc' Ls (.int (lcmpW x y) :: st))) : Goes p e below W T (mkF m pc Ls (.long y :: .long x :: st)) := by
  obtain ⟨d, rfl⟩ := d
  exact Goes.via (fun _ k => XT.lcmp X.here C.hx rfl (hb C.hby d) rfl k) K
theorem g_pop {x : Value} (C : Cx p s m meth c Z own nm bytes maxL ret) (X : St p l e R s m A below meth c Z T h cells slots) (d : Dc bytes pc (.pop) 1 pc') (hc : x.category = 1) (K : Goes p e below W T (mkF m pc' Ls st)) : Goes p e below W T (mkF m pc Ls (x :: st)) := by
  obtain ⟨d, rfl⟩ := d
  exact Goes.via (fun _ k => XT.pop X.here C.hx rfl (hb C.hby d) rfl hc k) K
theorem g_dup {x : Value} (C : Cx p s m meth c Z own nm bytes maxL ret) (X : St p l e R s m A below meth c Z T h cells slots) (d : Dc bytes pc (.dup) 1 pc') (hc : x.category = 1) (K : Goes p e below W T (mkF m pc' Ls (x :: x :: st))) : Goes p e below W T (mkF m pc Ls (x :: st)) := by
  obtain ⟨d, rfl⟩ := d
  exact Goes.via (fun _ k => XS.dup X.here C.hx rfl (hb C.hby d) rfl hc k) K
theorem g_dup_x1 {x y : Value} (C : Cx p s m meth c Z own nm bytes maxL ret) (X : St p l e R s m A below meth c Z T h cells slots) (d : Dc bytes pc (.dup_x1) 1 pc') (hc : x.category = 1) (hc' : y.category = 1) (K : Goes p e below W T (mkF m pc' Ls (x :: y :: x :: st))) : Goes p e below W T (mkF m pc Ls (x :: y :: st)) := by
  obtain ⟨d, rfl⟩ := d
  exact Goes.via (fun _ k => XT.dupX1 X.here C.hx rfl (hb C.hby d) rfl hc hc' k) K
theorem g_dup2 {x y : Value} (C : Cx p s m meth c Z own nm bytes maxL ret) (X : St p l e R s m A below meth c Z T h cells slots) (d : Dc bytes pc (.dup2) 1 pc') (hc : x.category = 1) (hc' : y.category = 1) (K : Goes p e below W T (mkF m pc' Ls (x :: y :: x :: y :: st))) : Goes p e below W T (mkF m pc Ls (x :: y :: st)) := by
  obtain ⟨d, rfl⟩ := d
  exact Goes.via (fun _ k => XT.dup2 X.here C.hx rfl (hb C.hby d) rfl hc hc' k) K
theorem g_dup2L {x : Int64} (C : Cx p s m meth c Z own nm bytes maxL ret) (X : St p l e R s m A below meth c Z T h cells slots) (d : Dc bytes pc (.dup2) 1 pc')  (K : Goes p e below W T (mkF m pc' Ls (.long x :: .long x :: st))) : Goes p e below W T (mkF m pc Ls (.long x :: st)) := by
  obtain ⟨d, rfl⟩ := d
  exact Goes.via (fun _ k => XT.dup2L X.here C.hx rfl (hb C.hby d) rfl k) K
theorem g_irem {x y : Int32} (C : Cx p s m meth c Z own nm bytes maxL ret) (X : St p l e R s m A below meth c Z T h cells slots) (d : Dc bytes pc .irem 1 pc') (hy : y ≠ 0) (K : Goes p e below W T (mkF m pc' Ls (.int (x % y) :: st))) : Goes p e below W T (mkF m pc Ls (.int y :: .int x :: st)) := by
  obtain ⟨d, rfl⟩ := d
  obtain ⟨_, Y, _⟩ := X
  exact Goes.via (fun _ k => iremM Y C.hx rfl (hb C.hby d) rfl hy k) K
theorem g_lrem {x y : Int64} (C : Cx p s m meth c Z own nm bytes maxL ret) (X : St p l e R s m A below meth c Z T h cells slots) (d : Dc bytes pc .lrem 1 pc') (hy : y ≠ 0) (K : Goes p e below W T (mkF m pc' Ls (.long (x % y) :: st))) : Goes p e below W T (mkF m pc Ls (.long y :: .long x :: st)) := by
  obtain ⟨d, rfl⟩ := d
  rw [← lrem_mod] at K
  exact Goes.via (fun _ k => XT.lrem X.here C.hx rfl (hb C.hby d) rfl hy k) K
theorem g_ldcI {index : Nat} {v : Int32} (C : Cx p s m meth c Z own nm bytes maxL ret) (X : St p l e R s m A below meth c Z T h cells slots) (w : (Jvm.Cond.constant own index v).before a0 Z = true) (d : Dc bytes pc (.ldc index) 2 pc') (K : Goes p e below W T (mkF m pc' Ls (.int v :: st))) : Goes p e below W T (mkF m pc Ls st) := by
  obtain ⟨d, rfl⟩ := d
  obtain ⟨_, Y, _⟩ := X
  exact Goes.via (fun t k => Y.ldcInt C.hx C.hown (mvT C.hZ w) (g := mkF m pc Ls st) rfl (hb C.hby d) t k) K
theorem g_ldcwI {index : Nat} {v : Int32} (C : Cx p s m meth c Z own nm bytes maxL ret) (X : St p l e R s m A below meth c Z T h cells slots) (w : (Jvm.Cond.constant own index v).before a0 Z = true) (d : Dc bytes pc (.ldc_w index) 3 pc') (K : Goes p e below W T (mkF m pc' Ls (.int v :: st))) : Goes p e below W T (mkF m pc Ls st) := by
  obtain ⟨d, rfl⟩ := d
  obtain ⟨_, Y, _⟩ := X
  exact Goes.via (fun t k => Y.ldcWI C.hx C.hown (mvT C.hZ w) (g := mkF m pc Ls st) rfl (hb C.hby d) k) K
theorem g_ldcJ {index : Nat} {v : Int64} (C : Cx p s m meth c Z own nm bytes maxL ret) (X : St p l e R s m A below meth c Z T h cells slots) (w : (Jvm.Cond.constantLong own index v).before a0 Z = true) (d : Dc bytes pc (.ldc2_w index) 3 pc') (K : Goes p e below W T (mkF m pc' Ls (.long v :: st))) : Goes p e below W T (mkF m pc Ls st) := by
  obtain ⟨d, rfl⟩ := d
  obtain ⟨_, Y, _⟩ := X
  exact Goes.via (fun t k => Y.ldc2Long C.hx C.hown (mvT C.hZ w) (g := mkF m pc Ls st) rfl (hb C.hby d) t k) K
theorem g_getstatic {R0 O n dd host : String} {index : Nat} {v : Value} (C : Cx p s m meth c Z own nm bytes maxL ret) (X : St p l e R s m A below meth c Z T h cells slots) (w : (Jvm.Cond.fieldLink own index R0 n dd).before a0 Z = true ∨ (Jvm.Cond.fieldLinkNest own index R0 n dd host).before a0 Z = true) (via : Via Z R0 O n dd) (F : Sta Z Z.heap O n dd v) (d : Dc bytes pc (.getstatic index) 3 pc')
    (K : ∀ T', St p l e R s m A below meth c Z T' h cells slots → Goes p e below W T' (mkF m pc' Ls (v :: st))) : Goes p e below W T (mkF m pc Ls st) := by
  obtain ⟨d, rfl⟩ := d
  obtain ⟨L, Y, eT, N, E⟩ := X
  obtain ⟨T', Y', e', q⟩ := getS2 Y C.hx C.hZ C.hown w via eT (F.ext E) (g := mkF m pc Ls st) rfl (hb C.hby d)
  exact Goes.via q (K T' ⟨L, Y', e', N, E⟩)
theorem g_getfield {R0 O n dd host : String} {index : Nat} {a : Addr} {v : Value} (C : Cx p s m meth c Z own nm bytes maxL ret) (X : St p l e R s m A below meth c Z T h cells slots) (w : (Jvm.Cond.fieldLink own index R0 n dd).before a0 Z = true ∨ (Jvm.Cond.fieldLinkNest own index R0 n dd host).before a0 Z = true) (via : Via Z R0 O n dd) (F : Fld Z h a O n dd v) (d : Dc bytes pc (.getfield index) 3 pc')
    (K : ∀ T', St p l e R s m A below meth c Z T' h cells slots → Goes p e below W T' (mkF m pc' Ls (v :: st))) : Goes p e below W T (mkF m pc Ls (.ref a :: st)) := by
  obtain ⟨d, rfl⟩ := d
  obtain ⟨L, Y, eT, N, E⟩ := X
  obtain ⟨T', Y', e', q⟩ := getF Y C.hx C.hZ C.hown w via eT F (g := mkF m pc Ls (.ref a :: st)) rfl rfl (hb C.hby d)
  exact Goes.via q (K T' ⟨L, Y', e', N, E⟩)
theorem ext_wr {h h' : Heap} {a : Addr} {sl : Nat} {v : Value} (E : Ext Z.heap h) (w : Wr h h' a sl v) (q : Z.heap.size ≤ a) : Ext Z.heap h' := (Old.wr (Z := Z) (n0 := Z.heap.size) (h := h) ⟨rfl, E⟩ w q).2
theorem ext_keep {h h' : Heap} {ws : List Addr} (E : Ext Z.heap h) (w : Keep h h' ws) (q : ∀ x ∈ ws, Z.heap.size ≤ x) : Ext Z.heap h' := (Old.keep (Z := Z) (n0 := Z.heap.size) (h := h) ⟨rfl, E⟩ w q).2
theorem ext_trans {h h' : Heap} (E : Ext Z.heap h) (E' : Ext h h') : Ext Z.heap h' := ⟨Nat.le_trans E.1 E'.1, fun x c q => E'.2 x c (E.2 x c q)⟩
theorem g_putfield {R0 O n dd host K0 : String} {index kk : Nat} {ty : FieldType} {a : Addr} {v old : Value} (C : Cx p s m meth c Z own nm bytes maxL ret) (X : St p l e R s m A below meth c Z T h cells slots) (w : (Jvm.Cond.fieldLink own index R0 n dd).before a0 Z = true ∨ (Jvm.Cond.fieldLinkNest own index R0 n dd host).before a0 Z = true) (via : Via Z R0 O n dd)
    (F : Fld Z h a O n dd old) (Ex : Exa Z h a K0) (L : (Jvm.Cond.lays K0 O n dd).before a0 Z = true ∨ ((Jvm.Cond.laysFinal K0 O n dd).before a0 Z = true ∧ own = O ∧ nm = "<init>")) (wi : (Jvm.Cond.instantiable K0 kk).before a0 Z = true) (hty : parseFieldDescriptor dd = some ty) (hn : narrow ty v = v) (hf : fits ty v = true) (hnew : Z.heap.size ≤ a) (d : Dc bytes pc (.putfield index) 3 pc')
    (K : ∀ T' h', St p l e R s m A below meth c Z T' h' cells slots → Wr h h' a (RoadKit.slotOf Z O n dd) v → Goes p e below W T' (mkF m pc' Ls st)) : Goes p e below W T (mkF m pc Ls (v :: .ref a :: st)) := by
  obtain ⟨d, rfl⟩ := d
  obtain ⟨L0, Y, eT, N, E⟩ := X
  obtain ⟨T', h', Y', e', W', q⟩ := putF Y C.hx C.hZ C.hown w via eT F Ex (L.imp id fun z => ⟨z.1, z.2.1, C.hnm.trans z.2.2⟩) wi hty hn hf (g := mkF m pc Ls (v :: .ref a :: st)) rfl rfl (hb C.hby d)
  exact Goes.via q (K T' h' ⟨_, Y', e', Fr.snoc Y' N hnew, ext_wr E W' hnew⟩ W')
theorem g_new {K0 : String} {index n : Nat} (C : Cx p s m meth c Z own nm bytes maxL ret) (X : St p l e R s m A below meth c Z T h cells slots) (w : (Jvm.Cond.classLink own index K0).before a0 Z = true) (wi : (Jvm.Cond.instantiable K0 n).before a0 Z = true) (wz : (Jvm.Cond.initialized K0).before a0 Z = true) (d : Dc bytes pc (.new index) 3 pc') (hc : cells + 1 ≤ R.cells) (hl : slots + n ≤ R.slots)
    (K : ∀ T' h' b, b = h.size → Z.heap.size ≤ b → St p l e R s m A below meth c Z T' h' (cells + 1) (slots + n) → Ext h h' → Exa Z h' b K0 → (∀ {O f dd : String} {ty : FieldType}, Laid Z a0 K0 O f dd → parseFieldDescriptor dd = some ty → Fld Z h' b O f dd (defaultValue ty)) → (∃ cell : Cell, h'[b]? = some cell ∧ cell.vm = .none ∧ cell.monitor = {}) → Goes p e below W T' (mkF m pc' Ls (.ref b :: st))) : Goes p e below W T (mkF m pc Ls st) := by
  obtain ⟨d, rfl⟩ := d
  obtain ⟨L0, Y, eT, N, E⟩ := X
  obtain ⟨T', h', Y', e', E', A', D', M', q⟩ := newO Y C.hx C.hZ C.hown w wi wz eT (g := mkF m pc Ls st) rfl (hb C.hby d) hc hl
  exact Goes.via q (K T' h' _ rfl E.1 ⟨_, Y', e', N, ext_trans E E'⟩ E' A' D' M')
theorem g_newarray {aty : ArrayType} {n : Int32} (C : Cx p s m meth c Z own nm bytes maxL ret) (X : St p l e R s m A below meth c Z T h cells slots) (w : (Jvm.Cond.arrayClass (newarray.typeOf aty)).before a0 Z = true) (d : Dc bytes pc (.newarray aty) 2 pc') (hn : ¬ n < 0) (cap : Nat) (hcap : n.toNatClampNeg ≤ cap) (hb' : cap * 8 ≤ 536870912) (hc : cells + 1 ≤ R.cells) (hl : slots + cap ≤ R.slots)
    (K : ∀ T' h' b k, b = h.size → Z.heap.size ≤ b → St p l e R s m A below meth c Z T' h' (cells + 1) (slots + cap) → Ext h h' → Arv Z h' b k (newarray.typeOf aty) n (List.replicate cap (defaultValue (newarray.typeOf aty))) (defaultValue (newarray.typeOf aty)) → Goes p e below W T' (mkF m pc' Ls (.ref b :: st))) : Goes p e below W T (mkF m pc Ls (.int n :: st)) := by
  obtain ⟨d, rfl⟩ := d
  obtain ⟨L0, Y, eT, N, E⟩ := X
  obtain ⟨T', h', k, Y', e', E', A', q⟩ := newP Y C.hx C.hZ w eT (g := mkF m pc Ls (.int n :: st)) rfl (hb C.hby d) rfl hn hcap hb' hc hl
  exact Goes.via q (K T' h' _ k rfl E.1 ⟨_, Y', e', N, ext_trans E E'⟩ E' ((Arv.new A' hn).pad (pad_rep [] _ cap)))
theorem g_checkcast {K0 : String} {index : Nat} {a : Addr} (C : Cx p s m meth c Z own nm bytes maxL ret) (X : St p l e R s m A below meth c Z T h cells slots) (w : (Jvm.Cond.classLink own index K0).before a0 Z = true) (F : Ins Z h a K0 true) (d : Dc bytes pc (.checkcast index) 3 pc')
    (K : ∀ T', St p l e R s m A below meth c Z T' h cells slots → Goes p e below W T' (mkF m pc' Ls (.ref a :: st))) : Goes p e below W T (mkF m pc Ls (.ref a :: st)) := by
  obtain ⟨d, rfl⟩ := d
  obtain ⟨L, Y, eT, N, E⟩ := X
  obtain ⟨T', Y', e', q⟩ := castY Y C.hx C.hZ C.hown w eT F (g := mkF m pc Ls (.ref a :: st)) rfl rfl (hb C.hby d)
  exact Goes.via q (K T' ⟨L, Y', e', N, E⟩)
theorem g_checkcastN {index : Nat} (C : Cx p s m meth c Z own nm bytes maxL ret) (X : St p l e R s m A below meth c Z T h cells slots) (d : Dc bytes pc (.checkcast index) 3 pc') (K : Goes p e below W T (mkF m pc' Ls (.null :: st))) : Goes p e below W T (mkF m pc Ls (.null :: st)) := by
  obtain ⟨d, rfl⟩ := d
  obtain ⟨L, Y, eT, N, E⟩ := X
  exact Goes.via (Y.checkcastNull C.hx (g := mkF m pc Ls (.null :: st)) rfl rfl (hb C.hby d)) K
theorem g_instanceY {K0 : String} {index : Nat} {a : Addr} (C : Cx p s m meth c Z own nm bytes maxL ret) (X : St p l e R s m A below meth c Z T h cells slots) (w : (Jvm.Cond.classLink own index K0).before a0 Z = true) (F : Ins Z h a K0 true) (d : Dc bytes pc (.instanceof index) 3 pc')
    (K : ∀ T', St p l e R s m A below meth c Z T' h cells slots → Goes p e below W T' (mkF m pc' Ls (.int 1 :: st))) : Goes p e below W T (mkF m pc Ls (.ref a :: st)) := by
  obtain ⟨d, rfl⟩ := d
  obtain ⟨L, Y, eT, N, E⟩ := X
  obtain ⟨T', Y', e', q⟩ := instY Y C.hx C.hZ C.hown w eT F (g := mkF m pc Ls (.ref a :: st)) rfl rfl (hb C.hby d)
  exact Goes.via q (K T' ⟨L, Y', e', N, E⟩)
theorem g_instanceN {index : Nat} (C : Cx p s m meth c Z own nm bytes maxL ret) (X : St p l e R s m A below meth c Z T h cells slots) (d : Dc bytes pc (.instanceof index) 3 pc') (K : Goes p e below W T (mkF m pc' Ls (.int 0 :: st))) : Goes p e below W T (mkF m pc Ls (.null :: st)) := by
  obtain ⟨d, rfl⟩ := d
  obtain ⟨L, Y, eT, N, E⟩ := X
  exact Goes.via (Y.instanceofNull C.hx (g := mkF m pc Ls (.null :: st)) rfl rfl (hb C.hby d)) K
theorem keep_ext {h h' : Heap} (K : Keep h h' []) : Ext h h' := ⟨K.1, fun x c q => K.2.1 x c q nin0⟩
theorem ext_keep0 {h h' : Heap} (E : Ext h h') (ws : List Addr) : Keep h h' ws := (Keep.refl h ws).ext E
/-- a place of an array -/
theorem in_of {n j : Int32} {c : Cell} (S : c.slots.size = n.toNatClampNeg) (hj : ¬ j < 0) (hj' : j < n) : ¬ (j < 0 ∨ c.slots.size ≤ j.toNatClampNeg) := inb_of S ⟨hj, hj'⟩
theorem g_arraylength {a : Addr} {k : ClassId} {ty : FieldType} {n : Int32} {vs : List Value} {dv : Value} (C : Cx p s m meth c Z own nm bytes maxL ret) (X : St p l e R s m A below meth c Z T h cells slots) (F : Arv Z h a k ty n vs dv) (d : Dc bytes pc .arraylength 1 pc') (K : Goes p e below W T (mkF m pc' Ls (.int n :: st))) : Goes p e below W T (mkF m pc Ls (.ref a :: st)) := by
  obtain ⟨d, rfl⟩ := d
  obtain ⟨L0, Y, eT, N, E⟩ := X
  obtain ⟨cl, Ar, -, hS, hN, -, -⟩ := F
  rw [← len_of hS hN] at K
  exact Goes.via (Y.arraylength C.hx (by rw [eT]; exact Ar.1) (State.isArrayOf_alike C.hZ.alike Ar.2.1) (g := mkF m pc Ls (.ref a :: st)) rfl rfl (hb C.hby d)) K
theorem g_iaload {a : Addr} {k : ClassId} {n j : Int32} {vs : List Value} {dv : Value} {v : Int32} (C : Cx p s m meth c Z own nm bytes maxL ret) (X : St p l e R s m A below meth c Z T h cells slots) (F : Arv Z h a k .int n vs dv) (d : Dc bytes pc .iaload 1 pc') (hj : ¬ j < 0) (hj' : j < n) (hv : vs.getD j.toNatClampNeg dv = .int v) (K : Goes p e below W T (mkF m pc' Ls (.int v :: st))) : Goes p e below W T (mkF m pc Ls (.int j :: .ref a :: st)) := by
  obtain ⟨d, rfl⟩ := d
  obtain ⟨L0, Y, eT, N, E⟩ := X
  obtain ⟨cl, Ar, -, hS, hN, hH, -⟩ := F
  have hin := in_of hS hj hj'
  exact Goes.via (Y.iaload C.hx (j := j) (v := .int v) (by rw [eT]; exact Ar.1) (State.isArrayOf_alike C.hZ.alike Ar.2.1) Ar.2.2 hin (hH.at hin hv) (g := mkF m pc Ls (.int j :: .ref a :: st)) rfl rfl (hb C.hby d)) K
theorem g_caload {a : Addr} {k : ClassId} {n j : Int32} {vs : List Value} {dv : Value} {v : Int32} (C : Cx p s m meth c Z own nm bytes maxL ret) (X : St p l e R s m A below meth c Z T h cells slots) (F : Arv Z h a k .char n vs dv) (d : Dc bytes pc .caload 1 pc') (hj : ¬ j < 0) (hj' : j < n) (hv : vs.getD j.toNatClampNeg dv = .int v) (K : Goes p e below W T (mkF m pc' Ls (.int v :: st))) : Goes p e below W T (mkF m pc Ls (.int j :: .ref a :: st)) := by
  obtain ⟨d, rfl⟩ := d
  obtain ⟨L0, Y, eT, N, E⟩ := X
  obtain ⟨cl, Ar, -, hS, hN, hH, -⟩ := F
  have hin := in_of hS hj hj'
  exact Goes.via (Y.caload C.hx (j := j) (v := .int v) (by rw [eT]; exact Ar.1) (State.isArrayOf_alike C.hZ.alike Ar.2.1) Ar.2.2 hin (hH.at hin hv) (g := mkF m pc Ls (.int j :: .ref a :: st)) rfl rfl (hb C.hby d)) K
theorem g_saload {a : Addr} {k : ClassId} {n j : Int32} {vs : List Value} {dv : Value} {v : Int32} (C : Cx p s m meth c Z own nm bytes maxL ret) (X : St p l e R s m A below meth c Z T h cells slots) (F : Arv Z h a k .short n vs dv) (d : Dc bytes pc .saload 1 pc') (hj : ¬ j < 0) (hj' : j < n) (hv : vs.getD j.toNatClampNeg dv = .int v) (K : Goes p e below W T (mkF m pc' Ls (.int v :: st))) : Goes p e below W T (mkF m pc Ls (.int j :: .ref a :: st)) := by
  obtain ⟨d, rfl⟩ := d
  obtain ⟨L0, Y, eT, N, E⟩ := X
  obtain ⟨cl, Ar, -, hS, hN, hH, -⟩ := F
  have hin := in_of hS hj hj'
  exact Goes.via (Y.saload C.hx (j := j) (v := .int v) (by rw [eT]; exact Ar.1) (State.isArrayOf_alike C.hZ.alike Ar.2.1) Ar.2.2 hin (hH.at hin hv) (g := mkF m pc Ls (.int j :: .ref a :: st)) rfl rfl (hb C.hby d)) K
theorem g_baload {a : Addr} {k : ClassId} {n j : Int32} {vs : List Value} {dv : Value} {v : Int32} (C : Cx p s m meth c Z own nm bytes maxL ret) (X : St p l e R s m A below meth c Z T h cells slots) (F : Arv Z h a k .byte n vs dv) (d : Dc bytes pc .baload 1 pc') (hj : ¬ j < 0) (hj' : j < n) (hv : vs.getD j.toNatClampNeg dv = .int v) (K : Goes p e below W T (mkF m pc' Ls (.int v :: st))) : Goes p e below W T (mkF m pc Ls (.int j :: .ref a :: st)) := by
  obtain ⟨d, rfl⟩ := d
  obtain ⟨L0, Y, eT, N, E⟩ := X
  obtain ⟨cl, Ar, -, hS, hN, hH, -⟩ := F
  have hin := in_of hS hj hj'
  exact Goes.via (Y.baloadBytes C.hx (j := j) (v := .int v) (by rw [eT]; exact Ar.1) (State.isArrayOf_alike C.hZ.alike Ar.2.1) Ar.2.2 hin (hH.at hin hv) (g := mkF m pc Ls (.int j :: .ref a :: st)) rfl rfl (hb C.hby d)) K
theorem g_laload {a : Addr} {k : ClassId} {n j : Int32} {vs : List Value} {dv : Value} {v : Int64} (C : Cx p s m meth c Z own nm bytes maxL ret) (X : St p l e R s m A below meth c Z T h cells slots) (F : Arv Z h a k .long n vs dv) (d : Dc bytes pc .laload 1 pc') (hj : ¬ j < 0) (hj' : j < n) (hv : vs.getD j.toNatClampNeg dv = .long v) (K : Goes p e below W T (mkF m pc' Ls (.long v :: st))) : Goes p e below W T (mkF m pc Ls (.int j :: .ref a :: st)) := by
  obtain ⟨d, rfl⟩ := d
  obtain ⟨L0, Y, eT, N, E⟩ := X
  obtain ⟨cl, Ar, -, hS, hN, hH, -⟩ := F
  have hin := in_of hS hj hj'
  exact Goes.via (Y.laload C.hx (j := j) (v := .long v) (by rw [eT]; exact Ar.1) (State.isArrayOf_alike C.hZ.alike Ar.2.1) Ar.2.2 hin (hH.at hin hv) (g := mkF m pc Ls (.int j :: .ref a :: st)) rfl rfl (hb C.hby d)) K
theorem g_aaload {a : Addr} {k : ClassId} {ty : FieldType} {n j : Int32} {vs : List Value} {dv v : Value} (C : Cx p s m meth c Z own nm bytes maxL ret) (X : St p l e R s m A below meth c Z T h cells slots) (F : Arv Z h a k ty n vs dv) (hty : ty.isReference = true) (d : Dc bytes pc .aaload 1 pc') (hj : ¬ j < 0) (hj' : j < n) (hv : vs.getD j.toNatClampNeg dv = v) (K : Goes p e below W T (mkF m pc' Ls (v :: st))) : Goes p e below W T (mkF m pc Ls (.int j :: .ref a :: st)) := by
  obtain ⟨d, rfl⟩ := d
  obtain ⟨L0, Y, eT, N, E⟩ := X
  obtain ⟨cl, Ar, -, hS, hN, hH, -⟩ := F
  have hin := in_of hS hj hj'
  exact Goes.via (Y.aaload C.hx (j := j) (v := v) (by rw [eT]; exact Ar.1) (State.isArrayOf_alike C.hZ.alike Ar.2.1) hty Ar.2.2 hin (hH.at hin hv) (g := mkF m pc Ls (.int j :: .ref a :: st)) rfl rfl (hb C.hby d)) K
theorem g_iastore {a : Addr} {k : ClassId} {n j : Int32} {vs : List Value} {dv : Value} {x : Int32} (C : Cx p s m meth c Z own nm bytes maxL ret) (X : St p l e R s m A below meth c Z T h cells slots) (F : Arv Z h a k .int n vs dv) (hnew : Z.heap.size ≤ a) (d : Dc bytes pc .iastore 1 pc') (hj : ¬ j < 0) (hj' : j < n) (hi : j.toNatClampNeg < vs.length) (y : Value) (hy : .int x = y)
    (K : ∀ T' h', St p l e R s m A below meth c Z T' h' cells slots → Wr h h' a j.toNatClampNeg y → Arv Z h' a k .int n (vs.set j.toNatClampNeg y) dv → Goes p e below W T' (mkF m pc' Ls st)) : Goes p e below W T (mkF m pc Ls (.int x :: .int j :: .ref a :: st)) := by
  subst hy
  obtain ⟨d, rfl⟩ := d
  obtain ⟨L0, Y, eT, N, E⟩ := X
  obtain ⟨cl, Ar, q1, hS, hN, hH, hG⟩ := F
  have hin := in_of hS hj hj'
  obtain ⟨T', h', Y', e', W', q⟩ := stI Y C.hx C.hZ eT Ar hin (g := mkF m pc Ls (.int x :: .int j :: .ref a :: st)) rfl rfl (hb C.hby d)
  exact Goes.via q (K T' h' ⟨_, Y', e', Fr.snoc Y' N hnew, ext_wr E W' hnew⟩ W' (Arv.set Ar q1 hS hN hH hG rfl W' _ rfl hi))
theorem g_castore {a : Addr} {k : ClassId} {n j : Int32} {vs : List Value} {dv : Value} {x : Int32} (C : Cx p s m meth c Z own nm bytes maxL ret) (X : St p l e R s m A below meth c Z T h cells slots) (F : Arv Z h a k .char n vs dv) (hnew : Z.heap.size ≤ a) (d : Dc bytes pc .castore 1 pc') (hj : ¬ j < 0) (hj' : j < n) (hi : j.toNatClampNeg < vs.length) (y : Value) (hy : .int (nar .char x) = y)
    (K : ∀ T' h', St p l e R s m A below meth c Z T' h' cells slots → Wr h h' a j.toNatClampNeg y → Arv Z h' a k .char n (vs.set j.toNatClampNeg y) dv → Goes p e below W T' (mkF m pc' Ls st)) : Goes p e below W T (mkF m pc Ls (.int x :: .int j :: .ref a :: st)) := by
  subst hy
  obtain ⟨d, rfl⟩ := d
  obtain ⟨L0, Y, eT, N, E⟩ := X
  obtain ⟨cl, Ar, q1, hS, hN, hH, hG⟩ := F
  have hin := in_of hS hj hj'
  obtain ⟨T', h', Y', e', W', q⟩ := stC Y C.hx C.hZ eT Ar hin (g := mkF m pc Ls (.int x :: .int j :: .ref a :: st)) rfl rfl (hb C.hby d)
  exact Goes.via q (K T' h' ⟨_, Y', e', Fr.snoc Y' N hnew, ext_wr E W' hnew⟩ W' (Arv.set Ar q1 hS hN hH hG (fits_nar_char _) W' _ rfl hi))
theorem g_sastore {a : Addr} {k : ClassId} {n j : Int32} {vs : List Value} {dv : Value} {x : Int32} (C : Cx p s m meth c Z own nm bytes maxL ret) (X : St p l e R s m A below meth c Z T h cells slots) (F : Arv Z h a k .short n vs dv) (hnew : Z.heap.size ≤ a) (d : Dc bytes pc .sastore 1 pc') (hj : ¬ j < 0) (hj' : j < n) (hi : j.toNatClampNeg < vs.length) (y : Value) (hy : .int (nar .short x) = y)
    (K : ∀ T' h', St p l e R s m A below meth c Z T' h' cells slots → Wr h h' a j.toNatClampNeg y → Arv Z h' a k .short n (vs.set j.toNatClampNeg y) dv → Goes p e below W T' (mkF m pc' Ls st)) : Goes p e below W T (mkF m pc Ls (.int x :: .int j :: .ref a :: st)) := by
  subst hy
  obtain ⟨d, rfl⟩ := d
  obtain ⟨L0, Y, eT, N, E⟩ := X
  obtain ⟨cl, Ar, q1, hS, hN, hH, hG⟩ := F
  have hin := in_of hS hj hj'
  obtain ⟨T', h', Y', e', W', q⟩ := stS Y C.hx C.hZ eT Ar hin (g := mkF m pc Ls (.int x :: .int j :: .ref a :: st)) rfl rfl (hb C.hby d)
  exact Goes.via q (K T' h' ⟨_, Y', e', Fr.snoc Y' N hnew, ext_wr E W' hnew⟩ W' (Arv.set Ar q1 hS hN hH hG (fits_nar_short _) W' _ rfl hi))
theorem g_bastore {a : Addr} {k : ClassId} {n j : Int32} {vs : List Value} {dv : Value} {x : Int32} (C : Cx p s m meth c Z own nm bytes maxL ret) (X : St p l e R s m A below meth c Z T h cells slots) (F : Arv Z h a k .byte n vs dv) (hnew : Z.heap.size ≤ a) (d : Dc bytes pc .bastore 1 pc') (hj : ¬ j < 0) (hj' : j < n) (hi : j.toNatClampNeg < vs.length) (y : Value) (hy : .int (nar .byte x) = y)
    (K : ∀ T' h', St p l e R s m A below meth c Z T' h' cells slots → Wr h h' a j.toNatClampNeg y → Arv Z h' a k .byte n (vs.set j.toNatClampNeg y) dv → Goes p e below W T' (mkF m pc' Ls st)) : Goes p e below W T (mkF m pc Ls (.int x :: .int j :: .ref a :: st)) := by
  subst hy
  obtain ⟨d, rfl⟩ := d
  obtain ⟨L0, Y, eT, N, E⟩ := X
  obtain ⟨cl, Ar, q1, hS, hN, hH, hG⟩ := F
  have hin := in_of hS hj hj'
  obtain ⟨T', h', Y', e', W', q⟩ := stB Y C.hx C.hZ eT Ar hin (g := mkF m pc Ls (.int x :: .int j :: .ref a :: st)) rfl rfl (hb C.hby d)
  exact Goes.via q (K T' h' ⟨_, Y', e', Fr.snoc Y' N hnew, ext_wr E W' hnew⟩ W' (Arv.set Ar q1 hS hN hH hG (fits_nar_byte _) W' _ rfl hi))
theorem g_lastore {a : Addr} {k : ClassId} {n j : Int32} {vs : List Value} {dv : Value} {x : Int64} (C : Cx p s m meth c Z own nm bytes maxL ret) (X : St p l e R s m A below meth c Z T h cells slots) (F : Arv Z h a k .long n vs dv) (hnew : Z.heap.size ≤ a) (d : Dc bytes pc .lastore 1 pc') (hj : ¬ j < 0) (hj' : j < n) (hi : j.toNatClampNeg < vs.length) (y : Value) (hy : .long x = y)
    (K : ∀ T' h', St p l e R s m A below meth c Z T' h' cells slots → Wr h h' a j.toNatClampNeg y → Arv Z h' a k .long n (vs.set j.toNatClampNeg y) dv → Goes p e below W T' (mkF m pc' Ls st)) : Goes p e below W T (mkF m pc Ls (.long x :: .int j :: .ref a :: st)) := by
  subst hy
  obtain ⟨d, rfl⟩ := d
  obtain ⟨L0, Y, eT, N, E⟩ := X
  obtain ⟨cl, Ar, q1, hS, hN, hH, hG⟩ := F
  have hin := in_of hS hj hj'
  obtain ⟨T', h', Y', e', W', q⟩ := stJ Y C.hx C.hZ eT Ar hin (g := mkF m pc Ls (.long x :: .int j :: .ref a :: st)) rfl rfl (hb C.hby d)
  exact Goes.via q (K T' h' ⟨_, Y', e', Fr.snoc Y' N hnew, ext_wr E W' hnew⟩ W' (Arv.set Ar q1 hS hN hH hG rfl W' _ rfl hi))
theorem st_back {T' : State} {h' : Heap} {k n : Nat} {B : Pt} {locs L : List Loc} (Y' : Stand p l e R s m A below meth c B.U B.locs B.cells B.slots) (hB : B.locs = locs ++ L ∧ B.cells = cells + k ∧ B.slots = slots + n) (N : Fr Z.heap.size locs) (N' : Fr Z.heap.size L) (E : Ext Z.heap B.U.heap) : St p l e R s m A below meth c Z B.U B.U.heap (cells + k) (slots + n) := by
  obtain ⟨b1, b2, b3⟩ := hB
  rw [b1, b2, b3] at Y'
  exact ⟨_, Y', rfl, N.app N', E⟩
/-- a Back that serves a call: what a contract pays -/
def Pay (l : Launch) (R : Room) (p : Program) (e : Env) (below : List Frame) (s : State) (A : Array Value) (y : MethodName) (len W k n : Nat) (Z : State) (as' : Array Value) (h : Heap) (Q : Option Value → Heap → Prop) : Prop :=
  Back l R p e below s A y len W (fun P a => a = as' ∧ P.U.heap = h ∧ P.cells + k ≤ R.cells ∧ P.slots + n ≤ R.slots)
    (fun P _ v B => ∃ L, (Fr Z.heap.size L ∧ Ext Z.heap B.U.heap ∧ Q v B.U.heap) ∧ B.locs = P.locs ++ L ∧ B.cells = P.cells + k ∧ B.slots = P.slots + n)
theorem pay_of {y : MethodName} {bytes' : ByteArray} {maxL' len W' : Nat} {ret' : Option FieldType} {rm : Room} {as' : Array Value} {Q : Option Value → Heap → Prop} (hM : Con l y bytes' maxL' ret' [] rm Z as' h Q) (hZ : Z.Warmed39 s.vm) (wc : (Jvm.Cond.code y bytes' maxL' ret').before a0 Z = true) (wz : (Jvm.Cond.initialized y.cls).before a0 Z = true) (hf : rm.frames + 1 ≤ R.frames) (hl : W' + (maxL' + 11) + rm.locals ≤ R.locals) :
    Pay l R p e below s A y len W' rm.cells rm.slots Z as' h Q := backOf (Q := fun v h' L => Fr Z.heap.size L ∧ Ext Z.heap h' ∧ Q v h') hM hZ wc wz hf hl
theorem g_static {index k n : Nat} {y : MethodName} {bytes' : ByteArray} {maxL' W' : Nat} {ret' : Option FieldType} {argsL : List Value} {Q : Option Value → Heap → Prop} {ps : List FieldType} {rt : Option FieldType} (C : Cx p s m meth c Z own nm bytes maxL ret) (X : St p l e R s m A below meth c Z T h cells slots)
    (w1 : (Jvm.Cond.methodLink own index y).before a0 Z = true) (w2 : (Jvm.Cond.static y).before a0 Z = true) (w3 : (Jvm.Cond.initialized y.cls).before a0 Z = true) (w4 : (Jvm.Cond.code y bytes' maxL' ret').before a0 Z = true) (hy : y.cls ≠ "java/lang/invoke/MethodHandle" ∧ y.cls ≠ "java/lang/invoke/VarHandle")
    (hK : Pay l R p e below s A y 3 W' k n Z argsL.toArray h Q) (pd : parseMethodDescriptor y.desc = some ⟨ps, rt⟩) (hlen : argsL.length = ps.length) (hsz : Ls.size = maxL) (stk : List Value) (hst : stk = argsL.reverse ++ st) (hW : (st.map fun v => v.category).sum ≤ W') (d : Dc bytes pc (.invokestatic index) 3 pc') (hc : cells + k ≤ R.cells) (hs : slots + n ≤ R.slots)
    (K : ∀ T' h' v, Q v h' → St p l e R s m A below meth c Z T' h' (cells + k) (slots + n) → Goes p e below W T' (mkF m pc' Ls (v.toList ++ st))) : Goes p e below W T (mkF m pc Ls stk) := by
  obtain ⟨d, rfl⟩ := d
  obtain ⟨L0, Y, eT, N, E⟩ := X
  obtain ⟨v, vm₁, B, -, Y', ⟨L, ⟨N', E', hQ⟩, hB⟩, q⟩ := Jvm.LawKit.callS Y C.hx C.hown (mvT C.hZ w1) (mvT C.hZ w2) (mvT C.hZ w3) (mvT C.hZ w4) hy hK (g := mkF m pc Ls stk) rfl (hsz.trans C.hml.symm) (argsL := argsL) (rest := st) (lenOf pd hlen) hst (by show 2 * 0 + _ ≤ _; omega) (hb C.hby d) (fun _ _ => ⟨rfl, eT, hc, hs⟩)
  exact Goes.via q (K _ _ v hQ (st_back (T' := T) (h' := h) Y' hB N N' E'))
theorem g_special {index k n : Nat} {y : MethodName} {bytes' : ByteArray} {maxL' W' : Nat} {argsL : List Value} {Q : Option Value → Heap → Prop} {ps : List FieldType} {rt : Option FieldType} {a : Addr} (C : Cx p s m meth c Z own nm bytes maxL ret) (X : St p l e R s m A below meth c Z T h cells slots) (hi : y.name = "<init>")
    (w1 : (Jvm.Cond.methodLink own index y).before a0 Z = true) (w2 : (Jvm.Cond.instanceMethod y).before a0 Z = true) (w4 : (Jvm.Cond.code y bytes' maxL' none).before a0 Z = true) (hy : y.cls ≠ "java/lang/invoke/MethodHandle" ∧ y.cls ≠ "java/lang/invoke/VarHandle")
    (hK : Pay l R p e below s A y 3 W' k n Z (.ref a :: argsL).toArray h Q) (pd : parseMethodDescriptor y.desc = some ⟨ps, rt⟩) (hlen : argsL.length = ps.length) (hsz : Ls.size = maxL) (stk : List Value) (hst : stk = argsL.reverse ++ .ref a :: st) (hW : (st.map fun v => v.category).sum ≤ W') (d : Dc bytes pc (.invokespecial index) 3 pc') (hc : cells + k ≤ R.cells) (hs : slots + n ≤ R.slots)
    (K : ∀ T' h' v, Q v h' → St p l e R s m A below meth c Z T' h' (cells + k) (slots + n) → Goes p e below W T' (mkF m pc' Ls (v.toList ++ st))) : Goes p e below W T (mkF m pc Ls stk) := by
  obtain ⟨d, rfl⟩ := d
  obtain ⟨L0, Y, eT, N, E⟩ := X
  obtain ⟨v, vm₁, B, -, Y', ⟨L, ⟨N', E', hQ⟩, hB⟩, q⟩ := Y.specialBack C.hx (y := y) hi C.hown (mvT C.hZ w1) (mvT C.hZ w2) (mvT C.hZ w4) hy hK (g := mkF m pc Ls stk) rfl (hsz.trans C.hml.symm) (Steps.refl _) (a := a) (argsL := argsL) (rest := st) (lenOf pd hlen) hst (by show 2 * 0 + _ ≤ _; omega) (hb C.hby d) (fun _ _ => ⟨rfl, eT, hc, hs⟩)
  exact Goes.via (fun _ k => q.trans k) (K _ _ v hQ (st_back (T' := T) (h' := h) Y' hB N N' E'))
theorem g_virtual {index k n : Nat} {y z : MethodName} {K0 : String} {W' : Nat} {argsL : List Value} {Q : Option Value → Heap → Prop} {ps : List FieldType} {rt : Option FieldType} {a : Addr} (C : Cx p s m meth c Z own nm bytes maxL ret) (X : St p l e R s m A below meth c Z T h cells slots)
    (w1 : (Jvm.Cond.methodLink own index y).before a0 Z = true) (w2 : (Jvm.Cond.declares y).before a0 Z = true) (nf : NotFace s y) (w3 : (Jvm.Cond.selects K0 y z).before a0 Z = true) (w4 : (Jvm.Cond.instanceMethod z).before a0 Z = true) (hy : y.cls ≠ "java/lang/invoke/MethodHandle" ∧ y.cls ≠ "java/lang/invoke/VarHandle") (Ex : Exa Z h a K0)
    (hK : Pay l R p e below s A z 3 W' k n Z (.ref a :: argsL).toArray h Q) (pd : parseMethodDescriptor y.desc = some ⟨ps, rt⟩) (hlen : argsL.length = ps.length) (hsz : Ls.size = maxL) (stk : List Value) (hst : stk = argsL.reverse ++ .ref a :: st) (hW : (st.map fun v => v.category).sum ≤ W') (d : Dc bytes pc (.invokevirtual index) 3 pc') (hc : cells + k ≤ R.cells) (hs : slots + n ≤ R.slots)
    (K : ∀ T' h' v, Q v h' → St p l e R s m A below meth c Z T' h' (cells + k) (slots + n) → Goes p e below W T' (mkF m pc' Ls (v.toList ++ st))) : Goes p e below W T (mkF m pc Ls stk) := by
  obtain ⟨d, rfl⟩ := d
  obtain ⟨L0, Y, eT, N, E⟩ := X
  obtain ⟨cq, kq, qa, qb, qc⟩ := isOf C.hZ eT Ex
  obtain ⟨v, vm₁, B, -, Y', ⟨L, ⟨N', E', hQ⟩, hB⟩, q⟩ := Y.virtualBack C.hx (y := y) (z := z) C.hown (mvT C.hZ w1) (mvT C.hZ w2) nf (mvT C.hZ w3) (mvT C.hZ w4) hy hK qa qc (g := mkF m pc Ls stk) rfl (hsz.trans C.hml.symm) (Steps.refl _) (argsL := argsL) (rest := st) (lenOf pd hlen) hst (by show 2 * 0 + _ ≤ _; omega) (hb C.hby d) (fun _ _ => ⟨rfl, eT, hc, hs⟩)
  exact Goes.via (fun _ k => q.trans k) (K _ _ v hQ (st_back (T' := T) (h' := h) Y' hB N N' E'))
theorem nf_of {K0 : String} {y z : MethodName} (C : Cx p s m meth c Z own nm bytes maxL ret) (w3 : (Jvm.Cond.selects K0 y z).before a0 Z = true) (e : K0 = y.cls) (e' : z = y) : NotFace s y := by
  subst e e'; exact notFace_of_selects (args := #[]) (mvT C.hZ w3)
theorem g_interface {index count k n : Nat} {y z : MethodName} {K0 : String} {W' : Nat} {argsL : List Value} {Q : Option Value → Heap → Prop} {ps : List FieldType} {rt : Option FieldType} {a : Addr} (C : Cx p s m meth c Z own nm bytes maxL ret) (X : St p l e R s m A below meth c Z T h cells slots)
    (w1 : (Jvm.Cond.methodLink own index y).before a0 Z = true) (w2 : (Jvm.Cond.declares y).before a0 Z = true) (w5 : (Jvm.Cond.interfaceMethod y.cls y.cls y.name y.desc).before A s = true) (w3 : (Jvm.Cond.selects K0 y z).before a0 Z = true) (w4 : (Jvm.Cond.instanceMethod z).before a0 Z = true) (w6 : (Jvm.Cond.publicMethod z).before a0 Z = true) (w7 : (Jvm.Cond.unhidden K0 y.name y.desc).before A s = true) (w8 : (Jvm.Cond.castable K0 y.cls).before a0 Z = true)
    (hy : y.cls ≠ "java/lang/invoke/MethodHandle" ∧ y.cls ≠ "java/lang/invoke/VarHandle") (Ex : Exa Z h a K0)
    (hK : Pay l R p e below s A z 5 W' k n Z (.ref a :: argsL).toArray h Q) (pd : parseMethodDescriptor y.desc = some ⟨ps, rt⟩) (hlen : argsL.length = ps.length) (hsz : Ls.size = maxL) (stk : List Value) (hst : stk = argsL.reverse ++ .ref a :: st) (hW : (st.map fun v => v.category).sum ≤ W') (d : Dc bytes pc (.invokeinterface index count) 5 pc') (hc : cells + k ≤ R.cells) (hs : slots + n ≤ R.slots)
    (K : ∀ T' h' v, Q v h' → St p l e R s m A below meth c Z T' h' (cells + k) (slots + n) → Goes p e below W T' (mkF m pc' Ls (v.toList ++ st))) : Goes p e below W T (mkF m pc Ls stk) := by
  obtain ⟨d, rfl⟩ := d
  obtain ⟨L0, Y, eT, N, E⟩ := X
  obtain ⟨cq, kq, qa, qb, qc⟩ := isOf C.hZ eT Ex
  obtain ⟨v, vm₁, B, -, Y', ⟨L, ⟨N', E', hQ⟩, hB⟩, q⟩ := Y.interfaceBack C.hx (xi := y) (y := z) C.hown (mvT C.hZ w1) (mvT C.hZ w2) w5 (mvT C.hZ w3) (mvT C.hZ w4) (mvT C.hZ w6) w7 (mvT C.hZ w8) hy hK qa qb qc (g := mkF m pc Ls stk) rfl (hsz.trans C.hml.symm) (Steps.refl _) (argsL := argsL) (rest := st) (lenOf pd hlen) hst (by show 2 * 0 + _ ≤ _; omega) (hb C.hby d) (fun _ _ => ⟨rfl, eT, hc, hs⟩)
  exact Goes.via (fun _ k => q.trans k) (K _ _ v hQ (st_back (T' := T) (h' := h) Y' hB N N' E'))
theorem g_staticP {index : Nat} {y : MethodName} {bytes' : ByteArray} {maxL' W' : Nat} {ret' : Option FieldType} {argsL : List Value} {v : Option Value} {ps : List FieldType} {rt : Option FieldType} (C : Cx p s m meth c Z own nm bytes maxL ret) (X : St p l e R s m A below meth c Z T h cells slots)
    (w1 : (Jvm.Cond.methodLink own index y).before a0 Z = true) (w2 : (Jvm.Cond.static y).before a0 Z = true) (w3 : (Jvm.Cond.initialized y.cls).before a0 Z = true) (w4 : (Jvm.Cond.code y bytes' maxL' ret').before a0 Z = true) (hy : y.cls ≠ "java/lang/invoke/MethodHandle" ∧ y.cls ≠ "java/lang/invoke/VarHandle")
    (hK : Pay l R p e below s A y 3 W' 0 0 Z argsL.toArray h (fun v' h' => v' = v ∧ h' = h)) (pd : parseMethodDescriptor y.desc = some ⟨ps, rt⟩) (hlen : argsL.length = ps.length) (hsz : Ls.size = maxL) (stk : List Value) (hst : stk = argsL.reverse ++ st) (hW : (st.map fun v => v.category).sum ≤ W') (d : Dc bytes pc (.invokestatic index) 3 pc') (hc : cells ≤ R.cells) (hs : slots ≤ R.slots)
    (K : ∀ T', St p l e R s m A below meth c Z T' h cells slots → Goes p e below W T' (mkF m pc' Ls (v.toList ++ st))) : Goes p e below W T (mkF m pc Ls stk) :=
  g_static C X w1 w2 w3 w4 hy hK pd hlen hsz stk hst hW d hc hs fun T' h' v' hQ X' => by obtain ⟨rfl, rfl⟩ := hQ; exact K T' X'
theorem g_specialP {index : Nat} {y : MethodName} {bytes' : ByteArray} {maxL' W' : Nat} {argsL : List Value} {v : Option Value} {ps : List FieldType} {rt : Option FieldType} {a : Addr} (C : Cx p s m meth c Z own nm bytes maxL ret) (X : St p l e R s m A below meth c Z T h cells slots) (hi : y.name = "<init>")
    (w1 : (Jvm.Cond.methodLink own index y).before a0 Z = true) (w2 : (Jvm.Cond.instanceMethod y).before a0 Z = true) (w4 : (Jvm.Cond.code y bytes' maxL' none).before a0 Z = true) (hy : y.cls ≠ "java/lang/invoke/MethodHandle" ∧ y.cls ≠ "java/lang/invoke/VarHandle")
    (hK : Pay l R p e below s A y 3 W' 0 0 Z (.ref a :: argsL).toArray h (fun v' h' => v' = v ∧ h' = h)) (pd : parseMethodDescriptor y.desc = some ⟨ps, rt⟩) (hlen : argsL.length = ps.length) (hsz : Ls.size = maxL) (stk : List Value) (hst : stk = argsL.reverse ++ .ref a :: st) (hW : (st.map fun v => v.category).sum ≤ W') (d : Dc bytes pc (.invokespecial index) 3 pc') (hc : cells ≤ R.cells) (hs : slots ≤ R.slots)
    (K : ∀ T', St p l e R s m A below meth c Z T' h cells slots → Goes p e below W T' (mkF m pc' Ls (v.toList ++ st))) : Goes p e below W T (mkF m pc Ls stk) :=
  g_special C X hi w1 w2 w4 hy hK pd hlen hsz stk hst hW d hc hs fun T' h' v' hQ X' => by obtain ⟨rfl, rfl⟩ := hQ; exact K T' X'
theorem g_virtualP {index : Nat} {y z : MethodName} {K0 : String} {W' : Nat} {argsL : List Value} {v : Option Value} {ps : List FieldType} {rt : Option FieldType} {a : Addr} (C : Cx p s m meth c Z own nm bytes maxL ret) (X : St p l e R s m A below meth c Z T h cells slots)
    (w1 : (Jvm.Cond.methodLink own index y).before a0 Z = true) (w2 : (Jvm.Cond.declares y).before a0 Z = true) (nf : NotFace s y) (w3 : (Jvm.Cond.selects K0 y z).before a0 Z = true) (w4 : (Jvm.Cond.instanceMethod z).before a0 Z = true) (hy : y.cls ≠ "java/lang/invoke/MethodHandle" ∧ y.cls ≠ "java/lang/invoke/VarHandle") (Ex : Exa Z h a K0)
    (hK : Pay l R p e below s A z 3 W' 0 0 Z (.ref a :: argsL).toArray h (fun v' h' => v' = v ∧ h' = h)) (pd : parseMethodDescriptor y.desc = some ⟨ps, rt⟩) (hlen : argsL.length = ps.length) (hsz : Ls.size = maxL) (stk : List Value) (hst : stk = argsL.reverse ++ .ref a :: st) (hW : (st.map fun v => v.category).sum ≤ W') (d : Dc bytes pc (.invokevirtual index) 3 pc') (hc : cells ≤ R.cells) (hs : slots ≤ R.slots)
    (K : ∀ T', St p l e R s m A below meth c Z T' h cells slots → Goes p e below W T' (mkF m pc' Ls (v.toList ++ st))) : Goes p e below W T (mkF m pc Ls stk) :=
  g_virtual C X w1 w2 nf w3 w4 hy Ex hK pd hlen hsz stk hst hW d hc hs fun T' h' v' hQ X' => by obtain ⟨rfl, rfl⟩ := hQ; exact K T' X'
theorem g_interfaceP {index count : Nat} {y z : MethodName} {K0 : String} {W' : Nat} {argsL : List Value} {v : Option Value} {ps : List FieldType} {rt : Option FieldType} {a : Addr} (C : Cx p s m meth c Z own nm bytes maxL ret) (X : St p l e R s m A below meth c Z T h cells slots)
    (w1 : (Jvm.Cond.methodLink own index y).before a0 Z = true) (w2 : (Jvm.Cond.declares y).before a0 Z = true) (w5 : (Jvm.Cond.interfaceMethod y.cls y.cls y.name y.desc).before A s = true) (w3 : (Jvm.Cond.selects K0 y z).before a0 Z = true) (w4 : (Jvm.Cond.instanceMethod z).before a0 Z = true) (w6 : (Jvm.Cond.publicMethod z).before a0 Z = true) (w7 : (Jvm.Cond.unhidden K0 y.name y.desc).before A s = true) (w8 : (Jvm.Cond.castable K0 y.cls).before a0 Z = true)
    (hy : y.cls ≠ "java/lang/invoke/MethodHandle" ∧ y.cls ≠ "java/lang/invoke/VarHandle") (Ex : Exa Z h a K0)
    (hK : Pay l R p e below s A z 5 W' 0 0 Z (.ref a :: argsL).toArray h (fun v' h' => v' = v ∧ h' = h)) (pd : parseMethodDescriptor y.desc = some ⟨ps, rt⟩) (hlen : argsL.length = ps.length) (hsz : Ls.size = maxL) (stk : List Value) (hst : stk = argsL.reverse ++ .ref a :: st) (hW : (st.map fun v => v.category).sum ≤ W') (d : Dc bytes pc (.invokeinterface index count) 5 pc') (hc : cells ≤ R.cells) (hs : slots ≤ R.slots)
    (K : ∀ T', St p l e R s m A below meth c Z T' h cells slots → Goes p e below W T' (mkF m pc' Ls (v.toList ++ st))) : Goes p e below W T (mkF m pc Ls stk) :=
  g_interface C X w1 w2 w5 w3 w4 w6 w7 w8 hy Ex hK pd hlen hsz stk hst hW d hc hs fun T' h' v' hQ X' => by obtain ⟨rfl, rfl⟩ := hQ; exact K T' X'
theorem g_initO {index : Nat} {a : Addr} (C : Cx p s m meth c Z own nm bytes maxL ret) (X : St p l e R s m A below meth c Z T h cells slots) (w1 : (Jvm.Cond.methodLink own index Lib.objectInit).before a0 Z = true) (w2 : (Jvm.Cond.instanceMethod Lib.objectInit).before a0 Z = true) (w3 : (Jvm.Cond.code Lib.objectInit ⟨#[0xb1]⟩ 1 none).before a0 Z = true) (hsz : Ls.size = maxL) (d : Dc bytes pc (.invokespecial index) 3 pc') (hf : 1 ≤ R.frames) (W' : Nat) (hW : (st.map fun v => v.category).sum ≤ W') (hl : W' + 12 ≤ R.locals)
    (K : ∀ T', St p l e R s m A below meth c Z T' h cells slots → Goes p e below W T' (mkF m pc' Ls st)) : Goes p e below W T (mkF m pc Ls (.ref a :: st)) := by
  obtain ⟨d, rfl⟩ := d
  obtain ⟨L0, Y, eT, N, E⟩ := X
  obtain ⟨T', Y', e', q⟩ := initO Y C.hx C.hZ C.hown w1 w2 w3 eT (g := mkF m pc Ls (.ref a :: st)) rfl (hsz.trans C.hml.symm) rfl (hb C.hby d) hf (W := W') (by show 2 * 0 + _ ≤ _; omega) hl
  exact Goes.via q (K T' ⟨L0, Y', e', N, E⟩)
theorem end_of {k n : Nat} {Q : Option Value → Heap → Prop} {v : Option Value} {L : List Loc} {fs : List Frame} (N : Fr Z.heap.size L) (E : Ext Z.heap T.heap) (hW : s.WarmedH (T.setFrames fs).vm) (hS : s.sameButNew ({ T.setFrames fs with vm := s.vm } : State) L cells slots) (hc : cells ≤ k) (hs : slots ≤ n) (hQ : Q v T.heap) : EndW Z s k n Q (.returned v) (T.setFrames fs) :=
  ⟨v, L, rfl, ⟨N, E, hQ⟩, ⟨_, rfl⟩, hW, hS.mono hc hs⟩
theorem g_retI {k n : Nat} {Q : Option Value → Heap → Prop} {z : Int32} (C : Cx p s m meth c Z own nm bytes maxL (some .int)) (X : St p l e R s m A below meth c Z T h cells slots) (d : Dc bytes pc .ireturn 1 pc') (hc : cells ≤ k) (hs : slots ≤ n) (hQ : Q (some (.int z)) h) : Goes p e below (EndW Z s k n Q) T (mkF m pc Ls (.int z :: st)) := by
  obtain ⟨L0, Y, rfl, N, E⟩ := X
  have hlk := C.hlk
  obtain ⟨fs, hr, hrun, hended, hW, hS⟩ := Y.leave (v := some (.int z)) (fun h => by rw [C.hret] at h; cases h) hlk
  exact ⟨_, _, retOut Y C.hx C.hret rfl (Or.inl ⟨rfl, Or.inl rfl, z, rfl⟩) (hb C.hby d.1) hr, hrun, hended, end_of N E hW hS hc hs hQ⟩
theorem g_retN {k n : Nat} {Q : Option Value → Heap → Prop} {z : Int32} {t : FieldType} (C : Cx p s m meth c Z own nm bytes maxL (some t)) (X : St p l e R s m A below meth c Z T h cells slots) (ht : t = .boolean ∨ t = .byte ∨ t = .char ∨ t = .short) (d : Dc bytes pc .ireturn 1 pc') (z' : Int32) (hz : nar t z = z') (hc : cells ≤ k) (hs : slots ≤ n) (hQ : Q (some (.int z')) h) : Goes p e below (EndW Z s k n Q) T (mkF m pc Ls (.int z :: st)) := by
  obtain ⟨L0, Y, rfl, N, E⟩ := X
  have hlk := C.hlk
  obtain ⟨fs, hr, hrun, hended, hW, hS⟩ := Y.leave (v := some (.int z')) (fun h => by rw [C.hret] at h; cases h) hlk
  rw [← hz] at hr
  exact ⟨_, _, retN Y C.hx C.hret ht (hb C.hby d.1) hr, hrun, hended, end_of N E hW hS hc hs hQ⟩
theorem g_retJ {k n : Nat} {Q : Option Value → Heap → Prop} {z : Int64} (C : Cx p s m meth c Z own nm bytes maxL (some .long)) (X : St p l e R s m A below meth c Z T h cells slots) (d : Dc bytes pc .lreturn 1 pc') (hc : cells ≤ k) (hs : slots ≤ n) (hQ : Q (some (.long z)) h) : Goes p e below (EndW Z s k n Q) T (mkF m pc Ls (.long z :: st)) := by
  obtain ⟨L0, Y, rfl, N, E⟩ := X
  have hlk := C.hlk
  obtain ⟨fs, hr, hrun, hended, hW, hS⟩ := Y.leave (v := some (.long z)) (fun h => by rw [C.hret] at h; cases h) hlk
  exact ⟨_, _, retOut Y C.hx C.hret rfl (Or.inr (Or.inl ⟨rfl, rfl, z, rfl⟩)) (hb C.hby d.1) hr, hrun, hended, end_of N E hW hS hc hs hQ⟩
theorem g_retA {k n : Nat} {Q : Option Value → Heap → Prop} {z : Value} {t : FieldType} (C : Cx p s m meth c Z own nm bytes maxL (some t)) (X : St p l e R s m A below meth c Z T h cells slots) (ht : t.isReference = true) (hz : z.isRef = true) (d : Dc bytes pc .areturn 1 pc') (hc : cells ≤ k) (hs : slots ≤ n) (hQ : Q (some z) h) : Goes p e below (EndW Z s k n Q) T (mkF m pc Ls (z :: st)) := by
  obtain ⟨L0, Y, rfl, N, E⟩ := X
  have hlk := C.hlk
  have hn : narrow t z = z := by cases t <;> first | rfl | (simp [FieldType.isReference] at ht; done) | (cases z <;> simp [Value.isRef] at hz <;> rfl)
  obtain ⟨fs, hr, hrun, hended, hW, hS⟩ := Y.leave (v := some z) (fun h => by rw [C.hret] at h; cases h) hlk
  exact ⟨_, _, retOut Y C.hx C.hret hn (Or.inr (Or.inr (Or.inr (Or.inr ⟨rfl, ht, hz⟩)))) (hb C.hby d.1) hr, hrun, hended, end_of N E hW hS hc hs hQ⟩
theorem g_retV {k n : Nat} {Q : Option Value → Heap → Prop} (C : Cx p s m meth c Z own nm bytes maxL none) (X : St p l e R s m A below meth c Z T h cells slots) (d : Dc bytes pc .return_ 1 pc') (hc : cells ≤ k) (hs : slots ≤ n) (hQ : Q none h) : Goes p e below (EndW Z s k n Q) T (mkF m pc Ls []) := by
  obtain ⟨L0, Y, rfl, N, E⟩ := X
  have hlk := C.hlk
  obtain ⟨fs, hr, hrun, hended, hW, hS⟩ := Y.leave (v := none) (fun _ => rfl) hlk
  exact ⟨_, _, Y.returnOut C.hx C.hret (hb C.hby d.1) hr, hrun, hended, end_of N E hW hS hc hs hQ⟩
end OwnKit
/-! from the case's words -/
theorem wd {a0 : Array Value} {Z : State} (hw : ∀ d ∈ tables_1, d.before a0 Z = true) (i : Nat) {d : Jvm.Cond} (h : tables_1[i]? = some d) : d.before a0 Z = true := hw d (List.mem_of_getElem? h)
theorem eqI_v {args : Array Value} {first s : State} {o : Option Outcome} {idx : List Nat} {t : Term} {k : Int32} (h : (Jvm.Cond.eq t (.int k)).value args first o s idx = some true) : t.eval args first o idx s = some (.int k) := by
  simp only [Cond.value, Term.eval] at h
  cases ht : t.eval args first o idx s with
  | none => simp [ht] at h
  | some x => cases x <;> simp [ht] at h ⊢; exact h
theorem eqJ_v {args : Array Value} {first s : State} {o : Option Outcome} {idx : List Nat} {t : Term} {k : Int64} (h : (Jvm.Cond.eq t (.long k)).value args first o s idx = some true) : t.eval args first o idx s = some (.long k) := by
  simp only [Cond.value, Term.eval] at h
  cases ht : t.eval args first o idx s with
  | none => simp [ht] at h
  | some x => cases x <;> simp [ht] at h ⊢; exact h
theorem eqR_v {args : Array Value} {first s : State} {o : Option Outcome} {idx : List Nat} {t u : Term} {a : Addr} (h : (Jvm.Cond.eq t u).value args first o s idx = some true) (hu : u.eval args first o idx s = some (.ref a)) : t.eval args first o idx s = some (.ref a) := by
  simp only [Cond.value, hu] at h
  cases ht : t.eval args first o idx s with
  | none => simp [ht] at h
  | some x => cases x <;> simp [ht] at h ⊢; exact h
theorem arr_start {args : Array Value} {Z : State} {t : Term} {a : Addr} {cl : Cell} {ty : FieldType} {n : Int32} {vs : List Value} (dv : Value) (hf : Fit Z) (A : Arr Z Z.heap a cl ty) (ev : t.eval args Z none [] Z = some (.ref a)) (hl : (Term.length t).eval args Z none [] Z = some (.int n)) (hn : ¬ n < 0) (hv : n.toNatClampNeg = vs.length)
    (H : HasL cl 0 vs) : Arv Z Z.heap a cl.cls ty n vs dv := by
  obtain ⟨a', c', e1, e2, e4⟩ := Term.length_spec hl
  cases ev.symm.trans e1
  cases A.1.symm.trans (State.arrayAt?_spec e2).1
  have e3 : cl.slots.size < 2 ^ 31 := by
    by_cases q : cl.slots.size < 2147483648
    · exact q
    · exfalso; simp [Term.eval, ev, e2, q] at hl
  exact Arv.start hf A e3 (Value.int.inj e4.symm) hn hv H
theorem elem_start {args : Array Value} {Z : State} {t : Term} {a : Addr} {cl : Cell} {ty : FieldType} {j : Int32} {v : Value} (A : Arr Z Z.heap a cl ty) (ev : t.eval args Z none [] Z = some (.ref a)) (h : (Term.elem t (.int j)).eval args Z none [] Z = some v) : cl.slots[j.toNatClampNeg]? = some v := (elem_in h ev (Term.int_eval j) A.1).2
theorem own_ch (x : Int32) : Value.int (nar .char ((x &&& (255 : Int32)).toUInt32.toUInt16.toUInt32.toInt32)) = .int (x &&& (255 : Int32)) := by
  show Value.int (((x &&& (255 : Int32)).toUInt32.toUInt16.toUInt32.toInt32).toUInt32.toUInt16.toUInt32.toInt32) = _
  rw [i2c_mask, i2c_mask]
theorem nz_v {args : Array Value} {Z : State} {t : Term} {z : Int32} (ev : t.eval args Z none [] Z = some (.int z)) (h : (Jvm.Cond.not (.eq t (.int 0))).value args Z none Z [] = some true) : ¬ z = 0 := by
  intro e; subst e
  have q := not_v h
  simp [Cond.value, ev, Term.eval] at q
theorem fld_of {args : Array Value} {Z : State} {t : Term} {a : Addr} {C n d : String} {v : Value} (ht : t.eval args Z none [] Z = some (.ref a)) (h : (Term.field t C n d).eval args Z none [] Z = some v) : Fld Z Z.heap a C n d v := Fld.start (by rw [← fld_at (args := args) (first := Z) (o := none) (idx := []) ht]; exact h)
theorem own_m255 (x : Int32) : ¬ (x &&& (255 : Int32)) < 0 ∧ ¬ (255 : Int32) < (x &&& (255 : Int32)) := by
  have h1 := c_mask x 255 8 (by decide) (by decide)
  simp only [Int32.lt_iff_toInt_lt, Int32.reduceToInt] at *
  omega
/-- new String(char[]) of known chars, as a payment -/
theorem payV {p : Program} {l : Launch} {e : Env} {R : Room} {s : State} {A : Array Value} {below : List Frame} {W' : Nat} {Z : State} {a0 : Array Value} {h : Heap} (hZ : Z.Warmed39 s.vm) (hE : Ext Z.heap h) (hw : ∀ d ∈ StrChars.Road.words, d.before a0 Z = true) {kI : Nat} (wi : (Jvm.Cond.instantiable "java/lang/String" kI).before a0 Z = true)
    {x b : Addr} {kC : ClassId} {cs : List Int32} {d v0 c0 : Value} {z N : Int32} {n : Nat} (hx0 : Z.heap.size ≤ x) (E : Exa Z h x "java/lang/String") (V : Fld Z h x "java/lang/String" "value" "[B" v0) (C : Fld Z h x "java/lang/String" "coder" "B" c0) (K : Arv Z h b kC .char N (cs.map Value.int) d) (S : Sta Z Z.heap "java/lang/String" "COMPACT_STRINGS" "Z" (.int z)) (hz : ¬ z = 0)
    (hn : cs.length = n) (hN : N = Int32.ofNat n) (l0 : 0 < n) (l2 : n ≤ 4000) (hp : ∀ c ∈ cs, ¬ c < 0 ∧ ¬ (255 : Int32) < c) (hfr : 4 ≤ R.frames) (hlo : W' + 65 ≤ R.locals) :
    Pay l R p e below s A (⟨"java/lang/String", "<init>", "([C)V"⟩ : MethodName) 3 W' 1 n Z #[.ref x, .ref b] h (fun v h' => v = none ∧ Keep h h' [x] ∧ Exa Z h' x "java/lang/String" ∧ Fld Z h' x "java/lang/String" "coder" "B" (.int 0) ∧
      ∃ (t : Addr) (kb : ClassId), Z.heap.size ≤ t ∧ h.size ≤ t ∧ ¬ t = x ∧ Fld Z h' x "java/lang/String" "value" "[B" (.ref t) ∧ Arv Z h' t kb .byte N ((cs.map fun c => c.toInt8.toInt32).map Value.int) (.int 0)) :=
  Back.mono (StrChars.Road.backV (n0 := Z.heap.size) (W := W') hZ hw wi hx0 hE.1 E V C K (S.ext hE) hz hn hN l0 l2 hp rfl hfr hlo) (fun _ _ q => q)
    (fun P a v B hp hq => by
      obtain ⟨L, ⟨q1, q2, q3, q4, q5, q6⟩, r⟩ := hq
      exact ⟨L, ⟨q2, ext_keep hE q3 (allS hx0 all0), q1, q3, q4, q5, q6⟩, r⟩)
theorem pn_0 : plainName "java/lang/Record" = true := by first | (simp [plainName, overriddenIn]; done) | decide +kernel
theorem ef_rm8 (m : MethodId) (a : Addr) : entryFrame m #[(.ref a)] 1 = mkF m 0 #[.val (.ref a)] [] := by first | (simp [entryFrame, mkF, argsToLocals, Value.category]; done) | rfl
theorem d8_0 : Dc jdk_30_method_1_code 0 (.aload_n 0) 1 1 := ⟨by decide +kernel, rfl⟩
theorem d8_1 : Dc jdk_30_method_1_code 1 (.invokespecial 1) 3 4 := ⟨by decide +kernel, rfl⟩
theorem d8_4 : Dc jdk_30_method_1_code 4 (.return_) 1 5 := ⟨by decide +kernel, rfl⟩
set_option maxRecDepth 65536 in
set_option maxHeartbeats 40000000 in
theorem rm8 (l : Launch) {Z : State} {a0 : Array Value} (hw : ∀ d ∈ tables_1, d.before a0 Z = true) {h : Heap} (hE : Ext Z.heap h) (a : Addr)   :
    Con l (⟨"java/lang/Record", "<init>", "()V"⟩ : MethodName) jdk_30_method_1_code 1 none [] ({ frames := 1, cells := 0, slots := 0, locals := 12 } : Room) Z #[(.ref a)] h (fun v' h' => v' = none ∧ h' = h) := by
  refine con_of (plainFor_of_name pn_0) hE (fun m => ef_rm8 m a) ?_
  intro p e s m below meth c T0 C X0
  have C : Cx p s m meth c Z "java/lang/Record" "<init>" jdk_30_method_1_code 1 none := C
  show Goes p e below _ T0 (mkF m 0 #[.val (.ref a)] [])
  refine g_aloadN C X0 d8_0 rfl rfl ?_
  refine g_initO C X0 (wd hw 41 rfl) (wd hw 12 rfl) (wd hw 13 rfl) rfl d8_1 (by decide) 0 (Nat.le_of_eq rfl) (by decide) (fun T1 X1 => ?_)
  exact g_retV C X1 d8_4 (by decide) (by decide) ⟨rfl, rfl⟩
theorem pn_1 : plainName "com/example/chapeau/chapeau/link/Link" = true := by first | (simp [plainName, overriddenIn]; done) | decide +kernel
theorem ef_rm7 (m : MethodId) (a : Addr) (p1 : Int32) (p2 : Int32) (a3 : Addr) (p4 : Int32) (a5 : Addr) (p6 : Int32) : entryFrame m #[(.ref a), (.int p1), (.int p2), (.ref a3), (.int p4), (.ref a5), (.int p6)] 7 = mkF m 0 #[.val (.ref a), .val (.int p1), .val (.int p2), .val (.ref a3), .val (.int p4), .val (.ref a5), .val (.int p6)] [] := by first | (simp [entryFrame, mkF, argsToLocals, Value.category]; done) | rfl
theorem d7_0 : Dc prog_67_method_1_code 0 (.aload_n 0) 1 1 := ⟨by decide +kernel, rfl⟩
theorem d7_1 : Dc prog_67_method_1_code 1 (.invokespecial 1) 3 4 := ⟨by decide +kernel, rfl⟩
theorem pd_0 : parseMethodDescriptor "()V" = some ⟨[], none⟩ := by decide +kernel
theorem d7_4 : Dc prog_67_method_1_code 4 (.aload_n 0) 1 5 := ⟨by decide +kernel, rfl⟩
theorem d7_5 : Dc prog_67_method_1_code 5 (.iload_n 1) 1 6 := ⟨by decide +kernel, rfl⟩
theorem d7_6 : Dc prog_67_method_1_code 6 (.putfield 7) 3 9 := ⟨by decide +kernel, rfl⟩
theorem d7_9 : Dc prog_67_method_1_code 9 (.aload_n 0) 1 10 := ⟨by decide +kernel, rfl⟩
theorem d7_10 : Dc prog_67_method_1_code 10 (.iload_n 2) 1 11 := ⟨by decide +kernel, rfl⟩
theorem d7_11 : Dc prog_67_method_1_code 11 (.putfield 13) 3 14 := ⟨by decide +kernel, rfl⟩
theorem d7_14 : Dc prog_67_method_1_code 14 (.aload_n 0) 1 15 := ⟨by decide +kernel, rfl⟩
theorem d7_15 : Dc prog_67_method_1_code 15 (.aload_n 3) 1 16 := ⟨by decide +kernel, rfl⟩
theorem d7_16 : Dc prog_67_method_1_code 16 (.putfield 16) 3 19 := ⟨by decide +kernel, rfl⟩
theorem d7_19 : Dc prog_67_method_1_code 19 (.aload_n 0) 1 20 := ⟨by decide +kernel, rfl⟩
theorem d7_20 : Dc prog_67_method_1_code 20 (.iload 4) 2 22 := ⟨by decide +kernel, rfl⟩
theorem d7_22 : Dc prog_67_method_1_code 22 (.putfield 20) 3 25 := ⟨by decide +kernel, rfl⟩
theorem d7_25 : Dc prog_67_method_1_code 25 (.aload_n 0) 1 26 := ⟨by decide +kernel, rfl⟩
theorem d7_26 : Dc prog_67_method_1_code 26 (.aload 5) 2 28 := ⟨by decide +kernel, rfl⟩
theorem d7_28 : Dc prog_67_method_1_code 28 (.putfield 24) 3 31 := ⟨by decide +kernel, rfl⟩
theorem d7_31 : Dc prog_67_method_1_code 31 (.aload_n 0) 1 32 := ⟨by decide +kernel, rfl⟩
theorem d7_32 : Dc prog_67_method_1_code 32 (.iload 6) 2 34 := ⟨by decide +kernel, rfl⟩
theorem d7_34 : Dc prog_67_method_1_code 34 (.putfield 27) 3 37 := ⟨by decide +kernel, rfl⟩
theorem d7_37 : Dc prog_67_method_1_code 37 (.return_) 1 38 := ⟨by decide +kernel, rfl⟩
set_option maxRecDepth 65536 in
set_option maxHeartbeats 40000000 in
theorem rm7 (l : Launch) {Z : State} {a0 : Array Value} (hw : ∀ d ∈ tables_1, d.before a0 Z = true) {h : Heap} (hE : Ext Z.heap h) (a : Addr) (p1 : Int32) (p2 : Int32) (a3 : Addr) (p4 : Int32) (a5 : Addr) (p6 : Int32)  (E : Exa Z h a "com/example/chapeau/chapeau/link/Link") (F_source : Fld Z h a "com/example/chapeau/chapeau/link/Link" "source" "I" (.int (0 : Int32))) (F_field : Fld Z h a "com/example/chapeau/chapeau/link/Link" "field" "I" (.int (0 : Int32))) (F_tag : Fld Z h a "com/example/chapeau/chapeau/link/Link" "tag" "Ljava/lang/String;" .null) (F_code : Fld Z h a "com/example/chapeau/chapeau/link/Link" "code" "C" (.int (0 : Int32))) (F_value : Fld Z h a "com/example/chapeau/chapeau/link/Link" "value" "Ljava/lang/String;" .null) (F_target : Fld Z h a "com/example/chapeau/chapeau/link/Link" "target" "I" (.int (0 : Int32))) (hn : Z.heap.size ≤ a) (hc1 : narrow .char (.int p4) = .int p4) (hc2 : fits .char (.int p4) = true) :
    Con l (⟨"com/example/chapeau/chapeau/link/Link", "<init>", "(IILjava/lang/String;CLjava/lang/String;I)V"⟩ : MethodName) prog_67_method_1_code 7 none [] ({ frames := 2, cells := 0, slots := 0, locals := 24 } : Room) Z #[(.ref a), (.int p1), (.int p2), (.ref a3), (.int p4), (.ref a5), (.int p6)] h (fun v' h' => v' = none ∧ Keep h h' [a] ∧ Fld Z h' a "com/example/chapeau/chapeau/link/Link" "target" "I" (.int p6)) := by
  refine con_of (plainFor_of_name pn_1) hE (fun m => ef_rm7 m a p1 p2 a3 p4 a5 p6) ?_
  intro p e s m below meth c T0 C X0
  have C : Cx p s m meth c Z "com/example/chapeau/chapeau/link/Link" "<init>" prog_67_method_1_code 7 none := C
  show Goes p e below _ T0 (mkF m 0 #[.val (.ref a), .val (.int p1), .val (.int p2), .val (.ref a3), .val (.int p4), .val (.ref a5), .val (.int p6)] [])
  refine g_aloadN C X0 d7_0 rfl rfl ?_
  refine g_specialP (argsL := []) (st := []) C X0 rfl (wd hw 36 rfl) (wd hw 37 rfl) (wd hw 40 rfl) (by decide) (pay_of (W' := 0) (rm8 l hw X0.ext a) C.hZ (wd hw 40 rfl) (wd hw 39 rfl) (by decide) (by decide)) pd_0 rfl rfl _ rfl (Nat.le_of_eq rfl) d7_1 (by decide) (by decide) (fun T2 X2 => ?_)
  show Goes p e below _ T2 (mkF m 4 #[.val (.ref a), .val (.int p1), .val (.int p2), .val (.ref a3), .val (.int p4), .val (.ref a5), .val (.int p6)] [])
  refine g_aloadN C X2 d7_4 rfl rfl ?_
  refine g_iloadN C X2 d7_5 rfl ?_
  refine g_putfield (host := "") C X2 (Or.inl (wd hw 42 rfl)) Via.refl F_source E (Or.inr ⟨(wd hw 43 rfl), rfl, rfl⟩) (wd hw 31 rfl) (ty := .int) (by decide) rfl rfl hn d7_6 (fun T3 h3 X3 W3 => ?_)
  have f3 := Fld.same W3 F_source
  refine g_aloadN C X3 d7_9 rfl rfl ?_
  refine g_iloadN C X3 d7_10 rfl ?_
  have f4 := (Fld.other W3 F_field (Or.inr (slot_ne (Or.inr (wd hw 45 rfl)) (Or.inr (wd hw 43 rfl)) (by decide) (t := .int) (t' := .int) (by decide) (by decide))))
  have f5 := (Exa.wr W3 E)
  refine g_putfield (host := "") C X3 (Or.inl (wd hw 44 rfl)) Via.refl f4 f5 (Or.inr ⟨(wd hw 45 rfl), rfl, rfl⟩) (wd hw 31 rfl) (ty := .int) (by decide) rfl rfl hn d7_11 (fun T6 h6 X6 W6 => ?_)
  have f6 := Fld.same W6 f4
  refine g_aloadN C X6 d7_14 rfl rfl ?_
  refine g_aloadN C X6 d7_15 rfl rfl ?_
  have f7 := (Fld.other W6 (Fld.other W3 F_tag (Or.inr (slot_ne (Or.inr (wd hw 47 rfl)) (Or.inr (wd hw 43 rfl)) (by decide) (t := (.object "java/lang/String")) (t' := .int) (by decide) (by decide)))) (Or.inr (slot_ne (Or.inr (wd hw 47 rfl)) (Or.inr (wd hw 45 rfl)) (by decide) (t := (.object "java/lang/String")) (t' := .int) (by decide) (by decide))))
  have f8 := (Exa.wr W6 f5)
  refine g_putfield (host := "") C X6 (Or.inl (wd hw 46 rfl)) Via.refl f7 f8 (Or.inr ⟨(wd hw 47 rfl), rfl, rfl⟩) (wd hw 31 rfl) (ty := (.object "java/lang/String")) (by decide) rfl rfl hn d7_16 (fun T9 h9 X9 W9 => ?_)
  have f9 := Fld.same W9 f7
  refine g_aloadN C X9 d7_19 rfl rfl ?_
  refine g_iload C X9 d7_20 rfl ?_
  have f10 := (Fld.other W9 (Fld.other W6 (Fld.other W3 F_code (Or.inr (slot_ne (Or.inr (wd hw 49 rfl)) (Or.inr (wd hw 43 rfl)) (by decide) (t := .char) (t' := .int) (by decide) (by decide)))) (Or.inr (slot_ne (Or.inr (wd hw 49 rfl)) (Or.inr (wd hw 45 rfl)) (by decide) (t := .char) (t' := .int) (by decide) (by decide)))) (Or.inr (slot_ne (Or.inr (wd hw 49 rfl)) (Or.inr (wd hw 47 rfl)) (by decide) (t := .char) (t' := (.object "java/lang/String")) (by decide) (by decide))))
  have f11 := (Exa.wr W9 f8)
  refine g_putfield (host := "") C X9 (Or.inl (wd hw 48 rfl)) Via.refl f10 f11 (Or.inr ⟨(wd hw 49 rfl), rfl, rfl⟩) (wd hw 31 rfl) (ty := .char) (by decide) hc1 hc2 hn d7_22 (fun T12 h12 X12 W12 => ?_)
  have f12 := Fld.same W12 f10
  refine g_aloadN C X12 d7_25 rfl rfl ?_
  refine g_aload C X12 d7_26 rfl rfl ?_
  have f13 := (Fld.other W12 (Fld.other W9 (Fld.other W6 (Fld.other W3 F_value (Or.inr (slot_ne (Or.inr (wd hw 51 rfl)) (Or.inr (wd hw 43 rfl)) (by decide) (t := (.object "java/lang/String")) (t' := .int) (by decide) (by decide)))) (Or.inr (slot_ne (Or.inr (wd hw 51 rfl)) (Or.inr (wd hw 45 rfl)) (by decide) (t := (.object "java/lang/String")) (t' := .int) (by decide) (by decide)))) (Or.inr (slot_ne (Or.inr (wd hw 51 rfl)) (Or.inr (wd hw 47 rfl)) (by decide) (t := (.object "java/lang/String")) (t' := (.object "java/lang/String")) (by decide) (by decide)))) (Or.inr (slot_ne (Or.inr (wd hw 51 rfl)) (Or.inr (wd hw 49 rfl)) (by decide) (t := (.object "java/lang/String")) (t' := .char) (by decide) (by decide))))
  have f14 := (Exa.wr W12 f11)
  refine g_putfield (host := "") C X12 (Or.inl (wd hw 50 rfl)) Via.refl f13 f14 (Or.inr ⟨(wd hw 51 rfl), rfl, rfl⟩) (wd hw 31 rfl) (ty := (.object "java/lang/String")) (by decide) rfl rfl hn d7_28 (fun T15 h15 X15 W15 => ?_)
  have f15 := Fld.same W15 f13
  refine g_aloadN C X15 d7_31 rfl rfl ?_
  refine g_iload C X15 d7_32 rfl ?_
  have f16 := (Fld.other W15 (Fld.other W12 (Fld.other W9 (Fld.other W6 (Fld.other W3 F_target (Or.inr (slot_ne (Or.inr (wd hw 53 rfl)) (Or.inr (wd hw 43 rfl)) (by decide) (t := .int) (t' := .int) (by decide) (by decide)))) (Or.inr (slot_ne (Or.inr (wd hw 53 rfl)) (Or.inr (wd hw 45 rfl)) (by decide) (t := .int) (t' := .int) (by decide) (by decide)))) (Or.inr (slot_ne (Or.inr (wd hw 53 rfl)) (Or.inr (wd hw 47 rfl)) (by decide) (t := .int) (t' := (.object "java/lang/String")) (by decide) (by decide)))) (Or.inr (slot_ne (Or.inr (wd hw 53 rfl)) (Or.inr (wd hw 49 rfl)) (by decide) (t := .int) (t' := .char) (by decide) (by decide)))) (Or.inr (slot_ne (Or.inr (wd hw 53 rfl)) (Or.inr (wd hw 51 rfl)) (by decide) (t := .int) (t' := (.object "java/lang/String")) (by decide) (by decide))))
  have f17 := (Exa.wr W15 f14)
  refine g_putfield (host := "") C X15 (Or.inl (wd hw 52 rfl)) Via.refl f16 f17 (Or.inr ⟨(wd hw 53 rfl), rfl, rfl⟩) (wd hw 31 rfl) (ty := .int) (by decide) rfl rfl hn d7_34 (fun T18 h18 X18 W18 => ?_)
  have f18 := Fld.same W18 f16
  have kp19 := (Keep.refl h [a]).wr W3 (Or.inl (by simp))
  have kp20 := kp19.wr W6 (Or.inl (by simp))
  have kp21 := kp20.wr W9 (Or.inl (by simp))
  have kp22 := kp21.wr W12 (Or.inl (by simp))
  have kp23 := kp22.wr W15 (Or.inl (by simp))
  have kp24 := kp23.wr W18 (Or.inl (by simp))
  exact g_retV C X18 d7_37 (by decide) (by decide) ⟨rfl, kp24, f18⟩
theorem ef_rm9 (m : MethodId) (a : Addr) : entryFrame m #[(.ref a)] 1 = mkF m 0 #[.val (.ref a)] [] := by first | (simp [entryFrame, mkF, argsToLocals, Value.category]; done) | rfl
theorem d9_0 : Dc prog_67_method_2_code 0 (.aload_n 0) 1 1 := ⟨by decide +kernel, rfl⟩
theorem d9_1 : Dc prog_67_method_2_code 1 (.getfield 27) 3 4 := ⟨by decide +kernel, rfl⟩
theorem d9_4 : Dc prog_67_method_2_code 4 (.iconst (-1)) 1 5 := ⟨by decide +kernel, rfl⟩
theorem d9_5 : Dj prog_67_method_2_code 5 (.if_icmp .eq 7) 7 3 8 12 := ⟨by decide +kernel, rfl, by decide, by decide⟩
theorem d9_12 : Dc prog_67_method_2_code 12 (.iconst 0) 1 13 := ⟨by decide +kernel, rfl⟩
theorem d9_13 : Dc prog_67_method_2_code 13 (.ireturn) 1 14 := ⟨by decide +kernel, rfl⟩
theorem d9_8 : Dc prog_67_method_2_code 8 (.iconst 1) 1 9 := ⟨by decide +kernel, rfl⟩
theorem d9_9 : Dj prog_67_method_2_code 9 (.goto 4) 4 3 12 13 := ⟨by decide +kernel, rfl, by decide, by decide⟩
set_option maxRecDepth 65536 in
set_option maxHeartbeats 40000000 in
theorem rm9 (l : Launch) {Z : State} {a0 : Array Value} (hw : ∀ d ∈ tables_1, d.before a0 Z = true) {h : Heap} (hE : Ext Z.heap h) (a : Addr) (k : Int32) (F : Fld Z h a "com/example/chapeau/chapeau/link/Link" "target" "I" (.int k)) :
    Con l (⟨"com/example/chapeau/chapeau/link/Link", "isResolved", "()Z"⟩ : MethodName) prog_67_method_2_code 1 (some .boolean) [] ({ frames := 0, cells := 0, slots := 0, locals := 0 } : Room) Z #[(.ref a)] h (fun v' h' => v' = some (.int (if k = -1 then 0 else 1)) ∧ h' = h) := by
  refine con_of (plainFor_of_name pn_1) hE (fun m => ef_rm9 m a) ?_
  intro p e s m below meth c T0 C X0
  have C : Cx p s m meth c Z "com/example/chapeau/chapeau/link/Link" "isResolved" prog_67_method_2_code 1 (some .boolean) := C
  show Goes p e below _ T0 (mkF m 0 #[.val (.ref a)] [])
  refine g_aloadN C X0 d9_0 rfl rfl ?_
  refine g_getfield (host := "") C X0 (Or.inl (wd hw 52 rfl)) Via.refl F d9_1 (fun T25 X25 => ?_)
  refine g_iconst (-1 : Int32) C X25 d9_4 rfl ?_
  refine g_icmp (hI_eq _ _) C X25 d9_5 (fun c5_26 => ?_) (fun c5_26 => ?_)
  · refine g_iconst (0 : Int32) C X25 d9_12 rfl ?_
    exact g_retN C X25 (by simp) d9_13 (0 : Int32) rfl (by decide) (by decide) ⟨by simp [*], rfl⟩
  · refine g_iconst (1 : Int32) C X25 d9_8 rfl ?_
    refine g_goto C X25 d9_9 ?_
    exact g_retN C X25 (by simp) d9_13 (1 : Int32) rfl (by decide) (by decide) ⟨by simp [*], rfl⟩
theorem own_nn (x : Int32) : ¬ ((x >>> ((1 : Int32) &&& 31)) &&& (2147483647 : Int32)) < 0 := by
  have h1 := c_mask (x >>> ((1 : Int32) &&& 31)) 2147483647 31 (by decide) (by decide)
  simp only [Int32.lt_iff_toInt_lt, Int32.reduceToInt] at *
  omega
theorem own_n1 (x : Int32) : ¬ ((x >>> ((1 : Int32) &&& 31)) &&& (2147483647 : Int32)) = -1 := fun e => own_nn x (by rw [e]; decide)
theorem pn_2 : plainName "com/example/chapeau/chapeau/link/LinkIsResolvedPinLaw" = true := by first | (simp [plainName, overriddenIn]; done) | decide +kernel
theorem ef_rm0 (m : MethodId) (p0 : Int32) (p1 : Int32) (p2 : Int32) (p3 : Int32) (p4 : Int32) (p5 : Int32) : entryFrame m #[(.int p0), (.int p1), (.int p2), (.int p3), (.int p4), (.int p5)] maxLocals = mkF m 0 #[.val (.int p0), .val (.int p1), .val (.int p2), .val (.int p3), .val (.int p4), .val (.int p5), .unset, .unset, .unset, .unset, .unset, .unset, .unset, .unset] [] := by first | (simp [entryFrame, mkF, argsToLocals, Value.category, maxLocals]; done) | rfl
theorem d0_0 : Dc code 0 (.iload 5) 2 2 := ⟨at_0, rfl⟩
theorem d0_2 : Dc code 2 (.iconst 1) 1 3 := ⟨at_2, rfl⟩
theorem d0_3 : Dc code 3 (.iand) 1 4 := ⟨at_3, rfl⟩
theorem d0_4 : Dj code 4 (.ifCond .eq 7) 7 3 7 11 := ⟨at_4, rfl, by decide, by decide⟩
theorem d0_11 : Dc code 11 (.iload 5) 2 13 := ⟨at_11, rfl⟩
theorem d0_13 : Dc code 13 (.iconst 1) 1 14 := ⟨at_13, rfl⟩
theorem d0_14 : Dc code 14 (.ishr) 1 15 := ⟨at_14, rfl⟩
theorem d0_15 : Dc code 15 (.ldc 7) 2 17 := ⟨at_15, rfl⟩
theorem d0_17 : Dc code 17 (.iand) 1 18 := ⟨at_17, rfl⟩
theorem d0_18 : Dc code 18 (.istore 6) 2 20 := ⟨at_18, rfl⟩
theorem d0_20 : Dc code 20 (.iconst 3) 1 21 := ⟨at_20, rfl⟩
theorem d0_21 : Dc code 21 (.newarray .char) 2 23 := ⟨at_21, rfl⟩
theorem d0_23 : Dc code 23 (.astore 7) 2 25 := ⟨at_23, rfl⟩
theorem d0_25 : Dc code 25 (.aload 7) 2 27 := ⟨at_25, rfl⟩
theorem d0_27 : Dc code 27 (.iconst 0) 1 28 := ⟨at_27, rfl⟩
theorem d0_28 : Dc code 28 (.iload_n 2) 1 29 := ⟨at_28, rfl⟩
theorem d0_29 : Dc code 29 (.sipush 255) 3 32 := ⟨at_29, rfl⟩
theorem d0_32 : Dc code 32 (.iand) 1 33 := ⟨at_32, rfl⟩
theorem d0_33 : Dc code 33 (.i2c) 1 34 := ⟨at_33, rfl⟩
theorem d0_34 : Dc code 34 (.castore) 1 35 := ⟨at_34, rfl⟩
theorem d0_35 : Dc code 35 (.aload 7) 2 37 := ⟨at_35, rfl⟩
theorem d0_37 : Dc code 37 (.iconst 1) 1 38 := ⟨at_37, rfl⟩
theorem d0_38 : Dc code 38 (.iload_n 2) 1 39 := ⟨at_38, rfl⟩
theorem d0_39 : Dc code 39 (.bipush 8) 2 41 := ⟨at_39, rfl⟩
theorem d0_41 : Dc code 41 (.iushr) 1 42 := ⟨at_41, rfl⟩
theorem d0_42 : Dc code 42 (.sipush 255) 3 45 := ⟨at_42, rfl⟩
theorem d0_45 : Dc code 45 (.iand) 1 46 := ⟨at_45, rfl⟩
theorem d0_46 : Dc code 46 (.i2c) 1 47 := ⟨at_46, rfl⟩
theorem d0_47 : Dc code 47 (.castore) 1 48 := ⟨at_47, rfl⟩
theorem d0_48 : Dc code 48 (.aload 7) 2 50 := ⟨at_48, rfl⟩
theorem d0_50 : Dc code 50 (.iconst 2) 1 51 := ⟨at_50, rfl⟩
theorem d0_51 : Dc code 51 (.iload_n 2) 1 52 := ⟨at_51, rfl⟩
theorem d0_52 : Dc code 52 (.bipush 16) 2 54 := ⟨at_52, rfl⟩
theorem d0_54 : Dc code 54 (.iushr) 1 55 := ⟨at_54, rfl⟩
theorem d0_55 : Dc code 55 (.sipush 255) 3 58 := ⟨at_55, rfl⟩
theorem d0_58 : Dc code 58 (.iand) 1 59 := ⟨at_58, rfl⟩
theorem d0_59 : Dc code 59 (.i2c) 1 60 := ⟨at_59, rfl⟩
theorem d0_60 : Dc code 60 (.castore) 1 61 := ⟨at_60, rfl⟩
theorem d0_61 : Dc code 61 (.new 8) 3 64 := ⟨at_61, rfl⟩
theorem d0_64 : Dc code 64 (.dup) 1 65 := ⟨at_64, rfl⟩
theorem d0_65 : Dc code 65 (.aload 7) 2 67 := ⟨at_65, rfl⟩
theorem d0_67 : Dc code 67 (.invokespecial 10) 3 70 := ⟨at_67, rfl⟩
theorem pd_1 : parseMethodDescriptor "([C)V" = some ⟨[(.array .char)], none⟩ := by decide +kernel
theorem d0_70 : Dc code 70 (.astore 8) 2 72 := ⟨at_70, rfl⟩
theorem d0_72 : Dc code 72 (.iload_n 3) 1 73 := ⟨at_72, rfl⟩
theorem d0_73 : Dc code 73 (.sipush 255) 3 76 := ⟨at_73, rfl⟩
theorem d0_76 : Dc code 76 (.iand) 1 77 := ⟨at_76, rfl⟩
theorem d0_77 : Dc code 77 (.i2c) 1 78 := ⟨at_77, rfl⟩
theorem d0_78 : Dc code 78 (.istore 9) 2 80 := ⟨at_78, rfl⟩
theorem d0_80 : Dc code 80 (.iconst 2) 1 81 := ⟨at_80, rfl⟩
theorem d0_81 : Dc code 81 (.newarray .char) 2 83 := ⟨at_81, rfl⟩
theorem d0_83 : Dc code 83 (.astore 10) 2 85 := ⟨at_83, rfl⟩
theorem d0_85 : Dc code 85 (.aload 10) 2 87 := ⟨at_85, rfl⟩
theorem d0_87 : Dc code 87 (.iconst 0) 1 88 := ⟨at_87, rfl⟩
theorem d0_88 : Dc code 88 (.iload 4) 2 90 := ⟨at_88, rfl⟩
theorem d0_90 : Dc code 90 (.sipush 255) 3 93 := ⟨at_90, rfl⟩
theorem d0_93 : Dc code 93 (.iand) 1 94 := ⟨at_93, rfl⟩
theorem d0_94 : Dc code 94 (.i2c) 1 95 := ⟨at_94, rfl⟩
theorem d0_95 : Dc code 95 (.castore) 1 96 := ⟨at_95, rfl⟩
theorem d0_96 : Dc code 96 (.aload 10) 2 98 := ⟨at_96, rfl⟩
theorem d0_98 : Dc code 98 (.iconst 1) 1 99 := ⟨at_98, rfl⟩
theorem d0_99 : Dc code 99 (.iload 4) 2 101 := ⟨at_99, rfl⟩
theorem d0_101 : Dc code 101 (.bipush 8) 2 103 := ⟨at_101, rfl⟩
theorem d0_103 : Dc code 103 (.iushr) 1 104 := ⟨at_103, rfl⟩
theorem d0_104 : Dc code 104 (.sipush 255) 3 107 := ⟨at_104, rfl⟩
theorem d0_107 : Dc code 107 (.iand) 1 108 := ⟨at_107, rfl⟩
theorem d0_108 : Dc code 108 (.i2c) 1 109 := ⟨at_108, rfl⟩
theorem d0_109 : Dc code 109 (.castore) 1 110 := ⟨at_109, rfl⟩
theorem d0_110 : Dc code 110 (.new 8) 3 113 := ⟨at_110, rfl⟩
theorem d0_113 : Dc code 113 (.dup) 1 114 := ⟨at_113, rfl⟩
theorem d0_114 : Dc code 114 (.aload 10) 2 116 := ⟨at_114, rfl⟩
theorem d0_116 : Dc code 116 (.invokespecial 10) 3 119 := ⟨at_116, rfl⟩
theorem d0_119 : Dc code 119 (.astore 11) 2 121 := ⟨at_119, rfl⟩
theorem d0_121 : Dc code 121 (.new 13) 3 124 := ⟨at_121, rfl⟩
theorem d0_124 : Dc code 124 (.dup) 1 125 := ⟨at_124, rfl⟩
theorem d0_125 : Dc code 125 (.iload_n 0) 1 126 := ⟨at_125, rfl⟩
theorem d0_126 : Dc code 126 (.iload_n 1) 1 127 := ⟨at_126, rfl⟩
theorem d0_127 : Dc code 127 (.aload 8) 2 129 := ⟨at_127, rfl⟩
theorem d0_129 : Dc code 129 (.iload 9) 2 131 := ⟨at_129, rfl⟩
theorem d0_131 : Dc code 131 (.aload 11) 2 133 := ⟨at_131, rfl⟩
theorem d0_133 : Dc code 133 (.iload 6) 2 135 := ⟨at_133, rfl⟩
theorem d0_135 : Dc code 135 (.invokespecial 15) 3 138 := ⟨at_135, rfl⟩
theorem pd_2 : parseMethodDescriptor "(IILjava/lang/String;CLjava/lang/String;I)V" = some ⟨[.int, .int, (.object "java/lang/String"), .char, (.object "java/lang/String"), .int], none⟩ := by decide +kernel
theorem d0_138 : Dc code 138 (.astore 12) 2 140 := ⟨at_138, rfl⟩
theorem d0_140 : Dc code 140 (.iload 6) 2 142 := ⟨at_140, rfl⟩
theorem d0_142 : Dj code 142 (.ifCond .lt 7) 7 3 145 149 := ⟨at_142, rfl, by decide, by decide⟩
theorem d0_145 : Dc code 145 (.iconst 1) 1 146 := ⟨at_145, rfl⟩
theorem d0_146 : Dj code 146 (.goto 4) 4 3 149 150 := ⟨at_146, rfl, by decide, by decide⟩
theorem d0_150 : Dc code 150 (.istore 13) 2 152 := ⟨at_150, rfl⟩
theorem d0_152 : Dc code 152 (.aload 12) 2 154 := ⟨at_152, rfl⟩
theorem d0_154 : Dc code 154 (.invokevirtual 18) 3 157 := ⟨at_154, rfl⟩
theorem pd_3 : parseMethodDescriptor "()Z" = some ⟨[], some .boolean⟩ := by decide +kernel
theorem d0_157 : Dc code 157 (.iload 13) 2 159 := ⟨at_157, rfl⟩
theorem d0_159 : Dj code 159 (.if_icmp .ne 7) 7 3 162 166 := ⟨at_159, rfl, by decide, by decide⟩
theorem d0_162 : Dc code 162 (.iconst 1) 1 163 := ⟨at_162, rfl⟩
theorem d0_163 : Dj code 163 (.goto 4) 4 3 166 167 := ⟨at_163, rfl, by decide, by decide⟩
theorem d0_167 : Dc code 167 (.ireturn) 1 168 := ⟨at_167, rfl⟩
theorem d0_7 : Dc code 7 (.iconst (-1)) 1 8 := ⟨at_7, rfl⟩
theorem d0_8 : Dj code 8 (.goto 10) 10 3 11 18 := ⟨at_8, rfl, by decide, by decide⟩
theorem d0_149 : Dc code 149 (.iconst 0) 1 150 := ⟨at_149, rfl⟩
set_option maxRecDepth 65536 in
set_option maxHeartbeats 40000000 in
theorem rm0 (l : Launch) {Z : State} {a0 : Array Value} (hw : ∀ d ∈ tables_1, d.before a0 Z = true) {h : Heap} (hE : Ext Z.heap h) (p0 : Int32) (p1 : Int32) (p2 : Int32) (p3 : Int32) (p4 : Int32) (p5 : Int32) (z : Int32) (SZ : Sta Z Z.heap "java/lang/String" "COMPACT_STRINGS" "Z" (.int z)) (hz : ¬ z = 0) :
    Con l x code maxLocals ret tables_1 room_1 Z #[(.int p0), (.int p1), (.int p2), (.int p3), (.int p4), (.int p5)] h (fun v' h' => v' = some (.int 1)) := by
  refine con_of (plainFor_of_name pn_2) hE (fun m => ef_rm0 m p0 p1 p2 p3 p4 p5) ?_
  intro p e s m below meth c T0 C X0
  have C : Cx p s m meth c Z "com/example/chapeau/chapeau/link/LinkIsResolvedPinLaw" "law" code maxLocals ret := C
  show Goes p e below _ T0 (mkF m 0 #[.val (.int p0), .val (.int p1), .val (.int p2), .val (.int p3), .val (.int p4), .val (.int p5), .unset, .unset, .unset, .unset, .unset, .unset, .unset, .unset] [])
  have hws : ∀ d ∈ StrChars.Road.words, d.before a0 Z = true := fun d hd => hw d ((show ∀ d ∈ StrChars.Road.words, d ∈ tables_1 by decide +kernel) d hd)
  refine g_iload C X0 d0_0 rfl ?_
  refine g_iconst (1 : Int32) C X0 d0_2 rfl ?_
  refine g_iand C X0 d0_3 ?_
  refine g_if (h0_eq _) C X0 d0_4 (fun c4_27 => ?_) (fun c4_27 => ?_)
  · refine g_iload C X0 d0_11 rfl ?_
    refine g_iconst (1 : Int32) C X0 d0_13 rfl ?_
    refine g_ishr C X0 d0_14 ?_
    refine g_ldcI C X0 (wd hw 59 rfl) d0_15 ?_
    refine g_iand C X0 d0_17 ?_
    refine g_istore C X0 d0_18 (l' := #[.val (.int p0), .val (.int p1), .val (.int p2), .val (.int p3), .val (.int p4), .val (.int p5), .val (.int ((p5 >>> ((1 : Int32) &&& 31)) &&& (2147483647 : Int32))), .unset, .unset, .unset, .unset, .unset, .unset, .unset]) rfl ?_
    refine g_iconst (3 : Int32) C X0 d0_20 rfl ?_
    refine g_newarray C X0 (wd hw 0 rfl) d0_21 (by decide) 3 (by decide) (by decide) (by decide) (by decide) (fun T28 h28 b28 k_b28 g_b28 n_b28 X28 E28 V28 => ?_)
    have V_b28 : Arv Z h28 b28 k_b28 .char (3 : Int32) [(.int (0 : Int32)), (.int (0 : Int32)), (.int (0 : Int32))] (.int (0 : Int32)) := V28
    refine g_astore C X28 d0_23 rfl (l' := #[.val (.int p0), .val (.int p1), .val (.int p2), .val (.int p3), .val (.int p4), .val (.int p5), .val (.int ((p5 >>> ((1 : Int32) &&& 31)) &&& (2147483647 : Int32))), .val (.ref b28), .unset, .unset, .unset, .unset, .unset, .unset]) rfl ?_
    refine g_aload C X28 d0_25 rfl rfl ?_
    refine g_iconst (0 : Int32) C X28 d0_27 rfl ?_
    refine g_iloadN C X28 d0_28 rfl ?_
    refine g_sipush (255 : Int32) C X28 d0_29 rfl ?_
    refine g_iand C X28 d0_32 ?_
    refine g_i2c C X28 d0_33 ?_
    refine g_castore C X28 V_b28 n_b28 d0_34 (by decide) (by decide) (Nat.le_of_ble_eq_true rfl) (.int (p2 &&& (255 : Int32))) (own_ch _) (fun T29 h29 X29 W29 V29 => ?_)
    have V29_b28 : Arv Z h29 b28 k_b28 .char (3 : Int32) [(.int (p2 &&& (255 : Int32))), (.int (0 : Int32)), (.int (0 : Int32))] (.int (0 : Int32)) := V29
    refine g_aload C X29 d0_35 rfl rfl ?_
    refine g_iconst (1 : Int32) C X29 d0_37 rfl ?_
    refine g_iloadN C X29 d0_38 rfl ?_
    refine g_bipush (8 : Int32) C X29 d0_39 rfl ?_
    refine g_iushr C X29 d0_41 ?_
    refine g_sipush (255 : Int32) C X29 d0_42 rfl ?_
    refine g_iand C X29 d0_45 ?_
    refine g_i2c C X29 d0_46 ?_
    refine g_castore C X29 V29_b28 n_b28 d0_47 (by decide) (by decide) (Nat.le_of_ble_eq_true rfl) (.int (((p2.toUInt32 >>> ((8 : Int32) &&& 31).toUInt32).toInt32) &&& (255 : Int32))) (own_ch _) (fun T30 h30 X30 W30 V30 => ?_)
    have V30_b28 : Arv Z h30 b28 k_b28 .char (3 : Int32) [(.int (p2 &&& (255 : Int32))), (.int (((p2.toUInt32 >>> ((8 : Int32) &&& 31).toUInt32).toInt32) &&& (255 : Int32))), (.int (0 : Int32))] (.int (0 : Int32)) := V30
    refine g_aload C X30 d0_48 rfl rfl ?_
    refine g_iconst (2 : Int32) C X30 d0_50 rfl ?_
    refine g_iloadN C X30 d0_51 rfl ?_
    refine g_bipush (16 : Int32) C X30 d0_52 rfl ?_
    refine g_iushr C X30 d0_54 ?_
    refine g_sipush (255 : Int32) C X30 d0_55 rfl ?_
    refine g_iand C X30 d0_58 ?_
    refine g_i2c C X30 d0_59 ?_
    refine g_castore C X30 V30_b28 n_b28 d0_60 (by decide) (by decide) (Nat.le_of_ble_eq_true rfl) (.int (((p2.toUInt32 >>> ((16 : Int32) &&& 31).toUInt32).toInt32) &&& (255 : Int32))) (own_ch _) (fun T31 h31 X31 W31 V31 => ?_)
    have V31_b28 : Arv Z h31 b28 k_b28 .char (3 : Int32) [(.int (p2 &&& (255 : Int32))), (.int (((p2.toUInt32 >>> ((8 : Int32) &&& 31).toUInt32).toInt32) &&& (255 : Int32))), (.int (((p2.toUInt32 >>> ((16 : Int32) &&& 31).toUInt32).toInt32) &&& (255 : Int32)))] (.int (0 : Int32)) := V31
    refine g_new C X31 (wd hw 1 rfl) (wd hw 2 rfl) (wd hw 3 rfl) d0_61 (by decide) (by decide) (fun T32 h32 b32 g_b32 n_b32 X32 E32 A32 D32 M32 => ?_)
    have lt33 : b28 < b32 := by rw [g_b32]; exact Arv.lt V31_b28
    have F_coder_b32 : Fld Z h32 b32 "java/lang/String" "coder" "B" (.int (0 : Int32)) := D32 (Or.inr (wd hw 27 rfl)) (ty := .byte) (by decide)
    have F_value_b32 : Fld Z h32 b32 "java/lang/String" "value" "[B" .null := D32 (Or.inr (wd hw 29 rfl)) (ty := (.array .byte)) (by decide)
    refine g_dup C X32 d0_64 rfl ?_
    refine g_aload C X32 d0_65 rfl rfl ?_
    have f35 := (Arv.ext V31_b28 E32)
    refine g_special (argsL := [(.ref b28)]) (st := [(.ref b32)]) C X32 rfl (wd hw 4 rfl) (wd hw 5 rfl) (wd hw 6 rfl) (by decide) (payV (W' := 1) (cs := [(p2 &&& (255 : Int32)), (((p2.toUInt32 >>> ((8 : Int32) &&& 31).toUInt32).toInt32) &&& (255 : Int32)), (((p2.toUInt32 >>> ((16 : Int32) &&& 31).toUInt32).toInt32) &&& (255 : Int32))]) (n := 3) C.hZ X32.ext hws (kI := 4) (wd hw 2 rfl) n_b32 A32 F_value_b32 F_coder_b32 f35 SZ hz rfl rfl (by decide) (by decide) ((List.forall_mem_cons.mpr ⟨own_m255 _, (List.forall_mem_cons.mpr ⟨own_m255 _, (List.forall_mem_cons.mpr ⟨own_m255 _, (fun _ q => nomatch q)⟩)⟩)⟩)) (by decide) (by decide)) pd_1 rfl rfl _ rfl (Nat.le_of_eq rfl) d0_67 (by decide) (by decide) (fun T34 h34 v34 q34 X34 => ?_)
    obtain ⟨rfl, K34, -⟩ := q34
    show Goes p e below _ T34 (mkF m 70 #[.val (.int p0), .val (.int p1), .val (.int p2), .val (.int p3), .val (.int p4), .val (.int p5), .val (.int ((p5 >>> ((1 : Int32) &&& 31)) &&& (2147483647 : Int32))), .val (.ref b28), .unset, .unset, .unset, .unset, .unset, .unset] [(.ref b32)])
    refine g_astore C X34 d0_70 rfl (l' := #[.val (.int p0), .val (.int p1), .val (.int p2), .val (.int p3), .val (.int p4), .val (.int p5), .val (.int ((p5 >>> ((1 : Int32) &&& 31)) &&& (2147483647 : Int32))), .val (.ref b28), .val (.ref b32), .unset, .unset, .unset, .unset, .unset]) rfl ?_
    refine g_iloadN C X34 d0_72 rfl ?_
    refine g_sipush (255 : Int32) C X34 d0_73 rfl ?_
    refine g_iand C X34 d0_76 ?_
    refine g_i2c C X34 d0_77 ?_
    refine g_istore C X34 d0_78 (l' := #[.val (.int p0), .val (.int p1), .val (.int p2), .val (.int p3), .val (.int p4), .val (.int p5), .val (.int ((p5 >>> ((1 : Int32) &&& 31)) &&& (2147483647 : Int32))), .val (.ref b28), .val (.ref b32), .val (.int ((p3 &&& (255 : Int32)).toUInt32.toUInt16.toUInt32.toInt32)), .unset, .unset, .unset, .unset]) rfl ?_
    refine g_iconst (2 : Int32) C X34 d0_80 rfl ?_
    refine g_newarray C X34 (wd hw 0 rfl) d0_81 (by decide) 2 (by decide) (by decide) (by decide) (by decide) (fun T36 h36 b36 k_b36 g_b36 n_b36 X36 E36 V36 => ?_)
    have f37 := (Arv.keep f35 K34 (ninS (Nat.ne_of_lt lt33) nin0))
    have lt38 : b28 < b36 := by rw [g_b36]; exact Arv.lt f37
    have f39 := (Exa.keep A32 K34)
    have lt40 : b32 < b36 := by rw [g_b36]; exact Exa.lt f39
    have V_b36 : Arv Z h36 b36 k_b36 .char (2 : Int32) [(.int (0 : Int32)), (.int (0 : Int32))] (.int (0 : Int32)) := V36
    refine g_astore C X36 d0_83 rfl (l' := #[.val (.int p0), .val (.int p1), .val (.int p2), .val (.int p3), .val (.int p4), .val (.int p5), .val (.int ((p5 >>> ((1 : Int32) &&& 31)) &&& (2147483647 : Int32))), .val (.ref b28), .val (.ref b32), .val (.int ((p3 &&& (255 : Int32)).toUInt32.toUInt16.toUInt32.toInt32)), .val (.ref b36), .unset, .unset, .unset]) rfl ?_
    refine g_aload C X36 d0_85 rfl rfl ?_
    refine g_iconst (0 : Int32) C X36 d0_87 rfl ?_
    refine g_iload C X36 d0_88 rfl ?_
    refine g_sipush (255 : Int32) C X36 d0_90 rfl ?_
    refine g_iand C X36 d0_93 ?_
    refine g_i2c C X36 d0_94 ?_
    refine g_castore C X36 V_b36 n_b36 d0_95 (by decide) (by decide) (Nat.le_of_ble_eq_true rfl) (.int (p4 &&& (255 : Int32))) (own_ch _) (fun T41 h41 X41 W41 V41 => ?_)
    have V41_b36 : Arv Z h41 b36 k_b36 .char (2 : Int32) [(.int (p4 &&& (255 : Int32))), (.int (0 : Int32))] (.int (0 : Int32)) := V41
    refine g_aload C X41 d0_96 rfl rfl ?_
    refine g_iconst (1 : Int32) C X41 d0_98 rfl ?_
    refine g_iload C X41 d0_99 rfl ?_
    refine g_bipush (8 : Int32) C X41 d0_101 rfl ?_
    refine g_iushr C X41 d0_103 ?_
    refine g_sipush (255 : Int32) C X41 d0_104 rfl ?_
    refine g_iand C X41 d0_107 ?_
    refine g_i2c C X41 d0_108 ?_
    refine g_castore C X41 V41_b36 n_b36 d0_109 (by decide) (by decide) (Nat.le_of_ble_eq_true rfl) (.int (((p4.toUInt32 >>> ((8 : Int32) &&& 31).toUInt32).toInt32) &&& (255 : Int32))) (own_ch _) (fun T42 h42 X42 W42 V42 => ?_)
    have V42_b36 : Arv Z h42 b36 k_b36 .char (2 : Int32) [(.int (p4 &&& (255 : Int32))), (.int (((p4.toUInt32 >>> ((8 : Int32) &&& 31).toUInt32).toInt32) &&& (255 : Int32)))] (.int (0 : Int32)) := V42
    refine g_new C X42 (wd hw 1 rfl) (wd hw 2 rfl) (wd hw 3 rfl) d0_110 (by decide) (by decide) (fun T43 h43 b43 g_b43 n_b43 X43 E43 A43 D43 M43 => ?_)
    have f44 := (Arv.other (Arv.other (Arv.ext f37 E36) W41 (Nat.ne_of_lt lt38)) W42 (Nat.ne_of_lt lt38))
    have lt45 : b28 < b43 := by rw [g_b43]; exact Arv.lt f44
    have f46 := (Exa.wr W42 (Exa.wr W41 (Exa.ext E36 f39)))
    have lt47 : b32 < b43 := by rw [g_b43]; exact Exa.lt f46
    have lt48 : b36 < b43 := by rw [g_b43]; exact Arv.lt V42_b36
    have F_coder_b43 : Fld Z h43 b43 "java/lang/String" "coder" "B" (.int (0 : Int32)) := D43 (Or.inr (wd hw 27 rfl)) (ty := .byte) (by decide)
    have F_value_b43 : Fld Z h43 b43 "java/lang/String" "value" "[B" .null := D43 (Or.inr (wd hw 29 rfl)) (ty := (.array .byte)) (by decide)
    refine g_dup C X43 d0_113 rfl ?_
    refine g_aload C X43 d0_114 rfl rfl ?_
    have f50 := (Arv.ext V42_b36 E43)
    refine g_special (argsL := [(.ref b36)]) (st := [(.ref b43)]) C X43 rfl (wd hw 4 rfl) (wd hw 5 rfl) (wd hw 6 rfl) (by decide) (payV (W' := 1) (cs := [(p4 &&& (255 : Int32)), (((p4.toUInt32 >>> ((8 : Int32) &&& 31).toUInt32).toInt32) &&& (255 : Int32))]) (n := 2) C.hZ X43.ext hws (kI := 4) (wd hw 2 rfl) n_b43 A43 F_value_b43 F_coder_b43 f50 SZ hz rfl rfl (by decide) (by decide) ((List.forall_mem_cons.mpr ⟨own_m255 _, (List.forall_mem_cons.mpr ⟨own_m255 _, (fun _ q => nomatch q)⟩)⟩)) (by decide) (by decide)) pd_1 rfl rfl _ rfl (Nat.le_of_eq rfl) d0_116 (by decide) (by decide) (fun T49 h49 v49 q49 X49 => ?_)
    obtain ⟨rfl, K49, -⟩ := q49
    show Goes p e below _ T49 (mkF m 119 #[.val (.int p0), .val (.int p1), .val (.int p2), .val (.int p3), .val (.int p4), .val (.int p5), .val (.int ((p5 >>> ((1 : Int32) &&& 31)) &&& (2147483647 : Int32))), .val (.ref b28), .val (.ref b32), .val (.int ((p3 &&& (255 : Int32)).toUInt32.toUInt16.toUInt32.toInt32)), .val (.ref b36), .unset, .unset, .unset] [(.ref b43)])
    refine g_astore C X49 d0_119 rfl (l' := #[.val (.int p0), .val (.int p1), .val (.int p2), .val (.int p3), .val (.int p4), .val (.int p5), .val (.int ((p5 >>> ((1 : Int32) &&& 31)) &&& (2147483647 : Int32))), .val (.ref b28), .val (.ref b32), .val (.int ((p3 &&& (255 : Int32)).toUInt32.toUInt16.toUInt32.toInt32)), .val (.ref b36), .val (.ref b43), .unset, .unset]) rfl ?_
    refine g_new C X49 (wd hw 30 rfl) (wd hw 31 rfl) (wd hw 32 rfl) d0_121 (by decide) (by decide) (fun T51 h51 b51 g_b51 n_b51 X51 E51 A51 D51 M51 => ?_)
    have f52 := (Arv.keep (Arv.ext f44 E43) K49 (ninS (Nat.ne_of_lt lt45) nin0))
    have lt53 : b28 < b51 := by rw [g_b51]; exact Arv.lt f52
    have f54 := (Exa.keep (Exa.ext E43 f46) K49)
    have lt55 : b32 < b51 := by rw [g_b51]; exact Exa.lt f54
    have f56 := (Arv.keep f50 K49 (ninS (Nat.ne_of_lt lt48) nin0))
    have lt57 : b36 < b51 := by rw [g_b51]; exact Arv.lt f56
    have f58 := (Exa.keep A43 K49)
    have lt59 : b43 < b51 := by rw [g_b51]; exact Exa.lt f58
    have F_source_b51 : Fld Z h51 b51 "com/example/chapeau/chapeau/link/Link" "source" "I" (.int (0 : Int32)) := D51 (Or.inr (wd hw 43 rfl)) (ty := .int) (by decide)
    have F_field_b51 : Fld Z h51 b51 "com/example/chapeau/chapeau/link/Link" "field" "I" (.int (0 : Int32)) := D51 (Or.inr (wd hw 45 rfl)) (ty := .int) (by decide)
    have F_tag_b51 : Fld Z h51 b51 "com/example/chapeau/chapeau/link/Link" "tag" "Ljava/lang/String;" .null := D51 (Or.inr (wd hw 47 rfl)) (ty := (.object "java/lang/String")) (by decide)
    have F_code_b51 : Fld Z h51 b51 "com/example/chapeau/chapeau/link/Link" "code" "C" (.int (0 : Int32)) := D51 (Or.inr (wd hw 49 rfl)) (ty := .char) (by decide)
    have F_value_b51 : Fld Z h51 b51 "com/example/chapeau/chapeau/link/Link" "value" "Ljava/lang/String;" .null := D51 (Or.inr (wd hw 51 rfl)) (ty := (.object "java/lang/String")) (by decide)
    have F_target_b51 : Fld Z h51 b51 "com/example/chapeau/chapeau/link/Link" "target" "I" (.int (0 : Int32)) := D51 (Or.inr (wd hw 53 rfl)) (ty := .int) (by decide)
    refine g_dup C X51 d0_124 rfl ?_
    refine g_iloadN C X51 d0_125 rfl ?_
    refine g_iloadN C X51 d0_126 rfl ?_
    refine g_aload C X51 d0_127 rfl rfl ?_
    refine g_iload C X51 d0_129 rfl ?_
    refine g_aload C X51 d0_131 rfl rfl ?_
    refine g_iload C X51 d0_133 rfl ?_
    refine g_special (argsL := [(.int p0), (.int p1), (.ref b32), (.int ((p3 &&& (255 : Int32)).toUInt32.toUInt16.toUInt32.toInt32)), (.ref b43), (.int ((p5 >>> ((1 : Int32) &&& 31)) &&& (2147483647 : Int32)))]) (st := [(.ref b51)]) C X51 rfl (wd hw 33 rfl) (wd hw 34 rfl) (wd hw 35 rfl) (by decide) (pay_of (W' := 1) (rm7 l hw X51.ext b51 p0 p1 b32 ((p3 &&& (255 : Int32)).toUInt32.toUInt16.toUInt32.toInt32) b43 ((p5 >>> ((1 : Int32) &&& 31)) &&& (2147483647 : Int32)) A51 F_source_b51 F_field_b51 F_tag_b51 F_code_b51 F_value_b51 F_target_b51 n_b51 (XT.narrow_c _) (fits_nar_char _)) C.hZ (wd hw 35 rfl) (wd hw 32 rfl) (by decide) (by decide)) pd_2 rfl rfl _ rfl (Nat.le_of_eq rfl) d0_135 (by decide) (by decide) (fun T60 h60 v60 q60 X60 => ?_)
    obtain ⟨rfl, K60, F60⟩ := q60
    show Goes p e below _ T60 (mkF m 138 #[.val (.int p0), .val (.int p1), .val (.int p2), .val (.int p3), .val (.int p4), .val (.int p5), .val (.int ((p5 >>> ((1 : Int32) &&& 31)) &&& (2147483647 : Int32))), .val (.ref b28), .val (.ref b32), .val (.int ((p3 &&& (255 : Int32)).toUInt32.toUInt16.toUInt32.toInt32)), .val (.ref b36), .val (.ref b43), .unset, .unset] [(.ref b51)])
    refine g_astore C X60 d0_138 rfl (l' := #[.val (.int p0), .val (.int p1), .val (.int p2), .val (.int p3), .val (.int p4), .val (.int p5), .val (.int ((p5 >>> ((1 : Int32) &&& 31)) &&& (2147483647 : Int32))), .val (.ref b28), .val (.ref b32), .val (.int ((p3 &&& (255 : Int32)).toUInt32.toUInt16.toUInt32.toInt32)), .val (.ref b36), .val (.ref b43), .val (.ref b51), .unset]) rfl ?_
    refine g_iload C X60 d0_140 rfl ?_
    refine g_if (h0_lt _) C X60 d0_142 (fun q => absurd q (own_nn p5)) (fun _ => ?_)
    refine g_iconst (1 : Int32) C X60 d0_145 rfl ?_
    refine g_goto C X60 d0_146 ?_
    refine g_istore C X60 d0_150 (l' := #[.val (.int p0), .val (.int p1), .val (.int p2), .val (.int p3), .val (.int p4), .val (.int p5), .val (.int ((p5 >>> ((1 : Int32) &&& 31)) &&& (2147483647 : Int32))), .val (.ref b28), .val (.ref b32), .val (.int ((p3 &&& (255 : Int32)).toUInt32.toUInt16.toUInt32.toInt32)), .val (.ref b36), .val (.ref b43), .val (.ref b51), .val (.int (1 : Int32))]) rfl ?_
    refine g_aload C X60 d0_152 rfl rfl ?_
    have f62 := (Exa.keep A51 K60)
    refine g_virtualP (argsL := []) (st := []) C X60 (wd hw 54 rfl) (wd hw 55 rfl) (nf_of C (wd hw 57 rfl) rfl rfl) (wd hw 57 rfl) (wd hw 56 rfl) (by decide) f62 (pay_of (W' := 0) (rm9 l hw X60.ext b51 ((p5 >>> ((1 : Int32) &&& 31)) &&& (2147483647 : Int32)) F60) C.hZ (wd hw 58 rfl) (wd hw 32 rfl) (by decide) (by decide)) pd_3 rfl rfl _ rfl (Nat.le_of_eq rfl) d0_154 (by decide) (by decide) (fun T61 X61 => ?_)
    show Goes p e below _ T61 (mkF m 157 #[.val (.int p0), .val (.int p1), .val (.int p2), .val (.int p3), .val (.int p4), .val (.int p5), .val (.int ((p5 >>> ((1 : Int32) &&& 31)) &&& (2147483647 : Int32))), .val (.ref b28), .val (.ref b32), .val (.int ((p3 &&& (255 : Int32)).toUInt32.toUInt16.toUInt32.toInt32)), .val (.ref b36), .val (.ref b43), .val (.ref b51), .val (.int (1 : Int32))] [(.int (if ((p5 >>> ((1 : Int32) &&& 31)) &&& (2147483647 : Int32)) = -1 then 0 else 1))])
    refine g_iload C X61 d0_157 rfl ?_
    refine g_icmpn (hI_ne _ _) C X61 d0_159 (fun q => absurd (if_neg (own_n1 p5)) q) (fun _ => ?_)
    refine g_iconst (1 : Int32) C X61 d0_162 rfl ?_
    refine g_goto C X61 d0_163 ?_
    exact g_retN C X61 (by simp) d0_167 (1 : Int32) rfl (by decide) (by decide) rfl
  · refine g_iconst (-1 : Int32) C X0 d0_7 rfl ?_
    refine g_goto C X0 d0_8 ?_
    refine g_istore C X0 d0_18 (l' := #[.val (.int p0), .val (.int p1), .val (.int p2), .val (.int p3), .val (.int p4), .val (.int p5), .val (.int (-1 : Int32)), .unset, .unset, .unset, .unset, .unset, .unset, .unset]) rfl ?_
    refine g_iconst (3 : Int32) C X0 d0_20 rfl ?_
    refine g_newarray C X0 (wd hw 0 rfl) d0_21 (by decide) 3 (by decide) (by decide) (by decide) (by decide) (fun T63 h63 b63 k_b63 g_b63 n_b63 X63 E63 V63 => ?_)
    have V_b63 : Arv Z h63 b63 k_b63 .char (3 : Int32) [(.int (0 : Int32)), (.int (0 : Int32)), (.int (0 : Int32))] (.int (0 : Int32)) := V63
    refine g_astore C X63 d0_23 rfl (l' := #[.val (.int p0), .val (.int p1), .val (.int p2), .val (.int p3), .val (.int p4), .val (.int p5), .val (.int (-1 : Int32)), .val (.ref b63), .unset, .unset, .unset, .unset, .unset, .unset]) rfl ?_
    refine g_aload C X63 d0_25 rfl rfl ?_
    refine g_iconst (0 : Int32) C X63 d0_27 rfl ?_
    refine g_iloadN C X63 d0_28 rfl ?_
    refine g_sipush (255 : Int32) C X63 d0_29 rfl ?_
    refine g_iand C X63 d0_32 ?_
    refine g_i2c C X63 d0_33 ?_
    refine g_castore C X63 V_b63 n_b63 d0_34 (by decide) (by decide) (Nat.le_of_ble_eq_true rfl) (.int (p2 &&& (255 : Int32))) (own_ch _) (fun T64 h64 X64 W64 V64 => ?_)
    have V64_b63 : Arv Z h64 b63 k_b63 .char (3 : Int32) [(.int (p2 &&& (255 : Int32))), (.int (0 : Int32)), (.int (0 : Int32))] (.int (0 : Int32)) := V64
    refine g_aload C X64 d0_35 rfl rfl ?_
    refine g_iconst (1 : Int32) C X64 d0_37 rfl ?_
    refine g_iloadN C X64 d0_38 rfl ?_
    refine g_bipush (8 : Int32) C X64 d0_39 rfl ?_
    refine g_iushr C X64 d0_41 ?_
    refine g_sipush (255 : Int32) C X64 d0_42 rfl ?_
    refine g_iand C X64 d0_45 ?_
    refine g_i2c C X64 d0_46 ?_
    refine g_castore C X64 V64_b63 n_b63 d0_47 (by decide) (by decide) (Nat.le_of_ble_eq_true rfl) (.int (((p2.toUInt32 >>> ((8 : Int32) &&& 31).toUInt32).toInt32) &&& (255 : Int32))) (own_ch _) (fun T65 h65 X65 W65 V65 => ?_)
    have V65_b63 : Arv Z h65 b63 k_b63 .char (3 : Int32) [(.int (p2 &&& (255 : Int32))), (.int (((p2.toUInt32 >>> ((8 : Int32) &&& 31).toUInt32).toInt32) &&& (255 : Int32))), (.int (0 : Int32))] (.int (0 : Int32)) := V65
    refine g_aload C X65 d0_48 rfl rfl ?_
    refine g_iconst (2 : Int32) C X65 d0_50 rfl ?_
    refine g_iloadN C X65 d0_51 rfl ?_
    refine g_bipush (16 : Int32) C X65 d0_52 rfl ?_
    refine g_iushr C X65 d0_54 ?_
    refine g_sipush (255 : Int32) C X65 d0_55 rfl ?_
    refine g_iand C X65 d0_58 ?_
    refine g_i2c C X65 d0_59 ?_
    refine g_castore C X65 V65_b63 n_b63 d0_60 (by decide) (by decide) (Nat.le_of_ble_eq_true rfl) (.int (((p2.toUInt32 >>> ((16 : Int32) &&& 31).toUInt32).toInt32) &&& (255 : Int32))) (own_ch _) (fun T66 h66 X66 W66 V66 => ?_)
    have V66_b63 : Arv Z h66 b63 k_b63 .char (3 : Int32) [(.int (p2 &&& (255 : Int32))), (.int (((p2.toUInt32 >>> ((8 : Int32) &&& 31).toUInt32).toInt32) &&& (255 : Int32))), (.int (((p2.toUInt32 >>> ((16 : Int32) &&& 31).toUInt32).toInt32) &&& (255 : Int32)))] (.int (0 : Int32)) := V66
    refine g_new C X66 (wd hw 1 rfl) (wd hw 2 rfl) (wd hw 3 rfl) d0_61 (by decide) (by decide) (fun T67 h67 b67 g_b67 n_b67 X67 E67 A67 D67 M67 => ?_)
    have lt68 : b63 < b67 := by rw [g_b67]; exact Arv.lt V66_b63
    have F_coder_b67 : Fld Z h67 b67 "java/lang/String" "coder" "B" (.int (0 : Int32)) := D67 (Or.inr (wd hw 27 rfl)) (ty := .byte) (by decide)
    have F_value_b67 : Fld Z h67 b67 "java/lang/String" "value" "[B" .null := D67 (Or.inr (wd hw 29 rfl)) (ty := (.array .byte)) (by decide)
    refine g_dup C X67 d0_64 rfl ?_
    refine g_aload C X67 d0_65 rfl rfl ?_
    have f70 := (Arv.ext V66_b63 E67)
    refine g_special (argsL := [(.ref b63)]) (st := [(.ref b67)]) C X67 rfl (wd hw 4 rfl) (wd hw 5 rfl) (wd hw 6 rfl) (by decide) (payV (W' := 1) (cs := [(p2 &&& (255 : Int32)), (((p2.toUInt32 >>> ((8 : Int32) &&& 31).toUInt32).toInt32) &&& (255 : Int32)), (((p2.toUInt32 >>> ((16 : Int32) &&& 31).toUInt32).toInt32) &&& (255 : Int32))]) (n := 3) C.hZ X67.ext hws (kI := 4) (wd hw 2 rfl) n_b67 A67 F_value_b67 F_coder_b67 f70 SZ hz rfl rfl (by decide) (by decide) ((List.forall_mem_cons.mpr ⟨own_m255 _, (List.forall_mem_cons.mpr ⟨own_m255 _, (List.forall_mem_cons.mpr ⟨own_m255 _, (fun _ q => nomatch q)⟩)⟩)⟩)) (by decide) (by decide)) pd_1 rfl rfl _ rfl (Nat.le_of_eq rfl) d0_67 (by decide) (by decide) (fun T69 h69 v69 q69 X69 => ?_)
    obtain ⟨rfl, K69, -⟩ := q69
    show Goes p e below _ T69 (mkF m 70 #[.val (.int p0), .val (.int p1), .val (.int p2), .val (.int p3), .val (.int p4), .val (.int p5), .val (.int (-1 : Int32)), .val (.ref b63), .unset, .unset, .unset, .unset, .unset, .unset] [(.ref b67)])
    refine g_astore C X69 d0_70 rfl (l' := #[.val (.int p0), .val (.int p1), .val (.int p2), .val (.int p3), .val (.int p4), .val (.int p5), .val (.int (-1 : Int32)), .val (.ref b63), .val (.ref b67), .unset, .unset, .unset, .unset, .unset]) rfl ?_
    refine g_iloadN C X69 d0_72 rfl ?_
    refine g_sipush (255 : Int32) C X69 d0_73 rfl ?_
    refine g_iand C X69 d0_76 ?_
    refine g_i2c C X69 d0_77 ?_
    refine g_istore C X69 d0_78 (l' := #[.val (.int p0), .val (.int p1), .val (.int p2), .val (.int p3), .val (.int p4), .val (.int p5), .val (.int (-1 : Int32)), .val (.ref b63), .val (.ref b67), .val (.int ((p3 &&& (255 : Int32)).toUInt32.toUInt16.toUInt32.toInt32)), .unset, .unset, .unset, .unset]) rfl ?_
    refine g_iconst (2 : Int32) C X69 d0_80 rfl ?_
    refine g_newarray C X69 (wd hw 0 rfl) d0_81 (by decide) 2 (by decide) (by decide) (by decide) (by decide) (fun T71 h71 b71 k_b71 g_b71 n_b71 X71 E71 V71 => ?_)
    have f72 := (Arv.keep f70 K69 (ninS (Nat.ne_of_lt lt68) nin0))
    have lt73 : b63 < b71 := by rw [g_b71]; exact Arv.lt f72
    have f74 := (Exa.keep A67 K69)
    have lt75 : b67 < b71 := by rw [g_b71]; exact Exa.lt f74
    have V_b71 : Arv Z h71 b71 k_b71 .char (2 : Int32) [(.int (0 : Int32)), (.int (0 : Int32))] (.int (0 : Int32)) := V71
    refine g_astore C X71 d0_83 rfl (l' := #[.val (.int p0), .val (.int p1), .val (.int p2), .val (.int p3), .val (.int p4), .val (.int p5), .val (.int (-1 : Int32)), .val (.ref b63), .val (.ref b67), .val (.int ((p3 &&& (255 : Int32)).toUInt32.toUInt16.toUInt32.toInt32)), .val (.ref b71), .unset, .unset, .unset]) rfl ?_
    refine g_aload C X71 d0_85 rfl rfl ?_
    refine g_iconst (0 : Int32) C X71 d0_87 rfl ?_
    refine g_iload C X71 d0_88 rfl ?_
    refine g_sipush (255 : Int32) C X71 d0_90 rfl ?_
    refine g_iand C X71 d0_93 ?_
    refine g_i2c C X71 d0_94 ?_
    refine g_castore C X71 V_b71 n_b71 d0_95 (by decide) (by decide) (Nat.le_of_ble_eq_true rfl) (.int (p4 &&& (255 : Int32))) (own_ch _) (fun T76 h76 X76 W76 V76 => ?_)
    have V76_b71 : Arv Z h76 b71 k_b71 .char (2 : Int32) [(.int (p4 &&& (255 : Int32))), (.int (0 : Int32))] (.int (0 : Int32)) := V76
    refine g_aload C X76 d0_96 rfl rfl ?_
    refine g_iconst (1 : Int32) C X76 d0_98 rfl ?_
    refine g_iload C X76 d0_99 rfl ?_
    refine g_bipush (8 : Int32) C X76 d0_101 rfl ?_
    refine g_iushr C X76 d0_103 ?_
    refine g_sipush (255 : Int32) C X76 d0_104 rfl ?_
    refine g_iand C X76 d0_107 ?_
    refine g_i2c C X76 d0_108 ?_
    refine g_castore C X76 V76_b71 n_b71 d0_109 (by decide) (by decide) (Nat.le_of_ble_eq_true rfl) (.int (((p4.toUInt32 >>> ((8 : Int32) &&& 31).toUInt32).toInt32) &&& (255 : Int32))) (own_ch _) (fun T77 h77 X77 W77 V77 => ?_)
    have V77_b71 : Arv Z h77 b71 k_b71 .char (2 : Int32) [(.int (p4 &&& (255 : Int32))), (.int (((p4.toUInt32 >>> ((8 : Int32) &&& 31).toUInt32).toInt32) &&& (255 : Int32)))] (.int (0 : Int32)) := V77
    refine g_new C X77 (wd hw 1 rfl) (wd hw 2 rfl) (wd hw 3 rfl) d0_110 (by decide) (by decide) (fun T78 h78 b78 g_b78 n_b78 X78 E78 A78 D78 M78 => ?_)
    have f79 := (Arv.other (Arv.other (Arv.ext f72 E71) W76 (Nat.ne_of_lt lt73)) W77 (Nat.ne_of_lt lt73))
    have lt80 : b63 < b78 := by rw [g_b78]; exact Arv.lt f79
    have f81 := (Exa.wr W77 (Exa.wr W76 (Exa.ext E71 f74)))
    have lt82 : b67 < b78 := by rw [g_b78]; exact Exa.lt f81
    have lt83 : b71 < b78 := by rw [g_b78]; exact Arv.lt V77_b71
    have F_coder_b78 : Fld Z h78 b78 "java/lang/String" "coder" "B" (.int (0 : Int32)) := D78 (Or.inr (wd hw 27 rfl)) (ty := .byte) (by decide)
    have F_value_b78 : Fld Z h78 b78 "java/lang/String" "value" "[B" .null := D78 (Or.inr (wd hw 29 rfl)) (ty := (.array .byte)) (by decide)
    refine g_dup C X78 d0_113 rfl ?_
    refine g_aload C X78 d0_114 rfl rfl ?_
    have f85 := (Arv.ext V77_b71 E78)
    refine g_special (argsL := [(.ref b71)]) (st := [(.ref b78)]) C X78 rfl (wd hw 4 rfl) (wd hw 5 rfl) (wd hw 6 rfl) (by decide) (payV (W' := 1) (cs := [(p4 &&& (255 : Int32)), (((p4.toUInt32 >>> ((8 : Int32) &&& 31).toUInt32).toInt32) &&& (255 : Int32))]) (n := 2) C.hZ X78.ext hws (kI := 4) (wd hw 2 rfl) n_b78 A78 F_value_b78 F_coder_b78 f85 SZ hz rfl rfl (by decide) (by decide) ((List.forall_mem_cons.mpr ⟨own_m255 _, (List.forall_mem_cons.mpr ⟨own_m255 _, (fun _ q => nomatch q)⟩)⟩)) (by decide) (by decide)) pd_1 rfl rfl _ rfl (Nat.le_of_eq rfl) d0_116 (by decide) (by decide) (fun T84 h84 v84 q84 X84 => ?_)
    obtain ⟨rfl, K84, -⟩ := q84
    show Goes p e below _ T84 (mkF m 119 #[.val (.int p0), .val (.int p1), .val (.int p2), .val (.int p3), .val (.int p4), .val (.int p5), .val (.int (-1 : Int32)), .val (.ref b63), .val (.ref b67), .val (.int ((p3 &&& (255 : Int32)).toUInt32.toUInt16.toUInt32.toInt32)), .val (.ref b71), .unset, .unset, .unset] [(.ref b78)])
    refine g_astore C X84 d0_119 rfl (l' := #[.val (.int p0), .val (.int p1), .val (.int p2), .val (.int p3), .val (.int p4), .val (.int p5), .val (.int (-1 : Int32)), .val (.ref b63), .val (.ref b67), .val (.int ((p3 &&& (255 : Int32)).toUInt32.toUInt16.toUInt32.toInt32)), .val (.ref b71), .val (.ref b78), .unset, .unset]) rfl ?_
    refine g_new C X84 (wd hw 30 rfl) (wd hw 31 rfl) (wd hw 32 rfl) d0_121 (by decide) (by decide) (fun T86 h86 b86 g_b86 n_b86 X86 E86 A86 D86 M86 => ?_)
    have f87 := (Arv.keep (Arv.ext f79 E78) K84 (ninS (Nat.ne_of_lt lt80) nin0))
    have lt88 : b63 < b86 := by rw [g_b86]; exact Arv.lt f87
    have f89 := (Exa.keep (Exa.ext E78 f81) K84)
    have lt90 : b67 < b86 := by rw [g_b86]; exact Exa.lt f89
    have f91 := (Arv.keep f85 K84 (ninS (Nat.ne_of_lt lt83) nin0))
    have lt92 : b71 < b86 := by rw [g_b86]; exact Arv.lt f91
    have f93 := (Exa.keep A78 K84)
    have lt94 : b78 < b86 := by rw [g_b86]; exact Exa.lt f93
    have F_source_b86 : Fld Z h86 b86 "com/example/chapeau/chapeau/link/Link" "source" "I" (.int (0 : Int32)) := D86 (Or.inr (wd hw 43 rfl)) (ty := .int) (by decide)
    have F_field_b86 : Fld Z h86 b86 "com/example/chapeau/chapeau/link/Link" "field" "I" (.int (0 : Int32)) := D86 (Or.inr (wd hw 45 rfl)) (ty := .int) (by decide)
    have F_tag_b86 : Fld Z h86 b86 "com/example/chapeau/chapeau/link/Link" "tag" "Ljava/lang/String;" .null := D86 (Or.inr (wd hw 47 rfl)) (ty := (.object "java/lang/String")) (by decide)
    have F_code_b86 : Fld Z h86 b86 "com/example/chapeau/chapeau/link/Link" "code" "C" (.int (0 : Int32)) := D86 (Or.inr (wd hw 49 rfl)) (ty := .char) (by decide)
    have F_value_b86 : Fld Z h86 b86 "com/example/chapeau/chapeau/link/Link" "value" "Ljava/lang/String;" .null := D86 (Or.inr (wd hw 51 rfl)) (ty := (.object "java/lang/String")) (by decide)
    have F_target_b86 : Fld Z h86 b86 "com/example/chapeau/chapeau/link/Link" "target" "I" (.int (0 : Int32)) := D86 (Or.inr (wd hw 53 rfl)) (ty := .int) (by decide)
    refine g_dup C X86 d0_124 rfl ?_
    refine g_iloadN C X86 d0_125 rfl ?_
    refine g_iloadN C X86 d0_126 rfl ?_
    refine g_aload C X86 d0_127 rfl rfl ?_
    refine g_iload C X86 d0_129 rfl ?_
    refine g_aload C X86 d0_131 rfl rfl ?_
    refine g_iload C X86 d0_133 rfl ?_
    refine g_special (argsL := [(.int p0), (.int p1), (.ref b67), (.int ((p3 &&& (255 : Int32)).toUInt32.toUInt16.toUInt32.toInt32)), (.ref b78), (.int (-1 : Int32))]) (st := [(.ref b86)]) C X86 rfl (wd hw 33 rfl) (wd hw 34 rfl) (wd hw 35 rfl) (by decide) (pay_of (W' := 1) (rm7 l hw X86.ext b86 p0 p1 b67 ((p3 &&& (255 : Int32)).toUInt32.toUInt16.toUInt32.toInt32) b78 (-1 : Int32) A86 F_source_b86 F_field_b86 F_tag_b86 F_code_b86 F_value_b86 F_target_b86 n_b86 (XT.narrow_c _) (fits_nar_char _)) C.hZ (wd hw 35 rfl) (wd hw 32 rfl) (by decide) (by decide)) pd_2 rfl rfl _ rfl (Nat.le_of_eq rfl) d0_135 (by decide) (by decide) (fun T95 h95 v95 q95 X95 => ?_)
    obtain ⟨rfl, K95, F95⟩ := q95
    show Goes p e below _ T95 (mkF m 138 #[.val (.int p0), .val (.int p1), .val (.int p2), .val (.int p3), .val (.int p4), .val (.int p5), .val (.int (-1 : Int32)), .val (.ref b63), .val (.ref b67), .val (.int ((p3 &&& (255 : Int32)).toUInt32.toUInt16.toUInt32.toInt32)), .val (.ref b71), .val (.ref b78), .unset, .unset] [(.ref b86)])
    refine g_astore C X95 d0_138 rfl (l' := #[.val (.int p0), .val (.int p1), .val (.int p2), .val (.int p3), .val (.int p4), .val (.int p5), .val (.int (-1 : Int32)), .val (.ref b63), .val (.ref b67), .val (.int ((p3 &&& (255 : Int32)).toUInt32.toUInt16.toUInt32.toInt32)), .val (.ref b71), .val (.ref b78), .val (.ref b86), .unset]) rfl ?_
    refine g_iload C X95 d0_140 rfl ?_
    refine g_if (h0_lt _) C X95 d0_142 (fun _ => ?_) (fun q => absurd (by decide) q)
    refine g_iconst (0 : Int32) C X95 d0_149 rfl ?_
    refine g_istore C X95 d0_150 (l' := #[.val (.int p0), .val (.int p1), .val (.int p2), .val (.int p3), .val (.int p4), .val (.int p5), .val (.int (-1 : Int32)), .val (.ref b63), .val (.ref b67), .val (.int ((p3 &&& (255 : Int32)).toUInt32.toUInt16.toUInt32.toInt32)), .val (.ref b71), .val (.ref b78), .val (.ref b86), .val (.int (0 : Int32))]) rfl ?_
    refine g_aload C X95 d0_152 rfl rfl ?_
    have f97 := (Exa.keep A86 K95)
    refine g_virtualP (argsL := []) (st := []) C X95 (wd hw 54 rfl) (wd hw 55 rfl) (nf_of C (wd hw 57 rfl) rfl rfl) (wd hw 57 rfl) (wd hw 56 rfl) (by decide) f97 (pay_of (W' := 0) (rm9 l hw X95.ext b86 (-1 : Int32) F95) C.hZ (wd hw 58 rfl) (wd hw 32 rfl) (by decide) (by decide)) pd_3 rfl rfl _ rfl (Nat.le_of_eq rfl) d0_154 (by decide) (by decide) (fun T96 X96 => ?_)
    show Goes p e below _ T96 (mkF m 157 #[.val (.int p0), .val (.int p1), .val (.int p2), .val (.int p3), .val (.int p4), .val (.int p5), .val (.int (-1 : Int32)), .val (.ref b63), .val (.ref b67), .val (.int ((p3 &&& (255 : Int32)).toUInt32.toUInt16.toUInt32.toInt32)), .val (.ref b71), .val (.ref b78), .val (.ref b86), .val (.int (0 : Int32))] [(.int (if (-1 : Int32) = -1 then 0 else 1))])
    refine g_iload C X96 d0_157 rfl ?_
    refine g_icmpn (hI_ne _ _) C X96 d0_159 (fun q => absurd (if_pos rfl) q) (fun _ => ?_)
    refine g_iconst (1 : Int32) C X96 d0_162 rfl ?_
    refine g_goto C X96 d0_163 ?_
    exact g_retN C X96 (by simp) d0_167 (1 : Int32) rfl (by decide) (by decide) rfl
set_option maxRecDepth 65536 in
set_option maxHeartbeats 40000000 in
theorem comes_1 {Post : Tables → Env → Array Value → State → Outcome → State → Prop} (hpost : ∀ tb e args s v u, (limb_1_1.after args s (.returned v) u = true ∧ limb_1_2.after args s (.returned v) u = true ∧ True) → FrameEnd s (.returned v) u (Jvm.fieldLocs frame_1_writes args s ++ Jvm.arrayLocs frame_1_arrays args s ++ Jvm.staticLocs frame_1_statics s) 24 128 → Post tb e args s (.returned v) u) :
    ArmFor flags0 classFile x code maxLocals ret World_1 tables_1 room_1 Calls_1 rest_1 Pre_1 Post := by
  intro l hfl _ _ p e ha hc hk s m args below hf hA hF happ hP
  obtain ⟨hcalls, hrest, hpre⟩ := hP
  obtain ⟨-, -, -, hnamed, -, -, -, hat⟩ := (Spec.applies_iff hf).mp happ
  obtain ⟨hg, hn⟩ := and_e (Cond.before_iff.mp (show (Jvm.Cond.and given_1 narrow_1).before args s = true from hpre))
  obtain ⟨hcount, hg⟩ := and_e hg
  obtain ⟨ha0, hg⟩ := and_e hg
  obtain ⟨ha1, hg⟩ := and_e hg
  obtain ⟨ha2, hg⟩ := and_e hg
  obtain ⟨ha3, hg⟩ := and_e hg
  obtain ⟨ha4, hg⟩ := and_e hg
  have ha5 := hg
  obtain ⟨w0, w1, w2, w3, w4, w5, rfl⟩ : ∃ w0 w1 w2 w3 w4 w5 : Value, args = #[w0, w1, w2, w3, w4, w5] := by
    have hs : args.size = 6 := by simpa [Cond.value, given_1] using hcount
    obtain ⟨L⟩ := args
    match L, hs with
    | [w0, w1, w2, w3, w4, w5], _ => exact ⟨w0, w1, w2, w3, w4, w5, rfl⟩
  have hw := fun d (hd : d ∈ tables_1) => atoms_spec (ws := Jvm.Cond.code x code maxLocals ret :: tables_1) hat d (List.mem_cons_of_mem _ hd)
  have hfit : Fit s := fun {y c} hc i hi => by
    obtain ⟨ha, rfl⟩ := Array.getElem?_eq_some_iff.mp hc
    have q := List.all_eq_true.mp ((Array.all_eq_true_iff_forall_mem.mp hF) _ (Array.getElem_mem ha)) i (List.mem_range.mpr hi)
    simpa [Array.getElem?_eq_getElem hi] using q
  obtain ⟨hsets, hown0⟩ := atoms_of _ (rest_1_c_eq ▸ (show rest_1_c.before _ s = true from hrest))
  have hr0 := Cond.before_iff.mp hown0
  obtain ⟨i0, ei0⟩ := is_v ha0
  obtain rfl : w0 = (.int i0) := Option.some.inj ei0
  obtain ⟨i1, ei1⟩ := is_v ha1
  obtain rfl : w1 = (.int i1) := Option.some.inj ei1
  obtain ⟨i2, ei2⟩ := is_v ha2
  obtain rfl : w2 = (.int i2) := Option.some.inj ei2
  obtain ⟨i3, ei3⟩ := is_v ha3
  obtain rfl : w3 = (.int i3) := Option.some.inj ei3
  obtain ⟨i4, ei4⟩ := is_v ha4
  obtain rfl : w4 = (.int i4) := Option.some.inj ei4
  obtain ⟨i5, ei5⟩ := is_v ha5
  obtain rfl : w5 = (.int i5) := Option.some.inj ei5
  obtain ⟨z, vz⟩ := is_v (Cond.before_iff.mp (hsets _ (List.mem_of_getElem? (i := 1) rfl)))
  have SZ := Sta.start vz (Or.inl (hsets _ (List.mem_of_getElem? (i := 0) rfl)))
  have hz := nz_v vz (Cond.before_iff.mp (hsets _ (List.mem_of_getElem? (i := 2) rfl)))
  obtain ⟨n, o, h1, h2, h3, _, L, rfl, ⟨N, _, rfl⟩, hq⟩ := rm0 l (Z := s) hw ⟨Nat.le_refl _, fun _ _ q => q⟩ i0 i1 i2 i3 i4 i5 z SZ hz p e ha hc hk s m _ below hf ((Spec.applies_iff_loose hf).mp happ).1 ⟨rfl, State.Warmed39.refl s, rfl⟩ trivial
  exact ⟨n, _, h1, h2, h3, hpost _ _ _ _ _ _ ⟨Cond.after_iff.mpr rfl, Cond.after_iff.mpr (eq_i res_at (Term.int_eval (1)) rfl), trivial⟩ ⟨hq.1, hq.2.1, (hq.2.2.sift fun y hy => Or.inr (N y hy)).mono (by decide) (by decide)⟩⟩
theorem main_1_1 : Claimed_1_1 := comes_1 fun _ _ _ _ _ _ h hF => ⟨h.1, hF⟩
theorem main_1_2 : Claimed_1_2 := comes_1 fun _ _ _ _ _ _ h hF => ⟨h.2.1, hF⟩
end Jvm.Pilot.@@N@@
namespace Jvm.Pilot.@@N@@
open Jvm Jvm.ClassFile Sem Op Lib Jvm.Free Jvm.Stand Jvm.Pilot.@@N@@.Jvm.D
/-! MADE BY PROGRAM (witnessworld.py) out of the Statement's table words and the real class files: 21 classes; the members and pool entries that the words name. The judged class is class 1, her method 1. -/
namespace start1
open Jvm.ClassFile
def u (s : String) : CpInfo := .utf8 (stringToUtf16 s)
/-- a pool by its gaps: so many unusable entries, then the entry; so many at the end -/
def gap : Nat → List CpInfo → List CpInfo
  | 0, r => r
  | n + 1, r => .unusable :: gap n r
def poolList (es : List (Nat × CpInfo)) (last : Nat) : List CpInfo := es.foldr (fun e r => gap e.1 (e.2 :: r)) (gap last [])
def pool (es : List (Nat × CpInfo)) (last : Nat) : Array CpInfo := ⟨poolList es last⟩
def fileOf (pool : Array CpInfo) (this : Nat) (attrs : Array Attribute := #[]) (ms : Array MethodInfo := #[]) (fl : Nat := 33) (sup : Nat := 0) (ifs : Array Nat := #[]) (fds : Array FieldInfo := #[]) : ClassFile where
  minorVersion := 0
  majorVersion := 65
  constantPool := pool
  accessFlags := fl
  thisClass := this
  superClass := sup
  interfaces := ifs
  fields := fds
  methods := ms
  attributes := attrs
def plain (name : String) (sup : Option ClassId) : Class where
  name := name
  kind := .ordinary
  loader := none
  accessFlags := 33
  super := sup
  interfaces := #[]
  cf := none
  fields := #[]
  methods := #[]
  instanceTypes := #[]
  staticTypes := #[]
  resolved := #[]
  callSites := []
  init := .initialized
  statics := none
  mirror := none

def pool0 : Array CpInfo := pool [(5, u "<init>"), (0, u "()V"), (1, .class_ 10), (1, u "java/lang/Object")] 113

def k0c0 : Code := { maxStack := 0, maxLocals := 1, code := object_method_1_code, exceptionTable := #[], attributes := #[] }
def k0m0 : Method := { name := "<init>", desc := "()V", sig := { parameters := [], returnType := none }, accessFlags := 1, code := some k0c0 }
/-- java/lang/Object -/
def k0 : Class := { plain "java/lang/Object" none with
  accessFlags := 33
  interfaces := #[]
  cf := some (fileOf pool0 8 #[] #[{ accessFlags := 1, nameIndex := 5, descriptorIndex := 6, attributes := #[] }] 33 0 #[] #[])
  fields := #[]
  methods := #[k0m0]
  instanceTypes := #[]
  staticTypes := #[]
  resolved := Array.replicate 124 none
  statics := none }

def pool1 : Array CpInfo := pool [(2, .class_ 4), (1, u "java/lang/Object"), (0, u "<init>"), (0, u "()V"), (0, .integer 2147483647), (0, .class_ 9), (0, u "java/lang/String"), (0, .methodref 8 11), (0, .nameAndType 5 12), (0, u "([C)V"), (0, .class_ 14), (0, u "com/example/chapeau/chapeau/link/Link"), (0, .methodref 13 16), (0, .nameAndType 5 17), (0, u "(IILjava/lang/String;CLjava/lang/String;I)V"), (0, .methodref 13 19), (0, .nameAndType 20 21), (0, u "isResolved"), (0, u "()Z"), (0, .class_ 23), (0, u "com/example/chapeau/chapeau/link/LinkIsResolvedPinLaw"), (2, u "law"), (0, u "(IIIIII)Z")] 5

def k1m0 : Method := { name := "<init>", desc := "()V", sig := { parameters := [], returnType := none }, accessFlags := 1, code := none }
def k1c1 : Code := { maxStack := 8, maxLocals := 14, code := code, exceptionTable := #[], attributes := #[] }
def k1m1 : Method := { name := "law", desc := "(IIIIII)Z", sig := { parameters := [.int, .int, .int, .int, .int, .int], returnType := some .boolean }, accessFlags := 9, code := some k1c1 }
/-- com/example/chapeau/chapeau/link/LinkIsResolvedPinLaw -/
def k1 : Class := { plain "com/example/chapeau/chapeau/link/LinkIsResolvedPinLaw" (some 0) with
  accessFlags := 49
  interfaces := #[]
  cf := some (fileOf pool1 22 #[] #[{ accessFlags := 1, nameIndex := 5, descriptorIndex := 6, attributes := #[] }, { accessFlags := 9, nameIndex := 26, descriptorIndex := 27, attributes := #[] }] 49 2 #[] #[])
  fields := #[]
  methods := #[k1m0, k1m1]
  instanceTypes := #[]
  staticTypes := #[]
  resolved := Array.replicate 33 none
  statics := none }

def pool2 : Array CpInfo := pool [(1, .class_ 2), (0, u "java/io/Serializable"), (0, .class_ 4), (0, u "java/lang/Object")] 2

/-- java/io/Serializable -/
def k2 : Class := { plain "java/io/Serializable" (some 0) with
  accessFlags := 1537
  interfaces := #[]
  cf := some (fileOf pool2 1 #[] #[] 1537 3 #[] #[])
  fields := #[]
  methods := #[]
  instanceTypes := #[]
  staticTypes := #[]
  resolved := Array.replicate 7 none
  statics := none }

def pool3 : Array CpInfo := pool [(1, .class_ 2), (0, u "java/lang/Comparable"), (0, .class_ 4), (0, u "java/lang/Object")] 7

/-- java/lang/Comparable -/
def k3 : Class := { plain "java/lang/Comparable" (some 0) with
  accessFlags := 1537
  interfaces := #[]
  cf := some (fileOf pool3 1 #[] #[] 1537 3 #[] #[])
  fields := #[]
  methods := #[]
  instanceTypes := #[]
  staticTypes := #[]
  resolved := Array.replicate 12 none
  statics := none }

def pool4 : Array CpInfo := pool [(2, .class_ 4), (1, u "java/lang/CharSequence"), (42, .class_ 48), (0, u "java/lang/CharSequence$1CodePointIterator"), (10, .class_ 60), (0, u "java/lang/CharSequence$1CharIterator"), (5, .class_ 67), (0, u "java/lang/Object")] 63

/-- java/lang/CharSequence -/
def k4 : Class := { plain "java/lang/CharSequence" (some 0) with
  accessFlags := 1537
  interfaces := #[]
  cf := some (fileOf pool4 2 #[.nestMembers #[47, 59]] #[] 1537 66 #[] #[])
  fields := #[]
  methods := #[]
  instanceTypes := #[]
  staticTypes := #[]
  resolved := Array.replicate 131 none
  statics := none }

def pool5 : Array CpInfo := pool [(1, .class_ 2), (0, u "java/lang/constant/Constable"), (0, .class_ 4), (0, u "java/lang/Object")] 6

/-- java/lang/constant/Constable -/
def k5 : Class := { plain "java/lang/constant/Constable" (some 0) with
  accessFlags := 1537
  interfaces := #[]
  cf := some (fileOf pool5 1 #[] #[] 1537 3 #[] #[])
  fields := #[]
  methods := #[]
  instanceTypes := #[]
  staticTypes := #[]
  resolved := Array.replicate 11 none
  statics := none }

def pool6 : Array CpInfo := pool [(1, .class_ 2), (0, u "java/lang/constant/ConstantDesc"), (0, .class_ 4), (0, u "java/lang/Object")] 32

/-- java/lang/constant/ConstantDesc -/
def k6 : Class := { plain "java/lang/constant/ConstantDesc" (some 0) with
  accessFlags := 1537
  interfaces := #[]
  cf := some (fileOf pool6 1 #[] #[] 1537 3 #[] #[])
  fields := #[]
  methods := #[]
  instanceTypes := #[]
  staticTypes := #[]
  resolved := Array.replicate 37 none
  statics := none }

def pool7 : Array CpInfo := pool [(1, .methodref 2 3), (0, .class_ 4), (0, .nameAndType 5 6), (0, u "java/lang/Object"), (0, u "<init>"), (0, u "()V"), (2, .fieldref 10 11), (0, .class_ 12), (0, .nameAndType 13 14), (0, u "java/lang/String"), (0, u "value"), (0, u "[B"), (0, .fieldref 10 16), (0, .nameAndType 17 18), (0, u "coder"), (0, u "B"), (2, u "hash"), (0, u "I"), (2, u "hashIsZero"), (0, u "Z"), (0, .methodref 10 28), (0, .nameAndType 5 29), (0, u "([CIILjava/lang/Void;)V"), (8, .fieldref 10 39), (0, .nameAndType 40 26), (0, u "COMPACT_STRINGS"), (1, .class_ 44), (1, u "java/lang/StringUTF16"), (0, u "compress"), (1, .methodref 42 48), (0, .nameAndType 49 50), (0, u "coderFromArrayLen"), (0, u "([BI)B"), (126, .methodref 42 178), (0, .nameAndType 45 179), (0, u "([CII)[B"), (395, .class_ 576), (0, u "java/lang/CharSequence"), (22, u "CASE_INSENSITIVE_ORDER"), (0, u "Ljava/util/Comparator;"), (409, u "([C)V"), (90, u "serialPersistentFields"), (0, u "[Ljava/io/ObjectStreamField;"), (0, .class_ 1104), (0, u "java/lang/String$CaseInsensitiveComparator"), (1, .class_ 1107), (0, u "java/io/Serializable"), (0, .class_ 1109), (0, u "java/lang/Comparable"), (0, .class_ 1111), (0, u "java/lang/constant/Constable"), (0, .class_ 1113), (0, u "java/lang/constant/ConstantDesc"), (2, u "serialVersionUID"), (0, u "J"), (3, u "REPL"), (0, u "C"), (2, u "LATIN1"), (1, u "UTF16")] 323

def k7m0 : Method := { name := "<init>", desc := "()V", sig := { parameters := [], returnType := none }, accessFlags := 1, code := none }
def k7c1 : Code := { maxStack := 5, maxLocals := 2, code := jdk_42_method_3_code, exceptionTable := #[], attributes := #[] }
def k7m1 : Method := { name := "<init>", desc := "([C)V", sig := { parameters := [(.array .char)], returnType := none }, accessFlags := 1, code := some k7c1 }
def k7c2 : Code := { maxStack := 4, maxLocals := 6, code := jdk_42_method_149_code, exceptionTable := #[], attributes := #[] }
def k7m2 : Method := { name := "<init>", desc := "([CIILjava/lang/Void;)V", sig := { parameters := [(.array .char), .int, .int, (.object "java/lang/Void")], returnType := none }, accessFlags := 2, code := some k7c2 }
/-- java/lang/String -/
def k7 : Class := { plain "java/lang/String" (some 0) with
  accessFlags := 49
  interfaces := #[2, 3, 4, 5, 6]
  cf := some (fileOf pool7 10 #[.nestMembers #[1103]] #[{ accessFlags := 1, nameIndex := 5, descriptorIndex := 6, attributes := #[] }, { accessFlags := 1, nameIndex := 5, descriptorIndex := 1010, attributes := #[] }, { accessFlags := 2, nameIndex := 5, descriptorIndex := 29, attributes := #[] }] 49 2 #[1106, 1108, 575, 1110, 1112] #[{ accessFlags := 18, nameIndex := 13, descriptorIndex := 14, attributes := #[] }, { accessFlags := 18, nameIndex := 17, descriptorIndex := 18, attributes := #[] }, { accessFlags := 2, nameIndex := 21, descriptorIndex := 22, attributes := #[] }, { accessFlags := 2, nameIndex := 25, descriptorIndex := 26, attributes := #[] }, { accessFlags := 26, nameIndex := 1116, descriptorIndex := 1117, attributes := #[] }, { accessFlags := 24, nameIndex := 40, descriptorIndex := 26, attributes := #[] }, { accessFlags := 26, nameIndex := 1101, descriptorIndex := 1102, attributes := #[] }, { accessFlags := 26, nameIndex := 1121, descriptorIndex := 1122, attributes := #[] }, { accessFlags := 25, nameIndex := 599, descriptorIndex := 600, attributes := #[] }, { accessFlags := 24, nameIndex := 1125, descriptorIndex := 18, attributes := #[] }, { accessFlags := 24, nameIndex := 1127, descriptorIndex := 18, attributes := #[] }])
  fields := #[{ name := "value", type := (.array .byte), accessFlags := 18, slot := 0, constantValue := 0 }, { name := "coder", type := .byte, accessFlags := 18, slot := 1, constantValue := 0 }, { name := "hash", type := .int, accessFlags := 2, slot := 2, constantValue := 0 }, { name := "hashIsZero", type := .boolean, accessFlags := 2, slot := 3, constantValue := 0 }, { name := "serialVersionUID", type := .long, accessFlags := 26, slot := 0, constantValue := 0 }, { name := "COMPACT_STRINGS", type := .boolean, accessFlags := 24, slot := 1, constantValue := 0 }, { name := "serialPersistentFields", type := (.array (.object "java/io/ObjectStreamField")), accessFlags := 26, slot := 2, constantValue := 0 }, { name := "REPL", type := .char, accessFlags := 26, slot := 3, constantValue := 0 }, { name := "CASE_INSENSITIVE_ORDER", type := (.object "java/util/Comparator"), accessFlags := 25, slot := 4, constantValue := 0 }, { name := "LATIN1", type := .byte, accessFlags := 24, slot := 5, constantValue := 0 }, { name := "UTF16", type := .byte, accessFlags := 24, slot := 6, constantValue := 0 }]
  methods := #[k7m0, k7m1, k7m2]
  instanceTypes := #[(.array .byte), .byte, .int, .boolean]
  staticTypes := #[.long, .boolean, (.array (.object "java/io/ObjectStreamField")), .char, (.object "java/util/Comparator"), .byte, .byte]
  resolved := Array.replicate 1451 none
  statics := some 0 }

def pool8 : Array CpInfo := pool [(6, .class_ 8), (1, u "java/lang/Object"), (0, u "<init>"), (0, u "()V"), (1, .class_ 14), (1, u "java/lang/StringUTF16"), (31, u "$assertionsDisabled"), (0, u "Z"), (13, u "HI_BYTE_SHIFT"), (0, u "I"), (2, u "LO_BYTE_SHIFT"), (49, .methodref 12 116), (0, .nameAndType 117 118), (0, u "compress"), (0, u "([CI[BII)I"), (3, u "([CII)[B"), (138, u "coderFromArrayLen"), (0, u "([BI)B"), (106, .class_ 371), (1, u "java/lang/StringUTF16$LinesSpliterator"), (58, u "MAX_LENGTH"), (196, .class_ 628), (0, u "java/lang/StringUTF16$CodePointsSpliterator"), (0, .class_ 630), (0, u "java/lang/StringUTF16$CharsSpliterator")] 4

def k8m0 : Method := { name := "<init>", desc := "()V", sig := { parameters := [], returnType := none }, accessFlags := 0, code := none }
def k8c1 : Code := { maxStack := 2, maxLocals := 2, code := jdk_52_method_15_code, exceptionTable := #[], attributes := #[] }
def k8m1 : Method := { name := "coderFromArrayLen", desc := "([BI)B", sig := { parameters := [(.array .byte), .int], returnType := some .byte }, accessFlags := 8, code := some k8c1 }
def k8c2 : Code := { maxStack := 5, maxLocals := 6, code := jdk_52_method_16_code, exceptionTable := #[], attributes := #[] }
def k8m2 : Method := { name := "compress", desc := "([CII)[B", sig := { parameters := [(.array .char), .int, .int], returnType := some (.array .byte) }, accessFlags := 9, code := some k8c2 }
def k8c3 : Code := { maxStack := 3, maxLocals := 7, code := jdk_52_method_21_code, exceptionTable := #[], attributes := #[] }
def k8m3 : Method := { name := "compress", desc := "([CI[BII)I", sig := { parameters := [(.array .char), .int, (.array .byte), .int, .int], returnType := some .int }, accessFlags := 9, code := some k8c3 }
/-- java/lang/StringUTF16 -/
def k8 : Class := { plain "java/lang/StringUTF16" (some 0) with
  accessFlags := 48
  interfaces := #[]
  cf := some (fileOf pool8 12 #[.nestMembers #[627, 629, 369]] #[{ accessFlags := 0, nameIndex := 9, descriptorIndex := 10, attributes := #[] }, { accessFlags := 8, nameIndex := 261, descriptorIndex := 262, attributes := #[] }, { accessFlags := 9, nameIndex := 117, descriptorIndex := 122, attributes := #[] }, { accessFlags := 9, nameIndex := 117, descriptorIndex := 118, attributes := #[] }] 48 6 #[] #[{ accessFlags := 26, nameIndex := 61, descriptorIndex := 62, attributes := #[] }, { accessFlags := 26, nameIndex := 65, descriptorIndex := 62, attributes := #[] }, { accessFlags := 24, nameIndex := 430, descriptorIndex := 62, attributes := #[] }, { accessFlags := 4120, nameIndex := 46, descriptorIndex := 47, attributes := #[] }])
  fields := #[{ name := "HI_BYTE_SHIFT", type := .int, accessFlags := 26, slot := 0, constantValue := 0 }, { name := "LO_BYTE_SHIFT", type := .int, accessFlags := 26, slot := 1, constantValue := 0 }, { name := "MAX_LENGTH", type := .int, accessFlags := 24, slot := 2, constantValue := 0 }, { name := "$assertionsDisabled", type := .boolean, accessFlags := 4120, slot := 3, constantValue := 0 }]
  methods := #[k8m0, k8m1, k8m2, k8m3]
  instanceTypes := #[]
  staticTypes := #[.int, .int, .int, .boolean]
  resolved := Array.replicate 635 none
  statics := none }

def pool9 : Array CpInfo := pool [(1, .methodref 2 3), (0, .class_ 4), (0, .nameAndType 5 6), (0, u "java/lang/Object"), (0, u "<init>"), (0, u "()V"), (0, .class_ 8), (0, u "java/lang/Record")] 13

def k9c0 : Code := { maxStack := 1, maxLocals := 1, code := jdk_30_method_1_code, exceptionTable := #[], attributes := #[] }
def k9m0 : Method := { name := "<init>", desc := "()V", sig := { parameters := [], returnType := none }, accessFlags := 4, code := some k9c0 }
/-- java/lang/Record -/
def k9 : Class := { plain "java/lang/Record" (some 0) with
  accessFlags := 1057
  interfaces := #[]
  cf := some (fileOf pool9 7 #[] #[{ accessFlags := 4, nameIndex := 5, descriptorIndex := 6, attributes := #[] }] 1057 2 #[] #[])
  fields := #[]
  methods := #[k9m0]
  instanceTypes := #[]
  staticTypes := #[]
  resolved := Array.replicate 22 none
  statics := none }

def pool10 : Array CpInfo := pool [(1, .methodref 2 3), (0, .class_ 4), (0, .nameAndType 5 6), (0, u "java/lang/Record"), (0, u "<init>"), (0, u "()V"), (0, .fieldref 8 9), (0, .class_ 10), (0, .nameAndType 11 12), (0, u "com/example/chapeau/chapeau/link/Link"), (0, u "source"), (0, u "I"), (0, .fieldref 8 14), (0, .nameAndType 15 12), (0, u "field"), (0, .fieldref 8 17), (0, .nameAndType 18 19), (0, u "tag"), (0, u "Ljava/lang/String;"), (0, .fieldref 8 21), (0, .nameAndType 22 23), (0, u "code"), (0, u "C"), (0, .fieldref 8 25), (0, .nameAndType 26 19), (0, u "value"), (0, .fieldref 8 28), (0, .nameAndType 29 12), (0, u "target"), (14, u "(IILjava/lang/String;CLjava/lang/String;I)V"), (3, u "isResolved"), (0, u "()Z")] 30

def k10c0 : Code := { maxStack := 2, maxLocals := 7, code := prog_67_method_1_code, exceptionTable := #[], attributes := #[] }
def k10m0 : Method := { name := "<init>", desc := "(IILjava/lang/String;CLjava/lang/String;I)V", sig := { parameters := [.int, .int, (.object "java/lang/String"), .char, (.object "java/lang/String"), .int], returnType := none }, accessFlags := 1, code := some k10c0 }
def k10c1 : Code := { maxStack := 2, maxLocals := 1, code := prog_67_method_2_code, exceptionTable := #[], attributes := #[] }
def k10m1 : Method := { name := "isResolved", desc := "()Z", sig := { parameters := [], returnType := some .boolean }, accessFlags := 1, code := some k10c1 }
/-- com/example/chapeau/chapeau/link/Link -/
def k10 : Class := { plain "com/example/chapeau/chapeau/link/Link" (some 9) with
  accessFlags := 49
  interfaces := #[]
  cf := some (fileOf pool10 8 #[] #[{ accessFlags := 1, nameIndex := 5, descriptorIndex := 44, attributes := #[] }, { accessFlags := 1, nameIndex := 48, descriptorIndex := 49, attributes := #[] }] 49 2 #[] #[{ accessFlags := 18, nameIndex := 11, descriptorIndex := 12, attributes := #[] }, { accessFlags := 18, nameIndex := 15, descriptorIndex := 12, attributes := #[] }, { accessFlags := 18, nameIndex := 18, descriptorIndex := 19, attributes := #[] }, { accessFlags := 18, nameIndex := 22, descriptorIndex := 23, attributes := #[] }, { accessFlags := 18, nameIndex := 26, descriptorIndex := 19, attributes := #[] }, { accessFlags := 18, nameIndex := 29, descriptorIndex := 12, attributes := #[] }])
  fields := #[{ name := "source", type := .int, accessFlags := 18, slot := 0, constantValue := 0 }, { name := "field", type := .int, accessFlags := 18, slot := 1, constantValue := 0 }, { name := "tag", type := (.object "java/lang/String"), accessFlags := 18, slot := 2, constantValue := 0 }, { name := "code", type := .char, accessFlags := 18, slot := 3, constantValue := 0 }, { name := "value", type := (.object "java/lang/String"), accessFlags := 18, slot := 4, constantValue := 0 }, { name := "target", type := .int, accessFlags := 18, slot := 5, constantValue := 0 }]
  methods := #[k10m0, k10m1]
  instanceTypes := #[.int, .int, (.object "java/lang/String"), .char, (.object "java/lang/String"), .int]
  staticTypes := #[]
  resolved := Array.replicate 80 none
  statics := none }

def pool11 : Array CpInfo := pool [(4, .class_ 6), (1, u "java/lang/Object"), (0, u "<init>"), (0, u "()V"), (5, .class_ 16), (1, u "java/lang/StringLatin1"), (104, u "$assertionsDisabled"), (0, u "Z"), (98, .class_ 223), (1, u "java/lang/StringLatin1$LinesSpliterator"), (166, .class_ 391), (0, u "java/lang/StringLatin1$CharsSpliterator")] 3

def k11m0 : Method := { name := "<init>", desc := "()V", sig := { parameters := [], returnType := none }, accessFlags := 0, code := none }
/-- java/lang/StringLatin1 -/
def k11 : Class := { plain "java/lang/StringLatin1" (some 0) with
  accessFlags := 48
  interfaces := #[]
  cf := some (fileOf pool11 14 #[.nestMembers #[390, 221]] #[{ accessFlags := 0, nameIndex := 7, descriptorIndex := 8, attributes := #[] }] 48 4 #[] #[{ accessFlags := 4120, nameIndex := 121, descriptorIndex := 122, attributes := #[] }])
  fields := #[{ name := "$assertionsDisabled", type := .boolean, accessFlags := 4120, slot := 0, constantValue := 0 }]
  methods := #[k11m0]
  instanceTypes := #[]
  staticTypes := #[.boolean]
  resolved := Array.replicate 395 none
  statics := none }

def pool12 : Array CpInfo := pool [(2, .class_ 4), (1, u "java/lang/Object"), (0, u "<init>"), (0, u "()V"), (17, .class_ 26), (1, u "jdk/internal/util/Preconditions"), (28, .class_ 56), (0, u "jdk/internal/util/Preconditions$4"), (57, .class_ 115), (0, u "jdk/internal/util/Preconditions$1"), (7, u "SIOOBE_FORMATTER"), (0, u "Ljava/util/function/BiFunction;"), (0, .class_ 126), (0, u "jdk/internal/util/Preconditions$2"), (3, u "AIOOBE_FORMATTER"), (0, .class_ 132), (0, u "jdk/internal/util/Preconditions$3"), (3, u "IOOBE_FORMATTER")] 57

def k12m0 : Method := { name := "<init>", desc := "()V", sig := { parameters := [], returnType := none }, accessFlags := 1, code := none }
/-- jdk/internal/util/Preconditions -/
def k12 : Class := { plain "jdk/internal/util/Preconditions" (some 0) with
  accessFlags := 33
  interfaces := #[]
  cf := some (fileOf pool12 24 #[.nestMembers #[55, 131, 125, 114]] #[{ accessFlags := 1, nameIndex := 5, descriptorIndex := 6, attributes := #[] }] 33 2 #[] #[{ accessFlags := 25, nameIndex := 123, descriptorIndex := 124, attributes := #[] }, { accessFlags := 25, nameIndex := 130, descriptorIndex := 124, attributes := #[] }, { accessFlags := 25, nameIndex := 136, descriptorIndex := 124, attributes := #[] }])
  fields := #[{ name := "SIOOBE_FORMATTER", type := (.object "java/util/function/BiFunction"), accessFlags := 25, slot := 0, constantValue := 0 }, { name := "AIOOBE_FORMATTER", type := (.object "java/util/function/BiFunction"), accessFlags := 25, slot := 1, constantValue := 0 }, { name := "IOOBE_FORMATTER", type := (.object "java/util/function/BiFunction"), accessFlags := 25, slot := 2, constantValue := 0 }]
  methods := #[k12m0]
  instanceTypes := #[]
  staticTypes := #[(.object "java/util/function/BiFunction"), (.object "java/util/function/BiFunction"), (.object "java/util/function/BiFunction")]
  resolved := Array.replicate 194 none
  statics := some 1 }

def pool13 : Array CpInfo := pool [(9, u "<init>"), (6, .class_ 18), (1, u "java/lang/Object"), (0, u "()V"), (1, .class_ 23), (1, u "jdk/internal/util/ArraysSupport"), (0, u "LOG2_ARRAY_LONG_INDEX_SCALE"), (0, u "I"), (2, u "U"), (0, u "Ljdk/internal/misc/Unsafe;"), (8, u "BIG_ENDIAN"), (0, u "Z"), (8, u "LOG2_BYTE_BIT_SIZE"), (4, u "LOG2_ARRAY_INT_INDEX_SCALE"), (54, u "JLA"), (0, u "Ljdk/internal/access/JavaLangAccess;"), (11, u "LOG2_ARRAY_BOOLEAN_INDEX_SCALE"), (9, u "LOG2_ARRAY_BYTE_INDEX_SCALE"), (5, u "LOG2_ARRAY_CHAR_INDEX_SCALE"), (5, u "LOG2_ARRAY_SHORT_INDEX_SCALE"), (18, u "LOG2_ARRAY_FLOAT_INDEX_SCALE"), (24, u "LOG2_ARRAY_DOUBLE_INDEX_SCALE"), (89, u "T_BOOLEAN"), (2, u "T_CHAR"), (1, u "T_FLOAT"), (1, u "T_DOUBLE"), (1, u "T_BYTE"), (1, u "T_SHORT"), (1, u "T_INT"), (1, u "T_LONG"), (1, u "SOFT_MAX_ARRAY_LENGTH")] 83

def k13m0 : Method := { name := "<init>", desc := "()V", sig := { parameters := [], returnType := none }, accessFlags := 2, code := none }
/-- jdk/internal/util/ArraysSupport -/
def k13 : Class := { plain "jdk/internal/util/ArraysSupport" (some 0) with
  accessFlags := 33
  interfaces := #[]
  cf := some (fileOf pool13 21 #[] #[{ accessFlags := 2, nameIndex := 9, descriptorIndex := 19, attributes := #[] }] 33 16 #[] #[{ accessFlags := 24, nameIndex := 28, descriptorIndex := 29, attributes := #[] }, { accessFlags := 26, nameIndex := 38, descriptorIndex := 39, attributes := #[] }, { accessFlags := 25, nameIndex := 121, descriptorIndex := 25, attributes := #[] }, { accessFlags := 25, nameIndex := 131, descriptorIndex := 25, attributes := #[] }, { accessFlags := 25, nameIndex := 137, descriptorIndex := 25, attributes := #[] }, { accessFlags := 25, nameIndex := 143, descriptorIndex := 25, attributes := #[] }, { accessFlags := 25, nameIndex := 53, descriptorIndex := 25, attributes := #[] }, { accessFlags := 25, nameIndex := 24, descriptorIndex := 25, attributes := #[] }, { accessFlags := 25, nameIndex := 162, descriptorIndex := 25, attributes := #[] }, { accessFlags := 25, nameIndex := 187, descriptorIndex := 25, attributes := #[] }, { accessFlags := 26, nameIndex := 48, descriptorIndex := 25, attributes := #[] }, { accessFlags := 25, nameIndex := 277, descriptorIndex := 25, attributes := #[] }, { accessFlags := 25, nameIndex := 280, descriptorIndex := 25, attributes := #[] }, { accessFlags := 25, nameIndex := 282, descriptorIndex := 25, attributes := #[] }, { accessFlags := 25, nameIndex := 284, descriptorIndex := 25, attributes := #[] }, { accessFlags := 25, nameIndex := 286, descriptorIndex := 25, attributes := #[] }, { accessFlags := 25, nameIndex := 288, descriptorIndex := 25, attributes := #[] }, { accessFlags := 25, nameIndex := 290, descriptorIndex := 25, attributes := #[] }, { accessFlags := 25, nameIndex := 292, descriptorIndex := 25, attributes := #[] }, { accessFlags := 26, nameIndex := 108, descriptorIndex := 109, attributes := #[] }, { accessFlags := 25, nameIndex := 294, descriptorIndex := 25, attributes := #[] }])
  fields := #[{ name := "U", type := (.object "jdk/internal/misc/Unsafe"), accessFlags := 24, slot := 0, constantValue := 0 }, { name := "BIG_ENDIAN", type := .boolean, accessFlags := 26, slot := 1, constantValue := 0 }, { name := "LOG2_ARRAY_BOOLEAN_INDEX_SCALE", type := .int, accessFlags := 25, slot := 2, constantValue := 0 }, { name := "LOG2_ARRAY_BYTE_INDEX_SCALE", type := .int, accessFlags := 25, slot := 3, constantValue := 0 }, { name := "LOG2_ARRAY_CHAR_INDEX_SCALE", type := .int, accessFlags := 25, slot := 4, constantValue := 0 }, { name := "LOG2_ARRAY_SHORT_INDEX_SCALE", type := .int, accessFlags := 25, slot := 5, constantValue := 0 }, { name := "LOG2_ARRAY_INT_INDEX_SCALE", type := .int, accessFlags := 25, slot := 6, constantValue := 0 }, { name := "LOG2_ARRAY_LONG_INDEX_SCALE", type := .int, accessFlags := 25, slot := 7, constantValue := 0 }, { name := "LOG2_ARRAY_FLOAT_INDEX_SCALE", type := .int, accessFlags := 25, slot := 8, constantValue := 0 }, { name := "LOG2_ARRAY_DOUBLE_INDEX_SCALE", type := .int, accessFlags := 25, slot := 9, constantValue := 0 }, { name := "LOG2_BYTE_BIT_SIZE", type := .int, accessFlags := 26, slot := 10, constantValue := 0 }, { name := "T_BOOLEAN", type := .int, accessFlags := 25, slot := 11, constantValue := 0 }, { name := "T_CHAR", type := .int, accessFlags := 25, slot := 12, constantValue := 0 }, { name := "T_FLOAT", type := .int, accessFlags := 25, slot := 13, constantValue := 0 }, { name := "T_DOUBLE", type := .int, accessFlags := 25, slot := 14, constantValue := 0 }, { name := "T_BYTE", type := .int, accessFlags := 25, slot := 15, constantValue := 0 }, { name := "T_SHORT", type := .int, accessFlags := 25, slot := 16, constantValue := 0 }, { name := "T_INT", type := .int, accessFlags := 25, slot := 17, constantValue := 0 }, { name := "T_LONG", type := .int, accessFlags := 25, slot := 18, constantValue := 0 }, { name := "JLA", type := (.object "jdk/internal/access/JavaLangAccess"), accessFlags := 26, slot := 19, constantValue := 0 }, { name := "SOFT_MAX_ARRAY_LENGTH", type := .int, accessFlags := 25, slot := 20, constantValue := 0 }]
  methods := #[k13m0]
  instanceTypes := #[]
  staticTypes := #[(.object "jdk/internal/misc/Unsafe"), .boolean, .int, .int, .int, .int, .int, .int, .int, .int, .int, .int, .int, .int, .int, .int, .int, .int, .int, (.object "jdk/internal/access/JavaLangAccess"), .int]
  resolved := Array.replicate 378 none
  statics := none }

def pool14 : Array CpInfo := pool [(1, u "java/lang/Cloneable"), (0, .class_ 1), (0, u "java/lang/Object"), (0, .class_ 3)] 3

/-- java/lang/Cloneable -/
def k14 : Class := { plain "java/lang/Cloneable" (some 0) with
  accessFlags := 1537
  interfaces := #[]
  cf := some (fileOf pool14 2 #[] #[] 1537 4 #[] #[])
  fields := #[]
  methods := #[]
  instanceTypes := #[]
  staticTypes := #[]
  resolved := Array.replicate 8 none
  statics := none }

/-- the primitive byte -/
def k15 : Class := { plain "byte" none with kind := .primitive 'B', accessFlags := 0x411 }
/-- [B -/
def k16 : Class := { plain "[B" (some 0) with kind := .array 15 .byte, interfaces := #[14, 2], accessFlags := 1041 }

/-- the primitive char -/
def k17 : Class := { plain "char" none with kind := .primitive 'C', accessFlags := 0x411 }
/-- [C -/
def k18 : Class := { plain "[C" (some 0) with kind := .array 17 .char, interfaces := #[14, 2], accessFlags := 1041 }

/-- the primitive int -/
def k19 : Class := { plain "int" none with kind := .primitive 'I', accessFlags := 0x411 }
/-- [I -/
def k20 : Class := { plain "[I" (some 0) with kind := .array 19 .int, interfaces := #[14, 2], accessFlags := 1041 }

def heap : Heap := #[{ cls := 7, slots := #[.long 0, .int 1, .null, .int 0, .null, .int 0, .int 0], vm := .statics 7 },
  { cls := 12, slots := #[.null, .null, .null], vm := .statics 12 }]
def classes : Array Class := #[k0, k1, k2, k3, k4, k5, k6, k7, k8, k9, k10, k11, k12, k13, k14, k15, k16, k17, k18, k19, k20]
def interned : List (Array UInt16 × Addr) := []
def slotsUsed : Nat := 10
def theMethod : MethodId := ⟨1, 1⟩
def args0 : Array Value := #[.int 5, .int 6, .int 7, .int 8, .int 9, .int 10]
def aboutOver (below : List Frame) : State where
  vm := { classes := classes, interned := interned.toArray }
  heap := heap
  slotsUsed := slotsUsed
  threads := #[{ frames := .invoking theMethod args0 :: below }]
def below0 : List Frame := [.native { method := ⟨0, 0⟩, args := #[] }]
def about1 : State := aboutOver below0
def p0 : Program := .bare "" "" ""
def e0 : Env := launch0.env 0 0 0
theorem w_frames : about1.frames = Frame.invoking theMethod args0 :: below0 := rfl
set_option maxRecDepth 65536 in
theorem w_args : argsFit about1.vm theMethod args0 = true := by decide +kernel
set_option maxRecDepth 65536 in
theorem w_heap : heapFits about1 = true := by decide +kernel
set_option maxRecDepth 65536 in
theorem w_runnable : about1.curStatus? = some .runnable := by decide +kernel
set_option maxRecDepth 65536 in
theorem w_alone : about1.alone = true := by decide +kernel
set_option maxRecDepth 65536 in
theorem w_named : about1.methodNamed? x = some theMethod := by decide +kernel
set_option maxRecDepth 65536 in
theorem w_hears : about1.hears theMethod below0 = true := by decide +kernel
set_option maxRecDepth 65536 in
theorem w_ripe : about1.ripe theMethod args0 below0 = true := by decide +kernel
theorem w_running : about1.status = .running := rfl
set_option maxRecDepth 65536 in
theorem w_room : about1.hasRoom e0.platform room_1 = true :=
  launch0.hasRoom_least _ room_1 (by decide +kernel) (by decide +kernel) (by decide +kernel) (by decide +kernel) (by decide +kernel) (by decide +kernel)
theorem allAtoms_all (ts : List Jvm.Cond) (a : Array Jvm.Value) (st : Jvm.State) : (allAtoms ts).before a st = ts.all (fun c => c.before a st) := by
  induction ts with
  | nil => rfl
  | cons c t ih =>
    show (Jvm.Cond.and c (allAtoms t)).before a st = _
    rw [Jvm.Cond.before_and, ih, List.all_cons]
def words1 : List Jvm.Cond := Jvm.Cond.code x code maxLocals ret :: tables_1
/-- a 'code' word, met by the world's own term for the bytes: nothing is compared byte by byte -/
theorem code_word {y : MethodName} {bytes : ByteArray} {mx : Nat} {rt : Option FieldType} {a : Array Value} {s : State} {m : MethodId} {meth : Method} {c : Code} (h1 : s.methodNamed? y = some m) (h2 : s.vm.method? m = some meth) (h3 : meth.code = some c) (h4 : c.code = bytes)
    (h5 : (c.maxLocals == mx && c.exceptionTable.isEmpty && decide (c.maxStack ≤ mostOperands) && decide (meth.sig.returnType = rt) && !meth.locks && decide (parseMethodDescriptor y.desc = some meth.sig)) = true) : (Jvm.Cond.code y bytes mx rt).before a s = true := by
  simp only [Bool.and_eq_true, beq_iff_eq, Bool.not_eq_true', decide_eq_true_eq] at h5
  obtain ⟨⟨⟨⟨⟨g1, g2⟩, g3⟩, g4⟩, g5⟩, g6⟩ := h5
  simp [Cond.before, Cond.holds, Cond.value, h1, h2, h3, h4, g1, g2, g3, g4, g5, g6]
def isCode : Jvm.Cond → Bool
  | .code _ _ _ _ => true
  | _ => false
theorem all_split {L : List Jvm.Cond} {P : Jvm.Cond → Bool} (h1 : L.all (fun c => isCode c || P c) = true) (h2 : ∀ c ∈ L.filter isCode, P c = true) : L.all P = true := by
  refine List.all_eq_true.mpr fun c hc => ?_
  have h := List.all_eq_true.mp h1 c hc
  rcases Bool.eq_false_or_eq_true (isCode c) with hi | hi
  · exact h2 c (List.mem_filter.mpr ⟨hc, hi⟩)
  · simpa [hi] using h
set_option maxRecDepth 65536 in
theorem w_c0 : (Jvm.Cond.code x code maxLocals ret).before args0 about1 = true := code_word (m := ⟨1, 1⟩) (meth := k1m1) (c := k1c1) (by decide +kernel) rfl rfl rfl (by decide +kernel)
set_option maxRecDepth 65536 in
theorem w_c1 : (Jvm.Cond.code ({ cls := "java/lang/String", name := "<init>", desc := "([C)V" } : Jvm.MethodName) jdk_42_method_3_code (2 : Nat) (Option.none : Option Jvm.ClassFile.FieldType)).before args0 about1 = true := code_word (m := ⟨7, 1⟩) (meth := k7m1) (c := k7c1) (by decide +kernel) rfl rfl rfl (by decide +kernel)
set_option maxRecDepth 65536 in
theorem w_c2 : (Jvm.Cond.code ({ cls := "java/lang/String", name := "<init>", desc := "([CIILjava/lang/Void;)V" } : Jvm.MethodName) jdk_42_method_149_code (6 : Nat) (Option.none : Option Jvm.ClassFile.FieldType)).before args0 about1 = true := code_word (m := ⟨7, 2⟩) (meth := k7m2) (c := k7c2) (by decide +kernel) rfl rfl rfl (by decide +kernel)
set_option maxRecDepth 65536 in
theorem w_c3 : (Jvm.Cond.code ({ cls := "java/lang/Object", name := "<init>", desc := "()V" } : Jvm.MethodName) object_method_1_code (1 : Nat) (Option.none : Option Jvm.ClassFile.FieldType)).before args0 about1 = true := code_word (m := ⟨0, 0⟩) (meth := k0m0) (c := k0c0) (by decide +kernel) rfl rfl rfl (by decide +kernel)
set_option maxRecDepth 65536 in
theorem w_c4 : (Jvm.Cond.code ({ cls := "java/lang/StringUTF16", name := "compress", desc := "([CII)[B" } : Jvm.MethodName) jdk_52_method_16_code (6 : Nat) (Option.some (Jvm.ClassFile.FieldType.array Jvm.ClassFile.FieldType.byte))).before args0 about1 = true := code_word (m := ⟨8, 2⟩) (meth := k8m2) (c := k8c2) (by decide +kernel) rfl rfl rfl (by decide +kernel)
set_option maxRecDepth 65536 in
theorem w_c5 : (Jvm.Cond.code ({ cls := "java/lang/StringUTF16", name := "compress", desc := "([CI[BII)I" } : Jvm.MethodName) jdk_52_method_21_code (7 : Nat) (Option.some Jvm.ClassFile.FieldType.int)).before args0 about1 = true := code_word (m := ⟨8, 3⟩) (meth := k8m3) (c := k8c3) (by decide +kernel) rfl rfl rfl (by decide +kernel)
set_option maxRecDepth 65536 in
theorem w_c6 : (Jvm.Cond.code ({ cls := "java/lang/StringUTF16", name := "coderFromArrayLen", desc := "([BI)B" } : Jvm.MethodName) jdk_52_method_15_code (2 : Nat) (Option.some Jvm.ClassFile.FieldType.byte)).before args0 about1 = true := code_word (m := ⟨8, 1⟩) (meth := k8m1) (c := k8c1) (by decide +kernel) rfl rfl rfl (by decide +kernel)
set_option maxRecDepth 65536 in
theorem w_c7 : (Jvm.Cond.code ({ cls := "com/example/chapeau/chapeau/link/Link", name := "<init>", desc := "(IILjava/lang/String;CLjava/lang/String;I)V" } : Jvm.MethodName) prog_67_method_1_code (7 : Nat) (Option.none : Option Jvm.ClassFile.FieldType)).before args0 about1 = true := code_word (m := ⟨10, 0⟩) (meth := k10m0) (c := k10c0) (by decide +kernel) rfl rfl rfl (by decide +kernel)
set_option maxRecDepth 65536 in
theorem w_c8 : (Jvm.Cond.code ({ cls := "java/lang/Record", name := "<init>", desc := "()V" } : Jvm.MethodName) jdk_30_method_1_code (1 : Nat) (Option.none : Option Jvm.ClassFile.FieldType)).before args0 about1 = true := code_word (m := ⟨9, 0⟩) (meth := k9m0) (c := k9c0) (by decide +kernel) rfl rfl rfl (by decide +kernel)
set_option maxRecDepth 65536 in
theorem w_c9 : (Jvm.Cond.code ({ cls := "com/example/chapeau/chapeau/link/Link", name := "isResolved", desc := "()Z" } : Jvm.MethodName) prog_67_method_2_code (1 : Nat) (Option.some Jvm.ClassFile.FieldType.boolean)).before args0 about1 = true := code_word (m := ⟨10, 1⟩) (meth := k10m1) (c := k10c1) (by decide +kernel) rfl rfl rfl (by decide +kernel)
def codes1 : List Jvm.Cond := [Jvm.Cond.code x code maxLocals ret, Jvm.Cond.code ({ cls := "java/lang/String", name := "<init>", desc := "([C)V" } : Jvm.MethodName) jdk_42_method_3_code (2 : Nat) (Option.none : Option Jvm.ClassFile.FieldType), Jvm.Cond.code ({ cls := "java/lang/String", name := "<init>", desc := "([CIILjava/lang/Void;)V" } : Jvm.MethodName) jdk_42_method_149_code (6 : Nat) (Option.none : Option Jvm.ClassFile.FieldType), Jvm.Cond.code ({ cls := "java/lang/Object", name := "<init>", desc := "()V" } : Jvm.MethodName) object_method_1_code (1 : Nat) (Option.none : Option Jvm.ClassFile.FieldType), Jvm.Cond.code ({ cls := "java/lang/StringUTF16", name := "compress", desc := "([CII)[B" } : Jvm.MethodName) jdk_52_method_16_code (6 : Nat) (Option.some (Jvm.ClassFile.FieldType.array Jvm.ClassFile.FieldType.byte)), Jvm.Cond.code ({ cls := "java/lang/StringUTF16", name := "compress", desc := "([CI[BII)I" } : Jvm.MethodName) jdk_52_method_21_code (7 : Nat) (Option.some Jvm.ClassFile.FieldType.int), Jvm.Cond.code ({ cls := "java/lang/StringUTF16", name := "coderFromArrayLen", desc := "([BI)B" } : Jvm.MethodName) jdk_52_method_15_code (2 : Nat) (Option.some Jvm.ClassFile.FieldType.byte), Jvm.Cond.code ({ cls := "com/example/chapeau/chapeau/link/Link", name := "<init>", desc := "(IILjava/lang/String;CLjava/lang/String;I)V" } : Jvm.MethodName) prog_67_method_1_code (7 : Nat) (Option.none : Option Jvm.ClassFile.FieldType), Jvm.Cond.code ({ cls := "java/lang/Record", name := "<init>", desc := "()V" } : Jvm.MethodName) jdk_30_method_1_code (1 : Nat) (Option.none : Option Jvm.ClassFile.FieldType), Jvm.Cond.code ({ cls := "com/example/chapeau/chapeau/link/Link", name := "isResolved", desc := "()Z" } : Jvm.MethodName) prog_67_method_2_code (1 : Nat) (Option.some Jvm.ClassFile.FieldType.boolean)]
set_option maxRecDepth 65536 in
theorem codes_eq : words1.filter isCode = codes1 := rfl
theorem w_codes : ∀ c ∈ words1.filter isCode, c.before args0 about1 = true := by
  rw [codes_eq]
  intro c hc
  simp only [codes1, List.mem_cons, List.not_mem_nil, or_false] at hc
  rcases hc with rfl | rfl | rfl | rfl | rfl | rfl | rfl | rfl | rfl | rfl
  · exact w_c0
  · exact w_c1
  · exact w_c2
  · exact w_c3
  · exact w_c4
  · exact w_c5
  · exact w_c6
  · exact w_c7
  · exact w_c8
  · exact w_c9
set_option maxRecDepth 65536 in
theorem w_t1 : (words1.take 24).all (fun c => isCode c || c.before args0 about1) = true := by decide +kernel
set_option maxRecDepth 65536 in
theorem w_t2 : ((words1.drop 24).take 24).all (fun c => isCode c || c.before args0 about1) = true := by decide +kernel
set_option maxRecDepth 65536 in
theorem w_t3 : ((words1.drop 24).drop 24).all (fun c => isCode c || c.before args0 about1) = true := by decide +kernel
theorem w_tables : (allAtoms (Jvm.Cond.code x code maxLocals ret :: tables_1)).before args0 about1 = true := by
  rw [allAtoms_all]
  show words1.all (fun c => c.before args0 about1) = true
  refine all_split ?_ w_codes
  rw [← List.take_append_drop 24 words1, List.all_append, w_t1, ← List.take_append_drop 24 (words1.drop 24), List.all_append, w_t2, w_t3]
  rfl
set_option maxRecDepth 65536 in
theorem w_rest : rest_1_c.before args0 about1 = true := by decide +kernel
set_option maxRecDepth 65536 in
theorem w_case : (Jvm.Cond.and given_1 narrow_1).before args0 about1 = true := by decide +kernel
theorem w_applies : (headSpec (Jvm.Cond.code x code maxLocals ret :: tables_1) room_1).applies x e0.platform about1 = true :=
  (Spec.applies_iff w_frames).mpr ⟨w_running, w_runnable, w_alone, w_named, w_hears, w_ripe, w_room, w_tables⟩
theorem atStart : AtStart classFile x code maxLocals ret World_1 tables_1 room_1 Calls_1 rest_1 Pre_1 launch0 p0 e0 about1 theMethod args0 below0 :=
  ⟨lists_1, trivial, launch0.admits_env _ _ _, launch0.least_env, fairChoices_fair.cas, fairChoices_fair.clock, w_frames, w_args, w_heap, w_applies, trivial, w_rest, w_case⟩
end start1
theorem witness_1 : WitnessClaimed_1 := ⟨start1.p0, start1.e0, start1.about1, start1.theMethod, start1.args0, start1.below0, start1.atStart⟩
end Jvm.Pilot.@@N@@
