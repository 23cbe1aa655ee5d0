import JvmDerived
import JvmDerived.Pilot.@@N@@Statement
import JvmDerived.Pilot.@@N@@Code
set_option linter.unusedVariables false
set_option linter.unusedSimpArgs false
set_option maxRecDepth 65536
set_option maxHeartbeats 40000000
/- laws to paste: Road.backV (cut by pick.py; bodies as the Statement names them) -/
namespace Jvm.Pilot.@@N@@
namespace StrChars
open Jvm Sem ClassFile Op Lib Jvm.Stand Jvm.Free.XT Jvm.Free.ALB Jvm.Free.JM Jvm.Free
open Jvm.Lib.Cold (StaticIs)
/-- a char array whose places are chars -/
def Ch (a : Addr) (A : Cell) (U : State) : Prop := Arr .char a A U ∧ Typed .char A
theorem Ch.mv {a : Addr} {A : Cell} {U U' : State} (h : Ch a A U) (hal : U.vm.Alike U'.vm) (hh : U'.heap = U.heap) : Ch a A U' := ⟨h.1.mv hal hh, h.2⟩
theorem Ch.keep {a : Addr} {A : Cell} {U U' : State} (h : Ch a A U) (hal : U.vm.Alike U'.vm) (hk : U'.heap[a]? = some A) : Ch a A U' := ⟨h.1.keep hal hk, h.2⟩
/-- what place i of a char[]'s cell holds -/
def cv (A : Cell) (i : Nat) : Int32 := match A.slots[i]? with | some (.int x) => x | _ => 0
theorem Ch.get {a : Addr} {A : Cell} {U : State} (h : Ch a A U) {i : Nat} (hi : i < A.slots.size) : A.slots[i]? = some (.int (cv A i)) := by
  have e := Array.getElem?_eq_getElem hi
  have f := h.2 i _ e
  unfold cv; rw [e]
  generalize A.slots[i] = v at f
  cases v <;> simp [fits] at f ⊢
/-- the byte that i2b leaves of a char -/
def lo8 (x : Int32) : Int32 := x.toInt8.toInt32
theorem fits_lo8 (y : Int32) : fits .byte (.int (lo8 y)) = true := by
  have h1 := y.toInt8.le_toInt
  have h2 := y.toInt8.toInt_lt
  simp only [lo8, fits, Bool.and_eq_true, decide_eq_true_eq, Int32.le_iff_toInt_le, Int8.toInt_toInt32, show (-128 : Int32).toInt = -128 from by decide, show (127 : Int32).toInt = 127 from by decide]
  omega
/-- A' is A but that each place j of lo .. hi - 1 holds f j -/
def Laid (A A' : Cell) (lo hi : Nat) (f : Nat → Value) : Prop := A'.cls = A.cls ∧ A'.vm = A.vm ∧ A'.slots.size = A.slots.size ∧ ∀ i, A'.slots[i]? = if lo ≤ i ∧ i < hi then some (f i) else A.slots[i]?
theorem Laid.zero (A : Cell) (lo : Nat) (f : Nat → Value) : Laid A A lo (lo + 0) f := ⟨rfl, rfl, rfl, fun i => by rw [if_neg (by omega)]⟩
theorem Laid.step {A Ak : Cell} {lo k : Nat} {f : Nat → Value} {v : Value} (h : Laid A Ak lo k f) (hlo : lo ≤ k) (hk : k < Ak.slots.size) (hv : v = f k) : Laid A (Ak.setSlot k v) lo (k + 1) f := by
  refine ⟨h.1, h.2.1, by simpa [Cell.setSlot] using h.2.2.1, fun i => ?_⟩
  by_cases e : k = i
  · subst e; rw [Cell.slots_setSlot_self v hk, if_pos (by omega), hv]
  · rw [Cell.slots_setSlot_ne v e, h.2.2.2 i]
    by_cases q : lo ≤ i ∧ i < k
    · rw [if_pos q, if_pos (by omega)]
    · rw [if_neg q, if_neg (by omega)]
def U16 : String := "java/lang/StringUTF16"
namespace Cmp5
def yN : MethodName := ⟨"java/lang/StringUTF16", "compress", "([CI[BII)I"⟩
abbrev yB : ByteArray := jdk_52_method_21_code
theorem d0 : decode yB 0 = .ok (.iconst 0, 1) := by decide +kernel
theorem d1 : decode yB 1 = .ok (.istore 5, 2) := by decide +kernel
theorem d3 : decode yB 3 = .ok (.iload 5, 2) := by decide +kernel
theorem d5 : decode yB 5 = .ok (.iload 4, 2) := by decide +kernel
theorem d7 : decode yB 7 = .ok (.if_icmp (.ge) 37, 3) := by decide +kernel
theorem d10 : decode yB 10 = .ok (.aload_n 0, 1) := by decide +kernel
theorem d11 : decode yB 11 = .ok (.iload_n 1, 1) := by decide +kernel
theorem d12 : decode yB 12 = .ok (.caload, 1) := by decide +kernel
theorem d13 : decode yB 13 = .ok (.istore 6, 2) := by decide +kernel
theorem d15 : decode yB 15 = .ok (.iload 6, 2) := by decide +kernel
theorem d17 : decode yB 17 = .ok (.sipush 255, 3) := by decide +kernel
theorem d20 : decode yB 20 = .ok (.if_icmp (.le) 6, 3) := by decide +kernel
theorem d26 : decode yB 26 = .ok (.aload_n 2, 1) := by decide +kernel
theorem d27 : decode yB 27 = .ok (.iload_n 3, 1) := by decide +kernel
theorem d28 : decode yB 28 = .ok (.iload 6, 2) := by decide +kernel
theorem d30 : decode yB 30 = .ok (.i2b, 1) := by decide +kernel
theorem d31 : decode yB 31 = .ok (.bastore, 1) := by decide +kernel
theorem d32 : decode yB 32 = .ok (.iinc 1 1, 3) := by decide +kernel
theorem d35 : decode yB 35 = .ok (.iinc 3 1, 3) := by decide +kernel
theorem d38 : decode yB 38 = .ok (.iinc 5 1, 3) := by decide +kernel
theorem d41 : decode yB 41 = .ok (.goto (-38), 3) := by decide +kernel
theorem d44 : decode yB 44 = .ok (.iload 4, 2) := by decide +kernel
theorem d46 : decode yB 46 = .ok (.ireturn, 1) := by decide +kernel
def site : List Cond := []
def tab : Cond := tabOf yN yB 7 (some .int) site
def P (b : Addr) (A : Cell) (d : Addr) (B : Cell) (o q len : Nat) (args : Array Value) (s : State) : Prop := args = #[.ref b, .int (Int32.ofNat o), .ref d, .int (Int32.ofNat q), .int (Int32.ofNat len)] ∧ Ch b A s ∧ Arr .byte d B s ∧ b ≠ d ∧ o + len ≤ A.slots.size ∧ q + len ≤ B.slots.size ∧ ∀ i, i < len → ¬ 255 < cv A (o + i)
def E (b : Addr) (A : Cell) (d : Addr) (B : Cell) (o q len : Nat) (r : Option Value) (s u : State) : Prop := r = some (.int (Int32.ofNat len)) ∧ ∃ B', Put d B' s u ∧ Laid B B' q (q + len) (fun j => Value.int (lo8 (cv A (o + (j - q)))))
/-- no char of the range above 255: len; the places written hold each char's low byte -/
theorem law (l : Launch) (b : Addr) (A : Cell) (d : Addr) (B : Cell) (o q len : Nat) : Law l yN 5 5 0 0 yB 7 (some .int) site (P b A d B o q len) (E b A d B o q len) (copyLocs d q len) 0 0 := by
  refine Law.of_walk (plainFor_of_name (by decide +kernel)) (by decide +kernel) (by decide +kernel) (by decide) (fun _ _ h => by rw [h.1]; rfl) (fun _ U U' hal hh h => ⟨h.1, h.2.1.mv hal hh, h.2.2.1.mv hal hh, h.2.2.2⟩) (fun r U U' V V' h1 hal h2 h => ⟨h.1, h.2.elim fun B' q => ⟨B', q.1.mv h1 h2, q.2⟩⟩) ?_
  intro p e s m args below meth c s₁ X0 hexec hbytes hml hret hlk hnm hown hh0 W hP
  obtain ⟨rfl, hA, hB, hne, l1, l2, hp⟩ := hP
  have c1 : Steps p.tables e below (s₁.setTop (entryFrame m #[.ref b, .int (Int32.ofNat o), .ref d, .int (Int32.ofNat q), .int (Int32.ofNat len)] 7)) (s₁.setTop (mkF m 0 #[.val (.ref b), .val (.int (Int32.ofNat o)), .val (.ref d), .val (.int (Int32.ofNat q)), .val (.int (Int32.ofNat len)), .unset, .unset] [])) := entry rfl
  have hA0 := hA.1.mv X0.warmed.alike hh0
  have hB0 := hB.mv X0.warmed.alike hh0
  have a31 := hA.1.2.2.2
  have c2 : Steps p.tables e below (s₁.setTop (entryFrame m #[.ref b, .int (Int32.ofNat o), .ref d, .int (Int32.ofNat q), .int (Int32.ofNat len)] 7)) (s₁.setTop (mkF m 3 #[.val (.ref b), .val (.int (Int32.ofNat o)), .val (.ref d), .val (.int (Int32.ofNat q)), .val (.int (Int32.ofNat len)), .val (.int 0), .unset] [])) := c1.trans (by
    refine iconstV X0.here hexec rfl 0 (hb hbytes d0) (by decide) ?_
    refine XS.istore X0.here hexec rfl (hb hbytes d1) rfl rfl ?_
    exact Steps.refl _)
  have loop : ∀ (r i : Nat), i + r = len → ∀ (z : Slot), (z = .unset ∨ ∃ w, z = .val w ∧ w.category = 1) → ∀ (Tl : State) (Bk : Cell), Stand p l e { frames := 0, locals := 0, cells := 0, slots := 0 } s m #[.ref b, .int (Int32.ofNat o), .ref d, .int (Int32.ofNat q), .int (Int32.ofNat len)] below meth c Tl ([] ++ copyLocs d q i) 0 0 → Put d Bk s₁ Tl → Laid B Bk q (q + i) (fun j => Value.int (lo8 (cv A (o + (j - q))))) →
      Steps p.tables e below (s₁.setTop (entryFrame m #[.ref b, .int (Int32.ofNat o), .ref d, .int (Int32.ofNat q), .int (Int32.ofNat len)] 7)) (Tl.setTop (mkF m 3 #[.val (.ref b), .val (.int (Int32.ofNat (o + i))), .val (.ref d), .val (.int (Int32.ofNat (q + i))), .val (.int (Int32.ofNat len)), .val (.int (Int32.ofNat i)), z] [])) → ∃ (T' : State) (B' : Cell) (z' : Slot), Stand p l e { frames := 0, locals := 0, cells := 0, slots := 0 } s m #[.ref b, .int (Int32.ofNat o), .ref d, .int (Int32.ofNat q), .int (Int32.ofNat len)] below meth c T' ([] ++ copyLocs d q len) 0 0 ∧ Put d B' s₁ T' ∧ Laid B B' q (q + len) (fun j => Value.int (lo8 (cv A (o + (j - q))))) ∧
      Steps p.tables e below (s₁.setTop (entryFrame m #[.ref b, .int (Int32.ofNat o), .ref d, .int (Int32.ofNat q), .int (Int32.ofNat len)] 7)) (T'.setTop (mkF m 3 #[.val (.ref b), .val (.int (Int32.ofNat (o + len))), .val (.ref d), .val (.int (Int32.ofNat (q + len))), .val (.int (Int32.ofNat len)), .val (.int (Int32.ofNat len)), z'] [])) := by
    intro r
    induction r with
    | zero =>
      intro i hi z hz Tl Bk Xl pl fl cl
      have hil : i = len := by omega
      rw [hil] at Xl fl cl
      exact ⟨Tl, Bk, z, Xl, pl, fl, cl⟩
    | succ r ih =>
      intro i hi z hz Tl Bk Xl pl fl cl
      have all := X0.warmed.alike.symm.trans Xl.warmed.alike
      have hAl := hA0.keep all (pl.other hne hA0.1)
      have hBk := hB0.like all pl.1 fl.1 fl.2.1 fl.2.2.1
      have hlt : q + i < Bk.slots.size := by rw [fl.2.2.1]; omega
      have c3 : Steps p.tables e below (s₁.setTop (entryFrame m #[.ref b, .int (Int32.ofNat o), .ref d, .int (Int32.ofNat q), .int (Int32.ofNat len)] 7)) (Tl.setTop (mkF m 12 #[.val (.ref b), .val (.int (Int32.ofNat (o + i))), .val (.ref d), .val (.int (Int32.ofNat (q + i))), .val (.int (Int32.ofNat len)), .val (.int (Int32.ofNat i)), z] [.int (Int32.ofNat (o + i)), .ref b])) := cl.trans (by
        refine XS.iload Xl.here hexec rfl (hb hbytes d3) rfl ?_
        refine XS.iload Xl.here hexec rfl (hb hbytes d5) rfl ?_
        refine XS.icmpNo Xl.here hexec rfl (hb hbytes d7) rfl (ii_ge_f (lt32 (by omega) (by omega))) ?_
        refine XS.aloadN Xl.here hexec rfl (hb hbytes d10) rfl rfl ?_
        refine XS.iloadN Xl.here hexec rfl (hb hbytes d11) rfl ?_
        exact Steps.refl _)
      have c4 : Steps p.tables e below (s₁.setTop (entryFrame m #[.ref b, .int (Int32.ofNat o), .ref d, .int (Int32.ofNat q), .int (Int32.ofNat len)] 7)) (Tl.setTop (mkF m 13 #[.val (.ref b), .val (.int (Int32.ofNat (o + i))), .val (.ref d), .val (.int (Int32.ofNat (q + i))), .val (.int (Int32.ofNat len)), .val (.int (Int32.ofNat i)), z] [.int (cv A (o + i))])) := c3.trans (by
        refine Xl.aget hexec hAl rfl (hA.get (i := o + i) (by omega)) rfl rfl (hb hbytes d12) ?_
        exact Steps.refl _)
      have c5 : Steps p.tables e below (s₁.setTop (entryFrame m #[.ref b, .int (Int32.ofNat o), .ref d, .int (Int32.ofNat q), .int (Int32.ofNat len)] 7)) (Tl.setTop (mkF m 15 #[.val (.ref b), .val (.int (Int32.ofNat (o + i))), .val (.ref d), .val (.int (Int32.ofNat (q + i))), .val (.int (Int32.ofNat len)), .val (.int (Int32.ofNat i)), .val (.int (cv A (o + i)))] [])) := c4.trans (by
        refine XS.istoreS Xl.here hexec rfl (hb hbytes d13) rfl rfl hz ?_
        exact Steps.refl _)
      have c6 : Steps p.tables e below (s₁.setTop (entryFrame m #[.ref b, .int (Int32.ofNat o), .ref d, .int (Int32.ofNat q), .int (Int32.ofNat len)] 7)) (Tl.setTop (mkF m 31 #[.val (.ref b), .val (.int (Int32.ofNat (o + i))), .val (.ref d), .val (.int (Int32.ofNat (q + i))), .val (.int (Int32.ofNat len)), .val (.int (Int32.ofNat i)), .val (.int (cv A (o + i)))] [.int (lo8 (cv A (o + i))), .int (Int32.ofNat (q + i)), .ref d])) := c5.trans (by
        refine XS.iload Xl.here hexec rfl (hb hbytes d15) rfl ?_
        refine sipushV Xl.here hexec rfl 255 (hb hbytes d17) (by decide) ?_
        refine XS.icmpYes Xl.here hexec rfl (pc0 := 20) rfl (hb hbytes d20) rfl (ii_le_t (hp i (by omega))) (by decide) rfl ?_
        refine XS.aloadN Xl.here hexec rfl (hb hbytes d26) rfl rfl ?_
        refine XS.iloadN Xl.here hexec rfl (hb hbytes d27) rfl ?_
        refine XS.iload Xl.here hexec rfl (hb hbytes d28) rfl ?_
        refine i2b Xl.here hexec rfl (hb hbytes d30) rfl ?_
        exact Steps.refl _)
      obtain ⟨T7, X7, p7, st7⟩ := Xl.aput hexec hBk rfl hlt rfl (fits_lo8 (cv A (o + i))) (g := (mkF m 31 #[.val (.ref b), .val (.int (Int32.ofNat (o + i))), .val (.ref d), .val (.int (Int32.ofNat (q + i))), .val (.int (Int32.ofNat len)), .val (.int (Int32.ofNat i)), .val (.int (cv A (o + i)))] [.int (lo8 (cv A (o + i))), .int (Int32.ofNat (q + i)), .ref d])) rfl (rest := []) rfl (hb hbytes d31)
      have c8 : Steps p.tables e below (s₁.setTop (entryFrame m #[.ref b, .int (Int32.ofNat o), .ref d, .int (Int32.ofNat q), .int (Int32.ofNat len)] 7)) (T7.setTop (mkF m 32 #[.val (.ref b), .val (.int (Int32.ofNat (o + i))), .val (.ref d), .val (.int (Int32.ofNat (q + i))), .val (.int (Int32.ofNat len)), .val (.int (Int32.ofNat i)), .val (.int (cv A (o + i)))] [])) := c6.trans (st7 _ (Steps.refl _))
      have c9 : Steps p.tables e below (s₁.setTop (entryFrame m #[.ref b, .int (Int32.ofNat o), .ref d, .int (Int32.ofNat q), .int (Int32.ofNat len)] 7)) (T7.setTop (mkF m 3 #[.val (.ref b), .val (.int (Int32.ofNat (o + i) + 1)), .val (.ref d), .val (.int (Int32.ofNat (q + i) + 1)), .val (.int (Int32.ofNat len)), .val (.int (Int32.ofNat i + 1)), .val (.int (cv A (o + i)))] [])) := c8.trans (by
        refine iincV X7.here hexec rfl 1 (hb hbytes d32) (by decide) rfl rfl ?_
        refine iincV X7.here hexec rfl 1 (hb hbytes d35) (by decide) rfl rfl ?_
        refine iincV X7.here hexec rfl 1 (hb hbytes d38) (by decide) rfl rfl ?_
        refine XS.goto X7.here hexec rfl (pc0 := 41) rfl (hb hbytes d41) (by decide) rfl ?_
        exact Steps.refl _)
      have c10 : Steps p.tables e below (s₁.setTop (entryFrame m #[.ref b, .int (Int32.ofNat o), .ref d, .int (Int32.ofNat q), .int (Int32.ofNat len)] 7)) (T7.setTop (mkF m 3 #[.val (.ref b), .val (.int (Int32.ofNat (o + (i + 1)))), .val (.ref d), .val (.int (Int32.ofNat (q + (i + 1)))), .val (.int (Int32.ofNat len)), .val (.int (Int32.ofNat (i + 1))), .val (.int (cv A (o + i)))] [])) := by
        have := c9
        rw [succ32, succ32, succ32] at this
        exact this
      exact ih (i + 1) (by omega) _ (Or.inr ⟨_, rfl, rfl⟩) T7 _ (by rw [copyLocs_step, ← List.append_assoc]; exact X7) (pl.trans p7) (fl.step (by omega) hlt (by simp)) c10
  obtain ⟨T9, B9, z9, X9, p9, f9, g9⟩ := loop len 0 (by omega) .unset (Or.inl rfl) s₁ B (by simpa [copyLocs] using X0) ⟨hB0.1, fun _ _ => rfl, rfl⟩ (Laid.zero _ _ _) c2
  have c11 : Steps p.tables e below (s₁.setTop (entryFrame m #[.ref b, .int (Int32.ofNat o), .ref d, .int (Int32.ofNat q), .int (Int32.ofNat len)] 7)) (T9.setTop (mkF m 46 #[.val (.ref b), .val (.int (Int32.ofNat (o + len))), .val (.ref d), .val (.int (Int32.ofNat (q + len))), .val (.int (Int32.ofNat len)), .val (.int (Int32.ofNat len)), z9] [.int (Int32.ofNat len)])) := g9.trans (by
    refine XS.iload X9.here hexec rfl (hb hbytes d3) rfl ?_
    refine XS.iload X9.here hexec rfl (hb hbytes d5) rfl ?_
    refine XS.icmpYes X9.here hexec rfl (pc0 := 7) rfl (hb hbytes d7) rfl (ii_ge_t (nlt32 (by omega) (Nat.le_refl _))) (by decide) rfl ?_
    refine XS.iload X9.here hexec rfl (hb hbytes d44) rfl ?_
    exact Steps.refl _)
  exact ⟨T9, some (.int (Int32.ofNat len)), _, _, _, X9, by simp, rfl, rfl, (fun h => by cases h), ⟨rfl, B9, p9.from hh0, f9⟩, fun fs hl => c11.trans (X9.ireturnOut hexec hret rfl (Or.inl rfl) (hb hbytes d46) hl)⟩
end Cmp5
namespace Cmp3
def yN : MethodName := ⟨"java/lang/StringUTF16", "compress", "([CII)[B"⟩
abbrev yB : ByteArray := jdk_52_method_16_code
theorem d0 : decode yB 0 = .ok (.iload_n 2, 1) := by decide +kernel
theorem d1 : decode yB 1 = .ok (.newarray .byte, 2) := by decide +kernel
theorem d3 : decode yB 3 = .ok (.astore_n 3, 1) := by decide +kernel
theorem d4 : decode yB 4 = .ok (.aload_n 0, 1) := by decide +kernel
theorem d5 : decode yB 5 = .ok (.iload_n 1, 1) := by decide +kernel
theorem d6 : decode yB 6 = .ok (.aload_n 3, 1) := by decide +kernel
theorem d7 : decode yB 7 = .ok (.iconst 0, 1) := by decide +kernel
theorem d8 : decode yB 8 = .ok (.iload_n 2, 1) := by decide +kernel
theorem d9 : decode yB 9 = .ok (.invokestatic 115, 3) := by decide +kernel
theorem d12 : decode yB 12 = .ok (.istore 4, 2) := by decide +kernel
theorem d14 : decode yB 14 = .ok (.iload 4, 2) := by decide +kernel
theorem d16 : decode yB 16 = .ok (.iload_n 2, 1) := by decide +kernel
theorem d17 : decode yB 17 = .ok (.if_icmp (.eq) 40, 3) := by decide +kernel
theorem d57 : decode yB 57 = .ok (.aload_n 3, 1) := by decide +kernel
theorem d58 : decode yB 58 = .ok (.areturn, 1) := by decide +kernel
def site : List Cond := [.arrayClass .byte, Cmp5.tab] ++ staticW U16 115 Cmp5.yN
def tab : Cond := tabOf yN yB 6 (some (.array .byte)) site
def P (b : Addr) (A : Cell) (o len : Nat) (args : Array Value) (s : State) : Prop := args = #[.ref b, .int (Int32.ofNat o), .int (Int32.ofNat len)] ∧ Ch b A s ∧ o + len ≤ A.slots.size ∧ len ≤ 536870912 ∧ ∀ i, i < len → ¬ 255 < cv A (o + i)
def E (b : Addr) (A : Cell) (o len : Nat) (r : Option Value) (s u : State) : Prop := NewArr .byte "[B" len (fun j => .int (lo8 (cv A (o + j)))) r s u ∧ u.heap.size = s.heap.size + 1
/-- no char of the range above 255: a new byte[] of their low bytes -/
theorem law (l : Launch) (b : Addr) (A : Cell) (o len : Nat) : Law l yN 3 3 1 18 yB 6 (some (.array .byte)) site (P b A o len) (E b A o len) [] 1 len := by
  refine Law.of_walk (plainFor_of_name (by decide +kernel)) (by decide +kernel) (by decide +kernel) (by decide) (fun _ _ h => by rw [h.1]; rfl) (fun _ U U' hal hh h => ⟨h.1, h.2.1.mv hal hh, h.2.2⟩) (fun r U U' V V' h1 hal h2 h => ⟨NewArr.mv r U U' V V' h1 hal h2 h.1, by rw [h1, h2]; exact h.2⟩) ?_
  intro p e s m args below meth c s₁ X0 hexec hbytes hml hret hlk hnm hown hh0 W hP
  obtain ⟨rfl, hA, l1, l2, hp⟩ := hP
  have a31 := hA.1.2.2.2
  have c1 : Steps p.tables e below (s₁.setTop (entryFrame m #[.ref b, .int (Int32.ofNat o), .int (Int32.ofNat len)] 6)) (s₁.setTop (mkF m 0 #[.val (.ref b), .val (.int (Int32.ofNat o)), .val (.int (Int32.ofNat len)), .unset, .unset, .unset] [])) := entry rfl
  have c2 : Steps p.tables e below (s₁.setTop (entryFrame m #[.ref b, .int (Int32.ofNat o), .int (Int32.ofNat len)] 6)) (s₁.setTop (mkF m 1 #[.val (.ref b), .val (.int (Int32.ofNat o)), .val (.int (Int32.ofNat len)), .unset, .unset, .unset] [.int (Int32.ofNat len)])) := c1.trans (by
    refine XS.iloadN X0.here hexec rfl (hb hbytes d0) rfl ?_
    exact Steps.refl _)
  obtain ⟨T3, B3, X3, ba3, bs3, bv3, bh3, bf3, st3⟩ := X0.anew hexec (atype := .byte) (wk W (.arrayClass .byte)) rfl (by show len * 1 ≤ _; omega) (by omega) (g := (mkF m 1 #[.val (.ref b), .val (.int (Int32.ofNat o)), .val (.int (Int32.ofNat len)), .unset, .unset, .unset] [.int (Int32.ofNat len)])) rfl (hb hbytes d1) (rest := []) rfl (Nat.le_refl _) (by show 0 + len ≤ len; omega)
  rw [hh0] at ba3 st3
  have kp3 : XT.Kept s T3 := (XT.Kept.of_eq hh0).push bh3
  have hA3 := hA.keep X3.warmed.alike (kp3 _ _ hA.1.1)
  have hne : b ≠ s.heap.size := hA.1.ne
  have c4 : Steps p.tables e below (s₁.setTop (entryFrame m #[.ref b, .int (Int32.ofNat o), .int (Int32.ofNat len)] 6)) (T3.setTop (mkF m 3 #[.val (.ref b), .val (.int (Int32.ofNat o)), .val (.int (Int32.ofNat len)), .unset, .unset, .unset] [.ref s.heap.size])) := c2.trans (st3 _ (Steps.refl _))
  have c5 : Steps p.tables e below (s₁.setTop (entryFrame m #[.ref b, .int (Int32.ofNat o), .int (Int32.ofNat len)] 6)) (T3.setTop (mkF m 9 #[.val (.ref b), .val (.int (Int32.ofNat o)), .val (.int (Int32.ofNat len)), .val (.ref s.heap.size), .unset, .unset] [.int (Int32.ofNat len), .int 0, .ref s.heap.size, .int (Int32.ofNat o), .ref b])) := c4.trans (by
    refine XS.astoreN X3.here hexec rfl (hb hbytes d3) rfl rfl rfl ?_
    refine XS.aloadN X3.here hexec rfl (hb hbytes d4) rfl rfl ?_
    refine XS.iloadN X3.here hexec rfl (hb hbytes d5) rfl ?_
    refine XS.aloadN X3.here hexec rfl (hb hbytes d6) rfl rfl ?_
    refine iconstV X3.here hexec rfl 0 (hb hbytes d7) (by decide) ?_
    refine XS.iloadN X3.here hexec rfl (hb hbytes d8) rfl ?_
    exact Steps.refl _)
  obtain ⟨v6, T6, X6, E6, g6⟩ := X3.callS hexec (Cmp5.law l b A s.heap.size B3 o 0 len) hown (wks W (staticW U16 115 Cmp5.yN)) (wk W Cmp5.tab) (W := 0) (Nat.le_of_ble_eq_true rfl) (Nat.le_of_ble_eq_true rfl) (Nat.le_refl _) (by show 0 + len + 0 ≤ len; omega) (g := (mkF m 9 #[.val (.ref b), .val (.int (Int32.ofNat o)), .val (.int (Int32.ofNat len)), .val (.ref s.heap.size), .unset, .unset] [.int (Int32.ofNat len), .int (Int32.ofNat 0), .ref s.heap.size, .int (Int32.ofNat o), .ref b])) rfl (by rw [hml]; rfl) c5 (argsL := [.ref b, .int (Int32.ofNat o), .ref s.heap.size, .int (Int32.ofNat 0), .int (Int32.ofNat len)]) (rest := []) rfl rfl (by show 2 * 0 + 0 ≤ _; decide) (hb hbytes d9) (⟨rfl, hA3, ba3, hne, l1, by rw [bs3]; simp, hp⟩)
  obtain ⟨rfl, B6, p6, f6⟩ := E6
  have c7 : Steps p.tables e below (s₁.setTop (entryFrame m #[.ref b, .int (Int32.ofNat o), .int (Int32.ofNat len)] 6)) (T6.setTop (mkF m 12 #[.val (.ref b), .val (.int (Int32.ofNat o)), .val (.int (Int32.ofNat len)), .val (.ref s.heap.size), .unset, .unset] [.int (Int32.ofNat len)])) := g6
  have c8 : Steps p.tables e below (s₁.setTop (entryFrame m #[.ref b, .int (Int32.ofNat o), .int (Int32.ofNat len)] 6)) (T6.setTop (mkF m 58 #[.val (.ref b), .val (.int (Int32.ofNat o)), .val (.int (Int32.ofNat len)), .val (.ref s.heap.size), .val (.int (Int32.ofNat len)), .unset] [.ref s.heap.size])) := c7.trans (by
    refine XS.istore X6.here hexec rfl (hb hbytes d12) rfl rfl ?_
    refine XS.iload X6.here hexec rfl (hb hbytes d14) rfl ?_
    refine XS.iloadN X6.here hexec rfl (hb hbytes d16) rfl ?_
    refine XS.icmpYes X6.here hexec rfl (pc0 := 17) rfl (hb hbytes d17) rfl (ii_eq_t rfl) (by decide) rfl ?_
    refine XS.aloadN X6.here hexec rfl (hb hbytes d57) rfl rfl ?_
    exact Steps.refl _)
  have X8 := X6.wide (L' := []) (cells' := 1) (slots' := len) (fun x hx hlt => by
    simp only [List.nil_append, copyLocs, List.mem_map, List.mem_range] at hx
    obtain ⟨i, -, rfl⟩ := hx
    exact absurd hlt (Nat.lt_irrefl _)) (Nat.le_refl _) (by omega)
  exact ⟨T6, some (.ref s.heap.size), _, _, _, X8, rfl, rfl, rfl, (fun h => by cases h), ⟨⟨rfl, B6, ba3.like (X3.warmed.alike.symm.trans X6.warmed.alike) p6.1 f6.1 f6.2.1 f6.2.2.1, f6.2.1.trans bv3, by rw [X6.warmed.alike.findClass, f6.1]; exact bf3, by rw [f6.2.2.1, bs3]; simp, fun j hj => by rw [f6.2.2.2 j, if_pos (by omega)]; rfl, kp3.put p6 (Nat.le_refl _)⟩, by rw [p6.2.2, bh3, hh0]; simp⟩, fun fs hl => c8.trans (X8.areturnOut hexec rfl hret rfl (hb hbytes d58) hl)⟩
end Cmp3
namespace CodL
def yN : MethodName := ⟨"java/lang/StringUTF16", "coderFromArrayLen", "([BI)B"⟩
abbrev yB : ByteArray := jdk_52_method_15_code
theorem d0 : decode yB 0 = .ok (.iload_n 1, 1) := by decide +kernel
theorem d1 : decode yB 1 = .ok (.aload_n 0, 1) := by decide +kernel
theorem d2 : decode yB 2 = .ok (.arraylength, 1) := by decide +kernel
theorem d3 : decode yB 3 = .ok (.isub, 1) := by decide +kernel
theorem d4 : decode yB 4 = .ok (.bipush 31, 2) := by decide +kernel
theorem d6 : decode yB 6 = .ok (.iushr, 1) := by decide +kernel
theorem d7 : decode yB 7 = .ok (.i2b, 1) := by decide +kernel
theorem d8 : decode yB 8 = .ok (.ireturn, 1) := by decide +kernel
def site : List Cond := []
def tab : Cond := tabOf yN yB 2 (some .byte) site
def P (d : Addr) (B : Cell) (args : Array Value) (s : State) : Prop := args = #[.ref d, .int (Int32.ofNat B.slots.size)] ∧ Arr .byte d B s
def E (r : Option Value) (s u : State) : Prop := XT.PureE (some (.int 0)) r s u
/-- an array as long as the number of chars: LATIN1 -/
theorem law (l : Launch) (d : Addr) (B : Cell) : Law l yN 2 2 0 0 yB 2 (some .byte) site (P d B) E [] 0 0 := by
  refine Law.of_walk (plainFor_of_name (by decide +kernel)) (by decide +kernel) (by decide +kernel) (by decide) (fun _ _ h => by rw [h.1]; rfl) (fun _ U U' hal hh h => ⟨h.1, h.2.mv hal hh⟩) (fun r U U' V V' h1 hal h2 h => XT.PureE.mv r U U' V V' h1 hal h2 h) ?_
  intro p e s m args below meth c s₁ X0 hexec hbytes hml hret hlk hnm hown hh0 W hP
  obtain ⟨rfl, hB⟩ := hP
  have hB0 := hB.mv X0.warmed.alike hh0
  have c1 : Steps p.tables e below (s₁.setTop (entryFrame m #[.ref d, .int (Int32.ofNat B.slots.size)] 2)) (s₁.setTop (mkF m 0 #[.val (.ref d), .val (.int (Int32.ofNat B.slots.size))] [])) := entry rfl
  have c2 : Steps p.tables e below (s₁.setTop (entryFrame m #[.ref d, .int (Int32.ofNat B.slots.size)] 2)) (s₁.setTop (mkF m 2 #[.val (.ref d), .val (.int (Int32.ofNat B.slots.size))] [.ref d, .int (Int32.ofNat B.slots.size)])) := c1.trans (by
    refine XS.iloadN X0.here hexec rfl (hb hbytes d0) rfl ?_
    refine XS.aloadN X0.here hexec rfl (hb hbytes d1) rfl rfl ?_
    exact Steps.refl _)
  have c3 : Steps p.tables e below (s₁.setTop (entryFrame m #[.ref d, .int (Int32.ofNat B.slots.size)] 2)) (s₁.setTop (mkF m 8 #[.val (.ref d), .val (.int (Int32.ofNat B.slots.size))] [.int (lo8 (ushr (Int32.ofNat B.slots.size - Int32.ofNat B.slots.size) 31))])) := c2.trans (by
    refine X0.alen hexec hB0 rfl rfl (hb hbytes d2) ?_
    refine XS.isub X0.here hexec rfl (hb hbytes d3) rfl ?_
    refine bipushV X0.here hexec rfl 31 (hb hbytes d4) (by decide) ?_
    refine iushr X0.here hexec rfl (hb hbytes d6) rfl ?_
    refine i2b X0.here hexec rfl (hb hbytes d7) rfl ?_
    exact Steps.refl _)
  have e0 : lo8 (ushr (Int32.ofNat B.slots.size - Int32.ofNat B.slots.size) 31) = 0 := by rw [Int32.sub_self]; decide
  rw [e0] at c3
  exact ⟨s₁, some (.int 0), _, _, _, X0, rfl, rfl, rfl, (fun h => by cases h), ⟨rfl, hh0⟩, fun fs hl => c3.trans (X0.ireturnOut hexec hret rfl (Or.inr (Or.inr (Or.inl rfl))) (hb hbytes d8) hl)⟩
end CodL
/-- the String at a is Latin-1 over a new byte[] (the heap's one new cell): the low bytes of the len chars of A from o on; every cell but a is kept -/
def Got (a : Addr) (D : Cell) (fV fC : Field) (A : Cell) (o len : Nat) (r : Option Value) (s u : State) : Prop := r = none ∧ ∃ D' V : Cell, Blank "java/lang/String" a D' u ∧ Same D D' [fV.slot, fC.slot] ∧ D'.slots[fV.slot]? = some (.ref s.heap.size) ∧ D'.slots[fC.slot]? = some (.int 0) ∧ Arr .byte s.heap.size V u ∧ V.vm = .none ∧ u.vm.findClass "[B" = some V.cls ∧ V.slots.size = len ∧ (∀ j, j < len → V.slots[j]? = some (.int (lo8 (cv A (o + j))))) ∧ (∀ (y : Addr) (c : Cell), y ≠ a → s.heap[y]? = some c → u.heap[y]? = some c) ∧ u.heap.size = s.heap.size + 1
theorem Got.mv {a : Addr} {D A : Cell} {fV fC : Field} {o len : Nat} : ∀ r (U U' V V' : State), U'.heap = U.heap → V.vm.Alike V'.vm → V'.heap = V.heap → Got a D fV fC A o len r U V → Got a D fV fC A o len r U' V' :=
  fun r U U' V V' h1 hal h2 ⟨e0, D', X, a1, a2, a3, a4, a5, a6, a7, a8, a9, a10, a11⟩ => ⟨e0, D', X, a1.mv hal h2, a2, by rw [h1]; exact a3, a4, by rw [h1]; exact a5.mv hal h2, a6, by rw [hal.findClass]; exact a7, a8, a9, by rw [h1, h2]; exact a10, by rw [h1, h2]; exact a11⟩
namespace New4
def yN : MethodName := ⟨"java/lang/String", "<init>", "([CIILjava/lang/Void;)V"⟩
abbrev yB : ByteArray := jdk_42_method_149_code
theorem d0 : decode yB 0 = .ok (.aload_n 0, 1) := by decide +kernel
theorem d1 : decode yB 1 = .ok (.invokespecial 1, 3) := by decide +kernel
theorem d4 : decode yB 4 = .ok (.iload_n 3, 1) := by decide +kernel
theorem d5 : decode yB 5 = .ok (.ifCond (.ne) 22, 3) := by decide +kernel
theorem d27 : decode yB 27 = .ok (.getstatic 38, 3) := by decide +kernel
theorem d30 : decode yB 30 = .ok (.ifCond (.eq) 28, 3) := by decide +kernel
theorem d33 : decode yB 33 = .ok (.aload_n 1, 1) := by decide +kernel
theorem d34 : decode yB 34 = .ok (.iload_n 2, 1) := by decide +kernel
theorem d35 : decode yB 35 = .ok (.iload_n 3, 1) := by decide +kernel
theorem d36 : decode yB 36 = .ok (.invokestatic 177, 3) := by decide +kernel
theorem d39 : decode yB 39 = .ok (.astore 5, 2) := by decide +kernel
theorem d41 : decode yB 41 = .ok (.aload_n 0, 1) := by decide +kernel
theorem d42 : decode yB 42 = .ok (.aload 5, 2) := by decide +kernel
theorem d44 : decode yB 44 = .ok (.iload_n 3, 1) := by decide +kernel
theorem d45 : decode yB 45 = .ok (.invokestatic 47, 3) := by decide +kernel
theorem d48 : decode yB 48 = .ok (.putfield 15, 3) := by decide +kernel
theorem d51 : decode yB 51 = .ok (.aload_n 0, 1) := by decide +kernel
theorem d52 : decode yB 52 = .ok (.aload 5, 2) := by decide +kernel
theorem d54 : decode yB 54 = .ok (.putfield 9, 3) := by decide +kernel
theorem d57 : decode yB 57 = .ok (.return_, 1) := by decide +kernel
def site : List Cond := [.fieldLink "java/lang/String" 38 "java/lang/String" "COMPACT_STRINGS" "Z", Cmp3.tab, CodL.tab, .laysFinal "java/lang/String" "java/lang/String" "value" "[B", .fieldLink "java/lang/String" 9 "java/lang/String" "value" "[B", .laysFinal "java/lang/String" "java/lang/String" "coder" "B", .fieldLink "java/lang/String" 15 "java/lang/String" "coder" "B"] ++ objW "java/lang/String" 1 ++ staticW "java/lang/String" 177 Cmp3.yN ++ staticW "java/lang/String" 47 CodL.yN
def tab : Cond := tabOf yN yB 6 none site
def P (a : Addr) (D : Cell) (fV fC : Field) (b : Addr) (A : Cell) (z : Int32) (o len : Nat) (args : Array Value) (s : State) : Prop := args = #[.ref a, .ref b, .int (Int32.ofNat o), .int (Int32.ofNat len), .null] ∧ Blank "java/lang/String" a D s ∧ Found "java/lang/String" "value" "[B" fV s ∧ Found "java/lang/String" "coder" "B" fC s ∧ Ch b A s ∧ StaticIs s "java/lang/String" "COMPACT_STRINGS" "Z" (.int z) ∧ ¬ z = 0 ∧ 0 < len ∧ o + len ≤ A.slots.size ∧ len ≤ 536870912 ∧ ∀ i, i < len → ¬ 255 < cv A (o + i)
def E (a : Addr) (D : Cell) (fV fC : Field) (A : Cell) (o len : Nat) (r : Option Value) (s u : State) : Prop := Got a D fV fC A o len r s u
/-- len > 0, no char of the range above 255: a Latin-1 String of their low bytes -/
theorem law (l : Launch) (a : Addr) (D : Cell) (fV fC : Field) (b : Addr) (A : Cell) (z : Int32) (o len : Nat) : Law l yN 5 4 2 35 yB 6 none site (P a D fV fC b A z o len) (E a D fV fC A o len) [⟨a, fC.slot⟩, ⟨a, fV.slot⟩] 1 len := by
  refine Law.of_walk (plainFor_of_name (by decide +kernel)) (by decide +kernel) (by decide +kernel) (by decide) (fun _ _ h => by rw [h.1]; rfl) (fun _ U U' hal hh h => ⟨h.1, h.2.1.mv hal hh, h.2.2.1.al hal, h.2.2.2.1.al hal, h.2.2.2.2.1.mv hal hh, h.2.2.2.2.2.1.there hal hh, h.2.2.2.2.2.2⟩) (fun r U U' V V' h1 hal h2 h => Got.mv r U U' V V' h1 hal h2 h) ?_
  intro p e s m args below meth c s₁ X0 hexec hbytes hml hret hlk hnm hown hh0 W hP
  obtain ⟨rfl, hB, f1, f2, hA, s1, hz, l0, l1, l2, hp⟩ := hP
  have a31 := hA.1.2.2.2
  have c1 : Steps p.tables e below (s₁.setTop (entryFrame m #[.ref a, .ref b, .int (Int32.ofNat o), .int (Int32.ofNat len), .null] 6)) (s₁.setTop (mkF m 0 #[.val (.ref a), .val (.ref b), .val (.int (Int32.ofNat o)), .val (.int (Int32.ofNat len)), .val .null, .unset] [])) := entry rfl
  have c2 : Steps p.tables e below (s₁.setTop (entryFrame m #[.ref a, .ref b, .int (Int32.ofNat o), .int (Int32.ofNat len), .null] 6)) (s₁.setTop (mkF m 1 #[.val (.ref a), .val (.ref b), .val (.int (Int32.ofNat o)), .val (.int (Int32.ofNat len)), .val .null, .unset] [.ref a])) := c1.trans (by
    refine XS.aloadN X0.here hexec rfl (hb hbytes d0) rfl rfl ?_
    exact Steps.refl _)
  obtain ⟨T3, X3, q3, st3⟩ := X0.oinit hexec hown (wks W (objW "java/lang/String" 1)) (g := (mkF m 1 #[.val (.ref a), .val (.ref b), .val (.int (Int32.ofNat o)), .val (.int (Int32.ofNat len)), .val .null, .unset] [.ref a])) rfl (by rw [hml]; rfl) (rest := []) rfl (hb hbytes d1) (W := 0) (by show 2 * 0 + 0 ≤ _; decide) (Nat.le_of_ble_eq_true rfl) (Nat.le_of_ble_eq_true rfl)
  have hh3 := q3.trans hh0
  have c4 : Steps p.tables e below (s₁.setTop (entryFrame m #[.ref a, .ref b, .int (Int32.ofNat o), .int (Int32.ofNat len), .null] 6)) (T3.setTop (mkF m 27 #[.val (.ref a), .val (.ref b), .val (.int (Int32.ofNat o)), .val (.int (Int32.ofNat len)), .val .null, .unset] [])) := (c2.trans (st3 _ (Steps.refl _))).trans (by
    refine XS.iloadN X3.here hexec rfl (hb hbytes d4) rfl ?_
    refine XS.ifYes X3.here hexec rfl (pc0 := 5) rfl (hb hbytes d5) rfl (i0_ne_t (nz32 (by omega) l0)) (by decide) rfl ?_
    exact Steps.refl _)
  obtain ⟨T5, X5, q5, st5⟩ := X3.sget hexec hown (wk W (.fieldLink "java/lang/String" 38 "java/lang/String" "COMPACT_STRINGS" "Z")) s1 (fun _ _ h => by rw [hh3]; exact h) (g := (mkF m 27 #[.val (.ref a), .val (.ref b), .val (.int (Int32.ofNat o)), .val (.int (Int32.ofNat len)), .val .null, .unset] [])) rfl (hb hbytes d27)
  have hh5 := q5.trans hh3
  have c6 : Steps p.tables e below (s₁.setTop (entryFrame m #[.ref a, .ref b, .int (Int32.ofNat o), .int (Int32.ofNat len), .null] 6)) (T5.setTop (mkF m 30 #[.val (.ref a), .val (.ref b), .val (.int (Int32.ofNat o)), .val (.int (Int32.ofNat len)), .val .null, .unset] [.int z])) := c4.trans (st5 _ (Steps.refl _))
  have c7 : Steps p.tables e below (s₁.setTop (entryFrame m #[.ref a, .ref b, .int (Int32.ofNat o), .int (Int32.ofNat len), .null] 6)) (T5.setTop (mkF m 36 #[.val (.ref a), .val (.ref b), .val (.int (Int32.ofNat o)), .val (.int (Int32.ofNat len)), .val .null, .unset] [.int (Int32.ofNat len), .int (Int32.ofNat o), .ref b])) := c6.trans (by
    refine XS.ifNo X5.here hexec rfl (hb hbytes d30) rfl (i0_eq_f hz) ?_
    refine XS.aloadN X5.here hexec rfl (hb hbytes d33) rfl rfl ?_
    refine XS.iloadN X5.here hexec rfl (hb hbytes d34) rfl ?_
    refine XS.iloadN X5.here hexec rfl (hb hbytes d35) rfl ?_
    exact Steps.refl _)
  obtain ⟨v8, T8, X8, E8, g8⟩ := X5.callS hexec (Cmp3.law l b A o len) hown (wks W (staticW "java/lang/String" 177 Cmp3.yN)) (wk W Cmp3.tab) (W := 0) (Nat.le_of_ble_eq_true rfl) (Nat.le_of_ble_eq_true rfl) (Nat.le_refl _) (by show 0 + len ≤ len; omega) (g := (mkF m 36 #[.val (.ref a), .val (.ref b), .val (.int (Int32.ofNat o)), .val (.int (Int32.ofNat len)), .val .null, .unset] [.int (Int32.ofNat len), .int (Int32.ofNat o), .ref b])) rfl (by rw [hml]; rfl) c7 (argsL := [.ref b, .int (Int32.ofNat o), .int (Int32.ofNat len)]) (rest := []) rfl rfl (by show 2 * 0 + 0 ≤ _; decide) (hb hbytes d36) (⟨rfl, hA.mv X5.warmed.alike hh5, l1, l2, hp⟩)
  obtain ⟨e8, z8⟩ := E8
  obtain ⟨rfl, N, n1, n2, n3, n4, n5, n6⟩ := NewArr.mv _ T5 s _ _ hh5.symm (Vm.Alike.refl _) rfl e8
  rw [hh5] at z8
  have hB1 := hB.keep X8.warmed.alike (n6 _ _ hB.1)
  have hne : s.heap.size ≠ a := (Nat.ne_of_lt (Array.getElem?_eq_some_iff.mp hB.1).1).symm
  have c9 : Steps p.tables e below (s₁.setTop (entryFrame m #[.ref a, .ref b, .int (Int32.ofNat o), .int (Int32.ofNat len), .null] 6)) (T8.setTop (mkF m 39 #[.val (.ref a), .val (.ref b), .val (.int (Int32.ofNat o)), .val (.int (Int32.ofNat len)), .val .null, .unset] [.ref s.heap.size])) := g8
  have c10 : Steps p.tables e below (s₁.setTop (entryFrame m #[.ref a, .ref b, .int (Int32.ofNat o), .int (Int32.ofNat len), .null] 6)) (T8.setTop (mkF m 45 #[.val (.ref a), .val (.ref b), .val (.int (Int32.ofNat o)), .val (.int (Int32.ofNat len)), .val .null, .val (.ref s.heap.size)] [.int (Int32.ofNat N.slots.size), .ref s.heap.size, .ref a])) := by
    have hc : Steps p.tables e below (s₁.setTop (entryFrame m #[.ref a, .ref b, .int (Int32.ofNat o), .int (Int32.ofNat len), .null] 6)) (T8.setTop (mkF m 45 #[.val (.ref a), .val (.ref b), .val (.int (Int32.ofNat o)), .val (.int (Int32.ofNat len)), .val .null, .val (.ref s.heap.size)] [.int (Int32.ofNat len), .ref s.heap.size, .ref a])) := c9.trans (by
      refine XS.astore X8.here hexec rfl (hb hbytes d39) rfl rfl rfl ?_
      refine XS.aloadN X8.here hexec rfl (hb hbytes d41) rfl rfl ?_
      refine XS.aload X8.here hexec rfl (hb hbytes d42) rfl rfl ?_
      refine XS.iloadN X8.here hexec rfl (hb hbytes d44) rfl ?_
      exact Steps.refl _)
    rw [n4]; exact hc
  obtain ⟨v11, T11, X11, E11, g11⟩ := X8.callS hexec (CodL.law l s.heap.size N) hown (wks W (staticW "java/lang/String" 47 CodL.yN)) (wk W CodL.tab) (W := 1) (Nat.le_of_ble_eq_true rfl) (Nat.le_of_ble_eq_true rfl) (Nat.le_refl _) (by show 0 + len + 0 ≤ len; omega) (g := (mkF m 45 #[.val (.ref a), .val (.ref b), .val (.int (Int32.ofNat o)), .val (.int (Int32.ofNat len)), .val .null, .val (.ref s.heap.size)] [.int (Int32.ofNat N.slots.size), .ref s.heap.size, .ref a])) rfl (by rw [hml]; rfl) c10 (argsL := [.ref s.heap.size, .int (Int32.ofNat N.slots.size)]) (rest := [.ref a]) rfl rfl (by show 2 * 0 + (1 + 0) ≤ _; decide) (hb hbytes d45) (⟨rfl, n1⟩)
  obtain ⟨rfl, q11⟩ := E11
  have hB11 := hB1.mv (X8.warmed.alike.symm.trans X11.warmed.alike) q11
  have c12 : Steps p.tables e below (s₁.setTop (entryFrame m #[.ref a, .ref b, .int (Int32.ofNat o), .int (Int32.ofNat len), .null] 6)) (T11.setTop (mkF m 48 #[.val (.ref a), .val (.ref b), .val (.int (Int32.ofNat o)), .val (.int (Int32.ofNat len)), .val .null, .val (.ref s.heap.size)] [.int 0, .ref a])) := g11
  obtain ⟨T13, X13, p13, bl13, sl13, st13⟩ := X11.finit hexec hown (wk W (.fieldLink "java/lang/String" 15 "java/lang/String" "coder" "B")) (Or.inr ⟨_, (wk W (.laysFinal "java/lang/String" "java/lang/String" "coder" "B"))⟩) (Or.inl ⟨rfl, hnm⟩) f2 (Or.inl rfl) hB11 (t := .byte) (by decide +kernel) rfl (g := (mkF m 48 #[.val (.ref a), .val (.ref b), .val (.int (Int32.ofNat o)), .val (.int (Int32.ofNat len)), .val .null, .val (.ref s.heap.size)] [.int 0, .ref a])) rfl (rest := []) rfl (hb hbytes d48)
  have c14 : Steps p.tables e below (s₁.setTop (entryFrame m #[.ref a, .ref b, .int (Int32.ofNat o), .int (Int32.ofNat len), .null] 6)) (T13.setTop (mkF m 54 #[.val (.ref a), .val (.ref b), .val (.int (Int32.ofNat o)), .val (.int (Int32.ofNat len)), .val .null, .val (.ref s.heap.size)] [.ref s.heap.size, .ref a])) := (c12.trans (st13 _ (Steps.refl _))).trans (by
    refine XS.aloadN X13.here hexec rfl (hb hbytes d51) rfl rfl ?_
    refine XS.aload X13.here hexec rfl (hb hbytes d52) rfl rfl ?_
    exact Steps.refl _)
  obtain ⟨T15, X15, p15, bl15, sl15, st15⟩ := X13.finit hexec hown (wk W (.fieldLink "java/lang/String" 9 "java/lang/String" "value" "[B")) (Or.inr ⟨_, (wk W (.laysFinal "java/lang/String" "java/lang/String" "value" "[B"))⟩) (Or.inl ⟨rfl, hnm⟩) f1 (Or.inl rfl) bl13 (t := (.array .byte)) (by decide +kernel) rfl (g := (mkF m 54 #[.val (.ref a), .val (.ref b), .val (.int (Int32.ofNat o)), .val (.int (Int32.ofNat len)), .val .null, .val (.ref s.heap.size)] [.ref s.heap.size, .ref a])) rfl (rest := []) rfl (hb hbytes d54)
  have c16 : Steps p.tables e below (s₁.setTop (entryFrame m #[.ref a, .ref b, .int (Int32.ofNat o), .int (Int32.ofNat len), .null] 6)) (T15.setTop (mkF m 57 #[.val (.ref a), .val (.ref b), .val (.int (Int32.ofNat o)), .val (.int (Int32.ofNat len)), .val .null, .val (.ref s.heap.size)] [])) := c14.trans (st15 _ (Steps.refl _))
  have ap := apart (Or.inr ⟨_, (wk W (.laysFinal "java/lang/String" "java/lang/String" "value" "[B"))⟩) (Or.inr ⟨_, (wk W (.laysFinal "java/lang/String" "java/lang/String" "coder" "B"))⟩) f1 f2 (t₁ := .array .byte) (t₂ := .byte) (by decide +kernel) (by decide +kernel) (by decide)
  have al := X8.warmed.alike.symm.trans X15.warmed.alike
  have n7 : T11.heap[s.heap.size]? = some N := by rw [q11]; exact n1.1
  exact ⟨T15, none, _, _, _, X15, by simp, rfl, by omega, (fun _ => rfl), ⟨rfl, _, N, bl15, ((Same.refl D _).set _ (by simp)).set _ (by simp), sl15, (Cell.slots_setSlot_ne _ ap).trans sl13, n1.keep al (p15.other hne (p13.other hne n7)), n2, by rw [al.findClass]; exact n3, n4, n5, fun y c h1 h2 => p15.other h1 (p13.other h1 (by rw [q11]; exact n6 y c h2)), by rw [p15.2.2, p13.2.2, q11]; exact z8⟩, fun fs hl => c16.trans (X15.returnOut hexec hret (hb hbytes d57) hl)⟩
end New4
namespace New1
def yN : MethodName := ⟨"java/lang/String", "<init>", "([C)V"⟩
abbrev yB : ByteArray := jdk_42_method_3_code
theorem d0 : decode yB 0 = .ok (.aload_n 0, 1) := by decide +kernel
theorem d1 : decode yB 1 = .ok (.aload_n 1, 1) := by decide +kernel
theorem d2 : decode yB 2 = .ok (.iconst 0, 1) := by decide +kernel
theorem d3 : decode yB 3 = .ok (.aload_n 1, 1) := by decide +kernel
theorem d4 : decode yB 4 = .ok (.arraylength, 1) := by decide +kernel
theorem d5 : decode yB 5 = .ok (.aconst_null, 1) := by decide +kernel
theorem d6 : decode yB 6 = .ok (.invokespecial 27, 3) := by decide +kernel
theorem d9 : decode yB 9 = .ok (.return_, 1) := by decide +kernel
def site : List Cond := [New4.tab] ++ initW "java/lang/String" 27 New4.yN
def tab : Cond := tabOf yN yB 2 none site
def P (a : Addr) (D : Cell) (fV fC : Field) (b : Addr) (A : Cell) (z : Int32) (args : Array Value) (s : State) : Prop := args = #[.ref a, .ref b] ∧ Blank "java/lang/String" a D s ∧ Found "java/lang/String" "value" "[B" fV s ∧ Found "java/lang/String" "coder" "B" fC s ∧ Ch b A s ∧ StaticIs s "java/lang/String" "COMPACT_STRINGS" "Z" (.int z) ∧ ¬ z = 0 ∧ 0 < A.slots.size ∧ A.slots.size ≤ 536870912 ∧ ∀ i, i < A.slots.size → ¬ 255 < cv A i
def E (a : Addr) (D : Cell) (fV fC : Field) (A : Cell) (r : Option Value) (s u : State) : Prop := Got a D fV fC A 0 A.slots.size r s u
/-- new String(chars), not empty, no char above 255: a Latin-1 String of their low bytes -/
theorem law (l : Launch) (a : Addr) (D : Cell) (fV fC : Field) (b : Addr) (A : Cell) (z : Int32) : Law l yN 2 1 3 52 yB 2 none site (P a D fV fC b A z) (E a D fV fC A) [⟨a, fC.slot⟩, ⟨a, fV.slot⟩] 1 A.slots.size := by
  refine Law.of_walk (plainFor_of_name (by decide +kernel)) (by decide +kernel) (by decide +kernel) (by decide) (fun _ _ h => by rw [h.1]; rfl) (fun _ U U' hal hh h => ⟨h.1, h.2.1.mv hal hh, h.2.2.1.al hal, h.2.2.2.1.al hal, h.2.2.2.2.1.mv hal hh, h.2.2.2.2.2.1.there hal hh, h.2.2.2.2.2.2⟩) (fun r U U' V V' h1 hal h2 h => Got.mv r U U' V V' h1 hal h2 h) ?_
  intro p e s m args below meth c s₁ X0 hexec hbytes hml hret hlk hnm hown hh0 W hP
  obtain ⟨rfl, hB, f1, f2, hA, s1, hz, l0, l2, hp⟩ := hP
  have c1 : Steps p.tables e below (s₁.setTop (entryFrame m #[.ref a, .ref b] 2)) (s₁.setTop (mkF m 0 #[.val (.ref a), .val (.ref b)] [])) := entry rfl
  have c2 : Steps p.tables e below (s₁.setTop (entryFrame m #[.ref a, .ref b] 2)) (s₁.setTop (mkF m 6 #[.val (.ref a), .val (.ref b)] [.null, .int (Int32.ofNat A.slots.size), .int 0, .ref b, .ref a])) := c1.trans (by
    refine XS.aloadN X0.here hexec rfl (hb hbytes d0) rfl rfl ?_
    refine XS.aloadN X0.here hexec rfl (hb hbytes d1) rfl rfl ?_
    refine iconstV X0.here hexec rfl 0 (hb hbytes d2) (by decide) ?_
    refine XS.aloadN X0.here hexec rfl (hb hbytes d3) rfl rfl ?_
    refine X0.alen hexec (hA.1.mv X0.warmed.alike hh0) rfl rfl (hb hbytes d4) ?_
    refine XS.aconstNull X0.here hexec rfl (hb hbytes d5) ?_
    exact Steps.refl _)
  obtain ⟨v3, T3, X3, E3, g3⟩ := X0.callN hexec (New4.law l a D fV fC b A z 0 A.slots.size) rfl hown (wks W (initW "java/lang/String" 27 New4.yN)) (W New4.tab (by simp only [site, List.mem_cons, List.mem_append, true_or, or_true])) (W := 0) (Nat.le_of_ble_eq_true rfl) (Nat.le_of_ble_eq_true rfl) (Nat.le_refl _) (by show 0 + A.slots.size ≤ A.slots.size; omega) (g := (mkF m 6 #[.val (.ref a), .val (.ref b)] [.null, .int (Int32.ofNat A.slots.size), .int (Int32.ofNat 0), .ref b, .ref a])) rfl (by rw [hml]; rfl) c2 (argsL := [.ref b, .int (Int32.ofNat 0), .int (Int32.ofNat A.slots.size), .null]) (rest := []) rfl rfl (by show 2 * 0 + 0 ≤ _; decide) (hb hbytes d6) (⟨rfl, hB.mv X0.warmed.alike hh0, f1.al X0.warmed.alike, f2.al X0.warmed.alike, hA.mv X0.warmed.alike hh0, s1.there X0.warmed.alike hh0, hz, l0, by omega, l2, fun i hi => by rw [Nat.zero_add]; exact hp i hi⟩)
  have e0 := Got.mv _ s₁ s _ _ hh0.symm (Vm.Alike.refl _) rfl E3
  obtain rfl := e0.1
  have c4 : Steps p.tables e below (s₁.setTop (entryFrame m #[.ref a, .ref b] 2)) (T3.setTop (mkF m 9 #[.val (.ref a), .val (.ref b)] [])) := g3
  exact ⟨T3, none, _, _, _, X3, by simp, rfl, by omega, (fun _ => rfl), e0, fun fs hl => c4.trans (X3.returnOut hexec hret (hb hbytes d9) hl)⟩
theorem pays {l : Launch} {R : Room} {p : Program} {e : Env} {below : List Frame} {s : State} {sargs : Array Value} {len W : Nat} (a : Addr) (D : Cell) (fV fC : Field) (b : Addr) (A : Cell) (z : Int32) (htab : tab.before sargs s = true) (hfr : 4 ≤ R.frames) (hlo : W + 65 ≤ R.locals) :
    Back l R p e below s sargs yN len W (fun A₁ a₁ => A₁.cells + 1 ≤ R.cells ∧ A₁.slots + A.slots.size ≤ R.slots ∧ P a D fV fC b A z a₁ A₁.U) (fun A₁ _ v₁ B₁ => E a D fV fC A v₁ A₁.U B₁.U ∧ B₁.locs = A₁.locs ++ [⟨a, fC.slot⟩, ⟨a, fV.slot⟩] ∧ B₁.cells = A₁.cells + 1 ∧ B₁.slots = A₁.slots + A.slots.size) :=
  (law l a D fV fC b A z).pays htab hfr (by omega)
end New1
end StrChars
namespace StrChars.Road
open Jvm Sem ClassFile Op Lib Jvm.Stand Jvm.Free Jvm.Free.XT
open Jvm.Lib.Cold (StaticIs)
abbrev ST : String := "java/lang/String"
/-- every table word that New1's law asks, flat -/
abbrev words : List Jvm.Cond := [.code New1.yN New1.yB 2 none, .initialized ST, .methodLink ST 27 New4.yN, .instanceMethod New4.yN,
  .code New4.yN New4.yB 6 none, .fieldLink ST 38 ST "COMPACT_STRINGS" "Z", .laysFinal ST ST "value" "[B", .fieldLink ST 9 ST "value" "[B", .laysFinal ST ST "coder" "B", .fieldLink ST 15 ST "coder" "B",
  .methodLink ST 1 Lib.objectInit, .instanceMethod Lib.objectInit, .code Lib.objectInit ⟨#[0xb1]⟩ 1 none, .methodLink ST 177 Cmp3.yN, .static Cmp3.yN, .methodLink ST 47 CodL.yN, .static CodL.yN,
  .code Cmp3.yN Cmp3.yB 6 (some (.array .byte)), .initialized U16, .arrayClass .byte, .methodLink U16 115 Cmp5.yN, .static Cmp5.yN, .code Cmp5.yN Cmp5.yB 7 (some .int), .code CodL.yN CodL.yB 2 (some .byte)]
theorem tab_of {a : Array Value} {s : State} (h : ∀ w ∈ words, w.before a s = true) : New1.tab.before a s = true := by
  have h5 : Cmp5.tab.before a s = true := unparts (wk h (.code Cmp5.yN Cmp5.yB 7 (some .int))) (wks h (.initialized Cmp5.yN.cls :: Cmp5.site))
  have hc : CodL.tab.before a s = true := unparts (wk h (.code CodL.yN CodL.yB 2 (some .byte))) (wks h (.initialized CodL.yN.cls :: CodL.site))
  have q5 : ∀ w ∈ Cmp5.tab :: words, w.before a s = true := fun w hw => (List.mem_cons.mp hw).elim (fun e => e ▸ h5) (h w)
  have h3 : Cmp3.tab.before a s = true := unparts (wk q5 (.code Cmp3.yN Cmp3.yB 6 (some (.array .byte)))) (wks q5 (.initialized Cmp3.yN.cls :: Cmp3.site))
  have q3 : ∀ w ∈ Cmp3.tab :: CodL.tab :: words, w.before a s = true := fun w hw => (List.mem_cons.mp hw).elim (fun e => e ▸ h3) fun hw => (List.mem_cons.mp hw).elim (fun e => e ▸ hc) (h w)
  have h4 : New4.tab.before a s = true := unparts (wk q3 (.code New4.yN New4.yB 6 none)) (wks q3 (.initialized New4.yN.cls :: New4.site))
  have q4 : ∀ w ∈ New4.tab :: words, w.before a s = true := fun w hw => (List.mem_cons.mp hw).elim (fun e => e ▸ h4) (h w)
  exact unparts (wk q4 (.code New1.yN New1.yB 2 none)) (wks q4 (.initialized New1.yN.cls :: New1.site))
/-- the words ride from the start Z to the walk's own state -/
theorem moved {Z s : State} {a0 args : Array Value} (hZ : Z.Warmed39 s.vm) (hw : ∀ d ∈ words, d.before a0 Z = true) : ∀ d ∈ words, d.before args s = true := fun d hd => by
  have q := hw d hd
  have t : ∀ d ∈ words, d = .arrayClass .byte ∨ (d.onTables && d.keepsFace) = true := by decide +kernel
  rcases t d hd with rfl | t
  · exact RoadKit.mvA hZ q
  · exact RoadKit.mv hZ q t
/-- WHAT COMES BACK, over the tables of the start Z: h the heap at the call, h' behind it -/
def Q (Z : State) (x : Addr) (A : Cell) (h : Heap) (v : Option Value) (h' : Heap) (L : List Loc) : Prop := v = none ∧ (∀ y ∈ L, y.base = x) ∧ RoadKit.Keep h h' [x] ∧ h'.size = h.size + 1 ∧ RoadKit.Exa Z h' x ST ∧ RoadKit.Fld Z h' x ST "value" "[B" (.ref h.size) ∧ RoadKit.Fld Z h' x ST "coder" "B" (.int 0) ∧
  (∃ V : Cell, RoadKit.Arr Z h' h.size V .byte ∧ V.vm = .none ∧ Z.vm.findClass "[B" = some V.cls ∧ V.slots.size = A.slots.size ∧ ∀ j, j < A.slots.size → V.slots[j]? = some (.int (lo8 (cv A j)))) ∧
  ∀ (O n d : String) (w : Value), RoadKit.Fld Z h x O n d w → RoadKit.slotOf Z O n d ≠ RoadKit.slotOf Z ST "value" "[B" → RoadKit.slotOf Z O n d ≠ RoadKit.slotOf Z ST "coder" "B" → RoadKit.Fld Z h' x O n d w
/-- **new String(chars) AT A CALL, IN THE ROAD'S FORM**: for specialBack behind newO: x the fresh String, b the char[] with the cell A -/
theorem back {p : Program} {l : Launch} {e : Env} {R : Room} {s : State} {args : Array Value} {below : List Frame} {len W : Nat} {Z : State} {a0 : Array Value} {h : Heap} (hZ : Z.Warmed39 s.vm) (hw : ∀ d ∈ words, d.before a0 Z = true) {kI : Nat} (wi : (Jvm.Cond.instantiable ST kI).before a0 Z = true)
    {x b : Addr} {A : Cell} {z : Int32} {v0 c0 : Value} (E : RoadKit.Exa Z h x ST) (V : RoadKit.Fld Z h x ST "value" "[B" v0) (C : RoadKit.Fld Z h x ST "coder" "B" c0) (K : RoadKit.Arr Z h b A .char) (hty : Typed .char A) (S : RoadKit.Sta Z h ST "COMPACT_STRINGS" "Z" (.int z)) (hz : ¬ z = 0)
    (l0 : 0 < A.slots.size) (l2 : A.slots.size ≤ 536870912) (hp : ∀ i, i < A.slots.size → ¬ 255 < cv A i) (hfr : 4 ≤ R.frames) (hlo : W + 65 ≤ R.locals) :
    Back l R p e below s args New1.yN len W (fun P a => a = #[.ref x, .ref b] ∧ P.U.heap = h ∧ P.cells + 1 ≤ R.cells ∧ P.slots + A.slots.size ≤ R.slots)
      (fun P _ v B => ∃ L, Q Z x A h v B.U.heap L ∧ B.locs = P.locs ++ L ∧ B.cells = P.cells + 1 ∧ B.slots = P.slots + A.slots.size) := by
  intro m meth c P g ig mk a X hg hsize hdg hW hn hp'
  obtain ⟨rfl, rfl, r1, r2⟩ := hp'
  have al : Z.vm.Alike P.U.vm := hZ.alike.trans X.warmed.alike
  obtain ⟨D, cfV, kV, iV, fV, hD, gV, stV, knV, obV, asV, slV⟩ := id V
  obtain ⟨D', cfC, kC, iC, fC, hD', gC, stC, -, -, asC, slC⟩ := id C
  cases hD.symm.trans hD'
  obtain ⟨D2, kD, e1, e2, e3, e4, e5⟩ := id E
  cases hD.symm.trans e1
  obtain ⟨c2, k2, i1, i2, i3, -⟩ := Cond.instantiable_spec wi
  cases e2.symm.trans i1
  cases e3.symm.trans i2
  obtain ⟨kU, u1, u2⟩ := al.2.2 _ _ e3
  have hB : Blank ST x D P.U := ⟨hD, ⟨knV, fun q hq => by rw [hq] at obV; cases obV⟩, by rw [al.findClass]; exact e2, kU, u1, by rw [u2]; exact i3, by rw [u2]; exact e5 i3⟩
  have F1 : Found ST "value" "[B" fV P.U := ⟨SBG.found_only al ⟨cfV, kV, iV, gV⟩, stV⟩
  have F2 : Found ST "coder" "B" fC P.U := ⟨SBG.found_only al ⟨cfC, kC, iC, gC⟩, stC⟩
  have hA : Ch b A P.U := ⟨⟨K.1, State.isArrayOf_alike al K.2.1, K.2.2, by omega⟩, hty⟩
  have hS : StaticIs P.U ST "COMPACT_STRINGS" "Z" (.int z) := by
    obtain ⟨cfS, iS, kS, fS, st, cS, t1, t2, t3, t4, t5, t6, t7⟩ := S
    exact StaticIs.there (s := { Z with heap := P.U.heap }) ⟨cfS, iS, kS, fS, st, cS, t1, t2, t3, t4, t5, (fun q => by rw [q] at t6; cases t6), t7⟩ al rfl
  obtain ⟨v, B, X', ⟨⟨hv, E', V', q1, q2, q3, q4, q5, q6, q7, q8, q9, q10, q11⟩, hl, hc, hs⟩, st⟩ := New1.pays x D fV fC b A z (tab_of (moved hZ hw)) hfr hlo m meth c P g ig mk _ X hg hsize hdg hW hn ⟨r1, r2, rfl, hB, F1, F2, hA, hS, hz, l0, l2, hp⟩
  have al' : Z.vm.Alike B.U.vm := hZ.alike.trans X'.warmed.alike
  have hsz : E'.slots.size = D.slots.size := by
    obtain ⟨-, -, -, kB, w1, w2, w3⟩ := q1
    obtain ⟨kB', y1, y2⟩ := al'.2.2 _ _ e3
    rw [q2.2.1] at w1
    cases w1.symm.trans y1
    rw [w3, e5 i3, y2]
  refine ⟨v, B, X', ⟨_, ⟨hv, ?_, ⟨by omega, fun y cy hy hn' => q10 y cy (by simpa using hn') hy, fun y cy hy => ?_⟩, q11, ⟨E', _, q1.1, by rw [q2.2.1]; exact e2, by rw [q2.2.1]; exact e3, by rw [q2.1]; exact obV, fun _ => by rw [hsz]; exact e5 i3⟩,
    ⟨E', cfV, kV, iV, fV, q1.1, gV, stV, by rw [q2.1]; exact knV, by rw [q2.1]; exact obV, by rw [q2.2.1]; exact asV, q3⟩, ⟨E', cfC, kC, iC, fC, q1.1, gC, stC, by rw [q2.1]; exact knV, by rw [q2.1]; exact obV, by rw [q2.2.1]; exact asC, q4⟩,
    ⟨V', ⟨q5.1, State.isArrayOf_alike al'.symm q5.2.1, q5.2.2.1⟩, q6, by rw [← al'.findClass]; exact q7, q8, fun j hj => by have := q9 j hj; rwa [Nat.zero_add] at this⟩, fun O n d w F n1 n2 => ?_⟩, hl, hc, hs⟩, st⟩
  · intro y hy
    simp only [List.mem_cons, List.not_mem_nil, or_false] at hy
    rcases hy with rfl | rfl <;> rfl
  · by_cases q : y = x
    · subst q
      cases hD.symm.trans hy
      exact ⟨E', q1.1, q2.2.1, q2.1, hsz⟩
    · exact ⟨cy, q10 y cy q hy, rfl, rfl, rfl⟩
  · obtain ⟨D3, cf, k, i, f, g1, g2, g3, g4, g5, g6, g7⟩ := F
    cases hD.symm.trans g1
    simp only [RoadKit.slotOf, g2, gV, gC, Option.map_some, Option.getD_some] at n1 n2
    exact ⟨E', cf, k, i, f, q1.1, g2, g3, by rw [q2.1]; exact g4, by rw [q2.1]; exact g5, by rw [q2.2.1]; exact g6, by rw [q2.2.2 f.slot (by simp [n1, n2])]; exact g7⟩
end StrChars.Road
namespace StrChars.Road
open Jvm Sem ClassFile Op Lib Jvm.Stand Jvm.Free Jvm.Free.XT
/-- WHAT COMES BACK, the byte[] as a list of values -/
def QA (Z : State) (x : Addr) (zn : Int32) (cs : List Int32) (h : Heap) (v : Option Value) (h' : Heap) (L : List Loc) : Prop := v = none ∧ (∀ y ∈ L, y.base = x) ∧ RoadKit.Keep h h' [x] ∧ h'.size = h.size + 1 ∧ RoadKit.Exa Z h' x ST ∧ RoadKit.Fld Z h' x ST "value" "[B" (.ref h.size) ∧ RoadKit.Fld Z h' x ST "coder" "B" (.int 0) ∧
  (∃ kb, Z.vm.findClass "[B" = some kb ∧ RoadKit.Arv Z h' h.size kb .byte zn (cs.map fun c => .int (lo8 c)) (.int 0)) ∧
  ∀ (O n d : String) (w : Value), RoadKit.Fld Z h x O n d w → RoadKit.slotOf Z O n d ≠ RoadKit.slotOf Z ST "value" "[B" → RoadKit.slotOf Z O n d ≠ RoadKit.slotOf Z ST "coder" "B" → RoadKit.Fld Z h' x O n d w
/-- **new String(chars) AT A CALL, THE ARRAYS AS LISTS**: the char[] at b holds cs, not empty, no char above 255 -/
theorem backArv {p : Program} {l : Launch} {e : Env} {R : Room} {s : State} {args : Array Value} {below : List Frame} {len W : Nat} {Z : State} {a0 : Array Value} {h : Heap} (hZ : Z.Warmed39 s.vm) (hw : ∀ d ∈ words, d.before a0 Z = true) {kI : Nat} (wi : (Jvm.Cond.instantiable ST kI).before a0 Z = true)
    {x b : Addr} {k : ClassId} {zn z : Int32} {cs : List Int32} {dv v0 c0 : Value} (E : RoadKit.Exa Z h x ST) (V : RoadKit.Fld Z h x ST "value" "[B" v0) (C : RoadKit.Fld Z h x ST "coder" "B" c0) (K : RoadKit.Arv Z h b k .char zn (cs.map Value.int) dv) (S : RoadKit.Sta Z h ST "COMPACT_STRINGS" "Z" (.int z)) (hz : ¬ z = 0)
    (hlen : zn.toNatClampNeg = cs.length) (h0 : 0 < cs.length) (hbig : cs.length ≤ 536870912) (hall : ∀ c ∈ cs, ¬ 255 < c) (hfr : 4 ≤ R.frames) (hlo : W + 65 ≤ R.locals) :
    Back l R p e below s args New1.yN len W (fun P a => a = #[.ref x, .ref b] ∧ P.U.heap = h ∧ P.cells + 1 ≤ R.cells ∧ P.slots + cs.length ≤ R.slots)
      (fun P _ v B => ∃ L, QA Z x zn cs h v B.U.heap L ∧ B.locs = P.locs ++ L ∧ B.cells = P.cells + 1 ∧ B.slots = P.slots + cs.length) := by
  obtain ⟨A, K1, K2, K3, K4, K5, K6⟩ := K
  have e : A.slots.size = cs.length := K3.trans hlen
  have hat : ∀ (i : Nat) (hi : i < cs.length), A.slots[i]? = some (.int cs[i]) := fun i hi => by rw [K5 i (by omega)]; simp [List.getD_eq_getElem?_getD, hi]
  have hcv : ∀ (i : Nat) (hi : i < cs.length), cv A i = cs[i] := fun i hi => by unfold cv; rw [hat i hi]
  have hty : Typed .char A := fun i v hv => by
    have hi : i < A.slots.size := (Array.getElem?_eq_some_iff.mp hv).1
    have q := K5 i hi
    rw [hv] at q
    rw [Option.some.inj q]
    exact K6 i hi
  refine Back.mono (back hZ hw wi E V C K1 hty S hz (by omega) (by omega) (fun i hi => by rw [hcv i (by omega)]; exact hall _ (List.getElem_mem _)) hfr hlo) (fun P a hp => ⟨hp.1, hp.2.1, hp.2.2.1, by rw [e]; exact hp.2.2.2⟩) (fun P a v B hp hq => ?_)
  obtain ⟨L, ⟨q1, q2, q3, q4, q5, q6, q7, ⟨V', v1, v2, v3, v4, v5⟩, q9⟩, hl, hc, hs⟩ := hq
  refine ⟨L, ⟨q1, q2, q3, q4, q5, q6, q7, ⟨V'.cls, v3, V', v1, rfl, by rw [v4, e, hlen], K4, fun i hi => ?_, fun i hi => ?_⟩, q9⟩, hl, hc, by rw [hs, e]⟩
  · have hi' : i < cs.length := by omega
    rw [v5 i (by omega), hcv i hi']; simp [List.getD_eq_getElem?_getD, hi']
  · have hi' : i < cs.length := by omega
    simp only [List.getD_eq_getElem?_getD, List.getElem?_map, List.getElem?_eq_getElem hi', Option.map_some, Option.getD_some]
    exact fits_lo8 _
end StrChars.Road
namespace StrChars.Road
open Jvm Sem ClassFile Op Lib Jvm.Stand Jvm.Free Jvm.Free.XT
/-- WHAT COMES BACK, in the writer's own shape -/
def QV (Z : State) (x : Addr) (N : Int32) (bs : List Int32) (h : Heap) (n0 : Nat) (v : Option Value) (h' : Heap) (L : List Loc) : Prop := v = none ∧ RoadKit.Fr n0 L ∧ RoadKit.Keep h h' [x] ∧ RoadKit.Exa Z h' x ST ∧ RoadKit.Fld Z h' x ST "coder" "B" (.int 0) ∧
  ∃ (t : Addr) (kb : ClassId), n0 ≤ t ∧ h.size ≤ t ∧ ¬ t = x ∧ RoadKit.Fld Z h' x ST "value" "[B" (.ref t) ∧ RoadKit.Arv Z h' t kb .byte N (bs.map Value.int) (.int 0)
/-- **new String(chars) AT A CALL, FOR THE WRITER**: a char[] of n known ints, each 0 to 255 -/
theorem backV {p : Program} {l : Launch} {e : Env} {R : Room} {s : State} {args : Array Value} {below : List Frame} {len W : Nat} {Z : State} {a0 : Array Value} {h : Heap} (hZ : Z.Warmed39 s.vm) (hw : ∀ d ∈ words, d.before a0 Z = true) {kI : Nat} (wi : (Jvm.Cond.instantiable ST kI).before a0 Z = true)
    {x b : Addr} {kC : ClassId} {cs bs : List Int32} {d v0 c0 : Value} {z N : Int32} {n n0 : Nat} (hx0 : n0 ≤ x) (hh0 : n0 ≤ h.size) (E : RoadKit.Exa Z h x ST) (V : RoadKit.Fld Z h x ST "value" "[B" v0) (C : RoadKit.Fld Z h x ST "coder" "B" c0) (K : RoadKit.Arv Z h b kC .char N (cs.map Value.int) d) (S : RoadKit.Sta Z h ST "COMPACT_STRINGS" "Z" (.int z)) (hz : ¬ z = 0)
    (hn : cs.length = n) (hN : N = Int32.ofNat n) (l0 : 0 < n) (l2 : n ≤ 4000) (hp : ∀ c ∈ cs, ¬ c < 0 ∧ ¬ (255 : Int32) < c) (hb : bs = cs.map (fun c => c.toInt8.toInt32)) (hfr : 4 ≤ R.frames) (hlo : W + 65 ≤ R.locals) :
    Back l R p e below s args (⟨"java/lang/String", "<init>", "([C)V"⟩ : MethodName) len W (fun P a => a = #[.ref x, .ref b] ∧ P.U.heap = h ∧ P.cells + 1 ≤ R.cells ∧ P.slots + n ≤ R.slots)
      (fun P _ v B => ∃ L, QV Z x N bs h n0 v B.U.heap L ∧ B.locs = P.locs ++ L ∧ B.cells = P.cells + 1 ∧ B.slots = P.slots + n) := by
  subst hn hN hb
  refine Back.mono (backArv hZ hw wi E V C K S hz (n32 (by omega)) l0 (by omega) (fun c hc => (hp c hc).2) hfr hlo) (fun P a hp => hp) (fun P a v B hp hq => ?_)
  obtain ⟨L, ⟨q1, q2, q3, q4, q5, q6, q7, ⟨kb, v1, v2⟩, q9⟩, hl, hc, hs⟩ := hq
  exact ⟨L, ⟨q1, fun y hy => by rw [q2 y hy]; exact hx0, q3, q5, q7, h.size, kb, hh0, Nat.le_refl _, Nat.ne_of_gt E.lt, q6, by rw [List.map_map]; exact v2⟩, hl, hc, hs⟩
end StrChars.Road
end Jvm.Pilot.@@N@@
namespace Jvm.Pilot.@@N@@
open Jvm Jvm.ClassFile Sem Op Lib Jvm.Free Jvm.Stand Jvm.LawKit Jvm.RoadKit Bundle Jvm.Pilot.@@N@@.Jvm.D
section OwnKit
variable {p : Program} {l : Launch} {e : Env} {R : Room} {s : State} {m : MethodId} {A : Array Value} {below : List Frame} {meth : Method} {c : Code} {T : State} {cells slots : Nat} {Z : State} {a0 : Array Value} {h : Heap} {own nm : String} {bytes : ByteArray} {maxL : Nat} {ret : Option FieldType} {W : Outcome → State → Prop} {pc pc' tgt : Nat} {Ls : Array Slot} {st : List Value}
/-- the run from the frame g over T comes to an end at which W holds -/
def Goes (p : Program) (e : Env) (below : List Frame) (W : Outcome → State → Prop) (T : State) (g : JFrame) : Prop :=
  ∃ s₂ o, Steps p.tables e below (T.setTop g) s₂ ∧ s₂.status = .running ∧ Ended s₂ below o ∧ W o s₂
theorem Goes.via {T' : State} {g g' : JFrame} (h : ∀ t, Steps p.tables e below (T'.setTop g') t → Steps p.tables e below (T.setTop g) t) (k : Goes p e below W T' g') : Goes p e below W T g := by
  obtain ⟨s₂, o, h1, h2⟩ := k; exact ⟨s₂, o, h _ h1, h2⟩
/-- what stays the same through a body -/
def Cx (p : Program) (s : State) (m : MethodId) (meth : Method) (c : Code) (Z : State) (own nm : String) (bytes : ByteArray) (maxL : Nat) (ret : Option FieldType) : Prop :=
  p.tables.exec = Jvm.exec ∧ Z.Warmed39 s.vm ∧ s.vm.findClass own = some m.cls ∧ c.code = bytes ∧ c.maxLocals = maxL ∧ meth.sig.returnType = ret ∧ meth.locks = false ∧ meth.name = nm
theorem Cx.hx (C : Cx p s m meth c Z own nm bytes maxL ret) : p.tables.exec = Jvm.exec := C.1
theorem Cx.hZ (C : Cx p s m meth c Z own nm bytes maxL ret) : Z.Warmed39 s.vm := C.2.1
theorem Cx.hown (C : Cx p s m meth c Z own nm bytes maxL ret) : s.vm.findClass own = some m.cls := C.2.2.1
theorem Cx.hby (C : Cx p s m meth c Z own nm bytes maxL ret) : c.code = bytes := C.2.2.2.1
theorem Cx.hml (C : Cx p s m meth c Z own nm bytes maxL ret) : c.maxLocals = maxL := C.2.2.2.2.1
theorem Cx.hret (C : Cx p s m meth c Z own nm bytes maxL ret) : meth.sig.returnType = ret := C.2.2.2.2.2.1
theorem Cx.hlk (C : Cx p s m meth c Z own nm bytes maxL ret) : meth.locks = false := C.2.2.2.2.2.2.1
theorem Cx.hnm (C : Cx p s m meth c Z own nm bytes maxL ret) : meth.name = nm := C.2.2.2.2.2.2.2
/-- where the walk stands: the heap is h; nothing that stood at Z was written; at most so many cells and slots were made -/
def St (p : Program) (l : Launch) (e : Env) (R : Room) (s : State) (m : MethodId) (A : Array Value) (below : List Frame) (meth : Method) (c : Code) (Z : State) (T : State) (h : Heap) (cells slots : Nat) : Prop :=
  ∃ locs, Stand p l e R s m A below meth c T locs cells slots ∧ T.heap = h ∧ Fr Z.heap.size locs ∧ Ext Z.heap h
theorem St.here (X : St p l e R s m A below meth c Z T h cells slots) : At T m c below := by obtain ⟨_, Y, _⟩ := X; exact Y.here
theorem St.ext (X : St p l e R s m A below meth c Z T h cells slots) : Ext Z.heap h := by obtain ⟨_, _, _, _, E⟩ := X; exact E
theorem St.more {cells' slots' : Nat} (X : St p l e R s m A below meth c Z T h cells slots) (h1 : cells ≤ cells') (h2 : slots ≤ slots') : St p l e R s m A below meth c Z T h cells' slots' := by
  obtain ⟨L, Y, r⟩ := X; exact ⟨L, Y.more h1 h2, r⟩
/-- the end of a body: Q of what it returned and of the heap -/
def EndW (Z s : State) (k n : Nat) (Q : Option Value → Heap → Prop) (o : Outcome) (u : State) : Prop :=
  ∃ v L, o = .returned v ∧ (Fr Z.heap.size L ∧ Ext Z.heap u.heap ∧ Q v u.heap) ∧ FrameEnd s o u L k n
/-- a body's contract: called with A at the heap h0, over tables warmer than Z's, it returns and leaves Q -/
def Con (l : Launch) (y : MethodName) (bytes : ByteArray) (maxL : Nat) (ret : Option FieldType) (ws : List Jvm.Cond) (rm : Room) (Z : State) (A : Array Value) (h0 : Heap) (Q : Option Value → Heap → Prop) : Prop :=
  MetFree l y (head1 (Jvm.Cond.code y bytes maxL ret :: ws) rm) (fun a U => a = A ∧ Z.Warmed39 U.vm ∧ U.heap = h0) (fun _ _ _ _ _ => True) (fun _ U o U' => EndW Z U rm.cells rm.slots Q o U')
theorem con_of {y : MethodName} {ws : List Jvm.Cond} {rm : Room} {h0 : Heap} {Q : Option Value → Heap → Prop} {Ls : Array Slot} (hp : plainFor y = true) (hE : Ext Z.heap h0) (hef : ∀ m, entryFrame m A maxL = mkF m 0 Ls [])
    (body : ∀ p e s m below meth c s₁, Cx p s m meth c Z y.cls y.name bytes maxL ret → St p l e rm s m A below meth c Z s₁ h0 0 0 → Goes p e below (EndW Z s rm.cells rm.slots Q) s₁ (mkF m 0 Ls [])) :
    Con l y bytes maxL ret ws rm Z A h0 Q := by
  refine MetFree.of_bodySF hp hisR ?_
  intro p e s m args below meth c s₁ Bd hml0 hP hK
  obtain ⟨rfl, hZ, hh⟩ := hP
  have X0 := Stand.of_body Bd
  have e0 : s₁.heap = h0 := by rw [← hh, Bd.state]; rfl
  have := body p e s m below meth c s₁ ⟨Bd.exec, hZ, findClass_of_methodNamed Bd.named, Bd.bytes, hml0, Bd.returns, Bd.notSynchronized, (name_of_methodNamed Bd.named Bd.method).1⟩ ⟨[], X0, e0, Fr.nil _, hE⟩
  rw [← hef m] at this
  exact this
/-- the instruction at pc, its length, the pc behind it -/
def Dc (b : ByteArray) (pc : Nat) (i : Instr) (n pc' : Nat) : Prop := decode b pc = .ok (i, n) ∧ pc + n = pc'
/-- a jump: besides, its target -/
def Dj (b : ByteArray) (pc : Nat) (i : Instr) (o : Int) (n pc' tgt : Nat) : Prop := decode b pc = .ok (i, n) ∧ pc + n = pc' ∧ 0 ≤ (pc : Int) + o ∧ ((pc : Int) + o).toNat = tgt
theorem g_goto {o : Int} (C : Cx p s m meth c Z own nm bytes maxL ret) (X : St p l e R s m A below meth c Z T h cells slots) (d : Dj bytes pc (.goto o) o 3 pc' tgt) (K : Goes p e below W T (mkF m tgt Ls st)) : Goes p e below W T (mkF m pc Ls st) :=
  Goes.via (fun _ k => XS.goto X.here C.hx rfl rfl (hb C.hby d.1) d.2.2.1 d.2.2.2 k) K
theorem g_if {cd : ClassFile.Cond} {o : Int} {x : Int32} {P : Prop} [Decidable P] (hP : ifCond.holds cd x = decide P) (C : Cx p s m meth c Z own nm bytes maxL ret) (X : St p l e R s m A below meth c Z T h cells slots) (d : Dj bytes pc (.ifCond cd o) o 3 pc' tgt) (K1 : P → Goes p e below W T (mkF m tgt Ls st)) (K2 : ¬ P → Goes p e below W T (mkF m pc' Ls st)) : Goes p e below W T (mkF m pc Ls (.int x :: st)) := by
  obtain ⟨d1, rfl, d3, d4⟩ := d
  by_cases q : P
  · exact Goes.via (fun _ k => XS.ifYes X.here C.hx rfl rfl (hb C.hby d1) rfl (hP.trans (decide_eq_true q)) d3 d4 k) (K1 q)
  · exact Goes.via (fun _ k => XS.ifNo X.here C.hx rfl (hb C.hby d1) rfl (hP.trans (decide_eq_false q)) k) (K2 q)
theorem g_icmp {cd : ClassFile.Cond} {o : Int} {x y : Int32} {P : Prop} [Decidable P] (hP : if_icmp.holds cd x y = decide P) (C : Cx p s m meth c Z own nm bytes maxL ret) (X : St p l e R s m A below meth c Z T h cells slots) (d : Dj bytes pc (.if_icmp cd o) o 3 pc' tgt) (K1 : P → Goes p e below W T (mkF m tgt Ls st)) (K2 : ¬ P → Goes p e below W T (mkF m pc' Ls st)) : Goes p e below W T (mkF m pc Ls (.int y :: .int x :: st)) := by
  obtain ⟨d1, rfl, d3, d4⟩ := d
  by_cases q : P
  · exact Goes.via (fun _ k => XS.icmpYes X.here C.hx rfl rfl (hb C.hby d1) rfl (hP.trans (decide_eq_true q)) d3 d4 k) (K1 q)
  · exact Goes.via (fun _ k => XS.icmpNo X.here C.hx rfl (hb C.hby d1) rfl (hP.trans (decide_eq_false q)) k) (K2 q)
theorem g_ifn {cd : ClassFile.Cond} {o : Int} {x : Int32} {P : Prop} [Decidable P] (hP : ifCond.holds cd x = !decide P) (C : Cx p s m meth c Z own nm bytes maxL ret) (X : St p l e R s m A below meth c Z T h cells slots) (d : Dj bytes pc (.ifCond cd o) o 3 pc' tgt) (K1 : ¬ P → Goes p e below W T (mkF m tgt Ls st)) (K2 : P → Goes p e below W T (mkF m pc' Ls st)) : Goes p e below W T (mkF m pc Ls (.int x :: st)) := by
  obtain ⟨d1, rfl, d3, d4⟩ := d
  by_cases q : P
  · exact Goes.via (fun _ k => XS.ifNo X.here C.hx rfl (hb C.hby d1) rfl (hP.trans (by simp [q])) k) (K2 q)
  · exact Goes.via (fun _ k => XS.ifYes X.here C.hx rfl rfl (hb C.hby d1) rfl (hP.trans (by simp [q])) d3 d4 k) (K1 q)
theorem g_icmpn {cd : ClassFile.Cond} {o : Int} {x y : Int32} {P : Prop} [Decidable P] (hP : if_icmp.holds cd x y = !decide P) (C : Cx p s m meth c Z own nm bytes maxL ret) (X : St p l e R s m A below meth c Z T h cells slots) (d : Dj bytes pc (.if_icmp cd o) o 3 pc' tgt) (K1 : ¬ P → Goes p e below W T (mkF m tgt Ls st)) (K2 : P → Goes p e below W T (mkF m pc' Ls st)) : Goes p e below W T (mkF m pc Ls (.int y :: .int x :: st)) := by
  obtain ⟨d1, rfl, d3, d4⟩ := d
  by_cases q : P
  · exact Goes.via (fun _ k => XS.icmpNo X.here C.hx rfl (hb C.hby d1) rfl (hP.trans (by simp [q])) k) (K2 q)
  · exact Goes.via (fun _ k => XS.icmpYes X.here C.hx rfl rfl (hb C.hby d1) rfl (hP.trans (by simp [q])) d3 d4 k) (K1 q)
theorem hI_eq (x y : Int32) : if_icmp.holds .eq x y = decide (x = y) := by
  by_cases q : x = y
  · rw [(teq q).1]; simp [q]
  · rw [(feq q).1]; simp [q]
theorem hI_ne (x y : Int32) : if_icmp.holds .ne x y = !decide (x = y) := by
  by_cases q : x = y
  · rw [(teq q).2]; simp [q]
  · rw [(feq q).2]; simp [q]
theorem hI_lt (x y : Int32) : if_icmp.holds .lt x y = decide (x < y) := by
  by_cases q : x < y
  · rw [(tlt q).1]; simp [q]
  · rw [(flt q).1]; simp [q]
theorem hI_ge (x y : Int32) : if_icmp.holds .ge x y = !decide (x < y) := by
  by_cases q : x < y
  · rw [(tlt q).2.1]; simp [q]
  · rw [(flt q).2.1]; simp [q]
theorem hI_gt (x y : Int32) : if_icmp.holds .gt x y = decide (y < x) := by
  by_cases q : y < x
  · rw [(tlt q).2.2.1]; simp [q]
  · rw [(flt q).2.2.1]; simp [q]
theorem hI_le (x y : Int32) : if_icmp.holds .le x y = !decide (y < x) := by
  by_cases q : y < x
  · rw [(tlt q).2.2.2]; simp [q]
  · rw [(flt q).2.2.2]; simp [q]
theorem h0_eq (x : Int32) : ifCond.holds .eq x = decide (x = 0) := (if0 _ _).trans (hI_eq x 0)
theorem h0_ne (x : Int32) : ifCond.holds .ne x = !decide (x = 0) := (if0 _ _).trans (hI_ne x 0)
theorem h0_lt (x : Int32) : ifCond.holds .lt x = decide (x < 0) := (if0 _ _).trans (hI_lt x 0)
theorem h0_ge (x : Int32) : ifCond.holds .ge x = !decide (x < 0) := (if0 _ _).trans (hI_ge x 0)
theorem h0_gt (x : Int32) : ifCond.holds .gt x = decide (0 < x) := (if0 _ _).trans (hI_gt x 0)
theorem h0_le (x : Int32) : ifCond.holds .le x = !decide (0 < x) := (if0 _ _).trans (hI_le x 0)
/-- a comparison of longs, then a branch on it: 'lcmp; if..' -/
theorem hL_eq (x y : Int64) : ifCond.holds .eq (lcmpW x y) = decide (x = y) := by rw [h0_eq]; exact decide_eq_decide.mpr (lw_eq x y)
theorem hL_ne (x y : Int64) : ifCond.holds .ne (lcmpW x y) = !decide (x = y) := by rw [h0_ne]; exact congrArg _ (decide_eq_decide.mpr (lw_eq x y))
theorem hL_lt (x y : Int64) : ifCond.holds .lt (lcmpW x y) = decide (x < y) := by rw [h0_lt]; exact decide_eq_decide.mpr (lw_lt x y)
theorem hL_ge (x y : Int64) : ifCond.holds .ge (lcmpW x y) = !decide (x < y) := by rw [h0_ge]; exact congrArg _ (decide_eq_decide.mpr (lw_lt x y))
theorem hL_gt (x y : Int64) : ifCond.holds .gt (lcmpW x y) = decide (y < x) := by rw [h0_gt]; exact decide_eq_decide.mpr (lw_gt x y)
theorem hL_le (x y : Int64) : ifCond.holds .le (lcmpW x y) = !decide (y < x) := by rw [h0_le]; exact congrArg _ (decide_eq_decide.mpr (lw_gt x y))
/-- two references compared; the values are references or null -/
theorem g_acmpeq {o : Int} {x y : Value} (C : Cx p s m meth c Z own nm bytes maxL ret) (X : St p l e R s m A below meth c Z T h cells slots) (d : Dj bytes pc (.if_acmp .eq o) o 3 pc' tgt) (h1 : x.isRef = true) (h2 : y.isRef = true) (K1 : x = y → Goes p e below W T (mkF m tgt Ls st)) (K2 : ¬ x = y → Goes p e below W T (mkF m pc' Ls st)) : Goes p e below W T (mkF m pc Ls (y :: x :: st)) := by
  obtain ⟨d1, rfl, d3, d4⟩ := d
  by_cases q : x = y
  · exact Goes.via (fun _ k => XT.acmpYes X.here C.hx rfl rfl (hb C.hby d1) rfl h1 h2 (XT.aa_eq_t q) d3 d4 k) (K1 q)
  · exact Goes.via (fun _ k => XT.acmpNo X.here C.hx rfl (hb C.hby d1) rfl h1 h2 (XT.aa_eq_f q) k) (K2 q)
theorem g_acmpne {o : Int} {x y : Value} (C : Cx p s m meth c Z own nm bytes maxL ret) (X : St p l e R s m A below meth c Z T h cells slots) (d : Dj bytes pc (.if_acmp .ne o) o 3 pc' tgt) (h1 : x.isRef = true) (h2 : y.isRef = true) (K1 : ¬ x = y → Goes p e below W T (mkF m tgt Ls st)) (K2 : x = y → Goes p e below W T (mkF m pc' Ls st)) : Goes p e below W T (mkF m pc Ls (y :: x :: st)) := by
  obtain ⟨d1, rfl, d3, d4⟩ := d
  by_cases q : x = y
  · exact Goes.via (fun _ k => XT.acmpNo X.here C.hx rfl (hb C.hby d1) rfl h1 h2 (XT.aa_ne_f q) k) (K2 q)
  · exact Goes.via (fun _ k => XT.acmpYes X.here C.hx rfl rfl (hb C.hby d1) rfl h1 h2 (XT.aa_ne_t q) d3 d4 k) (K1 q)
theorem g_ifnull {o : Int} {v : Value} (C : Cx p s m meth c Z own nm bytes maxL ret) (X : St p l e R s m A below meth c Z T h cells slots) (d : Dj bytes pc (.ifnull o) o 3 pc' tgt) (h1 : v.isRef = true) (K1 : v = .null → Goes p e below W T (mkF m tgt Ls st)) (K2 : ¬ v = .null → Goes p e below W T (mkF m pc' Ls st)) : Goes p e below W T (mkF m pc Ls (v :: st)) := by
  obtain ⟨d1, rfl, d3, d4⟩ := d
  by_cases q : v = .null
  · exact Goes.via (fun _ k => XT.nullYes X.here C.hx rfl rfl (hb C.hby d1) rfl q d3 d4 k) (K1 q)
  · exact Goes.via (fun _ k => XT.nullNo X.here C.hx rfl (hb C.hby d1) rfl h1 q k) (K2 q)
theorem g_ifnonnull {o : Int} {v : Value} (C : Cx p s m meth c Z own nm bytes maxL ret) (X : St p l e R s m A below meth c Z T h cells slots) (d : Dj bytes pc (.ifnonnull o) o 3 pc' tgt) (h1 : v.isRef = true) (K1 : ¬ v = .null → Goes p e below W T (mkF m tgt Ls st)) (K2 : v = .null → Goes p e below W T (mkF m pc' Ls st)) : Goes p e below W T (mkF m pc Ls (v :: st)) := by
  obtain ⟨d1, rfl, d3, d4⟩ := d
  by_cases q : v = .null
  · exact Goes.via (fun _ k => XT.nonnullNo X.here C.hx rfl (hb C.hby d1) rfl q k) (K2 q)
  · exact Goes.via (fun _ k => XT.nonnullYes X.here C.hx rfl rfl (hb C.hby d1) rfl h1 q d3 d4 k) (K1 q)
theorem g_iload {k : Nat} {v : Int32} (C : Cx p s m meth c Z own nm bytes maxL ret) (X : St p l e R s m A below meth c Z T h cells slots) (d : Dc bytes pc (.iload k) 2 pc') (hl : Ls[k]? = some (.val (.int v))) (K : Goes p e below W T (mkF m pc' Ls (.int v :: st))) : Goes p e below W T (mkF m pc Ls st) := by
  obtain ⟨d, rfl⟩ := d
  exact Goes.via (fun _ k => XS.iload X.here C.hx rfl (hb C.hby d) hl k) K
theorem g_iloadN {k : Fin 4} {v : Int32} (C : Cx p s m meth c Z own nm bytes maxL ret) (X : St p l e R s m A below meth c Z T h cells slots) (d : Dc bytes pc (.iload_n k) 1 pc') (hl : Ls[k.val]? = some (.val (.int v))) (K : Goes p e below W T (mkF m pc' Ls (.int v :: st))) : Goes p e below W T (mkF m pc Ls st) := by
  obtain ⟨d, rfl⟩ := d
  exact Goes.via (fun _ k => XS.iloadN X.here C.hx rfl (hb C.hby d) hl k) K
theorem g_lload {k : Nat} {v : Int64} (C : Cx p s m meth c Z own nm bytes maxL ret) (X : St p l e R s m A below meth c Z T h cells slots) (d : Dc bytes pc (.lload k) 2 pc') (hl : Ls[k]? = some (.val (.long v))) (K : Goes p e below W T (mkF m pc' Ls (.long v :: st))) : Goes p e below W T (mkF m pc Ls st) := by
  obtain ⟨d, rfl⟩ := d
  exact Goes.via (fun _ k => XT.lload X.here C.hx rfl (hb C.hby d) hl k) K
theorem g_lloadN {k : Fin 4} {v : Int64} (C : Cx p s m meth c Z own nm bytes maxL ret) (X : St p l e R s m A below meth c Z T h cells slots) (d : Dc bytes pc (.lload_n k) 1 pc') (hl : Ls[k.val]? = some (.val (.long v))) (K : Goes p e below W T (mkF m pc' Ls (.long v :: st))) : Goes p e below W T (mkF m pc Ls st) := by
  obtain ⟨d, rfl⟩ := d
  exact Goes.via (fun _ k => XT.lloadN X.here C.hx rfl (hb C.hby d) hl k) K
theorem g_aload {k : Nat} {v : Value} (C : Cx p s m meth c Z own nm bytes maxL ret) (X : St p l e R s m A below meth c Z T h cells slots) (d : Dc bytes pc (.aload k) 2 pc') (hl : Ls[k]? = some (.val v)) (hv : v.isRef = true) (K : Goes p e below W T (mkF m pc' Ls (v :: st))) : Goes p e below W T (mkF m pc Ls st) := by
  obtain ⟨d, rfl⟩ := d
  exact Goes.via (fun _ k => XS.aload X.here C.hx rfl (hb C.hby d) hl hv k) K
theorem g_aloadN {k : Fin 4} {v : Value} (C : Cx p s m meth c Z own nm bytes maxL ret) (X : St p l e R s m A below meth c Z T h cells slots) (d : Dc bytes pc (.aload_n k) 1 pc') (hl : Ls[k.val]? = some (.val v)) (hv : v.isRef = true) (K : Goes p e below W T (mkF m pc' Ls (v :: st))) : Goes p e below W T (mkF m pc Ls st) := by
  obtain ⟨d, rfl⟩ := d
  exact Goes.via (fun _ k => XS.aloadN X.here C.hx rfl (hb C.hby d) hl hv k) K
theorem g_istore {k : Nat} {x : Int32} {l' : Array Slot} (C : Cx p s m meth c Z own nm bytes maxL ret) (X : St p l e R s m A below meth c Z T h cells slots) (d : Dc bytes pc (.istore k) 2 pc') (hl : storeLocals Ls k (.int x) = some l') (K : Goes p e below W T (mkF m pc' l' st)) : Goes p e below W T (mkF m pc Ls (.int x :: st)) := by
  obtain ⟨d, rfl⟩ := d
  exact Goes.via (fun _ k => XS.istore X.here C.hx rfl (hb C.hby d) rfl hl k) K
theorem g_istoreN {k : Fin 4} {x : Int32} {l' : Array Slot} (C : Cx p s m meth c Z own nm bytes maxL ret) (X : St p l e R s m A below meth c Z T h cells slots) (d : Dc bytes pc (.istore_n k) 1 pc') (hl : storeLocals Ls k.val (.int x) = some l') (K : Goes p e below W T (mkF m pc' l' st)) : Goes p e below W T (mkF m pc Ls (.int x :: st)) := by
  obtain ⟨d, rfl⟩ := d
  exact Goes.via (fun _ k => XS.istoreN X.here C.hx rfl (hb C.hby d) rfl hl k) K
theorem g_lstore {k : Nat} {x : Int64} {l' : Array Slot} (C : Cx p s m meth c Z own nm bytes maxL ret) (X : St p l e R s m A below meth c Z T h cells slots) (d : Dc bytes pc (.lstore k) 2 pc') (hl : storeLocals Ls k (.long x) = some l') (K : Goes p e below W T (mkF m pc' l' st)) : Goes p e below W T (mkF m pc Ls (.long x :: st)) := by
  obtain ⟨d, rfl⟩ := d
  exact Goes.via (fun _ k => XT.lstore X.here C.hx rfl (hb C.hby d) rfl hl k) K
theorem g_lstoreN {k : Fin 4} {x : Int64} {l' : Array Slot} (C : Cx p s m meth c Z own nm bytes maxL ret) (X : St p l e R s m A below meth c Z T h cells slots) (d : Dc bytes pc (.lstore_n k) 1 pc') (hl : storeLocals Ls k.val (.long x) = some l') (K : Goes p e below W T (mkF m pc' l' st)) : Goes p e below W T (mkF m pc Ls (.long x :: st)) := by
  obtain ⟨d, rfl⟩ := d
  exact Goes.via (fun _ k => XT.lstoreN X.here C.hx rfl (hb C.hby d) rfl hl k) K
theorem g_astore {k : Nat} {x : Value} {l' : Array Slot} (C : Cx p s m meth c Z own nm bytes maxL ret) (X : St p l e R s m A below meth c Z T h cells slots) (d : Dc bytes pc (.astore k) 2 pc') (hv : x.isRef = true) (hl : storeLocals Ls k x = some l') (K : Goes p e below W T (mkF m pc' l' st)) : Goes p e below W T (mkF m pc Ls (x :: st)) := by
  obtain ⟨d, rfl⟩ := d
  exact Goes.via (fun _ k => XS.astore X.here C.hx rfl (hb C.hby d) rfl hv hl k) K
theorem g_astoreN {k : Fin 4} {x : Value} {l' : Array Slot} (C : Cx p s m meth c Z own nm bytes maxL ret) (X : St p l e R s m A below meth c Z T h cells slots) (d : Dc bytes pc (.astore_n k) 1 pc') (hv : x.isRef = true) (hl : storeLocals Ls k.val x = some l') (K : Goes p e below W T (mkF m pc' l' st)) : Goes p e below W T (mkF m pc Ls (x :: st)) := by
  obtain ⟨d, rfl⟩ := d
  exact Goes.via (fun _ k => XS.astoreN X.here C.hx rfl (hb C.hby d) rfl hv hl k) K
theorem g_iconst {i : Int} (v : Int32) (C : Cx p s m meth c Z own nm bytes maxL ret) (X : St p l e R s m A below meth c Z T h cells slots) (d : Dc bytes pc (.iconst i) 1 pc') (hv : Int32.ofInt i = v) (K : Goes p e below W T (mkF m pc' Ls (.int v :: st))) : Goes p e below W T (mkF m pc Ls st) := by
  obtain ⟨d, rfl⟩ := d
  exact Goes.via (fun _ k => XT.iconstV X.here C.hx rfl v (hb C.hby d) hv k) K
theorem g_bipush {i : Int} (v : Int32) (C : Cx p s m meth c Z own nm bytes maxL ret) (X : St p l e R s m A below meth c Z T h cells slots) (d : Dc bytes pc (.bipush i) 2 pc') (hv : (Int8.ofInt i).toInt32 = v) (K : Goes p e below W T (mkF m pc' Ls (.int v :: st))) : Goes p e below W T (mkF m pc Ls st) := by
  obtain ⟨d, rfl⟩ := d
  exact Goes.via (fun _ k => XT.bipushV X.here C.hx rfl v (hb C.hby d) hv k) K
theorem g_sipush {i : Int} (v : Int32) (C : Cx p s m meth c Z own nm bytes maxL ret) (X : St p l e R s m A below meth c Z T h cells slots) (d : Dc bytes pc (.sipush i) 3 pc') (hv : (Int16.ofInt i).toInt32 = v) (K : Goes p e below W T (mkF m pc' Ls (.int v :: st))) : Goes p e below W T (mkF m pc Ls st) := by
  obtain ⟨d, rfl⟩ := d
  exact Goes.via (fun _ k => XT.sipushV X.here C.hx rfl v (hb C.hby d) hv k) K
theorem g_lconst {k : Fin 2} (v : Int64) (C : Cx p s m meth c Z own nm bytes maxL ret) (X : St p l e R s m A below meth c Z T h cells slots) (d : Dc bytes pc (.lconst k) 1 pc') (hv : Int64.ofNat k = v) (K : Goes p e below W T (mkF m pc' Ls (.long v :: st))) : Goes p e below W T (mkF m pc Ls st) := by
  obtain ⟨d, rfl⟩ := d
  exact Goes.via (fun _ k => XT.lconstV X.here C.hx rfl v (hb C.hby d) hv k) K
theorem g_iinc {k : Nat} {i : Int} {x : Int32} {l' : Array Slot} (v : Int32) (C : Cx p s m meth c Z own nm bytes maxL ret) (X : St p l e R s m A below meth c Z T h cells slots) (d : Dc bytes pc (.iinc k i) 3 pc') (hv : Int32.ofInt i = v) (hl : Ls[k]? = some (.val (.int x))) (hl' : storeLocals Ls k (.int (x + v)) = some l') (K : Goes p e below W T (mkF m pc' l' st)) : Goes p e below W T (mkF m pc Ls st) := by
  obtain ⟨d, rfl⟩ := d
  exact Goes.via (fun _ k => XT.iincV X.here C.hx rfl v (hb C.hby d) hv hl hl' k) K
theorem g_aconst_null  (C : Cx p s m meth c Z own nm bytes maxL ret) (X : St p l e R s m A below meth c Z T h cells slots) (d : Dc bytes pc (.aconst_null) 1 pc')  (K : Goes p e below W T (mkF m pc' Ls (.null :: st))) : Goes p e below W T (mkF m pc Ls st) := by
  obtain ⟨d, rfl⟩ := d
  exact Goes.via (fun _ k => XS.aconstNull X.here C.hx rfl (hb C.hby d)  k) K
theorem g_iadd {x y : Int32} (C : Cx p s m meth c Z own nm bytes maxL ret) (X : St p l e R s m A below meth c Z T h cells slots) (d : Dc bytes pc (.iadd) 1 pc')  (K : Goes p e below W T (mkF m pc' Ls (.int (x + y) :: st))) : Goes p e below W T (mkF m pc Ls (.int y :: .int x :: st)) := by
  obtain ⟨d, rfl⟩ := d
  exact Goes.via (fun _ k => XS.iadd X.here C.hx rfl (hb C.hby d) rfl k) K
theorem g_ladd {x y : Int64} (C : Cx p s m meth c Z own nm bytes maxL ret) (X : St p l e R s m A below meth c Z T h cells slots) (d : Dc bytes pc (.ladd) 1 pc')  (K : Goes p e below W T (mkF m pc' Ls (.long (x + y) :: st))) : Goes p e below W T (mkF m pc Ls (.long y :: .long x :: st)) := by
  obtain ⟨d, rfl⟩ := d
  exact Goes.via (fun _ k => XT.ladd X.here C.hx rfl (hb C.hby d) rfl k) K
theorem g_isub {x y : Int32} (C : Cx p s m meth c Z own nm bytes maxL ret) (X : St p l e R s m A below meth c Z T h cells slots) (d : Dc bytes pc (.isub) 1 pc')  (K : Goes p e below W T (mkF m pc' Ls (.int (x - y) :: st))) : Goes p e below W T (mkF m pc Ls (.int y :: .int x :: st)) := by
  obtain ⟨d, rfl⟩ := d
  exact Goes.via (fun _ k => XS.isub X.here C.hx rfl (hb C.hby d) rfl k) K
theorem g_lsub {x y : Int64} (C : Cx p s m meth c Z own nm bytes maxL ret) (X : St p l e R s m A below meth c Z T h cells slots) (d : Dc bytes pc (.lsub) 1 pc')  (K : Goes p e below W T (mkF m pc' Ls (.long (x - y) :: st))) : Goes p e below W T (mkF m pc Ls (.long y :: .long x :: st)) := by
  obtain ⟨d, rfl⟩ := d
  exact Goes.via (fun _ k => XT.lsub X.here C.hx rfl (hb C.hby d) rfl k) K
theorem g_imul {x y : Int32} (C : Cx p s m meth c Z own nm bytes maxL ret) (X : St p l e R s m A below meth c Z T h cells slots) (d : Dc bytes pc (.imul) 1 pc')  (K : Goes p e below W T (mkF m pc' Ls (.int (x * y) :: st))) : Goes p e below W T (mkF m pc Ls (.int y :: .int x :: st)) := by
  obtain ⟨d, rfl⟩ := d
  exact Goes.via (fun _ k => XS.imul X.here C.hx rfl (hb C.hby d) rfl k) K
theorem g_lmul {x y : Int64} (C : Cx p s m meth c Z own nm bytes maxL ret) (X : St p l e R s m A below meth c Z T h cells slots) (d : Dc bytes pc (.lmul) 1 pc')  (K : Goes p e below W T (mkF m pc' Ls (.long (x * y) :: st))) : Goes p e below W T (mkF m pc Ls (.long y :: .long x :: st)) := by
  obtain ⟨d, rfl⟩ := d
  exact Goes.via (fun _ k => XT.lmul X.here C.hx rfl (hb C.hby d) rfl k) K
theorem g_iand {x y : Int32} (C : Cx p s m meth c Z own nm bytes maxL ret) (X : St p l e R s m A below meth c Z T h cells slots) (d : Dc bytes pc (.iand) 1 pc')  (K : Goes p e below W T (mkF m pc' Ls (.int (x &&& y) :: st))) : Goes p e below W T (mkF m pc Ls (.int y :: .int x :: st)) := by
  obtain ⟨d, rfl⟩ := d
  exact Goes.via (fun _ k => XS.iand X.here C.hx rfl (hb C.hby d) rfl k) K
theorem g_land {x y : Int64} (C : Cx p s m meth c Z own nm bytes maxL ret) (X : St p l e R s m A below meth c Z T h cells slots) (d : Dc bytes pc (.land) 1 pc')  (K : Goes p e below W T (mkF m pc' Ls (.long (x &&& y) :: st))) : Goes p e below W T (mkF m pc Ls (.long y :: .long x :: st)) := by
  obtain ⟨d, rfl⟩ := d
  exact Goes.via (fun _ k => XT.land X.here C.hx rfl (hb C.hby d) rfl k) K
theorem g_ior {x y : Int32} (C : Cx p s m meth c Z own nm bytes maxL ret) (X : St p l e R s m A below meth c Z T h cells slots) (d : Dc bytes pc (.ior) 1 pc')  (K : Goes p e below W T (mkF m pc' Ls (.int (x ||| y) :: st))) : Goes p e below W T (mkF m pc Ls (.int y :: .int x :: st)) := by
  obtain ⟨d, rfl⟩ := d
  exact Goes.via (fun _ k => XT.ior X.here C.hx rfl (hb C.hby d) rfl k) K
theorem g_lor {x y : Int64} (C : Cx p s m meth c Z own nm bytes maxL ret) (X : St p l e R s m A below meth c Z T h cells slots) (d : Dc bytes pc (.lor) 1 pc')  (K : Goes p e below W T (mkF m pc' Ls (.long (x ||| y) :: st))) : Goes p e below W T (mkF m pc Ls (.long y :: .long x :: st)) := by
  obtain ⟨d, rfl⟩ := d
  exact Goes.via (fun _ k => XT.lor X.here C.hx rfl (hb C.hby d) rfl k) K
theorem g_ixor {x y : Int32} (C : Cx p s m meth c Z own nm bytes maxL ret) (X : St p l e R s m A below meth c Z T h cells slots) (d : Dc bytes pc (.ixor) 1 pc')  (K : Goes p e below W T (mkF m pc' Ls (.int (x ^^^ y) :: st))) : Goes p e below W T (mkF m pc Ls (.int y :: .int x :: st)) := by
  obtain ⟨d, rfl⟩ := d
  exact Goes.via (fun _ k => XT.ixor X.here C.hx rfl (hb C.hby d) rfl k) K
theorem g_lxor {x y : Int64} (C : Cx p s m meth c Z own nm bytes maxL ret) (X : St p l e R s m A below meth c Z T h cells slots) (d : Dc bytes pc (.lxor) 1 pc')  (K : Goes p e below W T (mkF m pc' Ls (.long (x ^^^ y) :: st))) : Goes p e below W T (mkF m pc Ls (.long y :: .long x :: st)) := by
  obtain ⟨d, rfl⟩ := d
  exact Goes.via (fun _ k => XT.lxor X.here C.hx rfl (hb C.hby d) rfl k) K
theorem g_idiv {x y : Int32} (C : Cx p s m meth c Z own nm bytes maxL ret) (X : St p l e R s m A below meth c Z T h cells slots) (d : Dc bytes pc (.idiv) 1 pc') (hy : y ≠ 0) (K : Goes p e below W T (mkF m pc' Ls (.int (x / y) :: st))) : Goes p e below W T (mkF m pc Ls (.int y :: .int x :: st)) := by
  obtain ⟨d, rfl⟩ := d
  exact Goes.via (fun _ k => XS.idiv X.here C.hx rfl (hb C.hby d) rfl hy k) K
theorem g_ldiv {x y : Int64} (C : Cx p s m meth c Z own nm bytes maxL ret) (X : St p l e R s m A below meth c Z T h cells slots) (d : Dc bytes pc (.ldiv) 1 pc') (hy : y ≠ 0) (K : Goes p e below W T (mkF m pc' Ls (.long (x / y) :: st))) : Goes p e below W T (mkF m pc Ls (.long y :: .long x :: st)) := by
  obtain ⟨d, rfl⟩ := d
  exact Goes.via (fun _ k => XT.ldiv X.here C.hx rfl (hb C.hby d) rfl hy k) K
theorem g_ineg {x : Int32} (C : Cx p s m meth c Z own nm bytes maxL ret) (X : St p l e R s m A below meth c Z T h cells slots) (d : Dc bytes pc (.ineg) 1 pc')  (K : Goes p e below W T (mkF m pc' Ls (.int (-x) :: st))) : Goes p e below W T (mkF m pc Ls (.int x :: st)) := by
  obtain ⟨d, rfl⟩ := d
  exact Goes.via (fun _ k => XS.ineg X.here C.hx rfl (hb C.hby d) rfl k) K
theorem g_lneg {x : Int64} (C : Cx p s m meth c Z own nm bytes maxL ret) (X : St p l e R s m A below meth c Z T h cells slots) (d : Dc bytes pc (.lneg) 1 pc')  (K : Goes p e below W T (mkF m pc' Ls (.long (-x) :: st))) : Goes p e below W T (mkF m pc Ls (.long x :: st)) := by
  obtain ⟨d, rfl⟩ := d
  exact Goes.via (fun _ k => XT.lneg X.here C.hx rfl (hb C.hby d) rfl k) K
theorem g_ishl {x y : Int32} (C : Cx p s m meth c Z own nm bytes maxL ret) (X : St p l e R s m A below meth c Z T h cells slots) (d : Dc bytes pc (.ishl) 1 pc')  (K : Goes p e below W T (mkF m pc' Ls (.int (x <<< (y &&& 31)) :: st))) : Goes p e below W T (mkF m pc Ls (.int y :: .int x :: st)) := by
  obtain ⟨d, rfl⟩ := d
  exact Goes.via (fun _ k => XT.ishl X.here C.hx rfl (hb C.hby d) rfl k) K
theorem g_ishr {x y : Int32} (C : Cx p s m meth c Z own nm bytes maxL ret) (X : St p l e R s m A below meth c Z T h cells slots) (d : Dc bytes pc (.ishr) 1 pc')  (K : Goes p e below W T (mkF m pc' Ls (.int (x >>> (y &&& 31)) :: st))) : Goes p e below W T (mkF m pc Ls (.int y :: .int x :: st)) := by
  obtain ⟨d, rfl⟩ := d
  exact Goes.via (fun _ k => XT.ishr X.here C.hx rfl (hb C.hby d) rfl k) K
theorem g_iushr {x y : Int32} (C : Cx p s m meth c Z own nm bytes maxL ret) (X : St p l e R s m A below meth c Z T h cells slots) (d : Dc bytes pc (.iushr) 1 pc')  (K : Goes p e below W T (mkF m pc' Ls (.int ((x.toUInt32 >>> (y &&& 31).toUInt32).toInt32) :: st))) : Goes p e below W T (mkF m pc Ls (.int y :: .int x :: st)) := by
  obtain ⟨d, rfl⟩ := d
  exact Goes.via (fun _ k => XT.iushr X.here C.hx rfl (hb C.hby d) rfl k) K
theorem g_lshl {x : Int64} {y : Int32} (C : Cx p s m meth c Z own nm bytes maxL ret) (X : St p l e R s m A below meth c Z T h cells slots) (d : Dc bytes pc (.lshl) 1 pc')  (K : Goes p e below W T (mkF m pc' Ls (.long (x <<< (y &&& 0x3f).toInt64) :: st))) : Goes p e below W T (mkF m pc Ls (.int y :: .long x :: st)) := by
  obtain ⟨d, rfl⟩ := d
  exact Goes.via (fun _ k => XS.lshl X.here C.hx rfl (hb C.hby d) rfl k) K
theorem g_lshr {x : Int64} {y : Int32} (C : Cx p s m meth c Z own nm bytes maxL ret) (X : St p l e R s m A below meth c Z T h cells slots) (d : Dc bytes pc (.lshr) 1 pc')  (K : Goes p e below W T (mkF m pc' Ls (.long (x >>> (y &&& 0x3f).toInt64) :: st))) : Goes p e below W T (mkF m pc Ls (.int y :: .long x :: st)) := by
  obtain ⟨d, rfl⟩ := d
  exact Goes.via (fun _ k => XS.lshr X.here C.hx rfl (hb C.hby d) rfl k) K
theorem g_lushr {x : Int64} {y : Int32} (C : Cx p s m meth c Z own nm bytes maxL ret) (X : St p l e R s m A below meth c Z T h cells slots) (d : Dc bytes pc (.lushr) 1 pc')  (K : Goes p e below W T (mkF m pc' Ls (.long ((x.toUInt64 >>> (y &&& 0x3f).toInt64.toUInt64).toInt64) :: st))) : Goes p e below W T (mkF m pc Ls (.int y :: .long x :: st)) := by
  obtain ⟨d, rfl⟩ := d
  exact Goes.via (fun _ k => XS.lushr X.here C.hx rfl (hb C.hby d) rfl k) K
theorem g_i2l {x : Int32} (C : Cx p s m meth c Z own nm bytes maxL ret) (X : St p l e R s m A below meth c Z T h cells slots) (d : Dc bytes pc (.i2l) 1 pc')  (K : Goes p e below W T (mkF m pc' Ls (.long x.toInt64 :: st))) : Goes p e below W T (mkF m pc Ls (.int x :: st)) := by
  obtain ⟨d, rfl⟩ := d
  exact Goes.via (fun _ k => XT.i2l X.here C.hx rfl (hb C.hby d) rfl k) K
theorem g_l2i {x : Int64} (C : Cx p s m meth c Z own nm bytes maxL ret) (X : St p l e R s m A below meth c Z T h cells slots) (d : Dc bytes pc (.l2i) 1 pc')  (K : Goes p e below W T (mkF m pc' Ls (.int x.toInt32 :: st))) : Goes p e below W T (mkF m pc Ls (.long x :: st)) := by
  obtain ⟨d, rfl⟩ := d
  exact Goes.via (fun _ k => XT.l2i X.here C.hx rfl (hb C.hby d) rfl k) K
theorem g_i2b {x : Int32} (C : Cx p s m meth c Z own nm bytes maxL ret) (X : St p l e R s m A below meth c Z T h cells slots) (d : Dc bytes pc (.i2b) 1 pc')  (K : Goes p e below W T (mkF m pc' Ls (.int x.toInt8.toInt32 :: st))) : Goes p e below W T (mkF m pc Ls (.int x :: st)) := by
  obtain ⟨d, rfl⟩ := d
  exact Goes.via (fun _ k => XT.i2b X.here C.hx rfl (hb C.hby d) rfl k) K
theorem g_i2s {x : Int32} (C : Cx p s m meth c Z own nm bytes maxL ret) (X : St p l e R s m A below meth c Z T h cells slots) (d : Dc bytes pc (.i2s) 1 pc')  (K : Goes p e below W T (mkF m pc' Ls (.int x.toInt16.toInt32 :: st))) : Goes p e below W T (mkF m pc Ls (.int x :: st)) := by
  obtain ⟨d, rfl⟩ := d
  exact Goes.via (fun _ k => XT.i2s X.here C.hx rfl (hb C.hby d) rfl k) K
theorem g_i2c {x : Int32} (C : Cx p s m meth c Z own nm bytes maxL ret) (X : St p l e R s m A below meth c Z T h cells slots) (d : Dc bytes pc (.i2c) 1 pc')  (K : Goes p e below W T (mkF m pc' Ls (.int x.toUInt32.toUInt16.toUInt32.toInt32 :: st))) : Goes p e below W T (mkF m pc Ls (.int x :: st)) := by
  obtain ⟨d, rfl⟩ := d
  exact Goes.via (fun _ k => XT.i2c X.here C.hx rfl (hb C.hby d) rfl k) K
theorem g_lcmp {x y : Int64} (C : Cx p s m meth c Z own nm bytes maxL ret) (X : St p l e R s m A below meth c Z T h cells slots) (d : Dc bytes pc (.lcmp) 1 pc')  (K : Goes p e below W T (mkF m pc' Ls (.int (lcmpW x y) :: st))) : Goes p e below W T (mkF m pc Ls (.long y :: .long x :: st)) := by
  obtain ⟨d, rfl⟩ := d
  exact Goes.via (fun _ k => XT.lcmp X.here C.hx rfl (hb C.hby d) rfl k) K
theorem g_pop {x : Value} (C : Cx p s m meth c Z own nm bytes maxL ret) (X : St p l e R s m A below meth c Z T h cells slots) (d : Dc bytes pc (.pop) 1 pc') (hc : x.category = 1) (K : Goes p e below W T (mkF m pc' Ls st)) : Goes p e below W T (mkF m pc Ls (x :: st)) := by
  obtain ⟨d, rfl⟩ := d
  exact Goes.via (fun _ k => XT.pop X.here C.hx rfl (hb C.hby d) rfl hc k) K
theorem g_dup {x : Value} (C : Cx p s m meth c Z own nm bytes maxL ret) (X : St p l e R s m A below meth c Z T h cells slots) (d : Dc bytes pc (.dup) 1 pc') (hc : x.category = 1) (K : Goes p e below W T (mkF m pc' Ls (x :: x :: st))) : Goes p e below W T (mkF m pc Ls (x :: st)) := by
  obtain ⟨d, rfl⟩ := d
  exact Goes.via (fun _ k => XS.dup X.here C.hx rfl (hb C.hby d) rfl hc k) K
theorem g_dup_x1 {x y : Value} (C : Cx p s m meth c Z own nm bytes maxL ret) (X : St p l e R s m A below meth c Z T h cells slots) (d : Dc bytes pc (.dup_x1) 1 pc') (hc : x.category = 1) (hc' : y.category = 1) (K : Goes p e below W T (mkF m pc' Ls (x :: y :: x :: st))) : Goes p e below W T (mkF m pc Ls (x :: y :: st)) := by
  obtain ⟨d, rfl⟩ := d
  exact Goes.via (fun _ k => XT.dupX1 X.here C.hx rfl (hb C.hby d) rfl hc hc' k) K
theorem g_dup2 {x y : Value} (C : Cx p s m meth c Z own nm bytes maxL ret) (X : St p l e R s m A below meth c Z T h cells slots) (d : Dc bytes pc (.dup2) 1 pc') (hc : x.category = 1) (hc' : y.category = 1) (K : Goes p e below W T (mkF m pc' Ls (x :: y :: x :: y :: st))) : Goes p e below W T (mkF m pc Ls (x :: y :: st)) := by
  obtain ⟨d, rfl⟩ := d
  exact Goes.via (fun _ k => XT.dup2 X.here C.hx rfl (hb C.hby d) rfl hc hc' k) K
theorem g_dup2L {x : Int64} (C : Cx p s m meth c Z own nm bytes maxL ret) (X : St p l e R s m A below meth c Z T h cells slots) (d : Dc bytes pc (.dup2) 1 pc')  (K : Goes p e below W T (mkF m pc' Ls (.long x :: .long x :: st))) : Goes p e below W T (mkF m pc Ls (.long x :: st)) := by
  obtain ⟨d, rfl⟩ := d
  exact Goes.via (fun _ k => XT.dup2L X.here C.hx rfl (hb C.hby d) rfl k) K
theorem g_irem {x y : Int32} (C : Cx p s m meth c Z own nm bytes maxL ret) (X : St p l e R s m A below meth c Z T h cells slots) (d : Dc bytes pc .irem 1 pc') (hy : y ≠ 0) (K : Goes p e below W T (mkF m pc' Ls (.int (x % y) :: st))) : Goes p e below W T (mkF m pc Ls (.int y :: .int x :: st)) := by
  obtain ⟨d, rfl⟩ := d
  obtain ⟨_, Y, _⟩ := X
  exact Goes.via (fun _ k => iremM Y C.hx rfl (hb C.hby d) rfl hy k) K
theorem g_lrem {x y : Int64} (C : Cx p s m meth c Z own nm bytes maxL ret) (X : St p l e R s m A below meth c Z T h cells slots) (d : Dc bytes pc .lrem 1 pc') (hy : y ≠ 0) (K : Goes p e below W T (mkF m pc' Ls (.long (x % y) :: st))) : Goes p e below W T (mkF m pc Ls (.long y :: .long x :: st)) := by
  obtain ⟨d, rfl⟩ := d
  rw [← lrem_mod] at K
  exact Goes.via (fun _ k => XT.lrem X.here C.hx rfl (hb C.hby d) rfl hy k) K
theorem g_ldcI {index : Nat} {v : Int32} (C : Cx p s m meth c Z own nm bytes maxL ret) (X : St p l e R s m A below meth c Z T h cells slots) (w : (Jvm.Cond.constant own index v).before a0 Z = true) (d : Dc bytes pc (.ldc index) 2 pc') (K : Goes p e below W T (mkF m pc' Ls (.int v :: st))) : Goes p e below W T (mkF m pc Ls st) := by
  obtain ⟨d, rfl⟩ := d
  obtain ⟨_, Y, _⟩ := X
  exact Goes.via (fun t k => Y.ldcInt C.hx C.hown (mvT C.hZ w) (g := mkF m pc Ls st) rfl (hb C.hby d) t k) K
theorem g_ldcwI {index : Nat} {v : Int32} (C : Cx p s m meth c Z own nm bytes maxL ret) (X : St p l e R s m A below meth c Z T h cells slots) (w : (Jvm.Cond.constant own index v).before a0 Z = true) (d : Dc bytes pc (.ldc_w index) 3 pc') (K : Goes p e below W T (mkF m pc' Ls (.int v :: st))) : Goes p e below W T (mkF m pc Ls st) := by
  obtain ⟨d, rfl⟩ := d
  obtain ⟨_, Y, _⟩ := X
  exact Goes.via (fun t k => Y.ldcWI C.hx C.hown (mvT C.hZ w) (g := mkF m pc Ls st) rfl (hb C.hby d) k) K
theorem g_ldcJ {index : Nat} {v : Int64} (C : Cx p s m meth c Z own nm bytes maxL ret) (X : St p l e R s m A below meth c Z T h cells slots) (w : (Jvm.Cond.constantLong own index v).before a0 Z = true) (d : Dc bytes pc (.ldc2_w index) 3 pc') (K : Goes p e below W T (mkF m pc' Ls (.long v :: st))) : Goes p e below W T (mkF m pc Ls st) := by
  obtain ⟨d, rfl⟩ := d
  obtain ⟨_, Y, _⟩ := X
  exact Goes.via (fun t k => Y.ldc2Long C.hx C.hown (mvT C.hZ w) (g := mkF m pc Ls st) rfl (hb C.hby d) t k) K
theorem g_getstatic {R0 O n dd host : String} {index : Nat} {v : Value} (C : Cx p s m meth c Z own nm bytes maxL ret) (X : St p l e R s m A below meth c Z T h cells slots) (w : (Jvm.Cond.fieldLink own index R0 n dd).before a0 Z = true ∨ (Jvm.Cond.fieldLinkNest own index R0 n dd host).before a0 Z = true) (via : Via Z R0 O n dd) (F : Sta Z Z.heap O n dd v) (d : Dc bytes pc (.getstatic index) 3 pc')
    (K : ∀ T', St p l e R s m A below meth c Z T' h cells slots → Goes p e below W T' (mkF m pc' Ls (v :: st))) : Goes p e below W T (mkF m pc Ls st) := by
  obtain ⟨d, rfl⟩ := d
  obtain ⟨L, Y, eT, N, E⟩ := X
  obtain ⟨T', Y', e', q⟩ := getS2 Y C.hx C.hZ C.hown w via eT (F.ext E) (g := mkF m pc Ls st) rfl (hb C.hby d)
  exact Goes.via q (K T' ⟨L, Y', e', N, E⟩)
theorem g_getfield {R0 O n dd host : String} {index : Nat} {a : Addr} {v : Value} (C : Cx p s m meth c Z own nm bytes maxL ret) (X : St p l e R s m A below meth c Z T h cells slots) (w : (Jvm.Cond.fieldLink own index R0 n dd).before a0 Z = true ∨ (Jvm.Cond.fieldLinkNest own index R0 n dd host).before a0 Z = true) (via : Via Z R0 O n dd) (F : Fld Z h a O n dd v) (d : Dc bytes pc (.getfield index) 3 pc')
    (K : ∀ T', St p l e R s m A below meth c Z T' h cells slots → Goes p e below W T' (mkF m pc' Ls (v :: st))) : Goes p e below W T (mkF m pc Ls (.ref a :: st)) := by
  obtain ⟨d, rfl⟩ := d
  obtain ⟨L, Y, eT, N, E⟩ := X
  obtain ⟨T', Y', e', q⟩ := getF Y C.hx C.hZ C.hown w via eT F (g := mkF m pc Ls (.ref a :: st)) rfl rfl (hb C.hby d)
  exact Goes.via q (K T' ⟨L, Y', e', N, E⟩)
theorem ext_wr {h h' : Heap} {a : Addr} {sl : Nat} {v : Value} (E : Ext Z.heap h) (w : Wr h h' a sl v) (q : Z.heap.size ≤ a) : Ext Z.heap h' := (Old.wr (Z := Z) (n0 := Z.heap.size) (h := h) ⟨rfl, E⟩ w q).2
theorem ext_keep {h h' : Heap} {ws : List Addr} (E : Ext Z.heap h) (w : Keep h h' ws) (q : ∀ x ∈ ws, Z.heap.size ≤ x) : Ext Z.heap h' := (Old.keep (Z := Z) (n0 := Z.heap.size) (h := h) ⟨rfl, E⟩ w q).2
theorem ext_trans {h h' : Heap} (E : Ext Z.heap h) (E' : Ext h h') : Ext Z.heap h' := ⟨Nat.le_trans E.1 E'.1, fun x c q => E'.2 x c (E.2 x c q)⟩
theorem g_putfield {R0 O n dd host K0 : String} {index kk : Nat} {ty : FieldType} {a : Addr} {v old : Value} (C : Cx p s m meth c Z own nm bytes maxL ret) (X : St p l e R s m A below meth c Z T h cells slots) (w : (Jvm.Cond.fieldLink own index R0 n dd).before a0 Z = true ∨ (Jvm.Cond.fieldLinkNest own index R0 n dd host).before a0 Z = true) (via : Via Z R0 O n dd)
    (F : Fld Z h a O n dd old) (Ex : Exa Z h a K0) (L : (Jvm.Cond.lays K0 O n dd).before a0 Z = true ∨ ((Jvm.Cond.laysFinal K0 O n dd).before a0 Z = true ∧ own = O ∧ nm = "<init>")) (wi : (Jvm.Cond.instantiable K0 kk).before a0 Z = true) (hty : parseFieldDescriptor dd = some ty) (hn : narrow ty v = v) (hf : fits ty v = true) (hnew : Z.heap.size ≤ a) (d : Dc bytes pc (.putfield index) 3 pc')
    (K : ∀ T' h', St p l e R s m A below meth c Z T' h' cells slots → Wr h h' a (RoadKit.slotOf Z O n dd) v → Goes p e below W T' (mkF m pc' Ls st)) : Goes p e below W T (mkF m pc Ls (v :: .ref a :: st)) := by
  obtain ⟨d, rfl⟩ := d
  obtain ⟨L0, Y, eT, N, E⟩ := X
  obtain ⟨T', h', Y', e', W', q⟩ := putF Y C.hx C.hZ C.hown w via eT F Ex (L.imp id fun z => ⟨z.1, z.2.1, C.hnm.trans z.2.2⟩) wi hty hn hf (g := mkF m pc Ls (v :: .ref a :: st)) rfl rfl (hb C.hby d)
  exact Goes.via q (K T' h' ⟨_, Y', e', Fr.snoc Y' N hnew, ext_wr E W' hnew⟩ W')
theorem g_new {K0 : String} {index n : Nat} (C : Cx p s m meth c Z own nm bytes maxL ret) (X : St p l e R s m A below meth c Z T h cells slots) (w : (Jvm.Cond.classLink own index K0).before a0 Z = true) (wi : (Jvm.Cond.instantiable K0 n).before a0 Z = true) (wz : (Jvm.Cond.initialized K0).before a0 Z = true) (d : Dc bytes pc (.new index) 3 pc') (hc : cells + 1 ≤ R.cells) (hl : slots + n ≤ R.slots)
    (K : ∀ T' h' b, b = h.size → Z.heap.size ≤ b → St p l e R s m A below meth c Z T' h' (cells + 1) (slots + n) → Ext h h' → Exa Z h' b K0 → (∀ {O f dd : String} {ty : FieldType}, Laid Z a0 K0 O f dd → parseFieldDescriptor dd = some ty → Fld Z h' b O f dd (defaultValue ty)) → (∃ cell : Cell, h'[b]? = some cell ∧ cell.vm = .none ∧ cell.monitor = {}) → Goes p e below W T' (mkF m pc' Ls (.ref b :: st))) : Goes p e below W T (mkF m pc Ls st) := by
  obtain ⟨d, rfl⟩ := d
  obtain ⟨L0, Y, eT, N, E⟩ := X
  obtain ⟨T', h', Y', e', E', A', D', M', q⟩ := newO Y C.hx C.hZ C.hown w wi wz eT (g := mkF m pc Ls st) rfl (hb C.hby d) hc hl
  exact Goes.via q (K T' h' _ rfl E.1 ⟨_, Y', e', N, ext_trans E E'⟩ E' A' D' M')
theorem g_newarray {aty : ArrayType} {n : Int32} (C : Cx p s m meth c Z own nm bytes maxL ret) (X : St p l e R s m A below meth c Z T h cells slots) (w : (Jvm.Cond.arrayClass (newarray.typeOf aty)).before a0 Z = true) (d : Dc bytes pc (.newarray aty) 2 pc') (hn : ¬ n < 0) (len cap : Nat) (hcap : n.toNatClampNeg ≤ cap) (hb' : cap * 8 ≤ 536870912) (hc : cells + 1 ≤ R.cells) (hl : slots + cap ≤ R.slots)
    (K : ∀ T' h' b k, b = h.size → Z.heap.size ≤ b → St p l e R s m A below meth c Z T' h' (cells + 1) (slots + cap) → Ext h h' → Arv Z h' b k (newarray.typeOf aty) n (List.replicate len (defaultValue (newarray.typeOf aty))) (defaultValue (newarray.typeOf aty)) → Goes p e below W T' (mkF m pc' Ls (.ref b :: st))) : Goes p e below W T (mkF m pc Ls (.int n :: st)) := by
  obtain ⟨d, rfl⟩ := d
  obtain ⟨L0, Y, eT, N, E⟩ := X
  obtain ⟨T', h', k, Y', e', E', A', q⟩ := newP Y C.hx C.hZ w eT (g := mkF m pc Ls (.int n :: st)) rfl (hb C.hby d) rfl hn hcap hb' hc hl
  exact Goes.via q (K T' h' _ k rfl E.1 ⟨_, Y', e', N, ext_trans E E'⟩ E' ((Arv.new A' hn).pad (pad_rep [] _ len)))
theorem g_checkcast {K0 : String} {index : Nat} {a : Addr} (C : Cx p s m meth c Z own nm bytes maxL ret) (X : St p l e R s m A below meth c Z T h cells slots) (w : (Jvm.Cond.classLink own index K0).before a0 Z = true) (F : Ins Z h a K0 true) (d : Dc bytes pc (.checkcast index) 3 pc')
    (K : ∀ T', St p l e R s m A below meth c Z T' h cells slots → Goes p e below W T' (mkF m pc' Ls (.ref a :: st))) : Goes p e below W T (mkF m pc Ls (.ref a :: st)) := by
  obtain ⟨d, rfl⟩ := d
  obtain ⟨L, Y, eT, N, E⟩ := X
  obtain ⟨T', Y', e', q⟩ := castY Y C.hx C.hZ C.hown w eT F (g := mkF m pc Ls (.ref a :: st)) rfl rfl (hb C.hby d)
  exact Goes.via q (K T' ⟨L, Y', e', N, E⟩)
theorem g_checkcastN {index : Nat} (C : Cx p s m meth c Z own nm bytes maxL ret) (X : St p l e R s m A below meth c Z T h cells slots) (d : Dc bytes pc (.checkcast index) 3 pc') (K : Goes p e below W T (mkF m pc' Ls (.null :: st))) : Goes p e below W T (mkF m pc Ls (.null :: st)) := by
  obtain ⟨d, rfl⟩ := d
  obtain ⟨L, Y, eT, N, E⟩ := X
  exact Goes.via (Y.checkcastNull C.hx (g := mkF m pc Ls (.null :: st)) rfl rfl (hb C.hby d)) K
theorem g_instanceY {K0 : String} {index : Nat} {a : Addr} (C : Cx p s m meth c Z own nm bytes maxL ret) (X : St p l e R s m A below meth c Z T h cells slots) (w : (Jvm.Cond.classLink own index K0).before a0 Z = true) (F : Ins Z h a K0 true) (d : Dc bytes pc (.instanceof index) 3 pc')
    (K : ∀ T', St p l e R s m A below meth c Z T' h cells slots → Goes p e below W T' (mkF m pc' Ls (.int 1 :: st))) : Goes p e below W T (mkF m pc Ls (.ref a :: st)) := by
  obtain ⟨d, rfl⟩ := d
  obtain ⟨L, Y, eT, N, E⟩ := X
  obtain ⟨T', Y', e', q⟩ := instY Y C.hx C.hZ C.hown w eT F (g := mkF m pc Ls (.ref a :: st)) rfl rfl (hb C.hby d)
  exact Goes.via q (K T' ⟨L, Y', e', N, E⟩)
theorem g_instanceN {index : Nat} (C : Cx p s m meth c Z own nm bytes maxL ret) (X : St p l e R s m A below meth c Z T h cells slots) (d : Dc bytes pc (.instanceof index) 3 pc') (K : Goes p e below W T (mkF m pc' Ls (.int 0 :: st))) : Goes p e below W T (mkF m pc Ls (.null :: st)) := by
  obtain ⟨d, rfl⟩ := d
  obtain ⟨L, Y, eT, N, E⟩ := X
  exact Goes.via (Y.instanceofNull C.hx (g := mkF m pc Ls (.null :: st)) rfl rfl (hb C.hby d)) K
theorem keep_ext {h h' : Heap} (K : Keep h h' []) : Ext h h' := ⟨K.1, fun x c q => K.2.1 x c q nin0⟩
theorem ext_keep0 {h h' : Heap} (E : Ext h h') (ws : List Addr) : Keep h h' ws := (Keep.refl h ws).ext E
/-- a place of an array -/
theorem in_of {n j : Int32} {c : Cell} (S : c.slots.size = n.toNatClampNeg) (hj : ¬ j < 0) (hj' : j < n) : ¬ (j < 0 ∨ c.slots.size ≤ j.toNatClampNeg) := inb_of S ⟨hj, hj'⟩
theorem g_arraylength {a : Addr} {k : ClassId} {ty : FieldType} {n : Int32} {vs : List Value} {dv : Value} (C : Cx p s m meth c Z own nm bytes maxL ret) (X : St p l e R s m A below meth c Z T h cells slots) (F : Arv Z h a k ty n vs dv) (d : Dc bytes pc .arraylength 1 pc') (K : Goes p e below W T (mkF m pc' Ls (.int n :: st))) : Goes p e below W T (mkF m pc Ls (.ref a :: st)) := by
  obtain ⟨d, rfl⟩ := d
  obtain ⟨L0, Y, eT, N, E⟩ := X
  obtain ⟨cl, Ar, -, hS, hN, -, -⟩ := F
  rw [← len_of hS hN] at K
  exact Goes.via (Y.arraylength C.hx (by rw [eT]; exact Ar.1) (State.isArrayOf_alike C.hZ.alike Ar.2.1) (g := mkF m pc Ls (.ref a :: st)) rfl rfl (hb C.hby d)) K
theorem g_iaload {a : Addr} {k : ClassId} {n j : Int32} {vs : List Value} {dv : Value} {v : Int32} (C : Cx p s m meth c Z own nm bytes maxL ret) (X : St p l e R s m A below meth c Z T h cells slots) (F : Arv Z h a k .int n vs dv) (d : Dc bytes pc .iaload 1 pc') (hj : ¬ j < 0) (hj' : j < n) (hv : vs.getD j.toNatClampNeg dv = .int v) (K : Goes p e below W T (mkF m pc' Ls (.int v :: st))) : Goes p e below W T (mkF m pc Ls (.int j :: .ref a :: st)) := by
  obtain ⟨d, rfl⟩ := d
  obtain ⟨L0, Y, eT, N, E⟩ := X
  obtain ⟨cl, Ar, -, hS, hN, hH, -⟩ := F
  have hin := in_of hS hj hj'
  exact Goes.via (Y.iaload C.hx (j := j) (v := .int v) (by rw [eT]; exact Ar.1) (State.isArrayOf_alike C.hZ.alike Ar.2.1) Ar.2.2 hin (hH.at hin hv) (g := mkF m pc Ls (.int j :: .ref a :: st)) rfl rfl (hb C.hby d)) K
theorem g_caload {a : Addr} {k : ClassId} {n j : Int32} {vs : List Value} {dv : Value} {v : Int32} (C : Cx p s m meth c Z own nm bytes maxL ret) (X : St p l e R s m A below meth c Z T h cells slots) (F : Arv Z h a k .char n vs dv) (d : Dc bytes pc .caload 1 pc') (hj : ¬ j < 0) (hj' : j < n) (hv : vs.getD j.toNatClampNeg dv = .int v) (K : Goes p e below W T (mkF m pc' Ls (.int v :: st))) : Goes p e below W T (mkF m pc Ls (.int j :: .ref a :: st)) := by
  obtain ⟨d, rfl⟩ := d
  obtain ⟨L0, Y, eT, N, E⟩ := X
  obtain ⟨cl, Ar, -, hS, hN, hH, -⟩ := F
  have hin := in_of hS hj hj'
  exact Goes.via (Y.caload C.hx (j := j) (v := .int v) (by rw [eT]; exact Ar.1) (State.isArrayOf_alike C.hZ.alike Ar.2.1) Ar.2.2 hin (hH.at hin hv) (g := mkF m pc Ls (.int j :: .ref a :: st)) rfl rfl (hb C.hby d)) K
theorem g_saload {a : Addr} {k : ClassId} {n j : Int32} {vs : List Value} {dv : Value} {v : Int32} (C : Cx p s m meth c Z own nm bytes maxL ret) (X : St p l e R s m A below meth c Z T h cells slots) (F : Arv Z h a k .short n vs dv) (d : Dc bytes pc .saload 1 pc') (hj : ¬ j < 0) (hj' : j < n) (hv : vs.getD j.toNatClampNeg dv = .int v) (K : Goes p e below W T (mkF m pc' Ls (.int v :: st))) : Goes p e below W T (mkF m pc Ls (.int j :: .ref a :: st)) := by
  obtain ⟨d, rfl⟩ := d
  obtain ⟨L0, Y, eT, N, E⟩ := X
  obtain ⟨cl, Ar, -, hS, hN, hH, -⟩ := F
  have hin := in_of hS hj hj'
  exact Goes.via (Y.saload C.hx (j := j) (v := .int v) (by rw [eT]; exact Ar.1) (State.isArrayOf_alike C.hZ.alike Ar.2.1) Ar.2.2 hin (hH.at hin hv) (g := mkF m pc Ls (.int j :: .ref a :: st)) rfl rfl (hb C.hby d)) K
theorem g_baload {a : Addr} {k : ClassId} {n j : Int32} {vs : List Value} {dv : Value} {v : Int32} (C : Cx p s m meth c Z own nm bytes maxL ret) (X : St p l e R s m A below meth c Z T h cells slots) (F : Arv Z h a k .byte n vs dv) (d : Dc bytes pc .baload 1 pc') (hj : ¬ j < 0) (hj' : j < n) (hv : vs.getD j.toNatClampNeg dv = .int v) (K : Goes p e below W T (mkF m pc' Ls (.int v :: st))) : Goes p e below W T (mkF m pc Ls (.int j :: .ref a :: st)) := by
  obtain ⟨d, rfl⟩ := d
  obtain ⟨L0, Y, eT, N, E⟩ := X
  obtain ⟨cl, Ar, -, hS, hN, hH, -⟩ := F
  have hin := in_of hS hj hj'
  exact Goes.via (Y.baloadBytes C.hx (j := j) (v := .int v) (by rw [eT]; exact Ar.1) (State.isArrayOf_alike C.hZ.alike Ar.2.1) Ar.2.2 hin (hH.at hin hv) (g := mkF m pc Ls (.int j :: .ref a :: st)) rfl rfl (hb C.hby d)) K
theorem g_laload {a : Addr} {k : ClassId} {n j : Int32} {vs : List Value} {dv : Value} {v : Int64} (C : Cx p s m meth c Z own nm bytes maxL ret) (X : St p l e R s m A below meth c Z T h cells slots) (F : Arv Z h a k .long n vs dv) (d : Dc bytes pc .laload 1 pc') (hj : ¬ j < 0) (hj' : j < n) (hv : vs.getD j.toNatClampNeg dv = .long v) (K : Goes p e below W T (mkF m pc' Ls (.long v :: st))) : Goes p e below W T (mkF m pc Ls (.int j :: .ref a :: st)) := by
  obtain ⟨d, rfl⟩ := d
  obtain ⟨L0, Y, eT, N, E⟩ := X
  obtain ⟨cl, Ar, -, hS, hN, hH, -⟩ := F
  have hin := in_of hS hj hj'
  exact Goes.via (Y.laload C.hx (j := j) (v := .long v) (by rw [eT]; exact Ar.1) (State.isArrayOf_alike C.hZ.alike Ar.2.1) Ar.2.2 hin (hH.at hin hv) (g := mkF m pc Ls (.int j :: .ref a :: st)) rfl rfl (hb C.hby d)) K
theorem g_aaload {a : Addr} {k : ClassId} {ty : FieldType} {n j : Int32} {vs : List Value} {dv v : Value} (C : Cx p s m meth c Z own nm bytes maxL ret) (X : St p l e R s m A below meth c Z T h cells slots) (F : Arv Z h a k ty n vs dv) (hty : ty.isReference = true) (d : Dc bytes pc .aaload 1 pc') (hj : ¬ j < 0) (hj' : j < n) (hv : vs.getD j.toNatClampNeg dv = v) (K : Goes p e below W T (mkF m pc' Ls (v :: st))) : Goes p e below W T (mkF m pc Ls (.int j :: .ref a :: st)) := by
  obtain ⟨d, rfl⟩ := d
  obtain ⟨L0, Y, eT, N, E⟩ := X
  obtain ⟨cl, Ar, -, hS, hN, hH, -⟩ := F
  have hin := in_of hS hj hj'
  exact Goes.via (Y.aaload C.hx (j := j) (v := v) (by rw [eT]; exact Ar.1) (State.isArrayOf_alike C.hZ.alike Ar.2.1) hty Ar.2.2 hin (hH.at hin hv) (g := mkF m pc Ls (.int j :: .ref a :: st)) rfl rfl (hb C.hby d)) K
theorem g_iastore {a : Addr} {k : ClassId} {n j : Int32} {vs : List Value} {dv : Value} {x : Int32} (C : Cx p s m meth c Z own nm bytes maxL ret) (X : St p l e R s m A below meth c Z T h cells slots) (F : Arv Z h a k .int n vs dv) (hnew : Z.heap.size ≤ a) (d : Dc bytes pc .iastore 1 pc') (hj : ¬ j < 0) (hj' : j < n) (hi : j.toNatClampNeg < vs.length) (y : Value) (hy : .int x = y)
    (K : ∀ T' h', St p l e R s m A below meth c Z T' h' cells slots → Wr h h' a j.toNatClampNeg y → Arv Z h' a k .int n (vs.set j.toNatClampNeg y) dv → Goes p e below W T' (mkF m pc' Ls st)) : Goes p e below W T (mkF m pc Ls (.int x :: .int j :: .ref a :: st)) := by
  subst hy
  obtain ⟨d, rfl⟩ := d
  obtain ⟨L0, Y, eT, N, E⟩ := X
  obtain ⟨cl, Ar, q1, hS, hN, hH, hG⟩ := F
  have hin := in_of hS hj hj'
  obtain ⟨T', h', Y', e', W', q⟩ := stI Y C.hx C.hZ eT Ar hin (g := mkF m pc Ls (.int x :: .int j :: .ref a :: st)) rfl rfl (hb C.hby d)
  exact Goes.via q (K T' h' ⟨_, Y', e', Fr.snoc Y' N hnew, ext_wr E W' hnew⟩ W' (Arv.set Ar q1 hS hN hH hG rfl W' _ rfl hi))
theorem g_castore {a : Addr} {k : ClassId} {n j : Int32} {vs : List Value} {dv : Value} {x : Int32} (C : Cx p s m meth c Z own nm bytes maxL ret) (X : St p l e R s m A below meth c Z T h cells slots) (F : Arv Z h a k .char n vs dv) (hnew : Z.heap.size ≤ a) (d : Dc bytes pc .castore 1 pc') (hj : ¬ j < 0) (hj' : j < n) (hi : j.toNatClampNeg < vs.length) (y : Value) (hy : .int (nar .char x) = y)
    (K : ∀ T' h', St p l e R s m A below meth c Z T' h' cells slots → Wr h h' a j.toNatClampNeg y → Arv Z h' a k .char n (vs.set j.toNatClampNeg y) dv → Goes p e below W T' (mkF m pc' Ls st)) : Goes p e below W T (mkF m pc Ls (.int x :: .int j :: .ref a :: st)) := by
  subst hy
  obtain ⟨d, rfl⟩ := d
  obtain ⟨L0, Y, eT, N, E⟩ := X
  obtain ⟨cl, Ar, q1, hS, hN, hH, hG⟩ := F
  have hin := in_of hS hj hj'
  obtain ⟨T', h', Y', e', W', q⟩ := stC Y C.hx C.hZ eT Ar hin (g := mkF m pc Ls (.int x :: .int j :: .ref a :: st)) rfl rfl (hb C.hby d)
  exact Goes.via q (K T' h' ⟨_, Y', e', Fr.snoc Y' N hnew, ext_wr E W' hnew⟩ W' (Arv.set Ar q1 hS hN hH hG (fits_nar_char _) W' _ rfl hi))
theorem g_sastore {a : Addr} {k : ClassId} {n j : Int32} {vs : List Value} {dv : Value} {x : Int32} (C : Cx p s m meth c Z own nm bytes maxL ret) (X : St p l e R s m A below meth c Z T h cells slots) (F : Arv Z h a k .short n vs dv) (hnew : Z.heap.size ≤ a) (d : Dc bytes pc .sastore 1 pc') (hj : ¬ j < 0) (hj' : j < n) (hi : j.toNatClampNeg < vs.length) (y : Value) (hy : .int (nar .short x) = y)
    (K : ∀ T' h', St p l e R s m A below meth c Z T' h' cells slots → Wr h h' a j.toNatClampNeg y → Arv Z h' a k .short n (vs.set j.toNatClampNeg y) dv → Goes p e below W T' (mkF m pc' Ls st)) : Goes p e below W T (mkF m pc Ls (.int x :: .int j :: .ref a :: st)) := by
  subst hy
  obtain ⟨d, rfl⟩ := d
  obtain ⟨L0, Y, eT, N, E⟩ := X
  obtain ⟨cl, Ar, q1, hS, hN, hH, hG⟩ := F
  have hin := in_of hS hj hj'
  obtain ⟨T', h', Y', e', W', q⟩ := stS Y C.hx C.hZ eT Ar hin (g := mkF m pc Ls (.int x :: .int j :: .ref a :: st)) rfl rfl (hb C.hby d)
  exact Goes.via q (K T' h' ⟨_, Y', e', Fr.snoc Y' N hnew, ext_wr E W' hnew⟩ W' (Arv.set Ar q1 hS hN hH hG (fits_nar_short _) W' _ rfl hi))
theorem g_bastore {a : Addr} {k : ClassId} {n j : Int32} {vs : List Value} {dv : Value} {x : Int32} (C : Cx p s m meth c Z own nm bytes maxL ret) (X : St p l e R s m A below meth c Z T h cells slots) (F : Arv Z h a k .byte n vs dv) (hnew : Z.heap.size ≤ a) (d : Dc bytes pc .bastore 1 pc') (hj : ¬ j < 0) (hj' : j < n) (hi : j.toNatClampNeg < vs.length) (y : Value) (hy : .int (nar .byte x) = y)
    (K : ∀ T' h', St p l e R s m A below meth c Z T' h' cells slots → Wr h h' a j.toNatClampNeg y → Arv Z h' a k .byte n (vs.set j.toNatClampNeg y) dv → Goes p e below W T' (mkF m pc' Ls st)) : Goes p e below W T (mkF m pc Ls (.int x :: .int j :: .ref a :: st)) := by
  subst hy
  obtain ⟨d, rfl⟩ := d
  obtain ⟨L0, Y, eT, N, E⟩ := X
  obtain ⟨cl, Ar, q1, hS, hN, hH, hG⟩ := F
  have hin := in_of hS hj hj'
  obtain ⟨T', h', Y', e', W', q⟩ := stB Y C.hx C.hZ eT Ar hin (g := mkF m pc Ls (.int x :: .int j :: .ref a :: st)) rfl rfl (hb C.hby d)
  exact Goes.via q (K T' h' ⟨_, Y', e', Fr.snoc Y' N hnew, ext_wr E W' hnew⟩ W' (Arv.set Ar q1 hS hN hH hG (fits_nar_byte _) W' _ rfl hi))
theorem g_lastore {a : Addr} {k : ClassId} {n j : Int32} {vs : List Value} {dv : Value} {x : Int64} (C : Cx p s m meth c Z own nm bytes maxL ret) (X : St p l e R s m A below meth c Z T h cells slots) (F : Arv Z h a k .long n vs dv) (hnew : Z.heap.size ≤ a) (d : Dc bytes pc .lastore 1 pc') (hj : ¬ j < 0) (hj' : j < n) (hi : j.toNatClampNeg < vs.length) (y : Value) (hy : .long x = y)
    (K : ∀ T' h', St p l e R s m A below meth c Z T' h' cells slots → Wr h h' a j.toNatClampNeg y → Arv Z h' a k .long n (vs.set j.toNatClampNeg y) dv → Goes p e below W T' (mkF m pc' Ls st)) : Goes p e below W T (mkF m pc Ls (.long x :: .int j :: .ref a :: st)) := by
  subst hy
  obtain ⟨d, rfl⟩ := d
  obtain ⟨L0, Y, eT, N, E⟩ := X
  obtain ⟨cl, Ar, q1, hS, hN, hH, hG⟩ := F
  have hin := in_of hS hj hj'
  obtain ⟨T', h', Y', e', W', q⟩ := stJ Y C.hx C.hZ eT Ar hin (g := mkF m pc Ls (.long x :: .int j :: .ref a :: st)) rfl rfl (hb C.hby d)
  exact Goes.via q (K T' h' ⟨_, Y', e', Fr.snoc Y' N hnew, ext_wr E W' hnew⟩ W' (Arv.set Ar q1 hS hN hH hG rfl W' _ rfl hi))
theorem st_back {T' : State} {h' : Heap} {k n : Nat} {B : Pt} {locs L : List Loc} (Y' : Stand p l e R s m A below meth c B.U B.locs B.cells B.slots) (hB : B.locs = locs ++ L ∧ B.cells = cells + k ∧ B.slots = slots + n) (N : Fr Z.heap.size locs) (N' : Fr Z.heap.size L) (E : Ext Z.heap B.U.heap) : St p l e R s m A below meth c Z B.U B.U.heap (cells + k) (slots + n) := by
  obtain ⟨b1, b2, b3⟩ := hB
  rw [b1, b2, b3] at Y'
  exact ⟨_, Y', rfl, N.app N', E⟩
theorem g_arraycopy {index : Nat} {a b : Addr} {k k' : ClassId} {ty : FieldType} {z z' sp dp nn : Int32} {vs vd : List Value} {dv dd : Value} (C : Cx p s m meth c Z own nm bytes maxL ret) (X : St p l e R s m A below meth c Z T h cells slots)
    (w1 : (Jvm.Cond.methodLink own index Jvm.Stand.acN).before a0 Z = true) (w2 : (Jvm.Cond.native Jvm.Stand.acN).before a0 Z = true) (w3 : (Jvm.Cond.static Jvm.Stand.acN).before a0 Z = true) (w4 : (Jvm.Cond.initialized "java/lang/System").before a0 Z = true)
    (F : Arv Z h a k ty z vs dv) (G : Arv Z h b k' ty z' vd dd) (hty : refKind ty = false) (h1 : ¬ sp < 0) (h2 : ¬ dp < 0) (h3 : ¬ nn < 0) (h4 : sp.toNatClampNeg + nn.toNatClampNeg ≤ z.toNatClampNeg) (h5 : dp.toNatClampNeg + nn.toNatClampNeg ≤ z'.toNatClampNeg)
    (us : List Value) (hus : us = (List.range nn.toNatClampNeg).map fun i => vs.getD (sp.toNatClampNeg + i) dv) (hl : dp.toNatClampNeg + nn.toNatClampNeg ≤ vd.length) (hnew : Z.heap.size ≤ b) (hsz : Ls.size = maxL) (d : Dc bytes pc (.invokestatic index) 3 pc') (hf : 1 ≤ R.frames) (W' : Nat) (hW : (st.map fun v => v.category).sum ≤ W') (hlo : W' + (nativeFrameWords "java/lang/System" "arraycopy" 5 + 11) ≤ R.locals)
    (K : ∀ T' h', St p l e R s m A below meth c Z T' h' cells slots → Keep h h' [b] → Arv Z h' b k' ty z' (vd.take dp.toNatClampNeg ++ us ++ vd.drop (dp.toNatClampNeg + nn.toNatClampNeg)) dd → Goes p e below W T' (mkF m pc' Ls st)) : Goes p e below W T (mkF m pc Ls (.int nn :: .int dp :: .ref b :: .int sp :: .ref a :: st)) := by
  obtain ⟨d, rfl⟩ := d
  obtain ⟨L0, Y, eT, N, E⟩ := X
  obtain ⟨T', h', L', Y', e', N', K', A', q⟩ := cpA Y C.hx C.hZ C.hown w1 w2 w3 w4 eT F G (Or.inl ⟨rfl, hty⟩) h1 h2 h3 h4 h5 hus hl N hnew (g := mkF m pc Ls (.int nn :: .int dp :: .ref b :: .int sp :: .ref a :: st)) rfl (hsz.trans C.hml.symm) rfl (hb C.hby d) hf (W := W') (by show 2 * 0 + _ ≤ _; omega) hlo
  exact Goes.via q (K T' h' ⟨L', Y', e', N', ext_keep E K' (allS hnew all0)⟩ K' A')
/-- a Back that serves a call: what a contract pays -/
def Pay (l : Launch) (R : Room) (p : Program) (e : Env) (below : List Frame) (s : State) (A : Array Value) (y : MethodName) (len W k n : Nat) (Z : State) (as' : Array Value) (h : Heap) (Q : Option Value → Heap → Prop) : Prop :=
  Back l R p e below s A y len W (fun P a => a = as' ∧ P.U.heap = h ∧ P.cells + k ≤ R.cells ∧ P.slots + n ≤ R.slots)
    (fun P _ v B => ∃ L, (Fr Z.heap.size L ∧ Ext Z.heap B.U.heap ∧ Q v B.U.heap) ∧ B.locs = P.locs ++ L ∧ B.cells = P.cells + k ∧ B.slots = P.slots + n)
theorem pay_of {y : MethodName} {bytes' : ByteArray} {maxL' len W' : Nat} {ret' : Option FieldType} {rm : Room} {as' : Array Value} {Q : Option Value → Heap → Prop} (hM : Con l y bytes' maxL' ret' [] rm Z as' h Q) (hZ : Z.Warmed39 s.vm) (wc : (Jvm.Cond.code y bytes' maxL' ret').before a0 Z = true) (wz : (Jvm.Cond.initialized y.cls).before a0 Z = true) (hf : rm.frames + 1 ≤ R.frames) (hl : W' + (maxL' + 11) + rm.locals ≤ R.locals) :
    Pay l R p e below s A y len W' rm.cells rm.slots Z as' h Q := backOf (Q := fun v h' L => Fr Z.heap.size L ∧ Ext Z.heap h' ∧ Q v h') hM hZ wc wz hf hl
theorem g_static {index k n : Nat} {y : MethodName} {bytes' : ByteArray} {maxL' W' : Nat} {ret' : Option FieldType} {argsL : List Value} {Q : Option Value → Heap → Prop} {ps : List FieldType} {rt : Option FieldType} (C : Cx p s m meth c Z own nm bytes maxL ret) (X : St p l e R s m A below meth c Z T h cells slots)
    (w1 : (Jvm.Cond.methodLink own index y).before a0 Z = true) (w2 : (Jvm.Cond.static y).before a0 Z = true) (w3 : (Jvm.Cond.initialized y.cls).before a0 Z = true) (w4 : (Jvm.Cond.code y bytes' maxL' ret').before a0 Z = true) (hy : y.cls ≠ "java/lang/invoke/MethodHandle" ∧ y.cls ≠ "java/lang/invoke/VarHandle")
    (hK : Pay l R p e below s A y 3 W' k n Z argsL.toArray h Q) (pd : parseMethodDescriptor y.desc = some ⟨ps, rt⟩) (hlen : argsL.length = ps.length) (hsz : Ls.size = maxL) (stk : List Value) (hst : stk = argsL.reverse ++ st) (hW : (st.map fun v => v.category).sum ≤ W') (d : Dc bytes pc (.invokestatic index) 3 pc') (hc : cells + k ≤ R.cells) (hs : slots + n ≤ R.slots)
    (K : ∀ T' h' v, Q v h' → St p l e R s m A below meth c Z T' h' (cells + k) (slots + n) → Goes p e below W T' (mkF m pc' Ls (v.toList ++ st))) : Goes p e below W T (mkF m pc Ls stk) := by
  obtain ⟨d, rfl⟩ := d
  obtain ⟨L0, Y, eT, N, E⟩ := X
  obtain ⟨v, vm₁, B, -, Y', ⟨L, ⟨N', E', hQ⟩, hB⟩, q⟩ := Jvm.LawKit.callS Y C.hx C.hown (mvT C.hZ w1) (mvT C.hZ w2) (mvT C.hZ w3) (mvT C.hZ w4) hy hK (g := mkF m pc Ls stk) rfl (hsz.trans C.hml.symm) (argsL := argsL) (rest := st) (lenOf pd hlen) hst (by show 2 * 0 + _ ≤ _; omega) (hb C.hby d) (fun _ _ => ⟨rfl, eT, hc, hs⟩)
  exact Goes.via q (K _ _ v hQ (st_back (T' := T) (h' := h) Y' hB N N' E'))
theorem g_special {index k n : Nat} {y : MethodName} {bytes' : ByteArray} {maxL' W' : Nat} {argsL : List Value} {Q : Option Value → Heap → Prop} {ps : List FieldType} {rt : Option FieldType} {a : Addr} (C : Cx p s m meth c Z own nm bytes maxL ret) (X : St p l e R s m A below meth c Z T h cells slots) (hi : y.name = "<init>")
    (w1 : (Jvm.Cond.methodLink own index y).before a0 Z = true) (w2 : (Jvm.Cond.instanceMethod y).before a0 Z = true) (w4 : (Jvm.Cond.code y bytes' maxL' none).before a0 Z = true) (hy : y.cls ≠ "java/lang/invoke/MethodHandle" ∧ y.cls ≠ "java/lang/invoke/VarHandle")
    (hK : Pay l R p e below s A y 3 W' k n Z (.ref a :: argsL).toArray h Q) (pd : parseMethodDescriptor y.desc = some ⟨ps, rt⟩) (hlen : argsL.length = ps.length) (hsz : Ls.size = maxL) (stk : List Value) (hst : stk = argsL.reverse ++ .ref a :: st) (hW : (st.map fun v => v.category).sum ≤ W') (d : Dc bytes pc (.invokespecial index) 3 pc') (hc : cells + k ≤ R.cells) (hs : slots + n ≤ R.slots)
    (K : ∀ T' h' v, Q v h' → St p l e R s m A below meth c Z T' h' (cells + k) (slots + n) → Goes p e below W T' (mkF m pc' Ls (v.toList ++ st))) : Goes p e below W T (mkF m pc Ls stk) := by
  obtain ⟨d, rfl⟩ := d
  obtain ⟨L0, Y, eT, N, E⟩ := X
  obtain ⟨v, vm₁, B, -, Y', ⟨L, ⟨N', E', hQ⟩, hB⟩, q⟩ := Y.specialBack C.hx (y := y) hi C.hown (mvT C.hZ w1) (mvT C.hZ w2) (mvT C.hZ w4) hy hK (g := mkF m pc Ls stk) rfl (hsz.trans C.hml.symm) (Steps.refl _) (a := a) (argsL := argsL) (rest := st) (lenOf pd hlen) hst (by show 2 * 0 + _ ≤ _; omega) (hb C.hby d) (fun _ _ => ⟨rfl, eT, hc, hs⟩)
  exact Goes.via (fun _ k => q.trans k) (K _ _ v hQ (st_back (T' := T) (h' := h) Y' hB N N' E'))
theorem g_virtual {index k n : Nat} {y z : MethodName} {K0 : String} {W' : Nat} {argsL : List Value} {Q : Option Value → Heap → Prop} {ps : List FieldType} {rt : Option FieldType} {a : Addr} (C : Cx p s m meth c Z own nm bytes maxL ret) (X : St p l e R s m A below meth c Z T h cells slots)
    (w1 : (Jvm.Cond.methodLink own index y).before a0 Z = true) (w2 : (Jvm.Cond.declares y).before a0 Z = true) (nf : NotFace s y) (w3 : (Jvm.Cond.selects K0 y z).before a0 Z = true) (w4 : (Jvm.Cond.instanceMethod z).before a0 Z = true) (hy : y.cls ≠ "java/lang/invoke/MethodHandle" ∧ y.cls ≠ "java/lang/invoke/VarHandle") (Ex : Exa Z h a K0)
    (hK : Pay l R p e below s A z 3 W' k n Z (.ref a :: argsL).toArray h Q) (pd : parseMethodDescriptor y.desc = some ⟨ps, rt⟩) (hlen : argsL.length = ps.length) (hsz : Ls.size = maxL) (stk : List Value) (hst : stk = argsL.reverse ++ .ref a :: st) (hW : (st.map fun v => v.category).sum ≤ W') (d : Dc bytes pc (.invokevirtual index) 3 pc') (hc : cells + k ≤ R.cells) (hs : slots + n ≤ R.slots)
    (K : ∀ T' h' v, Q v h' → St p l e R s m A below meth c Z T' h' (cells + k) (slots + n) → Goes p e below W T' (mkF m pc' Ls (v.toList ++ st))) : Goes p e below W T (mkF m pc Ls stk) := by
  obtain ⟨d, rfl⟩ := d
  obtain ⟨L0, Y, eT, N, E⟩ := X
  obtain ⟨cq, kq, qa, qb, qc⟩ := isOf C.hZ eT Ex
  obtain ⟨v, vm₁, B, -, Y', ⟨L, ⟨N', E', hQ⟩, hB⟩, q⟩ := Y.virtualBack C.hx (y := y) (z := z) C.hown (mvT C.hZ w1) (mvT C.hZ w2) nf (mvT C.hZ w3) (mvT C.hZ w4) hy hK qa qc (g := mkF m pc Ls stk) rfl (hsz.trans C.hml.symm) (Steps.refl _) (argsL := argsL) (rest := st) (lenOf pd hlen) hst (by show 2 * 0 + _ ≤ _; omega) (hb C.hby d) (fun _ _ => ⟨rfl, eT, hc, hs⟩)
  exact Goes.via (fun _ k => q.trans k) (K _ _ v hQ (st_back (T' := T) (h' := h) Y' hB N N' E'))
theorem nf_of {K0 : String} {y z : MethodName} (C : Cx p s m meth c Z own nm bytes maxL ret) (w3 : (Jvm.Cond.selects K0 y z).before a0 Z = true) (e : K0 = y.cls) (e' : z = y) : NotFace s y := by
  subst e e'; exact notFace_of_selects (args := #[]) (mvT C.hZ w3)
theorem g_interface {index count k n : Nat} {y z : MethodName} {K0 : String} {W' : Nat} {argsL : List Value} {Q : Option Value → Heap → Prop} {ps : List FieldType} {rt : Option FieldType} {a : Addr} (C : Cx p s m meth c Z own nm bytes maxL ret) (X : St p l e R s m A below meth c Z T h cells slots)
    (w1 : (Jvm.Cond.methodLink own index y).before a0 Z = true) (w2 : (Jvm.Cond.declares y).before a0 Z = true) (w5 : (Jvm.Cond.interfaceMethod y.cls y.cls y.name y.desc).before A s = true) (w3 : (Jvm.Cond.selects K0 y z).before a0 Z = true) (w4 : (Jvm.Cond.instanceMethod z).before a0 Z = true) (w6 : (Jvm.Cond.publicMethod z).before a0 Z = true) (w7 : (Jvm.Cond.unhidden K0 y.name y.desc).before A s = true) (w8 : (Jvm.Cond.castable K0 y.cls).before a0 Z = true)
    (hy : y.cls ≠ "java/lang/invoke/MethodHandle" ∧ y.cls ≠ "java/lang/invoke/VarHandle") (Ex : Exa Z h a K0)
    (hK : Pay l R p e below s A z 5 W' k n Z (.ref a :: argsL).toArray h Q) (pd : parseMethodDescriptor y.desc = some ⟨ps, rt⟩) (hlen : argsL.length = ps.length) (hsz : Ls.size = maxL) (stk : List Value) (hst : stk = argsL.reverse ++ .ref a :: st) (hW : (st.map fun v => v.category).sum ≤ W') (d : Dc bytes pc (.invokeinterface index count) 5 pc') (hc : cells + k ≤ R.cells) (hs : slots + n ≤ R.slots)
    (K : ∀ T' h' v, Q v h' → St p l e R s m A below meth c Z T' h' (cells + k) (slots + n) → Goes p e below W T' (mkF m pc' Ls (v.toList ++ st))) : Goes p e below W T (mkF m pc Ls stk) := by
  obtain ⟨d, rfl⟩ := d
  obtain ⟨L0, Y, eT, N, E⟩ := X
  obtain ⟨cq, kq, qa, qb, qc⟩ := isOf C.hZ eT Ex
  obtain ⟨v, vm₁, B, -, Y', ⟨L, ⟨N', E', hQ⟩, hB⟩, q⟩ := Y.interfaceBack C.hx (xi := y) (y := z) C.hown (mvT C.hZ w1) (mvT C.hZ w2) w5 (mvT C.hZ w3) (mvT C.hZ w4) (mvT C.hZ w6) w7 (mvT C.hZ w8) hy hK qa qb qc (g := mkF m pc Ls stk) rfl (hsz.trans C.hml.symm) (Steps.refl _) (argsL := argsL) (rest := st) (lenOf pd hlen) hst (by show 2 * 0 + _ ≤ _; omega) (hb C.hby d) (fun _ _ => ⟨rfl, eT, hc, hs⟩)
  exact Goes.via (fun _ k => q.trans k) (K _ _ v hQ (st_back (T' := T) (h' := h) Y' hB N N' E'))
theorem g_staticP {index : Nat} {y : MethodName} {bytes' : ByteArray} {maxL' W' : Nat} {ret' : Option FieldType} {argsL : List Value} {v : Value} {ps : List FieldType} {rt : Option FieldType} (C : Cx p s m meth c Z own nm bytes maxL ret) (X : St p l e R s m A below meth c Z T h cells slots)
    (w1 : (Jvm.Cond.methodLink own index y).before a0 Z = true) (w2 : (Jvm.Cond.static y).before a0 Z = true) (w3 : (Jvm.Cond.initialized y.cls).before a0 Z = true) (w4 : (Jvm.Cond.code y bytes' maxL' ret').before a0 Z = true) (hy : y.cls ≠ "java/lang/invoke/MethodHandle" ∧ y.cls ≠ "java/lang/invoke/VarHandle")
    (hK : Pay l R p e below s A y 3 W' 0 0 Z argsL.toArray h (fun v' h' => v' = some v ∧ h' = h)) (pd : parseMethodDescriptor y.desc = some ⟨ps, rt⟩) (hlen : argsL.length = ps.length) (hsz : Ls.size = maxL) (stk : List Value) (hst : stk = argsL.reverse ++ st) (hW : (st.map fun v => v.category).sum ≤ W') (d : Dc bytes pc (.invokestatic index) 3 pc') (hc : cells ≤ R.cells) (hs : slots ≤ R.slots)
    (K : ∀ T', St p l e R s m A below meth c Z T' h cells slots → Goes p e below W T' (mkF m pc' Ls (v :: st))) : Goes p e below W T (mkF m pc Ls stk) :=
  g_static C X w1 w2 w3 w4 hy hK pd hlen hsz stk hst hW d hc hs fun T' h' v' hQ X' => by obtain ⟨rfl, rfl⟩ := hQ; exact K T' X'
theorem g_specialP {index : Nat} {y : MethodName} {bytes' : ByteArray} {maxL' W' : Nat} {argsL : List Value} {ps : List FieldType} {rt : Option FieldType} {a : Addr} (C : Cx p s m meth c Z own nm bytes maxL ret) (X : St p l e R s m A below meth c Z T h cells slots) (hi : y.name = "<init>")
    (w1 : (Jvm.Cond.methodLink own index y).before a0 Z = true) (w2 : (Jvm.Cond.instanceMethod y).before a0 Z = true) (w4 : (Jvm.Cond.code y bytes' maxL' none).before a0 Z = true) (hy : y.cls ≠ "java/lang/invoke/MethodHandle" ∧ y.cls ≠ "java/lang/invoke/VarHandle")
    (hK : Pay l R p e below s A y 3 W' 0 0 Z (.ref a :: argsL).toArray h (fun v' h' => v' = none ∧ h' = h)) (pd : parseMethodDescriptor y.desc = some ⟨ps, rt⟩) (hlen : argsL.length = ps.length) (hsz : Ls.size = maxL) (stk : List Value) (hst : stk = argsL.reverse ++ .ref a :: st) (hW : (st.map fun v => v.category).sum ≤ W') (d : Dc bytes pc (.invokespecial index) 3 pc') (hc : cells ≤ R.cells) (hs : slots ≤ R.slots)
    (K : ∀ T', St p l e R s m A below meth c Z T' h cells slots → Goes p e below W T' (mkF m pc' Ls st)) : Goes p e below W T (mkF m pc Ls stk) :=
  g_special C X hi w1 w2 w4 hy hK pd hlen hsz stk hst hW d hc hs fun T' h' v' hQ X' => by obtain ⟨rfl, rfl⟩ := hQ; exact K T' X'
theorem g_virtualP {index : Nat} {y z : MethodName} {K0 : String} {W' : Nat} {argsL : List Value} {v : Value} {ps : List FieldType} {rt : Option FieldType} {a : Addr} (C : Cx p s m meth c Z own nm bytes maxL ret) (X : St p l e R s m A below meth c Z T h cells slots)
    (w1 : (Jvm.Cond.methodLink own index y).before a0 Z = true) (w2 : (Jvm.Cond.declares y).before a0 Z = true) (nf : NotFace s y) (w3 : (Jvm.Cond.selects K0 y z).before a0 Z = true) (w4 : (Jvm.Cond.instanceMethod z).before a0 Z = true) (hy : y.cls ≠ "java/lang/invoke/MethodHandle" ∧ y.cls ≠ "java/lang/invoke/VarHandle") (Ex : Exa Z h a K0)
    (hK : Pay l R p e below s A z 3 W' 0 0 Z (.ref a :: argsL).toArray h (fun v' h' => v' = some v ∧ h' = h)) (pd : parseMethodDescriptor y.desc = some ⟨ps, rt⟩) (hlen : argsL.length = ps.length) (hsz : Ls.size = maxL) (stk : List Value) (hst : stk = argsL.reverse ++ .ref a :: st) (hW : (st.map fun v => v.category).sum ≤ W') (d : Dc bytes pc (.invokevirtual index) 3 pc') (hc : cells ≤ R.cells) (hs : slots ≤ R.slots)
    (K : ∀ T', St p l e R s m A below meth c Z T' h cells slots → Goes p e below W T' (mkF m pc' Ls (v :: st))) : Goes p e below W T (mkF m pc Ls stk) :=
  g_virtual C X w1 w2 nf w3 w4 hy Ex hK pd hlen hsz stk hst hW d hc hs fun T' h' v' hQ X' => by obtain ⟨rfl, rfl⟩ := hQ; exact K T' X'
theorem g_interfaceP {index count : Nat} {y z : MethodName} {K0 : String} {W' : Nat} {argsL : List Value} {v : Value} {ps : List FieldType} {rt : Option FieldType} {a : Addr} (C : Cx p s m meth c Z own nm bytes maxL ret) (X : St p l e R s m A below meth c Z T h cells slots)
    (w1 : (Jvm.Cond.methodLink own index y).before a0 Z = true) (w2 : (Jvm.Cond.declares y).before a0 Z = true) (w5 : (Jvm.Cond.interfaceMethod y.cls y.cls y.name y.desc).before A s = true) (w3 : (Jvm.Cond.selects K0 y z).before a0 Z = true) (w4 : (Jvm.Cond.instanceMethod z).before a0 Z = true) (w6 : (Jvm.Cond.publicMethod z).before a0 Z = true) (w7 : (Jvm.Cond.unhidden K0 y.name y.desc).before A s = true) (w8 : (Jvm.Cond.castable K0 y.cls).before a0 Z = true)
    (hy : y.cls ≠ "java/lang/invoke/MethodHandle" ∧ y.cls ≠ "java/lang/invoke/VarHandle") (Ex : Exa Z h a K0)
    (hK : Pay l R p e below s A z 5 W' 0 0 Z (.ref a :: argsL).toArray h (fun v' h' => v' = some v ∧ h' = h)) (pd : parseMethodDescriptor y.desc = some ⟨ps, rt⟩) (hlen : argsL.length = ps.length) (hsz : Ls.size = maxL) (stk : List Value) (hst : stk = argsL.reverse ++ .ref a :: st) (hW : (st.map fun v => v.category).sum ≤ W') (d : Dc bytes pc (.invokeinterface index count) 5 pc') (hc : cells ≤ R.cells) (hs : slots ≤ R.slots)
    (K : ∀ T', St p l e R s m A below meth c Z T' h cells slots → Goes p e below W T' (mkF m pc' Ls (v :: st))) : Goes p e below W T (mkF m pc Ls stk) :=
  g_interface C X w1 w2 w5 w3 w4 w6 w7 w8 hy Ex hK pd hlen hsz stk hst hW d hc hs fun T' h' v' hQ X' => by obtain ⟨rfl, rfl⟩ := hQ; exact K T' X'
theorem g_initO {index : Nat} {a : Addr} (C : Cx p s m meth c Z own nm bytes maxL ret) (X : St p l e R s m A below meth c Z T h cells slots) (w1 : (Jvm.Cond.methodLink own index Lib.objectInit).before a0 Z = true) (w2 : (Jvm.Cond.instanceMethod Lib.objectInit).before a0 Z = true) (w3 : (Jvm.Cond.code Lib.objectInit ⟨#[0xb1]⟩ 1 none).before a0 Z = true) (hsz : Ls.size = maxL) (d : Dc bytes pc (.invokespecial index) 3 pc') (hf : 1 ≤ R.frames) (W' : Nat) (hW : (st.map fun v => v.category).sum ≤ W') (hl : W' + 12 ≤ R.locals)
    (K : ∀ T', St p l e R s m A below meth c Z T' h cells slots → Goes p e below W T' (mkF m pc' Ls st)) : Goes p e below W T (mkF m pc Ls (.ref a :: st)) := by
  obtain ⟨d, rfl⟩ := d
  obtain ⟨L0, Y, eT, N, E⟩ := X
  obtain ⟨T', Y', e', q⟩ := initO Y C.hx C.hZ C.hown w1 w2 w3 eT (g := mkF m pc Ls (.ref a :: st)) rfl (hsz.trans C.hml.symm) rfl (hb C.hby d) hf (W := W') (by show 2 * 0 + _ ≤ _; omega) hl
  exact Goes.via q (K T' ⟨L0, Y', e', N, E⟩)
theorem end_of {k n : Nat} {Q : Option Value → Heap → Prop} {v : Option Value} {L : List Loc} {fs : List Frame} (N : Fr Z.heap.size L) (E : Ext Z.heap T.heap) (hW : s.WarmedH (T.setFrames fs).vm) (hS : s.sameButNew ({ T.setFrames fs with vm := s.vm } : State) L cells slots) (hc : cells ≤ k) (hs : slots ≤ n) (hQ : Q v T.heap) : EndW Z s k n Q (.returned v) (T.setFrames fs) :=
  ⟨v, L, rfl, ⟨N, E, hQ⟩, ⟨_, rfl⟩, hW, hS.mono hc hs⟩
theorem g_retI {k n : Nat} {Q : Option Value → Heap → Prop} {z : Int32} (C : Cx p s m meth c Z own nm bytes maxL (some .int)) (X : St p l e R s m A below meth c Z T h cells slots) (d : Dc bytes pc .ireturn 1 pc') (hc : cells ≤ k) (hs : slots ≤ n) (hQ : Q (some (.int z)) h) : Goes p e below (EndW Z s k n Q) T (mkF m pc Ls (.int z :: st)) := by
  obtain ⟨L0, Y, rfl, N, E⟩ := X
  have hlk := C.hlk
  obtain ⟨fs, hr, hrun, hended, hW, hS⟩ := Y.leave (v := some (.int z)) (fun h => by rw [C.hret] at h; cases h) hlk
  exact ⟨_, _, retOut Y C.hx C.hret rfl (Or.inl ⟨rfl, Or.inl rfl, z, rfl⟩) (hb C.hby d.1) hr, hrun, hended, end_of N E hW hS hc hs hQ⟩
theorem g_retN {k n : Nat} {Q : Option Value → Heap → Prop} {z : Int32} {t : FieldType} (C : Cx p s m meth c Z own nm bytes maxL (some t)) (X : St p l e R s m A below meth c Z T h cells slots) (ht : t = .boolean ∨ t = .byte ∨ t = .char ∨ t = .short) (d : Dc bytes pc .ireturn 1 pc') (z' : Int32) (hz : nar t z = z') (hc : cells ≤ k) (hs : slots ≤ n) (hQ : Q (some (.int z')) h) : Goes p e below (EndW Z s k n Q) T (mkF m pc Ls (.int z :: st)) := by
  obtain ⟨L0, Y, rfl, N, E⟩ := X
  have hlk := C.hlk
  obtain ⟨fs, hr, hrun, hended, hW, hS⟩ := Y.leave (v := some (.int z')) (fun h => by rw [C.hret] at h; cases h) hlk
  rw [← hz] at hr
  exact ⟨_, _, retN Y C.hx C.hret ht (hb C.hby d.1) hr, hrun, hended, end_of N E hW hS hc hs hQ⟩
theorem g_retJ {k n : Nat} {Q : Option Value → Heap → Prop} {z : Int64} (C : Cx p s m meth c Z own nm bytes maxL (some .long)) (X : St p l e R s m A below meth c Z T h cells slots) (d : Dc bytes pc .lreturn 1 pc') (hc : cells ≤ k) (hs : slots ≤ n) (hQ : Q (some (.long z)) h) : Goes p e below (EndW Z s k n Q) T (mkF m pc Ls (.long z :: st)) := by
  obtain ⟨L0, Y, rfl, N, E⟩ := X
  have hlk := C.hlk
  obtain ⟨fs, hr, hrun, hended, hW, hS⟩ := Y.leave (v := some (.long z)) (fun h => by rw [C.hret] at h; cases h) hlk
  exact ⟨_, _, retOut Y C.hx C.hret rfl (Or.inr (Or.inl ⟨rfl, rfl, z, rfl⟩)) (hb C.hby d.1) hr, hrun, hended, end_of N E hW hS hc hs hQ⟩
theorem g_retA {k n : Nat} {Q : Option Value → Heap → Prop} {z : Value} {t : FieldType} (C : Cx p s m meth c Z own nm bytes maxL (some t)) (X : St p l e R s m A below meth c Z T h cells slots) (ht : t.isReference = true) (hz : z.isRef = true) (d : Dc bytes pc .areturn 1 pc') (hc : cells ≤ k) (hs : slots ≤ n) (hQ : Q (some z) h) : Goes p e below (EndW Z s k n Q) T (mkF m pc Ls (z :: st)) := by
  obtain ⟨L0, Y, rfl, N, E⟩ := X
  have hlk := C.hlk
  have hn : narrow t z = z := by cases t <;> first | rfl | (simp [FieldType.isReference] at ht; done) | (cases z <;> simp [Value.isRef] at hz <;> rfl)
  obtain ⟨fs, hr, hrun, hended, hW, hS⟩ := Y.leave (v := some z) (fun h => by rw [C.hret] at h; cases h) hlk
  exact ⟨_, _, retOut Y C.hx C.hret hn (Or.inr (Or.inr (Or.inr (Or.inr ⟨rfl, ht, hz⟩)))) (hb C.hby d.1) hr, hrun, hended, end_of N E hW hS hc hs hQ⟩
theorem g_retV {k n : Nat} {Q : Option Value → Heap → Prop} (C : Cx p s m meth c Z own nm bytes maxL none) (X : St p l e R s m A below meth c Z T h cells slots) (d : Dc bytes pc .return_ 1 pc') (hc : cells ≤ k) (hs : slots ≤ n) (hQ : Q none h) : Goes p e below (EndW Z s k n Q) T (mkF m pc Ls []) := by
  obtain ⟨L0, Y, rfl, N, E⟩ := X
  have hlk := C.hlk
  obtain ⟨fs, hr, hrun, hended, hW, hS⟩ := Y.leave (v := none) (fun _ => rfl) hlk
  exact ⟨_, _, Y.returnOut C.hx C.hret (hb C.hby d.1) hr, hrun, hended, end_of N E hW hS hc hs hQ⟩
end OwnKit
/-! from the case's words -/
theorem wd {a0 : Array Value} {Z : State} (hw : ∀ d ∈ tables_1, d.before a0 Z = true) (i : Nat) {d : Jvm.Cond} (h : tables_1[i]? = some d) : d.before a0 Z = true := hw d (List.mem_of_getElem? h)
theorem eqI_v {args : Array Value} {first s : State} {o : Option Outcome} {idx : List Nat} {t : Term} {k : Int32} (h : (Jvm.Cond.eq t (.int k)).value args first o s idx = some true) : t.eval args first o idx s = some (.int k) := by
  simp only [Cond.value, Term.eval] at h
  cases ht : t.eval args first o idx s with
  | none => simp [ht] at h
  | some x => cases x <;> simp [ht] at h ⊢; exact h
theorem eqJ_v {args : Array Value} {first s : State} {o : Option Outcome} {idx : List Nat} {t : Term} {k : Int64} (h : (Jvm.Cond.eq t (.long k)).value args first o s idx = some true) : t.eval args first o idx s = some (.long k) := by
  simp only [Cond.value, Term.eval] at h
  cases ht : t.eval args first o idx s with
  | none => simp [ht] at h
  | some x => cases x <;> simp [ht] at h ⊢; exact h
theorem eqR_v {args : Array Value} {first s : State} {o : Option Outcome} {idx : List Nat} {t u : Term} {a : Addr} (h : (Jvm.Cond.eq t u).value args first o s idx = some true) (hu : u.eval args first o idx s = some (.ref a)) : t.eval args first o idx s = some (.ref a) := by
  simp only [Cond.value, hu] at h
  cases ht : t.eval args first o idx s with
  | none => simp [ht] at h
  | some x => cases x <;> simp [ht] at h ⊢; exact h
theorem arr_start {args : Array Value} {Z : State} {t : Term} {a : Addr} {cl : Cell} {ty : FieldType} {n : Int32} {vs : List Value} (dv : Value) (hf : Fit Z) (A : Arr Z Z.heap a cl ty) (ev : t.eval args Z none [] Z = some (.ref a)) (hl : (Term.length t).eval args Z none [] Z = some (.int n)) (hn : ¬ n < 0) (hv : n.toNatClampNeg = vs.length)
    (H : HasL cl 0 vs) : Arv Z Z.heap a cl.cls ty n vs dv := by
  obtain ⟨a', c', e1, e2, e4⟩ := Term.length_spec hl
  cases ev.symm.trans e1
  cases A.1.symm.trans (State.arrayAt?_spec e2).1
  have e3 : cl.slots.size < 2 ^ 31 := by
    by_cases q : cl.slots.size < 2147483648
    · exact q
    · exfalso; simp [Term.eval, ev, e2, q] at hl
  exact Arv.start hf A e3 (Value.int.inj e4.symm) hn hv H
theorem elem_start {args : Array Value} {Z : State} {t : Term} {a : Addr} {cl : Cell} {ty : FieldType} {j : Int32} {v : Value} (A : Arr Z Z.heap a cl ty) (ev : t.eval args Z none [] Z = some (.ref a)) (h : (Term.elem t (.int j)).eval args Z none [] Z = some v) : cl.slots[j.toNatClampNeg]? = some v := (elem_in h ev (Term.int_eval j) A.1).2
theorem own_ch (x : Int32) : Value.int (nar .char ((x &&& (255 : Int32)).toUInt32.toUInt16.toUInt32.toInt32)) = .int (x &&& (255 : Int32)) := by
  show Value.int (((x &&& (255 : Int32)).toUInt32.toUInt16.toUInt32.toInt32).toUInt32.toUInt16.toUInt32.toInt32) = _
  rw [i2c_mask, i2c_mask]
theorem nz_v {args : Array Value} {Z : State} {t : Term} {z : Int32} (ev : t.eval args Z none [] Z = some (.int z)) (h : (Jvm.Cond.not (.eq t (.int 0))).value args Z none Z [] = some true) : ¬ z = 0 := by
  intro e; subst e
  have q := not_v h
  simp [Cond.value, ev, Term.eval] at q
theorem fld_of {args : Array Value} {Z : State} {t : Term} {a : Addr} {C n d : String} {v : Value} (ht : t.eval args Z none [] Z = some (.ref a)) (h : (Term.field t C n d).eval args Z none [] Z = some v) : Fld Z Z.heap a C n d v := Fld.start (by rw [← fld_at (args := args) (first := Z) (o := none) (idx := []) ht]; exact h)
theorem own_m255 (x : Int32) : ¬ (x &&& (255 : Int32)) < 0 ∧ ¬ (255 : Int32) < (x &&& (255 : Int32)) := by
  have h1 := c_mask x 255 8 (by decide) (by decide)
  simp only [Int32.lt_iff_toInt_lt, Int32.reduceToInt] at *
  omega
/-- new String(char[]) of known chars, as a payment -/
theorem payV {p : Program} {l : Launch} {e : Env} {R : Room} {s : State} {A : Array Value} {below : List Frame} {W' : Nat} {Z : State} {a0 : Array Value} {h : Heap} (hZ : Z.Warmed39 s.vm) (hE : Ext Z.heap h) (hw : ∀ d ∈ StrChars.Road.words, d.before a0 Z = true) {kI : Nat} (wi : (Jvm.Cond.instantiable "java/lang/String" kI).before a0 Z = true)
    {x b : Addr} {kC : ClassId} {cs : List Int32} {d v0 c0 : Value} {z N : Int32} {n : Nat} (hx0 : Z.heap.size ≤ x) (E : Exa Z h x "java/lang/String") (V : Fld Z h x "java/lang/String" "value" "[B" v0) (C : Fld Z h x "java/lang/String" "coder" "B" c0) (K : Arv Z h b kC .char N (cs.map Value.int) d) (S : Sta Z Z.heap "java/lang/String" "COMPACT_STRINGS" "Z" (.int z)) (hz : ¬ z = 0)
    (hn : cs.length = n) (hN : N = Int32.ofNat n) (l0 : 0 < n) (l2 : n ≤ 4000) (hp : ∀ c ∈ cs, ¬ c < 0 ∧ ¬ (255 : Int32) < c) (hfr : 4 ≤ R.frames) (hlo : W' + 65 ≤ R.locals) :
    Pay l R p e below s A (⟨"java/lang/String", "<init>", "([C)V"⟩ : MethodName) 3 W' 1 n Z #[.ref x, .ref b] h (fun v h' => v = none ∧ Keep h h' [x] ∧ Exa Z h' x "java/lang/String" ∧ Fld Z h' x "java/lang/String" "coder" "B" (.int 0) ∧
      ∃ (t : Addr) (kb : ClassId), Z.heap.size ≤ t ∧ h.size ≤ t ∧ ¬ t = x ∧ Fld Z h' x "java/lang/String" "value" "[B" (.ref t) ∧ Arv Z h' t kb .byte N ((cs.map fun c => c.toInt8.toInt32).map Value.int) (.int 0)) :=
  Back.mono (StrChars.Road.backV (n0 := Z.heap.size) (W := W') hZ hw wi hx0 hE.1 E V C K (S.ext hE) hz hn hN l0 l2 hp rfl hfr hlo) (fun _ _ q => q)
    (fun P a v B hp hq => by
      obtain ⟨L, ⟨q1, q2, q3, q4, q5, q6⟩, r⟩ := hq
      exact ⟨L, ⟨q2, ext_keep hE q3 (allS hx0 all0), q1, q3, q4, q5, q6⟩, r⟩)
section OwnClone
variable {p : Program} {l : Launch} {e : Env} {R : Room} {s : State} {m : MethodId} {A : Array Value} {below : List Frame} {meth : Method} {c : Code} {T : State} {cells slots : Nat} {Z : State} {a0 : Array Value} {h : Heap} {own nm : String} {bytes : ByteArray} {maxL : Nat} {ret : Option FieldType} {W : Outcome → State → Prop} {pc pc' tgt : Nat} {Ls : Array Slot} {st : List Value} {EL : List (String × Nat)} {vm0 : Vm}
theorem g_clone {ad : String} {index cap : Nat} {a : Addr} {k : ClassId} {ty : FieldType} {z : Int32} {vs : List Value} {dv : Value} (C : Cx p s m meth c Z own nm bytes maxL ret) (X : St p l e R s m A below meth c Z T h cells slots)
    (w1 : (Jvm.Cond.methodLink own index ⟨ad, "clone", "()Ljava/lang/Object;"⟩).before a0 Z = true) (w2 : (Jvm.Cond.sameMethod ad "java/lang/Object" "clone" "()Ljava/lang/Object;").before a0 Z = true) (w3 : (Jvm.Cond.native ⟨"java/lang/Object", "clone", "()Ljava/lang/Object;"⟩).before a0 Z = true)
    (w4 : (Jvm.Cond.instanceMethod ⟨"java/lang/Object", "clone", "()Ljava/lang/Object;"⟩).before a0 Z = true) (w5 : (Jvm.Cond.selects ad ⟨ad, "clone", "()Ljava/lang/Object;"⟩ ⟨"java/lang/Object", "clone", "()Ljava/lang/Object;"⟩).before a0 Z = true) (w6 : (Jvm.Cond.castable ad "java/lang/Cloneable").before a0 Z = true)
    (F : Arv Z h a k ty z vs dv) (E0 : Exa Z h a ad) (hsz : Ls.size = maxL) (d : Dc bytes pc (.invokevirtual index) 3 pc') (hf : 1 ≤ R.frames) (W' : Nat) (hW : (st.map fun v => v.category).sum ≤ W') (hl : W' + 14 ≤ R.locals) (hcap : z.toNatClampNeg ≤ cap) (hc : cells + 1 ≤ R.cells) (hs : slots + cap ≤ R.slots)
    (K : ∀ T' h' b, b = h.size → Z.heap.size ≤ b → St p l e R s m A below meth c Z T' h' (cells + 1) (slots + cap) → Ext h h' → Arv Z h' b k ty z vs dv → Exa Z h' b ad → Goes p e below W T' (mkF m pc' Ls (.ref b :: st))) : Goes p e below W T (mkF m pc Ls (.ref a :: st)) := by
  obtain ⟨d, rfl⟩ := d
  obtain ⟨L0, Y, eT, N, E⟩ := X
  obtain ⟨cl, Ar, q1, S, q3, H, G⟩ := F
  have FC : FitC Z cl := fitC_of Ar fun i hi v hv => by rw [H i hi] at hv; cases hv; exact G i hi
  obtain ⟨T', h', Y', e', ex, A', E', q⟩ := cloneA Y C.hx C.hZ C.hown w1 w2 w3 w4 w5 w6 eT Ar E0 FC (g := mkF m pc Ls (.ref a :: st)) rfl (hsz.trans C.hml.symm) rfl (hb C.hby d) hf (W := W') (by show 2 * 0 + _ ≤ _; omega) hl (by rw [S]; exact hcap) hc hs
  exact Goes.via q (K T' h' h.size rfl E.1 ⟨L0, Y', e', N, ext_trans E ex⟩ ex ⟨cloneOf cl, A', q1, S, q3, H, G⟩ E')
theorem g_staticPV {index : Nat} {y : MethodName} {bytes' : ByteArray} {maxL' W' : Nat} {ret' : Option FieldType} {argsL : List Value} {ps : List FieldType} {rt : Option FieldType} (C : Cx p s m meth c Z own nm bytes maxL ret) (X : St p l e R s m A below meth c Z T h cells slots)
    (w1 : (Jvm.Cond.methodLink own index y).before a0 Z = true) (w2 : (Jvm.Cond.static y).before a0 Z = true) (w3 : (Jvm.Cond.initialized y.cls).before a0 Z = true) (w4 : (Jvm.Cond.code y bytes' maxL' ret').before a0 Z = true) (hy : y.cls ≠ "java/lang/invoke/MethodHandle" ∧ y.cls ≠ "java/lang/invoke/VarHandle")
    (hK : Pay l R p e below s A y 3 W' 0 0 Z argsL.toArray h (fun v' h' => v' = none ∧ h' = h)) (pd : parseMethodDescriptor y.desc = some ⟨ps, rt⟩) (hlen : argsL.length = ps.length) (hsz : Ls.size = maxL) (stk : List Value) (hst : stk = argsL.reverse ++ st) (hW : (st.map fun v => v.category).sum ≤ W') (d : Dc bytes pc (.invokestatic index) 3 pc') (hc : cells ≤ R.cells) (hs : slots ≤ R.slots)
    (K : ∀ T', St p l e R s m A below meth c Z T' h cells slots → Goes p e below W T' (mkF m pc' Ls st)) : Goes p e below W T (mkF m pc Ls stk) :=
  g_static C X w1 w2 w3 w4 hy hK pd hlen hsz stk hst hW d hc hs fun T' h' v' hQ X' => by obtain ⟨rfl, rfl⟩ := hQ; exact K T' X'
theorem sel_private {y : MethodName} {K0 : String} {n : Nat} (hZ : Z.Warmed39 s.vm) (wi : (Jvm.Cond.instantiable K0 n).before a0 Z = true) (hK : K0 = y.cls) (wp : (Jvm.Cond.privateMethod y).before a0 Z = true) (w2 : (Jvm.Cond.instanceMethod y).before a0 Z = true) (hy : y.cls ≠ "java/lang/invoke/MethodHandle" ∧ y.cls ≠ "java/lang/invoke/VarHandle") : (Jvm.Cond.selects y.cls y y).before A s = true := by
  subst hK
  have w' : (Jvm.Cond.instantiable y.cls n).before A s = true := mvT hZ wi
  obtain ⟨c, k, h1, h2, -, h3, -⟩ := Cond.instantiable_spec w'
  have h4 : k.isInterface = false := by
    cases q : k.isInterface
    · rfl
    · rw [q] at h3; exact absurd h3 (by simp)
  exact selects_self_of_private h1 h2 h4 (Cond.privateMethod_at (args := A) (mvP hZ wp)) (mvT hZ w2) hy
theorem g_private {index k n : Nat} {y : MethodName} {bytes' : ByteArray} {maxL' W' : Nat} {ret' : Option FieldType} {argsL : List Value} {Q : Option Value → Heap → Prop} {ps : List FieldType} {rt : Option FieldType} {a : Addr} (C : Cx p s m meth c Z own nm bytes maxL ret) (X : St p l e R s m A below meth c Z T h cells slots)
    (w1 : (Jvm.Cond.methodLink own index y).before a0 Z = true) (w2 : (Jvm.Cond.instanceMethod y).before a0 Z = true) (hsel : (Jvm.Cond.selects y.cls y y).before A s = true) (wp : (Jvm.Cond.privateMethod y).before a0 Z = true) (w4 : (Jvm.Cond.code y bytes' maxL' ret').before a0 Z = true) (hy : y.cls ≠ "java/lang/invoke/MethodHandle" ∧ y.cls ≠ "java/lang/invoke/VarHandle") (Ex : Exa Z h a y.cls)
    (hK : Pay l R p e below s A y 3 W' k n Z (.ref a :: argsL).toArray h Q) (pd : parseMethodDescriptor y.desc = some ⟨ps, rt⟩) (hlen : argsL.length = ps.length) (hsz : Ls.size = maxL) (stk : List Value) (hst : stk = argsL.reverse ++ .ref a :: st) (hW : (st.map fun v => v.category).sum ≤ W') (d : Dc bytes pc (.invokevirtual index) 3 pc') (hc : cells + k ≤ R.cells) (hs : slots + n ≤ R.slots)
    (K : ∀ T' h' v, Q v h' → St p l e R s m A below meth c Z T' h' (cells + k) (slots + n) → Goes p e below W T' (mkF m pc' Ls (v.toList ++ st))) : Goes p e below W T (mkF m pc Ls stk) := by
  obtain ⟨d, rfl⟩ := d
  obtain ⟨L0, Y, eT, N, E⟩ := X
  obtain ⟨cell, kk, q1, -, -, q4, -⟩ := Ex
  obtain ⟨v, vm₁, B, -, Y', ⟨L, ⟨N', E', hQ⟩, hB⟩, q⟩ := Y.privateBack C.hx C.hown (mvT C.hZ w1) (mvT C.hZ w2) hsel (Cond.privateMethod_at (args := A) (mvP C.hZ wp)) (mvT C.hZ w4) hy hK (g := mkF m pc Ls stk) rfl (hsz.trans C.hml.symm) (Steps.refl _) (a := a) (cell := cell) (by rw [eT]; exact q1) (fun z hz => by rw [hz] at q4; cases q4) (argsL := argsL) (rest := st) (lenOf pd hlen) hst (by show 2 * 0 + _ ≤ _; omega) (hb C.hby d) (fun _ _ => ⟨rfl, eT, hc, hs⟩)
  exact Goes.via (fun _ k => q.trans k) (K _ _ v hQ (st_back (T' := T) (h' := h) Y' hB N N' E'))
theorem g_privateP {index : Nat} {y : MethodName} {bytes' : ByteArray} {maxL' W' : Nat} {ret' : Option FieldType} {argsL : List Value} {v : Value} {ps : List FieldType} {rt : Option FieldType} {a : Addr} (C : Cx p s m meth c Z own nm bytes maxL ret) (X : St p l e R s m A below meth c Z T h cells slots)
    (w1 : (Jvm.Cond.methodLink own index y).before a0 Z = true) (w2 : (Jvm.Cond.instanceMethod y).before a0 Z = true) (hsel : (Jvm.Cond.selects y.cls y y).before A s = true) (wp : (Jvm.Cond.privateMethod y).before a0 Z = true) (w4 : (Jvm.Cond.code y bytes' maxL' ret').before a0 Z = true) (hy : y.cls ≠ "java/lang/invoke/MethodHandle" ∧ y.cls ≠ "java/lang/invoke/VarHandle") (Ex : Exa Z h a y.cls)
    (hK : Pay l R p e below s A y 3 W' 0 0 Z (.ref a :: argsL).toArray h (fun v' h' => v' = some v ∧ h' = h)) (pd : parseMethodDescriptor y.desc = some ⟨ps, rt⟩) (hlen : argsL.length = ps.length) (hsz : Ls.size = maxL) (stk : List Value) (hst : stk = argsL.reverse ++ .ref a :: st) (hW : (st.map fun v => v.category).sum ≤ W') (d : Dc bytes pc (.invokevirtual index) 3 pc') (hc : cells ≤ R.cells) (hs : slots ≤ R.slots)
    (K : ∀ T', St p l e R s m A below meth c Z T' h cells slots → Goes p e below W T' (mkF m pc' Ls (v :: st))) : Goes p e below W T (mkF m pc Ls stk) :=
  g_private C X w1 w2 hsel wp w4 hy Ex hK pd hlen hsz stk hst hW d hc hs fun T' h' v' hQ X' => by obtain ⟨rfl, rfl⟩ := hQ; exact K T' X'
end OwnClone
instance {b : ByteArray} {pc : Nat} {i : Instr} {n pc' : Nat} : Decidable (Dc b pc i n pc') := inferInstanceAs (Decidable (_ ∧ _))
instance {b : ByteArray} {pc : Nat} {i : Instr} {o : Int} {n pc' t : Nat} : Decidable (Dj b pc i o n pc' t) := inferInstanceAs (Decidable (_ ∧ _ ∧ _ ∧ _))
theorem own_rc (y : Int32) : ¬ nar .char ((y &&& (255 : Int32)).toUInt32.toUInt16.toUInt32.toInt32) < 0 ∧ ¬ (255 : Int32) < nar .char ((y &&& (255 : Int32)).toUInt32.toUInt16.toUInt32.toInt32) := by
  rw [Value.int.inj (own_ch y)]; exact own_m255 y
theorem own_set {l : List Int32} {j : Nat} {y : Int32} (hl : ∀ c ∈ l, ¬ c < 0 ∧ ¬ (255 : Int32) < c) (hy : ¬ y < 0 ∧ ¬ (255 : Int32) < y) : ∀ c ∈ l.set j y, ¬ c < 0 ∧ ¬ (255 : Int32) < c := fun c q => by
  rcases List.mem_or_eq_of_mem_set q with q | rfl
  · exact hl c q
  · exact hy
theorem own_mapset (l : List Int32) (j : Nat) (y : Int32) : (l.map Value.int).set j (.int y) = (l.set j y).map Value.int := by rw [List.map_set]
theorem own_nar {x : Int32} (h : ¬ x < 0 ∧ ¬ (255 : Int32) < x) : Value.int (nar .char x) = .int x := by
  have e : x = x &&& 255 := by
    apply Int32.toInt_inj.mp
    have h1 := c_mask x 255 8 (by decide) (by decide)
    simp only [Int32.lt_iff_toInt_lt, Int32.reduceToInt] at *
    omega
  show Value.int (x.toUInt32.toUInt16.toUInt32.toInt32) = _
  rw [e, i2c_mask]
theorem own_latc (y : Int32) : ¬ ((y &&& (255 : Int32)).toUInt32.toUInt16.toUInt32.toInt32) < 0 ∧ ¬ (255 : Int32) < ((y &&& (255 : Int32)).toUInt32.toUInt16.toUInt32.toInt32) := by
  rw [i2c_mask]; exact own_m255 y
theorem own_getlat {cs : List Int32} (h : ∀ c ∈ cs, ¬ c < 0 ∧ ¬ (255 : Int32) < c) {i : Nat} (hi : i < cs.length) : ¬ cs.getD i 0 < 0 ∧ ¬ (255 : Int32) < cs.getD i 0 := by
  have e : cs.getD i 0 = cs[i] := by simp [List.getD_eq_getElem?_getD, hi]
  rw [e]; exact h _ (List.getElem_mem _)
theorem own_ltn {k n : Nat} (hk : k ≤ 4000) (hn : n ≤ 4000) (h : Int32.ofNat k < Int32.ofNat n) : k < n := by
  rw [Int32.lt_iff_toInt_lt, Int32.toInt_ofNat_small (by omega), Int32.toInt_ofNat_small (by omega)] at h
  omega
theorem own_words {Z : State} {a0 : Array Value} (hw : ∀ d ∈ tables_1, d.before a0 Z = true) : ∀ d ∈ StrChars.Road.words, d.before a0 Z = true := fun d hd => hw d ((show ∀ d ∈ StrChars.Road.words, d ∈ tables_1 by decide +kernel) d hd)
theorem eqN_v {args : Array Value} {first s : State} {o : Option Outcome} {idx : List Nat} {t : Term} (h : (Jvm.Cond.eq t .null).value args first o s idx = some true) : t.eval args first o idx s = some .null := by
  simp only [Cond.value, Term.eval] at h
  cases ht : t.eval args first o idx s with
  | none => simp [ht] at h
  | some v => cases v <;> simp [ht] at h ⊢
theorem pn_0 : plainName "java/util/Optional" = true := by first | (simp [plainName, overriddenIn]; done) | decide +kernel
theorem ef_rEm (m : MethodId)  : entryFrame m #[] 1 = mkF m 0 #[.unset] [] := by first | (simp [entryFrame, mkF, argsToLocals, Value.category]; done) | rfl
theorem d1_0 : Dc jdk_32_method_1_code 0 (.getstatic 1) 3 3 := by decide +kernel
theorem d1_3 : Dc jdk_32_method_1_code 3 (.astore_n 0) 1 4 := by decide +kernel
theorem d1_4 : Dc jdk_32_method_1_code 4 (.aload_n 0) 1 5 := by decide +kernel
theorem d1_5 : Dc jdk_32_method_1_code 5 (.areturn) 1 6 := by decide +kernel
theorem rEm (l : Launch) {Z : State} {a0 : Array Value} (hw : ∀ d ∈ tables_1, d.before a0 Z = true) {h : Heap} (hE : Ext Z.heap h)  (oe : Addr) (SE : Sta Z Z.heap "java/util/Optional" "EMPTY" "Ljava/util/Optional;" (.ref oe)) (EE : Exa Z Z.heap oe "java/util/Optional") (FE : Fld Z Z.heap oe "java/util/Optional" "value" "Ljava/lang/Object;" .null)  :
    Con l (⟨"java/util/Optional", "empty", "()Ljava/util/Optional;"⟩ : MethodName) jdk_32_method_1_code 1 (some (.object "java/util/Optional")) [] ({ frames := 0, cells := 0, slots := 0, locals := 0 } : Room) Z #[] h (fun v' h' => v' = some (.ref oe) ∧ h' = h) := by
  refine con_of (plainFor_of_name pn_0) hE (fun m => ef_rEm m ) ?_
  intro p e s m below meth c T0 C X0
  have C : Cx p s m meth c Z "java/util/Optional" "empty" jdk_32_method_1_code 1 (some (.object "java/util/Optional")) := C
  show Goes p e below _ T0 (mkF m 0 #[.unset] [])
  refine g_getstatic (host := "") C X0 (Or.inl (wd hw 8 rfl)) Via.refl SE d1_0 (fun T1 X1 => ?_)
  refine g_astoreN C X1 d1_3 rfl (l' := #[.val (.ref oe)]) rfl (g_aloadN C X1 d1_4 rfl rfl ?_)
  exact g_retA C X1 rfl rfl d1_5 (by decide) (by decide) ⟨rfl, rfl⟩
theorem pn_1 : plainName "java/util/Objects" = true := by first | (simp [plainName, overriddenIn]; done) | decide +kernel
theorem ef_rReq (m : MethodId) (a : Addr) : entryFrame m #[(.ref a)] 1 = mkF m 0 #[.val (.ref a)] [] := by first | (simp [entryFrame, mkF, argsToLocals, Value.category]; done) | rfl
theorem d13_0 : Dc jdk_31_method_10_code 0 (.aload_n 0) 1 1 := by decide +kernel
theorem d13_1 : Dj jdk_31_method_10_code 1 (.ifnonnull 11) 11 3 4 12 := by decide +kernel
theorem d13_12 : Dc jdk_31_method_10_code 12 (.aload_n 0) 1 13 := by decide +kernel
theorem d13_13 : Dc jdk_31_method_10_code 13 (.areturn) 1 14 := by decide +kernel
theorem rReq (l : Launch) {Z : State} {a0 : Array Value} (hw : ∀ d ∈ tables_1, d.before a0 Z = true) {h : Heap} (hE : Ext Z.heap h) (a : Addr)   :
    Con l (⟨"java/util/Objects", "requireNonNull", "(Ljava/lang/Object;)Ljava/lang/Object;"⟩ : MethodName) jdk_31_method_10_code 1 (some (.object "java/lang/Object")) [] ({ frames := 0, cells := 0, slots := 0, locals := 0 } : Room) Z #[(.ref a)] h (fun v' h' => v' = some (.ref a) ∧ h' = h) := by
  refine con_of (plainFor_of_name pn_1) hE (fun m => ef_rReq m a) ?_
  intro p e s m below meth c T0 C X0
  have C : Cx p s m meth c Z "java/util/Objects" "requireNonNull" jdk_31_method_10_code 1 (some (.object "java/lang/Object")) := C
  show Goes p e below _ T0 (mkF m 0 #[.val (.ref a)] [])
  refine g_aloadN C X0 d13_0 rfl rfl (g_ifnonnull C X0 d13_1 rfl (fun _ => ?_) (fun q => absurd q nofun))
  refine g_aloadN C X0 d13_12 rfl rfl ?_
  exact g_retA C X0 rfl rfl d13_13 (by decide) (by decide) ⟨rfl, rfl⟩
theorem ef_rOi (m : MethodId) (a : Addr) (v : Addr) : entryFrame m #[(.ref a), (.ref v)] 2 = mkF m 0 #[.val (.ref a), .val (.ref v)] [] := by first | (simp [entryFrame, mkF, argsToLocals, Value.category]; done) | rfl
theorem d14_0 : Dc jdk_32_method_2_code 0 (.aload_n 0) 1 1 := by decide +kernel
theorem d14_1 : Dc jdk_32_method_2_code 1 (.invokespecial 7) 3 4 := by decide +kernel
theorem d14_4 : Dc jdk_32_method_2_code 4 (.aload_n 0) 1 5 := by decide +kernel
theorem d14_5 : Dc jdk_32_method_2_code 5 (.aload_n 1) 1 6 := by decide +kernel
theorem d14_6 : Dc jdk_32_method_2_code 6 (.putfield 13) 3 9 := by decide +kernel
theorem d14_9 : Dc jdk_32_method_2_code 9 (.return_) 1 10 := by decide +kernel
theorem rOi (l : Launch) {Z : State} {a0 : Array Value} (hw : ∀ d ∈ tables_1, d.before a0 Z = true) {h : Heap} (hE : Ext Z.heap h) (a : Addr) (v : Addr)  (E : Exa Z h a "java/util/Optional") (F : Fld Z h a "java/util/Optional" "value" "Ljava/lang/Object;" .null) (hn : Z.heap.size ≤ a) :
    Con l (⟨"java/util/Optional", "<init>", "(Ljava/lang/Object;)V"⟩ : MethodName) jdk_32_method_2_code 2 none [] ({ frames := 1, cells := 0, slots := 0, locals := 14 } : Room) Z #[(.ref a), (.ref v)] h (fun v' h' => v' = none ∧ Keep h h' [a] ∧ Fld Z h' a "java/util/Optional" "value" "Ljava/lang/Object;" (.ref v)) := by
  refine con_of (plainFor_of_name pn_0) hE (fun m => ef_rOi m a v) ?_
  intro p e s m below meth c T0 C X0
  have C : Cx p s m meth c Z "java/util/Optional" "<init>" jdk_32_method_2_code 2 none := C
  show Goes p e below _ T0 (mkF m 0 #[.val (.ref a), .val (.ref v)] [])
  refine g_aloadN C X0 d14_0 rfl rfl (g_initO C X0 (wd hw 73 rfl) (wd hw 42 rfl) (wd hw 43 rfl) rfl d14_1 (by decide) 0 (Nat.le_of_eq rfl) (by decide) (fun T2 X2 => ?_))
  refine g_aloadN C X2 d14_4 rfl rfl (g_aloadN C X2 d14_5 rfl rfl (g_putfield (host := "") C X2 (Or.inl (wd hw 17 rfl)) Via.refl F E (Or.inr ⟨(wd hw 18 rfl), rfl, rfl⟩) (wd hw 64 rfl) (ty := (.object "java/lang/Object")) (by decide) rfl rfl hn d14_6 (fun T3 h3 X3 W3 => ?_)))
  have f3 := Fld.same W3 F
  have kp4 := (Keep.refl h [a]).wr W3 (Or.inl (by simp))
  exact g_retV C X3 d14_9 (by decide) (by decide) ⟨rfl, kp4, f3⟩
theorem ef_rOf (m : MethodId) (v : Addr) : entryFrame m #[(.ref v)] 1 = mkF m 0 #[.val (.ref v)] [] := by first | (simp [entryFrame, mkF, argsToLocals, Value.category]; done) | rfl
theorem d12_0 : Dc jdk_32_method_3_code 0 (.new 2) 3 3 := by decide +kernel
theorem d12_3 : Dc jdk_32_method_3_code 3 (.dup) 1 4 := by decide +kernel
theorem d12_4 : Dc jdk_32_method_3_code 4 (.aload_n 0) 1 5 := by decide +kernel
theorem d12_5 : Dc jdk_32_method_3_code 5 (.invokestatic 17) 3 8 := by decide +kernel
theorem pd_0 : parseMethodDescriptor "(Ljava/lang/Object;)Ljava/lang/Object;" = some ⟨[(.object "java/lang/Object")], some (.object "java/lang/Object")⟩ := by decide +kernel
theorem d12_8 : Dc jdk_32_method_3_code 8 (.invokespecial 23) 3 11 := by decide +kernel
theorem pd_1 : parseMethodDescriptor "(Ljava/lang/Object;)V" = some ⟨[(.object "java/lang/Object")], none⟩ := by decide +kernel
theorem d12_11 : Dc jdk_32_method_3_code 11 (.areturn) 1 12 := by decide +kernel
theorem rOf (l : Launch) {Z : State} {a0 : Array Value} (hw : ∀ d ∈ tables_1, d.before a0 Z = true) {h : Heap} (hE : Ext Z.heap h) (v : Addr)   :
    Con l (⟨"java/util/Optional", "of", "(Ljava/lang/Object;)Ljava/util/Optional;"⟩ : MethodName) jdk_32_method_3_code 1 (some (.object "java/util/Optional")) [] ({ frames := 2, cells := 1, slots := 1, locals := 30 } : Room) Z #[(.ref v)] h (fun v' h' => ∃ b, v' = some (.ref b) ∧ Z.heap.size ≤ b ∧ h.size ≤ b ∧ Ext h h' ∧ Exa Z h' b "java/util/Optional" ∧ Fld Z h' b "java/util/Optional" "value" "Ljava/lang/Object;" (.ref v)) := by
  refine con_of (plainFor_of_name pn_0) hE (fun m => ef_rOf m v) ?_
  intro p e s m below meth c T0 C X0
  have C : Cx p s m meth c Z "java/util/Optional" "of" jdk_32_method_3_code 1 (some (.object "java/util/Optional")) := C
  show Goes p e below _ T0 (mkF m 0 #[.val (.ref v)] [])
  refine g_new C X0 (wd hw 63 rfl) (wd hw 64 rfl) (wd hw 6 rfl) d12_0 (by decide) (by decide) (fun T5 h5 b5 g_b5 n_b5 X5 E5 A5 D5 M5 => ?_)
  have F_value_b5 : Fld Z h5 b5 "java/util/Optional" "value" "Ljava/lang/Object;" .null := D5 (Or.inr (wd hw 18 rfl)) (ty := (.object "java/lang/Object")) (by decide)
  refine g_dup C X5 d12_3 rfl (g_aloadN C X5 d12_4 rfl rfl (g_staticP (argsL := [(.ref v)]) (st := [(.ref b5), (.ref b5)]) C X5 (wd hw 65 rfl) (wd hw 66 rfl) (wd hw 67 rfl) (wd hw 68 rfl) (by decide) (pay_of (W' := 2) (rReq l hw X5.ext v) C.hZ (wd hw 68 rfl) (wd hw 67 rfl) (by decide) (by decide)) pd_0 rfl rfl _ rfl (Nat.le_of_eq rfl) d12_5 (by decide) (by decide) (fun T6 X6 => ?_)))
  refine g_special (argsL := [(.ref v)]) (st := [(.ref b5)]) C X6 rfl (wd hw 69 rfl) (wd hw 70 rfl) (wd hw 72 rfl) (by decide) (pay_of (W' := 1) (rOi l hw X6.ext b5 v A5 F_value_b5 n_b5) C.hZ (wd hw 72 rfl) (wd hw 6 rfl) (by decide) (by decide)) pd_1 rfl rfl _ rfl (Nat.le_of_eq rfl) d12_8 (by decide) (by decide) (fun T7 h7 v7 q7 X7 => ?_)
  obtain ⟨rfl, K7, F7⟩ := q7
  show Goes p e below _ T7 (mkF m 11 #[.val (.ref v)] [(.ref b5)])
  have sz8 : h.size ≤ b5 := by rw [g_b5]; exact (Keep.refl h []).1
  have kp9 := (Keep.refl h []).ext E5
  have kp10 := kp9.trans K7 (allS (Or.inr sz8) all0)
  have f11 := (Exa.keep A5 K7)
  exact g_retA C X7 rfl rfl d12_11 (by decide) (by decide) ⟨b5, rfl, n_b5, sz8, keep_ext kp10, f11, F7⟩
theorem ef_rIsN (m : MethodId) (a : Addr) : entryFrame m #[(.ref a)] 1 = mkF m 0 #[.val (.ref a)] [] := by first | (simp [entryFrame, mkF, argsToLocals, Value.category]; done) | rfl
theorem d3_0 : Dc jdk_32_method_6_code 0 (.aload_n 0) 1 1 := by decide +kernel
theorem d3_1 : Dc jdk_32_method_6_code 1 (.getfield 13) 3 4 := by decide +kernel
theorem d3_4 : Dj jdk_32_method_6_code 4 (.ifnull 7) 7 3 7 11 := by decide +kernel
theorem d3_11 : Dc jdk_32_method_6_code 11 (.iconst 0) 1 12 := by decide +kernel
theorem d3_12 : Dc jdk_32_method_6_code 12 (.ireturn) 1 13 := by decide +kernel
theorem rIsN (l : Launch) {Z : State} {a0 : Array Value} (hw : ∀ d ∈ tables_1, d.before a0 Z = true) {h : Heap} (hE : Ext Z.heap h) (a : Addr)  (F : Fld Z h a "java/util/Optional" "value" "Ljava/lang/Object;" .null) :
    Con l (⟨"java/util/Optional", "isPresent", "()Z"⟩ : MethodName) jdk_32_method_6_code 1 (some .boolean) [] ({ frames := 0, cells := 0, slots := 0, locals := 0 } : Room) Z #[(.ref a)] h (fun v' h' => v' = some (.int 0) ∧ h' = h) := by
  refine con_of (plainFor_of_name pn_0) hE (fun m => ef_rIsN m a) ?_
  intro p e s m below meth c T0 C X0
  have C : Cx p s m meth c Z "java/util/Optional" "isPresent" jdk_32_method_6_code 1 (some .boolean) := C
  show Goes p e below _ T0 (mkF m 0 #[.val (.ref a)] [])
  refine g_aloadN C X0 d3_0 rfl rfl (g_getfield (host := "") C X0 (Or.inl (wd hw 17 rfl)) Via.refl F d3_1 (fun T12 X12 => ?_))
  refine g_ifnull C X12 d3_4 rfl (fun _ => ?_) (fun q => absurd rfl q)
  refine g_iconst 0 C X12 d3_11 rfl ?_
  exact g_retN C X12 (by simp) d3_12 (0 : Int32) rfl (by decide) (by decide) ⟨rfl, rfl⟩
theorem ef_rIsR (m : MethodId) (a : Addr) : entryFrame m #[(.ref a)] 1 = mkF m 0 #[.val (.ref a)] [] := by first | (simp [entryFrame, mkF, argsToLocals, Value.category]; done) | rfl
theorem d3_7 : Dc jdk_32_method_6_code 7 (.iconst 1) 1 8 := by decide +kernel
theorem d3_8 : Dj jdk_32_method_6_code 8 (.goto 4) 4 3 11 12 := by decide +kernel
theorem rIsR (l : Launch) {Z : State} {a0 : Array Value} (hw : ∀ d ∈ tables_1, d.before a0 Z = true) {h : Heap} (hE : Ext Z.heap h) (a : Addr) (v : Addr) (F : Fld Z h a "java/util/Optional" "value" "Ljava/lang/Object;" (.ref v)) :
    Con l (⟨"java/util/Optional", "isPresent", "()Z"⟩ : MethodName) jdk_32_method_6_code 1 (some .boolean) [] ({ frames := 0, cells := 0, slots := 0, locals := 0 } : Room) Z #[(.ref a)] h (fun v' h' => v' = some (.int 1) ∧ h' = h) := by
  refine con_of (plainFor_of_name pn_0) hE (fun m => ef_rIsR m a) ?_
  intro p e s m below meth c T0 C X0
  have C : Cx p s m meth c Z "java/util/Optional" "isPresent" jdk_32_method_6_code 1 (some .boolean) := C
  show Goes p e below _ T0 (mkF m 0 #[.val (.ref a)] [])
  refine g_aloadN C X0 d3_0 rfl rfl (g_getfield (host := "") C X0 (Or.inl (wd hw 17 rfl)) Via.refl F d3_1 (fun T13 X13 => ?_))
  refine g_ifnull C X13 d3_4 rfl (fun q => absurd q nofun) (fun _ => ?_)
  refine g_iconst 1 C X13 d3_7 rfl (g_goto C X13 d3_8 ?_)
  exact g_retN C X13 (by simp) d3_12 (1 : Int32) rfl (by decide) (by decide) ⟨rfl, rfl⟩
theorem ef_rGet (m : MethodId) (a : Addr) : entryFrame m #[(.ref a)] 1 = mkF m 0 #[.val (.ref a)] [] := by first | (simp [entryFrame, mkF, argsToLocals, Value.category]; done) | rfl
theorem d15_0 : Dc jdk_32_method_5_code 0 (.aload_n 0) 1 1 := by decide +kernel
theorem d15_1 : Dc jdk_32_method_5_code 1 (.getfield 13) 3 4 := by decide +kernel
theorem d15_4 : Dj jdk_32_method_5_code 4 (.ifnonnull 13) 13 3 7 17 := by decide +kernel
theorem d15_17 : Dc jdk_32_method_5_code 17 (.aload_n 0) 1 18 := by decide +kernel
theorem d15_18 : Dc jdk_32_method_5_code 18 (.getfield 13) 3 21 := by decide +kernel
theorem d15_21 : Dc jdk_32_method_5_code 21 (.areturn) 1 22 := by decide +kernel
theorem rGet (l : Launch) {Z : State} {a0 : Array Value} (hw : ∀ d ∈ tables_1, d.before a0 Z = true) {h : Heap} (hE : Ext Z.heap h) (a : Addr) (v : Addr) (F : Fld Z h a "java/util/Optional" "value" "Ljava/lang/Object;" (.ref v)) :
    Con l (⟨"java/util/Optional", "get", "()Ljava/lang/Object;"⟩ : MethodName) jdk_32_method_5_code 1 (some (.object "java/lang/Object")) [] ({ frames := 0, cells := 0, slots := 0, locals := 0 } : Room) Z #[(.ref a)] h (fun v' h' => v' = some (.ref v) ∧ h' = h) := by
  refine con_of (plainFor_of_name pn_0) hE (fun m => ef_rGet m a) ?_
  intro p e s m below meth c T0 C X0
  have C : Cx p s m meth c Z "java/util/Optional" "get" jdk_32_method_5_code 1 (some (.object "java/lang/Object")) := C
  show Goes p e below _ T0 (mkF m 0 #[.val (.ref a)] [])
  refine g_aloadN C X0 d15_0 rfl rfl (g_getfield (host := "") C X0 (Or.inl (wd hw 17 rfl)) Via.refl F d15_1 (fun T14 X14 => ?_))
  refine g_ifnonnull C X14 d15_4 rfl (fun _ => ?_) (fun q => absurd q nofun)
  refine g_aloadN C X14 d15_17 rfl rfl (g_getfield (host := "") C X14 (Or.inl (wd hw 17 rfl)) Via.refl F d15_18 (fun T15 X15 => ?_))
  exact g_retA C X15 rfl rfl d15_21 (by decide) (by decide) ⟨rfl, rfl⟩
theorem own_b7 {y : Int32} (h : ¬ y < 0 ∧ ¬ (127 : Int32) < y) : y.toInt8.toInt32 = y := by
  apply Int32.toInt_inj.mp
  have r1 := c_i2b y
  simp only [Int32.lt_iff_toInt_lt, Int32.reduceToInt] at h
  omega
theorem own_m7 {y : Int32} (h : ¬ y < 0 ∧ ¬ (127 : Int32) < y) : y &&& (255 : Int32) = y := by
  apply Int32.toInt_inj.mp
  have r1 := c_mask y 255 8 (by decide) (by decide)
  simp only [Int32.lt_iff_toInt_lt, Int32.reduceToInt] at h
  omega
theorem own_sp {y : Int32} (h : ¬ y < 0 ∧ ¬ (32 : Int32) < y) : ¬ y < 0 ∧ ¬ (127 : Int32) < y := by
  simp only [Int32.lt_iff_toInt_lt, Int32.reduceToInt] at *
  omega
theorem own_gt {y : Int32} (h : (32 : Int32) < y ∧ ¬ (127 : Int32) < y) : ¬ y < 0 ∧ ¬ (127 : Int32) < y := by
  simp only [Int32.lt_iff_toInt_lt, Int32.reduceToInt] at *
  omega
theorem own_127 {y : Int32} (h : ¬ y < 0 ∧ ¬ (127 : Int32) < y) : ¬ y < 0 ∧ ¬ (255 : Int32) < y := by
  simp only [Int32.lt_iff_toInt_lt, Int32.reduceToInt] at *
  omega
theorem own_trY {y : Int32} (h : (32 : Int32) < y ∧ ¬ (127 : Int32) < y) : (32 : Int32) < (y &&& (255 : Int32)) := by rw [own_m7 (own_gt h)]; exact h.1
theorem own_trN {y : Int32} (h : ¬ y < 0 ∧ ¬ (32 : Int32) < y) : ¬ (32 : Int32) < (y &&& (255 : Int32)) := by rw [own_m7 (own_sp h)]; exact h.2
theorem own_conv {Z : State} {h : Heap} {t : Addr} {k : ClassId} {n : Int32} {vs vs' : List Value} {d : Value} (F : Arv Z h t k .byte n vs d) (e : vs = vs') : Arv Z h t k .byte n vs' d := e ▸ F
theorem own_n4 (x : Int32) : (x &&& (3 : Int32)) = (0 : Int32) ∨ (x &&& (3 : Int32)) = (1 : Int32) ∨ (x &&& (3 : Int32)) = (2 : Int32) ∨ (x &&& (3 : Int32)) = (3 : Int32) := by
  have h1 := c_mask x 3 2 (by decide) (by decide)
  simp only [← Int32.toInt_inj, Int32.reduceToInt] at *
  omega
theorem own_n2 (x : Int32) : (x &&& (1 : Int32)) = (0 : Int32) ∨ (x &&& (1 : Int32)) = (1 : Int32) := by
  have h1 := c_mask x 1 1 (by decide) (by decide)
  simp only [← Int32.toInt_inj, Int32.reduceToInt] at *
  omega
theorem own_r33 (x : Int32) : ¬ (((x &&& (2147483647 : Int32)) % (33 : Int32)).toUInt32.toUInt16.toUInt32.toInt32) < 0 ∧ ¬ (32 : Int32) < (((x &&& (2147483647 : Int32)) % (33 : Int32)).toUInt32.toUInt16.toUInt32.toInt32) := by
  have h1 := c_mask x 2147483647 31 (by decide) (by decide)
  have h2 := (c_irem (x &&& 2147483647) 33 33 (by decide)).1 (by rw [h1]; omega)
  have h3 := c_i2c ((x &&& 2147483647) % 33)
  simp only [Int32.lt_iff_toInt_lt, Int32.reduceToInt] at *
  omega
theorem own_let {y a b : Int32} (h : y = a ∨ y = b) (ha : (32 : Int32) < a ∧ ¬ (127 : Int32) < a) (hb : (32 : Int32) < b ∧ ¬ (127 : Int32) < b) : (32 : Int32) < y ∧ ¬ (127 : Int32) < y := by
  rcases h with rfl | rfl
  · exact ha
  · exact hb
theorem pn_2 : plainName "com/example/synctoken/synctoken/dav/DepthParsePinLaw" = true := by first | (simp [plainName, overriddenIn]; done) | decide +kernel
theorem ef_rLe0 (m : MethodId) (cb : Int32) : entryFrame m #[(.int 0), (.int cb)] 3 = mkF m 0 #[.val (.int 0), .val (.int cb), .unset] [] := by first | (simp [entryFrame, mkF, argsToLocals, Value.category]; done) | rfl
theorem d27_0 : Dc method_5_code 0 (.iload_n 0) 1 1 := by decide +kernel
theorem d27_1 : Dj method_5_code 1 (.ifCond .ne 8) 8 3 4 9 := by decide +kernel
theorem d27_4 : Dc method_5_code 4 (.bipush 105) 2 6 := by decide +kernel
theorem d27_6 : Dj method_5_code 6 (.goto 66) 66 3 9 72 := by decide +kernel
theorem d27_72 : Dc method_5_code 72 (.istore_n 2) 1 73 := by decide +kernel
theorem d27_73 : Dc method_5_code 73 (.iload_n 1) 1 74 := by decide +kernel
theorem d27_74 : Dc method_5_code 74 (.iload_n 0) 1 75 := by decide +kernel
theorem d27_75 : Dc method_5_code 75 (.ishr) 1 76 := by decide +kernel
theorem d27_76 : Dc method_5_code 76 (.iconst 1) 1 77 := by decide +kernel
theorem d27_77 : Dc method_5_code 77 (.iand) 1 78 := by decide +kernel
theorem d27_78 : Dj method_5_code 78 (.ifCond .eq 9) 9 3 81 87 := by decide +kernel
theorem d27_87 : Dc method_5_code 87 (.iload_n 2) 1 88 := by decide +kernel
theorem d27_88 : Dc method_5_code 88 (.ireturn) 1 89 := by decide +kernel
theorem d27_81 : Dc method_5_code 81 (.iload_n 2) 1 82 := by decide +kernel
theorem d27_82 : Dc method_5_code 82 (.bipush 32) 2 84 := by decide +kernel
theorem d27_84 : Dc method_5_code 84 (.isub) 1 85 := by decide +kernel
theorem d27_85 : Dc method_5_code 85 (.i2c) 1 86 := by decide +kernel
theorem d27_86 : Dc method_5_code 86 (.ireturn) 1 87 := by decide +kernel
theorem rLe0 (l : Launch) {Z : State} {a0 : Array Value} (hw : ∀ d ∈ tables_1, d.before a0 Z = true) {h : Heap} (hE : Ext Z.heap h) (cb : Int32)   :
    Con l (⟨"com/example/synctoken/synctoken/dav/DepthParsePinLaw", "letter", "(II)C"⟩ : MethodName) method_5_code 3 (some .char) [] ({ frames := 0, cells := 0, slots := 0, locals := 0 } : Room) Z #[(.int 0), (.int cb)] h (fun v' h' => ∃ y : Int32, v' = some (.int y) ∧ (y = (105 : Int32) ∨ y = (73 : Int32)) ∧ h' = h) := by
  refine con_of (plainFor_of_name pn_2) hE (fun m => ef_rLe0 m cb) ?_
  intro p e s m below meth c T0 C X0
  have C : Cx p s m meth c Z "com/example/synctoken/synctoken/dav/DepthParsePinLaw" "letter" method_5_code 3 (some .char) := C
  show Goes p e below _ T0 (mkF m 0 #[.val (.int 0), .val (.int cb), .unset] [])
  refine g_iloadN C X0 d27_0 rfl (g_ifn (h0_ne _) C X0 d27_1 (fun q => absurd (by decide) q) (fun _ => ?_))
  refine g_bipush 105 C X0 d27_4 rfl (g_goto C X0 d27_6 (g_istoreN C X0 d27_72 (l' := #[.val (.int 0), .val (.int cb), .val (.int 105)]) rfl (g_iloadN C X0 d27_73 rfl (g_iloadN C X0 d27_74 rfl (g_ishr C X0 d27_75 (g_iconst 1 C X0 d27_76 rfl (g_iand C X0 d27_77 (g_if (h0_eq _) C X0 d27_78 (fun c78_16 => ?_) (fun c78_16 => ?_)))))))))
  · refine g_iloadN C X0 d27_87 rfl ?_
    exact g_retN C X0 (by simp) d27_88 (105 : Int32) rfl (by decide) (by decide) ⟨_, rfl, Or.inl rfl, rfl⟩
  · refine g_iloadN C X0 d27_81 rfl (g_bipush 32 C X0 d27_82 rfl (g_isub C X0 d27_84 (g_i2c C X0 d27_85 ?_)))
    exact g_retN C X0 (by simp) d27_86 (73 : Int32) rfl (by decide) (by decide) ⟨_, rfl, Or.inr rfl, rfl⟩
theorem ef_rLe1 (m : MethodId) (cb : Int32) : entryFrame m #[(.int 1), (.int cb)] 3 = mkF m 0 #[.val (.int 1), .val (.int cb), .unset] [] := by first | (simp [entryFrame, mkF, argsToLocals, Value.category]; done) | rfl
theorem d27_9 : Dc method_5_code 9 (.iload_n 0) 1 10 := by decide +kernel
theorem d27_10 : Dc method_5_code 10 (.iconst 1) 1 11 := by decide +kernel
theorem d27_11 : Dj method_5_code 11 (.if_icmp .ne 8) 8 3 14 19 := by decide +kernel
theorem d27_14 : Dc method_5_code 14 (.bipush 110) 2 16 := by decide +kernel
theorem d27_16 : Dj method_5_code 16 (.goto 56) 56 3 19 72 := by decide +kernel
theorem rLe1 (l : Launch) {Z : State} {a0 : Array Value} (hw : ∀ d ∈ tables_1, d.before a0 Z = true) {h : Heap} (hE : Ext Z.heap h) (cb : Int32)   :
    Con l (⟨"com/example/synctoken/synctoken/dav/DepthParsePinLaw", "letter", "(II)C"⟩ : MethodName) method_5_code 3 (some .char) [] ({ frames := 0, cells := 0, slots := 0, locals := 0 } : Room) Z #[(.int 1), (.int cb)] h (fun v' h' => ∃ y : Int32, v' = some (.int y) ∧ (y = (110 : Int32) ∨ y = (78 : Int32)) ∧ h' = h) := by
  refine con_of (plainFor_of_name pn_2) hE (fun m => ef_rLe1 m cb) ?_
  intro p e s m below meth c T0 C X0
  have C : Cx p s m meth c Z "com/example/synctoken/synctoken/dav/DepthParsePinLaw" "letter" method_5_code 3 (some .char) := C
  show Goes p e below _ T0 (mkF m 0 #[.val (.int 1), .val (.int cb), .unset] [])
  refine g_iloadN C X0 d27_0 rfl (g_ifn (h0_ne _) C X0 d27_1 (fun _ => ?_) (fun q => absurd q (by decide)))
  refine g_iloadN C X0 d27_9 rfl (g_iconst 1 C X0 d27_10 rfl (g_icmpn (hI_ne _ _) C X0 d27_11 (fun q => absurd (by decide) q) (fun _ => ?_)))
  refine g_bipush 110 C X0 d27_14 rfl (g_goto C X0 d27_16 (g_istoreN C X0 d27_72 (l' := #[.val (.int 1), .val (.int cb), .val (.int 110)]) rfl (g_iloadN C X0 d27_73 rfl (g_iloadN C X0 d27_74 rfl (g_ishr C X0 d27_75 (g_iconst 1 C X0 d27_76 rfl (g_iand C X0 d27_77 (g_if (h0_eq _) C X0 d27_78 (fun c78_17 => ?_) (fun c78_17 => ?_)))))))))
  · refine g_iloadN C X0 d27_87 rfl ?_
    exact g_retN C X0 (by simp) d27_88 (110 : Int32) rfl (by decide) (by decide) ⟨_, rfl, Or.inl rfl, rfl⟩
  · refine g_iloadN C X0 d27_81 rfl (g_bipush 32 C X0 d27_82 rfl (g_isub C X0 d27_84 (g_i2c C X0 d27_85 ?_)))
    exact g_retN C X0 (by simp) d27_86 (78 : Int32) rfl (by decide) (by decide) ⟨_, rfl, Or.inr rfl, rfl⟩
theorem ef_rLe2 (m : MethodId) (cb : Int32) : entryFrame m #[(.int 2), (.int cb)] 3 = mkF m 0 #[.val (.int 2), .val (.int cb), .unset] [] := by first | (simp [entryFrame, mkF, argsToLocals, Value.category]; done) | rfl
theorem d27_19 : Dc method_5_code 19 (.iload_n 0) 1 20 := by decide +kernel
theorem d27_20 : Dc method_5_code 20 (.iconst 2) 1 21 := by decide +kernel
theorem d27_21 : Dj method_5_code 21 (.if_icmp .ne 8) 8 3 24 29 := by decide +kernel
theorem d27_24 : Dc method_5_code 24 (.bipush 102) 2 26 := by decide +kernel
theorem d27_26 : Dj method_5_code 26 (.goto 46) 46 3 29 72 := by decide +kernel
theorem rLe2 (l : Launch) {Z : State} {a0 : Array Value} (hw : ∀ d ∈ tables_1, d.before a0 Z = true) {h : Heap} (hE : Ext Z.heap h) (cb : Int32)   :
    Con l (⟨"com/example/synctoken/synctoken/dav/DepthParsePinLaw", "letter", "(II)C"⟩ : MethodName) method_5_code 3 (some .char) [] ({ frames := 0, cells := 0, slots := 0, locals := 0 } : Room) Z #[(.int 2), (.int cb)] h (fun v' h' => ∃ y : Int32, v' = some (.int y) ∧ (y = (102 : Int32) ∨ y = (70 : Int32)) ∧ h' = h) := by
  refine con_of (plainFor_of_name pn_2) hE (fun m => ef_rLe2 m cb) ?_
  intro p e s m below meth c T0 C X0
  have C : Cx p s m meth c Z "com/example/synctoken/synctoken/dav/DepthParsePinLaw" "letter" method_5_code 3 (some .char) := C
  show Goes p e below _ T0 (mkF m 0 #[.val (.int 2), .val (.int cb), .unset] [])
  refine g_iloadN C X0 d27_0 rfl (g_ifn (h0_ne _) C X0 d27_1 (fun _ => ?_) (fun q => absurd q (by decide)))
  refine g_iloadN C X0 d27_9 rfl (g_iconst 1 C X0 d27_10 rfl (g_icmpn (hI_ne _ _) C X0 d27_11 (fun _ => ?_) (fun q => absurd q (by decide))))
  refine g_iloadN C X0 d27_19 rfl (g_iconst 2 C X0 d27_20 rfl (g_icmpn (hI_ne _ _) C X0 d27_21 (fun q => absurd (by decide) q) (fun _ => ?_)))
  refine g_bipush 102 C X0 d27_24 rfl (g_goto C X0 d27_26 (g_istoreN C X0 d27_72 (l' := #[.val (.int 2), .val (.int cb), .val (.int 102)]) rfl (g_iloadN C X0 d27_73 rfl (g_iloadN C X0 d27_74 rfl (g_ishr C X0 d27_75 (g_iconst 1 C X0 d27_76 rfl (g_iand C X0 d27_77 (g_if (h0_eq _) C X0 d27_78 (fun c78_18 => ?_) (fun c78_18 => ?_)))))))))
  · refine g_iloadN C X0 d27_87 rfl ?_
    exact g_retN C X0 (by simp) d27_88 (102 : Int32) rfl (by decide) (by decide) ⟨_, rfl, Or.inl rfl, rfl⟩
  · refine g_iloadN C X0 d27_81 rfl (g_bipush 32 C X0 d27_82 rfl (g_isub C X0 d27_84 (g_i2c C X0 d27_85 ?_)))
    exact g_retN C X0 (by simp) d27_86 (70 : Int32) rfl (by decide) (by decide) ⟨_, rfl, Or.inr rfl, rfl⟩
theorem ef_rLe3 (m : MethodId) (cb : Int32) : entryFrame m #[(.int 3), (.int cb)] 3 = mkF m 0 #[.val (.int 3), .val (.int cb), .unset] [] := by first | (simp [entryFrame, mkF, argsToLocals, Value.category]; done) | rfl
theorem d27_29 : Dc method_5_code 29 (.iload_n 0) 1 30 := by decide +kernel
theorem d27_30 : Dc method_5_code 30 (.iconst 3) 1 31 := by decide +kernel
theorem d27_31 : Dj method_5_code 31 (.if_icmp .ne 8) 8 3 34 39 := by decide +kernel
theorem d27_34 : Dc method_5_code 34 (.bipush 105) 2 36 := by decide +kernel
theorem d27_36 : Dj method_5_code 36 (.goto 36) 36 3 39 72 := by decide +kernel
theorem rLe3 (l : Launch) {Z : State} {a0 : Array Value} (hw : ∀ d ∈ tables_1, d.before a0 Z = true) {h : Heap} (hE : Ext Z.heap h) (cb : Int32)   :
    Con l (⟨"com/example/synctoken/synctoken/dav/DepthParsePinLaw", "letter", "(II)C"⟩ : MethodName) method_5_code 3 (some .char) [] ({ frames := 0, cells := 0, slots := 0, locals := 0 } : Room) Z #[(.int 3), (.int cb)] h (fun v' h' => ∃ y : Int32, v' = some (.int y) ∧ (y = (105 : Int32) ∨ y = (73 : Int32)) ∧ h' = h) := by
  refine con_of (plainFor_of_name pn_2) hE (fun m => ef_rLe3 m cb) ?_
  intro p e s m below meth c T0 C X0
  have C : Cx p s m meth c Z "com/example/synctoken/synctoken/dav/DepthParsePinLaw" "letter" method_5_code 3 (some .char) := C
  show Goes p e below _ T0 (mkF m 0 #[.val (.int 3), .val (.int cb), .unset] [])
  refine g_iloadN C X0 d27_0 rfl (g_ifn (h0_ne _) C X0 d27_1 (fun _ => ?_) (fun q => absurd q (by decide)))
  refine g_iloadN C X0 d27_9 rfl (g_iconst 1 C X0 d27_10 rfl (g_icmpn (hI_ne _ _) C X0 d27_11 (fun _ => ?_) (fun q => absurd q (by decide))))
  refine g_iloadN C X0 d27_19 rfl (g_iconst 2 C X0 d27_20 rfl (g_icmpn (hI_ne _ _) C X0 d27_21 (fun _ => ?_) (fun q => absurd q (by decide))))
  refine g_iloadN C X0 d27_29 rfl (g_iconst 3 C X0 d27_30 rfl (g_icmpn (hI_ne _ _) C X0 d27_31 (fun q => absurd (by decide) q) (fun _ => ?_)))
  refine g_bipush 105 C X0 d27_34 rfl (g_goto C X0 d27_36 (g_istoreN C X0 d27_72 (l' := #[.val (.int 3), .val (.int cb), .val (.int 105)]) rfl (g_iloadN C X0 d27_73 rfl (g_iloadN C X0 d27_74 rfl (g_ishr C X0 d27_75 (g_iconst 1 C X0 d27_76 rfl (g_iand C X0 d27_77 (g_if (h0_eq _) C X0 d27_78 (fun c78_19 => ?_) (fun c78_19 => ?_)))))))))
  · refine g_iloadN C X0 d27_87 rfl ?_
    exact g_retN C X0 (by simp) d27_88 (105 : Int32) rfl (by decide) (by decide) ⟨_, rfl, Or.inl rfl, rfl⟩
  · refine g_iloadN C X0 d27_81 rfl (g_bipush 32 C X0 d27_82 rfl (g_isub C X0 d27_84 (g_i2c C X0 d27_85 ?_)))
    exact g_retN C X0 (by simp) d27_86 (73 : Int32) rfl (by decide) (by decide) ⟨_, rfl, Or.inr rfl, rfl⟩
theorem ef_rLe4 (m : MethodId) (cb : Int32) : entryFrame m #[(.int 4), (.int cb)] 3 = mkF m 0 #[.val (.int 4), .val (.int cb), .unset] [] := by first | (simp [entryFrame, mkF, argsToLocals, Value.category]; done) | rfl
theorem d27_39 : Dc method_5_code 39 (.iload_n 0) 1 40 := by decide +kernel
theorem d27_40 : Dc method_5_code 40 (.iconst 4) 1 41 := by decide +kernel
theorem d27_41 : Dj method_5_code 41 (.if_icmp .ne 8) 8 3 44 49 := by decide +kernel
theorem d27_44 : Dc method_5_code 44 (.bipush 110) 2 46 := by decide +kernel
theorem d27_46 : Dj method_5_code 46 (.goto 26) 26 3 49 72 := by decide +kernel
theorem rLe4 (l : Launch) {Z : State} {a0 : Array Value} (hw : ∀ d ∈ tables_1, d.before a0 Z = true) {h : Heap} (hE : Ext Z.heap h) (cb : Int32)   :
    Con l (⟨"com/example/synctoken/synctoken/dav/DepthParsePinLaw", "letter", "(II)C"⟩ : MethodName) method_5_code 3 (some .char) [] ({ frames := 0, cells := 0, slots := 0, locals := 0 } : Room) Z #[(.int 4), (.int cb)] h (fun v' h' => ∃ y : Int32, v' = some (.int y) ∧ (y = (110 : Int32) ∨ y = (78 : Int32)) ∧ h' = h) := by
  refine con_of (plainFor_of_name pn_2) hE (fun m => ef_rLe4 m cb) ?_
  intro p e s m below meth c T0 C X0
  have C : Cx p s m meth c Z "com/example/synctoken/synctoken/dav/DepthParsePinLaw" "letter" method_5_code 3 (some .char) := C
  show Goes p e below _ T0 (mkF m 0 #[.val (.int 4), .val (.int cb), .unset] [])
  refine g_iloadN C X0 d27_0 rfl (g_ifn (h0_ne _) C X0 d27_1 (fun _ => ?_) (fun q => absurd q (by decide)))
  refine g_iloadN C X0 d27_9 rfl (g_iconst 1 C X0 d27_10 rfl (g_icmpn (hI_ne _ _) C X0 d27_11 (fun _ => ?_) (fun q => absurd q (by decide))))
  refine g_iloadN C X0 d27_19 rfl (g_iconst 2 C X0 d27_20 rfl (g_icmpn (hI_ne _ _) C X0 d27_21 (fun _ => ?_) (fun q => absurd q (by decide))))
  refine g_iloadN C X0 d27_29 rfl (g_iconst 3 C X0 d27_30 rfl (g_icmpn (hI_ne _ _) C X0 d27_31 (fun _ => ?_) (fun q => absurd q (by decide))))
  refine g_iloadN C X0 d27_39 rfl (g_iconst 4 C X0 d27_40 rfl (g_icmpn (hI_ne _ _) C X0 d27_41 (fun q => absurd (by decide) q) (fun _ => ?_)))
  refine g_bipush 110 C X0 d27_44 rfl (g_goto C X0 d27_46 (g_istoreN C X0 d27_72 (l' := #[.val (.int 4), .val (.int cb), .val (.int 110)]) rfl (g_iloadN C X0 d27_73 rfl (g_iloadN C X0 d27_74 rfl (g_ishr C X0 d27_75 (g_iconst 1 C X0 d27_76 rfl (g_iand C X0 d27_77 (g_if (h0_eq _) C X0 d27_78 (fun c78_20 => ?_) (fun c78_20 => ?_)))))))))
  · refine g_iloadN C X0 d27_87 rfl ?_
    exact g_retN C X0 (by simp) d27_88 (110 : Int32) rfl (by decide) (by decide) ⟨_, rfl, Or.inl rfl, rfl⟩
  · refine g_iloadN C X0 d27_81 rfl (g_bipush 32 C X0 d27_82 rfl (g_isub C X0 d27_84 (g_i2c C X0 d27_85 ?_)))
    exact g_retN C X0 (by simp) d27_86 (78 : Int32) rfl (by decide) (by decide) ⟨_, rfl, Or.inr rfl, rfl⟩
theorem ef_rLe5 (m : MethodId) (cb : Int32) : entryFrame m #[(.int 5), (.int cb)] 3 = mkF m 0 #[.val (.int 5), .val (.int cb), .unset] [] := by first | (simp [entryFrame, mkF, argsToLocals, Value.category]; done) | rfl
theorem d27_49 : Dc method_5_code 49 (.iload_n 0) 1 50 := by decide +kernel
theorem d27_50 : Dc method_5_code 50 (.iconst 5) 1 51 := by decide +kernel
theorem d27_51 : Dj method_5_code 51 (.if_icmp .ne 8) 8 3 54 59 := by decide +kernel
theorem d27_54 : Dc method_5_code 54 (.bipush 105) 2 56 := by decide +kernel
theorem d27_56 : Dj method_5_code 56 (.goto 16) 16 3 59 72 := by decide +kernel
theorem rLe5 (l : Launch) {Z : State} {a0 : Array Value} (hw : ∀ d ∈ tables_1, d.before a0 Z = true) {h : Heap} (hE : Ext Z.heap h) (cb : Int32)   :
    Con l (⟨"com/example/synctoken/synctoken/dav/DepthParsePinLaw", "letter", "(II)C"⟩ : MethodName) method_5_code 3 (some .char) [] ({ frames := 0, cells := 0, slots := 0, locals := 0 } : Room) Z #[(.int 5), (.int cb)] h (fun v' h' => ∃ y : Int32, v' = some (.int y) ∧ (y = (105 : Int32) ∨ y = (73 : Int32)) ∧ h' = h) := by
  refine con_of (plainFor_of_name pn_2) hE (fun m => ef_rLe5 m cb) ?_
  intro p e s m below meth c T0 C X0
  have C : Cx p s m meth c Z "com/example/synctoken/synctoken/dav/DepthParsePinLaw" "letter" method_5_code 3 (some .char) := C
  show Goes p e below _ T0 (mkF m 0 #[.val (.int 5), .val (.int cb), .unset] [])
  refine g_iloadN C X0 d27_0 rfl (g_ifn (h0_ne _) C X0 d27_1 (fun _ => ?_) (fun q => absurd q (by decide)))
  refine g_iloadN C X0 d27_9 rfl (g_iconst 1 C X0 d27_10 rfl (g_icmpn (hI_ne _ _) C X0 d27_11 (fun _ => ?_) (fun q => absurd q (by decide))))
  refine g_iloadN C X0 d27_19 rfl (g_iconst 2 C X0 d27_20 rfl (g_icmpn (hI_ne _ _) C X0 d27_21 (fun _ => ?_) (fun q => absurd q (by decide))))
  refine g_iloadN C X0 d27_29 rfl (g_iconst 3 C X0 d27_30 rfl (g_icmpn (hI_ne _ _) C X0 d27_31 (fun _ => ?_) (fun q => absurd q (by decide))))
  refine g_iloadN C X0 d27_39 rfl (g_iconst 4 C X0 d27_40 rfl (g_icmpn (hI_ne _ _) C X0 d27_41 (fun _ => ?_) (fun q => absurd q (by decide))))
  refine g_iloadN C X0 d27_49 rfl (g_iconst 5 C X0 d27_50 rfl (g_icmpn (hI_ne _ _) C X0 d27_51 (fun q => absurd (by decide) q) (fun _ => ?_)))
  refine g_bipush 105 C X0 d27_54 rfl (g_goto C X0 d27_56 (g_istoreN C X0 d27_72 (l' := #[.val (.int 5), .val (.int cb), .val (.int 105)]) rfl (g_iloadN C X0 d27_73 rfl (g_iloadN C X0 d27_74 rfl (g_ishr C X0 d27_75 (g_iconst 1 C X0 d27_76 rfl (g_iand C X0 d27_77 (g_if (h0_eq _) C X0 d27_78 (fun c78_21 => ?_) (fun c78_21 => ?_)))))))))
  · refine g_iloadN C X0 d27_87 rfl ?_
    exact g_retN C X0 (by simp) d27_88 (105 : Int32) rfl (by decide) (by decide) ⟨_, rfl, Or.inl rfl, rfl⟩
  · refine g_iloadN C X0 d27_81 rfl (g_bipush 32 C X0 d27_82 rfl (g_isub C X0 d27_84 (g_i2c C X0 d27_85 ?_)))
    exact g_retN C X0 (by simp) d27_86 (73 : Int32) rfl (by decide) (by decide) ⟨_, rfl, Or.inr rfl, rfl⟩
theorem ef_rLe6 (m : MethodId) (cb : Int32) : entryFrame m #[(.int 6), (.int cb)] 3 = mkF m 0 #[.val (.int 6), .val (.int cb), .unset] [] := by first | (simp [entryFrame, mkF, argsToLocals, Value.category]; done) | rfl
theorem d27_59 : Dc method_5_code 59 (.iload_n 0) 1 60 := by decide +kernel
theorem d27_60 : Dc method_5_code 60 (.bipush 6) 2 62 := by decide +kernel
theorem d27_62 : Dj method_5_code 62 (.if_icmp .ne 8) 8 3 65 70 := by decide +kernel
theorem d27_65 : Dc method_5_code 65 (.bipush 116) 2 67 := by decide +kernel
theorem d27_67 : Dj method_5_code 67 (.goto 5) 5 3 70 72 := by decide +kernel
theorem rLe6 (l : Launch) {Z : State} {a0 : Array Value} (hw : ∀ d ∈ tables_1, d.before a0 Z = true) {h : Heap} (hE : Ext Z.heap h) (cb : Int32)   :
    Con l (⟨"com/example/synctoken/synctoken/dav/DepthParsePinLaw", "letter", "(II)C"⟩ : MethodName) method_5_code 3 (some .char) [] ({ frames := 0, cells := 0, slots := 0, locals := 0 } : Room) Z #[(.int 6), (.int cb)] h (fun v' h' => ∃ y : Int32, v' = some (.int y) ∧ (y = (116 : Int32) ∨ y = (84 : Int32)) ∧ h' = h) := by
  refine con_of (plainFor_of_name pn_2) hE (fun m => ef_rLe6 m cb) ?_
  intro p e s m below meth c T0 C X0
  have C : Cx p s m meth c Z "com/example/synctoken/synctoken/dav/DepthParsePinLaw" "letter" method_5_code 3 (some .char) := C
  show Goes p e below _ T0 (mkF m 0 #[.val (.int 6), .val (.int cb), .unset] [])
  refine g_iloadN C X0 d27_0 rfl (g_ifn (h0_ne _) C X0 d27_1 (fun _ => ?_) (fun q => absurd q (by decide)))
  refine g_iloadN C X0 d27_9 rfl (g_iconst 1 C X0 d27_10 rfl (g_icmpn (hI_ne _ _) C X0 d27_11 (fun _ => ?_) (fun q => absurd q (by decide))))
  refine g_iloadN C X0 d27_19 rfl (g_iconst 2 C X0 d27_20 rfl (g_icmpn (hI_ne _ _) C X0 d27_21 (fun _ => ?_) (fun q => absurd q (by decide))))
  refine g_iloadN C X0 d27_29 rfl (g_iconst 3 C X0 d27_30 rfl (g_icmpn (hI_ne _ _) C X0 d27_31 (fun _ => ?_) (fun q => absurd q (by decide))))
  refine g_iloadN C X0 d27_39 rfl (g_iconst 4 C X0 d27_40 rfl (g_icmpn (hI_ne _ _) C X0 d27_41 (fun _ => ?_) (fun q => absurd q (by decide))))
  refine g_iloadN C X0 d27_49 rfl (g_iconst 5 C X0 d27_50 rfl (g_icmpn (hI_ne _ _) C X0 d27_51 (fun _ => ?_) (fun q => absurd q (by decide))))
  refine g_iloadN C X0 d27_59 rfl (g_bipush 6 C X0 d27_60 rfl (g_icmpn (hI_ne _ _) C X0 d27_62 (fun q => absurd (by decide) q) (fun _ => ?_)))
  refine g_bipush 116 C X0 d27_65 rfl (g_goto C X0 d27_67 (g_istoreN C X0 d27_72 (l' := #[.val (.int 6), .val (.int cb), .val (.int 116)]) rfl (g_iloadN C X0 d27_73 rfl (g_iloadN C X0 d27_74 rfl (g_ishr C X0 d27_75 (g_iconst 1 C X0 d27_76 rfl (g_iand C X0 d27_77 (g_if (h0_eq _) C X0 d27_78 (fun c78_22 => ?_) (fun c78_22 => ?_)))))))))
  · refine g_iloadN C X0 d27_87 rfl ?_
    exact g_retN C X0 (by simp) d27_88 (116 : Int32) rfl (by decide) (by decide) ⟨_, rfl, Or.inl rfl, rfl⟩
  · refine g_iloadN C X0 d27_81 rfl (g_bipush 32 C X0 d27_82 rfl (g_isub C X0 d27_84 (g_i2c C X0 d27_85 ?_)))
    exact g_retN C X0 (by simp) d27_86 (84 : Int32) rfl (by decide) (by decide) ⟨_, rfl, Or.inr rfl, rfl⟩
theorem ef_rLe7 (m : MethodId) (cb : Int32) : entryFrame m #[(.int 7), (.int cb)] 3 = mkF m 0 #[.val (.int 7), .val (.int cb), .unset] [] := by first | (simp [entryFrame, mkF, argsToLocals, Value.category]; done) | rfl
theorem d27_70 : Dc method_5_code 70 (.bipush 121) 2 72 := by decide +kernel
theorem rLe7 (l : Launch) {Z : State} {a0 : Array Value} (hw : ∀ d ∈ tables_1, d.before a0 Z = true) {h : Heap} (hE : Ext Z.heap h) (cb : Int32)   :
    Con l (⟨"com/example/synctoken/synctoken/dav/DepthParsePinLaw", "letter", "(II)C"⟩ : MethodName) method_5_code 3 (some .char) [] ({ frames := 0, cells := 0, slots := 0, locals := 0 } : Room) Z #[(.int 7), (.int cb)] h (fun v' h' => ∃ y : Int32, v' = some (.int y) ∧ (y = (121 : Int32) ∨ y = (89 : Int32)) ∧ h' = h) := by
  refine con_of (plainFor_of_name pn_2) hE (fun m => ef_rLe7 m cb) ?_
  intro p e s m below meth c T0 C X0
  have C : Cx p s m meth c Z "com/example/synctoken/synctoken/dav/DepthParsePinLaw" "letter" method_5_code 3 (some .char) := C
  show Goes p e below _ T0 (mkF m 0 #[.val (.int 7), .val (.int cb), .unset] [])
  refine g_iloadN C X0 d27_0 rfl (g_ifn (h0_ne _) C X0 d27_1 (fun _ => ?_) (fun q => absurd q (by decide)))
  refine g_iloadN C X0 d27_9 rfl (g_iconst 1 C X0 d27_10 rfl (g_icmpn (hI_ne _ _) C X0 d27_11 (fun _ => ?_) (fun q => absurd q (by decide))))
  refine g_iloadN C X0 d27_19 rfl (g_iconst 2 C X0 d27_20 rfl (g_icmpn (hI_ne _ _) C X0 d27_21 (fun _ => ?_) (fun q => absurd q (by decide))))
  refine g_iloadN C X0 d27_29 rfl (g_iconst 3 C X0 d27_30 rfl (g_icmpn (hI_ne _ _) C X0 d27_31 (fun _ => ?_) (fun q => absurd q (by decide))))
  refine g_iloadN C X0 d27_39 rfl (g_iconst 4 C X0 d27_40 rfl (g_icmpn (hI_ne _ _) C X0 d27_41 (fun _ => ?_) (fun q => absurd q (by decide))))
  refine g_iloadN C X0 d27_49 rfl (g_iconst 5 C X0 d27_50 rfl (g_icmpn (hI_ne _ _) C X0 d27_51 (fun _ => ?_) (fun q => absurd q (by decide))))
  refine g_iloadN C X0 d27_59 rfl (g_bipush 6 C X0 d27_60 rfl (g_icmpn (hI_ne _ _) C X0 d27_62 (fun _ => ?_) (fun q => absurd q (by decide))))
  refine g_bipush 121 C X0 d27_70 rfl (g_istoreN C X0 d27_72 (l' := #[.val (.int 7), .val (.int cb), .val (.int 121)]) rfl (g_iloadN C X0 d27_73 rfl (g_iloadN C X0 d27_74 rfl (g_ishr C X0 d27_75 (g_iconst 1 C X0 d27_76 rfl (g_iand C X0 d27_77 (g_if (h0_eq _) C X0 d27_78 (fun c78_23 => ?_) (fun c78_23 => ?_))))))))
  · refine g_iloadN C X0 d27_87 rfl ?_
    exact g_retN C X0 (by simp) d27_88 (121 : Int32) rfl (by decide) (by decide) ⟨_, rfl, Or.inl rfl, rfl⟩
  · refine g_iloadN C X0 d27_81 rfl (g_bipush 32 C X0 d27_82 rfl (g_isub C X0 d27_84 (g_i2c C X0 d27_85 ?_)))
    exact g_retN C X0 (by simp) d27_86 (89 : Int32) rfl (by decide) (by decide) ⟨_, rfl, Or.inr rfl, rfl⟩
theorem ef_rAt001 (m : MethodId) (cb : Int32) (lc : Int32) (tc : Int32) : entryFrame m #[(.int 0), (.int 0), (.int 1), (.int 1), (.int cb), (.int lc), (.int tc)] 8 = mkF m 0 #[.val (.int 0), .val (.int 0), .val (.int 1), .val (.int 1), .val (.int cb), .val (.int lc), .val (.int tc), .unset] [] := by first | (simp [entryFrame, mkF, argsToLocals, Value.category]; done) | rfl
theorem d5_0 : Dc method_4_code 0 (.iload_n 0) 1 1 := by decide +kernel
theorem d5_1 : Dc method_4_code 1 (.iload_n 1) 1 2 := by decide +kernel
theorem d5_2 : Dj method_4_code 2 (.if_icmp .ge 6) 6 3 5 8 := by decide +kernel
theorem d5_8 : Dc method_4_code 8 (.iload_n 0) 1 9 := by decide +kernel
theorem d5_9 : Dc method_4_code 9 (.iload_n 1) 1 10 := by decide +kernel
theorem d5_10 : Dc method_4_code 10 (.isub) 1 11 := by decide +kernel
theorem d5_11 : Dc method_4_code 11 (.istore 7) 2 13 := by decide +kernel
theorem d5_13 : Dc method_4_code 13 (.iload 7) 2 15 := by decide +kernel
theorem d5_15 : Dc method_4_code 15 (.iload_n 2) 1 16 := by decide +kernel
theorem d5_16 : Dj method_4_code 16 (.if_icmp .lt 6) 6 3 19 22 := by decide +kernel
theorem d5_22 : Dc method_4_code 22 (.iload_n 3) 1 23 := by decide +kernel
theorem d5_23 : Dc method_4_code 23 (.iconst 1) 1 24 := by decide +kernel
theorem d5_24 : Dj method_4_code 24 (.if_icmp .ne 6) 6 3 27 30 := by decide +kernel
theorem d5_27 : Dc method_4_code 27 (.bipush 48) 2 29 := by decide +kernel
theorem d5_29 : Dc method_4_code 29 (.ireturn) 1 30 := by decide +kernel
theorem rAt001 (l : Launch) {Z : State} {a0 : Array Value} (hw : ∀ d ∈ tables_1, d.before a0 Z = true) {h : Heap} (hE : Ext Z.heap h) (cb : Int32) (lc : Int32) (tc : Int32)  (hlc : (¬ lc < 0 ∧ ¬ (32 : Int32) < lc)) (htc : (¬ tc < 0 ∧ ¬ (32 : Int32) < tc)) :
    Con l (⟨"com/example/synctoken/synctoken/dav/DepthParsePinLaw", "at", "(IIIIICC)C"⟩ : MethodName) method_4_code 8 (some .char) [] ({ frames := 1, cells := 0, slots := 0, locals := 24 } : Room) Z #[(.int 0), (.int 0), (.int 1), (.int 1), (.int cb), (.int lc), (.int tc)] h (fun v' h' => v' = some (.int 48) ∧ h' = h) := by
  refine con_of (plainFor_of_name pn_2) hE (fun m => ef_rAt001 m cb lc tc) ?_
  intro p e s m below meth c T0 C X0
  have C : Cx p s m meth c Z "com/example/synctoken/synctoken/dav/DepthParsePinLaw" "at" method_4_code 8 (some .char) := C
  show Goes p e below _ T0 (mkF m 0 #[.val (.int 0), .val (.int 0), .val (.int 1), .val (.int 1), .val (.int cb), .val (.int lc), .val (.int tc), .unset] [])
  refine g_iloadN C X0 d5_0 rfl (g_iloadN C X0 d5_1 rfl (g_icmpn (hI_ge _ _) C X0 d5_2 (fun _ => ?_) (fun q => absurd q (by decide))))
  refine g_iloadN C X0 d5_8 rfl (g_iloadN C X0 d5_9 rfl (g_isub C X0 d5_10 (g_istore C X0 d5_11 (l' := #[.val (.int 0), .val (.int 0), .val (.int 1), .val (.int 1), .val (.int cb), .val (.int lc), .val (.int tc), .val (.int 0)]) rfl (g_iload C X0 d5_13 rfl (g_iloadN C X0 d5_15 rfl (g_icmp (hI_lt _ _) C X0 d5_16 (fun _ => ?_) (fun q => absurd (by decide) q)))))))
  refine g_iloadN C X0 d5_22 rfl (g_iconst 1 C X0 d5_23 rfl (g_icmpn (hI_ne _ _) C X0 d5_24 (fun q => absurd (by decide) q) (fun _ => ?_)))
  refine g_bipush 48 C X0 d5_27 rfl ?_
  exact g_retN C X0 (by simp) d5_29 (48 : Int32) rfl (by decide) (by decide) ⟨rfl, rfl⟩
theorem ef_rAt101 (m : MethodId) (cb : Int32) (lc : Int32) (tc : Int32) : entryFrame m #[(.int 1), (.int 0), (.int 1), (.int 1), (.int cb), (.int lc), (.int tc)] 8 = mkF m 0 #[.val (.int 1), .val (.int 0), .val (.int 1), .val (.int 1), .val (.int cb), .val (.int lc), .val (.int tc), .unset] [] := by first | (simp [entryFrame, mkF, argsToLocals, Value.category]; done) | rfl
theorem d5_19 : Dc method_4_code 19 (.iload 6) 2 21 := by decide +kernel
theorem d5_21 : Dc method_4_code 21 (.ireturn) 1 22 := by decide +kernel
theorem rAt101 (l : Launch) {Z : State} {a0 : Array Value} (hw : ∀ d ∈ tables_1, d.before a0 Z = true) {h : Heap} (hE : Ext Z.heap h) (cb : Int32) (lc : Int32) (tc : Int32)  (hlc : (¬ lc < 0 ∧ ¬ (32 : Int32) < lc)) (htc : (¬ tc < 0 ∧ ¬ (32 : Int32) < tc)) :
    Con l (⟨"com/example/synctoken/synctoken/dav/DepthParsePinLaw", "at", "(IIIIICC)C"⟩ : MethodName) method_4_code 8 (some .char) [] ({ frames := 1, cells := 0, slots := 0, locals := 24 } : Room) Z #[(.int 1), (.int 0), (.int 1), (.int 1), (.int cb), (.int lc), (.int tc)] h (fun v' h' => v' = some (.int tc) ∧ h' = h) := by
  refine con_of (plainFor_of_name pn_2) hE (fun m => ef_rAt101 m cb lc tc) ?_
  intro p e s m below meth c T0 C X0
  have C : Cx p s m meth c Z "com/example/synctoken/synctoken/dav/DepthParsePinLaw" "at" method_4_code 8 (some .char) := C
  show Goes p e below _ T0 (mkF m 0 #[.val (.int 1), .val (.int 0), .val (.int 1), .val (.int 1), .val (.int cb), .val (.int lc), .val (.int tc), .unset] [])
  refine g_iloadN C X0 d5_0 rfl (g_iloadN C X0 d5_1 rfl (g_icmpn (hI_ge _ _) C X0 d5_2 (fun _ => ?_) (fun q => absurd q (by decide))))
  refine g_iloadN C X0 d5_8 rfl (g_iloadN C X0 d5_9 rfl (g_isub C X0 d5_10 (g_istore C X0 d5_11 (l' := #[.val (.int 1), .val (.int 0), .val (.int 1), .val (.int 1), .val (.int cb), .val (.int lc), .val (.int tc), .val (.int 1)]) rfl (g_iload C X0 d5_13 rfl (g_iloadN C X0 d5_15 rfl (g_icmp (hI_lt _ _) C X0 d5_16 (fun q => absurd q (by decide)) (fun _ => ?_)))))))
  refine g_iload C X0 d5_19 rfl ?_
  exact g_retN C X0 (by simp) d5_21 tc (Value.int.inj (own_nar (own_127 (own_sp htc)))) (by decide) (by decide) ⟨rfl, rfl⟩
theorem ef_rAt011 (m : MethodId) (cb : Int32) (lc : Int32) (tc : Int32) : entryFrame m #[(.int 0), (.int 1), (.int 1), (.int 1), (.int cb), (.int lc), (.int tc)] 8 = mkF m 0 #[.val (.int 0), .val (.int 1), .val (.int 1), .val (.int 1), .val (.int cb), .val (.int lc), .val (.int tc), .unset] [] := by first | (simp [entryFrame, mkF, argsToLocals, Value.category]; done) | rfl
theorem d5_5 : Dc method_4_code 5 (.iload 5) 2 7 := by decide +kernel
theorem d5_7 : Dc method_4_code 7 (.ireturn) 1 8 := by decide +kernel
theorem rAt011 (l : Launch) {Z : State} {a0 : Array Value} (hw : ∀ d ∈ tables_1, d.before a0 Z = true) {h : Heap} (hE : Ext Z.heap h) (cb : Int32) (lc : Int32) (tc : Int32)  (hlc : (¬ lc < 0 ∧ ¬ (32 : Int32) < lc)) (htc : (¬ tc < 0 ∧ ¬ (32 : Int32) < tc)) :
    Con l (⟨"com/example/synctoken/synctoken/dav/DepthParsePinLaw", "at", "(IIIIICC)C"⟩ : MethodName) method_4_code 8 (some .char) [] ({ frames := 1, cells := 0, slots := 0, locals := 24 } : Room) Z #[(.int 0), (.int 1), (.int 1), (.int 1), (.int cb), (.int lc), (.int tc)] h (fun v' h' => v' = some (.int lc) ∧ h' = h) := by
  refine con_of (plainFor_of_name pn_2) hE (fun m => ef_rAt011 m cb lc tc) ?_
  intro p e s m below meth c T0 C X0
  have C : Cx p s m meth c Z "com/example/synctoken/synctoken/dav/DepthParsePinLaw" "at" method_4_code 8 (some .char) := C
  show Goes p e below _ T0 (mkF m 0 #[.val (.int 0), .val (.int 1), .val (.int 1), .val (.int 1), .val (.int cb), .val (.int lc), .val (.int tc), .unset] [])
  refine g_iloadN C X0 d5_0 rfl (g_iloadN C X0 d5_1 rfl (g_icmpn (hI_ge _ _) C X0 d5_2 (fun q => absurd (by decide) q) (fun _ => ?_)))
  refine g_iload C X0 d5_5 rfl ?_
  exact g_retN C X0 (by simp) d5_7 lc (Value.int.inj (own_nar (own_127 (own_sp hlc)))) (by decide) (by decide) ⟨rfl, rfl⟩
theorem ef_rAt111 (m : MethodId) (cb : Int32) (lc : Int32) (tc : Int32) : entryFrame m #[(.int 1), (.int 1), (.int 1), (.int 1), (.int cb), (.int lc), (.int tc)] 8 = mkF m 0 #[.val (.int 1), .val (.int 1), .val (.int 1), .val (.int 1), .val (.int cb), .val (.int lc), .val (.int tc), .unset] [] := by first | (simp [entryFrame, mkF, argsToLocals, Value.category]; done) | rfl
theorem rAt111 (l : Launch) {Z : State} {a0 : Array Value} (hw : ∀ d ∈ tables_1, d.before a0 Z = true) {h : Heap} (hE : Ext Z.heap h) (cb : Int32) (lc : Int32) (tc : Int32)  (hlc : (¬ lc < 0 ∧ ¬ (32 : Int32) < lc)) (htc : (¬ tc < 0 ∧ ¬ (32 : Int32) < tc)) :
    Con l (⟨"com/example/synctoken/synctoken/dav/DepthParsePinLaw", "at", "(IIIIICC)C"⟩ : MethodName) method_4_code 8 (some .char) [] ({ frames := 1, cells := 0, slots := 0, locals := 24 } : Room) Z #[(.int 1), (.int 1), (.int 1), (.int 1), (.int cb), (.int lc), (.int tc)] h (fun v' h' => v' = some (.int 48) ∧ h' = h) := by
  refine con_of (plainFor_of_name pn_2) hE (fun m => ef_rAt111 m cb lc tc) ?_
  intro p e s m below meth c T0 C X0
  have C : Cx p s m meth c Z "com/example/synctoken/synctoken/dav/DepthParsePinLaw" "at" method_4_code 8 (some .char) := C
  show Goes p e below _ T0 (mkF m 0 #[.val (.int 1), .val (.int 1), .val (.int 1), .val (.int 1), .val (.int cb), .val (.int lc), .val (.int tc), .unset] [])
  refine g_iloadN C X0 d5_0 rfl (g_iloadN C X0 d5_1 rfl (g_icmpn (hI_ge _ _) C X0 d5_2 (fun _ => ?_) (fun q => absurd q (by decide))))
  refine g_iloadN C X0 d5_8 rfl (g_iloadN C X0 d5_9 rfl (g_isub C X0 d5_10 (g_istore C X0 d5_11 (l' := #[.val (.int 1), .val (.int 1), .val (.int 1), .val (.int 1), .val (.int cb), .val (.int lc), .val (.int tc), .val (.int 0)]) rfl (g_iload C X0 d5_13 rfl (g_iloadN C X0 d5_15 rfl (g_icmp (hI_lt _ _) C X0 d5_16 (fun _ => ?_) (fun q => absurd (by decide) q)))))))
  refine g_iloadN C X0 d5_22 rfl (g_iconst 1 C X0 d5_23 rfl (g_icmpn (hI_ne _ _) C X0 d5_24 (fun q => absurd (by decide) q) (fun _ => ?_)))
  refine g_bipush 48 C X0 d5_27 rfl ?_
  exact g_retN C X0 (by simp) d5_29 (48 : Int32) rfl (by decide) (by decide) ⟨rfl, rfl⟩
theorem ef_rAt211 (m : MethodId) (cb : Int32) (lc : Int32) (tc : Int32) : entryFrame m #[(.int 2), (.int 1), (.int 1), (.int 1), (.int cb), (.int lc), (.int tc)] 8 = mkF m 0 #[.val (.int 2), .val (.int 1), .val (.int 1), .val (.int 1), .val (.int cb), .val (.int lc), .val (.int tc), .unset] [] := by first | (simp [entryFrame, mkF, argsToLocals, Value.category]; done) | rfl
theorem rAt211 (l : Launch) {Z : State} {a0 : Array Value} (hw : ∀ d ∈ tables_1, d.before a0 Z = true) {h : Heap} (hE : Ext Z.heap h) (cb : Int32) (lc : Int32) (tc : Int32)  (hlc : (¬ lc < 0 ∧ ¬ (32 : Int32) < lc)) (htc : (¬ tc < 0 ∧ ¬ (32 : Int32) < tc)) :
    Con l (⟨"com/example/synctoken/synctoken/dav/DepthParsePinLaw", "at", "(IIIIICC)C"⟩ : MethodName) method_4_code 8 (some .char) [] ({ frames := 1, cells := 0, slots := 0, locals := 24 } : Room) Z #[(.int 2), (.int 1), (.int 1), (.int 1), (.int cb), (.int lc), (.int tc)] h (fun v' h' => v' = some (.int tc) ∧ h' = h) := by
  refine con_of (plainFor_of_name pn_2) hE (fun m => ef_rAt211 m cb lc tc) ?_
  intro p e s m below meth c T0 C X0
  have C : Cx p s m meth c Z "com/example/synctoken/synctoken/dav/DepthParsePinLaw" "at" method_4_code 8 (some .char) := C
  show Goes p e below _ T0 (mkF m 0 #[.val (.int 2), .val (.int 1), .val (.int 1), .val (.int 1), .val (.int cb), .val (.int lc), .val (.int tc), .unset] [])
  refine g_iloadN C X0 d5_0 rfl (g_iloadN C X0 d5_1 rfl (g_icmpn (hI_ge _ _) C X0 d5_2 (fun _ => ?_) (fun q => absurd q (by decide))))
  refine g_iloadN C X0 d5_8 rfl (g_iloadN C X0 d5_9 rfl (g_isub C X0 d5_10 (g_istore C X0 d5_11 (l' := #[.val (.int 2), .val (.int 1), .val (.int 1), .val (.int 1), .val (.int cb), .val (.int lc), .val (.int tc), .val (.int 1)]) rfl (g_iload C X0 d5_13 rfl (g_iloadN C X0 d5_15 rfl (g_icmp (hI_lt _ _) C X0 d5_16 (fun q => absurd q (by decide)) (fun _ => ?_)))))))
  refine g_iload C X0 d5_19 rfl ?_
  exact g_retN C X0 (by simp) d5_21 tc (Value.int.inj (own_nar (own_127 (own_sp htc)))) (by decide) (by decide) ⟨rfl, rfl⟩
theorem ef_rAt002 (m : MethodId) (cb : Int32) (lc : Int32) (tc : Int32) : entryFrame m #[(.int 0), (.int 0), (.int 1), (.int 2), (.int cb), (.int lc), (.int tc)] 8 = mkF m 0 #[.val (.int 0), .val (.int 0), .val (.int 1), .val (.int 2), .val (.int cb), .val (.int lc), .val (.int tc), .unset] [] := by first | (simp [entryFrame, mkF, argsToLocals, Value.category]; done) | rfl
theorem d5_30 : Dc method_4_code 30 (.iload_n 3) 1 31 := by decide +kernel
theorem d5_31 : Dc method_4_code 31 (.iconst 2) 1 32 := by decide +kernel
theorem d5_32 : Dj method_4_code 32 (.if_icmp .ne 6) 6 3 35 38 := by decide +kernel
theorem d5_35 : Dc method_4_code 35 (.bipush 49) 2 37 := by decide +kernel
theorem d5_37 : Dc method_4_code 37 (.ireturn) 1 38 := by decide +kernel
theorem rAt002 (l : Launch) {Z : State} {a0 : Array Value} (hw : ∀ d ∈ tables_1, d.before a0 Z = true) {h : Heap} (hE : Ext Z.heap h) (cb : Int32) (lc : Int32) (tc : Int32)  (hlc : (¬ lc < 0 ∧ ¬ (32 : Int32) < lc)) (htc : (¬ tc < 0 ∧ ¬ (32 : Int32) < tc)) :
    Con l (⟨"com/example/synctoken/synctoken/dav/DepthParsePinLaw", "at", "(IIIIICC)C"⟩ : MethodName) method_4_code 8 (some .char) [] ({ frames := 1, cells := 0, slots := 0, locals := 24 } : Room) Z #[(.int 0), (.int 0), (.int 1), (.int 2), (.int cb), (.int lc), (.int tc)] h (fun v' h' => v' = some (.int 49) ∧ h' = h) := by
  refine con_of (plainFor_of_name pn_2) hE (fun m => ef_rAt002 m cb lc tc) ?_
  intro p e s m below meth c T0 C X0
  have C : Cx p s m meth c Z "com/example/synctoken/synctoken/dav/DepthParsePinLaw" "at" method_4_code 8 (some .char) := C
  show Goes p e below _ T0 (mkF m 0 #[.val (.int 0), .val (.int 0), .val (.int 1), .val (.int 2), .val (.int cb), .val (.int lc), .val (.int tc), .unset] [])
  refine g_iloadN C X0 d5_0 rfl (g_iloadN C X0 d5_1 rfl (g_icmpn (hI_ge _ _) C X0 d5_2 (fun _ => ?_) (fun q => absurd q (by decide))))
  refine g_iloadN C X0 d5_8 rfl (g_iloadN C X0 d5_9 rfl (g_isub C X0 d5_10 (g_istore C X0 d5_11 (l' := #[.val (.int 0), .val (.int 0), .val (.int 1), .val (.int 2), .val (.int cb), .val (.int lc), .val (.int tc), .val (.int 0)]) rfl (g_iload C X0 d5_13 rfl (g_iloadN C X0 d5_15 rfl (g_icmp (hI_lt _ _) C X0 d5_16 (fun _ => ?_) (fun q => absurd (by decide) q)))))))
  refine g_iloadN C X0 d5_22 rfl (g_iconst 1 C X0 d5_23 rfl (g_icmpn (hI_ne _ _) C X0 d5_24 (fun _ => ?_) (fun q => absurd q (by decide))))
  refine g_iloadN C X0 d5_30 rfl (g_iconst 2 C X0 d5_31 rfl (g_icmpn (hI_ne _ _) C X0 d5_32 (fun q => absurd (by decide) q) (fun _ => ?_)))
  refine g_bipush 49 C X0 d5_35 rfl ?_
  exact g_retN C X0 (by simp) d5_37 (49 : Int32) rfl (by decide) (by decide) ⟨rfl, rfl⟩
theorem ef_rAt102 (m : MethodId) (cb : Int32) (lc : Int32) (tc : Int32) : entryFrame m #[(.int 1), (.int 0), (.int 1), (.int 2), (.int cb), (.int lc), (.int tc)] 8 = mkF m 0 #[.val (.int 1), .val (.int 0), .val (.int 1), .val (.int 2), .val (.int cb), .val (.int lc), .val (.int tc), .unset] [] := by first | (simp [entryFrame, mkF, argsToLocals, Value.category]; done) | rfl
theorem rAt102 (l : Launch) {Z : State} {a0 : Array Value} (hw : ∀ d ∈ tables_1, d.before a0 Z = true) {h : Heap} (hE : Ext Z.heap h) (cb : Int32) (lc : Int32) (tc : Int32)  (hlc : (¬ lc < 0 ∧ ¬ (32 : Int32) < lc)) (htc : (¬ tc < 0 ∧ ¬ (32 : Int32) < tc)) :
    Con l (⟨"com/example/synctoken/synctoken/dav/DepthParsePinLaw", "at", "(IIIIICC)C"⟩ : MethodName) method_4_code 8 (some .char) [] ({ frames := 1, cells := 0, slots := 0, locals := 24 } : Room) Z #[(.int 1), (.int 0), (.int 1), (.int 2), (.int cb), (.int lc), (.int tc)] h (fun v' h' => v' = some (.int tc) ∧ h' = h) := by
  refine con_of (plainFor_of_name pn_2) hE (fun m => ef_rAt102 m cb lc tc) ?_
  intro p e s m below meth c T0 C X0
  have C : Cx p s m meth c Z "com/example/synctoken/synctoken/dav/DepthParsePinLaw" "at" method_4_code 8 (some .char) := C
  show Goes p e below _ T0 (mkF m 0 #[.val (.int 1), .val (.int 0), .val (.int 1), .val (.int 2), .val (.int cb), .val (.int lc), .val (.int tc), .unset] [])
  refine g_iloadN C X0 d5_0 rfl (g_iloadN C X0 d5_1 rfl (g_icmpn (hI_ge _ _) C X0 d5_2 (fun _ => ?_) (fun q => absurd q (by decide))))
  refine g_iloadN C X0 d5_8 rfl (g_iloadN C X0 d5_9 rfl (g_isub C X0 d5_10 (g_istore C X0 d5_11 (l' := #[.val (.int 1), .val (.int 0), .val (.int 1), .val (.int 2), .val (.int cb), .val (.int lc), .val (.int tc), .val (.int 1)]) rfl (g_iload C X0 d5_13 rfl (g_iloadN C X0 d5_15 rfl (g_icmp (hI_lt _ _) C X0 d5_16 (fun q => absurd q (by decide)) (fun _ => ?_)))))))
  refine g_iload C X0 d5_19 rfl ?_
  exact g_retN C X0 (by simp) d5_21 tc (Value.int.inj (own_nar (own_127 (own_sp htc)))) (by decide) (by decide) ⟨rfl, rfl⟩
theorem ef_rAt012 (m : MethodId) (cb : Int32) (lc : Int32) (tc : Int32) : entryFrame m #[(.int 0), (.int 1), (.int 1), (.int 2), (.int cb), (.int lc), (.int tc)] 8 = mkF m 0 #[.val (.int 0), .val (.int 1), .val (.int 1), .val (.int 2), .val (.int cb), .val (.int lc), .val (.int tc), .unset] [] := by first | (simp [entryFrame, mkF, argsToLocals, Value.category]; done) | rfl
theorem rAt012 (l : Launch) {Z : State} {a0 : Array Value} (hw : ∀ d ∈ tables_1, d.before a0 Z = true) {h : Heap} (hE : Ext Z.heap h) (cb : Int32) (lc : Int32) (tc : Int32)  (hlc : (¬ lc < 0 ∧ ¬ (32 : Int32) < lc)) (htc : (¬ tc < 0 ∧ ¬ (32 : Int32) < tc)) :
    Con l (⟨"com/example/synctoken/synctoken/dav/DepthParsePinLaw", "at", "(IIIIICC)C"⟩ : MethodName) method_4_code 8 (some .char) [] ({ frames := 1, cells := 0, slots := 0, locals := 24 } : Room) Z #[(.int 0), (.int 1), (.int 1), (.int 2), (.int cb), (.int lc), (.int tc)] h (fun v' h' => v' = some (.int lc) ∧ h' = h) := by
  refine con_of (plainFor_of_name pn_2) hE (fun m => ef_rAt012 m cb lc tc) ?_
  intro p e s m below meth c T0 C X0
  have C : Cx p s m meth c Z "com/example/synctoken/synctoken/dav/DepthParsePinLaw" "at" method_4_code 8 (some .char) := C
  show Goes p e below _ T0 (mkF m 0 #[.val (.int 0), .val (.int 1), .val (.int 1), .val (.int 2), .val (.int cb), .val (.int lc), .val (.int tc), .unset] [])
  refine g_iloadN C X0 d5_0 rfl (g_iloadN C X0 d5_1 rfl (g_icmpn (hI_ge _ _) C X0 d5_2 (fun q => absurd (by decide) q) (fun _ => ?_)))
  refine g_iload C X0 d5_5 rfl ?_
  exact g_retN C X0 (by simp) d5_7 lc (Value.int.inj (own_nar (own_127 (own_sp hlc)))) (by decide) (by decide) ⟨rfl, rfl⟩
theorem ef_rAt112 (m : MethodId) (cb : Int32) (lc : Int32) (tc : Int32) : entryFrame m #[(.int 1), (.int 1), (.int 1), (.int 2), (.int cb), (.int lc), (.int tc)] 8 = mkF m 0 #[.val (.int 1), .val (.int 1), .val (.int 1), .val (.int 2), .val (.int cb), .val (.int lc), .val (.int tc), .unset] [] := by first | (simp [entryFrame, mkF, argsToLocals, Value.category]; done) | rfl
theorem rAt112 (l : Launch) {Z : State} {a0 : Array Value} (hw : ∀ d ∈ tables_1, d.before a0 Z = true) {h : Heap} (hE : Ext Z.heap h) (cb : Int32) (lc : Int32) (tc : Int32)  (hlc : (¬ lc < 0 ∧ ¬ (32 : Int32) < lc)) (htc : (¬ tc < 0 ∧ ¬ (32 : Int32) < tc)) :
    Con l (⟨"com/example/synctoken/synctoken/dav/DepthParsePinLaw", "at", "(IIIIICC)C"⟩ : MethodName) method_4_code 8 (some .char) [] ({ frames := 1, cells := 0, slots := 0, locals := 24 } : Room) Z #[(.int 1), (.int 1), (.int 1), (.int 2), (.int cb), (.int lc), (.int tc)] h (fun v' h' => v' = some (.int 49) ∧ h' = h) := by
  refine con_of (plainFor_of_name pn_2) hE (fun m => ef_rAt112 m cb lc tc) ?_
  intro p e s m below meth c T0 C X0
  have C : Cx p s m meth c Z "com/example/synctoken/synctoken/dav/DepthParsePinLaw" "at" method_4_code 8 (some .char) := C
  show Goes p e below _ T0 (mkF m 0 #[.val (.int 1), .val (.int 1), .val (.int 1), .val (.int 2), .val (.int cb), .val (.int lc), .val (.int tc), .unset] [])
  refine g_iloadN C X0 d5_0 rfl (g_iloadN C X0 d5_1 rfl (g_icmpn (hI_ge _ _) C X0 d5_2 (fun _ => ?_) (fun q => absurd q (by decide))))
  refine g_iloadN C X0 d5_8 rfl (g_iloadN C X0 d5_9 rfl (g_isub C X0 d5_10 (g_istore C X0 d5_11 (l' := #[.val (.int 1), .val (.int 1), .val (.int 1), .val (.int 2), .val (.int cb), .val (.int lc), .val (.int tc), .val (.int 0)]) rfl (g_iload C X0 d5_13 rfl (g_iloadN C X0 d5_15 rfl (g_icmp (hI_lt _ _) C X0 d5_16 (fun _ => ?_) (fun q => absurd (by decide) q)))))))
  refine g_iloadN C X0 d5_22 rfl (g_iconst 1 C X0 d5_23 rfl (g_icmpn (hI_ne _ _) C X0 d5_24 (fun _ => ?_) (fun q => absurd q (by decide))))
  refine g_iloadN C X0 d5_30 rfl (g_iconst 2 C X0 d5_31 rfl (g_icmpn (hI_ne _ _) C X0 d5_32 (fun q => absurd (by decide) q) (fun _ => ?_)))
  refine g_bipush 49 C X0 d5_35 rfl ?_
  exact g_retN C X0 (by simp) d5_37 (49 : Int32) rfl (by decide) (by decide) ⟨rfl, rfl⟩
theorem ef_rAt212 (m : MethodId) (cb : Int32) (lc : Int32) (tc : Int32) : entryFrame m #[(.int 2), (.int 1), (.int 1), (.int 2), (.int cb), (.int lc), (.int tc)] 8 = mkF m 0 #[.val (.int 2), .val (.int 1), .val (.int 1), .val (.int 2), .val (.int cb), .val (.int lc), .val (.int tc), .unset] [] := by first | (simp [entryFrame, mkF, argsToLocals, Value.category]; done) | rfl
theorem rAt212 (l : Launch) {Z : State} {a0 : Array Value} (hw : ∀ d ∈ tables_1, d.before a0 Z = true) {h : Heap} (hE : Ext Z.heap h) (cb : Int32) (lc : Int32) (tc : Int32)  (hlc : (¬ lc < 0 ∧ ¬ (32 : Int32) < lc)) (htc : (¬ tc < 0 ∧ ¬ (32 : Int32) < tc)) :
    Con l (⟨"com/example/synctoken/synctoken/dav/DepthParsePinLaw", "at", "(IIIIICC)C"⟩ : MethodName) method_4_code 8 (some .char) [] ({ frames := 1, cells := 0, slots := 0, locals := 24 } : Room) Z #[(.int 2), (.int 1), (.int 1), (.int 2), (.int cb), (.int lc), (.int tc)] h (fun v' h' => v' = some (.int tc) ∧ h' = h) := by
  refine con_of (plainFor_of_name pn_2) hE (fun m => ef_rAt212 m cb lc tc) ?_
  intro p e s m below meth c T0 C X0
  have C : Cx p s m meth c Z "com/example/synctoken/synctoken/dav/DepthParsePinLaw" "at" method_4_code 8 (some .char) := C
  show Goes p e below _ T0 (mkF m 0 #[.val (.int 2), .val (.int 1), .val (.int 1), .val (.int 2), .val (.int cb), .val (.int lc), .val (.int tc), .unset] [])
  refine g_iloadN C X0 d5_0 rfl (g_iloadN C X0 d5_1 rfl (g_icmpn (hI_ge _ _) C X0 d5_2 (fun _ => ?_) (fun q => absurd q (by decide))))
  refine g_iloadN C X0 d5_8 rfl (g_iloadN C X0 d5_9 rfl (g_isub C X0 d5_10 (g_istore C X0 d5_11 (l' := #[.val (.int 2), .val (.int 1), .val (.int 1), .val (.int 2), .val (.int cb), .val (.int lc), .val (.int tc), .val (.int 1)]) rfl (g_iload C X0 d5_13 rfl (g_iloadN C X0 d5_15 rfl (g_icmp (hI_lt _ _) C X0 d5_16 (fun q => absurd q (by decide)) (fun _ => ?_)))))))
  refine g_iload C X0 d5_19 rfl ?_
  exact g_retN C X0 (by simp) d5_21 tc (Value.int.inj (own_nar (own_127 (own_sp htc)))) (by decide) (by decide) ⟨rfl, rfl⟩
theorem ef_rAt003 (m : MethodId) (cb : Int32) (lc : Int32) (tc : Int32) : entryFrame m #[(.int 0), (.int 0), (.int 8), (.int 3), (.int cb), (.int lc), (.int tc)] 8 = mkF m 0 #[.val (.int 0), .val (.int 0), .val (.int 8), .val (.int 3), .val (.int cb), .val (.int lc), .val (.int tc), .unset] [] := by first | (simp [entryFrame, mkF, argsToLocals, Value.category]; done) | rfl
theorem d5_38 : Dc method_4_code 38 (.iload 7) 2 40 := by decide +kernel
theorem d5_40 : Dc method_4_code 40 (.iload 4) 2 42 := by decide +kernel
theorem d5_42 : Dc method_4_code 42 (.invokestatic 49) 3 45 := by decide +kernel
theorem pd_2 : parseMethodDescriptor "(II)C" = some ⟨[.int, .int], some .char⟩ := by decide +kernel
theorem d5_45 : Dc method_4_code 45 (.ireturn) 1 46 := by decide +kernel
theorem rAt003 (l : Launch) {Z : State} {a0 : Array Value} (hw : ∀ d ∈ tables_1, d.before a0 Z = true) {h : Heap} (hE : Ext Z.heap h) (cb : Int32) (lc : Int32) (tc : Int32)  (hlc : (¬ lc < 0 ∧ ¬ (32 : Int32) < lc)) (htc : (¬ tc < 0 ∧ ¬ (32 : Int32) < tc)) :
    Con l (⟨"com/example/synctoken/synctoken/dav/DepthParsePinLaw", "at", "(IIIIICC)C"⟩ : MethodName) method_4_code 8 (some .char) [] ({ frames := 1, cells := 0, slots := 0, locals := 24 } : Room) Z #[(.int 0), (.int 0), (.int 8), (.int 3), (.int cb), (.int lc), (.int tc)] h (fun v' h' => ∃ y : Int32, v' = some (.int y) ∧ (y = (105 : Int32) ∨ y = (73 : Int32)) ∧ h' = h) := by
  refine con_of (plainFor_of_name pn_2) hE (fun m => ef_rAt003 m cb lc tc) ?_
  intro p e s m below meth c T0 C X0
  have C : Cx p s m meth c Z "com/example/synctoken/synctoken/dav/DepthParsePinLaw" "at" method_4_code 8 (some .char) := C
  show Goes p e below _ T0 (mkF m 0 #[.val (.int 0), .val (.int 0), .val (.int 8), .val (.int 3), .val (.int cb), .val (.int lc), .val (.int tc), .unset] [])
  refine g_iloadN C X0 d5_0 rfl (g_iloadN C X0 d5_1 rfl (g_icmpn (hI_ge _ _) C X0 d5_2 (fun _ => ?_) (fun q => absurd q (by decide))))
  refine g_iloadN C X0 d5_8 rfl (g_iloadN C X0 d5_9 rfl (g_isub C X0 d5_10 (g_istore C X0 d5_11 (l' := #[.val (.int 0), .val (.int 0), .val (.int 8), .val (.int 3), .val (.int cb), .val (.int lc), .val (.int tc), .val (.int 0)]) rfl (g_iload C X0 d5_13 rfl (g_iloadN C X0 d5_15 rfl (g_icmp (hI_lt _ _) C X0 d5_16 (fun _ => ?_) (fun q => absurd (by decide) q)))))))
  refine g_iloadN C X0 d5_22 rfl (g_iconst 1 C X0 d5_23 rfl (g_icmpn (hI_ne _ _) C X0 d5_24 (fun _ => ?_) (fun q => absurd q (by decide))))
  refine g_iloadN C X0 d5_30 rfl (g_iconst 2 C X0 d5_31 rfl (g_icmpn (hI_ne _ _) C X0 d5_32 (fun _ => ?_) (fun q => absurd q (by decide))))
  refine g_iload C X0 d5_38 rfl (g_iload C X0 d5_40 rfl (g_static (argsL := [(.int 0), (.int cb)]) (st := []) C X0 (wd hw 141 rfl) (wd hw 142 rfl) (wd hw 25 rfl) (wd hw 143 rfl) (by decide) (pay_of (W' := 0) (rLe0 l hw X0.ext cb) C.hZ (wd hw 143 rfl) (wd hw 25 rfl) (by decide) (by decide)) pd_2 rfl rfl _ rfl (Nat.le_of_eq rfl) d5_42 (by decide) (by decide) (fun T24 h24 v24 q24 X24 => ?_)))
  obtain ⟨y24, rfl, ly24, e24⟩ := q24
  subst e24
  show Goes p e below _ T24 (mkF m 45 #[.val (.int 0), .val (.int 0), .val (.int 8), .val (.int 3), .val (.int cb), .val (.int lc), .val (.int tc), .val (.int 0)] [(.int y24)])
  exact g_retN C X24 (by simp) d5_45 y24 (Value.int.inj (own_nar (own_127 (own_gt (own_let ly24 (by decide) (by decide)))))) (by decide) (by decide) ⟨_, rfl, ly24, rfl⟩
theorem ef_rAt103 (m : MethodId) (cb : Int32) (lc : Int32) (tc : Int32) : entryFrame m #[(.int 1), (.int 0), (.int 8), (.int 3), (.int cb), (.int lc), (.int tc)] 8 = mkF m 0 #[.val (.int 1), .val (.int 0), .val (.int 8), .val (.int 3), .val (.int cb), .val (.int lc), .val (.int tc), .unset] [] := by first | (simp [entryFrame, mkF, argsToLocals, Value.category]; done) | rfl
theorem rAt103 (l : Launch) {Z : State} {a0 : Array Value} (hw : ∀ d ∈ tables_1, d.before a0 Z = true) {h : Heap} (hE : Ext Z.heap h) (cb : Int32) (lc : Int32) (tc : Int32)  (hlc : (¬ lc < 0 ∧ ¬ (32 : Int32) < lc)) (htc : (¬ tc < 0 ∧ ¬ (32 : Int32) < tc)) :
    Con l (⟨"com/example/synctoken/synctoken/dav/DepthParsePinLaw", "at", "(IIIIICC)C"⟩ : MethodName) method_4_code 8 (some .char) [] ({ frames := 1, cells := 0, slots := 0, locals := 24 } : Room) Z #[(.int 1), (.int 0), (.int 8), (.int 3), (.int cb), (.int lc), (.int tc)] h (fun v' h' => ∃ y : Int32, v' = some (.int y) ∧ (y = (110 : Int32) ∨ y = (78 : Int32)) ∧ h' = h) := by
  refine con_of (plainFor_of_name pn_2) hE (fun m => ef_rAt103 m cb lc tc) ?_
  intro p e s m below meth c T0 C X0
  have C : Cx p s m meth c Z "com/example/synctoken/synctoken/dav/DepthParsePinLaw" "at" method_4_code 8 (some .char) := C
  show Goes p e below _ T0 (mkF m 0 #[.val (.int 1), .val (.int 0), .val (.int 8), .val (.int 3), .val (.int cb), .val (.int lc), .val (.int tc), .unset] [])
  refine g_iloadN C X0 d5_0 rfl (g_iloadN C X0 d5_1 rfl (g_icmpn (hI_ge _ _) C X0 d5_2 (fun _ => ?_) (fun q => absurd q (by decide))))
  refine g_iloadN C X0 d5_8 rfl (g_iloadN C X0 d5_9 rfl (g_isub C X0 d5_10 (g_istore C X0 d5_11 (l' := #[.val (.int 1), .val (.int 0), .val (.int 8), .val (.int 3), .val (.int cb), .val (.int lc), .val (.int tc), .val (.int 1)]) rfl (g_iload C X0 d5_13 rfl (g_iloadN C X0 d5_15 rfl (g_icmp (hI_lt _ _) C X0 d5_16 (fun _ => ?_) (fun q => absurd (by decide) q)))))))
  refine g_iloadN C X0 d5_22 rfl (g_iconst 1 C X0 d5_23 rfl (g_icmpn (hI_ne _ _) C X0 d5_24 (fun _ => ?_) (fun q => absurd q (by decide))))
  refine g_iloadN C X0 d5_30 rfl (g_iconst 2 C X0 d5_31 rfl (g_icmpn (hI_ne _ _) C X0 d5_32 (fun _ => ?_) (fun q => absurd q (by decide))))
  refine g_iload C X0 d5_38 rfl (g_iload C X0 d5_40 rfl (g_static (argsL := [(.int 1), (.int cb)]) (st := []) C X0 (wd hw 141 rfl) (wd hw 142 rfl) (wd hw 25 rfl) (wd hw 143 rfl) (by decide) (pay_of (W' := 0) (rLe1 l hw X0.ext cb) C.hZ (wd hw 143 rfl) (wd hw 25 rfl) (by decide) (by decide)) pd_2 rfl rfl _ rfl (Nat.le_of_eq rfl) d5_42 (by decide) (by decide) (fun T25 h25 v25 q25 X25 => ?_)))
  obtain ⟨y25, rfl, ly25, e25⟩ := q25
  subst e25
  show Goes p e below _ T25 (mkF m 45 #[.val (.int 1), .val (.int 0), .val (.int 8), .val (.int 3), .val (.int cb), .val (.int lc), .val (.int tc), .val (.int 1)] [(.int y25)])
  exact g_retN C X25 (by simp) d5_45 y25 (Value.int.inj (own_nar (own_127 (own_gt (own_let ly25 (by decide) (by decide)))))) (by decide) (by decide) ⟨_, rfl, ly25, rfl⟩
theorem ef_rAt203 (m : MethodId) (cb : Int32) (lc : Int32) (tc : Int32) : entryFrame m #[(.int 2), (.int 0), (.int 8), (.int 3), (.int cb), (.int lc), (.int tc)] 8 = mkF m 0 #[.val (.int 2), .val (.int 0), .val (.int 8), .val (.int 3), .val (.int cb), .val (.int lc), .val (.int tc), .unset] [] := by first | (simp [entryFrame, mkF, argsToLocals, Value.category]; done) | rfl
theorem rAt203 (l : Launch) {Z : State} {a0 : Array Value} (hw : ∀ d ∈ tables_1, d.before a0 Z = true) {h : Heap} (hE : Ext Z.heap h) (cb : Int32) (lc : Int32) (tc : Int32)  (hlc : (¬ lc < 0 ∧ ¬ (32 : Int32) < lc)) (htc : (¬ tc < 0 ∧ ¬ (32 : Int32) < tc)) :
    Con l (⟨"com/example/synctoken/synctoken/dav/DepthParsePinLaw", "at", "(IIIIICC)C"⟩ : MethodName) method_4_code 8 (some .char) [] ({ frames := 1, cells := 0, slots := 0, locals := 24 } : Room) Z #[(.int 2), (.int 0), (.int 8), (.int 3), (.int cb), (.int lc), (.int tc)] h (fun v' h' => ∃ y : Int32, v' = some (.int y) ∧ (y = (102 : Int32) ∨ y = (70 : Int32)) ∧ h' = h) := by
  refine con_of (plainFor_of_name pn_2) hE (fun m => ef_rAt203 m cb lc tc) ?_
  intro p e s m below meth c T0 C X0
  have C : Cx p s m meth c Z "com/example/synctoken/synctoken/dav/DepthParsePinLaw" "at" method_4_code 8 (some .char) := C
  show Goes p e below _ T0 (mkF m 0 #[.val (.int 2), .val (.int 0), .val (.int 8), .val (.int 3), .val (.int cb), .val (.int lc), .val (.int tc), .unset] [])
  refine g_iloadN C X0 d5_0 rfl (g_iloadN C X0 d5_1 rfl (g_icmpn (hI_ge _ _) C X0 d5_2 (fun _ => ?_) (fun q => absurd q (by decide))))
  refine g_iloadN C X0 d5_8 rfl (g_iloadN C X0 d5_9 rfl (g_isub C X0 d5_10 (g_istore C X0 d5_11 (l' := #[.val (.int 2), .val (.int 0), .val (.int 8), .val (.int 3), .val (.int cb), .val (.int lc), .val (.int tc), .val (.int 2)]) rfl (g_iload C X0 d5_13 rfl (g_iloadN C X0 d5_15 rfl (g_icmp (hI_lt _ _) C X0 d5_16 (fun _ => ?_) (fun q => absurd (by decide) q)))))))
  refine g_iloadN C X0 d5_22 rfl (g_iconst 1 C X0 d5_23 rfl (g_icmpn (hI_ne _ _) C X0 d5_24 (fun _ => ?_) (fun q => absurd q (by decide))))
  refine g_iloadN C X0 d5_30 rfl (g_iconst 2 C X0 d5_31 rfl (g_icmpn (hI_ne _ _) C X0 d5_32 (fun _ => ?_) (fun q => absurd q (by decide))))
  refine g_iload C X0 d5_38 rfl (g_iload C X0 d5_40 rfl (g_static (argsL := [(.int 2), (.int cb)]) (st := []) C X0 (wd hw 141 rfl) (wd hw 142 rfl) (wd hw 25 rfl) (wd hw 143 rfl) (by decide) (pay_of (W' := 0) (rLe2 l hw X0.ext cb) C.hZ (wd hw 143 rfl) (wd hw 25 rfl) (by decide) (by decide)) pd_2 rfl rfl _ rfl (Nat.le_of_eq rfl) d5_42 (by decide) (by decide) (fun T26 h26 v26 q26 X26 => ?_)))
  obtain ⟨y26, rfl, ly26, e26⟩ := q26
  subst e26
  show Goes p e below _ T26 (mkF m 45 #[.val (.int 2), .val (.int 0), .val (.int 8), .val (.int 3), .val (.int cb), .val (.int lc), .val (.int tc), .val (.int 2)] [(.int y26)])
  exact g_retN C X26 (by simp) d5_45 y26 (Value.int.inj (own_nar (own_127 (own_gt (own_let ly26 (by decide) (by decide)))))) (by decide) (by decide) ⟨_, rfl, ly26, rfl⟩
theorem ef_rAt303 (m : MethodId) (cb : Int32) (lc : Int32) (tc : Int32) : entryFrame m #[(.int 3), (.int 0), (.int 8), (.int 3), (.int cb), (.int lc), (.int tc)] 8 = mkF m 0 #[.val (.int 3), .val (.int 0), .val (.int 8), .val (.int 3), .val (.int cb), .val (.int lc), .val (.int tc), .unset] [] := by first | (simp [entryFrame, mkF, argsToLocals, Value.category]; done) | rfl
theorem rAt303 (l : Launch) {Z : State} {a0 : Array Value} (hw : ∀ d ∈ tables_1, d.before a0 Z = true) {h : Heap} (hE : Ext Z.heap h) (cb : Int32) (lc : Int32) (tc : Int32)  (hlc : (¬ lc < 0 ∧ ¬ (32 : Int32) < lc)) (htc : (¬ tc < 0 ∧ ¬ (32 : Int32) < tc)) :
    Con l (⟨"com/example/synctoken/synctoken/dav/DepthParsePinLaw", "at", "(IIIIICC)C"⟩ : MethodName) method_4_code 8 (some .char) [] ({ frames := 1, cells := 0, slots := 0, locals := 24 } : Room) Z #[(.int 3), (.int 0), (.int 8), (.int 3), (.int cb), (.int lc), (.int tc)] h (fun v' h' => ∃ y : Int32, v' = some (.int y) ∧ (y = (105 : Int32) ∨ y = (73 : Int32)) ∧ h' = h) := by
  refine con_of (plainFor_of_name pn_2) hE (fun m => ef_rAt303 m cb lc tc) ?_
  intro p e s m below meth c T0 C X0
  have C : Cx p s m meth c Z "com/example/synctoken/synctoken/dav/DepthParsePinLaw" "at" method_4_code 8 (some .char) := C
  show Goes p e below _ T0 (mkF m 0 #[.val (.int 3), .val (.int 0), .val (.int 8), .val (.int 3), .val (.int cb), .val (.int lc), .val (.int tc), .unset] [])
  refine g_iloadN C X0 d5_0 rfl (g_iloadN C X0 d5_1 rfl (g_icmpn (hI_ge _ _) C X0 d5_2 (fun _ => ?_) (fun q => absurd q (by decide))))
  refine g_iloadN C X0 d5_8 rfl (g_iloadN C X0 d5_9 rfl (g_isub C X0 d5_10 (g_istore C X0 d5_11 (l' := #[.val (.int 3), .val (.int 0), .val (.int 8), .val (.int 3), .val (.int cb), .val (.int lc), .val (.int tc), .val (.int 3)]) rfl (g_iload C X0 d5_13 rfl (g_iloadN C X0 d5_15 rfl (g_icmp (hI_lt _ _) C X0 d5_16 (fun _ => ?_) (fun q => absurd (by decide) q)))))))
  refine g_iloadN C X0 d5_22 rfl (g_iconst 1 C X0 d5_23 rfl (g_icmpn (hI_ne _ _) C X0 d5_24 (fun _ => ?_) (fun q => absurd q (by decide))))
  refine g_iloadN C X0 d5_30 rfl (g_iconst 2 C X0 d5_31 rfl (g_icmpn (hI_ne _ _) C X0 d5_32 (fun _ => ?_) (fun q => absurd q (by decide))))
  refine g_iload C X0 d5_38 rfl (g_iload C X0 d5_40 rfl (g_static (argsL := [(.int 3), (.int cb)]) (st := []) C X0 (wd hw 141 rfl) (wd hw 142 rfl) (wd hw 25 rfl) (wd hw 143 rfl) (by decide) (pay_of (W' := 0) (rLe3 l hw X0.ext cb) C.hZ (wd hw 143 rfl) (wd hw 25 rfl) (by decide) (by decide)) pd_2 rfl rfl _ rfl (Nat.le_of_eq rfl) d5_42 (by decide) (by decide) (fun T27 h27 v27 q27 X27 => ?_)))
  obtain ⟨y27, rfl, ly27, e27⟩ := q27
  subst e27
  show Goes p e below _ T27 (mkF m 45 #[.val (.int 3), .val (.int 0), .val (.int 8), .val (.int 3), .val (.int cb), .val (.int lc), .val (.int tc), .val (.int 3)] [(.int y27)])
  exact g_retN C X27 (by simp) d5_45 y27 (Value.int.inj (own_nar (own_127 (own_gt (own_let ly27 (by decide) (by decide)))))) (by decide) (by decide) ⟨_, rfl, ly27, rfl⟩
theorem ef_rAt403 (m : MethodId) (cb : Int32) (lc : Int32) (tc : Int32) : entryFrame m #[(.int 4), (.int 0), (.int 8), (.int 3), (.int cb), (.int lc), (.int tc)] 8 = mkF m 0 #[.val (.int 4), .val (.int 0), .val (.int 8), .val (.int 3), .val (.int cb), .val (.int lc), .val (.int tc), .unset] [] := by first | (simp [entryFrame, mkF, argsToLocals, Value.category]; done) | rfl
theorem rAt403 (l : Launch) {Z : State} {a0 : Array Value} (hw : ∀ d ∈ tables_1, d.before a0 Z = true) {h : Heap} (hE : Ext Z.heap h) (cb : Int32) (lc : Int32) (tc : Int32)  (hlc : (¬ lc < 0 ∧ ¬ (32 : Int32) < lc)) (htc : (¬ tc < 0 ∧ ¬ (32 : Int32) < tc)) :
    Con l (⟨"com/example/synctoken/synctoken/dav/DepthParsePinLaw", "at", "(IIIIICC)C"⟩ : MethodName) method_4_code 8 (some .char) [] ({ frames := 1, cells := 0, slots := 0, locals := 24 } : Room) Z #[(.int 4), (.int 0), (.int 8), (.int 3), (.int cb), (.int lc), (.int tc)] h (fun v' h' => ∃ y : Int32, v' = some (.int y) ∧ (y = (110 : Int32) ∨ y = (78 : Int32)) ∧ h' = h) := by
  refine con_of (plainFor_of_name pn_2) hE (fun m => ef_rAt403 m cb lc tc) ?_
  intro p e s m below meth c T0 C X0
  have C : Cx p s m meth c Z "com/example/synctoken/synctoken/dav/DepthParsePinLaw" "at" method_4_code 8 (some .char) := C
  show Goes p e below _ T0 (mkF m 0 #[.val (.int 4), .val (.int 0), .val (.int 8), .val (.int 3), .val (.int cb), .val (.int lc), .val (.int tc), .unset] [])
  refine g_iloadN C X0 d5_0 rfl (g_iloadN C X0 d5_1 rfl (g_icmpn (hI_ge _ _) C X0 d5_2 (fun _ => ?_) (fun q => absurd q (by decide))))
  refine g_iloadN C X0 d5_8 rfl (g_iloadN C X0 d5_9 rfl (g_isub C X0 d5_10 (g_istore C X0 d5_11 (l' := #[.val (.int 4), .val (.int 0), .val (.int 8), .val (.int 3), .val (.int cb), .val (.int lc), .val (.int tc), .val (.int 4)]) rfl (g_iload C X0 d5_13 rfl (g_iloadN C X0 d5_15 rfl (g_icmp (hI_lt _ _) C X0 d5_16 (fun _ => ?_) (fun q => absurd (by decide) q)))))))
  refine g_iloadN C X0 d5_22 rfl (g_iconst 1 C X0 d5_23 rfl (g_icmpn (hI_ne _ _) C X0 d5_24 (fun _ => ?_) (fun q => absurd q (by decide))))
  refine g_iloadN C X0 d5_30 rfl (g_iconst 2 C X0 d5_31 rfl (g_icmpn (hI_ne _ _) C X0 d5_32 (fun _ => ?_) (fun q => absurd q (by decide))))
  refine g_iload C X0 d5_38 rfl (g_iload C X0 d5_40 rfl (g_static (argsL := [(.int 4), (.int cb)]) (st := []) C X0 (wd hw 141 rfl) (wd hw 142 rfl) (wd hw 25 rfl) (wd hw 143 rfl) (by decide) (pay_of (W' := 0) (rLe4 l hw X0.ext cb) C.hZ (wd hw 143 rfl) (wd hw 25 rfl) (by decide) (by decide)) pd_2 rfl rfl _ rfl (Nat.le_of_eq rfl) d5_42 (by decide) (by decide) (fun T28 h28 v28 q28 X28 => ?_)))
  obtain ⟨y28, rfl, ly28, e28⟩ := q28
  subst e28
  show Goes p e below _ T28 (mkF m 45 #[.val (.int 4), .val (.int 0), .val (.int 8), .val (.int 3), .val (.int cb), .val (.int lc), .val (.int tc), .val (.int 4)] [(.int y28)])
  exact g_retN C X28 (by simp) d5_45 y28 (Value.int.inj (own_nar (own_127 (own_gt (own_let ly28 (by decide) (by decide)))))) (by decide) (by decide) ⟨_, rfl, ly28, rfl⟩
theorem ef_rAt503 (m : MethodId) (cb : Int32) (lc : Int32) (tc : Int32) : entryFrame m #[(.int 5), (.int 0), (.int 8), (.int 3), (.int cb), (.int lc), (.int tc)] 8 = mkF m 0 #[.val (.int 5), .val (.int 0), .val (.int 8), .val (.int 3), .val (.int cb), .val (.int lc), .val (.int tc), .unset] [] := by first | (simp [entryFrame, mkF, argsToLocals, Value.category]; done) | rfl
theorem rAt503 (l : Launch) {Z : State} {a0 : Array Value} (hw : ∀ d ∈ tables_1, d.before a0 Z = true) {h : Heap} (hE : Ext Z.heap h) (cb : Int32) (lc : Int32) (tc : Int32)  (hlc : (¬ lc < 0 ∧ ¬ (32 : Int32) < lc)) (htc : (¬ tc < 0 ∧ ¬ (32 : Int32) < tc)) :
    Con l (⟨"com/example/synctoken/synctoken/dav/DepthParsePinLaw", "at", "(IIIIICC)C"⟩ : MethodName) method_4_code 8 (some .char) [] ({ frames := 1, cells := 0, slots := 0, locals := 24 } : Room) Z #[(.int 5), (.int 0), (.int 8), (.int 3), (.int cb), (.int lc), (.int tc)] h (fun v' h' => ∃ y : Int32, v' = some (.int y) ∧ (y = (105 : Int32) ∨ y = (73 : Int32)) ∧ h' = h) := by
  refine con_of (plainFor_of_name pn_2) hE (fun m => ef_rAt503 m cb lc tc) ?_
  intro p e s m below meth c T0 C X0
  have C : Cx p s m meth c Z "com/example/synctoken/synctoken/dav/DepthParsePinLaw" "at" method_4_code 8 (some .char) := C
  show Goes p e below _ T0 (mkF m 0 #[.val (.int 5), .val (.int 0), .val (.int 8), .val (.int 3), .val (.int cb), .val (.int lc), .val (.int tc), .unset] [])
  refine g_iloadN C X0 d5_0 rfl (g_iloadN C X0 d5_1 rfl (g_icmpn (hI_ge _ _) C X0 d5_2 (fun _ => ?_) (fun q => absurd q (by decide))))
  refine g_iloadN C X0 d5_8 rfl (g_iloadN C X0 d5_9 rfl (g_isub C X0 d5_10 (g_istore C X0 d5_11 (l' := #[.val (.int 5), .val (.int 0), .val (.int 8), .val (.int 3), .val (.int cb), .val (.int lc), .val (.int tc), .val (.int 5)]) rfl (g_iload C X0 d5_13 rfl (g_iloadN C X0 d5_15 rfl (g_icmp (hI_lt _ _) C X0 d5_16 (fun _ => ?_) (fun q => absurd (by decide) q)))))))
  refine g_iloadN C X0 d5_22 rfl (g_iconst 1 C X0 d5_23 rfl (g_icmpn (hI_ne _ _) C X0 d5_24 (fun _ => ?_) (fun q => absurd q (by decide))))
  refine g_iloadN C X0 d5_30 rfl (g_iconst 2 C X0 d5_31 rfl (g_icmpn (hI_ne _ _) C X0 d5_32 (fun _ => ?_) (fun q => absurd q (by decide))))
  refine g_iload C X0 d5_38 rfl (g_iload C X0 d5_40 rfl (g_static (argsL := [(.int 5), (.int cb)]) (st := []) C X0 (wd hw 141 rfl) (wd hw 142 rfl) (wd hw 25 rfl) (wd hw 143 rfl) (by decide) (pay_of (W' := 0) (rLe5 l hw X0.ext cb) C.hZ (wd hw 143 rfl) (wd hw 25 rfl) (by decide) (by decide)) pd_2 rfl rfl _ rfl (Nat.le_of_eq rfl) d5_42 (by decide) (by decide) (fun T29 h29 v29 q29 X29 => ?_)))
  obtain ⟨y29, rfl, ly29, e29⟩ := q29
  subst e29
  show Goes p e below _ T29 (mkF m 45 #[.val (.int 5), .val (.int 0), .val (.int 8), .val (.int 3), .val (.int cb), .val (.int lc), .val (.int tc), .val (.int 5)] [(.int y29)])
  exact g_retN C X29 (by simp) d5_45 y29 (Value.int.inj (own_nar (own_127 (own_gt (own_let ly29 (by decide) (by decide)))))) (by decide) (by decide) ⟨_, rfl, ly29, rfl⟩
theorem ef_rAt603 (m : MethodId) (cb : Int32) (lc : Int32) (tc : Int32) : entryFrame m #[(.int 6), (.int 0), (.int 8), (.int 3), (.int cb), (.int lc), (.int tc)] 8 = mkF m 0 #[.val (.int 6), .val (.int 0), .val (.int 8), .val (.int 3), .val (.int cb), .val (.int lc), .val (.int tc), .unset] [] := by first | (simp [entryFrame, mkF, argsToLocals, Value.category]; done) | rfl
theorem rAt603 (l : Launch) {Z : State} {a0 : Array Value} (hw : ∀ d ∈ tables_1, d.before a0 Z = true) {h : Heap} (hE : Ext Z.heap h) (cb : Int32) (lc : Int32) (tc : Int32)  (hlc : (¬ lc < 0 ∧ ¬ (32 : Int32) < lc)) (htc : (¬ tc < 0 ∧ ¬ (32 : Int32) < tc)) :
    Con l (⟨"com/example/synctoken/synctoken/dav/DepthParsePinLaw", "at", "(IIIIICC)C"⟩ : MethodName) method_4_code 8 (some .char) [] ({ frames := 1, cells := 0, slots := 0, locals := 24 } : Room) Z #[(.int 6), (.int 0), (.int 8), (.int 3), (.int cb), (.int lc), (.int tc)] h (fun v' h' => ∃ y : Int32, v' = some (.int y) ∧ (y = (116 : Int32) ∨ y = (84 : Int32)) ∧ h' = h) := by
  refine con_of (plainFor_of_name pn_2) hE (fun m => ef_rAt603 m cb lc tc) ?_
  intro p e s m below meth c T0 C X0
  have C : Cx p s m meth c Z "com/example/synctoken/synctoken/dav/DepthParsePinLaw" "at" method_4_code 8 (some .char) := C
  show Goes p e below _ T0 (mkF m 0 #[.val (.int 6), .val (.int 0), .val (.int 8), .val (.int 3), .val (.int cb), .val (.int lc), .val (.int tc), .unset] [])
  refine g_iloadN C X0 d5_0 rfl (g_iloadN C X0 d5_1 rfl (g_icmpn (hI_ge _ _) C X0 d5_2 (fun _ => ?_) (fun q => absurd q (by decide))))
  refine g_iloadN C X0 d5_8 rfl (g_iloadN C X0 d5_9 rfl (g_isub C X0 d5_10 (g_istore C X0 d5_11 (l' := #[.val (.int 6), .val (.int 0), .val (.int 8), .val (.int 3), .val (.int cb), .val (.int lc), .val (.int tc), .val (.int 6)]) rfl (g_iload C X0 d5_13 rfl (g_iloadN C X0 d5_15 rfl (g_icmp (hI_lt _ _) C X0 d5_16 (fun _ => ?_) (fun q => absurd (by decide) q)))))))
  refine g_iloadN C X0 d5_22 rfl (g_iconst 1 C X0 d5_23 rfl (g_icmpn (hI_ne _ _) C X0 d5_24 (fun _ => ?_) (fun q => absurd q (by decide))))
  refine g_iloadN C X0 d5_30 rfl (g_iconst 2 C X0 d5_31 rfl (g_icmpn (hI_ne _ _) C X0 d5_32 (fun _ => ?_) (fun q => absurd q (by decide))))
  refine g_iload C X0 d5_38 rfl (g_iload C X0 d5_40 rfl (g_static (argsL := [(.int 6), (.int cb)]) (st := []) C X0 (wd hw 141 rfl) (wd hw 142 rfl) (wd hw 25 rfl) (wd hw 143 rfl) (by decide) (pay_of (W' := 0) (rLe6 l hw X0.ext cb) C.hZ (wd hw 143 rfl) (wd hw 25 rfl) (by decide) (by decide)) pd_2 rfl rfl _ rfl (Nat.le_of_eq rfl) d5_42 (by decide) (by decide) (fun T30 h30 v30 q30 X30 => ?_)))
  obtain ⟨y30, rfl, ly30, e30⟩ := q30
  subst e30
  show Goes p e below _ T30 (mkF m 45 #[.val (.int 6), .val (.int 0), .val (.int 8), .val (.int 3), .val (.int cb), .val (.int lc), .val (.int tc), .val (.int 6)] [(.int y30)])
  exact g_retN C X30 (by simp) d5_45 y30 (Value.int.inj (own_nar (own_127 (own_gt (own_let ly30 (by decide) (by decide)))))) (by decide) (by decide) ⟨_, rfl, ly30, rfl⟩
theorem ef_rAt703 (m : MethodId) (cb : Int32) (lc : Int32) (tc : Int32) : entryFrame m #[(.int 7), (.int 0), (.int 8), (.int 3), (.int cb), (.int lc), (.int tc)] 8 = mkF m 0 #[.val (.int 7), .val (.int 0), .val (.int 8), .val (.int 3), .val (.int cb), .val (.int lc), .val (.int tc), .unset] [] := by first | (simp [entryFrame, mkF, argsToLocals, Value.category]; done) | rfl
theorem rAt703 (l : Launch) {Z : State} {a0 : Array Value} (hw : ∀ d ∈ tables_1, d.before a0 Z = true) {h : Heap} (hE : Ext Z.heap h) (cb : Int32) (lc : Int32) (tc : Int32)  (hlc : (¬ lc < 0 ∧ ¬ (32 : Int32) < lc)) (htc : (¬ tc < 0 ∧ ¬ (32 : Int32) < tc)) :
    Con l (⟨"com/example/synctoken/synctoken/dav/DepthParsePinLaw", "at", "(IIIIICC)C"⟩ : MethodName) method_4_code 8 (some .char) [] ({ frames := 1, cells := 0, slots := 0, locals := 24 } : Room) Z #[(.int 7), (.int 0), (.int 8), (.int 3), (.int cb), (.int lc), (.int tc)] h (fun v' h' => ∃ y : Int32, v' = some (.int y) ∧ (y = (121 : Int32) ∨ y = (89 : Int32)) ∧ h' = h) := by
  refine con_of (plainFor_of_name pn_2) hE (fun m => ef_rAt703 m cb lc tc) ?_
  intro p e s m below meth c T0 C X0
  have C : Cx p s m meth c Z "com/example/synctoken/synctoken/dav/DepthParsePinLaw" "at" method_4_code 8 (some .char) := C
  show Goes p e below _ T0 (mkF m 0 #[.val (.int 7), .val (.int 0), .val (.int 8), .val (.int 3), .val (.int cb), .val (.int lc), .val (.int tc), .unset] [])
  refine g_iloadN C X0 d5_0 rfl (g_iloadN C X0 d5_1 rfl (g_icmpn (hI_ge _ _) C X0 d5_2 (fun _ => ?_) (fun q => absurd q (by decide))))
  refine g_iloadN C X0 d5_8 rfl (g_iloadN C X0 d5_9 rfl (g_isub C X0 d5_10 (g_istore C X0 d5_11 (l' := #[.val (.int 7), .val (.int 0), .val (.int 8), .val (.int 3), .val (.int cb), .val (.int lc), .val (.int tc), .val (.int 7)]) rfl (g_iload C X0 d5_13 rfl (g_iloadN C X0 d5_15 rfl (g_icmp (hI_lt _ _) C X0 d5_16 (fun _ => ?_) (fun q => absurd (by decide) q)))))))
  refine g_iloadN C X0 d5_22 rfl (g_iconst 1 C X0 d5_23 rfl (g_icmpn (hI_ne _ _) C X0 d5_24 (fun _ => ?_) (fun q => absurd q (by decide))))
  refine g_iloadN C X0 d5_30 rfl (g_iconst 2 C X0 d5_31 rfl (g_icmpn (hI_ne _ _) C X0 d5_32 (fun _ => ?_) (fun q => absurd q (by decide))))
  refine g_iload C X0 d5_38 rfl (g_iload C X0 d5_40 rfl (g_static (argsL := [(.int 7), (.int cb)]) (st := []) C X0 (wd hw 141 rfl) (wd hw 142 rfl) (wd hw 25 rfl) (wd hw 143 rfl) (by decide) (pay_of (W' := 0) (rLe7 l hw X0.ext cb) C.hZ (wd hw 143 rfl) (wd hw 25 rfl) (by decide) (by decide)) pd_2 rfl rfl _ rfl (Nat.le_of_eq rfl) d5_42 (by decide) (by decide) (fun T31 h31 v31 q31 X31 => ?_)))
  obtain ⟨y31, rfl, ly31, e31⟩ := q31
  subst e31
  show Goes p e below _ T31 (mkF m 45 #[.val (.int 7), .val (.int 0), .val (.int 8), .val (.int 3), .val (.int cb), .val (.int lc), .val (.int tc), .val (.int 7)] [(.int y31)])
  exact g_retN C X31 (by simp) d5_45 y31 (Value.int.inj (own_nar (own_127 (own_gt (own_let ly31 (by decide) (by decide)))))) (by decide) (by decide) ⟨_, rfl, ly31, rfl⟩
theorem ef_rAt803 (m : MethodId) (cb : Int32) (lc : Int32) (tc : Int32) : entryFrame m #[(.int 8), (.int 0), (.int 8), (.int 3), (.int cb), (.int lc), (.int tc)] 8 = mkF m 0 #[.val (.int 8), .val (.int 0), .val (.int 8), .val (.int 3), .val (.int cb), .val (.int lc), .val (.int tc), .unset] [] := by first | (simp [entryFrame, mkF, argsToLocals, Value.category]; done) | rfl
theorem rAt803 (l : Launch) {Z : State} {a0 : Array Value} (hw : ∀ d ∈ tables_1, d.before a0 Z = true) {h : Heap} (hE : Ext Z.heap h) (cb : Int32) (lc : Int32) (tc : Int32)  (hlc : (¬ lc < 0 ∧ ¬ (32 : Int32) < lc)) (htc : (¬ tc < 0 ∧ ¬ (32 : Int32) < tc)) :
    Con l (⟨"com/example/synctoken/synctoken/dav/DepthParsePinLaw", "at", "(IIIIICC)C"⟩ : MethodName) method_4_code 8 (some .char) [] ({ frames := 1, cells := 0, slots := 0, locals := 24 } : Room) Z #[(.int 8), (.int 0), (.int 8), (.int 3), (.int cb), (.int lc), (.int tc)] h (fun v' h' => v' = some (.int tc) ∧ h' = h) := by
  refine con_of (plainFor_of_name pn_2) hE (fun m => ef_rAt803 m cb lc tc) ?_
  intro p e s m below meth c T0 C X0
  have C : Cx p s m meth c Z "com/example/synctoken/synctoken/dav/DepthParsePinLaw" "at" method_4_code 8 (some .char) := C
  show Goes p e below _ T0 (mkF m 0 #[.val (.int 8), .val (.int 0), .val (.int 8), .val (.int 3), .val (.int cb), .val (.int lc), .val (.int tc), .unset] [])
  refine g_iloadN C X0 d5_0 rfl (g_iloadN C X0 d5_1 rfl (g_icmpn (hI_ge _ _) C X0 d5_2 (fun _ => ?_) (fun q => absurd q (by decide))))
  refine g_iloadN C X0 d5_8 rfl (g_iloadN C X0 d5_9 rfl (g_isub C X0 d5_10 (g_istore C X0 d5_11 (l' := #[.val (.int 8), .val (.int 0), .val (.int 8), .val (.int 3), .val (.int cb), .val (.int lc), .val (.int tc), .val (.int 8)]) rfl (g_iload C X0 d5_13 rfl (g_iloadN C X0 d5_15 rfl (g_icmp (hI_lt _ _) C X0 d5_16 (fun q => absurd q (by decide)) (fun _ => ?_)))))))
  refine g_iload C X0 d5_19 rfl ?_
  exact g_retN C X0 (by simp) d5_21 tc (Value.int.inj (own_nar (own_127 (own_sp htc)))) (by decide) (by decide) ⟨rfl, rfl⟩
theorem ef_rAt013 (m : MethodId) (cb : Int32) (lc : Int32) (tc : Int32) : entryFrame m #[(.int 0), (.int 1), (.int 8), (.int 3), (.int cb), (.int lc), (.int tc)] 8 = mkF m 0 #[.val (.int 0), .val (.int 1), .val (.int 8), .val (.int 3), .val (.int cb), .val (.int lc), .val (.int tc), .unset] [] := by first | (simp [entryFrame, mkF, argsToLocals, Value.category]; done) | rfl
theorem rAt013 (l : Launch) {Z : State} {a0 : Array Value} (hw : ∀ d ∈ tables_1, d.before a0 Z = true) {h : Heap} (hE : Ext Z.heap h) (cb : Int32) (lc : Int32) (tc : Int32)  (hlc : (¬ lc < 0 ∧ ¬ (32 : Int32) < lc)) (htc : (¬ tc < 0 ∧ ¬ (32 : Int32) < tc)) :
    Con l (⟨"com/example/synctoken/synctoken/dav/DepthParsePinLaw", "at", "(IIIIICC)C"⟩ : MethodName) method_4_code 8 (some .char) [] ({ frames := 1, cells := 0, slots := 0, locals := 24 } : Room) Z #[(.int 0), (.int 1), (.int 8), (.int 3), (.int cb), (.int lc), (.int tc)] h (fun v' h' => v' = some (.int lc) ∧ h' = h) := by
  refine con_of (plainFor_of_name pn_2) hE (fun m => ef_rAt013 m cb lc tc) ?_
  intro p e s m below meth c T0 C X0
  have C : Cx p s m meth c Z "com/example/synctoken/synctoken/dav/DepthParsePinLaw" "at" method_4_code 8 (some .char) := C
  show Goes p e below _ T0 (mkF m 0 #[.val (.int 0), .val (.int 1), .val (.int 8), .val (.int 3), .val (.int cb), .val (.int lc), .val (.int tc), .unset] [])
  refine g_iloadN C X0 d5_0 rfl (g_iloadN C X0 d5_1 rfl (g_icmpn (hI_ge _ _) C X0 d5_2 (fun q => absurd (by decide) q) (fun _ => ?_)))
  refine g_iload C X0 d5_5 rfl ?_
  exact g_retN C X0 (by simp) d5_7 lc (Value.int.inj (own_nar (own_127 (own_sp hlc)))) (by decide) (by decide) ⟨rfl, rfl⟩
theorem ef_rAt113 (m : MethodId) (cb : Int32) (lc : Int32) (tc : Int32) : entryFrame m #[(.int 1), (.int 1), (.int 8), (.int 3), (.int cb), (.int lc), (.int tc)] 8 = mkF m 0 #[.val (.int 1), .val (.int 1), .val (.int 8), .val (.int 3), .val (.int cb), .val (.int lc), .val (.int tc), .unset] [] := by first | (simp [entryFrame, mkF, argsToLocals, Value.category]; done) | rfl
theorem rAt113 (l : Launch) {Z : State} {a0 : Array Value} (hw : ∀ d ∈ tables_1, d.before a0 Z = true) {h : Heap} (hE : Ext Z.heap h) (cb : Int32) (lc : Int32) (tc : Int32)  (hlc : (¬ lc < 0 ∧ ¬ (32 : Int32) < lc)) (htc : (¬ tc < 0 ∧ ¬ (32 : Int32) < tc)) :
    Con l (⟨"com/example/synctoken/synctoken/dav/DepthParsePinLaw", "at", "(IIIIICC)C"⟩ : MethodName) method_4_code 8 (some .char) [] ({ frames := 1, cells := 0, slots := 0, locals := 24 } : Room) Z #[(.int 1), (.int 1), (.int 8), (.int 3), (.int cb), (.int lc), (.int tc)] h (fun v' h' => ∃ y : Int32, v' = some (.int y) ∧ (y = (105 : Int32) ∨ y = (73 : Int32)) ∧ h' = h) := by
  refine con_of (plainFor_of_name pn_2) hE (fun m => ef_rAt113 m cb lc tc) ?_
  intro p e s m below meth c T0 C X0
  have C : Cx p s m meth c Z "com/example/synctoken/synctoken/dav/DepthParsePinLaw" "at" method_4_code 8 (some .char) := C
  show Goes p e below _ T0 (mkF m 0 #[.val (.int 1), .val (.int 1), .val (.int 8), .val (.int 3), .val (.int cb), .val (.int lc), .val (.int tc), .unset] [])
  refine g_iloadN C X0 d5_0 rfl (g_iloadN C X0 d5_1 rfl (g_icmpn (hI_ge _ _) C X0 d5_2 (fun _ => ?_) (fun q => absurd q (by decide))))
  refine g_iloadN C X0 d5_8 rfl (g_iloadN C X0 d5_9 rfl (g_isub C X0 d5_10 (g_istore C X0 d5_11 (l' := #[.val (.int 1), .val (.int 1), .val (.int 8), .val (.int 3), .val (.int cb), .val (.int lc), .val (.int tc), .val (.int 0)]) rfl (g_iload C X0 d5_13 rfl (g_iloadN C X0 d5_15 rfl (g_icmp (hI_lt _ _) C X0 d5_16 (fun _ => ?_) (fun q => absurd (by decide) q)))))))
  refine g_iloadN C X0 d5_22 rfl (g_iconst 1 C X0 d5_23 rfl (g_icmpn (hI_ne _ _) C X0 d5_24 (fun _ => ?_) (fun q => absurd q (by decide))))
  refine g_iloadN C X0 d5_30 rfl (g_iconst 2 C X0 d5_31 rfl (g_icmpn (hI_ne _ _) C X0 d5_32 (fun _ => ?_) (fun q => absurd q (by decide))))
  refine g_iload C X0 d5_38 rfl (g_iload C X0 d5_40 rfl (g_static (argsL := [(.int 0), (.int cb)]) (st := []) C X0 (wd hw 141 rfl) (wd hw 142 rfl) (wd hw 25 rfl) (wd hw 143 rfl) (by decide) (pay_of (W' := 0) (rLe0 l hw X0.ext cb) C.hZ (wd hw 143 rfl) (wd hw 25 rfl) (by decide) (by decide)) pd_2 rfl rfl _ rfl (Nat.le_of_eq rfl) d5_42 (by decide) (by decide) (fun T32 h32 v32 q32 X32 => ?_)))
  obtain ⟨y32, rfl, ly32, e32⟩ := q32
  subst e32
  show Goes p e below _ T32 (mkF m 45 #[.val (.int 1), .val (.int 1), .val (.int 8), .val (.int 3), .val (.int cb), .val (.int lc), .val (.int tc), .val (.int 0)] [(.int y32)])
  exact g_retN C X32 (by simp) d5_45 y32 (Value.int.inj (own_nar (own_127 (own_gt (own_let ly32 (by decide) (by decide)))))) (by decide) (by decide) ⟨_, rfl, ly32, rfl⟩
theorem ef_rAt213 (m : MethodId) (cb : Int32) (lc : Int32) (tc : Int32) : entryFrame m #[(.int 2), (.int 1), (.int 8), (.int 3), (.int cb), (.int lc), (.int tc)] 8 = mkF m 0 #[.val (.int 2), .val (.int 1), .val (.int 8), .val (.int 3), .val (.int cb), .val (.int lc), .val (.int tc), .unset] [] := by first | (simp [entryFrame, mkF, argsToLocals, Value.category]; done) | rfl
theorem rAt213 (l : Launch) {Z : State} {a0 : Array Value} (hw : ∀ d ∈ tables_1, d.before a0 Z = true) {h : Heap} (hE : Ext Z.heap h) (cb : Int32) (lc : Int32) (tc : Int32)  (hlc : (¬ lc < 0 ∧ ¬ (32 : Int32) < lc)) (htc : (¬ tc < 0 ∧ ¬ (32 : Int32) < tc)) :
    Con l (⟨"com/example/synctoken/synctoken/dav/DepthParsePinLaw", "at", "(IIIIICC)C"⟩ : MethodName) method_4_code 8 (some .char) [] ({ frames := 1, cells := 0, slots := 0, locals := 24 } : Room) Z #[(.int 2), (.int 1), (.int 8), (.int 3), (.int cb), (.int lc), (.int tc)] h (fun v' h' => ∃ y : Int32, v' = some (.int y) ∧ (y = (110 : Int32) ∨ y = (78 : Int32)) ∧ h' = h) := by
  refine con_of (plainFor_of_name pn_2) hE (fun m => ef_rAt213 m cb lc tc) ?_
  intro p e s m below meth c T0 C X0
  have C : Cx p s m meth c Z "com/example/synctoken/synctoken/dav/DepthParsePinLaw" "at" method_4_code 8 (some .char) := C
  show Goes p e below _ T0 (mkF m 0 #[.val (.int 2), .val (.int 1), .val (.int 8), .val (.int 3), .val (.int cb), .val (.int lc), .val (.int tc), .unset] [])
  refine g_iloadN C X0 d5_0 rfl (g_iloadN C X0 d5_1 rfl (g_icmpn (hI_ge _ _) C X0 d5_2 (fun _ => ?_) (fun q => absurd q (by decide))))
  refine g_iloadN C X0 d5_8 rfl (g_iloadN C X0 d5_9 rfl (g_isub C X0 d5_10 (g_istore C X0 d5_11 (l' := #[.val (.int 2), .val (.int 1), .val (.int 8), .val (.int 3), .val (.int cb), .val (.int lc), .val (.int tc), .val (.int 1)]) rfl (g_iload C X0 d5_13 rfl (g_iloadN C X0 d5_15 rfl (g_icmp (hI_lt _ _) C X0 d5_16 (fun _ => ?_) (fun q => absurd (by decide) q)))))))
  refine g_iloadN C X0 d5_22 rfl (g_iconst 1 C X0 d5_23 rfl (g_icmpn (hI_ne _ _) C X0 d5_24 (fun _ => ?_) (fun q => absurd q (by decide))))
  refine g_iloadN C X0 d5_30 rfl (g_iconst 2 C X0 d5_31 rfl (g_icmpn (hI_ne _ _) C X0 d5_32 (fun _ => ?_) (fun q => absurd q (by decide))))
  refine g_iload C X0 d5_38 rfl (g_iload C X0 d5_40 rfl (g_static (argsL := [(.int 1), (.int cb)]) (st := []) C X0 (wd hw 141 rfl) (wd hw 142 rfl) (wd hw 25 rfl) (wd hw 143 rfl) (by decide) (pay_of (W' := 0) (rLe1 l hw X0.ext cb) C.hZ (wd hw 143 rfl) (wd hw 25 rfl) (by decide) (by decide)) pd_2 rfl rfl _ rfl (Nat.le_of_eq rfl) d5_42 (by decide) (by decide) (fun T33 h33 v33 q33 X33 => ?_)))
  obtain ⟨y33, rfl, ly33, e33⟩ := q33
  subst e33
  show Goes p e below _ T33 (mkF m 45 #[.val (.int 2), .val (.int 1), .val (.int 8), .val (.int 3), .val (.int cb), .val (.int lc), .val (.int tc), .val (.int 1)] [(.int y33)])
  exact g_retN C X33 (by simp) d5_45 y33 (Value.int.inj (own_nar (own_127 (own_gt (own_let ly33 (by decide) (by decide)))))) (by decide) (by decide) ⟨_, rfl, ly33, rfl⟩
theorem ef_rAt313 (m : MethodId) (cb : Int32) (lc : Int32) (tc : Int32) : entryFrame m #[(.int 3), (.int 1), (.int 8), (.int 3), (.int cb), (.int lc), (.int tc)] 8 = mkF m 0 #[.val (.int 3), .val (.int 1), .val (.int 8), .val (.int 3), .val (.int cb), .val (.int lc), .val (.int tc), .unset] [] := by first | (simp [entryFrame, mkF, argsToLocals, Value.category]; done) | rfl
theorem rAt313 (l : Launch) {Z : State} {a0 : Array Value} (hw : ∀ d ∈ tables_1, d.before a0 Z = true) {h : Heap} (hE : Ext Z.heap h) (cb : Int32) (lc : Int32) (tc : Int32)  (hlc : (¬ lc < 0 ∧ ¬ (32 : Int32) < lc)) (htc : (¬ tc < 0 ∧ ¬ (32 : Int32) < tc)) :
    Con l (⟨"com/example/synctoken/synctoken/dav/DepthParsePinLaw", "at", "(IIIIICC)C"⟩ : MethodName) method_4_code 8 (some .char) [] ({ frames := 1, cells := 0, slots := 0, locals := 24 } : Room) Z #[(.int 3), (.int 1), (.int 8), (.int 3), (.int cb), (.int lc), (.int tc)] h (fun v' h' => ∃ y : Int32, v' = some (.int y) ∧ (y = (102 : Int32) ∨ y = (70 : Int32)) ∧ h' = h) := by
  refine con_of (plainFor_of_name pn_2) hE (fun m => ef_rAt313 m cb lc tc) ?_
  intro p e s m below meth c T0 C X0
  have C : Cx p s m meth c Z "com/example/synctoken/synctoken/dav/DepthParsePinLaw" "at" method_4_code 8 (some .char) := C
  show Goes p e below _ T0 (mkF m 0 #[.val (.int 3), .val (.int 1), .val (.int 8), .val (.int 3), .val (.int cb), .val (.int lc), .val (.int tc), .unset] [])
  refine g_iloadN C X0 d5_0 rfl (g_iloadN C X0 d5_1 rfl (g_icmpn (hI_ge _ _) C X0 d5_2 (fun _ => ?_) (fun q => absurd q (by decide))))
  refine g_iloadN C X0 d5_8 rfl (g_iloadN C X0 d5_9 rfl (g_isub C X0 d5_10 (g_istore C X0 d5_11 (l' := #[.val (.int 3), .val (.int 1), .val (.int 8), .val (.int 3), .val (.int cb), .val (.int lc), .val (.int tc), .val (.int 2)]) rfl (g_iload C X0 d5_13 rfl (g_iloadN C X0 d5_15 rfl (g_icmp (hI_lt _ _) C X0 d5_16 (fun _ => ?_) (fun q => absurd (by decide) q)))))))
  refine g_iloadN C X0 d5_22 rfl (g_iconst 1 C X0 d5_23 rfl (g_icmpn (hI_ne _ _) C X0 d5_24 (fun _ => ?_) (fun q => absurd q (by decide))))
  refine g_iloadN C X0 d5_30 rfl (g_iconst 2 C X0 d5_31 rfl (g_icmpn (hI_ne _ _) C X0 d5_32 (fun _ => ?_) (fun q => absurd q (by decide))))
  refine g_iload C X0 d5_38 rfl (g_iload C X0 d5_40 rfl (g_static (argsL := [(.int 2), (.int cb)]) (st := []) C X0 (wd hw 141 rfl) (wd hw 142 rfl) (wd hw 25 rfl) (wd hw 143 rfl) (by decide) (pay_of (W' := 0) (rLe2 l hw X0.ext cb) C.hZ (wd hw 143 rfl) (wd hw 25 rfl) (by decide) (by decide)) pd_2 rfl rfl _ rfl (Nat.le_of_eq rfl) d5_42 (by decide) (by decide) (fun T34 h34 v34 q34 X34 => ?_)))
  obtain ⟨y34, rfl, ly34, e34⟩ := q34
  subst e34
  show Goes p e below _ T34 (mkF m 45 #[.val (.int 3), .val (.int 1), .val (.int 8), .val (.int 3), .val (.int cb), .val (.int lc), .val (.int tc), .val (.int 2)] [(.int y34)])
  exact g_retN C X34 (by simp) d5_45 y34 (Value.int.inj (own_nar (own_127 (own_gt (own_let ly34 (by decide) (by decide)))))) (by decide) (by decide) ⟨_, rfl, ly34, rfl⟩
theorem ef_rAt413 (m : MethodId) (cb : Int32) (lc : Int32) (tc : Int32) : entryFrame m #[(.int 4), (.int 1), (.int 8), (.int 3), (.int cb), (.int lc), (.int tc)] 8 = mkF m 0 #[.val (.int 4), .val (.int 1), .val (.int 8), .val (.int 3), .val (.int cb), .val (.int lc), .val (.int tc), .unset] [] := by first | (simp [entryFrame, mkF, argsToLocals, Value.category]; done) | rfl
theorem rAt413 (l : Launch) {Z : State} {a0 : Array Value} (hw : ∀ d ∈ tables_1, d.before a0 Z = true) {h : Heap} (hE : Ext Z.heap h) (cb : Int32) (lc : Int32) (tc : Int32)  (hlc : (¬ lc < 0 ∧ ¬ (32 : Int32) < lc)) (htc : (¬ tc < 0 ∧ ¬ (32 : Int32) < tc)) :
    Con l (⟨"com/example/synctoken/synctoken/dav/DepthParsePinLaw", "at", "(IIIIICC)C"⟩ : MethodName) method_4_code 8 (some .char) [] ({ frames := 1, cells := 0, slots := 0, locals := 24 } : Room) Z #[(.int 4), (.int 1), (.int 8), (.int 3), (.int cb), (.int lc), (.int tc)] h (fun v' h' => ∃ y : Int32, v' = some (.int y) ∧ (y = (105 : Int32) ∨ y = (73 : Int32)) ∧ h' = h) := by
  refine con_of (plainFor_of_name pn_2) hE (fun m => ef_rAt413 m cb lc tc) ?_
  intro p e s m below meth c T0 C X0
  have C : Cx p s m meth c Z "com/example/synctoken/synctoken/dav/DepthParsePinLaw" "at" method_4_code 8 (some .char) := C
  show Goes p e below _ T0 (mkF m 0 #[.val (.int 4), .val (.int 1), .val (.int 8), .val (.int 3), .val (.int cb), .val (.int lc), .val (.int tc), .unset] [])
  refine g_iloadN C X0 d5_0 rfl (g_iloadN C X0 d5_1 rfl (g_icmpn (hI_ge _ _) C X0 d5_2 (fun _ => ?_) (fun q => absurd q (by decide))))
  refine g_iloadN C X0 d5_8 rfl (g_iloadN C X0 d5_9 rfl (g_isub C X0 d5_10 (g_istore C X0 d5_11 (l' := #[.val (.int 4), .val (.int 1), .val (.int 8), .val (.int 3), .val (.int cb), .val (.int lc), .val (.int tc), .val (.int 3)]) rfl (g_iload C X0 d5_13 rfl (g_iloadN C X0 d5_15 rfl (g_icmp (hI_lt _ _) C X0 d5_16 (fun _ => ?_) (fun q => absurd (by decide) q)))))))
  refine g_iloadN C X0 d5_22 rfl (g_iconst 1 C X0 d5_23 rfl (g_icmpn (hI_ne _ _) C X0 d5_24 (fun _ => ?_) (fun q => absurd q (by decide))))
  refine g_iloadN C X0 d5_30 rfl (g_iconst 2 C X0 d5_31 rfl (g_icmpn (hI_ne _ _) C X0 d5_32 (fun _ => ?_) (fun q => absurd q (by decide))))
  refine g_iload C X0 d5_38 rfl (g_iload C X0 d5_40 rfl (g_static (argsL := [(.int 3), (.int cb)]) (st := []) C X0 (wd hw 141 rfl) (wd hw 142 rfl) (wd hw 25 rfl) (wd hw 143 rfl) (by decide) (pay_of (W' := 0) (rLe3 l hw X0.ext cb) C.hZ (wd hw 143 rfl) (wd hw 25 rfl) (by decide) (by decide)) pd_2 rfl rfl _ rfl (Nat.le_of_eq rfl) d5_42 (by decide) (by decide) (fun T35 h35 v35 q35 X35 => ?_)))
  obtain ⟨y35, rfl, ly35, e35⟩ := q35
  subst e35
  show Goes p e below _ T35 (mkF m 45 #[.val (.int 4), .val (.int 1), .val (.int 8), .val (.int 3), .val (.int cb), .val (.int lc), .val (.int tc), .val (.int 3)] [(.int y35)])
  exact g_retN C X35 (by simp) d5_45 y35 (Value.int.inj (own_nar (own_127 (own_gt (own_let ly35 (by decide) (by decide)))))) (by decide) (by decide) ⟨_, rfl, ly35, rfl⟩
theorem ef_rAt513 (m : MethodId) (cb : Int32) (lc : Int32) (tc : Int32) : entryFrame m #[(.int 5), (.int 1), (.int 8), (.int 3), (.int cb), (.int lc), (.int tc)] 8 = mkF m 0 #[.val (.int 5), .val (.int 1), .val (.int 8), .val (.int 3), .val (.int cb), .val (.int lc), .val (.int tc), .unset] [] := by first | (simp [entryFrame, mkF, argsToLocals, Value.category]; done) | rfl
theorem rAt513 (l : Launch) {Z : State} {a0 : Array Value} (hw : ∀ d ∈ tables_1, d.before a0 Z = true) {h : Heap} (hE : Ext Z.heap h) (cb : Int32) (lc : Int32) (tc : Int32)  (hlc : (¬ lc < 0 ∧ ¬ (32 : Int32) < lc)) (htc : (¬ tc < 0 ∧ ¬ (32 : Int32) < tc)) :
    Con l (⟨"com/example/synctoken/synctoken/dav/DepthParsePinLaw", "at", "(IIIIICC)C"⟩ : MethodName) method_4_code 8 (some .char) [] ({ frames := 1, cells := 0, slots := 0, locals := 24 } : Room) Z #[(.int 5), (.int 1), (.int 8), (.int 3), (.int cb), (.int lc), (.int tc)] h (fun v' h' => ∃ y : Int32, v' = some (.int y) ∧ (y = (110 : Int32) ∨ y = (78 : Int32)) ∧ h' = h) := by
  refine con_of (plainFor_of_name pn_2) hE (fun m => ef_rAt513 m cb lc tc) ?_
  intro p e s m below meth c T0 C X0
  have C : Cx p s m meth c Z "com/example/synctoken/synctoken/dav/DepthParsePinLaw" "at" method_4_code 8 (some .char) := C
  show Goes p e below _ T0 (mkF m 0 #[.val (.int 5), .val (.int 1), .val (.int 8), .val (.int 3), .val (.int cb), .val (.int lc), .val (.int tc), .unset] [])
  refine g_iloadN C X0 d5_0 rfl (g_iloadN C X0 d5_1 rfl (g_icmpn (hI_ge _ _) C X0 d5_2 (fun _ => ?_) (fun q => absurd q (by decide))))
  refine g_iloadN C X0 d5_8 rfl (g_iloadN C X0 d5_9 rfl (g_isub C X0 d5_10 (g_istore C X0 d5_11 (l' := #[.val (.int 5), .val (.int 1), .val (.int 8), .val (.int 3), .val (.int cb), .val (.int lc), .val (.int tc), .val (.int 4)]) rfl (g_iload C X0 d5_13 rfl (g_iloadN C X0 d5_15 rfl (g_icmp (hI_lt _ _) C X0 d5_16 (fun _ => ?_) (fun q => absurd (by decide) q)))))))
  refine g_iloadN C X0 d5_22 rfl (g_iconst 1 C X0 d5_23 rfl (g_icmpn (hI_ne _ _) C X0 d5_24 (fun _ => ?_) (fun q => absurd q (by decide))))
  refine g_iloadN C X0 d5_30 rfl (g_iconst 2 C X0 d5_31 rfl (g_icmpn (hI_ne _ _) C X0 d5_32 (fun _ => ?_) (fun q => absurd q (by decide))))
  refine g_iload C X0 d5_38 rfl (g_iload C X0 d5_40 rfl (g_static (argsL := [(.int 4), (.int cb)]) (st := []) C X0 (wd hw 141 rfl) (wd hw 142 rfl) (wd hw 25 rfl) (wd hw 143 rfl) (by decide) (pay_of (W' := 0) (rLe4 l hw X0.ext cb) C.hZ (wd hw 143 rfl) (wd hw 25 rfl) (by decide) (by decide)) pd_2 rfl rfl _ rfl (Nat.le_of_eq rfl) d5_42 (by decide) (by decide) (fun T36 h36 v36 q36 X36 => ?_)))
  obtain ⟨y36, rfl, ly36, e36⟩ := q36
  subst e36
  show Goes p e below _ T36 (mkF m 45 #[.val (.int 5), .val (.int 1), .val (.int 8), .val (.int 3), .val (.int cb), .val (.int lc), .val (.int tc), .val (.int 4)] [(.int y36)])
  exact g_retN C X36 (by simp) d5_45 y36 (Value.int.inj (own_nar (own_127 (own_gt (own_let ly36 (by decide) (by decide)))))) (by decide) (by decide) ⟨_, rfl, ly36, rfl⟩
theorem ef_rAt613 (m : MethodId) (cb : Int32) (lc : Int32) (tc : Int32) : entryFrame m #[(.int 6), (.int 1), (.int 8), (.int 3), (.int cb), (.int lc), (.int tc)] 8 = mkF m 0 #[.val (.int 6), .val (.int 1), .val (.int 8), .val (.int 3), .val (.int cb), .val (.int lc), .val (.int tc), .unset] [] := by first | (simp [entryFrame, mkF, argsToLocals, Value.category]; done) | rfl
theorem rAt613 (l : Launch) {Z : State} {a0 : Array Value} (hw : ∀ d ∈ tables_1, d.before a0 Z = true) {h : Heap} (hE : Ext Z.heap h) (cb : Int32) (lc : Int32) (tc : Int32)  (hlc : (¬ lc < 0 ∧ ¬ (32 : Int32) < lc)) (htc : (¬ tc < 0 ∧ ¬ (32 : Int32) < tc)) :
    Con l (⟨"com/example/synctoken/synctoken/dav/DepthParsePinLaw", "at", "(IIIIICC)C"⟩ : MethodName) method_4_code 8 (some .char) [] ({ frames := 1, cells := 0, slots := 0, locals := 24 } : Room) Z #[(.int 6), (.int 1), (.int 8), (.int 3), (.int cb), (.int lc), (.int tc)] h (fun v' h' => ∃ y : Int32, v' = some (.int y) ∧ (y = (105 : Int32) ∨ y = (73 : Int32)) ∧ h' = h) := by
  refine con_of (plainFor_of_name pn_2) hE (fun m => ef_rAt613 m cb lc tc) ?_
  intro p e s m below meth c T0 C X0
  have C : Cx p s m meth c Z "com/example/synctoken/synctoken/dav/DepthParsePinLaw" "at" method_4_code 8 (some .char) := C
  show Goes p e below _ T0 (mkF m 0 #[.val (.int 6), .val (.int 1), .val (.int 8), .val (.int 3), .val (.int cb), .val (.int lc), .val (.int tc), .unset] [])
  refine g_iloadN C X0 d5_0 rfl (g_iloadN C X0 d5_1 rfl (g_icmpn (hI_ge _ _) C X0 d5_2 (fun _ => ?_) (fun q => absurd q (by decide))))
  refine g_iloadN C X0 d5_8 rfl (g_iloadN C X0 d5_9 rfl (g_isub C X0 d5_10 (g_istore C X0 d5_11 (l' := #[.val (.int 6), .val (.int 1), .val (.int 8), .val (.int 3), .val (.int cb), .val (.int lc), .val (.int tc), .val (.int 5)]) rfl (g_iload C X0 d5_13 rfl (g_iloadN C X0 d5_15 rfl (g_icmp (hI_lt _ _) C X0 d5_16 (fun _ => ?_) (fun q => absurd (by decide) q)))))))
  refine g_iloadN C X0 d5_22 rfl (g_iconst 1 C X0 d5_23 rfl (g_icmpn (hI_ne _ _) C X0 d5_24 (fun _ => ?_) (fun q => absurd q (by decide))))
  refine g_iloadN C X0 d5_30 rfl (g_iconst 2 C X0 d5_31 rfl (g_icmpn (hI_ne _ _) C X0 d5_32 (fun _ => ?_) (fun q => absurd q (by decide))))
  refine g_iload C X0 d5_38 rfl (g_iload C X0 d5_40 rfl (g_static (argsL := [(.int 5), (.int cb)]) (st := []) C X0 (wd hw 141 rfl) (wd hw 142 rfl) (wd hw 25 rfl) (wd hw 143 rfl) (by decide) (pay_of (W' := 0) (rLe5 l hw X0.ext cb) C.hZ (wd hw 143 rfl) (wd hw 25 rfl) (by decide) (by decide)) pd_2 rfl rfl _ rfl (Nat.le_of_eq rfl) d5_42 (by decide) (by decide) (fun T37 h37 v37 q37 X37 => ?_)))
  obtain ⟨y37, rfl, ly37, e37⟩ := q37
  subst e37
  show Goes p e below _ T37 (mkF m 45 #[.val (.int 6), .val (.int 1), .val (.int 8), .val (.int 3), .val (.int cb), .val (.int lc), .val (.int tc), .val (.int 5)] [(.int y37)])
  exact g_retN C X37 (by simp) d5_45 y37 (Value.int.inj (own_nar (own_127 (own_gt (own_let ly37 (by decide) (by decide)))))) (by decide) (by decide) ⟨_, rfl, ly37, rfl⟩
theorem ef_rAt713 (m : MethodId) (cb : Int32) (lc : Int32) (tc : Int32) : entryFrame m #[(.int 7), (.int 1), (.int 8), (.int 3), (.int cb), (.int lc), (.int tc)] 8 = mkF m 0 #[.val (.int 7), .val (.int 1), .val (.int 8), .val (.int 3), .val (.int cb), .val (.int lc), .val (.int tc), .unset] [] := by first | (simp [entryFrame, mkF, argsToLocals, Value.category]; done) | rfl
theorem rAt713 (l : Launch) {Z : State} {a0 : Array Value} (hw : ∀ d ∈ tables_1, d.before a0 Z = true) {h : Heap} (hE : Ext Z.heap h) (cb : Int32) (lc : Int32) (tc : Int32)  (hlc : (¬ lc < 0 ∧ ¬ (32 : Int32) < lc)) (htc : (¬ tc < 0 ∧ ¬ (32 : Int32) < tc)) :
    Con l (⟨"com/example/synctoken/synctoken/dav/DepthParsePinLaw", "at", "(IIIIICC)C"⟩ : MethodName) method_4_code 8 (some .char) [] ({ frames := 1, cells := 0, slots := 0, locals := 24 } : Room) Z #[(.int 7), (.int 1), (.int 8), (.int 3), (.int cb), (.int lc), (.int tc)] h (fun v' h' => ∃ y : Int32, v' = some (.int y) ∧ (y = (116 : Int32) ∨ y = (84 : Int32)) ∧ h' = h) := by
  refine con_of (plainFor_of_name pn_2) hE (fun m => ef_rAt713 m cb lc tc) ?_
  intro p e s m below meth c T0 C X0
  have C : Cx p s m meth c Z "com/example/synctoken/synctoken/dav/DepthParsePinLaw" "at" method_4_code 8 (some .char) := C
  show Goes p e below _ T0 (mkF m 0 #[.val (.int 7), .val (.int 1), .val (.int 8), .val (.int 3), .val (.int cb), .val (.int lc), .val (.int tc), .unset] [])
  refine g_iloadN C X0 d5_0 rfl (g_iloadN C X0 d5_1 rfl (g_icmpn (hI_ge _ _) C X0 d5_2 (fun _ => ?_) (fun q => absurd q (by decide))))
  refine g_iloadN C X0 d5_8 rfl (g_iloadN C X0 d5_9 rfl (g_isub C X0 d5_10 (g_istore C X0 d5_11 (l' := #[.val (.int 7), .val (.int 1), .val (.int 8), .val (.int 3), .val (.int cb), .val (.int lc), .val (.int tc), .val (.int 6)]) rfl (g_iload C X0 d5_13 rfl (g_iloadN C X0 d5_15 rfl (g_icmp (hI_lt _ _) C X0 d5_16 (fun _ => ?_) (fun q => absurd (by decide) q)))))))
  refine g_iloadN C X0 d5_22 rfl (g_iconst 1 C X0 d5_23 rfl (g_icmpn (hI_ne _ _) C X0 d5_24 (fun _ => ?_) (fun q => absurd q (by decide))))
  refine g_iloadN C X0 d5_30 rfl (g_iconst 2 C X0 d5_31 rfl (g_icmpn (hI_ne _ _) C X0 d5_32 (fun _ => ?_) (fun q => absurd q (by decide))))
  refine g_iload C X0 d5_38 rfl (g_iload C X0 d5_40 rfl (g_static (argsL := [(.int 6), (.int cb)]) (st := []) C X0 (wd hw 141 rfl) (wd hw 142 rfl) (wd hw 25 rfl) (wd hw 143 rfl) (by decide) (pay_of (W' := 0) (rLe6 l hw X0.ext cb) C.hZ (wd hw 143 rfl) (wd hw 25 rfl) (by decide) (by decide)) pd_2 rfl rfl _ rfl (Nat.le_of_eq rfl) d5_42 (by decide) (by decide) (fun T38 h38 v38 q38 X38 => ?_)))
  obtain ⟨y38, rfl, ly38, e38⟩ := q38
  subst e38
  show Goes p e below _ T38 (mkF m 45 #[.val (.int 7), .val (.int 1), .val (.int 8), .val (.int 3), .val (.int cb), .val (.int lc), .val (.int tc), .val (.int 6)] [(.int y38)])
  exact g_retN C X38 (by simp) d5_45 y38 (Value.int.inj (own_nar (own_127 (own_gt (own_let ly38 (by decide) (by decide)))))) (by decide) (by decide) ⟨_, rfl, ly38, rfl⟩
theorem ef_rAt813 (m : MethodId) (cb : Int32) (lc : Int32) (tc : Int32) : entryFrame m #[(.int 8), (.int 1), (.int 8), (.int 3), (.int cb), (.int lc), (.int tc)] 8 = mkF m 0 #[.val (.int 8), .val (.int 1), .val (.int 8), .val (.int 3), .val (.int cb), .val (.int lc), .val (.int tc), .unset] [] := by first | (simp [entryFrame, mkF, argsToLocals, Value.category]; done) | rfl
theorem rAt813 (l : Launch) {Z : State} {a0 : Array Value} (hw : ∀ d ∈ tables_1, d.before a0 Z = true) {h : Heap} (hE : Ext Z.heap h) (cb : Int32) (lc : Int32) (tc : Int32)  (hlc : (¬ lc < 0 ∧ ¬ (32 : Int32) < lc)) (htc : (¬ tc < 0 ∧ ¬ (32 : Int32) < tc)) :
    Con l (⟨"com/example/synctoken/synctoken/dav/DepthParsePinLaw", "at", "(IIIIICC)C"⟩ : MethodName) method_4_code 8 (some .char) [] ({ frames := 1, cells := 0, slots := 0, locals := 24 } : Room) Z #[(.int 8), (.int 1), (.int 8), (.int 3), (.int cb), (.int lc), (.int tc)] h (fun v' h' => ∃ y : Int32, v' = some (.int y) ∧ (y = (121 : Int32) ∨ y = (89 : Int32)) ∧ h' = h) := by
  refine con_of (plainFor_of_name pn_2) hE (fun m => ef_rAt813 m cb lc tc) ?_
  intro p e s m below meth c T0 C X0
  have C : Cx p s m meth c Z "com/example/synctoken/synctoken/dav/DepthParsePinLaw" "at" method_4_code 8 (some .char) := C
  show Goes p e below _ T0 (mkF m 0 #[.val (.int 8), .val (.int 1), .val (.int 8), .val (.int 3), .val (.int cb), .val (.int lc), .val (.int tc), .unset] [])
  refine g_iloadN C X0 d5_0 rfl (g_iloadN C X0 d5_1 rfl (g_icmpn (hI_ge _ _) C X0 d5_2 (fun _ => ?_) (fun q => absurd q (by decide))))
  refine g_iloadN C X0 d5_8 rfl (g_iloadN C X0 d5_9 rfl (g_isub C X0 d5_10 (g_istore C X0 d5_11 (l' := #[.val (.int 8), .val (.int 1), .val (.int 8), .val (.int 3), .val (.int cb), .val (.int lc), .val (.int tc), .val (.int 7)]) rfl (g_iload C X0 d5_13 rfl (g_iloadN C X0 d5_15 rfl (g_icmp (hI_lt _ _) C X0 d5_16 (fun _ => ?_) (fun q => absurd (by decide) q)))))))
  refine g_iloadN C X0 d5_22 rfl (g_iconst 1 C X0 d5_23 rfl (g_icmpn (hI_ne _ _) C X0 d5_24 (fun _ => ?_) (fun q => absurd q (by decide))))
  refine g_iloadN C X0 d5_30 rfl (g_iconst 2 C X0 d5_31 rfl (g_icmpn (hI_ne _ _) C X0 d5_32 (fun _ => ?_) (fun q => absurd q (by decide))))
  refine g_iload C X0 d5_38 rfl (g_iload C X0 d5_40 rfl (g_static (argsL := [(.int 7), (.int cb)]) (st := []) C X0 (wd hw 141 rfl) (wd hw 142 rfl) (wd hw 25 rfl) (wd hw 143 rfl) (by decide) (pay_of (W' := 0) (rLe7 l hw X0.ext cb) C.hZ (wd hw 143 rfl) (wd hw 25 rfl) (by decide) (by decide)) pd_2 rfl rfl _ rfl (Nat.le_of_eq rfl) d5_42 (by decide) (by decide) (fun T39 h39 v39 q39 X39 => ?_)))
  obtain ⟨y39, rfl, ly39, e39⟩ := q39
  subst e39
  show Goes p e below _ T39 (mkF m 45 #[.val (.int 8), .val (.int 1), .val (.int 8), .val (.int 3), .val (.int cb), .val (.int lc), .val (.int tc), .val (.int 7)] [(.int y39)])
  exact g_retN C X39 (by simp) d5_45 y39 (Value.int.inj (own_nar (own_127 (own_gt (own_let ly39 (by decide) (by decide)))))) (by decide) (by decide) ⟨_, rfl, ly39, rfl⟩
theorem ef_rAt913 (m : MethodId) (cb : Int32) (lc : Int32) (tc : Int32) : entryFrame m #[(.int 9), (.int 1), (.int 8), (.int 3), (.int cb), (.int lc), (.int tc)] 8 = mkF m 0 #[.val (.int 9), .val (.int 1), .val (.int 8), .val (.int 3), .val (.int cb), .val (.int lc), .val (.int tc), .unset] [] := by first | (simp [entryFrame, mkF, argsToLocals, Value.category]; done) | rfl
theorem rAt913 (l : Launch) {Z : State} {a0 : Array Value} (hw : ∀ d ∈ tables_1, d.before a0 Z = true) {h : Heap} (hE : Ext Z.heap h) (cb : Int32) (lc : Int32) (tc : Int32)  (hlc : (¬ lc < 0 ∧ ¬ (32 : Int32) < lc)) (htc : (¬ tc < 0 ∧ ¬ (32 : Int32) < tc)) :
    Con l (⟨"com/example/synctoken/synctoken/dav/DepthParsePinLaw", "at", "(IIIIICC)C"⟩ : MethodName) method_4_code 8 (some .char) [] ({ frames := 1, cells := 0, slots := 0, locals := 24 } : Room) Z #[(.int 9), (.int 1), (.int 8), (.int 3), (.int cb), (.int lc), (.int tc)] h (fun v' h' => v' = some (.int tc) ∧ h' = h) := by
  refine con_of (plainFor_of_name pn_2) hE (fun m => ef_rAt913 m cb lc tc) ?_
  intro p e s m below meth c T0 C X0
  have C : Cx p s m meth c Z "com/example/synctoken/synctoken/dav/DepthParsePinLaw" "at" method_4_code 8 (some .char) := C
  show Goes p e below _ T0 (mkF m 0 #[.val (.int 9), .val (.int 1), .val (.int 8), .val (.int 3), .val (.int cb), .val (.int lc), .val (.int tc), .unset] [])
  refine g_iloadN C X0 d5_0 rfl (g_iloadN C X0 d5_1 rfl (g_icmpn (hI_ge _ _) C X0 d5_2 (fun _ => ?_) (fun q => absurd q (by decide))))
  refine g_iloadN C X0 d5_8 rfl (g_iloadN C X0 d5_9 rfl (g_isub C X0 d5_10 (g_istore C X0 d5_11 (l' := #[.val (.int 9), .val (.int 1), .val (.int 8), .val (.int 3), .val (.int cb), .val (.int lc), .val (.int tc), .val (.int 8)]) rfl (g_iload C X0 d5_13 rfl (g_iloadN C X0 d5_15 rfl (g_icmp (hI_lt _ _) C X0 d5_16 (fun q => absurd q (by decide)) (fun _ => ?_)))))))
  refine g_iload C X0 d5_19 rfl ?_
  exact g_retN C X0 (by simp) d5_21 tc (Value.int.inj (own_nar (own_127 (own_sp htc)))) (by decide) (by decide) ⟨rfl, rfl⟩
theorem ef_rSt100 (m : MethodId) (cb : Int32) (lc : Int32) (tc : Int32) : entryFrame m #[(.int 1), (.int 0), (.int 1), (.int 1), (.int cb), (.int lc), (.int tc)] 8 = mkF m 0 #[.val (.int 1), .val (.int 0), .val (.int 1), .val (.int 1), .val (.int cb), .val (.int lc), .val (.int tc), .unset] [] := by first | (simp [entryFrame, mkF, argsToLocals, Value.category]; done) | rfl
theorem d4_0 : Dc method_3_code 0 (.iload_n 0) 1 1 := by decide +kernel
theorem d4_1 : Dc method_3_code 1 (.iconst 1) 1 2 := by decide +kernel
theorem d4_2 : Dj method_3_code 2 (.if_icmp .ne 11) 11 3 5 13 := by decide +kernel
theorem d4_5 : Dc method_3_code 5 (.iconst 1) 1 6 := by decide +kernel
theorem d4_6 : Dc method_3_code 6 (.newarray .char) 2 8 := by decide +kernel
theorem d4_8 : Dc method_3_code 8 (.astore 7) 2 10 := by decide +kernel
theorem d4_10 : Dj method_3_code 10 (.goto 65) 65 3 13 75 := by decide +kernel
theorem d4_75 : Dc method_3_code 75 (.aload 7) 2 77 := by decide +kernel
theorem d4_77 : Dc method_3_code 77 (.iconst 0) 1 78 := by decide +kernel
theorem d4_78 : Dc method_3_code 78 (.iconst 0) 1 79 := by decide +kernel
theorem d4_79 : Dc method_3_code 79 (.iload_n 1) 1 80 := by decide +kernel
theorem d4_80 : Dc method_3_code 80 (.iload_n 2) 1 81 := by decide +kernel
theorem d4_81 : Dc method_3_code 81 (.iload_n 3) 1 82 := by decide +kernel
theorem d4_82 : Dc method_3_code 82 (.iload 4) 2 84 := by decide +kernel
theorem d4_84 : Dc method_3_code 84 (.iload 5) 2 86 := by decide +kernel
theorem d4_86 : Dc method_3_code 86 (.iload 6) 2 88 := by decide +kernel
theorem d4_88 : Dc method_3_code 88 (.invokestatic 40) 3 91 := by decide +kernel
theorem pd_3 : parseMethodDescriptor "(IIIIICC)C" = some ⟨[.int, .int, .int, .int, .int, .char, .char], some .char⟩ := by decide +kernel
theorem d4_91 : Dc method_3_code 91 (.castore) 1 92 := by decide +kernel
theorem d4_92 : Dc method_3_code 92 (.iload_n 0) 1 93 := by decide +kernel
theorem d4_93 : Dc method_3_code 93 (.iconst 1) 1 94 := by decide +kernel
theorem d4_94 : Dj method_3_code 94 (.if_icmp .le 20) 20 3 97 114 := by decide +kernel
theorem d4_114 : Dc method_3_code 114 (.iload_n 0) 1 115 := by decide +kernel
theorem d4_115 : Dc method_3_code 115 (.iconst 2) 1 116 := by decide +kernel
theorem d4_116 : Dj method_3_code 116 (.if_icmp .le 20) 20 3 119 136 := by decide +kernel
theorem d4_136 : Dc method_3_code 136 (.iload_n 0) 1 137 := by decide +kernel
theorem d4_137 : Dc method_3_code 137 (.iconst 3) 1 138 := by decide +kernel
theorem d4_138 : Dj method_3_code 138 (.if_icmp .le 20) 20 3 141 158 := by decide +kernel
theorem d4_158 : Dc method_3_code 158 (.iload_n 0) 1 159 := by decide +kernel
theorem d4_159 : Dc method_3_code 159 (.iconst 4) 1 160 := by decide +kernel
theorem d4_160 : Dj method_3_code 160 (.if_icmp .le 20) 20 3 163 180 := by decide +kernel
theorem d4_180 : Dc method_3_code 180 (.iload_n 0) 1 181 := by decide +kernel
theorem d4_181 : Dc method_3_code 181 (.iconst 5) 1 182 := by decide +kernel
theorem d4_182 : Dj method_3_code 182 (.if_icmp .le 20) 20 3 185 202 := by decide +kernel
theorem d4_202 : Dc method_3_code 202 (.iload_n 0) 1 203 := by decide +kernel
theorem d4_203 : Dc method_3_code 203 (.bipush 6) 2 205 := by decide +kernel
theorem d4_205 : Dj method_3_code 205 (.if_icmp .le 22) 22 3 208 227 := by decide +kernel
theorem d4_227 : Dc method_3_code 227 (.iload_n 0) 1 228 := by decide +kernel
theorem d4_228 : Dc method_3_code 228 (.bipush 7) 2 230 := by decide +kernel
theorem d4_230 : Dj method_3_code 230 (.if_icmp .le 22) 22 3 233 252 := by decide +kernel
theorem d4_252 : Dc method_3_code 252 (.iload_n 0) 1 253 := by decide +kernel
theorem d4_253 : Dc method_3_code 253 (.bipush 8) 2 255 := by decide +kernel
theorem d4_255 : Dj method_3_code 255 (.if_icmp .le 22) 22 3 258 277 := by decide +kernel
theorem d4_277 : Dc method_3_code 277 (.iload_n 0) 1 278 := by decide +kernel
theorem d4_278 : Dc method_3_code 278 (.bipush 9) 2 280 := by decide +kernel
theorem d4_280 : Dj method_3_code 280 (.if_icmp .le 22) 22 3 283 302 := by decide +kernel
theorem d4_302 : Dc method_3_code 302 (.new 44) 3 305 := by decide +kernel
theorem d4_305 : Dc method_3_code 305 (.dup) 1 306 := by decide +kernel
theorem d4_306 : Dc method_3_code 306 (.aload 7) 2 308 := by decide +kernel
theorem d4_308 : Dc method_3_code 308 (.invokespecial 46) 3 311 := by decide +kernel
theorem pd_4 : parseMethodDescriptor "([C)V" = some ⟨[(.array .char)], none⟩ := by decide +kernel
theorem d4_311 : Dc method_3_code 311 (.areturn) 1 312 := by decide +kernel
theorem rSt100 (l : Launch) {Z : State} {a0 : Array Value} (hw : ∀ d ∈ tables_1, d.before a0 Z = true) {h : Heap} (hE : Ext Z.heap h) (cb : Int32) (lc : Int32) (tc : Int32) (z_ : Int32) (SZ : Sta Z Z.heap "java/lang/String" "COMPACT_STRINGS" "Z" (.int z_)) (hz : ¬ z_ = 0) (hlc : (¬ lc < 0 ∧ ¬ (32 : Int32) < lc)) (htc : (¬ tc < 0 ∧ ¬ (32 : Int32) < tc)) :
    Con l (⟨"com/example/synctoken/synctoken/dav/DepthParsePinLaw", "str", "(IIIIICC)Ljava/lang/String;"⟩ : MethodName) method_3_code 8 (some (.object "java/lang/String")) [] ({ frames := 5, cells := 3, slots := 6, locals := 120 } : Room) Z #[(.int 1), (.int 0), (.int 1), (.int 1), (.int cb), (.int lc), (.int tc)] h (fun v' h' => ∃ (x t : Addr) (kt : ClassId), v' = some (.ref x) ∧ Z.heap.size ≤ x ∧ h.size ≤ x ∧ Ext h h' ∧ Exa Z h' x "java/lang/String" ∧ Fld Z h' x "java/lang/String" "coder" "B" (.int (0 : Int32)) ∧ Fld Z h' x "java/lang/String" "value" "[B" (.ref t) ∧ Arv Z h' t kt .byte 1 [(.int 48)] (.int (0 : Int32))) := by
  refine con_of (plainFor_of_name pn_2) hE (fun m => ef_rSt100 m cb lc tc) ?_
  intro p e s m below meth c T0 C X0
  have C : Cx p s m meth c Z "com/example/synctoken/synctoken/dav/DepthParsePinLaw" "str" method_3_code 8 (some (.object "java/lang/String")) := C
  show Goes p e below _ T0 (mkF m 0 #[.val (.int 1), .val (.int 0), .val (.int 1), .val (.int 1), .val (.int cb), .val (.int lc), .val (.int tc), .unset] [])
  refine g_iloadN C X0 d4_0 rfl (g_iconst 1 C X0 d4_1 rfl (g_icmpn (hI_ne _ _) C X0 d4_2 (fun q => absurd (by decide) q) (fun _ => ?_)))
  refine g_iconst 1 C X0 d4_5 rfl (g_newarray C X0 (wd hw 27 rfl) d4_6 (by decide) 1 1 (by decide) (by decide) (by decide) (by decide) (fun T40 h40 b40 k_b40 g_b40 n_b40 X40 E40 V40 => ?_))
  have V_b40 : Arv Z h40 b40 k_b40 .char (1 : Int32) [(.int 0)] (.int 0) := V40
  refine g_astore C X40 d4_8 rfl (l' := #[.val (.int 1), .val (.int 0), .val (.int 1), .val (.int 1), .val (.int cb), .val (.int lc), .val (.int tc), .val (.ref b40)]) rfl (g_goto C X40 d4_10 (g_aload C X40 d4_75 rfl rfl (g_iconst 0 C X40 d4_77 rfl (g_iconst 0 C X40 d4_78 rfl (g_iloadN C X40 d4_79 rfl (g_iloadN C X40 d4_80 rfl (g_iloadN C X40 d4_81 rfl (g_iload C X40 d4_82 rfl (g_iload C X40 d4_84 rfl (g_iload C X40 d4_86 rfl (g_staticP (argsL := [(.int 0), (.int 0), (.int 1), (.int 1), (.int cb), (.int lc), (.int tc)]) (st := [(.int 0), (.ref b40)]) C X40 (wd hw 28 rfl) (wd hw 29 rfl) (wd hw 25 rfl) (wd hw 30 rfl) (by decide) (pay_of (W' := 2) (rAt001 l hw X40.ext cb lc tc hlc htc) C.hZ (wd hw 30 rfl) (wd hw 25 rfl) (by decide) (by decide)) pd_3 rfl rfl _ rfl (Nat.le_of_eq rfl) d4_88 (by decide) (by decide) (fun T41 X41 => ?_))))))))))))
  refine g_castore C X41 V_b40 n_b40 d4_91 (by decide) (by decide) (Nat.le_of_ble_eq_true rfl) (.int 48) rfl (fun T42 h42 X42 W42 V42 => ?_)
  have V42_b40 : Arv Z h42 b40 k_b40 .char (1 : Int32) [(.int 48)] (.int 0) := V42
  refine g_iloadN C X42 d4_92 rfl (g_iconst 1 C X42 d4_93 rfl (g_icmpn (hI_le _ _) C X42 d4_94 (fun _ => ?_) (fun q => absurd q (by decide))))
  refine g_iloadN C X42 d4_114 rfl (g_iconst 2 C X42 d4_115 rfl (g_icmpn (hI_le _ _) C X42 d4_116 (fun _ => ?_) (fun q => absurd q (by decide))))
  refine g_iloadN C X42 d4_136 rfl (g_iconst 3 C X42 d4_137 rfl (g_icmpn (hI_le _ _) C X42 d4_138 (fun _ => ?_) (fun q => absurd q (by decide))))
  refine g_iloadN C X42 d4_158 rfl (g_iconst 4 C X42 d4_159 rfl (g_icmpn (hI_le _ _) C X42 d4_160 (fun _ => ?_) (fun q => absurd q (by decide))))
  refine g_iloadN C X42 d4_180 rfl (g_iconst 5 C X42 d4_181 rfl (g_icmpn (hI_le _ _) C X42 d4_182 (fun _ => ?_) (fun q => absurd q (by decide))))
  refine g_iloadN C X42 d4_202 rfl (g_bipush 6 C X42 d4_203 rfl (g_icmpn (hI_le _ _) C X42 d4_205 (fun _ => ?_) (fun q => absurd q (by decide))))
  refine g_iloadN C X42 d4_227 rfl (g_bipush 7 C X42 d4_228 rfl (g_icmpn (hI_le _ _) C X42 d4_230 (fun _ => ?_) (fun q => absurd q (by decide))))
  refine g_iloadN C X42 d4_252 rfl (g_bipush 8 C X42 d4_253 rfl (g_icmpn (hI_le _ _) C X42 d4_255 (fun _ => ?_) (fun q => absurd q (by decide))))
  refine g_iloadN C X42 d4_277 rfl (g_bipush 9 C X42 d4_278 rfl (g_icmpn (hI_le _ _) C X42 d4_280 (fun _ => ?_) (fun q => absurd q (by decide))))
  refine g_new C X42 (wd hw 31 rfl) (wd hw 32 rfl) (wd hw 33 rfl) d4_302 (by decide) (by decide) (fun T43 h43 b43 g_b43 n_b43 X43 E43 A43 D43 M43 => ?_)
  have lt44 : b40 < b43 := by rw [g_b43]; exact Arv.lt V42_b40
  have F_coder_b43 : Fld Z h43 b43 "java/lang/String" "coder" "B" (.int 0) := D43 (Or.inr (wd hw 57 rfl)) (ty := .byte) (by decide)
  have F_value_b43 : Fld Z h43 b43 "java/lang/String" "value" "[B" .null := D43 (Or.inr (wd hw 59 rfl)) (ty := (.array .byte)) (by decide)
  refine g_dup C X43 d4_305 rfl (g_aload C X43 d4_306 rfl rfl ?_)
  have hp45 : ∀ c ∈ [(48 : Int32)], ¬ c < 0 ∧ ¬ (255 : Int32) < c := (List.forall_mem_cons.mpr ⟨(by decide), (fun _ q => nomatch q)⟩)
  have f47 := (Arv.ext V42_b40 E43)
  refine g_special (argsL := [(.ref b40)]) (st := [(.ref b43)]) C X43 rfl (wd hw 34 rfl) (wd hw 35 rfl) (wd hw 36 rfl) (by decide) (payV (W' := 1) (cs := [(48 : Int32)]) (n := 1) C.hZ X43.ext (own_words hw) (kI := 4) (wd hw 32 rfl) n_b43 A43 F_value_b43 F_coder_b43 f47 SZ hz rfl rfl (by decide) (by decide) hp45 (by decide) (by decide)) pd_4 rfl rfl _ rfl (Nat.le_of_eq rfl) d4_308 (by decide) (by decide) (fun T46 h46 v46 q46 X46 => ?_)
  obtain ⟨rfl, K46, EX46, FC46, t46, k_t46, nt0_46, gt46, nt46, FV46, VT46⟩ := q46
  have lt48 : b40 < t46 := Nat.lt_of_lt_of_le (Arv.lt f47) gt46
  have lt49 : b43 < t46 := Nat.lt_of_lt_of_le (Exa.lt A43) gt46
  show Goes p e below _ T46 (mkF m 311 #[.val (.int 1), .val (.int 0), .val (.int 1), .val (.int 1), .val (.int cb), .val (.int lc), .val (.int tc), .val (.ref b40)] [(.ref b43)])
  have sz50 : h.size ≤ b40 := by rw [g_b40]; exact (Keep.refl h []).1
  have kp51 := (Keep.refl h []).ext E40
  have kp52 := kp51.wr W42 (Or.inr sz50)
  have sz53 : h.size ≤ b43 := by rw [g_b43]; exact kp52.1
  have kp54 := kp52.ext E43
  have kp55 := kp54.trans K46 (allS (Or.inr sz53) all0)
  exact g_retA C X46 rfl rfl d4_311 (by decide) (by decide) ⟨b43, t46, k_t46, rfl, n_b43, sz53, keep_ext kp55, EX46, FC46, FV46, own_conv VT46 (by simp only [List.map, own_b7 (y := (48 : Int32)) (by decide)])⟩
theorem ef_rSt101 (m : MethodId) (cb : Int32) (lc : Int32) (tc : Int32) : entryFrame m #[(.int 2), (.int 0), (.int 1), (.int 1), (.int cb), (.int lc), (.int tc)] 8 = mkF m 0 #[.val (.int 2), .val (.int 0), .val (.int 1), .val (.int 1), .val (.int cb), .val (.int lc), .val (.int tc), .unset] [] := by first | (simp [entryFrame, mkF, argsToLocals, Value.category]; done) | rfl
theorem d4_13 : Dc method_3_code 13 (.iload_n 0) 1 14 := by decide +kernel
theorem d4_14 : Dc method_3_code 14 (.iconst 2) 1 15 := by decide +kernel
theorem d4_15 : Dj method_3_code 15 (.if_icmp .ne 11) 11 3 18 26 := by decide +kernel
theorem d4_18 : Dc method_3_code 18 (.iconst 2) 1 19 := by decide +kernel
theorem d4_19 : Dc method_3_code 19 (.newarray .char) 2 21 := by decide +kernel
theorem d4_21 : Dc method_3_code 21 (.astore 7) 2 23 := by decide +kernel
theorem d4_23 : Dj method_3_code 23 (.goto 52) 52 3 26 75 := by decide +kernel
theorem d4_97 : Dc method_3_code 97 (.aload 7) 2 99 := by decide +kernel
theorem d4_99 : Dc method_3_code 99 (.iconst 1) 1 100 := by decide +kernel
theorem d4_100 : Dc method_3_code 100 (.iconst 1) 1 101 := by decide +kernel
theorem d4_101 : Dc method_3_code 101 (.iload_n 1) 1 102 := by decide +kernel
theorem d4_102 : Dc method_3_code 102 (.iload_n 2) 1 103 := by decide +kernel
theorem d4_103 : Dc method_3_code 103 (.iload_n 3) 1 104 := by decide +kernel
theorem d4_104 : Dc method_3_code 104 (.iload 4) 2 106 := by decide +kernel
theorem d4_106 : Dc method_3_code 106 (.iload 5) 2 108 := by decide +kernel
theorem d4_108 : Dc method_3_code 108 (.iload 6) 2 110 := by decide +kernel
theorem d4_110 : Dc method_3_code 110 (.invokestatic 40) 3 113 := by decide +kernel
theorem d4_113 : Dc method_3_code 113 (.castore) 1 114 := by decide +kernel
theorem rSt101 (l : Launch) {Z : State} {a0 : Array Value} (hw : ∀ d ∈ tables_1, d.before a0 Z = true) {h : Heap} (hE : Ext Z.heap h) (cb : Int32) (lc : Int32) (tc : Int32) (z_ : Int32) (SZ : Sta Z Z.heap "java/lang/String" "COMPACT_STRINGS" "Z" (.int z_)) (hz : ¬ z_ = 0) (hlc : (¬ lc < 0 ∧ ¬ (32 : Int32) < lc)) (htc : (¬ tc < 0 ∧ ¬ (32 : Int32) < tc)) :
    Con l (⟨"com/example/synctoken/synctoken/dav/DepthParsePinLaw", "str", "(IIIIICC)Ljava/lang/String;"⟩ : MethodName) method_3_code 8 (some (.object "java/lang/String")) [] ({ frames := 5, cells := 3, slots := 8, locals := 120 } : Room) Z #[(.int 2), (.int 0), (.int 1), (.int 1), (.int cb), (.int lc), (.int tc)] h (fun v' h' => ∃ (x t : Addr) (kt : ClassId), v' = some (.ref x) ∧ Z.heap.size ≤ x ∧ h.size ≤ x ∧ Ext h h' ∧ Exa Z h' x "java/lang/String" ∧ Fld Z h' x "java/lang/String" "coder" "B" (.int (0 : Int32)) ∧ Fld Z h' x "java/lang/String" "value" "[B" (.ref t) ∧ Arv Z h' t kt .byte 2 [(.int 48), (.int tc)] (.int (0 : Int32))) := by
  refine con_of (plainFor_of_name pn_2) hE (fun m => ef_rSt101 m cb lc tc) ?_
  intro p e s m below meth c T0 C X0
  have C : Cx p s m meth c Z "com/example/synctoken/synctoken/dav/DepthParsePinLaw" "str" method_3_code 8 (some (.object "java/lang/String")) := C
  show Goes p e below _ T0 (mkF m 0 #[.val (.int 2), .val (.int 0), .val (.int 1), .val (.int 1), .val (.int cb), .val (.int lc), .val (.int tc), .unset] [])
  refine g_iloadN C X0 d4_0 rfl (g_iconst 1 C X0 d4_1 rfl (g_icmpn (hI_ne _ _) C X0 d4_2 (fun _ => ?_) (fun q => absurd q (by decide))))
  refine g_iloadN C X0 d4_13 rfl (g_iconst 2 C X0 d4_14 rfl (g_icmpn (hI_ne _ _) C X0 d4_15 (fun q => absurd (by decide) q) (fun _ => ?_)))
  refine g_iconst 2 C X0 d4_18 rfl (g_newarray C X0 (wd hw 27 rfl) d4_19 (by decide) 2 2 (by decide) (by decide) (by decide) (by decide) (fun T56 h56 b56 k_b56 g_b56 n_b56 X56 E56 V56 => ?_))
  have V_b56 : Arv Z h56 b56 k_b56 .char (2 : Int32) [(.int 0), (.int 0)] (.int 0) := V56
  refine g_astore C X56 d4_21 rfl (l' := #[.val (.int 2), .val (.int 0), .val (.int 1), .val (.int 1), .val (.int cb), .val (.int lc), .val (.int tc), .val (.ref b56)]) rfl (g_goto C X56 d4_23 (g_aload C X56 d4_75 rfl rfl (g_iconst 0 C X56 d4_77 rfl (g_iconst 0 C X56 d4_78 rfl (g_iloadN C X56 d4_79 rfl (g_iloadN C X56 d4_80 rfl (g_iloadN C X56 d4_81 rfl (g_iload C X56 d4_82 rfl (g_iload C X56 d4_84 rfl (g_iload C X56 d4_86 rfl (g_staticP (argsL := [(.int 0), (.int 0), (.int 1), (.int 1), (.int cb), (.int lc), (.int tc)]) (st := [(.int 0), (.ref b56)]) C X56 (wd hw 28 rfl) (wd hw 29 rfl) (wd hw 25 rfl) (wd hw 30 rfl) (by decide) (pay_of (W' := 2) (rAt001 l hw X56.ext cb lc tc hlc htc) C.hZ (wd hw 30 rfl) (wd hw 25 rfl) (by decide) (by decide)) pd_3 rfl rfl _ rfl (Nat.le_of_eq rfl) d4_88 (by decide) (by decide) (fun T57 X57 => ?_))))))))))))
  refine g_castore C X57 V_b56 n_b56 d4_91 (by decide) (by decide) (Nat.le_of_ble_eq_true rfl) (.int 48) rfl (fun T58 h58 X58 W58 V58 => ?_)
  have V58_b56 : Arv Z h58 b56 k_b56 .char (2 : Int32) [(.int 48), (.int 0)] (.int 0) := V58
  refine g_iloadN C X58 d4_92 rfl (g_iconst 1 C X58 d4_93 rfl (g_icmpn (hI_le _ _) C X58 d4_94 (fun q => absurd (by decide) q) (fun _ => ?_)))
  refine g_aload C X58 d4_97 rfl rfl (g_iconst 1 C X58 d4_99 rfl (g_iconst 1 C X58 d4_100 rfl (g_iloadN C X58 d4_101 rfl (g_iloadN C X58 d4_102 rfl (g_iloadN C X58 d4_103 rfl (g_iload C X58 d4_104 rfl (g_iload C X58 d4_106 rfl (g_iload C X58 d4_108 rfl (g_staticP (argsL := [(.int 1), (.int 0), (.int 1), (.int 1), (.int cb), (.int lc), (.int tc)]) (st := [(.int 1), (.ref b56)]) C X58 (wd hw 28 rfl) (wd hw 29 rfl) (wd hw 25 rfl) (wd hw 30 rfl) (by decide) (pay_of (W' := 2) (rAt101 l hw X58.ext cb lc tc hlc htc) C.hZ (wd hw 30 rfl) (wd hw 25 rfl) (by decide) (by decide)) pd_3 rfl rfl _ rfl (Nat.le_of_eq rfl) d4_110 (by decide) (by decide) (fun T59 X59 => ?_))))))))))
  refine g_castore C X59 V58_b56 n_b56 d4_113 (by decide) (by decide) (Nat.le_of_ble_eq_true rfl) (.int tc) (own_nar (own_127 (own_sp htc))) (fun T60 h60 X60 W60 V60 => ?_)
  have V60_b56 : Arv Z h60 b56 k_b56 .char (2 : Int32) [(.int 48), (.int tc)] (.int 0) := V60
  refine g_iloadN C X60 d4_114 rfl (g_iconst 2 C X60 d4_115 rfl (g_icmpn (hI_le _ _) C X60 d4_116 (fun _ => ?_) (fun q => absurd q (by decide))))
  refine g_iloadN C X60 d4_136 rfl (g_iconst 3 C X60 d4_137 rfl (g_icmpn (hI_le _ _) C X60 d4_138 (fun _ => ?_) (fun q => absurd q (by decide))))
  refine g_iloadN C X60 d4_158 rfl (g_iconst 4 C X60 d4_159 rfl (g_icmpn (hI_le _ _) C X60 d4_160 (fun _ => ?_) (fun q => absurd q (by decide))))
  refine g_iloadN C X60 d4_180 rfl (g_iconst 5 C X60 d4_181 rfl (g_icmpn (hI_le _ _) C X60 d4_182 (fun _ => ?_) (fun q => absurd q (by decide))))
  refine g_iloadN C X60 d4_202 rfl (g_bipush 6 C X60 d4_203 rfl (g_icmpn (hI_le _ _) C X60 d4_205 (fun _ => ?_) (fun q => absurd q (by decide))))
  refine g_iloadN C X60 d4_227 rfl (g_bipush 7 C X60 d4_228 rfl (g_icmpn (hI_le _ _) C X60 d4_230 (fun _ => ?_) (fun q => absurd q (by decide))))
  refine g_iloadN C X60 d4_252 rfl (g_bipush 8 C X60 d4_253 rfl (g_icmpn (hI_le _ _) C X60 d4_255 (fun _ => ?_) (fun q => absurd q (by decide))))
  refine g_iloadN C X60 d4_277 rfl (g_bipush 9 C X60 d4_278 rfl (g_icmpn (hI_le _ _) C X60 d4_280 (fun _ => ?_) (fun q => absurd q (by decide))))
  refine g_new C X60 (wd hw 31 rfl) (wd hw 32 rfl) (wd hw 33 rfl) d4_302 (by decide) (by decide) (fun T61 h61 b61 g_b61 n_b61 X61 E61 A61 D61 M61 => ?_)
  have lt62 : b56 < b61 := by rw [g_b61]; exact Arv.lt V60_b56
  have F_coder_b61 : Fld Z h61 b61 "java/lang/String" "coder" "B" (.int 0) := D61 (Or.inr (wd hw 57 rfl)) (ty := .byte) (by decide)
  have F_value_b61 : Fld Z h61 b61 "java/lang/String" "value" "[B" .null := D61 (Or.inr (wd hw 59 rfl)) (ty := (.array .byte)) (by decide)
  refine g_dup C X61 d4_305 rfl (g_aload C X61 d4_306 rfl rfl ?_)
  have hp63 : ∀ c ∈ [(48 : Int32), tc], ¬ c < 0 ∧ ¬ (255 : Int32) < c := (List.forall_mem_cons.mpr ⟨(by decide), (List.forall_mem_cons.mpr ⟨(own_127 (own_sp htc)), (fun _ q => nomatch q)⟩)⟩)
  have f65 := (Arv.ext V60_b56 E61)
  refine g_special (argsL := [(.ref b56)]) (st := [(.ref b61)]) C X61 rfl (wd hw 34 rfl) (wd hw 35 rfl) (wd hw 36 rfl) (by decide) (payV (W' := 1) (cs := [(48 : Int32), tc]) (n := 2) C.hZ X61.ext (own_words hw) (kI := 4) (wd hw 32 rfl) n_b61 A61 F_value_b61 F_coder_b61 f65 SZ hz rfl rfl (by decide) (by decide) hp63 (by decide) (by decide)) pd_4 rfl rfl _ rfl (Nat.le_of_eq rfl) d4_308 (by decide) (by decide) (fun T64 h64 v64 q64 X64 => ?_)
  obtain ⟨rfl, K64, EX64, FC64, t64, k_t64, nt0_64, gt64, nt64, FV64, VT64⟩ := q64
  have lt66 : b56 < t64 := Nat.lt_of_lt_of_le (Arv.lt f65) gt64
  have lt67 : b61 < t64 := Nat.lt_of_lt_of_le (Exa.lt A61) gt64
  show Goes p e below _ T64 (mkF m 311 #[.val (.int 2), .val (.int 0), .val (.int 1), .val (.int 1), .val (.int cb), .val (.int lc), .val (.int tc), .val (.ref b56)] [(.ref b61)])
  have sz68 : h.size ≤ b56 := by rw [g_b56]; exact (Keep.refl h []).1
  have kp69 := (Keep.refl h []).ext E56
  have kp70 := kp69.wr W58 (Or.inr sz68)
  have kp71 := kp70.wr W60 (Or.inr sz68)
  have sz72 : h.size ≤ b61 := by rw [g_b61]; exact kp71.1
  have kp73 := kp71.ext E61
  have kp74 := kp73.trans K64 (allS (Or.inr sz72) all0)
  exact g_retA C X64 rfl rfl d4_311 (by decide) (by decide) ⟨b61, t64, k_t64, rfl, n_b61, sz72, keep_ext kp74, EX64, FC64, FV64, own_conv VT64 (by simp only [List.map, own_b7 (y := (48 : Int32)) (by decide), own_b7 (own_sp htc)])⟩
theorem ef_rSt110 (m : MethodId) (cb : Int32) (lc : Int32) (tc : Int32) : entryFrame m #[(.int 2), (.int 1), (.int 1), (.int 1), (.int cb), (.int lc), (.int tc)] 8 = mkF m 0 #[.val (.int 2), .val (.int 1), .val (.int 1), .val (.int 1), .val (.int cb), .val (.int lc), .val (.int tc), .unset] [] := by first | (simp [entryFrame, mkF, argsToLocals, Value.category]; done) | rfl
theorem rSt110 (l : Launch) {Z : State} {a0 : Array Value} (hw : ∀ d ∈ tables_1, d.before a0 Z = true) {h : Heap} (hE : Ext Z.heap h) (cb : Int32) (lc : Int32) (tc : Int32) (z_ : Int32) (SZ : Sta Z Z.heap "java/lang/String" "COMPACT_STRINGS" "Z" (.int z_)) (hz : ¬ z_ = 0) (hlc : (¬ lc < 0 ∧ ¬ (32 : Int32) < lc)) (htc : (¬ tc < 0 ∧ ¬ (32 : Int32) < tc)) :
    Con l (⟨"com/example/synctoken/synctoken/dav/DepthParsePinLaw", "str", "(IIIIICC)Ljava/lang/String;"⟩ : MethodName) method_3_code 8 (some (.object "java/lang/String")) [] ({ frames := 5, cells := 3, slots := 8, locals := 120 } : Room) Z #[(.int 2), (.int 1), (.int 1), (.int 1), (.int cb), (.int lc), (.int tc)] h (fun v' h' => ∃ (x t : Addr) (kt : ClassId), v' = some (.ref x) ∧ Z.heap.size ≤ x ∧ h.size ≤ x ∧ Ext h h' ∧ Exa Z h' x "java/lang/String" ∧ Fld Z h' x "java/lang/String" "coder" "B" (.int (0 : Int32)) ∧ Fld Z h' x "java/lang/String" "value" "[B" (.ref t) ∧ Arv Z h' t kt .byte 2 [(.int lc), (.int 48)] (.int (0 : Int32))) := by
  refine con_of (plainFor_of_name pn_2) hE (fun m => ef_rSt110 m cb lc tc) ?_
  intro p e s m below meth c T0 C X0
  have C : Cx p s m meth c Z "com/example/synctoken/synctoken/dav/DepthParsePinLaw" "str" method_3_code 8 (some (.object "java/lang/String")) := C
  show Goes p e below _ T0 (mkF m 0 #[.val (.int 2), .val (.int 1), .val (.int 1), .val (.int 1), .val (.int cb), .val (.int lc), .val (.int tc), .unset] [])
  refine g_iloadN C X0 d4_0 rfl (g_iconst 1 C X0 d4_1 rfl (g_icmpn (hI_ne _ _) C X0 d4_2 (fun _ => ?_) (fun q => absurd q (by decide))))
  refine g_iloadN C X0 d4_13 rfl (g_iconst 2 C X0 d4_14 rfl (g_icmpn (hI_ne _ _) C X0 d4_15 (fun q => absurd (by decide) q) (fun _ => ?_)))
  refine g_iconst 2 C X0 d4_18 rfl (g_newarray C X0 (wd hw 27 rfl) d4_19 (by decide) 2 2 (by decide) (by decide) (by decide) (by decide) (fun T75 h75 b75 k_b75 g_b75 n_b75 X75 E75 V75 => ?_))
  have V_b75 : Arv Z h75 b75 k_b75 .char (2 : Int32) [(.int 0), (.int 0)] (.int 0) := V75
  refine g_astore C X75 d4_21 rfl (l' := #[.val (.int 2), .val (.int 1), .val (.int 1), .val (.int 1), .val (.int cb), .val (.int lc), .val (.int tc), .val (.ref b75)]) rfl (g_goto C X75 d4_23 (g_aload C X75 d4_75 rfl rfl (g_iconst 0 C X75 d4_77 rfl (g_iconst 0 C X75 d4_78 rfl (g_iloadN C X75 d4_79 rfl (g_iloadN C X75 d4_80 rfl (g_iloadN C X75 d4_81 rfl (g_iload C X75 d4_82 rfl (g_iload C X75 d4_84 rfl (g_iload C X75 d4_86 rfl (g_staticP (argsL := [(.int 0), (.int 1), (.int 1), (.int 1), (.int cb), (.int lc), (.int tc)]) (st := [(.int 0), (.ref b75)]) C X75 (wd hw 28 rfl) (wd hw 29 rfl) (wd hw 25 rfl) (wd hw 30 rfl) (by decide) (pay_of (W' := 2) (rAt011 l hw X75.ext cb lc tc hlc htc) C.hZ (wd hw 30 rfl) (wd hw 25 rfl) (by decide) (by decide)) pd_3 rfl rfl _ rfl (Nat.le_of_eq rfl) d4_88 (by decide) (by decide) (fun T76 X76 => ?_))))))))))))
  refine g_castore C X76 V_b75 n_b75 d4_91 (by decide) (by decide) (Nat.le_of_ble_eq_true rfl) (.int lc) (own_nar (own_127 (own_sp hlc))) (fun T77 h77 X77 W77 V77 => ?_)
  have V77_b75 : Arv Z h77 b75 k_b75 .char (2 : Int32) [(.int lc), (.int 0)] (.int 0) := V77
  refine g_iloadN C X77 d4_92 rfl (g_iconst 1 C X77 d4_93 rfl (g_icmpn (hI_le _ _) C X77 d4_94 (fun q => absurd (by decide) q) (fun _ => ?_)))
  refine g_aload C X77 d4_97 rfl rfl (g_iconst 1 C X77 d4_99 rfl (g_iconst 1 C X77 d4_100 rfl (g_iloadN C X77 d4_101 rfl (g_iloadN C X77 d4_102 rfl (g_iloadN C X77 d4_103 rfl (g_iload C X77 d4_104 rfl (g_iload C X77 d4_106 rfl (g_iload C X77 d4_108 rfl (g_staticP (argsL := [(.int 1), (.int 1), (.int 1), (.int 1), (.int cb), (.int lc), (.int tc)]) (st := [(.int 1), (.ref b75)]) C X77 (wd hw 28 rfl) (wd hw 29 rfl) (wd hw 25 rfl) (wd hw 30 rfl) (by decide) (pay_of (W' := 2) (rAt111 l hw X77.ext cb lc tc hlc htc) C.hZ (wd hw 30 rfl) (wd hw 25 rfl) (by decide) (by decide)) pd_3 rfl rfl _ rfl (Nat.le_of_eq rfl) d4_110 (by decide) (by decide) (fun T78 X78 => ?_))))))))))
  refine g_castore C X78 V77_b75 n_b75 d4_113 (by decide) (by decide) (Nat.le_of_ble_eq_true rfl) (.int 48) rfl (fun T79 h79 X79 W79 V79 => ?_)
  have V79_b75 : Arv Z h79 b75 k_b75 .char (2 : Int32) [(.int lc), (.int 48)] (.int 0) := V79
  refine g_iloadN C X79 d4_114 rfl (g_iconst 2 C X79 d4_115 rfl (g_icmpn (hI_le _ _) C X79 d4_116 (fun _ => ?_) (fun q => absurd q (by decide))))
  refine g_iloadN C X79 d4_136 rfl (g_iconst 3 C X79 d4_137 rfl (g_icmpn (hI_le _ _) C X79 d4_138 (fun _ => ?_) (fun q => absurd q (by decide))))
  refine g_iloadN C X79 d4_158 rfl (g_iconst 4 C X79 d4_159 rfl (g_icmpn (hI_le _ _) C X79 d4_160 (fun _ => ?_) (fun q => absurd q (by decide))))
  refine g_iloadN C X79 d4_180 rfl (g_iconst 5 C X79 d4_181 rfl (g_icmpn (hI_le _ _) C X79 d4_182 (fun _ => ?_) (fun q => absurd q (by decide))))
  refine g_iloadN C X79 d4_202 rfl (g_bipush 6 C X79 d4_203 rfl (g_icmpn (hI_le _ _) C X79 d4_205 (fun _ => ?_) (fun q => absurd q (by decide))))
  refine g_iloadN C X79 d4_227 rfl (g_bipush 7 C X79 d4_228 rfl (g_icmpn (hI_le _ _) C X79 d4_230 (fun _ => ?_) (fun q => absurd q (by decide))))
  refine g_iloadN C X79 d4_252 rfl (g_bipush 8 C X79 d4_253 rfl (g_icmpn (hI_le _ _) C X79 d4_255 (fun _ => ?_) (fun q => absurd q (by decide))))
  refine g_iloadN C X79 d4_277 rfl (g_bipush 9 C X79 d4_278 rfl (g_icmpn (hI_le _ _) C X79 d4_280 (fun _ => ?_) (fun q => absurd q (by decide))))
  refine g_new C X79 (wd hw 31 rfl) (wd hw 32 rfl) (wd hw 33 rfl) d4_302 (by decide) (by decide) (fun T80 h80 b80 g_b80 n_b80 X80 E80 A80 D80 M80 => ?_)
  have lt81 : b75 < b80 := by rw [g_b80]; exact Arv.lt V79_b75
  have F_coder_b80 : Fld Z h80 b80 "java/lang/String" "coder" "B" (.int 0) := D80 (Or.inr (wd hw 57 rfl)) (ty := .byte) (by decide)
  have F_value_b80 : Fld Z h80 b80 "java/lang/String" "value" "[B" .null := D80 (Or.inr (wd hw 59 rfl)) (ty := (.array .byte)) (by decide)
  refine g_dup C X80 d4_305 rfl (g_aload C X80 d4_306 rfl rfl ?_)
  have hp82 : ∀ c ∈ [lc, (48 : Int32)], ¬ c < 0 ∧ ¬ (255 : Int32) < c := (List.forall_mem_cons.mpr ⟨(own_127 (own_sp hlc)), (List.forall_mem_cons.mpr ⟨(by decide), (fun _ q => nomatch q)⟩)⟩)
  have f84 := (Arv.ext V79_b75 E80)
  refine g_special (argsL := [(.ref b75)]) (st := [(.ref b80)]) C X80 rfl (wd hw 34 rfl) (wd hw 35 rfl) (wd hw 36 rfl) (by decide) (payV (W' := 1) (cs := [lc, (48 : Int32)]) (n := 2) C.hZ X80.ext (own_words hw) (kI := 4) (wd hw 32 rfl) n_b80 A80 F_value_b80 F_coder_b80 f84 SZ hz rfl rfl (by decide) (by decide) hp82 (by decide) (by decide)) pd_4 rfl rfl _ rfl (Nat.le_of_eq rfl) d4_308 (by decide) (by decide) (fun T83 h83 v83 q83 X83 => ?_)
  obtain ⟨rfl, K83, EX83, FC83, t83, k_t83, nt0_83, gt83, nt83, FV83, VT83⟩ := q83
  have lt85 : b75 < t83 := Nat.lt_of_lt_of_le (Arv.lt f84) gt83
  have lt86 : b80 < t83 := Nat.lt_of_lt_of_le (Exa.lt A80) gt83
  show Goes p e below _ T83 (mkF m 311 #[.val (.int 2), .val (.int 1), .val (.int 1), .val (.int 1), .val (.int cb), .val (.int lc), .val (.int tc), .val (.ref b75)] [(.ref b80)])
  have sz87 : h.size ≤ b75 := by rw [g_b75]; exact (Keep.refl h []).1
  have kp88 := (Keep.refl h []).ext E75
  have kp89 := kp88.wr W77 (Or.inr sz87)
  have kp90 := kp89.wr W79 (Or.inr sz87)
  have sz91 : h.size ≤ b80 := by rw [g_b80]; exact kp90.1
  have kp92 := kp90.ext E80
  have kp93 := kp92.trans K83 (allS (Or.inr sz91) all0)
  exact g_retA C X83 rfl rfl d4_311 (by decide) (by decide) ⟨b80, t83, k_t83, rfl, n_b80, sz91, keep_ext kp93, EX83, FC83, FV83, own_conv VT83 (by simp only [List.map, own_b7 (own_sp hlc), own_b7 (y := (48 : Int32)) (by decide)])⟩
theorem ef_rSt111 (m : MethodId) (cb : Int32) (lc : Int32) (tc : Int32) : entryFrame m #[(.int 3), (.int 1), (.int 1), (.int 1), (.int cb), (.int lc), (.int tc)] 8 = mkF m 0 #[.val (.int 3), .val (.int 1), .val (.int 1), .val (.int 1), .val (.int cb), .val (.int lc), .val (.int tc), .unset] [] := by first | (simp [entryFrame, mkF, argsToLocals, Value.category]; done) | rfl
theorem d4_26 : Dc method_3_code 26 (.iload_n 0) 1 27 := by decide +kernel
theorem d4_27 : Dc method_3_code 27 (.iconst 3) 1 28 := by decide +kernel
theorem d4_28 : Dj method_3_code 28 (.if_icmp .ne 11) 11 3 31 39 := by decide +kernel
theorem d4_31 : Dc method_3_code 31 (.iconst 3) 1 32 := by decide +kernel
theorem d4_32 : Dc method_3_code 32 (.newarray .char) 2 34 := by decide +kernel
theorem d4_34 : Dc method_3_code 34 (.astore 7) 2 36 := by decide +kernel
theorem d4_36 : Dj method_3_code 36 (.goto 39) 39 3 39 75 := by decide +kernel
theorem d4_119 : Dc method_3_code 119 (.aload 7) 2 121 := by decide +kernel
theorem d4_121 : Dc method_3_code 121 (.iconst 2) 1 122 := by decide +kernel
theorem d4_122 : Dc method_3_code 122 (.iconst 2) 1 123 := by decide +kernel
theorem d4_123 : Dc method_3_code 123 (.iload_n 1) 1 124 := by decide +kernel
theorem d4_124 : Dc method_3_code 124 (.iload_n 2) 1 125 := by decide +kernel
theorem d4_125 : Dc method_3_code 125 (.iload_n 3) 1 126 := by decide +kernel
theorem d4_126 : Dc method_3_code 126 (.iload 4) 2 128 := by decide +kernel
theorem d4_128 : Dc method_3_code 128 (.iload 5) 2 130 := by decide +kernel
theorem d4_130 : Dc method_3_code 130 (.iload 6) 2 132 := by decide +kernel
theorem d4_132 : Dc method_3_code 132 (.invokestatic 40) 3 135 := by decide +kernel
theorem d4_135 : Dc method_3_code 135 (.castore) 1 136 := by decide +kernel
theorem rSt111 (l : Launch) {Z : State} {a0 : Array Value} (hw : ∀ d ∈ tables_1, d.before a0 Z = true) {h : Heap} (hE : Ext Z.heap h) (cb : Int32) (lc : Int32) (tc : Int32) (z_ : Int32) (SZ : Sta Z Z.heap "java/lang/String" "COMPACT_STRINGS" "Z" (.int z_)) (hz : ¬ z_ = 0) (hlc : (¬ lc < 0 ∧ ¬ (32 : Int32) < lc)) (htc : (¬ tc < 0 ∧ ¬ (32 : Int32) < tc)) :
    Con l (⟨"com/example/synctoken/synctoken/dav/DepthParsePinLaw", "str", "(IIIIICC)Ljava/lang/String;"⟩ : MethodName) method_3_code 8 (some (.object "java/lang/String")) [] ({ frames := 5, cells := 3, slots := 10, locals := 120 } : Room) Z #[(.int 3), (.int 1), (.int 1), (.int 1), (.int cb), (.int lc), (.int tc)] h (fun v' h' => ∃ (x t : Addr) (kt : ClassId), v' = some (.ref x) ∧ Z.heap.size ≤ x ∧ h.size ≤ x ∧ Ext h h' ∧ Exa Z h' x "java/lang/String" ∧ Fld Z h' x "java/lang/String" "coder" "B" (.int (0 : Int32)) ∧ Fld Z h' x "java/lang/String" "value" "[B" (.ref t) ∧ Arv Z h' t kt .byte 3 [(.int lc), (.int 48), (.int tc)] (.int (0 : Int32))) := by
  refine con_of (plainFor_of_name pn_2) hE (fun m => ef_rSt111 m cb lc tc) ?_
  intro p e s m below meth c T0 C X0
  have C : Cx p s m meth c Z "com/example/synctoken/synctoken/dav/DepthParsePinLaw" "str" method_3_code 8 (some (.object "java/lang/String")) := C
  show Goes p e below _ T0 (mkF m 0 #[.val (.int 3), .val (.int 1), .val (.int 1), .val (.int 1), .val (.int cb), .val (.int lc), .val (.int tc), .unset] [])
  refine g_iloadN C X0 d4_0 rfl (g_iconst 1 C X0 d4_1 rfl (g_icmpn (hI_ne _ _) C X0 d4_2 (fun _ => ?_) (fun q => absurd q (by decide))))
  refine g_iloadN C X0 d4_13 rfl (g_iconst 2 C X0 d4_14 rfl (g_icmpn (hI_ne _ _) C X0 d4_15 (fun _ => ?_) (fun q => absurd q (by decide))))
  refine g_iloadN C X0 d4_26 rfl (g_iconst 3 C X0 d4_27 rfl (g_icmpn (hI_ne _ _) C X0 d4_28 (fun q => absurd (by decide) q) (fun _ => ?_)))
  refine g_iconst 3 C X0 d4_31 rfl (g_newarray C X0 (wd hw 27 rfl) d4_32 (by decide) 3 3 (by decide) (by decide) (by decide) (by decide) (fun T94 h94 b94 k_b94 g_b94 n_b94 X94 E94 V94 => ?_))
  have V_b94 : Arv Z h94 b94 k_b94 .char (3 : Int32) [(.int 0), (.int 0), (.int 0)] (.int 0) := V94
  refine g_astore C X94 d4_34 rfl (l' := #[.val (.int 3), .val (.int 1), .val (.int 1), .val (.int 1), .val (.int cb), .val (.int lc), .val (.int tc), .val (.ref b94)]) rfl (g_goto C X94 d4_36 (g_aload C X94 d4_75 rfl rfl (g_iconst 0 C X94 d4_77 rfl (g_iconst 0 C X94 d4_78 rfl (g_iloadN C X94 d4_79 rfl (g_iloadN C X94 d4_80 rfl (g_iloadN C X94 d4_81 rfl (g_iload C X94 d4_82 rfl (g_iload C X94 d4_84 rfl (g_iload C X94 d4_86 rfl (g_staticP (argsL := [(.int 0), (.int 1), (.int 1), (.int 1), (.int cb), (.int lc), (.int tc)]) (st := [(.int 0), (.ref b94)]) C X94 (wd hw 28 rfl) (wd hw 29 rfl) (wd hw 25 rfl) (wd hw 30 rfl) (by decide) (pay_of (W' := 2) (rAt011 l hw X94.ext cb lc tc hlc htc) C.hZ (wd hw 30 rfl) (wd hw 25 rfl) (by decide) (by decide)) pd_3 rfl rfl _ rfl (Nat.le_of_eq rfl) d4_88 (by decide) (by decide) (fun T95 X95 => ?_))))))))))))
  refine g_castore C X95 V_b94 n_b94 d4_91 (by decide) (by decide) (Nat.le_of_ble_eq_true rfl) (.int lc) (own_nar (own_127 (own_sp hlc))) (fun T96 h96 X96 W96 V96 => ?_)
  have V96_b94 : Arv Z h96 b94 k_b94 .char (3 : Int32) [(.int lc), (.int 0), (.int 0)] (.int 0) := V96
  refine g_iloadN C X96 d4_92 rfl (g_iconst 1 C X96 d4_93 rfl (g_icmpn (hI_le _ _) C X96 d4_94 (fun q => absurd (by decide) q) (fun _ => ?_)))
  refine g_aload C X96 d4_97 rfl rfl (g_iconst 1 C X96 d4_99 rfl (g_iconst 1 C X96 d4_100 rfl (g_iloadN C X96 d4_101 rfl (g_iloadN C X96 d4_102 rfl (g_iloadN C X96 d4_103 rfl (g_iload C X96 d4_104 rfl (g_iload C X96 d4_106 rfl (g_iload C X96 d4_108 rfl (g_staticP (argsL := [(.int 1), (.int 1), (.int 1), (.int 1), (.int cb), (.int lc), (.int tc)]) (st := [(.int 1), (.ref b94)]) C X96 (wd hw 28 rfl) (wd hw 29 rfl) (wd hw 25 rfl) (wd hw 30 rfl) (by decide) (pay_of (W' := 2) (rAt111 l hw X96.ext cb lc tc hlc htc) C.hZ (wd hw 30 rfl) (wd hw 25 rfl) (by decide) (by decide)) pd_3 rfl rfl _ rfl (Nat.le_of_eq rfl) d4_110 (by decide) (by decide) (fun T97 X97 => ?_))))))))))
  refine g_castore C X97 V96_b94 n_b94 d4_113 (by decide) (by decide) (Nat.le_of_ble_eq_true rfl) (.int 48) rfl (fun T98 h98 X98 W98 V98 => ?_)
  have V98_b94 : Arv Z h98 b94 k_b94 .char (3 : Int32) [(.int lc), (.int 48), (.int 0)] (.int 0) := V98
  refine g_iloadN C X98 d4_114 rfl (g_iconst 2 C X98 d4_115 rfl (g_icmpn (hI_le _ _) C X98 d4_116 (fun q => absurd (by decide) q) (fun _ => ?_)))
  refine g_aload C X98 d4_119 rfl rfl (g_iconst 2 C X98 d4_121 rfl (g_iconst 2 C X98 d4_122 rfl (g_iloadN C X98 d4_123 rfl (g_iloadN C X98 d4_124 rfl (g_iloadN C X98 d4_125 rfl (g_iload C X98 d4_126 rfl (g_iload C X98 d4_128 rfl (g_iload C X98 d4_130 rfl (g_staticP (argsL := [(.int 2), (.int 1), (.int 1), (.int 1), (.int cb), (.int lc), (.int tc)]) (st := [(.int 2), (.ref b94)]) C X98 (wd hw 28 rfl) (wd hw 29 rfl) (wd hw 25 rfl) (wd hw 30 rfl) (by decide) (pay_of (W' := 2) (rAt211 l hw X98.ext cb lc tc hlc htc) C.hZ (wd hw 30 rfl) (wd hw 25 rfl) (by decide) (by decide)) pd_3 rfl rfl _ rfl (Nat.le_of_eq rfl) d4_132 (by decide) (by decide) (fun T99 X99 => ?_))))))))))
  refine g_castore C X99 V98_b94 n_b94 d4_135 (by decide) (by decide) (Nat.le_of_ble_eq_true rfl) (.int tc) (own_nar (own_127 (own_sp htc))) (fun T100 h100 X100 W100 V100 => ?_)
  have V100_b94 : Arv Z h100 b94 k_b94 .char (3 : Int32) [(.int lc), (.int 48), (.int tc)] (.int 0) := V100
  refine g_iloadN C X100 d4_136 rfl (g_iconst 3 C X100 d4_137 rfl (g_icmpn (hI_le _ _) C X100 d4_138 (fun _ => ?_) (fun q => absurd q (by decide))))
  refine g_iloadN C X100 d4_158 rfl (g_iconst 4 C X100 d4_159 rfl (g_icmpn (hI_le _ _) C X100 d4_160 (fun _ => ?_) (fun q => absurd q (by decide))))
  refine g_iloadN C X100 d4_180 rfl (g_iconst 5 C X100 d4_181 rfl (g_icmpn (hI_le _ _) C X100 d4_182 (fun _ => ?_) (fun q => absurd q (by decide))))
  refine g_iloadN C X100 d4_202 rfl (g_bipush 6 C X100 d4_203 rfl (g_icmpn (hI_le _ _) C X100 d4_205 (fun _ => ?_) (fun q => absurd q (by decide))))
  refine g_iloadN C X100 d4_227 rfl (g_bipush 7 C X100 d4_228 rfl (g_icmpn (hI_le _ _) C X100 d4_230 (fun _ => ?_) (fun q => absurd q (by decide))))
  refine g_iloadN C X100 d4_252 rfl (g_bipush 8 C X100 d4_253 rfl (g_icmpn (hI_le _ _) C X100 d4_255 (fun _ => ?_) (fun q => absurd q (by decide))))
  refine g_iloadN C X100 d4_277 rfl (g_bipush 9 C X100 d4_278 rfl (g_icmpn (hI_le _ _) C X100 d4_280 (fun _ => ?_) (fun q => absurd q (by decide))))
  refine g_new C X100 (wd hw 31 rfl) (wd hw 32 rfl) (wd hw 33 rfl) d4_302 (by decide) (by decide) (fun T101 h101 b101 g_b101 n_b101 X101 E101 A101 D101 M101 => ?_)
  have lt102 : b94 < b101 := by rw [g_b101]; exact Arv.lt V100_b94
  have F_coder_b101 : Fld Z h101 b101 "java/lang/String" "coder" "B" (.int 0) := D101 (Or.inr (wd hw 57 rfl)) (ty := .byte) (by decide)
  have F_value_b101 : Fld Z h101 b101 "java/lang/String" "value" "[B" .null := D101 (Or.inr (wd hw 59 rfl)) (ty := (.array .byte)) (by decide)
  refine g_dup C X101 d4_305 rfl (g_aload C X101 d4_306 rfl rfl ?_)
  have hp103 : ∀ c ∈ [lc, (48 : Int32), tc], ¬ c < 0 ∧ ¬ (255 : Int32) < c := (List.forall_mem_cons.mpr ⟨(own_127 (own_sp hlc)), (List.forall_mem_cons.mpr ⟨(by decide), (List.forall_mem_cons.mpr ⟨(own_127 (own_sp htc)), (fun _ q => nomatch q)⟩)⟩)⟩)
  have f105 := (Arv.ext V100_b94 E101)
  refine g_special (argsL := [(.ref b94)]) (st := [(.ref b101)]) C X101 rfl (wd hw 34 rfl) (wd hw 35 rfl) (wd hw 36 rfl) (by decide) (payV (W' := 1) (cs := [lc, (48 : Int32), tc]) (n := 3) C.hZ X101.ext (own_words hw) (kI := 4) (wd hw 32 rfl) n_b101 A101 F_value_b101 F_coder_b101 f105 SZ hz rfl rfl (by decide) (by decide) hp103 (by decide) (by decide)) pd_4 rfl rfl _ rfl (Nat.le_of_eq rfl) d4_308 (by decide) (by decide) (fun T104 h104 v104 q104 X104 => ?_)
  obtain ⟨rfl, K104, EX104, FC104, t104, k_t104, nt0_104, gt104, nt104, FV104, VT104⟩ := q104
  have lt106 : b94 < t104 := Nat.lt_of_lt_of_le (Arv.lt f105) gt104
  have lt107 : b101 < t104 := Nat.lt_of_lt_of_le (Exa.lt A101) gt104
  show Goes p e below _ T104 (mkF m 311 #[.val (.int 3), .val (.int 1), .val (.int 1), .val (.int 1), .val (.int cb), .val (.int lc), .val (.int tc), .val (.ref b94)] [(.ref b101)])
  have sz108 : h.size ≤ b94 := by rw [g_b94]; exact (Keep.refl h []).1
  have kp109 := (Keep.refl h []).ext E94
  have kp110 := kp109.wr W96 (Or.inr sz108)
  have kp111 := kp110.wr W98 (Or.inr sz108)
  have kp112 := kp111.wr W100 (Or.inr sz108)
  have sz113 : h.size ≤ b101 := by rw [g_b101]; exact kp112.1
  have kp114 := kp112.ext E101
  have kp115 := kp114.trans K104 (allS (Or.inr sz113) all0)
  exact g_retA C X104 rfl rfl d4_311 (by decide) (by decide) ⟨b101, t104, k_t104, rfl, n_b101, sz113, keep_ext kp115, EX104, FC104, FV104, own_conv VT104 (by simp only [List.map, own_b7 (own_sp hlc), own_b7 (y := (48 : Int32)) (by decide), own_b7 (own_sp htc)])⟩
theorem ef_rSt200 (m : MethodId) (cb : Int32) (lc : Int32) (tc : Int32) : entryFrame m #[(.int 1), (.int 0), (.int 1), (.int 2), (.int cb), (.int lc), (.int tc)] 8 = mkF m 0 #[.val (.int 1), .val (.int 0), .val (.int 1), .val (.int 2), .val (.int cb), .val (.int lc), .val (.int tc), .unset] [] := by first | (simp [entryFrame, mkF, argsToLocals, Value.category]; done) | rfl
theorem rSt200 (l : Launch) {Z : State} {a0 : Array Value} (hw : ∀ d ∈ tables_1, d.before a0 Z = true) {h : Heap} (hE : Ext Z.heap h) (cb : Int32) (lc : Int32) (tc : Int32) (z_ : Int32) (SZ : Sta Z Z.heap "java/lang/String" "COMPACT_STRINGS" "Z" (.int z_)) (hz : ¬ z_ = 0) (hlc : (¬ lc < 0 ∧ ¬ (32 : Int32) < lc)) (htc : (¬ tc < 0 ∧ ¬ (32 : Int32) < tc)) :
    Con l (⟨"com/example/synctoken/synctoken/dav/DepthParsePinLaw", "str", "(IIIIICC)Ljava/lang/String;"⟩ : MethodName) method_3_code 8 (some (.object "java/lang/String")) [] ({ frames := 5, cells := 3, slots := 6, locals := 120 } : Room) Z #[(.int 1), (.int 0), (.int 1), (.int 2), (.int cb), (.int lc), (.int tc)] h (fun v' h' => ∃ (x t : Addr) (kt : ClassId), v' = some (.ref x) ∧ Z.heap.size ≤ x ∧ h.size ≤ x ∧ Ext h h' ∧ Exa Z h' x "java/lang/String" ∧ Fld Z h' x "java/lang/String" "coder" "B" (.int (0 : Int32)) ∧ Fld Z h' x "java/lang/String" "value" "[B" (.ref t) ∧ Arv Z h' t kt .byte 1 [(.int 49)] (.int (0 : Int32))) := by
  refine con_of (plainFor_of_name pn_2) hE (fun m => ef_rSt200 m cb lc tc) ?_
  intro p e s m below meth c T0 C X0
  have C : Cx p s m meth c Z "com/example/synctoken/synctoken/dav/DepthParsePinLaw" "str" method_3_code 8 (some (.object "java/lang/String")) := C
  show Goes p e below _ T0 (mkF m 0 #[.val (.int 1), .val (.int 0), .val (.int 1), .val (.int 2), .val (.int cb), .val (.int lc), .val (.int tc), .unset] [])
  refine g_iloadN C X0 d4_0 rfl (g_iconst 1 C X0 d4_1 rfl (g_icmpn (hI_ne _ _) C X0 d4_2 (fun q => absurd (by decide) q) (fun _ => ?_)))
  refine g_iconst 1 C X0 d4_5 rfl (g_newarray C X0 (wd hw 27 rfl) d4_6 (by decide) 1 1 (by decide) (by decide) (by decide) (by decide) (fun T116 h116 b116 k_b116 g_b116 n_b116 X116 E116 V116 => ?_))
  have V_b116 : Arv Z h116 b116 k_b116 .char (1 : Int32) [(.int 0)] (.int 0) := V116
  refine g_astore C X116 d4_8 rfl (l' := #[.val (.int 1), .val (.int 0), .val (.int 1), .val (.int 2), .val (.int cb), .val (.int lc), .val (.int tc), .val (.ref b116)]) rfl (g_goto C X116 d4_10 (g_aload C X116 d4_75 rfl rfl (g_iconst 0 C X116 d4_77 rfl (g_iconst 0 C X116 d4_78 rfl (g_iloadN C X116 d4_79 rfl (g_iloadN C X116 d4_80 rfl (g_iloadN C X116 d4_81 rfl (g_iload C X116 d4_82 rfl (g_iload C X116 d4_84 rfl (g_iload C X116 d4_86 rfl (g_staticP (argsL := [(.int 0), (.int 0), (.int 1), (.int 2), (.int cb), (.int lc), (.int tc)]) (st := [(.int 0), (.ref b116)]) C X116 (wd hw 28 rfl) (wd hw 29 rfl) (wd hw 25 rfl) (wd hw 30 rfl) (by decide) (pay_of (W' := 2) (rAt002 l hw X116.ext cb lc tc hlc htc) C.hZ (wd hw 30 rfl) (wd hw 25 rfl) (by decide) (by decide)) pd_3 rfl rfl _ rfl (Nat.le_of_eq rfl) d4_88 (by decide) (by decide) (fun T117 X117 => ?_))))))))))))
  refine g_castore C X117 V_b116 n_b116 d4_91 (by decide) (by decide) (Nat.le_of_ble_eq_true rfl) (.int 49) rfl (fun T118 h118 X118 W118 V118 => ?_)
  have V118_b116 : Arv Z h118 b116 k_b116 .char (1 : Int32) [(.int 49)] (.int 0) := V118
  refine g_iloadN C X118 d4_92 rfl (g_iconst 1 C X118 d4_93 rfl (g_icmpn (hI_le _ _) C X118 d4_94 (fun _ => ?_) (fun q => absurd q (by decide))))
  refine g_iloadN C X118 d4_114 rfl (g_iconst 2 C X118 d4_115 rfl (g_icmpn (hI_le _ _) C X118 d4_116 (fun _ => ?_) (fun q => absurd q (by decide))))
  refine g_iloadN C X118 d4_136 rfl (g_iconst 3 C X118 d4_137 rfl (g_icmpn (hI_le _ _) C X118 d4_138 (fun _ => ?_) (fun q => absurd q (by decide))))
  refine g_iloadN C X118 d4_158 rfl (g_iconst 4 C X118 d4_159 rfl (g_icmpn (hI_le _ _) C X118 d4_160 (fun _ => ?_) (fun q => absurd q (by decide))))
  refine g_iloadN C X118 d4_180 rfl (g_iconst 5 C X118 d4_181 rfl (g_icmpn (hI_le _ _) C X118 d4_182 (fun _ => ?_) (fun q => absurd q (by decide))))
  refine g_iloadN C X118 d4_202 rfl (g_bipush 6 C X118 d4_203 rfl (g_icmpn (hI_le _ _) C X118 d4_205 (fun _ => ?_) (fun q => absurd q (by decide))))
  refine g_iloadN C X118 d4_227 rfl (g_bipush 7 C X118 d4_228 rfl (g_icmpn (hI_le _ _) C X118 d4_230 (fun _ => ?_) (fun q => absurd q (by decide))))
  refine g_iloadN C X118 d4_252 rfl (g_bipush 8 C X118 d4_253 rfl (g_icmpn (hI_le _ _) C X118 d4_255 (fun _ => ?_) (fun q => absurd q (by decide))))
  refine g_iloadN C X118 d4_277 rfl (g_bipush 9 C X118 d4_278 rfl (g_icmpn (hI_le _ _) C X118 d4_280 (fun _ => ?_) (fun q => absurd q (by decide))))
  refine g_new C X118 (wd hw 31 rfl) (wd hw 32 rfl) (wd hw 33 rfl) d4_302 (by decide) (by decide) (fun T119 h119 b119 g_b119 n_b119 X119 E119 A119 D119 M119 => ?_)
  have lt120 : b116 < b119 := by rw [g_b119]; exact Arv.lt V118_b116
  have F_coder_b119 : Fld Z h119 b119 "java/lang/String" "coder" "B" (.int 0) := D119 (Or.inr (wd hw 57 rfl)) (ty := .byte) (by decide)
  have F_value_b119 : Fld Z h119 b119 "java/lang/String" "value" "[B" .null := D119 (Or.inr (wd hw 59 rfl)) (ty := (.array .byte)) (by decide)
  refine g_dup C X119 d4_305 rfl (g_aload C X119 d4_306 rfl rfl ?_)
  have hp121 : ∀ c ∈ [(49 : Int32)], ¬ c < 0 ∧ ¬ (255 : Int32) < c := (List.forall_mem_cons.mpr ⟨(by decide), (fun _ q => nomatch q)⟩)
  have f123 := (Arv.ext V118_b116 E119)
  refine g_special (argsL := [(.ref b116)]) (st := [(.ref b119)]) C X119 rfl (wd hw 34 rfl) (wd hw 35 rfl) (wd hw 36 rfl) (by decide) (payV (W' := 1) (cs := [(49 : Int32)]) (n := 1) C.hZ X119.ext (own_words hw) (kI := 4) (wd hw 32 rfl) n_b119 A119 F_value_b119 F_coder_b119 f123 SZ hz rfl rfl (by decide) (by decide) hp121 (by decide) (by decide)) pd_4 rfl rfl _ rfl (Nat.le_of_eq rfl) d4_308 (by decide) (by decide) (fun T122 h122 v122 q122 X122 => ?_)
  obtain ⟨rfl, K122, EX122, FC122, t122, k_t122, nt0_122, gt122, nt122, FV122, VT122⟩ := q122
  have lt124 : b116 < t122 := Nat.lt_of_lt_of_le (Arv.lt f123) gt122
  have lt125 : b119 < t122 := Nat.lt_of_lt_of_le (Exa.lt A119) gt122
  show Goes p e below _ T122 (mkF m 311 #[.val (.int 1), .val (.int 0), .val (.int 1), .val (.int 2), .val (.int cb), .val (.int lc), .val (.int tc), .val (.ref b116)] [(.ref b119)])
  have sz126 : h.size ≤ b116 := by rw [g_b116]; exact (Keep.refl h []).1
  have kp127 := (Keep.refl h []).ext E116
  have kp128 := kp127.wr W118 (Or.inr sz126)
  have sz129 : h.size ≤ b119 := by rw [g_b119]; exact kp128.1
  have kp130 := kp128.ext E119
  have kp131 := kp130.trans K122 (allS (Or.inr sz129) all0)
  exact g_retA C X122 rfl rfl d4_311 (by decide) (by decide) ⟨b119, t122, k_t122, rfl, n_b119, sz129, keep_ext kp131, EX122, FC122, FV122, own_conv VT122 (by simp only [List.map, own_b7 (y := (49 : Int32)) (by decide)])⟩
theorem ef_rSt201 (m : MethodId) (cb : Int32) (lc : Int32) (tc : Int32) : entryFrame m #[(.int 2), (.int 0), (.int 1), (.int 2), (.int cb), (.int lc), (.int tc)] 8 = mkF m 0 #[.val (.int 2), .val (.int 0), .val (.int 1), .val (.int 2), .val (.int cb), .val (.int lc), .val (.int tc), .unset] [] := by first | (simp [entryFrame, mkF, argsToLocals, Value.category]; done) | rfl
theorem rSt201 (l : Launch) {Z : State} {a0 : Array Value} (hw : ∀ d ∈ tables_1, d.before a0 Z = true) {h : Heap} (hE : Ext Z.heap h) (cb : Int32) (lc : Int32) (tc : Int32) (z_ : Int32) (SZ : Sta Z Z.heap "java/lang/String" "COMPACT_STRINGS" "Z" (.int z_)) (hz : ¬ z_ = 0) (hlc : (¬ lc < 0 ∧ ¬ (32 : Int32) < lc)) (htc : (¬ tc < 0 ∧ ¬ (32 : Int32) < tc)) :
    Con l (⟨"com/example/synctoken/synctoken/dav/DepthParsePinLaw", "str", "(IIIIICC)Ljava/lang/String;"⟩ : MethodName) method_3_code 8 (some (.object "java/lang/String")) [] ({ frames := 5, cells := 3, slots := 8, locals := 120 } : Room) Z #[(.int 2), (.int 0), (.int 1), (.int 2), (.int cb), (.int lc), (.int tc)] h (fun v' h' => ∃ (x t : Addr) (kt : ClassId), v' = some (.ref x) ∧ Z.heap.size ≤ x ∧ h.size ≤ x ∧ Ext h h' ∧ Exa Z h' x "java/lang/String" ∧ Fld Z h' x "java/lang/String" "coder" "B" (.int (0 : Int32)) ∧ Fld Z h' x "java/lang/String" "value" "[B" (.ref t) ∧ Arv Z h' t kt .byte 2 [(.int 49), (.int tc)] (.int (0 : Int32))) := by
  refine con_of (plainFor_of_name pn_2) hE (fun m => ef_rSt201 m cb lc tc) ?_
  intro p e s m below meth c T0 C X0
  have C : Cx p s m meth c Z "com/example/synctoken/synctoken/dav/DepthParsePinLaw" "str" method_3_code 8 (some (.object "java/lang/String")) := C
  show Goes p e below _ T0 (mkF m 0 #[.val (.int 2), .val (.int 0), .val (.int 1), .val (.int 2), .val (.int cb), .val (.int lc), .val (.int tc), .unset] [])
  refine g_iloadN C X0 d4_0 rfl (g_iconst 1 C X0 d4_1 rfl (g_icmpn (hI_ne _ _) C X0 d4_2 (fun _ => ?_) (fun q => absurd q (by decide))))
  refine g_iloadN C X0 d4_13 rfl (g_iconst 2 C X0 d4_14 rfl (g_icmpn (hI_ne _ _) C X0 d4_15 (fun q => absurd (by decide) q) (fun _ => ?_)))
  refine g_iconst 2 C X0 d4_18 rfl (g_newarray C X0 (wd hw 27 rfl) d4_19 (by decide) 2 2 (by decide) (by decide) (by decide) (by decide) (fun T132 h132 b132 k_b132 g_b132 n_b132 X132 E132 V132 => ?_))
  have V_b132 : Arv Z h132 b132 k_b132 .char (2 : Int32) [(.int 0), (.int 0)] (.int 0) := V132
  refine g_astore C X132 d4_21 rfl (l' := #[.val (.int 2), .val (.int 0), .val (.int 1), .val (.int 2), .val (.int cb), .val (.int lc), .val (.int tc), .val (.ref b132)]) rfl (g_goto C X132 d4_23 (g_aload C X132 d4_75 rfl rfl (g_iconst 0 C X132 d4_77 rfl (g_iconst 0 C X132 d4_78 rfl (g_iloadN C X132 d4_79 rfl (g_iloadN C X132 d4_80 rfl (g_iloadN C X132 d4_81 rfl (g_iload C X132 d4_82 rfl (g_iload C X132 d4_84 rfl (g_iload C X132 d4_86 rfl (g_staticP (argsL := [(.int 0), (.int 0), (.int 1), (.int 2), (.int cb), (.int lc), (.int tc)]) (st := [(.int 0), (.ref b132)]) C X132 (wd hw 28 rfl) (wd hw 29 rfl) (wd hw 25 rfl) (wd hw 30 rfl) (by decide) (pay_of (W' := 2) (rAt002 l hw X132.ext cb lc tc hlc htc) C.hZ (wd hw 30 rfl) (wd hw 25 rfl) (by decide) (by decide)) pd_3 rfl rfl _ rfl (Nat.le_of_eq rfl) d4_88 (by decide) (by decide) (fun T133 X133 => ?_))))))))))))
  refine g_castore C X133 V_b132 n_b132 d4_91 (by decide) (by decide) (Nat.le_of_ble_eq_true rfl) (.int 49) rfl (fun T134 h134 X134 W134 V134 => ?_)
  have V134_b132 : Arv Z h134 b132 k_b132 .char (2 : Int32) [(.int 49), (.int 0)] (.int 0) := V134
  refine g_iloadN C X134 d4_92 rfl (g_iconst 1 C X134 d4_93 rfl (g_icmpn (hI_le _ _) C X134 d4_94 (fun q => absurd (by decide) q) (fun _ => ?_)))
  refine g_aload C X134 d4_97 rfl rfl (g_iconst 1 C X134 d4_99 rfl (g_iconst 1 C X134 d4_100 rfl (g_iloadN C X134 d4_101 rfl (g_iloadN C X134 d4_102 rfl (g_iloadN C X134 d4_103 rfl (g_iload C X134 d4_104 rfl (g_iload C X134 d4_106 rfl (g_iload C X134 d4_108 rfl (g_staticP (argsL := [(.int 1), (.int 0), (.int 1), (.int 2), (.int cb), (.int lc), (.int tc)]) (st := [(.int 1), (.ref b132)]) C X134 (wd hw 28 rfl) (wd hw 29 rfl) (wd hw 25 rfl) (wd hw 30 rfl) (by decide) (pay_of (W' := 2) (rAt102 l hw X134.ext cb lc tc hlc htc) C.hZ (wd hw 30 rfl) (wd hw 25 rfl) (by decide) (by decide)) pd_3 rfl rfl _ rfl (Nat.le_of_eq rfl) d4_110 (by decide) (by decide) (fun T135 X135 => ?_))))))))))
  refine g_castore C X135 V134_b132 n_b132 d4_113 (by decide) (by decide) (Nat.le_of_ble_eq_true rfl) (.int tc) (own_nar (own_127 (own_sp htc))) (fun T136 h136 X136 W136 V136 => ?_)
  have V136_b132 : Arv Z h136 b132 k_b132 .char (2 : Int32) [(.int 49), (.int tc)] (.int 0) := V136
  refine g_iloadN C X136 d4_114 rfl (g_iconst 2 C X136 d4_115 rfl (g_icmpn (hI_le _ _) C X136 d4_116 (fun _ => ?_) (fun q => absurd q (by decide))))
  refine g_iloadN C X136 d4_136 rfl (g_iconst 3 C X136 d4_137 rfl (g_icmpn (hI_le _ _) C X136 d4_138 (fun _ => ?_) (fun q => absurd q (by decide))))
  refine g_iloadN C X136 d4_158 rfl (g_iconst 4 C X136 d4_159 rfl (g_icmpn (hI_le _ _) C X136 d4_160 (fun _ => ?_) (fun q => absurd q (by decide))))
  refine g_iloadN C X136 d4_180 rfl (g_iconst 5 C X136 d4_181 rfl (g_icmpn (hI_le _ _) C X136 d4_182 (fun _ => ?_) (fun q => absurd q (by decide))))
  refine g_iloadN C X136 d4_202 rfl (g_bipush 6 C X136 d4_203 rfl (g_icmpn (hI_le _ _) C X136 d4_205 (fun _ => ?_) (fun q => absurd q (by decide))))
  refine g_iloadN C X136 d4_227 rfl (g_bipush 7 C X136 d4_228 rfl (g_icmpn (hI_le _ _) C X136 d4_230 (fun _ => ?_) (fun q => absurd q (by decide))))
  refine g_iloadN C X136 d4_252 rfl (g_bipush 8 C X136 d4_253 rfl (g_icmpn (hI_le _ _) C X136 d4_255 (fun _ => ?_) (fun q => absurd q (by decide))))
  refine g_iloadN C X136 d4_277 rfl (g_bipush 9 C X136 d4_278 rfl (g_icmpn (hI_le _ _) C X136 d4_280 (fun _ => ?_) (fun q => absurd q (by decide))))
  refine g_new C X136 (wd hw 31 rfl) (wd hw 32 rfl) (wd hw 33 rfl) d4_302 (by decide) (by decide) (fun T137 h137 b137 g_b137 n_b137 X137 E137 A137 D137 M137 => ?_)
  have lt138 : b132 < b137 := by rw [g_b137]; exact Arv.lt V136_b132
  have F_coder_b137 : Fld Z h137 b137 "java/lang/String" "coder" "B" (.int 0) := D137 (Or.inr (wd hw 57 rfl)) (ty := .byte) (by decide)
  have F_value_b137 : Fld Z h137 b137 "java/lang/String" "value" "[B" .null := D137 (Or.inr (wd hw 59 rfl)) (ty := (.array .byte)) (by decide)
  refine g_dup C X137 d4_305 rfl (g_aload C X137 d4_306 rfl rfl ?_)
  have hp139 : ∀ c ∈ [(49 : Int32), tc], ¬ c < 0 ∧ ¬ (255 : Int32) < c := (List.forall_mem_cons.mpr ⟨(by decide), (List.forall_mem_cons.mpr ⟨(own_127 (own_sp htc)), (fun _ q => nomatch q)⟩)⟩)
  have f141 := (Arv.ext V136_b132 E137)
  refine g_special (argsL := [(.ref b132)]) (st := [(.ref b137)]) C X137 rfl (wd hw 34 rfl) (wd hw 35 rfl) (wd hw 36 rfl) (by decide) (payV (W' := 1) (cs := [(49 : Int32), tc]) (n := 2) C.hZ X137.ext (own_words hw) (kI := 4) (wd hw 32 rfl) n_b137 A137 F_value_b137 F_coder_b137 f141 SZ hz rfl rfl (by decide) (by decide) hp139 (by decide) (by decide)) pd_4 rfl rfl _ rfl (Nat.le_of_eq rfl) d4_308 (by decide) (by decide) (fun T140 h140 v140 q140 X140 => ?_)
  obtain ⟨rfl, K140, EX140, FC140, t140, k_t140, nt0_140, gt140, nt140, FV140, VT140⟩ := q140
  have lt142 : b132 < t140 := Nat.lt_of_lt_of_le (Arv.lt f141) gt140
  have lt143 : b137 < t140 := Nat.lt_of_lt_of_le (Exa.lt A137) gt140
  show Goes p e below _ T140 (mkF m 311 #[.val (.int 2), .val (.int 0), .val (.int 1), .val (.int 2), .val (.int cb), .val (.int lc), .val (.int tc), .val (.ref b132)] [(.ref b137)])
  have sz144 : h.size ≤ b132 := by rw [g_b132]; exact (Keep.refl h []).1
  have kp145 := (Keep.refl h []).ext E132
  have kp146 := kp145.wr W134 (Or.inr sz144)
  have kp147 := kp146.wr W136 (Or.inr sz144)
  have sz148 : h.size ≤ b137 := by rw [g_b137]; exact kp147.1
  have kp149 := kp147.ext E137
  have kp150 := kp149.trans K140 (allS (Or.inr sz148) all0)
  exact g_retA C X140 rfl rfl d4_311 (by decide) (by decide) ⟨b137, t140, k_t140, rfl, n_b137, sz148, keep_ext kp150, EX140, FC140, FV140, own_conv VT140 (by simp only [List.map, own_b7 (y := (49 : Int32)) (by decide), own_b7 (own_sp htc)])⟩
theorem ef_rSt210 (m : MethodId) (cb : Int32) (lc : Int32) (tc : Int32) : entryFrame m #[(.int 2), (.int 1), (.int 1), (.int 2), (.int cb), (.int lc), (.int tc)] 8 = mkF m 0 #[.val (.int 2), .val (.int 1), .val (.int 1), .val (.int 2), .val (.int cb), .val (.int lc), .val (.int tc), .unset] [] := by first | (simp [entryFrame, mkF, argsToLocals, Value.category]; done) | rfl
theorem rSt210 (l : Launch) {Z : State} {a0 : Array Value} (hw : ∀ d ∈ tables_1, d.before a0 Z = true) {h : Heap} (hE : Ext Z.heap h) (cb : Int32) (lc : Int32) (tc : Int32) (z_ : Int32) (SZ : Sta Z Z.heap "java/lang/String" "COMPACT_STRINGS" "Z" (.int z_)) (hz : ¬ z_ = 0) (hlc : (¬ lc < 0 ∧ ¬ (32 : Int32) < lc)) (htc : (¬ tc < 0 ∧ ¬ (32 : Int32) < tc)) :
    Con l (⟨"com/example/synctoken/synctoken/dav/DepthParsePinLaw", "str", "(IIIIICC)Ljava/lang/String;"⟩ : MethodName) method_3_code 8 (some (.object "java/lang/String")) [] ({ frames := 5, cells := 3, slots := 8, locals := 120 } : Room) Z #[(.int 2), (.int 1), (.int 1), (.int 2), (.int cb), (.int lc), (.int tc)] h (fun v' h' => ∃ (x t : Addr) (kt : ClassId), v' = some (.ref x) ∧ Z.heap.size ≤ x ∧ h.size ≤ x ∧ Ext h h' ∧ Exa Z h' x "java/lang/String" ∧ Fld Z h' x "java/lang/String" "coder" "B" (.int (0 : Int32)) ∧ Fld Z h' x "java/lang/String" "value" "[B" (.ref t) ∧ Arv Z h' t kt .byte 2 [(.int lc), (.int 49)] (.int (0 : Int32))) := by
  refine con_of (plainFor_of_name pn_2) hE (fun m => ef_rSt210 m cb lc tc) ?_
  intro p e s m below meth c T0 C X0
  have C : Cx p s m meth c Z "com/example/synctoken/synctoken/dav/DepthParsePinLaw" "str" method_3_code 8 (some (.object "java/lang/String")) := C
  show Goes p e below _ T0 (mkF m 0 #[.val (.int 2), .val (.int 1), .val (.int 1), .val (.int 2), .val (.int cb), .val (.int lc), .val (.int tc), .unset] [])
  refine g_iloadN C X0 d4_0 rfl (g_iconst 1 C X0 d4_1 rfl (g_icmpn (hI_ne _ _) C X0 d4_2 (fun _ => ?_) (fun q => absurd q (by decide))))
  refine g_iloadN C X0 d4_13 rfl (g_iconst 2 C X0 d4_14 rfl (g_icmpn (hI_ne _ _) C X0 d4_15 (fun q => absurd (by decide) q) (fun _ => ?_)))
  refine g_iconst 2 C X0 d4_18 rfl (g_newarray C X0 (wd hw 27 rfl) d4_19 (by decide) 2 2 (by decide) (by decide) (by decide) (by decide) (fun T151 h151 b151 k_b151 g_b151 n_b151 X151 E151 V151 => ?_))
  have V_b151 : Arv Z h151 b151 k_b151 .char (2 : Int32) [(.int 0), (.int 0)] (.int 0) := V151
  refine g_astore C X151 d4_21 rfl (l' := #[.val (.int 2), .val (.int 1), .val (.int 1), .val (.int 2), .val (.int cb), .val (.int lc), .val (.int tc), .val (.ref b151)]) rfl (g_goto C X151 d4_23 (g_aload C X151 d4_75 rfl rfl (g_iconst 0 C X151 d4_77 rfl (g_iconst 0 C X151 d4_78 rfl (g_iloadN C X151 d4_79 rfl (g_iloadN C X151 d4_80 rfl (g_iloadN C X151 d4_81 rfl (g_iload C X151 d4_82 rfl (g_iload C X151 d4_84 rfl (g_iload C X151 d4_86 rfl (g_staticP (argsL := [(.int 0), (.int 1), (.int 1), (.int 2), (.int cb), (.int lc), (.int tc)]) (st := [(.int 0), (.ref b151)]) C X151 (wd hw 28 rfl) (wd hw 29 rfl) (wd hw 25 rfl) (wd hw 30 rfl) (by decide) (pay_of (W' := 2) (rAt012 l hw X151.ext cb lc tc hlc htc) C.hZ (wd hw 30 rfl) (wd hw 25 rfl) (by decide) (by decide)) pd_3 rfl rfl _ rfl (Nat.le_of_eq rfl) d4_88 (by decide) (by decide) (fun T152 X152 => ?_))))))))))))
  refine g_castore C X152 V_b151 n_b151 d4_91 (by decide) (by decide) (Nat.le_of_ble_eq_true rfl) (.int lc) (own_nar (own_127 (own_sp hlc))) (fun T153 h153 X153 W153 V153 => ?_)
  have V153_b151 : Arv Z h153 b151 k_b151 .char (2 : Int32) [(.int lc), (.int 0)] (.int 0) := V153
  refine g_iloadN C X153 d4_92 rfl (g_iconst 1 C X153 d4_93 rfl (g_icmpn (hI_le _ _) C X153 d4_94 (fun q => absurd (by decide) q) (fun _ => ?_)))
  refine g_aload C X153 d4_97 rfl rfl (g_iconst 1 C X153 d4_99 rfl (g_iconst 1 C X153 d4_100 rfl (g_iloadN C X153 d4_101 rfl (g_iloadN C X153 d4_102 rfl (g_iloadN C X153 d4_103 rfl (g_iload C X153 d4_104 rfl (g_iload C X153 d4_106 rfl (g_iload C X153 d4_108 rfl (g_staticP (argsL := [(.int 1), (.int 1), (.int 1), (.int 2), (.int cb), (.int lc), (.int tc)]) (st := [(.int 1), (.ref b151)]) C X153 (wd hw 28 rfl) (wd hw 29 rfl) (wd hw 25 rfl) (wd hw 30 rfl) (by decide) (pay_of (W' := 2) (rAt112 l hw X153.ext cb lc tc hlc htc) C.hZ (wd hw 30 rfl) (wd hw 25 rfl) (by decide) (by decide)) pd_3 rfl rfl _ rfl (Nat.le_of_eq rfl) d4_110 (by decide) (by decide) (fun T154 X154 => ?_))))))))))
  refine g_castore C X154 V153_b151 n_b151 d4_113 (by decide) (by decide) (Nat.le_of_ble_eq_true rfl) (.int 49) rfl (fun T155 h155 X155 W155 V155 => ?_)
  have V155_b151 : Arv Z h155 b151 k_b151 .char (2 : Int32) [(.int lc), (.int 49)] (.int 0) := V155
  refine g_iloadN C X155 d4_114 rfl (g_iconst 2 C X155 d4_115 rfl (g_icmpn (hI_le _ _) C X155 d4_116 (fun _ => ?_) (fun q => absurd q (by decide))))
  refine g_iloadN C X155 d4_136 rfl (g_iconst 3 C X155 d4_137 rfl (g_icmpn (hI_le _ _) C X155 d4_138 (fun _ => ?_) (fun q => absurd q (by decide))))
  refine g_iloadN C X155 d4_158 rfl (g_iconst 4 C X155 d4_159 rfl (g_icmpn (hI_le _ _) C X155 d4_160 (fun _ => ?_) (fun q => absurd q (by decide))))
  refine g_iloadN C X155 d4_180 rfl (g_iconst 5 C X155 d4_181 rfl (g_icmpn (hI_le _ _) C X155 d4_182 (fun _ => ?_) (fun q => absurd q (by decide))))
  refine g_iloadN C X155 d4_202 rfl (g_bipush 6 C X155 d4_203 rfl (g_icmpn (hI_le _ _) C X155 d4_205 (fun _ => ?_) (fun q => absurd q (by decide))))
  refine g_iloadN C X155 d4_227 rfl (g_bipush 7 C X155 d4_228 rfl (g_icmpn (hI_le _ _) C X155 d4_230 (fun _ => ?_) (fun q => absurd q (by decide))))
  refine g_iloadN C X155 d4_252 rfl (g_bipush 8 C X155 d4_253 rfl (g_icmpn (hI_le _ _) C X155 d4_255 (fun _ => ?_) (fun q => absurd q (by decide))))
  refine g_iloadN C X155 d4_277 rfl (g_bipush 9 C X155 d4_278 rfl (g_icmpn (hI_le _ _) C X155 d4_280 (fun _ => ?_) (fun q => absurd q (by decide))))
  refine g_new C X155 (wd hw 31 rfl) (wd hw 32 rfl) (wd hw 33 rfl) d4_302 (by decide) (by decide) (fun T156 h156 b156 g_b156 n_b156 X156 E156 A156 D156 M156 => ?_)
  have lt157 : b151 < b156 := by rw [g_b156]; exact Arv.lt V155_b151
  have F_coder_b156 : Fld Z h156 b156 "java/lang/String" "coder" "B" (.int 0) := D156 (Or.inr (wd hw 57 rfl)) (ty := .byte) (by decide)
  have F_value_b156 : Fld Z h156 b156 "java/lang/String" "value" "[B" .null := D156 (Or.inr (wd hw 59 rfl)) (ty := (.array .byte)) (by decide)
  refine g_dup C X156 d4_305 rfl (g_aload C X156 d4_306 rfl rfl ?_)
  have hp158 : ∀ c ∈ [lc, (49 : Int32)], ¬ c < 0 ∧ ¬ (255 : Int32) < c := (List.forall_mem_cons.mpr ⟨(own_127 (own_sp hlc)), (List.forall_mem_cons.mpr ⟨(by decide), (fun _ q => nomatch q)⟩)⟩)
  have f160 := (Arv.ext V155_b151 E156)
  refine g_special (argsL := [(.ref b151)]) (st := [(.ref b156)]) C X156 rfl (wd hw 34 rfl) (wd hw 35 rfl) (wd hw 36 rfl) (by decide) (payV (W' := 1) (cs := [lc, (49 : Int32)]) (n := 2) C.hZ X156.ext (own_words hw) (kI := 4) (wd hw 32 rfl) n_b156 A156 F_value_b156 F_coder_b156 f160 SZ hz rfl rfl (by decide) (by decide) hp158 (by decide) (by decide)) pd_4 rfl rfl _ rfl (Nat.le_of_eq rfl) d4_308 (by decide) (by decide) (fun T159 h159 v159 q159 X159 => ?_)
  obtain ⟨rfl, K159, EX159, FC159, t159, k_t159, nt0_159, gt159, nt159, FV159, VT159⟩ := q159
  have lt161 : b151 < t159 := Nat.lt_of_lt_of_le (Arv.lt f160) gt159
  have lt162 : b156 < t159 := Nat.lt_of_lt_of_le (Exa.lt A156) gt159
  show Goes p e below _ T159 (mkF m 311 #[.val (.int 2), .val (.int 1), .val (.int 1), .val (.int 2), .val (.int cb), .val (.int lc), .val (.int tc), .val (.ref b151)] [(.ref b156)])
  have sz163 : h.size ≤ b151 := by rw [g_b151]; exact (Keep.refl h []).1
  have kp164 := (Keep.refl h []).ext E151
  have kp165 := kp164.wr W153 (Or.inr sz163)
  have kp166 := kp165.wr W155 (Or.inr sz163)
  have sz167 : h.size ≤ b156 := by rw [g_b156]; exact kp166.1
  have kp168 := kp166.ext E156
  have kp169 := kp168.trans K159 (allS (Or.inr sz167) all0)
  exact g_retA C X159 rfl rfl d4_311 (by decide) (by decide) ⟨b156, t159, k_t159, rfl, n_b156, sz167, keep_ext kp169, EX159, FC159, FV159, own_conv VT159 (by simp only [List.map, own_b7 (own_sp hlc), own_b7 (y := (49 : Int32)) (by decide)])⟩
theorem ef_rSt211 (m : MethodId) (cb : Int32) (lc : Int32) (tc : Int32) : entryFrame m #[(.int 3), (.int 1), (.int 1), (.int 2), (.int cb), (.int lc), (.int tc)] 8 = mkF m 0 #[.val (.int 3), .val (.int 1), .val (.int 1), .val (.int 2), .val (.int cb), .val (.int lc), .val (.int tc), .unset] [] := by first | (simp [entryFrame, mkF, argsToLocals, Value.category]; done) | rfl
theorem rSt211 (l : Launch) {Z : State} {a0 : Array Value} (hw : ∀ d ∈ tables_1, d.before a0 Z = true) {h : Heap} (hE : Ext Z.heap h) (cb : Int32) (lc : Int32) (tc : Int32) (z_ : Int32) (SZ : Sta Z Z.heap "java/lang/String" "COMPACT_STRINGS" "Z" (.int z_)) (hz : ¬ z_ = 0) (hlc : (¬ lc < 0 ∧ ¬ (32 : Int32) < lc)) (htc : (¬ tc < 0 ∧ ¬ (32 : Int32) < tc)) :
    Con l (⟨"com/example/synctoken/synctoken/dav/DepthParsePinLaw", "str", "(IIIIICC)Ljava/lang/String;"⟩ : MethodName) method_3_code 8 (some (.object "java/lang/String")) [] ({ frames := 5, cells := 3, slots := 10, locals := 120 } : Room) Z #[(.int 3), (.int 1), (.int 1), (.int 2), (.int cb), (.int lc), (.int tc)] h (fun v' h' => ∃ (x t : Addr) (kt : ClassId), v' = some (.ref x) ∧ Z.heap.size ≤ x ∧ h.size ≤ x ∧ Ext h h' ∧ Exa Z h' x "java/lang/String" ∧ Fld Z h' x "java/lang/String" "coder" "B" (.int (0 : Int32)) ∧ Fld Z h' x "java/lang/String" "value" "[B" (.ref t) ∧ Arv Z h' t kt .byte 3 [(.int lc), (.int 49), (.int tc)] (.int (0 : Int32))) := by
  refine con_of (plainFor_of_name pn_2) hE (fun m => ef_rSt211 m cb lc tc) ?_
  intro p e s m below meth c T0 C X0
  have C : Cx p s m meth c Z "com/example/synctoken/synctoken/dav/DepthParsePinLaw" "str" method_3_code 8 (some (.object "java/lang/String")) := C
  show Goes p e below _ T0 (mkF m 0 #[.val (.int 3), .val (.int 1), .val (.int 1), .val (.int 2), .val (.int cb), .val (.int lc), .val (.int tc), .unset] [])
  refine g_iloadN C X0 d4_0 rfl (g_iconst 1 C X0 d4_1 rfl (g_icmpn (hI_ne _ _) C X0 d4_2 (fun _ => ?_) (fun q => absurd q (by decide))))
  refine g_iloadN C X0 d4_13 rfl (g_iconst 2 C X0 d4_14 rfl (g_icmpn (hI_ne _ _) C X0 d4_15 (fun _ => ?_) (fun q => absurd q (by decide))))
  refine g_iloadN C X0 d4_26 rfl (g_iconst 3 C X0 d4_27 rfl (g_icmpn (hI_ne _ _) C X0 d4_28 (fun q => absurd (by decide) q) (fun _ => ?_)))
  refine g_iconst 3 C X0 d4_31 rfl (g_newarray C X0 (wd hw 27 rfl) d4_32 (by decide) 3 3 (by decide) (by decide) (by decide) (by decide) (fun T170 h170 b170 k_b170 g_b170 n_b170 X170 E170 V170 => ?_))
  have V_b170 : Arv Z h170 b170 k_b170 .char (3 : Int32) [(.int 0), (.int 0), (.int 0)] (.int 0) := V170
  refine g_astore C X170 d4_34 rfl (l' := #[.val (.int 3), .val (.int 1), .val (.int 1), .val (.int 2), .val (.int cb), .val (.int lc), .val (.int tc), .val (.ref b170)]) rfl (g_goto C X170 d4_36 (g_aload C X170 d4_75 rfl rfl (g_iconst 0 C X170 d4_77 rfl (g_iconst 0 C X170 d4_78 rfl (g_iloadN C X170 d4_79 rfl (g_iloadN C X170 d4_80 rfl (g_iloadN C X170 d4_81 rfl (g_iload C X170 d4_82 rfl (g_iload C X170 d4_84 rfl (g_iload C X170 d4_86 rfl (g_staticP (argsL := [(.int 0), (.int 1), (.int 1), (.int 2), (.int cb), (.int lc), (.int tc)]) (st := [(.int 0), (.ref b170)]) C X170 (wd hw 28 rfl) (wd hw 29 rfl) (wd hw 25 rfl) (wd hw 30 rfl) (by decide) (pay_of (W' := 2) (rAt012 l hw X170.ext cb lc tc hlc htc) C.hZ (wd hw 30 rfl) (wd hw 25 rfl) (by decide) (by decide)) pd_3 rfl rfl _ rfl (Nat.le_of_eq rfl) d4_88 (by decide) (by decide) (fun T171 X171 => ?_))))))))))))
  refine g_castore C X171 V_b170 n_b170 d4_91 (by decide) (by decide) (Nat.le_of_ble_eq_true rfl) (.int lc) (own_nar (own_127 (own_sp hlc))) (fun T172 h172 X172 W172 V172 => ?_)
  have V172_b170 : Arv Z h172 b170 k_b170 .char (3 : Int32) [(.int lc), (.int 0), (.int 0)] (.int 0) := V172
  refine g_iloadN C X172 d4_92 rfl (g_iconst 1 C X172 d4_93 rfl (g_icmpn (hI_le _ _) C X172 d4_94 (fun q => absurd (by decide) q) (fun _ => ?_)))
  refine g_aload C X172 d4_97 rfl rfl (g_iconst 1 C X172 d4_99 rfl (g_iconst 1 C X172 d4_100 rfl (g_iloadN C X172 d4_101 rfl (g_iloadN C X172 d4_102 rfl (g_iloadN C X172 d4_103 rfl (g_iload C X172 d4_104 rfl (g_iload C X172 d4_106 rfl (g_iload C X172 d4_108 rfl (g_staticP (argsL := [(.int 1), (.int 1), (.int 1), (.int 2), (.int cb), (.int lc), (.int tc)]) (st := [(.int 1), (.ref b170)]) C X172 (wd hw 28 rfl) (wd hw 29 rfl) (wd hw 25 rfl) (wd hw 30 rfl) (by decide) (pay_of (W' := 2) (rAt112 l hw X172.ext cb lc tc hlc htc) C.hZ (wd hw 30 rfl) (wd hw 25 rfl) (by decide) (by decide)) pd_3 rfl rfl _ rfl (Nat.le_of_eq rfl) d4_110 (by decide) (by decide) (fun T173 X173 => ?_))))))))))
  refine g_castore C X173 V172_b170 n_b170 d4_113 (by decide) (by decide) (Nat.le_of_ble_eq_true rfl) (.int 49) rfl (fun T174 h174 X174 W174 V174 => ?_)
  have V174_b170 : Arv Z h174 b170 k_b170 .char (3 : Int32) [(.int lc), (.int 49), (.int 0)] (.int 0) := V174
  refine g_iloadN C X174 d4_114 rfl (g_iconst 2 C X174 d4_115 rfl (g_icmpn (hI_le _ _) C X174 d4_116 (fun q => absurd (by decide) q) (fun _ => ?_)))
  refine g_aload C X174 d4_119 rfl rfl (g_iconst 2 C X174 d4_121 rfl (g_iconst 2 C X174 d4_122 rfl (g_iloadN C X174 d4_123 rfl (g_iloadN C X174 d4_124 rfl (g_iloadN C X174 d4_125 rfl (g_iload C X174 d4_126 rfl (g_iload C X174 d4_128 rfl (g_iload C X174 d4_130 rfl (g_staticP (argsL := [(.int 2), (.int 1), (.int 1), (.int 2), (.int cb), (.int lc), (.int tc)]) (st := [(.int 2), (.ref b170)]) C X174 (wd hw 28 rfl) (wd hw 29 rfl) (wd hw 25 rfl) (wd hw 30 rfl) (by decide) (pay_of (W' := 2) (rAt212 l hw X174.ext cb lc tc hlc htc) C.hZ (wd hw 30 rfl) (wd hw 25 rfl) (by decide) (by decide)) pd_3 rfl rfl _ rfl (Nat.le_of_eq rfl) d4_132 (by decide) (by decide) (fun T175 X175 => ?_))))))))))
  refine g_castore C X175 V174_b170 n_b170 d4_135 (by decide) (by decide) (Nat.le_of_ble_eq_true rfl) (.int tc) (own_nar (own_127 (own_sp htc))) (fun T176 h176 X176 W176 V176 => ?_)
  have V176_b170 : Arv Z h176 b170 k_b170 .char (3 : Int32) [(.int lc), (.int 49), (.int tc)] (.int 0) := V176
  refine g_iloadN C X176 d4_136 rfl (g_iconst 3 C X176 d4_137 rfl (g_icmpn (hI_le _ _) C X176 d4_138 (fun _ => ?_) (fun q => absurd q (by decide))))
  refine g_iloadN C X176 d4_158 rfl (g_iconst 4 C X176 d4_159 rfl (g_icmpn (hI_le _ _) C X176 d4_160 (fun _ => ?_) (fun q => absurd q (by decide))))
  refine g_iloadN C X176 d4_180 rfl (g_iconst 5 C X176 d4_181 rfl (g_icmpn (hI_le _ _) C X176 d4_182 (fun _ => ?_) (fun q => absurd q (by decide))))
  refine g_iloadN C X176 d4_202 rfl (g_bipush 6 C X176 d4_203 rfl (g_icmpn (hI_le _ _) C X176 d4_205 (fun _ => ?_) (fun q => absurd q (by decide))))
  refine g_iloadN C X176 d4_227 rfl (g_bipush 7 C X176 d4_228 rfl (g_icmpn (hI_le _ _) C X176 d4_230 (fun _ => ?_) (fun q => absurd q (by decide))))
  refine g_iloadN C X176 d4_252 rfl (g_bipush 8 C X176 d4_253 rfl (g_icmpn (hI_le _ _) C X176 d4_255 (fun _ => ?_) (fun q => absurd q (by decide))))
  refine g_iloadN C X176 d4_277 rfl (g_bipush 9 C X176 d4_278 rfl (g_icmpn (hI_le _ _) C X176 d4_280 (fun _ => ?_) (fun q => absurd q (by decide))))
  refine g_new C X176 (wd hw 31 rfl) (wd hw 32 rfl) (wd hw 33 rfl) d4_302 (by decide) (by decide) (fun T177 h177 b177 g_b177 n_b177 X177 E177 A177 D177 M177 => ?_)
  have lt178 : b170 < b177 := by rw [g_b177]; exact Arv.lt V176_b170
  have F_coder_b177 : Fld Z h177 b177 "java/lang/String" "coder" "B" (.int 0) := D177 (Or.inr (wd hw 57 rfl)) (ty := .byte) (by decide)
  have F_value_b177 : Fld Z h177 b177 "java/lang/String" "value" "[B" .null := D177 (Or.inr (wd hw 59 rfl)) (ty := (.array .byte)) (by decide)
  refine g_dup C X177 d4_305 rfl (g_aload C X177 d4_306 rfl rfl ?_)
  have hp179 : ∀ c ∈ [lc, (49 : Int32), tc], ¬ c < 0 ∧ ¬ (255 : Int32) < c := (List.forall_mem_cons.mpr ⟨(own_127 (own_sp hlc)), (List.forall_mem_cons.mpr ⟨(by decide), (List.forall_mem_cons.mpr ⟨(own_127 (own_sp htc)), (fun _ q => nomatch q)⟩)⟩)⟩)
  have f181 := (Arv.ext V176_b170 E177)
  refine g_special (argsL := [(.ref b170)]) (st := [(.ref b177)]) C X177 rfl (wd hw 34 rfl) (wd hw 35 rfl) (wd hw 36 rfl) (by decide) (payV (W' := 1) (cs := [lc, (49 : Int32), tc]) (n := 3) C.hZ X177.ext (own_words hw) (kI := 4) (wd hw 32 rfl) n_b177 A177 F_value_b177 F_coder_b177 f181 SZ hz rfl rfl (by decide) (by decide) hp179 (by decide) (by decide)) pd_4 rfl rfl _ rfl (Nat.le_of_eq rfl) d4_308 (by decide) (by decide) (fun T180 h180 v180 q180 X180 => ?_)
  obtain ⟨rfl, K180, EX180, FC180, t180, k_t180, nt0_180, gt180, nt180, FV180, VT180⟩ := q180
  have lt182 : b170 < t180 := Nat.lt_of_lt_of_le (Arv.lt f181) gt180
  have lt183 : b177 < t180 := Nat.lt_of_lt_of_le (Exa.lt A177) gt180
  show Goes p e below _ T180 (mkF m 311 #[.val (.int 3), .val (.int 1), .val (.int 1), .val (.int 2), .val (.int cb), .val (.int lc), .val (.int tc), .val (.ref b170)] [(.ref b177)])
  have sz184 : h.size ≤ b170 := by rw [g_b170]; exact (Keep.refl h []).1
  have kp185 := (Keep.refl h []).ext E170
  have kp186 := kp185.wr W172 (Or.inr sz184)
  have kp187 := kp186.wr W174 (Or.inr sz184)
  have kp188 := kp187.wr W176 (Or.inr sz184)
  have sz189 : h.size ≤ b177 := by rw [g_b177]; exact kp188.1
  have kp190 := kp188.ext E177
  have kp191 := kp190.trans K180 (allS (Or.inr sz189) all0)
  exact g_retA C X180 rfl rfl d4_311 (by decide) (by decide) ⟨b177, t180, k_t180, rfl, n_b177, sz189, keep_ext kp191, EX180, FC180, FV180, own_conv VT180 (by simp only [List.map, own_b7 (own_sp hlc), own_b7 (y := (49 : Int32)) (by decide), own_b7 (own_sp htc)])⟩
theorem ef_rSt300 (m : MethodId) (cb : Int32) (lc : Int32) (tc : Int32) : entryFrame m #[(.int 8), (.int 0), (.int 8), (.int 3), (.int cb), (.int lc), (.int tc)] 8 = mkF m 0 #[.val (.int 8), .val (.int 0), .val (.int 8), .val (.int 3), .val (.int cb), .val (.int lc), .val (.int tc), .unset] [] := by first | (simp [entryFrame, mkF, argsToLocals, Value.category]; done) | rfl
theorem d4_39 : Dc method_3_code 39 (.iload_n 0) 1 40 := by decide +kernel
theorem d4_40 : Dc method_3_code 40 (.bipush 8) 2 42 := by decide +kernel
theorem d4_42 : Dj method_3_code 42 (.if_icmp .ne 12) 12 3 45 54 := by decide +kernel
theorem d4_45 : Dc method_3_code 45 (.bipush 8) 2 47 := by decide +kernel
theorem d4_47 : Dc method_3_code 47 (.newarray .char) 2 49 := by decide +kernel
theorem d4_49 : Dc method_3_code 49 (.astore 7) 2 51 := by decide +kernel
theorem d4_51 : Dj method_3_code 51 (.goto 24) 24 3 54 75 := by decide +kernel
theorem d4_141 : Dc method_3_code 141 (.aload 7) 2 143 := by decide +kernel
theorem d4_143 : Dc method_3_code 143 (.iconst 3) 1 144 := by decide +kernel
theorem d4_144 : Dc method_3_code 144 (.iconst 3) 1 145 := by decide +kernel
theorem d4_145 : Dc method_3_code 145 (.iload_n 1) 1 146 := by decide +kernel
theorem d4_146 : Dc method_3_code 146 (.iload_n 2) 1 147 := by decide +kernel
theorem d4_147 : Dc method_3_code 147 (.iload_n 3) 1 148 := by decide +kernel
theorem d4_148 : Dc method_3_code 148 (.iload 4) 2 150 := by decide +kernel
theorem d4_150 : Dc method_3_code 150 (.iload 5) 2 152 := by decide +kernel
theorem d4_152 : Dc method_3_code 152 (.iload 6) 2 154 := by decide +kernel
theorem d4_154 : Dc method_3_code 154 (.invokestatic 40) 3 157 := by decide +kernel
theorem d4_157 : Dc method_3_code 157 (.castore) 1 158 := by decide +kernel
theorem d4_163 : Dc method_3_code 163 (.aload 7) 2 165 := by decide +kernel
theorem d4_165 : Dc method_3_code 165 (.iconst 4) 1 166 := by decide +kernel
theorem d4_166 : Dc method_3_code 166 (.iconst 4) 1 167 := by decide +kernel
theorem d4_167 : Dc method_3_code 167 (.iload_n 1) 1 168 := by decide +kernel
theorem d4_168 : Dc method_3_code 168 (.iload_n 2) 1 169 := by decide +kernel
theorem d4_169 : Dc method_3_code 169 (.iload_n 3) 1 170 := by decide +kernel
theorem d4_170 : Dc method_3_code 170 (.iload 4) 2 172 := by decide +kernel
theorem d4_172 : Dc method_3_code 172 (.iload 5) 2 174 := by decide +kernel
theorem d4_174 : Dc method_3_code 174 (.iload 6) 2 176 := by decide +kernel
theorem d4_176 : Dc method_3_code 176 (.invokestatic 40) 3 179 := by decide +kernel
theorem d4_179 : Dc method_3_code 179 (.castore) 1 180 := by decide +kernel
theorem d4_185 : Dc method_3_code 185 (.aload 7) 2 187 := by decide +kernel
theorem d4_187 : Dc method_3_code 187 (.iconst 5) 1 188 := by decide +kernel
theorem d4_188 : Dc method_3_code 188 (.iconst 5) 1 189 := by decide +kernel
theorem d4_189 : Dc method_3_code 189 (.iload_n 1) 1 190 := by decide +kernel
theorem d4_190 : Dc method_3_code 190 (.iload_n 2) 1 191 := by decide +kernel
theorem d4_191 : Dc method_3_code 191 (.iload_n 3) 1 192 := by decide +kernel
theorem d4_192 : Dc method_3_code 192 (.iload 4) 2 194 := by decide +kernel
theorem d4_194 : Dc method_3_code 194 (.iload 5) 2 196 := by decide +kernel
theorem d4_196 : Dc method_3_code 196 (.iload 6) 2 198 := by decide +kernel
theorem d4_198 : Dc method_3_code 198 (.invokestatic 40) 3 201 := by decide +kernel
theorem d4_201 : Dc method_3_code 201 (.castore) 1 202 := by decide +kernel
theorem d4_208 : Dc method_3_code 208 (.aload 7) 2 210 := by decide +kernel
theorem d4_210 : Dc method_3_code 210 (.bipush 6) 2 212 := by decide +kernel
theorem d4_212 : Dc method_3_code 212 (.bipush 6) 2 214 := by decide +kernel
theorem d4_214 : Dc method_3_code 214 (.iload_n 1) 1 215 := by decide +kernel
theorem d4_215 : Dc method_3_code 215 (.iload_n 2) 1 216 := by decide +kernel
theorem d4_216 : Dc method_3_code 216 (.iload_n 3) 1 217 := by decide +kernel
theorem d4_217 : Dc method_3_code 217 (.iload 4) 2 219 := by decide +kernel
theorem d4_219 : Dc method_3_code 219 (.iload 5) 2 221 := by decide +kernel
theorem d4_221 : Dc method_3_code 221 (.iload 6) 2 223 := by decide +kernel
theorem d4_223 : Dc method_3_code 223 (.invokestatic 40) 3 226 := by decide +kernel
theorem d4_226 : Dc method_3_code 226 (.castore) 1 227 := by decide +kernel
theorem d4_233 : Dc method_3_code 233 (.aload 7) 2 235 := by decide +kernel
theorem d4_235 : Dc method_3_code 235 (.bipush 7) 2 237 := by decide +kernel
theorem d4_237 : Dc method_3_code 237 (.bipush 7) 2 239 := by decide +kernel
theorem d4_239 : Dc method_3_code 239 (.iload_n 1) 1 240 := by decide +kernel
theorem d4_240 : Dc method_3_code 240 (.iload_n 2) 1 241 := by decide +kernel
theorem d4_241 : Dc method_3_code 241 (.iload_n 3) 1 242 := by decide +kernel
theorem d4_242 : Dc method_3_code 242 (.iload 4) 2 244 := by decide +kernel
theorem d4_244 : Dc method_3_code 244 (.iload 5) 2 246 := by decide +kernel
theorem d4_246 : Dc method_3_code 246 (.iload 6) 2 248 := by decide +kernel
theorem d4_248 : Dc method_3_code 248 (.invokestatic 40) 3 251 := by decide +kernel
theorem d4_251 : Dc method_3_code 251 (.castore) 1 252 := by decide +kernel
theorem rSt300 (l : Launch) {Z : State} {a0 : Array Value} (hw : ∀ d ∈ tables_1, d.before a0 Z = true) {h : Heap} (hE : Ext Z.heap h) (cb : Int32) (lc : Int32) (tc : Int32) (z_ : Int32) (SZ : Sta Z Z.heap "java/lang/String" "COMPACT_STRINGS" "Z" (.int z_)) (hz : ¬ z_ = 0) (hlc : (¬ lc < 0 ∧ ¬ (32 : Int32) < lc)) (htc : (¬ tc < 0 ∧ ¬ (32 : Int32) < tc)) :
    Con l (⟨"com/example/synctoken/synctoken/dav/DepthParsePinLaw", "str", "(IIIIICC)Ljava/lang/String;"⟩ : MethodName) method_3_code 8 (some (.object "java/lang/String")) [] ({ frames := 5, cells := 3, slots := 20, locals := 120 } : Room) Z #[(.int 8), (.int 0), (.int 8), (.int 3), (.int cb), (.int lc), (.int tc)] h (fun v' h' => ∃ (x t : Addr) (kt : ClassId) (y0 y1 y2 y3 y4 y5 y6 y7 : Int32), v' = some (.ref x) ∧ Z.heap.size ≤ x ∧ h.size ≤ x ∧ Ext h h' ∧ Exa Z h' x "java/lang/String" ∧ Fld Z h' x "java/lang/String" "coder" "B" (.int (0 : Int32)) ∧ Fld Z h' x "java/lang/String" "value" "[B" (.ref t) ∧ Arv Z h' t kt .byte 8 [(.int y0), (.int y1), (.int y2), (.int y3), (.int y4), (.int y5), (.int y6), (.int y7)] (.int (0 : Int32)) ∧ (y0 = (105 : Int32) ∨ y0 = (73 : Int32)) ∧ (y1 = (110 : Int32) ∨ y1 = (78 : Int32)) ∧ (y2 = (102 : Int32) ∨ y2 = (70 : Int32)) ∧ (y3 = (105 : Int32) ∨ y3 = (73 : Int32)) ∧ (y4 = (110 : Int32) ∨ y4 = (78 : Int32)) ∧ (y5 = (105 : Int32) ∨ y5 = (73 : Int32)) ∧ (y6 = (116 : Int32) ∨ y6 = (84 : Int32)) ∧ (y7 = (121 : Int32) ∨ y7 = (89 : Int32))) := by
  refine con_of (plainFor_of_name pn_2) hE (fun m => ef_rSt300 m cb lc tc) ?_
  intro p e s m below meth c T0 C X0
  have C : Cx p s m meth c Z "com/example/synctoken/synctoken/dav/DepthParsePinLaw" "str" method_3_code 8 (some (.object "java/lang/String")) := C
  show Goes p e below _ T0 (mkF m 0 #[.val (.int 8), .val (.int 0), .val (.int 8), .val (.int 3), .val (.int cb), .val (.int lc), .val (.int tc), .unset] [])
  refine g_iloadN C X0 d4_0 rfl (g_iconst 1 C X0 d4_1 rfl (g_icmpn (hI_ne _ _) C X0 d4_2 (fun _ => ?_) (fun q => absurd q (by decide))))
  refine g_iloadN C X0 d4_13 rfl (g_iconst 2 C X0 d4_14 rfl (g_icmpn (hI_ne _ _) C X0 d4_15 (fun _ => ?_) (fun q => absurd q (by decide))))
  refine g_iloadN C X0 d4_26 rfl (g_iconst 3 C X0 d4_27 rfl (g_icmpn (hI_ne _ _) C X0 d4_28 (fun _ => ?_) (fun q => absurd q (by decide))))
  refine g_iloadN C X0 d4_39 rfl (g_bipush 8 C X0 d4_40 rfl (g_icmpn (hI_ne _ _) C X0 d4_42 (fun q => absurd (by decide) q) (fun _ => ?_)))
  refine g_bipush 8 C X0 d4_45 rfl (g_newarray C X0 (wd hw 27 rfl) d4_47 (by decide) 8 8 (by decide) (by decide) (by decide) (by decide) (fun T192 h192 b192 k_b192 g_b192 n_b192 X192 E192 V192 => ?_))
  have V_b192 : Arv Z h192 b192 k_b192 .char (8 : Int32) [(.int 0), (.int 0), (.int 0), (.int 0), (.int 0), (.int 0), (.int 0), (.int 0)] (.int 0) := V192
  refine g_astore C X192 d4_49 rfl (l' := #[.val (.int 8), .val (.int 0), .val (.int 8), .val (.int 3), .val (.int cb), .val (.int lc), .val (.int tc), .val (.ref b192)]) rfl (g_goto C X192 d4_51 (g_aload C X192 d4_75 rfl rfl (g_iconst 0 C X192 d4_77 rfl (g_iconst 0 C X192 d4_78 rfl (g_iloadN C X192 d4_79 rfl (g_iloadN C X192 d4_80 rfl (g_iloadN C X192 d4_81 rfl (g_iload C X192 d4_82 rfl (g_iload C X192 d4_84 rfl (g_iload C X192 d4_86 rfl (g_static (argsL := [(.int 0), (.int 0), (.int 8), (.int 3), (.int cb), (.int lc), (.int tc)]) (st := [(.int 0), (.ref b192)]) C X192 (wd hw 28 rfl) (wd hw 29 rfl) (wd hw 25 rfl) (wd hw 30 rfl) (by decide) (pay_of (W' := 2) (rAt003 l hw X192.ext cb lc tc hlc htc) C.hZ (wd hw 30 rfl) (wd hw 25 rfl) (by decide) (by decide)) pd_3 rfl rfl _ rfl (Nat.le_of_eq rfl) d4_88 (by decide) (by decide) (fun T193 h193 v193 q193 X193 => ?_))))))))))))
  obtain ⟨y0, rfl, l0, e193⟩ := q193
  subst e193
  show Goes p e below _ T193 (mkF m 91 #[.val (.int 8), .val (.int 0), .val (.int 8), .val (.int 3), .val (.int cb), .val (.int lc), .val (.int tc), .val (.ref b192)] [(.int y0), (.int 0), (.ref b192)])
  refine g_castore C X193 V_b192 n_b192 d4_91 (by decide) (by decide) (Nat.le_of_ble_eq_true rfl) (.int y0) (own_nar (own_127 (own_gt (own_let l0 (by decide) (by decide))))) (fun T194 h194 X194 W194 V194 => ?_)
  have V194_b192 : Arv Z h194 b192 k_b192 .char (8 : Int32) [(.int y0), (.int 0), (.int 0), (.int 0), (.int 0), (.int 0), (.int 0), (.int 0)] (.int 0) := V194
  refine g_iloadN C X194 d4_92 rfl (g_iconst 1 C X194 d4_93 rfl (g_icmpn (hI_le _ _) C X194 d4_94 (fun q => absurd (by decide) q) (fun _ => ?_)))
  refine g_aload C X194 d4_97 rfl rfl (g_iconst 1 C X194 d4_99 rfl (g_iconst 1 C X194 d4_100 rfl (g_iloadN C X194 d4_101 rfl (g_iloadN C X194 d4_102 rfl (g_iloadN C X194 d4_103 rfl (g_iload C X194 d4_104 rfl (g_iload C X194 d4_106 rfl (g_iload C X194 d4_108 rfl (g_static (argsL := [(.int 1), (.int 0), (.int 8), (.int 3), (.int cb), (.int lc), (.int tc)]) (st := [(.int 1), (.ref b192)]) C X194 (wd hw 28 rfl) (wd hw 29 rfl) (wd hw 25 rfl) (wd hw 30 rfl) (by decide) (pay_of (W' := 2) (rAt103 l hw X194.ext cb lc tc hlc htc) C.hZ (wd hw 30 rfl) (wd hw 25 rfl) (by decide) (by decide)) pd_3 rfl rfl _ rfl (Nat.le_of_eq rfl) d4_110 (by decide) (by decide) (fun T195 h195 v195 q195 X195 => ?_))))))))))
  obtain ⟨y1, rfl, l1, e195⟩ := q195
  subst e195
  show Goes p e below _ T195 (mkF m 113 #[.val (.int 8), .val (.int 0), .val (.int 8), .val (.int 3), .val (.int cb), .val (.int lc), .val (.int tc), .val (.ref b192)] [(.int y1), (.int 1), (.ref b192)])
  refine g_castore C X195 V194_b192 n_b192 d4_113 (by decide) (by decide) (Nat.le_of_ble_eq_true rfl) (.int y1) (own_nar (own_127 (own_gt (own_let l1 (by decide) (by decide))))) (fun T196 h196 X196 W196 V196 => ?_)
  have V196_b192 : Arv Z h196 b192 k_b192 .char (8 : Int32) [(.int y0), (.int y1), (.int 0), (.int 0), (.int 0), (.int 0), (.int 0), (.int 0)] (.int 0) := V196
  refine g_iloadN C X196 d4_114 rfl (g_iconst 2 C X196 d4_115 rfl (g_icmpn (hI_le _ _) C X196 d4_116 (fun q => absurd (by decide) q) (fun _ => ?_)))
  refine g_aload C X196 d4_119 rfl rfl (g_iconst 2 C X196 d4_121 rfl (g_iconst 2 C X196 d4_122 rfl (g_iloadN C X196 d4_123 rfl (g_iloadN C X196 d4_124 rfl (g_iloadN C X196 d4_125 rfl (g_iload C X196 d4_126 rfl (g_iload C X196 d4_128 rfl (g_iload C X196 d4_130 rfl (g_static (argsL := [(.int 2), (.int 0), (.int 8), (.int 3), (.int cb), (.int lc), (.int tc)]) (st := [(.int 2), (.ref b192)]) C X196 (wd hw 28 rfl) (wd hw 29 rfl) (wd hw 25 rfl) (wd hw 30 rfl) (by decide) (pay_of (W' := 2) (rAt203 l hw X196.ext cb lc tc hlc htc) C.hZ (wd hw 30 rfl) (wd hw 25 rfl) (by decide) (by decide)) pd_3 rfl rfl _ rfl (Nat.le_of_eq rfl) d4_132 (by decide) (by decide) (fun T197 h197 v197 q197 X197 => ?_))))))))))
  obtain ⟨y2, rfl, l2, e197⟩ := q197
  subst e197
  show Goes p e below _ T197 (mkF m 135 #[.val (.int 8), .val (.int 0), .val (.int 8), .val (.int 3), .val (.int cb), .val (.int lc), .val (.int tc), .val (.ref b192)] [(.int y2), (.int 2), (.ref b192)])
  refine g_castore C X197 V196_b192 n_b192 d4_135 (by decide) (by decide) (Nat.le_of_ble_eq_true rfl) (.int y2) (own_nar (own_127 (own_gt (own_let l2 (by decide) (by decide))))) (fun T198 h198 X198 W198 V198 => ?_)
  have V198_b192 : Arv Z h198 b192 k_b192 .char (8 : Int32) [(.int y0), (.int y1), (.int y2), (.int 0), (.int 0), (.int 0), (.int 0), (.int 0)] (.int 0) := V198
  refine g_iloadN C X198 d4_136 rfl (g_iconst 3 C X198 d4_137 rfl (g_icmpn (hI_le _ _) C X198 d4_138 (fun q => absurd (by decide) q) (fun _ => ?_)))
  refine g_aload C X198 d4_141 rfl rfl (g_iconst 3 C X198 d4_143 rfl (g_iconst 3 C X198 d4_144 rfl (g_iloadN C X198 d4_145 rfl (g_iloadN C X198 d4_146 rfl (g_iloadN C X198 d4_147 rfl (g_iload C X198 d4_148 rfl (g_iload C X198 d4_150 rfl (g_iload C X198 d4_152 rfl (g_static (argsL := [(.int 3), (.int 0), (.int 8), (.int 3), (.int cb), (.int lc), (.int tc)]) (st := [(.int 3), (.ref b192)]) C X198 (wd hw 28 rfl) (wd hw 29 rfl) (wd hw 25 rfl) (wd hw 30 rfl) (by decide) (pay_of (W' := 2) (rAt303 l hw X198.ext cb lc tc hlc htc) C.hZ (wd hw 30 rfl) (wd hw 25 rfl) (by decide) (by decide)) pd_3 rfl rfl _ rfl (Nat.le_of_eq rfl) d4_154 (by decide) (by decide) (fun T199 h199 v199 q199 X199 => ?_))))))))))
  obtain ⟨y3, rfl, l3, e199⟩ := q199
  subst e199
  show Goes p e below _ T199 (mkF m 157 #[.val (.int 8), .val (.int 0), .val (.int 8), .val (.int 3), .val (.int cb), .val (.int lc), .val (.int tc), .val (.ref b192)] [(.int y3), (.int 3), (.ref b192)])
  refine g_castore C X199 V198_b192 n_b192 d4_157 (by decide) (by decide) (Nat.le_of_ble_eq_true rfl) (.int y3) (own_nar (own_127 (own_gt (own_let l3 (by decide) (by decide))))) (fun T200 h200 X200 W200 V200 => ?_)
  have V200_b192 : Arv Z h200 b192 k_b192 .char (8 : Int32) [(.int y0), (.int y1), (.int y2), (.int y3), (.int 0), (.int 0), (.int 0), (.int 0)] (.int 0) := V200
  refine g_iloadN C X200 d4_158 rfl (g_iconst 4 C X200 d4_159 rfl (g_icmpn (hI_le _ _) C X200 d4_160 (fun q => absurd (by decide) q) (fun _ => ?_)))
  refine g_aload C X200 d4_163 rfl rfl (g_iconst 4 C X200 d4_165 rfl (g_iconst 4 C X200 d4_166 rfl (g_iloadN C X200 d4_167 rfl (g_iloadN C X200 d4_168 rfl (g_iloadN C X200 d4_169 rfl (g_iload C X200 d4_170 rfl (g_iload C X200 d4_172 rfl (g_iload C X200 d4_174 rfl (g_static (argsL := [(.int 4), (.int 0), (.int 8), (.int 3), (.int cb), (.int lc), (.int tc)]) (st := [(.int 4), (.ref b192)]) C X200 (wd hw 28 rfl) (wd hw 29 rfl) (wd hw 25 rfl) (wd hw 30 rfl) (by decide) (pay_of (W' := 2) (rAt403 l hw X200.ext cb lc tc hlc htc) C.hZ (wd hw 30 rfl) (wd hw 25 rfl) (by decide) (by decide)) pd_3 rfl rfl _ rfl (Nat.le_of_eq rfl) d4_176 (by decide) (by decide) (fun T201 h201 v201 q201 X201 => ?_))))))))))
  obtain ⟨y4, rfl, l4, e201⟩ := q201
  subst e201
  show Goes p e below _ T201 (mkF m 179 #[.val (.int 8), .val (.int 0), .val (.int 8), .val (.int 3), .val (.int cb), .val (.int lc), .val (.int tc), .val (.ref b192)] [(.int y4), (.int 4), (.ref b192)])
  refine g_castore C X201 V200_b192 n_b192 d4_179 (by decide) (by decide) (Nat.le_of_ble_eq_true rfl) (.int y4) (own_nar (own_127 (own_gt (own_let l4 (by decide) (by decide))))) (fun T202 h202 X202 W202 V202 => ?_)
  have V202_b192 : Arv Z h202 b192 k_b192 .char (8 : Int32) [(.int y0), (.int y1), (.int y2), (.int y3), (.int y4), (.int 0), (.int 0), (.int 0)] (.int 0) := V202
  refine g_iloadN C X202 d4_180 rfl (g_iconst 5 C X202 d4_181 rfl (g_icmpn (hI_le _ _) C X202 d4_182 (fun q => absurd (by decide) q) (fun _ => ?_)))
  refine g_aload C X202 d4_185 rfl rfl (g_iconst 5 C X202 d4_187 rfl (g_iconst 5 C X202 d4_188 rfl (g_iloadN C X202 d4_189 rfl (g_iloadN C X202 d4_190 rfl (g_iloadN C X202 d4_191 rfl (g_iload C X202 d4_192 rfl (g_iload C X202 d4_194 rfl (g_iload C X202 d4_196 rfl (g_static (argsL := [(.int 5), (.int 0), (.int 8), (.int 3), (.int cb), (.int lc), (.int tc)]) (st := [(.int 5), (.ref b192)]) C X202 (wd hw 28 rfl) (wd hw 29 rfl) (wd hw 25 rfl) (wd hw 30 rfl) (by decide) (pay_of (W' := 2) (rAt503 l hw X202.ext cb lc tc hlc htc) C.hZ (wd hw 30 rfl) (wd hw 25 rfl) (by decide) (by decide)) pd_3 rfl rfl _ rfl (Nat.le_of_eq rfl) d4_198 (by decide) (by decide) (fun T203 h203 v203 q203 X203 => ?_))))))))))
  obtain ⟨y5, rfl, l5, e203⟩ := q203
  subst e203
  show Goes p e below _ T203 (mkF m 201 #[.val (.int 8), .val (.int 0), .val (.int 8), .val (.int 3), .val (.int cb), .val (.int lc), .val (.int tc), .val (.ref b192)] [(.int y5), (.int 5), (.ref b192)])
  refine g_castore C X203 V202_b192 n_b192 d4_201 (by decide) (by decide) (Nat.le_of_ble_eq_true rfl) (.int y5) (own_nar (own_127 (own_gt (own_let l5 (by decide) (by decide))))) (fun T204 h204 X204 W204 V204 => ?_)
  have V204_b192 : Arv Z h204 b192 k_b192 .char (8 : Int32) [(.int y0), (.int y1), (.int y2), (.int y3), (.int y4), (.int y5), (.int 0), (.int 0)] (.int 0) := V204
  refine g_iloadN C X204 d4_202 rfl (g_bipush 6 C X204 d4_203 rfl (g_icmpn (hI_le _ _) C X204 d4_205 (fun q => absurd (by decide) q) (fun _ => ?_)))
  refine g_aload C X204 d4_208 rfl rfl (g_bipush 6 C X204 d4_210 rfl (g_bipush 6 C X204 d4_212 rfl (g_iloadN C X204 d4_214 rfl (g_iloadN C X204 d4_215 rfl (g_iloadN C X204 d4_216 rfl (g_iload C X204 d4_217 rfl (g_iload C X204 d4_219 rfl (g_iload C X204 d4_221 rfl (g_static (argsL := [(.int 6), (.int 0), (.int 8), (.int 3), (.int cb), (.int lc), (.int tc)]) (st := [(.int 6), (.ref b192)]) C X204 (wd hw 28 rfl) (wd hw 29 rfl) (wd hw 25 rfl) (wd hw 30 rfl) (by decide) (pay_of (W' := 2) (rAt603 l hw X204.ext cb lc tc hlc htc) C.hZ (wd hw 30 rfl) (wd hw 25 rfl) (by decide) (by decide)) pd_3 rfl rfl _ rfl (Nat.le_of_eq rfl) d4_223 (by decide) (by decide) (fun T205 h205 v205 q205 X205 => ?_))))))))))
  obtain ⟨y6, rfl, l6, e205⟩ := q205
  subst e205
  show Goes p e below _ T205 (mkF m 226 #[.val (.int 8), .val (.int 0), .val (.int 8), .val (.int 3), .val (.int cb), .val (.int lc), .val (.int tc), .val (.ref b192)] [(.int y6), (.int 6), (.ref b192)])
  refine g_castore C X205 V204_b192 n_b192 d4_226 (by decide) (by decide) (Nat.le_of_ble_eq_true rfl) (.int y6) (own_nar (own_127 (own_gt (own_let l6 (by decide) (by decide))))) (fun T206 h206 X206 W206 V206 => ?_)
  have V206_b192 : Arv Z h206 b192 k_b192 .char (8 : Int32) [(.int y0), (.int y1), (.int y2), (.int y3), (.int y4), (.int y5), (.int y6), (.int 0)] (.int 0) := V206
  refine g_iloadN C X206 d4_227 rfl (g_bipush 7 C X206 d4_228 rfl (g_icmpn (hI_le _ _) C X206 d4_230 (fun q => absurd (by decide) q) (fun _ => ?_)))
  refine g_aload C X206 d4_233 rfl rfl (g_bipush 7 C X206 d4_235 rfl (g_bipush 7 C X206 d4_237 rfl (g_iloadN C X206 d4_239 rfl (g_iloadN C X206 d4_240 rfl (g_iloadN C X206 d4_241 rfl (g_iload C X206 d4_242 rfl (g_iload C X206 d4_244 rfl (g_iload C X206 d4_246 rfl (g_static (argsL := [(.int 7), (.int 0), (.int 8), (.int 3), (.int cb), (.int lc), (.int tc)]) (st := [(.int 7), (.ref b192)]) C X206 (wd hw 28 rfl) (wd hw 29 rfl) (wd hw 25 rfl) (wd hw 30 rfl) (by decide) (pay_of (W' := 2) (rAt703 l hw X206.ext cb lc tc hlc htc) C.hZ (wd hw 30 rfl) (wd hw 25 rfl) (by decide) (by decide)) pd_3 rfl rfl _ rfl (Nat.le_of_eq rfl) d4_248 (by decide) (by decide) (fun T207 h207 v207 q207 X207 => ?_))))))))))
  obtain ⟨y7, rfl, l7, e207⟩ := q207
  subst e207
  show Goes p e below _ T207 (mkF m 251 #[.val (.int 8), .val (.int 0), .val (.int 8), .val (.int 3), .val (.int cb), .val (.int lc), .val (.int tc), .val (.ref b192)] [(.int y7), (.int 7), (.ref b192)])
  refine g_castore C X207 V206_b192 n_b192 d4_251 (by decide) (by decide) (Nat.le_of_ble_eq_true rfl) (.int y7) (own_nar (own_127 (own_gt (own_let l7 (by decide) (by decide))))) (fun T208 h208 X208 W208 V208 => ?_)
  have V208_b192 : Arv Z h208 b192 k_b192 .char (8 : Int32) [(.int y0), (.int y1), (.int y2), (.int y3), (.int y4), (.int y5), (.int y6), (.int y7)] (.int 0) := V208
  refine g_iloadN C X208 d4_252 rfl (g_bipush 8 C X208 d4_253 rfl (g_icmpn (hI_le _ _) C X208 d4_255 (fun _ => ?_) (fun q => absurd q (by decide))))
  refine g_iloadN C X208 d4_277 rfl (g_bipush 9 C X208 d4_278 rfl (g_icmpn (hI_le _ _) C X208 d4_280 (fun _ => ?_) (fun q => absurd q (by decide))))
  refine g_new C X208 (wd hw 31 rfl) (wd hw 32 rfl) (wd hw 33 rfl) d4_302 (by decide) (by decide) (fun T209 h209 b209 g_b209 n_b209 X209 E209 A209 D209 M209 => ?_)
  have lt210 : b192 < b209 := by rw [g_b209]; exact Arv.lt V208_b192
  have F_coder_b209 : Fld Z h209 b209 "java/lang/String" "coder" "B" (.int 0) := D209 (Or.inr (wd hw 57 rfl)) (ty := .byte) (by decide)
  have F_value_b209 : Fld Z h209 b209 "java/lang/String" "value" "[B" .null := D209 (Or.inr (wd hw 59 rfl)) (ty := (.array .byte)) (by decide)
  refine g_dup C X209 d4_305 rfl (g_aload C X209 d4_306 rfl rfl ?_)
  have hp211 : ∀ c ∈ [y0, y1, y2, y3, y4, y5, y6, y7], ¬ c < 0 ∧ ¬ (255 : Int32) < c := (List.forall_mem_cons.mpr ⟨(own_127 (own_gt (own_let l0 (by decide) (by decide)))), (List.forall_mem_cons.mpr ⟨(own_127 (own_gt (own_let l1 (by decide) (by decide)))), (List.forall_mem_cons.mpr ⟨(own_127 (own_gt (own_let l2 (by decide) (by decide)))), (List.forall_mem_cons.mpr ⟨(own_127 (own_gt (own_let l3 (by decide) (by decide)))), (List.forall_mem_cons.mpr ⟨(own_127 (own_gt (own_let l4 (by decide) (by decide)))), (List.forall_mem_cons.mpr ⟨(own_127 (own_gt (own_let l5 (by decide) (by decide)))), (List.forall_mem_cons.mpr ⟨(own_127 (own_gt (own_let l6 (by decide) (by decide)))), (List.forall_mem_cons.mpr ⟨(own_127 (own_gt (own_let l7 (by decide) (by decide)))), (fun _ q => nomatch q)⟩)⟩)⟩)⟩)⟩)⟩)⟩)⟩)
  have f213 := (Arv.ext V208_b192 E209)
  refine g_special (argsL := [(.ref b192)]) (st := [(.ref b209)]) C X209 rfl (wd hw 34 rfl) (wd hw 35 rfl) (wd hw 36 rfl) (by decide) (payV (W' := 1) (cs := [y0, y1, y2, y3, y4, y5, y6, y7]) (n := 8) C.hZ X209.ext (own_words hw) (kI := 4) (wd hw 32 rfl) n_b209 A209 F_value_b209 F_coder_b209 f213 SZ hz rfl rfl (by decide) (by decide) hp211 (by decide) (by decide)) pd_4 rfl rfl _ rfl (Nat.le_of_eq rfl) d4_308 (by decide) (by decide) (fun T212 h212 v212 q212 X212 => ?_)
  obtain ⟨rfl, K212, EX212, FC212, t212, k_t212, nt0_212, gt212, nt212, FV212, VT212⟩ := q212
  have lt214 : b192 < t212 := Nat.lt_of_lt_of_le (Arv.lt f213) gt212
  have lt215 : b209 < t212 := Nat.lt_of_lt_of_le (Exa.lt A209) gt212
  show Goes p e below _ T212 (mkF m 311 #[.val (.int 8), .val (.int 0), .val (.int 8), .val (.int 3), .val (.int cb), .val (.int lc), .val (.int tc), .val (.ref b192)] [(.ref b209)])
  have sz216 : h.size ≤ b192 := by rw [g_b192]; exact (Keep.refl h []).1
  have kp217 := (Keep.refl h []).ext E192
  have kp218 := kp217.wr W194 (Or.inr sz216)
  have kp219 := kp218.wr W196 (Or.inr sz216)
  have kp220 := kp219.wr W198 (Or.inr sz216)
  have kp221 := kp220.wr W200 (Or.inr sz216)
  have kp222 := kp221.wr W202 (Or.inr sz216)
  have kp223 := kp222.wr W204 (Or.inr sz216)
  have kp224 := kp223.wr W206 (Or.inr sz216)
  have kp225 := kp224.wr W208 (Or.inr sz216)
  have sz226 : h.size ≤ b209 := by rw [g_b209]; exact kp225.1
  have kp227 := kp225.ext E209
  have kp228 := kp227.trans K212 (allS (Or.inr sz226) all0)
  exact g_retA C X212 rfl rfl d4_311 (by decide) (by decide) ⟨b209, t212, k_t212, y0, y1, y2, y3, y4, y5, y6, y7, rfl, n_b209, sz226, keep_ext kp228, EX212, FC212, FV212, own_conv VT212 (by simp only [List.map, own_b7 (own_gt (own_let l0 (by decide) (by decide))), own_b7 (own_gt (own_let l1 (by decide) (by decide))), own_b7 (own_gt (own_let l2 (by decide) (by decide))), own_b7 (own_gt (own_let l3 (by decide) (by decide))), own_b7 (own_gt (own_let l4 (by decide) (by decide))), own_b7 (own_gt (own_let l5 (by decide) (by decide))), own_b7 (own_gt (own_let l6 (by decide) (by decide))), own_b7 (own_gt (own_let l7 (by decide) (by decide)))]), l0, l1, l2, l3, l4, l5, l6, l7⟩
theorem ef_rSt301 (m : MethodId) (cb : Int32) (lc : Int32) (tc : Int32) : entryFrame m #[(.int 9), (.int 0), (.int 8), (.int 3), (.int cb), (.int lc), (.int tc)] 8 = mkF m 0 #[.val (.int 9), .val (.int 0), .val (.int 8), .val (.int 3), .val (.int cb), .val (.int lc), .val (.int tc), .unset] [] := by first | (simp [entryFrame, mkF, argsToLocals, Value.category]; done) | rfl
theorem d4_54 : Dc method_3_code 54 (.iload_n 0) 1 55 := by decide +kernel
theorem d4_55 : Dc method_3_code 55 (.bipush 9) 2 57 := by decide +kernel
theorem d4_57 : Dj method_3_code 57 (.if_icmp .ne 12) 12 3 60 69 := by decide +kernel
theorem d4_60 : Dc method_3_code 60 (.bipush 9) 2 62 := by decide +kernel
theorem d4_62 : Dc method_3_code 62 (.newarray .char) 2 64 := by decide +kernel
theorem d4_64 : Dc method_3_code 64 (.astore 7) 2 66 := by decide +kernel
theorem d4_66 : Dj method_3_code 66 (.goto 9) 9 3 69 75 := by decide +kernel
theorem d4_258 : Dc method_3_code 258 (.aload 7) 2 260 := by decide +kernel
theorem d4_260 : Dc method_3_code 260 (.bipush 8) 2 262 := by decide +kernel
theorem d4_262 : Dc method_3_code 262 (.bipush 8) 2 264 := by decide +kernel
theorem d4_264 : Dc method_3_code 264 (.iload_n 1) 1 265 := by decide +kernel
theorem d4_265 : Dc method_3_code 265 (.iload_n 2) 1 266 := by decide +kernel
theorem d4_266 : Dc method_3_code 266 (.iload_n 3) 1 267 := by decide +kernel
theorem d4_267 : Dc method_3_code 267 (.iload 4) 2 269 := by decide +kernel
theorem d4_269 : Dc method_3_code 269 (.iload 5) 2 271 := by decide +kernel
theorem d4_271 : Dc method_3_code 271 (.iload 6) 2 273 := by decide +kernel
theorem d4_273 : Dc method_3_code 273 (.invokestatic 40) 3 276 := by decide +kernel
theorem d4_276 : Dc method_3_code 276 (.castore) 1 277 := by decide +kernel
theorem rSt301 (l : Launch) {Z : State} {a0 : Array Value} (hw : ∀ d ∈ tables_1, d.before a0 Z = true) {h : Heap} (hE : Ext Z.heap h) (cb : Int32) (lc : Int32) (tc : Int32) (z_ : Int32) (SZ : Sta Z Z.heap "java/lang/String" "COMPACT_STRINGS" "Z" (.int z_)) (hz : ¬ z_ = 0) (hlc : (¬ lc < 0 ∧ ¬ (32 : Int32) < lc)) (htc : (¬ tc < 0 ∧ ¬ (32 : Int32) < tc)) :
    Con l (⟨"com/example/synctoken/synctoken/dav/DepthParsePinLaw", "str", "(IIIIICC)Ljava/lang/String;"⟩ : MethodName) method_3_code 8 (some (.object "java/lang/String")) [] ({ frames := 5, cells := 3, slots := 22, locals := 120 } : Room) Z #[(.int 9), (.int 0), (.int 8), (.int 3), (.int cb), (.int lc), (.int tc)] h (fun v' h' => ∃ (x t : Addr) (kt : ClassId) (y0 y1 y2 y3 y4 y5 y6 y7 : Int32), v' = some (.ref x) ∧ Z.heap.size ≤ x ∧ h.size ≤ x ∧ Ext h h' ∧ Exa Z h' x "java/lang/String" ∧ Fld Z h' x "java/lang/String" "coder" "B" (.int (0 : Int32)) ∧ Fld Z h' x "java/lang/String" "value" "[B" (.ref t) ∧ Arv Z h' t kt .byte 9 [(.int y0), (.int y1), (.int y2), (.int y3), (.int y4), (.int y5), (.int y6), (.int y7), (.int tc)] (.int (0 : Int32)) ∧ (y0 = (105 : Int32) ∨ y0 = (73 : Int32)) ∧ (y1 = (110 : Int32) ∨ y1 = (78 : Int32)) ∧ (y2 = (102 : Int32) ∨ y2 = (70 : Int32)) ∧ (y3 = (105 : Int32) ∨ y3 = (73 : Int32)) ∧ (y4 = (110 : Int32) ∨ y4 = (78 : Int32)) ∧ (y5 = (105 : Int32) ∨ y5 = (73 : Int32)) ∧ (y6 = (116 : Int32) ∨ y6 = (84 : Int32)) ∧ (y7 = (121 : Int32) ∨ y7 = (89 : Int32))) := by
  refine con_of (plainFor_of_name pn_2) hE (fun m => ef_rSt301 m cb lc tc) ?_
  intro p e s m below meth c T0 C X0
  have C : Cx p s m meth c Z "com/example/synctoken/synctoken/dav/DepthParsePinLaw" "str" method_3_code 8 (some (.object "java/lang/String")) := C
  show Goes p e below _ T0 (mkF m 0 #[.val (.int 9), .val (.int 0), .val (.int 8), .val (.int 3), .val (.int cb), .val (.int lc), .val (.int tc), .unset] [])
  refine g_iloadN C X0 d4_0 rfl (g_iconst 1 C X0 d4_1 rfl (g_icmpn (hI_ne _ _) C X0 d4_2 (fun _ => ?_) (fun q => absurd q (by decide))))
  refine g_iloadN C X0 d4_13 rfl (g_iconst 2 C X0 d4_14 rfl (g_icmpn (hI_ne _ _) C X0 d4_15 (fun _ => ?_) (fun q => absurd q (by decide))))
  refine g_iloadN C X0 d4_26 rfl (g_iconst 3 C X0 d4_27 rfl (g_icmpn (hI_ne _ _) C X0 d4_28 (fun _ => ?_) (fun q => absurd q (by decide))))
  refine g_iloadN C X0 d4_39 rfl (g_bipush 8 C X0 d4_40 rfl (g_icmpn (hI_ne _ _) C X0 d4_42 (fun _ => ?_) (fun q => absurd q (by decide))))
  refine g_iloadN C X0 d4_54 rfl (g_bipush 9 C X0 d4_55 rfl (g_icmpn (hI_ne _ _) C X0 d4_57 (fun q => absurd (by decide) q) (fun _ => ?_)))
  refine g_bipush 9 C X0 d4_60 rfl (g_newarray C X0 (wd hw 27 rfl) d4_62 (by decide) 9 9 (by decide) (by decide) (by decide) (by decide) (fun T229 h229 b229 k_b229 g_b229 n_b229 X229 E229 V229 => ?_))
  have V_b229 : Arv Z h229 b229 k_b229 .char (9 : Int32) [(.int 0), (.int 0), (.int 0), (.int 0), (.int 0), (.int 0), (.int 0), (.int 0), (.int 0)] (.int 0) := V229
  refine g_astore C X229 d4_64 rfl (l' := #[.val (.int 9), .val (.int 0), .val (.int 8), .val (.int 3), .val (.int cb), .val (.int lc), .val (.int tc), .val (.ref b229)]) rfl (g_goto C X229 d4_66 (g_aload C X229 d4_75 rfl rfl (g_iconst 0 C X229 d4_77 rfl (g_iconst 0 C X229 d4_78 rfl (g_iloadN C X229 d4_79 rfl (g_iloadN C X229 d4_80 rfl (g_iloadN C X229 d4_81 rfl (g_iload C X229 d4_82 rfl (g_iload C X229 d4_84 rfl (g_iload C X229 d4_86 rfl (g_static (argsL := [(.int 0), (.int 0), (.int 8), (.int 3), (.int cb), (.int lc), (.int tc)]) (st := [(.int 0), (.ref b229)]) C X229 (wd hw 28 rfl) (wd hw 29 rfl) (wd hw 25 rfl) (wd hw 30 rfl) (by decide) (pay_of (W' := 2) (rAt003 l hw X229.ext cb lc tc hlc htc) C.hZ (wd hw 30 rfl) (wd hw 25 rfl) (by decide) (by decide)) pd_3 rfl rfl _ rfl (Nat.le_of_eq rfl) d4_88 (by decide) (by decide) (fun T230 h230 v230 q230 X230 => ?_))))))))))))
  obtain ⟨y0, rfl, l0, e230⟩ := q230
  subst e230
  show Goes p e below _ T230 (mkF m 91 #[.val (.int 9), .val (.int 0), .val (.int 8), .val (.int 3), .val (.int cb), .val (.int lc), .val (.int tc), .val (.ref b229)] [(.int y0), (.int 0), (.ref b229)])
  refine g_castore C X230 V_b229 n_b229 d4_91 (by decide) (by decide) (Nat.le_of_ble_eq_true rfl) (.int y0) (own_nar (own_127 (own_gt (own_let l0 (by decide) (by decide))))) (fun T231 h231 X231 W231 V231 => ?_)
  have V231_b229 : Arv Z h231 b229 k_b229 .char (9 : Int32) [(.int y0), (.int 0), (.int 0), (.int 0), (.int 0), (.int 0), (.int 0), (.int 0), (.int 0)] (.int 0) := V231
  refine g_iloadN C X231 d4_92 rfl (g_iconst 1 C X231 d4_93 rfl (g_icmpn (hI_le _ _) C X231 d4_94 (fun q => absurd (by decide) q) (fun _ => ?_)))
  refine g_aload C X231 d4_97 rfl rfl (g_iconst 1 C X231 d4_99 rfl (g_iconst 1 C X231 d4_100 rfl (g_iloadN C X231 d4_101 rfl (g_iloadN C X231 d4_102 rfl (g_iloadN C X231 d4_103 rfl (g_iload C X231 d4_104 rfl (g_iload C X231 d4_106 rfl (g_iload C X231 d4_108 rfl (g_static (argsL := [(.int 1), (.int 0), (.int 8), (.int 3), (.int cb), (.int lc), (.int tc)]) (st := [(.int 1), (.ref b229)]) C X231 (wd hw 28 rfl) (wd hw 29 rfl) (wd hw 25 rfl) (wd hw 30 rfl) (by decide) (pay_of (W' := 2) (rAt103 l hw X231.ext cb lc tc hlc htc) C.hZ (wd hw 30 rfl) (wd hw 25 rfl) (by decide) (by decide)) pd_3 rfl rfl _ rfl (Nat.le_of_eq rfl) d4_110 (by decide) (by decide) (fun T232 h232 v232 q232 X232 => ?_))))))))))
  obtain ⟨y1, rfl, l1, e232⟩ := q232
  subst e232
  show Goes p e below _ T232 (mkF m 113 #[.val (.int 9), .val (.int 0), .val (.int 8), .val (.int 3), .val (.int cb), .val (.int lc), .val (.int tc), .val (.ref b229)] [(.int y1), (.int 1), (.ref b229)])
  refine g_castore C X232 V231_b229 n_b229 d4_113 (by decide) (by decide) (Nat.le_of_ble_eq_true rfl) (.int y1) (own_nar (own_127 (own_gt (own_let l1 (by decide) (by decide))))) (fun T233 h233 X233 W233 V233 => ?_)
  have V233_b229 : Arv Z h233 b229 k_b229 .char (9 : Int32) [(.int y0), (.int y1), (.int 0), (.int 0), (.int 0), (.int 0), (.int 0), (.int 0), (.int 0)] (.int 0) := V233
  refine g_iloadN C X233 d4_114 rfl (g_iconst 2 C X233 d4_115 rfl (g_icmpn (hI_le _ _) C X233 d4_116 (fun q => absurd (by decide) q) (fun _ => ?_)))
  refine g_aload C X233 d4_119 rfl rfl (g_iconst 2 C X233 d4_121 rfl (g_iconst 2 C X233 d4_122 rfl (g_iloadN C X233 d4_123 rfl (g_iloadN C X233 d4_124 rfl (g_iloadN C X233 d4_125 rfl (g_iload C X233 d4_126 rfl (g_iload C X233 d4_128 rfl (g_iload C X233 d4_130 rfl (g_static (argsL := [(.int 2), (.int 0), (.int 8), (.int 3), (.int cb), (.int lc), (.int tc)]) (st := [(.int 2), (.ref b229)]) C X233 (wd hw 28 rfl) (wd hw 29 rfl) (wd hw 25 rfl) (wd hw 30 rfl) (by decide) (pay_of (W' := 2) (rAt203 l hw X233.ext cb lc tc hlc htc) C.hZ (wd hw 30 rfl) (wd hw 25 rfl) (by decide) (by decide)) pd_3 rfl rfl _ rfl (Nat.le_of_eq rfl) d4_132 (by decide) (by decide) (fun T234 h234 v234 q234 X234 => ?_))))))))))
  obtain ⟨y2, rfl, l2, e234⟩ := q234
  subst e234
  show Goes p e below _ T234 (mkF m 135 #[.val (.int 9), .val (.int 0), .val (.int 8), .val (.int 3), .val (.int cb), .val (.int lc), .val (.int tc), .val (.ref b229)] [(.int y2), (.int 2), (.ref b229)])
  refine g_castore C X234 V233_b229 n_b229 d4_135 (by decide) (by decide) (Nat.le_of_ble_eq_true rfl) (.int y2) (own_nar (own_127 (own_gt (own_let l2 (by decide) (by decide))))) (fun T235 h235 X235 W235 V235 => ?_)
  have V235_b229 : Arv Z h235 b229 k_b229 .char (9 : Int32) [(.int y0), (.int y1), (.int y2), (.int 0), (.int 0), (.int 0), (.int 0), (.int 0), (.int 0)] (.int 0) := V235
  refine g_iloadN C X235 d4_136 rfl (g_iconst 3 C X235 d4_137 rfl (g_icmpn (hI_le _ _) C X235 d4_138 (fun q => absurd (by decide) q) (fun _ => ?_)))
  refine g_aload C X235 d4_141 rfl rfl (g_iconst 3 C X235 d4_143 rfl (g_iconst 3 C X235 d4_144 rfl (g_iloadN C X235 d4_145 rfl (g_iloadN C X235 d4_146 rfl (g_iloadN C X235 d4_147 rfl (g_iload C X235 d4_148 rfl (g_iload C X235 d4_150 rfl (g_iload C X235 d4_152 rfl (g_static (argsL := [(.int 3), (.int 0), (.int 8), (.int 3), (.int cb), (.int lc), (.int tc)]) (st := [(.int 3), (.ref b229)]) C X235 (wd hw 28 rfl) (wd hw 29 rfl) (wd hw 25 rfl) (wd hw 30 rfl) (by decide) (pay_of (W' := 2) (rAt303 l hw X235.ext cb lc tc hlc htc) C.hZ (wd hw 30 rfl) (wd hw 25 rfl) (by decide) (by decide)) pd_3 rfl rfl _ rfl (Nat.le_of_eq rfl) d4_154 (by decide) (by decide) (fun T236 h236 v236 q236 X236 => ?_))))))))))
  obtain ⟨y3, rfl, l3, e236⟩ := q236
  subst e236
  show Goes p e below _ T236 (mkF m 157 #[.val (.int 9), .val (.int 0), .val (.int 8), .val (.int 3), .val (.int cb), .val (.int lc), .val (.int tc), .val (.ref b229)] [(.int y3), (.int 3), (.ref b229)])
  refine g_castore C X236 V235_b229 n_b229 d4_157 (by decide) (by decide) (Nat.le_of_ble_eq_true rfl) (.int y3) (own_nar (own_127 (own_gt (own_let l3 (by decide) (by decide))))) (fun T237 h237 X237 W237 V237 => ?_)
  have V237_b229 : Arv Z h237 b229 k_b229 .char (9 : Int32) [(.int y0), (.int y1), (.int y2), (.int y3), (.int 0), (.int 0), (.int 0), (.int 0), (.int 0)] (.int 0) := V237
  refine g_iloadN C X237 d4_158 rfl (g_iconst 4 C X237 d4_159 rfl (g_icmpn (hI_le _ _) C X237 d4_160 (fun q => absurd (by decide) q) (fun _ => ?_)))
  refine g_aload C X237 d4_163 rfl rfl (g_iconst 4 C X237 d4_165 rfl (g_iconst 4 C X237 d4_166 rfl (g_iloadN C X237 d4_167 rfl (g_iloadN C X237 d4_168 rfl (g_iloadN C X237 d4_169 rfl (g_iload C X237 d4_170 rfl (g_iload C X237 d4_172 rfl (g_iload C X237 d4_174 rfl (g_static (argsL := [(.int 4), (.int 0), (.int 8), (.int 3), (.int cb), (.int lc), (.int tc)]) (st := [(.int 4), (.ref b229)]) C X237 (wd hw 28 rfl) (wd hw 29 rfl) (wd hw 25 rfl) (wd hw 30 rfl) (by decide) (pay_of (W' := 2) (rAt403 l hw X237.ext cb lc tc hlc htc) C.hZ (wd hw 30 rfl) (wd hw 25 rfl) (by decide) (by decide)) pd_3 rfl rfl _ rfl (Nat.le_of_eq rfl) d4_176 (by decide) (by decide) (fun T238 h238 v238 q238 X238 => ?_))))))))))
  obtain ⟨y4, rfl, l4, e238⟩ := q238
  subst e238
  show Goes p e below _ T238 (mkF m 179 #[.val (.int 9), .val (.int 0), .val (.int 8), .val (.int 3), .val (.int cb), .val (.int lc), .val (.int tc), .val (.ref b229)] [(.int y4), (.int 4), (.ref b229)])
  refine g_castore C X238 V237_b229 n_b229 d4_179 (by decide) (by decide) (Nat.le_of_ble_eq_true rfl) (.int y4) (own_nar (own_127 (own_gt (own_let l4 (by decide) (by decide))))) (fun T239 h239 X239 W239 V239 => ?_)
  have V239_b229 : Arv Z h239 b229 k_b229 .char (9 : Int32) [(.int y0), (.int y1), (.int y2), (.int y3), (.int y4), (.int 0), (.int 0), (.int 0), (.int 0)] (.int 0) := V239
  refine g_iloadN C X239 d4_180 rfl (g_iconst 5 C X239 d4_181 rfl (g_icmpn (hI_le _ _) C X239 d4_182 (fun q => absurd (by decide) q) (fun _ => ?_)))
  refine g_aload C X239 d4_185 rfl rfl (g_iconst 5 C X239 d4_187 rfl (g_iconst 5 C X239 d4_188 rfl (g_iloadN C X239 d4_189 rfl (g_iloadN C X239 d4_190 rfl (g_iloadN C X239 d4_191 rfl (g_iload C X239 d4_192 rfl (g_iload C X239 d4_194 rfl (g_iload C X239 d4_196 rfl (g_static (argsL := [(.int 5), (.int 0), (.int 8), (.int 3), (.int cb), (.int lc), (.int tc)]) (st := [(.int 5), (.ref b229)]) C X239 (wd hw 28 rfl) (wd hw 29 rfl) (wd hw 25 rfl) (wd hw 30 rfl) (by decide) (pay_of (W' := 2) (rAt503 l hw X239.ext cb lc tc hlc htc) C.hZ (wd hw 30 rfl) (wd hw 25 rfl) (by decide) (by decide)) pd_3 rfl rfl _ rfl (Nat.le_of_eq rfl) d4_198 (by decide) (by decide) (fun T240 h240 v240 q240 X240 => ?_))))))))))
  obtain ⟨y5, rfl, l5, e240⟩ := q240
  subst e240
  show Goes p e below _ T240 (mkF m 201 #[.val (.int 9), .val (.int 0), .val (.int 8), .val (.int 3), .val (.int cb), .val (.int lc), .val (.int tc), .val (.ref b229)] [(.int y5), (.int 5), (.ref b229)])
  refine g_castore C X240 V239_b229 n_b229 d4_201 (by decide) (by decide) (Nat.le_of_ble_eq_true rfl) (.int y5) (own_nar (own_127 (own_gt (own_let l5 (by decide) (by decide))))) (fun T241 h241 X241 W241 V241 => ?_)
  have V241_b229 : Arv Z h241 b229 k_b229 .char (9 : Int32) [(.int y0), (.int y1), (.int y2), (.int y3), (.int y4), (.int y5), (.int 0), (.int 0), (.int 0)] (.int 0) := V241
  refine g_iloadN C X241 d4_202 rfl (g_bipush 6 C X241 d4_203 rfl (g_icmpn (hI_le _ _) C X241 d4_205 (fun q => absurd (by decide) q) (fun _ => ?_)))
  refine g_aload C X241 d4_208 rfl rfl (g_bipush 6 C X241 d4_210 rfl (g_bipush 6 C X241 d4_212 rfl (g_iloadN C X241 d4_214 rfl (g_iloadN C X241 d4_215 rfl (g_iloadN C X241 d4_216 rfl (g_iload C X241 d4_217 rfl (g_iload C X241 d4_219 rfl (g_iload C X241 d4_221 rfl (g_static (argsL := [(.int 6), (.int 0), (.int 8), (.int 3), (.int cb), (.int lc), (.int tc)]) (st := [(.int 6), (.ref b229)]) C X241 (wd hw 28 rfl) (wd hw 29 rfl) (wd hw 25 rfl) (wd hw 30 rfl) (by decide) (pay_of (W' := 2) (rAt603 l hw X241.ext cb lc tc hlc htc) C.hZ (wd hw 30 rfl) (wd hw 25 rfl) (by decide) (by decide)) pd_3 rfl rfl _ rfl (Nat.le_of_eq rfl) d4_223 (by decide) (by decide) (fun T242 h242 v242 q242 X242 => ?_))))))))))
  obtain ⟨y6, rfl, l6, e242⟩ := q242
  subst e242
  show Goes p e below _ T242 (mkF m 226 #[.val (.int 9), .val (.int 0), .val (.int 8), .val (.int 3), .val (.int cb), .val (.int lc), .val (.int tc), .val (.ref b229)] [(.int y6), (.int 6), (.ref b229)])
  refine g_castore C X242 V241_b229 n_b229 d4_226 (by decide) (by decide) (Nat.le_of_ble_eq_true rfl) (.int y6) (own_nar (own_127 (own_gt (own_let l6 (by decide) (by decide))))) (fun T243 h243 X243 W243 V243 => ?_)
  have V243_b229 : Arv Z h243 b229 k_b229 .char (9 : Int32) [(.int y0), (.int y1), (.int y2), (.int y3), (.int y4), (.int y5), (.int y6), (.int 0), (.int 0)] (.int 0) := V243
  refine g_iloadN C X243 d4_227 rfl (g_bipush 7 C X243 d4_228 rfl (g_icmpn (hI_le _ _) C X243 d4_230 (fun q => absurd (by decide) q) (fun _ => ?_)))
  refine g_aload C X243 d4_233 rfl rfl (g_bipush 7 C X243 d4_235 rfl (g_bipush 7 C X243 d4_237 rfl (g_iloadN C X243 d4_239 rfl (g_iloadN C X243 d4_240 rfl (g_iloadN C X243 d4_241 rfl (g_iload C X243 d4_242 rfl (g_iload C X243 d4_244 rfl (g_iload C X243 d4_246 rfl (g_static (argsL := [(.int 7), (.int 0), (.int 8), (.int 3), (.int cb), (.int lc), (.int tc)]) (st := [(.int 7), (.ref b229)]) C X243 (wd hw 28 rfl) (wd hw 29 rfl) (wd hw 25 rfl) (wd hw 30 rfl) (by decide) (pay_of (W' := 2) (rAt703 l hw X243.ext cb lc tc hlc htc) C.hZ (wd hw 30 rfl) (wd hw 25 rfl) (by decide) (by decide)) pd_3 rfl rfl _ rfl (Nat.le_of_eq rfl) d4_248 (by decide) (by decide) (fun T244 h244 v244 q244 X244 => ?_))))))))))
  obtain ⟨y7, rfl, l7, e244⟩ := q244
  subst e244
  show Goes p e below _ T244 (mkF m 251 #[.val (.int 9), .val (.int 0), .val (.int 8), .val (.int 3), .val (.int cb), .val (.int lc), .val (.int tc), .val (.ref b229)] [(.int y7), (.int 7), (.ref b229)])
  refine g_castore C X244 V243_b229 n_b229 d4_251 (by decide) (by decide) (Nat.le_of_ble_eq_true rfl) (.int y7) (own_nar (own_127 (own_gt (own_let l7 (by decide) (by decide))))) (fun T245 h245 X245 W245 V245 => ?_)
  have V245_b229 : Arv Z h245 b229 k_b229 .char (9 : Int32) [(.int y0), (.int y1), (.int y2), (.int y3), (.int y4), (.int y5), (.int y6), (.int y7), (.int 0)] (.int 0) := V245
  refine g_iloadN C X245 d4_252 rfl (g_bipush 8 C X245 d4_253 rfl (g_icmpn (hI_le _ _) C X245 d4_255 (fun q => absurd (by decide) q) (fun _ => ?_)))
  refine g_aload C X245 d4_258 rfl rfl (g_bipush 8 C X245 d4_260 rfl (g_bipush 8 C X245 d4_262 rfl (g_iloadN C X245 d4_264 rfl (g_iloadN C X245 d4_265 rfl (g_iloadN C X245 d4_266 rfl (g_iload C X245 d4_267 rfl (g_iload C X245 d4_269 rfl (g_iload C X245 d4_271 rfl (g_staticP (argsL := [(.int 8), (.int 0), (.int 8), (.int 3), (.int cb), (.int lc), (.int tc)]) (st := [(.int 8), (.ref b229)]) C X245 (wd hw 28 rfl) (wd hw 29 rfl) (wd hw 25 rfl) (wd hw 30 rfl) (by decide) (pay_of (W' := 2) (rAt803 l hw X245.ext cb lc tc hlc htc) C.hZ (wd hw 30 rfl) (wd hw 25 rfl) (by decide) (by decide)) pd_3 rfl rfl _ rfl (Nat.le_of_eq rfl) d4_273 (by decide) (by decide) (fun T246 X246 => ?_))))))))))
  refine g_castore C X246 V245_b229 n_b229 d4_276 (by decide) (by decide) (Nat.le_of_ble_eq_true rfl) (.int tc) (own_nar (own_127 (own_sp htc))) (fun T247 h247 X247 W247 V247 => ?_)
  have V247_b229 : Arv Z h247 b229 k_b229 .char (9 : Int32) [(.int y0), (.int y1), (.int y2), (.int y3), (.int y4), (.int y5), (.int y6), (.int y7), (.int tc)] (.int 0) := V247
  refine g_iloadN C X247 d4_277 rfl (g_bipush 9 C X247 d4_278 rfl (g_icmpn (hI_le _ _) C X247 d4_280 (fun _ => ?_) (fun q => absurd q (by decide))))
  refine g_new C X247 (wd hw 31 rfl) (wd hw 32 rfl) (wd hw 33 rfl) d4_302 (by decide) (by decide) (fun T248 h248 b248 g_b248 n_b248 X248 E248 A248 D248 M248 => ?_)
  have lt249 : b229 < b248 := by rw [g_b248]; exact Arv.lt V247_b229
  have F_coder_b248 : Fld Z h248 b248 "java/lang/String" "coder" "B" (.int 0) := D248 (Or.inr (wd hw 57 rfl)) (ty := .byte) (by decide)
  have F_value_b248 : Fld Z h248 b248 "java/lang/String" "value" "[B" .null := D248 (Or.inr (wd hw 59 rfl)) (ty := (.array .byte)) (by decide)
  refine g_dup C X248 d4_305 rfl (g_aload C X248 d4_306 rfl rfl ?_)
  have hp250 : ∀ c ∈ [y0, y1, y2, y3, y4, y5, y6, y7, tc], ¬ c < 0 ∧ ¬ (255 : Int32) < c := (List.forall_mem_cons.mpr ⟨(own_127 (own_gt (own_let l0 (by decide) (by decide)))), (List.forall_mem_cons.mpr ⟨(own_127 (own_gt (own_let l1 (by decide) (by decide)))), (List.forall_mem_cons.mpr ⟨(own_127 (own_gt (own_let l2 (by decide) (by decide)))), (List.forall_mem_cons.mpr ⟨(own_127 (own_gt (own_let l3 (by decide) (by decide)))), (List.forall_mem_cons.mpr ⟨(own_127 (own_gt (own_let l4 (by decide) (by decide)))), (List.forall_mem_cons.mpr ⟨(own_127 (own_gt (own_let l5 (by decide) (by decide)))), (List.forall_mem_cons.mpr ⟨(own_127 (own_gt (own_let l6 (by decide) (by decide)))), (List.forall_mem_cons.mpr ⟨(own_127 (own_gt (own_let l7 (by decide) (by decide)))), (List.forall_mem_cons.mpr ⟨(own_127 (own_sp htc)), (fun _ q => nomatch q)⟩)⟩)⟩)⟩)⟩)⟩)⟩)⟩)⟩)
  have f252 := (Arv.ext V247_b229 E248)
  refine g_special (argsL := [(.ref b229)]) (st := [(.ref b248)]) C X248 rfl (wd hw 34 rfl) (wd hw 35 rfl) (wd hw 36 rfl) (by decide) (payV (W' := 1) (cs := [y0, y1, y2, y3, y4, y5, y6, y7, tc]) (n := 9) C.hZ X248.ext (own_words hw) (kI := 4) (wd hw 32 rfl) n_b248 A248 F_value_b248 F_coder_b248 f252 SZ hz rfl rfl (by decide) (by decide) hp250 (by decide) (by decide)) pd_4 rfl rfl _ rfl (Nat.le_of_eq rfl) d4_308 (by decide) (by decide) (fun T251 h251 v251 q251 X251 => ?_)
  obtain ⟨rfl, K251, EX251, FC251, t251, k_t251, nt0_251, gt251, nt251, FV251, VT251⟩ := q251
  have lt253 : b229 < t251 := Nat.lt_of_lt_of_le (Arv.lt f252) gt251
  have lt254 : b248 < t251 := Nat.lt_of_lt_of_le (Exa.lt A248) gt251
  show Goes p e below _ T251 (mkF m 311 #[.val (.int 9), .val (.int 0), .val (.int 8), .val (.int 3), .val (.int cb), .val (.int lc), .val (.int tc), .val (.ref b229)] [(.ref b248)])
  have sz255 : h.size ≤ b229 := by rw [g_b229]; exact (Keep.refl h []).1
  have kp256 := (Keep.refl h []).ext E229
  have kp257 := kp256.wr W231 (Or.inr sz255)
  have kp258 := kp257.wr W233 (Or.inr sz255)
  have kp259 := kp258.wr W235 (Or.inr sz255)
  have kp260 := kp259.wr W237 (Or.inr sz255)
  have kp261 := kp260.wr W239 (Or.inr sz255)
  have kp262 := kp261.wr W241 (Or.inr sz255)
  have kp263 := kp262.wr W243 (Or.inr sz255)
  have kp264 := kp263.wr W245 (Or.inr sz255)
  have kp265 := kp264.wr W247 (Or.inr sz255)
  have sz266 : h.size ≤ b248 := by rw [g_b248]; exact kp265.1
  have kp267 := kp265.ext E248
  have kp268 := kp267.trans K251 (allS (Or.inr sz266) all0)
  exact g_retA C X251 rfl rfl d4_311 (by decide) (by decide) ⟨b248, t251, k_t251, y0, y1, y2, y3, y4, y5, y6, y7, rfl, n_b248, sz266, keep_ext kp268, EX251, FC251, FV251, own_conv VT251 (by simp only [List.map, own_b7 (own_gt (own_let l0 (by decide) (by decide))), own_b7 (own_gt (own_let l1 (by decide) (by decide))), own_b7 (own_gt (own_let l2 (by decide) (by decide))), own_b7 (own_gt (own_let l3 (by decide) (by decide))), own_b7 (own_gt (own_let l4 (by decide) (by decide))), own_b7 (own_gt (own_let l5 (by decide) (by decide))), own_b7 (own_gt (own_let l6 (by decide) (by decide))), own_b7 (own_gt (own_let l7 (by decide) (by decide))), own_b7 (own_sp htc)]), l0, l1, l2, l3, l4, l5, l6, l7⟩
theorem ef_rSt310 (m : MethodId) (cb : Int32) (lc : Int32) (tc : Int32) : entryFrame m #[(.int 9), (.int 1), (.int 8), (.int 3), (.int cb), (.int lc), (.int tc)] 8 = mkF m 0 #[.val (.int 9), .val (.int 1), .val (.int 8), .val (.int 3), .val (.int cb), .val (.int lc), .val (.int tc), .unset] [] := by first | (simp [entryFrame, mkF, argsToLocals, Value.category]; done) | rfl
theorem rSt310 (l : Launch) {Z : State} {a0 : Array Value} (hw : ∀ d ∈ tables_1, d.before a0 Z = true) {h : Heap} (hE : Ext Z.heap h) (cb : Int32) (lc : Int32) (tc : Int32) (z_ : Int32) (SZ : Sta Z Z.heap "java/lang/String" "COMPACT_STRINGS" "Z" (.int z_)) (hz : ¬ z_ = 0) (hlc : (¬ lc < 0 ∧ ¬ (32 : Int32) < lc)) (htc : (¬ tc < 0 ∧ ¬ (32 : Int32) < tc)) :
    Con l (⟨"com/example/synctoken/synctoken/dav/DepthParsePinLaw", "str", "(IIIIICC)Ljava/lang/String;"⟩ : MethodName) method_3_code 8 (some (.object "java/lang/String")) [] ({ frames := 5, cells := 3, slots := 22, locals := 120 } : Room) Z #[(.int 9), (.int 1), (.int 8), (.int 3), (.int cb), (.int lc), (.int tc)] h (fun v' h' => ∃ (x t : Addr) (kt : ClassId) (y0 y1 y2 y3 y4 y5 y6 y7 : Int32), v' = some (.ref x) ∧ Z.heap.size ≤ x ∧ h.size ≤ x ∧ Ext h h' ∧ Exa Z h' x "java/lang/String" ∧ Fld Z h' x "java/lang/String" "coder" "B" (.int (0 : Int32)) ∧ Fld Z h' x "java/lang/String" "value" "[B" (.ref t) ∧ Arv Z h' t kt .byte 9 [(.int lc), (.int y0), (.int y1), (.int y2), (.int y3), (.int y4), (.int y5), (.int y6), (.int y7)] (.int (0 : Int32)) ∧ (y0 = (105 : Int32) ∨ y0 = (73 : Int32)) ∧ (y1 = (110 : Int32) ∨ y1 = (78 : Int32)) ∧ (y2 = (102 : Int32) ∨ y2 = (70 : Int32)) ∧ (y3 = (105 : Int32) ∨ y3 = (73 : Int32)) ∧ (y4 = (110 : Int32) ∨ y4 = (78 : Int32)) ∧ (y5 = (105 : Int32) ∨ y5 = (73 : Int32)) ∧ (y6 = (116 : Int32) ∨ y6 = (84 : Int32)) ∧ (y7 = (121 : Int32) ∨ y7 = (89 : Int32))) := by
  refine con_of (plainFor_of_name pn_2) hE (fun m => ef_rSt310 m cb lc tc) ?_
  intro p e s m below meth c T0 C X0
  have C : Cx p s m meth c Z "com/example/synctoken/synctoken/dav/DepthParsePinLaw" "str" method_3_code 8 (some (.object "java/lang/String")) := C
  show Goes p e below _ T0 (mkF m 0 #[.val (.int 9), .val (.int 1), .val (.int 8), .val (.int 3), .val (.int cb), .val (.int lc), .val (.int tc), .unset] [])
  refine g_iloadN C X0 d4_0 rfl (g_iconst 1 C X0 d4_1 rfl (g_icmpn (hI_ne _ _) C X0 d4_2 (fun _ => ?_) (fun q => absurd q (by decide))))
  refine g_iloadN C X0 d4_13 rfl (g_iconst 2 C X0 d4_14 rfl (g_icmpn (hI_ne _ _) C X0 d4_15 (fun _ => ?_) (fun q => absurd q (by decide))))
  refine g_iloadN C X0 d4_26 rfl (g_iconst 3 C X0 d4_27 rfl (g_icmpn (hI_ne _ _) C X0 d4_28 (fun _ => ?_) (fun q => absurd q (by decide))))
  refine g_iloadN C X0 d4_39 rfl (g_bipush 8 C X0 d4_40 rfl (g_icmpn (hI_ne _ _) C X0 d4_42 (fun _ => ?_) (fun q => absurd q (by decide))))
  refine g_iloadN C X0 d4_54 rfl (g_bipush 9 C X0 d4_55 rfl (g_icmpn (hI_ne _ _) C X0 d4_57 (fun q => absurd (by decide) q) (fun _ => ?_)))
  refine g_bipush 9 C X0 d4_60 rfl (g_newarray C X0 (wd hw 27 rfl) d4_62 (by decide) 9 9 (by decide) (by decide) (by decide) (by decide) (fun T269 h269 b269 k_b269 g_b269 n_b269 X269 E269 V269 => ?_))
  have V_b269 : Arv Z h269 b269 k_b269 .char (9 : Int32) [(.int 0), (.int 0), (.int 0), (.int 0), (.int 0), (.int 0), (.int 0), (.int 0), (.int 0)] (.int 0) := V269
  refine g_astore C X269 d4_64 rfl (l' := #[.val (.int 9), .val (.int 1), .val (.int 8), .val (.int 3), .val (.int cb), .val (.int lc), .val (.int tc), .val (.ref b269)]) rfl (g_goto C X269 d4_66 (g_aload C X269 d4_75 rfl rfl (g_iconst 0 C X269 d4_77 rfl (g_iconst 0 C X269 d4_78 rfl (g_iloadN C X269 d4_79 rfl (g_iloadN C X269 d4_80 rfl (g_iloadN C X269 d4_81 rfl (g_iload C X269 d4_82 rfl (g_iload C X269 d4_84 rfl (g_iload C X269 d4_86 rfl (g_staticP (argsL := [(.int 0), (.int 1), (.int 8), (.int 3), (.int cb), (.int lc), (.int tc)]) (st := [(.int 0), (.ref b269)]) C X269 (wd hw 28 rfl) (wd hw 29 rfl) (wd hw 25 rfl) (wd hw 30 rfl) (by decide) (pay_of (W' := 2) (rAt013 l hw X269.ext cb lc tc hlc htc) C.hZ (wd hw 30 rfl) (wd hw 25 rfl) (by decide) (by decide)) pd_3 rfl rfl _ rfl (Nat.le_of_eq rfl) d4_88 (by decide) (by decide) (fun T270 X270 => ?_))))))))))))
  refine g_castore C X270 V_b269 n_b269 d4_91 (by decide) (by decide) (Nat.le_of_ble_eq_true rfl) (.int lc) (own_nar (own_127 (own_sp hlc))) (fun T271 h271 X271 W271 V271 => ?_)
  have V271_b269 : Arv Z h271 b269 k_b269 .char (9 : Int32) [(.int lc), (.int 0), (.int 0), (.int 0), (.int 0), (.int 0), (.int 0), (.int 0), (.int 0)] (.int 0) := V271
  refine g_iloadN C X271 d4_92 rfl (g_iconst 1 C X271 d4_93 rfl (g_icmpn (hI_le _ _) C X271 d4_94 (fun q => absurd (by decide) q) (fun _ => ?_)))
  refine g_aload C X271 d4_97 rfl rfl (g_iconst 1 C X271 d4_99 rfl (g_iconst 1 C X271 d4_100 rfl (g_iloadN C X271 d4_101 rfl (g_iloadN C X271 d4_102 rfl (g_iloadN C X271 d4_103 rfl (g_iload C X271 d4_104 rfl (g_iload C X271 d4_106 rfl (g_iload C X271 d4_108 rfl (g_static (argsL := [(.int 1), (.int 1), (.int 8), (.int 3), (.int cb), (.int lc), (.int tc)]) (st := [(.int 1), (.ref b269)]) C X271 (wd hw 28 rfl) (wd hw 29 rfl) (wd hw 25 rfl) (wd hw 30 rfl) (by decide) (pay_of (W' := 2) (rAt113 l hw X271.ext cb lc tc hlc htc) C.hZ (wd hw 30 rfl) (wd hw 25 rfl) (by decide) (by decide)) pd_3 rfl rfl _ rfl (Nat.le_of_eq rfl) d4_110 (by decide) (by decide) (fun T272 h272 v272 q272 X272 => ?_))))))))))
  obtain ⟨y0, rfl, l0, e272⟩ := q272
  subst e272
  show Goes p e below _ T272 (mkF m 113 #[.val (.int 9), .val (.int 1), .val (.int 8), .val (.int 3), .val (.int cb), .val (.int lc), .val (.int tc), .val (.ref b269)] [(.int y0), (.int 1), (.ref b269)])
  refine g_castore C X272 V271_b269 n_b269 d4_113 (by decide) (by decide) (Nat.le_of_ble_eq_true rfl) (.int y0) (own_nar (own_127 (own_gt (own_let l0 (by decide) (by decide))))) (fun T273 h273 X273 W273 V273 => ?_)
  have V273_b269 : Arv Z h273 b269 k_b269 .char (9 : Int32) [(.int lc), (.int y0), (.int 0), (.int 0), (.int 0), (.int 0), (.int 0), (.int 0), (.int 0)] (.int 0) := V273
  refine g_iloadN C X273 d4_114 rfl (g_iconst 2 C X273 d4_115 rfl (g_icmpn (hI_le _ _) C X273 d4_116 (fun q => absurd (by decide) q) (fun _ => ?_)))
  refine g_aload C X273 d4_119 rfl rfl (g_iconst 2 C X273 d4_121 rfl (g_iconst 2 C X273 d4_122 rfl (g_iloadN C X273 d4_123 rfl (g_iloadN C X273 d4_124 rfl (g_iloadN C X273 d4_125 rfl (g_iload C X273 d4_126 rfl (g_iload C X273 d4_128 rfl (g_iload C X273 d4_130 rfl (g_static (argsL := [(.int 2), (.int 1), (.int 8), (.int 3), (.int cb), (.int lc), (.int tc)]) (st := [(.int 2), (.ref b269)]) C X273 (wd hw 28 rfl) (wd hw 29 rfl) (wd hw 25 rfl) (wd hw 30 rfl) (by decide) (pay_of (W' := 2) (rAt213 l hw X273.ext cb lc tc hlc htc) C.hZ (wd hw 30 rfl) (wd hw 25 rfl) (by decide) (by decide)) pd_3 rfl rfl _ rfl (Nat.le_of_eq rfl) d4_132 (by decide) (by decide) (fun T274 h274 v274 q274 X274 => ?_))))))))))
  obtain ⟨y1, rfl, l1, e274⟩ := q274
  subst e274
  show Goes p e below _ T274 (mkF m 135 #[.val (.int 9), .val (.int 1), .val (.int 8), .val (.int 3), .val (.int cb), .val (.int lc), .val (.int tc), .val (.ref b269)] [(.int y1), (.int 2), (.ref b269)])
  refine g_castore C X274 V273_b269 n_b269 d4_135 (by decide) (by decide) (Nat.le_of_ble_eq_true rfl) (.int y1) (own_nar (own_127 (own_gt (own_let l1 (by decide) (by decide))))) (fun T275 h275 X275 W275 V275 => ?_)
  have V275_b269 : Arv Z h275 b269 k_b269 .char (9 : Int32) [(.int lc), (.int y0), (.int y1), (.int 0), (.int 0), (.int 0), (.int 0), (.int 0), (.int 0)] (.int 0) := V275
  refine g_iloadN C X275 d4_136 rfl (g_iconst 3 C X275 d4_137 rfl (g_icmpn (hI_le _ _) C X275 d4_138 (fun q => absurd (by decide) q) (fun _ => ?_)))
  refine g_aload C X275 d4_141 rfl rfl (g_iconst 3 C X275 d4_143 rfl (g_iconst 3 C X275 d4_144 rfl (g_iloadN C X275 d4_145 rfl (g_iloadN C X275 d4_146 rfl (g_iloadN C X275 d4_147 rfl (g_iload C X275 d4_148 rfl (g_iload C X275 d4_150 rfl (g_iload C X275 d4_152 rfl (g_static (argsL := [(.int 3), (.int 1), (.int 8), (.int 3), (.int cb), (.int lc), (.int tc)]) (st := [(.int 3), (.ref b269)]) C X275 (wd hw 28 rfl) (wd hw 29 rfl) (wd hw 25 rfl) (wd hw 30 rfl) (by decide) (pay_of (W' := 2) (rAt313 l hw X275.ext cb lc tc hlc htc) C.hZ (wd hw 30 rfl) (wd hw 25 rfl) (by decide) (by decide)) pd_3 rfl rfl _ rfl (Nat.le_of_eq rfl) d4_154 (by decide) (by decide) (fun T276 h276 v276 q276 X276 => ?_))))))))))
  obtain ⟨y2, rfl, l2, e276⟩ := q276
  subst e276
  show Goes p e below _ T276 (mkF m 157 #[.val (.int 9), .val (.int 1), .val (.int 8), .val (.int 3), .val (.int cb), .val (.int lc), .val (.int tc), .val (.ref b269)] [(.int y2), (.int 3), (.ref b269)])
  refine g_castore C X276 V275_b269 n_b269 d4_157 (by decide) (by decide) (Nat.le_of_ble_eq_true rfl) (.int y2) (own_nar (own_127 (own_gt (own_let l2 (by decide) (by decide))))) (fun T277 h277 X277 W277 V277 => ?_)
  have V277_b269 : Arv Z h277 b269 k_b269 .char (9 : Int32) [(.int lc), (.int y0), (.int y1), (.int y2), (.int 0), (.int 0), (.int 0), (.int 0), (.int 0)] (.int 0) := V277
  refine g_iloadN C X277 d4_158 rfl (g_iconst 4 C X277 d4_159 rfl (g_icmpn (hI_le _ _) C X277 d4_160 (fun q => absurd (by decide) q) (fun _ => ?_)))
  refine g_aload C X277 d4_163 rfl rfl (g_iconst 4 C X277 d4_165 rfl (g_iconst 4 C X277 d4_166 rfl (g_iloadN C X277 d4_167 rfl (g_iloadN C X277 d4_168 rfl (g_iloadN C X277 d4_169 rfl (g_iload C X277 d4_170 rfl (g_iload C X277 d4_172 rfl (g_iload C X277 d4_174 rfl (g_static (argsL := [(.int 4), (.int 1), (.int 8), (.int 3), (.int cb), (.int lc), (.int tc)]) (st := [(.int 4), (.ref b269)]) C X277 (wd hw 28 rfl) (wd hw 29 rfl) (wd hw 25 rfl) (wd hw 30 rfl) (by decide) (pay_of (W' := 2) (rAt413 l hw X277.ext cb lc tc hlc htc) C.hZ (wd hw 30 rfl) (wd hw 25 rfl) (by decide) (by decide)) pd_3 rfl rfl _ rfl (Nat.le_of_eq rfl) d4_176 (by decide) (by decide) (fun T278 h278 v278 q278 X278 => ?_))))))))))
  obtain ⟨y3, rfl, l3, e278⟩ := q278
  subst e278
  show Goes p e below _ T278 (mkF m 179 #[.val (.int 9), .val (.int 1), .val (.int 8), .val (.int 3), .val (.int cb), .val (.int lc), .val (.int tc), .val (.ref b269)] [(.int y3), (.int 4), (.ref b269)])
  refine g_castore C X278 V277_b269 n_b269 d4_179 (by decide) (by decide) (Nat.le_of_ble_eq_true rfl) (.int y3) (own_nar (own_127 (own_gt (own_let l3 (by decide) (by decide))))) (fun T279 h279 X279 W279 V279 => ?_)
  have V279_b269 : Arv Z h279 b269 k_b269 .char (9 : Int32) [(.int lc), (.int y0), (.int y1), (.int y2), (.int y3), (.int 0), (.int 0), (.int 0), (.int 0)] (.int 0) := V279
  refine g_iloadN C X279 d4_180 rfl (g_iconst 5 C X279 d4_181 rfl (g_icmpn (hI_le _ _) C X279 d4_182 (fun q => absurd (by decide) q) (fun _ => ?_)))
  refine g_aload C X279 d4_185 rfl rfl (g_iconst 5 C X279 d4_187 rfl (g_iconst 5 C X279 d4_188 rfl (g_iloadN C X279 d4_189 rfl (g_iloadN C X279 d4_190 rfl (g_iloadN C X279 d4_191 rfl (g_iload C X279 d4_192 rfl (g_iload C X279 d4_194 rfl (g_iload C X279 d4_196 rfl (g_static (argsL := [(.int 5), (.int 1), (.int 8), (.int 3), (.int cb), (.int lc), (.int tc)]) (st := [(.int 5), (.ref b269)]) C X279 (wd hw 28 rfl) (wd hw 29 rfl) (wd hw 25 rfl) (wd hw 30 rfl) (by decide) (pay_of (W' := 2) (rAt513 l hw X279.ext cb lc tc hlc htc) C.hZ (wd hw 30 rfl) (wd hw 25 rfl) (by decide) (by decide)) pd_3 rfl rfl _ rfl (Nat.le_of_eq rfl) d4_198 (by decide) (by decide) (fun T280 h280 v280 q280 X280 => ?_))))))))))
  obtain ⟨y4, rfl, l4, e280⟩ := q280
  subst e280
  show Goes p e below _ T280 (mkF m 201 #[.val (.int 9), .val (.int 1), .val (.int 8), .val (.int 3), .val (.int cb), .val (.int lc), .val (.int tc), .val (.ref b269)] [(.int y4), (.int 5), (.ref b269)])
  refine g_castore C X280 V279_b269 n_b269 d4_201 (by decide) (by decide) (Nat.le_of_ble_eq_true rfl) (.int y4) (own_nar (own_127 (own_gt (own_let l4 (by decide) (by decide))))) (fun T281 h281 X281 W281 V281 => ?_)
  have V281_b269 : Arv Z h281 b269 k_b269 .char (9 : Int32) [(.int lc), (.int y0), (.int y1), (.int y2), (.int y3), (.int y4), (.int 0), (.int 0), (.int 0)] (.int 0) := V281
  refine g_iloadN C X281 d4_202 rfl (g_bipush 6 C X281 d4_203 rfl (g_icmpn (hI_le _ _) C X281 d4_205 (fun q => absurd (by decide) q) (fun _ => ?_)))
  refine g_aload C X281 d4_208 rfl rfl (g_bipush 6 C X281 d4_210 rfl (g_bipush 6 C X281 d4_212 rfl (g_iloadN C X281 d4_214 rfl (g_iloadN C X281 d4_215 rfl (g_iloadN C X281 d4_216 rfl (g_iload C X281 d4_217 rfl (g_iload C X281 d4_219 rfl (g_iload C X281 d4_221 rfl (g_static (argsL := [(.int 6), (.int 1), (.int 8), (.int 3), (.int cb), (.int lc), (.int tc)]) (st := [(.int 6), (.ref b269)]) C X281 (wd hw 28 rfl) (wd hw 29 rfl) (wd hw 25 rfl) (wd hw 30 rfl) (by decide) (pay_of (W' := 2) (rAt613 l hw X281.ext cb lc tc hlc htc) C.hZ (wd hw 30 rfl) (wd hw 25 rfl) (by decide) (by decide)) pd_3 rfl rfl _ rfl (Nat.le_of_eq rfl) d4_223 (by decide) (by decide) (fun T282 h282 v282 q282 X282 => ?_))))))))))
  obtain ⟨y5, rfl, l5, e282⟩ := q282
  subst e282
  show Goes p e below _ T282 (mkF m 226 #[.val (.int 9), .val (.int 1), .val (.int 8), .val (.int 3), .val (.int cb), .val (.int lc), .val (.int tc), .val (.ref b269)] [(.int y5), (.int 6), (.ref b269)])
  refine g_castore C X282 V281_b269 n_b269 d4_226 (by decide) (by decide) (Nat.le_of_ble_eq_true rfl) (.int y5) (own_nar (own_127 (own_gt (own_let l5 (by decide) (by decide))))) (fun T283 h283 X283 W283 V283 => ?_)
  have V283_b269 : Arv Z h283 b269 k_b269 .char (9 : Int32) [(.int lc), (.int y0), (.int y1), (.int y2), (.int y3), (.int y4), (.int y5), (.int 0), (.int 0)] (.int 0) := V283
  refine g_iloadN C X283 d4_227 rfl (g_bipush 7 C X283 d4_228 rfl (g_icmpn (hI_le _ _) C X283 d4_230 (fun q => absurd (by decide) q) (fun _ => ?_)))
  refine g_aload C X283 d4_233 rfl rfl (g_bipush 7 C X283 d4_235 rfl (g_bipush 7 C X283 d4_237 rfl (g_iloadN C X283 d4_239 rfl (g_iloadN C X283 d4_240 rfl (g_iloadN C X283 d4_241 rfl (g_iload C X283 d4_242 rfl (g_iload C X283 d4_244 rfl (g_iload C X283 d4_246 rfl (g_static (argsL := [(.int 7), (.int 1), (.int 8), (.int 3), (.int cb), (.int lc), (.int tc)]) (st := [(.int 7), (.ref b269)]) C X283 (wd hw 28 rfl) (wd hw 29 rfl) (wd hw 25 rfl) (wd hw 30 rfl) (by decide) (pay_of (W' := 2) (rAt713 l hw X283.ext cb lc tc hlc htc) C.hZ (wd hw 30 rfl) (wd hw 25 rfl) (by decide) (by decide)) pd_3 rfl rfl _ rfl (Nat.le_of_eq rfl) d4_248 (by decide) (by decide) (fun T284 h284 v284 q284 X284 => ?_))))))))))
  obtain ⟨y6, rfl, l6, e284⟩ := q284
  subst e284
  show Goes p e below _ T284 (mkF m 251 #[.val (.int 9), .val (.int 1), .val (.int 8), .val (.int 3), .val (.int cb), .val (.int lc), .val (.int tc), .val (.ref b269)] [(.int y6), (.int 7), (.ref b269)])
  refine g_castore C X284 V283_b269 n_b269 d4_251 (by decide) (by decide) (Nat.le_of_ble_eq_true rfl) (.int y6) (own_nar (own_127 (own_gt (own_let l6 (by decide) (by decide))))) (fun T285 h285 X285 W285 V285 => ?_)
  have V285_b269 : Arv Z h285 b269 k_b269 .char (9 : Int32) [(.int lc), (.int y0), (.int y1), (.int y2), (.int y3), (.int y4), (.int y5), (.int y6), (.int 0)] (.int 0) := V285
  refine g_iloadN C X285 d4_252 rfl (g_bipush 8 C X285 d4_253 rfl (g_icmpn (hI_le _ _) C X285 d4_255 (fun q => absurd (by decide) q) (fun _ => ?_)))
  refine g_aload C X285 d4_258 rfl rfl (g_bipush 8 C X285 d4_260 rfl (g_bipush 8 C X285 d4_262 rfl (g_iloadN C X285 d4_264 rfl (g_iloadN C X285 d4_265 rfl (g_iloadN C X285 d4_266 rfl (g_iload C X285 d4_267 rfl (g_iload C X285 d4_269 rfl (g_iload C X285 d4_271 rfl (g_static (argsL := [(.int 8), (.int 1), (.int 8), (.int 3), (.int cb), (.int lc), (.int tc)]) (st := [(.int 8), (.ref b269)]) C X285 (wd hw 28 rfl) (wd hw 29 rfl) (wd hw 25 rfl) (wd hw 30 rfl) (by decide) (pay_of (W' := 2) (rAt813 l hw X285.ext cb lc tc hlc htc) C.hZ (wd hw 30 rfl) (wd hw 25 rfl) (by decide) (by decide)) pd_3 rfl rfl _ rfl (Nat.le_of_eq rfl) d4_273 (by decide) (by decide) (fun T286 h286 v286 q286 X286 => ?_))))))))))
  obtain ⟨y7, rfl, l7, e286⟩ := q286
  subst e286
  show Goes p e below _ T286 (mkF m 276 #[.val (.int 9), .val (.int 1), .val (.int 8), .val (.int 3), .val (.int cb), .val (.int lc), .val (.int tc), .val (.ref b269)] [(.int y7), (.int 8), (.ref b269)])
  refine g_castore C X286 V285_b269 n_b269 d4_276 (by decide) (by decide) (Nat.le_of_ble_eq_true rfl) (.int y7) (own_nar (own_127 (own_gt (own_let l7 (by decide) (by decide))))) (fun T287 h287 X287 W287 V287 => ?_)
  have V287_b269 : Arv Z h287 b269 k_b269 .char (9 : Int32) [(.int lc), (.int y0), (.int y1), (.int y2), (.int y3), (.int y4), (.int y5), (.int y6), (.int y7)] (.int 0) := V287
  refine g_iloadN C X287 d4_277 rfl (g_bipush 9 C X287 d4_278 rfl (g_icmpn (hI_le _ _) C X287 d4_280 (fun _ => ?_) (fun q => absurd q (by decide))))
  refine g_new C X287 (wd hw 31 rfl) (wd hw 32 rfl) (wd hw 33 rfl) d4_302 (by decide) (by decide) (fun T288 h288 b288 g_b288 n_b288 X288 E288 A288 D288 M288 => ?_)
  have lt289 : b269 < b288 := by rw [g_b288]; exact Arv.lt V287_b269
  have F_coder_b288 : Fld Z h288 b288 "java/lang/String" "coder" "B" (.int 0) := D288 (Or.inr (wd hw 57 rfl)) (ty := .byte) (by decide)
  have F_value_b288 : Fld Z h288 b288 "java/lang/String" "value" "[B" .null := D288 (Or.inr (wd hw 59 rfl)) (ty := (.array .byte)) (by decide)
  refine g_dup C X288 d4_305 rfl (g_aload C X288 d4_306 rfl rfl ?_)
  have hp290 : ∀ c ∈ [lc, y0, y1, y2, y3, y4, y5, y6, y7], ¬ c < 0 ∧ ¬ (255 : Int32) < c := (List.forall_mem_cons.mpr ⟨(own_127 (own_sp hlc)), (List.forall_mem_cons.mpr ⟨(own_127 (own_gt (own_let l0 (by decide) (by decide)))), (List.forall_mem_cons.mpr ⟨(own_127 (own_gt (own_let l1 (by decide) (by decide)))), (List.forall_mem_cons.mpr ⟨(own_127 (own_gt (own_let l2 (by decide) (by decide)))), (List.forall_mem_cons.mpr ⟨(own_127 (own_gt (own_let l3 (by decide) (by decide)))), (List.forall_mem_cons.mpr ⟨(own_127 (own_gt (own_let l4 (by decide) (by decide)))), (List.forall_mem_cons.mpr ⟨(own_127 (own_gt (own_let l5 (by decide) (by decide)))), (List.forall_mem_cons.mpr ⟨(own_127 (own_gt (own_let l6 (by decide) (by decide)))), (List.forall_mem_cons.mpr ⟨(own_127 (own_gt (own_let l7 (by decide) (by decide)))), (fun _ q => nomatch q)⟩)⟩)⟩)⟩)⟩)⟩)⟩)⟩)⟩)
  have f292 := (Arv.ext V287_b269 E288)
  refine g_special (argsL := [(.ref b269)]) (st := [(.ref b288)]) C X288 rfl (wd hw 34 rfl) (wd hw 35 rfl) (wd hw 36 rfl) (by decide) (payV (W' := 1) (cs := [lc, y0, y1, y2, y3, y4, y5, y6, y7]) (n := 9) C.hZ X288.ext (own_words hw) (kI := 4) (wd hw 32 rfl) n_b288 A288 F_value_b288 F_coder_b288 f292 SZ hz rfl rfl (by decide) (by decide) hp290 (by decide) (by decide)) pd_4 rfl rfl _ rfl (Nat.le_of_eq rfl) d4_308 (by decide) (by decide) (fun T291 h291 v291 q291 X291 => ?_)
  obtain ⟨rfl, K291, EX291, FC291, t291, k_t291, nt0_291, gt291, nt291, FV291, VT291⟩ := q291
  have lt293 : b269 < t291 := Nat.lt_of_lt_of_le (Arv.lt f292) gt291
  have lt294 : b288 < t291 := Nat.lt_of_lt_of_le (Exa.lt A288) gt291
  show Goes p e below _ T291 (mkF m 311 #[.val (.int 9), .val (.int 1), .val (.int 8), .val (.int 3), .val (.int cb), .val (.int lc), .val (.int tc), .val (.ref b269)] [(.ref b288)])
  have sz295 : h.size ≤ b269 := by rw [g_b269]; exact (Keep.refl h []).1
  have kp296 := (Keep.refl h []).ext E269
  have kp297 := kp296.wr W271 (Or.inr sz295)
  have kp298 := kp297.wr W273 (Or.inr sz295)
  have kp299 := kp298.wr W275 (Or.inr sz295)
  have kp300 := kp299.wr W277 (Or.inr sz295)
  have kp301 := kp300.wr W279 (Or.inr sz295)
  have kp302 := kp301.wr W281 (Or.inr sz295)
  have kp303 := kp302.wr W283 (Or.inr sz295)
  have kp304 := kp303.wr W285 (Or.inr sz295)
  have kp305 := kp304.wr W287 (Or.inr sz295)
  have sz306 : h.size ≤ b288 := by rw [g_b288]; exact kp305.1
  have kp307 := kp305.ext E288
  have kp308 := kp307.trans K291 (allS (Or.inr sz306) all0)
  exact g_retA C X291 rfl rfl d4_311 (by decide) (by decide) ⟨b288, t291, k_t291, y0, y1, y2, y3, y4, y5, y6, y7, rfl, n_b288, sz306, keep_ext kp308, EX291, FC291, FV291, own_conv VT291 (by simp only [List.map, own_b7 (own_sp hlc), own_b7 (own_gt (own_let l0 (by decide) (by decide))), own_b7 (own_gt (own_let l1 (by decide) (by decide))), own_b7 (own_gt (own_let l2 (by decide) (by decide))), own_b7 (own_gt (own_let l3 (by decide) (by decide))), own_b7 (own_gt (own_let l4 (by decide) (by decide))), own_b7 (own_gt (own_let l5 (by decide) (by decide))), own_b7 (own_gt (own_let l6 (by decide) (by decide))), own_b7 (own_gt (own_let l7 (by decide) (by decide)))]), l0, l1, l2, l3, l4, l5, l6, l7⟩
theorem ef_rSt311 (m : MethodId) (cb : Int32) (lc : Int32) (tc : Int32) : entryFrame m #[(.int 10), (.int 1), (.int 8), (.int 3), (.int cb), (.int lc), (.int tc)] 8 = mkF m 0 #[.val (.int 10), .val (.int 1), .val (.int 8), .val (.int 3), .val (.int cb), .val (.int lc), .val (.int tc), .unset] [] := by first | (simp [entryFrame, mkF, argsToLocals, Value.category]; done) | rfl
theorem d4_69 : Dc method_3_code 69 (.bipush 10) 2 71 := by decide +kernel
theorem d4_71 : Dc method_3_code 71 (.newarray .char) 2 73 := by decide +kernel
theorem d4_73 : Dc method_3_code 73 (.astore 7) 2 75 := by decide +kernel
theorem d4_283 : Dc method_3_code 283 (.aload 7) 2 285 := by decide +kernel
theorem d4_285 : Dc method_3_code 285 (.bipush 9) 2 287 := by decide +kernel
theorem d4_287 : Dc method_3_code 287 (.bipush 9) 2 289 := by decide +kernel
theorem d4_289 : Dc method_3_code 289 (.iload_n 1) 1 290 := by decide +kernel
theorem d4_290 : Dc method_3_code 290 (.iload_n 2) 1 291 := by decide +kernel
theorem d4_291 : Dc method_3_code 291 (.iload_n 3) 1 292 := by decide +kernel
theorem d4_292 : Dc method_3_code 292 (.iload 4) 2 294 := by decide +kernel
theorem d4_294 : Dc method_3_code 294 (.iload 5) 2 296 := by decide +kernel
theorem d4_296 : Dc method_3_code 296 (.iload 6) 2 298 := by decide +kernel
theorem d4_298 : Dc method_3_code 298 (.invokestatic 40) 3 301 := by decide +kernel
theorem d4_301 : Dc method_3_code 301 (.castore) 1 302 := by decide +kernel
theorem rSt311 (l : Launch) {Z : State} {a0 : Array Value} (hw : ∀ d ∈ tables_1, d.before a0 Z = true) {h : Heap} (hE : Ext Z.heap h) (cb : Int32) (lc : Int32) (tc : Int32) (z_ : Int32) (SZ : Sta Z Z.heap "java/lang/String" "COMPACT_STRINGS" "Z" (.int z_)) (hz : ¬ z_ = 0) (hlc : (¬ lc < 0 ∧ ¬ (32 : Int32) < lc)) (htc : (¬ tc < 0 ∧ ¬ (32 : Int32) < tc)) :
    Con l (⟨"com/example/synctoken/synctoken/dav/DepthParsePinLaw", "str", "(IIIIICC)Ljava/lang/String;"⟩ : MethodName) method_3_code 8 (some (.object "java/lang/String")) [] ({ frames := 5, cells := 3, slots := 24, locals := 120 } : Room) Z #[(.int 10), (.int 1), (.int 8), (.int 3), (.int cb), (.int lc), (.int tc)] h (fun v' h' => ∃ (x t : Addr) (kt : ClassId) (y0 y1 y2 y3 y4 y5 y6 y7 : Int32), v' = some (.ref x) ∧ Z.heap.size ≤ x ∧ h.size ≤ x ∧ Ext h h' ∧ Exa Z h' x "java/lang/String" ∧ Fld Z h' x "java/lang/String" "coder" "B" (.int (0 : Int32)) ∧ Fld Z h' x "java/lang/String" "value" "[B" (.ref t) ∧ Arv Z h' t kt .byte 10 [(.int lc), (.int y0), (.int y1), (.int y2), (.int y3), (.int y4), (.int y5), (.int y6), (.int y7), (.int tc)] (.int (0 : Int32)) ∧ (y0 = (105 : Int32) ∨ y0 = (73 : Int32)) ∧ (y1 = (110 : Int32) ∨ y1 = (78 : Int32)) ∧ (y2 = (102 : Int32) ∨ y2 = (70 : Int32)) ∧ (y3 = (105 : Int32) ∨ y3 = (73 : Int32)) ∧ (y4 = (110 : Int32) ∨ y4 = (78 : Int32)) ∧ (y5 = (105 : Int32) ∨ y5 = (73 : Int32)) ∧ (y6 = (116 : Int32) ∨ y6 = (84 : Int32)) ∧ (y7 = (121 : Int32) ∨ y7 = (89 : Int32))) := by
  refine con_of (plainFor_of_name pn_2) hE (fun m => ef_rSt311 m cb lc tc) ?_
  intro p e s m below meth c T0 C X0
  have C : Cx p s m meth c Z "com/example/synctoken/synctoken/dav/DepthParsePinLaw" "str" method_3_code 8 (some (.object "java/lang/String")) := C
  show Goes p e below _ T0 (mkF m 0 #[.val (.int 10), .val (.int 1), .val (.int 8), .val (.int 3), .val (.int cb), .val (.int lc), .val (.int tc), .unset] [])
  refine g_iloadN C X0 d4_0 rfl (g_iconst 1 C X0 d4_1 rfl (g_icmpn (hI_ne _ _) C X0 d4_2 (fun _ => ?_) (fun q => absurd q (by decide))))
  refine g_iloadN C X0 d4_13 rfl (g_iconst 2 C X0 d4_14 rfl (g_icmpn (hI_ne _ _) C X0 d4_15 (fun _ => ?_) (fun q => absurd q (by decide))))
  refine g_iloadN C X0 d4_26 rfl (g_iconst 3 C X0 d4_27 rfl (g_icmpn (hI_ne _ _) C X0 d4_28 (fun _ => ?_) (fun q => absurd q (by decide))))
  refine g_iloadN C X0 d4_39 rfl (g_bipush 8 C X0 d4_40 rfl (g_icmpn (hI_ne _ _) C X0 d4_42 (fun _ => ?_) (fun q => absurd q (by decide))))
  refine g_iloadN C X0 d4_54 rfl (g_bipush 9 C X0 d4_55 rfl (g_icmpn (hI_ne _ _) C X0 d4_57 (fun _ => ?_) (fun q => absurd q (by decide))))
  refine g_bipush 10 C X0 d4_69 rfl (g_newarray C X0 (wd hw 27 rfl) d4_71 (by decide) 10 10 (by decide) (by decide) (by decide) (by decide) (fun T309 h309 b309 k_b309 g_b309 n_b309 X309 E309 V309 => ?_))
  have V_b309 : Arv Z h309 b309 k_b309 .char (10 : Int32) [(.int 0), (.int 0), (.int 0), (.int 0), (.int 0), (.int 0), (.int 0), (.int 0), (.int 0), (.int 0)] (.int 0) := V309
  refine g_astore C X309 d4_73 rfl (l' := #[.val (.int 10), .val (.int 1), .val (.int 8), .val (.int 3), .val (.int cb), .val (.int lc), .val (.int tc), .val (.ref b309)]) rfl (g_aload C X309 d4_75 rfl rfl (g_iconst 0 C X309 d4_77 rfl (g_iconst 0 C X309 d4_78 rfl (g_iloadN C X309 d4_79 rfl (g_iloadN C X309 d4_80 rfl (g_iloadN C X309 d4_81 rfl (g_iload C X309 d4_82 rfl (g_iload C X309 d4_84 rfl (g_iload C X309 d4_86 rfl (g_staticP (argsL := [(.int 0), (.int 1), (.int 8), (.int 3), (.int cb), (.int lc), (.int tc)]) (st := [(.int 0), (.ref b309)]) C X309 (wd hw 28 rfl) (wd hw 29 rfl) (wd hw 25 rfl) (wd hw 30 rfl) (by decide) (pay_of (W' := 2) (rAt013 l hw X309.ext cb lc tc hlc htc) C.hZ (wd hw 30 rfl) (wd hw 25 rfl) (by decide) (by decide)) pd_3 rfl rfl _ rfl (Nat.le_of_eq rfl) d4_88 (by decide) (by decide) (fun T310 X310 => ?_)))))))))))
  refine g_castore C X310 V_b309 n_b309 d4_91 (by decide) (by decide) (Nat.le_of_ble_eq_true rfl) (.int lc) (own_nar (own_127 (own_sp hlc))) (fun T311 h311 X311 W311 V311 => ?_)
  have V311_b309 : Arv Z h311 b309 k_b309 .char (10 : Int32) [(.int lc), (.int 0), (.int 0), (.int 0), (.int 0), (.int 0), (.int 0), (.int 0), (.int 0), (.int 0)] (.int 0) := V311
  refine g_iloadN C X311 d4_92 rfl (g_iconst 1 C X311 d4_93 rfl (g_icmpn (hI_le _ _) C X311 d4_94 (fun q => absurd (by decide) q) (fun _ => ?_)))
  refine g_aload C X311 d4_97 rfl rfl (g_iconst 1 C X311 d4_99 rfl (g_iconst 1 C X311 d4_100 rfl (g_iloadN C X311 d4_101 rfl (g_iloadN C X311 d4_102 rfl (g_iloadN C X311 d4_103 rfl (g_iload C X311 d4_104 rfl (g_iload C X311 d4_106 rfl (g_iload C X311 d4_108 rfl (g_static (argsL := [(.int 1), (.int 1), (.int 8), (.int 3), (.int cb), (.int lc), (.int tc)]) (st := [(.int 1), (.ref b309)]) C X311 (wd hw 28 rfl) (wd hw 29 rfl) (wd hw 25 rfl) (wd hw 30 rfl) (by decide) (pay_of (W' := 2) (rAt113 l hw X311.ext cb lc tc hlc htc) C.hZ (wd hw 30 rfl) (wd hw 25 rfl) (by decide) (by decide)) pd_3 rfl rfl _ rfl (Nat.le_of_eq rfl) d4_110 (by decide) (by decide) (fun T312 h312 v312 q312 X312 => ?_))))))))))
  obtain ⟨y0, rfl, l0, e312⟩ := q312
  subst e312
  show Goes p e below _ T312 (mkF m 113 #[.val (.int 10), .val (.int 1), .val (.int 8), .val (.int 3), .val (.int cb), .val (.int lc), .val (.int tc), .val (.ref b309)] [(.int y0), (.int 1), (.ref b309)])
  refine g_castore C X312 V311_b309 n_b309 d4_113 (by decide) (by decide) (Nat.le_of_ble_eq_true rfl) (.int y0) (own_nar (own_127 (own_gt (own_let l0 (by decide) (by decide))))) (fun T313 h313 X313 W313 V313 => ?_)
  have V313_b309 : Arv Z h313 b309 k_b309 .char (10 : Int32) [(.int lc), (.int y0), (.int 0), (.int 0), (.int 0), (.int 0), (.int 0), (.int 0), (.int 0), (.int 0)] (.int 0) := V313
  refine g_iloadN C X313 d4_114 rfl (g_iconst 2 C X313 d4_115 rfl (g_icmpn (hI_le _ _) C X313 d4_116 (fun q => absurd (by decide) q) (fun _ => ?_)))
  refine g_aload C X313 d4_119 rfl rfl (g_iconst 2 C X313 d4_121 rfl (g_iconst 2 C X313 d4_122 rfl (g_iloadN C X313 d4_123 rfl (g_iloadN C X313 d4_124 rfl (g_iloadN C X313 d4_125 rfl (g_iload C X313 d4_126 rfl (g_iload C X313 d4_128 rfl (g_iload C X313 d4_130 rfl (g_static (argsL := [(.int 2), (.int 1), (.int 8), (.int 3), (.int cb), (.int lc), (.int tc)]) (st := [(.int 2), (.ref b309)]) C X313 (wd hw 28 rfl) (wd hw 29 rfl) (wd hw 25 rfl) (wd hw 30 rfl) (by decide) (pay_of (W' := 2) (rAt213 l hw X313.ext cb lc tc hlc htc) C.hZ (wd hw 30 rfl) (wd hw 25 rfl) (by decide) (by decide)) pd_3 rfl rfl _ rfl (Nat.le_of_eq rfl) d4_132 (by decide) (by decide) (fun T314 h314 v314 q314 X314 => ?_))))))))))
  obtain ⟨y1, rfl, l1, e314⟩ := q314
  subst e314
  show Goes p e below _ T314 (mkF m 135 #[.val (.int 10), .val (.int 1), .val (.int 8), .val (.int 3), .val (.int cb), .val (.int lc), .val (.int tc), .val (.ref b309)] [(.int y1), (.int 2), (.ref b309)])
  refine g_castore C X314 V313_b309 n_b309 d4_135 (by decide) (by decide) (Nat.le_of_ble_eq_true rfl) (.int y1) (own_nar (own_127 (own_gt (own_let l1 (by decide) (by decide))))) (fun T315 h315 X315 W315 V315 => ?_)
  have V315_b309 : Arv Z h315 b309 k_b309 .char (10 : Int32) [(.int lc), (.int y0), (.int y1), (.int 0), (.int 0), (.int 0), (.int 0), (.int 0), (.int 0), (.int 0)] (.int 0) := V315
  refine g_iloadN C X315 d4_136 rfl (g_iconst 3 C X315 d4_137 rfl (g_icmpn (hI_le _ _) C X315 d4_138 (fun q => absurd (by decide) q) (fun _ => ?_)))
  refine g_aload C X315 d4_141 rfl rfl (g_iconst 3 C X315 d4_143 rfl (g_iconst 3 C X315 d4_144 rfl (g_iloadN C X315 d4_145 rfl (g_iloadN C X315 d4_146 rfl (g_iloadN C X315 d4_147 rfl (g_iload C X315 d4_148 rfl (g_iload C X315 d4_150 rfl (g_iload C X315 d4_152 rfl (g_static (argsL := [(.int 3), (.int 1), (.int 8), (.int 3), (.int cb), (.int lc), (.int tc)]) (st := [(.int 3), (.ref b309)]) C X315 (wd hw 28 rfl) (wd hw 29 rfl) (wd hw 25 rfl) (wd hw 30 rfl) (by decide) (pay_of (W' := 2) (rAt313 l hw X315.ext cb lc tc hlc htc) C.hZ (wd hw 30 rfl) (wd hw 25 rfl) (by decide) (by decide)) pd_3 rfl rfl _ rfl (Nat.le_of_eq rfl) d4_154 (by decide) (by decide) (fun T316 h316 v316 q316 X316 => ?_))))))))))
  obtain ⟨y2, rfl, l2, e316⟩ := q316
  subst e316
  show Goes p e below _ T316 (mkF m 157 #[.val (.int 10), .val (.int 1), .val (.int 8), .val (.int 3), .val (.int cb), .val (.int lc), .val (.int tc), .val (.ref b309)] [(.int y2), (.int 3), (.ref b309)])
  refine g_castore C X316 V315_b309 n_b309 d4_157 (by decide) (by decide) (Nat.le_of_ble_eq_true rfl) (.int y2) (own_nar (own_127 (own_gt (own_let l2 (by decide) (by decide))))) (fun T317 h317 X317 W317 V317 => ?_)
  have V317_b309 : Arv Z h317 b309 k_b309 .char (10 : Int32) [(.int lc), (.int y0), (.int y1), (.int y2), (.int 0), (.int 0), (.int 0), (.int 0), (.int 0), (.int 0)] (.int 0) := V317
  refine g_iloadN C X317 d4_158 rfl (g_iconst 4 C X317 d4_159 rfl (g_icmpn (hI_le _ _) C X317 d4_160 (fun q => absurd (by decide) q) (fun _ => ?_)))
  refine g_aload C X317 d4_163 rfl rfl (g_iconst 4 C X317 d4_165 rfl (g_iconst 4 C X317 d4_166 rfl (g_iloadN C X317 d4_167 rfl (g_iloadN C X317 d4_168 rfl (g_iloadN C X317 d4_169 rfl (g_iload C X317 d4_170 rfl (g_iload C X317 d4_172 rfl (g_iload C X317 d4_174 rfl (g_static (argsL := [(.int 4), (.int 1), (.int 8), (.int 3), (.int cb), (.int lc), (.int tc)]) (st := [(.int 4), (.ref b309)]) C X317 (wd hw 28 rfl) (wd hw 29 rfl) (wd hw 25 rfl) (wd hw 30 rfl) (by decide) (pay_of (W' := 2) (rAt413 l hw X317.ext cb lc tc hlc htc) C.hZ (wd hw 30 rfl) (wd hw 25 rfl) (by decide) (by decide)) pd_3 rfl rfl _ rfl (Nat.le_of_eq rfl) d4_176 (by decide) (by decide) (fun T318 h318 v318 q318 X318 => ?_))))))))))
  obtain ⟨y3, rfl, l3, e318⟩ := q318
  subst e318
  show Goes p e below _ T318 (mkF m 179 #[.val (.int 10), .val (.int 1), .val (.int 8), .val (.int 3), .val (.int cb), .val (.int lc), .val (.int tc), .val (.ref b309)] [(.int y3), (.int 4), (.ref b309)])
  refine g_castore C X318 V317_b309 n_b309 d4_179 (by decide) (by decide) (Nat.le_of_ble_eq_true rfl) (.int y3) (own_nar (own_127 (own_gt (own_let l3 (by decide) (by decide))))) (fun T319 h319 X319 W319 V319 => ?_)
  have V319_b309 : Arv Z h319 b309 k_b309 .char (10 : Int32) [(.int lc), (.int y0), (.int y1), (.int y2), (.int y3), (.int 0), (.int 0), (.int 0), (.int 0), (.int 0)] (.int 0) := V319
  refine g_iloadN C X319 d4_180 rfl (g_iconst 5 C X319 d4_181 rfl (g_icmpn (hI_le _ _) C X319 d4_182 (fun q => absurd (by decide) q) (fun _ => ?_)))
  refine g_aload C X319 d4_185 rfl rfl (g_iconst 5 C X319 d4_187 rfl (g_iconst 5 C X319 d4_188 rfl (g_iloadN C X319 d4_189 rfl (g_iloadN C X319 d4_190 rfl (g_iloadN C X319 d4_191 rfl (g_iload C X319 d4_192 rfl (g_iload C X319 d4_194 rfl (g_iload C X319 d4_196 rfl (g_static (argsL := [(.int 5), (.int 1), (.int 8), (.int 3), (.int cb), (.int lc), (.int tc)]) (st := [(.int 5), (.ref b309)]) C X319 (wd hw 28 rfl) (wd hw 29 rfl) (wd hw 25 rfl) (wd hw 30 rfl) (by decide) (pay_of (W' := 2) (rAt513 l hw X319.ext cb lc tc hlc htc) C.hZ (wd hw 30 rfl) (wd hw 25 rfl) (by decide) (by decide)) pd_3 rfl rfl _ rfl (Nat.le_of_eq rfl) d4_198 (by decide) (by decide) (fun T320 h320 v320 q320 X320 => ?_))))))))))
  obtain ⟨y4, rfl, l4, e320⟩ := q320
  subst e320
  show Goes p e below _ T320 (mkF m 201 #[.val (.int 10), .val (.int 1), .val (.int 8), .val (.int 3), .val (.int cb), .val (.int lc), .val (.int tc), .val (.ref b309)] [(.int y4), (.int 5), (.ref b309)])
  refine g_castore C X320 V319_b309 n_b309 d4_201 (by decide) (by decide) (Nat.le_of_ble_eq_true rfl) (.int y4) (own_nar (own_127 (own_gt (own_let l4 (by decide) (by decide))))) (fun T321 h321 X321 W321 V321 => ?_)
  have V321_b309 : Arv Z h321 b309 k_b309 .char (10 : Int32) [(.int lc), (.int y0), (.int y1), (.int y2), (.int y3), (.int y4), (.int 0), (.int 0), (.int 0), (.int 0)] (.int 0) := V321
  refine g_iloadN C X321 d4_202 rfl (g_bipush 6 C X321 d4_203 rfl (g_icmpn (hI_le _ _) C X321 d4_205 (fun q => absurd (by decide) q) (fun _ => ?_)))
  refine g_aload C X321 d4_208 rfl rfl (g_bipush 6 C X321 d4_210 rfl (g_bipush 6 C X321 d4_212 rfl (g_iloadN C X321 d4_214 rfl (g_iloadN C X321 d4_215 rfl (g_iloadN C X321 d4_216 rfl (g_iload C X321 d4_217 rfl (g_iload C X321 d4_219 rfl (g_iload C X321 d4_221 rfl (g_static (argsL := [(.int 6), (.int 1), (.int 8), (.int 3), (.int cb), (.int lc), (.int tc)]) (st := [(.int 6), (.ref b309)]) C X321 (wd hw 28 rfl) (wd hw 29 rfl) (wd hw 25 rfl) (wd hw 30 rfl) (by decide) (pay_of (W' := 2) (rAt613 l hw X321.ext cb lc tc hlc htc) C.hZ (wd hw 30 rfl) (wd hw 25 rfl) (by decide) (by decide)) pd_3 rfl rfl _ rfl (Nat.le_of_eq rfl) d4_223 (by decide) (by decide) (fun T322 h322 v322 q322 X322 => ?_))))))))))
  obtain ⟨y5, rfl, l5, e322⟩ := q322
  subst e322
  show Goes p e below _ T322 (mkF m 226 #[.val (.int 10), .val (.int 1), .val (.int 8), .val (.int 3), .val (.int cb), .val (.int lc), .val (.int tc), .val (.ref b309)] [(.int y5), (.int 6), (.ref b309)])
  refine g_castore C X322 V321_b309 n_b309 d4_226 (by decide) (by decide) (Nat.le_of_ble_eq_true rfl) (.int y5) (own_nar (own_127 (own_gt (own_let l5 (by decide) (by decide))))) (fun T323 h323 X323 W323 V323 => ?_)
  have V323_b309 : Arv Z h323 b309 k_b309 .char (10 : Int32) [(.int lc), (.int y0), (.int y1), (.int y2), (.int y3), (.int y4), (.int y5), (.int 0), (.int 0), (.int 0)] (.int 0) := V323
  refine g_iloadN C X323 d4_227 rfl (g_bipush 7 C X323 d4_228 rfl (g_icmpn (hI_le _ _) C X323 d4_230 (fun q => absurd (by decide) q) (fun _ => ?_)))
  refine g_aload C X323 d4_233 rfl rfl (g_bipush 7 C X323 d4_235 rfl (g_bipush 7 C X323 d4_237 rfl (g_iloadN C X323 d4_239 rfl (g_iloadN C X323 d4_240 rfl (g_iloadN C X323 d4_241 rfl (g_iload C X323 d4_242 rfl (g_iload C X323 d4_244 rfl (g_iload C X323 d4_246 rfl (g_static (argsL := [(.int 7), (.int 1), (.int 8), (.int 3), (.int cb), (.int lc), (.int tc)]) (st := [(.int 7), (.ref b309)]) C X323 (wd hw 28 rfl) (wd hw 29 rfl) (wd hw 25 rfl) (wd hw 30 rfl) (by decide) (pay_of (W' := 2) (rAt713 l hw X323.ext cb lc tc hlc htc) C.hZ (wd hw 30 rfl) (wd hw 25 rfl) (by decide) (by decide)) pd_3 rfl rfl _ rfl (Nat.le_of_eq rfl) d4_248 (by decide) (by decide) (fun T324 h324 v324 q324 X324 => ?_))))))))))
  obtain ⟨y6, rfl, l6, e324⟩ := q324
  subst e324
  show Goes p e below _ T324 (mkF m 251 #[.val (.int 10), .val (.int 1), .val (.int 8), .val (.int 3), .val (.int cb), .val (.int lc), .val (.int tc), .val (.ref b309)] [(.int y6), (.int 7), (.ref b309)])
  refine g_castore C X324 V323_b309 n_b309 d4_251 (by decide) (by decide) (Nat.le_of_ble_eq_true rfl) (.int y6) (own_nar (own_127 (own_gt (own_let l6 (by decide) (by decide))))) (fun T325 h325 X325 W325 V325 => ?_)
  have V325_b309 : Arv Z h325 b309 k_b309 .char (10 : Int32) [(.int lc), (.int y0), (.int y1), (.int y2), (.int y3), (.int y4), (.int y5), (.int y6), (.int 0), (.int 0)] (.int 0) := V325
  refine g_iloadN C X325 d4_252 rfl (g_bipush 8 C X325 d4_253 rfl (g_icmpn (hI_le _ _) C X325 d4_255 (fun q => absurd (by decide) q) (fun _ => ?_)))
  refine g_aload C X325 d4_258 rfl rfl (g_bipush 8 C X325 d4_260 rfl (g_bipush 8 C X325 d4_262 rfl (g_iloadN C X325 d4_264 rfl (g_iloadN C X325 d4_265 rfl (g_iloadN C X325 d4_266 rfl (g_iload C X325 d4_267 rfl (g_iload C X325 d4_269 rfl (g_iload C X325 d4_271 rfl (g_static (argsL := [(.int 8), (.int 1), (.int 8), (.int 3), (.int cb), (.int lc), (.int tc)]) (st := [(.int 8), (.ref b309)]) C X325 (wd hw 28 rfl) (wd hw 29 rfl) (wd hw 25 rfl) (wd hw 30 rfl) (by decide) (pay_of (W' := 2) (rAt813 l hw X325.ext cb lc tc hlc htc) C.hZ (wd hw 30 rfl) (wd hw 25 rfl) (by decide) (by decide)) pd_3 rfl rfl _ rfl (Nat.le_of_eq rfl) d4_273 (by decide) (by decide) (fun T326 h326 v326 q326 X326 => ?_))))))))))
  obtain ⟨y7, rfl, l7, e326⟩ := q326
  subst e326
  show Goes p e below _ T326 (mkF m 276 #[.val (.int 10), .val (.int 1), .val (.int 8), .val (.int 3), .val (.int cb), .val (.int lc), .val (.int tc), .val (.ref b309)] [(.int y7), (.int 8), (.ref b309)])
  refine g_castore C X326 V325_b309 n_b309 d4_276 (by decide) (by decide) (Nat.le_of_ble_eq_true rfl) (.int y7) (own_nar (own_127 (own_gt (own_let l7 (by decide) (by decide))))) (fun T327 h327 X327 W327 V327 => ?_)
  have V327_b309 : Arv Z h327 b309 k_b309 .char (10 : Int32) [(.int lc), (.int y0), (.int y1), (.int y2), (.int y3), (.int y4), (.int y5), (.int y6), (.int y7), (.int 0)] (.int 0) := V327
  refine g_iloadN C X327 d4_277 rfl (g_bipush 9 C X327 d4_278 rfl (g_icmpn (hI_le _ _) C X327 d4_280 (fun q => absurd (by decide) q) (fun _ => ?_)))
  refine g_aload C X327 d4_283 rfl rfl (g_bipush 9 C X327 d4_285 rfl (g_bipush 9 C X327 d4_287 rfl (g_iloadN C X327 d4_289 rfl (g_iloadN C X327 d4_290 rfl (g_iloadN C X327 d4_291 rfl (g_iload C X327 d4_292 rfl (g_iload C X327 d4_294 rfl (g_iload C X327 d4_296 rfl (g_staticP (argsL := [(.int 9), (.int 1), (.int 8), (.int 3), (.int cb), (.int lc), (.int tc)]) (st := [(.int 9), (.ref b309)]) C X327 (wd hw 28 rfl) (wd hw 29 rfl) (wd hw 25 rfl) (wd hw 30 rfl) (by decide) (pay_of (W' := 2) (rAt913 l hw X327.ext cb lc tc hlc htc) C.hZ (wd hw 30 rfl) (wd hw 25 rfl) (by decide) (by decide)) pd_3 rfl rfl _ rfl (Nat.le_of_eq rfl) d4_298 (by decide) (by decide) (fun T328 X328 => ?_))))))))))
  refine g_castore C X328 V327_b309 n_b309 d4_301 (by decide) (by decide) (Nat.le_of_ble_eq_true rfl) (.int tc) (own_nar (own_127 (own_sp htc))) (fun T329 h329 X329 W329 V329 => ?_)
  have V329_b309 : Arv Z h329 b309 k_b309 .char (10 : Int32) [(.int lc), (.int y0), (.int y1), (.int y2), (.int y3), (.int y4), (.int y5), (.int y6), (.int y7), (.int tc)] (.int 0) := V329
  refine g_new C X329 (wd hw 31 rfl) (wd hw 32 rfl) (wd hw 33 rfl) d4_302 (by decide) (by decide) (fun T330 h330 b330 g_b330 n_b330 X330 E330 A330 D330 M330 => ?_)
  have lt331 : b309 < b330 := by rw [g_b330]; exact Arv.lt V329_b309
  have F_coder_b330 : Fld Z h330 b330 "java/lang/String" "coder" "B" (.int 0) := D330 (Or.inr (wd hw 57 rfl)) (ty := .byte) (by decide)
  have F_value_b330 : Fld Z h330 b330 "java/lang/String" "value" "[B" .null := D330 (Or.inr (wd hw 59 rfl)) (ty := (.array .byte)) (by decide)
  refine g_dup C X330 d4_305 rfl (g_aload C X330 d4_306 rfl rfl ?_)
  have hp332 : ∀ c ∈ [lc, y0, y1, y2, y3, y4, y5, y6, y7, tc], ¬ c < 0 ∧ ¬ (255 : Int32) < c := (List.forall_mem_cons.mpr ⟨(own_127 (own_sp hlc)), (List.forall_mem_cons.mpr ⟨(own_127 (own_gt (own_let l0 (by decide) (by decide)))), (List.forall_mem_cons.mpr ⟨(own_127 (own_gt (own_let l1 (by decide) (by decide)))), (List.forall_mem_cons.mpr ⟨(own_127 (own_gt (own_let l2 (by decide) (by decide)))), (List.forall_mem_cons.mpr ⟨(own_127 (own_gt (own_let l3 (by decide) (by decide)))), (List.forall_mem_cons.mpr ⟨(own_127 (own_gt (own_let l4 (by decide) (by decide)))), (List.forall_mem_cons.mpr ⟨(own_127 (own_gt (own_let l5 (by decide) (by decide)))), (List.forall_mem_cons.mpr ⟨(own_127 (own_gt (own_let l6 (by decide) (by decide)))), (List.forall_mem_cons.mpr ⟨(own_127 (own_gt (own_let l7 (by decide) (by decide)))), (List.forall_mem_cons.mpr ⟨(own_127 (own_sp htc)), (fun _ q => nomatch q)⟩)⟩)⟩)⟩)⟩)⟩)⟩)⟩)⟩)⟩)
  have f334 := (Arv.ext V329_b309 E330)
  refine g_special (argsL := [(.ref b309)]) (st := [(.ref b330)]) C X330 rfl (wd hw 34 rfl) (wd hw 35 rfl) (wd hw 36 rfl) (by decide) (payV (W' := 1) (cs := [lc, y0, y1, y2, y3, y4, y5, y6, y7, tc]) (n := 10) C.hZ X330.ext (own_words hw) (kI := 4) (wd hw 32 rfl) n_b330 A330 F_value_b330 F_coder_b330 f334 SZ hz rfl rfl (by decide) (by decide) hp332 (by decide) (by decide)) pd_4 rfl rfl _ rfl (Nat.le_of_eq rfl) d4_308 (by decide) (by decide) (fun T333 h333 v333 q333 X333 => ?_)
  obtain ⟨rfl, K333, EX333, FC333, t333, k_t333, nt0_333, gt333, nt333, FV333, VT333⟩ := q333
  have lt335 : b309 < t333 := Nat.lt_of_lt_of_le (Arv.lt f334) gt333
  have lt336 : b330 < t333 := Nat.lt_of_lt_of_le (Exa.lt A330) gt333
  show Goes p e below _ T333 (mkF m 311 #[.val (.int 10), .val (.int 1), .val (.int 8), .val (.int 3), .val (.int cb), .val (.int lc), .val (.int tc), .val (.ref b309)] [(.ref b330)])
  have sz337 : h.size ≤ b309 := by rw [g_b309]; exact (Keep.refl h []).1
  have kp338 := (Keep.refl h []).ext E309
  have kp339 := kp338.wr W311 (Or.inr sz337)
  have kp340 := kp339.wr W313 (Or.inr sz337)
  have kp341 := kp340.wr W315 (Or.inr sz337)
  have kp342 := kp341.wr W317 (Or.inr sz337)
  have kp343 := kp342.wr W319 (Or.inr sz337)
  have kp344 := kp343.wr W321 (Or.inr sz337)
  have kp345 := kp344.wr W323 (Or.inr sz337)
  have kp346 := kp345.wr W325 (Or.inr sz337)
  have kp347 := kp346.wr W327 (Or.inr sz337)
  have kp348 := kp347.wr W329 (Or.inr sz337)
  have sz349 : h.size ≤ b330 := by rw [g_b330]; exact kp348.1
  have kp350 := kp348.ext E330
  have kp351 := kp350.trans K333 (allS (Or.inr sz349) all0)
  exact g_retA C X333 rfl rfl d4_311 (by decide) (by decide) ⟨b330, t333, k_t333, y0, y1, y2, y3, y4, y5, y6, y7, rfl, n_b330, sz349, keep_ext kp351, EX333, FC333, FV333, own_conv VT333 (by simp only [List.map, own_b7 (own_sp hlc), own_b7 (own_gt (own_let l0 (by decide) (by decide))), own_b7 (own_gt (own_let l1 (by decide) (by decide))), own_b7 (own_gt (own_let l2 (by decide) (by decide))), own_b7 (own_gt (own_let l3 (by decide) (by decide))), own_b7 (own_gt (own_let l4 (by decide) (by decide))), own_b7 (own_gt (own_let l5 (by decide) (by decide))), own_b7 (own_gt (own_let l6 (by decide) (by decide))), own_b7 (own_gt (own_let l7 (by decide) (by decide))), own_b7 (own_sp htc)]), l0, l1, l2, l3, l4, l5, l6, l7⟩
theorem pn_3 : plainName "java/lang/String" = true := by first | (simp [plainName, overriddenIn]; done) | decide +kernel
theorem ef_rCo (m : MethodId) (x : Addr) : entryFrame m #[(.ref x)] 1 = mkF m 0 #[.val (.ref x)] [] := by first | (simp [entryFrame, mkF, argsToLocals, Value.category]; done) | rfl
theorem d23_0 : Dc jdk_42_method_152_code 0 (.getstatic 38) 3 3 := by decide +kernel
theorem d23_3 : Dj jdk_42_method_152_code 3 (.ifCond .eq 10) 10 3 6 13 := by decide +kernel
theorem d23_6 : Dc jdk_42_method_152_code 6 (.aload_n 0) 1 7 := by decide +kernel
theorem d23_7 : Dc jdk_42_method_152_code 7 (.getfield 15) 3 10 := by decide +kernel
theorem d23_10 : Dj jdk_42_method_152_code 10 (.goto 4) 4 3 13 14 := by decide +kernel
theorem d23_14 : Dc jdk_42_method_152_code 14 (.ireturn) 1 15 := by decide +kernel
theorem rCo (l : Launch) {Z : State} {a0 : Array Value} (hw : ∀ d ∈ tables_1, d.before a0 Z = true) {h : Heap} (hE : Ext Z.heap h) (x : Addr) (z_ : Int32) (SZ : Sta Z Z.heap "java/lang/String" "COMPACT_STRINGS" "Z" (.int z_)) (hz : ¬ z_ = 0) (FC : Fld Z h x "java/lang/String" "coder" "B" (.int (0 : Int32))) :
    Con l (⟨"java/lang/String", "coder", "()B"⟩ : MethodName) jdk_42_method_152_code 1 (some .byte) [] ({ frames := 0, cells := 0, slots := 0, locals := 0 } : Room) Z #[(.ref x)] h (fun v' h' => v' = some (.int 0) ∧ h' = h) := by
  refine con_of (plainFor_of_name pn_3) hE (fun m => ef_rCo m x) ?_
  intro p e s m below meth c T0 C X0
  have C : Cx p s m meth c Z "java/lang/String" "coder" jdk_42_method_152_code 1 (some .byte) := C
  show Goes p e below _ T0 (mkF m 0 #[.val (.ref x)] [])
  refine g_getstatic (host := "") C X0 (Or.inl (wd hw 44 rfl)) Via.refl SZ d23_0 (fun T352 X352 => ?_)
  refine g_if (h0_eq _) C X352 d23_3 (fun q => absurd q hz) (fun _ => ?_)
  refine g_aloadN C X352 d23_6 rfl rfl (g_getfield (host := "") C X352 (Or.inl (wd hw 56 rfl)) Via.refl FC d23_7 (fun T353 X353 => ?_))
  refine g_goto C X353 d23_10 ?_
  exact g_retN C X353 (by simp) d23_14 (0 : Int32) rfl (by decide) (by decide) ⟨rfl, rfl⟩
theorem ef_rIL (m : MethodId) (x : Addr) : entryFrame m #[(.ref x)] 1 = mkF m 0 #[.val (.ref x)] [] := by first | (simp [entryFrame, mkF, argsToLocals, Value.category]; done) | rfl
theorem d17_0 : Dc jdk_42_method_154_code 0 (.getstatic 38) 3 3 := by decide +kernel
theorem d17_3 : Dj jdk_42_method_154_code 3 (.ifCond .eq 14) 14 3 6 17 := by decide +kernel
theorem d17_6 : Dc jdk_42_method_154_code 6 (.aload_n 0) 1 7 := by decide +kernel
theorem d17_7 : Dc jdk_42_method_154_code 7 (.getfield 15) 3 10 := by decide +kernel
theorem d17_10 : Dj jdk_42_method_154_code 10 (.ifCond .ne 7) 7 3 13 17 := by decide +kernel
theorem d17_13 : Dc jdk_42_method_154_code 13 (.iconst 1) 1 14 := by decide +kernel
theorem d17_14 : Dj jdk_42_method_154_code 14 (.goto 4) 4 3 17 18 := by decide +kernel
theorem d17_18 : Dc jdk_42_method_154_code 18 (.ireturn) 1 19 := by decide +kernel
theorem rIL (l : Launch) {Z : State} {a0 : Array Value} (hw : ∀ d ∈ tables_1, d.before a0 Z = true) {h : Heap} (hE : Ext Z.heap h) (x : Addr) (z_ : Int32) (SZ : Sta Z Z.heap "java/lang/String" "COMPACT_STRINGS" "Z" (.int z_)) (hz : ¬ z_ = 0) (FC : Fld Z h x "java/lang/String" "coder" "B" (.int (0 : Int32))) :
    Con l (⟨"java/lang/String", "isLatin1", "()Z"⟩ : MethodName) jdk_42_method_154_code 1 (some .boolean) [] ({ frames := 0, cells := 0, slots := 0, locals := 0 } : Room) Z #[(.ref x)] h (fun v' h' => v' = some (.int 1) ∧ h' = h) := by
  refine con_of (plainFor_of_name pn_3) hE (fun m => ef_rIL m x) ?_
  intro p e s m below meth c T0 C X0
  have C : Cx p s m meth c Z "java/lang/String" "isLatin1" jdk_42_method_154_code 1 (some .boolean) := C
  show Goes p e below _ T0 (mkF m 0 #[.val (.ref x)] [])
  refine g_getstatic (host := "") C X0 (Or.inl (wd hw 44 rfl)) Via.refl SZ d17_0 (fun T354 X354 => ?_)
  refine g_if (h0_eq _) C X354 d17_3 (fun q => absurd q hz) (fun _ => ?_)
  refine g_aloadN C X354 d17_6 rfl rfl (g_getfield (host := "") C X354 (Or.inl (wd hw 56 rfl)) Via.refl FC d17_7 (fun T355 X355 => ?_))
  refine g_ifn (h0_ne _) C X355 d17_10 (fun q => absurd (by decide) q) (fun _ => ?_)
  refine g_iconst 1 C X355 d17_13 rfl (g_goto C X355 d17_14 ?_)
  exact g_retN C X355 (by simp) d17_18 (1 : Int32) rfl (by decide) (by decide) ⟨rfl, rfl⟩
theorem ef_rLn1 (m : MethodId) (x : Addr) : entryFrame m #[(.ref x)] 1 = mkF m 0 #[.val (.ref x)] [] := by first | (simp [entryFrame, mkF, argsToLocals, Value.category]; done) | rfl
theorem d22_0 : Dc jdk_42_method_54_code 0 (.aload_n 0) 1 1 := by decide +kernel
theorem d22_1 : Dc jdk_42_method_54_code 1 (.getfield 9) 3 4 := by decide +kernel
theorem d22_4 : Dc jdk_42_method_54_code 4 (.arraylength) 1 5 := by decide +kernel
theorem d22_5 : Dc jdk_42_method_54_code 5 (.aload_n 0) 1 6 := by decide +kernel
theorem d22_6 : Dc jdk_42_method_54_code 6 (.invokevirtual 335) 3 9 := by decide +kernel
theorem pd_5 : parseMethodDescriptor "()B" = some ⟨[], some .byte⟩ := by decide +kernel
theorem d22_9 : Dc jdk_42_method_54_code 9 (.ishr) 1 10 := by decide +kernel
theorem d22_10 : Dc jdk_42_method_54_code 10 (.ireturn) 1 11 := by decide +kernel
theorem rLn1 (l : Launch) {Z : State} {a0 : Array Value} (hw : ∀ d ∈ tables_1, d.before a0 Z = true) {h : Heap} (hE : Ext Z.heap h) (x : Addr) (z_ : Int32) (SZ : Sta Z Z.heap "java/lang/String" "COMPACT_STRINGS" "Z" (.int z_)) (hz : ¬ z_ = 0) (t : Addr) (kt : ClassId) (v0 : Int32) (EX : Exa Z h x "java/lang/String") (FC : Fld Z h x "java/lang/String" "coder" "B" (.int (0 : Int32))) (FV : Fld Z h x "java/lang/String" "value" "[B" (.ref t)) (VT : Arv Z h t kt .byte 1 [(.int v0)] (.int (0 : Int32))) :
    Con l (⟨"java/lang/String", "length", "()I"⟩ : MethodName) jdk_42_method_54_code 1 (some .int) [] ({ frames := 1, cells := 0, slots := 0, locals := 24 } : Room) Z #[(.ref x)] h (fun v' h' => v' = some (.int 1) ∧ h' = h) := by
  refine con_of (plainFor_of_name pn_3) hE (fun m => ef_rLn1 m x) ?_
  intro p e s m below meth c T0 C X0
  have C : Cx p s m meth c Z "java/lang/String" "length" jdk_42_method_54_code 1 (some .int) := C
  show Goes p e below _ T0 (mkF m 0 #[.val (.ref x)] [])
  refine g_aloadN C X0 d22_0 rfl rfl (g_getfield (host := "") C X0 (Or.inl (wd hw 58 rfl)) Via.refl FV d22_1 (fun T356 X356 => ?_))
  refine g_arraylength C X356 VT d22_4 (g_aloadN C X356 d22_5 rfl rfl (g_virtualP (argsL := []) (st := [(.int 1)]) C X356 (wd hw 124 rfl) (wd hw 125 rfl) (nf_of C (wd hw 127 rfl) rfl rfl) (wd hw 127 rfl) (wd hw 126 rfl) (by decide) EX (pay_of (W' := 1) (rCo l hw X356.ext x z_ SZ hz FC) C.hZ (wd hw 128 rfl) (wd hw 33 rfl) (by decide) (by decide)) pd_5 rfl rfl _ rfl (Nat.le_of_eq rfl) d22_6 (by decide) (by decide) (fun T357 X357 => ?_)))
  refine g_ishr C X357 d22_9 ?_
  exact g_retI C X357 d22_10 (by decide) (by decide) ⟨rfl, rfl⟩
theorem ef_rLn8 (m : MethodId) (x : Addr) : entryFrame m #[(.ref x)] 1 = mkF m 0 #[.val (.ref x)] [] := by first | (simp [entryFrame, mkF, argsToLocals, Value.category]; done) | rfl
theorem rLn8 (l : Launch) {Z : State} {a0 : Array Value} (hw : ∀ d ∈ tables_1, d.before a0 Z = true) {h : Heap} (hE : Ext Z.heap h) (x : Addr) (z_ : Int32) (SZ : Sta Z Z.heap "java/lang/String" "COMPACT_STRINGS" "Z" (.int z_)) (hz : ¬ z_ = 0) (t : Addr) (kt : ClassId) (v0 v1 v2 v3 v4 v5 v6 v7 : Int32) (EX : Exa Z h x "java/lang/String") (FC : Fld Z h x "java/lang/String" "coder" "B" (.int (0 : Int32))) (FV : Fld Z h x "java/lang/String" "value" "[B" (.ref t)) (VT : Arv Z h t kt .byte 8 [(.int v0), (.int v1), (.int v2), (.int v3), (.int v4), (.int v5), (.int v6), (.int v7)] (.int (0 : Int32))) :
    Con l (⟨"java/lang/String", "length", "()I"⟩ : MethodName) jdk_42_method_54_code 1 (some .int) [] ({ frames := 1, cells := 0, slots := 0, locals := 24 } : Room) Z #[(.ref x)] h (fun v' h' => v' = some (.int 8) ∧ h' = h) := by
  refine con_of (plainFor_of_name pn_3) hE (fun m => ef_rLn8 m x) ?_
  intro p e s m below meth c T0 C X0
  have C : Cx p s m meth c Z "java/lang/String" "length" jdk_42_method_54_code 1 (some .int) := C
  show Goes p e below _ T0 (mkF m 0 #[.val (.ref x)] [])
  refine g_aloadN C X0 d22_0 rfl rfl (g_getfield (host := "") C X0 (Or.inl (wd hw 58 rfl)) Via.refl FV d22_1 (fun T358 X358 => ?_))
  refine g_arraylength C X358 VT d22_4 (g_aloadN C X358 d22_5 rfl rfl (g_virtualP (argsL := []) (st := [(.int 8)]) C X358 (wd hw 124 rfl) (wd hw 125 rfl) (nf_of C (wd hw 127 rfl) rfl rfl) (wd hw 127 rfl) (wd hw 126 rfl) (by decide) EX (pay_of (W' := 1) (rCo l hw X358.ext x z_ SZ hz FC) C.hZ (wd hw 128 rfl) (wd hw 33 rfl) (by decide) (by decide)) pd_5 rfl rfl _ rfl (Nat.le_of_eq rfl) d22_6 (by decide) (by decide) (fun T359 X359 => ?_)))
  refine g_ishr C X359 d22_9 ?_
  exact g_retI C X359 d22_10 (by decide) (by decide) ⟨rfl, rfl⟩
theorem ef_rMin (m : MethodId) (i : Int32) (k : Int32) : entryFrame m #[(.int i), (.int k)] 2 = mkF m 0 #[.val (.int i), .val (.int k)] [] := by first | (simp [entryFrame, mkF, argsToLocals, Value.category]; done) | rfl
theorem d32_0 : Dc jdk_29_method_69_code 0 (.iload_n 0) 1 1 := by decide +kernel
theorem d32_1 : Dc jdk_29_method_69_code 1 (.iload_n 1) 1 2 := by decide +kernel
theorem d32_2 : Dj jdk_29_method_69_code 2 (.if_icmp .gt 7) 7 3 5 9 := by decide +kernel
theorem d32_9 : Dc jdk_29_method_69_code 9 (.iload_n 1) 1 10 := by decide +kernel
theorem d32_10 : Dc jdk_29_method_69_code 10 (.ireturn) 1 11 := by decide +kernel
theorem d32_5 : Dc jdk_29_method_69_code 5 (.iload_n 0) 1 6 := by decide +kernel
theorem d32_6 : Dj jdk_29_method_69_code 6 (.goto 4) 4 3 9 10 := by decide +kernel
theorem rMin (l : Launch) {Z : State} {a0 : Array Value} (hw : ∀ d ∈ tables_1, d.before a0 Z = true) {h : Heap} (hE : Ext Z.heap h) (i : Int32) (k : Int32)   :
    Con l (⟨"java/lang/Math", "min", "(II)I"⟩ : MethodName) jdk_29_method_69_code 2 (some .int) [] ({ frames := 0, cells := 0, slots := 0, locals := 0 } : Room) Z #[(.int i), (.int k)] h (fun v' h' => v' = some (.int (if k < i then k else i)) ∧ h' = h) := by
  refine con_of (Jvm.Free.JP.mathPlain rfl (by decide +kernel)) hE (fun m => ef_rMin m i k) ?_
  intro p e s m below meth c T0 C X0
  have C : Cx p s m meth c Z "java/lang/Math" "min" jdk_29_method_69_code 2 (some .int) := C
  show Goes p e below _ T0 (mkF m 0 #[.val (.int i), .val (.int k)] [])
  refine g_iloadN C X0 d32_0 rfl (g_iloadN C X0 d32_1 rfl (g_icmp (hI_gt _ _) C X0 d32_2 (fun c2_360 => ?_) (fun c2_360 => ?_)))
  · refine g_iloadN C X0 d32_9 rfl ?_
    exact g_retI C X0 d32_10 (by decide) (by decide) ⟨by rw [if_pos c2_360], rfl⟩
  · refine g_iloadN C X0 d32_5 rfl (g_goto C X0 d32_6 ?_)
    exact g_retI C X0 d32_10 (by decide) (by decide) ⟨by rw [if_neg c2_360], rfl⟩
theorem ef_rIb (m : MethodId) (x : Addr) (t : Addr) : entryFrame m #[(.ref x), (.ref t), (.int 0)] 3 = mkF m 0 #[.val (.ref x), .val (.ref t), .val (.int 0)] [] := by first | (simp [entryFrame, mkF, argsToLocals, Value.category]; done) | rfl
theorem d33_0 : Dc jdk_42_method_151_code 0 (.aload_n 0) 1 1 := by decide +kernel
theorem d33_1 : Dc jdk_42_method_151_code 1 (.invokespecial 1) 3 4 := by decide +kernel
theorem d33_4 : Dc jdk_42_method_151_code 4 (.aload_n 0) 1 5 := by decide +kernel
theorem d33_5 : Dc jdk_42_method_151_code 5 (.aload_n 1) 1 6 := by decide +kernel
theorem d33_6 : Dc jdk_42_method_151_code 6 (.putfield 9) 3 9 := by decide +kernel
theorem d33_9 : Dc jdk_42_method_151_code 9 (.aload_n 0) 1 10 := by decide +kernel
theorem d33_10 : Dc jdk_42_method_151_code 10 (.iload_n 2) 1 11 := by decide +kernel
theorem d33_11 : Dc jdk_42_method_151_code 11 (.putfield 15) 3 14 := by decide +kernel
theorem d33_14 : Dc jdk_42_method_151_code 14 (.return_) 1 15 := by decide +kernel
theorem rIb (l : Launch) {Z : State} {a0 : Array Value} (hw : ∀ d ∈ tables_1, d.before a0 Z = true) {h : Heap} (hE : Ext Z.heap h) (x : Addr) (t : Addr)  (EX : Exa Z h x "java/lang/String") (FC : Fld Z h x "java/lang/String" "coder" "B" (.int (0 : Int32))) (FV : Fld Z h x "java/lang/String" "value" "[B" .null) (hn : Z.heap.size ≤ x) :
    Con l (⟨"java/lang/String", "<init>", "([BB)V"⟩ : MethodName) jdk_42_method_151_code 3 none [] ({ frames := 1, cells := 0, slots := 0, locals := 24 } : Room) Z #[(.ref x), (.ref t), (.int 0)] h (fun v' h' => v' = none ∧ Keep h h' [x] ∧ Exa Z h' x "java/lang/String" ∧ Fld Z h' x "java/lang/String" "coder" "B" (.int (0 : Int32)) ∧ Fld Z h' x "java/lang/String" "value" "[B" (.ref t)) := by
  refine con_of (plainFor_of_name pn_3) hE (fun m => ef_rIb m x t) ?_
  intro p e s m below meth c T0 C X0
  have C : Cx p s m meth c Z "java/lang/String" "<init>" jdk_42_method_151_code 3 none := C
  show Goes p e below _ T0 (mkF m 0 #[.val (.ref x), .val (.ref t), .val (.int 0)] [])
  refine g_aloadN C X0 d33_0 rfl rfl (g_initO C X0 (wd hw 41 rfl) (wd hw 42 rfl) (wd hw 43 rfl) rfl d33_1 (by decide) 0 (Nat.le_of_eq rfl) (by decide) (fun T361 X361 => ?_))
  refine g_aloadN C X361 d33_4 rfl rfl (g_aloadN C X361 d33_5 rfl rfl (g_putfield (host := "") C X361 (Or.inl (wd hw 58 rfl)) Via.refl FV EX (Or.inr ⟨(wd hw 59 rfl), rfl, rfl⟩) (wd hw 32 rfl) (ty := (.array .byte)) (by decide) rfl rfl hn d33_6 (fun T362 h362 X362 W362 => ?_)))
  have f362 := Fld.same W362 FV
  refine g_aloadN C X362 d33_9 rfl rfl (g_iloadN C X362 d33_10 rfl ?_)
  have f363 := (Fld.other W362 FC (Or.inr (slot_ne (Or.inr (wd hw 57 rfl)) (Or.inr (wd hw 59 rfl)) (by decide) (t := .byte) (t' := (.array .byte)) (by decide) (by decide))))
  have f364 := (Exa.wr W362 EX)
  refine g_putfield (host := "") C X362 (Or.inl (wd hw 56 rfl)) Via.refl f363 f364 (Or.inr ⟨(wd hw 57 rfl), rfl, rfl⟩) (wd hw 32 rfl) (ty := .byte) (by decide) rfl rfl hn d33_11 (fun T365 h365 X365 W365 => ?_)
  have f365 := Fld.same W365 f363
  have kp366 := (Keep.refl h [x]).wr W362 (Or.inl (by simp))
  have kp367 := kp366.wr W365 (Or.inl (by simp))
  have f368 := (Exa.wr W365 f364)
  have f369 := (Fld.other W365 f362 (Or.inr (slot_ne (Or.inr (wd hw 59 rfl)) (Or.inr (wd hw 57 rfl)) (by decide) (t := (.array .byte)) (t' := .byte) (by decide) (by decide))))
  exact g_retV C X365 d33_14 (by decide) (by decide) ⟨rfl, kp367, f368, f365, f369⟩
theorem pn_4 : plainName "java/util/Arrays" = true := by first | (simp [plainName, overriddenIn]; done) | decide +kernel
theorem ef_rCl101 (m : MethodId)  : entryFrame m #[(.int 0), (.int 1)] 2 = mkF m 0 #[.val (.int 0), .val (.int 1)] [] := by first | (simp [entryFrame, mkF, argsToLocals, Value.category]; done) | rfl
theorem d31_0 : Dc jdk_65_method_131_code 0 (.iload_n 1) 1 1 := by decide +kernel
theorem d31_1 : Dc jdk_65_method_131_code 1 (.iload_n 0) 1 2 := by decide +kernel
theorem d31_2 : Dj jdk_65_method_131_code 2 (.if_icmp .ge 35) 35 3 5 37 := by decide +kernel
theorem d31_37 : Dc jdk_65_method_131_code 37 (.return_) 1 38 := by decide +kernel
theorem rCl101 (l : Launch) {Z : State} {a0 : Array Value} (hw : ∀ d ∈ tables_1, d.before a0 Z = true) {h : Heap} (hE : Ext Z.heap h)    :
    Con l (⟨"java/util/Arrays", "checkLength", "(II)V"⟩ : MethodName) jdk_65_method_131_code 2 none [] ({ frames := 0, cells := 0, slots := 0, locals := 0 } : Room) Z #[(.int 0), (.int 1)] h (fun v' h' => v' = none ∧ h' = h) := by
  refine con_of (plainFor_of_name pn_4) hE (fun m => ef_rCl101 m ) ?_
  intro p e s m below meth c T0 C X0
  have C : Cx p s m meth c Z "java/util/Arrays" "checkLength" jdk_65_method_131_code 2 none := C
  show Goes p e below _ T0 (mkF m 0 #[.val (.int 0), .val (.int 1)] [])
  refine g_iloadN C X0 d31_0 rfl (g_iloadN C X0 d31_1 rfl (g_icmpn (hI_ge _ _) C X0 d31_2 (fun _ => ?_) (fun q => absurd q (by decide))))
  exact g_retV C X0 d31_37 (by decide) (by decide) ⟨rfl, rfl⟩
theorem ef_rCb101 (m : MethodId) (t : Addr) : entryFrame m #[(.ref t), (.int 0), (.int 1)] 5 = mkF m 0 #[.val (.ref t), .val (.int 0), .val (.int 1), .unset, .unset] [] := by first | (simp [entryFrame, mkF, argsToLocals, Value.category]; done) | rfl
theorem d30_0 : Dc jdk_65_method_133_code 0 (.iload_n 1) 1 1 := by decide +kernel
theorem d30_1 : Dc jdk_65_method_133_code 1 (.iload_n 2) 1 2 := by decide +kernel
theorem d30_2 : Dc jdk_65_method_133_code 2 (.invokestatic 343) 3 5 := by decide +kernel
theorem pd_6 : parseMethodDescriptor "(II)V" = some ⟨[.int, .int], none⟩ := by decide +kernel
theorem d30_5 : Dc jdk_65_method_133_code 5 (.iload_n 2) 1 6 := by decide +kernel
theorem d30_6 : Dc jdk_65_method_133_code 6 (.iload_n 1) 1 7 := by decide +kernel
theorem d30_7 : Dc jdk_65_method_133_code 7 (.isub) 1 8 := by decide +kernel
theorem d30_8 : Dc jdk_65_method_133_code 8 (.istore_n 3) 1 9 := by decide +kernel
theorem d30_9 : Dc jdk_65_method_133_code 9 (.iload_n 3) 1 10 := by decide +kernel
theorem d30_10 : Dc jdk_65_method_133_code 10 (.newarray .byte) 2 12 := by decide +kernel
theorem d30_12 : Dc jdk_65_method_133_code 12 (.astore 4) 2 14 := by decide +kernel
theorem d30_14 : Dc jdk_65_method_133_code 14 (.aload_n 0) 1 15 := by decide +kernel
theorem d30_15 : Dc jdk_65_method_133_code 15 (.iload_n 1) 1 16 := by decide +kernel
theorem d30_16 : Dc jdk_65_method_133_code 16 (.aload 4) 2 18 := by decide +kernel
theorem d30_18 : Dc jdk_65_method_133_code 18 (.iconst 0) 1 19 := by decide +kernel
theorem d30_19 : Dc jdk_65_method_133_code 19 (.aload_n 0) 1 20 := by decide +kernel
theorem d30_20 : Dc jdk_65_method_133_code 20 (.arraylength) 1 21 := by decide +kernel
theorem d30_21 : Dc jdk_65_method_133_code 21 (.iload_n 1) 1 22 := by decide +kernel
theorem d30_22 : Dc jdk_65_method_133_code 22 (.isub) 1 23 := by decide +kernel
theorem d30_23 : Dc jdk_65_method_133_code 23 (.iload_n 3) 1 24 := by decide +kernel
theorem d30_24 : Dc jdk_65_method_133_code 24 (.invokestatic 304) 3 27 := by decide +kernel
theorem pd_7 : parseMethodDescriptor "(II)I" = some ⟨[.int, .int], some .int⟩ := by decide +kernel
theorem d30_27 : Dc jdk_65_method_133_code 27 (.invokestatic 150) 3 30 := by decide +kernel
theorem d30_30 : Dc jdk_65_method_133_code 30 (.aload 4) 2 32 := by decide +kernel
theorem d30_32 : Dc jdk_65_method_133_code 32 (.areturn) 1 33 := by decide +kernel
theorem rCb101 (l : Launch) {Z : State} {a0 : Array Value} (hw : ∀ d ∈ tables_1, d.before a0 Z = true) {h : Heap} (hE : Ext Z.heap h) (t : Addr) (kt : ClassId) (y tc : Int32) (VT : Arv Z h t kt .byte 2 [(.int y), (.int tc)] (.int (0 : Int32))) :
    Con l (⟨"java/util/Arrays", "copyOfRangeByte", "([BII)[B"⟩ : MethodName) jdk_65_method_133_code 5 (some (.array .byte)) [] ({ frames := 2, cells := 1, slots := 1, locals := 48 } : Room) Z #[(.ref t), (.int 0), (.int 1)] h (fun v' h' => ∃ b_ kb, v' = some (.ref b_) ∧ Z.heap.size ≤ b_ ∧ h.size ≤ b_ ∧ Ext h h' ∧ Arv Z h' b_ kb .byte 1 [(.int y)] (.int (0 : Int32))) := by
  refine con_of (plainFor_of_name pn_4) hE (fun m => ef_rCb101 m t) ?_
  intro p e s m below meth c T0 C X0
  have C : Cx p s m meth c Z "java/util/Arrays" "copyOfRangeByte" jdk_65_method_133_code 5 (some (.array .byte)) := C
  show Goes p e below _ T0 (mkF m 0 #[.val (.ref t), .val (.int 0), .val (.int 1), .unset, .unset] [])
  refine g_iloadN C X0 d30_0 rfl (g_iloadN C X0 d30_1 rfl (g_staticPV (argsL := [(.int 0), (.int 1)]) (st := []) C X0 (wd hw 155 rfl) (wd hw 156 rfl) (wd hw 150 rfl) (wd hw 157 rfl) (by decide) (pay_of (W' := 0) (rCl101 l hw X0.ext) C.hZ (wd hw 157 rfl) (wd hw 150 rfl) (by decide) (by decide)) pd_6 rfl rfl _ rfl (Nat.le_of_eq rfl) d30_2 (by decide) (by decide) (fun T370 X370 => ?_)))
  refine g_iloadN C X370 d30_5 rfl (g_iloadN C X370 d30_6 rfl (g_isub C X370 d30_7 (g_istoreN C X370 d30_8 (l' := #[.val (.ref t), .val (.int 0), .val (.int 1), .val (.int 1), .unset]) rfl (g_iloadN C X370 d30_9 rfl (g_newarray C X370 (wd hw 49 rfl) d30_10 (by decide) 1 1 (by decide) (by decide) (by decide) (by decide) (fun T371 h371 b371 k_b371 g_b371 n_b371 X371 E371 V371 => ?_))))))
  have lt372 : t < b371 := by rw [g_b371]; exact Arv.lt VT
  have V_b371 : Arv Z h371 b371 k_b371 .byte (1 : Int32) [(.int 0)] (.int 0) := V371
  refine g_astore C X371 d30_12 rfl (l' := #[.val (.ref t), .val (.int 0), .val (.int 1), .val (.int 1), .val (.ref b371)]) rfl (g_aloadN C X371 d30_14 rfl rfl (g_iloadN C X371 d30_15 rfl (g_aload C X371 d30_16 rfl rfl (g_iconst 0 C X371 d30_18 rfl (g_aloadN C X371 d30_19 rfl rfl ?_)))))
  have f373 := (Arv.ext VT E371)
  refine g_arraylength C X371 f373 d30_20 (g_iloadN C X371 d30_21 rfl (g_isub C X371 d30_22 (g_iloadN C X371 d30_23 rfl (g_staticP (argsL := [(.int 2), (.int 1)]) (st := [(.int 0), (.ref b371), (.int 0), (.ref t)]) C X371 (wd hw 158 rfl) (wd hw 159 rfl) (wd hw 160 rfl) (wd hw 161 rfl) (by decide) (pay_of (W' := 4) (rMin l hw X371.ext (2 : Int32) (1 : Int32)) C.hZ (wd hw 161 rfl) (wd hw 160 rfl) (by decide) (by decide)) pd_7 rfl rfl _ rfl (Nat.le_of_eq rfl) d30_24 (by decide) (by decide) (fun T374 X374 => ?_)))))
  refine g_arraycopy C X374 (wd hw 162 rfl) (wd hw 165 rfl) (wd hw 163 rfl) (wd hw 164 rfl) f373 V_b371 rfl (by decide) (by decide) (by decide) (by decide) (by decide) [(.int y)] rfl (Nat.le_of_ble_eq_true rfl) n_b371 rfl d30_27 (by decide) 0 (Nat.le_of_eq rfl) (by decide) (fun T375 h375 X375 K375 V375 => ?_)
  have V375_b371 : Arv Z h375 b371 k_b371 .byte (1 : Int32) [(.int y)] (.int 0) := V375
  show Goes p e below _ T375 (mkF m 30 #[.val (.ref t), .val (.int 0), .val (.int 1), .val (.int 1), .val (.ref b371)] [])
  refine g_aload C X375 d30_30 rfl rfl ?_
  have sz376 : h.size ≤ b371 := by rw [g_b371]; exact (Keep.refl h []).1
  have kp377 := (Keep.refl h []).ext E371
  have kp378 := kp377.trans K375 (allS (Or.inr sz376) all0)
  exact g_retA C X375 rfl rfl d30_32 (by decide) (by decide) ⟨b371, k_b371, rfl, n_b371, sz376, keep_ext kp378, V375_b371⟩
theorem ef_rCr101 (m : MethodId) (t : Addr) : entryFrame m #[(.ref t), (.int 0), (.int 1)] 3 = mkF m 0 #[.val (.ref t), .val (.int 0), .val (.int 1)] [] := by first | (simp [entryFrame, mkF, argsToLocals, Value.category]; done) | rfl
theorem d29_0 : Dc jdk_65_method_132_code 0 (.iload_n 1) 1 1 := by decide +kernel
theorem d29_1 : Dj jdk_65_method_132_code 1 (.ifCond .ne 9) 9 3 4 10 := by decide +kernel
theorem d29_4 : Dc jdk_65_method_132_code 4 (.iload_n 2) 1 5 := by decide +kernel
theorem d29_5 : Dc jdk_65_method_132_code 5 (.aload_n 0) 1 6 := by decide +kernel
theorem d29_6 : Dc jdk_65_method_132_code 6 (.arraylength) 1 7 := by decide +kernel
theorem d29_7 : Dj jdk_65_method_132_code 7 (.if_icmp .eq 10) 10 3 10 17 := by decide +kernel
theorem d29_10 : Dc jdk_65_method_132_code 10 (.aload_n 0) 1 11 := by decide +kernel
theorem d29_11 : Dc jdk_65_method_132_code 11 (.iload_n 1) 1 12 := by decide +kernel
theorem d29_12 : Dc jdk_65_method_132_code 12 (.iload_n 2) 1 13 := by decide +kernel
theorem d29_13 : Dc jdk_65_method_132_code 13 (.invokestatic 339) 3 16 := by decide +kernel
theorem pd_8 : parseMethodDescriptor "([BII)[B" = some ⟨[(.array .byte), .int, .int], some (.array .byte)⟩ := by decide +kernel
theorem d29_16 : Dc jdk_65_method_132_code 16 (.areturn) 1 17 := by decide +kernel
theorem rCr101 (l : Launch) {Z : State} {a0 : Array Value} (hw : ∀ d ∈ tables_1, d.before a0 Z = true) {h : Heap} (hE : Ext Z.heap h) (t : Addr) (kt : ClassId) (y tc : Int32) (VT : Arv Z h t kt .byte 2 [(.int y), (.int tc)] (.int (0 : Int32))) :
    Con l (⟨"java/util/Arrays", "copyOfRange", "([BII)[B"⟩ : MethodName) jdk_65_method_132_code 3 (some (.array .byte)) [] ({ frames := 3, cells := 1, slots := 1, locals := 72 } : Room) Z #[(.ref t), (.int 0), (.int 1)] h (fun v' h' => ∃ b_ kb, v' = some (.ref b_) ∧ Z.heap.size ≤ b_ ∧ h.size ≤ b_ ∧ Ext h h' ∧ Arv Z h' b_ kb .byte 1 [(.int y)] (.int (0 : Int32))) := by
  refine con_of (plainFor_of_name pn_4) hE (fun m => ef_rCr101 m t) ?_
  intro p e s m below meth c T0 C X0
  have C : Cx p s m meth c Z "java/util/Arrays" "copyOfRange" jdk_65_method_132_code 3 (some (.array .byte)) := C
  show Goes p e below _ T0 (mkF m 0 #[.val (.ref t), .val (.int 0), .val (.int 1)] [])
  refine g_iloadN C X0 d29_0 rfl (g_ifn (h0_ne _) C X0 d29_1 (fun q => absurd (by decide) q) (fun _ => ?_))
  refine g_iloadN C X0 d29_4 rfl (g_aloadN C X0 d29_5 rfl rfl (g_arraylength C X0 VT d29_6 (g_icmp (hI_eq _ _) C X0 d29_7 (fun q => absurd q (by decide)) (fun _ => ?_))))
  refine g_aloadN C X0 d29_10 rfl rfl (g_iloadN C X0 d29_11 rfl (g_iloadN C X0 d29_12 rfl (g_static (argsL := [(.ref t), (.int 0), (.int 1)]) (st := []) C X0 (wd hw 152 rfl) (wd hw 153 rfl) (wd hw 150 rfl) (wd hw 154 rfl) (by decide) (pay_of (W' := 0) (rCb101 l hw X0.ext t kt y tc VT) C.hZ (wd hw 154 rfl) (wd hw 150 rfl) (by decide) (by decide)) pd_8 rfl rfl _ rfl (Nat.le_of_eq rfl) d29_13 (by decide) (by decide) (fun T379 h379 v379 q379 X379 => ?_))))
  obtain ⟨b379, k_b379, rfl, n_b379, g379, E379, V379⟩ := q379
  have lt380 : t < b379 := Nat.lt_of_lt_of_le (Arv.lt VT) g379
  show Goes p e below _ T379 (mkF m 16 #[.val (.ref t), .val (.int 0), .val (.int 1)] [(.ref b379)])
  have sz381 : h.size ≤ b379 := Nat.le_trans (Keep.refl h []).1 g379
  have kp382 := (Keep.refl h []).ext E379
  exact g_retA C X379 rfl rfl d29_16 (by decide) (by decide) ⟨b379, k_b379, rfl, n_b379, sz381, keep_ext kp382, V379⟩
theorem pn_5 : plainName "java/lang/StringLatin1" = true := by first | (simp [plainName, overriddenIn]; done) | decide +kernel
theorem ef_rNs101 (m : MethodId) (t : Addr) : entryFrame m #[(.ref t), (.int 0), (.int 1)] 3 = mkF m 0 #[.val (.ref t), .val (.int 0), .val (.int 1)] [] := by first | (simp [entryFrame, mkF, argsToLocals, Value.category]; done) | rfl
theorem d28_0 : Dc jdk_43_method_47_code 0 (.iload_n 2) 1 1 := by decide +kernel
theorem d28_1 : Dj jdk_43_method_47_code 1 (.ifCond .ne 6) 6 3 4 7 := by decide +kernel
theorem d28_7 : Dc jdk_43_method_47_code 7 (.new 1) 3 10 := by decide +kernel
theorem d28_10 : Dc jdk_43_method_47_code 10 (.dup) 1 11 := by decide +kernel
theorem d28_11 : Dc jdk_43_method_47_code 11 (.aload_n 0) 1 12 := by decide +kernel
theorem d28_12 : Dc jdk_43_method_47_code 12 (.iload_n 1) 1 13 := by decide +kernel
theorem d28_13 : Dc jdk_43_method_47_code 13 (.iload_n 1) 1 14 := by decide +kernel
theorem d28_14 : Dc jdk_43_method_47_code 14 (.iload_n 2) 1 15 := by decide +kernel
theorem d28_15 : Dc jdk_43_method_47_code 15 (.iadd) 1 16 := by decide +kernel
theorem d28_16 : Dc jdk_43_method_47_code 16 (.invokestatic 232) 3 19 := by decide +kernel
theorem d28_19 : Dc jdk_43_method_47_code 19 (.iconst 0) 1 20 := by decide +kernel
theorem d28_20 : Dc jdk_43_method_47_code 20 (.invokespecial 112) 3 23 := by decide +kernel
theorem pd_9 : parseMethodDescriptor "([BB)V" = some ⟨[(.array .byte), .byte], none⟩ := by decide +kernel
theorem d28_23 : Dc jdk_43_method_47_code 23 (.areturn) 1 24 := by decide +kernel
theorem rNs101 (l : Launch) {Z : State} {a0 : Array Value} (hw : ∀ d ∈ tables_1, d.before a0 Z = true) {h : Heap} (hE : Ext Z.heap h) (t : Addr) (kt : ClassId) (y tc : Int32) (VT : Arv Z h t kt .byte 2 [(.int y), (.int tc)] (.int (0 : Int32))) :
    Con l (⟨"java/lang/StringLatin1", "newString", "([BII)Ljava/lang/String;"⟩ : MethodName) jdk_43_method_47_code 3 (some (.object "java/lang/String")) [] ({ frames := 4, cells := 2, slots := 5, locals := 96 } : Room) Z #[(.ref t), (.int 0), (.int 1)] h (fun v' h' => ∃ (x_ t_ : Addr) (k_ : ClassId), v' = some (.ref x_) ∧ Z.heap.size ≤ x_ ∧ h.size ≤ x_ ∧ Ext h h' ∧ Exa Z h' x_ "java/lang/String" ∧ Fld Z h' x_ "java/lang/String" "coder" "B" (.int (0 : Int32)) ∧ Fld Z h' x_ "java/lang/String" "value" "[B" (.ref t_) ∧ Arv Z h' t_ k_ .byte 1 [(.int y)] (.int (0 : Int32))) := by
  refine con_of (plainFor_of_name pn_5) hE (fun m => ef_rNs101 m t) ?_
  intro p e s m below meth c T0 C X0
  have C : Cx p s m meth c Z "java/lang/StringLatin1" "newString" jdk_43_method_47_code 3 (some (.object "java/lang/String")) := C
  show Goes p e below _ T0 (mkF m 0 #[.val (.ref t), .val (.int 0), .val (.int 1)] [])
  refine g_iloadN C X0 d28_0 rfl (g_ifn (h0_ne _) C X0 d28_1 (fun _ => ?_) (fun q => absurd q (by decide)))
  refine g_new C X0 (wd hw 147 rfl) (wd hw 32 rfl) (wd hw 33 rfl) d28_7 (by decide) (by decide) (fun T383 h383 b383 g_b383 n_b383 X383 E383 A383 D383 M383 => ?_)
  have lt384 : t < b383 := by rw [g_b383]; exact Arv.lt VT
  have F_coder_b383 : Fld Z h383 b383 "java/lang/String" "coder" "B" (.int 0) := D383 (Or.inr (wd hw 57 rfl)) (ty := .byte) (by decide)
  have F_value_b383 : Fld Z h383 b383 "java/lang/String" "value" "[B" .null := D383 (Or.inr (wd hw 59 rfl)) (ty := (.array .byte)) (by decide)
  refine g_dup C X383 d28_10 rfl (g_aloadN C X383 d28_11 rfl rfl (g_iloadN C X383 d28_12 rfl (g_iloadN C X383 d28_13 rfl (g_iloadN C X383 d28_14 rfl (g_iadd C X383 d28_15 ?_)))))
  have f385 := (Arv.ext VT E383)
  refine g_static (argsL := [(.ref t), (.int 0), (.int 1)]) (st := [(.ref b383), (.ref b383)]) C X383 (wd hw 148 rfl) (wd hw 149 rfl) (wd hw 150 rfl) (wd hw 151 rfl) (by decide) (pay_of (W' := 2) (rCr101 l hw X383.ext t kt y tc f385) C.hZ (wd hw 151 rfl) (wd hw 150 rfl) (by decide) (by decide)) pd_8 rfl rfl _ rfl (Nat.le_of_eq rfl) d28_16 (by decide) (by decide) (fun T386 h386 v386 q386 X386 => ?_)
  obtain ⟨b386, k_b386, rfl, n_b386, g386, E386, V386⟩ := q386
  have lt387 : t < b386 := Nat.lt_of_lt_of_le (Arv.lt f385) g386
  have lt388 : b383 < b386 := Nat.lt_of_lt_of_le (Exa.lt A383) g386
  show Goes p e below _ T386 (mkF m 19 #[.val (.ref t), .val (.int 0), .val (.int 1)] [(.ref b386), (.ref b383), (.ref b383)])
  refine g_iconst 0 C X386 d28_19 rfl ?_
  have f389 := (Exa.ext E386 A383)
  have f390 := (Fld.ext E386 F_coder_b383)
  have f391 := (Fld.ext E386 F_value_b383)
  refine g_special (argsL := [(.ref b386), (.int 0)]) (st := [(.ref b383)]) C X386 rfl (wd hw 166 rfl) (wd hw 167 rfl) (wd hw 168 rfl) (by decide) (pay_of (W' := 1) (rIb l hw X386.ext b383 b386 f389 f390 f391 n_b383) C.hZ (wd hw 168 rfl) (wd hw 33 rfl) (by decide) (by decide)) pd_9 rfl rfl _ rfl (Nat.le_of_eq rfl) d28_20 (by decide) (by decide) (fun T392 h392 v392 q392 X392 => ?_)
  obtain ⟨rfl, K392, E392, C392, F392⟩ := q392
  show Goes p e below _ T392 (mkF m 23 #[.val (.ref t), .val (.int 0), .val (.int 1)] [(.ref b383)])
  have sz393 : h.size ≤ b383 := by rw [g_b383]; exact (Keep.refl h []).1
  have kp394 := (Keep.refl h []).ext E383
  have sz395 : h.size ≤ b386 := Nat.le_trans kp394.1 g386
  have kp396 := kp394.ext E386
  have kp397 := kp396.trans K392 (allS (Or.inr sz393) all0)
  have f398 := (Arv.keep V386 K392 (ninS (Nat.ne_of_gt lt388) nin0))
  exact g_retA C X392 rfl rfl d28_23 (by decide) (by decide) ⟨b383, b386, k_b386, rfl, n_b383, sz393, keep_ext kp397, E392, C392, F392, f398⟩
theorem ef_rTl101 (m : MethodId) (t : Addr) : entryFrame m #[(.ref t)] 3 = mkF m 0 #[.val (.ref t), .unset, .unset] [] := by first | (simp [entryFrame, mkF, argsToLocals, Value.category]; done) | rfl
theorem d18_0 : Dc jdk_43_method_36_code 0 (.aload_n 0) 1 1 := by decide +kernel
theorem d18_1 : Dc jdk_43_method_36_code 1 (.arraylength) 1 2 := by decide +kernel
theorem d18_2 : Dc jdk_43_method_36_code 2 (.istore_n 1) 1 3 := by decide +kernel
theorem d18_3 : Dc jdk_43_method_36_code 3 (.iconst 0) 1 4 := by decide +kernel
theorem d18_4 : Dc jdk_43_method_36_code 4 (.istore_n 2) 1 5 := by decide +kernel
theorem d18_5 : Dc jdk_43_method_36_code 5 (.iload_n 2) 1 6 := by decide +kernel
theorem d18_6 : Dc jdk_43_method_36_code 6 (.iload_n 1) 1 7 := by decide +kernel
theorem d18_7 : Dj jdk_43_method_36_code 7 (.if_icmp .ge 21) 21 3 10 28 := by decide +kernel
theorem d18_10 : Dc jdk_43_method_36_code 10 (.aload_n 0) 1 11 := by decide +kernel
theorem d18_11 : Dc jdk_43_method_36_code 11 (.iload_n 2) 1 12 := by decide +kernel
theorem d18_12 : Dc jdk_43_method_36_code 12 (.baload) 1 13 := by decide +kernel
theorem d18_13 : Dc jdk_43_method_36_code 13 (.sipush 255) 3 16 := by decide +kernel
theorem d18_16 : Dc jdk_43_method_36_code 16 (.iand) 1 17 := by decide +kernel
theorem d18_17 : Dc jdk_43_method_36_code 17 (.bipush 32) 2 19 := by decide +kernel
theorem d18_19 : Dj jdk_43_method_36_code 19 (.if_icmp .gt 9) 9 3 22 28 := by decide +kernel
theorem d18_28 : Dc jdk_43_method_36_code 28 (.iload_n 2) 1 29 := by decide +kernel
theorem d18_29 : Dc jdk_43_method_36_code 29 (.iload_n 1) 1 30 := by decide +kernel
theorem d18_30 : Dj jdk_43_method_36_code 30 (.if_icmp .ge 23) 23 3 33 53 := by decide +kernel
theorem d18_33 : Dc jdk_43_method_36_code 33 (.aload_n 0) 1 34 := by decide +kernel
theorem d18_34 : Dc jdk_43_method_36_code 34 (.iload_n 1) 1 35 := by decide +kernel
theorem d18_35 : Dc jdk_43_method_36_code 35 (.iconst 1) 1 36 := by decide +kernel
theorem d18_36 : Dc jdk_43_method_36_code 36 (.isub) 1 37 := by decide +kernel
theorem d18_37 : Dc jdk_43_method_36_code 37 (.baload) 1 38 := by decide +kernel
theorem d18_38 : Dc jdk_43_method_36_code 38 (.sipush 255) 3 41 := by decide +kernel
theorem d18_41 : Dc jdk_43_method_36_code 41 (.iand) 1 42 := by decide +kernel
theorem d18_42 : Dc jdk_43_method_36_code 42 (.bipush 32) 2 44 := by decide +kernel
theorem d18_44 : Dj jdk_43_method_36_code 44 (.if_icmp .gt 9) 9 3 47 53 := by decide +kernel
theorem d18_47 : Dc jdk_43_method_36_code 47 (.iinc 1 (-1)) 3 50 := by decide +kernel
theorem d18_50 : Dj jdk_43_method_36_code 50 (.goto (-22)) (-22) 3 53 28 := by decide +kernel
theorem d18_53 : Dc jdk_43_method_36_code 53 (.iload_n 2) 1 54 := by decide +kernel
theorem d18_54 : Dj jdk_43_method_36_code 54 (.ifCond .gt 9) 9 3 57 63 := by decide +kernel
theorem d18_57 : Dc jdk_43_method_36_code 57 (.iload_n 1) 1 58 := by decide +kernel
theorem d18_58 : Dc jdk_43_method_36_code 58 (.aload_n 0) 1 59 := by decide +kernel
theorem d18_59 : Dc jdk_43_method_36_code 59 (.arraylength) 1 60 := by decide +kernel
theorem d18_60 : Dj jdk_43_method_36_code 60 (.if_icmp .ge 14) 14 3 63 74 := by decide +kernel
theorem d18_63 : Dc jdk_43_method_36_code 63 (.aload_n 0) 1 64 := by decide +kernel
theorem d18_64 : Dc jdk_43_method_36_code 64 (.iload_n 2) 1 65 := by decide +kernel
theorem d18_65 : Dc jdk_43_method_36_code 65 (.iload_n 1) 1 66 := by decide +kernel
theorem d18_66 : Dc jdk_43_method_36_code 66 (.iload_n 2) 1 67 := by decide +kernel
theorem d18_67 : Dc jdk_43_method_36_code 67 (.isub) 1 68 := by decide +kernel
theorem d18_68 : Dc jdk_43_method_36_code 68 (.invokestatic 210) 3 71 := by decide +kernel
theorem pd_10 : parseMethodDescriptor "([BII)Ljava/lang/String;" = some ⟨[(.array .byte), .int, .int], some (.object "java/lang/String")⟩ := by decide +kernel
theorem d18_71 : Dj jdk_43_method_36_code 71 (.goto 4) 4 3 74 75 := by decide +kernel
theorem d18_75 : Dc jdk_43_method_36_code 75 (.areturn) 1 76 := by decide +kernel
theorem rTl101 (l : Launch) {Z : State} {a0 : Array Value} (hw : ∀ d ∈ tables_1, d.before a0 Z = true) {h : Heap} (hE : Ext Z.heap h) (t : Addr) (kt : ClassId) (y tc : Int32) (VT : Arv Z h t kt .byte 2 [(.int y), (.int tc)] (.int (0 : Int32))) (hy : ((32 : Int32) < y ∧ ¬ (127 : Int32) < y)) (htc : (¬ tc < 0 ∧ ¬ (32 : Int32) < tc)) :
    Con l (⟨"java/lang/StringLatin1", "trim", "([B)Ljava/lang/String;"⟩ : MethodName) jdk_43_method_36_code 3 (some (.object "java/lang/String")) [] ({ frames := 5, cells := 2, slots := 5, locals := 120 } : Room) Z #[(.ref t)] h (fun v' h' => ∃ (x_ t_ : Addr) (k_ : ClassId), v' = some (.ref x_) ∧ Z.heap.size ≤ x_ ∧ h.size ≤ x_ ∧ Ext h h' ∧ Exa Z h' x_ "java/lang/String" ∧ Fld Z h' x_ "java/lang/String" "coder" "B" (.int (0 : Int32)) ∧ Fld Z h' x_ "java/lang/String" "value" "[B" (.ref t_) ∧ Arv Z h' t_ k_ .byte 1 [(.int y)] (.int (0 : Int32))) := by
  refine con_of (plainFor_of_name pn_5) hE (fun m => ef_rTl101 m t) ?_
  intro p e s m below meth c T0 C X0
  have C : Cx p s m meth c Z "java/lang/StringLatin1" "trim" jdk_43_method_36_code 3 (some (.object "java/lang/String")) := C
  show Goes p e below _ T0 (mkF m 0 #[.val (.ref t), .unset, .unset] [])
  refine g_aloadN C X0 d18_0 rfl rfl (g_arraylength C X0 VT d18_1 (g_istoreN C X0 d18_2 (l' := #[.val (.ref t), .val (.int 2), .unset]) rfl (g_iconst 0 C X0 d18_3 rfl (g_istoreN C X0 d18_4 (l' := #[.val (.ref t), .val (.int 2), .val (.int 0)]) rfl (g_iloadN C X0 d18_5 rfl (g_iloadN C X0 d18_6 rfl (g_icmpn (hI_ge _ _) C X0 d18_7 (fun q => absurd (by decide) q) (fun _ => ?_))))))))
  refine g_aloadN C X0 d18_10 rfl rfl (g_iloadN C X0 d18_11 rfl (g_baload C X0 VT d18_12 (by decide) (by decide) rfl (g_sipush 255 C X0 d18_13 rfl (g_iand C X0 d18_16 (g_bipush 32 C X0 d18_17 rfl (g_icmp (hI_gt _ _) C X0 d18_19 (fun _ => ?_) (fun q => absurd (own_trY hy) q)))))))
  refine g_iloadN C X0 d18_28 rfl (g_iloadN C X0 d18_29 rfl (g_icmpn (hI_ge _ _) C X0 d18_30 (fun q => absurd (by decide) q) (fun _ => ?_)))
  refine g_aloadN C X0 d18_33 rfl rfl (g_iloadN C X0 d18_34 rfl (g_iconst 1 C X0 d18_35 rfl (g_isub C X0 d18_36 (g_baload C X0 VT d18_37 (by decide) (by decide) rfl (g_sipush 255 C X0 d18_38 rfl (g_iand C X0 d18_41 (g_bipush 32 C X0 d18_42 rfl (g_icmp (hI_gt _ _) C X0 d18_44 (fun q => absurd q (own_trN htc)) (fun _ => ?_)))))))))
  refine g_iinc (-1) C X0 d18_47 rfl rfl (l' := #[.val (.ref t), .val (.int 1), .val (.int 0)]) rfl (g_goto C X0 d18_50 (g_iloadN C X0 d18_28 rfl (g_iloadN C X0 d18_29 rfl (g_icmpn (hI_ge _ _) C X0 d18_30 (fun q => absurd (by decide) q) (fun _ => ?_)))))
  refine g_aloadN C X0 d18_33 rfl rfl (g_iloadN C X0 d18_34 rfl (g_iconst 1 C X0 d18_35 rfl (g_isub C X0 d18_36 (g_baload C X0 VT d18_37 (by decide) (by decide) rfl (g_sipush 255 C X0 d18_38 rfl (g_iand C X0 d18_41 (g_bipush 32 C X0 d18_42 rfl (g_icmp (hI_gt _ _) C X0 d18_44 (fun _ => ?_) (fun q => absurd (own_trY hy) q)))))))))
  refine g_iloadN C X0 d18_53 rfl (g_if (h0_gt _) C X0 d18_54 (fun q => absurd q (by decide)) (fun _ => ?_))
  refine g_iloadN C X0 d18_57 rfl (g_aloadN C X0 d18_58 rfl rfl (g_arraylength C X0 VT d18_59 (g_icmpn (hI_ge _ _) C X0 d18_60 (fun q => absurd (by decide) q) (fun _ => ?_))))
  refine g_aloadN C X0 d18_63 rfl rfl (g_iloadN C X0 d18_64 rfl (g_iloadN C X0 d18_65 rfl (g_iloadN C X0 d18_66 rfl (g_isub C X0 d18_67 (g_static (argsL := [(.ref t), (.int 0), (.int 1)]) (st := []) C X0 (wd hw 144 rfl) (wd hw 145 rfl) (wd hw 92 rfl) (wd hw 146 rfl) (by decide) (pay_of (W' := 0) (rNs101 l hw X0.ext t kt y tc VT) C.hZ (wd hw 146 rfl) (wd hw 92 rfl) (by decide) (by decide)) pd_10 rfl rfl _ rfl (Nat.le_of_eq rfl) d18_68 (by decide) (by decide) (fun T399 h399 v399 q399 X399 => ?_))))))
  obtain ⟨x399, t399, k399, rfl, A399⟩ := q399
  show Goes p e below _ T399 (mkF m 71 #[.val (.ref t), .val (.int 1), .val (.int 0)] [(.ref x399)])
  refine g_goto C X399 d18_71 ?_
  exact g_retA C X399 rfl rfl d18_75 (by decide) (by decide) ⟨x399, t399, k399, rfl, A399⟩
theorem ef_rTr101 (m : MethodId) (x : Addr) : entryFrame m #[(.ref x)] 2 = mkF m 0 #[.val (.ref x), .unset] [] := by first | (simp [entryFrame, mkF, argsToLocals, Value.category]; done) | rfl
theorem d16_0 : Dc jdk_42_method_113_code 0 (.aload_n 0) 1 1 := by decide +kernel
theorem d16_1 : Dc jdk_42_method_113_code 1 (.invokevirtual 492) 3 4 := by decide +kernel
theorem pd_11 : parseMethodDescriptor "()Z" = some ⟨[], some .boolean⟩ := by decide +kernel
theorem d16_4 : Dj jdk_42_method_113_code 4 (.ifCond .eq 13) 13 3 7 17 := by decide +kernel
theorem d16_7 : Dc jdk_42_method_113_code 7 (.aload_n 0) 1 8 := by decide +kernel
theorem d16_8 : Dc jdk_42_method_113_code 8 (.getfield 9) 3 11 := by decide +kernel
theorem d16_11 : Dc jdk_42_method_113_code 11 (.invokestatic 859) 3 14 := by decide +kernel
theorem pd_12 : parseMethodDescriptor "([B)Ljava/lang/String;" = some ⟨[(.array .byte)], some (.object "java/lang/String")⟩ := by decide +kernel
theorem d16_14 : Dj jdk_42_method_113_code 14 (.goto 10) 10 3 17 24 := by decide +kernel
theorem d16_24 : Dc jdk_42_method_113_code 24 (.astore_n 1) 1 25 := by decide +kernel
theorem d16_25 : Dc jdk_42_method_113_code 25 (.aload_n 1) 1 26 := by decide +kernel
theorem d16_26 : Dj jdk_42_method_113_code 26 (.ifnonnull 7) 7 3 29 33 := by decide +kernel
theorem d16_33 : Dc jdk_42_method_113_code 33 (.aload_n 1) 1 34 := by decide +kernel
theorem d16_34 : Dc jdk_42_method_113_code 34 (.areturn) 1 35 := by decide +kernel
theorem rTr101 (l : Launch) {Z : State} {a0 : Array Value} (hw : ∀ d ∈ tables_1, d.before a0 Z = true) {h : Heap} (hE : Ext Z.heap h) (x : Addr) (z_ : Int32) (SZ : Sta Z Z.heap "java/lang/String" "COMPACT_STRINGS" "Z" (.int z_)) (hz : ¬ z_ = 0) (t : Addr) (kt : ClassId) (y tc : Int32) (EX : Exa Z h x "java/lang/String") (FC : Fld Z h x "java/lang/String" "coder" "B" (.int (0 : Int32))) (FV : Fld Z h x "java/lang/String" "value" "[B" (.ref t)) (VT : Arv Z h t kt .byte 2 [(.int y), (.int tc)] (.int (0 : Int32))) (hy : ((32 : Int32) < y ∧ ¬ (127 : Int32) < y)) (htc : (¬ tc < 0 ∧ ¬ (32 : Int32) < tc)) :
    Con l (⟨"java/lang/String", "trim", "()Ljava/lang/String;"⟩ : MethodName) jdk_42_method_113_code 2 (some (.object "java/lang/String")) [] ({ frames := 6, cells := 2, slots := 5, locals := 144 } : Room) Z #[(.ref x)] h (fun v' h' => ∃ (x_ t_ : Addr) (k_ : ClassId), v' = some (.ref x_) ∧ Z.heap.size ≤ x_ ∧ h.size ≤ x_ ∧ Ext h h' ∧ Exa Z h' x_ "java/lang/String" ∧ Fld Z h' x_ "java/lang/String" "coder" "B" (.int (0 : Int32)) ∧ Fld Z h' x_ "java/lang/String" "value" "[B" (.ref t_) ∧ Arv Z h' t_ k_ .byte 1 [(.int y)] (.int (0 : Int32))) := by
  refine con_of (plainFor_of_name pn_3) hE (fun m => ef_rTr101 m x) ?_
  intro p e s m below meth c T0 C X0
  have C : Cx p s m meth c Z "java/lang/String" "trim" jdk_42_method_113_code 2 (some (.object "java/lang/String")) := C
  show Goes p e below _ T0 (mkF m 0 #[.val (.ref x), .unset] [])
  refine g_aloadN C X0 d16_0 rfl rfl (g_virtualP (argsL := []) (st := []) C X0 (wd hw 85 rfl) (wd hw 86 rfl) (nf_of C (wd hw 88 rfl) rfl rfl) (wd hw 88 rfl) (wd hw 87 rfl) (by decide) EX (pay_of (W' := 0) (rIL l hw X0.ext x z_ SZ hz FC) C.hZ (wd hw 89 rfl) (wd hw 33 rfl) (by decide) (by decide)) pd_11 rfl rfl _ rfl (Nat.le_of_eq rfl) d16_1 (by decide) (by decide) (fun T400 X400 => ?_))
  refine g_if (h0_eq _) C X400 d16_4 (fun q => absurd q (by decide)) (fun _ => ?_)
  refine g_aloadN C X400 d16_7 rfl rfl (g_getfield (host := "") C X400 (Or.inl (wd hw 58 rfl)) Via.refl FV d16_8 (fun T401 X401 => ?_))
  refine g_static (argsL := [(.ref t)]) (st := []) C X401 (wd hw 90 rfl) (wd hw 91 rfl) (wd hw 92 rfl) (wd hw 93 rfl) (by decide) (pay_of (W' := 0) (rTl101 l hw X401.ext t kt y tc VT hy htc) C.hZ (wd hw 93 rfl) (wd hw 92 rfl) (by decide) (by decide)) pd_12 rfl rfl _ rfl (Nat.le_of_eq rfl) d16_11 (by decide) (by decide) (fun T402 h402 v402 q402 X402 => ?_)
  obtain ⟨x402, t402, k402, rfl, A402⟩ := q402
  show Goes p e below _ T402 (mkF m 14 #[.val (.ref x), .unset] [(.ref x402)])
  refine g_goto C X402 d16_14 (g_astoreN C X402 d16_24 rfl (l' := #[.val (.ref x), .val (.ref x402)]) rfl (g_aloadN C X402 d16_25 rfl rfl (g_ifnonnull C X402 d16_26 rfl (fun _ => ?_) (fun q => absurd q nofun))))
  refine g_aloadN C X402 d16_33 rfl rfl ?_
  exact g_retA C X402 rfl rfl d16_34 (by decide) (by decide) ⟨x402, t402, k402, rfl, A402⟩
theorem ef_rCl110 (m : MethodId)  : entryFrame m #[(.int 1), (.int 2)] 2 = mkF m 0 #[.val (.int 1), .val (.int 2)] [] := by first | (simp [entryFrame, mkF, argsToLocals, Value.category]; done) | rfl
theorem rCl110 (l : Launch) {Z : State} {a0 : Array Value} (hw : ∀ d ∈ tables_1, d.before a0 Z = true) {h : Heap} (hE : Ext Z.heap h)    :
    Con l (⟨"java/util/Arrays", "checkLength", "(II)V"⟩ : MethodName) jdk_65_method_131_code 2 none [] ({ frames := 0, cells := 0, slots := 0, locals := 0 } : Room) Z #[(.int 1), (.int 2)] h (fun v' h' => v' = none ∧ h' = h) := by
  refine con_of (plainFor_of_name pn_4) hE (fun m => ef_rCl110 m ) ?_
  intro p e s m below meth c T0 C X0
  have C : Cx p s m meth c Z "java/util/Arrays" "checkLength" jdk_65_method_131_code 2 none := C
  show Goes p e below _ T0 (mkF m 0 #[.val (.int 1), .val (.int 2)] [])
  refine g_iloadN C X0 d31_0 rfl (g_iloadN C X0 d31_1 rfl (g_icmpn (hI_ge _ _) C X0 d31_2 (fun _ => ?_) (fun q => absurd q (by decide))))
  exact g_retV C X0 d31_37 (by decide) (by decide) ⟨rfl, rfl⟩
theorem ef_rCb110 (m : MethodId) (t : Addr) : entryFrame m #[(.ref t), (.int 1), (.int 2)] 5 = mkF m 0 #[.val (.ref t), .val (.int 1), .val (.int 2), .unset, .unset] [] := by first | (simp [entryFrame, mkF, argsToLocals, Value.category]; done) | rfl
theorem rCb110 (l : Launch) {Z : State} {a0 : Array Value} (hw : ∀ d ∈ tables_1, d.before a0 Z = true) {h : Heap} (hE : Ext Z.heap h) (t : Addr) (kt : ClassId) (lc y : Int32) (VT : Arv Z h t kt .byte 2 [(.int lc), (.int y)] (.int (0 : Int32))) :
    Con l (⟨"java/util/Arrays", "copyOfRangeByte", "([BII)[B"⟩ : MethodName) jdk_65_method_133_code 5 (some (.array .byte)) [] ({ frames := 2, cells := 1, slots := 1, locals := 48 } : Room) Z #[(.ref t), (.int 1), (.int 2)] h (fun v' h' => ∃ b_ kb, v' = some (.ref b_) ∧ Z.heap.size ≤ b_ ∧ h.size ≤ b_ ∧ Ext h h' ∧ Arv Z h' b_ kb .byte 1 [(.int y)] (.int (0 : Int32))) := by
  refine con_of (plainFor_of_name pn_4) hE (fun m => ef_rCb110 m t) ?_
  intro p e s m below meth c T0 C X0
  have C : Cx p s m meth c Z "java/util/Arrays" "copyOfRangeByte" jdk_65_method_133_code 5 (some (.array .byte)) := C
  show Goes p e below _ T0 (mkF m 0 #[.val (.ref t), .val (.int 1), .val (.int 2), .unset, .unset] [])
  refine g_iloadN C X0 d30_0 rfl (g_iloadN C X0 d30_1 rfl (g_staticPV (argsL := [(.int 1), (.int 2)]) (st := []) C X0 (wd hw 155 rfl) (wd hw 156 rfl) (wd hw 150 rfl) (wd hw 157 rfl) (by decide) (pay_of (W' := 0) (rCl110 l hw X0.ext) C.hZ (wd hw 157 rfl) (wd hw 150 rfl) (by decide) (by decide)) pd_6 rfl rfl _ rfl (Nat.le_of_eq rfl) d30_2 (by decide) (by decide) (fun T403 X403 => ?_)))
  refine g_iloadN C X403 d30_5 rfl (g_iloadN C X403 d30_6 rfl (g_isub C X403 d30_7 (g_istoreN C X403 d30_8 (l' := #[.val (.ref t), .val (.int 1), .val (.int 2), .val (.int 1), .unset]) rfl (g_iloadN C X403 d30_9 rfl (g_newarray C X403 (wd hw 49 rfl) d30_10 (by decide) 1 1 (by decide) (by decide) (by decide) (by decide) (fun T404 h404 b404 k_b404 g_b404 n_b404 X404 E404 V404 => ?_))))))
  have lt405 : t < b404 := by rw [g_b404]; exact Arv.lt VT
  have V_b404 : Arv Z h404 b404 k_b404 .byte (1 : Int32) [(.int 0)] (.int 0) := V404
  refine g_astore C X404 d30_12 rfl (l' := #[.val (.ref t), .val (.int 1), .val (.int 2), .val (.int 1), .val (.ref b404)]) rfl (g_aloadN C X404 d30_14 rfl rfl (g_iloadN C X404 d30_15 rfl (g_aload C X404 d30_16 rfl rfl (g_iconst 0 C X404 d30_18 rfl (g_aloadN C X404 d30_19 rfl rfl ?_)))))
  have f406 := (Arv.ext VT E404)
  refine g_arraylength C X404 f406 d30_20 (g_iloadN C X404 d30_21 rfl (g_isub C X404 d30_22 (g_iloadN C X404 d30_23 rfl (g_staticP (argsL := [(.int 1), (.int 1)]) (st := [(.int 0), (.ref b404), (.int 1), (.ref t)]) C X404 (wd hw 158 rfl) (wd hw 159 rfl) (wd hw 160 rfl) (wd hw 161 rfl) (by decide) (pay_of (W' := 4) (rMin l hw X404.ext (1 : Int32) (1 : Int32)) C.hZ (wd hw 161 rfl) (wd hw 160 rfl) (by decide) (by decide)) pd_7 rfl rfl _ rfl (Nat.le_of_eq rfl) d30_24 (by decide) (by decide) (fun T407 X407 => ?_)))))
  refine g_arraycopy C X407 (wd hw 162 rfl) (wd hw 165 rfl) (wd hw 163 rfl) (wd hw 164 rfl) f406 V_b404 rfl (by decide) (by decide) (by decide) (by decide) (by decide) [(.int y)] rfl (Nat.le_of_ble_eq_true rfl) n_b404 rfl d30_27 (by decide) 0 (Nat.le_of_eq rfl) (by decide) (fun T408 h408 X408 K408 V408 => ?_)
  have V408_b404 : Arv Z h408 b404 k_b404 .byte (1 : Int32) [(.int y)] (.int 0) := V408
  show Goes p e below _ T408 (mkF m 30 #[.val (.ref t), .val (.int 1), .val (.int 2), .val (.int 1), .val (.ref b404)] [])
  refine g_aload C X408 d30_30 rfl rfl ?_
  have sz409 : h.size ≤ b404 := by rw [g_b404]; exact (Keep.refl h []).1
  have kp410 := (Keep.refl h []).ext E404
  have kp411 := kp410.trans K408 (allS (Or.inr sz409) all0)
  exact g_retA C X408 rfl rfl d30_32 (by decide) (by decide) ⟨b404, k_b404, rfl, n_b404, sz409, keep_ext kp411, V408_b404⟩
theorem ef_rCr110 (m : MethodId) (t : Addr) : entryFrame m #[(.ref t), (.int 1), (.int 2)] 3 = mkF m 0 #[.val (.ref t), .val (.int 1), .val (.int 2)] [] := by first | (simp [entryFrame, mkF, argsToLocals, Value.category]; done) | rfl
theorem rCr110 (l : Launch) {Z : State} {a0 : Array Value} (hw : ∀ d ∈ tables_1, d.before a0 Z = true) {h : Heap} (hE : Ext Z.heap h) (t : Addr) (kt : ClassId) (lc y : Int32) (VT : Arv Z h t kt .byte 2 [(.int lc), (.int y)] (.int (0 : Int32))) :
    Con l (⟨"java/util/Arrays", "copyOfRange", "([BII)[B"⟩ : MethodName) jdk_65_method_132_code 3 (some (.array .byte)) [] ({ frames := 3, cells := 1, slots := 1, locals := 72 } : Room) Z #[(.ref t), (.int 1), (.int 2)] h (fun v' h' => ∃ b_ kb, v' = some (.ref b_) ∧ Z.heap.size ≤ b_ ∧ h.size ≤ b_ ∧ Ext h h' ∧ Arv Z h' b_ kb .byte 1 [(.int y)] (.int (0 : Int32))) := by
  refine con_of (plainFor_of_name pn_4) hE (fun m => ef_rCr110 m t) ?_
  intro p e s m below meth c T0 C X0
  have C : Cx p s m meth c Z "java/util/Arrays" "copyOfRange" jdk_65_method_132_code 3 (some (.array .byte)) := C
  show Goes p e below _ T0 (mkF m 0 #[.val (.ref t), .val (.int 1), .val (.int 2)] [])
  refine g_iloadN C X0 d29_0 rfl (g_ifn (h0_ne _) C X0 d29_1 (fun _ => ?_) (fun q => absurd q (by decide)))
  refine g_aloadN C X0 d29_10 rfl rfl (g_iloadN C X0 d29_11 rfl (g_iloadN C X0 d29_12 rfl (g_static (argsL := [(.ref t), (.int 1), (.int 2)]) (st := []) C X0 (wd hw 152 rfl) (wd hw 153 rfl) (wd hw 150 rfl) (wd hw 154 rfl) (by decide) (pay_of (W' := 0) (rCb110 l hw X0.ext t kt lc y VT) C.hZ (wd hw 154 rfl) (wd hw 150 rfl) (by decide) (by decide)) pd_8 rfl rfl _ rfl (Nat.le_of_eq rfl) d29_13 (by decide) (by decide) (fun T412 h412 v412 q412 X412 => ?_))))
  obtain ⟨b412, k_b412, rfl, n_b412, g412, E412, V412⟩ := q412
  have lt413 : t < b412 := Nat.lt_of_lt_of_le (Arv.lt VT) g412
  show Goes p e below _ T412 (mkF m 16 #[.val (.ref t), .val (.int 1), .val (.int 2)] [(.ref b412)])
  have sz414 : h.size ≤ b412 := Nat.le_trans (Keep.refl h []).1 g412
  have kp415 := (Keep.refl h []).ext E412
  exact g_retA C X412 rfl rfl d29_16 (by decide) (by decide) ⟨b412, k_b412, rfl, n_b412, sz414, keep_ext kp415, V412⟩
theorem ef_rNs110 (m : MethodId) (t : Addr) : entryFrame m #[(.ref t), (.int 1), (.int 1)] 3 = mkF m 0 #[.val (.ref t), .val (.int 1), .val (.int 1)] [] := by first | (simp [entryFrame, mkF, argsToLocals, Value.category]; done) | rfl
theorem rNs110 (l : Launch) {Z : State} {a0 : Array Value} (hw : ∀ d ∈ tables_1, d.before a0 Z = true) {h : Heap} (hE : Ext Z.heap h) (t : Addr) (kt : ClassId) (lc y : Int32) (VT : Arv Z h t kt .byte 2 [(.int lc), (.int y)] (.int (0 : Int32))) :
    Con l (⟨"java/lang/StringLatin1", "newString", "([BII)Ljava/lang/String;"⟩ : MethodName) jdk_43_method_47_code 3 (some (.object "java/lang/String")) [] ({ frames := 4, cells := 2, slots := 5, locals := 96 } : Room) Z #[(.ref t), (.int 1), (.int 1)] h (fun v' h' => ∃ (x_ t_ : Addr) (k_ : ClassId), v' = some (.ref x_) ∧ Z.heap.size ≤ x_ ∧ h.size ≤ x_ ∧ Ext h h' ∧ Exa Z h' x_ "java/lang/String" ∧ Fld Z h' x_ "java/lang/String" "coder" "B" (.int (0 : Int32)) ∧ Fld Z h' x_ "java/lang/String" "value" "[B" (.ref t_) ∧ Arv Z h' t_ k_ .byte 1 [(.int y)] (.int (0 : Int32))) := by
  refine con_of (plainFor_of_name pn_5) hE (fun m => ef_rNs110 m t) ?_
  intro p e s m below meth c T0 C X0
  have C : Cx p s m meth c Z "java/lang/StringLatin1" "newString" jdk_43_method_47_code 3 (some (.object "java/lang/String")) := C
  show Goes p e below _ T0 (mkF m 0 #[.val (.ref t), .val (.int 1), .val (.int 1)] [])
  refine g_iloadN C X0 d28_0 rfl (g_ifn (h0_ne _) C X0 d28_1 (fun _ => ?_) (fun q => absurd q (by decide)))
  refine g_new C X0 (wd hw 147 rfl) (wd hw 32 rfl) (wd hw 33 rfl) d28_7 (by decide) (by decide) (fun T416 h416 b416 g_b416 n_b416 X416 E416 A416 D416 M416 => ?_)
  have lt417 : t < b416 := by rw [g_b416]; exact Arv.lt VT
  have F_coder_b416 : Fld Z h416 b416 "java/lang/String" "coder" "B" (.int 0) := D416 (Or.inr (wd hw 57 rfl)) (ty := .byte) (by decide)
  have F_value_b416 : Fld Z h416 b416 "java/lang/String" "value" "[B" .null := D416 (Or.inr (wd hw 59 rfl)) (ty := (.array .byte)) (by decide)
  refine g_dup C X416 d28_10 rfl (g_aloadN C X416 d28_11 rfl rfl (g_iloadN C X416 d28_12 rfl (g_iloadN C X416 d28_13 rfl (g_iloadN C X416 d28_14 rfl (g_iadd C X416 d28_15 ?_)))))
  have f418 := (Arv.ext VT E416)
  refine g_static (argsL := [(.ref t), (.int 1), (.int 2)]) (st := [(.ref b416), (.ref b416)]) C X416 (wd hw 148 rfl) (wd hw 149 rfl) (wd hw 150 rfl) (wd hw 151 rfl) (by decide) (pay_of (W' := 2) (rCr110 l hw X416.ext t kt lc y f418) C.hZ (wd hw 151 rfl) (wd hw 150 rfl) (by decide) (by decide)) pd_8 rfl rfl _ rfl (Nat.le_of_eq rfl) d28_16 (by decide) (by decide) (fun T419 h419 v419 q419 X419 => ?_)
  obtain ⟨b419, k_b419, rfl, n_b419, g419, E419, V419⟩ := q419
  have lt420 : t < b419 := Nat.lt_of_lt_of_le (Arv.lt f418) g419
  have lt421 : b416 < b419 := Nat.lt_of_lt_of_le (Exa.lt A416) g419
  show Goes p e below _ T419 (mkF m 19 #[.val (.ref t), .val (.int 1), .val (.int 1)] [(.ref b419), (.ref b416), (.ref b416)])
  refine g_iconst 0 C X419 d28_19 rfl ?_
  have f422 := (Exa.ext E419 A416)
  have f423 := (Fld.ext E419 F_coder_b416)
  have f424 := (Fld.ext E419 F_value_b416)
  refine g_special (argsL := [(.ref b419), (.int 0)]) (st := [(.ref b416)]) C X419 rfl (wd hw 166 rfl) (wd hw 167 rfl) (wd hw 168 rfl) (by decide) (pay_of (W' := 1) (rIb l hw X419.ext b416 b419 f422 f423 f424 n_b416) C.hZ (wd hw 168 rfl) (wd hw 33 rfl) (by decide) (by decide)) pd_9 rfl rfl _ rfl (Nat.le_of_eq rfl) d28_20 (by decide) (by decide) (fun T425 h425 v425 q425 X425 => ?_)
  obtain ⟨rfl, K425, E425, C425, F425⟩ := q425
  show Goes p e below _ T425 (mkF m 23 #[.val (.ref t), .val (.int 1), .val (.int 1)] [(.ref b416)])
  have sz426 : h.size ≤ b416 := by rw [g_b416]; exact (Keep.refl h []).1
  have kp427 := (Keep.refl h []).ext E416
  have sz428 : h.size ≤ b419 := Nat.le_trans kp427.1 g419
  have kp429 := kp427.ext E419
  have kp430 := kp429.trans K425 (allS (Or.inr sz426) all0)
  have f431 := (Arv.keep V419 K425 (ninS (Nat.ne_of_gt lt421) nin0))
  exact g_retA C X425 rfl rfl d28_23 (by decide) (by decide) ⟨b416, b419, k_b419, rfl, n_b416, sz426, keep_ext kp430, E425, C425, F425, f431⟩
theorem ef_rTl110 (m : MethodId) (t : Addr) : entryFrame m #[(.ref t)] 3 = mkF m 0 #[.val (.ref t), .unset, .unset] [] := by first | (simp [entryFrame, mkF, argsToLocals, Value.category]; done) | rfl
theorem d18_22 : Dc jdk_43_method_36_code 22 (.iinc 2 1) 3 25 := by decide +kernel
theorem d18_25 : Dj jdk_43_method_36_code 25 (.goto (-20)) (-20) 3 28 5 := by decide +kernel
theorem rTl110 (l : Launch) {Z : State} {a0 : Array Value} (hw : ∀ d ∈ tables_1, d.before a0 Z = true) {h : Heap} (hE : Ext Z.heap h) (t : Addr) (kt : ClassId) (lc y : Int32) (VT : Arv Z h t kt .byte 2 [(.int lc), (.int y)] (.int (0 : Int32))) (hlc : (¬ lc < 0 ∧ ¬ (32 : Int32) < lc)) (hy : ((32 : Int32) < y ∧ ¬ (127 : Int32) < y)) :
    Con l (⟨"java/lang/StringLatin1", "trim", "([B)Ljava/lang/String;"⟩ : MethodName) jdk_43_method_36_code 3 (some (.object "java/lang/String")) [] ({ frames := 5, cells := 2, slots := 5, locals := 120 } : Room) Z #[(.ref t)] h (fun v' h' => ∃ (x_ t_ : Addr) (k_ : ClassId), v' = some (.ref x_) ∧ Z.heap.size ≤ x_ ∧ h.size ≤ x_ ∧ Ext h h' ∧ Exa Z h' x_ "java/lang/String" ∧ Fld Z h' x_ "java/lang/String" "coder" "B" (.int (0 : Int32)) ∧ Fld Z h' x_ "java/lang/String" "value" "[B" (.ref t_) ∧ Arv Z h' t_ k_ .byte 1 [(.int y)] (.int (0 : Int32))) := by
  refine con_of (plainFor_of_name pn_5) hE (fun m => ef_rTl110 m t) ?_
  intro p e s m below meth c T0 C X0
  have C : Cx p s m meth c Z "java/lang/StringLatin1" "trim" jdk_43_method_36_code 3 (some (.object "java/lang/String")) := C
  show Goes p e below _ T0 (mkF m 0 #[.val (.ref t), .unset, .unset] [])
  refine g_aloadN C X0 d18_0 rfl rfl (g_arraylength C X0 VT d18_1 (g_istoreN C X0 d18_2 (l' := #[.val (.ref t), .val (.int 2), .unset]) rfl (g_iconst 0 C X0 d18_3 rfl (g_istoreN C X0 d18_4 (l' := #[.val (.ref t), .val (.int 2), .val (.int 0)]) rfl (g_iloadN C X0 d18_5 rfl (g_iloadN C X0 d18_6 rfl (g_icmpn (hI_ge _ _) C X0 d18_7 (fun q => absurd (by decide) q) (fun _ => ?_))))))))
  refine g_aloadN C X0 d18_10 rfl rfl (g_iloadN C X0 d18_11 rfl (g_baload C X0 VT d18_12 (by decide) (by decide) rfl (g_sipush 255 C X0 d18_13 rfl (g_iand C X0 d18_16 (g_bipush 32 C X0 d18_17 rfl (g_icmp (hI_gt _ _) C X0 d18_19 (fun q => absurd q (own_trN hlc)) (fun _ => ?_)))))))
  refine g_iinc 1 C X0 d18_22 rfl rfl (l' := #[.val (.ref t), .val (.int 2), .val (.int 1)]) rfl (g_goto C X0 d18_25 (g_iloadN C X0 d18_5 rfl (g_iloadN C X0 d18_6 rfl (g_icmpn (hI_ge _ _) C X0 d18_7 (fun q => absurd (by decide) q) (fun _ => ?_)))))
  refine g_aloadN C X0 d18_10 rfl rfl (g_iloadN C X0 d18_11 rfl (g_baload C X0 VT d18_12 (by decide) (by decide) rfl (g_sipush 255 C X0 d18_13 rfl (g_iand C X0 d18_16 (g_bipush 32 C X0 d18_17 rfl (g_icmp (hI_gt _ _) C X0 d18_19 (fun _ => ?_) (fun q => absurd (own_trY hy) q)))))))
  refine g_iloadN C X0 d18_28 rfl (g_iloadN C X0 d18_29 rfl (g_icmpn (hI_ge _ _) C X0 d18_30 (fun q => absurd (by decide) q) (fun _ => ?_)))
  refine g_aloadN C X0 d18_33 rfl rfl (g_iloadN C X0 d18_34 rfl (g_iconst 1 C X0 d18_35 rfl (g_isub C X0 d18_36 (g_baload C X0 VT d18_37 (by decide) (by decide) rfl (g_sipush 255 C X0 d18_38 rfl (g_iand C X0 d18_41 (g_bipush 32 C X0 d18_42 rfl (g_icmp (hI_gt _ _) C X0 d18_44 (fun _ => ?_) (fun q => absurd (own_trY hy) q)))))))))
  refine g_iloadN C X0 d18_53 rfl (g_if (h0_gt _) C X0 d18_54 (fun _ => ?_) (fun q => absurd (by decide) q))
  refine g_aloadN C X0 d18_63 rfl rfl (g_iloadN C X0 d18_64 rfl (g_iloadN C X0 d18_65 rfl (g_iloadN C X0 d18_66 rfl (g_isub C X0 d18_67 (g_static (argsL := [(.ref t), (.int 1), (.int 1)]) (st := []) C X0 (wd hw 144 rfl) (wd hw 145 rfl) (wd hw 92 rfl) (wd hw 146 rfl) (by decide) (pay_of (W' := 0) (rNs110 l hw X0.ext t kt lc y VT) C.hZ (wd hw 146 rfl) (wd hw 92 rfl) (by decide) (by decide)) pd_10 rfl rfl _ rfl (Nat.le_of_eq rfl) d18_68 (by decide) (by decide) (fun T432 h432 v432 q432 X432 => ?_))))))
  obtain ⟨x432, t432, k432, rfl, A432⟩ := q432
  show Goes p e below _ T432 (mkF m 71 #[.val (.ref t), .val (.int 2), .val (.int 1)] [(.ref x432)])
  refine g_goto C X432 d18_71 ?_
  exact g_retA C X432 rfl rfl d18_75 (by decide) (by decide) ⟨x432, t432, k432, rfl, A432⟩
theorem ef_rTr110 (m : MethodId) (x : Addr) : entryFrame m #[(.ref x)] 2 = mkF m 0 #[.val (.ref x), .unset] [] := by first | (simp [entryFrame, mkF, argsToLocals, Value.category]; done) | rfl
theorem rTr110 (l : Launch) {Z : State} {a0 : Array Value} (hw : ∀ d ∈ tables_1, d.before a0 Z = true) {h : Heap} (hE : Ext Z.heap h) (x : Addr) (z_ : Int32) (SZ : Sta Z Z.heap "java/lang/String" "COMPACT_STRINGS" "Z" (.int z_)) (hz : ¬ z_ = 0) (t : Addr) (kt : ClassId) (lc y : Int32) (EX : Exa Z h x "java/lang/String") (FC : Fld Z h x "java/lang/String" "coder" "B" (.int (0 : Int32))) (FV : Fld Z h x "java/lang/String" "value" "[B" (.ref t)) (VT : Arv Z h t kt .byte 2 [(.int lc), (.int y)] (.int (0 : Int32))) (hlc : (¬ lc < 0 ∧ ¬ (32 : Int32) < lc)) (hy : ((32 : Int32) < y ∧ ¬ (127 : Int32) < y)) :
    Con l (⟨"java/lang/String", "trim", "()Ljava/lang/String;"⟩ : MethodName) jdk_42_method_113_code 2 (some (.object "java/lang/String")) [] ({ frames := 6, cells := 2, slots := 5, locals := 144 } : Room) Z #[(.ref x)] h (fun v' h' => ∃ (x_ t_ : Addr) (k_ : ClassId), v' = some (.ref x_) ∧ Z.heap.size ≤ x_ ∧ h.size ≤ x_ ∧ Ext h h' ∧ Exa Z h' x_ "java/lang/String" ∧ Fld Z h' x_ "java/lang/String" "coder" "B" (.int (0 : Int32)) ∧ Fld Z h' x_ "java/lang/String" "value" "[B" (.ref t_) ∧ Arv Z h' t_ k_ .byte 1 [(.int y)] (.int (0 : Int32))) := by
  refine con_of (plainFor_of_name pn_3) hE (fun m => ef_rTr110 m x) ?_
  intro p e s m below meth c T0 C X0
  have C : Cx p s m meth c Z "java/lang/String" "trim" jdk_42_method_113_code 2 (some (.object "java/lang/String")) := C
  show Goes p e below _ T0 (mkF m 0 #[.val (.ref x), .unset] [])
  refine g_aloadN C X0 d16_0 rfl rfl (g_virtualP (argsL := []) (st := []) C X0 (wd hw 85 rfl) (wd hw 86 rfl) (nf_of C (wd hw 88 rfl) rfl rfl) (wd hw 88 rfl) (wd hw 87 rfl) (by decide) EX (pay_of (W' := 0) (rIL l hw X0.ext x z_ SZ hz FC) C.hZ (wd hw 89 rfl) (wd hw 33 rfl) (by decide) (by decide)) pd_11 rfl rfl _ rfl (Nat.le_of_eq rfl) d16_1 (by decide) (by decide) (fun T433 X433 => ?_))
  refine g_if (h0_eq _) C X433 d16_4 (fun q => absurd q (by decide)) (fun _ => ?_)
  refine g_aloadN C X433 d16_7 rfl rfl (g_getfield (host := "") C X433 (Or.inl (wd hw 58 rfl)) Via.refl FV d16_8 (fun T434 X434 => ?_))
  refine g_static (argsL := [(.ref t)]) (st := []) C X434 (wd hw 90 rfl) (wd hw 91 rfl) (wd hw 92 rfl) (wd hw 93 rfl) (by decide) (pay_of (W' := 0) (rTl110 l hw X434.ext t kt lc y VT hlc hy) C.hZ (wd hw 93 rfl) (wd hw 92 rfl) (by decide) (by decide)) pd_12 rfl rfl _ rfl (Nat.le_of_eq rfl) d16_11 (by decide) (by decide) (fun T435 h435 v435 q435 X435 => ?_)
  obtain ⟨x435, t435, k435, rfl, A435⟩ := q435
  show Goes p e below _ T435 (mkF m 14 #[.val (.ref x), .unset] [(.ref x435)])
  refine g_goto C X435 d16_14 (g_astoreN C X435 d16_24 rfl (l' := #[.val (.ref x), .val (.ref x435)]) rfl (g_aloadN C X435 d16_25 rfl rfl (g_ifnonnull C X435 d16_26 rfl (fun _ => ?_) (fun q => absurd q nofun))))
  refine g_aloadN C X435 d16_33 rfl rfl ?_
  exact g_retA C X435 rfl rfl d16_34 (by decide) (by decide) ⟨x435, t435, k435, rfl, A435⟩
theorem ef_rCl111 (m : MethodId)  : entryFrame m #[(.int 1), (.int 2)] 2 = mkF m 0 #[.val (.int 1), .val (.int 2)] [] := by first | (simp [entryFrame, mkF, argsToLocals, Value.category]; done) | rfl
theorem rCl111 (l : Launch) {Z : State} {a0 : Array Value} (hw : ∀ d ∈ tables_1, d.before a0 Z = true) {h : Heap} (hE : Ext Z.heap h)    :
    Con l (⟨"java/util/Arrays", "checkLength", "(II)V"⟩ : MethodName) jdk_65_method_131_code 2 none [] ({ frames := 0, cells := 0, slots := 0, locals := 0 } : Room) Z #[(.int 1), (.int 2)] h (fun v' h' => v' = none ∧ h' = h) := by
  refine con_of (plainFor_of_name pn_4) hE (fun m => ef_rCl111 m ) ?_
  intro p e s m below meth c T0 C X0
  have C : Cx p s m meth c Z "java/util/Arrays" "checkLength" jdk_65_method_131_code 2 none := C
  show Goes p e below _ T0 (mkF m 0 #[.val (.int 1), .val (.int 2)] [])
  refine g_iloadN C X0 d31_0 rfl (g_iloadN C X0 d31_1 rfl (g_icmpn (hI_ge _ _) C X0 d31_2 (fun _ => ?_) (fun q => absurd q (by decide))))
  exact g_retV C X0 d31_37 (by decide) (by decide) ⟨rfl, rfl⟩
theorem ef_rCb111 (m : MethodId) (t : Addr) : entryFrame m #[(.ref t), (.int 1), (.int 2)] 5 = mkF m 0 #[.val (.ref t), .val (.int 1), .val (.int 2), .unset, .unset] [] := by first | (simp [entryFrame, mkF, argsToLocals, Value.category]; done) | rfl
theorem rCb111 (l : Launch) {Z : State} {a0 : Array Value} (hw : ∀ d ∈ tables_1, d.before a0 Z = true) {h : Heap} (hE : Ext Z.heap h) (t : Addr) (kt : ClassId) (lc y tc : Int32) (VT : Arv Z h t kt .byte 3 [(.int lc), (.int y), (.int tc)] (.int (0 : Int32))) :
    Con l (⟨"java/util/Arrays", "copyOfRangeByte", "([BII)[B"⟩ : MethodName) jdk_65_method_133_code 5 (some (.array .byte)) [] ({ frames := 2, cells := 1, slots := 1, locals := 48 } : Room) Z #[(.ref t), (.int 1), (.int 2)] h (fun v' h' => ∃ b_ kb, v' = some (.ref b_) ∧ Z.heap.size ≤ b_ ∧ h.size ≤ b_ ∧ Ext h h' ∧ Arv Z h' b_ kb .byte 1 [(.int y)] (.int (0 : Int32))) := by
  refine con_of (plainFor_of_name pn_4) hE (fun m => ef_rCb111 m t) ?_
  intro p e s m below meth c T0 C X0
  have C : Cx p s m meth c Z "java/util/Arrays" "copyOfRangeByte" jdk_65_method_133_code 5 (some (.array .byte)) := C
  show Goes p e below _ T0 (mkF m 0 #[.val (.ref t), .val (.int 1), .val (.int 2), .unset, .unset] [])
  refine g_iloadN C X0 d30_0 rfl (g_iloadN C X0 d30_1 rfl (g_staticPV (argsL := [(.int 1), (.int 2)]) (st := []) C X0 (wd hw 155 rfl) (wd hw 156 rfl) (wd hw 150 rfl) (wd hw 157 rfl) (by decide) (pay_of (W' := 0) (rCl111 l hw X0.ext) C.hZ (wd hw 157 rfl) (wd hw 150 rfl) (by decide) (by decide)) pd_6 rfl rfl _ rfl (Nat.le_of_eq rfl) d30_2 (by decide) (by decide) (fun T436 X436 => ?_)))
  refine g_iloadN C X436 d30_5 rfl (g_iloadN C X436 d30_6 rfl (g_isub C X436 d30_7 (g_istoreN C X436 d30_8 (l' := #[.val (.ref t), .val (.int 1), .val (.int 2), .val (.int 1), .unset]) rfl (g_iloadN C X436 d30_9 rfl (g_newarray C X436 (wd hw 49 rfl) d30_10 (by decide) 1 1 (by decide) (by decide) (by decide) (by decide) (fun T437 h437 b437 k_b437 g_b437 n_b437 X437 E437 V437 => ?_))))))
  have lt438 : t < b437 := by rw [g_b437]; exact Arv.lt VT
  have V_b437 : Arv Z h437 b437 k_b437 .byte (1 : Int32) [(.int 0)] (.int 0) := V437
  refine g_astore C X437 d30_12 rfl (l' := #[.val (.ref t), .val (.int 1), .val (.int 2), .val (.int 1), .val (.ref b437)]) rfl (g_aloadN C X437 d30_14 rfl rfl (g_iloadN C X437 d30_15 rfl (g_aload C X437 d30_16 rfl rfl (g_iconst 0 C X437 d30_18 rfl (g_aloadN C X437 d30_19 rfl rfl ?_)))))
  have f439 := (Arv.ext VT E437)
  refine g_arraylength C X437 f439 d30_20 (g_iloadN C X437 d30_21 rfl (g_isub C X437 d30_22 (g_iloadN C X437 d30_23 rfl (g_staticP (argsL := [(.int 2), (.int 1)]) (st := [(.int 0), (.ref b437), (.int 1), (.ref t)]) C X437 (wd hw 158 rfl) (wd hw 159 rfl) (wd hw 160 rfl) (wd hw 161 rfl) (by decide) (pay_of (W' := 4) (rMin l hw X437.ext (2 : Int32) (1 : Int32)) C.hZ (wd hw 161 rfl) (wd hw 160 rfl) (by decide) (by decide)) pd_7 rfl rfl _ rfl (Nat.le_of_eq rfl) d30_24 (by decide) (by decide) (fun T440 X440 => ?_)))))
  refine g_arraycopy C X440 (wd hw 162 rfl) (wd hw 165 rfl) (wd hw 163 rfl) (wd hw 164 rfl) f439 V_b437 rfl (by decide) (by decide) (by decide) (by decide) (by decide) [(.int y)] rfl (Nat.le_of_ble_eq_true rfl) n_b437 rfl d30_27 (by decide) 0 (Nat.le_of_eq rfl) (by decide) (fun T441 h441 X441 K441 V441 => ?_)
  have V441_b437 : Arv Z h441 b437 k_b437 .byte (1 : Int32) [(.int y)] (.int 0) := V441
  show Goes p e below _ T441 (mkF m 30 #[.val (.ref t), .val (.int 1), .val (.int 2), .val (.int 1), .val (.ref b437)] [])
  refine g_aload C X441 d30_30 rfl rfl ?_
  have sz442 : h.size ≤ b437 := by rw [g_b437]; exact (Keep.refl h []).1
  have kp443 := (Keep.refl h []).ext E437
  have kp444 := kp443.trans K441 (allS (Or.inr sz442) all0)
  exact g_retA C X441 rfl rfl d30_32 (by decide) (by decide) ⟨b437, k_b437, rfl, n_b437, sz442, keep_ext kp444, V441_b437⟩
theorem ef_rCr111 (m : MethodId) (t : Addr) : entryFrame m #[(.ref t), (.int 1), (.int 2)] 3 = mkF m 0 #[.val (.ref t), .val (.int 1), .val (.int 2)] [] := by first | (simp [entryFrame, mkF, argsToLocals, Value.category]; done) | rfl
theorem rCr111 (l : Launch) {Z : State} {a0 : Array Value} (hw : ∀ d ∈ tables_1, d.before a0 Z = true) {h : Heap} (hE : Ext Z.heap h) (t : Addr) (kt : ClassId) (lc y tc : Int32) (VT : Arv Z h t kt .byte 3 [(.int lc), (.int y), (.int tc)] (.int (0 : Int32))) :
    Con l (⟨"java/util/Arrays", "copyOfRange", "([BII)[B"⟩ : MethodName) jdk_65_method_132_code 3 (some (.array .byte)) [] ({ frames := 3, cells := 1, slots := 1, locals := 72 } : Room) Z #[(.ref t), (.int 1), (.int 2)] h (fun v' h' => ∃ b_ kb, v' = some (.ref b_) ∧ Z.heap.size ≤ b_ ∧ h.size ≤ b_ ∧ Ext h h' ∧ Arv Z h' b_ kb .byte 1 [(.int y)] (.int (0 : Int32))) := by
  refine con_of (plainFor_of_name pn_4) hE (fun m => ef_rCr111 m t) ?_
  intro p e s m below meth c T0 C X0
  have C : Cx p s m meth c Z "java/util/Arrays" "copyOfRange" jdk_65_method_132_code 3 (some (.array .byte)) := C
  show Goes p e below _ T0 (mkF m 0 #[.val (.ref t), .val (.int 1), .val (.int 2)] [])
  refine g_iloadN C X0 d29_0 rfl (g_ifn (h0_ne _) C X0 d29_1 (fun _ => ?_) (fun q => absurd q (by decide)))
  refine g_aloadN C X0 d29_10 rfl rfl (g_iloadN C X0 d29_11 rfl (g_iloadN C X0 d29_12 rfl (g_static (argsL := [(.ref t), (.int 1), (.int 2)]) (st := []) C X0 (wd hw 152 rfl) (wd hw 153 rfl) (wd hw 150 rfl) (wd hw 154 rfl) (by decide) (pay_of (W' := 0) (rCb111 l hw X0.ext t kt lc y tc VT) C.hZ (wd hw 154 rfl) (wd hw 150 rfl) (by decide) (by decide)) pd_8 rfl rfl _ rfl (Nat.le_of_eq rfl) d29_13 (by decide) (by decide) (fun T445 h445 v445 q445 X445 => ?_))))
  obtain ⟨b445, k_b445, rfl, n_b445, g445, E445, V445⟩ := q445
  have lt446 : t < b445 := Nat.lt_of_lt_of_le (Arv.lt VT) g445
  show Goes p e below _ T445 (mkF m 16 #[.val (.ref t), .val (.int 1), .val (.int 2)] [(.ref b445)])
  have sz447 : h.size ≤ b445 := Nat.le_trans (Keep.refl h []).1 g445
  have kp448 := (Keep.refl h []).ext E445
  exact g_retA C X445 rfl rfl d29_16 (by decide) (by decide) ⟨b445, k_b445, rfl, n_b445, sz447, keep_ext kp448, V445⟩
theorem ef_rNs111 (m : MethodId) (t : Addr) : entryFrame m #[(.ref t), (.int 1), (.int 1)] 3 = mkF m 0 #[.val (.ref t), .val (.int 1), .val (.int 1)] [] := by first | (simp [entryFrame, mkF, argsToLocals, Value.category]; done) | rfl
theorem rNs111 (l : Launch) {Z : State} {a0 : Array Value} (hw : ∀ d ∈ tables_1, d.before a0 Z = true) {h : Heap} (hE : Ext Z.heap h) (t : Addr) (kt : ClassId) (lc y tc : Int32) (VT : Arv Z h t kt .byte 3 [(.int lc), (.int y), (.int tc)] (.int (0 : Int32))) :
    Con l (⟨"java/lang/StringLatin1", "newString", "([BII)Ljava/lang/String;"⟩ : MethodName) jdk_43_method_47_code 3 (some (.object "java/lang/String")) [] ({ frames := 4, cells := 2, slots := 5, locals := 96 } : Room) Z #[(.ref t), (.int 1), (.int 1)] h (fun v' h' => ∃ (x_ t_ : Addr) (k_ : ClassId), v' = some (.ref x_) ∧ Z.heap.size ≤ x_ ∧ h.size ≤ x_ ∧ Ext h h' ∧ Exa Z h' x_ "java/lang/String" ∧ Fld Z h' x_ "java/lang/String" "coder" "B" (.int (0 : Int32)) ∧ Fld Z h' x_ "java/lang/String" "value" "[B" (.ref t_) ∧ Arv Z h' t_ k_ .byte 1 [(.int y)] (.int (0 : Int32))) := by
  refine con_of (plainFor_of_name pn_5) hE (fun m => ef_rNs111 m t) ?_
  intro p e s m below meth c T0 C X0
  have C : Cx p s m meth c Z "java/lang/StringLatin1" "newString" jdk_43_method_47_code 3 (some (.object "java/lang/String")) := C
  show Goes p e below _ T0 (mkF m 0 #[.val (.ref t), .val (.int 1), .val (.int 1)] [])
  refine g_iloadN C X0 d28_0 rfl (g_ifn (h0_ne _) C X0 d28_1 (fun _ => ?_) (fun q => absurd q (by decide)))
  refine g_new C X0 (wd hw 147 rfl) (wd hw 32 rfl) (wd hw 33 rfl) d28_7 (by decide) (by decide) (fun T449 h449 b449 g_b449 n_b449 X449 E449 A449 D449 M449 => ?_)
  have lt450 : t < b449 := by rw [g_b449]; exact Arv.lt VT
  have F_coder_b449 : Fld Z h449 b449 "java/lang/String" "coder" "B" (.int 0) := D449 (Or.inr (wd hw 57 rfl)) (ty := .byte) (by decide)
  have F_value_b449 : Fld Z h449 b449 "java/lang/String" "value" "[B" .null := D449 (Or.inr (wd hw 59 rfl)) (ty := (.array .byte)) (by decide)
  refine g_dup C X449 d28_10 rfl (g_aloadN C X449 d28_11 rfl rfl (g_iloadN C X449 d28_12 rfl (g_iloadN C X449 d28_13 rfl (g_iloadN C X449 d28_14 rfl (g_iadd C X449 d28_15 ?_)))))
  have f451 := (Arv.ext VT E449)
  refine g_static (argsL := [(.ref t), (.int 1), (.int 2)]) (st := [(.ref b449), (.ref b449)]) C X449 (wd hw 148 rfl) (wd hw 149 rfl) (wd hw 150 rfl) (wd hw 151 rfl) (by decide) (pay_of (W' := 2) (rCr111 l hw X449.ext t kt lc y tc f451) C.hZ (wd hw 151 rfl) (wd hw 150 rfl) (by decide) (by decide)) pd_8 rfl rfl _ rfl (Nat.le_of_eq rfl) d28_16 (by decide) (by decide) (fun T452 h452 v452 q452 X452 => ?_)
  obtain ⟨b452, k_b452, rfl, n_b452, g452, E452, V452⟩ := q452
  have lt453 : t < b452 := Nat.lt_of_lt_of_le (Arv.lt f451) g452
  have lt454 : b449 < b452 := Nat.lt_of_lt_of_le (Exa.lt A449) g452
  show Goes p e below _ T452 (mkF m 19 #[.val (.ref t), .val (.int 1), .val (.int 1)] [(.ref b452), (.ref b449), (.ref b449)])
  refine g_iconst 0 C X452 d28_19 rfl ?_
  have f455 := (Exa.ext E452 A449)
  have f456 := (Fld.ext E452 F_coder_b449)
  have f457 := (Fld.ext E452 F_value_b449)
  refine g_special (argsL := [(.ref b452), (.int 0)]) (st := [(.ref b449)]) C X452 rfl (wd hw 166 rfl) (wd hw 167 rfl) (wd hw 168 rfl) (by decide) (pay_of (W' := 1) (rIb l hw X452.ext b449 b452 f455 f456 f457 n_b449) C.hZ (wd hw 168 rfl) (wd hw 33 rfl) (by decide) (by decide)) pd_9 rfl rfl _ rfl (Nat.le_of_eq rfl) d28_20 (by decide) (by decide) (fun T458 h458 v458 q458 X458 => ?_)
  obtain ⟨rfl, K458, E458, C458, F458⟩ := q458
  show Goes p e below _ T458 (mkF m 23 #[.val (.ref t), .val (.int 1), .val (.int 1)] [(.ref b449)])
  have sz459 : h.size ≤ b449 := by rw [g_b449]; exact (Keep.refl h []).1
  have kp460 := (Keep.refl h []).ext E449
  have sz461 : h.size ≤ b452 := Nat.le_trans kp460.1 g452
  have kp462 := kp460.ext E452
  have kp463 := kp462.trans K458 (allS (Or.inr sz459) all0)
  have f464 := (Arv.keep V452 K458 (ninS (Nat.ne_of_gt lt454) nin0))
  exact g_retA C X458 rfl rfl d28_23 (by decide) (by decide) ⟨b449, b452, k_b452, rfl, n_b449, sz459, keep_ext kp463, E458, C458, F458, f464⟩
theorem ef_rTl111 (m : MethodId) (t : Addr) : entryFrame m #[(.ref t)] 3 = mkF m 0 #[.val (.ref t), .unset, .unset] [] := by first | (simp [entryFrame, mkF, argsToLocals, Value.category]; done) | rfl
theorem rTl111 (l : Launch) {Z : State} {a0 : Array Value} (hw : ∀ d ∈ tables_1, d.before a0 Z = true) {h : Heap} (hE : Ext Z.heap h) (t : Addr) (kt : ClassId) (lc y tc : Int32) (VT : Arv Z h t kt .byte 3 [(.int lc), (.int y), (.int tc)] (.int (0 : Int32))) (hlc : (¬ lc < 0 ∧ ¬ (32 : Int32) < lc)) (hy : ((32 : Int32) < y ∧ ¬ (127 : Int32) < y)) (htc : (¬ tc < 0 ∧ ¬ (32 : Int32) < tc)) :
    Con l (⟨"java/lang/StringLatin1", "trim", "([B)Ljava/lang/String;"⟩ : MethodName) jdk_43_method_36_code 3 (some (.object "java/lang/String")) [] ({ frames := 5, cells := 2, slots := 5, locals := 120 } : Room) Z #[(.ref t)] h (fun v' h' => ∃ (x_ t_ : Addr) (k_ : ClassId), v' = some (.ref x_) ∧ Z.heap.size ≤ x_ ∧ h.size ≤ x_ ∧ Ext h h' ∧ Exa Z h' x_ "java/lang/String" ∧ Fld Z h' x_ "java/lang/String" "coder" "B" (.int (0 : Int32)) ∧ Fld Z h' x_ "java/lang/String" "value" "[B" (.ref t_) ∧ Arv Z h' t_ k_ .byte 1 [(.int y)] (.int (0 : Int32))) := by
  refine con_of (plainFor_of_name pn_5) hE (fun m => ef_rTl111 m t) ?_
  intro p e s m below meth c T0 C X0
  have C : Cx p s m meth c Z "java/lang/StringLatin1" "trim" jdk_43_method_36_code 3 (some (.object "java/lang/String")) := C
  show Goes p e below _ T0 (mkF m 0 #[.val (.ref t), .unset, .unset] [])
  refine g_aloadN C X0 d18_0 rfl rfl (g_arraylength C X0 VT d18_1 (g_istoreN C X0 d18_2 (l' := #[.val (.ref t), .val (.int 3), .unset]) rfl (g_iconst 0 C X0 d18_3 rfl (g_istoreN C X0 d18_4 (l' := #[.val (.ref t), .val (.int 3), .val (.int 0)]) rfl (g_iloadN C X0 d18_5 rfl (g_iloadN C X0 d18_6 rfl (g_icmpn (hI_ge _ _) C X0 d18_7 (fun q => absurd (by decide) q) (fun _ => ?_))))))))
  refine g_aloadN C X0 d18_10 rfl rfl (g_iloadN C X0 d18_11 rfl (g_baload C X0 VT d18_12 (by decide) (by decide) rfl (g_sipush 255 C X0 d18_13 rfl (g_iand C X0 d18_16 (g_bipush 32 C X0 d18_17 rfl (g_icmp (hI_gt _ _) C X0 d18_19 (fun q => absurd q (own_trN hlc)) (fun _ => ?_)))))))
  refine g_iinc 1 C X0 d18_22 rfl rfl (l' := #[.val (.ref t), .val (.int 3), .val (.int 1)]) rfl (g_goto C X0 d18_25 (g_iloadN C X0 d18_5 rfl (g_iloadN C X0 d18_6 rfl (g_icmpn (hI_ge _ _) C X0 d18_7 (fun q => absurd (by decide) q) (fun _ => ?_)))))
  refine g_aloadN C X0 d18_10 rfl rfl (g_iloadN C X0 d18_11 rfl (g_baload C X0 VT d18_12 (by decide) (by decide) rfl (g_sipush 255 C X0 d18_13 rfl (g_iand C X0 d18_16 (g_bipush 32 C X0 d18_17 rfl (g_icmp (hI_gt _ _) C X0 d18_19 (fun _ => ?_) (fun q => absurd (own_trY hy) q)))))))
  refine g_iloadN C X0 d18_28 rfl (g_iloadN C X0 d18_29 rfl (g_icmpn (hI_ge _ _) C X0 d18_30 (fun q => absurd (by decide) q) (fun _ => ?_)))
  refine g_aloadN C X0 d18_33 rfl rfl (g_iloadN C X0 d18_34 rfl (g_iconst 1 C X0 d18_35 rfl (g_isub C X0 d18_36 (g_baload C X0 VT d18_37 (by decide) (by decide) rfl (g_sipush 255 C X0 d18_38 rfl (g_iand C X0 d18_41 (g_bipush 32 C X0 d18_42 rfl (g_icmp (hI_gt _ _) C X0 d18_44 (fun q => absurd q (own_trN htc)) (fun _ => ?_)))))))))
  refine g_iinc (-1) C X0 d18_47 rfl rfl (l' := #[.val (.ref t), .val (.int 2), .val (.int 1)]) rfl (g_goto C X0 d18_50 (g_iloadN C X0 d18_28 rfl (g_iloadN C X0 d18_29 rfl (g_icmpn (hI_ge _ _) C X0 d18_30 (fun q => absurd (by decide) q) (fun _ => ?_)))))
  refine g_aloadN C X0 d18_33 rfl rfl (g_iloadN C X0 d18_34 rfl (g_iconst 1 C X0 d18_35 rfl (g_isub C X0 d18_36 (g_baload C X0 VT d18_37 (by decide) (by decide) rfl (g_sipush 255 C X0 d18_38 rfl (g_iand C X0 d18_41 (g_bipush 32 C X0 d18_42 rfl (g_icmp (hI_gt _ _) C X0 d18_44 (fun _ => ?_) (fun q => absurd (own_trY hy) q)))))))))
  refine g_iloadN C X0 d18_53 rfl (g_if (h0_gt _) C X0 d18_54 (fun _ => ?_) (fun q => absurd (by decide) q))
  refine g_aloadN C X0 d18_63 rfl rfl (g_iloadN C X0 d18_64 rfl (g_iloadN C X0 d18_65 rfl (g_iloadN C X0 d18_66 rfl (g_isub C X0 d18_67 (g_static (argsL := [(.ref t), (.int 1), (.int 1)]) (st := []) C X0 (wd hw 144 rfl) (wd hw 145 rfl) (wd hw 92 rfl) (wd hw 146 rfl) (by decide) (pay_of (W' := 0) (rNs111 l hw X0.ext t kt lc y tc VT) C.hZ (wd hw 146 rfl) (wd hw 92 rfl) (by decide) (by decide)) pd_10 rfl rfl _ rfl (Nat.le_of_eq rfl) d18_68 (by decide) (by decide) (fun T465 h465 v465 q465 X465 => ?_))))))
  obtain ⟨x465, t465, k465, rfl, A465⟩ := q465
  show Goes p e below _ T465 (mkF m 71 #[.val (.ref t), .val (.int 2), .val (.int 1)] [(.ref x465)])
  refine g_goto C X465 d18_71 ?_
  exact g_retA C X465 rfl rfl d18_75 (by decide) (by decide) ⟨x465, t465, k465, rfl, A465⟩
theorem ef_rTr111 (m : MethodId) (x : Addr) : entryFrame m #[(.ref x)] 2 = mkF m 0 #[.val (.ref x), .unset] [] := by first | (simp [entryFrame, mkF, argsToLocals, Value.category]; done) | rfl
theorem rTr111 (l : Launch) {Z : State} {a0 : Array Value} (hw : ∀ d ∈ tables_1, d.before a0 Z = true) {h : Heap} (hE : Ext Z.heap h) (x : Addr) (z_ : Int32) (SZ : Sta Z Z.heap "java/lang/String" "COMPACT_STRINGS" "Z" (.int z_)) (hz : ¬ z_ = 0) (t : Addr) (kt : ClassId) (lc y tc : Int32) (EX : Exa Z h x "java/lang/String") (FC : Fld Z h x "java/lang/String" "coder" "B" (.int (0 : Int32))) (FV : Fld Z h x "java/lang/String" "value" "[B" (.ref t)) (VT : Arv Z h t kt .byte 3 [(.int lc), (.int y), (.int tc)] (.int (0 : Int32))) (hlc : (¬ lc < 0 ∧ ¬ (32 : Int32) < lc)) (hy : ((32 : Int32) < y ∧ ¬ (127 : Int32) < y)) (htc : (¬ tc < 0 ∧ ¬ (32 : Int32) < tc)) :
    Con l (⟨"java/lang/String", "trim", "()Ljava/lang/String;"⟩ : MethodName) jdk_42_method_113_code 2 (some (.object "java/lang/String")) [] ({ frames := 6, cells := 2, slots := 5, locals := 144 } : Room) Z #[(.ref x)] h (fun v' h' => ∃ (x_ t_ : Addr) (k_ : ClassId), v' = some (.ref x_) ∧ Z.heap.size ≤ x_ ∧ h.size ≤ x_ ∧ Ext h h' ∧ Exa Z h' x_ "java/lang/String" ∧ Fld Z h' x_ "java/lang/String" "coder" "B" (.int (0 : Int32)) ∧ Fld Z h' x_ "java/lang/String" "value" "[B" (.ref t_) ∧ Arv Z h' t_ k_ .byte 1 [(.int y)] (.int (0 : Int32))) := by
  refine con_of (plainFor_of_name pn_3) hE (fun m => ef_rTr111 m x) ?_
  intro p e s m below meth c T0 C X0
  have C : Cx p s m meth c Z "java/lang/String" "trim" jdk_42_method_113_code 2 (some (.object "java/lang/String")) := C
  show Goes p e below _ T0 (mkF m 0 #[.val (.ref x), .unset] [])
  refine g_aloadN C X0 d16_0 rfl rfl (g_virtualP (argsL := []) (st := []) C X0 (wd hw 85 rfl) (wd hw 86 rfl) (nf_of C (wd hw 88 rfl) rfl rfl) (wd hw 88 rfl) (wd hw 87 rfl) (by decide) EX (pay_of (W' := 0) (rIL l hw X0.ext x z_ SZ hz FC) C.hZ (wd hw 89 rfl) (wd hw 33 rfl) (by decide) (by decide)) pd_11 rfl rfl _ rfl (Nat.le_of_eq rfl) d16_1 (by decide) (by decide) (fun T466 X466 => ?_))
  refine g_if (h0_eq _) C X466 d16_4 (fun q => absurd q (by decide)) (fun _ => ?_)
  refine g_aloadN C X466 d16_7 rfl rfl (g_getfield (host := "") C X466 (Or.inl (wd hw 58 rfl)) Via.refl FV d16_8 (fun T467 X467 => ?_))
  refine g_static (argsL := [(.ref t)]) (st := []) C X467 (wd hw 90 rfl) (wd hw 91 rfl) (wd hw 92 rfl) (wd hw 93 rfl) (by decide) (pay_of (W' := 0) (rTl111 l hw X467.ext t kt lc y tc VT hlc hy htc) C.hZ (wd hw 93 rfl) (wd hw 92 rfl) (by decide) (by decide)) pd_12 rfl rfl _ rfl (Nat.le_of_eq rfl) d16_11 (by decide) (by decide) (fun T468 h468 v468 q468 X468 => ?_)
  obtain ⟨x468, t468, k468, rfl, A468⟩ := q468
  show Goes p e below _ T468 (mkF m 14 #[.val (.ref x), .unset] [(.ref x468)])
  refine g_goto C X468 d16_14 (g_astoreN C X468 d16_24 rfl (l' := #[.val (.ref x), .val (.ref x468)]) rfl (g_aloadN C X468 d16_25 rfl rfl (g_ifnonnull C X468 d16_26 rfl (fun _ => ?_) (fun q => absurd q nofun))))
  refine g_aloadN C X468 d16_33 rfl rfl ?_
  exact g_retA C X468 rfl rfl d16_34 (by decide) (by decide) ⟨x468, t468, k468, rfl, A468⟩
theorem ef_rCl801 (m : MethodId)  : entryFrame m #[(.int 0), (.int 8)] 2 = mkF m 0 #[.val (.int 0), .val (.int 8)] [] := by first | (simp [entryFrame, mkF, argsToLocals, Value.category]; done) | rfl
theorem rCl801 (l : Launch) {Z : State} {a0 : Array Value} (hw : ∀ d ∈ tables_1, d.before a0 Z = true) {h : Heap} (hE : Ext Z.heap h)    :
    Con l (⟨"java/util/Arrays", "checkLength", "(II)V"⟩ : MethodName) jdk_65_method_131_code 2 none [] ({ frames := 0, cells := 0, slots := 0, locals := 0 } : Room) Z #[(.int 0), (.int 8)] h (fun v' h' => v' = none ∧ h' = h) := by
  refine con_of (plainFor_of_name pn_4) hE (fun m => ef_rCl801 m ) ?_
  intro p e s m below meth c T0 C X0
  have C : Cx p s m meth c Z "java/util/Arrays" "checkLength" jdk_65_method_131_code 2 none := C
  show Goes p e below _ T0 (mkF m 0 #[.val (.int 0), .val (.int 8)] [])
  refine g_iloadN C X0 d31_0 rfl (g_iloadN C X0 d31_1 rfl (g_icmpn (hI_ge _ _) C X0 d31_2 (fun _ => ?_) (fun q => absurd q (by decide))))
  exact g_retV C X0 d31_37 (by decide) (by decide) ⟨rfl, rfl⟩
theorem ef_rCb801 (m : MethodId) (t : Addr) : entryFrame m #[(.ref t), (.int 0), (.int 8)] 5 = mkF m 0 #[.val (.ref t), .val (.int 0), .val (.int 8), .unset, .unset] [] := by first | (simp [entryFrame, mkF, argsToLocals, Value.category]; done) | rfl
theorem rCb801 (l : Launch) {Z : State} {a0 : Array Value} (hw : ∀ d ∈ tables_1, d.before a0 Z = true) {h : Heap} (hE : Ext Z.heap h) (t : Addr) (kt : ClassId) (y0 y1 y2 y3 y4 y5 y6 y7 tc : Int32) (VT : Arv Z h t kt .byte 9 [(.int y0), (.int y1), (.int y2), (.int y3), (.int y4), (.int y5), (.int y6), (.int y7), (.int tc)] (.int (0 : Int32))) :
    Con l (⟨"java/util/Arrays", "copyOfRangeByte", "([BII)[B"⟩ : MethodName) jdk_65_method_133_code 5 (some (.array .byte)) [] ({ frames := 2, cells := 1, slots := 8, locals := 48 } : Room) Z #[(.ref t), (.int 0), (.int 8)] h (fun v' h' => ∃ b_ kb, v' = some (.ref b_) ∧ Z.heap.size ≤ b_ ∧ h.size ≤ b_ ∧ Ext h h' ∧ Arv Z h' b_ kb .byte 8 [(.int y0), (.int y1), (.int y2), (.int y3), (.int y4), (.int y5), (.int y6), (.int y7)] (.int (0 : Int32))) := by
  refine con_of (plainFor_of_name pn_4) hE (fun m => ef_rCb801 m t) ?_
  intro p e s m below meth c T0 C X0
  have C : Cx p s m meth c Z "java/util/Arrays" "copyOfRangeByte" jdk_65_method_133_code 5 (some (.array .byte)) := C
  show Goes p e below _ T0 (mkF m 0 #[.val (.ref t), .val (.int 0), .val (.int 8), .unset, .unset] [])
  refine g_iloadN C X0 d30_0 rfl (g_iloadN C X0 d30_1 rfl (g_staticPV (argsL := [(.int 0), (.int 8)]) (st := []) C X0 (wd hw 155 rfl) (wd hw 156 rfl) (wd hw 150 rfl) (wd hw 157 rfl) (by decide) (pay_of (W' := 0) (rCl801 l hw X0.ext) C.hZ (wd hw 157 rfl) (wd hw 150 rfl) (by decide) (by decide)) pd_6 rfl rfl _ rfl (Nat.le_of_eq rfl) d30_2 (by decide) (by decide) (fun T469 X469 => ?_)))
  refine g_iloadN C X469 d30_5 rfl (g_iloadN C X469 d30_6 rfl (g_isub C X469 d30_7 (g_istoreN C X469 d30_8 (l' := #[.val (.ref t), .val (.int 0), .val (.int 8), .val (.int 8), .unset]) rfl (g_iloadN C X469 d30_9 rfl (g_newarray C X469 (wd hw 49 rfl) d30_10 (by decide) 8 8 (by decide) (by decide) (by decide) (by decide) (fun T470 h470 b470 k_b470 g_b470 n_b470 X470 E470 V470 => ?_))))))
  have lt471 : t < b470 := by rw [g_b470]; exact Arv.lt VT
  have V_b470 : Arv Z h470 b470 k_b470 .byte (8 : Int32) [(.int 0), (.int 0), (.int 0), (.int 0), (.int 0), (.int 0), (.int 0), (.int 0)] (.int 0) := V470
  refine g_astore C X470 d30_12 rfl (l' := #[.val (.ref t), .val (.int 0), .val (.int 8), .val (.int 8), .val (.ref b470)]) rfl (g_aloadN C X470 d30_14 rfl rfl (g_iloadN C X470 d30_15 rfl (g_aload C X470 d30_16 rfl rfl (g_iconst 0 C X470 d30_18 rfl (g_aloadN C X470 d30_19 rfl rfl ?_)))))
  have f472 := (Arv.ext VT E470)
  refine g_arraylength C X470 f472 d30_20 (g_iloadN C X470 d30_21 rfl (g_isub C X470 d30_22 (g_iloadN C X470 d30_23 rfl (g_staticP (argsL := [(.int 9), (.int 8)]) (st := [(.int 0), (.ref b470), (.int 0), (.ref t)]) C X470 (wd hw 158 rfl) (wd hw 159 rfl) (wd hw 160 rfl) (wd hw 161 rfl) (by decide) (pay_of (W' := 4) (rMin l hw X470.ext (9 : Int32) (8 : Int32)) C.hZ (wd hw 161 rfl) (wd hw 160 rfl) (by decide) (by decide)) pd_7 rfl rfl _ rfl (Nat.le_of_eq rfl) d30_24 (by decide) (by decide) (fun T473 X473 => ?_)))))
  refine g_arraycopy C X473 (wd hw 162 rfl) (wd hw 165 rfl) (wd hw 163 rfl) (wd hw 164 rfl) f472 V_b470 rfl (by decide) (by decide) (by decide) (by decide) (by decide) [(.int y0), (.int y1), (.int y2), (.int y3), (.int y4), (.int y5), (.int y6), (.int y7)] rfl (Nat.le_of_ble_eq_true rfl) n_b470 rfl d30_27 (by decide) 0 (Nat.le_of_eq rfl) (by decide) (fun T474 h474 X474 K474 V474 => ?_)
  have V474_b470 : Arv Z h474 b470 k_b470 .byte (8 : Int32) [(.int y0), (.int y1), (.int y2), (.int y3), (.int y4), (.int y5), (.int y6), (.int y7)] (.int 0) := V474
  show Goes p e below _ T474 (mkF m 30 #[.val (.ref t), .val (.int 0), .val (.int 8), .val (.int 8), .val (.ref b470)] [])
  refine g_aload C X474 d30_30 rfl rfl ?_
  have sz475 : h.size ≤ b470 := by rw [g_b470]; exact (Keep.refl h []).1
  have kp476 := (Keep.refl h []).ext E470
  have kp477 := kp476.trans K474 (allS (Or.inr sz475) all0)
  exact g_retA C X474 rfl rfl d30_32 (by decide) (by decide) ⟨b470, k_b470, rfl, n_b470, sz475, keep_ext kp477, V474_b470⟩
theorem ef_rCr801 (m : MethodId) (t : Addr) : entryFrame m #[(.ref t), (.int 0), (.int 8)] 3 = mkF m 0 #[.val (.ref t), .val (.int 0), .val (.int 8)] [] := by first | (simp [entryFrame, mkF, argsToLocals, Value.category]; done) | rfl
theorem rCr801 (l : Launch) {Z : State} {a0 : Array Value} (hw : ∀ d ∈ tables_1, d.before a0 Z = true) {h : Heap} (hE : Ext Z.heap h) (t : Addr) (kt : ClassId) (y0 y1 y2 y3 y4 y5 y6 y7 tc : Int32) (VT : Arv Z h t kt .byte 9 [(.int y0), (.int y1), (.int y2), (.int y3), (.int y4), (.int y5), (.int y6), (.int y7), (.int tc)] (.int (0 : Int32))) :
    Con l (⟨"java/util/Arrays", "copyOfRange", "([BII)[B"⟩ : MethodName) jdk_65_method_132_code 3 (some (.array .byte)) [] ({ frames := 3, cells := 1, slots := 8, locals := 72 } : Room) Z #[(.ref t), (.int 0), (.int 8)] h (fun v' h' => ∃ b_ kb, v' = some (.ref b_) ∧ Z.heap.size ≤ b_ ∧ h.size ≤ b_ ∧ Ext h h' ∧ Arv Z h' b_ kb .byte 8 [(.int y0), (.int y1), (.int y2), (.int y3), (.int y4), (.int y5), (.int y6), (.int y7)] (.int (0 : Int32))) := by
  refine con_of (plainFor_of_name pn_4) hE (fun m => ef_rCr801 m t) ?_
  intro p e s m below meth c T0 C X0
  have C : Cx p s m meth c Z "java/util/Arrays" "copyOfRange" jdk_65_method_132_code 3 (some (.array .byte)) := C
  show Goes p e below _ T0 (mkF m 0 #[.val (.ref t), .val (.int 0), .val (.int 8)] [])
  refine g_iloadN C X0 d29_0 rfl (g_ifn (h0_ne _) C X0 d29_1 (fun q => absurd (by decide) q) (fun _ => ?_))
  refine g_iloadN C X0 d29_4 rfl (g_aloadN C X0 d29_5 rfl rfl (g_arraylength C X0 VT d29_6 (g_icmp (hI_eq _ _) C X0 d29_7 (fun q => absurd q (by decide)) (fun _ => ?_))))
  refine g_aloadN C X0 d29_10 rfl rfl (g_iloadN C X0 d29_11 rfl (g_iloadN C X0 d29_12 rfl (g_static (argsL := [(.ref t), (.int 0), (.int 8)]) (st := []) C X0 (wd hw 152 rfl) (wd hw 153 rfl) (wd hw 150 rfl) (wd hw 154 rfl) (by decide) (pay_of (W' := 0) (rCb801 l hw X0.ext t kt y0 y1 y2 y3 y4 y5 y6 y7 tc VT) C.hZ (wd hw 154 rfl) (wd hw 150 rfl) (by decide) (by decide)) pd_8 rfl rfl _ rfl (Nat.le_of_eq rfl) d29_13 (by decide) (by decide) (fun T478 h478 v478 q478 X478 => ?_))))
  obtain ⟨b478, k_b478, rfl, n_b478, g478, E478, V478⟩ := q478
  have lt479 : t < b478 := Nat.lt_of_lt_of_le (Arv.lt VT) g478
  show Goes p e below _ T478 (mkF m 16 #[.val (.ref t), .val (.int 0), .val (.int 8)] [(.ref b478)])
  have sz480 : h.size ≤ b478 := Nat.le_trans (Keep.refl h []).1 g478
  have kp481 := (Keep.refl h []).ext E478
  exact g_retA C X478 rfl rfl d29_16 (by decide) (by decide) ⟨b478, k_b478, rfl, n_b478, sz480, keep_ext kp481, V478⟩
theorem ef_rNs801 (m : MethodId) (t : Addr) : entryFrame m #[(.ref t), (.int 0), (.int 8)] 3 = mkF m 0 #[.val (.ref t), .val (.int 0), .val (.int 8)] [] := by first | (simp [entryFrame, mkF, argsToLocals, Value.category]; done) | rfl
theorem rNs801 (l : Launch) {Z : State} {a0 : Array Value} (hw : ∀ d ∈ tables_1, d.before a0 Z = true) {h : Heap} (hE : Ext Z.heap h) (t : Addr) (kt : ClassId) (y0 y1 y2 y3 y4 y5 y6 y7 tc : Int32) (VT : Arv Z h t kt .byte 9 [(.int y0), (.int y1), (.int y2), (.int y3), (.int y4), (.int y5), (.int y6), (.int y7), (.int tc)] (.int (0 : Int32))) :
    Con l (⟨"java/lang/StringLatin1", "newString", "([BII)Ljava/lang/String;"⟩ : MethodName) jdk_43_method_47_code 3 (some (.object "java/lang/String")) [] ({ frames := 4, cells := 2, slots := 12, locals := 96 } : Room) Z #[(.ref t), (.int 0), (.int 8)] h (fun v' h' => ∃ (x_ t_ : Addr) (k_ : ClassId), v' = some (.ref x_) ∧ Z.heap.size ≤ x_ ∧ h.size ≤ x_ ∧ Ext h h' ∧ Exa Z h' x_ "java/lang/String" ∧ Fld Z h' x_ "java/lang/String" "coder" "B" (.int (0 : Int32)) ∧ Fld Z h' x_ "java/lang/String" "value" "[B" (.ref t_) ∧ Arv Z h' t_ k_ .byte 8 [(.int y0), (.int y1), (.int y2), (.int y3), (.int y4), (.int y5), (.int y6), (.int y7)] (.int (0 : Int32))) := by
  refine con_of (plainFor_of_name pn_5) hE (fun m => ef_rNs801 m t) ?_
  intro p e s m below meth c T0 C X0
  have C : Cx p s m meth c Z "java/lang/StringLatin1" "newString" jdk_43_method_47_code 3 (some (.object "java/lang/String")) := C
  show Goes p e below _ T0 (mkF m 0 #[.val (.ref t), .val (.int 0), .val (.int 8)] [])
  refine g_iloadN C X0 d28_0 rfl (g_ifn (h0_ne _) C X0 d28_1 (fun _ => ?_) (fun q => absurd q (by decide)))
  refine g_new C X0 (wd hw 147 rfl) (wd hw 32 rfl) (wd hw 33 rfl) d28_7 (by decide) (by decide) (fun T482 h482 b482 g_b482 n_b482 X482 E482 A482 D482 M482 => ?_)
  have lt483 : t < b482 := by rw [g_b482]; exact Arv.lt VT
  have F_coder_b482 : Fld Z h482 b482 "java/lang/String" "coder" "B" (.int 0) := D482 (Or.inr (wd hw 57 rfl)) (ty := .byte) (by decide)
  have F_value_b482 : Fld Z h482 b482 "java/lang/String" "value" "[B" .null := D482 (Or.inr (wd hw 59 rfl)) (ty := (.array .byte)) (by decide)
  refine g_dup C X482 d28_10 rfl (g_aloadN C X482 d28_11 rfl rfl (g_iloadN C X482 d28_12 rfl (g_iloadN C X482 d28_13 rfl (g_iloadN C X482 d28_14 rfl (g_iadd C X482 d28_15 ?_)))))
  have f484 := (Arv.ext VT E482)
  refine g_static (argsL := [(.ref t), (.int 0), (.int 8)]) (st := [(.ref b482), (.ref b482)]) C X482 (wd hw 148 rfl) (wd hw 149 rfl) (wd hw 150 rfl) (wd hw 151 rfl) (by decide) (pay_of (W' := 2) (rCr801 l hw X482.ext t kt y0 y1 y2 y3 y4 y5 y6 y7 tc f484) C.hZ (wd hw 151 rfl) (wd hw 150 rfl) (by decide) (by decide)) pd_8 rfl rfl _ rfl (Nat.le_of_eq rfl) d28_16 (by decide) (by decide) (fun T485 h485 v485 q485 X485 => ?_)
  obtain ⟨b485, k_b485, rfl, n_b485, g485, E485, V485⟩ := q485
  have lt486 : t < b485 := Nat.lt_of_lt_of_le (Arv.lt f484) g485
  have lt487 : b482 < b485 := Nat.lt_of_lt_of_le (Exa.lt A482) g485
  show Goes p e below _ T485 (mkF m 19 #[.val (.ref t), .val (.int 0), .val (.int 8)] [(.ref b485), (.ref b482), (.ref b482)])
  refine g_iconst 0 C X485 d28_19 rfl ?_
  have f488 := (Exa.ext E485 A482)
  have f489 := (Fld.ext E485 F_coder_b482)
  have f490 := (Fld.ext E485 F_value_b482)
  refine g_special (argsL := [(.ref b485), (.int 0)]) (st := [(.ref b482)]) C X485 rfl (wd hw 166 rfl) (wd hw 167 rfl) (wd hw 168 rfl) (by decide) (pay_of (W' := 1) (rIb l hw X485.ext b482 b485 f488 f489 f490 n_b482) C.hZ (wd hw 168 rfl) (wd hw 33 rfl) (by decide) (by decide)) pd_9 rfl rfl _ rfl (Nat.le_of_eq rfl) d28_20 (by decide) (by decide) (fun T491 h491 v491 q491 X491 => ?_)
  obtain ⟨rfl, K491, E491, C491, F491⟩ := q491
  show Goes p e below _ T491 (mkF m 23 #[.val (.ref t), .val (.int 0), .val (.int 8)] [(.ref b482)])
  have sz492 : h.size ≤ b482 := by rw [g_b482]; exact (Keep.refl h []).1
  have kp493 := (Keep.refl h []).ext E482
  have sz494 : h.size ≤ b485 := Nat.le_trans kp493.1 g485
  have kp495 := kp493.ext E485
  have kp496 := kp495.trans K491 (allS (Or.inr sz492) all0)
  have f497 := (Arv.keep V485 K491 (ninS (Nat.ne_of_gt lt487) nin0))
  exact g_retA C X491 rfl rfl d28_23 (by decide) (by decide) ⟨b482, b485, k_b485, rfl, n_b482, sz492, keep_ext kp496, E491, C491, F491, f497⟩
theorem ef_rTl801 (m : MethodId) (t : Addr) : entryFrame m #[(.ref t)] 3 = mkF m 0 #[.val (.ref t), .unset, .unset] [] := by first | (simp [entryFrame, mkF, argsToLocals, Value.category]; done) | rfl
theorem rTl801 (l : Launch) {Z : State} {a0 : Array Value} (hw : ∀ d ∈ tables_1, d.before a0 Z = true) {h : Heap} (hE : Ext Z.heap h) (t : Addr) (kt : ClassId) (y0 y1 y2 y3 y4 y5 y6 y7 tc : Int32) (VT : Arv Z h t kt .byte 9 [(.int y0), (.int y1), (.int y2), (.int y3), (.int y4), (.int y5), (.int y6), (.int y7), (.int tc)] (.int (0 : Int32))) (hy0 : ((32 : Int32) < y0 ∧ ¬ (127 : Int32) < y0)) (hy1 : ((32 : Int32) < y1 ∧ ¬ (127 : Int32) < y1)) (hy2 : ((32 : Int32) < y2 ∧ ¬ (127 : Int32) < y2)) (hy3 : ((32 : Int32) < y3 ∧ ¬ (127 : Int32) < y3)) (hy4 : ((32 : Int32) < y4 ∧ ¬ (127 : Int32) < y4)) (hy5 : ((32 : Int32) < y5 ∧ ¬ (127 : Int32) < y5)) (hy6 : ((32 : Int32) < y6 ∧ ¬ (127 : Int32) < y6)) (hy7 : ((32 : Int32) < y7 ∧ ¬ (127 : Int32) < y7)) (htc : (¬ tc < 0 ∧ ¬ (32 : Int32) < tc)) :
    Con l (⟨"java/lang/StringLatin1", "trim", "([B)Ljava/lang/String;"⟩ : MethodName) jdk_43_method_36_code 3 (some (.object "java/lang/String")) [] ({ frames := 5, cells := 2, slots := 12, locals := 120 } : Room) Z #[(.ref t)] h (fun v' h' => ∃ (x_ t_ : Addr) (k_ : ClassId), v' = some (.ref x_) ∧ Z.heap.size ≤ x_ ∧ h.size ≤ x_ ∧ Ext h h' ∧ Exa Z h' x_ "java/lang/String" ∧ Fld Z h' x_ "java/lang/String" "coder" "B" (.int (0 : Int32)) ∧ Fld Z h' x_ "java/lang/String" "value" "[B" (.ref t_) ∧ Arv Z h' t_ k_ .byte 8 [(.int y0), (.int y1), (.int y2), (.int y3), (.int y4), (.int y5), (.int y6), (.int y7)] (.int (0 : Int32))) := by
  refine con_of (plainFor_of_name pn_5) hE (fun m => ef_rTl801 m t) ?_
  intro p e s m below meth c T0 C X0
  have C : Cx p s m meth c Z "java/lang/StringLatin1" "trim" jdk_43_method_36_code 3 (some (.object "java/lang/String")) := C
  show Goes p e below _ T0 (mkF m 0 #[.val (.ref t), .unset, .unset] [])
  refine g_aloadN C X0 d18_0 rfl rfl (g_arraylength C X0 VT d18_1 (g_istoreN C X0 d18_2 (l' := #[.val (.ref t), .val (.int 9), .unset]) rfl (g_iconst 0 C X0 d18_3 rfl (g_istoreN C X0 d18_4 (l' := #[.val (.ref t), .val (.int 9), .val (.int 0)]) rfl (g_iloadN C X0 d18_5 rfl (g_iloadN C X0 d18_6 rfl (g_icmpn (hI_ge _ _) C X0 d18_7 (fun q => absurd (by decide) q) (fun _ => ?_))))))))
  refine g_aloadN C X0 d18_10 rfl rfl (g_iloadN C X0 d18_11 rfl (g_baload C X0 VT d18_12 (by decide) (by decide) rfl (g_sipush 255 C X0 d18_13 rfl (g_iand C X0 d18_16 (g_bipush 32 C X0 d18_17 rfl (g_icmp (hI_gt _ _) C X0 d18_19 (fun _ => ?_) (fun q => absurd (own_trY hy0) q)))))))
  refine g_iloadN C X0 d18_28 rfl (g_iloadN C X0 d18_29 rfl (g_icmpn (hI_ge _ _) C X0 d18_30 (fun q => absurd (by decide) q) (fun _ => ?_)))
  refine g_aloadN C X0 d18_33 rfl rfl (g_iloadN C X0 d18_34 rfl (g_iconst 1 C X0 d18_35 rfl (g_isub C X0 d18_36 (g_baload C X0 VT d18_37 (by decide) (by decide) rfl (g_sipush 255 C X0 d18_38 rfl (g_iand C X0 d18_41 (g_bipush 32 C X0 d18_42 rfl (g_icmp (hI_gt _ _) C X0 d18_44 (fun q => absurd q (own_trN htc)) (fun _ => ?_)))))))))
  refine g_iinc (-1) C X0 d18_47 rfl rfl (l' := #[.val (.ref t), .val (.int 8), .val (.int 0)]) rfl (g_goto C X0 d18_50 (g_iloadN C X0 d18_28 rfl (g_iloadN C X0 d18_29 rfl (g_icmpn (hI_ge _ _) C X0 d18_30 (fun q => absurd (by decide) q) (fun _ => ?_)))))
  refine g_aloadN C X0 d18_33 rfl rfl (g_iloadN C X0 d18_34 rfl (g_iconst 1 C X0 d18_35 rfl (g_isub C X0 d18_36 (g_baload C X0 VT d18_37 (by decide) (by decide) rfl (g_sipush 255 C X0 d18_38 rfl (g_iand C X0 d18_41 (g_bipush 32 C X0 d18_42 rfl (g_icmp (hI_gt _ _) C X0 d18_44 (fun _ => ?_) (fun q => absurd (own_trY hy7) q)))))))))
  refine g_iloadN C X0 d18_53 rfl (g_if (h0_gt _) C X0 d18_54 (fun q => absurd q (by decide)) (fun _ => ?_))
  refine g_iloadN C X0 d18_57 rfl (g_aloadN C X0 d18_58 rfl rfl (g_arraylength C X0 VT d18_59 (g_icmpn (hI_ge _ _) C X0 d18_60 (fun q => absurd (by decide) q) (fun _ => ?_))))
  refine g_aloadN C X0 d18_63 rfl rfl (g_iloadN C X0 d18_64 rfl (g_iloadN C X0 d18_65 rfl (g_iloadN C X0 d18_66 rfl (g_isub C X0 d18_67 (g_static (argsL := [(.ref t), (.int 0), (.int 8)]) (st := []) C X0 (wd hw 144 rfl) (wd hw 145 rfl) (wd hw 92 rfl) (wd hw 146 rfl) (by decide) (pay_of (W' := 0) (rNs801 l hw X0.ext t kt y0 y1 y2 y3 y4 y5 y6 y7 tc VT) C.hZ (wd hw 146 rfl) (wd hw 92 rfl) (by decide) (by decide)) pd_10 rfl rfl _ rfl (Nat.le_of_eq rfl) d18_68 (by decide) (by decide) (fun T498 h498 v498 q498 X498 => ?_))))))
  obtain ⟨x498, t498, k498, rfl, A498⟩ := q498
  show Goes p e below _ T498 (mkF m 71 #[.val (.ref t), .val (.int 8), .val (.int 0)] [(.ref x498)])
  refine g_goto C X498 d18_71 ?_
  exact g_retA C X498 rfl rfl d18_75 (by decide) (by decide) ⟨x498, t498, k498, rfl, A498⟩
theorem ef_rTr801 (m : MethodId) (x : Addr) : entryFrame m #[(.ref x)] 2 = mkF m 0 #[.val (.ref x), .unset] [] := by first | (simp [entryFrame, mkF, argsToLocals, Value.category]; done) | rfl
theorem rTr801 (l : Launch) {Z : State} {a0 : Array Value} (hw : ∀ d ∈ tables_1, d.before a0 Z = true) {h : Heap} (hE : Ext Z.heap h) (x : Addr) (z_ : Int32) (SZ : Sta Z Z.heap "java/lang/String" "COMPACT_STRINGS" "Z" (.int z_)) (hz : ¬ z_ = 0) (t : Addr) (kt : ClassId) (y0 y1 y2 y3 y4 y5 y6 y7 tc : Int32) (EX : Exa Z h x "java/lang/String") (FC : Fld Z h x "java/lang/String" "coder" "B" (.int (0 : Int32))) (FV : Fld Z h x "java/lang/String" "value" "[B" (.ref t)) (VT : Arv Z h t kt .byte 9 [(.int y0), (.int y1), (.int y2), (.int y3), (.int y4), (.int y5), (.int y6), (.int y7), (.int tc)] (.int (0 : Int32))) (hy0 : ((32 : Int32) < y0 ∧ ¬ (127 : Int32) < y0)) (hy1 : ((32 : Int32) < y1 ∧ ¬ (127 : Int32) < y1)) (hy2 : ((32 : Int32) < y2 ∧ ¬ (127 : Int32) < y2)) (hy3 : ((32 : Int32) < y3 ∧ ¬ (127 : Int32) < y3)) (hy4 : ((32 : Int32) < y4 ∧ ¬ (127 : Int32) < y4)) (hy5 : ((32 : Int32) < y5 ∧ ¬ (127 : Int32) < y5)) (hy6 : ((32 : Int32) < y6 ∧ ¬ (127 : Int32) < y6)) (hy7 : ((32 : Int32) < y7 ∧ ¬ (127 : Int32) < y7)) (htc : (¬ tc < 0 ∧ ¬ (32 : Int32) < tc)) :
    Con l (⟨"java/lang/String", "trim", "()Ljava/lang/String;"⟩ : MethodName) jdk_42_method_113_code 2 (some (.object "java/lang/String")) [] ({ frames := 6, cells := 2, slots := 12, locals := 144 } : Room) Z #[(.ref x)] h (fun v' h' => ∃ (x_ t_ : Addr) (k_ : ClassId), v' = some (.ref x_) ∧ Z.heap.size ≤ x_ ∧ h.size ≤ x_ ∧ Ext h h' ∧ Exa Z h' x_ "java/lang/String" ∧ Fld Z h' x_ "java/lang/String" "coder" "B" (.int (0 : Int32)) ∧ Fld Z h' x_ "java/lang/String" "value" "[B" (.ref t_) ∧ Arv Z h' t_ k_ .byte 8 [(.int y0), (.int y1), (.int y2), (.int y3), (.int y4), (.int y5), (.int y6), (.int y7)] (.int (0 : Int32))) := by
  refine con_of (plainFor_of_name pn_3) hE (fun m => ef_rTr801 m x) ?_
  intro p e s m below meth c T0 C X0
  have C : Cx p s m meth c Z "java/lang/String" "trim" jdk_42_method_113_code 2 (some (.object "java/lang/String")) := C
  show Goes p e below _ T0 (mkF m 0 #[.val (.ref x), .unset] [])
  refine g_aloadN C X0 d16_0 rfl rfl (g_virtualP (argsL := []) (st := []) C X0 (wd hw 85 rfl) (wd hw 86 rfl) (nf_of C (wd hw 88 rfl) rfl rfl) (wd hw 88 rfl) (wd hw 87 rfl) (by decide) EX (pay_of (W' := 0) (rIL l hw X0.ext x z_ SZ hz FC) C.hZ (wd hw 89 rfl) (wd hw 33 rfl) (by decide) (by decide)) pd_11 rfl rfl _ rfl (Nat.le_of_eq rfl) d16_1 (by decide) (by decide) (fun T499 X499 => ?_))
  refine g_if (h0_eq _) C X499 d16_4 (fun q => absurd q (by decide)) (fun _ => ?_)
  refine g_aloadN C X499 d16_7 rfl rfl (g_getfield (host := "") C X499 (Or.inl (wd hw 58 rfl)) Via.refl FV d16_8 (fun T500 X500 => ?_))
  refine g_static (argsL := [(.ref t)]) (st := []) C X500 (wd hw 90 rfl) (wd hw 91 rfl) (wd hw 92 rfl) (wd hw 93 rfl) (by decide) (pay_of (W' := 0) (rTl801 l hw X500.ext t kt y0 y1 y2 y3 y4 y5 y6 y7 tc VT hy0 hy1 hy2 hy3 hy4 hy5 hy6 hy7 htc) C.hZ (wd hw 93 rfl) (wd hw 92 rfl) (by decide) (by decide)) pd_12 rfl rfl _ rfl (Nat.le_of_eq rfl) d16_11 (by decide) (by decide) (fun T501 h501 v501 q501 X501 => ?_)
  obtain ⟨x501, t501, k501, rfl, A501⟩ := q501
  show Goes p e below _ T501 (mkF m 14 #[.val (.ref x), .unset] [(.ref x501)])
  refine g_goto C X501 d16_14 (g_astoreN C X501 d16_24 rfl (l' := #[.val (.ref x), .val (.ref x501)]) rfl (g_aloadN C X501 d16_25 rfl rfl (g_ifnonnull C X501 d16_26 rfl (fun _ => ?_) (fun q => absurd q nofun))))
  refine g_aloadN C X501 d16_33 rfl rfl ?_
  exact g_retA C X501 rfl rfl d16_34 (by decide) (by decide) ⟨x501, t501, k501, rfl, A501⟩
theorem ef_rCl810 (m : MethodId)  : entryFrame m #[(.int 1), (.int 9)] 2 = mkF m 0 #[.val (.int 1), .val (.int 9)] [] := by first | (simp [entryFrame, mkF, argsToLocals, Value.category]; done) | rfl
theorem rCl810 (l : Launch) {Z : State} {a0 : Array Value} (hw : ∀ d ∈ tables_1, d.before a0 Z = true) {h : Heap} (hE : Ext Z.heap h)    :
    Con l (⟨"java/util/Arrays", "checkLength", "(II)V"⟩ : MethodName) jdk_65_method_131_code 2 none [] ({ frames := 0, cells := 0, slots := 0, locals := 0 } : Room) Z #[(.int 1), (.int 9)] h (fun v' h' => v' = none ∧ h' = h) := by
  refine con_of (plainFor_of_name pn_4) hE (fun m => ef_rCl810 m ) ?_
  intro p e s m below meth c T0 C X0
  have C : Cx p s m meth c Z "java/util/Arrays" "checkLength" jdk_65_method_131_code 2 none := C
  show Goes p e below _ T0 (mkF m 0 #[.val (.int 1), .val (.int 9)] [])
  refine g_iloadN C X0 d31_0 rfl (g_iloadN C X0 d31_1 rfl (g_icmpn (hI_ge _ _) C X0 d31_2 (fun _ => ?_) (fun q => absurd q (by decide))))
  exact g_retV C X0 d31_37 (by decide) (by decide) ⟨rfl, rfl⟩
theorem ef_rCb810 (m : MethodId) (t : Addr) : entryFrame m #[(.ref t), (.int 1), (.int 9)] 5 = mkF m 0 #[.val (.ref t), .val (.int 1), .val (.int 9), .unset, .unset] [] := by first | (simp [entryFrame, mkF, argsToLocals, Value.category]; done) | rfl
theorem rCb810 (l : Launch) {Z : State} {a0 : Array Value} (hw : ∀ d ∈ tables_1, d.before a0 Z = true) {h : Heap} (hE : Ext Z.heap h) (t : Addr) (kt : ClassId) (lc y0 y1 y2 y3 y4 y5 y6 y7 : Int32) (VT : Arv Z h t kt .byte 9 [(.int lc), (.int y0), (.int y1), (.int y2), (.int y3), (.int y4), (.int y5), (.int y6), (.int y7)] (.int (0 : Int32))) :
    Con l (⟨"java/util/Arrays", "copyOfRangeByte", "([BII)[B"⟩ : MethodName) jdk_65_method_133_code 5 (some (.array .byte)) [] ({ frames := 2, cells := 1, slots := 8, locals := 48 } : Room) Z #[(.ref t), (.int 1), (.int 9)] h (fun v' h' => ∃ b_ kb, v' = some (.ref b_) ∧ Z.heap.size ≤ b_ ∧ h.size ≤ b_ ∧ Ext h h' ∧ Arv Z h' b_ kb .byte 8 [(.int y0), (.int y1), (.int y2), (.int y3), (.int y4), (.int y5), (.int y6), (.int y7)] (.int (0 : Int32))) := by
  refine con_of (plainFor_of_name pn_4) hE (fun m => ef_rCb810 m t) ?_
  intro p e s m below meth c T0 C X0
  have C : Cx p s m meth c Z "java/util/Arrays" "copyOfRangeByte" jdk_65_method_133_code 5 (some (.array .byte)) := C
  show Goes p e below _ T0 (mkF m 0 #[.val (.ref t), .val (.int 1), .val (.int 9), .unset, .unset] [])
  refine g_iloadN C X0 d30_0 rfl (g_iloadN C X0 d30_1 rfl (g_staticPV (argsL := [(.int 1), (.int 9)]) (st := []) C X0 (wd hw 155 rfl) (wd hw 156 rfl) (wd hw 150 rfl) (wd hw 157 rfl) (by decide) (pay_of (W' := 0) (rCl810 l hw X0.ext) C.hZ (wd hw 157 rfl) (wd hw 150 rfl) (by decide) (by decide)) pd_6 rfl rfl _ rfl (Nat.le_of_eq rfl) d30_2 (by decide) (by decide) (fun T502 X502 => ?_)))
  refine g_iloadN C X502 d30_5 rfl (g_iloadN C X502 d30_6 rfl (g_isub C X502 d30_7 (g_istoreN C X502 d30_8 (l' := #[.val (.ref t), .val (.int 1), .val (.int 9), .val (.int 8), .unset]) rfl (g_iloadN C X502 d30_9 rfl (g_newarray C X502 (wd hw 49 rfl) d30_10 (by decide) 8 8 (by decide) (by decide) (by decide) (by decide) (fun T503 h503 b503 k_b503 g_b503 n_b503 X503 E503 V503 => ?_))))))
  have lt504 : t < b503 := by rw [g_b503]; exact Arv.lt VT
  have V_b503 : Arv Z h503 b503 k_b503 .byte (8 : Int32) [(.int 0), (.int 0), (.int 0), (.int 0), (.int 0), (.int 0), (.int 0), (.int 0)] (.int 0) := V503
  refine g_astore C X503 d30_12 rfl (l' := #[.val (.ref t), .val (.int 1), .val (.int 9), .val (.int 8), .val (.ref b503)]) rfl (g_aloadN C X503 d30_14 rfl rfl (g_iloadN C X503 d30_15 rfl (g_aload C X503 d30_16 rfl rfl (g_iconst 0 C X503 d30_18 rfl (g_aloadN C X503 d30_19 rfl rfl ?_)))))
  have f505 := (Arv.ext VT E503)
  refine g_arraylength C X503 f505 d30_20 (g_iloadN C X503 d30_21 rfl (g_isub C X503 d30_22 (g_iloadN C X503 d30_23 rfl (g_staticP (argsL := [(.int 8), (.int 8)]) (st := [(.int 0), (.ref b503), (.int 1), (.ref t)]) C X503 (wd hw 158 rfl) (wd hw 159 rfl) (wd hw 160 rfl) (wd hw 161 rfl) (by decide) (pay_of (W' := 4) (rMin l hw X503.ext (8 : Int32) (8 : Int32)) C.hZ (wd hw 161 rfl) (wd hw 160 rfl) (by decide) (by decide)) pd_7 rfl rfl _ rfl (Nat.le_of_eq rfl) d30_24 (by decide) (by decide) (fun T506 X506 => ?_)))))
  refine g_arraycopy C X506 (wd hw 162 rfl) (wd hw 165 rfl) (wd hw 163 rfl) (wd hw 164 rfl) f505 V_b503 rfl (by decide) (by decide) (by decide) (by decide) (by decide) [(.int y0), (.int y1), (.int y2), (.int y3), (.int y4), (.int y5), (.int y6), (.int y7)] rfl (Nat.le_of_ble_eq_true rfl) n_b503 rfl d30_27 (by decide) 0 (Nat.le_of_eq rfl) (by decide) (fun T507 h507 X507 K507 V507 => ?_)
  have V507_b503 : Arv Z h507 b503 k_b503 .byte (8 : Int32) [(.int y0), (.int y1), (.int y2), (.int y3), (.int y4), (.int y5), (.int y6), (.int y7)] (.int 0) := V507
  show Goes p e below _ T507 (mkF m 30 #[.val (.ref t), .val (.int 1), .val (.int 9), .val (.int 8), .val (.ref b503)] [])
  refine g_aload C X507 d30_30 rfl rfl ?_
  have sz508 : h.size ≤ b503 := by rw [g_b503]; exact (Keep.refl h []).1
  have kp509 := (Keep.refl h []).ext E503
  have kp510 := kp509.trans K507 (allS (Or.inr sz508) all0)
  exact g_retA C X507 rfl rfl d30_32 (by decide) (by decide) ⟨b503, k_b503, rfl, n_b503, sz508, keep_ext kp510, V507_b503⟩
theorem ef_rCr810 (m : MethodId) (t : Addr) : entryFrame m #[(.ref t), (.int 1), (.int 9)] 3 = mkF m 0 #[.val (.ref t), .val (.int 1), .val (.int 9)] [] := by first | (simp [entryFrame, mkF, argsToLocals, Value.category]; done) | rfl
theorem rCr810 (l : Launch) {Z : State} {a0 : Array Value} (hw : ∀ d ∈ tables_1, d.before a0 Z = true) {h : Heap} (hE : Ext Z.heap h) (t : Addr) (kt : ClassId) (lc y0 y1 y2 y3 y4 y5 y6 y7 : Int32) (VT : Arv Z h t kt .byte 9 [(.int lc), (.int y0), (.int y1), (.int y2), (.int y3), (.int y4), (.int y5), (.int y6), (.int y7)] (.int (0 : Int32))) :
    Con l (⟨"java/util/Arrays", "copyOfRange", "([BII)[B"⟩ : MethodName) jdk_65_method_132_code 3 (some (.array .byte)) [] ({ frames := 3, cells := 1, slots := 8, locals := 72 } : Room) Z #[(.ref t), (.int 1), (.int 9)] h (fun v' h' => ∃ b_ kb, v' = some (.ref b_) ∧ Z.heap.size ≤ b_ ∧ h.size ≤ b_ ∧ Ext h h' ∧ Arv Z h' b_ kb .byte 8 [(.int y0), (.int y1), (.int y2), (.int y3), (.int y4), (.int y5), (.int y6), (.int y7)] (.int (0 : Int32))) := by
  refine con_of (plainFor_of_name pn_4) hE (fun m => ef_rCr810 m t) ?_
  intro p e s m below meth c T0 C X0
  have C : Cx p s m meth c Z "java/util/Arrays" "copyOfRange" jdk_65_method_132_code 3 (some (.array .byte)) := C
  show Goes p e below _ T0 (mkF m 0 #[.val (.ref t), .val (.int 1), .val (.int 9)] [])
  refine g_iloadN C X0 d29_0 rfl (g_ifn (h0_ne _) C X0 d29_1 (fun _ => ?_) (fun q => absurd q (by decide)))
  refine g_aloadN C X0 d29_10 rfl rfl (g_iloadN C X0 d29_11 rfl (g_iloadN C X0 d29_12 rfl (g_static (argsL := [(.ref t), (.int 1), (.int 9)]) (st := []) C X0 (wd hw 152 rfl) (wd hw 153 rfl) (wd hw 150 rfl) (wd hw 154 rfl) (by decide) (pay_of (W' := 0) (rCb810 l hw X0.ext t kt lc y0 y1 y2 y3 y4 y5 y6 y7 VT) C.hZ (wd hw 154 rfl) (wd hw 150 rfl) (by decide) (by decide)) pd_8 rfl rfl _ rfl (Nat.le_of_eq rfl) d29_13 (by decide) (by decide) (fun T511 h511 v511 q511 X511 => ?_))))
  obtain ⟨b511, k_b511, rfl, n_b511, g511, E511, V511⟩ := q511
  have lt512 : t < b511 := Nat.lt_of_lt_of_le (Arv.lt VT) g511
  show Goes p e below _ T511 (mkF m 16 #[.val (.ref t), .val (.int 1), .val (.int 9)] [(.ref b511)])
  have sz513 : h.size ≤ b511 := Nat.le_trans (Keep.refl h []).1 g511
  have kp514 := (Keep.refl h []).ext E511
  exact g_retA C X511 rfl rfl d29_16 (by decide) (by decide) ⟨b511, k_b511, rfl, n_b511, sz513, keep_ext kp514, V511⟩
theorem ef_rNs810 (m : MethodId) (t : Addr) : entryFrame m #[(.ref t), (.int 1), (.int 8)] 3 = mkF m 0 #[.val (.ref t), .val (.int 1), .val (.int 8)] [] := by first | (simp [entryFrame, mkF, argsToLocals, Value.category]; done) | rfl
theorem rNs810 (l : Launch) {Z : State} {a0 : Array Value} (hw : ∀ d ∈ tables_1, d.before a0 Z = true) {h : Heap} (hE : Ext Z.heap h) (t : Addr) (kt : ClassId) (lc y0 y1 y2 y3 y4 y5 y6 y7 : Int32) (VT : Arv Z h t kt .byte 9 [(.int lc), (.int y0), (.int y1), (.int y2), (.int y3), (.int y4), (.int y5), (.int y6), (.int y7)] (.int (0 : Int32))) :
    Con l (⟨"java/lang/StringLatin1", "newString", "([BII)Ljava/lang/String;"⟩ : MethodName) jdk_43_method_47_code 3 (some (.object "java/lang/String")) [] ({ frames := 4, cells := 2, slots := 12, locals := 96 } : Room) Z #[(.ref t), (.int 1), (.int 8)] h (fun v' h' => ∃ (x_ t_ : Addr) (k_ : ClassId), v' = some (.ref x_) ∧ Z.heap.size ≤ x_ ∧ h.size ≤ x_ ∧ Ext h h' ∧ Exa Z h' x_ "java/lang/String" ∧ Fld Z h' x_ "java/lang/String" "coder" "B" (.int (0 : Int32)) ∧ Fld Z h' x_ "java/lang/String" "value" "[B" (.ref t_) ∧ Arv Z h' t_ k_ .byte 8 [(.int y0), (.int y1), (.int y2), (.int y3), (.int y4), (.int y5), (.int y6), (.int y7)] (.int (0 : Int32))) := by
  refine con_of (plainFor_of_name pn_5) hE (fun m => ef_rNs810 m t) ?_
  intro p e s m below meth c T0 C X0
  have C : Cx p s m meth c Z "java/lang/StringLatin1" "newString" jdk_43_method_47_code 3 (some (.object "java/lang/String")) := C
  show Goes p e below _ T0 (mkF m 0 #[.val (.ref t), .val (.int 1), .val (.int 8)] [])
  refine g_iloadN C X0 d28_0 rfl (g_ifn (h0_ne _) C X0 d28_1 (fun _ => ?_) (fun q => absurd q (by decide)))
  refine g_new C X0 (wd hw 147 rfl) (wd hw 32 rfl) (wd hw 33 rfl) d28_7 (by decide) (by decide) (fun T515 h515 b515 g_b515 n_b515 X515 E515 A515 D515 M515 => ?_)
  have lt516 : t < b515 := by rw [g_b515]; exact Arv.lt VT
  have F_coder_b515 : Fld Z h515 b515 "java/lang/String" "coder" "B" (.int 0) := D515 (Or.inr (wd hw 57 rfl)) (ty := .byte) (by decide)
  have F_value_b515 : Fld Z h515 b515 "java/lang/String" "value" "[B" .null := D515 (Or.inr (wd hw 59 rfl)) (ty := (.array .byte)) (by decide)
  refine g_dup C X515 d28_10 rfl (g_aloadN C X515 d28_11 rfl rfl (g_iloadN C X515 d28_12 rfl (g_iloadN C X515 d28_13 rfl (g_iloadN C X515 d28_14 rfl (g_iadd C X515 d28_15 ?_)))))
  have f517 := (Arv.ext VT E515)
  refine g_static (argsL := [(.ref t), (.int 1), (.int 9)]) (st := [(.ref b515), (.ref b515)]) C X515 (wd hw 148 rfl) (wd hw 149 rfl) (wd hw 150 rfl) (wd hw 151 rfl) (by decide) (pay_of (W' := 2) (rCr810 l hw X515.ext t kt lc y0 y1 y2 y3 y4 y5 y6 y7 f517) C.hZ (wd hw 151 rfl) (wd hw 150 rfl) (by decide) (by decide)) pd_8 rfl rfl _ rfl (Nat.le_of_eq rfl) d28_16 (by decide) (by decide) (fun T518 h518 v518 q518 X518 => ?_)
  obtain ⟨b518, k_b518, rfl, n_b518, g518, E518, V518⟩ := q518
  have lt519 : t < b518 := Nat.lt_of_lt_of_le (Arv.lt f517) g518
  have lt520 : b515 < b518 := Nat.lt_of_lt_of_le (Exa.lt A515) g518
  show Goes p e below _ T518 (mkF m 19 #[.val (.ref t), .val (.int 1), .val (.int 8)] [(.ref b518), (.ref b515), (.ref b515)])
  refine g_iconst 0 C X518 d28_19 rfl ?_
  have f521 := (Exa.ext E518 A515)
  have f522 := (Fld.ext E518 F_coder_b515)
  have f523 := (Fld.ext E518 F_value_b515)
  refine g_special (argsL := [(.ref b518), (.int 0)]) (st := [(.ref b515)]) C X518 rfl (wd hw 166 rfl) (wd hw 167 rfl) (wd hw 168 rfl) (by decide) (pay_of (W' := 1) (rIb l hw X518.ext b515 b518 f521 f522 f523 n_b515) C.hZ (wd hw 168 rfl) (wd hw 33 rfl) (by decide) (by decide)) pd_9 rfl rfl _ rfl (Nat.le_of_eq rfl) d28_20 (by decide) (by decide) (fun T524 h524 v524 q524 X524 => ?_)
  obtain ⟨rfl, K524, E524, C524, F524⟩ := q524
  show Goes p e below _ T524 (mkF m 23 #[.val (.ref t), .val (.int 1), .val (.int 8)] [(.ref b515)])
  have sz525 : h.size ≤ b515 := by rw [g_b515]; exact (Keep.refl h []).1
  have kp526 := (Keep.refl h []).ext E515
  have sz527 : h.size ≤ b518 := Nat.le_trans kp526.1 g518
  have kp528 := kp526.ext E518
  have kp529 := kp528.trans K524 (allS (Or.inr sz525) all0)
  have f530 := (Arv.keep V518 K524 (ninS (Nat.ne_of_gt lt520) nin0))
  exact g_retA C X524 rfl rfl d28_23 (by decide) (by decide) ⟨b515, b518, k_b518, rfl, n_b515, sz525, keep_ext kp529, E524, C524, F524, f530⟩
theorem ef_rTl810 (m : MethodId) (t : Addr) : entryFrame m #[(.ref t)] 3 = mkF m 0 #[.val (.ref t), .unset, .unset] [] := by first | (simp [entryFrame, mkF, argsToLocals, Value.category]; done) | rfl
theorem rTl810 (l : Launch) {Z : State} {a0 : Array Value} (hw : ∀ d ∈ tables_1, d.before a0 Z = true) {h : Heap} (hE : Ext Z.heap h) (t : Addr) (kt : ClassId) (lc y0 y1 y2 y3 y4 y5 y6 y7 : Int32) (VT : Arv Z h t kt .byte 9 [(.int lc), (.int y0), (.int y1), (.int y2), (.int y3), (.int y4), (.int y5), (.int y6), (.int y7)] (.int (0 : Int32))) (hlc : (¬ lc < 0 ∧ ¬ (32 : Int32) < lc)) (hy0 : ((32 : Int32) < y0 ∧ ¬ (127 : Int32) < y0)) (hy1 : ((32 : Int32) < y1 ∧ ¬ (127 : Int32) < y1)) (hy2 : ((32 : Int32) < y2 ∧ ¬ (127 : Int32) < y2)) (hy3 : ((32 : Int32) < y3 ∧ ¬ (127 : Int32) < y3)) (hy4 : ((32 : Int32) < y4 ∧ ¬ (127 : Int32) < y4)) (hy5 : ((32 : Int32) < y5 ∧ ¬ (127 : Int32) < y5)) (hy6 : ((32 : Int32) < y6 ∧ ¬ (127 : Int32) < y6)) (hy7 : ((32 : Int32) < y7 ∧ ¬ (127 : Int32) < y7)) :
    Con l (⟨"java/lang/StringLatin1", "trim", "([B)Ljava/lang/String;"⟩ : MethodName) jdk_43_method_36_code 3 (some (.object "java/lang/String")) [] ({ frames := 5, cells := 2, slots := 12, locals := 120 } : Room) Z #[(.ref t)] h (fun v' h' => ∃ (x_ t_ : Addr) (k_ : ClassId), v' = some (.ref x_) ∧ Z.heap.size ≤ x_ ∧ h.size ≤ x_ ∧ Ext h h' ∧ Exa Z h' x_ "java/lang/String" ∧ Fld Z h' x_ "java/lang/String" "coder" "B" (.int (0 : Int32)) ∧ Fld Z h' x_ "java/lang/String" "value" "[B" (.ref t_) ∧ Arv Z h' t_ k_ .byte 8 [(.int y0), (.int y1), (.int y2), (.int y3), (.int y4), (.int y5), (.int y6), (.int y7)] (.int (0 : Int32))) := by
  refine con_of (plainFor_of_name pn_5) hE (fun m => ef_rTl810 m t) ?_
  intro p e s m below meth c T0 C X0
  have C : Cx p s m meth c Z "java/lang/StringLatin1" "trim" jdk_43_method_36_code 3 (some (.object "java/lang/String")) := C
  show Goes p e below _ T0 (mkF m 0 #[.val (.ref t), .unset, .unset] [])
  refine g_aloadN C X0 d18_0 rfl rfl (g_arraylength C X0 VT d18_1 (g_istoreN C X0 d18_2 (l' := #[.val (.ref t), .val (.int 9), .unset]) rfl (g_iconst 0 C X0 d18_3 rfl (g_istoreN C X0 d18_4 (l' := #[.val (.ref t), .val (.int 9), .val (.int 0)]) rfl (g_iloadN C X0 d18_5 rfl (g_iloadN C X0 d18_6 rfl (g_icmpn (hI_ge _ _) C X0 d18_7 (fun q => absurd (by decide) q) (fun _ => ?_))))))))
  refine g_aloadN C X0 d18_10 rfl rfl (g_iloadN C X0 d18_11 rfl (g_baload C X0 VT d18_12 (by decide) (by decide) rfl (g_sipush 255 C X0 d18_13 rfl (g_iand C X0 d18_16 (g_bipush 32 C X0 d18_17 rfl (g_icmp (hI_gt _ _) C X0 d18_19 (fun q => absurd q (own_trN hlc)) (fun _ => ?_)))))))
  refine g_iinc 1 C X0 d18_22 rfl rfl (l' := #[.val (.ref t), .val (.int 9), .val (.int 1)]) rfl (g_goto C X0 d18_25 (g_iloadN C X0 d18_5 rfl (g_iloadN C X0 d18_6 rfl (g_icmpn (hI_ge _ _) C X0 d18_7 (fun q => absurd (by decide) q) (fun _ => ?_)))))
  refine g_aloadN C X0 d18_10 rfl rfl (g_iloadN C X0 d18_11 rfl (g_baload C X0 VT d18_12 (by decide) (by decide) rfl (g_sipush 255 C X0 d18_13 rfl (g_iand C X0 d18_16 (g_bipush 32 C X0 d18_17 rfl (g_icmp (hI_gt _ _) C X0 d18_19 (fun _ => ?_) (fun q => absurd (own_trY hy0) q)))))))
  refine g_iloadN C X0 d18_28 rfl (g_iloadN C X0 d18_29 rfl (g_icmpn (hI_ge _ _) C X0 d18_30 (fun q => absurd (by decide) q) (fun _ => ?_)))
  refine g_aloadN C X0 d18_33 rfl rfl (g_iloadN C X0 d18_34 rfl (g_iconst 1 C X0 d18_35 rfl (g_isub C X0 d18_36 (g_baload C X0 VT d18_37 (by decide) (by decide) rfl (g_sipush 255 C X0 d18_38 rfl (g_iand C X0 d18_41 (g_bipush 32 C X0 d18_42 rfl (g_icmp (hI_gt _ _) C X0 d18_44 (fun _ => ?_) (fun q => absurd (own_trY hy7) q)))))))))
  refine g_iloadN C X0 d18_53 rfl (g_if (h0_gt _) C X0 d18_54 (fun _ => ?_) (fun q => absurd (by decide) q))
  refine g_aloadN C X0 d18_63 rfl rfl (g_iloadN C X0 d18_64 rfl (g_iloadN C X0 d18_65 rfl (g_iloadN C X0 d18_66 rfl (g_isub C X0 d18_67 (g_static (argsL := [(.ref t), (.int 1), (.int 8)]) (st := []) C X0 (wd hw 144 rfl) (wd hw 145 rfl) (wd hw 92 rfl) (wd hw 146 rfl) (by decide) (pay_of (W' := 0) (rNs810 l hw X0.ext t kt lc y0 y1 y2 y3 y4 y5 y6 y7 VT) C.hZ (wd hw 146 rfl) (wd hw 92 rfl) (by decide) (by decide)) pd_10 rfl rfl _ rfl (Nat.le_of_eq rfl) d18_68 (by decide) (by decide) (fun T531 h531 v531 q531 X531 => ?_))))))
  obtain ⟨x531, t531, k531, rfl, A531⟩ := q531
  show Goes p e below _ T531 (mkF m 71 #[.val (.ref t), .val (.int 9), .val (.int 1)] [(.ref x531)])
  refine g_goto C X531 d18_71 ?_
  exact g_retA C X531 rfl rfl d18_75 (by decide) (by decide) ⟨x531, t531, k531, rfl, A531⟩
theorem ef_rTr810 (m : MethodId) (x : Addr) : entryFrame m #[(.ref x)] 2 = mkF m 0 #[.val (.ref x), .unset] [] := by first | (simp [entryFrame, mkF, argsToLocals, Value.category]; done) | rfl
theorem rTr810 (l : Launch) {Z : State} {a0 : Array Value} (hw : ∀ d ∈ tables_1, d.before a0 Z = true) {h : Heap} (hE : Ext Z.heap h) (x : Addr) (z_ : Int32) (SZ : Sta Z Z.heap "java/lang/String" "COMPACT_STRINGS" "Z" (.int z_)) (hz : ¬ z_ = 0) (t : Addr) (kt : ClassId) (lc y0 y1 y2 y3 y4 y5 y6 y7 : Int32) (EX : Exa Z h x "java/lang/String") (FC : Fld Z h x "java/lang/String" "coder" "B" (.int (0 : Int32))) (FV : Fld Z h x "java/lang/String" "value" "[B" (.ref t)) (VT : Arv Z h t kt .byte 9 [(.int lc), (.int y0), (.int y1), (.int y2), (.int y3), (.int y4), (.int y5), (.int y6), (.int y7)] (.int (0 : Int32))) (hlc : (¬ lc < 0 ∧ ¬ (32 : Int32) < lc)) (hy0 : ((32 : Int32) < y0 ∧ ¬ (127 : Int32) < y0)) (hy1 : ((32 : Int32) < y1 ∧ ¬ (127 : Int32) < y1)) (hy2 : ((32 : Int32) < y2 ∧ ¬ (127 : Int32) < y2)) (hy3 : ((32 : Int32) < y3 ∧ ¬ (127 : Int32) < y3)) (hy4 : ((32 : Int32) < y4 ∧ ¬ (127 : Int32) < y4)) (hy5 : ((32 : Int32) < y5 ∧ ¬ (127 : Int32) < y5)) (hy6 : ((32 : Int32) < y6 ∧ ¬ (127 : Int32) < y6)) (hy7 : ((32 : Int32) < y7 ∧ ¬ (127 : Int32) < y7)) :
    Con l (⟨"java/lang/String", "trim", "()Ljava/lang/String;"⟩ : MethodName) jdk_42_method_113_code 2 (some (.object "java/lang/String")) [] ({ frames := 6, cells := 2, slots := 12, locals := 144 } : Room) Z #[(.ref x)] h (fun v' h' => ∃ (x_ t_ : Addr) (k_ : ClassId), v' = some (.ref x_) ∧ Z.heap.size ≤ x_ ∧ h.size ≤ x_ ∧ Ext h h' ∧ Exa Z h' x_ "java/lang/String" ∧ Fld Z h' x_ "java/lang/String" "coder" "B" (.int (0 : Int32)) ∧ Fld Z h' x_ "java/lang/String" "value" "[B" (.ref t_) ∧ Arv Z h' t_ k_ .byte 8 [(.int y0), (.int y1), (.int y2), (.int y3), (.int y4), (.int y5), (.int y6), (.int y7)] (.int (0 : Int32))) := by
  refine con_of (plainFor_of_name pn_3) hE (fun m => ef_rTr810 m x) ?_
  intro p e s m below meth c T0 C X0
  have C : Cx p s m meth c Z "java/lang/String" "trim" jdk_42_method_113_code 2 (some (.object "java/lang/String")) := C
  show Goes p e below _ T0 (mkF m 0 #[.val (.ref x), .unset] [])
  refine g_aloadN C X0 d16_0 rfl rfl (g_virtualP (argsL := []) (st := []) C X0 (wd hw 85 rfl) (wd hw 86 rfl) (nf_of C (wd hw 88 rfl) rfl rfl) (wd hw 88 rfl) (wd hw 87 rfl) (by decide) EX (pay_of (W' := 0) (rIL l hw X0.ext x z_ SZ hz FC) C.hZ (wd hw 89 rfl) (wd hw 33 rfl) (by decide) (by decide)) pd_11 rfl rfl _ rfl (Nat.le_of_eq rfl) d16_1 (by decide) (by decide) (fun T532 X532 => ?_))
  refine g_if (h0_eq _) C X532 d16_4 (fun q => absurd q (by decide)) (fun _ => ?_)
  refine g_aloadN C X532 d16_7 rfl rfl (g_getfield (host := "") C X532 (Or.inl (wd hw 58 rfl)) Via.refl FV d16_8 (fun T533 X533 => ?_))
  refine g_static (argsL := [(.ref t)]) (st := []) C X533 (wd hw 90 rfl) (wd hw 91 rfl) (wd hw 92 rfl) (wd hw 93 rfl) (by decide) (pay_of (W' := 0) (rTl810 l hw X533.ext t kt lc y0 y1 y2 y3 y4 y5 y6 y7 VT hlc hy0 hy1 hy2 hy3 hy4 hy5 hy6 hy7) C.hZ (wd hw 93 rfl) (wd hw 92 rfl) (by decide) (by decide)) pd_12 rfl rfl _ rfl (Nat.le_of_eq rfl) d16_11 (by decide) (by decide) (fun T534 h534 v534 q534 X534 => ?_)
  obtain ⟨x534, t534, k534, rfl, A534⟩ := q534
  show Goes p e below _ T534 (mkF m 14 #[.val (.ref x), .unset] [(.ref x534)])
  refine g_goto C X534 d16_14 (g_astoreN C X534 d16_24 rfl (l' := #[.val (.ref x), .val (.ref x534)]) rfl (g_aloadN C X534 d16_25 rfl rfl (g_ifnonnull C X534 d16_26 rfl (fun _ => ?_) (fun q => absurd q nofun))))
  refine g_aloadN C X534 d16_33 rfl rfl ?_
  exact g_retA C X534 rfl rfl d16_34 (by decide) (by decide) ⟨x534, t534, k534, rfl, A534⟩
theorem ef_rCl811 (m : MethodId)  : entryFrame m #[(.int 1), (.int 9)] 2 = mkF m 0 #[.val (.int 1), .val (.int 9)] [] := by first | (simp [entryFrame, mkF, argsToLocals, Value.category]; done) | rfl
theorem rCl811 (l : Launch) {Z : State} {a0 : Array Value} (hw : ∀ d ∈ tables_1, d.before a0 Z = true) {h : Heap} (hE : Ext Z.heap h)    :
    Con l (⟨"java/util/Arrays", "checkLength", "(II)V"⟩ : MethodName) jdk_65_method_131_code 2 none [] ({ frames := 0, cells := 0, slots := 0, locals := 0 } : Room) Z #[(.int 1), (.int 9)] h (fun v' h' => v' = none ∧ h' = h) := by
  refine con_of (plainFor_of_name pn_4) hE (fun m => ef_rCl811 m ) ?_
  intro p e s m below meth c T0 C X0
  have C : Cx p s m meth c Z "java/util/Arrays" "checkLength" jdk_65_method_131_code 2 none := C
  show Goes p e below _ T0 (mkF m 0 #[.val (.int 1), .val (.int 9)] [])
  refine g_iloadN C X0 d31_0 rfl (g_iloadN C X0 d31_1 rfl (g_icmpn (hI_ge _ _) C X0 d31_2 (fun _ => ?_) (fun q => absurd q (by decide))))
  exact g_retV C X0 d31_37 (by decide) (by decide) ⟨rfl, rfl⟩
theorem ef_rCb811 (m : MethodId) (t : Addr) : entryFrame m #[(.ref t), (.int 1), (.int 9)] 5 = mkF m 0 #[.val (.ref t), .val (.int 1), .val (.int 9), .unset, .unset] [] := by first | (simp [entryFrame, mkF, argsToLocals, Value.category]; done) | rfl
theorem rCb811 (l : Launch) {Z : State} {a0 : Array Value} (hw : ∀ d ∈ tables_1, d.before a0 Z = true) {h : Heap} (hE : Ext Z.heap h) (t : Addr) (kt : ClassId) (lc y0 y1 y2 y3 y4 y5 y6 y7 tc : Int32) (VT : Arv Z h t kt .byte 10 [(.int lc), (.int y0), (.int y1), (.int y2), (.int y3), (.int y4), (.int y5), (.int y6), (.int y7), (.int tc)] (.int (0 : Int32))) :
    Con l (⟨"java/util/Arrays", "copyOfRangeByte", "([BII)[B"⟩ : MethodName) jdk_65_method_133_code 5 (some (.array .byte)) [] ({ frames := 2, cells := 1, slots := 8, locals := 48 } : Room) Z #[(.ref t), (.int 1), (.int 9)] h (fun v' h' => ∃ b_ kb, v' = some (.ref b_) ∧ Z.heap.size ≤ b_ ∧ h.size ≤ b_ ∧ Ext h h' ∧ Arv Z h' b_ kb .byte 8 [(.int y0), (.int y1), (.int y2), (.int y3), (.int y4), (.int y5), (.int y6), (.int y7)] (.int (0 : Int32))) := by
  refine con_of (plainFor_of_name pn_4) hE (fun m => ef_rCb811 m t) ?_
  intro p e s m below meth c T0 C X0
  have C : Cx p s m meth c Z "java/util/Arrays" "copyOfRangeByte" jdk_65_method_133_code 5 (some (.array .byte)) := C
  show Goes p e below _ T0 (mkF m 0 #[.val (.ref t), .val (.int 1), .val (.int 9), .unset, .unset] [])
  refine g_iloadN C X0 d30_0 rfl (g_iloadN C X0 d30_1 rfl (g_staticPV (argsL := [(.int 1), (.int 9)]) (st := []) C X0 (wd hw 155 rfl) (wd hw 156 rfl) (wd hw 150 rfl) (wd hw 157 rfl) (by decide) (pay_of (W' := 0) (rCl811 l hw X0.ext) C.hZ (wd hw 157 rfl) (wd hw 150 rfl) (by decide) (by decide)) pd_6 rfl rfl _ rfl (Nat.le_of_eq rfl) d30_2 (by decide) (by decide) (fun T535 X535 => ?_)))
  refine g_iloadN C X535 d30_5 rfl (g_iloadN C X535 d30_6 rfl (g_isub C X535 d30_7 (g_istoreN C X535 d30_8 (l' := #[.val (.ref t), .val (.int 1), .val (.int 9), .val (.int 8), .unset]) rfl (g_iloadN C X535 d30_9 rfl (g_newarray C X535 (wd hw 49 rfl) d30_10 (by decide) 8 8 (by decide) (by decide) (by decide) (by decide) (fun T536 h536 b536 k_b536 g_b536 n_b536 X536 E536 V536 => ?_))))))
  have lt537 : t < b536 := by rw [g_b536]; exact Arv.lt VT
  have V_b536 : Arv Z h536 b536 k_b536 .byte (8 : Int32) [(.int 0), (.int 0), (.int 0), (.int 0), (.int 0), (.int 0), (.int 0), (.int 0)] (.int 0) := V536
  refine g_astore C X536 d30_12 rfl (l' := #[.val (.ref t), .val (.int 1), .val (.int 9), .val (.int 8), .val (.ref b536)]) rfl (g_aloadN C X536 d30_14 rfl rfl (g_iloadN C X536 d30_15 rfl (g_aload C X536 d30_16 rfl rfl (g_iconst 0 C X536 d30_18 rfl (g_aloadN C X536 d30_19 rfl rfl ?_)))))
  have f538 := (Arv.ext VT E536)
  refine g_arraylength C X536 f538 d30_20 (g_iloadN C X536 d30_21 rfl (g_isub C X536 d30_22 (g_iloadN C X536 d30_23 rfl (g_staticP (argsL := [(.int 9), (.int 8)]) (st := [(.int 0), (.ref b536), (.int 1), (.ref t)]) C X536 (wd hw 158 rfl) (wd hw 159 rfl) (wd hw 160 rfl) (wd hw 161 rfl) (by decide) (pay_of (W' := 4) (rMin l hw X536.ext (9 : Int32) (8 : Int32)) C.hZ (wd hw 161 rfl) (wd hw 160 rfl) (by decide) (by decide)) pd_7 rfl rfl _ rfl (Nat.le_of_eq rfl) d30_24 (by decide) (by decide) (fun T539 X539 => ?_)))))
  refine g_arraycopy C X539 (wd hw 162 rfl) (wd hw 165 rfl) (wd hw 163 rfl) (wd hw 164 rfl) f538 V_b536 rfl (by decide) (by decide) (by decide) (by decide) (by decide) [(.int y0), (.int y1), (.int y2), (.int y3), (.int y4), (.int y5), (.int y6), (.int y7)] rfl (Nat.le_of_ble_eq_true rfl) n_b536 rfl d30_27 (by decide) 0 (Nat.le_of_eq rfl) (by decide) (fun T540 h540 X540 K540 V540 => ?_)
  have V540_b536 : Arv Z h540 b536 k_b536 .byte (8 : Int32) [(.int y0), (.int y1), (.int y2), (.int y3), (.int y4), (.int y5), (.int y6), (.int y7)] (.int 0) := V540
  show Goes p e below _ T540 (mkF m 30 #[.val (.ref t), .val (.int 1), .val (.int 9), .val (.int 8), .val (.ref b536)] [])
  refine g_aload C X540 d30_30 rfl rfl ?_
  have sz541 : h.size ≤ b536 := by rw [g_b536]; exact (Keep.refl h []).1
  have kp542 := (Keep.refl h []).ext E536
  have kp543 := kp542.trans K540 (allS (Or.inr sz541) all0)
  exact g_retA C X540 rfl rfl d30_32 (by decide) (by decide) ⟨b536, k_b536, rfl, n_b536, sz541, keep_ext kp543, V540_b536⟩
theorem ef_rCr811 (m : MethodId) (t : Addr) : entryFrame m #[(.ref t), (.int 1), (.int 9)] 3 = mkF m 0 #[.val (.ref t), .val (.int 1), .val (.int 9)] [] := by first | (simp [entryFrame, mkF, argsToLocals, Value.category]; done) | rfl
theorem rCr811 (l : Launch) {Z : State} {a0 : Array Value} (hw : ∀ d ∈ tables_1, d.before a0 Z = true) {h : Heap} (hE : Ext Z.heap h) (t : Addr) (kt : ClassId) (lc y0 y1 y2 y3 y4 y5 y6 y7 tc : Int32) (VT : Arv Z h t kt .byte 10 [(.int lc), (.int y0), (.int y1), (.int y2), (.int y3), (.int y4), (.int y5), (.int y6), (.int y7), (.int tc)] (.int (0 : Int32))) :
    Con l (⟨"java/util/Arrays", "copyOfRange", "([BII)[B"⟩ : MethodName) jdk_65_method_132_code 3 (some (.array .byte)) [] ({ frames := 3, cells := 1, slots := 8, locals := 72 } : Room) Z #[(.ref t), (.int 1), (.int 9)] h (fun v' h' => ∃ b_ kb, v' = some (.ref b_) ∧ Z.heap.size ≤ b_ ∧ h.size ≤ b_ ∧ Ext h h' ∧ Arv Z h' b_ kb .byte 8 [(.int y0), (.int y1), (.int y2), (.int y3), (.int y4), (.int y5), (.int y6), (.int y7)] (.int (0 : Int32))) := by
  refine con_of (plainFor_of_name pn_4) hE (fun m => ef_rCr811 m t) ?_
  intro p e s m below meth c T0 C X0
  have C : Cx p s m meth c Z "java/util/Arrays" "copyOfRange" jdk_65_method_132_code 3 (some (.array .byte)) := C
  show Goes p e below _ T0 (mkF m 0 #[.val (.ref t), .val (.int 1), .val (.int 9)] [])
  refine g_iloadN C X0 d29_0 rfl (g_ifn (h0_ne _) C X0 d29_1 (fun _ => ?_) (fun q => absurd q (by decide)))
  refine g_aloadN C X0 d29_10 rfl rfl (g_iloadN C X0 d29_11 rfl (g_iloadN C X0 d29_12 rfl (g_static (argsL := [(.ref t), (.int 1), (.int 9)]) (st := []) C X0 (wd hw 152 rfl) (wd hw 153 rfl) (wd hw 150 rfl) (wd hw 154 rfl) (by decide) (pay_of (W' := 0) (rCb811 l hw X0.ext t kt lc y0 y1 y2 y3 y4 y5 y6 y7 tc VT) C.hZ (wd hw 154 rfl) (wd hw 150 rfl) (by decide) (by decide)) pd_8 rfl rfl _ rfl (Nat.le_of_eq rfl) d29_13 (by decide) (by decide) (fun T544 h544 v544 q544 X544 => ?_))))
  obtain ⟨b544, k_b544, rfl, n_b544, g544, E544, V544⟩ := q544
  have lt545 : t < b544 := Nat.lt_of_lt_of_le (Arv.lt VT) g544
  show Goes p e below _ T544 (mkF m 16 #[.val (.ref t), .val (.int 1), .val (.int 9)] [(.ref b544)])
  have sz546 : h.size ≤ b544 := Nat.le_trans (Keep.refl h []).1 g544
  have kp547 := (Keep.refl h []).ext E544
  exact g_retA C X544 rfl rfl d29_16 (by decide) (by decide) ⟨b544, k_b544, rfl, n_b544, sz546, keep_ext kp547, V544⟩
theorem ef_rNs811 (m : MethodId) (t : Addr) : entryFrame m #[(.ref t), (.int 1), (.int 8)] 3 = mkF m 0 #[.val (.ref t), .val (.int 1), .val (.int 8)] [] := by first | (simp [entryFrame, mkF, argsToLocals, Value.category]; done) | rfl
theorem rNs811 (l : Launch) {Z : State} {a0 : Array Value} (hw : ∀ d ∈ tables_1, d.before a0 Z = true) {h : Heap} (hE : Ext Z.heap h) (t : Addr) (kt : ClassId) (lc y0 y1 y2 y3 y4 y5 y6 y7 tc : Int32) (VT : Arv Z h t kt .byte 10 [(.int lc), (.int y0), (.int y1), (.int y2), (.int y3), (.int y4), (.int y5), (.int y6), (.int y7), (.int tc)] (.int (0 : Int32))) :
    Con l (⟨"java/lang/StringLatin1", "newString", "([BII)Ljava/lang/String;"⟩ : MethodName) jdk_43_method_47_code 3 (some (.object "java/lang/String")) [] ({ frames := 4, cells := 2, slots := 12, locals := 96 } : Room) Z #[(.ref t), (.int 1), (.int 8)] h (fun v' h' => ∃ (x_ t_ : Addr) (k_ : ClassId), v' = some (.ref x_) ∧ Z.heap.size ≤ x_ ∧ h.size ≤ x_ ∧ Ext h h' ∧ Exa Z h' x_ "java/lang/String" ∧ Fld Z h' x_ "java/lang/String" "coder" "B" (.int (0 : Int32)) ∧ Fld Z h' x_ "java/lang/String" "value" "[B" (.ref t_) ∧ Arv Z h' t_ k_ .byte 8 [(.int y0), (.int y1), (.int y2), (.int y3), (.int y4), (.int y5), (.int y6), (.int y7)] (.int (0 : Int32))) := by
  refine con_of (plainFor_of_name pn_5) hE (fun m => ef_rNs811 m t) ?_
  intro p e s m below meth c T0 C X0
  have C : Cx p s m meth c Z "java/lang/StringLatin1" "newString" jdk_43_method_47_code 3 (some (.object "java/lang/String")) := C
  show Goes p e below _ T0 (mkF m 0 #[.val (.ref t), .val (.int 1), .val (.int 8)] [])
  refine g_iloadN C X0 d28_0 rfl (g_ifn (h0_ne _) C X0 d28_1 (fun _ => ?_) (fun q => absurd q (by decide)))
  refine g_new C X0 (wd hw 147 rfl) (wd hw 32 rfl) (wd hw 33 rfl) d28_7 (by decide) (by decide) (fun T548 h548 b548 g_b548 n_b548 X548 E548 A548 D548 M548 => ?_)
  have lt549 : t < b548 := by rw [g_b548]; exact Arv.lt VT
  have F_coder_b548 : Fld Z h548 b548 "java/lang/String" "coder" "B" (.int 0) := D548 (Or.inr (wd hw 57 rfl)) (ty := .byte) (by decide)
  have F_value_b548 : Fld Z h548 b548 "java/lang/String" "value" "[B" .null := D548 (Or.inr (wd hw 59 rfl)) (ty := (.array .byte)) (by decide)
  refine g_dup C X548 d28_10 rfl (g_aloadN C X548 d28_11 rfl rfl (g_iloadN C X548 d28_12 rfl (g_iloadN C X548 d28_13 rfl (g_iloadN C X548 d28_14 rfl (g_iadd C X548 d28_15 ?_)))))
  have f550 := (Arv.ext VT E548)
  refine g_static (argsL := [(.ref t), (.int 1), (.int 9)]) (st := [(.ref b548), (.ref b548)]) C X548 (wd hw 148 rfl) (wd hw 149 rfl) (wd hw 150 rfl) (wd hw 151 rfl) (by decide) (pay_of (W' := 2) (rCr811 l hw X548.ext t kt lc y0 y1 y2 y3 y4 y5 y6 y7 tc f550) C.hZ (wd hw 151 rfl) (wd hw 150 rfl) (by decide) (by decide)) pd_8 rfl rfl _ rfl (Nat.le_of_eq rfl) d28_16 (by decide) (by decide) (fun T551 h551 v551 q551 X551 => ?_)
  obtain ⟨b551, k_b551, rfl, n_b551, g551, E551, V551⟩ := q551
  have lt552 : t < b551 := Nat.lt_of_lt_of_le (Arv.lt f550) g551
  have lt553 : b548 < b551 := Nat.lt_of_lt_of_le (Exa.lt A548) g551
  show Goes p e below _ T551 (mkF m 19 #[.val (.ref t), .val (.int 1), .val (.int 8)] [(.ref b551), (.ref b548), (.ref b548)])
  refine g_iconst 0 C X551 d28_19 rfl ?_
  have f554 := (Exa.ext E551 A548)
  have f555 := (Fld.ext E551 F_coder_b548)
  have f556 := (Fld.ext E551 F_value_b548)
  refine g_special (argsL := [(.ref b551), (.int 0)]) (st := [(.ref b548)]) C X551 rfl (wd hw 166 rfl) (wd hw 167 rfl) (wd hw 168 rfl) (by decide) (pay_of (W' := 1) (rIb l hw X551.ext b548 b551 f554 f555 f556 n_b548) C.hZ (wd hw 168 rfl) (wd hw 33 rfl) (by decide) (by decide)) pd_9 rfl rfl _ rfl (Nat.le_of_eq rfl) d28_20 (by decide) (by decide) (fun T557 h557 v557 q557 X557 => ?_)
  obtain ⟨rfl, K557, E557, C557, F557⟩ := q557
  show Goes p e below _ T557 (mkF m 23 #[.val (.ref t), .val (.int 1), .val (.int 8)] [(.ref b548)])
  have sz558 : h.size ≤ b548 := by rw [g_b548]; exact (Keep.refl h []).1
  have kp559 := (Keep.refl h []).ext E548
  have sz560 : h.size ≤ b551 := Nat.le_trans kp559.1 g551
  have kp561 := kp559.ext E551
  have kp562 := kp561.trans K557 (allS (Or.inr sz558) all0)
  have f563 := (Arv.keep V551 K557 (ninS (Nat.ne_of_gt lt553) nin0))
  exact g_retA C X557 rfl rfl d28_23 (by decide) (by decide) ⟨b548, b551, k_b551, rfl, n_b548, sz558, keep_ext kp562, E557, C557, F557, f563⟩
theorem ef_rTl811 (m : MethodId) (t : Addr) : entryFrame m #[(.ref t)] 3 = mkF m 0 #[.val (.ref t), .unset, .unset] [] := by first | (simp [entryFrame, mkF, argsToLocals, Value.category]; done) | rfl
theorem rTl811 (l : Launch) {Z : State} {a0 : Array Value} (hw : ∀ d ∈ tables_1, d.before a0 Z = true) {h : Heap} (hE : Ext Z.heap h) (t : Addr) (kt : ClassId) (lc y0 y1 y2 y3 y4 y5 y6 y7 tc : Int32) (VT : Arv Z h t kt .byte 10 [(.int lc), (.int y0), (.int y1), (.int y2), (.int y3), (.int y4), (.int y5), (.int y6), (.int y7), (.int tc)] (.int (0 : Int32))) (hlc : (¬ lc < 0 ∧ ¬ (32 : Int32) < lc)) (hy0 : ((32 : Int32) < y0 ∧ ¬ (127 : Int32) < y0)) (hy1 : ((32 : Int32) < y1 ∧ ¬ (127 : Int32) < y1)) (hy2 : ((32 : Int32) < y2 ∧ ¬ (127 : Int32) < y2)) (hy3 : ((32 : Int32) < y3 ∧ ¬ (127 : Int32) < y3)) (hy4 : ((32 : Int32) < y4 ∧ ¬ (127 : Int32) < y4)) (hy5 : ((32 : Int32) < y5 ∧ ¬ (127 : Int32) < y5)) (hy6 : ((32 : Int32) < y6 ∧ ¬ (127 : Int32) < y6)) (hy7 : ((32 : Int32) < y7 ∧ ¬ (127 : Int32) < y7)) (htc : (¬ tc < 0 ∧ ¬ (32 : Int32) < tc)) :
    Con l (⟨"java/lang/StringLatin1", "trim", "([B)Ljava/lang/String;"⟩ : MethodName) jdk_43_method_36_code 3 (some (.object "java/lang/String")) [] ({ frames := 5, cells := 2, slots := 12, locals := 120 } : Room) Z #[(.ref t)] h (fun v' h' => ∃ (x_ t_ : Addr) (k_ : ClassId), v' = some (.ref x_) ∧ Z.heap.size ≤ x_ ∧ h.size ≤ x_ ∧ Ext h h' ∧ Exa Z h' x_ "java/lang/String" ∧ Fld Z h' x_ "java/lang/String" "coder" "B" (.int (0 : Int32)) ∧ Fld Z h' x_ "java/lang/String" "value" "[B" (.ref t_) ∧ Arv Z h' t_ k_ .byte 8 [(.int y0), (.int y1), (.int y2), (.int y3), (.int y4), (.int y5), (.int y6), (.int y7)] (.int (0 : Int32))) := by
  refine con_of (plainFor_of_name pn_5) hE (fun m => ef_rTl811 m t) ?_
  intro p e s m below meth c T0 C X0
  have C : Cx p s m meth c Z "java/lang/StringLatin1" "trim" jdk_43_method_36_code 3 (some (.object "java/lang/String")) := C
  show Goes p e below _ T0 (mkF m 0 #[.val (.ref t), .unset, .unset] [])
  refine g_aloadN C X0 d18_0 rfl rfl (g_arraylength C X0 VT d18_1 (g_istoreN C X0 d18_2 (l' := #[.val (.ref t), .val (.int 10), .unset]) rfl (g_iconst 0 C X0 d18_3 rfl (g_istoreN C X0 d18_4 (l' := #[.val (.ref t), .val (.int 10), .val (.int 0)]) rfl (g_iloadN C X0 d18_5 rfl (g_iloadN C X0 d18_6 rfl (g_icmpn (hI_ge _ _) C X0 d18_7 (fun q => absurd (by decide) q) (fun _ => ?_))))))))
  refine g_aloadN C X0 d18_10 rfl rfl (g_iloadN C X0 d18_11 rfl (g_baload C X0 VT d18_12 (by decide) (by decide) rfl (g_sipush 255 C X0 d18_13 rfl (g_iand C X0 d18_16 (g_bipush 32 C X0 d18_17 rfl (g_icmp (hI_gt _ _) C X0 d18_19 (fun q => absurd q (own_trN hlc)) (fun _ => ?_)))))))
  refine g_iinc 1 C X0 d18_22 rfl rfl (l' := #[.val (.ref t), .val (.int 10), .val (.int 1)]) rfl (g_goto C X0 d18_25 (g_iloadN C X0 d18_5 rfl (g_iloadN C X0 d18_6 rfl (g_icmpn (hI_ge _ _) C X0 d18_7 (fun q => absurd (by decide) q) (fun _ => ?_)))))
  refine g_aloadN C X0 d18_10 rfl rfl (g_iloadN C X0 d18_11 rfl (g_baload C X0 VT d18_12 (by decide) (by decide) rfl (g_sipush 255 C X0 d18_13 rfl (g_iand C X0 d18_16 (g_bipush 32 C X0 d18_17 rfl (g_icmp (hI_gt _ _) C X0 d18_19 (fun _ => ?_) (fun q => absurd (own_trY hy0) q)))))))
  refine g_iloadN C X0 d18_28 rfl (g_iloadN C X0 d18_29 rfl (g_icmpn (hI_ge _ _) C X0 d18_30 (fun q => absurd (by decide) q) (fun _ => ?_)))
  refine g_aloadN C X0 d18_33 rfl rfl (g_iloadN C X0 d18_34 rfl (g_iconst 1 C X0 d18_35 rfl (g_isub C X0 d18_36 (g_baload C X0 VT d18_37 (by decide) (by decide) rfl (g_sipush 255 C X0 d18_38 rfl (g_iand C X0 d18_41 (g_bipush 32 C X0 d18_42 rfl (g_icmp (hI_gt _ _) C X0 d18_44 (fun q => absurd q (own_trN htc)) (fun _ => ?_)))))))))
  refine g_iinc (-1) C X0 d18_47 rfl rfl (l' := #[.val (.ref t), .val (.int 9), .val (.int 1)]) rfl (g_goto C X0 d18_50 (g_iloadN C X0 d18_28 rfl (g_iloadN C X0 d18_29 rfl (g_icmpn (hI_ge _ _) C X0 d18_30 (fun q => absurd (by decide) q) (fun _ => ?_)))))
  refine g_aloadN C X0 d18_33 rfl rfl (g_iloadN C X0 d18_34 rfl (g_iconst 1 C X0 d18_35 rfl (g_isub C X0 d18_36 (g_baload C X0 VT d18_37 (by decide) (by decide) rfl (g_sipush 255 C X0 d18_38 rfl (g_iand C X0 d18_41 (g_bipush 32 C X0 d18_42 rfl (g_icmp (hI_gt _ _) C X0 d18_44 (fun _ => ?_) (fun q => absurd (own_trY hy7) q)))))))))
  refine g_iloadN C X0 d18_53 rfl (g_if (h0_gt _) C X0 d18_54 (fun _ => ?_) (fun q => absurd (by decide) q))
  refine g_aloadN C X0 d18_63 rfl rfl (g_iloadN C X0 d18_64 rfl (g_iloadN C X0 d18_65 rfl (g_iloadN C X0 d18_66 rfl (g_isub C X0 d18_67 (g_static (argsL := [(.ref t), (.int 1), (.int 8)]) (st := []) C X0 (wd hw 144 rfl) (wd hw 145 rfl) (wd hw 92 rfl) (wd hw 146 rfl) (by decide) (pay_of (W' := 0) (rNs811 l hw X0.ext t kt lc y0 y1 y2 y3 y4 y5 y6 y7 tc VT) C.hZ (wd hw 146 rfl) (wd hw 92 rfl) (by decide) (by decide)) pd_10 rfl rfl _ rfl (Nat.le_of_eq rfl) d18_68 (by decide) (by decide) (fun T564 h564 v564 q564 X564 => ?_))))))
  obtain ⟨x564, t564, k564, rfl, A564⟩ := q564
  show Goes p e below _ T564 (mkF m 71 #[.val (.ref t), .val (.int 9), .val (.int 1)] [(.ref x564)])
  refine g_goto C X564 d18_71 ?_
  exact g_retA C X564 rfl rfl d18_75 (by decide) (by decide) ⟨x564, t564, k564, rfl, A564⟩
theorem ef_rTr811 (m : MethodId) (x : Addr) : entryFrame m #[(.ref x)] 2 = mkF m 0 #[.val (.ref x), .unset] [] := by first | (simp [entryFrame, mkF, argsToLocals, Value.category]; done) | rfl
theorem rTr811 (l : Launch) {Z : State} {a0 : Array Value} (hw : ∀ d ∈ tables_1, d.before a0 Z = true) {h : Heap} (hE : Ext Z.heap h) (x : Addr) (z_ : Int32) (SZ : Sta Z Z.heap "java/lang/String" "COMPACT_STRINGS" "Z" (.int z_)) (hz : ¬ z_ = 0) (t : Addr) (kt : ClassId) (lc y0 y1 y2 y3 y4 y5 y6 y7 tc : Int32) (EX : Exa Z h x "java/lang/String") (FC : Fld Z h x "java/lang/String" "coder" "B" (.int (0 : Int32))) (FV : Fld Z h x "java/lang/String" "value" "[B" (.ref t)) (VT : Arv Z h t kt .byte 10 [(.int lc), (.int y0), (.int y1), (.int y2), (.int y3), (.int y4), (.int y5), (.int y6), (.int y7), (.int tc)] (.int (0 : Int32))) (hlc : (¬ lc < 0 ∧ ¬ (32 : Int32) < lc)) (hy0 : ((32 : Int32) < y0 ∧ ¬ (127 : Int32) < y0)) (hy1 : ((32 : Int32) < y1 ∧ ¬ (127 : Int32) < y1)) (hy2 : ((32 : Int32) < y2 ∧ ¬ (127 : Int32) < y2)) (hy3 : ((32 : Int32) < y3 ∧ ¬ (127 : Int32) < y3)) (hy4 : ((32 : Int32) < y4 ∧ ¬ (127 : Int32) < y4)) (hy5 : ((32 : Int32) < y5 ∧ ¬ (127 : Int32) < y5)) (hy6 : ((32 : Int32) < y6 ∧ ¬ (127 : Int32) < y6)) (hy7 : ((32 : Int32) < y7 ∧ ¬ (127 : Int32) < y7)) (htc : (¬ tc < 0 ∧ ¬ (32 : Int32) < tc)) :
    Con l (⟨"java/lang/String", "trim", "()Ljava/lang/String;"⟩ : MethodName) jdk_42_method_113_code 2 (some (.object "java/lang/String")) [] ({ frames := 6, cells := 2, slots := 12, locals := 144 } : Room) Z #[(.ref x)] h (fun v' h' => ∃ (x_ t_ : Addr) (k_ : ClassId), v' = some (.ref x_) ∧ Z.heap.size ≤ x_ ∧ h.size ≤ x_ ∧ Ext h h' ∧ Exa Z h' x_ "java/lang/String" ∧ Fld Z h' x_ "java/lang/String" "coder" "B" (.int (0 : Int32)) ∧ Fld Z h' x_ "java/lang/String" "value" "[B" (.ref t_) ∧ Arv Z h' t_ k_ .byte 8 [(.int y0), (.int y1), (.int y2), (.int y3), (.int y4), (.int y5), (.int y6), (.int y7)] (.int (0 : Int32))) := by
  refine con_of (plainFor_of_name pn_3) hE (fun m => ef_rTr811 m x) ?_
  intro p e s m below meth c T0 C X0
  have C : Cx p s m meth c Z "java/lang/String" "trim" jdk_42_method_113_code 2 (some (.object "java/lang/String")) := C
  show Goes p e below _ T0 (mkF m 0 #[.val (.ref x), .unset] [])
  refine g_aloadN C X0 d16_0 rfl rfl (g_virtualP (argsL := []) (st := []) C X0 (wd hw 85 rfl) (wd hw 86 rfl) (nf_of C (wd hw 88 rfl) rfl rfl) (wd hw 88 rfl) (wd hw 87 rfl) (by decide) EX (pay_of (W' := 0) (rIL l hw X0.ext x z_ SZ hz FC) C.hZ (wd hw 89 rfl) (wd hw 33 rfl) (by decide) (by decide)) pd_11 rfl rfl _ rfl (Nat.le_of_eq rfl) d16_1 (by decide) (by decide) (fun T565 X565 => ?_))
  refine g_if (h0_eq _) C X565 d16_4 (fun q => absurd q (by decide)) (fun _ => ?_)
  refine g_aloadN C X565 d16_7 rfl rfl (g_getfield (host := "") C X565 (Or.inl (wd hw 58 rfl)) Via.refl FV d16_8 (fun T566 X566 => ?_))
  refine g_static (argsL := [(.ref t)]) (st := []) C X566 (wd hw 90 rfl) (wd hw 91 rfl) (wd hw 92 rfl) (wd hw 93 rfl) (by decide) (pay_of (W' := 0) (rTl811 l hw X566.ext t kt lc y0 y1 y2 y3 y4 y5 y6 y7 tc VT hlc hy0 hy1 hy2 hy3 hy4 hy5 hy6 hy7 htc) C.hZ (wd hw 93 rfl) (wd hw 92 rfl) (by decide) (by decide)) pd_12 rfl rfl _ rfl (Nat.le_of_eq rfl) d16_11 (by decide) (by decide) (fun T567 h567 v567 q567 X567 => ?_)
  obtain ⟨x567, t567, k567, rfl, A567⟩ := q567
  show Goes p e below _ T567 (mkF m 14 #[.val (.ref x), .unset] [(.ref x567)])
  refine g_goto C X567 d16_14 (g_astoreN C X567 d16_24 rfl (l' := #[.val (.ref x), .val (.ref x567)]) rfl (g_aloadN C X567 d16_25 rfl rfl (g_ifnonnull C X567 d16_26 rfl (fun _ => ?_) (fun q => absurd q nofun))))
  refine g_aloadN C X567 d16_33 rfl rfl ?_
  exact g_retA C X567 rfl rfl d16_34 (by decide) (by decide) ⟨x567, t567, k567, rfl, A567⟩
theorem ef_rTl100 (m : MethodId) (t : Addr) : entryFrame m #[(.ref t)] 3 = mkF m 0 #[.val (.ref t), .unset, .unset] [] := by first | (simp [entryFrame, mkF, argsToLocals, Value.category]; done) | rfl
theorem d18_74 : Dc jdk_43_method_36_code 74 (.aconst_null) 1 75 := by decide +kernel
theorem rTl100 (l : Launch) {Z : State} {a0 : Array Value} (hw : ∀ d ∈ tables_1, d.before a0 Z = true) {h : Heap} (hE : Ext Z.heap h) (t : Addr) (kt : ClassId) (y : Int32) (VT : Arv Z h t kt .byte 1 [(.int y)] (.int (0 : Int32))) (hy : ((32 : Int32) < y ∧ ¬ (127 : Int32) < y)) :
    Con l (⟨"java/lang/StringLatin1", "trim", "([B)Ljava/lang/String;"⟩ : MethodName) jdk_43_method_36_code 3 (some (.object "java/lang/String")) [] ({ frames := 5, cells := 0, slots := 0, locals := 120 } : Room) Z #[(.ref t)] h (fun v' h' => v' = some .null ∧ h' = h) := by
  refine con_of (plainFor_of_name pn_5) hE (fun m => ef_rTl100 m t) ?_
  intro p e s m below meth c T0 C X0
  have C : Cx p s m meth c Z "java/lang/StringLatin1" "trim" jdk_43_method_36_code 3 (some (.object "java/lang/String")) := C
  show Goes p e below _ T0 (mkF m 0 #[.val (.ref t), .unset, .unset] [])
  refine g_aloadN C X0 d18_0 rfl rfl (g_arraylength C X0 VT d18_1 (g_istoreN C X0 d18_2 (l' := #[.val (.ref t), .val (.int 1), .unset]) rfl (g_iconst 0 C X0 d18_3 rfl (g_istoreN C X0 d18_4 (l' := #[.val (.ref t), .val (.int 1), .val (.int 0)]) rfl (g_iloadN C X0 d18_5 rfl (g_iloadN C X0 d18_6 rfl (g_icmpn (hI_ge _ _) C X0 d18_7 (fun q => absurd (by decide) q) (fun _ => ?_))))))))
  refine g_aloadN C X0 d18_10 rfl rfl (g_iloadN C X0 d18_11 rfl (g_baload C X0 VT d18_12 (by decide) (by decide) rfl (g_sipush 255 C X0 d18_13 rfl (g_iand C X0 d18_16 (g_bipush 32 C X0 d18_17 rfl (g_icmp (hI_gt _ _) C X0 d18_19 (fun _ => ?_) (fun q => absurd (own_trY hy) q)))))))
  refine g_iloadN C X0 d18_28 rfl (g_iloadN C X0 d18_29 rfl (g_icmpn (hI_ge _ _) C X0 d18_30 (fun q => absurd (by decide) q) (fun _ => ?_)))
  refine g_aloadN C X0 d18_33 rfl rfl (g_iloadN C X0 d18_34 rfl (g_iconst 1 C X0 d18_35 rfl (g_isub C X0 d18_36 (g_baload C X0 VT d18_37 (by decide) (by decide) rfl (g_sipush 255 C X0 d18_38 rfl (g_iand C X0 d18_41 (g_bipush 32 C X0 d18_42 rfl (g_icmp (hI_gt _ _) C X0 d18_44 (fun _ => ?_) (fun q => absurd (own_trY hy) q)))))))))
  refine g_iloadN C X0 d18_53 rfl (g_if (h0_gt _) C X0 d18_54 (fun q => absurd q (by decide)) (fun _ => ?_))
  refine g_iloadN C X0 d18_57 rfl (g_aloadN C X0 d18_58 rfl rfl (g_arraylength C X0 VT d18_59 (g_icmpn (hI_ge _ _) C X0 d18_60 (fun _ => ?_) (fun q => absurd q (by decide)))))
  refine g_aconst_null C X0 d18_74 ?_
  exact g_retA C X0 rfl rfl d18_75 (by decide) (by decide) ⟨rfl, rfl⟩
theorem ef_rTr100 (m : MethodId) (x : Addr) : entryFrame m #[(.ref x)] 2 = mkF m 0 #[.val (.ref x), .unset] [] := by first | (simp [entryFrame, mkF, argsToLocals, Value.category]; done) | rfl
theorem d16_29 : Dc jdk_42_method_113_code 29 (.aload_n 0) 1 30 := by decide +kernel
theorem d16_30 : Dj jdk_42_method_113_code 30 (.goto 4) 4 3 33 34 := by decide +kernel
theorem rTr100 (l : Launch) {Z : State} {a0 : Array Value} (hw : ∀ d ∈ tables_1, d.before a0 Z = true) {h : Heap} (hE : Ext Z.heap h) (x : Addr) (z_ : Int32) (SZ : Sta Z Z.heap "java/lang/String" "COMPACT_STRINGS" "Z" (.int z_)) (hz : ¬ z_ = 0) (t : Addr) (kt : ClassId) (y : Int32) (EX : Exa Z h x "java/lang/String") (FC : Fld Z h x "java/lang/String" "coder" "B" (.int (0 : Int32))) (FV : Fld Z h x "java/lang/String" "value" "[B" (.ref t)) (VT : Arv Z h t kt .byte 1 [(.int y)] (.int (0 : Int32))) (hy : ((32 : Int32) < y ∧ ¬ (127 : Int32) < y)) :
    Con l (⟨"java/lang/String", "trim", "()Ljava/lang/String;"⟩ : MethodName) jdk_42_method_113_code 2 (some (.object "java/lang/String")) [] ({ frames := 6, cells := 0, slots := 0, locals := 144 } : Room) Z #[(.ref x)] h (fun v' h' => v' = some (.ref x) ∧ h' = h) := by
  refine con_of (plainFor_of_name pn_3) hE (fun m => ef_rTr100 m x) ?_
  intro p e s m below meth c T0 C X0
  have C : Cx p s m meth c Z "java/lang/String" "trim" jdk_42_method_113_code 2 (some (.object "java/lang/String")) := C
  show Goes p e below _ T0 (mkF m 0 #[.val (.ref x), .unset] [])
  refine g_aloadN C X0 d16_0 rfl rfl (g_virtualP (argsL := []) (st := []) C X0 (wd hw 85 rfl) (wd hw 86 rfl) (nf_of C (wd hw 88 rfl) rfl rfl) (wd hw 88 rfl) (wd hw 87 rfl) (by decide) EX (pay_of (W' := 0) (rIL l hw X0.ext x z_ SZ hz FC) C.hZ (wd hw 89 rfl) (wd hw 33 rfl) (by decide) (by decide)) pd_11 rfl rfl _ rfl (Nat.le_of_eq rfl) d16_1 (by decide) (by decide) (fun T568 X568 => ?_))
  refine g_if (h0_eq _) C X568 d16_4 (fun q => absurd q (by decide)) (fun _ => ?_)
  refine g_aloadN C X568 d16_7 rfl rfl (g_getfield (host := "") C X568 (Or.inl (wd hw 58 rfl)) Via.refl FV d16_8 (fun T569 X569 => ?_))
  refine g_staticP (argsL := [(.ref t)]) (st := []) C X569 (wd hw 90 rfl) (wd hw 91 rfl) (wd hw 92 rfl) (wd hw 93 rfl) (by decide) (pay_of (W' := 0) (rTl100 l hw X569.ext t kt y VT hy) C.hZ (wd hw 93 rfl) (wd hw 92 rfl) (by decide) (by decide)) pd_12 rfl rfl _ rfl (Nat.le_of_eq rfl) d16_11 (by decide) (by decide) (fun T570 X570 => ?_)
  refine g_goto C X570 d16_14 (g_astoreN C X570 d16_24 rfl (l' := #[.val (.ref x), .val .null]) rfl (g_aloadN C X570 d16_25 rfl rfl (g_ifnonnull C X570 d16_26 rfl (fun q => absurd rfl q) (fun _ => ?_))))
  refine g_aloadN C X570 d16_29 rfl rfl (g_goto C X570 d16_30 ?_)
  exact g_retA C X570 rfl rfl d16_34 (by decide) (by decide) ⟨rfl, rfl⟩
theorem ef_rTl800 (m : MethodId) (t : Addr) : entryFrame m #[(.ref t)] 3 = mkF m 0 #[.val (.ref t), .unset, .unset] [] := by first | (simp [entryFrame, mkF, argsToLocals, Value.category]; done) | rfl
theorem rTl800 (l : Launch) {Z : State} {a0 : Array Value} (hw : ∀ d ∈ tables_1, d.before a0 Z = true) {h : Heap} (hE : Ext Z.heap h) (t : Addr) (kt : ClassId) (y0 y1 y2 y3 y4 y5 y6 y7 : Int32) (VT : Arv Z h t kt .byte 8 [(.int y0), (.int y1), (.int y2), (.int y3), (.int y4), (.int y5), (.int y6), (.int y7)] (.int (0 : Int32))) (hy0 : ((32 : Int32) < y0 ∧ ¬ (127 : Int32) < y0)) (hy1 : ((32 : Int32) < y1 ∧ ¬ (127 : Int32) < y1)) (hy2 : ((32 : Int32) < y2 ∧ ¬ (127 : Int32) < y2)) (hy3 : ((32 : Int32) < y3 ∧ ¬ (127 : Int32) < y3)) (hy4 : ((32 : Int32) < y4 ∧ ¬ (127 : Int32) < y4)) (hy5 : ((32 : Int32) < y5 ∧ ¬ (127 : Int32) < y5)) (hy6 : ((32 : Int32) < y6 ∧ ¬ (127 : Int32) < y6)) (hy7 : ((32 : Int32) < y7 ∧ ¬ (127 : Int32) < y7)) :
    Con l (⟨"java/lang/StringLatin1", "trim", "([B)Ljava/lang/String;"⟩ : MethodName) jdk_43_method_36_code 3 (some (.object "java/lang/String")) [] ({ frames := 5, cells := 0, slots := 0, locals := 120 } : Room) Z #[(.ref t)] h (fun v' h' => v' = some .null ∧ h' = h) := by
  refine con_of (plainFor_of_name pn_5) hE (fun m => ef_rTl800 m t) ?_
  intro p e s m below meth c T0 C X0
  have C : Cx p s m meth c Z "java/lang/StringLatin1" "trim" jdk_43_method_36_code 3 (some (.object "java/lang/String")) := C
  show Goes p e below _ T0 (mkF m 0 #[.val (.ref t), .unset, .unset] [])
  refine g_aloadN C X0 d18_0 rfl rfl (g_arraylength C X0 VT d18_1 (g_istoreN C X0 d18_2 (l' := #[.val (.ref t), .val (.int 8), .unset]) rfl (g_iconst 0 C X0 d18_3 rfl (g_istoreN C X0 d18_4 (l' := #[.val (.ref t), .val (.int 8), .val (.int 0)]) rfl (g_iloadN C X0 d18_5 rfl (g_iloadN C X0 d18_6 rfl (g_icmpn (hI_ge _ _) C X0 d18_7 (fun q => absurd (by decide) q) (fun _ => ?_))))))))
  refine g_aloadN C X0 d18_10 rfl rfl (g_iloadN C X0 d18_11 rfl (g_baload C X0 VT d18_12 (by decide) (by decide) rfl (g_sipush 255 C X0 d18_13 rfl (g_iand C X0 d18_16 (g_bipush 32 C X0 d18_17 rfl (g_icmp (hI_gt _ _) C X0 d18_19 (fun _ => ?_) (fun q => absurd (own_trY hy0) q)))))))
  refine g_iloadN C X0 d18_28 rfl (g_iloadN C X0 d18_29 rfl (g_icmpn (hI_ge _ _) C X0 d18_30 (fun q => absurd (by decide) q) (fun _ => ?_)))
  refine g_aloadN C X0 d18_33 rfl rfl (g_iloadN C X0 d18_34 rfl (g_iconst 1 C X0 d18_35 rfl (g_isub C X0 d18_36 (g_baload C X0 VT d18_37 (by decide) (by decide) rfl (g_sipush 255 C X0 d18_38 rfl (g_iand C X0 d18_41 (g_bipush 32 C X0 d18_42 rfl (g_icmp (hI_gt _ _) C X0 d18_44 (fun _ => ?_) (fun q => absurd (own_trY hy7) q)))))))))
  refine g_iloadN C X0 d18_53 rfl (g_if (h0_gt _) C X0 d18_54 (fun q => absurd q (by decide)) (fun _ => ?_))
  refine g_iloadN C X0 d18_57 rfl (g_aloadN C X0 d18_58 rfl rfl (g_arraylength C X0 VT d18_59 (g_icmpn (hI_ge _ _) C X0 d18_60 (fun _ => ?_) (fun q => absurd q (by decide)))))
  refine g_aconst_null C X0 d18_74 ?_
  exact g_retA C X0 rfl rfl d18_75 (by decide) (by decide) ⟨rfl, rfl⟩
theorem ef_rTr800 (m : MethodId) (x : Addr) : entryFrame m #[(.ref x)] 2 = mkF m 0 #[.val (.ref x), .unset] [] := by first | (simp [entryFrame, mkF, argsToLocals, Value.category]; done) | rfl
theorem rTr800 (l : Launch) {Z : State} {a0 : Array Value} (hw : ∀ d ∈ tables_1, d.before a0 Z = true) {h : Heap} (hE : Ext Z.heap h) (x : Addr) (z_ : Int32) (SZ : Sta Z Z.heap "java/lang/String" "COMPACT_STRINGS" "Z" (.int z_)) (hz : ¬ z_ = 0) (t : Addr) (kt : ClassId) (y0 y1 y2 y3 y4 y5 y6 y7 : Int32) (EX : Exa Z h x "java/lang/String") (FC : Fld Z h x "java/lang/String" "coder" "B" (.int (0 : Int32))) (FV : Fld Z h x "java/lang/String" "value" "[B" (.ref t)) (VT : Arv Z h t kt .byte 8 [(.int y0), (.int y1), (.int y2), (.int y3), (.int y4), (.int y5), (.int y6), (.int y7)] (.int (0 : Int32))) (hy0 : ((32 : Int32) < y0 ∧ ¬ (127 : Int32) < y0)) (hy1 : ((32 : Int32) < y1 ∧ ¬ (127 : Int32) < y1)) (hy2 : ((32 : Int32) < y2 ∧ ¬ (127 : Int32) < y2)) (hy3 : ((32 : Int32) < y3 ∧ ¬ (127 : Int32) < y3)) (hy4 : ((32 : Int32) < y4 ∧ ¬ (127 : Int32) < y4)) (hy5 : ((32 : Int32) < y5 ∧ ¬ (127 : Int32) < y5)) (hy6 : ((32 : Int32) < y6 ∧ ¬ (127 : Int32) < y6)) (hy7 : ((32 : Int32) < y7 ∧ ¬ (127 : Int32) < y7)) :
    Con l (⟨"java/lang/String", "trim", "()Ljava/lang/String;"⟩ : MethodName) jdk_42_method_113_code 2 (some (.object "java/lang/String")) [] ({ frames := 6, cells := 0, slots := 0, locals := 144 } : Room) Z #[(.ref x)] h (fun v' h' => v' = some (.ref x) ∧ h' = h) := by
  refine con_of (plainFor_of_name pn_3) hE (fun m => ef_rTr800 m x) ?_
  intro p e s m below meth c T0 C X0
  have C : Cx p s m meth c Z "java/lang/String" "trim" jdk_42_method_113_code 2 (some (.object "java/lang/String")) := C
  show Goes p e below _ T0 (mkF m 0 #[.val (.ref x), .unset] [])
  refine g_aloadN C X0 d16_0 rfl rfl (g_virtualP (argsL := []) (st := []) C X0 (wd hw 85 rfl) (wd hw 86 rfl) (nf_of C (wd hw 88 rfl) rfl rfl) (wd hw 88 rfl) (wd hw 87 rfl) (by decide) EX (pay_of (W' := 0) (rIL l hw X0.ext x z_ SZ hz FC) C.hZ (wd hw 89 rfl) (wd hw 33 rfl) (by decide) (by decide)) pd_11 rfl rfl _ rfl (Nat.le_of_eq rfl) d16_1 (by decide) (by decide) (fun T571 X571 => ?_))
  refine g_if (h0_eq _) C X571 d16_4 (fun q => absurd q (by decide)) (fun _ => ?_)
  refine g_aloadN C X571 d16_7 rfl rfl (g_getfield (host := "") C X571 (Or.inl (wd hw 58 rfl)) Via.refl FV d16_8 (fun T572 X572 => ?_))
  refine g_staticP (argsL := [(.ref t)]) (st := []) C X572 (wd hw 90 rfl) (wd hw 91 rfl) (wd hw 92 rfl) (wd hw 93 rfl) (by decide) (pay_of (W' := 0) (rTl800 l hw X572.ext t kt y0 y1 y2 y3 y4 y5 y6 y7 VT hy0 hy1 hy2 hy3 hy4 hy5 hy6 hy7) C.hZ (wd hw 93 rfl) (wd hw 92 rfl) (by decide) (by decide)) pd_12 rfl rfl _ rfl (Nat.le_of_eq rfl) d16_11 (by decide) (by decide) (fun T573 X573 => ?_)
  refine g_goto C X573 d16_14 (g_astoreN C X573 d16_24 rfl (l' := #[.val (.ref x), .val .null]) rfl (g_aloadN C X573 d16_25 rfl rfl (g_ifnonnull C X573 d16_26 rfl (fun q => absurd rfl q) (fun _ => ?_))))
  refine g_aloadN C X573 d16_29 rfl rfl (g_goto C X573 d16_30 ?_)
  exact g_retA C X573 rfl rfl d16_34 (by decide) (by decide) ⟨rfl, rfl⟩
theorem pn_6 : plainName "java/lang/CharacterDataLatin1" = true := by first | (simp [plainName, overriddenIn]; done) | decide +kernel
theorem ef_rCi102 (m : MethodId) (y : Int32) : entryFrame m #[(.int 102), (.int y)] 3 = mkF m 0 #[.val (.int 102), .val (.int y), .unset] [] := by first | (simp [entryFrame, mkF, argsToLocals, Value.category]; done) | rfl
theorem d26_0 : Dc jdk_116_method_22_code 0 (.iload_n 0) 1 1 := by decide +kernel
theorem d26_1 : Dc jdk_116_method_22_code 1 (.iload_n 1) 1 2 := by decide +kernel
theorem d26_2 : Dj jdk_116_method_22_code 2 (.if_icmp .ne 5) 5 3 5 7 := by decide +kernel
theorem d26_5 : Dc jdk_116_method_22_code 5 (.iconst 1) 1 6 := by decide +kernel
theorem d26_6 : Dc jdk_116_method_22_code 6 (.ireturn) 1 7 := by decide +kernel
theorem d26_7 : Dc jdk_116_method_22_code 7 (.iload_n 0) 1 8 := by decide +kernel
theorem d26_8 : Dc jdk_116_method_22_code 8 (.sipush 223) 3 11 := by decide +kernel
theorem d26_11 : Dc jdk_116_method_22_code 11 (.iand) 1 12 := by decide +kernel
theorem d26_12 : Dc jdk_116_method_22_code 12 (.istore_n 2) 1 13 := by decide +kernel
theorem d26_13 : Dc jdk_116_method_22_code 13 (.iload_n 2) 1 14 := by decide +kernel
theorem d26_14 : Dc jdk_116_method_22_code 14 (.bipush 65) 2 16 := by decide +kernel
theorem d26_16 : Dj jdk_116_method_22_code 16 (.if_icmp .ge 5) 5 3 19 21 := by decide +kernel
theorem d26_21 : Dc jdk_116_method_22_code 21 (.iload_n 2) 1 22 := by decide +kernel
theorem d26_22 : Dc jdk_116_method_22_code 22 (.bipush 90) 2 24 := by decide +kernel
theorem d26_24 : Dj jdk_116_method_22_code 24 (.if_icmp .le 24) 24 3 27 48 := by decide +kernel
theorem d26_48 : Dc jdk_116_method_22_code 48 (.iload_n 2) 1 49 := by decide +kernel
theorem d26_49 : Dc jdk_116_method_22_code 49 (.iload_n 1) 1 50 := by decide +kernel
theorem d26_50 : Dc jdk_116_method_22_code 50 (.sipush 223) 3 53 := by decide +kernel
theorem d26_53 : Dc jdk_116_method_22_code 53 (.iand) 1 54 := by decide +kernel
theorem d26_54 : Dj jdk_116_method_22_code 54 (.if_icmp .ne 7) 7 3 57 61 := by decide +kernel
theorem d26_57 : Dc jdk_116_method_22_code 57 (.iconst 1) 1 58 := by decide +kernel
theorem d26_58 : Dj jdk_116_method_22_code 58 (.goto 4) 4 3 61 62 := by decide +kernel
theorem d26_62 : Dc jdk_116_method_22_code 62 (.ireturn) 1 63 := by decide +kernel
theorem rCi102 (l : Launch) {Z : State} {a0 : Array Value} (hw : ∀ d ∈ tables_1, d.before a0 Z = true) {h : Heap} (hE : Ext Z.heap h) (y : Int32)  (hy : (y = (102 : Int32) ∨ y = (70 : Int32))) :
    Con l (⟨"java/lang/CharacterDataLatin1", "equalsIgnoreCase", "(BB)Z"⟩ : MethodName) jdk_116_method_22_code 3 (some .boolean) [] ({ frames := 0, cells := 0, slots := 0, locals := 0 } : Room) Z #[(.int 102), (.int y)] h (fun v' h' => v' = some (.int 1) ∧ h' = h) := by
  refine con_of (plainFor_of_name pn_6) hE (fun m => ef_rCi102 m y) ?_
  intro p e s m below meth c T0 C X0
  have C : Cx p s m meth c Z "java/lang/CharacterDataLatin1" "equalsIgnoreCase" jdk_116_method_22_code 3 (some .boolean) := C
  show Goes p e below _ T0 (mkF m 0 #[.val (.int 102), .val (.int y), .unset] [])
  rcases hy with rfl | rfl
  · refine g_iloadN C X0 d26_0 rfl (g_iloadN C X0 d26_1 rfl (g_icmpn (hI_ne _ _) C X0 d26_2 (fun q => absurd (by decide) q) (fun _ => ?_)))
    refine g_iconst 1 C X0 d26_5 rfl ?_
    exact g_retN C X0 (by simp) d26_6 (1 : Int32) rfl (by decide) (by decide) ⟨rfl, rfl⟩
  · refine g_iloadN C X0 d26_0 rfl (g_iloadN C X0 d26_1 rfl (g_icmpn (hI_ne _ _) C X0 d26_2 (fun _ => ?_) (fun q => absurd q (by decide))))
    refine g_iloadN C X0 d26_7 rfl (g_sipush 223 C X0 d26_8 rfl (g_iand C X0 d26_11 (g_istoreN C X0 d26_12 (l' := #[.val (.int 102), .val (.int 70), .val (.int 70)]) rfl (g_iloadN C X0 d26_13 rfl (g_bipush 65 C X0 d26_14 rfl (g_icmpn (hI_ge _ _) C X0 d26_16 (fun _ => ?_) (fun q => absurd q (by decide))))))))
    refine g_iloadN C X0 d26_21 rfl (g_bipush 90 C X0 d26_22 rfl (g_icmpn (hI_le _ _) C X0 d26_24 (fun _ => ?_) (fun q => absurd q (by decide))))
    refine g_iloadN C X0 d26_48 rfl (g_iloadN C X0 d26_49 rfl (g_sipush 223 C X0 d26_50 rfl (g_iand C X0 d26_53 (g_icmpn (hI_ne _ _) C X0 d26_54 (fun q => absurd (by decide) q) (fun _ => ?_)))))
    refine g_iconst 1 C X0 d26_57 rfl (g_goto C X0 d26_58 ?_)
    exact g_retN C X0 (by simp) d26_62 (1 : Int32) rfl (by decide) (by decide) ⟨rfl, rfl⟩
theorem ef_rCi105 (m : MethodId) (y : Int32) : entryFrame m #[(.int 105), (.int y)] 3 = mkF m 0 #[.val (.int 105), .val (.int y), .unset] [] := by first | (simp [entryFrame, mkF, argsToLocals, Value.category]; done) | rfl
theorem rCi105 (l : Launch) {Z : State} {a0 : Array Value} (hw : ∀ d ∈ tables_1, d.before a0 Z = true) {h : Heap} (hE : Ext Z.heap h) (y : Int32)  (hy : (y = (105 : Int32) ∨ y = (73 : Int32))) :
    Con l (⟨"java/lang/CharacterDataLatin1", "equalsIgnoreCase", "(BB)Z"⟩ : MethodName) jdk_116_method_22_code 3 (some .boolean) [] ({ frames := 0, cells := 0, slots := 0, locals := 0 } : Room) Z #[(.int 105), (.int y)] h (fun v' h' => v' = some (.int 1) ∧ h' = h) := by
  refine con_of (plainFor_of_name pn_6) hE (fun m => ef_rCi105 m y) ?_
  intro p e s m below meth c T0 C X0
  have C : Cx p s m meth c Z "java/lang/CharacterDataLatin1" "equalsIgnoreCase" jdk_116_method_22_code 3 (some .boolean) := C
  show Goes p e below _ T0 (mkF m 0 #[.val (.int 105), .val (.int y), .unset] [])
  rcases hy with rfl | rfl
  · refine g_iloadN C X0 d26_0 rfl (g_iloadN C X0 d26_1 rfl (g_icmpn (hI_ne _ _) C X0 d26_2 (fun q => absurd (by decide) q) (fun _ => ?_)))
    refine g_iconst 1 C X0 d26_5 rfl ?_
    exact g_retN C X0 (by simp) d26_6 (1 : Int32) rfl (by decide) (by decide) ⟨rfl, rfl⟩
  · refine g_iloadN C X0 d26_0 rfl (g_iloadN C X0 d26_1 rfl (g_icmpn (hI_ne _ _) C X0 d26_2 (fun _ => ?_) (fun q => absurd q (by decide))))
    refine g_iloadN C X0 d26_7 rfl (g_sipush 223 C X0 d26_8 rfl (g_iand C X0 d26_11 (g_istoreN C X0 d26_12 (l' := #[.val (.int 105), .val (.int 73), .val (.int 73)]) rfl (g_iloadN C X0 d26_13 rfl (g_bipush 65 C X0 d26_14 rfl (g_icmpn (hI_ge _ _) C X0 d26_16 (fun _ => ?_) (fun q => absurd q (by decide))))))))
    refine g_iloadN C X0 d26_21 rfl (g_bipush 90 C X0 d26_22 rfl (g_icmpn (hI_le _ _) C X0 d26_24 (fun _ => ?_) (fun q => absurd q (by decide))))
    refine g_iloadN C X0 d26_48 rfl (g_iloadN C X0 d26_49 rfl (g_sipush 223 C X0 d26_50 rfl (g_iand C X0 d26_53 (g_icmpn (hI_ne _ _) C X0 d26_54 (fun q => absurd (by decide) q) (fun _ => ?_)))))
    refine g_iconst 1 C X0 d26_57 rfl (g_goto C X0 d26_58 ?_)
    exact g_retN C X0 (by simp) d26_62 (1 : Int32) rfl (by decide) (by decide) ⟨rfl, rfl⟩
theorem ef_rCi110 (m : MethodId) (y : Int32) : entryFrame m #[(.int 110), (.int y)] 3 = mkF m 0 #[.val (.int 110), .val (.int y), .unset] [] := by first | (simp [entryFrame, mkF, argsToLocals, Value.category]; done) | rfl
theorem rCi110 (l : Launch) {Z : State} {a0 : Array Value} (hw : ∀ d ∈ tables_1, d.before a0 Z = true) {h : Heap} (hE : Ext Z.heap h) (y : Int32)  (hy : (y = (110 : Int32) ∨ y = (78 : Int32))) :
    Con l (⟨"java/lang/CharacterDataLatin1", "equalsIgnoreCase", "(BB)Z"⟩ : MethodName) jdk_116_method_22_code 3 (some .boolean) [] ({ frames := 0, cells := 0, slots := 0, locals := 0 } : Room) Z #[(.int 110), (.int y)] h (fun v' h' => v' = some (.int 1) ∧ h' = h) := by
  refine con_of (plainFor_of_name pn_6) hE (fun m => ef_rCi110 m y) ?_
  intro p e s m below meth c T0 C X0
  have C : Cx p s m meth c Z "java/lang/CharacterDataLatin1" "equalsIgnoreCase" jdk_116_method_22_code 3 (some .boolean) := C
  show Goes p e below _ T0 (mkF m 0 #[.val (.int 110), .val (.int y), .unset] [])
  rcases hy with rfl | rfl
  · refine g_iloadN C X0 d26_0 rfl (g_iloadN C X0 d26_1 rfl (g_icmpn (hI_ne _ _) C X0 d26_2 (fun q => absurd (by decide) q) (fun _ => ?_)))
    refine g_iconst 1 C X0 d26_5 rfl ?_
    exact g_retN C X0 (by simp) d26_6 (1 : Int32) rfl (by decide) (by decide) ⟨rfl, rfl⟩
  · refine g_iloadN C X0 d26_0 rfl (g_iloadN C X0 d26_1 rfl (g_icmpn (hI_ne _ _) C X0 d26_2 (fun _ => ?_) (fun q => absurd q (by decide))))
    refine g_iloadN C X0 d26_7 rfl (g_sipush 223 C X0 d26_8 rfl (g_iand C X0 d26_11 (g_istoreN C X0 d26_12 (l' := #[.val (.int 110), .val (.int 78), .val (.int 78)]) rfl (g_iloadN C X0 d26_13 rfl (g_bipush 65 C X0 d26_14 rfl (g_icmpn (hI_ge _ _) C X0 d26_16 (fun _ => ?_) (fun q => absurd q (by decide))))))))
    refine g_iloadN C X0 d26_21 rfl (g_bipush 90 C X0 d26_22 rfl (g_icmpn (hI_le _ _) C X0 d26_24 (fun _ => ?_) (fun q => absurd q (by decide))))
    refine g_iloadN C X0 d26_48 rfl (g_iloadN C X0 d26_49 rfl (g_sipush 223 C X0 d26_50 rfl (g_iand C X0 d26_53 (g_icmpn (hI_ne _ _) C X0 d26_54 (fun q => absurd (by decide) q) (fun _ => ?_)))))
    refine g_iconst 1 C X0 d26_57 rfl (g_goto C X0 d26_58 ?_)
    exact g_retN C X0 (by simp) d26_62 (1 : Int32) rfl (by decide) (by decide) ⟨rfl, rfl⟩
theorem ef_rCi116 (m : MethodId) (y : Int32) : entryFrame m #[(.int 116), (.int y)] 3 = mkF m 0 #[.val (.int 116), .val (.int y), .unset] [] := by first | (simp [entryFrame, mkF, argsToLocals, Value.category]; done) | rfl
theorem rCi116 (l : Launch) {Z : State} {a0 : Array Value} (hw : ∀ d ∈ tables_1, d.before a0 Z = true) {h : Heap} (hE : Ext Z.heap h) (y : Int32)  (hy : (y = (116 : Int32) ∨ y = (84 : Int32))) :
    Con l (⟨"java/lang/CharacterDataLatin1", "equalsIgnoreCase", "(BB)Z"⟩ : MethodName) jdk_116_method_22_code 3 (some .boolean) [] ({ frames := 0, cells := 0, slots := 0, locals := 0 } : Room) Z #[(.int 116), (.int y)] h (fun v' h' => v' = some (.int 1) ∧ h' = h) := by
  refine con_of (plainFor_of_name pn_6) hE (fun m => ef_rCi116 m y) ?_
  intro p e s m below meth c T0 C X0
  have C : Cx p s m meth c Z "java/lang/CharacterDataLatin1" "equalsIgnoreCase" jdk_116_method_22_code 3 (some .boolean) := C
  show Goes p e below _ T0 (mkF m 0 #[.val (.int 116), .val (.int y), .unset] [])
  rcases hy with rfl | rfl
  · refine g_iloadN C X0 d26_0 rfl (g_iloadN C X0 d26_1 rfl (g_icmpn (hI_ne _ _) C X0 d26_2 (fun q => absurd (by decide) q) (fun _ => ?_)))
    refine g_iconst 1 C X0 d26_5 rfl ?_
    exact g_retN C X0 (by simp) d26_6 (1 : Int32) rfl (by decide) (by decide) ⟨rfl, rfl⟩
  · refine g_iloadN C X0 d26_0 rfl (g_iloadN C X0 d26_1 rfl (g_icmpn (hI_ne _ _) C X0 d26_2 (fun _ => ?_) (fun q => absurd q (by decide))))
    refine g_iloadN C X0 d26_7 rfl (g_sipush 223 C X0 d26_8 rfl (g_iand C X0 d26_11 (g_istoreN C X0 d26_12 (l' := #[.val (.int 116), .val (.int 84), .val (.int 84)]) rfl (g_iloadN C X0 d26_13 rfl (g_bipush 65 C X0 d26_14 rfl (g_icmpn (hI_ge _ _) C X0 d26_16 (fun _ => ?_) (fun q => absurd q (by decide))))))))
    refine g_iloadN C X0 d26_21 rfl (g_bipush 90 C X0 d26_22 rfl (g_icmpn (hI_le _ _) C X0 d26_24 (fun _ => ?_) (fun q => absurd q (by decide))))
    refine g_iloadN C X0 d26_48 rfl (g_iloadN C X0 d26_49 rfl (g_sipush 223 C X0 d26_50 rfl (g_iand C X0 d26_53 (g_icmpn (hI_ne _ _) C X0 d26_54 (fun q => absurd (by decide) q) (fun _ => ?_)))))
    refine g_iconst 1 C X0 d26_57 rfl (g_goto C X0 d26_58 ?_)
    exact g_retN C X0 (by simp) d26_62 (1 : Int32) rfl (by decide) (by decide) ⟨rfl, rfl⟩
theorem ef_rCi121 (m : MethodId) (y : Int32) : entryFrame m #[(.int 121), (.int y)] 3 = mkF m 0 #[.val (.int 121), .val (.int y), .unset] [] := by first | (simp [entryFrame, mkF, argsToLocals, Value.category]; done) | rfl
theorem rCi121 (l : Launch) {Z : State} {a0 : Array Value} (hw : ∀ d ∈ tables_1, d.before a0 Z = true) {h : Heap} (hE : Ext Z.heap h) (y : Int32)  (hy : (y = (121 : Int32) ∨ y = (89 : Int32))) :
    Con l (⟨"java/lang/CharacterDataLatin1", "equalsIgnoreCase", "(BB)Z"⟩ : MethodName) jdk_116_method_22_code 3 (some .boolean) [] ({ frames := 0, cells := 0, slots := 0, locals := 0 } : Room) Z #[(.int 121), (.int y)] h (fun v' h' => v' = some (.int 1) ∧ h' = h) := by
  refine con_of (plainFor_of_name pn_6) hE (fun m => ef_rCi121 m y) ?_
  intro p e s m below meth c T0 C X0
  have C : Cx p s m meth c Z "java/lang/CharacterDataLatin1" "equalsIgnoreCase" jdk_116_method_22_code 3 (some .boolean) := C
  show Goes p e below _ T0 (mkF m 0 #[.val (.int 121), .val (.int y), .unset] [])
  rcases hy with rfl | rfl
  · refine g_iloadN C X0 d26_0 rfl (g_iloadN C X0 d26_1 rfl (g_icmpn (hI_ne _ _) C X0 d26_2 (fun q => absurd (by decide) q) (fun _ => ?_)))
    refine g_iconst 1 C X0 d26_5 rfl ?_
    exact g_retN C X0 (by simp) d26_6 (1 : Int32) rfl (by decide) (by decide) ⟨rfl, rfl⟩
  · refine g_iloadN C X0 d26_0 rfl (g_iloadN C X0 d26_1 rfl (g_icmpn (hI_ne _ _) C X0 d26_2 (fun _ => ?_) (fun q => absurd q (by decide))))
    refine g_iloadN C X0 d26_7 rfl (g_sipush 223 C X0 d26_8 rfl (g_iand C X0 d26_11 (g_istoreN C X0 d26_12 (l' := #[.val (.int 121), .val (.int 89), .val (.int 89)]) rfl (g_iloadN C X0 d26_13 rfl (g_bipush 65 C X0 d26_14 rfl (g_icmpn (hI_ge _ _) C X0 d26_16 (fun _ => ?_) (fun q => absurd q (by decide))))))))
    refine g_iloadN C X0 d26_21 rfl (g_bipush 90 C X0 d26_22 rfl (g_icmpn (hI_le _ _) C X0 d26_24 (fun _ => ?_) (fun q => absurd q (by decide))))
    refine g_iloadN C X0 d26_48 rfl (g_iloadN C X0 d26_49 rfl (g_sipush 223 C X0 d26_50 rfl (g_iand C X0 d26_53 (g_icmpn (hI_ne _ _) C X0 d26_54 (fun q => absurd (by decide) q) (fun _ => ?_)))))
    refine g_iconst 1 C X0 d26_57 rfl (g_goto C X0 d26_58 ?_)
    exact g_retN C X0 (by simp) d26_62 (1 : Int32) rfl (by decide) (by decide) ⟨rfl, rfl⟩
theorem ef_rCi48_48 (m : MethodId)  : entryFrame m #[(.int 48), (.int 48)] 3 = mkF m 0 #[.val (.int 48), .val (.int 48), .unset] [] := by first | (simp [entryFrame, mkF, argsToLocals, Value.category]; done) | rfl
theorem rCi48_48 (l : Launch) {Z : State} {a0 : Array Value} (hw : ∀ d ∈ tables_1, d.before a0 Z = true) {h : Heap} (hE : Ext Z.heap h)    :
    Con l (⟨"java/lang/CharacterDataLatin1", "equalsIgnoreCase", "(BB)Z"⟩ : MethodName) jdk_116_method_22_code 3 (some .boolean) [] ({ frames := 0, cells := 0, slots := 0, locals := 0 } : Room) Z #[(.int 48), (.int 48)] h (fun v' h' => v' = some (.int 1) ∧ h' = h) := by
  refine con_of (plainFor_of_name pn_6) hE (fun m => ef_rCi48_48 m ) ?_
  intro p e s m below meth c T0 C X0
  have C : Cx p s m meth c Z "java/lang/CharacterDataLatin1" "equalsIgnoreCase" jdk_116_method_22_code 3 (some .boolean) := C
  show Goes p e below _ T0 (mkF m 0 #[.val (.int 48), .val (.int 48), .unset] [])
  refine g_iloadN C X0 d26_0 rfl (g_iloadN C X0 d26_1 rfl (g_icmpn (hI_ne _ _) C X0 d26_2 (fun q => absurd (by decide) q) (fun _ => ?_)))
  refine g_iconst 1 C X0 d26_5 rfl ?_
  exact g_retN C X0 (by simp) d26_6 (1 : Int32) rfl (by decide) (by decide) ⟨rfl, rfl⟩
theorem ef_rCi48_49 (m : MethodId)  : entryFrame m #[(.int 48), (.int 49)] 3 = mkF m 0 #[.val (.int 48), .val (.int 49), .unset] [] := by first | (simp [entryFrame, mkF, argsToLocals, Value.category]; done) | rfl
theorem d26_19 : Dc jdk_116_method_22_code 19 (.iconst 0) 1 20 := by decide +kernel
theorem d26_20 : Dc jdk_116_method_22_code 20 (.ireturn) 1 21 := by decide +kernel
theorem rCi48_49 (l : Launch) {Z : State} {a0 : Array Value} (hw : ∀ d ∈ tables_1, d.before a0 Z = true) {h : Heap} (hE : Ext Z.heap h)    :
    Con l (⟨"java/lang/CharacterDataLatin1", "equalsIgnoreCase", "(BB)Z"⟩ : MethodName) jdk_116_method_22_code 3 (some .boolean) [] ({ frames := 0, cells := 0, slots := 0, locals := 0 } : Room) Z #[(.int 48), (.int 49)] h (fun v' h' => v' = some (.int 0) ∧ h' = h) := by
  refine con_of (plainFor_of_name pn_6) hE (fun m => ef_rCi48_49 m ) ?_
  intro p e s m below meth c T0 C X0
  have C : Cx p s m meth c Z "java/lang/CharacterDataLatin1" "equalsIgnoreCase" jdk_116_method_22_code 3 (some .boolean) := C
  show Goes p e below _ T0 (mkF m 0 #[.val (.int 48), .val (.int 49), .unset] [])
  refine g_iloadN C X0 d26_0 rfl (g_iloadN C X0 d26_1 rfl (g_icmpn (hI_ne _ _) C X0 d26_2 (fun _ => ?_) (fun q => absurd q (by decide))))
  refine g_iloadN C X0 d26_7 rfl (g_sipush 223 C X0 d26_8 rfl (g_iand C X0 d26_11 (g_istoreN C X0 d26_12 (l' := #[.val (.int 48), .val (.int 49), .val (.int 16)]) rfl (g_iloadN C X0 d26_13 rfl (g_bipush 65 C X0 d26_14 rfl (g_icmpn (hI_ge _ _) C X0 d26_16 (fun q => absurd (by decide) q) (fun _ => ?_)))))))
  refine g_iconst 0 C X0 d26_19 rfl ?_
  exact g_retN C X0 (by simp) d26_20 (0 : Int32) rfl (by decide) (by decide) ⟨rfl, rfl⟩
theorem ef_rCi49_49 (m : MethodId)  : entryFrame m #[(.int 49), (.int 49)] 3 = mkF m 0 #[.val (.int 49), .val (.int 49), .unset] [] := by first | (simp [entryFrame, mkF, argsToLocals, Value.category]; done) | rfl
theorem rCi49_49 (l : Launch) {Z : State} {a0 : Array Value} (hw : ∀ d ∈ tables_1, d.before a0 Z = true) {h : Heap} (hE : Ext Z.heap h)    :
    Con l (⟨"java/lang/CharacterDataLatin1", "equalsIgnoreCase", "(BB)Z"⟩ : MethodName) jdk_116_method_22_code 3 (some .boolean) [] ({ frames := 0, cells := 0, slots := 0, locals := 0 } : Room) Z #[(.int 49), (.int 49)] h (fun v' h' => v' = some (.int 1) ∧ h' = h) := by
  refine con_of (plainFor_of_name pn_6) hE (fun m => ef_rCi49_49 m ) ?_
  intro p e s m below meth c T0 C X0
  have C : Cx p s m meth c Z "java/lang/CharacterDataLatin1" "equalsIgnoreCase" jdk_116_method_22_code 3 (some .boolean) := C
  show Goes p e below _ T0 (mkF m 0 #[.val (.int 49), .val (.int 49), .unset] [])
  refine g_iloadN C X0 d26_0 rfl (g_iloadN C X0 d26_1 rfl (g_icmpn (hI_ne _ _) C X0 d26_2 (fun q => absurd (by decide) q) (fun _ => ?_)))
  refine g_iconst 1 C X0 d26_5 rfl ?_
  exact g_retN C X0 (by simp) d26_6 (1 : Int32) rfl (by decide) (by decide) ⟨rfl, rfl⟩
theorem ef_rRca (m : MethodId) (tx : Addr) (ts : Addr) : entryFrame m #[(.ref tx), (.int 0), (.ref ts), (.int 0), (.int 1)] 8 = mkF m 0 #[.val (.ref tx), .val (.int 0), .val (.ref ts), .val (.int 0), .val (.int 1), .unset, .unset, .unset] [] := by first | (simp [entryFrame, mkF, argsToLocals, Value.category]; done) | rfl
theorem d25_0 : Dc jdk_43_method_30_code 0 (.iload_n 1) 1 1 := by decide +kernel
theorem d25_1 : Dc jdk_43_method_30_code 1 (.iload 4) 2 3 := by decide +kernel
theorem d25_3 : Dc jdk_43_method_30_code 3 (.iadd) 1 4 := by decide +kernel
theorem d25_4 : Dc jdk_43_method_30_code 4 (.istore 5) 2 6 := by decide +kernel
theorem d25_6 : Dc jdk_43_method_30_code 6 (.iload_n 1) 1 7 := by decide +kernel
theorem d25_7 : Dc jdk_43_method_30_code 7 (.iload 5) 2 9 := by decide +kernel
theorem d25_9 : Dj jdk_43_method_30_code 9 (.if_icmp .ge 34) 34 3 12 43 := by decide +kernel
theorem d25_12 : Dc jdk_43_method_30_code 12 (.aload_n 0) 1 13 := by decide +kernel
theorem d25_13 : Dc jdk_43_method_30_code 13 (.iload_n 1) 1 14 := by decide +kernel
theorem d25_14 : Dc jdk_43_method_30_code 14 (.iinc 1 1) 3 17 := by decide +kernel
theorem d25_17 : Dc jdk_43_method_30_code 17 (.baload) 1 18 := by decide +kernel
theorem d25_18 : Dc jdk_43_method_30_code 18 (.istore 6) 2 20 := by decide +kernel
theorem d25_20 : Dc jdk_43_method_30_code 20 (.aload_n 2) 1 21 := by decide +kernel
theorem d25_21 : Dc jdk_43_method_30_code 21 (.iload_n 3) 1 22 := by decide +kernel
theorem d25_22 : Dc jdk_43_method_30_code 22 (.iinc 3 1) 3 25 := by decide +kernel
theorem d25_25 : Dc jdk_43_method_30_code 25 (.baload) 1 26 := by decide +kernel
theorem d25_26 : Dc jdk_43_method_30_code 26 (.istore 7) 2 28 := by decide +kernel
theorem d25_28 : Dc jdk_43_method_30_code 28 (.iload 6) 2 30 := by decide +kernel
theorem d25_30 : Dc jdk_43_method_30_code 30 (.iload 7) 2 32 := by decide +kernel
theorem d25_32 : Dc jdk_43_method_30_code 32 (.invokestatic 153) 3 35 := by decide +kernel
theorem pd_13 : parseMethodDescriptor "(BB)Z" = some ⟨[.byte, .byte], some .boolean⟩ := by decide +kernel
theorem d25_35 : Dj jdk_43_method_30_code 35 (.ifCond .eq 6) 6 3 38 41 := by decide +kernel
theorem d25_38 : Dj jdk_43_method_30_code 38 (.goto (-32)) (-32) 3 41 6 := by decide +kernel
theorem d25_43 : Dc jdk_43_method_30_code 43 (.iconst 1) 1 44 := by decide +kernel
theorem d25_44 : Dc jdk_43_method_30_code 44 (.ireturn) 1 45 := by decide +kernel
theorem rRca (l : Launch) {Z : State} {a0 : Array Value} (hw : ∀ d ∈ tables_1, d.before a0 Z = true) {h : Heap} (hE : Ext Z.heap h) (tx : Addr) (ts : Addr) (kx ks : ClassId)  (xVT : Arv Z h tx kx .byte 1 [(.int 48)] (.int (0 : Int32))) (sVT : Arv Z h ts ks .byte 1 [(.int 48)] (.int (0 : Int32)))  :
    Con l (⟨"java/lang/StringLatin1", "regionMatchesCI", "([BI[BII)Z"⟩ : MethodName) jdk_43_method_30_code 8 (some .boolean) [] ({ frames := 1, cells := 0, slots := 0, locals := 24 } : Room) Z #[(.ref tx), (.int 0), (.ref ts), (.int 0), (.int 1)] h (fun v' h' => v' = some (.int 1) ∧ h' = h) := by
  refine con_of (plainFor_of_name pn_5) hE (fun m => ef_rRca m tx ts) ?_
  intro p e s m below meth c T0 C X0
  have C : Cx p s m meth c Z "java/lang/StringLatin1" "regionMatchesCI" jdk_43_method_30_code 8 (some .boolean) := C
  show Goes p e below _ T0 (mkF m 0 #[.val (.ref tx), .val (.int 0), .val (.ref ts), .val (.int 0), .val (.int 1), .unset, .unset, .unset] [])
  refine g_iloadN C X0 d25_0 rfl (g_iload C X0 d25_1 rfl (g_iadd C X0 d25_3 (g_istore C X0 d25_4 (l' := #[.val (.ref tx), .val (.int 0), .val (.ref ts), .val (.int 0), .val (.int 1), .val (.int 1), .unset, .unset]) rfl (g_iloadN C X0 d25_6 rfl (g_iload C X0 d25_7 rfl (g_icmpn (hI_ge _ _) C X0 d25_9 (fun q => absurd (by decide) q) (fun _ => ?_)))))))
  refine g_aloadN C X0 d25_12 rfl rfl (g_iloadN C X0 d25_13 rfl (g_iinc 1 C X0 d25_14 rfl rfl (l' := #[.val (.ref tx), .val (.int 1), .val (.ref ts), .val (.int 0), .val (.int 1), .val (.int 1), .unset, .unset]) rfl (g_baload C X0 xVT d25_17 (by decide) (by decide) rfl (g_istore C X0 d25_18 (l' := #[.val (.ref tx), .val (.int 1), .val (.ref ts), .val (.int 0), .val (.int 1), .val (.int 1), .val (.int 48), .unset]) rfl (g_aloadN C X0 d25_20 rfl rfl (g_iloadN C X0 d25_21 rfl (g_iinc 1 C X0 d25_22 rfl rfl (l' := #[.val (.ref tx), .val (.int 1), .val (.ref ts), .val (.int 1), .val (.int 1), .val (.int 1), .val (.int 48), .unset]) rfl (g_baload C X0 sVT d25_25 (by decide) (by decide) rfl (g_istore C X0 d25_26 (l' := #[.val (.ref tx), .val (.int 1), .val (.ref ts), .val (.int 1), .val (.int 1), .val (.int 1), .val (.int 48), .val (.int 48)]) rfl (g_iload C X0 d25_28 rfl (g_iload C X0 d25_30 rfl ?_)))))))))))
  refine g_staticP (argsL := [(.int 48), (.int 48)]) (st := []) C X0 (wd hw 137 rfl) (wd hw 138 rfl) (wd hw 139 rfl) (wd hw 140 rfl) (by decide) (pay_of (W' := 0) (rCi48_48 l hw X0.ext) C.hZ (wd hw 140 rfl) (wd hw 139 rfl) (by decide) (by decide)) pd_13 rfl rfl _ rfl (Nat.le_of_eq rfl) d25_32 (by decide) (by decide) (fun T574 X574 => ?_)
  refine g_if (h0_eq _) C X574 d25_35 (fun q => absurd q (by decide)) (fun _ => ?_)
  refine g_goto C X574 d25_38 (g_iloadN C X574 d25_6 rfl (g_iload C X574 d25_7 rfl (g_icmpn (hI_ge _ _) C X574 d25_9 (fun _ => ?_) (fun q => absurd q (by decide)))))
  refine g_iconst 1 C X574 d25_43 rfl ?_
  exact g_retN C X574 (by simp) d25_44 (1 : Int32) rfl (by decide) (by decide) ⟨rfl, rfl⟩
theorem ef_rRea (m : MethodId) (x : Addr) (sx : Addr) : entryFrame m #[(.ref x), (.int 1), (.int 0), (.ref sx), (.int 0), (.int 1)] 9 = mkF m 0 #[.val (.ref x), .val (.int 1), .val (.int 0), .val (.ref sx), .val (.int 0), .val (.int 1), .unset, .unset, .unset] [] := by first | (simp [entryFrame, mkF, argsToLocals, Value.category]; done) | rfl
theorem d24_0 : Dc jdk_42_method_74_code 0 (.iload_n 1) 1 1 := by decide +kernel
theorem d24_1 : Dj jdk_42_method_74_code 1 (.ifCond .ne 14) 14 3 4 15 := by decide +kernel
theorem d24_15 : Dc jdk_42_method_74_code 15 (.iload 4) 2 17 := by decide +kernel
theorem d24_17 : Dj jdk_42_method_74_code 17 (.ifCond .lt 38) 38 3 20 55 := by decide +kernel
theorem d24_20 : Dc jdk_42_method_74_code 20 (.iload_n 2) 1 21 := by decide +kernel
theorem d24_21 : Dj jdk_42_method_74_code 21 (.ifCond .lt 34) 34 3 24 55 := by decide +kernel
theorem d24_24 : Dc jdk_42_method_74_code 24 (.iload_n 2) 1 25 := by decide +kernel
theorem d24_25 : Dc jdk_42_method_74_code 25 (.i2l) 1 26 := by decide +kernel
theorem d24_26 : Dc jdk_42_method_74_code 26 (.aload_n 0) 1 27 := by decide +kernel
theorem d24_27 : Dc jdk_42_method_74_code 27 (.invokevirtual 505) 3 30 := by decide +kernel
theorem pd_14 : parseMethodDescriptor "()I" = some ⟨[], some .int⟩ := by decide +kernel
theorem d24_30 : Dc jdk_42_method_74_code 30 (.i2l) 1 31 := by decide +kernel
theorem d24_31 : Dc jdk_42_method_74_code 31 (.iload 5) 2 33 := by decide +kernel
theorem d24_33 : Dc jdk_42_method_74_code 33 (.i2l) 1 34 := by decide +kernel
theorem d24_34 : Dc jdk_42_method_74_code 34 (.lsub) 1 35 := by decide +kernel
theorem d24_35 : Dc jdk_42_method_74_code 35 (.lcmp) 1 36 := by decide +kernel
theorem d24_36 : Dj jdk_42_method_74_code 36 (.ifCond .gt 19) 19 3 39 55 := by decide +kernel
theorem d24_39 : Dc jdk_42_method_74_code 39 (.iload 4) 2 41 := by decide +kernel
theorem d24_41 : Dc jdk_42_method_74_code 41 (.i2l) 1 42 := by decide +kernel
theorem d24_42 : Dc jdk_42_method_74_code 42 (.aload_n 3) 1 43 := by decide +kernel
theorem d24_43 : Dc jdk_42_method_74_code 43 (.invokevirtual 505) 3 46 := by decide +kernel
theorem d24_46 : Dc jdk_42_method_74_code 46 (.i2l) 1 47 := by decide +kernel
theorem d24_47 : Dc jdk_42_method_74_code 47 (.iload 5) 2 49 := by decide +kernel
theorem d24_49 : Dc jdk_42_method_74_code 49 (.i2l) 1 50 := by decide +kernel
theorem d24_50 : Dc jdk_42_method_74_code 50 (.lsub) 1 51 := by decide +kernel
theorem d24_51 : Dc jdk_42_method_74_code 51 (.lcmp) 1 52 := by decide +kernel
theorem d24_52 : Dj jdk_42_method_74_code 52 (.ifCond .le 5) 5 3 55 57 := by decide +kernel
theorem d24_57 : Dc jdk_42_method_74_code 57 (.aload_n 0) 1 58 := by decide +kernel
theorem d24_58 : Dc jdk_42_method_74_code 58 (.getfield 9) 3 61 := by decide +kernel
theorem d24_61 : Dc jdk_42_method_74_code 61 (.astore 6) 2 63 := by decide +kernel
theorem d24_63 : Dc jdk_42_method_74_code 63 (.aload_n 3) 1 64 := by decide +kernel
theorem d24_64 : Dc jdk_42_method_74_code 64 (.getfield 9) 3 67 := by decide +kernel
theorem d24_67 : Dc jdk_42_method_74_code 67 (.astore 7) 2 69 := by decide +kernel
theorem d24_69 : Dc jdk_42_method_74_code 69 (.aload_n 0) 1 70 := by decide +kernel
theorem d24_70 : Dc jdk_42_method_74_code 70 (.invokevirtual 335) 3 73 := by decide +kernel
theorem d24_73 : Dc jdk_42_method_74_code 73 (.istore 8) 2 75 := by decide +kernel
theorem d24_75 : Dc jdk_42_method_74_code 75 (.iload 8) 2 77 := by decide +kernel
theorem d24_77 : Dc jdk_42_method_74_code 77 (.aload_n 3) 1 78 := by decide +kernel
theorem d24_78 : Dc jdk_42_method_74_code 78 (.invokevirtual 335) 3 81 := by decide +kernel
theorem d24_81 : Dj jdk_42_method_74_code 81 (.if_icmp .ne 36) 36 3 84 117 := by decide +kernel
theorem d24_84 : Dc jdk_42_method_74_code 84 (.iload 8) 2 86 := by decide +kernel
theorem d24_86 : Dj jdk_42_method_74_code 86 (.ifCond .ne 18) 18 3 89 104 := by decide +kernel
theorem d24_89 : Dc jdk_42_method_74_code 89 (.aload 6) 2 91 := by decide +kernel
theorem d24_91 : Dc jdk_42_method_74_code 91 (.iload_n 2) 1 92 := by decide +kernel
theorem d24_92 : Dc jdk_42_method_74_code 92 (.aload 7) 2 94 := by decide +kernel
theorem d24_94 : Dc jdk_42_method_74_code 94 (.iload 4) 2 96 := by decide +kernel
theorem d24_96 : Dc jdk_42_method_74_code 96 (.iload 5) 2 98 := by decide +kernel
theorem d24_98 : Dc jdk_42_method_74_code 98 (.invokestatic 613) 3 101 := by decide +kernel
theorem pd_15 : parseMethodDescriptor "([BI[BII)Z" = some ⟨[(.array .byte), .int, (.array .byte), .int, .int], some .boolean⟩ := by decide +kernel
theorem d24_101 : Dj jdk_42_method_74_code 101 (.goto 15) 15 3 104 116 := by decide +kernel
theorem d24_116 : Dc jdk_42_method_74_code 116 (.ireturn) 1 117 := by decide +kernel
theorem rRea (l : Launch) {Z : State} {a0 : Array Value} (hw : ∀ d ∈ tables_1, d.before a0 Z = true) {h : Heap} (hE : Ext Z.heap h) (x : Addr) (sx : Addr) (z_ : Int32) (SZ : Sta Z Z.heap "java/lang/String" "COMPACT_STRINGS" "Z" (.int z_)) (hz : ¬ z_ = 0) (tx : Addr) (kx : ClassId) (ts : Addr) (ks : ClassId)  (xEX : Exa Z h x "java/lang/String") (xFC : Fld Z h x "java/lang/String" "coder" "B" (.int (0 : Int32))) (xFV : Fld Z h x "java/lang/String" "value" "[B" (.ref tx)) (xVT : Arv Z h tx kx .byte 1 [(.int 48)] (.int (0 : Int32))) (sEX : Exa Z h sx "java/lang/String") (sFC : Fld Z h sx "java/lang/String" "coder" "B" (.int (0 : Int32))) (sFV : Fld Z h sx "java/lang/String" "value" "[B" (.ref ts)) (sVT : Arv Z h ts ks .byte 1 [(.int 48)] (.int (0 : Int32)))  :
    Con l (⟨"java/lang/String", "regionMatches", "(ZILjava/lang/String;II)Z"⟩ : MethodName) jdk_42_method_74_code 9 (some .boolean) [] ({ frames := 2, cells := 0, slots := 0, locals := 48 } : Room) Z #[(.ref x), (.int 1), (.int 0), (.ref sx), (.int 0), (.int 1)] h (fun v' h' => v' = some (.int 1) ∧ h' = h) := by
  refine con_of (plainFor_of_name pn_3) hE (fun m => ef_rRea m x sx) ?_
  intro p e s m below meth c T0 C X0
  have C : Cx p s m meth c Z "java/lang/String" "regionMatches" jdk_42_method_74_code 9 (some .boolean) := C
  show Goes p e below _ T0 (mkF m 0 #[.val (.ref x), .val (.int 1), .val (.int 0), .val (.ref sx), .val (.int 0), .val (.int 1), .unset, .unset, .unset] [])
  refine g_iloadN C X0 d24_0 rfl (g_ifn (h0_ne _) C X0 d24_1 (fun _ => ?_) (fun q => absurd q (by decide)))
  refine g_iload C X0 d24_15 rfl (g_if (h0_lt _) C X0 d24_17 (fun q => absurd q (by decide)) (fun _ => ?_))
  refine g_iloadN C X0 d24_20 rfl (g_if (h0_lt _) C X0 d24_21 (fun q => absurd q (by decide)) (fun _ => ?_))
  refine g_iloadN C X0 d24_24 rfl (g_i2l C X0 d24_25 (g_aloadN C X0 d24_26 rfl rfl (g_virtualP (argsL := []) (st := [(.long 0)]) C X0 (wd hw 119 rfl) (wd hw 120 rfl) (nf_of C (wd hw 122 rfl) rfl rfl) (wd hw 122 rfl) (wd hw 121 rfl) (by decide) xEX (pay_of (W' := 2) (rLn1 l hw X0.ext x z_ SZ hz tx kx (48 : Int32) xEX xFC xFV xVT) C.hZ (wd hw 123 rfl) (wd hw 33 rfl) (by decide) (by decide)) pd_14 rfl rfl _ rfl (Nat.le_of_eq rfl) d24_27 (by decide) (by decide) (fun T575 X575 => ?_))))
  refine g_i2l C X575 d24_30 (g_iload C X575 d24_31 rfl (g_i2l C X575 d24_33 (g_lsub C X575 d24_34 (g_lcmp C X575 d24_35 (g_if (hL_gt _ _) C X575 d24_36 (fun q => absurd q (by decide)) (fun _ => ?_))))))
  refine g_iload C X575 d24_39 rfl (g_i2l C X575 d24_41 (g_aloadN C X575 d24_42 rfl rfl (g_virtualP (argsL := []) (st := [(.long 0)]) C X575 (wd hw 119 rfl) (wd hw 120 rfl) (nf_of C (wd hw 122 rfl) rfl rfl) (wd hw 122 rfl) (wd hw 121 rfl) (by decide) sEX (pay_of (W' := 2) (rLn1 l hw X575.ext sx z_ SZ hz ts ks (48 : Int32) sEX sFC sFV sVT) C.hZ (wd hw 123 rfl) (wd hw 33 rfl) (by decide) (by decide)) pd_14 rfl rfl _ rfl (Nat.le_of_eq rfl) d24_43 (by decide) (by decide) (fun T576 X576 => ?_))))
  refine g_i2l C X576 d24_46 (g_iload C X576 d24_47 rfl (g_i2l C X576 d24_49 (g_lsub C X576 d24_50 (g_lcmp C X576 d24_51 (g_ifn (hL_le _ _) C X576 d24_52 (fun _ => ?_) (fun q => absurd q (by decide)))))))
  refine g_aloadN C X576 d24_57 rfl rfl (g_getfield (host := "") C X576 (Or.inl (wd hw 58 rfl)) Via.refl xFV d24_58 (fun T577 X577 => ?_))
  refine g_astore C X577 d24_61 rfl (l' := #[.val (.ref x), .val (.int 1), .val (.int 0), .val (.ref sx), .val (.int 0), .val (.int 1), .val (.ref tx), .unset, .unset]) rfl (g_aloadN C X577 d24_63 rfl rfl (g_getfield (host := "") C X577 (Or.inl (wd hw 58 rfl)) Via.refl sFV d24_64 (fun T578 X578 => ?_)))
  refine g_astore C X578 d24_67 rfl (l' := #[.val (.ref x), .val (.int 1), .val (.int 0), .val (.ref sx), .val (.int 0), .val (.int 1), .val (.ref tx), .val (.ref ts), .unset]) rfl (g_aloadN C X578 d24_69 rfl rfl (g_virtualP (argsL := []) (st := []) C X578 (wd hw 124 rfl) (wd hw 125 rfl) (nf_of C (wd hw 127 rfl) rfl rfl) (wd hw 127 rfl) (wd hw 126 rfl) (by decide) xEX (pay_of (W' := 0) (rCo l hw X578.ext x z_ SZ hz xFC) C.hZ (wd hw 128 rfl) (wd hw 33 rfl) (by decide) (by decide)) pd_5 rfl rfl _ rfl (Nat.le_of_eq rfl) d24_70 (by decide) (by decide) (fun T579 X579 => ?_)))
  refine g_istore C X579 d24_73 (l' := #[.val (.ref x), .val (.int 1), .val (.int 0), .val (.ref sx), .val (.int 0), .val (.int 1), .val (.ref tx), .val (.ref ts), .val (.int 0)]) rfl (g_iload C X579 d24_75 rfl (g_aloadN C X579 d24_77 rfl rfl (g_virtualP (argsL := []) (st := [(.int 0)]) C X579 (wd hw 124 rfl) (wd hw 125 rfl) (nf_of C (wd hw 127 rfl) rfl rfl) (wd hw 127 rfl) (wd hw 126 rfl) (by decide) sEX (pay_of (W' := 1) (rCo l hw X579.ext sx z_ SZ hz sFC) C.hZ (wd hw 128 rfl) (wd hw 33 rfl) (by decide) (by decide)) pd_5 rfl rfl _ rfl (Nat.le_of_eq rfl) d24_78 (by decide) (by decide) (fun T580 X580 => ?_))))
  refine g_icmpn (hI_ne _ _) C X580 d24_81 (fun q => absurd (by decide) q) (fun _ => ?_)
  refine g_iload C X580 d24_84 rfl (g_ifn (h0_ne _) C X580 d24_86 (fun q => absurd (by decide) q) (fun _ => ?_))
  refine g_aload C X580 d24_89 rfl rfl (g_iloadN C X580 d24_91 rfl (g_aload C X580 d24_92 rfl rfl (g_iload C X580 d24_94 rfl (g_iload C X580 d24_96 rfl (g_staticP (argsL := [(.ref tx), (.int 0), (.ref ts), (.int 0), (.int 1)]) (st := []) C X580 (wd hw 134 rfl) (wd hw 135 rfl) (wd hw 92 rfl) (wd hw 136 rfl) (by decide) (pay_of (W' := 0) (rRca l hw X580.ext tx ts kx ks  xVT sVT ) C.hZ (wd hw 136 rfl) (wd hw 92 rfl) (by decide) (by decide)) pd_15 rfl rfl _ rfl (Nat.le_of_eq rfl) d24_98 (by decide) (by decide) (fun T581 X581 => ?_))))))
  refine g_goto C X581 d24_101 ?_
  exact g_retN C X581 (by simp) d24_116 (1 : Int32) rfl (by decide) (by decide) ⟨rfl, rfl⟩
theorem ef_rEqa (m : MethodId) (x : Addr) (sx : Addr) : entryFrame m #[(.ref x), (.ref sx)] 2 = mkF m 0 #[.val (.ref x), .val (.ref sx)] [] := by first | (simp [entryFrame, mkF, argsToLocals, Value.category]; done) | rfl
theorem d21_0 : Dc jdk_42_method_70_code 0 (.aload_n 0) 1 1 := by decide +kernel
theorem d21_1 : Dc jdk_42_method_70_code 1 (.aload_n 1) 1 2 := by decide +kernel
theorem d21_2 : Dj jdk_42_method_70_code 2 (.if_acmp .ne 7) 7 3 5 9 := by decide +kernel
theorem d21_9 : Dc jdk_42_method_70_code 9 (.aload_n 1) 1 10 := by decide +kernel
theorem d21_10 : Dj jdk_42_method_70_code 10 (.ifnull 33) 33 3 13 43 := by decide +kernel
theorem d21_13 : Dc jdk_42_method_70_code 13 (.aload_n 1) 1 14 := by decide +kernel
theorem d21_14 : Dc jdk_42_method_70_code 14 (.invokevirtual 505) 3 17 := by decide +kernel
theorem d21_17 : Dc jdk_42_method_70_code 17 (.aload_n 0) 1 18 := by decide +kernel
theorem d21_18 : Dc jdk_42_method_70_code 18 (.invokevirtual 505) 3 21 := by decide +kernel
theorem d21_21 : Dj jdk_42_method_70_code 21 (.if_icmp .ne 22) 22 3 24 43 := by decide +kernel
theorem d21_24 : Dc jdk_42_method_70_code 24 (.aload_n 0) 1 25 := by decide +kernel
theorem d21_25 : Dc jdk_42_method_70_code 25 (.iconst 1) 1 26 := by decide +kernel
theorem d21_26 : Dc jdk_42_method_70_code 26 (.iconst 0) 1 27 := by decide +kernel
theorem d21_27 : Dc jdk_42_method_70_code 27 (.aload_n 1) 1 28 := by decide +kernel
theorem d21_28 : Dc jdk_42_method_70_code 28 (.iconst 0) 1 29 := by decide +kernel
theorem d21_29 : Dc jdk_42_method_70_code 29 (.aload_n 0) 1 30 := by decide +kernel
theorem d21_30 : Dc jdk_42_method_70_code 30 (.invokevirtual 505) 3 33 := by decide +kernel
theorem d21_33 : Dc jdk_42_method_70_code 33 (.invokevirtual 582) 3 36 := by decide +kernel
theorem pd_16 : parseMethodDescriptor "(ZILjava/lang/String;II)Z" = some ⟨[.boolean, .int, (.object "java/lang/String"), .int, .int], some .boolean⟩ := by decide +kernel
theorem d21_36 : Dj jdk_42_method_70_code 36 (.ifCond .eq 7) 7 3 39 43 := by decide +kernel
theorem d21_39 : Dc jdk_42_method_70_code 39 (.iconst 1) 1 40 := by decide +kernel
theorem d21_40 : Dj jdk_42_method_70_code 40 (.goto 4) 4 3 43 44 := by decide +kernel
theorem d21_44 : Dc jdk_42_method_70_code 44 (.ireturn) 1 45 := by decide +kernel
theorem rEqa (l : Launch) {Z : State} {a0 : Array Value} (hw : ∀ d ∈ tables_1, d.before a0 Z = true) {h : Heap} (hE : Ext Z.heap h) (x : Addr) (sx : Addr) (z_ : Int32) (SZ : Sta Z Z.heap "java/lang/String" "COMPACT_STRINGS" "Z" (.int z_)) (hz : ¬ z_ = 0) (tx : Addr) (kx : ClassId) (ts : Addr) (ks : ClassId)  (xEX : Exa Z h x "java/lang/String") (xFC : Fld Z h x "java/lang/String" "coder" "B" (.int (0 : Int32))) (xFV : Fld Z h x "java/lang/String" "value" "[B" (.ref tx)) (xVT : Arv Z h tx kx .byte 1 [(.int 48)] (.int (0 : Int32))) (sEX : Exa Z h sx "java/lang/String") (sFC : Fld Z h sx "java/lang/String" "coder" "B" (.int (0 : Int32))) (sFV : Fld Z h sx "java/lang/String" "value" "[B" (.ref ts)) (sVT : Arv Z h ts ks .byte 1 [(.int 48)] (.int (0 : Int32)))  (ne : x ≠ sx) :
    Con l (⟨"java/lang/String", "equalsIgnoreCase", "(Ljava/lang/String;)Z"⟩ : MethodName) jdk_42_method_70_code 2 (some .boolean) [] ({ frames := 3, cells := 0, slots := 0, locals := 72 } : Room) Z #[(.ref x), (.ref sx)] h (fun v' h' => v' = some (.int 1) ∧ h' = h) := by
  refine con_of (plainFor_of_name pn_3) hE (fun m => ef_rEqa m x sx) ?_
  intro p e s m below meth c T0 C X0
  have C : Cx p s m meth c Z "java/lang/String" "equalsIgnoreCase" jdk_42_method_70_code 2 (some .boolean) := C
  show Goes p e below _ T0 (mkF m 0 #[.val (.ref x), .val (.ref sx)] [])
  refine g_aloadN C X0 d21_0 rfl rfl (g_aloadN C X0 d21_1 rfl rfl (g_acmpne C X0 d21_2 rfl rfl (fun _ => ?_) (fun q => absurd q (fun q => ne (Value.ref.inj q)))))
  refine g_aloadN C X0 d21_9 rfl rfl (g_ifnull C X0 d21_10 rfl (fun q => absurd q nofun) (fun _ => ?_))
  refine g_aloadN C X0 d21_13 rfl rfl (g_virtualP (argsL := []) (st := []) C X0 (wd hw 119 rfl) (wd hw 120 rfl) (nf_of C (wd hw 122 rfl) rfl rfl) (wd hw 122 rfl) (wd hw 121 rfl) (by decide) sEX (pay_of (W' := 0) (rLn1 l hw X0.ext sx z_ SZ hz ts ks (48 : Int32) sEX sFC sFV sVT) C.hZ (wd hw 123 rfl) (wd hw 33 rfl) (by decide) (by decide)) pd_14 rfl rfl _ rfl (Nat.le_of_eq rfl) d21_14 (by decide) (by decide) (fun T582 X582 => ?_))
  refine g_aloadN C X582 d21_17 rfl rfl (g_virtualP (argsL := []) (st := [(.int 1)]) C X582 (wd hw 119 rfl) (wd hw 120 rfl) (nf_of C (wd hw 122 rfl) rfl rfl) (wd hw 122 rfl) (wd hw 121 rfl) (by decide) xEX (pay_of (W' := 1) (rLn1 l hw X582.ext x z_ SZ hz tx kx (48 : Int32) xEX xFC xFV xVT) C.hZ (wd hw 123 rfl) (wd hw 33 rfl) (by decide) (by decide)) pd_14 rfl rfl _ rfl (Nat.le_of_eq rfl) d21_18 (by decide) (by decide) (fun T583 X583 => ?_))
  refine g_icmpn (hI_ne _ _) C X583 d21_21 (fun q => absurd (by decide) q) (fun _ => ?_)
  refine g_aloadN C X583 d21_24 rfl rfl (g_iconst 1 C X583 d21_25 rfl (g_iconst 0 C X583 d21_26 rfl (g_aloadN C X583 d21_27 rfl rfl (g_iconst 0 C X583 d21_28 rfl (g_aloadN C X583 d21_29 rfl rfl (g_virtualP (argsL := []) (st := [(.int 0), (.ref sx), (.int 0), (.int 1), (.ref x)]) C X583 (wd hw 119 rfl) (wd hw 120 rfl) (nf_of C (wd hw 122 rfl) rfl rfl) (wd hw 122 rfl) (wd hw 121 rfl) (by decide) xEX (pay_of (W' := 5) (rLn1 l hw X583.ext x z_ SZ hz tx kx (48 : Int32) xEX xFC xFV xVT) C.hZ (wd hw 123 rfl) (wd hw 33 rfl) (by decide) (by decide)) pd_14 rfl rfl _ rfl (Nat.le_of_eq rfl) d21_30 (by decide) (by decide) (fun T584 X584 => ?_)))))))
  refine g_virtualP (argsL := [(.int 1), (.int 0), (.ref sx), (.int 0), (.int 1)]) (st := []) C X584 (wd hw 129 rfl) (wd hw 130 rfl) (nf_of C (wd hw 132 rfl) rfl rfl) (wd hw 132 rfl) (wd hw 131 rfl) (by decide) xEX (pay_of (W' := 0) (rRea l hw X584.ext x sx z_ SZ hz tx kx ts ks  xEX xFC xFV xVT sEX sFC sFV sVT ) C.hZ (wd hw 133 rfl) (wd hw 33 rfl) (by decide) (by decide)) pd_16 rfl rfl _ rfl (Nat.le_of_eq rfl) d21_33 (by decide) (by decide) (fun T585 X585 => ?_)
  refine g_if (h0_eq _) C X585 d21_36 (fun q => absurd q (by decide)) (fun _ => ?_)
  refine g_iconst 1 C X585 d21_39 rfl (g_goto C X585 d21_40 ?_)
  exact g_retN C X585 (by simp) d21_44 (1 : Int32) rfl (by decide) (by decide) ⟨rfl, rfl⟩
theorem ef_rRcb (m : MethodId) (tx : Addr) (ts : Addr) : entryFrame m #[(.ref tx), (.int 0), (.ref ts), (.int 0), (.int 1)] 8 = mkF m 0 #[.val (.ref tx), .val (.int 0), .val (.ref ts), .val (.int 0), .val (.int 1), .unset, .unset, .unset] [] := by first | (simp [entryFrame, mkF, argsToLocals, Value.category]; done) | rfl
theorem d25_41 : Dc jdk_43_method_30_code 41 (.iconst 0) 1 42 := by decide +kernel
theorem d25_42 : Dc jdk_43_method_30_code 42 (.ireturn) 1 43 := by decide +kernel
theorem rRcb (l : Launch) {Z : State} {a0 : Array Value} (hw : ∀ d ∈ tables_1, d.before a0 Z = true) {h : Heap} (hE : Ext Z.heap h) (tx : Addr) (ts : Addr) (kx ks : ClassId)  (xVT : Arv Z h tx kx .byte 1 [(.int 48)] (.int (0 : Int32))) (sVT : Arv Z h ts ks .byte 1 [(.int 49)] (.int (0 : Int32)))  :
    Con l (⟨"java/lang/StringLatin1", "regionMatchesCI", "([BI[BII)Z"⟩ : MethodName) jdk_43_method_30_code 8 (some .boolean) [] ({ frames := 1, cells := 0, slots := 0, locals := 24 } : Room) Z #[(.ref tx), (.int 0), (.ref ts), (.int 0), (.int 1)] h (fun v' h' => v' = some (.int 0) ∧ h' = h) := by
  refine con_of (plainFor_of_name pn_5) hE (fun m => ef_rRcb m tx ts) ?_
  intro p e s m below meth c T0 C X0
  have C : Cx p s m meth c Z "java/lang/StringLatin1" "regionMatchesCI" jdk_43_method_30_code 8 (some .boolean) := C
  show Goes p e below _ T0 (mkF m 0 #[.val (.ref tx), .val (.int 0), .val (.ref ts), .val (.int 0), .val (.int 1), .unset, .unset, .unset] [])
  refine g_iloadN C X0 d25_0 rfl (g_iload C X0 d25_1 rfl (g_iadd C X0 d25_3 (g_istore C X0 d25_4 (l' := #[.val (.ref tx), .val (.int 0), .val (.ref ts), .val (.int 0), .val (.int 1), .val (.int 1), .unset, .unset]) rfl (g_iloadN C X0 d25_6 rfl (g_iload C X0 d25_7 rfl (g_icmpn (hI_ge _ _) C X0 d25_9 (fun q => absurd (by decide) q) (fun _ => ?_)))))))
  refine g_aloadN C X0 d25_12 rfl rfl (g_iloadN C X0 d25_13 rfl (g_iinc 1 C X0 d25_14 rfl rfl (l' := #[.val (.ref tx), .val (.int 1), .val (.ref ts), .val (.int 0), .val (.int 1), .val (.int 1), .unset, .unset]) rfl (g_baload C X0 xVT d25_17 (by decide) (by decide) rfl (g_istore C X0 d25_18 (l' := #[.val (.ref tx), .val (.int 1), .val (.ref ts), .val (.int 0), .val (.int 1), .val (.int 1), .val (.int 48), .unset]) rfl (g_aloadN C X0 d25_20 rfl rfl (g_iloadN C X0 d25_21 rfl (g_iinc 1 C X0 d25_22 rfl rfl (l' := #[.val (.ref tx), .val (.int 1), .val (.ref ts), .val (.int 1), .val (.int 1), .val (.int 1), .val (.int 48), .unset]) rfl (g_baload C X0 sVT d25_25 (by decide) (by decide) rfl (g_istore C X0 d25_26 (l' := #[.val (.ref tx), .val (.int 1), .val (.ref ts), .val (.int 1), .val (.int 1), .val (.int 1), .val (.int 48), .val (.int 49)]) rfl (g_iload C X0 d25_28 rfl (g_iload C X0 d25_30 rfl ?_)))))))))))
  refine g_staticP (argsL := [(.int 48), (.int 49)]) (st := []) C X0 (wd hw 137 rfl) (wd hw 138 rfl) (wd hw 139 rfl) (wd hw 140 rfl) (by decide) (pay_of (W' := 0) (rCi48_49 l hw X0.ext) C.hZ (wd hw 140 rfl) (wd hw 139 rfl) (by decide) (by decide)) pd_13 rfl rfl _ rfl (Nat.le_of_eq rfl) d25_32 (by decide) (by decide) (fun T586 X586 => ?_)
  refine g_if (h0_eq _) C X586 d25_35 (fun _ => ?_) (fun q => absurd (by decide) q)
  refine g_iconst 0 C X586 d25_41 rfl ?_
  exact g_retN C X586 (by simp) d25_42 (0 : Int32) rfl (by decide) (by decide) ⟨rfl, rfl⟩
theorem ef_rReb (m : MethodId) (x : Addr) (sx : Addr) : entryFrame m #[(.ref x), (.int 1), (.int 0), (.ref sx), (.int 0), (.int 1)] 9 = mkF m 0 #[.val (.ref x), .val (.int 1), .val (.int 0), .val (.ref sx), .val (.int 0), .val (.int 1), .unset, .unset, .unset] [] := by first | (simp [entryFrame, mkF, argsToLocals, Value.category]; done) | rfl
theorem rReb (l : Launch) {Z : State} {a0 : Array Value} (hw : ∀ d ∈ tables_1, d.before a0 Z = true) {h : Heap} (hE : Ext Z.heap h) (x : Addr) (sx : Addr) (z_ : Int32) (SZ : Sta Z Z.heap "java/lang/String" "COMPACT_STRINGS" "Z" (.int z_)) (hz : ¬ z_ = 0) (tx : Addr) (kx : ClassId) (ts : Addr) (ks : ClassId)  (xEX : Exa Z h x "java/lang/String") (xFC : Fld Z h x "java/lang/String" "coder" "B" (.int (0 : Int32))) (xFV : Fld Z h x "java/lang/String" "value" "[B" (.ref tx)) (xVT : Arv Z h tx kx .byte 1 [(.int 48)] (.int (0 : Int32))) (sEX : Exa Z h sx "java/lang/String") (sFC : Fld Z h sx "java/lang/String" "coder" "B" (.int (0 : Int32))) (sFV : Fld Z h sx "java/lang/String" "value" "[B" (.ref ts)) (sVT : Arv Z h ts ks .byte 1 [(.int 49)] (.int (0 : Int32)))  :
    Con l (⟨"java/lang/String", "regionMatches", "(ZILjava/lang/String;II)Z"⟩ : MethodName) jdk_42_method_74_code 9 (some .boolean) [] ({ frames := 2, cells := 0, slots := 0, locals := 48 } : Room) Z #[(.ref x), (.int 1), (.int 0), (.ref sx), (.int 0), (.int 1)] h (fun v' h' => v' = some (.int 0) ∧ h' = h) := by
  refine con_of (plainFor_of_name pn_3) hE (fun m => ef_rReb m x sx) ?_
  intro p e s m below meth c T0 C X0
  have C : Cx p s m meth c Z "java/lang/String" "regionMatches" jdk_42_method_74_code 9 (some .boolean) := C
  show Goes p e below _ T0 (mkF m 0 #[.val (.ref x), .val (.int 1), .val (.int 0), .val (.ref sx), .val (.int 0), .val (.int 1), .unset, .unset, .unset] [])
  refine g_iloadN C X0 d24_0 rfl (g_ifn (h0_ne _) C X0 d24_1 (fun _ => ?_) (fun q => absurd q (by decide)))
  refine g_iload C X0 d24_15 rfl (g_if (h0_lt _) C X0 d24_17 (fun q => absurd q (by decide)) (fun _ => ?_))
  refine g_iloadN C X0 d24_20 rfl (g_if (h0_lt _) C X0 d24_21 (fun q => absurd q (by decide)) (fun _ => ?_))
  refine g_iloadN C X0 d24_24 rfl (g_i2l C X0 d24_25 (g_aloadN C X0 d24_26 rfl rfl (g_virtualP (argsL := []) (st := [(.long 0)]) C X0 (wd hw 119 rfl) (wd hw 120 rfl) (nf_of C (wd hw 122 rfl) rfl rfl) (wd hw 122 rfl) (wd hw 121 rfl) (by decide) xEX (pay_of (W' := 2) (rLn1 l hw X0.ext x z_ SZ hz tx kx (48 : Int32) xEX xFC xFV xVT) C.hZ (wd hw 123 rfl) (wd hw 33 rfl) (by decide) (by decide)) pd_14 rfl rfl _ rfl (Nat.le_of_eq rfl) d24_27 (by decide) (by decide) (fun T587 X587 => ?_))))
  refine g_i2l C X587 d24_30 (g_iload C X587 d24_31 rfl (g_i2l C X587 d24_33 (g_lsub C X587 d24_34 (g_lcmp C X587 d24_35 (g_if (hL_gt _ _) C X587 d24_36 (fun q => absurd q (by decide)) (fun _ => ?_))))))
  refine g_iload C X587 d24_39 rfl (g_i2l C X587 d24_41 (g_aloadN C X587 d24_42 rfl rfl (g_virtualP (argsL := []) (st := [(.long 0)]) C X587 (wd hw 119 rfl) (wd hw 120 rfl) (nf_of C (wd hw 122 rfl) rfl rfl) (wd hw 122 rfl) (wd hw 121 rfl) (by decide) sEX (pay_of (W' := 2) (rLn1 l hw X587.ext sx z_ SZ hz ts ks (49 : Int32) sEX sFC sFV sVT) C.hZ (wd hw 123 rfl) (wd hw 33 rfl) (by decide) (by decide)) pd_14 rfl rfl _ rfl (Nat.le_of_eq rfl) d24_43 (by decide) (by decide) (fun T588 X588 => ?_))))
  refine g_i2l C X588 d24_46 (g_iload C X588 d24_47 rfl (g_i2l C X588 d24_49 (g_lsub C X588 d24_50 (g_lcmp C X588 d24_51 (g_ifn (hL_le _ _) C X588 d24_52 (fun _ => ?_) (fun q => absurd q (by decide)))))))
  refine g_aloadN C X588 d24_57 rfl rfl (g_getfield (host := "") C X588 (Or.inl (wd hw 58 rfl)) Via.refl xFV d24_58 (fun T589 X589 => ?_))
  refine g_astore C X589 d24_61 rfl (l' := #[.val (.ref x), .val (.int 1), .val (.int 0), .val (.ref sx), .val (.int 0), .val (.int 1), .val (.ref tx), .unset, .unset]) rfl (g_aloadN C X589 d24_63 rfl rfl (g_getfield (host := "") C X589 (Or.inl (wd hw 58 rfl)) Via.refl sFV d24_64 (fun T590 X590 => ?_)))
  refine g_astore C X590 d24_67 rfl (l' := #[.val (.ref x), .val (.int 1), .val (.int 0), .val (.ref sx), .val (.int 0), .val (.int 1), .val (.ref tx), .val (.ref ts), .unset]) rfl (g_aloadN C X590 d24_69 rfl rfl (g_virtualP (argsL := []) (st := []) C X590 (wd hw 124 rfl) (wd hw 125 rfl) (nf_of C (wd hw 127 rfl) rfl rfl) (wd hw 127 rfl) (wd hw 126 rfl) (by decide) xEX (pay_of (W' := 0) (rCo l hw X590.ext x z_ SZ hz xFC) C.hZ (wd hw 128 rfl) (wd hw 33 rfl) (by decide) (by decide)) pd_5 rfl rfl _ rfl (Nat.le_of_eq rfl) d24_70 (by decide) (by decide) (fun T591 X591 => ?_)))
  refine g_istore C X591 d24_73 (l' := #[.val (.ref x), .val (.int 1), .val (.int 0), .val (.ref sx), .val (.int 0), .val (.int 1), .val (.ref tx), .val (.ref ts), .val (.int 0)]) rfl (g_iload C X591 d24_75 rfl (g_aloadN C X591 d24_77 rfl rfl (g_virtualP (argsL := []) (st := [(.int 0)]) C X591 (wd hw 124 rfl) (wd hw 125 rfl) (nf_of C (wd hw 127 rfl) rfl rfl) (wd hw 127 rfl) (wd hw 126 rfl) (by decide) sEX (pay_of (W' := 1) (rCo l hw X591.ext sx z_ SZ hz sFC) C.hZ (wd hw 128 rfl) (wd hw 33 rfl) (by decide) (by decide)) pd_5 rfl rfl _ rfl (Nat.le_of_eq rfl) d24_78 (by decide) (by decide) (fun T592 X592 => ?_))))
  refine g_icmpn (hI_ne _ _) C X592 d24_81 (fun q => absurd (by decide) q) (fun _ => ?_)
  refine g_iload C X592 d24_84 rfl (g_ifn (h0_ne _) C X592 d24_86 (fun q => absurd (by decide) q) (fun _ => ?_))
  refine g_aload C X592 d24_89 rfl rfl (g_iloadN C X592 d24_91 rfl (g_aload C X592 d24_92 rfl rfl (g_iload C X592 d24_94 rfl (g_iload C X592 d24_96 rfl (g_staticP (argsL := [(.ref tx), (.int 0), (.ref ts), (.int 0), (.int 1)]) (st := []) C X592 (wd hw 134 rfl) (wd hw 135 rfl) (wd hw 92 rfl) (wd hw 136 rfl) (by decide) (pay_of (W' := 0) (rRcb l hw X592.ext tx ts kx ks  xVT sVT ) C.hZ (wd hw 136 rfl) (wd hw 92 rfl) (by decide) (by decide)) pd_15 rfl rfl _ rfl (Nat.le_of_eq rfl) d24_98 (by decide) (by decide) (fun T593 X593 => ?_))))))
  refine g_goto C X593 d24_101 ?_
  exact g_retN C X593 (by simp) d24_116 (0 : Int32) rfl (by decide) (by decide) ⟨rfl, rfl⟩
theorem ef_rEqb (m : MethodId) (x : Addr) (sx : Addr) : entryFrame m #[(.ref x), (.ref sx)] 2 = mkF m 0 #[.val (.ref x), .val (.ref sx)] [] := by first | (simp [entryFrame, mkF, argsToLocals, Value.category]; done) | rfl
theorem d21_43 : Dc jdk_42_method_70_code 43 (.iconst 0) 1 44 := by decide +kernel
theorem rEqb (l : Launch) {Z : State} {a0 : Array Value} (hw : ∀ d ∈ tables_1, d.before a0 Z = true) {h : Heap} (hE : Ext Z.heap h) (x : Addr) (sx : Addr) (z_ : Int32) (SZ : Sta Z Z.heap "java/lang/String" "COMPACT_STRINGS" "Z" (.int z_)) (hz : ¬ z_ = 0) (tx : Addr) (kx : ClassId) (ts : Addr) (ks : ClassId)  (xEX : Exa Z h x "java/lang/String") (xFC : Fld Z h x "java/lang/String" "coder" "B" (.int (0 : Int32))) (xFV : Fld Z h x "java/lang/String" "value" "[B" (.ref tx)) (xVT : Arv Z h tx kx .byte 1 [(.int 48)] (.int (0 : Int32))) (sEX : Exa Z h sx "java/lang/String") (sFC : Fld Z h sx "java/lang/String" "coder" "B" (.int (0 : Int32))) (sFV : Fld Z h sx "java/lang/String" "value" "[B" (.ref ts)) (sVT : Arv Z h ts ks .byte 1 [(.int 49)] (.int (0 : Int32)))  (ne : x ≠ sx) :
    Con l (⟨"java/lang/String", "equalsIgnoreCase", "(Ljava/lang/String;)Z"⟩ : MethodName) jdk_42_method_70_code 2 (some .boolean) [] ({ frames := 3, cells := 0, slots := 0, locals := 72 } : Room) Z #[(.ref x), (.ref sx)] h (fun v' h' => v' = some (.int 0) ∧ h' = h) := by
  refine con_of (plainFor_of_name pn_3) hE (fun m => ef_rEqb m x sx) ?_
  intro p e s m below meth c T0 C X0
  have C : Cx p s m meth c Z "java/lang/String" "equalsIgnoreCase" jdk_42_method_70_code 2 (some .boolean) := C
  show Goes p e below _ T0 (mkF m 0 #[.val (.ref x), .val (.ref sx)] [])
  refine g_aloadN C X0 d21_0 rfl rfl (g_aloadN C X0 d21_1 rfl rfl (g_acmpne C X0 d21_2 rfl rfl (fun _ => ?_) (fun q => absurd q (fun q => ne (Value.ref.inj q)))))
  refine g_aloadN C X0 d21_9 rfl rfl (g_ifnull C X0 d21_10 rfl (fun q => absurd q nofun) (fun _ => ?_))
  refine g_aloadN C X0 d21_13 rfl rfl (g_virtualP (argsL := []) (st := []) C X0 (wd hw 119 rfl) (wd hw 120 rfl) (nf_of C (wd hw 122 rfl) rfl rfl) (wd hw 122 rfl) (wd hw 121 rfl) (by decide) sEX (pay_of (W' := 0) (rLn1 l hw X0.ext sx z_ SZ hz ts ks (49 : Int32) sEX sFC sFV sVT) C.hZ (wd hw 123 rfl) (wd hw 33 rfl) (by decide) (by decide)) pd_14 rfl rfl _ rfl (Nat.le_of_eq rfl) d21_14 (by decide) (by decide) (fun T594 X594 => ?_))
  refine g_aloadN C X594 d21_17 rfl rfl (g_virtualP (argsL := []) (st := [(.int 1)]) C X594 (wd hw 119 rfl) (wd hw 120 rfl) (nf_of C (wd hw 122 rfl) rfl rfl) (wd hw 122 rfl) (wd hw 121 rfl) (by decide) xEX (pay_of (W' := 1) (rLn1 l hw X594.ext x z_ SZ hz tx kx (48 : Int32) xEX xFC xFV xVT) C.hZ (wd hw 123 rfl) (wd hw 33 rfl) (by decide) (by decide)) pd_14 rfl rfl _ rfl (Nat.le_of_eq rfl) d21_18 (by decide) (by decide) (fun T595 X595 => ?_))
  refine g_icmpn (hI_ne _ _) C X595 d21_21 (fun q => absurd (by decide) q) (fun _ => ?_)
  refine g_aloadN C X595 d21_24 rfl rfl (g_iconst 1 C X595 d21_25 rfl (g_iconst 0 C X595 d21_26 rfl (g_aloadN C X595 d21_27 rfl rfl (g_iconst 0 C X595 d21_28 rfl (g_aloadN C X595 d21_29 rfl rfl (g_virtualP (argsL := []) (st := [(.int 0), (.ref sx), (.int 0), (.int 1), (.ref x)]) C X595 (wd hw 119 rfl) (wd hw 120 rfl) (nf_of C (wd hw 122 rfl) rfl rfl) (wd hw 122 rfl) (wd hw 121 rfl) (by decide) xEX (pay_of (W' := 5) (rLn1 l hw X595.ext x z_ SZ hz tx kx (48 : Int32) xEX xFC xFV xVT) C.hZ (wd hw 123 rfl) (wd hw 33 rfl) (by decide) (by decide)) pd_14 rfl rfl _ rfl (Nat.le_of_eq rfl) d21_30 (by decide) (by decide) (fun T596 X596 => ?_)))))))
  refine g_virtualP (argsL := [(.int 1), (.int 0), (.ref sx), (.int 0), (.int 1)]) (st := []) C X596 (wd hw 129 rfl) (wd hw 130 rfl) (nf_of C (wd hw 132 rfl) rfl rfl) (wd hw 132 rfl) (wd hw 131 rfl) (by decide) xEX (pay_of (W' := 0) (rReb l hw X596.ext x sx z_ SZ hz tx kx ts ks  xEX xFC xFV xVT sEX sFC sFV sVT ) C.hZ (wd hw 133 rfl) (wd hw 33 rfl) (by decide) (by decide)) pd_16 rfl rfl _ rfl (Nat.le_of_eq rfl) d21_33 (by decide) (by decide) (fun T597 X597 => ?_)
  refine g_if (h0_eq _) C X597 d21_36 (fun _ => ?_) (fun q => absurd (by decide) q)
  refine g_iconst 0 C X597 d21_43 rfl ?_
  exact g_retN C X597 (by simp) d21_44 (0 : Int32) rfl (by decide) (by decide) ⟨rfl, rfl⟩
theorem ef_rRcc (m : MethodId) (tx : Addr) (ts : Addr) : entryFrame m #[(.ref tx), (.int 0), (.ref ts), (.int 0), (.int 1)] 8 = mkF m 0 #[.val (.ref tx), .val (.int 0), .val (.ref ts), .val (.int 0), .val (.int 1), .unset, .unset, .unset] [] := by first | (simp [entryFrame, mkF, argsToLocals, Value.category]; done) | rfl
theorem rRcc (l : Launch) {Z : State} {a0 : Array Value} (hw : ∀ d ∈ tables_1, d.before a0 Z = true) {h : Heap} (hE : Ext Z.heap h) (tx : Addr) (ts : Addr) (kx ks : ClassId)  (xVT : Arv Z h tx kx .byte 1 [(.int 49)] (.int (0 : Int32))) (sVT : Arv Z h ts ks .byte 1 [(.int 49)] (.int (0 : Int32)))  :
    Con l (⟨"java/lang/StringLatin1", "regionMatchesCI", "([BI[BII)Z"⟩ : MethodName) jdk_43_method_30_code 8 (some .boolean) [] ({ frames := 1, cells := 0, slots := 0, locals := 24 } : Room) Z #[(.ref tx), (.int 0), (.ref ts), (.int 0), (.int 1)] h (fun v' h' => v' = some (.int 1) ∧ h' = h) := by
  refine con_of (plainFor_of_name pn_5) hE (fun m => ef_rRcc m tx ts) ?_
  intro p e s m below meth c T0 C X0
  have C : Cx p s m meth c Z "java/lang/StringLatin1" "regionMatchesCI" jdk_43_method_30_code 8 (some .boolean) := C
  show Goes p e below _ T0 (mkF m 0 #[.val (.ref tx), .val (.int 0), .val (.ref ts), .val (.int 0), .val (.int 1), .unset, .unset, .unset] [])
  refine g_iloadN C X0 d25_0 rfl (g_iload C X0 d25_1 rfl (g_iadd C X0 d25_3 (g_istore C X0 d25_4 (l' := #[.val (.ref tx), .val (.int 0), .val (.ref ts), .val (.int 0), .val (.int 1), .val (.int 1), .unset, .unset]) rfl (g_iloadN C X0 d25_6 rfl (g_iload C X0 d25_7 rfl (g_icmpn (hI_ge _ _) C X0 d25_9 (fun q => absurd (by decide) q) (fun _ => ?_)))))))
  refine g_aloadN C X0 d25_12 rfl rfl (g_iloadN C X0 d25_13 rfl (g_iinc 1 C X0 d25_14 rfl rfl (l' := #[.val (.ref tx), .val (.int 1), .val (.ref ts), .val (.int 0), .val (.int 1), .val (.int 1), .unset, .unset]) rfl (g_baload C X0 xVT d25_17 (by decide) (by decide) rfl (g_istore C X0 d25_18 (l' := #[.val (.ref tx), .val (.int 1), .val (.ref ts), .val (.int 0), .val (.int 1), .val (.int 1), .val (.int 49), .unset]) rfl (g_aloadN C X0 d25_20 rfl rfl (g_iloadN C X0 d25_21 rfl (g_iinc 1 C X0 d25_22 rfl rfl (l' := #[.val (.ref tx), .val (.int 1), .val (.ref ts), .val (.int 1), .val (.int 1), .val (.int 1), .val (.int 49), .unset]) rfl (g_baload C X0 sVT d25_25 (by decide) (by decide) rfl (g_istore C X0 d25_26 (l' := #[.val (.ref tx), .val (.int 1), .val (.ref ts), .val (.int 1), .val (.int 1), .val (.int 1), .val (.int 49), .val (.int 49)]) rfl (g_iload C X0 d25_28 rfl (g_iload C X0 d25_30 rfl ?_)))))))))))
  refine g_staticP (argsL := [(.int 49), (.int 49)]) (st := []) C X0 (wd hw 137 rfl) (wd hw 138 rfl) (wd hw 139 rfl) (wd hw 140 rfl) (by decide) (pay_of (W' := 0) (rCi49_49 l hw X0.ext) C.hZ (wd hw 140 rfl) (wd hw 139 rfl) (by decide) (by decide)) pd_13 rfl rfl _ rfl (Nat.le_of_eq rfl) d25_32 (by decide) (by decide) (fun T598 X598 => ?_)
  refine g_if (h0_eq _) C X598 d25_35 (fun q => absurd q (by decide)) (fun _ => ?_)
  refine g_goto C X598 d25_38 (g_iloadN C X598 d25_6 rfl (g_iload C X598 d25_7 rfl (g_icmpn (hI_ge _ _) C X598 d25_9 (fun _ => ?_) (fun q => absurd q (by decide)))))
  refine g_iconst 1 C X598 d25_43 rfl ?_
  exact g_retN C X598 (by simp) d25_44 (1 : Int32) rfl (by decide) (by decide) ⟨rfl, rfl⟩
theorem ef_rRec (m : MethodId) (x : Addr) (sx : Addr) : entryFrame m #[(.ref x), (.int 1), (.int 0), (.ref sx), (.int 0), (.int 1)] 9 = mkF m 0 #[.val (.ref x), .val (.int 1), .val (.int 0), .val (.ref sx), .val (.int 0), .val (.int 1), .unset, .unset, .unset] [] := by first | (simp [entryFrame, mkF, argsToLocals, Value.category]; done) | rfl
theorem rRec (l : Launch) {Z : State} {a0 : Array Value} (hw : ∀ d ∈ tables_1, d.before a0 Z = true) {h : Heap} (hE : Ext Z.heap h) (x : Addr) (sx : Addr) (z_ : Int32) (SZ : Sta Z Z.heap "java/lang/String" "COMPACT_STRINGS" "Z" (.int z_)) (hz : ¬ z_ = 0) (tx : Addr) (kx : ClassId) (ts : Addr) (ks : ClassId)  (xEX : Exa Z h x "java/lang/String") (xFC : Fld Z h x "java/lang/String" "coder" "B" (.int (0 : Int32))) (xFV : Fld Z h x "java/lang/String" "value" "[B" (.ref tx)) (xVT : Arv Z h tx kx .byte 1 [(.int 49)] (.int (0 : Int32))) (sEX : Exa Z h sx "java/lang/String") (sFC : Fld Z h sx "java/lang/String" "coder" "B" (.int (0 : Int32))) (sFV : Fld Z h sx "java/lang/String" "value" "[B" (.ref ts)) (sVT : Arv Z h ts ks .byte 1 [(.int 49)] (.int (0 : Int32)))  :
    Con l (⟨"java/lang/String", "regionMatches", "(ZILjava/lang/String;II)Z"⟩ : MethodName) jdk_42_method_74_code 9 (some .boolean) [] ({ frames := 2, cells := 0, slots := 0, locals := 48 } : Room) Z #[(.ref x), (.int 1), (.int 0), (.ref sx), (.int 0), (.int 1)] h (fun v' h' => v' = some (.int 1) ∧ h' = h) := by
  refine con_of (plainFor_of_name pn_3) hE (fun m => ef_rRec m x sx) ?_
  intro p e s m below meth c T0 C X0
  have C : Cx p s m meth c Z "java/lang/String" "regionMatches" jdk_42_method_74_code 9 (some .boolean) := C
  show Goes p e below _ T0 (mkF m 0 #[.val (.ref x), .val (.int 1), .val (.int 0), .val (.ref sx), .val (.int 0), .val (.int 1), .unset, .unset, .unset] [])
  refine g_iloadN C X0 d24_0 rfl (g_ifn (h0_ne _) C X0 d24_1 (fun _ => ?_) (fun q => absurd q (by decide)))
  refine g_iload C X0 d24_15 rfl (g_if (h0_lt _) C X0 d24_17 (fun q => absurd q (by decide)) (fun _ => ?_))
  refine g_iloadN C X0 d24_20 rfl (g_if (h0_lt _) C X0 d24_21 (fun q => absurd q (by decide)) (fun _ => ?_))
  refine g_iloadN C X0 d24_24 rfl (g_i2l C X0 d24_25 (g_aloadN C X0 d24_26 rfl rfl (g_virtualP (argsL := []) (st := [(.long 0)]) C X0 (wd hw 119 rfl) (wd hw 120 rfl) (nf_of C (wd hw 122 rfl) rfl rfl) (wd hw 122 rfl) (wd hw 121 rfl) (by decide) xEX (pay_of (W' := 2) (rLn1 l hw X0.ext x z_ SZ hz tx kx (49 : Int32) xEX xFC xFV xVT) C.hZ (wd hw 123 rfl) (wd hw 33 rfl) (by decide) (by decide)) pd_14 rfl rfl _ rfl (Nat.le_of_eq rfl) d24_27 (by decide) (by decide) (fun T599 X599 => ?_))))
  refine g_i2l C X599 d24_30 (g_iload C X599 d24_31 rfl (g_i2l C X599 d24_33 (g_lsub C X599 d24_34 (g_lcmp C X599 d24_35 (g_if (hL_gt _ _) C X599 d24_36 (fun q => absurd q (by decide)) (fun _ => ?_))))))
  refine g_iload C X599 d24_39 rfl (g_i2l C X599 d24_41 (g_aloadN C X599 d24_42 rfl rfl (g_virtualP (argsL := []) (st := [(.long 0)]) C X599 (wd hw 119 rfl) (wd hw 120 rfl) (nf_of C (wd hw 122 rfl) rfl rfl) (wd hw 122 rfl) (wd hw 121 rfl) (by decide) sEX (pay_of (W' := 2) (rLn1 l hw X599.ext sx z_ SZ hz ts ks (49 : Int32) sEX sFC sFV sVT) C.hZ (wd hw 123 rfl) (wd hw 33 rfl) (by decide) (by decide)) pd_14 rfl rfl _ rfl (Nat.le_of_eq rfl) d24_43 (by decide) (by decide) (fun T600 X600 => ?_))))
  refine g_i2l C X600 d24_46 (g_iload C X600 d24_47 rfl (g_i2l C X600 d24_49 (g_lsub C X600 d24_50 (g_lcmp C X600 d24_51 (g_ifn (hL_le _ _) C X600 d24_52 (fun _ => ?_) (fun q => absurd q (by decide)))))))
  refine g_aloadN C X600 d24_57 rfl rfl (g_getfield (host := "") C X600 (Or.inl (wd hw 58 rfl)) Via.refl xFV d24_58 (fun T601 X601 => ?_))
  refine g_astore C X601 d24_61 rfl (l' := #[.val (.ref x), .val (.int 1), .val (.int 0), .val (.ref sx), .val (.int 0), .val (.int 1), .val (.ref tx), .unset, .unset]) rfl (g_aloadN C X601 d24_63 rfl rfl (g_getfield (host := "") C X601 (Or.inl (wd hw 58 rfl)) Via.refl sFV d24_64 (fun T602 X602 => ?_)))
  refine g_astore C X602 d24_67 rfl (l' := #[.val (.ref x), .val (.int 1), .val (.int 0), .val (.ref sx), .val (.int 0), .val (.int 1), .val (.ref tx), .val (.ref ts), .unset]) rfl (g_aloadN C X602 d24_69 rfl rfl (g_virtualP (argsL := []) (st := []) C X602 (wd hw 124 rfl) (wd hw 125 rfl) (nf_of C (wd hw 127 rfl) rfl rfl) (wd hw 127 rfl) (wd hw 126 rfl) (by decide) xEX (pay_of (W' := 0) (rCo l hw X602.ext x z_ SZ hz xFC) C.hZ (wd hw 128 rfl) (wd hw 33 rfl) (by decide) (by decide)) pd_5 rfl rfl _ rfl (Nat.le_of_eq rfl) d24_70 (by decide) (by decide) (fun T603 X603 => ?_)))
  refine g_istore C X603 d24_73 (l' := #[.val (.ref x), .val (.int 1), .val (.int 0), .val (.ref sx), .val (.int 0), .val (.int 1), .val (.ref tx), .val (.ref ts), .val (.int 0)]) rfl (g_iload C X603 d24_75 rfl (g_aloadN C X603 d24_77 rfl rfl (g_virtualP (argsL := []) (st := [(.int 0)]) C X603 (wd hw 124 rfl) (wd hw 125 rfl) (nf_of C (wd hw 127 rfl) rfl rfl) (wd hw 127 rfl) (wd hw 126 rfl) (by decide) sEX (pay_of (W' := 1) (rCo l hw X603.ext sx z_ SZ hz sFC) C.hZ (wd hw 128 rfl) (wd hw 33 rfl) (by decide) (by decide)) pd_5 rfl rfl _ rfl (Nat.le_of_eq rfl) d24_78 (by decide) (by decide) (fun T604 X604 => ?_))))
  refine g_icmpn (hI_ne _ _) C X604 d24_81 (fun q => absurd (by decide) q) (fun _ => ?_)
  refine g_iload C X604 d24_84 rfl (g_ifn (h0_ne _) C X604 d24_86 (fun q => absurd (by decide) q) (fun _ => ?_))
  refine g_aload C X604 d24_89 rfl rfl (g_iloadN C X604 d24_91 rfl (g_aload C X604 d24_92 rfl rfl (g_iload C X604 d24_94 rfl (g_iload C X604 d24_96 rfl (g_staticP (argsL := [(.ref tx), (.int 0), (.ref ts), (.int 0), (.int 1)]) (st := []) C X604 (wd hw 134 rfl) (wd hw 135 rfl) (wd hw 92 rfl) (wd hw 136 rfl) (by decide) (pay_of (W' := 0) (rRcc l hw X604.ext tx ts kx ks  xVT sVT ) C.hZ (wd hw 136 rfl) (wd hw 92 rfl) (by decide) (by decide)) pd_15 rfl rfl _ rfl (Nat.le_of_eq rfl) d24_98 (by decide) (by decide) (fun T605 X605 => ?_))))))
  refine g_goto C X605 d24_101 ?_
  exact g_retN C X605 (by simp) d24_116 (1 : Int32) rfl (by decide) (by decide) ⟨rfl, rfl⟩
theorem ef_rEqc (m : MethodId) (x : Addr) (sx : Addr) : entryFrame m #[(.ref x), (.ref sx)] 2 = mkF m 0 #[.val (.ref x), .val (.ref sx)] [] := by first | (simp [entryFrame, mkF, argsToLocals, Value.category]; done) | rfl
theorem rEqc (l : Launch) {Z : State} {a0 : Array Value} (hw : ∀ d ∈ tables_1, d.before a0 Z = true) {h : Heap} (hE : Ext Z.heap h) (x : Addr) (sx : Addr) (z_ : Int32) (SZ : Sta Z Z.heap "java/lang/String" "COMPACT_STRINGS" "Z" (.int z_)) (hz : ¬ z_ = 0) (tx : Addr) (kx : ClassId) (ts : Addr) (ks : ClassId)  (xEX : Exa Z h x "java/lang/String") (xFC : Fld Z h x "java/lang/String" "coder" "B" (.int (0 : Int32))) (xFV : Fld Z h x "java/lang/String" "value" "[B" (.ref tx)) (xVT : Arv Z h tx kx .byte 1 [(.int 49)] (.int (0 : Int32))) (sEX : Exa Z h sx "java/lang/String") (sFC : Fld Z h sx "java/lang/String" "coder" "B" (.int (0 : Int32))) (sFV : Fld Z h sx "java/lang/String" "value" "[B" (.ref ts)) (sVT : Arv Z h ts ks .byte 1 [(.int 49)] (.int (0 : Int32)))  (ne : x ≠ sx) :
    Con l (⟨"java/lang/String", "equalsIgnoreCase", "(Ljava/lang/String;)Z"⟩ : MethodName) jdk_42_method_70_code 2 (some .boolean) [] ({ frames := 3, cells := 0, slots := 0, locals := 72 } : Room) Z #[(.ref x), (.ref sx)] h (fun v' h' => v' = some (.int 1) ∧ h' = h) := by
  refine con_of (plainFor_of_name pn_3) hE (fun m => ef_rEqc m x sx) ?_
  intro p e s m below meth c T0 C X0
  have C : Cx p s m meth c Z "java/lang/String" "equalsIgnoreCase" jdk_42_method_70_code 2 (some .boolean) := C
  show Goes p e below _ T0 (mkF m 0 #[.val (.ref x), .val (.ref sx)] [])
  refine g_aloadN C X0 d21_0 rfl rfl (g_aloadN C X0 d21_1 rfl rfl (g_acmpne C X0 d21_2 rfl rfl (fun _ => ?_) (fun q => absurd q (fun q => ne (Value.ref.inj q)))))
  refine g_aloadN C X0 d21_9 rfl rfl (g_ifnull C X0 d21_10 rfl (fun q => absurd q nofun) (fun _ => ?_))
  refine g_aloadN C X0 d21_13 rfl rfl (g_virtualP (argsL := []) (st := []) C X0 (wd hw 119 rfl) (wd hw 120 rfl) (nf_of C (wd hw 122 rfl) rfl rfl) (wd hw 122 rfl) (wd hw 121 rfl) (by decide) sEX (pay_of (W' := 0) (rLn1 l hw X0.ext sx z_ SZ hz ts ks (49 : Int32) sEX sFC sFV sVT) C.hZ (wd hw 123 rfl) (wd hw 33 rfl) (by decide) (by decide)) pd_14 rfl rfl _ rfl (Nat.le_of_eq rfl) d21_14 (by decide) (by decide) (fun T606 X606 => ?_))
  refine g_aloadN C X606 d21_17 rfl rfl (g_virtualP (argsL := []) (st := [(.int 1)]) C X606 (wd hw 119 rfl) (wd hw 120 rfl) (nf_of C (wd hw 122 rfl) rfl rfl) (wd hw 122 rfl) (wd hw 121 rfl) (by decide) xEX (pay_of (W' := 1) (rLn1 l hw X606.ext x z_ SZ hz tx kx (49 : Int32) xEX xFC xFV xVT) C.hZ (wd hw 123 rfl) (wd hw 33 rfl) (by decide) (by decide)) pd_14 rfl rfl _ rfl (Nat.le_of_eq rfl) d21_18 (by decide) (by decide) (fun T607 X607 => ?_))
  refine g_icmpn (hI_ne _ _) C X607 d21_21 (fun q => absurd (by decide) q) (fun _ => ?_)
  refine g_aloadN C X607 d21_24 rfl rfl (g_iconst 1 C X607 d21_25 rfl (g_iconst 0 C X607 d21_26 rfl (g_aloadN C X607 d21_27 rfl rfl (g_iconst 0 C X607 d21_28 rfl (g_aloadN C X607 d21_29 rfl rfl (g_virtualP (argsL := []) (st := [(.int 0), (.ref sx), (.int 0), (.int 1), (.ref x)]) C X607 (wd hw 119 rfl) (wd hw 120 rfl) (nf_of C (wd hw 122 rfl) rfl rfl) (wd hw 122 rfl) (wd hw 121 rfl) (by decide) xEX (pay_of (W' := 5) (rLn1 l hw X607.ext x z_ SZ hz tx kx (49 : Int32) xEX xFC xFV xVT) C.hZ (wd hw 123 rfl) (wd hw 33 rfl) (by decide) (by decide)) pd_14 rfl rfl _ rfl (Nat.le_of_eq rfl) d21_30 (by decide) (by decide) (fun T608 X608 => ?_)))))))
  refine g_virtualP (argsL := [(.int 1), (.int 0), (.ref sx), (.int 0), (.int 1)]) (st := []) C X608 (wd hw 129 rfl) (wd hw 130 rfl) (nf_of C (wd hw 132 rfl) rfl rfl) (wd hw 132 rfl) (wd hw 131 rfl) (by decide) xEX (pay_of (W' := 0) (rRec l hw X608.ext x sx z_ SZ hz tx kx ts ks  xEX xFC xFV xVT sEX sFC sFV sVT ) C.hZ (wd hw 133 rfl) (wd hw 33 rfl) (by decide) (by decide)) pd_16 rfl rfl _ rfl (Nat.le_of_eq rfl) d21_33 (by decide) (by decide) (fun T609 X609 => ?_)
  refine g_if (h0_eq _) C X609 d21_36 (fun q => absurd q (by decide)) (fun _ => ?_)
  refine g_iconst 1 C X609 d21_39 rfl (g_goto C X609 d21_40 ?_)
  exact g_retN C X609 (by simp) d21_44 (1 : Int32) rfl (by decide) (by decide) ⟨rfl, rfl⟩
theorem ef_rRcd (m : MethodId) (tx : Addr) (ts : Addr) : entryFrame m #[(.ref tx), (.int 0), (.ref ts), (.int 0), (.int 8)] 8 = mkF m 0 #[.val (.ref tx), .val (.int 0), .val (.ref ts), .val (.int 0), .val (.int 8), .unset, .unset, .unset] [] := by first | (simp [entryFrame, mkF, argsToLocals, Value.category]; done) | rfl
theorem rRcd (l : Launch) {Z : State} {a0 : Array Value} (hw : ∀ d ∈ tables_1, d.before a0 Z = true) {h : Heap} (hE : Ext Z.heap h) (tx : Addr) (ts : Addr) (kx ks : ClassId) (y0 y1 y2 y3 y4 y5 y6 y7 : Int32) (xVT : Arv Z h tx kx .byte 8 [(.int 105), (.int 110), (.int 102), (.int 105), (.int 110), (.int 105), (.int 116), (.int 121)] (.int (0 : Int32))) (sVT : Arv Z h ts ks .byte 8 [(.int y0), (.int y1), (.int y2), (.int y3), (.int y4), (.int y5), (.int y6), (.int y7)] (.int (0 : Int32))) (l0 : (y0 = (105 : Int32) ∨ y0 = (73 : Int32))) (l1 : (y1 = (110 : Int32) ∨ y1 = (78 : Int32))) (l2 : (y2 = (102 : Int32) ∨ y2 = (70 : Int32))) (l3 : (y3 = (105 : Int32) ∨ y3 = (73 : Int32))) (l4 : (y4 = (110 : Int32) ∨ y4 = (78 : Int32))) (l5 : (y5 = (105 : Int32) ∨ y5 = (73 : Int32))) (l6 : (y6 = (116 : Int32) ∨ y6 = (84 : Int32))) (l7 : (y7 = (121 : Int32) ∨ y7 = (89 : Int32))) :
    Con l (⟨"java/lang/StringLatin1", "regionMatchesCI", "([BI[BII)Z"⟩ : MethodName) jdk_43_method_30_code 8 (some .boolean) [] ({ frames := 1, cells := 0, slots := 0, locals := 24 } : Room) Z #[(.ref tx), (.int 0), (.ref ts), (.int 0), (.int 8)] h (fun v' h' => v' = some (.int 1) ∧ h' = h) := by
  refine con_of (plainFor_of_name pn_5) hE (fun m => ef_rRcd m tx ts) ?_
  intro p e s m below meth c T0 C X0
  have C : Cx p s m meth c Z "java/lang/StringLatin1" "regionMatchesCI" jdk_43_method_30_code 8 (some .boolean) := C
  show Goes p e below _ T0 (mkF m 0 #[.val (.ref tx), .val (.int 0), .val (.ref ts), .val (.int 0), .val (.int 8), .unset, .unset, .unset] [])
  refine g_iloadN C X0 d25_0 rfl (g_iload C X0 d25_1 rfl (g_iadd C X0 d25_3 (g_istore C X0 d25_4 (l' := #[.val (.ref tx), .val (.int 0), .val (.ref ts), .val (.int 0), .val (.int 8), .val (.int 8), .unset, .unset]) rfl (g_iloadN C X0 d25_6 rfl (g_iload C X0 d25_7 rfl (g_icmpn (hI_ge _ _) C X0 d25_9 (fun q => absurd (by decide) q) (fun _ => ?_)))))))
  refine g_aloadN C X0 d25_12 rfl rfl (g_iloadN C X0 d25_13 rfl (g_iinc 1 C X0 d25_14 rfl rfl (l' := #[.val (.ref tx), .val (.int 1), .val (.ref ts), .val (.int 0), .val (.int 8), .val (.int 8), .unset, .unset]) rfl (g_baload C X0 xVT d25_17 (by decide) (by decide) rfl (g_istore C X0 d25_18 (l' := #[.val (.ref tx), .val (.int 1), .val (.ref ts), .val (.int 0), .val (.int 8), .val (.int 8), .val (.int 105), .unset]) rfl (g_aloadN C X0 d25_20 rfl rfl (g_iloadN C X0 d25_21 rfl (g_iinc 1 C X0 d25_22 rfl rfl (l' := #[.val (.ref tx), .val (.int 1), .val (.ref ts), .val (.int 1), .val (.int 8), .val (.int 8), .val (.int 105), .unset]) rfl (g_baload C X0 sVT d25_25 (by decide) (by decide) rfl (g_istore C X0 d25_26 (l' := #[.val (.ref tx), .val (.int 1), .val (.ref ts), .val (.int 1), .val (.int 8), .val (.int 8), .val (.int 105), .val (.int y0)]) rfl (g_iload C X0 d25_28 rfl (g_iload C X0 d25_30 rfl ?_)))))))))))
  refine g_staticP (argsL := [(.int 105), (.int y0)]) (st := []) C X0 (wd hw 137 rfl) (wd hw 138 rfl) (wd hw 139 rfl) (wd hw 140 rfl) (by decide) (pay_of (W' := 0) (rCi105 l hw X0.ext y0 l0) C.hZ (wd hw 140 rfl) (wd hw 139 rfl) (by decide) (by decide)) pd_13 rfl rfl _ rfl (Nat.le_of_eq rfl) d25_32 (by decide) (by decide) (fun T610 X610 => ?_)
  refine g_if (h0_eq _) C X610 d25_35 (fun q => absurd q (by decide)) (fun _ => ?_)
  refine g_goto C X610 d25_38 (g_iloadN C X610 d25_6 rfl (g_iload C X610 d25_7 rfl (g_icmpn (hI_ge _ _) C X610 d25_9 (fun q => absurd (by decide) q) (fun _ => ?_))))
  refine g_aloadN C X610 d25_12 rfl rfl (g_iloadN C X610 d25_13 rfl (g_iinc 1 C X610 d25_14 rfl rfl (l' := #[.val (.ref tx), .val (.int 2), .val (.ref ts), .val (.int 1), .val (.int 8), .val (.int 8), .val (.int 105), .val (.int y0)]) rfl (g_baload C X610 xVT d25_17 (by decide) (by decide) rfl (g_istore C X610 d25_18 (l' := #[.val (.ref tx), .val (.int 2), .val (.ref ts), .val (.int 1), .val (.int 8), .val (.int 8), .val (.int 110), .val (.int y0)]) rfl (g_aloadN C X610 d25_20 rfl rfl (g_iloadN C X610 d25_21 rfl (g_iinc 1 C X610 d25_22 rfl rfl (l' := #[.val (.ref tx), .val (.int 2), .val (.ref ts), .val (.int 2), .val (.int 8), .val (.int 8), .val (.int 110), .val (.int y0)]) rfl (g_baload C X610 sVT d25_25 (by decide) (by decide) rfl (g_istore C X610 d25_26 (l' := #[.val (.ref tx), .val (.int 2), .val (.ref ts), .val (.int 2), .val (.int 8), .val (.int 8), .val (.int 110), .val (.int y1)]) rfl (g_iload C X610 d25_28 rfl (g_iload C X610 d25_30 rfl ?_)))))))))))
  refine g_staticP (argsL := [(.int 110), (.int y1)]) (st := []) C X610 (wd hw 137 rfl) (wd hw 138 rfl) (wd hw 139 rfl) (wd hw 140 rfl) (by decide) (pay_of (W' := 0) (rCi110 l hw X610.ext y1 l1) C.hZ (wd hw 140 rfl) (wd hw 139 rfl) (by decide) (by decide)) pd_13 rfl rfl _ rfl (Nat.le_of_eq rfl) d25_32 (by decide) (by decide) (fun T611 X611 => ?_)
  refine g_if (h0_eq _) C X611 d25_35 (fun q => absurd q (by decide)) (fun _ => ?_)
  refine g_goto C X611 d25_38 (g_iloadN C X611 d25_6 rfl (g_iload C X611 d25_7 rfl (g_icmpn (hI_ge _ _) C X611 d25_9 (fun q => absurd (by decide) q) (fun _ => ?_))))
  refine g_aloadN C X611 d25_12 rfl rfl (g_iloadN C X611 d25_13 rfl (g_iinc 1 C X611 d25_14 rfl rfl (l' := #[.val (.ref tx), .val (.int 3), .val (.ref ts), .val (.int 2), .val (.int 8), .val (.int 8), .val (.int 110), .val (.int y1)]) rfl (g_baload C X611 xVT d25_17 (by decide) (by decide) rfl (g_istore C X611 d25_18 (l' := #[.val (.ref tx), .val (.int 3), .val (.ref ts), .val (.int 2), .val (.int 8), .val (.int 8), .val (.int 102), .val (.int y1)]) rfl (g_aloadN C X611 d25_20 rfl rfl (g_iloadN C X611 d25_21 rfl (g_iinc 1 C X611 d25_22 rfl rfl (l' := #[.val (.ref tx), .val (.int 3), .val (.ref ts), .val (.int 3), .val (.int 8), .val (.int 8), .val (.int 102), .val (.int y1)]) rfl (g_baload C X611 sVT d25_25 (by decide) (by decide) rfl (g_istore C X611 d25_26 (l' := #[.val (.ref tx), .val (.int 3), .val (.ref ts), .val (.int 3), .val (.int 8), .val (.int 8), .val (.int 102), .val (.int y2)]) rfl (g_iload C X611 d25_28 rfl (g_iload C X611 d25_30 rfl ?_)))))))))))
  refine g_staticP (argsL := [(.int 102), (.int y2)]) (st := []) C X611 (wd hw 137 rfl) (wd hw 138 rfl) (wd hw 139 rfl) (wd hw 140 rfl) (by decide) (pay_of (W' := 0) (rCi102 l hw X611.ext y2 l2) C.hZ (wd hw 140 rfl) (wd hw 139 rfl) (by decide) (by decide)) pd_13 rfl rfl _ rfl (Nat.le_of_eq rfl) d25_32 (by decide) (by decide) (fun T612 X612 => ?_)
  refine g_if (h0_eq _) C X612 d25_35 (fun q => absurd q (by decide)) (fun _ => ?_)
  refine g_goto C X612 d25_38 (g_iloadN C X612 d25_6 rfl (g_iload C X612 d25_7 rfl (g_icmpn (hI_ge _ _) C X612 d25_9 (fun q => absurd (by decide) q) (fun _ => ?_))))
  refine g_aloadN C X612 d25_12 rfl rfl (g_iloadN C X612 d25_13 rfl (g_iinc 1 C X612 d25_14 rfl rfl (l' := #[.val (.ref tx), .val (.int 4), .val (.ref ts), .val (.int 3), .val (.int 8), .val (.int 8), .val (.int 102), .val (.int y2)]) rfl (g_baload C X612 xVT d25_17 (by decide) (by decide) rfl (g_istore C X612 d25_18 (l' := #[.val (.ref tx), .val (.int 4), .val (.ref ts), .val (.int 3), .val (.int 8), .val (.int 8), .val (.int 105), .val (.int y2)]) rfl (g_aloadN C X612 d25_20 rfl rfl (g_iloadN C X612 d25_21 rfl (g_iinc 1 C X612 d25_22 rfl rfl (l' := #[.val (.ref tx), .val (.int 4), .val (.ref ts), .val (.int 4), .val (.int 8), .val (.int 8), .val (.int 105), .val (.int y2)]) rfl (g_baload C X612 sVT d25_25 (by decide) (by decide) rfl (g_istore C X612 d25_26 (l' := #[.val (.ref tx), .val (.int 4), .val (.ref ts), .val (.int 4), .val (.int 8), .val (.int 8), .val (.int 105), .val (.int y3)]) rfl (g_iload C X612 d25_28 rfl (g_iload C X612 d25_30 rfl ?_)))))))))))
  refine g_staticP (argsL := [(.int 105), (.int y3)]) (st := []) C X612 (wd hw 137 rfl) (wd hw 138 rfl) (wd hw 139 rfl) (wd hw 140 rfl) (by decide) (pay_of (W' := 0) (rCi105 l hw X612.ext y3 l3) C.hZ (wd hw 140 rfl) (wd hw 139 rfl) (by decide) (by decide)) pd_13 rfl rfl _ rfl (Nat.le_of_eq rfl) d25_32 (by decide) (by decide) (fun T613 X613 => ?_)
  refine g_if (h0_eq _) C X613 d25_35 (fun q => absurd q (by decide)) (fun _ => ?_)
  refine g_goto C X613 d25_38 (g_iloadN C X613 d25_6 rfl (g_iload C X613 d25_7 rfl (g_icmpn (hI_ge _ _) C X613 d25_9 (fun q => absurd (by decide) q) (fun _ => ?_))))
  refine g_aloadN C X613 d25_12 rfl rfl (g_iloadN C X613 d25_13 rfl (g_iinc 1 C X613 d25_14 rfl rfl (l' := #[.val (.ref tx), .val (.int 5), .val (.ref ts), .val (.int 4), .val (.int 8), .val (.int 8), .val (.int 105), .val (.int y3)]) rfl (g_baload C X613 xVT d25_17 (by decide) (by decide) rfl (g_istore C X613 d25_18 (l' := #[.val (.ref tx), .val (.int 5), .val (.ref ts), .val (.int 4), .val (.int 8), .val (.int 8), .val (.int 110), .val (.int y3)]) rfl (g_aloadN C X613 d25_20 rfl rfl (g_iloadN C X613 d25_21 rfl (g_iinc 1 C X613 d25_22 rfl rfl (l' := #[.val (.ref tx), .val (.int 5), .val (.ref ts), .val (.int 5), .val (.int 8), .val (.int 8), .val (.int 110), .val (.int y3)]) rfl (g_baload C X613 sVT d25_25 (by decide) (by decide) rfl (g_istore C X613 d25_26 (l' := #[.val (.ref tx), .val (.int 5), .val (.ref ts), .val (.int 5), .val (.int 8), .val (.int 8), .val (.int 110), .val (.int y4)]) rfl (g_iload C X613 d25_28 rfl (g_iload C X613 d25_30 rfl ?_)))))))))))
  refine g_staticP (argsL := [(.int 110), (.int y4)]) (st := []) C X613 (wd hw 137 rfl) (wd hw 138 rfl) (wd hw 139 rfl) (wd hw 140 rfl) (by decide) (pay_of (W' := 0) (rCi110 l hw X613.ext y4 l4) C.hZ (wd hw 140 rfl) (wd hw 139 rfl) (by decide) (by decide)) pd_13 rfl rfl _ rfl (Nat.le_of_eq rfl) d25_32 (by decide) (by decide) (fun T614 X614 => ?_)
  refine g_if (h0_eq _) C X614 d25_35 (fun q => absurd q (by decide)) (fun _ => ?_)
  refine g_goto C X614 d25_38 (g_iloadN C X614 d25_6 rfl (g_iload C X614 d25_7 rfl (g_icmpn (hI_ge _ _) C X614 d25_9 (fun q => absurd (by decide) q) (fun _ => ?_))))
  refine g_aloadN C X614 d25_12 rfl rfl (g_iloadN C X614 d25_13 rfl (g_iinc 1 C X614 d25_14 rfl rfl (l' := #[.val (.ref tx), .val (.int 6), .val (.ref ts), .val (.int 5), .val (.int 8), .val (.int 8), .val (.int 110), .val (.int y4)]) rfl (g_baload C X614 xVT d25_17 (by decide) (by decide) rfl (g_istore C X614 d25_18 (l' := #[.val (.ref tx), .val (.int 6), .val (.ref ts), .val (.int 5), .val (.int 8), .val (.int 8), .val (.int 105), .val (.int y4)]) rfl (g_aloadN C X614 d25_20 rfl rfl (g_iloadN C X614 d25_21 rfl (g_iinc 1 C X614 d25_22 rfl rfl (l' := #[.val (.ref tx), .val (.int 6), .val (.ref ts), .val (.int 6), .val (.int 8), .val (.int 8), .val (.int 105), .val (.int y4)]) rfl (g_baload C X614 sVT d25_25 (by decide) (by decide) rfl (g_istore C X614 d25_26 (l' := #[.val (.ref tx), .val (.int 6), .val (.ref ts), .val (.int 6), .val (.int 8), .val (.int 8), .val (.int 105), .val (.int y5)]) rfl (g_iload C X614 d25_28 rfl (g_iload C X614 d25_30 rfl ?_)))))))))))
  refine g_staticP (argsL := [(.int 105), (.int y5)]) (st := []) C X614 (wd hw 137 rfl) (wd hw 138 rfl) (wd hw 139 rfl) (wd hw 140 rfl) (by decide) (pay_of (W' := 0) (rCi105 l hw X614.ext y5 l5) C.hZ (wd hw 140 rfl) (wd hw 139 rfl) (by decide) (by decide)) pd_13 rfl rfl _ rfl (Nat.le_of_eq rfl) d25_32 (by decide) (by decide) (fun T615 X615 => ?_)
  refine g_if (h0_eq _) C X615 d25_35 (fun q => absurd q (by decide)) (fun _ => ?_)
  refine g_goto C X615 d25_38 (g_iloadN C X615 d25_6 rfl (g_iload C X615 d25_7 rfl (g_icmpn (hI_ge _ _) C X615 d25_9 (fun q => absurd (by decide) q) (fun _ => ?_))))
  refine g_aloadN C X615 d25_12 rfl rfl (g_iloadN C X615 d25_13 rfl (g_iinc 1 C X615 d25_14 rfl rfl (l' := #[.val (.ref tx), .val (.int 7), .val (.ref ts), .val (.int 6), .val (.int 8), .val (.int 8), .val (.int 105), .val (.int y5)]) rfl (g_baload C X615 xVT d25_17 (by decide) (by decide) rfl (g_istore C X615 d25_18 (l' := #[.val (.ref tx), .val (.int 7), .val (.ref ts), .val (.int 6), .val (.int 8), .val (.int 8), .val (.int 116), .val (.int y5)]) rfl (g_aloadN C X615 d25_20 rfl rfl (g_iloadN C X615 d25_21 rfl (g_iinc 1 C X615 d25_22 rfl rfl (l' := #[.val (.ref tx), .val (.int 7), .val (.ref ts), .val (.int 7), .val (.int 8), .val (.int 8), .val (.int 116), .val (.int y5)]) rfl (g_baload C X615 sVT d25_25 (by decide) (by decide) rfl (g_istore C X615 d25_26 (l' := #[.val (.ref tx), .val (.int 7), .val (.ref ts), .val (.int 7), .val (.int 8), .val (.int 8), .val (.int 116), .val (.int y6)]) rfl (g_iload C X615 d25_28 rfl (g_iload C X615 d25_30 rfl ?_)))))))))))
  refine g_staticP (argsL := [(.int 116), (.int y6)]) (st := []) C X615 (wd hw 137 rfl) (wd hw 138 rfl) (wd hw 139 rfl) (wd hw 140 rfl) (by decide) (pay_of (W' := 0) (rCi116 l hw X615.ext y6 l6) C.hZ (wd hw 140 rfl) (wd hw 139 rfl) (by decide) (by decide)) pd_13 rfl rfl _ rfl (Nat.le_of_eq rfl) d25_32 (by decide) (by decide) (fun T616 X616 => ?_)
  refine g_if (h0_eq _) C X616 d25_35 (fun q => absurd q (by decide)) (fun _ => ?_)
  refine g_goto C X616 d25_38 (g_iloadN C X616 d25_6 rfl (g_iload C X616 d25_7 rfl (g_icmpn (hI_ge _ _) C X616 d25_9 (fun q => absurd (by decide) q) (fun _ => ?_))))
  refine g_aloadN C X616 d25_12 rfl rfl (g_iloadN C X616 d25_13 rfl (g_iinc 1 C X616 d25_14 rfl rfl (l' := #[.val (.ref tx), .val (.int 8), .val (.ref ts), .val (.int 7), .val (.int 8), .val (.int 8), .val (.int 116), .val (.int y6)]) rfl (g_baload C X616 xVT d25_17 (by decide) (by decide) rfl (g_istore C X616 d25_18 (l' := #[.val (.ref tx), .val (.int 8), .val (.ref ts), .val (.int 7), .val (.int 8), .val (.int 8), .val (.int 121), .val (.int y6)]) rfl (g_aloadN C X616 d25_20 rfl rfl (g_iloadN C X616 d25_21 rfl (g_iinc 1 C X616 d25_22 rfl rfl (l' := #[.val (.ref tx), .val (.int 8), .val (.ref ts), .val (.int 8), .val (.int 8), .val (.int 8), .val (.int 121), .val (.int y6)]) rfl (g_baload C X616 sVT d25_25 (by decide) (by decide) rfl (g_istore C X616 d25_26 (l' := #[.val (.ref tx), .val (.int 8), .val (.ref ts), .val (.int 8), .val (.int 8), .val (.int 8), .val (.int 121), .val (.int y7)]) rfl (g_iload C X616 d25_28 rfl (g_iload C X616 d25_30 rfl ?_)))))))))))
  refine g_staticP (argsL := [(.int 121), (.int y7)]) (st := []) C X616 (wd hw 137 rfl) (wd hw 138 rfl) (wd hw 139 rfl) (wd hw 140 rfl) (by decide) (pay_of (W' := 0) (rCi121 l hw X616.ext y7 l7) C.hZ (wd hw 140 rfl) (wd hw 139 rfl) (by decide) (by decide)) pd_13 rfl rfl _ rfl (Nat.le_of_eq rfl) d25_32 (by decide) (by decide) (fun T617 X617 => ?_)
  refine g_if (h0_eq _) C X617 d25_35 (fun q => absurd q (by decide)) (fun _ => ?_)
  refine g_goto C X617 d25_38 (g_iloadN C X617 d25_6 rfl (g_iload C X617 d25_7 rfl (g_icmpn (hI_ge _ _) C X617 d25_9 (fun _ => ?_) (fun q => absurd q (by decide)))))
  refine g_iconst 1 C X617 d25_43 rfl ?_
  exact g_retN C X617 (by simp) d25_44 (1 : Int32) rfl (by decide) (by decide) ⟨rfl, rfl⟩
theorem ef_rRed (m : MethodId) (x : Addr) (sx : Addr) : entryFrame m #[(.ref x), (.int 1), (.int 0), (.ref sx), (.int 0), (.int 8)] 9 = mkF m 0 #[.val (.ref x), .val (.int 1), .val (.int 0), .val (.ref sx), .val (.int 0), .val (.int 8), .unset, .unset, .unset] [] := by first | (simp [entryFrame, mkF, argsToLocals, Value.category]; done) | rfl
theorem rRed (l : Launch) {Z : State} {a0 : Array Value} (hw : ∀ d ∈ tables_1, d.before a0 Z = true) {h : Heap} (hE : Ext Z.heap h) (x : Addr) (sx : Addr) (z_ : Int32) (SZ : Sta Z Z.heap "java/lang/String" "COMPACT_STRINGS" "Z" (.int z_)) (hz : ¬ z_ = 0) (tx : Addr) (kx : ClassId) (ts : Addr) (ks : ClassId) (y0 y1 y2 y3 y4 y5 y6 y7 : Int32) (xEX : Exa Z h x "java/lang/String") (xFC : Fld Z h x "java/lang/String" "coder" "B" (.int (0 : Int32))) (xFV : Fld Z h x "java/lang/String" "value" "[B" (.ref tx)) (xVT : Arv Z h tx kx .byte 8 [(.int 105), (.int 110), (.int 102), (.int 105), (.int 110), (.int 105), (.int 116), (.int 121)] (.int (0 : Int32))) (sEX : Exa Z h sx "java/lang/String") (sFC : Fld Z h sx "java/lang/String" "coder" "B" (.int (0 : Int32))) (sFV : Fld Z h sx "java/lang/String" "value" "[B" (.ref ts)) (sVT : Arv Z h ts ks .byte 8 [(.int y0), (.int y1), (.int y2), (.int y3), (.int y4), (.int y5), (.int y6), (.int y7)] (.int (0 : Int32))) (l0 : (y0 = (105 : Int32) ∨ y0 = (73 : Int32))) (l1 : (y1 = (110 : Int32) ∨ y1 = (78 : Int32))) (l2 : (y2 = (102 : Int32) ∨ y2 = (70 : Int32))) (l3 : (y3 = (105 : Int32) ∨ y3 = (73 : Int32))) (l4 : (y4 = (110 : Int32) ∨ y4 = (78 : Int32))) (l5 : (y5 = (105 : Int32) ∨ y5 = (73 : Int32))) (l6 : (y6 = (116 : Int32) ∨ y6 = (84 : Int32))) (l7 : (y7 = (121 : Int32) ∨ y7 = (89 : Int32))) :
    Con l (⟨"java/lang/String", "regionMatches", "(ZILjava/lang/String;II)Z"⟩ : MethodName) jdk_42_method_74_code 9 (some .boolean) [] ({ frames := 2, cells := 0, slots := 0, locals := 48 } : Room) Z #[(.ref x), (.int 1), (.int 0), (.ref sx), (.int 0), (.int 8)] h (fun v' h' => v' = some (.int 1) ∧ h' = h) := by
  refine con_of (plainFor_of_name pn_3) hE (fun m => ef_rRed m x sx) ?_
  intro p e s m below meth c T0 C X0
  have C : Cx p s m meth c Z "java/lang/String" "regionMatches" jdk_42_method_74_code 9 (some .boolean) := C
  show Goes p e below _ T0 (mkF m 0 #[.val (.ref x), .val (.int 1), .val (.int 0), .val (.ref sx), .val (.int 0), .val (.int 8), .unset, .unset, .unset] [])
  refine g_iloadN C X0 d24_0 rfl (g_ifn (h0_ne _) C X0 d24_1 (fun _ => ?_) (fun q => absurd q (by decide)))
  refine g_iload C X0 d24_15 rfl (g_if (h0_lt _) C X0 d24_17 (fun q => absurd q (by decide)) (fun _ => ?_))
  refine g_iloadN C X0 d24_20 rfl (g_if (h0_lt _) C X0 d24_21 (fun q => absurd q (by decide)) (fun _ => ?_))
  refine g_iloadN C X0 d24_24 rfl (g_i2l C X0 d24_25 (g_aloadN C X0 d24_26 rfl rfl (g_virtualP (argsL := []) (st := [(.long 0)]) C X0 (wd hw 119 rfl) (wd hw 120 rfl) (nf_of C (wd hw 122 rfl) rfl rfl) (wd hw 122 rfl) (wd hw 121 rfl) (by decide) xEX (pay_of (W' := 2) (rLn8 l hw X0.ext x z_ SZ hz tx kx (105 : Int32) (110 : Int32) (102 : Int32) (105 : Int32) (110 : Int32) (105 : Int32) (116 : Int32) (121 : Int32) xEX xFC xFV xVT) C.hZ (wd hw 123 rfl) (wd hw 33 rfl) (by decide) (by decide)) pd_14 rfl rfl _ rfl (Nat.le_of_eq rfl) d24_27 (by decide) (by decide) (fun T618 X618 => ?_))))
  refine g_i2l C X618 d24_30 (g_iload C X618 d24_31 rfl (g_i2l C X618 d24_33 (g_lsub C X618 d24_34 (g_lcmp C X618 d24_35 (g_if (hL_gt _ _) C X618 d24_36 (fun q => absurd q (by decide)) (fun _ => ?_))))))
  refine g_iload C X618 d24_39 rfl (g_i2l C X618 d24_41 (g_aloadN C X618 d24_42 rfl rfl (g_virtualP (argsL := []) (st := [(.long 0)]) C X618 (wd hw 119 rfl) (wd hw 120 rfl) (nf_of C (wd hw 122 rfl) rfl rfl) (wd hw 122 rfl) (wd hw 121 rfl) (by decide) sEX (pay_of (W' := 2) (rLn8 l hw X618.ext sx z_ SZ hz ts ks y0 y1 y2 y3 y4 y5 y6 y7 sEX sFC sFV sVT) C.hZ (wd hw 123 rfl) (wd hw 33 rfl) (by decide) (by decide)) pd_14 rfl rfl _ rfl (Nat.le_of_eq rfl) d24_43 (by decide) (by decide) (fun T619 X619 => ?_))))
  refine g_i2l C X619 d24_46 (g_iload C X619 d24_47 rfl (g_i2l C X619 d24_49 (g_lsub C X619 d24_50 (g_lcmp C X619 d24_51 (g_ifn (hL_le _ _) C X619 d24_52 (fun _ => ?_) (fun q => absurd q (by decide)))))))
  refine g_aloadN C X619 d24_57 rfl rfl (g_getfield (host := "") C X619 (Or.inl (wd hw 58 rfl)) Via.refl xFV d24_58 (fun T620 X620 => ?_))
  refine g_astore C X620 d24_61 rfl (l' := #[.val (.ref x), .val (.int 1), .val (.int 0), .val (.ref sx), .val (.int 0), .val (.int 8), .val (.ref tx), .unset, .unset]) rfl (g_aloadN C X620 d24_63 rfl rfl (g_getfield (host := "") C X620 (Or.inl (wd hw 58 rfl)) Via.refl sFV d24_64 (fun T621 X621 => ?_)))
  refine g_astore C X621 d24_67 rfl (l' := #[.val (.ref x), .val (.int 1), .val (.int 0), .val (.ref sx), .val (.int 0), .val (.int 8), .val (.ref tx), .val (.ref ts), .unset]) rfl (g_aloadN C X621 d24_69 rfl rfl (g_virtualP (argsL := []) (st := []) C X621 (wd hw 124 rfl) (wd hw 125 rfl) (nf_of C (wd hw 127 rfl) rfl rfl) (wd hw 127 rfl) (wd hw 126 rfl) (by decide) xEX (pay_of (W' := 0) (rCo l hw X621.ext x z_ SZ hz xFC) C.hZ (wd hw 128 rfl) (wd hw 33 rfl) (by decide) (by decide)) pd_5 rfl rfl _ rfl (Nat.le_of_eq rfl) d24_70 (by decide) (by decide) (fun T622 X622 => ?_)))
  refine g_istore C X622 d24_73 (l' := #[.val (.ref x), .val (.int 1), .val (.int 0), .val (.ref sx), .val (.int 0), .val (.int 8), .val (.ref tx), .val (.ref ts), .val (.int 0)]) rfl (g_iload C X622 d24_75 rfl (g_aloadN C X622 d24_77 rfl rfl (g_virtualP (argsL := []) (st := [(.int 0)]) C X622 (wd hw 124 rfl) (wd hw 125 rfl) (nf_of C (wd hw 127 rfl) rfl rfl) (wd hw 127 rfl) (wd hw 126 rfl) (by decide) sEX (pay_of (W' := 1) (rCo l hw X622.ext sx z_ SZ hz sFC) C.hZ (wd hw 128 rfl) (wd hw 33 rfl) (by decide) (by decide)) pd_5 rfl rfl _ rfl (Nat.le_of_eq rfl) d24_78 (by decide) (by decide) (fun T623 X623 => ?_))))
  refine g_icmpn (hI_ne _ _) C X623 d24_81 (fun q => absurd (by decide) q) (fun _ => ?_)
  refine g_iload C X623 d24_84 rfl (g_ifn (h0_ne _) C X623 d24_86 (fun q => absurd (by decide) q) (fun _ => ?_))
  refine g_aload C X623 d24_89 rfl rfl (g_iloadN C X623 d24_91 rfl (g_aload C X623 d24_92 rfl rfl (g_iload C X623 d24_94 rfl (g_iload C X623 d24_96 rfl (g_staticP (argsL := [(.ref tx), (.int 0), (.ref ts), (.int 0), (.int 8)]) (st := []) C X623 (wd hw 134 rfl) (wd hw 135 rfl) (wd hw 92 rfl) (wd hw 136 rfl) (by decide) (pay_of (W' := 0) (rRcd l hw X623.ext tx ts kx ks y0 y1 y2 y3 y4 y5 y6 y7 xVT sVT l0 l1 l2 l3 l4 l5 l6 l7) C.hZ (wd hw 136 rfl) (wd hw 92 rfl) (by decide) (by decide)) pd_15 rfl rfl _ rfl (Nat.le_of_eq rfl) d24_98 (by decide) (by decide) (fun T624 X624 => ?_))))))
  refine g_goto C X624 d24_101 ?_
  exact g_retN C X624 (by simp) d24_116 (1 : Int32) rfl (by decide) (by decide) ⟨rfl, rfl⟩
theorem ef_rEqd (m : MethodId) (x : Addr) (sx : Addr) : entryFrame m #[(.ref x), (.ref sx)] 2 = mkF m 0 #[.val (.ref x), .val (.ref sx)] [] := by first | (simp [entryFrame, mkF, argsToLocals, Value.category]; done) | rfl
theorem rEqd (l : Launch) {Z : State} {a0 : Array Value} (hw : ∀ d ∈ tables_1, d.before a0 Z = true) {h : Heap} (hE : Ext Z.heap h) (x : Addr) (sx : Addr) (z_ : Int32) (SZ : Sta Z Z.heap "java/lang/String" "COMPACT_STRINGS" "Z" (.int z_)) (hz : ¬ z_ = 0) (tx : Addr) (kx : ClassId) (ts : Addr) (ks : ClassId) (y0 y1 y2 y3 y4 y5 y6 y7 : Int32) (xEX : Exa Z h x "java/lang/String") (xFC : Fld Z h x "java/lang/String" "coder" "B" (.int (0 : Int32))) (xFV : Fld Z h x "java/lang/String" "value" "[B" (.ref tx)) (xVT : Arv Z h tx kx .byte 8 [(.int 105), (.int 110), (.int 102), (.int 105), (.int 110), (.int 105), (.int 116), (.int 121)] (.int (0 : Int32))) (sEX : Exa Z h sx "java/lang/String") (sFC : Fld Z h sx "java/lang/String" "coder" "B" (.int (0 : Int32))) (sFV : Fld Z h sx "java/lang/String" "value" "[B" (.ref ts)) (sVT : Arv Z h ts ks .byte 8 [(.int y0), (.int y1), (.int y2), (.int y3), (.int y4), (.int y5), (.int y6), (.int y7)] (.int (0 : Int32))) (l0 : (y0 = (105 : Int32) ∨ y0 = (73 : Int32))) (l1 : (y1 = (110 : Int32) ∨ y1 = (78 : Int32))) (l2 : (y2 = (102 : Int32) ∨ y2 = (70 : Int32))) (l3 : (y3 = (105 : Int32) ∨ y3 = (73 : Int32))) (l4 : (y4 = (110 : Int32) ∨ y4 = (78 : Int32))) (l5 : (y5 = (105 : Int32) ∨ y5 = (73 : Int32))) (l6 : (y6 = (116 : Int32) ∨ y6 = (84 : Int32))) (l7 : (y7 = (121 : Int32) ∨ y7 = (89 : Int32))) (ne : x ≠ sx) :
    Con l (⟨"java/lang/String", "equalsIgnoreCase", "(Ljava/lang/String;)Z"⟩ : MethodName) jdk_42_method_70_code 2 (some .boolean) [] ({ frames := 3, cells := 0, slots := 0, locals := 72 } : Room) Z #[(.ref x), (.ref sx)] h (fun v' h' => v' = some (.int 1) ∧ h' = h) := by
  refine con_of (plainFor_of_name pn_3) hE (fun m => ef_rEqd m x sx) ?_
  intro p e s m below meth c T0 C X0
  have C : Cx p s m meth c Z "java/lang/String" "equalsIgnoreCase" jdk_42_method_70_code 2 (some .boolean) := C
  show Goes p e below _ T0 (mkF m 0 #[.val (.ref x), .val (.ref sx)] [])
  refine g_aloadN C X0 d21_0 rfl rfl (g_aloadN C X0 d21_1 rfl rfl (g_acmpne C X0 d21_2 rfl rfl (fun _ => ?_) (fun q => absurd q (fun q => ne (Value.ref.inj q)))))
  refine g_aloadN C X0 d21_9 rfl rfl (g_ifnull C X0 d21_10 rfl (fun q => absurd q nofun) (fun _ => ?_))
  refine g_aloadN C X0 d21_13 rfl rfl (g_virtualP (argsL := []) (st := []) C X0 (wd hw 119 rfl) (wd hw 120 rfl) (nf_of C (wd hw 122 rfl) rfl rfl) (wd hw 122 rfl) (wd hw 121 rfl) (by decide) sEX (pay_of (W' := 0) (rLn8 l hw X0.ext sx z_ SZ hz ts ks y0 y1 y2 y3 y4 y5 y6 y7 sEX sFC sFV sVT) C.hZ (wd hw 123 rfl) (wd hw 33 rfl) (by decide) (by decide)) pd_14 rfl rfl _ rfl (Nat.le_of_eq rfl) d21_14 (by decide) (by decide) (fun T625 X625 => ?_))
  refine g_aloadN C X625 d21_17 rfl rfl (g_virtualP (argsL := []) (st := [(.int 8)]) C X625 (wd hw 119 rfl) (wd hw 120 rfl) (nf_of C (wd hw 122 rfl) rfl rfl) (wd hw 122 rfl) (wd hw 121 rfl) (by decide) xEX (pay_of (W' := 1) (rLn8 l hw X625.ext x z_ SZ hz tx kx (105 : Int32) (110 : Int32) (102 : Int32) (105 : Int32) (110 : Int32) (105 : Int32) (116 : Int32) (121 : Int32) xEX xFC xFV xVT) C.hZ (wd hw 123 rfl) (wd hw 33 rfl) (by decide) (by decide)) pd_14 rfl rfl _ rfl (Nat.le_of_eq rfl) d21_18 (by decide) (by decide) (fun T626 X626 => ?_))
  refine g_icmpn (hI_ne _ _) C X626 d21_21 (fun q => absurd (by decide) q) (fun _ => ?_)
  refine g_aloadN C X626 d21_24 rfl rfl (g_iconst 1 C X626 d21_25 rfl (g_iconst 0 C X626 d21_26 rfl (g_aloadN C X626 d21_27 rfl rfl (g_iconst 0 C X626 d21_28 rfl (g_aloadN C X626 d21_29 rfl rfl (g_virtualP (argsL := []) (st := [(.int 0), (.ref sx), (.int 0), (.int 1), (.ref x)]) C X626 (wd hw 119 rfl) (wd hw 120 rfl) (nf_of C (wd hw 122 rfl) rfl rfl) (wd hw 122 rfl) (wd hw 121 rfl) (by decide) xEX (pay_of (W' := 5) (rLn8 l hw X626.ext x z_ SZ hz tx kx (105 : Int32) (110 : Int32) (102 : Int32) (105 : Int32) (110 : Int32) (105 : Int32) (116 : Int32) (121 : Int32) xEX xFC xFV xVT) C.hZ (wd hw 123 rfl) (wd hw 33 rfl) (by decide) (by decide)) pd_14 rfl rfl _ rfl (Nat.le_of_eq rfl) d21_30 (by decide) (by decide) (fun T627 X627 => ?_)))))))
  refine g_virtualP (argsL := [(.int 1), (.int 0), (.ref sx), (.int 0), (.int 8)]) (st := []) C X627 (wd hw 129 rfl) (wd hw 130 rfl) (nf_of C (wd hw 132 rfl) rfl rfl) (wd hw 132 rfl) (wd hw 131 rfl) (by decide) xEX (pay_of (W' := 0) (rRed l hw X627.ext x sx z_ SZ hz tx kx ts ks y0 y1 y2 y3 y4 y5 y6 y7 xEX xFC xFV xVT sEX sFC sFV sVT l0 l1 l2 l3 l4 l5 l6 l7) C.hZ (wd hw 133 rfl) (wd hw 33 rfl) (by decide) (by decide)) pd_16 rfl rfl _ rfl (Nat.le_of_eq rfl) d21_33 (by decide) (by decide) (fun T628 X628 => ?_)
  refine g_if (h0_eq _) C X628 d21_36 (fun q => absurd q (by decide)) (fun _ => ?_)
  refine g_iconst 1 C X628 d21_39 rfl (g_goto C X628 d21_40 ?_)
  exact g_retN C X628 (by simp) d21_44 (1 : Int32) rfl (by decide) (by decide) ⟨rfl, rfl⟩
theorem ef_rEqe (m : MethodId) (x : Addr) (sx : Addr) : entryFrame m #[(.ref x), (.ref sx)] 2 = mkF m 0 #[.val (.ref x), .val (.ref sx)] [] := by first | (simp [entryFrame, mkF, argsToLocals, Value.category]; done) | rfl
theorem rEqe (l : Launch) {Z : State} {a0 : Array Value} (hw : ∀ d ∈ tables_1, d.before a0 Z = true) {h : Heap} (hE : Ext Z.heap h) (x : Addr) (sx : Addr) (z_ : Int32) (SZ : Sta Z Z.heap "java/lang/String" "COMPACT_STRINGS" "Z" (.int z_)) (hz : ¬ z_ = 0) (tx : Addr) (kx : ClassId) (ts : Addr) (ks : ClassId) (y0 y1 y2 y3 y4 y5 y6 y7 : Int32) (xEX : Exa Z h x "java/lang/String") (xFC : Fld Z h x "java/lang/String" "coder" "B" (.int (0 : Int32))) (xFV : Fld Z h x "java/lang/String" "value" "[B" (.ref tx)) (xVT : Arv Z h tx kx .byte 1 [(.int 48)] (.int (0 : Int32))) (sEX : Exa Z h sx "java/lang/String") (sFC : Fld Z h sx "java/lang/String" "coder" "B" (.int (0 : Int32))) (sFV : Fld Z h sx "java/lang/String" "value" "[B" (.ref ts)) (sVT : Arv Z h ts ks .byte 8 [(.int y0), (.int y1), (.int y2), (.int y3), (.int y4), (.int y5), (.int y6), (.int y7)] (.int (0 : Int32))) (l0 : (y0 = (105 : Int32) ∨ y0 = (73 : Int32))) (l1 : (y1 = (110 : Int32) ∨ y1 = (78 : Int32))) (l2 : (y2 = (102 : Int32) ∨ y2 = (70 : Int32))) (l3 : (y3 = (105 : Int32) ∨ y3 = (73 : Int32))) (l4 : (y4 = (110 : Int32) ∨ y4 = (78 : Int32))) (l5 : (y5 = (105 : Int32) ∨ y5 = (73 : Int32))) (l6 : (y6 = (116 : Int32) ∨ y6 = (84 : Int32))) (l7 : (y7 = (121 : Int32) ∨ y7 = (89 : Int32))) (ne : x ≠ sx) :
    Con l (⟨"java/lang/String", "equalsIgnoreCase", "(Ljava/lang/String;)Z"⟩ : MethodName) jdk_42_method_70_code 2 (some .boolean) [] ({ frames := 3, cells := 0, slots := 0, locals := 72 } : Room) Z #[(.ref x), (.ref sx)] h (fun v' h' => v' = some (.int 0) ∧ h' = h) := by
  refine con_of (plainFor_of_name pn_3) hE (fun m => ef_rEqe m x sx) ?_
  intro p e s m below meth c T0 C X0
  have C : Cx p s m meth c Z "java/lang/String" "equalsIgnoreCase" jdk_42_method_70_code 2 (some .boolean) := C
  show Goes p e below _ T0 (mkF m 0 #[.val (.ref x), .val (.ref sx)] [])
  refine g_aloadN C X0 d21_0 rfl rfl (g_aloadN C X0 d21_1 rfl rfl (g_acmpne C X0 d21_2 rfl rfl (fun _ => ?_) (fun q => absurd q (fun q => ne (Value.ref.inj q)))))
  refine g_aloadN C X0 d21_9 rfl rfl (g_ifnull C X0 d21_10 rfl (fun q => absurd q nofun) (fun _ => ?_))
  refine g_aloadN C X0 d21_13 rfl rfl (g_virtualP (argsL := []) (st := []) C X0 (wd hw 119 rfl) (wd hw 120 rfl) (nf_of C (wd hw 122 rfl) rfl rfl) (wd hw 122 rfl) (wd hw 121 rfl) (by decide) sEX (pay_of (W' := 0) (rLn8 l hw X0.ext sx z_ SZ hz ts ks y0 y1 y2 y3 y4 y5 y6 y7 sEX sFC sFV sVT) C.hZ (wd hw 123 rfl) (wd hw 33 rfl) (by decide) (by decide)) pd_14 rfl rfl _ rfl (Nat.le_of_eq rfl) d21_14 (by decide) (by decide) (fun T629 X629 => ?_))
  refine g_aloadN C X629 d21_17 rfl rfl (g_virtualP (argsL := []) (st := [(.int 8)]) C X629 (wd hw 119 rfl) (wd hw 120 rfl) (nf_of C (wd hw 122 rfl) rfl rfl) (wd hw 122 rfl) (wd hw 121 rfl) (by decide) xEX (pay_of (W' := 1) (rLn1 l hw X629.ext x z_ SZ hz tx kx (48 : Int32) xEX xFC xFV xVT) C.hZ (wd hw 123 rfl) (wd hw 33 rfl) (by decide) (by decide)) pd_14 rfl rfl _ rfl (Nat.le_of_eq rfl) d21_18 (by decide) (by decide) (fun T630 X630 => ?_))
  refine g_icmpn (hI_ne _ _) C X630 d21_21 (fun _ => ?_) (fun q => absurd q (by decide))
  refine g_iconst 0 C X630 d21_43 rfl ?_
  exact g_retN C X630 (by simp) d21_44 (0 : Int32) rfl (by decide) (by decide) ⟨rfl, rfl⟩
theorem ef_rEqf (m : MethodId) (x : Addr) (sx : Addr) : entryFrame m #[(.ref x), (.ref sx)] 2 = mkF m 0 #[.val (.ref x), .val (.ref sx)] [] := by first | (simp [entryFrame, mkF, argsToLocals, Value.category]; done) | rfl
theorem rEqf (l : Launch) {Z : State} {a0 : Array Value} (hw : ∀ d ∈ tables_1, d.before a0 Z = true) {h : Heap} (hE : Ext Z.heap h) (x : Addr) (sx : Addr) (z_ : Int32) (SZ : Sta Z Z.heap "java/lang/String" "COMPACT_STRINGS" "Z" (.int z_)) (hz : ¬ z_ = 0) (tx : Addr) (kx : ClassId) (ts : Addr) (ks : ClassId) (y0 y1 y2 y3 y4 y5 y6 y7 : Int32) (xEX : Exa Z h x "java/lang/String") (xFC : Fld Z h x "java/lang/String" "coder" "B" (.int (0 : Int32))) (xFV : Fld Z h x "java/lang/String" "value" "[B" (.ref tx)) (xVT : Arv Z h tx kx .byte 1 [(.int 49)] (.int (0 : Int32))) (sEX : Exa Z h sx "java/lang/String") (sFC : Fld Z h sx "java/lang/String" "coder" "B" (.int (0 : Int32))) (sFV : Fld Z h sx "java/lang/String" "value" "[B" (.ref ts)) (sVT : Arv Z h ts ks .byte 8 [(.int y0), (.int y1), (.int y2), (.int y3), (.int y4), (.int y5), (.int y6), (.int y7)] (.int (0 : Int32))) (l0 : (y0 = (105 : Int32) ∨ y0 = (73 : Int32))) (l1 : (y1 = (110 : Int32) ∨ y1 = (78 : Int32))) (l2 : (y2 = (102 : Int32) ∨ y2 = (70 : Int32))) (l3 : (y3 = (105 : Int32) ∨ y3 = (73 : Int32))) (l4 : (y4 = (110 : Int32) ∨ y4 = (78 : Int32))) (l5 : (y5 = (105 : Int32) ∨ y5 = (73 : Int32))) (l6 : (y6 = (116 : Int32) ∨ y6 = (84 : Int32))) (l7 : (y7 = (121 : Int32) ∨ y7 = (89 : Int32))) (ne : x ≠ sx) :
    Con l (⟨"java/lang/String", "equalsIgnoreCase", "(Ljava/lang/String;)Z"⟩ : MethodName) jdk_42_method_70_code 2 (some .boolean) [] ({ frames := 3, cells := 0, slots := 0, locals := 72 } : Room) Z #[(.ref x), (.ref sx)] h (fun v' h' => v' = some (.int 0) ∧ h' = h) := by
  refine con_of (plainFor_of_name pn_3) hE (fun m => ef_rEqf m x sx) ?_
  intro p e s m below meth c T0 C X0
  have C : Cx p s m meth c Z "java/lang/String" "equalsIgnoreCase" jdk_42_method_70_code 2 (some .boolean) := C
  show Goes p e below _ T0 (mkF m 0 #[.val (.ref x), .val (.ref sx)] [])
  refine g_aloadN C X0 d21_0 rfl rfl (g_aloadN C X0 d21_1 rfl rfl (g_acmpne C X0 d21_2 rfl rfl (fun _ => ?_) (fun q => absurd q (fun q => ne (Value.ref.inj q)))))
  refine g_aloadN C X0 d21_9 rfl rfl (g_ifnull C X0 d21_10 rfl (fun q => absurd q nofun) (fun _ => ?_))
  refine g_aloadN C X0 d21_13 rfl rfl (g_virtualP (argsL := []) (st := []) C X0 (wd hw 119 rfl) (wd hw 120 rfl) (nf_of C (wd hw 122 rfl) rfl rfl) (wd hw 122 rfl) (wd hw 121 rfl) (by decide) sEX (pay_of (W' := 0) (rLn8 l hw X0.ext sx z_ SZ hz ts ks y0 y1 y2 y3 y4 y5 y6 y7 sEX sFC sFV sVT) C.hZ (wd hw 123 rfl) (wd hw 33 rfl) (by decide) (by decide)) pd_14 rfl rfl _ rfl (Nat.le_of_eq rfl) d21_14 (by decide) (by decide) (fun T631 X631 => ?_))
  refine g_aloadN C X631 d21_17 rfl rfl (g_virtualP (argsL := []) (st := [(.int 8)]) C X631 (wd hw 119 rfl) (wd hw 120 rfl) (nf_of C (wd hw 122 rfl) rfl rfl) (wd hw 122 rfl) (wd hw 121 rfl) (by decide) xEX (pay_of (W' := 1) (rLn1 l hw X631.ext x z_ SZ hz tx kx (49 : Int32) xEX xFC xFV xVT) C.hZ (wd hw 123 rfl) (wd hw 33 rfl) (by decide) (by decide)) pd_14 rfl rfl _ rfl (Nat.le_of_eq rfl) d21_18 (by decide) (by decide) (fun T632 X632 => ?_))
  refine g_icmpn (hI_ne _ _) C X632 d21_21 (fun _ => ?_) (fun q => absurd q (by decide))
  refine g_iconst 0 C X632 d21_43 rfl ?_
  exact g_retN C X632 (by simp) d21_44 (0 : Int32) rfl (by decide) (by decide) ⟨rfl, rfl⟩
theorem pn_7 : plainName "com/example/synctoken/synctoken/dav/Depth" = true := by first | (simp [plainName, overriddenIn]; done) | decide +kernel
theorem ef_rVal (m : MethodId)  : entryFrame m #[] 0 = mkF m 0 #[] [] := by first | (simp [entryFrame, mkF, argsToLocals, Value.category]; done) | rfl
theorem d20_0 : Dc prog_4_method_1_code 0 (.getstatic 13) 3 3 := by decide +kernel
theorem d20_3 : Dc prog_4_method_1_code 3 (.invokevirtual 17) 3 6 := by decide +kernel
theorem d20_6 : Dc prog_4_method_1_code 6 (.checkcast 18) 3 9 := by decide +kernel
theorem d20_9 : Dc prog_4_method_1_code 9 (.areturn) 1 10 := by decide +kernel
theorem rVal (l : Launch) {Z : State} {a0 : Array Value} (hw : ∀ d ∈ tables_1, d.before a0 Z = true) {h : Heap} (hE : Ext Z.heap h)  (p_1 p_5 p_9 p_13 p_19 p_23 p_29 p_33 p_39 p_43 : Addr) (k_50 k_52 k_54 k_56 : ClassId) (S_3 : Sta Z Z.heap "com/example/synctoken/synctoken/dav/Depth" "ZERO" "Lcom/example/synctoken/synctoken/dav/Depth;" (.ref p_1)) (E_4 : Exa Z Z.heap p_1 "com/example/synctoken/synctoken/dav/Depth") (S_7 : Sta Z Z.heap "com/example/synctoken/synctoken/dav/Depth" "ONE" "Lcom/example/synctoken/synctoken/dav/Depth;" (.ref p_5)) (E_8 : Exa Z Z.heap p_5 "com/example/synctoken/synctoken/dav/Depth") (S_11 : Sta Z Z.heap "com/example/synctoken/synctoken/dav/Depth" "INFINITY" "Lcom/example/synctoken/synctoken/dav/Depth;" (.ref p_9)) (E_12 : Exa Z Z.heap p_9 "com/example/synctoken/synctoken/dav/Depth") (S_15 : Sta Z Z.heap "com/example/synctoken/synctoken/dav/Depth" "$VALUES" "[Lcom/example/synctoken/synctoken/dav/Depth;" (.ref p_13)) (E_18 : Exa Z Z.heap p_13 "[Lcom/example/synctoken/synctoken/dav/Depth;") (F_21 : Fld Z Z.heap p_1 "com/example/synctoken/synctoken/dav/Depth" "value" "Ljava/lang/String;" (.ref p_19)) (E_22 : Exa Z Z.heap p_19 "java/lang/String") (F_25 : Fld Z Z.heap p_19 "java/lang/String" "value" "[B" (.ref p_23)) (F_28 : Fld Z Z.heap p_19 "java/lang/String" "coder" "B" (.int 0)) (F_31 : Fld Z Z.heap p_5 "com/example/synctoken/synctoken/dav/Depth" "value" "Ljava/lang/String;" (.ref p_29)) (E_32 : Exa Z Z.heap p_29 "java/lang/String") (F_35 : Fld Z Z.heap p_29 "java/lang/String" "value" "[B" (.ref p_33)) (F_38 : Fld Z Z.heap p_29 "java/lang/String" "coder" "B" (.int 0)) (F_41 : Fld Z Z.heap p_9 "com/example/synctoken/synctoken/dav/Depth" "value" "Ljava/lang/String;" (.ref p_39)) (E_42 : Exa Z Z.heap p_39 "java/lang/String") (F_45 : Fld Z Z.heap p_39 "java/lang/String" "value" "[B" (.ref p_43)) (F_48 : Fld Z Z.heap p_39 "java/lang/String" "coder" "B" (.int 0)) (V_49 : Arv Z Z.heap p_13 k_50 (.object "com/example/synctoken/synctoken/dav/Depth") 3 [(.ref p_1), (.ref p_5), (.ref p_9)] .null) (V_51 : Arv Z Z.heap p_23 k_52 .byte 1 [(.int 48)] (.int 0)) (V_53 : Arv Z Z.heap p_33 k_54 .byte 1 [(.int 49)] (.int 0)) (V_55 : Arv Z Z.heap p_43 k_56 .byte 8 [(.int 105), (.int 110), (.int 102), (.int 105), (.int 110), (.int 105), (.int 116), (.int 121)] (.int 0)) :
    Con l (⟨"com/example/synctoken/synctoken/dav/Depth", "values", "()[Lcom/example/synctoken/synctoken/dav/Depth;"⟩ : MethodName) prog_4_method_1_code 0 (some (.array (.object "com/example/synctoken/synctoken/dav/Depth"))) [] ({ frames := 1, cells := 1, slots := 3, locals := 14 } : Room) Z #[] h (fun v' h' => ∃ b, v' = some (.ref b) ∧ Z.heap.size ≤ b ∧ h.size ≤ b ∧ Ext h h' ∧ Arv Z h' b k_50 (.object "com/example/synctoken/synctoken/dav/Depth") 3 [(.ref p_1), (.ref p_5), (.ref p_9)] .null) := by
  refine con_of (plainFor_of_name pn_7) hE (fun m => ef_rVal m ) ?_
  intro p e s m below meth c T0 C X0
  have C : Cx p s m meth c Z "com/example/synctoken/synctoken/dav/Depth" "values" prog_4_method_1_code 0 (some (.array (.object "com/example/synctoken/synctoken/dav/Depth"))) := C
  show Goes p e below _ T0 (mkF m 0 #[] [])
  refine g_getstatic (host := "") C X0 (Or.inl (wd hw 100 rfl)) Via.refl S_15 d20_0 (fun T633 X633 => ?_)
  refine g_clone (cap := 3) C X633 (wd hw 102 rfl) (wd hw 103 rfl) (wd hw 107 rfl) (wd hw 105 rfl) (wd hw 106 rfl) (wd hw 108 rfl) (Arv.ext V_49 X633.ext) (Exa.ext X633.ext E_18) rfl d20_3 (by decide) 0 (Nat.le_of_eq rfl) (by decide) (by decide) (by decide) (by decide) (fun T634 h634 b634 g_b634 n_b634 X634 E634 V634 A634 => ?_)
  refine g_checkcast C X634 (wd hw 110 rfl) (Ins.self A634) d20_6 (fun T635 X635 => ?_)
  have sz636 : h.size ≤ b634 := by rw [g_b634]; exact (Keep.refl h []).1
  have kp637 := (Keep.refl h []).ext E634
  exact g_retA C X635 rfl rfl d20_9 (by decide) (by decide) ⟨b634, rfl, n_b634, sz636, keep_ext kp637, V634⟩
theorem ef_rNa1 (m : MethodId) (sx : Addr) : entryFrame m #[(.ref sx)] 5 = mkF m 0 #[.val (.ref sx), .unset, .unset, .unset, .unset] [] := by first | (simp [entryFrame, mkF, argsToLocals, Value.category]; done) | rfl
theorem d19_0 : Dc prog_4_method_5_code 0 (.invokestatic 55) 3 3 := by decide +kernel
theorem pd_17 : parseMethodDescriptor "()[Lcom/example/synctoken/synctoken/dav/Depth;" = some ⟨[], some (.array (.object "com/example/synctoken/synctoken/dav/Depth"))⟩ := by decide +kernel
theorem d19_3 : Dc prog_4_method_5_code 3 (.astore_n 1) 1 4 := by decide +kernel
theorem d19_4 : Dc prog_4_method_5_code 4 (.aload_n 1) 1 5 := by decide +kernel
theorem d19_5 : Dc prog_4_method_5_code 5 (.arraylength) 1 6 := by decide +kernel
theorem d19_6 : Dc prog_4_method_5_code 6 (.istore_n 2) 1 7 := by decide +kernel
theorem d19_7 : Dc prog_4_method_5_code 7 (.iconst 0) 1 8 := by decide +kernel
theorem d19_8 : Dc prog_4_method_5_code 8 (.istore_n 3) 1 9 := by decide +kernel
theorem d19_9 : Dc prog_4_method_5_code 9 (.iload_n 3) 1 10 := by decide +kernel
theorem d19_10 : Dc prog_4_method_5_code 10 (.iload_n 2) 1 11 := by decide +kernel
theorem d19_11 : Dj prog_4_method_5_code 11 (.if_icmp .ge 29) 29 3 14 40 := by decide +kernel
theorem d19_14 : Dc prog_4_method_5_code 14 (.aload_n 1) 1 15 := by decide +kernel
theorem d19_15 : Dc prog_4_method_5_code 15 (.iload_n 3) 1 16 := by decide +kernel
theorem d19_16 : Dc prog_4_method_5_code 16 (.aaload) 1 17 := by decide +kernel
theorem d19_17 : Dc prog_4_method_5_code 17 (.astore 4) 2 19 := by decide +kernel
theorem d19_19 : Dc prog_4_method_5_code 19 (.aload 4) 2 21 := by decide +kernel
theorem d19_21 : Dc prog_4_method_5_code 21 (.getfield 32) 3 24 := by decide +kernel
theorem d19_24 : Dc prog_4_method_5_code 24 (.aload_n 0) 1 25 := by decide +kernel
theorem d19_25 : Dc prog_4_method_5_code 25 (.invokevirtual 59) 3 28 := by decide +kernel
theorem pd_18 : parseMethodDescriptor "(Ljava/lang/String;)Z" = some ⟨[(.object "java/lang/String")], some .boolean⟩ := by decide +kernel
theorem d19_28 : Dj prog_4_method_5_code 28 (.ifCond .eq 6) 6 3 31 34 := by decide +kernel
theorem d19_31 : Dc prog_4_method_5_code 31 (.aload 4) 2 33 := by decide +kernel
theorem d19_33 : Dc prog_4_method_5_code 33 (.areturn) 1 34 := by decide +kernel
theorem rNa1 (l : Launch) {Z : State} {a0 : Array Value} (hw : ∀ d ∈ tables_1, d.before a0 Z = true) {h : Heap} (hE : Ext Z.heap h) (sx : Addr) (p_1 p_5 p_9 p_13 p_19 p_23 p_29 p_33 p_39 p_43 : Addr) (k_50 k_52 k_54 k_56 : ClassId) (z_ : Int32) (SZ : Sta Z Z.heap "java/lang/String" "COMPACT_STRINGS" "Z" (.int z_)) (hz : ¬ z_ = 0) (ts : Addr) (ks : ClassId)  (S_3 : Sta Z Z.heap "com/example/synctoken/synctoken/dav/Depth" "ZERO" "Lcom/example/synctoken/synctoken/dav/Depth;" (.ref p_1)) (E_4 : Exa Z Z.heap p_1 "com/example/synctoken/synctoken/dav/Depth") (S_7 : Sta Z Z.heap "com/example/synctoken/synctoken/dav/Depth" "ONE" "Lcom/example/synctoken/synctoken/dav/Depth;" (.ref p_5)) (E_8 : Exa Z Z.heap p_5 "com/example/synctoken/synctoken/dav/Depth") (S_11 : Sta Z Z.heap "com/example/synctoken/synctoken/dav/Depth" "INFINITY" "Lcom/example/synctoken/synctoken/dav/Depth;" (.ref p_9)) (E_12 : Exa Z Z.heap p_9 "com/example/synctoken/synctoken/dav/Depth") (S_15 : Sta Z Z.heap "com/example/synctoken/synctoken/dav/Depth" "$VALUES" "[Lcom/example/synctoken/synctoken/dav/Depth;" (.ref p_13)) (E_18 : Exa Z Z.heap p_13 "[Lcom/example/synctoken/synctoken/dav/Depth;") (F_21 : Fld Z Z.heap p_1 "com/example/synctoken/synctoken/dav/Depth" "value" "Ljava/lang/String;" (.ref p_19)) (E_22 : Exa Z Z.heap p_19 "java/lang/String") (F_25 : Fld Z Z.heap p_19 "java/lang/String" "value" "[B" (.ref p_23)) (F_28 : Fld Z Z.heap p_19 "java/lang/String" "coder" "B" (.int 0)) (F_31 : Fld Z Z.heap p_5 "com/example/synctoken/synctoken/dav/Depth" "value" "Ljava/lang/String;" (.ref p_29)) (E_32 : Exa Z Z.heap p_29 "java/lang/String") (F_35 : Fld Z Z.heap p_29 "java/lang/String" "value" "[B" (.ref p_33)) (F_38 : Fld Z Z.heap p_29 "java/lang/String" "coder" "B" (.int 0)) (F_41 : Fld Z Z.heap p_9 "com/example/synctoken/synctoken/dav/Depth" "value" "Ljava/lang/String;" (.ref p_39)) (E_42 : Exa Z Z.heap p_39 "java/lang/String") (F_45 : Fld Z Z.heap p_39 "java/lang/String" "value" "[B" (.ref p_43)) (F_48 : Fld Z Z.heap p_39 "java/lang/String" "coder" "B" (.int 0)) (V_49 : Arv Z Z.heap p_13 k_50 (.object "com/example/synctoken/synctoken/dav/Depth") 3 [(.ref p_1), (.ref p_5), (.ref p_9)] .null) (V_51 : Arv Z Z.heap p_23 k_52 .byte 1 [(.int 48)] (.int 0)) (V_53 : Arv Z Z.heap p_33 k_54 .byte 1 [(.int 49)] (.int 0)) (V_55 : Arv Z Z.heap p_43 k_56 .byte 8 [(.int 105), (.int 110), (.int 102), (.int 105), (.int 110), (.int 105), (.int 116), (.int 121)] (.int 0)) (sEX : Exa Z h sx "java/lang/String") (sFC : Fld Z h sx "java/lang/String" "coder" "B" (.int (0 : Int32))) (sFV : Fld Z h sx "java/lang/String" "value" "[B" (.ref ts)) (sVT : Arv Z h ts ks .byte 1 [(.int 48)] (.int (0 : Int32)))  (hs : Z.heap.size ≤ sx) :
    Con l (⟨"com/example/synctoken/synctoken/dav/Depth", "named", "(Ljava/lang/String;)Lcom/example/synctoken/synctoken/dav/Depth;"⟩ : MethodName) prog_4_method_5_code 5 (some (.object "com/example/synctoken/synctoken/dav/Depth")) [] ({ frames := 4, cells := 1, slots := 3, locals := 96 } : Room) Z #[(.ref sx)] h (fun v' h' => v' = some (.ref p_1) ∧ Ext h h') := by
  refine con_of (plainFor_of_name pn_7) hE (fun m => ef_rNa1 m sx) ?_
  intro p e s m below meth c T0 C X0
  have C : Cx p s m meth c Z "com/example/synctoken/synctoken/dav/Depth" "named" prog_4_method_5_code 5 (some (.object "com/example/synctoken/synctoken/dav/Depth")) := C
  show Goes p e below _ T0 (mkF m 0 #[.val (.ref sx), .unset, .unset, .unset, .unset] [])
  refine g_static (argsL := []) (st := []) C X0 (wd hw 97 rfl) (wd hw 98 rfl) (wd hw 2 rfl) (wd hw 99 rfl) (by decide) (pay_of (W' := 0) (rVal l hw X0.ext p_1 p_5 p_9 p_13 p_19 p_23 p_29 p_33 p_39 p_43 k_50 k_52 k_54 k_56 S_3 E_4 S_7 E_8 S_11 E_12 S_15 E_18 F_21 E_22 F_25 F_28 F_31 E_32 F_35 F_38 F_41 E_42 F_45 F_48 V_49 V_51 V_53 V_55) C.hZ (wd hw 99 rfl) (wd hw 2 rfl) (by decide) (by decide)) pd_17 rfl rfl _ rfl (Nat.le_of_eq rfl) d19_0 (by decide) (by decide) (fun T638 h638 v638 q638 X638 => ?_)
  obtain ⟨b638, rfl, n_b638, g638, E638, V638⟩ := q638
  show Goes p e below _ T638 (mkF m 3 #[.val (.ref sx), .unset, .unset, .unset, .unset] [(.ref b638)])
  refine g_astoreN C X638 d19_3 rfl (l' := #[.val (.ref sx), .val (.ref b638), .unset, .unset, .unset]) rfl (g_aloadN C X638 d19_4 rfl rfl (g_arraylength C X638 V638 d19_5 (g_istoreN C X638 d19_6 (l' := #[.val (.ref sx), .val (.ref b638), .val (.int 3), .unset, .unset]) rfl (g_iconst 0 C X638 d19_7 rfl (g_istoreN C X638 d19_8 (l' := #[.val (.ref sx), .val (.ref b638), .val (.int 3), .val (.int 0), .unset]) rfl (g_iloadN C X638 d19_9 rfl (g_iloadN C X638 d19_10 rfl (g_icmpn (hI_ge _ _) C X638 d19_11 (fun q => absurd (by decide) q) (fun _ => ?_)))))))))
  refine g_aloadN C X638 d19_14 rfl rfl (g_iloadN C X638 d19_15 rfl (g_aaload C X638 V638 rfl d19_16 (by decide) (by decide) rfl (g_astore C X638 d19_17 rfl (l' := #[.val (.ref sx), .val (.ref b638), .val (.int 3), .val (.int 0), .val (.ref p_1)]) rfl (g_aload C X638 d19_19 rfl rfl (g_getfield (host := "") C X638 (Or.inl (wd hw 112 rfl)) Via.refl (Fld.ext X638.ext F_21) d19_21 (fun T639 X639 => ?_))))))
  refine g_aloadN C X639 d19_24 rfl rfl ?_
  have ne640 : p_19 ≠ sx := Nat.ne_of_lt (Nat.lt_of_lt_of_le (Exa.lt E_22) hs)
  have f641 := (Exa.ext E638 sEX)
  have f642 := (Fld.ext E638 sFC)
  have f643 := (Fld.ext E638 sFV)
  have f644 := (Arv.ext sVT E638)
  refine g_virtualP (argsL := [(.ref sx)]) (st := []) C X639 (wd hw 114 rfl) (wd hw 115 rfl) (nf_of C (wd hw 117 rfl) rfl rfl) (wd hw 117 rfl) (wd hw 116 rfl) (by decide) (Exa.ext X639.ext E_22) (pay_of (W' := 0) (rEqa l hw X639.ext p_19 sx z_ SZ hz p_23 k_52 ts ks  (Exa.ext X639.ext E_22) (Fld.ext X639.ext F_28) (Fld.ext X639.ext F_25) (Arv.ext V_51 X639.ext) f641 f642 f643 f644  ne640) C.hZ (wd hw 118 rfl) (wd hw 33 rfl) (by decide) (by decide)) pd_18 rfl rfl _ rfl (Nat.le_of_eq rfl) d19_25 (by decide) (by decide) (fun T645 X645 => ?_)
  refine g_if (h0_eq _) C X645 d19_28 (fun q => absurd q (by decide)) (fun _ => ?_)
  refine g_aload C X645 d19_31 rfl rfl ?_
  have kp646 := (Keep.refl h []).ext E638
  exact g_retA C X645 rfl rfl d19_33 (by decide) (by decide) ⟨rfl, keep_ext kp646⟩
theorem ef_rNa2 (m : MethodId) (sx : Addr) : entryFrame m #[(.ref sx)] 5 = mkF m 0 #[.val (.ref sx), .unset, .unset, .unset, .unset] [] := by first | (simp [entryFrame, mkF, argsToLocals, Value.category]; done) | rfl
theorem d19_34 : Dc prog_4_method_5_code 34 (.iinc 3 1) 3 37 := by decide +kernel
theorem d19_37 : Dj prog_4_method_5_code 37 (.goto (-28)) (-28) 3 40 9 := by decide +kernel
theorem rNa2 (l : Launch) {Z : State} {a0 : Array Value} (hw : ∀ d ∈ tables_1, d.before a0 Z = true) {h : Heap} (hE : Ext Z.heap h) (sx : Addr) (p_1 p_5 p_9 p_13 p_19 p_23 p_29 p_33 p_39 p_43 : Addr) (k_50 k_52 k_54 k_56 : ClassId) (z_ : Int32) (SZ : Sta Z Z.heap "java/lang/String" "COMPACT_STRINGS" "Z" (.int z_)) (hz : ¬ z_ = 0) (ts : Addr) (ks : ClassId)  (S_3 : Sta Z Z.heap "com/example/synctoken/synctoken/dav/Depth" "ZERO" "Lcom/example/synctoken/synctoken/dav/Depth;" (.ref p_1)) (E_4 : Exa Z Z.heap p_1 "com/example/synctoken/synctoken/dav/Depth") (S_7 : Sta Z Z.heap "com/example/synctoken/synctoken/dav/Depth" "ONE" "Lcom/example/synctoken/synctoken/dav/Depth;" (.ref p_5)) (E_8 : Exa Z Z.heap p_5 "com/example/synctoken/synctoken/dav/Depth") (S_11 : Sta Z Z.heap "com/example/synctoken/synctoken/dav/Depth" "INFINITY" "Lcom/example/synctoken/synctoken/dav/Depth;" (.ref p_9)) (E_12 : Exa Z Z.heap p_9 "com/example/synctoken/synctoken/dav/Depth") (S_15 : Sta Z Z.heap "com/example/synctoken/synctoken/dav/Depth" "$VALUES" "[Lcom/example/synctoken/synctoken/dav/Depth;" (.ref p_13)) (E_18 : Exa Z Z.heap p_13 "[Lcom/example/synctoken/synctoken/dav/Depth;") (F_21 : Fld Z Z.heap p_1 "com/example/synctoken/synctoken/dav/Depth" "value" "Ljava/lang/String;" (.ref p_19)) (E_22 : Exa Z Z.heap p_19 "java/lang/String") (F_25 : Fld Z Z.heap p_19 "java/lang/String" "value" "[B" (.ref p_23)) (F_28 : Fld Z Z.heap p_19 "java/lang/String" "coder" "B" (.int 0)) (F_31 : Fld Z Z.heap p_5 "com/example/synctoken/synctoken/dav/Depth" "value" "Ljava/lang/String;" (.ref p_29)) (E_32 : Exa Z Z.heap p_29 "java/lang/String") (F_35 : Fld Z Z.heap p_29 "java/lang/String" "value" "[B" (.ref p_33)) (F_38 : Fld Z Z.heap p_29 "java/lang/String" "coder" "B" (.int 0)) (F_41 : Fld Z Z.heap p_9 "com/example/synctoken/synctoken/dav/Depth" "value" "Ljava/lang/String;" (.ref p_39)) (E_42 : Exa Z Z.heap p_39 "java/lang/String") (F_45 : Fld Z Z.heap p_39 "java/lang/String" "value" "[B" (.ref p_43)) (F_48 : Fld Z Z.heap p_39 "java/lang/String" "coder" "B" (.int 0)) (V_49 : Arv Z Z.heap p_13 k_50 (.object "com/example/synctoken/synctoken/dav/Depth") 3 [(.ref p_1), (.ref p_5), (.ref p_9)] .null) (V_51 : Arv Z Z.heap p_23 k_52 .byte 1 [(.int 48)] (.int 0)) (V_53 : Arv Z Z.heap p_33 k_54 .byte 1 [(.int 49)] (.int 0)) (V_55 : Arv Z Z.heap p_43 k_56 .byte 8 [(.int 105), (.int 110), (.int 102), (.int 105), (.int 110), (.int 105), (.int 116), (.int 121)] (.int 0)) (sEX : Exa Z h sx "java/lang/String") (sFC : Fld Z h sx "java/lang/String" "coder" "B" (.int (0 : Int32))) (sFV : Fld Z h sx "java/lang/String" "value" "[B" (.ref ts)) (sVT : Arv Z h ts ks .byte 1 [(.int 49)] (.int (0 : Int32)))  (hs : Z.heap.size ≤ sx) :
    Con l (⟨"com/example/synctoken/synctoken/dav/Depth", "named", "(Ljava/lang/String;)Lcom/example/synctoken/synctoken/dav/Depth;"⟩ : MethodName) prog_4_method_5_code 5 (some (.object "com/example/synctoken/synctoken/dav/Depth")) [] ({ frames := 4, cells := 1, slots := 3, locals := 96 } : Room) Z #[(.ref sx)] h (fun v' h' => v' = some (.ref p_5) ∧ Ext h h') := by
  refine con_of (plainFor_of_name pn_7) hE (fun m => ef_rNa2 m sx) ?_
  intro p e s m below meth c T0 C X0
  have C : Cx p s m meth c Z "com/example/synctoken/synctoken/dav/Depth" "named" prog_4_method_5_code 5 (some (.object "com/example/synctoken/synctoken/dav/Depth")) := C
  show Goes p e below _ T0 (mkF m 0 #[.val (.ref sx), .unset, .unset, .unset, .unset] [])
  refine g_static (argsL := []) (st := []) C X0 (wd hw 97 rfl) (wd hw 98 rfl) (wd hw 2 rfl) (wd hw 99 rfl) (by decide) (pay_of (W' := 0) (rVal l hw X0.ext p_1 p_5 p_9 p_13 p_19 p_23 p_29 p_33 p_39 p_43 k_50 k_52 k_54 k_56 S_3 E_4 S_7 E_8 S_11 E_12 S_15 E_18 F_21 E_22 F_25 F_28 F_31 E_32 F_35 F_38 F_41 E_42 F_45 F_48 V_49 V_51 V_53 V_55) C.hZ (wd hw 99 rfl) (wd hw 2 rfl) (by decide) (by decide)) pd_17 rfl rfl _ rfl (Nat.le_of_eq rfl) d19_0 (by decide) (by decide) (fun T647 h647 v647 q647 X647 => ?_)
  obtain ⟨b647, rfl, n_b647, g647, E647, V647⟩ := q647
  show Goes p e below _ T647 (mkF m 3 #[.val (.ref sx), .unset, .unset, .unset, .unset] [(.ref b647)])
  refine g_astoreN C X647 d19_3 rfl (l' := #[.val (.ref sx), .val (.ref b647), .unset, .unset, .unset]) rfl (g_aloadN C X647 d19_4 rfl rfl (g_arraylength C X647 V647 d19_5 (g_istoreN C X647 d19_6 (l' := #[.val (.ref sx), .val (.ref b647), .val (.int 3), .unset, .unset]) rfl (g_iconst 0 C X647 d19_7 rfl (g_istoreN C X647 d19_8 (l' := #[.val (.ref sx), .val (.ref b647), .val (.int 3), .val (.int 0), .unset]) rfl (g_iloadN C X647 d19_9 rfl (g_iloadN C X647 d19_10 rfl (g_icmpn (hI_ge _ _) C X647 d19_11 (fun q => absurd (by decide) q) (fun _ => ?_)))))))))
  refine g_aloadN C X647 d19_14 rfl rfl (g_iloadN C X647 d19_15 rfl (g_aaload C X647 V647 rfl d19_16 (by decide) (by decide) rfl (g_astore C X647 d19_17 rfl (l' := #[.val (.ref sx), .val (.ref b647), .val (.int 3), .val (.int 0), .val (.ref p_1)]) rfl (g_aload C X647 d19_19 rfl rfl (g_getfield (host := "") C X647 (Or.inl (wd hw 112 rfl)) Via.refl (Fld.ext X647.ext F_21) d19_21 (fun T648 X648 => ?_))))))
  refine g_aloadN C X648 d19_24 rfl rfl ?_
  have ne649 : p_19 ≠ sx := Nat.ne_of_lt (Nat.lt_of_lt_of_le (Exa.lt E_22) hs)
  have f650 := (Exa.ext E647 sEX)
  have f651 := (Fld.ext E647 sFC)
  have f652 := (Fld.ext E647 sFV)
  have f653 := (Arv.ext sVT E647)
  refine g_virtualP (argsL := [(.ref sx)]) (st := []) C X648 (wd hw 114 rfl) (wd hw 115 rfl) (nf_of C (wd hw 117 rfl) rfl rfl) (wd hw 117 rfl) (wd hw 116 rfl) (by decide) (Exa.ext X648.ext E_22) (pay_of (W' := 0) (rEqb l hw X648.ext p_19 sx z_ SZ hz p_23 k_52 ts ks  (Exa.ext X648.ext E_22) (Fld.ext X648.ext F_28) (Fld.ext X648.ext F_25) (Arv.ext V_51 X648.ext) f650 f651 f652 f653  ne649) C.hZ (wd hw 118 rfl) (wd hw 33 rfl) (by decide) (by decide)) pd_18 rfl rfl _ rfl (Nat.le_of_eq rfl) d19_25 (by decide) (by decide) (fun T654 X654 => ?_)
  refine g_if (h0_eq _) C X654 d19_28 (fun _ => ?_) (fun q => absurd (by decide) q)
  refine g_iinc 1 C X654 d19_34 rfl rfl (l' := #[.val (.ref sx), .val (.ref b647), .val (.int 3), .val (.int 1), .val (.ref p_1)]) rfl (g_goto C X654 d19_37 (g_iloadN C X654 d19_9 rfl (g_iloadN C X654 d19_10 rfl (g_icmpn (hI_ge _ _) C X654 d19_11 (fun q => absurd (by decide) q) (fun _ => ?_)))))
  refine g_aloadN C X654 d19_14 rfl rfl (g_iloadN C X654 d19_15 rfl (g_aaload C X654 V647 rfl d19_16 (by decide) (by decide) rfl (g_astore C X654 d19_17 rfl (l' := #[.val (.ref sx), .val (.ref b647), .val (.int 3), .val (.int 1), .val (.ref p_5)]) rfl (g_aload C X654 d19_19 rfl rfl (g_getfield (host := "") C X654 (Or.inl (wd hw 112 rfl)) Via.refl (Fld.ext X654.ext F_31) d19_21 (fun T655 X655 => ?_))))))
  refine g_aloadN C X655 d19_24 rfl rfl ?_
  have ne656 : p_29 ≠ sx := Nat.ne_of_lt (Nat.lt_of_lt_of_le (Exa.lt E_32) hs)
  refine g_virtualP (argsL := [(.ref sx)]) (st := []) C X655 (wd hw 114 rfl) (wd hw 115 rfl) (nf_of C (wd hw 117 rfl) rfl rfl) (wd hw 117 rfl) (wd hw 116 rfl) (by decide) (Exa.ext X655.ext E_32) (pay_of (W' := 0) (rEqc l hw X655.ext p_29 sx z_ SZ hz p_33 k_54 ts ks  (Exa.ext X655.ext E_32) (Fld.ext X655.ext F_38) (Fld.ext X655.ext F_35) (Arv.ext V_53 X655.ext) f650 f651 f652 f653  ne656) C.hZ (wd hw 118 rfl) (wd hw 33 rfl) (by decide) (by decide)) pd_18 rfl rfl _ rfl (Nat.le_of_eq rfl) d19_25 (by decide) (by decide) (fun T657 X657 => ?_)
  refine g_if (h0_eq _) C X657 d19_28 (fun q => absurd q (by decide)) (fun _ => ?_)
  refine g_aload C X657 d19_31 rfl rfl ?_
  have kp658 := (Keep.refl h []).ext E647
  exact g_retA C X657 rfl rfl d19_33 (by decide) (by decide) ⟨rfl, keep_ext kp658⟩
theorem ef_rNa3 (m : MethodId) (sx : Addr) : entryFrame m #[(.ref sx)] 5 = mkF m 0 #[.val (.ref sx), .unset, .unset, .unset, .unset] [] := by first | (simp [entryFrame, mkF, argsToLocals, Value.category]; done) | rfl
theorem rNa3 (l : Launch) {Z : State} {a0 : Array Value} (hw : ∀ d ∈ tables_1, d.before a0 Z = true) {h : Heap} (hE : Ext Z.heap h) (sx : Addr) (p_1 p_5 p_9 p_13 p_19 p_23 p_29 p_33 p_39 p_43 : Addr) (k_50 k_52 k_54 k_56 : ClassId) (z_ : Int32) (SZ : Sta Z Z.heap "java/lang/String" "COMPACT_STRINGS" "Z" (.int z_)) (hz : ¬ z_ = 0) (ts : Addr) (ks : ClassId) (y0 y1 y2 y3 y4 y5 y6 y7 : Int32) (S_3 : Sta Z Z.heap "com/example/synctoken/synctoken/dav/Depth" "ZERO" "Lcom/example/synctoken/synctoken/dav/Depth;" (.ref p_1)) (E_4 : Exa Z Z.heap p_1 "com/example/synctoken/synctoken/dav/Depth") (S_7 : Sta Z Z.heap "com/example/synctoken/synctoken/dav/Depth" "ONE" "Lcom/example/synctoken/synctoken/dav/Depth;" (.ref p_5)) (E_8 : Exa Z Z.heap p_5 "com/example/synctoken/synctoken/dav/Depth") (S_11 : Sta Z Z.heap "com/example/synctoken/synctoken/dav/Depth" "INFINITY" "Lcom/example/synctoken/synctoken/dav/Depth;" (.ref p_9)) (E_12 : Exa Z Z.heap p_9 "com/example/synctoken/synctoken/dav/Depth") (S_15 : Sta Z Z.heap "com/example/synctoken/synctoken/dav/Depth" "$VALUES" "[Lcom/example/synctoken/synctoken/dav/Depth;" (.ref p_13)) (E_18 : Exa Z Z.heap p_13 "[Lcom/example/synctoken/synctoken/dav/Depth;") (F_21 : Fld Z Z.heap p_1 "com/example/synctoken/synctoken/dav/Depth" "value" "Ljava/lang/String;" (.ref p_19)) (E_22 : Exa Z Z.heap p_19 "java/lang/String") (F_25 : Fld Z Z.heap p_19 "java/lang/String" "value" "[B" (.ref p_23)) (F_28 : Fld Z Z.heap p_19 "java/lang/String" "coder" "B" (.int 0)) (F_31 : Fld Z Z.heap p_5 "com/example/synctoken/synctoken/dav/Depth" "value" "Ljava/lang/String;" (.ref p_29)) (E_32 : Exa Z Z.heap p_29 "java/lang/String") (F_35 : Fld Z Z.heap p_29 "java/lang/String" "value" "[B" (.ref p_33)) (F_38 : Fld Z Z.heap p_29 "java/lang/String" "coder" "B" (.int 0)) (F_41 : Fld Z Z.heap p_9 "com/example/synctoken/synctoken/dav/Depth" "value" "Ljava/lang/String;" (.ref p_39)) (E_42 : Exa Z Z.heap p_39 "java/lang/String") (F_45 : Fld Z Z.heap p_39 "java/lang/String" "value" "[B" (.ref p_43)) (F_48 : Fld Z Z.heap p_39 "java/lang/String" "coder" "B" (.int 0)) (V_49 : Arv Z Z.heap p_13 k_50 (.object "com/example/synctoken/synctoken/dav/Depth") 3 [(.ref p_1), (.ref p_5), (.ref p_9)] .null) (V_51 : Arv Z Z.heap p_23 k_52 .byte 1 [(.int 48)] (.int 0)) (V_53 : Arv Z Z.heap p_33 k_54 .byte 1 [(.int 49)] (.int 0)) (V_55 : Arv Z Z.heap p_43 k_56 .byte 8 [(.int 105), (.int 110), (.int 102), (.int 105), (.int 110), (.int 105), (.int 116), (.int 121)] (.int 0)) (sEX : Exa Z h sx "java/lang/String") (sFC : Fld Z h sx "java/lang/String" "coder" "B" (.int (0 : Int32))) (sFV : Fld Z h sx "java/lang/String" "value" "[B" (.ref ts)) (sVT : Arv Z h ts ks .byte 8 [(.int y0), (.int y1), (.int y2), (.int y3), (.int y4), (.int y5), (.int y6), (.int y7)] (.int (0 : Int32))) (l0 : (y0 = (105 : Int32) ∨ y0 = (73 : Int32))) (l1 : (y1 = (110 : Int32) ∨ y1 = (78 : Int32))) (l2 : (y2 = (102 : Int32) ∨ y2 = (70 : Int32))) (l3 : (y3 = (105 : Int32) ∨ y3 = (73 : Int32))) (l4 : (y4 = (110 : Int32) ∨ y4 = (78 : Int32))) (l5 : (y5 = (105 : Int32) ∨ y5 = (73 : Int32))) (l6 : (y6 = (116 : Int32) ∨ y6 = (84 : Int32))) (l7 : (y7 = (121 : Int32) ∨ y7 = (89 : Int32))) (hs : Z.heap.size ≤ sx) :
    Con l (⟨"com/example/synctoken/synctoken/dav/Depth", "named", "(Ljava/lang/String;)Lcom/example/synctoken/synctoken/dav/Depth;"⟩ : MethodName) prog_4_method_5_code 5 (some (.object "com/example/synctoken/synctoken/dav/Depth")) [] ({ frames := 4, cells := 1, slots := 3, locals := 96 } : Room) Z #[(.ref sx)] h (fun v' h' => v' = some (.ref p_9) ∧ Ext h h') := by
  refine con_of (plainFor_of_name pn_7) hE (fun m => ef_rNa3 m sx) ?_
  intro p e s m below meth c T0 C X0
  have C : Cx p s m meth c Z "com/example/synctoken/synctoken/dav/Depth" "named" prog_4_method_5_code 5 (some (.object "com/example/synctoken/synctoken/dav/Depth")) := C
  show Goes p e below _ T0 (mkF m 0 #[.val (.ref sx), .unset, .unset, .unset, .unset] [])
  refine g_static (argsL := []) (st := []) C X0 (wd hw 97 rfl) (wd hw 98 rfl) (wd hw 2 rfl) (wd hw 99 rfl) (by decide) (pay_of (W' := 0) (rVal l hw X0.ext p_1 p_5 p_9 p_13 p_19 p_23 p_29 p_33 p_39 p_43 k_50 k_52 k_54 k_56 S_3 E_4 S_7 E_8 S_11 E_12 S_15 E_18 F_21 E_22 F_25 F_28 F_31 E_32 F_35 F_38 F_41 E_42 F_45 F_48 V_49 V_51 V_53 V_55) C.hZ (wd hw 99 rfl) (wd hw 2 rfl) (by decide) (by decide)) pd_17 rfl rfl _ rfl (Nat.le_of_eq rfl) d19_0 (by decide) (by decide) (fun T659 h659 v659 q659 X659 => ?_)
  obtain ⟨b659, rfl, n_b659, g659, E659, V659⟩ := q659
  show Goes p e below _ T659 (mkF m 3 #[.val (.ref sx), .unset, .unset, .unset, .unset] [(.ref b659)])
  refine g_astoreN C X659 d19_3 rfl (l' := #[.val (.ref sx), .val (.ref b659), .unset, .unset, .unset]) rfl (g_aloadN C X659 d19_4 rfl rfl (g_arraylength C X659 V659 d19_5 (g_istoreN C X659 d19_6 (l' := #[.val (.ref sx), .val (.ref b659), .val (.int 3), .unset, .unset]) rfl (g_iconst 0 C X659 d19_7 rfl (g_istoreN C X659 d19_8 (l' := #[.val (.ref sx), .val (.ref b659), .val (.int 3), .val (.int 0), .unset]) rfl (g_iloadN C X659 d19_9 rfl (g_iloadN C X659 d19_10 rfl (g_icmpn (hI_ge _ _) C X659 d19_11 (fun q => absurd (by decide) q) (fun _ => ?_)))))))))
  refine g_aloadN C X659 d19_14 rfl rfl (g_iloadN C X659 d19_15 rfl (g_aaload C X659 V659 rfl d19_16 (by decide) (by decide) rfl (g_astore C X659 d19_17 rfl (l' := #[.val (.ref sx), .val (.ref b659), .val (.int 3), .val (.int 0), .val (.ref p_1)]) rfl (g_aload C X659 d19_19 rfl rfl (g_getfield (host := "") C X659 (Or.inl (wd hw 112 rfl)) Via.refl (Fld.ext X659.ext F_21) d19_21 (fun T660 X660 => ?_))))))
  refine g_aloadN C X660 d19_24 rfl rfl ?_
  have ne661 : p_19 ≠ sx := Nat.ne_of_lt (Nat.lt_of_lt_of_le (Exa.lt E_22) hs)
  have f662 := (Exa.ext E659 sEX)
  have f663 := (Fld.ext E659 sFC)
  have f664 := (Fld.ext E659 sFV)
  have f665 := (Arv.ext sVT E659)
  refine g_virtualP (argsL := [(.ref sx)]) (st := []) C X660 (wd hw 114 rfl) (wd hw 115 rfl) (nf_of C (wd hw 117 rfl) rfl rfl) (wd hw 117 rfl) (wd hw 116 rfl) (by decide) (Exa.ext X660.ext E_22) (pay_of (W' := 0) (rEqe l hw X660.ext p_19 sx z_ SZ hz p_23 k_52 ts ks y0 y1 y2 y3 y4 y5 y6 y7 (Exa.ext X660.ext E_22) (Fld.ext X660.ext F_28) (Fld.ext X660.ext F_25) (Arv.ext V_51 X660.ext) f662 f663 f664 f665 l0 l1 l2 l3 l4 l5 l6 l7 ne661) C.hZ (wd hw 118 rfl) (wd hw 33 rfl) (by decide) (by decide)) pd_18 rfl rfl _ rfl (Nat.le_of_eq rfl) d19_25 (by decide) (by decide) (fun T666 X666 => ?_)
  refine g_if (h0_eq _) C X666 d19_28 (fun _ => ?_) (fun q => absurd (by decide) q)
  refine g_iinc 1 C X666 d19_34 rfl rfl (l' := #[.val (.ref sx), .val (.ref b659), .val (.int 3), .val (.int 1), .val (.ref p_1)]) rfl (g_goto C X666 d19_37 (g_iloadN C X666 d19_9 rfl (g_iloadN C X666 d19_10 rfl (g_icmpn (hI_ge _ _) C X666 d19_11 (fun q => absurd (by decide) q) (fun _ => ?_)))))
  refine g_aloadN C X666 d19_14 rfl rfl (g_iloadN C X666 d19_15 rfl (g_aaload C X666 V659 rfl d19_16 (by decide) (by decide) rfl (g_astore C X666 d19_17 rfl (l' := #[.val (.ref sx), .val (.ref b659), .val (.int 3), .val (.int 1), .val (.ref p_5)]) rfl (g_aload C X666 d19_19 rfl rfl (g_getfield (host := "") C X666 (Or.inl (wd hw 112 rfl)) Via.refl (Fld.ext X666.ext F_31) d19_21 (fun T667 X667 => ?_))))))
  refine g_aloadN C X667 d19_24 rfl rfl ?_
  have ne668 : p_29 ≠ sx := Nat.ne_of_lt (Nat.lt_of_lt_of_le (Exa.lt E_32) hs)
  refine g_virtualP (argsL := [(.ref sx)]) (st := []) C X667 (wd hw 114 rfl) (wd hw 115 rfl) (nf_of C (wd hw 117 rfl) rfl rfl) (wd hw 117 rfl) (wd hw 116 rfl) (by decide) (Exa.ext X667.ext E_32) (pay_of (W' := 0) (rEqf l hw X667.ext p_29 sx z_ SZ hz p_33 k_54 ts ks y0 y1 y2 y3 y4 y5 y6 y7 (Exa.ext X667.ext E_32) (Fld.ext X667.ext F_38) (Fld.ext X667.ext F_35) (Arv.ext V_53 X667.ext) f662 f663 f664 f665 l0 l1 l2 l3 l4 l5 l6 l7 ne668) C.hZ (wd hw 118 rfl) (wd hw 33 rfl) (by decide) (by decide)) pd_18 rfl rfl _ rfl (Nat.le_of_eq rfl) d19_25 (by decide) (by decide) (fun T669 X669 => ?_)
  refine g_if (h0_eq _) C X669 d19_28 (fun _ => ?_) (fun q => absurd (by decide) q)
  refine g_iinc 1 C X669 d19_34 rfl rfl (l' := #[.val (.ref sx), .val (.ref b659), .val (.int 3), .val (.int 2), .val (.ref p_5)]) rfl (g_goto C X669 d19_37 (g_iloadN C X669 d19_9 rfl (g_iloadN C X669 d19_10 rfl (g_icmpn (hI_ge _ _) C X669 d19_11 (fun q => absurd (by decide) q) (fun _ => ?_)))))
  refine g_aloadN C X669 d19_14 rfl rfl (g_iloadN C X669 d19_15 rfl (g_aaload C X669 V659 rfl d19_16 (by decide) (by decide) rfl (g_astore C X669 d19_17 rfl (l' := #[.val (.ref sx), .val (.ref b659), .val (.int 3), .val (.int 2), .val (.ref p_9)]) rfl (g_aload C X669 d19_19 rfl rfl (g_getfield (host := "") C X669 (Or.inl (wd hw 112 rfl)) Via.refl (Fld.ext X669.ext F_41) d19_21 (fun T670 X670 => ?_))))))
  refine g_aloadN C X670 d19_24 rfl rfl ?_
  have ne671 : p_39 ≠ sx := Nat.ne_of_lt (Nat.lt_of_lt_of_le (Exa.lt E_42) hs)
  refine g_virtualP (argsL := [(.ref sx)]) (st := []) C X670 (wd hw 114 rfl) (wd hw 115 rfl) (nf_of C (wd hw 117 rfl) rfl rfl) (wd hw 117 rfl) (wd hw 116 rfl) (by decide) (Exa.ext X670.ext E_42) (pay_of (W' := 0) (rEqd l hw X670.ext p_39 sx z_ SZ hz p_43 k_56 ts ks y0 y1 y2 y3 y4 y5 y6 y7 (Exa.ext X670.ext E_42) (Fld.ext X670.ext F_48) (Fld.ext X670.ext F_45) (Arv.ext V_55 X670.ext) f662 f663 f664 f665 l0 l1 l2 l3 l4 l5 l6 l7 ne671) C.hZ (wd hw 118 rfl) (wd hw 33 rfl) (by decide) (by decide)) pd_18 rfl rfl _ rfl (Nat.le_of_eq rfl) d19_25 (by decide) (by decide) (fun T672 X672 => ?_)
  refine g_if (h0_eq _) C X672 d19_28 (fun q => absurd q (by decide)) (fun _ => ?_)
  refine g_aload C X672 d19_31 rfl rfl ?_
  have kp673 := (Keep.refl h []).ext E659
  exact g_retA C X672 rfl rfl d19_33 (by decide) (by decide) ⟨rfl, keep_ext kp673⟩
theorem ef_rPa0 (m : MethodId) (oe : Addr) (ab : Addr) : entryFrame m #[(.ref oe), (.ref ab)] 3 = mkF m 0 #[.val (.ref oe), .val (.ref ab), .unset] [] := by first | (simp [entryFrame, mkF, argsToLocals, Value.category]; done) | rfl
theorem d2_0 : Dc prog_4_method_4_code 0 (.aload_n 1) 1 1 := by decide +kernel
theorem d2_1 : Dc prog_4_method_4_code 1 (.astore_n 2) 1 2 := by decide +kernel
theorem d2_2 : Dc prog_4_method_4_code 2 (.aload_n 0) 1 3 := by decide +kernel
theorem d2_3 : Dc prog_4_method_4_code 3 (.invokevirtual 36) 3 6 := by decide +kernel
theorem d2_6 : Dj prog_4_method_4_code 6 (.ifCond .eq 17) 17 3 9 23 := by decide +kernel
theorem d2_23 : Dc prog_4_method_4_code 23 (.aload_n 2) 1 24 := by decide +kernel
theorem d2_24 : Dc prog_4_method_4_code 24 (.areturn) 1 25 := by decide +kernel
theorem rPa0 (l : Launch) {Z : State} {a0 : Array Value} (hw : ∀ d ∈ tables_1, d.before a0 Z = true) {h : Heap} (hE : Ext Z.heap h) (oe : Addr) (ab : Addr) (SE : Sta Z Z.heap "java/util/Optional" "EMPTY" "Ljava/util/Optional;" (.ref oe)) (EE : Exa Z Z.heap oe "java/util/Optional") (FE : Fld Z Z.heap oe "java/util/Optional" "value" "Ljava/lang/Object;" .null)  :
    Con l (⟨"com/example/synctoken/synctoken/dav/Depth", "parse", "(Ljava/util/Optional;Lcom/example/synctoken/synctoken/dav/Depth;)Lcom/example/synctoken/synctoken/dav/Depth;"⟩ : MethodName) prog_4_method_4_code 3 (some (.object "com/example/synctoken/synctoken/dav/Depth")) [] ({ frames := 2, cells := 0, slots := 0, locals := 48 } : Room) Z #[(.ref oe), (.ref ab)] h (fun v' h' => v' = some (.ref ab) ∧ h' = h) := by
  refine con_of (plainFor_of_name pn_7) hE (fun m => ef_rPa0 m oe ab) ?_
  intro p e s m below meth c T0 C X0
  have C : Cx p s m meth c Z "com/example/synctoken/synctoken/dav/Depth" "parse" prog_4_method_4_code 3 (some (.object "com/example/synctoken/synctoken/dav/Depth")) := C
  show Goes p e below _ T0 (mkF m 0 #[.val (.ref oe), .val (.ref ab), .unset] [])
  refine g_aloadN C X0 d2_0 rfl rfl (g_astoreN C X0 d2_1 rfl (l' := #[.val (.ref oe), .val (.ref ab), .val (.ref ab)]) rfl (g_aloadN C X0 d2_2 rfl rfl (g_virtualP (argsL := []) (st := []) C X0 (wd hw 12 rfl) (wd hw 13 rfl) (nf_of C (wd hw 15 rfl) rfl rfl) (wd hw 15 rfl) (wd hw 14 rfl) (by decide) (Exa.ext X0.ext EE) (pay_of (W' := 0) (rIsN l hw X0.ext oe (Fld.ext X0.ext FE)) C.hZ (wd hw 16 rfl) (wd hw 6 rfl) (by decide) (by decide)) pd_11 rfl rfl _ rfl (Nat.le_of_eq rfl) d2_3 (by decide) (by decide) (fun T674 X674 => ?_))))
  refine g_if (h0_eq _) C X674 d2_6 (fun _ => ?_) (fun q => absurd (by decide) q)
  refine g_aloadN C X674 d2_23 rfl rfl ?_
  exact g_retA C X674 rfl rfl d2_24 (by decide) (by decide) ⟨rfl, rfl⟩
theorem ef_rPa100 (m : MethodId) (op_ : Addr) (ab : Addr) : entryFrame m #[(.ref op_), (.ref ab)] 3 = mkF m 0 #[.val (.ref op_), .val (.ref ab), .unset] [] := by first | (simp [entryFrame, mkF, argsToLocals, Value.category]; done) | rfl
theorem d2_9 : Dc prog_4_method_4_code 9 (.aload_n 0) 1 10 := by decide +kernel
theorem d2_10 : Dc prog_4_method_4_code 10 (.invokevirtual 42) 3 13 := by decide +kernel
theorem pd_19 : parseMethodDescriptor "()Ljava/lang/Object;" = some ⟨[], some (.object "java/lang/Object")⟩ := by decide +kernel
theorem d2_13 : Dc prog_4_method_4_code 13 (.checkcast 45) 3 16 := by decide +kernel
theorem d2_16 : Dc prog_4_method_4_code 16 (.invokevirtual 47) 3 19 := by decide +kernel
theorem pd_20 : parseMethodDescriptor "()Ljava/lang/String;" = some ⟨[], some (.object "java/lang/String")⟩ := by decide +kernel
theorem d2_19 : Dc prog_4_method_4_code 19 (.invokestatic 51) 3 22 := by decide +kernel
theorem pd_21 : parseMethodDescriptor "(Ljava/lang/String;)Lcom/example/synctoken/synctoken/dav/Depth;" = some ⟨[(.object "java/lang/String")], some (.object "com/example/synctoken/synctoken/dav/Depth")⟩ := by decide +kernel
theorem d2_22 : Dc prog_4_method_4_code 22 (.astore_n 2) 1 23 := by decide +kernel
theorem rPa100 (l : Launch) {Z : State} {a0 : Array Value} (hw : ∀ d ∈ tables_1, d.before a0 Z = true) {h : Heap} (hE : Ext Z.heap h) (op_ : Addr) (ab : Addr) (x : Addr) (p_1 p_5 p_9 p_13 p_19 p_23 p_29 p_33 p_39 p_43 : Addr) (k_50 k_52 k_54 k_56 : ClassId) (z_ : Int32) (SZ : Sta Z Z.heap "java/lang/String" "COMPACT_STRINGS" "Z" (.int z_)) (hz : ¬ z_ = 0) (t : Addr) (kt : ClassId)  (S_3 : Sta Z Z.heap "com/example/synctoken/synctoken/dav/Depth" "ZERO" "Lcom/example/synctoken/synctoken/dav/Depth;" (.ref p_1)) (E_4 : Exa Z Z.heap p_1 "com/example/synctoken/synctoken/dav/Depth") (S_7 : Sta Z Z.heap "com/example/synctoken/synctoken/dav/Depth" "ONE" "Lcom/example/synctoken/synctoken/dav/Depth;" (.ref p_5)) (E_8 : Exa Z Z.heap p_5 "com/example/synctoken/synctoken/dav/Depth") (S_11 : Sta Z Z.heap "com/example/synctoken/synctoken/dav/Depth" "INFINITY" "Lcom/example/synctoken/synctoken/dav/Depth;" (.ref p_9)) (E_12 : Exa Z Z.heap p_9 "com/example/synctoken/synctoken/dav/Depth") (S_15 : Sta Z Z.heap "com/example/synctoken/synctoken/dav/Depth" "$VALUES" "[Lcom/example/synctoken/synctoken/dav/Depth;" (.ref p_13)) (E_18 : Exa Z Z.heap p_13 "[Lcom/example/synctoken/synctoken/dav/Depth;") (F_21 : Fld Z Z.heap p_1 "com/example/synctoken/synctoken/dav/Depth" "value" "Ljava/lang/String;" (.ref p_19)) (E_22 : Exa Z Z.heap p_19 "java/lang/String") (F_25 : Fld Z Z.heap p_19 "java/lang/String" "value" "[B" (.ref p_23)) (F_28 : Fld Z Z.heap p_19 "java/lang/String" "coder" "B" (.int 0)) (F_31 : Fld Z Z.heap p_5 "com/example/synctoken/synctoken/dav/Depth" "value" "Ljava/lang/String;" (.ref p_29)) (E_32 : Exa Z Z.heap p_29 "java/lang/String") (F_35 : Fld Z Z.heap p_29 "java/lang/String" "value" "[B" (.ref p_33)) (F_38 : Fld Z Z.heap p_29 "java/lang/String" "coder" "B" (.int 0)) (F_41 : Fld Z Z.heap p_9 "com/example/synctoken/synctoken/dav/Depth" "value" "Ljava/lang/String;" (.ref p_39)) (E_42 : Exa Z Z.heap p_39 "java/lang/String") (F_45 : Fld Z Z.heap p_39 "java/lang/String" "value" "[B" (.ref p_43)) (F_48 : Fld Z Z.heap p_39 "java/lang/String" "coder" "B" (.int 0)) (V_49 : Arv Z Z.heap p_13 k_50 (.object "com/example/synctoken/synctoken/dav/Depth") 3 [(.ref p_1), (.ref p_5), (.ref p_9)] .null) (V_51 : Arv Z Z.heap p_23 k_52 .byte 1 [(.int 48)] (.int 0)) (V_53 : Arv Z Z.heap p_33 k_54 .byte 1 [(.int 49)] (.int 0)) (V_55 : Arv Z Z.heap p_43 k_56 .byte 8 [(.int 105), (.int 110), (.int 102), (.int 105), (.int 110), (.int 105), (.int 116), (.int 121)] (.int 0)) (EX : Exa Z h x "java/lang/String") (FC : Fld Z h x "java/lang/String" "coder" "B" (.int (0 : Int32))) (FV : Fld Z h x "java/lang/String" "value" "[B" (.ref t)) (VT : Arv Z h t kt .byte 1 [(.int 48)] (.int (0 : Int32)))   (hx : Z.heap.size ≤ x) (EO : Exa Z h op_ "java/util/Optional") (FO : Fld Z h op_ "java/util/Optional" "value" "Ljava/lang/Object;" (.ref x)) :
    Con l (⟨"com/example/synctoken/synctoken/dav/Depth", "parse", "(Ljava/util/Optional;Lcom/example/synctoken/synctoken/dav/Depth;)Lcom/example/synctoken/synctoken/dav/Depth;"⟩ : MethodName) prog_4_method_4_code 3 (some (.object "com/example/synctoken/synctoken/dav/Depth")) [] ({ frames := 7, cells := 3, slots := 8, locals := 168 } : Room) Z #[(.ref op_), (.ref ab)] h (fun v' h' => v' = some (.ref p_1) ∧ Ext h h') := by
  refine con_of (plainFor_of_name pn_7) hE (fun m => ef_rPa100 m op_ ab) ?_
  intro p e s m below meth c T0 C X0
  have C : Cx p s m meth c Z "com/example/synctoken/synctoken/dav/Depth" "parse" prog_4_method_4_code 3 (some (.object "com/example/synctoken/synctoken/dav/Depth")) := C
  show Goes p e below _ T0 (mkF m 0 #[.val (.ref op_), .val (.ref ab), .unset] [])
  refine g_aloadN C X0 d2_0 rfl rfl (g_astoreN C X0 d2_1 rfl (l' := #[.val (.ref op_), .val (.ref ab), .val (.ref ab)]) rfl (g_aloadN C X0 d2_2 rfl rfl (g_virtualP (argsL := []) (st := []) C X0 (wd hw 12 rfl) (wd hw 13 rfl) (nf_of C (wd hw 15 rfl) rfl rfl) (wd hw 15 rfl) (wd hw 14 rfl) (by decide) EO (pay_of (W' := 0) (rIsR l hw X0.ext op_ x FO) C.hZ (wd hw 16 rfl) (wd hw 6 rfl) (by decide) (by decide)) pd_11 rfl rfl _ rfl (Nat.le_of_eq rfl) d2_3 (by decide) (by decide) (fun T675 X675 => ?_))))
  refine g_if (h0_eq _) C X675 d2_6 (fun q => absurd q (by decide)) (fun _ => ?_)
  refine g_aloadN C X675 d2_9 rfl rfl (g_virtualP (argsL := []) (st := []) C X675 (wd hw 74 rfl) (wd hw 75 rfl) (nf_of C (wd hw 77 rfl) rfl rfl) (wd hw 77 rfl) (wd hw 76 rfl) (by decide) EO (pay_of (W' := 0) (rGet l hw X675.ext op_ x FO) C.hZ (wd hw 78 rfl) (wd hw 6 rfl) (by decide) (by decide)) pd_19 rfl rfl _ rfl (Nat.le_of_eq rfl) d2_10 (by decide) (by decide) (fun T676 X676 => ?_))
  refine g_checkcast C X676 (wd hw 79 rfl) (Ins.self EX) d2_13 (fun T677 X677 => ?_)
  refine g_virtualP (argsL := []) (st := []) C X677 (wd hw 80 rfl) (wd hw 81 rfl) (nf_of C (wd hw 83 rfl) rfl rfl) (wd hw 83 rfl) (wd hw 82 rfl) (by decide) EX (pay_of (W' := 0) (rTr100 l hw X677.ext x z_ SZ hz t kt (48 : Int32) EX FC FV VT (by decide)) C.hZ (wd hw 84 rfl) (wd hw 33 rfl) (by decide) (by decide)) pd_20 rfl rfl _ rfl (Nat.le_of_eq rfl) d2_16 (by decide) (by decide) (fun T678 X678 => ?_)
  refine g_static (argsL := [(.ref x)]) (st := []) C X678 (wd hw 94 rfl) (wd hw 95 rfl) (wd hw 2 rfl) (wd hw 96 rfl) (by decide) (pay_of (W' := 0) (rNa1 l hw X678.ext x p_1 p_5 p_9 p_13 p_19 p_23 p_29 p_33 p_39 p_43 k_50 k_52 k_54 k_56 z_ SZ hz t kt  S_3 E_4 S_7 E_8 S_11 E_12 S_15 E_18 F_21 E_22 F_25 F_28 F_31 E_32 F_35 F_38 F_41 E_42 F_45 F_48 V_49 V_51 V_53 V_55 EX FC FV VT  hx) C.hZ (wd hw 96 rfl) (wd hw 2 rfl) (by decide) (by decide)) pd_21 rfl rfl _ rfl (Nat.le_of_eq rfl) d2_19 (by decide) (by decide) (fun T679 h679 v679 q679 X679 => ?_)
  obtain ⟨rfl, E679⟩ := q679
  show Goes p e below _ T679 (mkF m 22 #[.val (.ref op_), .val (.ref ab), .val (.ref ab)] [(.ref p_1)])
  refine g_astoreN C X679 d2_22 rfl (l' := #[.val (.ref op_), .val (.ref ab), .val (.ref p_1)]) rfl (g_aloadN C X679 d2_23 rfl rfl ?_)
  have kp680 := (Keep.refl h []).ext E679
  exact g_retA C X679 rfl rfl d2_24 (by decide) (by decide) ⟨rfl, keep_ext kp680⟩
theorem ef_rPa101 (m : MethodId) (op_ : Addr) (ab : Addr) : entryFrame m #[(.ref op_), (.ref ab)] 3 = mkF m 0 #[.val (.ref op_), .val (.ref ab), .unset] [] := by first | (simp [entryFrame, mkF, argsToLocals, Value.category]; done) | rfl
theorem rPa101 (l : Launch) {Z : State} {a0 : Array Value} (hw : ∀ d ∈ tables_1, d.before a0 Z = true) {h : Heap} (hE : Ext Z.heap h) (op_ : Addr) (ab : Addr) (x : Addr) (p_1 p_5 p_9 p_13 p_19 p_23 p_29 p_33 p_39 p_43 : Addr) (k_50 k_52 k_54 k_56 : ClassId) (z_ : Int32) (SZ : Sta Z Z.heap "java/lang/String" "COMPACT_STRINGS" "Z" (.int z_)) (hz : ¬ z_ = 0) (t : Addr) (kt : ClassId) (tc : Int32) (S_3 : Sta Z Z.heap "com/example/synctoken/synctoken/dav/Depth" "ZERO" "Lcom/example/synctoken/synctoken/dav/Depth;" (.ref p_1)) (E_4 : Exa Z Z.heap p_1 "com/example/synctoken/synctoken/dav/Depth") (S_7 : Sta Z Z.heap "com/example/synctoken/synctoken/dav/Depth" "ONE" "Lcom/example/synctoken/synctoken/dav/Depth;" (.ref p_5)) (E_8 : Exa Z Z.heap p_5 "com/example/synctoken/synctoken/dav/Depth") (S_11 : Sta Z Z.heap "com/example/synctoken/synctoken/dav/Depth" "INFINITY" "Lcom/example/synctoken/synctoken/dav/Depth;" (.ref p_9)) (E_12 : Exa Z Z.heap p_9 "com/example/synctoken/synctoken/dav/Depth") (S_15 : Sta Z Z.heap "com/example/synctoken/synctoken/dav/Depth" "$VALUES" "[Lcom/example/synctoken/synctoken/dav/Depth;" (.ref p_13)) (E_18 : Exa Z Z.heap p_13 "[Lcom/example/synctoken/synctoken/dav/Depth;") (F_21 : Fld Z Z.heap p_1 "com/example/synctoken/synctoken/dav/Depth" "value" "Ljava/lang/String;" (.ref p_19)) (E_22 : Exa Z Z.heap p_19 "java/lang/String") (F_25 : Fld Z Z.heap p_19 "java/lang/String" "value" "[B" (.ref p_23)) (F_28 : Fld Z Z.heap p_19 "java/lang/String" "coder" "B" (.int 0)) (F_31 : Fld Z Z.heap p_5 "com/example/synctoken/synctoken/dav/Depth" "value" "Ljava/lang/String;" (.ref p_29)) (E_32 : Exa Z Z.heap p_29 "java/lang/String") (F_35 : Fld Z Z.heap p_29 "java/lang/String" "value" "[B" (.ref p_33)) (F_38 : Fld Z Z.heap p_29 "java/lang/String" "coder" "B" (.int 0)) (F_41 : Fld Z Z.heap p_9 "com/example/synctoken/synctoken/dav/Depth" "value" "Ljava/lang/String;" (.ref p_39)) (E_42 : Exa Z Z.heap p_39 "java/lang/String") (F_45 : Fld Z Z.heap p_39 "java/lang/String" "value" "[B" (.ref p_43)) (F_48 : Fld Z Z.heap p_39 "java/lang/String" "coder" "B" (.int 0)) (V_49 : Arv Z Z.heap p_13 k_50 (.object "com/example/synctoken/synctoken/dav/Depth") 3 [(.ref p_1), (.ref p_5), (.ref p_9)] .null) (V_51 : Arv Z Z.heap p_23 k_52 .byte 1 [(.int 48)] (.int 0)) (V_53 : Arv Z Z.heap p_33 k_54 .byte 1 [(.int 49)] (.int 0)) (V_55 : Arv Z Z.heap p_43 k_56 .byte 8 [(.int 105), (.int 110), (.int 102), (.int 105), (.int 110), (.int 105), (.int 116), (.int 121)] (.int 0)) (EX : Exa Z h x "java/lang/String") (FC : Fld Z h x "java/lang/String" "coder" "B" (.int (0 : Int32))) (FV : Fld Z h x "java/lang/String" "value" "[B" (.ref t)) (VT : Arv Z h t kt .byte 2 [(.int 48), (.int tc)] (.int (0 : Int32))) (htc : (¬ tc < 0 ∧ ¬ (32 : Int32) < tc))  (hx : Z.heap.size ≤ x) (EO : Exa Z h op_ "java/util/Optional") (FO : Fld Z h op_ "java/util/Optional" "value" "Ljava/lang/Object;" (.ref x)) :
    Con l (⟨"com/example/synctoken/synctoken/dav/Depth", "parse", "(Ljava/util/Optional;Lcom/example/synctoken/synctoken/dav/Depth;)Lcom/example/synctoken/synctoken/dav/Depth;"⟩ : MethodName) prog_4_method_4_code 3 (some (.object "com/example/synctoken/synctoken/dav/Depth")) [] ({ frames := 7, cells := 3, slots := 8, locals := 168 } : Room) Z #[(.ref op_), (.ref ab)] h (fun v' h' => v' = some (.ref p_1) ∧ Ext h h') := by
  refine con_of (plainFor_of_name pn_7) hE (fun m => ef_rPa101 m op_ ab) ?_
  intro p e s m below meth c T0 C X0
  have C : Cx p s m meth c Z "com/example/synctoken/synctoken/dav/Depth" "parse" prog_4_method_4_code 3 (some (.object "com/example/synctoken/synctoken/dav/Depth")) := C
  show Goes p e below _ T0 (mkF m 0 #[.val (.ref op_), .val (.ref ab), .unset] [])
  refine g_aloadN C X0 d2_0 rfl rfl (g_astoreN C X0 d2_1 rfl (l' := #[.val (.ref op_), .val (.ref ab), .val (.ref ab)]) rfl (g_aloadN C X0 d2_2 rfl rfl (g_virtualP (argsL := []) (st := []) C X0 (wd hw 12 rfl) (wd hw 13 rfl) (nf_of C (wd hw 15 rfl) rfl rfl) (wd hw 15 rfl) (wd hw 14 rfl) (by decide) EO (pay_of (W' := 0) (rIsR l hw X0.ext op_ x FO) C.hZ (wd hw 16 rfl) (wd hw 6 rfl) (by decide) (by decide)) pd_11 rfl rfl _ rfl (Nat.le_of_eq rfl) d2_3 (by decide) (by decide) (fun T681 X681 => ?_))))
  refine g_if (h0_eq _) C X681 d2_6 (fun q => absurd q (by decide)) (fun _ => ?_)
  refine g_aloadN C X681 d2_9 rfl rfl (g_virtualP (argsL := []) (st := []) C X681 (wd hw 74 rfl) (wd hw 75 rfl) (nf_of C (wd hw 77 rfl) rfl rfl) (wd hw 77 rfl) (wd hw 76 rfl) (by decide) EO (pay_of (W' := 0) (rGet l hw X681.ext op_ x FO) C.hZ (wd hw 78 rfl) (wd hw 6 rfl) (by decide) (by decide)) pd_19 rfl rfl _ rfl (Nat.le_of_eq rfl) d2_10 (by decide) (by decide) (fun T682 X682 => ?_))
  refine g_checkcast C X682 (wd hw 79 rfl) (Ins.self EX) d2_13 (fun T683 X683 => ?_)
  refine g_virtual (argsL := []) (st := []) C X683 (wd hw 80 rfl) (wd hw 81 rfl) (nf_of C (wd hw 83 rfl) rfl rfl) (wd hw 83 rfl) (wd hw 82 rfl) (by decide) EX (pay_of (W' := 0) (rTr101 l hw X683.ext x z_ SZ hz t kt (48 : Int32) tc EX FC FV VT (by decide) htc) C.hZ (wd hw 84 rfl) (wd hw 33 rfl) (by decide) (by decide)) pd_20 rfl rfl _ rfl (Nat.le_of_eq rfl) d2_16 (by decide) (by decide) (fun T684 h684 v684 q684 X684 => ?_)
  obtain ⟨x684, t684, k684, rfl, nx684, gx684, E684, A684, C684, F684, V684⟩ := q684
  show Goes p e below _ T684 (mkF m 19 #[.val (.ref op_), .val (.ref ab), .val (.ref ab)] [(.ref x684)])
  refine g_static (argsL := [(.ref x684)]) (st := []) C X684 (wd hw 94 rfl) (wd hw 95 rfl) (wd hw 2 rfl) (wd hw 96 rfl) (by decide) (pay_of (W' := 0) (rNa1 l hw X684.ext x684 p_1 p_5 p_9 p_13 p_19 p_23 p_29 p_33 p_39 p_43 k_50 k_52 k_54 k_56 z_ SZ hz t684 k684  S_3 E_4 S_7 E_8 S_11 E_12 S_15 E_18 F_21 E_22 F_25 F_28 F_31 E_32 F_35 F_38 F_41 E_42 F_45 F_48 V_49 V_51 V_53 V_55 A684 C684 F684 V684  nx684) C.hZ (wd hw 96 rfl) (wd hw 2 rfl) (by decide) (by decide)) pd_21 rfl rfl _ rfl (Nat.le_of_eq rfl) d2_19 (by decide) (by decide) (fun T685 h685 v685 q685 X685 => ?_)
  obtain ⟨rfl, E685⟩ := q685
  show Goes p e below _ T685 (mkF m 22 #[.val (.ref op_), .val (.ref ab), .val (.ref ab)] [(.ref p_1)])
  refine g_astoreN C X685 d2_22 rfl (l' := #[.val (.ref op_), .val (.ref ab), .val (.ref p_1)]) rfl (g_aloadN C X685 d2_23 rfl rfl ?_)
  have kp686 := (Keep.refl h []).ext E684
  have kp687 := kp686.ext E685
  exact g_retA C X685 rfl rfl d2_24 (by decide) (by decide) ⟨rfl, keep_ext kp687⟩
theorem ef_rPa110 (m : MethodId) (op_ : Addr) (ab : Addr) : entryFrame m #[(.ref op_), (.ref ab)] 3 = mkF m 0 #[.val (.ref op_), .val (.ref ab), .unset] [] := by first | (simp [entryFrame, mkF, argsToLocals, Value.category]; done) | rfl
theorem rPa110 (l : Launch) {Z : State} {a0 : Array Value} (hw : ∀ d ∈ tables_1, d.before a0 Z = true) {h : Heap} (hE : Ext Z.heap h) (op_ : Addr) (ab : Addr) (x : Addr) (p_1 p_5 p_9 p_13 p_19 p_23 p_29 p_33 p_39 p_43 : Addr) (k_50 k_52 k_54 k_56 : ClassId) (z_ : Int32) (SZ : Sta Z Z.heap "java/lang/String" "COMPACT_STRINGS" "Z" (.int z_)) (hz : ¬ z_ = 0) (t : Addr) (kt : ClassId) (lc : Int32) (S_3 : Sta Z Z.heap "com/example/synctoken/synctoken/dav/Depth" "ZERO" "Lcom/example/synctoken/synctoken/dav/Depth;" (.ref p_1)) (E_4 : Exa Z Z.heap p_1 "com/example/synctoken/synctoken/dav/Depth") (S_7 : Sta Z Z.heap "com/example/synctoken/synctoken/dav/Depth" "ONE" "Lcom/example/synctoken/synctoken/dav/Depth;" (.ref p_5)) (E_8 : Exa Z Z.heap p_5 "com/example/synctoken/synctoken/dav/Depth") (S_11 : Sta Z Z.heap "com/example/synctoken/synctoken/dav/Depth" "INFINITY" "Lcom/example/synctoken/synctoken/dav/Depth;" (.ref p_9)) (E_12 : Exa Z Z.heap p_9 "com/example/synctoken/synctoken/dav/Depth") (S_15 : Sta Z Z.heap "com/example/synctoken/synctoken/dav/Depth" "$VALUES" "[Lcom/example/synctoken/synctoken/dav/Depth;" (.ref p_13)) (E_18 : Exa Z Z.heap p_13 "[Lcom/example/synctoken/synctoken/dav/Depth;") (F_21 : Fld Z Z.heap p_1 "com/example/synctoken/synctoken/dav/Depth" "value" "Ljava/lang/String;" (.ref p_19)) (E_22 : Exa Z Z.heap p_19 "java/lang/String") (F_25 : Fld Z Z.heap p_19 "java/lang/String" "value" "[B" (.ref p_23)) (F_28 : Fld Z Z.heap p_19 "java/lang/String" "coder" "B" (.int 0)) (F_31 : Fld Z Z.heap p_5 "com/example/synctoken/synctoken/dav/Depth" "value" "Ljava/lang/String;" (.ref p_29)) (E_32 : Exa Z Z.heap p_29 "java/lang/String") (F_35 : Fld Z Z.heap p_29 "java/lang/String" "value" "[B" (.ref p_33)) (F_38 : Fld Z Z.heap p_29 "java/lang/String" "coder" "B" (.int 0)) (F_41 : Fld Z Z.heap p_9 "com/example/synctoken/synctoken/dav/Depth" "value" "Ljava/lang/String;" (.ref p_39)) (E_42 : Exa Z Z.heap p_39 "java/lang/String") (F_45 : Fld Z Z.heap p_39 "java/lang/String" "value" "[B" (.ref p_43)) (F_48 : Fld Z Z.heap p_39 "java/lang/String" "coder" "B" (.int 0)) (V_49 : Arv Z Z.heap p_13 k_50 (.object "com/example/synctoken/synctoken/dav/Depth") 3 [(.ref p_1), (.ref p_5), (.ref p_9)] .null) (V_51 : Arv Z Z.heap p_23 k_52 .byte 1 [(.int 48)] (.int 0)) (V_53 : Arv Z Z.heap p_33 k_54 .byte 1 [(.int 49)] (.int 0)) (V_55 : Arv Z Z.heap p_43 k_56 .byte 8 [(.int 105), (.int 110), (.int 102), (.int 105), (.int 110), (.int 105), (.int 116), (.int 121)] (.int 0)) (EX : Exa Z h x "java/lang/String") (FC : Fld Z h x "java/lang/String" "coder" "B" (.int (0 : Int32))) (FV : Fld Z h x "java/lang/String" "value" "[B" (.ref t)) (VT : Arv Z h t kt .byte 2 [(.int lc), (.int 48)] (.int (0 : Int32))) (hlc : (¬ lc < 0 ∧ ¬ (32 : Int32) < lc))  (hx : Z.heap.size ≤ x) (EO : Exa Z h op_ "java/util/Optional") (FO : Fld Z h op_ "java/util/Optional" "value" "Ljava/lang/Object;" (.ref x)) :
    Con l (⟨"com/example/synctoken/synctoken/dav/Depth", "parse", "(Ljava/util/Optional;Lcom/example/synctoken/synctoken/dav/Depth;)Lcom/example/synctoken/synctoken/dav/Depth;"⟩ : MethodName) prog_4_method_4_code 3 (some (.object "com/example/synctoken/synctoken/dav/Depth")) [] ({ frames := 7, cells := 3, slots := 8, locals := 168 } : Room) Z #[(.ref op_), (.ref ab)] h (fun v' h' => v' = some (.ref p_1) ∧ Ext h h') := by
  refine con_of (plainFor_of_name pn_7) hE (fun m => ef_rPa110 m op_ ab) ?_
  intro p e s m below meth c T0 C X0
  have C : Cx p s m meth c Z "com/example/synctoken/synctoken/dav/Depth" "parse" prog_4_method_4_code 3 (some (.object "com/example/synctoken/synctoken/dav/Depth")) := C
  show Goes p e below _ T0 (mkF m 0 #[.val (.ref op_), .val (.ref ab), .unset] [])
  refine g_aloadN C X0 d2_0 rfl rfl (g_astoreN C X0 d2_1 rfl (l' := #[.val (.ref op_), .val (.ref ab), .val (.ref ab)]) rfl (g_aloadN C X0 d2_2 rfl rfl (g_virtualP (argsL := []) (st := []) C X0 (wd hw 12 rfl) (wd hw 13 rfl) (nf_of C (wd hw 15 rfl) rfl rfl) (wd hw 15 rfl) (wd hw 14 rfl) (by decide) EO (pay_of (W' := 0) (rIsR l hw X0.ext op_ x FO) C.hZ (wd hw 16 rfl) (wd hw 6 rfl) (by decide) (by decide)) pd_11 rfl rfl _ rfl (Nat.le_of_eq rfl) d2_3 (by decide) (by decide) (fun T688 X688 => ?_))))
  refine g_if (h0_eq _) C X688 d2_6 (fun q => absurd q (by decide)) (fun _ => ?_)
  refine g_aloadN C X688 d2_9 rfl rfl (g_virtualP (argsL := []) (st := []) C X688 (wd hw 74 rfl) (wd hw 75 rfl) (nf_of C (wd hw 77 rfl) rfl rfl) (wd hw 77 rfl) (wd hw 76 rfl) (by decide) EO (pay_of (W' := 0) (rGet l hw X688.ext op_ x FO) C.hZ (wd hw 78 rfl) (wd hw 6 rfl) (by decide) (by decide)) pd_19 rfl rfl _ rfl (Nat.le_of_eq rfl) d2_10 (by decide) (by decide) (fun T689 X689 => ?_))
  refine g_checkcast C X689 (wd hw 79 rfl) (Ins.self EX) d2_13 (fun T690 X690 => ?_)
  refine g_virtual (argsL := []) (st := []) C X690 (wd hw 80 rfl) (wd hw 81 rfl) (nf_of C (wd hw 83 rfl) rfl rfl) (wd hw 83 rfl) (wd hw 82 rfl) (by decide) EX (pay_of (W' := 0) (rTr110 l hw X690.ext x z_ SZ hz t kt lc (48 : Int32) EX FC FV VT hlc (by decide)) C.hZ (wd hw 84 rfl) (wd hw 33 rfl) (by decide) (by decide)) pd_20 rfl rfl _ rfl (Nat.le_of_eq rfl) d2_16 (by decide) (by decide) (fun T691 h691 v691 q691 X691 => ?_)
  obtain ⟨x691, t691, k691, rfl, nx691, gx691, E691, A691, C691, F691, V691⟩ := q691
  show Goes p e below _ T691 (mkF m 19 #[.val (.ref op_), .val (.ref ab), .val (.ref ab)] [(.ref x691)])
  refine g_static (argsL := [(.ref x691)]) (st := []) C X691 (wd hw 94 rfl) (wd hw 95 rfl) (wd hw 2 rfl) (wd hw 96 rfl) (by decide) (pay_of (W' := 0) (rNa1 l hw X691.ext x691 p_1 p_5 p_9 p_13 p_19 p_23 p_29 p_33 p_39 p_43 k_50 k_52 k_54 k_56 z_ SZ hz t691 k691  S_3 E_4 S_7 E_8 S_11 E_12 S_15 E_18 F_21 E_22 F_25 F_28 F_31 E_32 F_35 F_38 F_41 E_42 F_45 F_48 V_49 V_51 V_53 V_55 A691 C691 F691 V691  nx691) C.hZ (wd hw 96 rfl) (wd hw 2 rfl) (by decide) (by decide)) pd_21 rfl rfl _ rfl (Nat.le_of_eq rfl) d2_19 (by decide) (by decide) (fun T692 h692 v692 q692 X692 => ?_)
  obtain ⟨rfl, E692⟩ := q692
  show Goes p e below _ T692 (mkF m 22 #[.val (.ref op_), .val (.ref ab), .val (.ref ab)] [(.ref p_1)])
  refine g_astoreN C X692 d2_22 rfl (l' := #[.val (.ref op_), .val (.ref ab), .val (.ref p_1)]) rfl (g_aloadN C X692 d2_23 rfl rfl ?_)
  have kp693 := (Keep.refl h []).ext E691
  have kp694 := kp693.ext E692
  exact g_retA C X692 rfl rfl d2_24 (by decide) (by decide) ⟨rfl, keep_ext kp694⟩
theorem ef_rPa111 (m : MethodId) (op_ : Addr) (ab : Addr) : entryFrame m #[(.ref op_), (.ref ab)] 3 = mkF m 0 #[.val (.ref op_), .val (.ref ab), .unset] [] := by first | (simp [entryFrame, mkF, argsToLocals, Value.category]; done) | rfl
theorem rPa111 (l : Launch) {Z : State} {a0 : Array Value} (hw : ∀ d ∈ tables_1, d.before a0 Z = true) {h : Heap} (hE : Ext Z.heap h) (op_ : Addr) (ab : Addr) (x : Addr) (p_1 p_5 p_9 p_13 p_19 p_23 p_29 p_33 p_39 p_43 : Addr) (k_50 k_52 k_54 k_56 : ClassId) (z_ : Int32) (SZ : Sta Z Z.heap "java/lang/String" "COMPACT_STRINGS" "Z" (.int z_)) (hz : ¬ z_ = 0) (t : Addr) (kt : ClassId) (lc tc : Int32) (S_3 : Sta Z Z.heap "com/example/synctoken/synctoken/dav/Depth" "ZERO" "Lcom/example/synctoken/synctoken/dav/Depth;" (.ref p_1)) (E_4 : Exa Z Z.heap p_1 "com/example/synctoken/synctoken/dav/Depth") (S_7 : Sta Z Z.heap "com/example/synctoken/synctoken/dav/Depth" "ONE" "Lcom/example/synctoken/synctoken/dav/Depth;" (.ref p_5)) (E_8 : Exa Z Z.heap p_5 "com/example/synctoken/synctoken/dav/Depth") (S_11 : Sta Z Z.heap "com/example/synctoken/synctoken/dav/Depth" "INFINITY" "Lcom/example/synctoken/synctoken/dav/Depth;" (.ref p_9)) (E_12 : Exa Z Z.heap p_9 "com/example/synctoken/synctoken/dav/Depth") (S_15 : Sta Z Z.heap "com/example/synctoken/synctoken/dav/Depth" "$VALUES" "[Lcom/example/synctoken/synctoken/dav/Depth;" (.ref p_13)) (E_18 : Exa Z Z.heap p_13 "[Lcom/example/synctoken/synctoken/dav/Depth;") (F_21 : Fld Z Z.heap p_1 "com/example/synctoken/synctoken/dav/Depth" "value" "Ljava/lang/String;" (.ref p_19)) (E_22 : Exa Z Z.heap p_19 "java/lang/String") (F_25 : Fld Z Z.heap p_19 "java/lang/String" "value" "[B" (.ref p_23)) (F_28 : Fld Z Z.heap p_19 "java/lang/String" "coder" "B" (.int 0)) (F_31 : Fld Z Z.heap p_5 "com/example/synctoken/synctoken/dav/Depth" "value" "Ljava/lang/String;" (.ref p_29)) (E_32 : Exa Z Z.heap p_29 "java/lang/String") (F_35 : Fld Z Z.heap p_29 "java/lang/String" "value" "[B" (.ref p_33)) (F_38 : Fld Z Z.heap p_29 "java/lang/String" "coder" "B" (.int 0)) (F_41 : Fld Z Z.heap p_9 "com/example/synctoken/synctoken/dav/Depth" "value" "Ljava/lang/String;" (.ref p_39)) (E_42 : Exa Z Z.heap p_39 "java/lang/String") (F_45 : Fld Z Z.heap p_39 "java/lang/String" "value" "[B" (.ref p_43)) (F_48 : Fld Z Z.heap p_39 "java/lang/String" "coder" "B" (.int 0)) (V_49 : Arv Z Z.heap p_13 k_50 (.object "com/example/synctoken/synctoken/dav/Depth") 3 [(.ref p_1), (.ref p_5), (.ref p_9)] .null) (V_51 : Arv Z Z.heap p_23 k_52 .byte 1 [(.int 48)] (.int 0)) (V_53 : Arv Z Z.heap p_33 k_54 .byte 1 [(.int 49)] (.int 0)) (V_55 : Arv Z Z.heap p_43 k_56 .byte 8 [(.int 105), (.int 110), (.int 102), (.int 105), (.int 110), (.int 105), (.int 116), (.int 121)] (.int 0)) (EX : Exa Z h x "java/lang/String") (FC : Fld Z h x "java/lang/String" "coder" "B" (.int (0 : Int32))) (FV : Fld Z h x "java/lang/String" "value" "[B" (.ref t)) (VT : Arv Z h t kt .byte 3 [(.int lc), (.int 48), (.int tc)] (.int (0 : Int32))) (hlc : (¬ lc < 0 ∧ ¬ (32 : Int32) < lc)) (htc : (¬ tc < 0 ∧ ¬ (32 : Int32) < tc))  (hx : Z.heap.size ≤ x) (EO : Exa Z h op_ "java/util/Optional") (FO : Fld Z h op_ "java/util/Optional" "value" "Ljava/lang/Object;" (.ref x)) :
    Con l (⟨"com/example/synctoken/synctoken/dav/Depth", "parse", "(Ljava/util/Optional;Lcom/example/synctoken/synctoken/dav/Depth;)Lcom/example/synctoken/synctoken/dav/Depth;"⟩ : MethodName) prog_4_method_4_code 3 (some (.object "com/example/synctoken/synctoken/dav/Depth")) [] ({ frames := 7, cells := 3, slots := 8, locals := 168 } : Room) Z #[(.ref op_), (.ref ab)] h (fun v' h' => v' = some (.ref p_1) ∧ Ext h h') := by
  refine con_of (plainFor_of_name pn_7) hE (fun m => ef_rPa111 m op_ ab) ?_
  intro p e s m below meth c T0 C X0
  have C : Cx p s m meth c Z "com/example/synctoken/synctoken/dav/Depth" "parse" prog_4_method_4_code 3 (some (.object "com/example/synctoken/synctoken/dav/Depth")) := C
  show Goes p e below _ T0 (mkF m 0 #[.val (.ref op_), .val (.ref ab), .unset] [])
  refine g_aloadN C X0 d2_0 rfl rfl (g_astoreN C X0 d2_1 rfl (l' := #[.val (.ref op_), .val (.ref ab), .val (.ref ab)]) rfl (g_aloadN C X0 d2_2 rfl rfl (g_virtualP (argsL := []) (st := []) C X0 (wd hw 12 rfl) (wd hw 13 rfl) (nf_of C (wd hw 15 rfl) rfl rfl) (wd hw 15 rfl) (wd hw 14 rfl) (by decide) EO (pay_of (W' := 0) (rIsR l hw X0.ext op_ x FO) C.hZ (wd hw 16 rfl) (wd hw 6 rfl) (by decide) (by decide)) pd_11 rfl rfl _ rfl (Nat.le_of_eq rfl) d2_3 (by decide) (by decide) (fun T695 X695 => ?_))))
  refine g_if (h0_eq _) C X695 d2_6 (fun q => absurd q (by decide)) (fun _ => ?_)
  refine g_aloadN C X695 d2_9 rfl rfl (g_virtualP (argsL := []) (st := []) C X695 (wd hw 74 rfl) (wd hw 75 rfl) (nf_of C (wd hw 77 rfl) rfl rfl) (wd hw 77 rfl) (wd hw 76 rfl) (by decide) EO (pay_of (W' := 0) (rGet l hw X695.ext op_ x FO) C.hZ (wd hw 78 rfl) (wd hw 6 rfl) (by decide) (by decide)) pd_19 rfl rfl _ rfl (Nat.le_of_eq rfl) d2_10 (by decide) (by decide) (fun T696 X696 => ?_))
  refine g_checkcast C X696 (wd hw 79 rfl) (Ins.self EX) d2_13 (fun T697 X697 => ?_)
  refine g_virtual (argsL := []) (st := []) C X697 (wd hw 80 rfl) (wd hw 81 rfl) (nf_of C (wd hw 83 rfl) rfl rfl) (wd hw 83 rfl) (wd hw 82 rfl) (by decide) EX (pay_of (W' := 0) (rTr111 l hw X697.ext x z_ SZ hz t kt lc (48 : Int32) tc EX FC FV VT hlc (by decide) htc) C.hZ (wd hw 84 rfl) (wd hw 33 rfl) (by decide) (by decide)) pd_20 rfl rfl _ rfl (Nat.le_of_eq rfl) d2_16 (by decide) (by decide) (fun T698 h698 v698 q698 X698 => ?_)
  obtain ⟨x698, t698, k698, rfl, nx698, gx698, E698, A698, C698, F698, V698⟩ := q698
  show Goes p e below _ T698 (mkF m 19 #[.val (.ref op_), .val (.ref ab), .val (.ref ab)] [(.ref x698)])
  refine g_static (argsL := [(.ref x698)]) (st := []) C X698 (wd hw 94 rfl) (wd hw 95 rfl) (wd hw 2 rfl) (wd hw 96 rfl) (by decide) (pay_of (W' := 0) (rNa1 l hw X698.ext x698 p_1 p_5 p_9 p_13 p_19 p_23 p_29 p_33 p_39 p_43 k_50 k_52 k_54 k_56 z_ SZ hz t698 k698  S_3 E_4 S_7 E_8 S_11 E_12 S_15 E_18 F_21 E_22 F_25 F_28 F_31 E_32 F_35 F_38 F_41 E_42 F_45 F_48 V_49 V_51 V_53 V_55 A698 C698 F698 V698  nx698) C.hZ (wd hw 96 rfl) (wd hw 2 rfl) (by decide) (by decide)) pd_21 rfl rfl _ rfl (Nat.le_of_eq rfl) d2_19 (by decide) (by decide) (fun T699 h699 v699 q699 X699 => ?_)
  obtain ⟨rfl, E699⟩ := q699
  show Goes p e below _ T699 (mkF m 22 #[.val (.ref op_), .val (.ref ab), .val (.ref ab)] [(.ref p_1)])
  refine g_astoreN C X699 d2_22 rfl (l' := #[.val (.ref op_), .val (.ref ab), .val (.ref p_1)]) rfl (g_aloadN C X699 d2_23 rfl rfl ?_)
  have kp700 := (Keep.refl h []).ext E698
  have kp701 := kp700.ext E699
  exact g_retA C X699 rfl rfl d2_24 (by decide) (by decide) ⟨rfl, keep_ext kp701⟩
theorem ef_rPa200 (m : MethodId) (op_ : Addr) (ab : Addr) : entryFrame m #[(.ref op_), (.ref ab)] 3 = mkF m 0 #[.val (.ref op_), .val (.ref ab), .unset] [] := by first | (simp [entryFrame, mkF, argsToLocals, Value.category]; done) | rfl
theorem rPa200 (l : Launch) {Z : State} {a0 : Array Value} (hw : ∀ d ∈ tables_1, d.before a0 Z = true) {h : Heap} (hE : Ext Z.heap h) (op_ : Addr) (ab : Addr) (x : Addr) (p_1 p_5 p_9 p_13 p_19 p_23 p_29 p_33 p_39 p_43 : Addr) (k_50 k_52 k_54 k_56 : ClassId) (z_ : Int32) (SZ : Sta Z Z.heap "java/lang/String" "COMPACT_STRINGS" "Z" (.int z_)) (hz : ¬ z_ = 0) (t : Addr) (kt : ClassId)  (S_3 : Sta Z Z.heap "com/example/synctoken/synctoken/dav/Depth" "ZERO" "Lcom/example/synctoken/synctoken/dav/Depth;" (.ref p_1)) (E_4 : Exa Z Z.heap p_1 "com/example/synctoken/synctoken/dav/Depth") (S_7 : Sta Z Z.heap "com/example/synctoken/synctoken/dav/Depth" "ONE" "Lcom/example/synctoken/synctoken/dav/Depth;" (.ref p_5)) (E_8 : Exa Z Z.heap p_5 "com/example/synctoken/synctoken/dav/Depth") (S_11 : Sta Z Z.heap "com/example/synctoken/synctoken/dav/Depth" "INFINITY" "Lcom/example/synctoken/synctoken/dav/Depth;" (.ref p_9)) (E_12 : Exa Z Z.heap p_9 "com/example/synctoken/synctoken/dav/Depth") (S_15 : Sta Z Z.heap "com/example/synctoken/synctoken/dav/Depth" "$VALUES" "[Lcom/example/synctoken/synctoken/dav/Depth;" (.ref p_13)) (E_18 : Exa Z Z.heap p_13 "[Lcom/example/synctoken/synctoken/dav/Depth;") (F_21 : Fld Z Z.heap p_1 "com/example/synctoken/synctoken/dav/Depth" "value" "Ljava/lang/String;" (.ref p_19)) (E_22 : Exa Z Z.heap p_19 "java/lang/String") (F_25 : Fld Z Z.heap p_19 "java/lang/String" "value" "[B" (.ref p_23)) (F_28 : Fld Z Z.heap p_19 "java/lang/String" "coder" "B" (.int 0)) (F_31 : Fld Z Z.heap p_5 "com/example/synctoken/synctoken/dav/Depth" "value" "Ljava/lang/String;" (.ref p_29)) (E_32 : Exa Z Z.heap p_29 "java/lang/String") (F_35 : Fld Z Z.heap p_29 "java/lang/String" "value" "[B" (.ref p_33)) (F_38 : Fld Z Z.heap p_29 "java/lang/String" "coder" "B" (.int 0)) (F_41 : Fld Z Z.heap p_9 "com/example/synctoken/synctoken/dav/Depth" "value" "Ljava/lang/String;" (.ref p_39)) (E_42 : Exa Z Z.heap p_39 "java/lang/String") (F_45 : Fld Z Z.heap p_39 "java/lang/String" "value" "[B" (.ref p_43)) (F_48 : Fld Z Z.heap p_39 "java/lang/String" "coder" "B" (.int 0)) (V_49 : Arv Z Z.heap p_13 k_50 (.object "com/example/synctoken/synctoken/dav/Depth") 3 [(.ref p_1), (.ref p_5), (.ref p_9)] .null) (V_51 : Arv Z Z.heap p_23 k_52 .byte 1 [(.int 48)] (.int 0)) (V_53 : Arv Z Z.heap p_33 k_54 .byte 1 [(.int 49)] (.int 0)) (V_55 : Arv Z Z.heap p_43 k_56 .byte 8 [(.int 105), (.int 110), (.int 102), (.int 105), (.int 110), (.int 105), (.int 116), (.int 121)] (.int 0)) (EX : Exa Z h x "java/lang/String") (FC : Fld Z h x "java/lang/String" "coder" "B" (.int (0 : Int32))) (FV : Fld Z h x "java/lang/String" "value" "[B" (.ref t)) (VT : Arv Z h t kt .byte 1 [(.int 49)] (.int (0 : Int32)))   (hx : Z.heap.size ≤ x) (EO : Exa Z h op_ "java/util/Optional") (FO : Fld Z h op_ "java/util/Optional" "value" "Ljava/lang/Object;" (.ref x)) :
    Con l (⟨"com/example/synctoken/synctoken/dav/Depth", "parse", "(Ljava/util/Optional;Lcom/example/synctoken/synctoken/dav/Depth;)Lcom/example/synctoken/synctoken/dav/Depth;"⟩ : MethodName) prog_4_method_4_code 3 (some (.object "com/example/synctoken/synctoken/dav/Depth")) [] ({ frames := 7, cells := 3, slots := 8, locals := 168 } : Room) Z #[(.ref op_), (.ref ab)] h (fun v' h' => v' = some (.ref p_5) ∧ Ext h h') := by
  refine con_of (plainFor_of_name pn_7) hE (fun m => ef_rPa200 m op_ ab) ?_
  intro p e s m below meth c T0 C X0
  have C : Cx p s m meth c Z "com/example/synctoken/synctoken/dav/Depth" "parse" prog_4_method_4_code 3 (some (.object "com/example/synctoken/synctoken/dav/Depth")) := C
  show Goes p e below _ T0 (mkF m 0 #[.val (.ref op_), .val (.ref ab), .unset] [])
  refine g_aloadN C X0 d2_0 rfl rfl (g_astoreN C X0 d2_1 rfl (l' := #[.val (.ref op_), .val (.ref ab), .val (.ref ab)]) rfl (g_aloadN C X0 d2_2 rfl rfl (g_virtualP (argsL := []) (st := []) C X0 (wd hw 12 rfl) (wd hw 13 rfl) (nf_of C (wd hw 15 rfl) rfl rfl) (wd hw 15 rfl) (wd hw 14 rfl) (by decide) EO (pay_of (W' := 0) (rIsR l hw X0.ext op_ x FO) C.hZ (wd hw 16 rfl) (wd hw 6 rfl) (by decide) (by decide)) pd_11 rfl rfl _ rfl (Nat.le_of_eq rfl) d2_3 (by decide) (by decide) (fun T702 X702 => ?_))))
  refine g_if (h0_eq _) C X702 d2_6 (fun q => absurd q (by decide)) (fun _ => ?_)
  refine g_aloadN C X702 d2_9 rfl rfl (g_virtualP (argsL := []) (st := []) C X702 (wd hw 74 rfl) (wd hw 75 rfl) (nf_of C (wd hw 77 rfl) rfl rfl) (wd hw 77 rfl) (wd hw 76 rfl) (by decide) EO (pay_of (W' := 0) (rGet l hw X702.ext op_ x FO) C.hZ (wd hw 78 rfl) (wd hw 6 rfl) (by decide) (by decide)) pd_19 rfl rfl _ rfl (Nat.le_of_eq rfl) d2_10 (by decide) (by decide) (fun T703 X703 => ?_))
  refine g_checkcast C X703 (wd hw 79 rfl) (Ins.self EX) d2_13 (fun T704 X704 => ?_)
  refine g_virtualP (argsL := []) (st := []) C X704 (wd hw 80 rfl) (wd hw 81 rfl) (nf_of C (wd hw 83 rfl) rfl rfl) (wd hw 83 rfl) (wd hw 82 rfl) (by decide) EX (pay_of (W' := 0) (rTr100 l hw X704.ext x z_ SZ hz t kt (49 : Int32) EX FC FV VT (by decide)) C.hZ (wd hw 84 rfl) (wd hw 33 rfl) (by decide) (by decide)) pd_20 rfl rfl _ rfl (Nat.le_of_eq rfl) d2_16 (by decide) (by decide) (fun T705 X705 => ?_)
  refine g_static (argsL := [(.ref x)]) (st := []) C X705 (wd hw 94 rfl) (wd hw 95 rfl) (wd hw 2 rfl) (wd hw 96 rfl) (by decide) (pay_of (W' := 0) (rNa2 l hw X705.ext x p_1 p_5 p_9 p_13 p_19 p_23 p_29 p_33 p_39 p_43 k_50 k_52 k_54 k_56 z_ SZ hz t kt  S_3 E_4 S_7 E_8 S_11 E_12 S_15 E_18 F_21 E_22 F_25 F_28 F_31 E_32 F_35 F_38 F_41 E_42 F_45 F_48 V_49 V_51 V_53 V_55 EX FC FV VT  hx) C.hZ (wd hw 96 rfl) (wd hw 2 rfl) (by decide) (by decide)) pd_21 rfl rfl _ rfl (Nat.le_of_eq rfl) d2_19 (by decide) (by decide) (fun T706 h706 v706 q706 X706 => ?_)
  obtain ⟨rfl, E706⟩ := q706
  show Goes p e below _ T706 (mkF m 22 #[.val (.ref op_), .val (.ref ab), .val (.ref ab)] [(.ref p_5)])
  refine g_astoreN C X706 d2_22 rfl (l' := #[.val (.ref op_), .val (.ref ab), .val (.ref p_5)]) rfl (g_aloadN C X706 d2_23 rfl rfl ?_)
  have kp707 := (Keep.refl h []).ext E706
  exact g_retA C X706 rfl rfl d2_24 (by decide) (by decide) ⟨rfl, keep_ext kp707⟩
theorem ef_rPa201 (m : MethodId) (op_ : Addr) (ab : Addr) : entryFrame m #[(.ref op_), (.ref ab)] 3 = mkF m 0 #[.val (.ref op_), .val (.ref ab), .unset] [] := by first | (simp [entryFrame, mkF, argsToLocals, Value.category]; done) | rfl
theorem rPa201 (l : Launch) {Z : State} {a0 : Array Value} (hw : ∀ d ∈ tables_1, d.before a0 Z = true) {h : Heap} (hE : Ext Z.heap h) (op_ : Addr) (ab : Addr) (x : Addr) (p_1 p_5 p_9 p_13 p_19 p_23 p_29 p_33 p_39 p_43 : Addr) (k_50 k_52 k_54 k_56 : ClassId) (z_ : Int32) (SZ : Sta Z Z.heap "java/lang/String" "COMPACT_STRINGS" "Z" (.int z_)) (hz : ¬ z_ = 0) (t : Addr) (kt : ClassId) (tc : Int32) (S_3 : Sta Z Z.heap "com/example/synctoken/synctoken/dav/Depth" "ZERO" "Lcom/example/synctoken/synctoken/dav/Depth;" (.ref p_1)) (E_4 : Exa Z Z.heap p_1 "com/example/synctoken/synctoken/dav/Depth") (S_7 : Sta Z Z.heap "com/example/synctoken/synctoken/dav/Depth" "ONE" "Lcom/example/synctoken/synctoken/dav/Depth;" (.ref p_5)) (E_8 : Exa Z Z.heap p_5 "com/example/synctoken/synctoken/dav/Depth") (S_11 : Sta Z Z.heap "com/example/synctoken/synctoken/dav/Depth" "INFINITY" "Lcom/example/synctoken/synctoken/dav/Depth;" (.ref p_9)) (E_12 : Exa Z Z.heap p_9 "com/example/synctoken/synctoken/dav/Depth") (S_15 : Sta Z Z.heap "com/example/synctoken/synctoken/dav/Depth" "$VALUES" "[Lcom/example/synctoken/synctoken/dav/Depth;" (.ref p_13)) (E_18 : Exa Z Z.heap p_13 "[Lcom/example/synctoken/synctoken/dav/Depth;") (F_21 : Fld Z Z.heap p_1 "com/example/synctoken/synctoken/dav/Depth" "value" "Ljava/lang/String;" (.ref p_19)) (E_22 : Exa Z Z.heap p_19 "java/lang/String") (F_25 : Fld Z Z.heap p_19 "java/lang/String" "value" "[B" (.ref p_23)) (F_28 : Fld Z Z.heap p_19 "java/lang/String" "coder" "B" (.int 0)) (F_31 : Fld Z Z.heap p_5 "com/example/synctoken/synctoken/dav/Depth" "value" "Ljava/lang/String;" (.ref p_29)) (E_32 : Exa Z Z.heap p_29 "java/lang/String") (F_35 : Fld Z Z.heap p_29 "java/lang/String" "value" "[B" (.ref p_33)) (F_38 : Fld Z Z.heap p_29 "java/lang/String" "coder" "B" (.int 0)) (F_41 : Fld Z Z.heap p_9 "com/example/synctoken/synctoken/dav/Depth" "value" "Ljava/lang/String;" (.ref p_39)) (E_42 : Exa Z Z.heap p_39 "java/lang/String") (F_45 : Fld Z Z.heap p_39 "java/lang/String" "value" "[B" (.ref p_43)) (F_48 : Fld Z Z.heap p_39 "java/lang/String" "coder" "B" (.int 0)) (V_49 : Arv Z Z.heap p_13 k_50 (.object "com/example/synctoken/synctoken/dav/Depth") 3 [(.ref p_1), (.ref p_5), (.ref p_9)] .null) (V_51 : Arv Z Z.heap p_23 k_52 .byte 1 [(.int 48)] (.int 0)) (V_53 : Arv Z Z.heap p_33 k_54 .byte 1 [(.int 49)] (.int 0)) (V_55 : Arv Z Z.heap p_43 k_56 .byte 8 [(.int 105), (.int 110), (.int 102), (.int 105), (.int 110), (.int 105), (.int 116), (.int 121)] (.int 0)) (EX : Exa Z h x "java/lang/String") (FC : Fld Z h x "java/lang/String" "coder" "B" (.int (0 : Int32))) (FV : Fld Z h x "java/lang/String" "value" "[B" (.ref t)) (VT : Arv Z h t kt .byte 2 [(.int 49), (.int tc)] (.int (0 : Int32))) (htc : (¬ tc < 0 ∧ ¬ (32 : Int32) < tc))  (hx : Z.heap.size ≤ x) (EO : Exa Z h op_ "java/util/Optional") (FO : Fld Z h op_ "java/util/Optional" "value" "Ljava/lang/Object;" (.ref x)) :
    Con l (⟨"com/example/synctoken/synctoken/dav/Depth", "parse", "(Ljava/util/Optional;Lcom/example/synctoken/synctoken/dav/Depth;)Lcom/example/synctoken/synctoken/dav/Depth;"⟩ : MethodName) prog_4_method_4_code 3 (some (.object "com/example/synctoken/synctoken/dav/Depth")) [] ({ frames := 7, cells := 3, slots := 8, locals := 168 } : Room) Z #[(.ref op_), (.ref ab)] h (fun v' h' => v' = some (.ref p_5) ∧ Ext h h') := by
  refine con_of (plainFor_of_name pn_7) hE (fun m => ef_rPa201 m op_ ab) ?_
  intro p e s m below meth c T0 C X0
  have C : Cx p s m meth c Z "com/example/synctoken/synctoken/dav/Depth" "parse" prog_4_method_4_code 3 (some (.object "com/example/synctoken/synctoken/dav/Depth")) := C
  show Goes p e below _ T0 (mkF m 0 #[.val (.ref op_), .val (.ref ab), .unset] [])
  refine g_aloadN C X0 d2_0 rfl rfl (g_astoreN C X0 d2_1 rfl (l' := #[.val (.ref op_), .val (.ref ab), .val (.ref ab)]) rfl (g_aloadN C X0 d2_2 rfl rfl (g_virtualP (argsL := []) (st := []) C X0 (wd hw 12 rfl) (wd hw 13 rfl) (nf_of C (wd hw 15 rfl) rfl rfl) (wd hw 15 rfl) (wd hw 14 rfl) (by decide) EO (pay_of (W' := 0) (rIsR l hw X0.ext op_ x FO) C.hZ (wd hw 16 rfl) (wd hw 6 rfl) (by decide) (by decide)) pd_11 rfl rfl _ rfl (Nat.le_of_eq rfl) d2_3 (by decide) (by decide) (fun T708 X708 => ?_))))
  refine g_if (h0_eq _) C X708 d2_6 (fun q => absurd q (by decide)) (fun _ => ?_)
  refine g_aloadN C X708 d2_9 rfl rfl (g_virtualP (argsL := []) (st := []) C X708 (wd hw 74 rfl) (wd hw 75 rfl) (nf_of C (wd hw 77 rfl) rfl rfl) (wd hw 77 rfl) (wd hw 76 rfl) (by decide) EO (pay_of (W' := 0) (rGet l hw X708.ext op_ x FO) C.hZ (wd hw 78 rfl) (wd hw 6 rfl) (by decide) (by decide)) pd_19 rfl rfl _ rfl (Nat.le_of_eq rfl) d2_10 (by decide) (by decide) (fun T709 X709 => ?_))
  refine g_checkcast C X709 (wd hw 79 rfl) (Ins.self EX) d2_13 (fun T710 X710 => ?_)
  refine g_virtual (argsL := []) (st := []) C X710 (wd hw 80 rfl) (wd hw 81 rfl) (nf_of C (wd hw 83 rfl) rfl rfl) (wd hw 83 rfl) (wd hw 82 rfl) (by decide) EX (pay_of (W' := 0) (rTr101 l hw X710.ext x z_ SZ hz t kt (49 : Int32) tc EX FC FV VT (by decide) htc) C.hZ (wd hw 84 rfl) (wd hw 33 rfl) (by decide) (by decide)) pd_20 rfl rfl _ rfl (Nat.le_of_eq rfl) d2_16 (by decide) (by decide) (fun T711 h711 v711 q711 X711 => ?_)
  obtain ⟨x711, t711, k711, rfl, nx711, gx711, E711, A711, C711, F711, V711⟩ := q711
  show Goes p e below _ T711 (mkF m 19 #[.val (.ref op_), .val (.ref ab), .val (.ref ab)] [(.ref x711)])
  refine g_static (argsL := [(.ref x711)]) (st := []) C X711 (wd hw 94 rfl) (wd hw 95 rfl) (wd hw 2 rfl) (wd hw 96 rfl) (by decide) (pay_of (W' := 0) (rNa2 l hw X711.ext x711 p_1 p_5 p_9 p_13 p_19 p_23 p_29 p_33 p_39 p_43 k_50 k_52 k_54 k_56 z_ SZ hz t711 k711  S_3 E_4 S_7 E_8 S_11 E_12 S_15 E_18 F_21 E_22 F_25 F_28 F_31 E_32 F_35 F_38 F_41 E_42 F_45 F_48 V_49 V_51 V_53 V_55 A711 C711 F711 V711  nx711) C.hZ (wd hw 96 rfl) (wd hw 2 rfl) (by decide) (by decide)) pd_21 rfl rfl _ rfl (Nat.le_of_eq rfl) d2_19 (by decide) (by decide) (fun T712 h712 v712 q712 X712 => ?_)
  obtain ⟨rfl, E712⟩ := q712
  show Goes p e below _ T712 (mkF m 22 #[.val (.ref op_), .val (.ref ab), .val (.ref ab)] [(.ref p_5)])
  refine g_astoreN C X712 d2_22 rfl (l' := #[.val (.ref op_), .val (.ref ab), .val (.ref p_5)]) rfl (g_aloadN C X712 d2_23 rfl rfl ?_)
  have kp713 := (Keep.refl h []).ext E711
  have kp714 := kp713.ext E712
  exact g_retA C X712 rfl rfl d2_24 (by decide) (by decide) ⟨rfl, keep_ext kp714⟩
theorem ef_rPa210 (m : MethodId) (op_ : Addr) (ab : Addr) : entryFrame m #[(.ref op_), (.ref ab)] 3 = mkF m 0 #[.val (.ref op_), .val (.ref ab), .unset] [] := by first | (simp [entryFrame, mkF, argsToLocals, Value.category]; done) | rfl
theorem rPa210 (l : Launch) {Z : State} {a0 : Array Value} (hw : ∀ d ∈ tables_1, d.before a0 Z = true) {h : Heap} (hE : Ext Z.heap h) (op_ : Addr) (ab : Addr) (x : Addr) (p_1 p_5 p_9 p_13 p_19 p_23 p_29 p_33 p_39 p_43 : Addr) (k_50 k_52 k_54 k_56 : ClassId) (z_ : Int32) (SZ : Sta Z Z.heap "java/lang/String" "COMPACT_STRINGS" "Z" (.int z_)) (hz : ¬ z_ = 0) (t : Addr) (kt : ClassId) (lc : Int32) (S_3 : Sta Z Z.heap "com/example/synctoken/synctoken/dav/Depth" "ZERO" "Lcom/example/synctoken/synctoken/dav/Depth;" (.ref p_1)) (E_4 : Exa Z Z.heap p_1 "com/example/synctoken/synctoken/dav/Depth") (S_7 : Sta Z Z.heap "com/example/synctoken/synctoken/dav/Depth" "ONE" "Lcom/example/synctoken/synctoken/dav/Depth;" (.ref p_5)) (E_8 : Exa Z Z.heap p_5 "com/example/synctoken/synctoken/dav/Depth") (S_11 : Sta Z Z.heap "com/example/synctoken/synctoken/dav/Depth" "INFINITY" "Lcom/example/synctoken/synctoken/dav/Depth;" (.ref p_9)) (E_12 : Exa Z Z.heap p_9 "com/example/synctoken/synctoken/dav/Depth") (S_15 : Sta Z Z.heap "com/example/synctoken/synctoken/dav/Depth" "$VALUES" "[Lcom/example/synctoken/synctoken/dav/Depth;" (.ref p_13)) (E_18 : Exa Z Z.heap p_13 "[Lcom/example/synctoken/synctoken/dav/Depth;") (F_21 : Fld Z Z.heap p_1 "com/example/synctoken/synctoken/dav/Depth" "value" "Ljava/lang/String;" (.ref p_19)) (E_22 : Exa Z Z.heap p_19 "java/lang/String") (F_25 : Fld Z Z.heap p_19 "java/lang/String" "value" "[B" (.ref p_23)) (F_28 : Fld Z Z.heap p_19 "java/lang/String" "coder" "B" (.int 0)) (F_31 : Fld Z Z.heap p_5 "com/example/synctoken/synctoken/dav/Depth" "value" "Ljava/lang/String;" (.ref p_29)) (E_32 : Exa Z Z.heap p_29 "java/lang/String") (F_35 : Fld Z Z.heap p_29 "java/lang/String" "value" "[B" (.ref p_33)) (F_38 : Fld Z Z.heap p_29 "java/lang/String" "coder" "B" (.int 0)) (F_41 : Fld Z Z.heap p_9 "com/example/synctoken/synctoken/dav/Depth" "value" "Ljava/lang/String;" (.ref p_39)) (E_42 : Exa Z Z.heap p_39 "java/lang/String") (F_45 : Fld Z Z.heap p_39 "java/lang/String" "value" "[B" (.ref p_43)) (F_48 : Fld Z Z.heap p_39 "java/lang/String" "coder" "B" (.int 0)) (V_49 : Arv Z Z.heap p_13 k_50 (.object "com/example/synctoken/synctoken/dav/Depth") 3 [(.ref p_1), (.ref p_5), (.ref p_9)] .null) (V_51 : Arv Z Z.heap p_23 k_52 .byte 1 [(.int 48)] (.int 0)) (V_53 : Arv Z Z.heap p_33 k_54 .byte 1 [(.int 49)] (.int 0)) (V_55 : Arv Z Z.heap p_43 k_56 .byte 8 [(.int 105), (.int 110), (.int 102), (.int 105), (.int 110), (.int 105), (.int 116), (.int 121)] (.int 0)) (EX : Exa Z h x "java/lang/String") (FC : Fld Z h x "java/lang/String" "coder" "B" (.int (0 : Int32))) (FV : Fld Z h x "java/lang/String" "value" "[B" (.ref t)) (VT : Arv Z h t kt .byte 2 [(.int lc), (.int 49)] (.int (0 : Int32))) (hlc : (¬ lc < 0 ∧ ¬ (32 : Int32) < lc))  (hx : Z.heap.size ≤ x) (EO : Exa Z h op_ "java/util/Optional") (FO : Fld Z h op_ "java/util/Optional" "value" "Ljava/lang/Object;" (.ref x)) :
    Con l (⟨"com/example/synctoken/synctoken/dav/Depth", "parse", "(Ljava/util/Optional;Lcom/example/synctoken/synctoken/dav/Depth;)Lcom/example/synctoken/synctoken/dav/Depth;"⟩ : MethodName) prog_4_method_4_code 3 (some (.object "com/example/synctoken/synctoken/dav/Depth")) [] ({ frames := 7, cells := 3, slots := 8, locals := 168 } : Room) Z #[(.ref op_), (.ref ab)] h (fun v' h' => v' = some (.ref p_5) ∧ Ext h h') := by
  refine con_of (plainFor_of_name pn_7) hE (fun m => ef_rPa210 m op_ ab) ?_
  intro p e s m below meth c T0 C X0
  have C : Cx p s m meth c Z "com/example/synctoken/synctoken/dav/Depth" "parse" prog_4_method_4_code 3 (some (.object "com/example/synctoken/synctoken/dav/Depth")) := C
  show Goes p e below _ T0 (mkF m 0 #[.val (.ref op_), .val (.ref ab), .unset] [])
  refine g_aloadN C X0 d2_0 rfl rfl (g_astoreN C X0 d2_1 rfl (l' := #[.val (.ref op_), .val (.ref ab), .val (.ref ab)]) rfl (g_aloadN C X0 d2_2 rfl rfl (g_virtualP (argsL := []) (st := []) C X0 (wd hw 12 rfl) (wd hw 13 rfl) (nf_of C (wd hw 15 rfl) rfl rfl) (wd hw 15 rfl) (wd hw 14 rfl) (by decide) EO (pay_of (W' := 0) (rIsR l hw X0.ext op_ x FO) C.hZ (wd hw 16 rfl) (wd hw 6 rfl) (by decide) (by decide)) pd_11 rfl rfl _ rfl (Nat.le_of_eq rfl) d2_3 (by decide) (by decide) (fun T715 X715 => ?_))))
  refine g_if (h0_eq _) C X715 d2_6 (fun q => absurd q (by decide)) (fun _ => ?_)
  refine g_aloadN C X715 d2_9 rfl rfl (g_virtualP (argsL := []) (st := []) C X715 (wd hw 74 rfl) (wd hw 75 rfl) (nf_of C (wd hw 77 rfl) rfl rfl) (wd hw 77 rfl) (wd hw 76 rfl) (by decide) EO (pay_of (W' := 0) (rGet l hw X715.ext op_ x FO) C.hZ (wd hw 78 rfl) (wd hw 6 rfl) (by decide) (by decide)) pd_19 rfl rfl _ rfl (Nat.le_of_eq rfl) d2_10 (by decide) (by decide) (fun T716 X716 => ?_))
  refine g_checkcast C X716 (wd hw 79 rfl) (Ins.self EX) d2_13 (fun T717 X717 => ?_)
  refine g_virtual (argsL := []) (st := []) C X717 (wd hw 80 rfl) (wd hw 81 rfl) (nf_of C (wd hw 83 rfl) rfl rfl) (wd hw 83 rfl) (wd hw 82 rfl) (by decide) EX (pay_of (W' := 0) (rTr110 l hw X717.ext x z_ SZ hz t kt lc (49 : Int32) EX FC FV VT hlc (by decide)) C.hZ (wd hw 84 rfl) (wd hw 33 rfl) (by decide) (by decide)) pd_20 rfl rfl _ rfl (Nat.le_of_eq rfl) d2_16 (by decide) (by decide) (fun T718 h718 v718 q718 X718 => ?_)
  obtain ⟨x718, t718, k718, rfl, nx718, gx718, E718, A718, C718, F718, V718⟩ := q718
  show Goes p e below _ T718 (mkF m 19 #[.val (.ref op_), .val (.ref ab), .val (.ref ab)] [(.ref x718)])
  refine g_static (argsL := [(.ref x718)]) (st := []) C X718 (wd hw 94 rfl) (wd hw 95 rfl) (wd hw 2 rfl) (wd hw 96 rfl) (by decide) (pay_of (W' := 0) (rNa2 l hw X718.ext x718 p_1 p_5 p_9 p_13 p_19 p_23 p_29 p_33 p_39 p_43 k_50 k_52 k_54 k_56 z_ SZ hz t718 k718  S_3 E_4 S_7 E_8 S_11 E_12 S_15 E_18 F_21 E_22 F_25 F_28 F_31 E_32 F_35 F_38 F_41 E_42 F_45 F_48 V_49 V_51 V_53 V_55 A718 C718 F718 V718  nx718) C.hZ (wd hw 96 rfl) (wd hw 2 rfl) (by decide) (by decide)) pd_21 rfl rfl _ rfl (Nat.le_of_eq rfl) d2_19 (by decide) (by decide) (fun T719 h719 v719 q719 X719 => ?_)
  obtain ⟨rfl, E719⟩ := q719
  show Goes p e below _ T719 (mkF m 22 #[.val (.ref op_), .val (.ref ab), .val (.ref ab)] [(.ref p_5)])
  refine g_astoreN C X719 d2_22 rfl (l' := #[.val (.ref op_), .val (.ref ab), .val (.ref p_5)]) rfl (g_aloadN C X719 d2_23 rfl rfl ?_)
  have kp720 := (Keep.refl h []).ext E718
  have kp721 := kp720.ext E719
  exact g_retA C X719 rfl rfl d2_24 (by decide) (by decide) ⟨rfl, keep_ext kp721⟩
theorem ef_rPa211 (m : MethodId) (op_ : Addr) (ab : Addr) : entryFrame m #[(.ref op_), (.ref ab)] 3 = mkF m 0 #[.val (.ref op_), .val (.ref ab), .unset] [] := by first | (simp [entryFrame, mkF, argsToLocals, Value.category]; done) | rfl
theorem rPa211 (l : Launch) {Z : State} {a0 : Array Value} (hw : ∀ d ∈ tables_1, d.before a0 Z = true) {h : Heap} (hE : Ext Z.heap h) (op_ : Addr) (ab : Addr) (x : Addr) (p_1 p_5 p_9 p_13 p_19 p_23 p_29 p_33 p_39 p_43 : Addr) (k_50 k_52 k_54 k_56 : ClassId) (z_ : Int32) (SZ : Sta Z Z.heap "java/lang/String" "COMPACT_STRINGS" "Z" (.int z_)) (hz : ¬ z_ = 0) (t : Addr) (kt : ClassId) (lc tc : Int32) (S_3 : Sta Z Z.heap "com/example/synctoken/synctoken/dav/Depth" "ZERO" "Lcom/example/synctoken/synctoken/dav/Depth;" (.ref p_1)) (E_4 : Exa Z Z.heap p_1 "com/example/synctoken/synctoken/dav/Depth") (S_7 : Sta Z Z.heap "com/example/synctoken/synctoken/dav/Depth" "ONE" "Lcom/example/synctoken/synctoken/dav/Depth;" (.ref p_5)) (E_8 : Exa Z Z.heap p_5 "com/example/synctoken/synctoken/dav/Depth") (S_11 : Sta Z Z.heap "com/example/synctoken/synctoken/dav/Depth" "INFINITY" "Lcom/example/synctoken/synctoken/dav/Depth;" (.ref p_9)) (E_12 : Exa Z Z.heap p_9 "com/example/synctoken/synctoken/dav/Depth") (S_15 : Sta Z Z.heap "com/example/synctoken/synctoken/dav/Depth" "$VALUES" "[Lcom/example/synctoken/synctoken/dav/Depth;" (.ref p_13)) (E_18 : Exa Z Z.heap p_13 "[Lcom/example/synctoken/synctoken/dav/Depth;") (F_21 : Fld Z Z.heap p_1 "com/example/synctoken/synctoken/dav/Depth" "value" "Ljava/lang/String;" (.ref p_19)) (E_22 : Exa Z Z.heap p_19 "java/lang/String") (F_25 : Fld Z Z.heap p_19 "java/lang/String" "value" "[B" (.ref p_23)) (F_28 : Fld Z Z.heap p_19 "java/lang/String" "coder" "B" (.int 0)) (F_31 : Fld Z Z.heap p_5 "com/example/synctoken/synctoken/dav/Depth" "value" "Ljava/lang/String;" (.ref p_29)) (E_32 : Exa Z Z.heap p_29 "java/lang/String") (F_35 : Fld Z Z.heap p_29 "java/lang/String" "value" "[B" (.ref p_33)) (F_38 : Fld Z Z.heap p_29 "java/lang/String" "coder" "B" (.int 0)) (F_41 : Fld Z Z.heap p_9 "com/example/synctoken/synctoken/dav/Depth" "value" "Ljava/lang/String;" (.ref p_39)) (E_42 : Exa Z Z.heap p_39 "java/lang/String") (F_45 : Fld Z Z.heap p_39 "java/lang/String" "value" "[B" (.ref p_43)) (F_48 : Fld Z Z.heap p_39 "java/lang/String" "coder" "B" (.int 0)) (V_49 : Arv Z Z.heap p_13 k_50 (.object "com/example/synctoken/synctoken/dav/Depth") 3 [(.ref p_1), (.ref p_5), (.ref p_9)] .null) (V_51 : Arv Z Z.heap p_23 k_52 .byte 1 [(.int 48)] (.int 0)) (V_53 : Arv Z Z.heap p_33 k_54 .byte 1 [(.int 49)] (.int 0)) (V_55 : Arv Z Z.heap p_43 k_56 .byte 8 [(.int 105), (.int 110), (.int 102), (.int 105), (.int 110), (.int 105), (.int 116), (.int 121)] (.int 0)) (EX : Exa Z h x "java/lang/String") (FC : Fld Z h x "java/lang/String" "coder" "B" (.int (0 : Int32))) (FV : Fld Z h x "java/lang/String" "value" "[B" (.ref t)) (VT : Arv Z h t kt .byte 3 [(.int lc), (.int 49), (.int tc)] (.int (0 : Int32))) (hlc : (¬ lc < 0 ∧ ¬ (32 : Int32) < lc)) (htc : (¬ tc < 0 ∧ ¬ (32 : Int32) < tc))  (hx : Z.heap.size ≤ x) (EO : Exa Z h op_ "java/util/Optional") (FO : Fld Z h op_ "java/util/Optional" "value" "Ljava/lang/Object;" (.ref x)) :
    Con l (⟨"com/example/synctoken/synctoken/dav/Depth", "parse", "(Ljava/util/Optional;Lcom/example/synctoken/synctoken/dav/Depth;)Lcom/example/synctoken/synctoken/dav/Depth;"⟩ : MethodName) prog_4_method_4_code 3 (some (.object "com/example/synctoken/synctoken/dav/Depth")) [] ({ frames := 7, cells := 3, slots := 8, locals := 168 } : Room) Z #[(.ref op_), (.ref ab)] h (fun v' h' => v' = some (.ref p_5) ∧ Ext h h') := by
  refine con_of (plainFor_of_name pn_7) hE (fun m => ef_rPa211 m op_ ab) ?_
  intro p e s m below meth c T0 C X0
  have C : Cx p s m meth c Z "com/example/synctoken/synctoken/dav/Depth" "parse" prog_4_method_4_code 3 (some (.object "com/example/synctoken/synctoken/dav/Depth")) := C
  show Goes p e below _ T0 (mkF m 0 #[.val (.ref op_), .val (.ref ab), .unset] [])
  refine g_aloadN C X0 d2_0 rfl rfl (g_astoreN C X0 d2_1 rfl (l' := #[.val (.ref op_), .val (.ref ab), .val (.ref ab)]) rfl (g_aloadN C X0 d2_2 rfl rfl (g_virtualP (argsL := []) (st := []) C X0 (wd hw 12 rfl) (wd hw 13 rfl) (nf_of C (wd hw 15 rfl) rfl rfl) (wd hw 15 rfl) (wd hw 14 rfl) (by decide) EO (pay_of (W' := 0) (rIsR l hw X0.ext op_ x FO) C.hZ (wd hw 16 rfl) (wd hw 6 rfl) (by decide) (by decide)) pd_11 rfl rfl _ rfl (Nat.le_of_eq rfl) d2_3 (by decide) (by decide) (fun T722 X722 => ?_))))
  refine g_if (h0_eq _) C X722 d2_6 (fun q => absurd q (by decide)) (fun _ => ?_)
  refine g_aloadN C X722 d2_9 rfl rfl (g_virtualP (argsL := []) (st := []) C X722 (wd hw 74 rfl) (wd hw 75 rfl) (nf_of C (wd hw 77 rfl) rfl rfl) (wd hw 77 rfl) (wd hw 76 rfl) (by decide) EO (pay_of (W' := 0) (rGet l hw X722.ext op_ x FO) C.hZ (wd hw 78 rfl) (wd hw 6 rfl) (by decide) (by decide)) pd_19 rfl rfl _ rfl (Nat.le_of_eq rfl) d2_10 (by decide) (by decide) (fun T723 X723 => ?_))
  refine g_checkcast C X723 (wd hw 79 rfl) (Ins.self EX) d2_13 (fun T724 X724 => ?_)
  refine g_virtual (argsL := []) (st := []) C X724 (wd hw 80 rfl) (wd hw 81 rfl) (nf_of C (wd hw 83 rfl) rfl rfl) (wd hw 83 rfl) (wd hw 82 rfl) (by decide) EX (pay_of (W' := 0) (rTr111 l hw X724.ext x z_ SZ hz t kt lc (49 : Int32) tc EX FC FV VT hlc (by decide) htc) C.hZ (wd hw 84 rfl) (wd hw 33 rfl) (by decide) (by decide)) pd_20 rfl rfl _ rfl (Nat.le_of_eq rfl) d2_16 (by decide) (by decide) (fun T725 h725 v725 q725 X725 => ?_)
  obtain ⟨x725, t725, k725, rfl, nx725, gx725, E725, A725, C725, F725, V725⟩ := q725
  show Goes p e below _ T725 (mkF m 19 #[.val (.ref op_), .val (.ref ab), .val (.ref ab)] [(.ref x725)])
  refine g_static (argsL := [(.ref x725)]) (st := []) C X725 (wd hw 94 rfl) (wd hw 95 rfl) (wd hw 2 rfl) (wd hw 96 rfl) (by decide) (pay_of (W' := 0) (rNa2 l hw X725.ext x725 p_1 p_5 p_9 p_13 p_19 p_23 p_29 p_33 p_39 p_43 k_50 k_52 k_54 k_56 z_ SZ hz t725 k725  S_3 E_4 S_7 E_8 S_11 E_12 S_15 E_18 F_21 E_22 F_25 F_28 F_31 E_32 F_35 F_38 F_41 E_42 F_45 F_48 V_49 V_51 V_53 V_55 A725 C725 F725 V725  nx725) C.hZ (wd hw 96 rfl) (wd hw 2 rfl) (by decide) (by decide)) pd_21 rfl rfl _ rfl (Nat.le_of_eq rfl) d2_19 (by decide) (by decide) (fun T726 h726 v726 q726 X726 => ?_)
  obtain ⟨rfl, E726⟩ := q726
  show Goes p e below _ T726 (mkF m 22 #[.val (.ref op_), .val (.ref ab), .val (.ref ab)] [(.ref p_5)])
  refine g_astoreN C X726 d2_22 rfl (l' := #[.val (.ref op_), .val (.ref ab), .val (.ref p_5)]) rfl (g_aloadN C X726 d2_23 rfl rfl ?_)
  have kp727 := (Keep.refl h []).ext E725
  have kp728 := kp727.ext E726
  exact g_retA C X726 rfl rfl d2_24 (by decide) (by decide) ⟨rfl, keep_ext kp728⟩
theorem ef_rPa300 (m : MethodId) (op_ : Addr) (ab : Addr) : entryFrame m #[(.ref op_), (.ref ab)] 3 = mkF m 0 #[.val (.ref op_), .val (.ref ab), .unset] [] := by first | (simp [entryFrame, mkF, argsToLocals, Value.category]; done) | rfl
theorem rPa300 (l : Launch) {Z : State} {a0 : Array Value} (hw : ∀ d ∈ tables_1, d.before a0 Z = true) {h : Heap} (hE : Ext Z.heap h) (op_ : Addr) (ab : Addr) (x : Addr) (p_1 p_5 p_9 p_13 p_19 p_23 p_29 p_33 p_39 p_43 : Addr) (k_50 k_52 k_54 k_56 : ClassId) (z_ : Int32) (SZ : Sta Z Z.heap "java/lang/String" "COMPACT_STRINGS" "Z" (.int z_)) (hz : ¬ z_ = 0) (t : Addr) (kt : ClassId) (y0 y1 y2 y3 y4 y5 y6 y7 : Int32) (S_3 : Sta Z Z.heap "com/example/synctoken/synctoken/dav/Depth" "ZERO" "Lcom/example/synctoken/synctoken/dav/Depth;" (.ref p_1)) (E_4 : Exa Z Z.heap p_1 "com/example/synctoken/synctoken/dav/Depth") (S_7 : Sta Z Z.heap "com/example/synctoken/synctoken/dav/Depth" "ONE" "Lcom/example/synctoken/synctoken/dav/Depth;" (.ref p_5)) (E_8 : Exa Z Z.heap p_5 "com/example/synctoken/synctoken/dav/Depth") (S_11 : Sta Z Z.heap "com/example/synctoken/synctoken/dav/Depth" "INFINITY" "Lcom/example/synctoken/synctoken/dav/Depth;" (.ref p_9)) (E_12 : Exa Z Z.heap p_9 "com/example/synctoken/synctoken/dav/Depth") (S_15 : Sta Z Z.heap "com/example/synctoken/synctoken/dav/Depth" "$VALUES" "[Lcom/example/synctoken/synctoken/dav/Depth;" (.ref p_13)) (E_18 : Exa Z Z.heap p_13 "[Lcom/example/synctoken/synctoken/dav/Depth;") (F_21 : Fld Z Z.heap p_1 "com/example/synctoken/synctoken/dav/Depth" "value" "Ljava/lang/String;" (.ref p_19)) (E_22 : Exa Z Z.heap p_19 "java/lang/String") (F_25 : Fld Z Z.heap p_19 "java/lang/String" "value" "[B" (.ref p_23)) (F_28 : Fld Z Z.heap p_19 "java/lang/String" "coder" "B" (.int 0)) (F_31 : Fld Z Z.heap p_5 "com/example/synctoken/synctoken/dav/Depth" "value" "Ljava/lang/String;" (.ref p_29)) (E_32 : Exa Z Z.heap p_29 "java/lang/String") (F_35 : Fld Z Z.heap p_29 "java/lang/String" "value" "[B" (.ref p_33)) (F_38 : Fld Z Z.heap p_29 "java/lang/String" "coder" "B" (.int 0)) (F_41 : Fld Z Z.heap p_9 "com/example/synctoken/synctoken/dav/Depth" "value" "Ljava/lang/String;" (.ref p_39)) (E_42 : Exa Z Z.heap p_39 "java/lang/String") (F_45 : Fld Z Z.heap p_39 "java/lang/String" "value" "[B" (.ref p_43)) (F_48 : Fld Z Z.heap p_39 "java/lang/String" "coder" "B" (.int 0)) (V_49 : Arv Z Z.heap p_13 k_50 (.object "com/example/synctoken/synctoken/dav/Depth") 3 [(.ref p_1), (.ref p_5), (.ref p_9)] .null) (V_51 : Arv Z Z.heap p_23 k_52 .byte 1 [(.int 48)] (.int 0)) (V_53 : Arv Z Z.heap p_33 k_54 .byte 1 [(.int 49)] (.int 0)) (V_55 : Arv Z Z.heap p_43 k_56 .byte 8 [(.int 105), (.int 110), (.int 102), (.int 105), (.int 110), (.int 105), (.int 116), (.int 121)] (.int 0)) (EX : Exa Z h x "java/lang/String") (FC : Fld Z h x "java/lang/String" "coder" "B" (.int (0 : Int32))) (FV : Fld Z h x "java/lang/String" "value" "[B" (.ref t)) (VT : Arv Z h t kt .byte 8 [(.int y0), (.int y1), (.int y2), (.int y3), (.int y4), (.int y5), (.int y6), (.int y7)] (.int (0 : Int32)))  (l0 : (y0 = (105 : Int32) ∨ y0 = (73 : Int32))) (l1 : (y1 = (110 : Int32) ∨ y1 = (78 : Int32))) (l2 : (y2 = (102 : Int32) ∨ y2 = (70 : Int32))) (l3 : (y3 = (105 : Int32) ∨ y3 = (73 : Int32))) (l4 : (y4 = (110 : Int32) ∨ y4 = (78 : Int32))) (l5 : (y5 = (105 : Int32) ∨ y5 = (73 : Int32))) (l6 : (y6 = (116 : Int32) ∨ y6 = (84 : Int32))) (l7 : (y7 = (121 : Int32) ∨ y7 = (89 : Int32))) (hx : Z.heap.size ≤ x) (EO : Exa Z h op_ "java/util/Optional") (FO : Fld Z h op_ "java/util/Optional" "value" "Ljava/lang/Object;" (.ref x)) :
    Con l (⟨"com/example/synctoken/synctoken/dav/Depth", "parse", "(Ljava/util/Optional;Lcom/example/synctoken/synctoken/dav/Depth;)Lcom/example/synctoken/synctoken/dav/Depth;"⟩ : MethodName) prog_4_method_4_code 3 (some (.object "com/example/synctoken/synctoken/dav/Depth")) [] ({ frames := 7, cells := 3, slots := 15, locals := 168 } : Room) Z #[(.ref op_), (.ref ab)] h (fun v' h' => v' = some (.ref p_9) ∧ Ext h h') := by
  refine con_of (plainFor_of_name pn_7) hE (fun m => ef_rPa300 m op_ ab) ?_
  intro p e s m below meth c T0 C X0
  have C : Cx p s m meth c Z "com/example/synctoken/synctoken/dav/Depth" "parse" prog_4_method_4_code 3 (some (.object "com/example/synctoken/synctoken/dav/Depth")) := C
  show Goes p e below _ T0 (mkF m 0 #[.val (.ref op_), .val (.ref ab), .unset] [])
  refine g_aloadN C X0 d2_0 rfl rfl (g_astoreN C X0 d2_1 rfl (l' := #[.val (.ref op_), .val (.ref ab), .val (.ref ab)]) rfl (g_aloadN C X0 d2_2 rfl rfl (g_virtualP (argsL := []) (st := []) C X0 (wd hw 12 rfl) (wd hw 13 rfl) (nf_of C (wd hw 15 rfl) rfl rfl) (wd hw 15 rfl) (wd hw 14 rfl) (by decide) EO (pay_of (W' := 0) (rIsR l hw X0.ext op_ x FO) C.hZ (wd hw 16 rfl) (wd hw 6 rfl) (by decide) (by decide)) pd_11 rfl rfl _ rfl (Nat.le_of_eq rfl) d2_3 (by decide) (by decide) (fun T729 X729 => ?_))))
  refine g_if (h0_eq _) C X729 d2_6 (fun q => absurd q (by decide)) (fun _ => ?_)
  refine g_aloadN C X729 d2_9 rfl rfl (g_virtualP (argsL := []) (st := []) C X729 (wd hw 74 rfl) (wd hw 75 rfl) (nf_of C (wd hw 77 rfl) rfl rfl) (wd hw 77 rfl) (wd hw 76 rfl) (by decide) EO (pay_of (W' := 0) (rGet l hw X729.ext op_ x FO) C.hZ (wd hw 78 rfl) (wd hw 6 rfl) (by decide) (by decide)) pd_19 rfl rfl _ rfl (Nat.le_of_eq rfl) d2_10 (by decide) (by decide) (fun T730 X730 => ?_))
  refine g_checkcast C X730 (wd hw 79 rfl) (Ins.self EX) d2_13 (fun T731 X731 => ?_)
  refine g_virtualP (argsL := []) (st := []) C X731 (wd hw 80 rfl) (wd hw 81 rfl) (nf_of C (wd hw 83 rfl) rfl rfl) (wd hw 83 rfl) (wd hw 82 rfl) (by decide) EX (pay_of (W' := 0) (rTr800 l hw X731.ext x z_ SZ hz t kt y0 y1 y2 y3 y4 y5 y6 y7 EX FC FV VT (own_let l0 (by decide) (by decide)) (own_let l1 (by decide) (by decide)) (own_let l2 (by decide) (by decide)) (own_let l3 (by decide) (by decide)) (own_let l4 (by decide) (by decide)) (own_let l5 (by decide) (by decide)) (own_let l6 (by decide) (by decide)) (own_let l7 (by decide) (by decide))) C.hZ (wd hw 84 rfl) (wd hw 33 rfl) (by decide) (by decide)) pd_20 rfl rfl _ rfl (Nat.le_of_eq rfl) d2_16 (by decide) (by decide) (fun T732 X732 => ?_)
  refine g_static (argsL := [(.ref x)]) (st := []) C X732 (wd hw 94 rfl) (wd hw 95 rfl) (wd hw 2 rfl) (wd hw 96 rfl) (by decide) (pay_of (W' := 0) (rNa3 l hw X732.ext x p_1 p_5 p_9 p_13 p_19 p_23 p_29 p_33 p_39 p_43 k_50 k_52 k_54 k_56 z_ SZ hz t kt y0 y1 y2 y3 y4 y5 y6 y7 S_3 E_4 S_7 E_8 S_11 E_12 S_15 E_18 F_21 E_22 F_25 F_28 F_31 E_32 F_35 F_38 F_41 E_42 F_45 F_48 V_49 V_51 V_53 V_55 EX FC FV VT l0 l1 l2 l3 l4 l5 l6 l7 hx) C.hZ (wd hw 96 rfl) (wd hw 2 rfl) (by decide) (by decide)) pd_21 rfl rfl _ rfl (Nat.le_of_eq rfl) d2_19 (by decide) (by decide) (fun T733 h733 v733 q733 X733 => ?_)
  obtain ⟨rfl, E733⟩ := q733
  show Goes p e below _ T733 (mkF m 22 #[.val (.ref op_), .val (.ref ab), .val (.ref ab)] [(.ref p_9)])
  refine g_astoreN C X733 d2_22 rfl (l' := #[.val (.ref op_), .val (.ref ab), .val (.ref p_9)]) rfl (g_aloadN C X733 d2_23 rfl rfl ?_)
  have kp734 := (Keep.refl h []).ext E733
  exact g_retA C X733 rfl rfl d2_24 (by decide) (by decide) ⟨rfl, keep_ext kp734⟩
theorem ef_rPa301 (m : MethodId) (op_ : Addr) (ab : Addr) : entryFrame m #[(.ref op_), (.ref ab)] 3 = mkF m 0 #[.val (.ref op_), .val (.ref ab), .unset] [] := by first | (simp [entryFrame, mkF, argsToLocals, Value.category]; done) | rfl
theorem rPa301 (l : Launch) {Z : State} {a0 : Array Value} (hw : ∀ d ∈ tables_1, d.before a0 Z = true) {h : Heap} (hE : Ext Z.heap h) (op_ : Addr) (ab : Addr) (x : Addr) (p_1 p_5 p_9 p_13 p_19 p_23 p_29 p_33 p_39 p_43 : Addr) (k_50 k_52 k_54 k_56 : ClassId) (z_ : Int32) (SZ : Sta Z Z.heap "java/lang/String" "COMPACT_STRINGS" "Z" (.int z_)) (hz : ¬ z_ = 0) (t : Addr) (kt : ClassId) (y0 y1 y2 y3 y4 y5 y6 y7 tc : Int32) (S_3 : Sta Z Z.heap "com/example/synctoken/synctoken/dav/Depth" "ZERO" "Lcom/example/synctoken/synctoken/dav/Depth;" (.ref p_1)) (E_4 : Exa Z Z.heap p_1 "com/example/synctoken/synctoken/dav/Depth") (S_7 : Sta Z Z.heap "com/example/synctoken/synctoken/dav/Depth" "ONE" "Lcom/example/synctoken/synctoken/dav/Depth;" (.ref p_5)) (E_8 : Exa Z Z.heap p_5 "com/example/synctoken/synctoken/dav/Depth") (S_11 : Sta Z Z.heap "com/example/synctoken/synctoken/dav/Depth" "INFINITY" "Lcom/example/synctoken/synctoken/dav/Depth;" (.ref p_9)) (E_12 : Exa Z Z.heap p_9 "com/example/synctoken/synctoken/dav/Depth") (S_15 : Sta Z Z.heap "com/example/synctoken/synctoken/dav/Depth" "$VALUES" "[Lcom/example/synctoken/synctoken/dav/Depth;" (.ref p_13)) (E_18 : Exa Z Z.heap p_13 "[Lcom/example/synctoken/synctoken/dav/Depth;") (F_21 : Fld Z Z.heap p_1 "com/example/synctoken/synctoken/dav/Depth" "value" "Ljava/lang/String;" (.ref p_19)) (E_22 : Exa Z Z.heap p_19 "java/lang/String") (F_25 : Fld Z Z.heap p_19 "java/lang/String" "value" "[B" (.ref p_23)) (F_28 : Fld Z Z.heap p_19 "java/lang/String" "coder" "B" (.int 0)) (F_31 : Fld Z Z.heap p_5 "com/example/synctoken/synctoken/dav/Depth" "value" "Ljava/lang/String;" (.ref p_29)) (E_32 : Exa Z Z.heap p_29 "java/lang/String") (F_35 : Fld Z Z.heap p_29 "java/lang/String" "value" "[B" (.ref p_33)) (F_38 : Fld Z Z.heap p_29 "java/lang/String" "coder" "B" (.int 0)) (F_41 : Fld Z Z.heap p_9 "com/example/synctoken/synctoken/dav/Depth" "value" "Ljava/lang/String;" (.ref p_39)) (E_42 : Exa Z Z.heap p_39 "java/lang/String") (F_45 : Fld Z Z.heap p_39 "java/lang/String" "value" "[B" (.ref p_43)) (F_48 : Fld Z Z.heap p_39 "java/lang/String" "coder" "B" (.int 0)) (V_49 : Arv Z Z.heap p_13 k_50 (.object "com/example/synctoken/synctoken/dav/Depth") 3 [(.ref p_1), (.ref p_5), (.ref p_9)] .null) (V_51 : Arv Z Z.heap p_23 k_52 .byte 1 [(.int 48)] (.int 0)) (V_53 : Arv Z Z.heap p_33 k_54 .byte 1 [(.int 49)] (.int 0)) (V_55 : Arv Z Z.heap p_43 k_56 .byte 8 [(.int 105), (.int 110), (.int 102), (.int 105), (.int 110), (.int 105), (.int 116), (.int 121)] (.int 0)) (EX : Exa Z h x "java/lang/String") (FC : Fld Z h x "java/lang/String" "coder" "B" (.int (0 : Int32))) (FV : Fld Z h x "java/lang/String" "value" "[B" (.ref t)) (VT : Arv Z h t kt .byte 9 [(.int y0), (.int y1), (.int y2), (.int y3), (.int y4), (.int y5), (.int y6), (.int y7), (.int tc)] (.int (0 : Int32))) (htc : (¬ tc < 0 ∧ ¬ (32 : Int32) < tc)) (l0 : (y0 = (105 : Int32) ∨ y0 = (73 : Int32))) (l1 : (y1 = (110 : Int32) ∨ y1 = (78 : Int32))) (l2 : (y2 = (102 : Int32) ∨ y2 = (70 : Int32))) (l3 : (y3 = (105 : Int32) ∨ y3 = (73 : Int32))) (l4 : (y4 = (110 : Int32) ∨ y4 = (78 : Int32))) (l5 : (y5 = (105 : Int32) ∨ y5 = (73 : Int32))) (l6 : (y6 = (116 : Int32) ∨ y6 = (84 : Int32))) (l7 : (y7 = (121 : Int32) ∨ y7 = (89 : Int32))) (hx : Z.heap.size ≤ x) (EO : Exa Z h op_ "java/util/Optional") (FO : Fld Z h op_ "java/util/Optional" "value" "Ljava/lang/Object;" (.ref x)) :
    Con l (⟨"com/example/synctoken/synctoken/dav/Depth", "parse", "(Ljava/util/Optional;Lcom/example/synctoken/synctoken/dav/Depth;)Lcom/example/synctoken/synctoken/dav/Depth;"⟩ : MethodName) prog_4_method_4_code 3 (some (.object "com/example/synctoken/synctoken/dav/Depth")) [] ({ frames := 7, cells := 3, slots := 15, locals := 168 } : Room) Z #[(.ref op_), (.ref ab)] h (fun v' h' => v' = some (.ref p_9) ∧ Ext h h') := by
  refine con_of (plainFor_of_name pn_7) hE (fun m => ef_rPa301 m op_ ab) ?_
  intro p e s m below meth c T0 C X0
  have C : Cx p s m meth c Z "com/example/synctoken/synctoken/dav/Depth" "parse" prog_4_method_4_code 3 (some (.object "com/example/synctoken/synctoken/dav/Depth")) := C
  show Goes p e below _ T0 (mkF m 0 #[.val (.ref op_), .val (.ref ab), .unset] [])
  refine g_aloadN C X0 d2_0 rfl rfl (g_astoreN C X0 d2_1 rfl (l' := #[.val (.ref op_), .val (.ref ab), .val (.ref ab)]) rfl (g_aloadN C X0 d2_2 rfl rfl (g_virtualP (argsL := []) (st := []) C X0 (wd hw 12 rfl) (wd hw 13 rfl) (nf_of C (wd hw 15 rfl) rfl rfl) (wd hw 15 rfl) (wd hw 14 rfl) (by decide) EO (pay_of (W' := 0) (rIsR l hw X0.ext op_ x FO) C.hZ (wd hw 16 rfl) (wd hw 6 rfl) (by decide) (by decide)) pd_11 rfl rfl _ rfl (Nat.le_of_eq rfl) d2_3 (by decide) (by decide) (fun T735 X735 => ?_))))
  refine g_if (h0_eq _) C X735 d2_6 (fun q => absurd q (by decide)) (fun _ => ?_)
  refine g_aloadN C X735 d2_9 rfl rfl (g_virtualP (argsL := []) (st := []) C X735 (wd hw 74 rfl) (wd hw 75 rfl) (nf_of C (wd hw 77 rfl) rfl rfl) (wd hw 77 rfl) (wd hw 76 rfl) (by decide) EO (pay_of (W' := 0) (rGet l hw X735.ext op_ x FO) C.hZ (wd hw 78 rfl) (wd hw 6 rfl) (by decide) (by decide)) pd_19 rfl rfl _ rfl (Nat.le_of_eq rfl) d2_10 (by decide) (by decide) (fun T736 X736 => ?_))
  refine g_checkcast C X736 (wd hw 79 rfl) (Ins.self EX) d2_13 (fun T737 X737 => ?_)
  refine g_virtual (argsL := []) (st := []) C X737 (wd hw 80 rfl) (wd hw 81 rfl) (nf_of C (wd hw 83 rfl) rfl rfl) (wd hw 83 rfl) (wd hw 82 rfl) (by decide) EX (pay_of (W' := 0) (rTr801 l hw X737.ext x z_ SZ hz t kt y0 y1 y2 y3 y4 y5 y6 y7 tc EX FC FV VT (own_let l0 (by decide) (by decide)) (own_let l1 (by decide) (by decide)) (own_let l2 (by decide) (by decide)) (own_let l3 (by decide) (by decide)) (own_let l4 (by decide) (by decide)) (own_let l5 (by decide) (by decide)) (own_let l6 (by decide) (by decide)) (own_let l7 (by decide) (by decide)) htc) C.hZ (wd hw 84 rfl) (wd hw 33 rfl) (by decide) (by decide)) pd_20 rfl rfl _ rfl (Nat.le_of_eq rfl) d2_16 (by decide) (by decide) (fun T738 h738 v738 q738 X738 => ?_)
  obtain ⟨x738, t738, k738, rfl, nx738, gx738, E738, A738, C738, F738, V738⟩ := q738
  show Goes p e below _ T738 (mkF m 19 #[.val (.ref op_), .val (.ref ab), .val (.ref ab)] [(.ref x738)])
  refine g_static (argsL := [(.ref x738)]) (st := []) C X738 (wd hw 94 rfl) (wd hw 95 rfl) (wd hw 2 rfl) (wd hw 96 rfl) (by decide) (pay_of (W' := 0) (rNa3 l hw X738.ext x738 p_1 p_5 p_9 p_13 p_19 p_23 p_29 p_33 p_39 p_43 k_50 k_52 k_54 k_56 z_ SZ hz t738 k738 y0 y1 y2 y3 y4 y5 y6 y7 S_3 E_4 S_7 E_8 S_11 E_12 S_15 E_18 F_21 E_22 F_25 F_28 F_31 E_32 F_35 F_38 F_41 E_42 F_45 F_48 V_49 V_51 V_53 V_55 A738 C738 F738 V738 l0 l1 l2 l3 l4 l5 l6 l7 nx738) C.hZ (wd hw 96 rfl) (wd hw 2 rfl) (by decide) (by decide)) pd_21 rfl rfl _ rfl (Nat.le_of_eq rfl) d2_19 (by decide) (by decide) (fun T739 h739 v739 q739 X739 => ?_)
  obtain ⟨rfl, E739⟩ := q739
  show Goes p e below _ T739 (mkF m 22 #[.val (.ref op_), .val (.ref ab), .val (.ref ab)] [(.ref p_9)])
  refine g_astoreN C X739 d2_22 rfl (l' := #[.val (.ref op_), .val (.ref ab), .val (.ref p_9)]) rfl (g_aloadN C X739 d2_23 rfl rfl ?_)
  have kp740 := (Keep.refl h []).ext E738
  have kp741 := kp740.ext E739
  exact g_retA C X739 rfl rfl d2_24 (by decide) (by decide) ⟨rfl, keep_ext kp741⟩
theorem ef_rPa310 (m : MethodId) (op_ : Addr) (ab : Addr) : entryFrame m #[(.ref op_), (.ref ab)] 3 = mkF m 0 #[.val (.ref op_), .val (.ref ab), .unset] [] := by first | (simp [entryFrame, mkF, argsToLocals, Value.category]; done) | rfl
theorem rPa310 (l : Launch) {Z : State} {a0 : Array Value} (hw : ∀ d ∈ tables_1, d.before a0 Z = true) {h : Heap} (hE : Ext Z.heap h) (op_ : Addr) (ab : Addr) (x : Addr) (p_1 p_5 p_9 p_13 p_19 p_23 p_29 p_33 p_39 p_43 : Addr) (k_50 k_52 k_54 k_56 : ClassId) (z_ : Int32) (SZ : Sta Z Z.heap "java/lang/String" "COMPACT_STRINGS" "Z" (.int z_)) (hz : ¬ z_ = 0) (t : Addr) (kt : ClassId) (lc y0 y1 y2 y3 y4 y5 y6 y7 : Int32) (S_3 : Sta Z Z.heap "com/example/synctoken/synctoken/dav/Depth" "ZERO" "Lcom/example/synctoken/synctoken/dav/Depth;" (.ref p_1)) (E_4 : Exa Z Z.heap p_1 "com/example/synctoken/synctoken/dav/Depth") (S_7 : Sta Z Z.heap "com/example/synctoken/synctoken/dav/Depth" "ONE" "Lcom/example/synctoken/synctoken/dav/Depth;" (.ref p_5)) (E_8 : Exa Z Z.heap p_5 "com/example/synctoken/synctoken/dav/Depth") (S_11 : Sta Z Z.heap "com/example/synctoken/synctoken/dav/Depth" "INFINITY" "Lcom/example/synctoken/synctoken/dav/Depth;" (.ref p_9)) (E_12 : Exa Z Z.heap p_9 "com/example/synctoken/synctoken/dav/Depth") (S_15 : Sta Z Z.heap "com/example/synctoken/synctoken/dav/Depth" "$VALUES" "[Lcom/example/synctoken/synctoken/dav/Depth;" (.ref p_13)) (E_18 : Exa Z Z.heap p_13 "[Lcom/example/synctoken/synctoken/dav/Depth;") (F_21 : Fld Z Z.heap p_1 "com/example/synctoken/synctoken/dav/Depth" "value" "Ljava/lang/String;" (.ref p_19)) (E_22 : Exa Z Z.heap p_19 "java/lang/String") (F_25 : Fld Z Z.heap p_19 "java/lang/String" "value" "[B" (.ref p_23)) (F_28 : Fld Z Z.heap p_19 "java/lang/String" "coder" "B" (.int 0)) (F_31 : Fld Z Z.heap p_5 "com/example/synctoken/synctoken/dav/Depth" "value" "Ljava/lang/String;" (.ref p_29)) (E_32 : Exa Z Z.heap p_29 "java/lang/String") (F_35 : Fld Z Z.heap p_29 "java/lang/String" "value" "[B" (.ref p_33)) (F_38 : Fld Z Z.heap p_29 "java/lang/String" "coder" "B" (.int 0)) (F_41 : Fld Z Z.heap p_9 "com/example/synctoken/synctoken/dav/Depth" "value" "Ljava/lang/String;" (.ref p_39)) (E_42 : Exa Z Z.heap p_39 "java/lang/String") (F_45 : Fld Z Z.heap p_39 "java/lang/String" "value" "[B" (.ref p_43)) (F_48 : Fld Z Z.heap p_39 "java/lang/String" "coder" "B" (.int 0)) (V_49 : Arv Z Z.heap p_13 k_50 (.object "com/example/synctoken/synctoken/dav/Depth") 3 [(.ref p_1), (.ref p_5), (.ref p_9)] .null) (V_51 : Arv Z Z.heap p_23 k_52 .byte 1 [(.int 48)] (.int 0)) (V_53 : Arv Z Z.heap p_33 k_54 .byte 1 [(.int 49)] (.int 0)) (V_55 : Arv Z Z.heap p_43 k_56 .byte 8 [(.int 105), (.int 110), (.int 102), (.int 105), (.int 110), (.int 105), (.int 116), (.int 121)] (.int 0)) (EX : Exa Z h x "java/lang/String") (FC : Fld Z h x "java/lang/String" "coder" "B" (.int (0 : Int32))) (FV : Fld Z h x "java/lang/String" "value" "[B" (.ref t)) (VT : Arv Z h t kt .byte 9 [(.int lc), (.int y0), (.int y1), (.int y2), (.int y3), (.int y4), (.int y5), (.int y6), (.int y7)] (.int (0 : Int32))) (hlc : (¬ lc < 0 ∧ ¬ (32 : Int32) < lc)) (l0 : (y0 = (105 : Int32) ∨ y0 = (73 : Int32))) (l1 : (y1 = (110 : Int32) ∨ y1 = (78 : Int32))) (l2 : (y2 = (102 : Int32) ∨ y2 = (70 : Int32))) (l3 : (y3 = (105 : Int32) ∨ y3 = (73 : Int32))) (l4 : (y4 = (110 : Int32) ∨ y4 = (78 : Int32))) (l5 : (y5 = (105 : Int32) ∨ y5 = (73 : Int32))) (l6 : (y6 = (116 : Int32) ∨ y6 = (84 : Int32))) (l7 : (y7 = (121 : Int32) ∨ y7 = (89 : Int32))) (hx : Z.heap.size ≤ x) (EO : Exa Z h op_ "java/util/Optional") (FO : Fld Z h op_ "java/util/Optional" "value" "Ljava/lang/Object;" (.ref x)) :
    Con l (⟨"com/example/synctoken/synctoken/dav/Depth", "parse", "(Ljava/util/Optional;Lcom/example/synctoken/synctoken/dav/Depth;)Lcom/example/synctoken/synctoken/dav/Depth;"⟩ : MethodName) prog_4_method_4_code 3 (some (.object "com/example/synctoken/synctoken/dav/Depth")) [] ({ frames := 7, cells := 3, slots := 15, locals := 168 } : Room) Z #[(.ref op_), (.ref ab)] h (fun v' h' => v' = some (.ref p_9) ∧ Ext h h') := by
  refine con_of (plainFor_of_name pn_7) hE (fun m => ef_rPa310 m op_ ab) ?_
  intro p e s m below meth c T0 C X0
  have C : Cx p s m meth c Z "com/example/synctoken/synctoken/dav/Depth" "parse" prog_4_method_4_code 3 (some (.object "com/example/synctoken/synctoken/dav/Depth")) := C
  show Goes p e below _ T0 (mkF m 0 #[.val (.ref op_), .val (.ref ab), .unset] [])
  refine g_aloadN C X0 d2_0 rfl rfl (g_astoreN C X0 d2_1 rfl (l' := #[.val (.ref op_), .val (.ref ab), .val (.ref ab)]) rfl (g_aloadN C X0 d2_2 rfl rfl (g_virtualP (argsL := []) (st := []) C X0 (wd hw 12 rfl) (wd hw 13 rfl) (nf_of C (wd hw 15 rfl) rfl rfl) (wd hw 15 rfl) (wd hw 14 rfl) (by decide) EO (pay_of (W' := 0) (rIsR l hw X0.ext op_ x FO) C.hZ (wd hw 16 rfl) (wd hw 6 rfl) (by decide) (by decide)) pd_11 rfl rfl _ rfl (Nat.le_of_eq rfl) d2_3 (by decide) (by decide) (fun T742 X742 => ?_))))
  refine g_if (h0_eq _) C X742 d2_6 (fun q => absurd q (by decide)) (fun _ => ?_)
  refine g_aloadN C X742 d2_9 rfl rfl (g_virtualP (argsL := []) (st := []) C X742 (wd hw 74 rfl) (wd hw 75 rfl) (nf_of C (wd hw 77 rfl) rfl rfl) (wd hw 77 rfl) (wd hw 76 rfl) (by decide) EO (pay_of (W' := 0) (rGet l hw X742.ext op_ x FO) C.hZ (wd hw 78 rfl) (wd hw 6 rfl) (by decide) (by decide)) pd_19 rfl rfl _ rfl (Nat.le_of_eq rfl) d2_10 (by decide) (by decide) (fun T743 X743 => ?_))
  refine g_checkcast C X743 (wd hw 79 rfl) (Ins.self EX) d2_13 (fun T744 X744 => ?_)
  refine g_virtual (argsL := []) (st := []) C X744 (wd hw 80 rfl) (wd hw 81 rfl) (nf_of C (wd hw 83 rfl) rfl rfl) (wd hw 83 rfl) (wd hw 82 rfl) (by decide) EX (pay_of (W' := 0) (rTr810 l hw X744.ext x z_ SZ hz t kt lc y0 y1 y2 y3 y4 y5 y6 y7 EX FC FV VT hlc (own_let l0 (by decide) (by decide)) (own_let l1 (by decide) (by decide)) (own_let l2 (by decide) (by decide)) (own_let l3 (by decide) (by decide)) (own_let l4 (by decide) (by decide)) (own_let l5 (by decide) (by decide)) (own_let l6 (by decide) (by decide)) (own_let l7 (by decide) (by decide))) C.hZ (wd hw 84 rfl) (wd hw 33 rfl) (by decide) (by decide)) pd_20 rfl rfl _ rfl (Nat.le_of_eq rfl) d2_16 (by decide) (by decide) (fun T745 h745 v745 q745 X745 => ?_)
  obtain ⟨x745, t745, k745, rfl, nx745, gx745, E745, A745, C745, F745, V745⟩ := q745
  show Goes p e below _ T745 (mkF m 19 #[.val (.ref op_), .val (.ref ab), .val (.ref ab)] [(.ref x745)])
  refine g_static (argsL := [(.ref x745)]) (st := []) C X745 (wd hw 94 rfl) (wd hw 95 rfl) (wd hw 2 rfl) (wd hw 96 rfl) (by decide) (pay_of (W' := 0) (rNa3 l hw X745.ext x745 p_1 p_5 p_9 p_13 p_19 p_23 p_29 p_33 p_39 p_43 k_50 k_52 k_54 k_56 z_ SZ hz t745 k745 y0 y1 y2 y3 y4 y5 y6 y7 S_3 E_4 S_7 E_8 S_11 E_12 S_15 E_18 F_21 E_22 F_25 F_28 F_31 E_32 F_35 F_38 F_41 E_42 F_45 F_48 V_49 V_51 V_53 V_55 A745 C745 F745 V745 l0 l1 l2 l3 l4 l5 l6 l7 nx745) C.hZ (wd hw 96 rfl) (wd hw 2 rfl) (by decide) (by decide)) pd_21 rfl rfl _ rfl (Nat.le_of_eq rfl) d2_19 (by decide) (by decide) (fun T746 h746 v746 q746 X746 => ?_)
  obtain ⟨rfl, E746⟩ := q746
  show Goes p e below _ T746 (mkF m 22 #[.val (.ref op_), .val (.ref ab), .val (.ref ab)] [(.ref p_9)])
  refine g_astoreN C X746 d2_22 rfl (l' := #[.val (.ref op_), .val (.ref ab), .val (.ref p_9)]) rfl (g_aloadN C X746 d2_23 rfl rfl ?_)
  have kp747 := (Keep.refl h []).ext E745
  have kp748 := kp747.ext E746
  exact g_retA C X746 rfl rfl d2_24 (by decide) (by decide) ⟨rfl, keep_ext kp748⟩
theorem ef_rPa311 (m : MethodId) (op_ : Addr) (ab : Addr) : entryFrame m #[(.ref op_), (.ref ab)] 3 = mkF m 0 #[.val (.ref op_), .val (.ref ab), .unset] [] := by first | (simp [entryFrame, mkF, argsToLocals, Value.category]; done) | rfl
theorem rPa311 (l : Launch) {Z : State} {a0 : Array Value} (hw : ∀ d ∈ tables_1, d.before a0 Z = true) {h : Heap} (hE : Ext Z.heap h) (op_ : Addr) (ab : Addr) (x : Addr) (p_1 p_5 p_9 p_13 p_19 p_23 p_29 p_33 p_39 p_43 : Addr) (k_50 k_52 k_54 k_56 : ClassId) (z_ : Int32) (SZ : Sta Z Z.heap "java/lang/String" "COMPACT_STRINGS" "Z" (.int z_)) (hz : ¬ z_ = 0) (t : Addr) (kt : ClassId) (lc y0 y1 y2 y3 y4 y5 y6 y7 tc : Int32) (S_3 : Sta Z Z.heap "com/example/synctoken/synctoken/dav/Depth" "ZERO" "Lcom/example/synctoken/synctoken/dav/Depth;" (.ref p_1)) (E_4 : Exa Z Z.heap p_1 "com/example/synctoken/synctoken/dav/Depth") (S_7 : Sta Z Z.heap "com/example/synctoken/synctoken/dav/Depth" "ONE" "Lcom/example/synctoken/synctoken/dav/Depth;" (.ref p_5)) (E_8 : Exa Z Z.heap p_5 "com/example/synctoken/synctoken/dav/Depth") (S_11 : Sta Z Z.heap "com/example/synctoken/synctoken/dav/Depth" "INFINITY" "Lcom/example/synctoken/synctoken/dav/Depth;" (.ref p_9)) (E_12 : Exa Z Z.heap p_9 "com/example/synctoken/synctoken/dav/Depth") (S_15 : Sta Z Z.heap "com/example/synctoken/synctoken/dav/Depth" "$VALUES" "[Lcom/example/synctoken/synctoken/dav/Depth;" (.ref p_13)) (E_18 : Exa Z Z.heap p_13 "[Lcom/example/synctoken/synctoken/dav/Depth;") (F_21 : Fld Z Z.heap p_1 "com/example/synctoken/synctoken/dav/Depth" "value" "Ljava/lang/String;" (.ref p_19)) (E_22 : Exa Z Z.heap p_19 "java/lang/String") (F_25 : Fld Z Z.heap p_19 "java/lang/String" "value" "[B" (.ref p_23)) (F_28 : Fld Z Z.heap p_19 "java/lang/String" "coder" "B" (.int 0)) (F_31 : Fld Z Z.heap p_5 "com/example/synctoken/synctoken/dav/Depth" "value" "Ljava/lang/String;" (.ref p_29)) (E_32 : Exa Z Z.heap p_29 "java/lang/String") (F_35 : Fld Z Z.heap p_29 "java/lang/String" "value" "[B" (.ref p_33)) (F_38 : Fld Z Z.heap p_29 "java/lang/String" "coder" "B" (.int 0)) (F_41 : Fld Z Z.heap p_9 "com/example/synctoken/synctoken/dav/Depth" "value" "Ljava/lang/String;" (.ref p_39)) (E_42 : Exa Z Z.heap p_39 "java/lang/String") (F_45 : Fld Z Z.heap p_39 "java/lang/String" "value" "[B" (.ref p_43)) (F_48 : Fld Z Z.heap p_39 "java/lang/String" "coder" "B" (.int 0)) (V_49 : Arv Z Z.heap p_13 k_50 (.object "com/example/synctoken/synctoken/dav/Depth") 3 [(.ref p_1), (.ref p_5), (.ref p_9)] .null) (V_51 : Arv Z Z.heap p_23 k_52 .byte 1 [(.int 48)] (.int 0)) (V_53 : Arv Z Z.heap p_33 k_54 .byte 1 [(.int 49)] (.int 0)) (V_55 : Arv Z Z.heap p_43 k_56 .byte 8 [(.int 105), (.int 110), (.int 102), (.int 105), (.int 110), (.int 105), (.int 116), (.int 121)] (.int 0)) (EX : Exa Z h x "java/lang/String") (FC : Fld Z h x "java/lang/String" "coder" "B" (.int (0 : Int32))) (FV : Fld Z h x "java/lang/String" "value" "[B" (.ref t)) (VT : Arv Z h t kt .byte 10 [(.int lc), (.int y0), (.int y1), (.int y2), (.int y3), (.int y4), (.int y5), (.int y6), (.int y7), (.int tc)] (.int (0 : Int32))) (hlc : (¬ lc < 0 ∧ ¬ (32 : Int32) < lc)) (htc : (¬ tc < 0 ∧ ¬ (32 : Int32) < tc)) (l0 : (y0 = (105 : Int32) ∨ y0 = (73 : Int32))) (l1 : (y1 = (110 : Int32) ∨ y1 = (78 : Int32))) (l2 : (y2 = (102 : Int32) ∨ y2 = (70 : Int32))) (l3 : (y3 = (105 : Int32) ∨ y3 = (73 : Int32))) (l4 : (y4 = (110 : Int32) ∨ y4 = (78 : Int32))) (l5 : (y5 = (105 : Int32) ∨ y5 = (73 : Int32))) (l6 : (y6 = (116 : Int32) ∨ y6 = (84 : Int32))) (l7 : (y7 = (121 : Int32) ∨ y7 = (89 : Int32))) (hx : Z.heap.size ≤ x) (EO : Exa Z h op_ "java/util/Optional") (FO : Fld Z h op_ "java/util/Optional" "value" "Ljava/lang/Object;" (.ref x)) :
    Con l (⟨"com/example/synctoken/synctoken/dav/Depth", "parse", "(Ljava/util/Optional;Lcom/example/synctoken/synctoken/dav/Depth;)Lcom/example/synctoken/synctoken/dav/Depth;"⟩ : MethodName) prog_4_method_4_code 3 (some (.object "com/example/synctoken/synctoken/dav/Depth")) [] ({ frames := 7, cells := 3, slots := 15, locals := 168 } : Room) Z #[(.ref op_), (.ref ab)] h (fun v' h' => v' = some (.ref p_9) ∧ Ext h h') := by
  refine con_of (plainFor_of_name pn_7) hE (fun m => ef_rPa311 m op_ ab) ?_
  intro p e s m below meth c T0 C X0
  have C : Cx p s m meth c Z "com/example/synctoken/synctoken/dav/Depth" "parse" prog_4_method_4_code 3 (some (.object "com/example/synctoken/synctoken/dav/Depth")) := C
  show Goes p e below _ T0 (mkF m 0 #[.val (.ref op_), .val (.ref ab), .unset] [])
  refine g_aloadN C X0 d2_0 rfl rfl (g_astoreN C X0 d2_1 rfl (l' := #[.val (.ref op_), .val (.ref ab), .val (.ref ab)]) rfl (g_aloadN C X0 d2_2 rfl rfl (g_virtualP (argsL := []) (st := []) C X0 (wd hw 12 rfl) (wd hw 13 rfl) (nf_of C (wd hw 15 rfl) rfl rfl) (wd hw 15 rfl) (wd hw 14 rfl) (by decide) EO (pay_of (W' := 0) (rIsR l hw X0.ext op_ x FO) C.hZ (wd hw 16 rfl) (wd hw 6 rfl) (by decide) (by decide)) pd_11 rfl rfl _ rfl (Nat.le_of_eq rfl) d2_3 (by decide) (by decide) (fun T749 X749 => ?_))))
  refine g_if (h0_eq _) C X749 d2_6 (fun q => absurd q (by decide)) (fun _ => ?_)
  refine g_aloadN C X749 d2_9 rfl rfl (g_virtualP (argsL := []) (st := []) C X749 (wd hw 74 rfl) (wd hw 75 rfl) (nf_of C (wd hw 77 rfl) rfl rfl) (wd hw 77 rfl) (wd hw 76 rfl) (by decide) EO (pay_of (W' := 0) (rGet l hw X749.ext op_ x FO) C.hZ (wd hw 78 rfl) (wd hw 6 rfl) (by decide) (by decide)) pd_19 rfl rfl _ rfl (Nat.le_of_eq rfl) d2_10 (by decide) (by decide) (fun T750 X750 => ?_))
  refine g_checkcast C X750 (wd hw 79 rfl) (Ins.self EX) d2_13 (fun T751 X751 => ?_)
  refine g_virtual (argsL := []) (st := []) C X751 (wd hw 80 rfl) (wd hw 81 rfl) (nf_of C (wd hw 83 rfl) rfl rfl) (wd hw 83 rfl) (wd hw 82 rfl) (by decide) EX (pay_of (W' := 0) (rTr811 l hw X751.ext x z_ SZ hz t kt lc y0 y1 y2 y3 y4 y5 y6 y7 tc EX FC FV VT hlc (own_let l0 (by decide) (by decide)) (own_let l1 (by decide) (by decide)) (own_let l2 (by decide) (by decide)) (own_let l3 (by decide) (by decide)) (own_let l4 (by decide) (by decide)) (own_let l5 (by decide) (by decide)) (own_let l6 (by decide) (by decide)) (own_let l7 (by decide) (by decide)) htc) C.hZ (wd hw 84 rfl) (wd hw 33 rfl) (by decide) (by decide)) pd_20 rfl rfl _ rfl (Nat.le_of_eq rfl) d2_16 (by decide) (by decide) (fun T752 h752 v752 q752 X752 => ?_)
  obtain ⟨x752, t752, k752, rfl, nx752, gx752, E752, A752, C752, F752, V752⟩ := q752
  show Goes p e below _ T752 (mkF m 19 #[.val (.ref op_), .val (.ref ab), .val (.ref ab)] [(.ref x752)])
  refine g_static (argsL := [(.ref x752)]) (st := []) C X752 (wd hw 94 rfl) (wd hw 95 rfl) (wd hw 2 rfl) (wd hw 96 rfl) (by decide) (pay_of (W' := 0) (rNa3 l hw X752.ext x752 p_1 p_5 p_9 p_13 p_19 p_23 p_29 p_33 p_39 p_43 k_50 k_52 k_54 k_56 z_ SZ hz t752 k752 y0 y1 y2 y3 y4 y5 y6 y7 S_3 E_4 S_7 E_8 S_11 E_12 S_15 E_18 F_21 E_22 F_25 F_28 F_31 E_32 F_35 F_38 F_41 E_42 F_45 F_48 V_49 V_51 V_53 V_55 A752 C752 F752 V752 l0 l1 l2 l3 l4 l5 l6 l7 nx752) C.hZ (wd hw 96 rfl) (wd hw 2 rfl) (by decide) (by decide)) pd_21 rfl rfl _ rfl (Nat.le_of_eq rfl) d2_19 (by decide) (by decide) (fun T753 h753 v753 q753 X753 => ?_)
  obtain ⟨rfl, E753⟩ := q753
  show Goes p e below _ T753 (mkF m 22 #[.val (.ref op_), .val (.ref ab), .val (.ref ab)] [(.ref p_9)])
  refine g_astoreN C X753 d2_22 rfl (l' := #[.val (.ref op_), .val (.ref ab), .val (.ref p_9)]) rfl (g_aloadN C X753 d2_23 rfl rfl ?_)
  have kp754 := (Keep.refl h []).ext E752
  have kp755 := kp754.ext E753
  exact g_retA C X753 rfl rfl d2_24 (by decide) (by decide) ⟨rfl, keep_ext kp755⟩
theorem d0_36 : Dc code 36 (.iload_n 0) 1 37 := ⟨at_36, rfl⟩
theorem d0_37 : Dc code 37 (.iconst 3) 1 38 := ⟨at_37, rfl⟩
theorem d0_38 : Dc code 38 (.iand) 1 39 := ⟨at_38, rfl⟩
theorem d0_39 : Dc code 39 (.istore 8) 2 41 := ⟨at_39, rfl⟩
theorem d0_41 : Dc code 41 (.iload 8) 2 43 := ⟨at_41, rfl⟩
theorem d0_43 : Dj code 43 (.ifCond .ne 26) 26 3 46 69 := ⟨at_43, rfl, by decide, by decide⟩
theorem d0_46 : Dc code 46 (.invokestatic 20) 3 49 := ⟨at_46, rfl⟩
theorem pd_22 : parseMethodDescriptor "()Ljava/util/Optional;" = some ⟨[], some (.object "java/util/Optional")⟩ := by decide +kernel
theorem d0_49 : Dc code 49 (.astore 9) 2 51 := ⟨at_49, rfl⟩
theorem d0_51 : Dc code 51 (.aload 9) 2 53 := ⟨at_51, rfl⟩
theorem d0_53 : Dc code 53 (.aload 7) 2 55 := ⟨at_53, rfl⟩
theorem d0_55 : Dc code 55 (.invokestatic 26) 3 58 := ⟨at_55, rfl⟩
theorem pd_23 : parseMethodDescriptor "(Ljava/util/Optional;Lcom/example/synctoken/synctoken/dav/Depth;)Lcom/example/synctoken/synctoken/dav/Depth;" = some ⟨[(.object "java/util/Optional"), (.object "com/example/synctoken/synctoken/dav/Depth")], some (.object "com/example/synctoken/synctoken/dav/Depth")⟩ := by decide +kernel
theorem d0_58 : Dc code 58 (.aload 7) 2 60 := ⟨at_58, rfl⟩
theorem d0_60 : Dj code 60 (.if_acmp .ne 7) 7 3 63 67 := ⟨at_60, rfl, by decide, by decide⟩
theorem d0_63 : Dc code 63 (.iconst 1) 1 64 := ⟨at_63, rfl⟩
theorem d0_64 : Dj code 64 (.goto 4) 4 3 67 68 := ⟨at_64, rfl, by decide, by decide⟩
theorem d0_68 : Dc code 68 (.ireturn) 1 69 := ⟨at_68, rfl⟩
theorem d0_69 : Dc code 69 (.iload_n 3) 1 70 := ⟨at_69, rfl⟩
theorem d0_70 : Dc code 70 (.iconst 1) 1 71 := ⟨at_70, rfl⟩
theorem d0_71 : Dc code 71 (.iand) 1 72 := ⟨at_71, rfl⟩
theorem d0_72 : Dc code 72 (.istore 9) 2 74 := ⟨at_72, rfl⟩
theorem d0_74 : Dc code 74 (.iload_n 3) 1 75 := ⟨at_74, rfl⟩
theorem d0_75 : Dc code 75 (.iconst 1) 1 76 := ⟨at_75, rfl⟩
theorem d0_76 : Dc code 76 (.ishr) 1 77 := ⟨at_76, rfl⟩
theorem d0_77 : Dc code 77 (.iconst 1) 1 78 := ⟨at_77, rfl⟩
theorem d0_78 : Dc code 78 (.iand) 1 79 := ⟨at_78, rfl⟩
theorem d0_79 : Dc code 79 (.istore 10) 2 81 := ⟨at_79, rfl⟩
theorem d0_81 : Dc code 81 (.iload 4) 2 83 := ⟨at_81, rfl⟩
theorem d0_83 : Dc code 83 (.ldc 7) 2 85 := ⟨at_83, rfl⟩
theorem d0_85 : Dc code 85 (.iand) 1 86 := ⟨at_85, rfl⟩
theorem d0_86 : Dc code 86 (.bipush 33) 2 88 := ⟨at_86, rfl⟩
theorem d0_88 : Dc code 88 (.irem) 1 89 := ⟨at_88, rfl⟩
theorem d0_89 : Dc code 89 (.i2c) 1 90 := ⟨at_89, rfl⟩
theorem d0_90 : Dc code 90 (.istore 11) 2 92 := ⟨at_90, rfl⟩
theorem d0_92 : Dc code 92 (.iload 5) 2 94 := ⟨at_92, rfl⟩
theorem d0_94 : Dc code 94 (.ldc 7) 2 96 := ⟨at_94, rfl⟩
theorem d0_96 : Dc code 96 (.iand) 1 97 := ⟨at_96, rfl⟩
theorem d0_97 : Dc code 97 (.bipush 33) 2 99 := ⟨at_97, rfl⟩
theorem d0_99 : Dc code 99 (.irem) 1 100 := ⟨at_99, rfl⟩
theorem d0_100 : Dc code 100 (.i2c) 1 101 := ⟨at_100, rfl⟩
theorem d0_101 : Dc code 101 (.istore 12) 2 103 := ⟨at_101, rfl⟩
theorem d0_103 : Dc code 103 (.iload 8) 2 105 := ⟨at_103, rfl⟩
theorem d0_105 : Dc code 105 (.iconst 3) 1 106 := ⟨at_105, rfl⟩
theorem d0_106 : Dj code 106 (.if_icmp .ne 8) 8 3 109 114 := ⟨at_106, rfl, by decide, by decide⟩
theorem d0_114 : Dc code 114 (.iconst 1) 1 115 := ⟨at_114, rfl⟩
theorem d0_115 : Dc code 115 (.istore 13) 2 117 := ⟨at_115, rfl⟩
theorem d0_117 : Dc code 117 (.iload 9) 2 119 := ⟨at_117, rfl⟩
theorem d0_119 : Dc code 119 (.iload 13) 2 121 := ⟨at_119, rfl⟩
theorem d0_121 : Dc code 121 (.iadd) 1 122 := ⟨at_121, rfl⟩
theorem d0_122 : Dc code 122 (.iload 10) 2 124 := ⟨at_122, rfl⟩
theorem d0_124 : Dc code 124 (.iadd) 1 125 := ⟨at_124, rfl⟩
theorem d0_125 : Dc code 125 (.iload 9) 2 127 := ⟨at_125, rfl⟩
theorem d0_127 : Dc code 127 (.iload 13) 2 129 := ⟨at_127, rfl⟩
theorem d0_129 : Dc code 129 (.iload 8) 2 131 := ⟨at_129, rfl⟩
theorem d0_131 : Dc code 131 (.iload_n 2) 1 132 := ⟨at_131, rfl⟩
theorem d0_132 : Dc code 132 (.iload 11) 2 134 := ⟨at_132, rfl⟩
theorem d0_134 : Dc code 134 (.iload 12) 2 136 := ⟨at_134, rfl⟩
theorem d0_136 : Dc code 136 (.invokestatic 30) 3 139 := ⟨at_136, rfl⟩
theorem pd_24 : parseMethodDescriptor "(IIIIICC)Ljava/lang/String;" = some ⟨[.int, .int, .int, .int, .int, .char, .char], some (.object "java/lang/String")⟩ := by decide +kernel
theorem d0_139 : Dc code 139 (.astore 14) 2 141 := ⟨at_139, rfl⟩
theorem d0_141 : Dc code 141 (.iload 8) 2 143 := ⟨at_141, rfl⟩
theorem d0_143 : Dc code 143 (.iconst 1) 1 144 := ⟨at_143, rfl⟩
theorem d0_144 : Dj code 144 (.if_icmp .ne 9) 9 3 147 153 := ⟨at_144, rfl, by decide, by decide⟩
theorem d0_147 : Dc code 147 (.getstatic 8) 3 150 := ⟨at_147, rfl⟩
theorem d0_150 : Dj code 150 (.goto 18) 18 3 153 168 := ⟨at_150, rfl, by decide, by decide⟩
theorem d0_168 : Dc code 168 (.astore 15) 2 170 := ⟨at_168, rfl⟩
theorem d0_170 : Dc code 170 (.aload 14) 2 172 := ⟨at_170, rfl⟩
theorem d0_172 : Dc code 172 (.invokestatic 36) 3 175 := ⟨at_172, rfl⟩
theorem pd_25 : parseMethodDescriptor "(Ljava/lang/Object;)Ljava/util/Optional;" = some ⟨[(.object "java/lang/Object")], some (.object "java/util/Optional")⟩ := by decide +kernel
theorem d0_175 : Dc code 175 (.aload 7) 2 177 := ⟨at_175, rfl⟩
theorem d0_177 : Dc code 177 (.invokestatic 26) 3 180 := ⟨at_177, rfl⟩
theorem d0_180 : Dc code 180 (.aload 15) 2 182 := ⟨at_180, rfl⟩
theorem d0_182 : Dj code 182 (.if_acmp .ne 7) 7 3 185 189 := ⟨at_182, rfl, by decide, by decide⟩
theorem d0_185 : Dc code 185 (.iconst 1) 1 186 := ⟨at_185, rfl⟩
theorem d0_186 : Dj code 186 (.goto 4) 4 3 189 190 := ⟨at_186, rfl, by decide, by decide⟩
theorem d0_190 : Dc code 190 (.ireturn) 1 191 := ⟨at_190, rfl⟩
theorem d0_153 : Dc code 153 (.iload 8) 2 155 := ⟨at_153, rfl⟩
theorem d0_155 : Dc code 155 (.iconst 2) 1 156 := ⟨at_155, rfl⟩
theorem d0_156 : Dj code 156 (.if_icmp .ne 9) 9 3 159 165 := ⟨at_156, rfl, by decide, by decide⟩
theorem d0_159 : Dc code 159 (.getstatic 14) 3 162 := ⟨at_159, rfl⟩
theorem d0_162 : Dj code 162 (.goto 6) 6 3 165 168 := ⟨at_162, rfl, by decide, by decide⟩
theorem d0_109 : Dc code 109 (.bipush 8) 2 111 := ⟨at_109, rfl⟩
theorem d0_111 : Dj code 111 (.goto 4) 4 3 114 115 := ⟨at_111, rfl, by decide, by decide⟩
theorem d0_165 : Dc code 165 (.getstatic 17) 3 168 := ⟨at_165, rfl⟩
theorem seg36 {p : Program} {l : Launch} {e : Env} {s : State} {m : MethodId} {A : Array Value} {below : List Frame} {meth : Method} {c : Code} {Z : State} {a0 : Array Value} (hw : ∀ d ∈ tables_1, d.before a0 Z = true) {T0 : State} {h : Heap} (p0 p1 p2 p3 p4 p5 : Int32) (s6 : Slot) (ab : Addr) (p_1 p_5 p_9 p_13 p_19 p_23 p_29 p_33 p_39 p_43 : Addr) (k_50 k_52 k_54 k_56 : ClassId) (z_ : Int32) (SZ : Sta Z Z.heap "java/lang/String" "COMPACT_STRINGS" "Z" (.int z_)) (hz : ¬ z_ = 0) (oe : Addr) (SE : Sta Z Z.heap "java/util/Optional" "EMPTY" "Ljava/util/Optional;" (.ref oe)) (EE : Exa Z Z.heap oe "java/util/Optional") (FE : Fld Z Z.heap oe "java/util/Optional" "value" "Ljava/lang/Object;" .null) (C : Cx p s m meth c Z "com/example/synctoken/synctoken/dav/DepthParsePinLaw" "law" code maxLocals ret) (X0 : St p l e room_1 s m A below meth c Z T0 h 0 0) (S_3 : Sta Z Z.heap "com/example/synctoken/synctoken/dav/Depth" "ZERO" "Lcom/example/synctoken/synctoken/dav/Depth;" (.ref p_1)) (E_4 : Exa Z Z.heap p_1 "com/example/synctoken/synctoken/dav/Depth") (S_7 : Sta Z Z.heap "com/example/synctoken/synctoken/dav/Depth" "ONE" "Lcom/example/synctoken/synctoken/dav/Depth;" (.ref p_5)) (E_8 : Exa Z Z.heap p_5 "com/example/synctoken/synctoken/dav/Depth") (S_11 : Sta Z Z.heap "com/example/synctoken/synctoken/dav/Depth" "INFINITY" "Lcom/example/synctoken/synctoken/dav/Depth;" (.ref p_9)) (E_12 : Exa Z Z.heap p_9 "com/example/synctoken/synctoken/dav/Depth") (S_15 : Sta Z Z.heap "com/example/synctoken/synctoken/dav/Depth" "$VALUES" "[Lcom/example/synctoken/synctoken/dav/Depth;" (.ref p_13)) (E_18 : Exa Z Z.heap p_13 "[Lcom/example/synctoken/synctoken/dav/Depth;") (F_21 : Fld Z Z.heap p_1 "com/example/synctoken/synctoken/dav/Depth" "value" "Ljava/lang/String;" (.ref p_19)) (E_22 : Exa Z Z.heap p_19 "java/lang/String") (F_25 : Fld Z Z.heap p_19 "java/lang/String" "value" "[B" (.ref p_23)) (F_28 : Fld Z Z.heap p_19 "java/lang/String" "coder" "B" (.int 0)) (F_31 : Fld Z Z.heap p_5 "com/example/synctoken/synctoken/dav/Depth" "value" "Ljava/lang/String;" (.ref p_29)) (E_32 : Exa Z Z.heap p_29 "java/lang/String") (F_35 : Fld Z Z.heap p_29 "java/lang/String" "value" "[B" (.ref p_33)) (F_38 : Fld Z Z.heap p_29 "java/lang/String" "coder" "B" (.int 0)) (F_41 : Fld Z Z.heap p_9 "com/example/synctoken/synctoken/dav/Depth" "value" "Ljava/lang/String;" (.ref p_39)) (E_42 : Exa Z Z.heap p_39 "java/lang/String") (F_45 : Fld Z Z.heap p_39 "java/lang/String" "value" "[B" (.ref p_43)) (F_48 : Fld Z Z.heap p_39 "java/lang/String" "coder" "B" (.int 0)) (V_49 : Arv Z Z.heap p_13 k_50 (.object "com/example/synctoken/synctoken/dav/Depth") 3 [(.ref p_1), (.ref p_5), (.ref p_9)] .null) (V_51 : Arv Z Z.heap p_23 k_52 .byte 1 [(.int 48)] (.int 0)) (V_53 : Arv Z Z.heap p_33 k_54 .byte 1 [(.int 49)] (.int 0)) (V_55 : Arv Z Z.heap p_43 k_56 .byte 8 [(.int 105), (.int 110), (.int 102), (.int 105), (.int 110), (.int 105), (.int 116), (.int 121)] (.int 0)) :
    Goes p e below (EndW Z s 24 192 (fun v' h' => v' = some (.int 1))) T0 (mkF m 36 #[.val (.int p0), .val (.int p1), .val (.int p2), .val (.int p3), .val (.int p4), .val (.int p5), s6, .val (.ref ab), .unset, .unset, .unset, .unset, .unset, .unset, .unset, .unset] []) := by
  refine g_iloadN C X0 d0_36 rfl (g_iconst 3 C X0 d0_37 rfl (g_iand C X0 d0_38 (g_istore C X0 d0_39 (l' := #[.val (.int p0), .val (.int p1), .val (.int p2), .val (.int p3), .val (.int p4), .val (.int p5), s6, .val (.ref ab), .val (.int (p0 &&& (3 : Int32))), .unset, .unset, .unset, .unset, .unset, .unset, .unset]) rfl ?_)))
  rcases own_n4 p0 with e4 | e4 | e4 | e4
  · rw [e4]
    refine g_iload C X0 d0_41 rfl (g_ifn (h0_ne _) C X0 d0_43 (fun q => absurd (by decide) q) (fun _ => ?_))
    refine g_staticP (argsL := []) (st := []) C X0 (wd hw 4 rfl) (wd hw 5 rfl) (wd hw 6 rfl) (wd hw 7 rfl) (by decide) (pay_of (W' := 0) (rEm l hw X0.ext oe SE EE FE) C.hZ (wd hw 7 rfl) (wd hw 6 rfl) (by decide) (by decide)) pd_22 rfl rfl _ rfl (Nat.le_of_eq rfl) d0_46 (by decide) (by decide) (fun T756 X756 => ?_)
    refine g_astore C X756 d0_49 rfl (l' := #[.val (.int p0), .val (.int p1), .val (.int p2), .val (.int p3), .val (.int p4), .val (.int p5), s6, .val (.ref ab), .val (.int 0), .val (.ref oe), .unset, .unset, .unset, .unset, .unset, .unset]) rfl (g_aload C X756 d0_51 rfl rfl (g_aload C X756 d0_53 rfl rfl (g_staticP (argsL := [(.ref oe), (.ref ab)]) (st := []) C X756 (wd hw 9 rfl) (wd hw 10 rfl) (wd hw 2 rfl) (wd hw 11 rfl) (by decide) (pay_of (W' := 0) (rPa0 l hw X756.ext oe ab SE EE FE) C.hZ (wd hw 11 rfl) (wd hw 2 rfl) (by decide) (by decide)) pd_23 rfl rfl _ rfl (Nat.le_of_eq rfl) d0_55 (by decide) (by decide) (fun T757 X757 => ?_))))
    refine g_aload C X757 d0_58 rfl rfl (g_acmpne C X757 d0_60 rfl rfl (fun q => absurd rfl q) (fun _ => ?_))
    refine g_iconst 1 C X757 d0_63 rfl (g_goto C X757 d0_64 ?_)
    exact g_retN C X757 (by simp) d0_68 (1 : Int32) rfl (by decide) (by decide) rfl
  · rw [e4]
    refine g_iload C X0 d0_41 rfl (g_ifn (h0_ne _) C X0 d0_43 (fun _ => ?_) (fun q => absurd q (by decide)))
    refine g_iloadN C X0 d0_69 rfl (g_iconst 1 C X0 d0_70 rfl (g_iand C X0 d0_71 (g_istore C X0 d0_72 (l' := #[.val (.int p0), .val (.int p1), .val (.int p2), .val (.int p3), .val (.int p4), .val (.int p5), s6, .val (.ref ab), .val (.int 1), .val (.int (p3 &&& (1 : Int32))), .unset, .unset, .unset, .unset, .unset, .unset]) rfl (g_iloadN C X0 d0_74 rfl (g_iconst 1 C X0 d0_75 rfl (g_ishr C X0 d0_76 (g_iconst 1 C X0 d0_77 rfl (g_iand C X0 d0_78 (g_istore C X0 d0_79 (l' := #[.val (.int p0), .val (.int p1), .val (.int p2), .val (.int p3), .val (.int p4), .val (.int p5), s6, .val (.ref ab), .val (.int 1), .val (.int (p3 &&& (1 : Int32))), .val (.int ((p3 >>> ((1 : Int32) &&& 31)) &&& (1 : Int32))), .unset, .unset, .unset, .unset, .unset]) rfl ?_)))))))))
    rcases own_n2 p3 with e1 | e1 <;> rcases own_n2 (p3 >>> ((1 : Int32) &&& 31)) with e2 | e2
    · rw [e1, e2]
      refine g_iload C X0 d0_81 rfl (g_ldcI C X0 (wd hw 0 rfl) d0_83 (g_iand C X0 d0_85 (g_bipush 33 C X0 d0_86 rfl (g_irem C X0 d0_88 (by decide) (g_i2c C X0 d0_89 (g_istore C X0 d0_90 (l' := #[.val (.int p0), .val (.int p1), .val (.int p2), .val (.int p3), .val (.int p4), .val (.int p5), s6, .val (.ref ab), .val (.int 1), .val (.int 0), .val (.int 0), .val (.int (((p4 &&& (2147483647 : Int32)) % (33 : Int32)).toUInt32.toUInt16.toUInt32.toInt32)), .unset, .unset, .unset, .unset]) rfl (g_iload C X0 d0_92 rfl (g_ldcI C X0 (wd hw 0 rfl) d0_94 (g_iand C X0 d0_96 (g_bipush 33 C X0 d0_97 rfl (g_irem C X0 d0_99 (by decide) ?_)))))))))))
      refine g_i2c C X0 d0_100 (g_istore C X0 d0_101 (l' := #[.val (.int p0), .val (.int p1), .val (.int p2), .val (.int p3), .val (.int p4), .val (.int p5), s6, .val (.ref ab), .val (.int 1), .val (.int 0), .val (.int 0), .val (.int (((p4 &&& (2147483647 : Int32)) % (33 : Int32)).toUInt32.toUInt16.toUInt32.toInt32)), .val (.int (((p5 &&& (2147483647 : Int32)) % (33 : Int32)).toUInt32.toUInt16.toUInt32.toInt32)), .unset, .unset, .unset]) rfl ?_)
      obtain ⟨lc, ec⟩ : ∃ a : Int32, a = (((p4 &&& (2147483647 : Int32)) % (33 : Int32)).toUInt32.toUInt16.toUInt32.toInt32) := ⟨_, rfl⟩
      obtain ⟨tc, et⟩ : ∃ b : Int32, b = (((p5 &&& (2147483647 : Int32)) % (33 : Int32)).toUInt32.toUInt16.toUInt32.toInt32) := ⟨_, rfl⟩
      rw [← ec, ← et]
      have hlc : (¬ lc < 0 ∧ ¬ (32 : Int32) < lc) := ec ▸ own_r33 p4
      have htc : (¬ tc < 0 ∧ ¬ (32 : Int32) < tc) := et ▸ own_r33 p5
      show Goes p e below _ T0 (mkF m 103 #[.val (.int p0), .val (.int p1), .val (.int p2), .val (.int p3), .val (.int p4), .val (.int p5), s6, .val (.ref ab), .val (.int 1), .val (.int 0), .val (.int 0), .val (.int lc), .val (.int tc), .unset, .unset, .unset] [])
      refine g_iload C X0 d0_103 rfl (g_iconst 3 C X0 d0_105 rfl (g_icmpn (hI_ne _ _) C X0 d0_106 (fun _ => ?_) (fun q => absurd q (by decide))))
      refine g_iconst 1 C X0 d0_114 rfl (g_istore C X0 d0_115 (l' := #[.val (.int p0), .val (.int p1), .val (.int p2), .val (.int p3), .val (.int p4), .val (.int p5), s6, .val (.ref ab), .val (.int 1), .val (.int 0), .val (.int 0), .val (.int lc), .val (.int tc), .val (.int 1), .unset, .unset]) rfl (g_iload C X0 d0_117 rfl (g_iload C X0 d0_119 rfl (g_iadd C X0 d0_121 (g_iload C X0 d0_122 rfl (g_iadd C X0 d0_124 (g_iload C X0 d0_125 rfl (g_iload C X0 d0_127 rfl (g_iload C X0 d0_129 rfl (g_iloadN C X0 d0_131 rfl (g_iload C X0 d0_132 rfl ?_)))))))))))
      refine g_iload C X0 d0_134 rfl (g_static (argsL := [(.int 1), (.int 0), (.int 1), (.int 1), (.int p2), (.int lc), (.int tc)]) (st := []) C X0 (wd hw 23 rfl) (wd hw 24 rfl) (wd hw 25 rfl) (wd hw 26 rfl) (by decide) (pay_of (W' := 0) (rSt100 l hw X0.ext p2 lc tc z_ SZ hz hlc htc) C.hZ (wd hw 26 rfl) (wd hw 25 rfl) (by decide) (by decide)) pd_24 rfl rfl _ rfl (Nat.le_of_eq rfl) d0_136 (by decide) (by decide) (fun T758 h758 v758 q758 X758 => ?_))
      obtain ⟨x758, t758, k758, rfl, nx758, gx758, E758, A758, C758, F758, V758⟩ := q758
      show Goes p e below _ T758 (mkF m 139 #[.val (.int p0), .val (.int p1), .val (.int p2), .val (.int p3), .val (.int p4), .val (.int p5), s6, .val (.ref ab), .val (.int 1), .val (.int 0), .val (.int 0), .val (.int lc), .val (.int tc), .val (.int 1), .unset, .unset] [(.ref x758)])
      refine g_astore C X758 d0_139 rfl (l' := #[.val (.int p0), .val (.int p1), .val (.int p2), .val (.int p3), .val (.int p4), .val (.int p5), s6, .val (.ref ab), .val (.int 1), .val (.int 0), .val (.int 0), .val (.int lc), .val (.int tc), .val (.int 1), .val (.ref x758), .unset]) rfl (g_iload C X758 d0_141 rfl (g_iconst 1 C X758 d0_143 rfl (g_icmpn (hI_ne _ _) C X758 d0_144 (fun q => absurd (by decide) q) (fun _ => ?_))))
      refine g_getstatic (host := "") C X758 (Or.inl (wd hw 1 rfl)) Via.refl S_3 d0_147 (fun T759 X759 => ?_)
      refine g_goto C X759 d0_150 (g_astore C X759 d0_168 rfl (l' := #[.val (.int p0), .val (.int p1), .val (.int p2), .val (.int p3), .val (.int p4), .val (.int p5), s6, .val (.ref ab), .val (.int 1), .val (.int 0), .val (.int 0), .val (.int lc), .val (.int tc), .val (.int 1), .val (.ref x758), .val (.ref p_1)]) rfl (g_aload C X759 d0_170 rfl rfl (g_static (argsL := [(.ref x758)]) (st := []) C X759 (wd hw 60 rfl) (wd hw 61 rfl) (wd hw 6 rfl) (wd hw 62 rfl) (by decide) (pay_of (W' := 0) (rOf l hw X759.ext x758) C.hZ (wd hw 62 rfl) (wd hw 6 rfl) (by decide) (by decide)) pd_25 rfl rfl _ rfl (Nat.le_of_eq rfl) d0_172 (by decide) (by decide) (fun T760 h760 v760 q760 X760 => ?_))))
      obtain ⟨b760, rfl, n_b760, g760, E760, A760, F760⟩ := q760
      show Goes p e below _ T760 (mkF m 175 #[.val (.int p0), .val (.int p1), .val (.int p2), .val (.int p3), .val (.int p4), .val (.int p5), s6, .val (.ref ab), .val (.int 1), .val (.int 0), .val (.int 0), .val (.int lc), .val (.int tc), .val (.int 1), .val (.ref x758), .val (.ref p_1)] [(.ref b760)])
      refine g_aload C X760 d0_175 rfl rfl ?_
      have f761 := (Exa.ext E760 A758)
      have f762 := (Fld.ext E760 C758)
      have f763 := (Fld.ext E760 F758)
      have f764 := (Arv.ext V758 E760)
      refine g_static (argsL := [(.ref b760), (.ref ab)]) (st := []) C X760 (wd hw 9 rfl) (wd hw 10 rfl) (wd hw 2 rfl) (wd hw 11 rfl) (by decide) (pay_of (W' := 0) (rPa100 l hw X760.ext b760 ab x758 p_1 p_5 p_9 p_13 p_19 p_23 p_29 p_33 p_39 p_43 k_50 k_52 k_54 k_56 z_ SZ hz t758 k758  S_3 E_4 S_7 E_8 S_11 E_12 S_15 E_18 F_21 E_22 F_25 F_28 F_31 E_32 F_35 F_38 F_41 E_42 F_45 F_48 V_49 V_51 V_53 V_55 f761 f762 f763 f764   nx758 A760 F760) C.hZ (wd hw 11 rfl) (wd hw 2 rfl) (by decide) (by decide)) pd_23 rfl rfl _ rfl (Nat.le_of_eq rfl) d0_177 (by decide) (by decide) (fun T765 h765 v765 q765 X765 => ?_)
      obtain ⟨rfl, E765⟩ := q765
      show Goes p e below _ T765 (mkF m 180 #[.val (.int p0), .val (.int p1), .val (.int p2), .val (.int p3), .val (.int p4), .val (.int p5), s6, .val (.ref ab), .val (.int 1), .val (.int 0), .val (.int 0), .val (.int lc), .val (.int tc), .val (.int 1), .val (.ref x758), .val (.ref p_1)] [(.ref p_1)])
      refine g_aload C X765 d0_180 rfl rfl (g_acmpne C X765 d0_182 rfl rfl (fun q => absurd rfl q) (fun _ => ?_))
      refine g_iconst 1 C X765 d0_185 rfl (g_goto C X765 d0_186 ?_)
      exact g_retN C X765 (by simp) d0_190 (1 : Int32) rfl (by decide) (by decide) rfl
    · rw [e1, e2]
      refine g_iload C X0 d0_81 rfl (g_ldcI C X0 (wd hw 0 rfl) d0_83 (g_iand C X0 d0_85 (g_bipush 33 C X0 d0_86 rfl (g_irem C X0 d0_88 (by decide) (g_i2c C X0 d0_89 (g_istore C X0 d0_90 (l' := #[.val (.int p0), .val (.int p1), .val (.int p2), .val (.int p3), .val (.int p4), .val (.int p5), s6, .val (.ref ab), .val (.int 1), .val (.int 0), .val (.int 1), .val (.int (((p4 &&& (2147483647 : Int32)) % (33 : Int32)).toUInt32.toUInt16.toUInt32.toInt32)), .unset, .unset, .unset, .unset]) rfl (g_iload C X0 d0_92 rfl (g_ldcI C X0 (wd hw 0 rfl) d0_94 (g_iand C X0 d0_96 (g_bipush 33 C X0 d0_97 rfl (g_irem C X0 d0_99 (by decide) ?_)))))))))))
      refine g_i2c C X0 d0_100 (g_istore C X0 d0_101 (l' := #[.val (.int p0), .val (.int p1), .val (.int p2), .val (.int p3), .val (.int p4), .val (.int p5), s6, .val (.ref ab), .val (.int 1), .val (.int 0), .val (.int 1), .val (.int (((p4 &&& (2147483647 : Int32)) % (33 : Int32)).toUInt32.toUInt16.toUInt32.toInt32)), .val (.int (((p5 &&& (2147483647 : Int32)) % (33 : Int32)).toUInt32.toUInt16.toUInt32.toInt32)), .unset, .unset, .unset]) rfl ?_)
      obtain ⟨lc, ec⟩ : ∃ a : Int32, a = (((p4 &&& (2147483647 : Int32)) % (33 : Int32)).toUInt32.toUInt16.toUInt32.toInt32) := ⟨_, rfl⟩
      obtain ⟨tc, et⟩ : ∃ b : Int32, b = (((p5 &&& (2147483647 : Int32)) % (33 : Int32)).toUInt32.toUInt16.toUInt32.toInt32) := ⟨_, rfl⟩
      rw [← ec, ← et]
      have hlc : (¬ lc < 0 ∧ ¬ (32 : Int32) < lc) := ec ▸ own_r33 p4
      have htc : (¬ tc < 0 ∧ ¬ (32 : Int32) < tc) := et ▸ own_r33 p5
      show Goes p e below _ T0 (mkF m 103 #[.val (.int p0), .val (.int p1), .val (.int p2), .val (.int p3), .val (.int p4), .val (.int p5), s6, .val (.ref ab), .val (.int 1), .val (.int 0), .val (.int 1), .val (.int lc), .val (.int tc), .unset, .unset, .unset] [])
      refine g_iload C X0 d0_103 rfl (g_iconst 3 C X0 d0_105 rfl (g_icmpn (hI_ne _ _) C X0 d0_106 (fun _ => ?_) (fun q => absurd q (by decide))))
      refine g_iconst 1 C X0 d0_114 rfl (g_istore C X0 d0_115 (l' := #[.val (.int p0), .val (.int p1), .val (.int p2), .val (.int p3), .val (.int p4), .val (.int p5), s6, .val (.ref ab), .val (.int 1), .val (.int 0), .val (.int 1), .val (.int lc), .val (.int tc), .val (.int 1), .unset, .unset]) rfl (g_iload C X0 d0_117 rfl (g_iload C X0 d0_119 rfl (g_iadd C X0 d0_121 (g_iload C X0 d0_122 rfl (g_iadd C X0 d0_124 (g_iload C X0 d0_125 rfl (g_iload C X0 d0_127 rfl (g_iload C X0 d0_129 rfl (g_iloadN C X0 d0_131 rfl (g_iload C X0 d0_132 rfl ?_)))))))))))
      refine g_iload C X0 d0_134 rfl (g_static (argsL := [(.int 2), (.int 0), (.int 1), (.int 1), (.int p2), (.int lc), (.int tc)]) (st := []) C X0 (wd hw 23 rfl) (wd hw 24 rfl) (wd hw 25 rfl) (wd hw 26 rfl) (by decide) (pay_of (W' := 0) (rSt101 l hw X0.ext p2 lc tc z_ SZ hz hlc htc) C.hZ (wd hw 26 rfl) (wd hw 25 rfl) (by decide) (by decide)) pd_24 rfl rfl _ rfl (Nat.le_of_eq rfl) d0_136 (by decide) (by decide) (fun T766 h766 v766 q766 X766 => ?_))
      obtain ⟨x766, t766, k766, rfl, nx766, gx766, E766, A766, C766, F766, V766⟩ := q766
      show Goes p e below _ T766 (mkF m 139 #[.val (.int p0), .val (.int p1), .val (.int p2), .val (.int p3), .val (.int p4), .val (.int p5), s6, .val (.ref ab), .val (.int 1), .val (.int 0), .val (.int 1), .val (.int lc), .val (.int tc), .val (.int 1), .unset, .unset] [(.ref x766)])
      refine g_astore C X766 d0_139 rfl (l' := #[.val (.int p0), .val (.int p1), .val (.int p2), .val (.int p3), .val (.int p4), .val (.int p5), s6, .val (.ref ab), .val (.int 1), .val (.int 0), .val (.int 1), .val (.int lc), .val (.int tc), .val (.int 1), .val (.ref x766), .unset]) rfl (g_iload C X766 d0_141 rfl (g_iconst 1 C X766 d0_143 rfl (g_icmpn (hI_ne _ _) C X766 d0_144 (fun q => absurd (by decide) q) (fun _ => ?_))))
      refine g_getstatic (host := "") C X766 (Or.inl (wd hw 1 rfl)) Via.refl S_3 d0_147 (fun T767 X767 => ?_)
      refine g_goto C X767 d0_150 (g_astore C X767 d0_168 rfl (l' := #[.val (.int p0), .val (.int p1), .val (.int p2), .val (.int p3), .val (.int p4), .val (.int p5), s6, .val (.ref ab), .val (.int 1), .val (.int 0), .val (.int 1), .val (.int lc), .val (.int tc), .val (.int 1), .val (.ref x766), .val (.ref p_1)]) rfl (g_aload C X767 d0_170 rfl rfl (g_static (argsL := [(.ref x766)]) (st := []) C X767 (wd hw 60 rfl) (wd hw 61 rfl) (wd hw 6 rfl) (wd hw 62 rfl) (by decide) (pay_of (W' := 0) (rOf l hw X767.ext x766) C.hZ (wd hw 62 rfl) (wd hw 6 rfl) (by decide) (by decide)) pd_25 rfl rfl _ rfl (Nat.le_of_eq rfl) d0_172 (by decide) (by decide) (fun T768 h768 v768 q768 X768 => ?_))))
      obtain ⟨b768, rfl, n_b768, g768, E768, A768, F768⟩ := q768
      show Goes p e below _ T768 (mkF m 175 #[.val (.int p0), .val (.int p1), .val (.int p2), .val (.int p3), .val (.int p4), .val (.int p5), s6, .val (.ref ab), .val (.int 1), .val (.int 0), .val (.int 1), .val (.int lc), .val (.int tc), .val (.int 1), .val (.ref x766), .val (.ref p_1)] [(.ref b768)])
      refine g_aload C X768 d0_175 rfl rfl ?_
      have f769 := (Exa.ext E768 A766)
      have f770 := (Fld.ext E768 C766)
      have f771 := (Fld.ext E768 F766)
      have f772 := (Arv.ext V766 E768)
      refine g_static (argsL := [(.ref b768), (.ref ab)]) (st := []) C X768 (wd hw 9 rfl) (wd hw 10 rfl) (wd hw 2 rfl) (wd hw 11 rfl) (by decide) (pay_of (W' := 0) (rPa101 l hw X768.ext b768 ab x766 p_1 p_5 p_9 p_13 p_19 p_23 p_29 p_33 p_39 p_43 k_50 k_52 k_54 k_56 z_ SZ hz t766 k766 tc S_3 E_4 S_7 E_8 S_11 E_12 S_15 E_18 F_21 E_22 F_25 F_28 F_31 E_32 F_35 F_38 F_41 E_42 F_45 F_48 V_49 V_51 V_53 V_55 f769 f770 f771 f772 htc  nx766 A768 F768) C.hZ (wd hw 11 rfl) (wd hw 2 rfl) (by decide) (by decide)) pd_23 rfl rfl _ rfl (Nat.le_of_eq rfl) d0_177 (by decide) (by decide) (fun T773 h773 v773 q773 X773 => ?_)
      obtain ⟨rfl, E773⟩ := q773
      show Goes p e below _ T773 (mkF m 180 #[.val (.int p0), .val (.int p1), .val (.int p2), .val (.int p3), .val (.int p4), .val (.int p5), s6, .val (.ref ab), .val (.int 1), .val (.int 0), .val (.int 1), .val (.int lc), .val (.int tc), .val (.int 1), .val (.ref x766), .val (.ref p_1)] [(.ref p_1)])
      refine g_aload C X773 d0_180 rfl rfl (g_acmpne C X773 d0_182 rfl rfl (fun q => absurd rfl q) (fun _ => ?_))
      refine g_iconst 1 C X773 d0_185 rfl (g_goto C X773 d0_186 ?_)
      exact g_retN C X773 (by simp) d0_190 (1 : Int32) rfl (by decide) (by decide) rfl
    · rw [e1, e2]
      refine g_iload C X0 d0_81 rfl (g_ldcI C X0 (wd hw 0 rfl) d0_83 (g_iand C X0 d0_85 (g_bipush 33 C X0 d0_86 rfl (g_irem C X0 d0_88 (by decide) (g_i2c C X0 d0_89 (g_istore C X0 d0_90 (l' := #[.val (.int p0), .val (.int p1), .val (.int p2), .val (.int p3), .val (.int p4), .val (.int p5), s6, .val (.ref ab), .val (.int 1), .val (.int 1), .val (.int 0), .val (.int (((p4 &&& (2147483647 : Int32)) % (33 : Int32)).toUInt32.toUInt16.toUInt32.toInt32)), .unset, .unset, .unset, .unset]) rfl (g_iload C X0 d0_92 rfl (g_ldcI C X0 (wd hw 0 rfl) d0_94 (g_iand C X0 d0_96 (g_bipush 33 C X0 d0_97 rfl (g_irem C X0 d0_99 (by decide) ?_)))))))))))
      refine g_i2c C X0 d0_100 (g_istore C X0 d0_101 (l' := #[.val (.int p0), .val (.int p1), .val (.int p2), .val (.int p3), .val (.int p4), .val (.int p5), s6, .val (.ref ab), .val (.int 1), .val (.int 1), .val (.int 0), .val (.int (((p4 &&& (2147483647 : Int32)) % (33 : Int32)).toUInt32.toUInt16.toUInt32.toInt32)), .val (.int (((p5 &&& (2147483647 : Int32)) % (33 : Int32)).toUInt32.toUInt16.toUInt32.toInt32)), .unset, .unset, .unset]) rfl ?_)
      obtain ⟨lc, ec⟩ : ∃ a : Int32, a = (((p4 &&& (2147483647 : Int32)) % (33 : Int32)).toUInt32.toUInt16.toUInt32.toInt32) := ⟨_, rfl⟩
      obtain ⟨tc, et⟩ : ∃ b : Int32, b = (((p5 &&& (2147483647 : Int32)) % (33 : Int32)).toUInt32.toUInt16.toUInt32.toInt32) := ⟨_, rfl⟩
      rw [← ec, ← et]
      have hlc : (¬ lc < 0 ∧ ¬ (32 : Int32) < lc) := ec ▸ own_r33 p4
      have htc : (¬ tc < 0 ∧ ¬ (32 : Int32) < tc) := et ▸ own_r33 p5
      show Goes p e below _ T0 (mkF m 103 #[.val (.int p0), .val (.int p1), .val (.int p2), .val (.int p3), .val (.int p4), .val (.int p5), s6, .val (.ref ab), .val (.int 1), .val (.int 1), .val (.int 0), .val (.int lc), .val (.int tc), .unset, .unset, .unset] [])
      refine g_iload C X0 d0_103 rfl (g_iconst 3 C X0 d0_105 rfl (g_icmpn (hI_ne _ _) C X0 d0_106 (fun _ => ?_) (fun q => absurd q (by decide))))
      refine g_iconst 1 C X0 d0_114 rfl (g_istore C X0 d0_115 (l' := #[.val (.int p0), .val (.int p1), .val (.int p2), .val (.int p3), .val (.int p4), .val (.int p5), s6, .val (.ref ab), .val (.int 1), .val (.int 1), .val (.int 0), .val (.int lc), .val (.int tc), .val (.int 1), .unset, .unset]) rfl (g_iload C X0 d0_117 rfl (g_iload C X0 d0_119 rfl (g_iadd C X0 d0_121 (g_iload C X0 d0_122 rfl (g_iadd C X0 d0_124 (g_iload C X0 d0_125 rfl (g_iload C X0 d0_127 rfl (g_iload C X0 d0_129 rfl (g_iloadN C X0 d0_131 rfl (g_iload C X0 d0_132 rfl ?_)))))))))))
      refine g_iload C X0 d0_134 rfl (g_static (argsL := [(.int 2), (.int 1), (.int 1), (.int 1), (.int p2), (.int lc), (.int tc)]) (st := []) C X0 (wd hw 23 rfl) (wd hw 24 rfl) (wd hw 25 rfl) (wd hw 26 rfl) (by decide) (pay_of (W' := 0) (rSt110 l hw X0.ext p2 lc tc z_ SZ hz hlc htc) C.hZ (wd hw 26 rfl) (wd hw 25 rfl) (by decide) (by decide)) pd_24 rfl rfl _ rfl (Nat.le_of_eq rfl) d0_136 (by decide) (by decide) (fun T774 h774 v774 q774 X774 => ?_))
      obtain ⟨x774, t774, k774, rfl, nx774, gx774, E774, A774, C774, F774, V774⟩ := q774
      show Goes p e below _ T774 (mkF m 139 #[.val (.int p0), .val (.int p1), .val (.int p2), .val (.int p3), .val (.int p4), .val (.int p5), s6, .val (.ref ab), .val (.int 1), .val (.int 1), .val (.int 0), .val (.int lc), .val (.int tc), .val (.int 1), .unset, .unset] [(.ref x774)])
      refine g_astore C X774 d0_139 rfl (l' := #[.val (.int p0), .val (.int p1), .val (.int p2), .val (.int p3), .val (.int p4), .val (.int p5), s6, .val (.ref ab), .val (.int 1), .val (.int 1), .val (.int 0), .val (.int lc), .val (.int tc), .val (.int 1), .val (.ref x774), .unset]) rfl (g_iload C X774 d0_141 rfl (g_iconst 1 C X774 d0_143 rfl (g_icmpn (hI_ne _ _) C X774 d0_144 (fun q => absurd (by decide) q) (fun _ => ?_))))
      refine g_getstatic (host := "") C X774 (Or.inl (wd hw 1 rfl)) Via.refl S_3 d0_147 (fun T775 X775 => ?_)
      refine g_goto C X775 d0_150 (g_astore C X775 d0_168 rfl (l' := #[.val (.int p0), .val (.int p1), .val (.int p2), .val (.int p3), .val (.int p4), .val (.int p5), s6, .val (.ref ab), .val (.int 1), .val (.int 1), .val (.int 0), .val (.int lc), .val (.int tc), .val (.int 1), .val (.ref x774), .val (.ref p_1)]) rfl (g_aload C X775 d0_170 rfl rfl (g_static (argsL := [(.ref x774)]) (st := []) C X775 (wd hw 60 rfl) (wd hw 61 rfl) (wd hw 6 rfl) (wd hw 62 rfl) (by decide) (pay_of (W' := 0) (rOf l hw X775.ext x774) C.hZ (wd hw 62 rfl) (wd hw 6 rfl) (by decide) (by decide)) pd_25 rfl rfl _ rfl (Nat.le_of_eq rfl) d0_172 (by decide) (by decide) (fun T776 h776 v776 q776 X776 => ?_))))
      obtain ⟨b776, rfl, n_b776, g776, E776, A776, F776⟩ := q776
      show Goes p e below _ T776 (mkF m 175 #[.val (.int p0), .val (.int p1), .val (.int p2), .val (.int p3), .val (.int p4), .val (.int p5), s6, .val (.ref ab), .val (.int 1), .val (.int 1), .val (.int 0), .val (.int lc), .val (.int tc), .val (.int 1), .val (.ref x774), .val (.ref p_1)] [(.ref b776)])
      refine g_aload C X776 d0_175 rfl rfl ?_
      have f777 := (Exa.ext E776 A774)
      have f778 := (Fld.ext E776 C774)
      have f779 := (Fld.ext E776 F774)
      have f780 := (Arv.ext V774 E776)
      refine g_static (argsL := [(.ref b776), (.ref ab)]) (st := []) C X776 (wd hw 9 rfl) (wd hw 10 rfl) (wd hw 2 rfl) (wd hw 11 rfl) (by decide) (pay_of (W' := 0) (rPa110 l hw X776.ext b776 ab x774 p_1 p_5 p_9 p_13 p_19 p_23 p_29 p_33 p_39 p_43 k_50 k_52 k_54 k_56 z_ SZ hz t774 k774 lc S_3 E_4 S_7 E_8 S_11 E_12 S_15 E_18 F_21 E_22 F_25 F_28 F_31 E_32 F_35 F_38 F_41 E_42 F_45 F_48 V_49 V_51 V_53 V_55 f777 f778 f779 f780 hlc  nx774 A776 F776) C.hZ (wd hw 11 rfl) (wd hw 2 rfl) (by decide) (by decide)) pd_23 rfl rfl _ rfl (Nat.le_of_eq rfl) d0_177 (by decide) (by decide) (fun T781 h781 v781 q781 X781 => ?_)
      obtain ⟨rfl, E781⟩ := q781
      show Goes p e below _ T781 (mkF m 180 #[.val (.int p0), .val (.int p1), .val (.int p2), .val (.int p3), .val (.int p4), .val (.int p5), s6, .val (.ref ab), .val (.int 1), .val (.int 1), .val (.int 0), .val (.int lc), .val (.int tc), .val (.int 1), .val (.ref x774), .val (.ref p_1)] [(.ref p_1)])
      refine g_aload C X781 d0_180 rfl rfl (g_acmpne C X781 d0_182 rfl rfl (fun q => absurd rfl q) (fun _ => ?_))
      refine g_iconst 1 C X781 d0_185 rfl (g_goto C X781 d0_186 ?_)
      exact g_retN C X781 (by simp) d0_190 (1 : Int32) rfl (by decide) (by decide) rfl
    · rw [e1, e2]
      refine g_iload C X0 d0_81 rfl (g_ldcI C X0 (wd hw 0 rfl) d0_83 (g_iand C X0 d0_85 (g_bipush 33 C X0 d0_86 rfl (g_irem C X0 d0_88 (by decide) (g_i2c C X0 d0_89 (g_istore C X0 d0_90 (l' := #[.val (.int p0), .val (.int p1), .val (.int p2), .val (.int p3), .val (.int p4), .val (.int p5), s6, .val (.ref ab), .val (.int 1), .val (.int 1), .val (.int 1), .val (.int (((p4 &&& (2147483647 : Int32)) % (33 : Int32)).toUInt32.toUInt16.toUInt32.toInt32)), .unset, .unset, .unset, .unset]) rfl (g_iload C X0 d0_92 rfl (g_ldcI C X0 (wd hw 0 rfl) d0_94 (g_iand C X0 d0_96 (g_bipush 33 C X0 d0_97 rfl (g_irem C X0 d0_99 (by decide) ?_)))))))))))
      refine g_i2c C X0 d0_100 (g_istore C X0 d0_101 (l' := #[.val (.int p0), .val (.int p1), .val (.int p2), .val (.int p3), .val (.int p4), .val (.int p5), s6, .val (.ref ab), .val (.int 1), .val (.int 1), .val (.int 1), .val (.int (((p4 &&& (2147483647 : Int32)) % (33 : Int32)).toUInt32.toUInt16.toUInt32.toInt32)), .val (.int (((p5 &&& (2147483647 : Int32)) % (33 : Int32)).toUInt32.toUInt16.toUInt32.toInt32)), .unset, .unset, .unset]) rfl ?_)
      obtain ⟨lc, ec⟩ : ∃ a : Int32, a = (((p4 &&& (2147483647 : Int32)) % (33 : Int32)).toUInt32.toUInt16.toUInt32.toInt32) := ⟨_, rfl⟩
      obtain ⟨tc, et⟩ : ∃ b : Int32, b = (((p5 &&& (2147483647 : Int32)) % (33 : Int32)).toUInt32.toUInt16.toUInt32.toInt32) := ⟨_, rfl⟩
      rw [← ec, ← et]
      have hlc : (¬ lc < 0 ∧ ¬ (32 : Int32) < lc) := ec ▸ own_r33 p4
      have htc : (¬ tc < 0 ∧ ¬ (32 : Int32) < tc) := et ▸ own_r33 p5
      show Goes p e below _ T0 (mkF m 103 #[.val (.int p0), .val (.int p1), .val (.int p2), .val (.int p3), .val (.int p4), .val (.int p5), s6, .val (.ref ab), .val (.int 1), .val (.int 1), .val (.int 1), .val (.int lc), .val (.int tc), .unset, .unset, .unset] [])
      refine g_iload C X0 d0_103 rfl (g_iconst 3 C X0 d0_105 rfl (g_icmpn (hI_ne _ _) C X0 d0_106 (fun _ => ?_) (fun q => absurd q (by decide))))
      refine g_iconst 1 C X0 d0_114 rfl (g_istore C X0 d0_115 (l' := #[.val (.int p0), .val (.int p1), .val (.int p2), .val (.int p3), .val (.int p4), .val (.int p5), s6, .val (.ref ab), .val (.int 1), .val (.int 1), .val (.int 1), .val (.int lc), .val (.int tc), .val (.int 1), .unset, .unset]) rfl (g_iload C X0 d0_117 rfl (g_iload C X0 d0_119 rfl (g_iadd C X0 d0_121 (g_iload C X0 d0_122 rfl (g_iadd C X0 d0_124 (g_iload C X0 d0_125 rfl (g_iload C X0 d0_127 rfl (g_iload C X0 d0_129 rfl (g_iloadN C X0 d0_131 rfl (g_iload C X0 d0_132 rfl ?_)))))))))))
      refine g_iload C X0 d0_134 rfl (g_static (argsL := [(.int 3), (.int 1), (.int 1), (.int 1), (.int p2), (.int lc), (.int tc)]) (st := []) C X0 (wd hw 23 rfl) (wd hw 24 rfl) (wd hw 25 rfl) (wd hw 26 rfl) (by decide) (pay_of (W' := 0) (rSt111 l hw X0.ext p2 lc tc z_ SZ hz hlc htc) C.hZ (wd hw 26 rfl) (wd hw 25 rfl) (by decide) (by decide)) pd_24 rfl rfl _ rfl (Nat.le_of_eq rfl) d0_136 (by decide) (by decide) (fun T782 h782 v782 q782 X782 => ?_))
      obtain ⟨x782, t782, k782, rfl, nx782, gx782, E782, A782, C782, F782, V782⟩ := q782
      show Goes p e below _ T782 (mkF m 139 #[.val (.int p0), .val (.int p1), .val (.int p2), .val (.int p3), .val (.int p4), .val (.int p5), s6, .val (.ref ab), .val (.int 1), .val (.int 1), .val (.int 1), .val (.int lc), .val (.int tc), .val (.int 1), .unset, .unset] [(.ref x782)])
      refine g_astore C X782 d0_139 rfl (l' := #[.val (.int p0), .val (.int p1), .val (.int p2), .val (.int p3), .val (.int p4), .val (.int p5), s6, .val (.ref ab), .val (.int 1), .val (.int 1), .val (.int 1), .val (.int lc), .val (.int tc), .val (.int 1), .val (.ref x782), .unset]) rfl (g_iload C X782 d0_141 rfl (g_iconst 1 C X782 d0_143 rfl (g_icmpn (hI_ne _ _) C X782 d0_144 (fun q => absurd (by decide) q) (fun _ => ?_))))
      refine g_getstatic (host := "") C X782 (Or.inl (wd hw 1 rfl)) Via.refl S_3 d0_147 (fun T783 X783 => ?_)
      refine g_goto C X783 d0_150 (g_astore C X783 d0_168 rfl (l' := #[.val (.int p0), .val (.int p1), .val (.int p2), .val (.int p3), .val (.int p4), .val (.int p5), s6, .val (.ref ab), .val (.int 1), .val (.int 1), .val (.int 1), .val (.int lc), .val (.int tc), .val (.int 1), .val (.ref x782), .val (.ref p_1)]) rfl (g_aload C X783 d0_170 rfl rfl (g_static (argsL := [(.ref x782)]) (st := []) C X783 (wd hw 60 rfl) (wd hw 61 rfl) (wd hw 6 rfl) (wd hw 62 rfl) (by decide) (pay_of (W' := 0) (rOf l hw X783.ext x782) C.hZ (wd hw 62 rfl) (wd hw 6 rfl) (by decide) (by decide)) pd_25 rfl rfl _ rfl (Nat.le_of_eq rfl) d0_172 (by decide) (by decide) (fun T784 h784 v784 q784 X784 => ?_))))
      obtain ⟨b784, rfl, n_b784, g784, E784, A784, F784⟩ := q784
      show Goes p e below _ T784 (mkF m 175 #[.val (.int p0), .val (.int p1), .val (.int p2), .val (.int p3), .val (.int p4), .val (.int p5), s6, .val (.ref ab), .val (.int 1), .val (.int 1), .val (.int 1), .val (.int lc), .val (.int tc), .val (.int 1), .val (.ref x782), .val (.ref p_1)] [(.ref b784)])
      refine g_aload C X784 d0_175 rfl rfl ?_
      have f785 := (Exa.ext E784 A782)
      have f786 := (Fld.ext E784 C782)
      have f787 := (Fld.ext E784 F782)
      have f788 := (Arv.ext V782 E784)
      refine g_static (argsL := [(.ref b784), (.ref ab)]) (st := []) C X784 (wd hw 9 rfl) (wd hw 10 rfl) (wd hw 2 rfl) (wd hw 11 rfl) (by decide) (pay_of (W' := 0) (rPa111 l hw X784.ext b784 ab x782 p_1 p_5 p_9 p_13 p_19 p_23 p_29 p_33 p_39 p_43 k_50 k_52 k_54 k_56 z_ SZ hz t782 k782 lc tc S_3 E_4 S_7 E_8 S_11 E_12 S_15 E_18 F_21 E_22 F_25 F_28 F_31 E_32 F_35 F_38 F_41 E_42 F_45 F_48 V_49 V_51 V_53 V_55 f785 f786 f787 f788 hlc htc  nx782 A784 F784) C.hZ (wd hw 11 rfl) (wd hw 2 rfl) (by decide) (by decide)) pd_23 rfl rfl _ rfl (Nat.le_of_eq rfl) d0_177 (by decide) (by decide) (fun T789 h789 v789 q789 X789 => ?_)
      obtain ⟨rfl, E789⟩ := q789
      show Goes p e below _ T789 (mkF m 180 #[.val (.int p0), .val (.int p1), .val (.int p2), .val (.int p3), .val (.int p4), .val (.int p5), s6, .val (.ref ab), .val (.int 1), .val (.int 1), .val (.int 1), .val (.int lc), .val (.int tc), .val (.int 1), .val (.ref x782), .val (.ref p_1)] [(.ref p_1)])
      refine g_aload C X789 d0_180 rfl rfl (g_acmpne C X789 d0_182 rfl rfl (fun q => absurd rfl q) (fun _ => ?_))
      refine g_iconst 1 C X789 d0_185 rfl (g_goto C X789 d0_186 ?_)
      exact g_retN C X789 (by simp) d0_190 (1 : Int32) rfl (by decide) (by decide) rfl
  · rw [e4]
    refine g_iload C X0 d0_41 rfl (g_ifn (h0_ne _) C X0 d0_43 (fun _ => ?_) (fun q => absurd q (by decide)))
    refine g_iloadN C X0 d0_69 rfl (g_iconst 1 C X0 d0_70 rfl (g_iand C X0 d0_71 (g_istore C X0 d0_72 (l' := #[.val (.int p0), .val (.int p1), .val (.int p2), .val (.int p3), .val (.int p4), .val (.int p5), s6, .val (.ref ab), .val (.int 2), .val (.int (p3 &&& (1 : Int32))), .unset, .unset, .unset, .unset, .unset, .unset]) rfl (g_iloadN C X0 d0_74 rfl (g_iconst 1 C X0 d0_75 rfl (g_ishr C X0 d0_76 (g_iconst 1 C X0 d0_77 rfl (g_iand C X0 d0_78 (g_istore C X0 d0_79 (l' := #[.val (.int p0), .val (.int p1), .val (.int p2), .val (.int p3), .val (.int p4), .val (.int p5), s6, .val (.ref ab), .val (.int 2), .val (.int (p3 &&& (1 : Int32))), .val (.int ((p3 >>> ((1 : Int32) &&& 31)) &&& (1 : Int32))), .unset, .unset, .unset, .unset, .unset]) rfl ?_)))))))))
    rcases own_n2 p3 with e1 | e1 <;> rcases own_n2 (p3 >>> ((1 : Int32) &&& 31)) with e2 | e2
    · rw [e1, e2]
      refine g_iload C X0 d0_81 rfl (g_ldcI C X0 (wd hw 0 rfl) d0_83 (g_iand C X0 d0_85 (g_bipush 33 C X0 d0_86 rfl (g_irem C X0 d0_88 (by decide) (g_i2c C X0 d0_89 (g_istore C X0 d0_90 (l' := #[.val (.int p0), .val (.int p1), .val (.int p2), .val (.int p3), .val (.int p4), .val (.int p5), s6, .val (.ref ab), .val (.int 2), .val (.int 0), .val (.int 0), .val (.int (((p4 &&& (2147483647 : Int32)) % (33 : Int32)).toUInt32.toUInt16.toUInt32.toInt32)), .unset, .unset, .unset, .unset]) rfl (g_iload C X0 d0_92 rfl (g_ldcI C X0 (wd hw 0 rfl) d0_94 (g_iand C X0 d0_96 (g_bipush 33 C X0 d0_97 rfl (g_irem C X0 d0_99 (by decide) ?_)))))))))))
      refine g_i2c C X0 d0_100 (g_istore C X0 d0_101 (l' := #[.val (.int p0), .val (.int p1), .val (.int p2), .val (.int p3), .val (.int p4), .val (.int p5), s6, .val (.ref ab), .val (.int 2), .val (.int 0), .val (.int 0), .val (.int (((p4 &&& (2147483647 : Int32)) % (33 : Int32)).toUInt32.toUInt16.toUInt32.toInt32)), .val (.int (((p5 &&& (2147483647 : Int32)) % (33 : Int32)).toUInt32.toUInt16.toUInt32.toInt32)), .unset, .unset, .unset]) rfl ?_)
      obtain ⟨lc, ec⟩ : ∃ a : Int32, a = (((p4 &&& (2147483647 : Int32)) % (33 : Int32)).toUInt32.toUInt16.toUInt32.toInt32) := ⟨_, rfl⟩
      obtain ⟨tc, et⟩ : ∃ b : Int32, b = (((p5 &&& (2147483647 : Int32)) % (33 : Int32)).toUInt32.toUInt16.toUInt32.toInt32) := ⟨_, rfl⟩
      rw [← ec, ← et]
      have hlc : (¬ lc < 0 ∧ ¬ (32 : Int32) < lc) := ec ▸ own_r33 p4
      have htc : (¬ tc < 0 ∧ ¬ (32 : Int32) < tc) := et ▸ own_r33 p5
      show Goes p e below _ T0 (mkF m 103 #[.val (.int p0), .val (.int p1), .val (.int p2), .val (.int p3), .val (.int p4), .val (.int p5), s6, .val (.ref ab), .val (.int 2), .val (.int 0), .val (.int 0), .val (.int lc), .val (.int tc), .unset, .unset, .unset] [])
      refine g_iload C X0 d0_103 rfl (g_iconst 3 C X0 d0_105 rfl (g_icmpn (hI_ne _ _) C X0 d0_106 (fun _ => ?_) (fun q => absurd q (by decide))))
      refine g_iconst 1 C X0 d0_114 rfl (g_istore C X0 d0_115 (l' := #[.val (.int p0), .val (.int p1), .val (.int p2), .val (.int p3), .val (.int p4), .val (.int p5), s6, .val (.ref ab), .val (.int 2), .val (.int 0), .val (.int 0), .val (.int lc), .val (.int tc), .val (.int 1), .unset, .unset]) rfl (g_iload C X0 d0_117 rfl (g_iload C X0 d0_119 rfl (g_iadd C X0 d0_121 (g_iload C X0 d0_122 rfl (g_iadd C X0 d0_124 (g_iload C X0 d0_125 rfl (g_iload C X0 d0_127 rfl (g_iload C X0 d0_129 rfl (g_iloadN C X0 d0_131 rfl (g_iload C X0 d0_132 rfl ?_)))))))))))
      refine g_iload C X0 d0_134 rfl (g_static (argsL := [(.int 1), (.int 0), (.int 1), (.int 2), (.int p2), (.int lc), (.int tc)]) (st := []) C X0 (wd hw 23 rfl) (wd hw 24 rfl) (wd hw 25 rfl) (wd hw 26 rfl) (by decide) (pay_of (W' := 0) (rSt200 l hw X0.ext p2 lc tc z_ SZ hz hlc htc) C.hZ (wd hw 26 rfl) (wd hw 25 rfl) (by decide) (by decide)) pd_24 rfl rfl _ rfl (Nat.le_of_eq rfl) d0_136 (by decide) (by decide) (fun T790 h790 v790 q790 X790 => ?_))
      obtain ⟨x790, t790, k790, rfl, nx790, gx790, E790, A790, C790, F790, V790⟩ := q790
      show Goes p e below _ T790 (mkF m 139 #[.val (.int p0), .val (.int p1), .val (.int p2), .val (.int p3), .val (.int p4), .val (.int p5), s6, .val (.ref ab), .val (.int 2), .val (.int 0), .val (.int 0), .val (.int lc), .val (.int tc), .val (.int 1), .unset, .unset] [(.ref x790)])
      refine g_astore C X790 d0_139 rfl (l' := #[.val (.int p0), .val (.int p1), .val (.int p2), .val (.int p3), .val (.int p4), .val (.int p5), s6, .val (.ref ab), .val (.int 2), .val (.int 0), .val (.int 0), .val (.int lc), .val (.int tc), .val (.int 1), .val (.ref x790), .unset]) rfl (g_iload C X790 d0_141 rfl (g_iconst 1 C X790 d0_143 rfl (g_icmpn (hI_ne _ _) C X790 d0_144 (fun _ => ?_) (fun q => absurd q (by decide)))))
      refine g_iload C X790 d0_153 rfl (g_iconst 2 C X790 d0_155 rfl (g_icmpn (hI_ne _ _) C X790 d0_156 (fun q => absurd (by decide) q) (fun _ => ?_)))
      refine g_getstatic (host := "") C X790 (Or.inl (wd hw 19 rfl)) Via.refl S_7 d0_159 (fun T791 X791 => ?_)
      refine g_goto C X791 d0_162 (g_astore C X791 d0_168 rfl (l' := #[.val (.int p0), .val (.int p1), .val (.int p2), .val (.int p3), .val (.int p4), .val (.int p5), s6, .val (.ref ab), .val (.int 2), .val (.int 0), .val (.int 0), .val (.int lc), .val (.int tc), .val (.int 1), .val (.ref x790), .val (.ref p_5)]) rfl (g_aload C X791 d0_170 rfl rfl (g_static (argsL := [(.ref x790)]) (st := []) C X791 (wd hw 60 rfl) (wd hw 61 rfl) (wd hw 6 rfl) (wd hw 62 rfl) (by decide) (pay_of (W' := 0) (rOf l hw X791.ext x790) C.hZ (wd hw 62 rfl) (wd hw 6 rfl) (by decide) (by decide)) pd_25 rfl rfl _ rfl (Nat.le_of_eq rfl) d0_172 (by decide) (by decide) (fun T792 h792 v792 q792 X792 => ?_))))
      obtain ⟨b792, rfl, n_b792, g792, E792, A792, F792⟩ := q792
      show Goes p e below _ T792 (mkF m 175 #[.val (.int p0), .val (.int p1), .val (.int p2), .val (.int p3), .val (.int p4), .val (.int p5), s6, .val (.ref ab), .val (.int 2), .val (.int 0), .val (.int 0), .val (.int lc), .val (.int tc), .val (.int 1), .val (.ref x790), .val (.ref p_5)] [(.ref b792)])
      refine g_aload C X792 d0_175 rfl rfl ?_
      have f793 := (Exa.ext E792 A790)
      have f794 := (Fld.ext E792 C790)
      have f795 := (Fld.ext E792 F790)
      have f796 := (Arv.ext V790 E792)
      refine g_static (argsL := [(.ref b792), (.ref ab)]) (st := []) C X792 (wd hw 9 rfl) (wd hw 10 rfl) (wd hw 2 rfl) (wd hw 11 rfl) (by decide) (pay_of (W' := 0) (rPa200 l hw X792.ext b792 ab x790 p_1 p_5 p_9 p_13 p_19 p_23 p_29 p_33 p_39 p_43 k_50 k_52 k_54 k_56 z_ SZ hz t790 k790  S_3 E_4 S_7 E_8 S_11 E_12 S_15 E_18 F_21 E_22 F_25 F_28 F_31 E_32 F_35 F_38 F_41 E_42 F_45 F_48 V_49 V_51 V_53 V_55 f793 f794 f795 f796   nx790 A792 F792) C.hZ (wd hw 11 rfl) (wd hw 2 rfl) (by decide) (by decide)) pd_23 rfl rfl _ rfl (Nat.le_of_eq rfl) d0_177 (by decide) (by decide) (fun T797 h797 v797 q797 X797 => ?_)
      obtain ⟨rfl, E797⟩ := q797
      show Goes p e below _ T797 (mkF m 180 #[.val (.int p0), .val (.int p1), .val (.int p2), .val (.int p3), .val (.int p4), .val (.int p5), s6, .val (.ref ab), .val (.int 2), .val (.int 0), .val (.int 0), .val (.int lc), .val (.int tc), .val (.int 1), .val (.ref x790), .val (.ref p_5)] [(.ref p_5)])
      refine g_aload C X797 d0_180 rfl rfl (g_acmpne C X797 d0_182 rfl rfl (fun q => absurd rfl q) (fun _ => ?_))
      refine g_iconst 1 C X797 d0_185 rfl (g_goto C X797 d0_186 ?_)
      exact g_retN C X797 (by simp) d0_190 (1 : Int32) rfl (by decide) (by decide) rfl
    · rw [e1, e2]
      refine g_iload C X0 d0_81 rfl (g_ldcI C X0 (wd hw 0 rfl) d0_83 (g_iand C X0 d0_85 (g_bipush 33 C X0 d0_86 rfl (g_irem C X0 d0_88 (by decide) (g_i2c C X0 d0_89 (g_istore C X0 d0_90 (l' := #[.val (.int p0), .val (.int p1), .val (.int p2), .val (.int p3), .val (.int p4), .val (.int p5), s6, .val (.ref ab), .val (.int 2), .val (.int 0), .val (.int 1), .val (.int (((p4 &&& (2147483647 : Int32)) % (33 : Int32)).toUInt32.toUInt16.toUInt32.toInt32)), .unset, .unset, .unset, .unset]) rfl (g_iload C X0 d0_92 rfl (g_ldcI C X0 (wd hw 0 rfl) d0_94 (g_iand C X0 d0_96 (g_bipush 33 C X0 d0_97 rfl (g_irem C X0 d0_99 (by decide) ?_)))))))))))
      refine g_i2c C X0 d0_100 (g_istore C X0 d0_101 (l' := #[.val (.int p0), .val (.int p1), .val (.int p2), .val (.int p3), .val (.int p4), .val (.int p5), s6, .val (.ref ab), .val (.int 2), .val (.int 0), .val (.int 1), .val (.int (((p4 &&& (2147483647 : Int32)) % (33 : Int32)).toUInt32.toUInt16.toUInt32.toInt32)), .val (.int (((p5 &&& (2147483647 : Int32)) % (33 : Int32)).toUInt32.toUInt16.toUInt32.toInt32)), .unset, .unset, .unset]) rfl ?_)
      obtain ⟨lc, ec⟩ : ∃ a : Int32, a = (((p4 &&& (2147483647 : Int32)) % (33 : Int32)).toUInt32.toUInt16.toUInt32.toInt32) := ⟨_, rfl⟩
      obtain ⟨tc, et⟩ : ∃ b : Int32, b = (((p5 &&& (2147483647 : Int32)) % (33 : Int32)).toUInt32.toUInt16.toUInt32.toInt32) := ⟨_, rfl⟩
      rw [← ec, ← et]
      have hlc : (¬ lc < 0 ∧ ¬ (32 : Int32) < lc) := ec ▸ own_r33 p4
      have htc : (¬ tc < 0 ∧ ¬ (32 : Int32) < tc) := et ▸ own_r33 p5
      show Goes p e below _ T0 (mkF m 103 #[.val (.int p0), .val (.int p1), .val (.int p2), .val (.int p3), .val (.int p4), .val (.int p5), s6, .val (.ref ab), .val (.int 2), .val (.int 0), .val (.int 1), .val (.int lc), .val (.int tc), .unset, .unset, .unset] [])
      refine g_iload C X0 d0_103 rfl (g_iconst 3 C X0 d0_105 rfl (g_icmpn (hI_ne _ _) C X0 d0_106 (fun _ => ?_) (fun q => absurd q (by decide))))
      refine g_iconst 1 C X0 d0_114 rfl (g_istore C X0 d0_115 (l' := #[.val (.int p0), .val (.int p1), .val (.int p2), .val (.int p3), .val (.int p4), .val (.int p5), s6, .val (.ref ab), .val (.int 2), .val (.int 0), .val (.int 1), .val (.int lc), .val (.int tc), .val (.int 1), .unset, .unset]) rfl (g_iload C X0 d0_117 rfl (g_iload C X0 d0_119 rfl (g_iadd C X0 d0_121 (g_iload C X0 d0_122 rfl (g_iadd C X0 d0_124 (g_iload C X0 d0_125 rfl (g_iload C X0 d0_127 rfl (g_iload C X0 d0_129 rfl (g_iloadN C X0 d0_131 rfl (g_iload C X0 d0_132 rfl ?_)))))))))))
      refine g_iload C X0 d0_134 rfl (g_static (argsL := [(.int 2), (.int 0), (.int 1), (.int 2), (.int p2), (.int lc), (.int tc)]) (st := []) C X0 (wd hw 23 rfl) (wd hw 24 rfl) (wd hw 25 rfl) (wd hw 26 rfl) (by decide) (pay_of (W' := 0) (rSt201 l hw X0.ext p2 lc tc z_ SZ hz hlc htc) C.hZ (wd hw 26 rfl) (wd hw 25 rfl) (by decide) (by decide)) pd_24 rfl rfl _ rfl (Nat.le_of_eq rfl) d0_136 (by decide) (by decide) (fun T798 h798 v798 q798 X798 => ?_))
      obtain ⟨x798, t798, k798, rfl, nx798, gx798, E798, A798, C798, F798, V798⟩ := q798
      show Goes p e below _ T798 (mkF m 139 #[.val (.int p0), .val (.int p1), .val (.int p2), .val (.int p3), .val (.int p4), .val (.int p5), s6, .val (.ref ab), .val (.int 2), .val (.int 0), .val (.int 1), .val (.int lc), .val (.int tc), .val (.int 1), .unset, .unset] [(.ref x798)])
      refine g_astore C X798 d0_139 rfl (l' := #[.val (.int p0), .val (.int p1), .val (.int p2), .val (.int p3), .val (.int p4), .val (.int p5), s6, .val (.ref ab), .val (.int 2), .val (.int 0), .val (.int 1), .val (.int lc), .val (.int tc), .val (.int 1), .val (.ref x798), .unset]) rfl (g_iload C X798 d0_141 rfl (g_iconst 1 C X798 d0_143 rfl (g_icmpn (hI_ne _ _) C X798 d0_144 (fun _ => ?_) (fun q => absurd q (by decide)))))
      refine g_iload C X798 d0_153 rfl (g_iconst 2 C X798 d0_155 rfl (g_icmpn (hI_ne _ _) C X798 d0_156 (fun q => absurd (by decide) q) (fun _ => ?_)))
      refine g_getstatic (host := "") C X798 (Or.inl (wd hw 19 rfl)) Via.refl S_7 d0_159 (fun T799 X799 => ?_)
      refine g_goto C X799 d0_162 (g_astore C X799 d0_168 rfl (l' := #[.val (.int p0), .val (.int p1), .val (.int p2), .val (.int p3), .val (.int p4), .val (.int p5), s6, .val (.ref ab), .val (.int 2), .val (.int 0), .val (.int 1), .val (.int lc), .val (.int tc), .val (.int 1), .val (.ref x798), .val (.ref p_5)]) rfl (g_aload C X799 d0_170 rfl rfl (g_static (argsL := [(.ref x798)]) (st := []) C X799 (wd hw 60 rfl) (wd hw 61 rfl) (wd hw 6 rfl) (wd hw 62 rfl) (by decide) (pay_of (W' := 0) (rOf l hw X799.ext x798) C.hZ (wd hw 62 rfl) (wd hw 6 rfl) (by decide) (by decide)) pd_25 rfl rfl _ rfl (Nat.le_of_eq rfl) d0_172 (by decide) (by decide) (fun T800 h800 v800 q800 X800 => ?_))))
      obtain ⟨b800, rfl, n_b800, g800, E800, A800, F800⟩ := q800
      show Goes p e below _ T800 (mkF m 175 #[.val (.int p0), .val (.int p1), .val (.int p2), .val (.int p3), .val (.int p4), .val (.int p5), s6, .val (.ref ab), .val (.int 2), .val (.int 0), .val (.int 1), .val (.int lc), .val (.int tc), .val (.int 1), .val (.ref x798), .val (.ref p_5)] [(.ref b800)])
      refine g_aload C X800 d0_175 rfl rfl ?_
      have f801 := (Exa.ext E800 A798)
      have f802 := (Fld.ext E800 C798)
      have f803 := (Fld.ext E800 F798)
      have f804 := (Arv.ext V798 E800)
      refine g_static (argsL := [(.ref b800), (.ref ab)]) (st := []) C X800 (wd hw 9 rfl) (wd hw 10 rfl) (wd hw 2 rfl) (wd hw 11 rfl) (by decide) (pay_of (W' := 0) (rPa201 l hw X800.ext b800 ab x798 p_1 p_5 p_9 p_13 p_19 p_23 p_29 p_33 p_39 p_43 k_50 k_52 k_54 k_56 z_ SZ hz t798 k798 tc S_3 E_4 S_7 E_8 S_11 E_12 S_15 E_18 F_21 E_22 F_25 F_28 F_31 E_32 F_35 F_38 F_41 E_42 F_45 F_48 V_49 V_51 V_53 V_55 f801 f802 f803 f804 htc  nx798 A800 F800) C.hZ (wd hw 11 rfl) (wd hw 2 rfl) (by decide) (by decide)) pd_23 rfl rfl _ rfl (Nat.le_of_eq rfl) d0_177 (by decide) (by decide) (fun T805 h805 v805 q805 X805 => ?_)
      obtain ⟨rfl, E805⟩ := q805
      show Goes p e below _ T805 (mkF m 180 #[.val (.int p0), .val (.int p1), .val (.int p2), .val (.int p3), .val (.int p4), .val (.int p5), s6, .val (.ref ab), .val (.int 2), .val (.int 0), .val (.int 1), .val (.int lc), .val (.int tc), .val (.int 1), .val (.ref x798), .val (.ref p_5)] [(.ref p_5)])
      refine g_aload C X805 d0_180 rfl rfl (g_acmpne C X805 d0_182 rfl rfl (fun q => absurd rfl q) (fun _ => ?_))
      refine g_iconst 1 C X805 d0_185 rfl (g_goto C X805 d0_186 ?_)
      exact g_retN C X805 (by simp) d0_190 (1 : Int32) rfl (by decide) (by decide) rfl
    · rw [e1, e2]
      refine g_iload C X0 d0_81 rfl (g_ldcI C X0 (wd hw 0 rfl) d0_83 (g_iand C X0 d0_85 (g_bipush 33 C X0 d0_86 rfl (g_irem C X0 d0_88 (by decide) (g_i2c C X0 d0_89 (g_istore C X0 d0_90 (l' := #[.val (.int p0), .val (.int p1), .val (.int p2), .val (.int p3), .val (.int p4), .val (.int p5), s6, .val (.ref ab), .val (.int 2), .val (.int 1), .val (.int 0), .val (.int (((p4 &&& (2147483647 : Int32)) % (33 : Int32)).toUInt32.toUInt16.toUInt32.toInt32)), .unset, .unset, .unset, .unset]) rfl (g_iload C X0 d0_92 rfl (g_ldcI C X0 (wd hw 0 rfl) d0_94 (g_iand C X0 d0_96 (g_bipush 33 C X0 d0_97 rfl (g_irem C X0 d0_99 (by decide) ?_)))))))))))
      refine g_i2c C X0 d0_100 (g_istore C X0 d0_101 (l' := #[.val (.int p0), .val (.int p1), .val (.int p2), .val (.int p3), .val (.int p4), .val (.int p5), s6, .val (.ref ab), .val (.int 2), .val (.int 1), .val (.int 0), .val (.int (((p4 &&& (2147483647 : Int32)) % (33 : Int32)).toUInt32.toUInt16.toUInt32.toInt32)), .val (.int (((p5 &&& (2147483647 : Int32)) % (33 : Int32)).toUInt32.toUInt16.toUInt32.toInt32)), .unset, .unset, .unset]) rfl ?_)
      obtain ⟨lc, ec⟩ : ∃ a : Int32, a = (((p4 &&& (2147483647 : Int32)) % (33 : Int32)).toUInt32.toUInt16.toUInt32.toInt32) := ⟨_, rfl⟩
      obtain ⟨tc, et⟩ : ∃ b : Int32, b = (((p5 &&& (2147483647 : Int32)) % (33 : Int32)).toUInt32.toUInt16.toUInt32.toInt32) := ⟨_, rfl⟩
      rw [← ec, ← et]
      have hlc : (¬ lc < 0 ∧ ¬ (32 : Int32) < lc) := ec ▸ own_r33 p4
      have htc : (¬ tc < 0 ∧ ¬ (32 : Int32) < tc) := et ▸ own_r33 p5
      show Goes p e below _ T0 (mkF m 103 #[.val (.int p0), .val (.int p1), .val (.int p2), .val (.int p3), .val (.int p4), .val (.int p5), s6, .val (.ref ab), .val (.int 2), .val (.int 1), .val (.int 0), .val (.int lc), .val (.int tc), .unset, .unset, .unset] [])
      refine g_iload C X0 d0_103 rfl (g_iconst 3 C X0 d0_105 rfl (g_icmpn (hI_ne _ _) C X0 d0_106 (fun _ => ?_) (fun q => absurd q (by decide))))
      refine g_iconst 1 C X0 d0_114 rfl (g_istore C X0 d0_115 (l' := #[.val (.int p0), .val (.int p1), .val (.int p2), .val (.int p3), .val (.int p4), .val (.int p5), s6, .val (.ref ab), .val (.int 2), .val (.int 1), .val (.int 0), .val (.int lc), .val (.int tc), .val (.int 1), .unset, .unset]) rfl (g_iload C X0 d0_117 rfl (g_iload C X0 d0_119 rfl (g_iadd C X0 d0_121 (g_iload C X0 d0_122 rfl (g_iadd C X0 d0_124 (g_iload C X0 d0_125 rfl (g_iload C X0 d0_127 rfl (g_iload C X0 d0_129 rfl (g_iloadN C X0 d0_131 rfl (g_iload C X0 d0_132 rfl ?_)))))))))))
      refine g_iload C X0 d0_134 rfl (g_static (argsL := [(.int 2), (.int 1), (.int 1), (.int 2), (.int p2), (.int lc), (.int tc)]) (st := []) C X0 (wd hw 23 rfl) (wd hw 24 rfl) (wd hw 25 rfl) (wd hw 26 rfl) (by decide) (pay_of (W' := 0) (rSt210 l hw X0.ext p2 lc tc z_ SZ hz hlc htc) C.hZ (wd hw 26 rfl) (wd hw 25 rfl) (by decide) (by decide)) pd_24 rfl rfl _ rfl (Nat.le_of_eq rfl) d0_136 (by decide) (by decide) (fun T806 h806 v806 q806 X806 => ?_))
      obtain ⟨x806, t806, k806, rfl, nx806, gx806, E806, A806, C806, F806, V806⟩ := q806
      show Goes p e below _ T806 (mkF m 139 #[.val (.int p0), .val (.int p1), .val (.int p2), .val (.int p3), .val (.int p4), .val (.int p5), s6, .val (.ref ab), .val (.int 2), .val (.int 1), .val (.int 0), .val (.int lc), .val (.int tc), .val (.int 1), .unset, .unset] [(.ref x806)])
      refine g_astore C X806 d0_139 rfl (l' := #[.val (.int p0), .val (.int p1), .val (.int p2), .val (.int p3), .val (.int p4), .val (.int p5), s6, .val (.ref ab), .val (.int 2), .val (.int 1), .val (.int 0), .val (.int lc), .val (.int tc), .val (.int 1), .val (.ref x806), .unset]) rfl (g_iload C X806 d0_141 rfl (g_iconst 1 C X806 d0_143 rfl (g_icmpn (hI_ne _ _) C X806 d0_144 (fun _ => ?_) (fun q => absurd q (by decide)))))
      refine g_iload C X806 d0_153 rfl (g_iconst 2 C X806 d0_155 rfl (g_icmpn (hI_ne _ _) C X806 d0_156 (fun q => absurd (by decide) q) (fun _ => ?_)))
      refine g_getstatic (host := "") C X806 (Or.inl (wd hw 19 rfl)) Via.refl S_7 d0_159 (fun T807 X807 => ?_)
      refine g_goto C X807 d0_162 (g_astore C X807 d0_168 rfl (l' := #[.val (.int p0), .val (.int p1), .val (.int p2), .val (.int p3), .val (.int p4), .val (.int p5), s6, .val (.ref ab), .val (.int 2), .val (.int 1), .val (.int 0), .val (.int lc), .val (.int tc), .val (.int 1), .val (.ref x806), .val (.ref p_5)]) rfl (g_aload C X807 d0_170 rfl rfl (g_static (argsL := [(.ref x806)]) (st := []) C X807 (wd hw 60 rfl) (wd hw 61 rfl) (wd hw 6 rfl) (wd hw 62 rfl) (by decide) (pay_of (W' := 0) (rOf l hw X807.ext x806) C.hZ (wd hw 62 rfl) (wd hw 6 rfl) (by decide) (by decide)) pd_25 rfl rfl _ rfl (Nat.le_of_eq rfl) d0_172 (by decide) (by decide) (fun T808 h808 v808 q808 X808 => ?_))))
      obtain ⟨b808, rfl, n_b808, g808, E808, A808, F808⟩ := q808
      show Goes p e below _ T808 (mkF m 175 #[.val (.int p0), .val (.int p1), .val (.int p2), .val (.int p3), .val (.int p4), .val (.int p5), s6, .val (.ref ab), .val (.int 2), .val (.int 1), .val (.int 0), .val (.int lc), .val (.int tc), .val (.int 1), .val (.ref x806), .val (.ref p_5)] [(.ref b808)])
      refine g_aload C X808 d0_175 rfl rfl ?_
      have f809 := (Exa.ext E808 A806)
      have f810 := (Fld.ext E808 C806)
      have f811 := (Fld.ext E808 F806)
      have f812 := (Arv.ext V806 E808)
      refine g_static (argsL := [(.ref b808), (.ref ab)]) (st := []) C X808 (wd hw 9 rfl) (wd hw 10 rfl) (wd hw 2 rfl) (wd hw 11 rfl) (by decide) (pay_of (W' := 0) (rPa210 l hw X808.ext b808 ab x806 p_1 p_5 p_9 p_13 p_19 p_23 p_29 p_33 p_39 p_43 k_50 k_52 k_54 k_56 z_ SZ hz t806 k806 lc S_3 E_4 S_7 E_8 S_11 E_12 S_15 E_18 F_21 E_22 F_25 F_28 F_31 E_32 F_35 F_38 F_41 E_42 F_45 F_48 V_49 V_51 V_53 V_55 f809 f810 f811 f812 hlc  nx806 A808 F808) C.hZ (wd hw 11 rfl) (wd hw 2 rfl) (by decide) (by decide)) pd_23 rfl rfl _ rfl (Nat.le_of_eq rfl) d0_177 (by decide) (by decide) (fun T813 h813 v813 q813 X813 => ?_)
      obtain ⟨rfl, E813⟩ := q813
      show Goes p e below _ T813 (mkF m 180 #[.val (.int p0), .val (.int p1), .val (.int p2), .val (.int p3), .val (.int p4), .val (.int p5), s6, .val (.ref ab), .val (.int 2), .val (.int 1), .val (.int 0), .val (.int lc), .val (.int tc), .val (.int 1), .val (.ref x806), .val (.ref p_5)] [(.ref p_5)])
      refine g_aload C X813 d0_180 rfl rfl (g_acmpne C X813 d0_182 rfl rfl (fun q => absurd rfl q) (fun _ => ?_))
      refine g_iconst 1 C X813 d0_185 rfl (g_goto C X813 d0_186 ?_)
      exact g_retN C X813 (by simp) d0_190 (1 : Int32) rfl (by decide) (by decide) rfl
    · rw [e1, e2]
      refine g_iload C X0 d0_81 rfl (g_ldcI C X0 (wd hw 0 rfl) d0_83 (g_iand C X0 d0_85 (g_bipush 33 C X0 d0_86 rfl (g_irem C X0 d0_88 (by decide) (g_i2c C X0 d0_89 (g_istore C X0 d0_90 (l' := #[.val (.int p0), .val (.int p1), .val (.int p2), .val (.int p3), .val (.int p4), .val (.int p5), s6, .val (.ref ab), .val (.int 2), .val (.int 1), .val (.int 1), .val (.int (((p4 &&& (2147483647 : Int32)) % (33 : Int32)).toUInt32.toUInt16.toUInt32.toInt32)), .unset, .unset, .unset, .unset]) rfl (g_iload C X0 d0_92 rfl (g_ldcI C X0 (wd hw 0 rfl) d0_94 (g_iand C X0 d0_96 (g_bipush 33 C X0 d0_97 rfl (g_irem C X0 d0_99 (by decide) ?_)))))))))))
      refine g_i2c C X0 d0_100 (g_istore C X0 d0_101 (l' := #[.val (.int p0), .val (.int p1), .val (.int p2), .val (.int p3), .val (.int p4), .val (.int p5), s6, .val (.ref ab), .val (.int 2), .val (.int 1), .val (.int 1), .val (.int (((p4 &&& (2147483647 : Int32)) % (33 : Int32)).toUInt32.toUInt16.toUInt32.toInt32)), .val (.int (((p5 &&& (2147483647 : Int32)) % (33 : Int32)).toUInt32.toUInt16.toUInt32.toInt32)), .unset, .unset, .unset]) rfl ?_)
      obtain ⟨lc, ec⟩ : ∃ a : Int32, a = (((p4 &&& (2147483647 : Int32)) % (33 : Int32)).toUInt32.toUInt16.toUInt32.toInt32) := ⟨_, rfl⟩
      obtain ⟨tc, et⟩ : ∃ b : Int32, b = (((p5 &&& (2147483647 : Int32)) % (33 : Int32)).toUInt32.toUInt16.toUInt32.toInt32) := ⟨_, rfl⟩
      rw [← ec, ← et]
      have hlc : (¬ lc < 0 ∧ ¬ (32 : Int32) < lc) := ec ▸ own_r33 p4
      have htc : (¬ tc < 0 ∧ ¬ (32 : Int32) < tc) := et ▸ own_r33 p5
      show Goes p e below _ T0 (mkF m 103 #[.val (.int p0), .val (.int p1), .val (.int p2), .val (.int p3), .val (.int p4), .val (.int p5), s6, .val (.ref ab), .val (.int 2), .val (.int 1), .val (.int 1), .val (.int lc), .val (.int tc), .unset, .unset, .unset] [])
      refine g_iload C X0 d0_103 rfl (g_iconst 3 C X0 d0_105 rfl (g_icmpn (hI_ne _ _) C X0 d0_106 (fun _ => ?_) (fun q => absurd q (by decide))))
      refine g_iconst 1 C X0 d0_114 rfl (g_istore C X0 d0_115 (l' := #[.val (.int p0), .val (.int p1), .val (.int p2), .val (.int p3), .val (.int p4), .val (.int p5), s6, .val (.ref ab), .val (.int 2), .val (.int 1), .val (.int 1), .val (.int lc), .val (.int tc), .val (.int 1), .unset, .unset]) rfl (g_iload C X0 d0_117 rfl (g_iload C X0 d0_119 rfl (g_iadd C X0 d0_121 (g_iload C X0 d0_122 rfl (g_iadd C X0 d0_124 (g_iload C X0 d0_125 rfl (g_iload C X0 d0_127 rfl (g_iload C X0 d0_129 rfl (g_iloadN C X0 d0_131 rfl (g_iload C X0 d0_132 rfl ?_)))))))))))
      refine g_iload C X0 d0_134 rfl (g_static (argsL := [(.int 3), (.int 1), (.int 1), (.int 2), (.int p2), (.int lc), (.int tc)]) (st := []) C X0 (wd hw 23 rfl) (wd hw 24 rfl) (wd hw 25 rfl) (wd hw 26 rfl) (by decide) (pay_of (W' := 0) (rSt211 l hw X0.ext p2 lc tc z_ SZ hz hlc htc) C.hZ (wd hw 26 rfl) (wd hw 25 rfl) (by decide) (by decide)) pd_24 rfl rfl _ rfl (Nat.le_of_eq rfl) d0_136 (by decide) (by decide) (fun T814 h814 v814 q814 X814 => ?_))
      obtain ⟨x814, t814, k814, rfl, nx814, gx814, E814, A814, C814, F814, V814⟩ := q814
      show Goes p e below _ T814 (mkF m 139 #[.val (.int p0), .val (.int p1), .val (.int p2), .val (.int p3), .val (.int p4), .val (.int p5), s6, .val (.ref ab), .val (.int 2), .val (.int 1), .val (.int 1), .val (.int lc), .val (.int tc), .val (.int 1), .unset, .unset] [(.ref x814)])
      refine g_astore C X814 d0_139 rfl (l' := #[.val (.int p0), .val (.int p1), .val (.int p2), .val (.int p3), .val (.int p4), .val (.int p5), s6, .val (.ref ab), .val (.int 2), .val (.int 1), .val (.int 1), .val (.int lc), .val (.int tc), .val (.int 1), .val (.ref x814), .unset]) rfl (g_iload C X814 d0_141 rfl (g_iconst 1 C X814 d0_143 rfl (g_icmpn (hI_ne _ _) C X814 d0_144 (fun _ => ?_) (fun q => absurd q (by decide)))))
      refine g_iload C X814 d0_153 rfl (g_iconst 2 C X814 d0_155 rfl (g_icmpn (hI_ne _ _) C X814 d0_156 (fun q => absurd (by decide) q) (fun _ => ?_)))
      refine g_getstatic (host := "") C X814 (Or.inl (wd hw 19 rfl)) Via.refl S_7 d0_159 (fun T815 X815 => ?_)
      refine g_goto C X815 d0_162 (g_astore C X815 d0_168 rfl (l' := #[.val (.int p0), .val (.int p1), .val (.int p2), .val (.int p3), .val (.int p4), .val (.int p5), s6, .val (.ref ab), .val (.int 2), .val (.int 1), .val (.int 1), .val (.int lc), .val (.int tc), .val (.int 1), .val (.ref x814), .val (.ref p_5)]) rfl (g_aload C X815 d0_170 rfl rfl (g_static (argsL := [(.ref x814)]) (st := []) C X815 (wd hw 60 rfl) (wd hw 61 rfl) (wd hw 6 rfl) (wd hw 62 rfl) (by decide) (pay_of (W' := 0) (rOf l hw X815.ext x814) C.hZ (wd hw 62 rfl) (wd hw 6 rfl) (by decide) (by decide)) pd_25 rfl rfl _ rfl (Nat.le_of_eq rfl) d0_172 (by decide) (by decide) (fun T816 h816 v816 q816 X816 => ?_))))
      obtain ⟨b816, rfl, n_b816, g816, E816, A816, F816⟩ := q816
      show Goes p e below _ T816 (mkF m 175 #[.val (.int p0), .val (.int p1), .val (.int p2), .val (.int p3), .val (.int p4), .val (.int p5), s6, .val (.ref ab), .val (.int 2), .val (.int 1), .val (.int 1), .val (.int lc), .val (.int tc), .val (.int 1), .val (.ref x814), .val (.ref p_5)] [(.ref b816)])
      refine g_aload C X816 d0_175 rfl rfl ?_
      have f817 := (Exa.ext E816 A814)
      have f818 := (Fld.ext E816 C814)
      have f819 := (Fld.ext E816 F814)
      have f820 := (Arv.ext V814 E816)
      refine g_static (argsL := [(.ref b816), (.ref ab)]) (st := []) C X816 (wd hw 9 rfl) (wd hw 10 rfl) (wd hw 2 rfl) (wd hw 11 rfl) (by decide) (pay_of (W' := 0) (rPa211 l hw X816.ext b816 ab x814 p_1 p_5 p_9 p_13 p_19 p_23 p_29 p_33 p_39 p_43 k_50 k_52 k_54 k_56 z_ SZ hz t814 k814 lc tc S_3 E_4 S_7 E_8 S_11 E_12 S_15 E_18 F_21 E_22 F_25 F_28 F_31 E_32 F_35 F_38 F_41 E_42 F_45 F_48 V_49 V_51 V_53 V_55 f817 f818 f819 f820 hlc htc  nx814 A816 F816) C.hZ (wd hw 11 rfl) (wd hw 2 rfl) (by decide) (by decide)) pd_23 rfl rfl _ rfl (Nat.le_of_eq rfl) d0_177 (by decide) (by decide) (fun T821 h821 v821 q821 X821 => ?_)
      obtain ⟨rfl, E821⟩ := q821
      show Goes p e below _ T821 (mkF m 180 #[.val (.int p0), .val (.int p1), .val (.int p2), .val (.int p3), .val (.int p4), .val (.int p5), s6, .val (.ref ab), .val (.int 2), .val (.int 1), .val (.int 1), .val (.int lc), .val (.int tc), .val (.int 1), .val (.ref x814), .val (.ref p_5)] [(.ref p_5)])
      refine g_aload C X821 d0_180 rfl rfl (g_acmpne C X821 d0_182 rfl rfl (fun q => absurd rfl q) (fun _ => ?_))
      refine g_iconst 1 C X821 d0_185 rfl (g_goto C X821 d0_186 ?_)
      exact g_retN C X821 (by simp) d0_190 (1 : Int32) rfl (by decide) (by decide) rfl
  · rw [e4]
    refine g_iload C X0 d0_41 rfl (g_ifn (h0_ne _) C X0 d0_43 (fun _ => ?_) (fun q => absurd q (by decide)))
    refine g_iloadN C X0 d0_69 rfl (g_iconst 1 C X0 d0_70 rfl (g_iand C X0 d0_71 (g_istore C X0 d0_72 (l' := #[.val (.int p0), .val (.int p1), .val (.int p2), .val (.int p3), .val (.int p4), .val (.int p5), s6, .val (.ref ab), .val (.int 3), .val (.int (p3 &&& (1 : Int32))), .unset, .unset, .unset, .unset, .unset, .unset]) rfl (g_iloadN C X0 d0_74 rfl (g_iconst 1 C X0 d0_75 rfl (g_ishr C X0 d0_76 (g_iconst 1 C X0 d0_77 rfl (g_iand C X0 d0_78 (g_istore C X0 d0_79 (l' := #[.val (.int p0), .val (.int p1), .val (.int p2), .val (.int p3), .val (.int p4), .val (.int p5), s6, .val (.ref ab), .val (.int 3), .val (.int (p3 &&& (1 : Int32))), .val (.int ((p3 >>> ((1 : Int32) &&& 31)) &&& (1 : Int32))), .unset, .unset, .unset, .unset, .unset]) rfl ?_)))))))))
    rcases own_n2 p3 with e1 | e1 <;> rcases own_n2 (p3 >>> ((1 : Int32) &&& 31)) with e2 | e2
    · rw [e1, e2]
      refine g_iload C X0 d0_81 rfl (g_ldcI C X0 (wd hw 0 rfl) d0_83 (g_iand C X0 d0_85 (g_bipush 33 C X0 d0_86 rfl (g_irem C X0 d0_88 (by decide) (g_i2c C X0 d0_89 (g_istore C X0 d0_90 (l' := #[.val (.int p0), .val (.int p1), .val (.int p2), .val (.int p3), .val (.int p4), .val (.int p5), s6, .val (.ref ab), .val (.int 3), .val (.int 0), .val (.int 0), .val (.int (((p4 &&& (2147483647 : Int32)) % (33 : Int32)).toUInt32.toUInt16.toUInt32.toInt32)), .unset, .unset, .unset, .unset]) rfl (g_iload C X0 d0_92 rfl (g_ldcI C X0 (wd hw 0 rfl) d0_94 (g_iand C X0 d0_96 (g_bipush 33 C X0 d0_97 rfl (g_irem C X0 d0_99 (by decide) ?_)))))))))))
      refine g_i2c C X0 d0_100 (g_istore C X0 d0_101 (l' := #[.val (.int p0), .val (.int p1), .val (.int p2), .val (.int p3), .val (.int p4), .val (.int p5), s6, .val (.ref ab), .val (.int 3), .val (.int 0), .val (.int 0), .val (.int (((p4 &&& (2147483647 : Int32)) % (33 : Int32)).toUInt32.toUInt16.toUInt32.toInt32)), .val (.int (((p5 &&& (2147483647 : Int32)) % (33 : Int32)).toUInt32.toUInt16.toUInt32.toInt32)), .unset, .unset, .unset]) rfl ?_)
      obtain ⟨lc, ec⟩ : ∃ a : Int32, a = (((p4 &&& (2147483647 : Int32)) % (33 : Int32)).toUInt32.toUInt16.toUInt32.toInt32) := ⟨_, rfl⟩
      obtain ⟨tc, et⟩ : ∃ b : Int32, b = (((p5 &&& (2147483647 : Int32)) % (33 : Int32)).toUInt32.toUInt16.toUInt32.toInt32) := ⟨_, rfl⟩
      rw [← ec, ← et]
      have hlc : (¬ lc < 0 ∧ ¬ (32 : Int32) < lc) := ec ▸ own_r33 p4
      have htc : (¬ tc < 0 ∧ ¬ (32 : Int32) < tc) := et ▸ own_r33 p5
      show Goes p e below _ T0 (mkF m 103 #[.val (.int p0), .val (.int p1), .val (.int p2), .val (.int p3), .val (.int p4), .val (.int p5), s6, .val (.ref ab), .val (.int 3), .val (.int 0), .val (.int 0), .val (.int lc), .val (.int tc), .unset, .unset, .unset] [])
      refine g_iload C X0 d0_103 rfl (g_iconst 3 C X0 d0_105 rfl (g_icmpn (hI_ne _ _) C X0 d0_106 (fun q => absurd (by decide) q) (fun _ => ?_)))
      refine g_bipush 8 C X0 d0_109 rfl (g_goto C X0 d0_111 (g_istore C X0 d0_115 (l' := #[.val (.int p0), .val (.int p1), .val (.int p2), .val (.int p3), .val (.int p4), .val (.int p5), s6, .val (.ref ab), .val (.int 3), .val (.int 0), .val (.int 0), .val (.int lc), .val (.int tc), .val (.int 8), .unset, .unset]) rfl (g_iload C X0 d0_117 rfl (g_iload C X0 d0_119 rfl (g_iadd C X0 d0_121 (g_iload C X0 d0_122 rfl (g_iadd C X0 d0_124 (g_iload C X0 d0_125 rfl (g_iload C X0 d0_127 rfl (g_iload C X0 d0_129 rfl (g_iloadN C X0 d0_131 rfl ?_)))))))))))
      refine g_iload C X0 d0_132 rfl (g_iload C X0 d0_134 rfl (g_static (argsL := [(.int 8), (.int 0), (.int 8), (.int 3), (.int p2), (.int lc), (.int tc)]) (st := []) C X0 (wd hw 23 rfl) (wd hw 24 rfl) (wd hw 25 rfl) (wd hw 26 rfl) (by decide) (pay_of (W' := 0) (rSt300 l hw X0.ext p2 lc tc z_ SZ hz hlc htc) C.hZ (wd hw 26 rfl) (wd hw 25 rfl) (by decide) (by decide)) pd_24 rfl rfl _ rfl (Nat.le_of_eq rfl) d0_136 (by decide) (by decide) (fun T822 h822 v822 q822 X822 => ?_)))
      obtain ⟨x822, t822, k822, y0, y1, y2, y3, y4, y5, y6, y7, rfl, nx822, gx822, E822, A822, C822, F822, V822, l0, l1, l2, l3, l4, l5, l6, l7⟩ := q822
      show Goes p e below _ T822 (mkF m 139 #[.val (.int p0), .val (.int p1), .val (.int p2), .val (.int p3), .val (.int p4), .val (.int p5), s6, .val (.ref ab), .val (.int 3), .val (.int 0), .val (.int 0), .val (.int lc), .val (.int tc), .val (.int 8), .unset, .unset] [(.ref x822)])
      refine g_astore C X822 d0_139 rfl (l' := #[.val (.int p0), .val (.int p1), .val (.int p2), .val (.int p3), .val (.int p4), .val (.int p5), s6, .val (.ref ab), .val (.int 3), .val (.int 0), .val (.int 0), .val (.int lc), .val (.int tc), .val (.int 8), .val (.ref x822), .unset]) rfl (g_iload C X822 d0_141 rfl (g_iconst 1 C X822 d0_143 rfl (g_icmpn (hI_ne _ _) C X822 d0_144 (fun _ => ?_) (fun q => absurd q (by decide)))))
      refine g_iload C X822 d0_153 rfl (g_iconst 2 C X822 d0_155 rfl (g_icmpn (hI_ne _ _) C X822 d0_156 (fun _ => ?_) (fun q => absurd q (by decide))))
      refine g_getstatic (host := "") C X822 (Or.inl (wd hw 21 rfl)) Via.refl S_11 d0_165 (fun T823 X823 => ?_)
      refine g_astore C X823 d0_168 rfl (l' := #[.val (.int p0), .val (.int p1), .val (.int p2), .val (.int p3), .val (.int p4), .val (.int p5), s6, .val (.ref ab), .val (.int 3), .val (.int 0), .val (.int 0), .val (.int lc), .val (.int tc), .val (.int 8), .val (.ref x822), .val (.ref p_9)]) rfl (g_aload C X823 d0_170 rfl rfl (g_static (argsL := [(.ref x822)]) (st := []) C X823 (wd hw 60 rfl) (wd hw 61 rfl) (wd hw 6 rfl) (wd hw 62 rfl) (by decide) (pay_of (W' := 0) (rOf l hw X823.ext x822) C.hZ (wd hw 62 rfl) (wd hw 6 rfl) (by decide) (by decide)) pd_25 rfl rfl _ rfl (Nat.le_of_eq rfl) d0_172 (by decide) (by decide) (fun T824 h824 v824 q824 X824 => ?_)))
      obtain ⟨b824, rfl, n_b824, g824, E824, A824, F824⟩ := q824
      show Goes p e below _ T824 (mkF m 175 #[.val (.int p0), .val (.int p1), .val (.int p2), .val (.int p3), .val (.int p4), .val (.int p5), s6, .val (.ref ab), .val (.int 3), .val (.int 0), .val (.int 0), .val (.int lc), .val (.int tc), .val (.int 8), .val (.ref x822), .val (.ref p_9)] [(.ref b824)])
      refine g_aload C X824 d0_175 rfl rfl ?_
      have f825 := (Exa.ext E824 A822)
      have f826 := (Fld.ext E824 C822)
      have f827 := (Fld.ext E824 F822)
      have f828 := (Arv.ext V822 E824)
      refine g_static (argsL := [(.ref b824), (.ref ab)]) (st := []) C X824 (wd hw 9 rfl) (wd hw 10 rfl) (wd hw 2 rfl) (wd hw 11 rfl) (by decide) (pay_of (W' := 0) (rPa300 l hw X824.ext b824 ab x822 p_1 p_5 p_9 p_13 p_19 p_23 p_29 p_33 p_39 p_43 k_50 k_52 k_54 k_56 z_ SZ hz t822 k822 y0 y1 y2 y3 y4 y5 y6 y7 S_3 E_4 S_7 E_8 S_11 E_12 S_15 E_18 F_21 E_22 F_25 F_28 F_31 E_32 F_35 F_38 F_41 E_42 F_45 F_48 V_49 V_51 V_53 V_55 f825 f826 f827 f828  l0 l1 l2 l3 l4 l5 l6 l7 nx822 A824 F824) C.hZ (wd hw 11 rfl) (wd hw 2 rfl) (by decide) (by decide)) pd_23 rfl rfl _ rfl (Nat.le_of_eq rfl) d0_177 (by decide) (by decide) (fun T829 h829 v829 q829 X829 => ?_)
      obtain ⟨rfl, E829⟩ := q829
      show Goes p e below _ T829 (mkF m 180 #[.val (.int p0), .val (.int p1), .val (.int p2), .val (.int p3), .val (.int p4), .val (.int p5), s6, .val (.ref ab), .val (.int 3), .val (.int 0), .val (.int 0), .val (.int lc), .val (.int tc), .val (.int 8), .val (.ref x822), .val (.ref p_9)] [(.ref p_9)])
      refine g_aload C X829 d0_180 rfl rfl (g_acmpne C X829 d0_182 rfl rfl (fun q => absurd rfl q) (fun _ => ?_))
      refine g_iconst 1 C X829 d0_185 rfl (g_goto C X829 d0_186 ?_)
      exact g_retN C X829 (by simp) d0_190 (1 : Int32) rfl (by decide) (by decide) rfl
    · rw [e1, e2]
      refine g_iload C X0 d0_81 rfl (g_ldcI C X0 (wd hw 0 rfl) d0_83 (g_iand C X0 d0_85 (g_bipush 33 C X0 d0_86 rfl (g_irem C X0 d0_88 (by decide) (g_i2c C X0 d0_89 (g_istore C X0 d0_90 (l' := #[.val (.int p0), .val (.int p1), .val (.int p2), .val (.int p3), .val (.int p4), .val (.int p5), s6, .val (.ref ab), .val (.int 3), .val (.int 0), .val (.int 1), .val (.int (((p4 &&& (2147483647 : Int32)) % (33 : Int32)).toUInt32.toUInt16.toUInt32.toInt32)), .unset, .unset, .unset, .unset]) rfl (g_iload C X0 d0_92 rfl (g_ldcI C X0 (wd hw 0 rfl) d0_94 (g_iand C X0 d0_96 (g_bipush 33 C X0 d0_97 rfl (g_irem C X0 d0_99 (by decide) ?_)))))))))))
      refine g_i2c C X0 d0_100 (g_istore C X0 d0_101 (l' := #[.val (.int p0), .val (.int p1), .val (.int p2), .val (.int p3), .val (.int p4), .val (.int p5), s6, .val (.ref ab), .val (.int 3), .val (.int 0), .val (.int 1), .val (.int (((p4 &&& (2147483647 : Int32)) % (33 : Int32)).toUInt32.toUInt16.toUInt32.toInt32)), .val (.int (((p5 &&& (2147483647 : Int32)) % (33 : Int32)).toUInt32.toUInt16.toUInt32.toInt32)), .unset, .unset, .unset]) rfl ?_)
      obtain ⟨lc, ec⟩ : ∃ a : Int32, a = (((p4 &&& (2147483647 : Int32)) % (33 : Int32)).toUInt32.toUInt16.toUInt32.toInt32) := ⟨_, rfl⟩
      obtain ⟨tc, et⟩ : ∃ b : Int32, b = (((p5 &&& (2147483647 : Int32)) % (33 : Int32)).toUInt32.toUInt16.toUInt32.toInt32) := ⟨_, rfl⟩
      rw [← ec, ← et]
      have hlc : (¬ lc < 0 ∧ ¬ (32 : Int32) < lc) := ec ▸ own_r33 p4
      have htc : (¬ tc < 0 ∧ ¬ (32 : Int32) < tc) := et ▸ own_r33 p5
      show Goes p e below _ T0 (mkF m 103 #[.val (.int p0), .val (.int p1), .val (.int p2), .val (.int p3), .val (.int p4), .val (.int p5), s6, .val (.ref ab), .val (.int 3), .val (.int 0), .val (.int 1), .val (.int lc), .val (.int tc), .unset, .unset, .unset] [])
      refine g_iload C X0 d0_103 rfl (g_iconst 3 C X0 d0_105 rfl (g_icmpn (hI_ne _ _) C X0 d0_106 (fun q => absurd (by decide) q) (fun _ => ?_)))
      refine g_bipush 8 C X0 d0_109 rfl (g_goto C X0 d0_111 (g_istore C X0 d0_115 (l' := #[.val (.int p0), .val (.int p1), .val (.int p2), .val (.int p3), .val (.int p4), .val (.int p5), s6, .val (.ref ab), .val (.int 3), .val (.int 0), .val (.int 1), .val (.int lc), .val (.int tc), .val (.int 8), .unset, .unset]) rfl (g_iload C X0 d0_117 rfl (g_iload C X0 d0_119 rfl (g_iadd C X0 d0_121 (g_iload C X0 d0_122 rfl (g_iadd C X0 d0_124 (g_iload C X0 d0_125 rfl (g_iload C X0 d0_127 rfl (g_iload C X0 d0_129 rfl (g_iloadN C X0 d0_131 rfl ?_)))))))))))
      refine g_iload C X0 d0_132 rfl (g_iload C X0 d0_134 rfl (g_static (argsL := [(.int 9), (.int 0), (.int 8), (.int 3), (.int p2), (.int lc), (.int tc)]) (st := []) C X0 (wd hw 23 rfl) (wd hw 24 rfl) (wd hw 25 rfl) (wd hw 26 rfl) (by decide) (pay_of (W' := 0) (rSt301 l hw X0.ext p2 lc tc z_ SZ hz hlc htc) C.hZ (wd hw 26 rfl) (wd hw 25 rfl) (by decide) (by decide)) pd_24 rfl rfl _ rfl (Nat.le_of_eq rfl) d0_136 (by decide) (by decide) (fun T830 h830 v830 q830 X830 => ?_)))
      obtain ⟨x830, t830, k830, y0, y1, y2, y3, y4, y5, y6, y7, rfl, nx830, gx830, E830, A830, C830, F830, V830, l0, l1, l2, l3, l4, l5, l6, l7⟩ := q830
      show Goes p e below _ T830 (mkF m 139 #[.val (.int p0), .val (.int p1), .val (.int p2), .val (.int p3), .val (.int p4), .val (.int p5), s6, .val (.ref ab), .val (.int 3), .val (.int 0), .val (.int 1), .val (.int lc), .val (.int tc), .val (.int 8), .unset, .unset] [(.ref x830)])
      refine g_astore C X830 d0_139 rfl (l' := #[.val (.int p0), .val (.int p1), .val (.int p2), .val (.int p3), .val (.int p4), .val (.int p5), s6, .val (.ref ab), .val (.int 3), .val (.int 0), .val (.int 1), .val (.int lc), .val (.int tc), .val (.int 8), .val (.ref x830), .unset]) rfl (g_iload C X830 d0_141 rfl (g_iconst 1 C X830 d0_143 rfl (g_icmpn (hI_ne _ _) C X830 d0_144 (fun _ => ?_) (fun q => absurd q (by decide)))))
      refine g_iload C X830 d0_153 rfl (g_iconst 2 C X830 d0_155 rfl (g_icmpn (hI_ne _ _) C X830 d0_156 (fun _ => ?_) (fun q => absurd q (by decide))))
      refine g_getstatic (host := "") C X830 (Or.inl (wd hw 21 rfl)) Via.refl S_11 d0_165 (fun T831 X831 => ?_)
      refine g_astore C X831 d0_168 rfl (l' := #[.val (.int p0), .val (.int p1), .val (.int p2), .val (.int p3), .val (.int p4), .val (.int p5), s6, .val (.ref ab), .val (.int 3), .val (.int 0), .val (.int 1), .val (.int lc), .val (.int tc), .val (.int 8), .val (.ref x830), .val (.ref p_9)]) rfl (g_aload C X831 d0_170 rfl rfl (g_static (argsL := [(.ref x830)]) (st := []) C X831 (wd hw 60 rfl) (wd hw 61 rfl) (wd hw 6 rfl) (wd hw 62 rfl) (by decide) (pay_of (W' := 0) (rOf l hw X831.ext x830) C.hZ (wd hw 62 rfl) (wd hw 6 rfl) (by decide) (by decide)) pd_25 rfl rfl _ rfl (Nat.le_of_eq rfl) d0_172 (by decide) (by decide) (fun T832 h832 v832 q832 X832 => ?_)))
      obtain ⟨b832, rfl, n_b832, g832, E832, A832, F832⟩ := q832
      show Goes p e below _ T832 (mkF m 175 #[.val (.int p0), .val (.int p1), .val (.int p2), .val (.int p3), .val (.int p4), .val (.int p5), s6, .val (.ref ab), .val (.int 3), .val (.int 0), .val (.int 1), .val (.int lc), .val (.int tc), .val (.int 8), .val (.ref x830), .val (.ref p_9)] [(.ref b832)])
      refine g_aload C X832 d0_175 rfl rfl ?_
      have f833 := (Exa.ext E832 A830)
      have f834 := (Fld.ext E832 C830)
      have f835 := (Fld.ext E832 F830)
      have f836 := (Arv.ext V830 E832)
      refine g_static (argsL := [(.ref b832), (.ref ab)]) (st := []) C X832 (wd hw 9 rfl) (wd hw 10 rfl) (wd hw 2 rfl) (wd hw 11 rfl) (by decide) (pay_of (W' := 0) (rPa301 l hw X832.ext b832 ab x830 p_1 p_5 p_9 p_13 p_19 p_23 p_29 p_33 p_39 p_43 k_50 k_52 k_54 k_56 z_ SZ hz t830 k830 y0 y1 y2 y3 y4 y5 y6 y7 tc S_3 E_4 S_7 E_8 S_11 E_12 S_15 E_18 F_21 E_22 F_25 F_28 F_31 E_32 F_35 F_38 F_41 E_42 F_45 F_48 V_49 V_51 V_53 V_55 f833 f834 f835 f836 htc l0 l1 l2 l3 l4 l5 l6 l7 nx830 A832 F832) C.hZ (wd hw 11 rfl) (wd hw 2 rfl) (by decide) (by decide)) pd_23 rfl rfl _ rfl (Nat.le_of_eq rfl) d0_177 (by decide) (by decide) (fun T837 h837 v837 q837 X837 => ?_)
      obtain ⟨rfl, E837⟩ := q837
      show Goes p e below _ T837 (mkF m 180 #[.val (.int p0), .val (.int p1), .val (.int p2), .val (.int p3), .val (.int p4), .val (.int p5), s6, .val (.ref ab), .val (.int 3), .val (.int 0), .val (.int 1), .val (.int lc), .val (.int tc), .val (.int 8), .val (.ref x830), .val (.ref p_9)] [(.ref p_9)])
      refine g_aload C X837 d0_180 rfl rfl (g_acmpne C X837 d0_182 rfl rfl (fun q => absurd rfl q) (fun _ => ?_))
      refine g_iconst 1 C X837 d0_185 rfl (g_goto C X837 d0_186 ?_)
      exact g_retN C X837 (by simp) d0_190 (1 : Int32) rfl (by decide) (by decide) rfl
    · rw [e1, e2]
      refine g_iload C X0 d0_81 rfl (g_ldcI C X0 (wd hw 0 rfl) d0_83 (g_iand C X0 d0_85 (g_bipush 33 C X0 d0_86 rfl (g_irem C X0 d0_88 (by decide) (g_i2c C X0 d0_89 (g_istore C X0 d0_90 (l' := #[.val (.int p0), .val (.int p1), .val (.int p2), .val (.int p3), .val (.int p4), .val (.int p5), s6, .val (.ref ab), .val (.int 3), .val (.int 1), .val (.int 0), .val (.int (((p4 &&& (2147483647 : Int32)) % (33 : Int32)).toUInt32.toUInt16.toUInt32.toInt32)), .unset, .unset, .unset, .unset]) rfl (g_iload C X0 d0_92 rfl (g_ldcI C X0 (wd hw 0 rfl) d0_94 (g_iand C X0 d0_96 (g_bipush 33 C X0 d0_97 rfl (g_irem C X0 d0_99 (by decide) ?_)))))))))))
      refine g_i2c C X0 d0_100 (g_istore C X0 d0_101 (l' := #[.val (.int p0), .val (.int p1), .val (.int p2), .val (.int p3), .val (.int p4), .val (.int p5), s6, .val (.ref ab), .val (.int 3), .val (.int 1), .val (.int 0), .val (.int (((p4 &&& (2147483647 : Int32)) % (33 : Int32)).toUInt32.toUInt16.toUInt32.toInt32)), .val (.int (((p5 &&& (2147483647 : Int32)) % (33 : Int32)).toUInt32.toUInt16.toUInt32.toInt32)), .unset, .unset, .unset]) rfl ?_)
      obtain ⟨lc, ec⟩ : ∃ a : Int32, a = (((p4 &&& (2147483647 : Int32)) % (33 : Int32)).toUInt32.toUInt16.toUInt32.toInt32) := ⟨_, rfl⟩
      obtain ⟨tc, et⟩ : ∃ b : Int32, b = (((p5 &&& (2147483647 : Int32)) % (33 : Int32)).toUInt32.toUInt16.toUInt32.toInt32) := ⟨_, rfl⟩
      rw [← ec, ← et]
      have hlc : (¬ lc < 0 ∧ ¬ (32 : Int32) < lc) := ec ▸ own_r33 p4
      have htc : (¬ tc < 0 ∧ ¬ (32 : Int32) < tc) := et ▸ own_r33 p5
      show Goes p e below _ T0 (mkF m 103 #[.val (.int p0), .val (.int p1), .val (.int p2), .val (.int p3), .val (.int p4), .val (.int p5), s6, .val (.ref ab), .val (.int 3), .val (.int 1), .val (.int 0), .val (.int lc), .val (.int tc), .unset, .unset, .unset] [])
      refine g_iload C X0 d0_103 rfl (g_iconst 3 C X0 d0_105 rfl (g_icmpn (hI_ne _ _) C X0 d0_106 (fun q => absurd (by decide) q) (fun _ => ?_)))
      refine g_bipush 8 C X0 d0_109 rfl (g_goto C X0 d0_111 (g_istore C X0 d0_115 (l' := #[.val (.int p0), .val (.int p1), .val (.int p2), .val (.int p3), .val (.int p4), .val (.int p5), s6, .val (.ref ab), .val (.int 3), .val (.int 1), .val (.int 0), .val (.int lc), .val (.int tc), .val (.int 8), .unset, .unset]) rfl (g_iload C X0 d0_117 rfl (g_iload C X0 d0_119 rfl (g_iadd C X0 d0_121 (g_iload C X0 d0_122 rfl (g_iadd C X0 d0_124 (g_iload C X0 d0_125 rfl (g_iload C X0 d0_127 rfl (g_iload C X0 d0_129 rfl (g_iloadN C X0 d0_131 rfl ?_)))))))))))
      refine g_iload C X0 d0_132 rfl (g_iload C X0 d0_134 rfl (g_static (argsL := [(.int 9), (.int 1), (.int 8), (.int 3), (.int p2), (.int lc), (.int tc)]) (st := []) C X0 (wd hw 23 rfl) (wd hw 24 rfl) (wd hw 25 rfl) (wd hw 26 rfl) (by decide) (pay_of (W' := 0) (rSt310 l hw X0.ext p2 lc tc z_ SZ hz hlc htc) C.hZ (wd hw 26 rfl) (wd hw 25 rfl) (by decide) (by decide)) pd_24 rfl rfl _ rfl (Nat.le_of_eq rfl) d0_136 (by decide) (by decide) (fun T838 h838 v838 q838 X838 => ?_)))
      obtain ⟨x838, t838, k838, y0, y1, y2, y3, y4, y5, y6, y7, rfl, nx838, gx838, E838, A838, C838, F838, V838, l0, l1, l2, l3, l4, l5, l6, l7⟩ := q838
      show Goes p e below _ T838 (mkF m 139 #[.val (.int p0), .val (.int p1), .val (.int p2), .val (.int p3), .val (.int p4), .val (.int p5), s6, .val (.ref ab), .val (.int 3), .val (.int 1), .val (.int 0), .val (.int lc), .val (.int tc), .val (.int 8), .unset, .unset] [(.ref x838)])
      refine g_astore C X838 d0_139 rfl (l' := #[.val (.int p0), .val (.int p1), .val (.int p2), .val (.int p3), .val (.int p4), .val (.int p5), s6, .val (.ref ab), .val (.int 3), .val (.int 1), .val (.int 0), .val (.int lc), .val (.int tc), .val (.int 8), .val (.ref x838), .unset]) rfl (g_iload C X838 d0_141 rfl (g_iconst 1 C X838 d0_143 rfl (g_icmpn (hI_ne _ _) C X838 d0_144 (fun _ => ?_) (fun q => absurd q (by decide)))))
      refine g_iload C X838 d0_153 rfl (g_iconst 2 C X838 d0_155 rfl (g_icmpn (hI_ne _ _) C X838 d0_156 (fun _ => ?_) (fun q => absurd q (by decide))))
      refine g_getstatic (host := "") C X838 (Or.inl (wd hw 21 rfl)) Via.refl S_11 d0_165 (fun T839 X839 => ?_)
      refine g_astore C X839 d0_168 rfl (l' := #[.val (.int p0), .val (.int p1), .val (.int p2), .val (.int p3), .val (.int p4), .val (.int p5), s6, .val (.ref ab), .val (.int 3), .val (.int 1), .val (.int 0), .val (.int lc), .val (.int tc), .val (.int 8), .val (.ref x838), .val (.ref p_9)]) rfl (g_aload C X839 d0_170 rfl rfl (g_static (argsL := [(.ref x838)]) (st := []) C X839 (wd hw 60 rfl) (wd hw 61 rfl) (wd hw 6 rfl) (wd hw 62 rfl) (by decide) (pay_of (W' := 0) (rOf l hw X839.ext x838) C.hZ (wd hw 62 rfl) (wd hw 6 rfl) (by decide) (by decide)) pd_25 rfl rfl _ rfl (Nat.le_of_eq rfl) d0_172 (by decide) (by decide) (fun T840 h840 v840 q840 X840 => ?_)))
      obtain ⟨b840, rfl, n_b840, g840, E840, A840, F840⟩ := q840
      show Goes p e below _ T840 (mkF m 175 #[.val (.int p0), .val (.int p1), .val (.int p2), .val (.int p3), .val (.int p4), .val (.int p5), s6, .val (.ref ab), .val (.int 3), .val (.int 1), .val (.int 0), .val (.int lc), .val (.int tc), .val (.int 8), .val (.ref x838), .val (.ref p_9)] [(.ref b840)])
      refine g_aload C X840 d0_175 rfl rfl ?_
      have f841 := (Exa.ext E840 A838)
      have f842 := (Fld.ext E840 C838)
      have f843 := (Fld.ext E840 F838)
      have f844 := (Arv.ext V838 E840)
      refine g_static (argsL := [(.ref b840), (.ref ab)]) (st := []) C X840 (wd hw 9 rfl) (wd hw 10 rfl) (wd hw 2 rfl) (wd hw 11 rfl) (by decide) (pay_of (W' := 0) (rPa310 l hw X840.ext b840 ab x838 p_1 p_5 p_9 p_13 p_19 p_23 p_29 p_33 p_39 p_43 k_50 k_52 k_54 k_56 z_ SZ hz t838 k838 lc y0 y1 y2 y3 y4 y5 y6 y7 S_3 E_4 S_7 E_8 S_11 E_12 S_15 E_18 F_21 E_22 F_25 F_28 F_31 E_32 F_35 F_38 F_41 E_42 F_45 F_48 V_49 V_51 V_53 V_55 f841 f842 f843 f844 hlc l0 l1 l2 l3 l4 l5 l6 l7 nx838 A840 F840) C.hZ (wd hw 11 rfl) (wd hw 2 rfl) (by decide) (by decide)) pd_23 rfl rfl _ rfl (Nat.le_of_eq rfl) d0_177 (by decide) (by decide) (fun T845 h845 v845 q845 X845 => ?_)
      obtain ⟨rfl, E845⟩ := q845
      show Goes p e below _ T845 (mkF m 180 #[.val (.int p0), .val (.int p1), .val (.int p2), .val (.int p3), .val (.int p4), .val (.int p5), s6, .val (.ref ab), .val (.int 3), .val (.int 1), .val (.int 0), .val (.int lc), .val (.int tc), .val (.int 8), .val (.ref x838), .val (.ref p_9)] [(.ref p_9)])
      refine g_aload C X845 d0_180 rfl rfl (g_acmpne C X845 d0_182 rfl rfl (fun q => absurd rfl q) (fun _ => ?_))
      refine g_iconst 1 C X845 d0_185 rfl (g_goto C X845 d0_186 ?_)
      exact g_retN C X845 (by simp) d0_190 (1 : Int32) rfl (by decide) (by decide) rfl
    · rw [e1, e2]
      refine g_iload C X0 d0_81 rfl (g_ldcI C X0 (wd hw 0 rfl) d0_83 (g_iand C X0 d0_85 (g_bipush 33 C X0 d0_86 rfl (g_irem C X0 d0_88 (by decide) (g_i2c C X0 d0_89 (g_istore C X0 d0_90 (l' := #[.val (.int p0), .val (.int p1), .val (.int p2), .val (.int p3), .val (.int p4), .val (.int p5), s6, .val (.ref ab), .val (.int 3), .val (.int 1), .val (.int 1), .val (.int (((p4 &&& (2147483647 : Int32)) % (33 : Int32)).toUInt32.toUInt16.toUInt32.toInt32)), .unset, .unset, .unset, .unset]) rfl (g_iload C X0 d0_92 rfl (g_ldcI C X0 (wd hw 0 rfl) d0_94 (g_iand C X0 d0_96 (g_bipush 33 C X0 d0_97 rfl (g_irem C X0 d0_99 (by decide) ?_)))))))))))
      refine g_i2c C X0 d0_100 (g_istore C X0 d0_101 (l' := #[.val (.int p0), .val (.int p1), .val (.int p2), .val (.int p3), .val (.int p4), .val (.int p5), s6, .val (.ref ab), .val (.int 3), .val (.int 1), .val (.int 1), .val (.int (((p4 &&& (2147483647 : Int32)) % (33 : Int32)).toUInt32.toUInt16.toUInt32.toInt32)), .val (.int (((p5 &&& (2147483647 : Int32)) % (33 : Int32)).toUInt32.toUInt16.toUInt32.toInt32)), .unset, .unset, .unset]) rfl ?_)
      obtain ⟨lc, ec⟩ : ∃ a : Int32, a = (((p4 &&& (2147483647 : Int32)) % (33 : Int32)).toUInt32.toUInt16.toUInt32.toInt32) := ⟨_, rfl⟩
      obtain ⟨tc, et⟩ : ∃ b : Int32, b = (((p5 &&& (2147483647 : Int32)) % (33 : Int32)).toUInt32.toUInt16.toUInt32.toInt32) := ⟨_, rfl⟩
      rw [← ec, ← et]
      have hlc : (¬ lc < 0 ∧ ¬ (32 : Int32) < lc) := ec ▸ own_r33 p4
      have htc : (¬ tc < 0 ∧ ¬ (32 : Int32) < tc) := et ▸ own_r33 p5
      show Goes p e below _ T0 (mkF m 103 #[.val (.int p0), .val (.int p1), .val (.int p2), .val (.int p3), .val (.int p4), .val (.int p5), s6, .val (.ref ab), .val (.int 3), .val (.int 1), .val (.int 1), .val (.int lc), .val (.int tc), .unset, .unset, .unset] [])
      refine g_iload C X0 d0_103 rfl (g_iconst 3 C X0 d0_105 rfl (g_icmpn (hI_ne _ _) C X0 d0_106 (fun q => absurd (by decide) q) (fun _ => ?_)))
      refine g_bipush 8 C X0 d0_109 rfl (g_goto C X0 d0_111 (g_istore C X0 d0_115 (l' := #[.val (.int p0), .val (.int p1), .val (.int p2), .val (.int p3), .val (.int p4), .val (.int p5), s6, .val (.ref ab), .val (.int 3), .val (.int 1), .val (.int 1), .val (.int lc), .val (.int tc), .val (.int 8), .unset, .unset]) rfl (g_iload C X0 d0_117 rfl (g_iload C X0 d0_119 rfl (g_iadd C X0 d0_121 (g_iload C X0 d0_122 rfl (g_iadd C X0 d0_124 (g_iload C X0 d0_125 rfl (g_iload C X0 d0_127 rfl (g_iload C X0 d0_129 rfl (g_iloadN C X0 d0_131 rfl ?_)))))))))))
      refine g_iload C X0 d0_132 rfl (g_iload C X0 d0_134 rfl (g_static (argsL := [(.int 10), (.int 1), (.int 8), (.int 3), (.int p2), (.int lc), (.int tc)]) (st := []) C X0 (wd hw 23 rfl) (wd hw 24 rfl) (wd hw 25 rfl) (wd hw 26 rfl) (by decide) (pay_of (W' := 0) (rSt311 l hw X0.ext p2 lc tc z_ SZ hz hlc htc) C.hZ (wd hw 26 rfl) (wd hw 25 rfl) (by decide) (by decide)) pd_24 rfl rfl _ rfl (Nat.le_of_eq rfl) d0_136 (by decide) (by decide) (fun T846 h846 v846 q846 X846 => ?_)))
      obtain ⟨x846, t846, k846, y0, y1, y2, y3, y4, y5, y6, y7, rfl, nx846, gx846, E846, A846, C846, F846, V846, l0, l1, l2, l3, l4, l5, l6, l7⟩ := q846
      show Goes p e below _ T846 (mkF m 139 #[.val (.int p0), .val (.int p1), .val (.int p2), .val (.int p3), .val (.int p4), .val (.int p5), s6, .val (.ref ab), .val (.int 3), .val (.int 1), .val (.int 1), .val (.int lc), .val (.int tc), .val (.int 8), .unset, .unset] [(.ref x846)])
      refine g_astore C X846 d0_139 rfl (l' := #[.val (.int p0), .val (.int p1), .val (.int p2), .val (.int p3), .val (.int p4), .val (.int p5), s6, .val (.ref ab), .val (.int 3), .val (.int 1), .val (.int 1), .val (.int lc), .val (.int tc), .val (.int 8), .val (.ref x846), .unset]) rfl (g_iload C X846 d0_141 rfl (g_iconst 1 C X846 d0_143 rfl (g_icmpn (hI_ne _ _) C X846 d0_144 (fun _ => ?_) (fun q => absurd q (by decide)))))
      refine g_iload C X846 d0_153 rfl (g_iconst 2 C X846 d0_155 rfl (g_icmpn (hI_ne _ _) C X846 d0_156 (fun _ => ?_) (fun q => absurd q (by decide))))
      refine g_getstatic (host := "") C X846 (Or.inl (wd hw 21 rfl)) Via.refl S_11 d0_165 (fun T847 X847 => ?_)
      refine g_astore C X847 d0_168 rfl (l' := #[.val (.int p0), .val (.int p1), .val (.int p2), .val (.int p3), .val (.int p4), .val (.int p5), s6, .val (.ref ab), .val (.int 3), .val (.int 1), .val (.int 1), .val (.int lc), .val (.int tc), .val (.int 8), .val (.ref x846), .val (.ref p_9)]) rfl (g_aload C X847 d0_170 rfl rfl (g_static (argsL := [(.ref x846)]) (st := []) C X847 (wd hw 60 rfl) (wd hw 61 rfl) (wd hw 6 rfl) (wd hw 62 rfl) (by decide) (pay_of (W' := 0) (rOf l hw X847.ext x846) C.hZ (wd hw 62 rfl) (wd hw 6 rfl) (by decide) (by decide)) pd_25 rfl rfl _ rfl (Nat.le_of_eq rfl) d0_172 (by decide) (by decide) (fun T848 h848 v848 q848 X848 => ?_)))
      obtain ⟨b848, rfl, n_b848, g848, E848, A848, F848⟩ := q848
      show Goes p e below _ T848 (mkF m 175 #[.val (.int p0), .val (.int p1), .val (.int p2), .val (.int p3), .val (.int p4), .val (.int p5), s6, .val (.ref ab), .val (.int 3), .val (.int 1), .val (.int 1), .val (.int lc), .val (.int tc), .val (.int 8), .val (.ref x846), .val (.ref p_9)] [(.ref b848)])
      refine g_aload C X848 d0_175 rfl rfl ?_
      have f849 := (Exa.ext E848 A846)
      have f850 := (Fld.ext E848 C846)
      have f851 := (Fld.ext E848 F846)
      have f852 := (Arv.ext V846 E848)
      refine g_static (argsL := [(.ref b848), (.ref ab)]) (st := []) C X848 (wd hw 9 rfl) (wd hw 10 rfl) (wd hw 2 rfl) (wd hw 11 rfl) (by decide) (pay_of (W' := 0) (rPa311 l hw X848.ext b848 ab x846 p_1 p_5 p_9 p_13 p_19 p_23 p_29 p_33 p_39 p_43 k_50 k_52 k_54 k_56 z_ SZ hz t846 k846 lc y0 y1 y2 y3 y4 y5 y6 y7 tc S_3 E_4 S_7 E_8 S_11 E_12 S_15 E_18 F_21 E_22 F_25 F_28 F_31 E_32 F_35 F_38 F_41 E_42 F_45 F_48 V_49 V_51 V_53 V_55 f849 f850 f851 f852 hlc htc l0 l1 l2 l3 l4 l5 l6 l7 nx846 A848 F848) C.hZ (wd hw 11 rfl) (wd hw 2 rfl) (by decide) (by decide)) pd_23 rfl rfl _ rfl (Nat.le_of_eq rfl) d0_177 (by decide) (by decide) (fun T853 h853 v853 q853 X853 => ?_)
      obtain ⟨rfl, E853⟩ := q853
      show Goes p e below _ T853 (mkF m 180 #[.val (.int p0), .val (.int p1), .val (.int p2), .val (.int p3), .val (.int p4), .val (.int p5), s6, .val (.ref ab), .val (.int 3), .val (.int 1), .val (.int 1), .val (.int lc), .val (.int tc), .val (.int 8), .val (.ref x846), .val (.ref p_9)] [(.ref p_9)])
      refine g_aload C X853 d0_180 rfl rfl (g_acmpne C X853 d0_182 rfl rfl (fun q => absurd rfl q) (fun _ => ?_))
      refine g_iconst 1 C X853 d0_185 rfl (g_goto C X853 d0_186 ?_)
      exact g_retN C X853 (by simp) d0_190 (1 : Int32) rfl (by decide) (by decide) rfl
theorem ef_rm0 (m : MethodId) (p0 : Int32) (p1 : Int32) (p2 : Int32) (p3 : Int32) (p4 : Int32) (p5 : Int32) : entryFrame m #[(.int p0), (.int p1), (.int p2), (.int p3), (.int p4), (.int p5)] maxLocals = mkF m 0 #[.val (.int p0), .val (.int p1), .val (.int p2), .val (.int p3), .val (.int p4), .val (.int p5), .unset, .unset, .unset, .unset, .unset, .unset, .unset, .unset, .unset, .unset] [] := by first | (simp [entryFrame, mkF, argsToLocals, Value.category, maxLocals]; done) | rfl
theorem d0_0 : Dc code 0 (.iload_n 1) 1 1 := ⟨at_0, rfl⟩
theorem d0_1 : Dc code 1 (.ldc 7) 2 3 := ⟨at_1, rfl⟩
theorem d0_3 : Dc code 3 (.iand) 1 4 := ⟨at_3, rfl⟩
theorem d0_4 : Dc code 4 (.iconst 3) 1 5 := ⟨at_4, rfl⟩
theorem d0_5 : Dc code 5 (.irem) 1 6 := ⟨at_5, rfl⟩
theorem d0_6 : Dc code 6 (.istore 6) 2 8 := ⟨at_6, rfl⟩
theorem d0_8 : Dc code 8 (.iload 6) 2 10 := ⟨at_8, rfl⟩
theorem d0_10 : Dj code 10 (.ifCond .ne 9) 9 3 13 19 := ⟨at_10, rfl, by decide, by decide⟩
theorem d0_19 : Dc code 19 (.iload 6) 2 21 := ⟨at_19, rfl⟩
theorem d0_21 : Dc code 21 (.iconst 1) 1 22 := ⟨at_21, rfl⟩
theorem d0_22 : Dj code 22 (.if_icmp .ne 9) 9 3 25 31 := ⟨at_22, rfl, by decide, by decide⟩
theorem d0_31 : Dc code 31 (.getstatic 17) 3 34 := ⟨at_31, rfl⟩
theorem d0_34 : Dc code 34 (.astore 7) 2 36 := ⟨at_34, rfl⟩
theorem d0_25 : Dc code 25 (.getstatic 14) 3 28 := ⟨at_25, rfl⟩
theorem d0_28 : Dj code 28 (.goto 6) 6 3 31 34 := ⟨at_28, rfl, by decide, by decide⟩
theorem d0_13 : Dc code 13 (.getstatic 8) 3 16 := ⟨at_13, rfl⟩
theorem d0_16 : Dj code 16 (.goto 18) 18 3 19 34 := ⟨at_16, rfl, by decide, by decide⟩
theorem rm0 (l : Launch) {Z : State} {a0 : Array Value} (hw : ∀ d ∈ tables_1, d.before a0 Z = true) {h : Heap} (hE : Ext Z.heap h) (p0 : Int32) (p1 : Int32) (p2 : Int32) (p3 : Int32) (p4 : Int32) (p5 : Int32) (p_1 p_5 p_9 p_13 p_19 p_23 p_29 p_33 p_39 p_43 : Addr) (k_50 k_52 k_54 k_56 : ClassId) (z_ : Int32) (SZ : Sta Z Z.heap "java/lang/String" "COMPACT_STRINGS" "Z" (.int z_)) (hz : ¬ z_ = 0) (oe : Addr) (SE : Sta Z Z.heap "java/util/Optional" "EMPTY" "Ljava/util/Optional;" (.ref oe)) (EE : Exa Z Z.heap oe "java/util/Optional") (FE : Fld Z Z.heap oe "java/util/Optional" "value" "Ljava/lang/Object;" .null) (S_3 : Sta Z Z.heap "com/example/synctoken/synctoken/dav/Depth" "ZERO" "Lcom/example/synctoken/synctoken/dav/Depth;" (.ref p_1)) (E_4 : Exa Z Z.heap p_1 "com/example/synctoken/synctoken/dav/Depth") (S_7 : Sta Z Z.heap "com/example/synctoken/synctoken/dav/Depth" "ONE" "Lcom/example/synctoken/synctoken/dav/Depth;" (.ref p_5)) (E_8 : Exa Z Z.heap p_5 "com/example/synctoken/synctoken/dav/Depth") (S_11 : Sta Z Z.heap "com/example/synctoken/synctoken/dav/Depth" "INFINITY" "Lcom/example/synctoken/synctoken/dav/Depth;" (.ref p_9)) (E_12 : Exa Z Z.heap p_9 "com/example/synctoken/synctoken/dav/Depth") (S_15 : Sta Z Z.heap "com/example/synctoken/synctoken/dav/Depth" "$VALUES" "[Lcom/example/synctoken/synctoken/dav/Depth;" (.ref p_13)) (E_18 : Exa Z Z.heap p_13 "[Lcom/example/synctoken/synctoken/dav/Depth;") (F_21 : Fld Z Z.heap p_1 "com/example/synctoken/synctoken/dav/Depth" "value" "Ljava/lang/String;" (.ref p_19)) (E_22 : Exa Z Z.heap p_19 "java/lang/String") (F_25 : Fld Z Z.heap p_19 "java/lang/String" "value" "[B" (.ref p_23)) (F_28 : Fld Z Z.heap p_19 "java/lang/String" "coder" "B" (.int 0)) (F_31 : Fld Z Z.heap p_5 "com/example/synctoken/synctoken/dav/Depth" "value" "Ljava/lang/String;" (.ref p_29)) (E_32 : Exa Z Z.heap p_29 "java/lang/String") (F_35 : Fld Z Z.heap p_29 "java/lang/String" "value" "[B" (.ref p_33)) (F_38 : Fld Z Z.heap p_29 "java/lang/String" "coder" "B" (.int 0)) (F_41 : Fld Z Z.heap p_9 "com/example/synctoken/synctoken/dav/Depth" "value" "Ljava/lang/String;" (.ref p_39)) (E_42 : Exa Z Z.heap p_39 "java/lang/String") (F_45 : Fld Z Z.heap p_39 "java/lang/String" "value" "[B" (.ref p_43)) (F_48 : Fld Z Z.heap p_39 "java/lang/String" "coder" "B" (.int 0)) (V_49 : Arv Z Z.heap p_13 k_50 (.object "com/example/synctoken/synctoken/dav/Depth") 3 [(.ref p_1), (.ref p_5), (.ref p_9)] .null) (V_51 : Arv Z Z.heap p_23 k_52 .byte 1 [(.int 48)] (.int 0)) (V_53 : Arv Z Z.heap p_33 k_54 .byte 1 [(.int 49)] (.int 0)) (V_55 : Arv Z Z.heap p_43 k_56 .byte 8 [(.int 105), (.int 110), (.int 102), (.int 105), (.int 110), (.int 105), (.int 116), (.int 121)] (.int 0)) :
    Con l x code maxLocals ret tables_1 room_1 Z #[(.int p0), (.int p1), (.int p2), (.int p3), (.int p4), (.int p5)] h (fun v' h' => v' = some (.int 1)) := by
  refine con_of (plainFor_of_name pn_2) hE (fun m => ef_rm0 m p0 p1 p2 p3 p4 p5) ?_
  intro p e s m below meth c T0 C X0
  have C : Cx p s m meth c Z "com/example/synctoken/synctoken/dav/DepthParsePinLaw" "law" code maxLocals ret := C
  show Goes p e below _ T0 (mkF m 0 #[.val (.int p0), .val (.int p1), .val (.int p2), .val (.int p3), .val (.int p4), .val (.int p5), .unset, .unset, .unset, .unset, .unset, .unset, .unset, .unset, .unset, .unset] [])
  refine g_iloadN C X0 d0_0 rfl (g_ldcI C X0 (wd hw 0 rfl) d0_1 (g_iand C X0 d0_3 (g_iconst 3 C X0 d0_4 rfl (g_irem C X0 d0_5 (by decide) (g_istore C X0 d0_6 (l' := #[.val (.int p0), .val (.int p1), .val (.int p2), .val (.int p3), .val (.int p4), .val (.int p5), .val (.int ((p1 &&& (2147483647 : Int32)) % (3 : Int32))), .unset, .unset, .unset, .unset, .unset, .unset, .unset, .unset, .unset]) rfl (g_iload C X0 d0_8 rfl (g_ifn (h0_ne _) C X0 d0_10 (fun c10_854 => ?_) (fun c10_854 => ?_))))))))
  · refine g_iload C X0 d0_19 rfl (g_iconst 1 C X0 d0_21 rfl (g_icmpn (hI_ne _ _) C X0 d0_22 (fun c22_855 => ?_) (fun c22_855 => ?_)))
    · refine g_getstatic (host := "") C X0 (Or.inl (wd hw 21 rfl)) Via.refl S_11 d0_31 (fun T856 X856 => ?_)
      refine g_astore C X856 d0_34 rfl (l' := #[.val (.int p0), .val (.int p1), .val (.int p2), .val (.int p3), .val (.int p4), .val (.int p5), .val (.int ((p1 &&& (2147483647 : Int32)) % (3 : Int32))), .val (.ref p_9), .unset, .unset, .unset, .unset, .unset, .unset, .unset, .unset]) rfl ?_
      exact seg36 hw p0 p1 p2 p3 p4 p5 (.val (.int ((p1 &&& (2147483647 : Int32)) % (3 : Int32)))) p_9 p_1 p_5 p_9 p_13 p_19 p_23 p_29 p_33 p_39 p_43 k_50 k_52 k_54 k_56 z_ SZ hz oe SE EE FE C X856 S_3 E_4 S_7 E_8 S_11 E_12 S_15 E_18 F_21 E_22 F_25 F_28 F_31 E_32 F_35 F_38 F_41 E_42 F_45 F_48 V_49 V_51 V_53 V_55
    · refine g_getstatic (host := "") C X0 (Or.inl (wd hw 19 rfl)) Via.refl S_7 d0_25 (fun T857 X857 => ?_)
      refine g_goto C X857 d0_28 (g_astore C X857 d0_34 rfl (l' := #[.val (.int p0), .val (.int p1), .val (.int p2), .val (.int p3), .val (.int p4), .val (.int p5), .val (.int ((p1 &&& (2147483647 : Int32)) % (3 : Int32))), .val (.ref p_5), .unset, .unset, .unset, .unset, .unset, .unset, .unset, .unset]) rfl ?_)
      exact seg36 hw p0 p1 p2 p3 p4 p5 (.val (.int ((p1 &&& (2147483647 : Int32)) % (3 : Int32)))) p_5 p_1 p_5 p_9 p_13 p_19 p_23 p_29 p_33 p_39 p_43 k_50 k_52 k_54 k_56 z_ SZ hz oe SE EE FE C X857 S_3 E_4 S_7 E_8 S_11 E_12 S_15 E_18 F_21 E_22 F_25 F_28 F_31 E_32 F_35 F_38 F_41 E_42 F_45 F_48 V_49 V_51 V_53 V_55
  · refine g_getstatic (host := "") C X0 (Or.inl (wd hw 1 rfl)) Via.refl S_3 d0_13 (fun T858 X858 => ?_)
    refine g_goto C X858 d0_16 (g_astore C X858 d0_34 rfl (l' := #[.val (.int p0), .val (.int p1), .val (.int p2), .val (.int p3), .val (.int p4), .val (.int p5), .val (.int ((p1 &&& (2147483647 : Int32)) % (3 : Int32))), .val (.ref p_1), .unset, .unset, .unset, .unset, .unset, .unset, .unset, .unset]) rfl ?_)
    exact seg36 hw p0 p1 p2 p3 p4 p5 (.val (.int ((p1 &&& (2147483647 : Int32)) % (3 : Int32)))) p_1 p_1 p_5 p_9 p_13 p_19 p_23 p_29 p_33 p_39 p_43 k_50 k_52 k_54 k_56 z_ SZ hz oe SE EE FE C X858 S_3 E_4 S_7 E_8 S_11 E_12 S_15 E_18 F_21 E_22 F_25 F_28 F_31 E_32 F_35 F_38 F_41 E_42 F_45 F_48 V_49 V_51 V_53 V_55
theorem comes_1 {Post : Tables → Env → Array Value → State → Outcome → State → Prop} (hpost : ∀ tb e args s v u, (limb_1_1.after args s (.returned v) u = true ∧ limb_1_2.after args s (.returned v) u = true ∧ True) → FrameEnd s (.returned v) u (Jvm.fieldLocs frame_1_writes args s ++ Jvm.arrayLocs frame_1_arrays args s ++ Jvm.staticLocs frame_1_statics s) 24 192 → Post tb e args s (.returned v) u) :
    ArmFor flags0 classFile x code maxLocals ret World_1 tables_1 room_1 Calls_1 rest_1 Pre_1 Post := by
  intro l hfl _ _ p e ha hc hk s m args below hf hA hF happ hP
  obtain ⟨hcalls, hrest, hpre⟩ := hP
  obtain ⟨-, -, -, hnamed, -, -, -, hat⟩ := (Spec.applies_iff hf).mp happ
  obtain ⟨hg, hn⟩ := and_e (Cond.before_iff.mp (show (Jvm.Cond.and given_1 narrow_1).before args s = true from hpre))
  obtain ⟨hcount, hg⟩ := and_e hg
  obtain ⟨ha0, hg⟩ := and_e hg
  obtain ⟨ha1, hg⟩ := and_e hg
  obtain ⟨ha2, hg⟩ := and_e hg
  obtain ⟨ha3, hg⟩ := and_e hg
  obtain ⟨ha4, hg⟩ := and_e hg
  have ha5 := hg
  obtain ⟨w0, w1, w2, w3, w4, w5, rfl⟩ : ∃ w0 w1 w2 w3 w4 w5 : Value, args = #[w0, w1, w2, w3, w4, w5] := by
    have hs : args.size = 6 := by simpa [Cond.value, given_1] using hcount
    obtain ⟨L⟩ := args
    match L, hs with
    | [w0, w1, w2, w3, w4, w5], _ => exact ⟨w0, w1, w2, w3, w4, w5, rfl⟩
  have hw := fun d (hd : d ∈ tables_1) => atoms_spec (ws := Jvm.Cond.code x code maxLocals ret :: tables_1) hat d (List.mem_cons_of_mem _ hd)
  have hfit : Fit s := fun {y c} hc i hi => by
    obtain ⟨ha, rfl⟩ := Array.getElem?_eq_some_iff.mp hc
    have q := List.all_eq_true.mp ((Array.all_eq_true_iff_forall_mem.mp hF) _ (Array.getElem_mem ha)) i (List.mem_range.mpr hi)
    simpa [Array.getElem?_eq_getElem hi] using q
  obtain ⟨hsets, hown0⟩ := atoms_of _ (rest_1_c_eq ▸ (show rest_1_c.before _ s = true from hrest))
  have hr0 := Cond.before_iff.mp hown0
  obtain ⟨i0, ei0⟩ := is_v ha0
  obtain rfl : w0 = (.int i0) := Option.some.inj ei0
  obtain ⟨i1, ei1⟩ := is_v ha1
  obtain rfl : w1 = (.int i1) := Option.some.inj ei1
  obtain ⟨i2, ei2⟩ := is_v ha2
  obtain rfl : w2 = (.int i2) := Option.some.inj ei2
  obtain ⟨i3, ei3⟩ := is_v ha3
  obtain rfl : w3 = (.int i3) := Option.some.inj ei3
  obtain ⟨i4, ei4⟩ := is_v ha4
  obtain rfl : w4 = (.int i4) := Option.some.inj ei4
  obtain ⟨i5, ei5⟩ := is_v ha5
  obtain rfl : w5 = (.int i5) := Option.some.inj ei5
  obtain ⟨z_, vz⟩ := is_v (Cond.before_iff.mp (hsets _ (List.mem_of_getElem? (i := 5) rfl)))
  have SZ := Sta.start vz (Or.inl (hsets _ (List.mem_of_getElem? (i := 4) rfl)))
  have hz := nz_v vz (Cond.before_iff.mp (hsets _ (List.mem_of_getElem? (i := 6) rfl)))
  obtain ⟨oe, ve⟩ := exa_v (Cond.before_iff.mp (hsets _ (List.mem_of_getElem? (i := 2) rfl)))
  have SE := Sta.start ve (Or.inl (hsets _ (List.mem_of_getElem? (i := 1) rfl)))
  have EE := Exa.start ve (Cond.before_iff.mp (hsets _ (List.mem_of_getElem? (i := 2) rfl)))
  have FE := fld_of ve (eqN_v (Cond.before_iff.mp (hsets _ (List.mem_of_getElem? (i := 3) rfl))))
  obtain ⟨n0, hn⟩ := and_e hn
  obtain ⟨n1, hn⟩ := and_e hn
  obtain ⟨n2, hn⟩ := and_e hn
  obtain ⟨n3, hn⟩ := and_e hn
  obtain ⟨n4, hn⟩ := and_e hn
  obtain ⟨n5, hn⟩ := and_e hn
  obtain ⟨n6, hn⟩ := and_e hn
  obtain ⟨n7, hn⟩ := and_e hn
  obtain ⟨n8, hn⟩ := and_e hn
  obtain ⟨n9, hn⟩ := and_e hn
  obtain ⟨n10, hn⟩ := and_e hn
  obtain ⟨n11, hn⟩ := and_e hn
  obtain ⟨n12, hn⟩ := and_e hn
  obtain ⟨n13, hn⟩ := and_e hn
  obtain ⟨n14, hn⟩ := and_e hn
  obtain ⟨n15, hn⟩ := and_e hn
  obtain ⟨n16, hn⟩ := and_e hn
  obtain ⟨n17, hn⟩ := and_e hn
  obtain ⟨n18, hn⟩ := and_e hn
  obtain ⟨n19, hn⟩ := and_e hn
  obtain ⟨n20, hn⟩ := and_e hn
  obtain ⟨n21, hn⟩ := and_e hn
  obtain ⟨n22, hn⟩ := and_e hn
  obtain ⟨n23, hn⟩ := and_e hn
  obtain ⟨n24, hn⟩ := and_e hn
  obtain ⟨n25, hn⟩ := and_e hn
  obtain ⟨n26, hn⟩ := and_e hn
  obtain ⟨n27, hn⟩ := and_e hn
  obtain ⟨n28, hn⟩ := and_e hn
  obtain ⟨n29, hn⟩ := and_e hn
  have n30 := hn
  obtain ⟨p_1, v_2⟩ := exa_v n0
  have S_3 := Sta.start v_2 (Or.inr ⟨(wd hw 2 rfl), (wd hw 3 rfl)⟩)
  have E_4 := Exa.start v_2 n0
  obtain ⟨p_5, v_6⟩ := exa_v n1
  have S_7 := Sta.start v_6 (Or.inr ⟨(wd hw 2 rfl), (wd hw 20 rfl)⟩)
  have E_8 := Exa.start v_6 n1
  obtain ⟨p_9, v_10⟩ := exa_v n2
  have S_11 := Sta.start v_10 (Or.inr ⟨(wd hw 2 rfl), (wd hw 22 rfl)⟩)
  have E_12 := Exa.start v_10 n2
  obtain ⟨p_13, v_14⟩ := arr_v n3
  have S_15 := Sta.start v_14 (Or.inl (wd hw 109 rfl))
  obtain ⟨c_16, A_17⟩ := Arr.start v_14 n3
  have E_18 := Exa.start v_14 n4
  obtain ⟨p_19, v_20⟩ := exa_v n9
  have F_21 := fld_of v_2 v_20
  have E_22 := Exa.start v_20 n9
  obtain ⟨p_23, v_24⟩ := arr_v n10
  have F_25 := fld_of v_20 v_24
  obtain ⟨c_26, A_27⟩ := Arr.start v_24 n10
  have F_28 := fld_of v_20 (eqI_v n12)
  obtain ⟨p_29, v_30⟩ := exa_v n14
  have F_31 := fld_of v_6 v_30
  have E_32 := Exa.start v_30 n14
  obtain ⟨p_33, v_34⟩ := arr_v n15
  have F_35 := fld_of v_30 v_34
  obtain ⟨c_36, A_37⟩ := Arr.start v_34 n15
  have F_38 := fld_of v_30 (eqI_v n17)
  obtain ⟨p_39, v_40⟩ := exa_v n18
  have F_41 := fld_of v_10 v_40
  have E_42 := Exa.start v_40 n18
  obtain ⟨p_43, v_44⟩ := arr_v n19
  have F_45 := fld_of v_40 v_44
  obtain ⟨c_46, A_47⟩ := Arr.start v_44 n19
  have F_48 := fld_of v_40 (eqI_v n21)
  have V_49 := arr_start (vs := [(.ref p_1), (.ref p_5), (.ref p_9)]) .null hfit A_17 v_14 (eqI_v n5) (by decide) rfl ⟨elem_start A_17 v_14 (eqR_v n6 v_2), elem_start A_17 v_14 (eqR_v n7 v_6), elem_start A_17 v_14 (eqR_v n8 v_10), trivial⟩
  have V_51 := arr_start (vs := [(.int 48)]) (.int 0) hfit A_27 v_24 (eqI_v n11) (by decide) rfl ⟨elem_start A_27 v_24 (eqI_v n13), trivial⟩
  have V_53 := arr_start (vs := [(.int 49)]) (.int 0) hfit A_37 v_34 (eqI_v n16) (by decide) rfl ⟨elem_start A_37 v_34 (eqI_v n22), trivial⟩
  have V_55 := arr_start (vs := [(.int 105), (.int 110), (.int 102), (.int 105), (.int 110), (.int 105), (.int 116), (.int 121)]) (.int 0) hfit A_47 v_44 (eqI_v n20) (by decide) rfl ⟨elem_start A_47 v_44 (eqI_v n23), elem_start A_47 v_44 (eqI_v n24), elem_start A_47 v_44 (eqI_v n25), elem_start A_47 v_44 (eqI_v n26), elem_start A_47 v_44 (eqI_v n27), elem_start A_47 v_44 (eqI_v n28), elem_start A_47 v_44 (eqI_v n29), elem_start A_47 v_44 (eqI_v n30), trivial⟩
  obtain ⟨n, o, h1, h2, h3, _, L, rfl, ⟨N, _, rfl⟩, hq⟩ := rm0 l (Z := s) hw ⟨Nat.le_refl _, fun _ _ q => q⟩ i0 i1 i2 i3 i4 i5 p_1 p_5 p_9 p_13 p_19 p_23 p_29 p_33 p_39 p_43 _ _ _ _ z_ SZ hz oe SE EE FE S_3 E_4 S_7 E_8 S_11 E_12 S_15 E_18 F_21 E_22 F_25 F_28 F_31 E_32 F_35 F_38 F_41 E_42 F_45 F_48 V_49 V_51 V_53 V_55 p e ha hc hk s m _ below hf ((Spec.applies_iff_loose hf).mp happ).1 ⟨rfl, State.Warmed39.refl s, rfl⟩ trivial
  exact ⟨n, _, h1, h2, h3, hpost _ _ _ _ _ _ ⟨Cond.after_iff.mpr rfl, Cond.after_iff.mpr (eq_i res_at (Term.int_eval (1)) rfl), trivial⟩ ⟨hq.1, hq.2.1, (hq.2.2.sift fun y hy => Or.inr (N y hy)).mono (by decide) (by decide)⟩⟩
theorem main_1_1 : Claimed_1_1 := comes_1 fun _ _ _ _ _ _ h hF => ⟨h.1, hF⟩
theorem main_1_2 : Claimed_1_2 := comes_1 fun _ _ _ _ _ _ h hF => ⟨h.2.1, hF⟩
end Jvm.Pilot.@@N@@
namespace Jvm.Pilot.@@N@@
open Jvm Jvm.ClassFile Sem Op Lib Jvm.Free Jvm.Stand Jvm.Pilot.@@N@@.Jvm.D
/-! MADE BY PROGRAM (witnessworld.py) out of the Statement's table words and the real class files: 29 classes; the members and pool entries that the words name. The judged class is class 1, her method 1. -/
namespace start1
open Jvm.ClassFile
def u (s : String) : CpInfo := .utf8 (stringToUtf16 s)
/-- a pool by its gaps: so many unusable entries, then the entry; so many at the end -/
def gap : Nat → List CpInfo → List CpInfo
  | 0, r => r
  | n + 1, r => .unusable :: gap n r
def poolList (es : List (Nat × CpInfo)) (last : Nat) : List CpInfo := es.foldr (fun e r => gap e.1 (e.2 :: r)) (gap last [])
def pool (es : List (Nat × CpInfo)) (last : Nat) : Array CpInfo := ⟨poolList es last⟩
def fileOf (pool : Array CpInfo) (this : Nat) (attrs : Array Attribute := #[]) (ms : Array MethodInfo := #[]) (fl : Nat := 33) (sup : Nat := 0) (ifs : Array Nat := #[]) (fds : Array FieldInfo := #[]) : ClassFile where
  minorVersion := 0
  majorVersion := 65
  constantPool := pool
  accessFlags := fl
  thisClass := this
  superClass := sup
  interfaces := ifs
  fields := fds
  methods := ms
  attributes := attrs
def plain (name : String) (sup : Option ClassId) : Class where
  name := name
  kind := .ordinary
  loader := none
  accessFlags := 33
  super := sup
  interfaces := #[]
  cf := none
  fields := #[]
  methods := #[]
  instanceTypes := #[]
  staticTypes := #[]
  resolved := #[]
  callSites := []
  init := .initialized
  statics := none
  mirror := none

def pool0 : Array CpInfo := pool [(5, u "<init>"), (0, u "()V"), (1, .class_ 10), (1, u "java/lang/Object"), (85, u "clone"), (0, u "()Ljava/lang/Object;")] 26

def k0c0 : Code := { maxStack := 0, maxLocals := 1, code := object_method_1_code, exceptionTable := #[], attributes := #[] }
def k0m0 : Method := { name := "<init>", desc := "()V", sig := { parameters := [], returnType := none }, accessFlags := 1, code := some k0c0 }
def k0m1 : Method := { name := "clone", desc := "()Ljava/lang/Object;", sig := { parameters := [], returnType := some (.object "java/lang/Object") }, accessFlags := 260, code := none }
/-- java/lang/Object -/
def k0 : Class := { plain "java/lang/Object" none with
  accessFlags := 33
  interfaces := #[]
  cf := some (fileOf pool0 8 #[] #[{ accessFlags := 1, nameIndex := 5, descriptorIndex := 6, attributes := #[] }, { accessFlags := 260, nameIndex := 96, descriptorIndex := 97, attributes := #[] }] 33 0 #[] #[])
  fields := #[]
  methods := #[k0m0, k0m1]
  instanceTypes := #[]
  staticTypes := #[]
  resolved := Array.replicate 124 none
  statics := none }

def pool1 : Array CpInfo := pool [(2, .class_ 4), (1, u "java/lang/Object"), (0, u "<init>"), (0, u "()V"), (0, .integer 2147483647), (0, .fieldref 9 10), (0, .class_ 11), (0, .nameAndType 12 13), (0, u "com/example/synctoken/synctoken/dav/Depth"), (0, u "ZERO"), (0, u "Lcom/example/synctoken/synctoken/dav/Depth;"), (0, .fieldref 9 15), (0, .nameAndType 16 13), (0, u "ONE"), (0, .fieldref 9 18), (0, .nameAndType 19 13), (0, u "INFINITY"), (0, .methodref 21 22), (0, .class_ 23), (0, .nameAndType 24 25), (0, u "java/util/Optional"), (0, u "empty"), (0, u "()Ljava/util/Optional;"), (0, .methodref 9 27), (0, .nameAndType 28 29), (0, u "parse"), (0, u "(Ljava/util/Optional;Lcom/example/synctoken/synctoken/dav/Depth;)Lcom/example/synctoken/synctoken/dav/Depth;"), (0, .methodref 31 32), (0, .class_ 33), (0, .nameAndType 34 35), (0, u "com/example/synctoken/synctoken/dav/DepthParsePinLaw"), (0, u "str"), (0, u "(IIIIICC)Ljava/lang/String;"), (0, .methodref 21 37), (0, .nameAndType 38 39), (0, u "of"), (0, u "(Ljava/lang/Object;)Ljava/util/Optional;"), (0, .methodref 31 41), (0, .nameAndType 42 43), (0, u "at"), (0, u "(IIIIICC)C"), (0, .class_ 45), (0, u "java/lang/String"), (0, .methodref 44 47), (0, .nameAndType 5 48), (0, u "([C)V"), (0, .methodref 31 50), (0, .nameAndType 51 52), (0, u "letter"), (0, u "(II)C"), (2, u "law"), (0, u "(IIIIII)Z")] 8

def k1m0 : Method := { name := "<init>", desc := "()V", sig := { parameters := [], returnType := none }, accessFlags := 2, code := none }
def k1c1 : Code := { maxStack := 7, maxLocals := 16, code := code, exceptionTable := #[], attributes := #[] }
def k1m1 : Method := { name := "law", desc := "(IIIIII)Z", sig := { parameters := [.int, .int, .int, .int, .int, .int], returnType := some .boolean }, accessFlags := 9, code := some k1c1 }
def k1c2 : Code := { maxStack := 9, maxLocals := 8, code := method_3_code, exceptionTable := #[], attributes := #[] }
def k1m2 : Method := { name := "str", desc := "(IIIIICC)Ljava/lang/String;", sig := { parameters := [.int, .int, .int, .int, .int, .char, .char], returnType := some (.object "java/lang/String") }, accessFlags := 10, code := some k1c2 }
def k1c3 : Code := { maxStack := 2, maxLocals := 8, code := method_4_code, exceptionTable := #[], attributes := #[] }
def k1m3 : Method := { name := "at", desc := "(IIIIICC)C", sig := { parameters := [.int, .int, .int, .int, .int, .char, .char], returnType := some .char }, accessFlags := 10, code := some k1c3 }
def k1c4 : Code := { maxStack := 2, maxLocals := 3, code := method_5_code, exceptionTable := #[], attributes := #[] }
def k1m4 : Method := { name := "letter", desc := "(II)C", sig := { parameters := [.int, .int], returnType := some .char }, accessFlags := 10, code := some k1c4 }
/-- com/example/synctoken/synctoken/dav/DepthParsePinLaw -/
def k1 : Class := { plain "com/example/synctoken/synctoken/dav/DepthParsePinLaw" (some 0) with
  accessFlags := 49
  interfaces := #[]
  cf := some (fileOf pool1 31 #[] #[{ accessFlags := 2, nameIndex := 5, descriptorIndex := 6, attributes := #[] }, { accessFlags := 9, nameIndex := 55, descriptorIndex := 56, attributes := #[] }, { accessFlags := 10, nameIndex := 34, descriptorIndex := 35, attributes := #[] }, { accessFlags := 10, nameIndex := 42, descriptorIndex := 43, attributes := #[] }, { accessFlags := 10, nameIndex := 51, descriptorIndex := 52, attributes := #[] }] 49 2 #[] #[])
  fields := #[]
  methods := #[k1m0, k1m1, k1m2, k1m3, k1m4]
  instanceTypes := #[]
  staticTypes := #[]
  resolved := Array.replicate 65 none
  statics := none }

def pool2 : Array CpInfo := pool [(1, .class_ 2), (0, u "java/lang/constant/Constable"), (0, .class_ 4), (0, u "java/lang/Object")] 6

/-- java/lang/constant/Constable -/
def k2 : Class := { plain "java/lang/constant/Constable" (some 0) with
  accessFlags := 1537
  interfaces := #[]
  cf := some (fileOf pool2 1 #[] #[] 1537 3 #[] #[])
  fields := #[]
  methods := #[]
  instanceTypes := #[]
  staticTypes := #[]
  resolved := Array.replicate 11 none
  statics := none }

def pool3 : Array CpInfo := pool [(1, .class_ 2), (0, u "java/lang/Comparable"), (0, .class_ 4), (0, u "java/lang/Object")] 7

/-- java/lang/Comparable -/
def k3 : Class := { plain "java/lang/Comparable" (some 0) with
  accessFlags := 1537
  interfaces := #[]
  cf := some (fileOf pool3 1 #[] #[] 1537 3 #[] #[])
  fields := #[]
  methods := #[]
  instanceTypes := #[]
  staticTypes := #[]
  resolved := Array.replicate 12 none
  statics := none }

def pool4 : Array CpInfo := pool [(1, .class_ 2), (0, u "java/io/Serializable"), (0, .class_ 4), (0, u "java/lang/Object")] 2

/-- java/io/Serializable -/
def k4 : Class := { plain "java/io/Serializable" (some 0) with
  accessFlags := 1537
  interfaces := #[]
  cf := some (fileOf pool4 1 #[] #[] 1537 3 #[] #[])
  fields := #[]
  methods := #[]
  instanceTypes := #[]
  staticTypes := #[]
  resolved := Array.replicate 7 none
  statics := none }

def pool5 : Array CpInfo := pool [(2, .class_ 4), (1, u "java/lang/Enum"), (0, u "name"), (0, u "Ljava/lang/String;"), (2, u "ordinal"), (0, u "I"), (1, .class_ 14), (1, u "java/lang/Object"), (4, u "hash"), (86, .class_ 108), (1, u "java/lang/Enum$EnumDesc"), (2, .class_ 112), (0, u "java/lang/constant/Constable"), (0, .class_ 114), (0, u "java/lang/Comparable"), (0, .class_ 116), (0, u "java/io/Serializable")] 87

/-- java/lang/Enum -/
def k5 : Class := { plain "java/lang/Enum" (some 0) with
  accessFlags := 1057
  interfaces := #[2, 3, 4]
  cf := some (fileOf pool5 2 #[.nestMembers #[106]] #[] 1057 12 #[111, 113, 115] #[{ accessFlags := 18, nameIndex := 5, descriptorIndex := 6, attributes := #[] }, { accessFlags := 18, nameIndex := 9, descriptorIndex := 10, attributes := #[] }, { accessFlags := 2, nameIndex := 19, descriptorIndex := 10, attributes := #[] }])
  fields := #[{ name := "name", type := (.object "java/lang/String"), accessFlags := 18, slot := 0, constantValue := 0 }, { name := "ordinal", type := .int, accessFlags := 18, slot := 1, constantValue := 0 }, { name := "hash", type := .int, accessFlags := 2, slot := 2, constantValue := 0 }]
  methods := #[]
  instanceTypes := #[(.object "java/lang/String"), .int, .int]
  staticTypes := #[]
  resolved := Array.replicate 204 none
  statics := none }

def pool6 : Array CpInfo := pool [(1, .class_ 2), (0, u "com/example/synctoken/synctoken/dav/Depth"), (2, u "ZERO"), (0, u "Lcom/example/synctoken/synctoken/dav/Depth;"), (2, u "ONE"), (2, u "INFINITY"), (0, .fieldref 1 14), (0, .nameAndType 15 16), (0, u "$VALUES"), (0, u "[Lcom/example/synctoken/synctoken/dav/Depth;"), (0, .methodref 18 19), (0, .class_ 16), (0, .nameAndType 20 21), (0, u "clone"), (0, u "()Ljava/lang/Object;"), (1, .class_ 25), (1, u "java/lang/Enum"), (6, .fieldref 1 33), (0, .nameAndType 34 35), (0, u "value"), (0, u "Ljava/lang/String;"), (0, .methodref 37 38), (0, .class_ 39), (0, .nameAndType 40 41), (0, u "java/util/Optional"), (0, u "isPresent"), (0, u "()Z"), (0, .methodref 37 43), (0, .nameAndType 44 21), (0, u "get"), (0, .class_ 46), (0, u "java/lang/String"), (0, .methodref 45 48), (0, .nameAndType 49 50), (0, u "trim"), (0, u "()Ljava/lang/String;"), (0, .methodref 1 52), (0, .nameAndType 53 54), (0, u "named"), (0, u "(Ljava/lang/String;)Lcom/example/synctoken/synctoken/dav/Depth;"), (0, .methodref 1 56), (0, .nameAndType 57 58), (0, u "values"), (0, u "()[Lcom/example/synctoken/synctoken/dav/Depth;"), (0, .methodref 45 60), (0, .nameAndType 61 62), (0, u "equalsIgnoreCase"), (0, u "(Ljava/lang/String;)Z"), (24, u "HEADER"), (7, u "parse"), (0, u "(Ljava/util/Optional;Lcom/example/synctoken/synctoken/dav/Depth;)Lcom/example/synctoken/synctoken/dav/Depth;")] 23

def k6c0 : Code := { maxStack := 1, maxLocals := 0, code := prog_4_method_1_code, exceptionTable := #[], attributes := #[] }
def k6m0 : Method := { name := "values", desc := "()[Lcom/example/synctoken/synctoken/dav/Depth;", sig := { parameters := [], returnType := some (.array (.object "com/example/synctoken/synctoken/dav/Depth")) }, accessFlags := 9, code := some k6c0 }
def k6c1 : Code := { maxStack := 1, maxLocals := 3, code := prog_4_method_4_code, exceptionTable := #[], attributes := #[] }
def k6m1 : Method := { name := "parse", desc := "(Ljava/util/Optional;Lcom/example/synctoken/synctoken/dav/Depth;)Lcom/example/synctoken/synctoken/dav/Depth;", sig := { parameters := [(.object "java/util/Optional"), (.object "com/example/synctoken/synctoken/dav/Depth")], returnType := some (.object "com/example/synctoken/synctoken/dav/Depth") }, accessFlags := 8, code := some k6c1 }
def k6c2 : Code := { maxStack := 3, maxLocals := 5, code := prog_4_method_5_code, exceptionTable := #[], attributes := #[] }
def k6m2 : Method := { name := "named", desc := "(Ljava/lang/String;)Lcom/example/synctoken/synctoken/dav/Depth;", sig := { parameters := [(.object "java/lang/String")], returnType := some (.object "com/example/synctoken/synctoken/dav/Depth") }, accessFlags := 10, code := some k6c2 }
/-- com/example/synctoken/synctoken/dav/Depth -/
def k6 : Class := { plain "com/example/synctoken/synctoken/dav/Depth" (some 5) with
  accessFlags := 16432
  interfaces := #[]
  cf := some (fileOf pool6 1 #[] #[{ accessFlags := 9, nameIndex := 57, descriptorIndex := 58, attributes := #[] }, { accessFlags := 8, nameIndex := 95, descriptorIndex := 96, attributes := #[] }, { accessFlags := 10, nameIndex := 53, descriptorIndex := 54, attributes := #[] }] 16432 23 #[] #[{ accessFlags := 16409, nameIndex := 5, descriptorIndex := 6, attributes := #[] }, { accessFlags := 16409, nameIndex := 9, descriptorIndex := 6, attributes := #[] }, { accessFlags := 16409, nameIndex := 12, descriptorIndex := 6, attributes := #[] }, { accessFlags := 24, nameIndex := 87, descriptorIndex := 35, attributes := #[] }, { accessFlags := 18, nameIndex := 34, descriptorIndex := 35, attributes := #[] }, { accessFlags := 4122, nameIndex := 15, descriptorIndex := 16, attributes := #[] }])
  fields := #[{ name := "ZERO", type := (.object "com/example/synctoken/synctoken/dav/Depth"), accessFlags := 16409, slot := 0, constantValue := 0 }, { name := "ONE", type := (.object "com/example/synctoken/synctoken/dav/Depth"), accessFlags := 16409, slot := 1, constantValue := 0 }, { name := "INFINITY", type := (.object "com/example/synctoken/synctoken/dav/Depth"), accessFlags := 16409, slot := 2, constantValue := 0 }, { name := "HEADER", type := (.object "java/lang/String"), accessFlags := 24, slot := 3, constantValue := 0 }, { name := "value", type := (.object "java/lang/String"), accessFlags := 18, slot := 3, constantValue := 0 }, { name := "$VALUES", type := (.array (.object "com/example/synctoken/synctoken/dav/Depth")), accessFlags := 4122, slot := 4, constantValue := 0 }]
  methods := #[k6m0, k6m1, k6m2]
  instanceTypes := #[(.object "java/lang/String"), .int, .int, (.object "java/lang/String")]
  staticTypes := #[(.object "com/example/synctoken/synctoken/dav/Depth"), (.object "com/example/synctoken/synctoken/dav/Depth"), (.object "com/example/synctoken/synctoken/dav/Depth"), (.object "java/lang/String"), (.array (.object "com/example/synctoken/synctoken/dav/Depth"))]
  resolved := Array.replicate 120 none
  statics := some 0 }

def pool7 : Array CpInfo := pool [(1, .fieldref 2 3), (0, .class_ 4), (0, .nameAndType 5 6), (0, u "java/util/Optional"), (0, u "EMPTY"), (0, u "Ljava/util/Optional;"), (0, .methodref 8 9), (0, .class_ 10), (0, .nameAndType 11 12), (0, u "java/lang/Object"), (0, u "<init>"), (0, u "()V"), (0, .fieldref 2 14), (0, .nameAndType 15 16), (0, u "value"), (0, u "Ljava/lang/Object;"), (0, .methodref 18 19), (0, .class_ 20), (0, .nameAndType 21 22), (0, u "java/util/Objects"), (0, u "requireNonNull"), (0, u "(Ljava/lang/Object;)Ljava/lang/Object;"), (0, .methodref 2 24), (0, .nameAndType 11 25), (0, u "(Ljava/lang/Object;)V"), (20, u "()Z"), (8, u "empty"), (0, u "()Ljava/util/Optional;"), (8, u "(Ljava/lang/Object;)Ljava/util/Optional;"), (2, u "isPresent"), (4, u "get"), (0, u "()Ljava/lang/Object;"), (7, u "of")] 104

def k7c0 : Code := { maxStack := 1, maxLocals := 1, code := jdk_32_method_1_code, exceptionTable := #[], attributes := #[] }
def k7m0 : Method := { name := "empty", desc := "()Ljava/util/Optional;", sig := { parameters := [], returnType := some (.object "java/util/Optional") }, accessFlags := 9, code := some k7c0 }
def k7c1 : Code := { maxStack := 2, maxLocals := 2, code := jdk_32_method_2_code, exceptionTable := #[], attributes := #[] }
def k7m1 : Method := { name := "<init>", desc := "(Ljava/lang/Object;)V", sig := { parameters := [(.object "java/lang/Object")], returnType := none }, accessFlags := 2, code := some k7c1 }
def k7c2 : Code := { maxStack := 3, maxLocals := 1, code := jdk_32_method_3_code, exceptionTable := #[], attributes := #[] }
def k7m2 : Method := { name := "of", desc := "(Ljava/lang/Object;)Ljava/util/Optional;", sig := { parameters := [(.object "java/lang/Object")], returnType := some (.object "java/util/Optional") }, accessFlags := 9, code := some k7c2 }
def k7c3 : Code := { maxStack := 3, maxLocals := 1, code := jdk_32_method_5_code, exceptionTable := #[], attributes := #[] }
def k7m3 : Method := { name := "get", desc := "()Ljava/lang/Object;", sig := { parameters := [], returnType := some (.object "java/lang/Object") }, accessFlags := 1, code := some k7c3 }
def k7c4 : Code := { maxStack := 1, maxLocals := 1, code := jdk_32_method_6_code, exceptionTable := #[], attributes := #[] }
def k7m4 : Method := { name := "isPresent", desc := "()Z", sig := { parameters := [], returnType := some .boolean }, accessFlags := 1, code := some k7c4 }
/-- java/util/Optional -/
def k7 : Class := { plain "java/util/Optional" (some 0) with
  accessFlags := 49
  interfaces := #[]
  cf := some (fileOf pool7 2 #[] #[{ accessFlags := 9, nameIndex := 55, descriptorIndex := 56, attributes := #[] }, { accessFlags := 2, nameIndex := 11, descriptorIndex := 25, attributes := #[] }, { accessFlags := 9, nameIndex := 82, descriptorIndex := 65, attributes := #[] }, { accessFlags := 1, nameIndex := 73, descriptorIndex := 74, attributes := #[] }, { accessFlags := 1, nameIndex := 68, descriptorIndex := 46, attributes := #[] }] 49 8 #[] #[{ accessFlags := 26, nameIndex := 5, descriptorIndex := 6, attributes := #[] }, { accessFlags := 18, nameIndex := 15, descriptorIndex := 16, attributes := #[] }])
  fields := #[{ name := "EMPTY", type := (.object "java/util/Optional"), accessFlags := 26, slot := 0, constantValue := 0 }, { name := "value", type := (.object "java/lang/Object"), accessFlags := 18, slot := 0, constantValue := 0 }]
  methods := #[k7m0, k7m1, k7m2, k7m3, k7m4]
  instanceTypes := #[(.object "java/lang/Object")]
  staticTypes := #[(.object "java/util/Optional")]
  resolved := Array.replicate 187 none
  statics := some 1 }

def pool8 : Array CpInfo := pool [(2, .class_ 4), (1, u "java/lang/CharSequence"), (42, .class_ 48), (0, u "java/lang/CharSequence$1CodePointIterator"), (10, .class_ 60), (0, u "java/lang/CharSequence$1CharIterator"), (5, .class_ 67), (0, u "java/lang/Object")] 63

/-- java/lang/CharSequence -/
def k8 : Class := { plain "java/lang/CharSequence" (some 0) with
  accessFlags := 1537
  interfaces := #[]
  cf := some (fileOf pool8 2 #[.nestMembers #[47, 59]] #[] 1537 66 #[] #[])
  fields := #[]
  methods := #[]
  instanceTypes := #[]
  staticTypes := #[]
  resolved := Array.replicate 131 none
  statics := none }

def pool9 : Array CpInfo := pool [(1, .class_ 2), (0, u "java/lang/constant/ConstantDesc"), (0, .class_ 4), (0, u "java/lang/Object")] 32

/-- java/lang/constant/ConstantDesc -/
def k9 : Class := { plain "java/lang/constant/ConstantDesc" (some 0) with
  accessFlags := 1537
  interfaces := #[]
  cf := some (fileOf pool9 1 #[] #[] 1537 3 #[] #[])
  fields := #[]
  methods := #[]
  instanceTypes := #[]
  staticTypes := #[]
  resolved := Array.replicate 37 none
  statics := none }

def pool10 : Array CpInfo := pool [(1, .methodref 2 3), (0, .class_ 4), (0, .nameAndType 5 6), (0, u "java/lang/Object"), (0, u "<init>"), (0, u "()V"), (2, .fieldref 10 11), (0, .class_ 12), (0, .nameAndType 13 14), (0, u "java/lang/String"), (0, u "value"), (0, u "[B"), (0, .fieldref 10 16), (0, .nameAndType 17 18), (0, u "coder"), (0, u "B"), (2, u "hash"), (0, u "I"), (2, u "hashIsZero"), (0, u "Z"), (0, .methodref 10 28), (0, .nameAndType 5 29), (0, u "([CIILjava/lang/Void;)V"), (8, .fieldref 10 39), (0, .nameAndType 40 26), (0, u "COMPACT_STRINGS"), (1, .class_ 44), (1, u "java/lang/StringUTF16"), (0, u "compress"), (1, .methodref 42 48), (0, .nameAndType 49 50), (0, u "coderFromArrayLen"), (0, u "([BI)B"), (56, .class_ 109), (1, u "java/lang/StringLatin1"), (32, u "()Z"), (34, .methodref 42 178), (0, .nameAndType 45 179), (0, u "([CII)[B"), (31, u "([BB)V"), (122, u "()I"), (0, .methodref 10 336), (0, .nameAndType 17 337), (0, u "()B"), (126, u "()Ljava/lang/String;"), (27, .methodref 10 493), (0, .nameAndType 494 142), (0, u "isLatin1"), (10, .methodref 10 506), (0, .nameAndType 507 334), (0, u "length"), (67, .class_ 576), (0, u "java/lang/CharSequence"), (5, .methodref 10 583), (0, .nameAndType 584 585), (0, u "regionMatches"), (0, u "(ZILjava/lang/String;II)Z"), (13, u "CASE_INSENSITIVE_ORDER"), (0, u "Ljava/util/Comparator;"), (12, .methodref 107 614), (0, .nameAndType 615 616), (0, u "regionMatchesCI"), (0, u "([BI[BII)Z"), (242, .methodref 107 860), (0, .nameAndType 861 862), (0, u "trim"), (0, u "([B)Ljava/lang/String;"), (147, u "([C)V"), (90, u "serialPersistentFields"), (0, u "[Ljava/io/ObjectStreamField;"), (0, .class_ 1104), (0, u "java/lang/String$CaseInsensitiveComparator"), (1, .class_ 1107), (0, u "java/io/Serializable"), (0, .class_ 1109), (0, u "java/lang/Comparable"), (0, .class_ 1111), (0, u "java/lang/constant/Constable"), (0, .class_ 1113), (0, u "java/lang/constant/ConstantDesc"), (2, u "serialVersionUID"), (0, u "J"), (3, u "REPL"), (0, u "C"), (2, u "LATIN1"), (1, u "UTF16"), (128, u "equalsIgnoreCase"), (0, u "(Ljava/lang/String;)Z")] 193

def k10m0 : Method := { name := "<init>", desc := "()V", sig := { parameters := [], returnType := none }, accessFlags := 1, code := none }
def k10c1 : Code := { maxStack := 5, maxLocals := 2, code := jdk_42_method_3_code, exceptionTable := #[], attributes := #[] }
def k10m1 : Method := { name := "<init>", desc := "([C)V", sig := { parameters := [(.array .char)], returnType := none }, accessFlags := 1, code := some k10c1 }
def k10c2 : Code := { maxStack := 2, maxLocals := 1, code := jdk_42_method_54_code, exceptionTable := #[], attributes := #[] }
def k10m2 : Method := { name := "length", desc := "()I", sig := { parameters := [], returnType := some .int }, accessFlags := 1, code := some k10c2 }
def k10c3 : Code := { maxStack := 6, maxLocals := 2, code := jdk_42_method_70_code, exceptionTable := #[], attributes := #[] }
def k10m3 : Method := { name := "equalsIgnoreCase", desc := "(Ljava/lang/String;)Z", sig := { parameters := [(.object "java/lang/String")], returnType := some .boolean }, accessFlags := 1, code := some k10c3 }
def k10c4 : Code := { maxStack := 6, maxLocals := 9, code := jdk_42_method_74_code, exceptionTable := #[], attributes := #[] }
def k10m4 : Method := { name := "regionMatches", desc := "(ZILjava/lang/String;II)Z", sig := { parameters := [.boolean, .int, (.object "java/lang/String"), .int, .int], returnType := some .boolean }, accessFlags := 1, code := some k10c4 }
def k10c5 : Code := { maxStack := 1, maxLocals := 2, code := jdk_42_method_113_code, exceptionTable := #[], attributes := #[] }
def k10m5 : Method := { name := "trim", desc := "()Ljava/lang/String;", sig := { parameters := [], returnType := some (.object "java/lang/String") }, accessFlags := 1, code := some k10c5 }
def k10c6 : Code := { maxStack := 4, maxLocals := 6, code := jdk_42_method_149_code, exceptionTable := #[], attributes := #[] }
def k10m6 : Method := { name := "<init>", desc := "([CIILjava/lang/Void;)V", sig := { parameters := [(.array .char), .int, .int, (.object "java/lang/Void")], returnType := none }, accessFlags := 2, code := some k10c6 }
def k10c7 : Code := { maxStack := 2, maxLocals := 3, code := jdk_42_method_151_code, exceptionTable := #[], attributes := #[] }
def k10m7 : Method := { name := "<init>", desc := "([BB)V", sig := { parameters := [(.array .byte), .byte], returnType := none }, accessFlags := 0, code := some k10c7 }
def k10c8 : Code := { maxStack := 1, maxLocals := 1, code := jdk_42_method_152_code, exceptionTable := #[], attributes := #[] }
def k10m8 : Method := { name := "coder", desc := "()B", sig := { parameters := [], returnType := some .byte }, accessFlags := 0, code := some k10c8 }
def k10c9 : Code := { maxStack := 1, maxLocals := 1, code := jdk_42_method_154_code, exceptionTable := #[], attributes := #[] }
def k10m9 : Method := { name := "isLatin1", desc := "()Z", sig := { parameters := [], returnType := some .boolean }, accessFlags := 0, code := some k10c9 }
/-- java/lang/String -/
def k10 : Class := { plain "java/lang/String" (some 0) with
  accessFlags := 49
  interfaces := #[4, 3, 8, 2, 9]
  cf := some (fileOf pool10 10 #[.nestMembers #[1103]] #[{ accessFlags := 1, nameIndex := 5, descriptorIndex := 6, attributes := #[] }, { accessFlags := 1, nameIndex := 5, descriptorIndex := 1010, attributes := #[] }, { accessFlags := 1, nameIndex := 507, descriptorIndex := 334, attributes := #[] }, { accessFlags := 1, nameIndex := 1256, descriptorIndex := 1257, attributes := #[] }, { accessFlags := 1, nameIndex := 584, descriptorIndex := 585, attributes := #[] }, { accessFlags := 1, nameIndex := 861, descriptorIndex := 464, attributes := #[] }, { accessFlags := 2, nameIndex := 5, descriptorIndex := 29, attributes := #[] }, { accessFlags := 0, nameIndex := 5, descriptorIndex := 211, attributes := #[] }, { accessFlags := 0, nameIndex := 17, descriptorIndex := 337, attributes := #[] }, { accessFlags := 0, nameIndex := 494, descriptorIndex := 142, attributes := #[] }] 49 2 #[1106, 1108, 575, 1110, 1112] #[{ accessFlags := 18, nameIndex := 13, descriptorIndex := 14, attributes := #[] }, { accessFlags := 18, nameIndex := 17, descriptorIndex := 18, attributes := #[] }, { accessFlags := 2, nameIndex := 21, descriptorIndex := 22, attributes := #[] }, { accessFlags := 2, nameIndex := 25, descriptorIndex := 26, attributes := #[] }, { accessFlags := 26, nameIndex := 1116, descriptorIndex := 1117, attributes := #[] }, { accessFlags := 24, nameIndex := 40, descriptorIndex := 26, attributes := #[] }, { accessFlags := 26, nameIndex := 1101, descriptorIndex := 1102, attributes := #[] }, { accessFlags := 26, nameIndex := 1121, descriptorIndex := 1122, attributes := #[] }, { accessFlags := 25, nameIndex := 599, descriptorIndex := 600, attributes := #[] }, { accessFlags := 24, nameIndex := 1125, descriptorIndex := 18, attributes := #[] }, { accessFlags := 24, nameIndex := 1127, descriptorIndex := 18, attributes := #[] }])
  fields := #[{ name := "value", type := (.array .byte), accessFlags := 18, slot := 0, constantValue := 0 }, { name := "coder", type := .byte, accessFlags := 18, slot := 1, constantValue := 0 }, { name := "hash", type := .int, accessFlags := 2, slot := 2, constantValue := 0 }, { name := "hashIsZero", type := .boolean, accessFlags := 2, slot := 3, constantValue := 0 }, { name := "serialVersionUID", type := .long, accessFlags := 26, slot := 0, constantValue := 0 }, { name := "COMPACT_STRINGS", type := .boolean, accessFlags := 24, slot := 1, constantValue := 0 }, { name := "serialPersistentFields", type := (.array (.object "java/io/ObjectStreamField")), accessFlags := 26, slot := 2, constantValue := 0 }, { name := "REPL", type := .char, accessFlags := 26, slot := 3, constantValue := 0 }, { name := "CASE_INSENSITIVE_ORDER", type := (.object "java/util/Comparator"), accessFlags := 25, slot := 4, constantValue := 0 }, { name := "LATIN1", type := .byte, accessFlags := 24, slot := 5, constantValue := 0 }, { name := "UTF16", type := .byte, accessFlags := 24, slot := 6, constantValue := 0 }]
  methods := #[k10m0, k10m1, k10m2, k10m3, k10m4, k10m5, k10m6, k10m7, k10m8, k10m9]
  instanceTypes := #[(.array .byte), .byte, .int, .boolean]
  staticTypes := #[.long, .boolean, (.array (.object "java/io/ObjectStreamField")), .char, (.object "java/util/Comparator"), .byte, .byte]
  resolved := Array.replicate 1451 none
  statics := some 2 }

def pool11 : Array CpInfo := pool [(6, .class_ 8), (1, u "java/lang/Object"), (0, u "<init>"), (0, u "()V"), (1, .class_ 14), (1, u "java/lang/StringUTF16"), (31, u "$assertionsDisabled"), (0, u "Z"), (13, u "HI_BYTE_SHIFT"), (0, u "I"), (2, u "LO_BYTE_SHIFT"), (49, .methodref 12 116), (0, .nameAndType 117 118), (0, u "compress"), (0, u "([CI[BII)I"), (3, u "([CII)[B"), (138, u "coderFromArrayLen"), (0, u "([BI)B"), (106, .class_ 371), (1, u "java/lang/StringUTF16$LinesSpliterator"), (58, u "MAX_LENGTH"), (196, .class_ 628), (0, u "java/lang/StringUTF16$CodePointsSpliterator"), (0, .class_ 630), (0, u "java/lang/StringUTF16$CharsSpliterator")] 4

def k11m0 : Method := { name := "<init>", desc := "()V", sig := { parameters := [], returnType := none }, accessFlags := 0, code := none }
def k11c1 : Code := { maxStack := 2, maxLocals := 2, code := jdk_52_method_15_code, exceptionTable := #[], attributes := #[] }
def k11m1 : Method := { name := "coderFromArrayLen", desc := "([BI)B", sig := { parameters := [(.array .byte), .int], returnType := some .byte }, accessFlags := 8, code := some k11c1 }
def k11c2 : Code := { maxStack := 5, maxLocals := 6, code := jdk_52_method_16_code, exceptionTable := #[], attributes := #[] }
def k11m2 : Method := { name := "compress", desc := "([CII)[B", sig := { parameters := [(.array .char), .int, .int], returnType := some (.array .byte) }, accessFlags := 9, code := some k11c2 }
def k11c3 : Code := { maxStack := 3, maxLocals := 7, code := jdk_52_method_21_code, exceptionTable := #[], attributes := #[] }
def k11m3 : Method := { name := "compress", desc := "([CI[BII)I", sig := { parameters := [(.array .char), .int, (.array .byte), .int, .int], returnType := some .int }, accessFlags := 9, code := some k11c3 }
/-- java/lang/StringUTF16 -/
def k11 : Class := { plain "java/lang/StringUTF16" (some 0) with
  accessFlags := 48
  interfaces := #[]
  cf := some (fileOf pool11 12 #[.nestMembers #[627, 629, 369]] #[{ accessFlags := 0, nameIndex := 9, descriptorIndex := 10, attributes := #[] }, { accessFlags := 8, nameIndex := 261, descriptorIndex := 262, attributes := #[] }, { accessFlags := 9, nameIndex := 117, descriptorIndex := 122, attributes := #[] }, { accessFlags := 9, nameIndex := 117, descriptorIndex := 118, attributes := #[] }] 48 6 #[] #[{ accessFlags := 26, nameIndex := 61, descriptorIndex := 62, attributes := #[] }, { accessFlags := 26, nameIndex := 65, descriptorIndex := 62, attributes := #[] }, { accessFlags := 24, nameIndex := 430, descriptorIndex := 62, attributes := #[] }, { accessFlags := 4120, nameIndex := 46, descriptorIndex := 47, attributes := #[] }])
  fields := #[{ name := "HI_BYTE_SHIFT", type := .int, accessFlags := 26, slot := 0, constantValue := 0 }, { name := "LO_BYTE_SHIFT", type := .int, accessFlags := 26, slot := 1, constantValue := 0 }, { name := "MAX_LENGTH", type := .int, accessFlags := 24, slot := 2, constantValue := 0 }, { name := "$assertionsDisabled", type := .boolean, accessFlags := 4120, slot := 3, constantValue := 0 }]
  methods := #[k11m0, k11m1, k11m2, k11m3]
  instanceTypes := #[]
  staticTypes := #[.int, .int, .int, .boolean]
  resolved := Array.replicate 635 none
  statics := none }

def pool12 : Array CpInfo := pool [(2, .class_ 4), (1, u "java/lang/Object"), (0, u "<init>"), (0, u "()V"), (35, .class_ 44), (1, u "java/util/Objects"), (0, u "requireNonNull"), (0, u "(Ljava/lang/Object;)Ljava/lang/Object;")] 137

def k12m0 : Method := { name := "<init>", desc := "()V", sig := { parameters := [], returnType := none }, accessFlags := 2, code := none }
def k12c1 : Code := { maxStack := 2, maxLocals := 1, code := jdk_31_method_10_code, exceptionTable := #[], attributes := #[] }
def k12m1 : Method := { name := "requireNonNull", desc := "(Ljava/lang/Object;)Ljava/lang/Object;", sig := { parameters := [(.object "java/lang/Object")], returnType := some (.object "java/lang/Object") }, accessFlags := 9, code := some k12c1 }
/-- java/util/Objects -/
def k12 : Class := { plain "java/util/Objects" (some 0) with
  accessFlags := 49
  interfaces := #[]
  cf := some (fileOf pool12 42 #[] #[{ accessFlags := 2, nameIndex := 5, descriptorIndex := 6, attributes := #[] }, { accessFlags := 9, nameIndex := 45, descriptorIndex := 46, attributes := #[] }] 49 2 #[] #[])
  fields := #[]
  methods := #[k12m0, k12m1]
  instanceTypes := #[]
  staticTypes := #[]
  resolved := Array.replicate 184 none
  statics := none }

def pool13 : Array CpInfo := pool [(1, .class_ 2), (0, u "java/lang/String"), (1, .class_ 6), (1, u "java/lang/Object"), (0, u "<init>"), (0, u "()V"), (5, .class_ 16), (1, u "java/lang/StringLatin1"), (50, .class_ 69), (1, u "java/lang/CharacterDataLatin1"), (42, .methodref 1 113), (0, .nameAndType 7 114), (0, u "([BB)V"), (6, u "$assertionsDisabled"), (0, u "Z"), (8, .class_ 133), (1, u "java/util/Arrays"), (19, .methodref 67 154), (0, .nameAndType 155 156), (0, u "equalsIgnoreCase"), (0, u "(BB)Z"), (38, .nameAndType 196 197), (0, u "newString"), (0, u "([BII)Ljava/lang/String;"), (12, .methodref 14 195), (10, .class_ 223), (1, u "java/lang/StringLatin1$LinesSpliterator"), (8, .methodref 131 233), (0, .nameAndType 234 235), (0, u "copyOfRange"), (0, u "([BII)[B"), (104, u "regionMatchesCI"), (0, u "([BI[BII)Z"), (24, u "trim"), (0, u "([B)Ljava/lang/String;"), (22, .class_ 391), (0, u "java/lang/StringLatin1$CharsSpliterator")] 3

def k13m0 : Method := { name := "<init>", desc := "()V", sig := { parameters := [], returnType := none }, accessFlags := 0, code := none }
def k13c1 : Code := { maxStack := 2, maxLocals := 8, code := jdk_43_method_30_code, exceptionTable := #[], attributes := #[] }
def k13m1 : Method := { name := "regionMatchesCI", desc := "([BI[BII)Z", sig := { parameters := [(.array .byte), .int, (.array .byte), .int, .int], returnType := some .boolean }, accessFlags := 9, code := some k13c1 }
def k13c2 : Code := { maxStack := 4, maxLocals := 3, code := jdk_43_method_36_code, exceptionTable := #[], attributes := #[] }
def k13m2 : Method := { name := "trim", desc := "([B)Ljava/lang/String;", sig := { parameters := [(.array .byte)], returnType := some (.object "java/lang/String") }, accessFlags := 9, code := some k13c2 }
def k13c3 : Code := { maxStack := 6, maxLocals := 3, code := jdk_43_method_47_code, exceptionTable := #[], attributes := #[] }
def k13m3 : Method := { name := "newString", desc := "([BII)Ljava/lang/String;", sig := { parameters := [(.array .byte), .int, .int], returnType := some (.object "java/lang/String") }, accessFlags := 9, code := some k13c3 }
/-- java/lang/StringLatin1 -/
def k13 : Class := { plain "java/lang/StringLatin1" (some 0) with
  accessFlags := 48
  interfaces := #[]
  cf := some (fileOf pool13 14 #[.nestMembers #[390, 221]] #[{ accessFlags := 0, nameIndex := 7, descriptorIndex := 8, attributes := #[] }, { accessFlags := 9, nameIndex := 340, descriptorIndex := 341, attributes := #[] }, { accessFlags := 9, nameIndex := 366, descriptorIndex := 367, attributes := #[] }, { accessFlags := 9, nameIndex := 196, descriptorIndex := 197, attributes := #[] }] 48 4 #[] #[{ accessFlags := 4120, nameIndex := 121, descriptorIndex := 122, attributes := #[] }])
  fields := #[{ name := "$assertionsDisabled", type := .boolean, accessFlags := 4120, slot := 0, constantValue := 0 }]
  methods := #[k13m0, k13m1, k13m2, k13m3]
  instanceTypes := #[]
  staticTypes := #[.boolean]
  resolved := Array.replicate 395 none
  statics := none }

def pool14 : Array CpInfo := pool [(1, .class_ 2), (0, u "java/lang/Cloneable"), (0, .class_ 4), (0, u "java/lang/Object")] 2

/-- java/lang/Cloneable -/
def k14 : Class := { plain "java/lang/Cloneable" (some 0) with
  accessFlags := 1537
  interfaces := #[]
  cf := some (fileOf pool14 1 #[] #[] 1537 3 #[] #[])
  fields := #[]
  methods := #[]
  instanceTypes := #[]
  staticTypes := #[]
  resolved := Array.replicate 7 none
  statics := none }

def pool15 : Array CpInfo := pool [(2, .class_ 4), (1, u "java/lang/Object"), (0, u "<init>"), (0, u "()V"), (1, .class_ 10), (1, u "java/lang/CharacterData")] 75

def k15m0 : Method := { name := "<init>", desc := "()V", sig := { parameters := [], returnType := none }, accessFlags := 0, code := none }
/-- java/lang/CharacterData -/
def k15 : Class := { plain "java/lang/CharacterData" (some 0) with
  accessFlags := 1056
  interfaces := #[]
  cf := some (fileOf pool15 8 #[] #[{ accessFlags := 0, nameIndex := 5, descriptorIndex := 6, attributes := #[] }] 1056 2 #[] #[])
  fields := #[]
  methods := #[k15m0]
  instanceTypes := #[]
  staticTypes := #[]
  resolved := Array.replicate 86 none
  statics := none }

def pool16 : Array CpInfo := pool [(2, .class_ 4), (1, u "java/lang/CharacterDataLatin1"), (0, u "A"), (0, u "[I"), (2, u "B"), (0, u "[C"), (16, u "DIGITS"), (0, u "[B"), (8, u "sharpsMap"), (1, .class_ 41), (1, u "java/lang/CharacterData"), (0, u "<init>"), (0, u "()V"), (3, u "instance"), (0, u "Ljava/lang/CharacterDataLatin1;"), (66, u "equalsIgnoreCase"), (0, u "(BB)Z")] 24

def k16c0 : Code := { maxStack := 3, maxLocals := 3, code := jdk_116_method_22_code, exceptionTable := #[], attributes := #[] }
def k16m0 : Method := { name := "equalsIgnoreCase", desc := "(BB)Z", sig := { parameters := [.byte, .byte], returnType := some .boolean }, accessFlags := 8, code := some k16c0 }
def k16m1 : Method := { name := "<init>", desc := "()V", sig := { parameters := [], returnType := none }, accessFlags := 2, code := none }
/-- java/lang/CharacterDataLatin1 -/
def k16 : Class := { plain "java/lang/CharacterDataLatin1" (some 15) with
  accessFlags := 32
  interfaces := #[]
  cf := some (fileOf pool16 2 #[] #[{ accessFlags := 8, nameIndex := 115, descriptorIndex := 116, attributes := #[] }, { accessFlags := 2, nameIndex := 42, descriptorIndex := 43, attributes := #[] }] 32 39 #[] #[{ accessFlags := 26, nameIndex := 27, descriptorIndex := 28, attributes := #[] }, { accessFlags := 8, nameIndex := 37, descriptorIndex := 10, attributes := #[] }, { accessFlags := 24, nameIndex := 47, descriptorIndex := 48, attributes := #[] }, { accessFlags := 24, nameIndex := 5, descriptorIndex := 6, attributes := #[] }, { accessFlags := 24, nameIndex := 9, descriptorIndex := 10, attributes := #[] }])
  fields := #[{ name := "DIGITS", type := (.array .byte), accessFlags := 26, slot := 0, constantValue := 0 }, { name := "sharpsMap", type := (.array .char), accessFlags := 8, slot := 1, constantValue := 0 }, { name := "instance", type := (.object "java/lang/CharacterDataLatin1"), accessFlags := 24, slot := 2, constantValue := 0 }, { name := "A", type := (.array .int), accessFlags := 24, slot := 3, constantValue := 0 }, { name := "B", type := (.array .char), accessFlags := 24, slot := 4, constantValue := 0 }]
  methods := #[k16m0, k16m1]
  instanceTypes := #[]
  staticTypes := #[(.array .byte), (.array .char), (.object "java/lang/CharacterDataLatin1"), (.array .int), (.array .char)]
  resolved := Array.replicate 141 none
  statics := none }

def pool17 : Array CpInfo := pool [(2, .class_ 4), (1, u "java/lang/Object"), (0, u "<init>"), (0, u "()V"), (7, .class_ 16), (1, u "java/util/Arrays"), (57, .class_ 76), (1, u "java/util/Arrays$NaturalOrder"), (36, .class_ 115), (1, u "java/util/Arrays$LegacyMergeSort"), (1, u "Z"), (21, u "copyOfRange"), (10, .methodref 151 152), (0, .class_ 153), (0, .nameAndType 154 155), (0, u "java/lang/System"), (0, u "arraycopy"), (0, u "(Ljava/lang/Object;ILjava/lang/Object;II)V"), (148, .methodref 305 306), (0, .class_ 307), (0, .nameAndType 308 309), (0, u "java/lang/Math"), (0, u "min"), (0, u "(II)I"), (29, .methodref 14 340), (0, .nameAndType 341 342), (0, u "copyOfRangeByte"), (0, u "([BII)[B"), (0, .methodref 14 344), (0, .nameAndType 345 346), (0, u "checkLength"), (0, u "(II)V"), (28, .class_ 376), (0, u "java/util/Arrays$ArrayList"), (68, u "$assertionsDisabled"), (269, u "MIN_ARRAY_SORT_GRAN"), (0, u "I"), (2, u "INSERTIONSORT_THRESHOLD"), (255, .class_ 976), (0, u "java/util/Arrays$ArrayItr")] 52

def k17m0 : Method := { name := "<init>", desc := "()V", sig := { parameters := [], returnType := none }, accessFlags := 2, code := none }
def k17c1 : Code := { maxStack := 4, maxLocals := 2, code := jdk_65_method_131_code, exceptionTable := #[], attributes := #[] }
def k17m1 : Method := { name := "checkLength", desc := "(II)V", sig := { parameters := [.int, .int], returnType := none }, accessFlags := 10, code := some k17c1 }
def k17c2 : Code := { maxStack := 3, maxLocals := 3, code := jdk_65_method_132_code, exceptionTable := #[], attributes := #[] }
def k17m2 : Method := { name := "copyOfRange", desc := "([BII)[B", sig := { parameters := [(.array .byte), .int, .int], returnType := some (.array .byte) }, accessFlags := 9, code := some k17c2 }
def k17c3 : Code := { maxStack := 6, maxLocals := 5, code := jdk_65_method_133_code, exceptionTable := #[], attributes := #[] }
def k17m3 : Method := { name := "copyOfRangeByte", desc := "([BII)[B", sig := { parameters := [(.array .byte), .int, .int], returnType := some (.array .byte) }, accessFlags := 10, code := some k17c3 }
/-- java/util/Arrays -/
def k17 : Class := { plain "java/util/Arrays" (some 0) with
  accessFlags := 49
  interfaces := #[]
  cf := some (fileOf pool17 14 #[.nestMembers #[975, 375, 113, 74]] #[{ accessFlags := 2, nameIndex := 5, descriptorIndex := 6, attributes := #[] }, { accessFlags := 10, nameIndex := 345, descriptorIndex := 346, attributes := #[] }, { accessFlags := 9, nameIndex := 139, descriptorIndex := 342, attributes := #[] }, { accessFlags := 10, nameIndex := 341, descriptorIndex := 342, attributes := #[] }] 49 2 #[] #[{ accessFlags := 26, nameIndex := 715, descriptorIndex := 716, attributes := #[] }, { accessFlags := 26, nameIndex := 719, descriptorIndex := 716, attributes := #[] }, { accessFlags := 4120, nameIndex := 445, descriptorIndex := 117, attributes := #[] }])
  fields := #[{ name := "MIN_ARRAY_SORT_GRAN", type := .int, accessFlags := 26, slot := 0, constantValue := 0 }, { name := "INSERTIONSORT_THRESHOLD", type := .int, accessFlags := 26, slot := 1, constantValue := 0 }, { name := "$assertionsDisabled", type := .boolean, accessFlags := 4120, slot := 2, constantValue := 0 }]
  methods := #[k17m0, k17m1, k17m2, k17m3]
  instanceTypes := #[]
  staticTypes := #[.int, .int, .boolean]
  resolved := Array.replicate 1029 none
  statics := none }

def pool18 : Array CpInfo := pool [(1, .class_ 2), (0, u "java/lang/Math"), (1, .class_ 6), (1, u "java/lang/Object"), (0, u "<init>"), (0, u "()V"), (89, .class_ 100), (1, u "java/lang/Math$RandomNumberGeneratorHolder"), (71, u "negativeZeroFloatBits"), (0, u "J"), (2, u "negativeZeroDoubleBits"), (24, u "min"), (43, u "$assertionsDisabled"), (0, u "Z"), (88, u "(II)I"), (2, u "twoToTheDoubleScaleDown"), (0, u "D"), (4, u "twoToTheDoubleScaleUp"), (9, u "E"), (3, u "PI"), (2, u "TAU"), (2, u "DEGREES_TO_RADIANS"), (0, u "RADIANS_TO_DEGREES")] 94

def k18m0 : Method := { name := "<init>", desc := "()V", sig := { parameters := [], returnType := none }, accessFlags := 2, code := none }
def k18c1 : Code := { maxStack := 2, maxLocals := 2, code := jdk_29_method_69_code, exceptionTable := #[], attributes := #[] }
def k18m1 : Method := { name := "min", desc := "(II)I", sig := { parameters := [.int, .int], returnType := some .int }, accessFlags := 9, code := some k18c1 }
/-- java/lang/Math -/
def k18 : Class := { plain "java/lang/Math" (some 0) with
  accessFlags := 49
  interfaces := #[]
  cf := some (fileOf pool18 1 #[.nestMembers #[98]] #[{ accessFlags := 2, nameIndex := 7, descriptorIndex := 8, attributes := #[] }, { accessFlags := 9, nameIndex := 201, descriptorIndex := 335, attributes := #[] }] 49 4 #[] #[{ accessFlags := 25, nameIndex := 354, descriptorIndex := 339, attributes := #[] }, { accessFlags := 25, nameIndex := 358, descriptorIndex := 339, attributes := #[] }, { accessFlags := 25, nameIndex := 361, descriptorIndex := 339, attributes := #[] }, { accessFlags := 26, nameIndex := 364, descriptorIndex := 339, attributes := #[] }, { accessFlags := 26, nameIndex := 365, descriptorIndex := 339, attributes := #[] }, { accessFlags := 26, nameIndex := 172, descriptorIndex := 173, attributes := #[] }, { accessFlags := 26, nameIndex := 176, descriptorIndex := 173, attributes := #[] }, { accessFlags := 8, nameIndex := 344, descriptorIndex := 339, attributes := #[] }, { accessFlags := 8, nameIndex := 338, descriptorIndex := 339, attributes := #[] }, { accessFlags := 4120, nameIndex := 245, descriptorIndex := 246, attributes := #[] }])
  fields := #[{ name := "E", type := .double, accessFlags := 25, slot := 0, constantValue := 0 }, { name := "PI", type := .double, accessFlags := 25, slot := 1, constantValue := 0 }, { name := "TAU", type := .double, accessFlags := 25, slot := 2, constantValue := 0 }, { name := "DEGREES_TO_RADIANS", type := .double, accessFlags := 26, slot := 3, constantValue := 0 }, { name := "RADIANS_TO_DEGREES", type := .double, accessFlags := 26, slot := 4, constantValue := 0 }, { name := "negativeZeroFloatBits", type := .long, accessFlags := 26, slot := 5, constantValue := 0 }, { name := "negativeZeroDoubleBits", type := .long, accessFlags := 26, slot := 6, constantValue := 0 }, { name := "twoToTheDoubleScaleUp", type := .double, accessFlags := 8, slot := 7, constantValue := 0 }, { name := "twoToTheDoubleScaleDown", type := .double, accessFlags := 8, slot := 8, constantValue := 0 }, { name := "$assertionsDisabled", type := .boolean, accessFlags := 4120, slot := 9, constantValue := 0 }]
  methods := #[k18m0, k18m1]
  instanceTypes := #[]
  staticTypes := #[.double, .double, .double, .double, .double, .long, .long, .double, .double, .boolean]
  resolved := Array.replicate 460 none
  statics := none }

def pool19 : Array CpInfo := pool [(2, .class_ 4), (1, u "java/lang/Object"), (0, u "<init>"), (0, u "()V"), (1, .class_ 10), (1, u "java/lang/System"), (0, u "allowSecurityManager"), (0, u "I"), (16, u "cons"), (0, u "Ljava/io/Console;"), (77, .class_ 110), (1, u "java/lang/System$CallersHolder"), (43, u "initialErrStream"), (0, u "Ljava/io/PrintStream;"), (19, u "security"), (0, u "Ljava/lang/SecurityManager;"), (31, .class_ 209), (0, u "java/lang/System$1"), (7, u "props"), (0, u "Ljava/util/Properties;"), (2, u "lineSeparator"), (0, u "Ljava/lang/String;"), (96, .class_ 321), (1, u "java/lang/System$LoggerFinder"), (5, .class_ 328), (0, u "java/lang/System$Logger"), (67, u "err"), (2, u "out"), (91, u "notSupportedJnuEncoding"), (15, u "in"), (17, u "initialIn"), (0, u "Ljava/io/InputStream;"), (35, u "bootLayer"), (0, u "Ljava/lang/ModuleLayer;"), (99, .class_ 664), (0, u "java/lang/System$2"), (9, u "NEVER"), (2, u "MAYBE"), (49, u "arraycopy"), (0, u "(Ljava/lang/Object;ILjava/lang/Object;II)V"), (72, .class_ 802), (0, u "java/lang/System$Logger$Level")] 31

def k19m0 : Method := { name := "<init>", desc := "()V", sig := { parameters := [], returnType := none }, accessFlags := 2, code := none }
def k19m1 : Method := { name := "arraycopy", desc := "(Ljava/lang/Object;ILjava/lang/Object;II)V", sig := { parameters := [(.object "java/lang/Object"), .int, (.object "java/lang/Object"), .int, .int], returnType := none }, accessFlags := 265, code := none }
/-- java/lang/System -/
def k19 : Class := { plain "java/lang/System" (some 0) with
  accessFlags := 49
  interfaces := #[]
  cf := some (fileOf pool19 8 #[.nestMembers #[319, 327, 801, 108, 663, 208]] #[{ accessFlags := 2, nameIndex := 5, descriptorIndex := 6, attributes := #[] }, { accessFlags := 265, nameIndex := 727, descriptorIndex := 728, attributes := #[] }] 49 2 #[] #[{ accessFlags := 25, nameIndex := 507, descriptorIndex := 526, attributes := #[] }, { accessFlags := 25, nameIndex := 399, descriptorIndex := 155, attributes := #[] }, { accessFlags := 25, nameIndex := 396, descriptorIndex := 155, attributes := #[] }, { accessFlags := 10, nameIndex := 525, descriptorIndex := 526, attributes := #[] }, { accessFlags := 26, nameIndex := 674, descriptorIndex := 12, attributes := #[] }, { accessFlags := 26, nameIndex := 677, descriptorIndex := 12, attributes := #[] }, { accessFlags := 10, nameIndex := 11, descriptorIndex := 12, attributes := #[] }, { accessFlags := 74, nameIndex := 175, descriptorIndex := 176, attributes := #[] }, { accessFlags := 10, nameIndex := 491, descriptorIndex := 222, attributes := #[] }, { accessFlags := 74, nameIndex := 29, descriptorIndex := 30, attributes := #[] }, { accessFlags := 74, nameIndex := 154, descriptorIndex := 155, attributes := #[] }, { accessFlags := 10, nameIndex := 217, descriptorIndex := 218, attributes := #[] }, { accessFlags := 10, nameIndex := 221, descriptorIndex := 222, attributes := #[] }, { accessFlags := 8, nameIndex := 562, descriptorIndex := 563, attributes := #[] }])
  fields := #[{ name := "in", type := (.object "java/io/InputStream"), accessFlags := 25, slot := 0, constantValue := 0 }, { name := "out", type := (.object "java/io/PrintStream"), accessFlags := 25, slot := 1, constantValue := 0 }, { name := "err", type := (.object "java/io/PrintStream"), accessFlags := 25, slot := 2, constantValue := 0 }, { name := "initialIn", type := (.object "java/io/InputStream"), accessFlags := 10, slot := 3, constantValue := 0 }, { name := "NEVER", type := .int, accessFlags := 26, slot := 4, constantValue := 0 }, { name := "MAYBE", type := .int, accessFlags := 26, slot := 5, constantValue := 0 }, { name := "allowSecurityManager", type := .int, accessFlags := 10, slot := 6, constantValue := 0 }, { name := "security", type := (.object "java/lang/SecurityManager"), accessFlags := 74, slot := 7, constantValue := 0 }, { name := "notSupportedJnuEncoding", type := (.object "java/lang/String"), accessFlags := 10, slot := 8, constantValue := 0 }, { name := "cons", type := (.object "java/io/Console"), accessFlags := 74, slot := 9, constantValue := 0 }, { name := "initialErrStream", type := (.object "java/io/PrintStream"), accessFlags := 74, slot := 10, constantValue := 0 }, { name := "props", type := (.object "java/util/Properties"), accessFlags := 10, slot := 11, constantValue := 0 }, { name := "lineSeparator", type := (.object "java/lang/String"), accessFlags := 10, slot := 12, constantValue := 0 }, { name := "bootLayer", type := (.object "java/lang/ModuleLayer"), accessFlags := 8, slot := 13, constantValue := 0 }]
  methods := #[k19m0, k19m1]
  instanceTypes := #[]
  staticTypes := #[(.object "java/io/InputStream"), (.object "java/io/PrintStream"), (.object "java/io/PrintStream"), (.object "java/io/InputStream"), .int, .int, .int, (.object "java/lang/SecurityManager"), (.object "java/lang/String"), (.object "java/io/Console"), (.object "java/io/PrintStream"), (.object "java/util/Properties"), (.object "java/lang/String"), (.object "java/lang/ModuleLayer")]
  resolved := Array.replicate 834 none
  statics := none }

def pool20 : Array CpInfo := pool [(2, .class_ 4), (1, u "java/lang/Object"), (0, u "<init>"), (0, u "()V"), (17, .class_ 26), (1, u "jdk/internal/util/Preconditions"), (28, .class_ 56), (0, u "jdk/internal/util/Preconditions$4"), (57, .class_ 115), (0, u "jdk/internal/util/Preconditions$1"), (7, u "SIOOBE_FORMATTER"), (0, u "Ljava/util/function/BiFunction;"), (0, .class_ 126), (0, u "jdk/internal/util/Preconditions$2"), (3, u "AIOOBE_FORMATTER"), (0, .class_ 132), (0, u "jdk/internal/util/Preconditions$3"), (3, u "IOOBE_FORMATTER")] 57

def k20m0 : Method := { name := "<init>", desc := "()V", sig := { parameters := [], returnType := none }, accessFlags := 1, code := none }
/-- jdk/internal/util/Preconditions -/
def k20 : Class := { plain "jdk/internal/util/Preconditions" (some 0) with
  accessFlags := 33
  interfaces := #[]
  cf := some (fileOf pool20 24 #[.nestMembers #[55, 131, 125, 114]] #[{ accessFlags := 1, nameIndex := 5, descriptorIndex := 6, attributes := #[] }] 33 2 #[] #[{ accessFlags := 25, nameIndex := 123, descriptorIndex := 124, attributes := #[] }, { accessFlags := 25, nameIndex := 130, descriptorIndex := 124, attributes := #[] }, { accessFlags := 25, nameIndex := 136, descriptorIndex := 124, attributes := #[] }])
  fields := #[{ name := "SIOOBE_FORMATTER", type := (.object "java/util/function/BiFunction"), accessFlags := 25, slot := 0, constantValue := 0 }, { name := "AIOOBE_FORMATTER", type := (.object "java/util/function/BiFunction"), accessFlags := 25, slot := 1, constantValue := 0 }, { name := "IOOBE_FORMATTER", type := (.object "java/util/function/BiFunction"), accessFlags := 25, slot := 2, constantValue := 0 }]
  methods := #[k20m0]
  instanceTypes := #[]
  staticTypes := #[(.object "java/util/function/BiFunction"), (.object "java/util/function/BiFunction"), (.object "java/util/function/BiFunction")]
  resolved := Array.replicate 194 none
  statics := some 3 }

def pool21 : Array CpInfo := pool [(9, u "<init>"), (6, .class_ 18), (1, u "java/lang/Object"), (0, u "()V"), (1, .class_ 23), (1, u "jdk/internal/util/ArraysSupport"), (0, u "LOG2_ARRAY_LONG_INDEX_SCALE"), (0, u "I"), (2, u "U"), (0, u "Ljdk/internal/misc/Unsafe;"), (8, u "BIG_ENDIAN"), (0, u "Z"), (8, u "LOG2_BYTE_BIT_SIZE"), (4, u "LOG2_ARRAY_INT_INDEX_SCALE"), (54, u "JLA"), (0, u "Ljdk/internal/access/JavaLangAccess;"), (11, u "LOG2_ARRAY_BOOLEAN_INDEX_SCALE"), (9, u "LOG2_ARRAY_BYTE_INDEX_SCALE"), (5, u "LOG2_ARRAY_CHAR_INDEX_SCALE"), (5, u "LOG2_ARRAY_SHORT_INDEX_SCALE"), (18, u "LOG2_ARRAY_FLOAT_INDEX_SCALE"), (24, u "LOG2_ARRAY_DOUBLE_INDEX_SCALE"), (89, u "T_BOOLEAN"), (2, u "T_CHAR"), (1, u "T_FLOAT"), (1, u "T_DOUBLE"), (1, u "T_BYTE"), (1, u "T_SHORT"), (1, u "T_INT"), (1, u "T_LONG"), (1, u "SOFT_MAX_ARRAY_LENGTH")] 83

def k21m0 : Method := { name := "<init>", desc := "()V", sig := { parameters := [], returnType := none }, accessFlags := 2, code := none }
/-- jdk/internal/util/ArraysSupport -/
def k21 : Class := { plain "jdk/internal/util/ArraysSupport" (some 0) with
  accessFlags := 33
  interfaces := #[]
  cf := some (fileOf pool21 21 #[] #[{ accessFlags := 2, nameIndex := 9, descriptorIndex := 19, attributes := #[] }] 33 16 #[] #[{ accessFlags := 24, nameIndex := 28, descriptorIndex := 29, attributes := #[] }, { accessFlags := 26, nameIndex := 38, descriptorIndex := 39, attributes := #[] }, { accessFlags := 25, nameIndex := 121, descriptorIndex := 25, attributes := #[] }, { accessFlags := 25, nameIndex := 131, descriptorIndex := 25, attributes := #[] }, { accessFlags := 25, nameIndex := 137, descriptorIndex := 25, attributes := #[] }, { accessFlags := 25, nameIndex := 143, descriptorIndex := 25, attributes := #[] }, { accessFlags := 25, nameIndex := 53, descriptorIndex := 25, attributes := #[] }, { accessFlags := 25, nameIndex := 24, descriptorIndex := 25, attributes := #[] }, { accessFlags := 25, nameIndex := 162, descriptorIndex := 25, attributes := #[] }, { accessFlags := 25, nameIndex := 187, descriptorIndex := 25, attributes := #[] }, { accessFlags := 26, nameIndex := 48, descriptorIndex := 25, attributes := #[] }, { accessFlags := 25, nameIndex := 277, descriptorIndex := 25, attributes := #[] }, { accessFlags := 25, nameIndex := 280, descriptorIndex := 25, attributes := #[] }, { accessFlags := 25, nameIndex := 282, descriptorIndex := 25, attributes := #[] }, { accessFlags := 25, nameIndex := 284, descriptorIndex := 25, attributes := #[] }, { accessFlags := 25, nameIndex := 286, descriptorIndex := 25, attributes := #[] }, { accessFlags := 25, nameIndex := 288, descriptorIndex := 25, attributes := #[] }, { accessFlags := 25, nameIndex := 290, descriptorIndex := 25, attributes := #[] }, { accessFlags := 25, nameIndex := 292, descriptorIndex := 25, attributes := #[] }, { accessFlags := 26, nameIndex := 108, descriptorIndex := 109, attributes := #[] }, { accessFlags := 25, nameIndex := 294, descriptorIndex := 25, attributes := #[] }])
  fields := #[{ name := "U", type := (.object "jdk/internal/misc/Unsafe"), accessFlags := 24, slot := 0, constantValue := 0 }, { name := "BIG_ENDIAN", type := .boolean, accessFlags := 26, slot := 1, constantValue := 0 }, { name := "LOG2_ARRAY_BOOLEAN_INDEX_SCALE", type := .int, accessFlags := 25, slot := 2, constantValue := 0 }, { name := "LOG2_ARRAY_BYTE_INDEX_SCALE", type := .int, accessFlags := 25, slot := 3, constantValue := 0 }, { name := "LOG2_ARRAY_CHAR_INDEX_SCALE", type := .int, accessFlags := 25, slot := 4, constantValue := 0 }, { name := "LOG2_ARRAY_SHORT_INDEX_SCALE", type := .int, accessFlags := 25, slot := 5, constantValue := 0 }, { name := "LOG2_ARRAY_INT_INDEX_SCALE", type := .int, accessFlags := 25, slot := 6, constantValue := 0 }, { name := "LOG2_ARRAY_LONG_INDEX_SCALE", type := .int, accessFlags := 25, slot := 7, constantValue := 0 }, { name := "LOG2_ARRAY_FLOAT_INDEX_SCALE", type := .int, accessFlags := 25, slot := 8, constantValue := 0 }, { name := "LOG2_ARRAY_DOUBLE_INDEX_SCALE", type := .int, accessFlags := 25, slot := 9, constantValue := 0 }, { name := "LOG2_BYTE_BIT_SIZE", type := .int, accessFlags := 26, slot := 10, constantValue := 0 }, { name := "T_BOOLEAN", type := .int, accessFlags := 25, slot := 11, constantValue := 0 }, { name := "T_CHAR", type := .int, accessFlags := 25, slot := 12, constantValue := 0 }, { name := "T_FLOAT", type := .int, accessFlags := 25, slot := 13, constantValue := 0 }, { name := "T_DOUBLE", type := .int, accessFlags := 25, slot := 14, constantValue := 0 }, { name := "T_BYTE", type := .int, accessFlags := 25, slot := 15, constantValue := 0 }, { name := "T_SHORT", type := .int, accessFlags := 25, slot := 16, constantValue := 0 }, { name := "T_INT", type := .int, accessFlags := 25, slot := 17, constantValue := 0 }, { name := "T_LONG", type := .int, accessFlags := 25, slot := 18, constantValue := 0 }, { name := "JLA", type := (.object "jdk/internal/access/JavaLangAccess"), accessFlags := 26, slot := 19, constantValue := 0 }, { name := "SOFT_MAX_ARRAY_LENGTH", type := .int, accessFlags := 25, slot := 20, constantValue := 0 }]
  methods := #[k21m0]
  instanceTypes := #[]
  staticTypes := #[(.object "jdk/internal/misc/Unsafe"), .boolean, .int, .int, .int, .int, .int, .int, .int, .int, .int, .int, .int, .int, .int, .int, .int, .int, .int, (.object "jdk/internal/access/JavaLangAccess"), .int]
  resolved := Array.replicate 378 none
  statics := none }

/-- the primitive byte -/
def k22 : Class := { plain "byte" none with kind := .primitive 'B', accessFlags := 0x411 }
/-- [B -/
def k23 : Class := { plain "[B" (some 0) with kind := .array 22 .byte, interfaces := #[14, 4], accessFlags := 1041 }

/-- the primitive char -/
def k24 : Class := { plain "char" none with kind := .primitive 'C', accessFlags := 0x411 }
/-- [C -/
def k25 : Class := { plain "[C" (some 0) with kind := .array 24 .char, interfaces := #[14, 4], accessFlags := 1041 }

/-- the primitive int -/
def k26 : Class := { plain "int" none with kind := .primitive 'I', accessFlags := 0x411 }
/-- [I -/
def k27 : Class := { plain "[I" (some 0) with kind := .array 26 .int, interfaces := #[14, 4], accessFlags := 1041 }

/-- [Lcom/example/synctoken/synctoken/dav/Depth; -/
def k28 : Class := { plain "[Lcom/example/synctoken/synctoken/dav/Depth;" (some 0) with kind := .array 6 (.object "com/example/synctoken/synctoken/dav/Depth"), interfaces := #[14, 4], accessFlags := 1041 }

def heap : Heap := #[{ cls := 6, slots := #[.ref 10, .ref 11, .ref 12, .null, .ref 13], vm := .statics 6 },
  { cls := 7, slots := #[.ref 14], vm := .statics 7 },
  { cls := 10, slots := #[.long 0, .int 1, .null, .int 0, .null, .int 0, .int 0], vm := .statics 10 },
  { cls := 20, slots := #[.null, .null, .null], vm := .statics 20 },
  { cls := 23, slots := #[.int 48], vm := .none },
  { cls := 23, slots := #[.int 49], vm := .none },
  { cls := 23, slots := #[.int 105, .int 110, .int 102, .int 105, .int 110, .int 105, .int 116, .int 121], vm := .none },
  { cls := 10, slots := #[.ref 4, .int 0, .int 0, .int 0], vm := .none },
  { cls := 10, slots := #[.ref 5, .int 0, .int 0, .int 0], vm := .none },
  { cls := 10, slots := #[.ref 6, .int 0, .int 0, .int 0], vm := .none },
  { cls := 6, slots := #[.null, .int 0, .int 0, .ref 7], vm := .none },
  { cls := 6, slots := #[.null, .int 1, .int 0, .ref 8], vm := .none },
  { cls := 6, slots := #[.null, .int 2, .int 0, .ref 9], vm := .none },
  { cls := 28, slots := #[.ref 10, .ref 11, .ref 12], vm := .none },
  { cls := 7, slots := #[.null], vm := .none }]
def classes : Array Class := #[k0, k1, k2, k3, k4, k5, k6, k7, k8, k9, k10, k11, k12, k13, k14, k15, k16, k17, k18, k19, k20, k21, k22, k23, k24, k25, k26, k27, k28]
def interned : List (Array UInt16 × Addr) := []
def slotsUsed : Nat := 54
def theMethod : MethodId := ⟨1, 1⟩
def args0 : Array Value := #[.int 5, .int 6, .int 7, .int 8, .int 9, .int 10]
def aboutOver (below : List Frame) : State where
  vm := { classes := classes, interned := interned.toArray }
  heap := heap
  slotsUsed := slotsUsed
  threads := #[{ frames := .invoking theMethod args0 :: below }]
def below0 : List Frame := [.native { method := ⟨0, 0⟩, args := #[] }]
def about1 : State := aboutOver below0
def p0 : Program := .bare "" "" ""
def e0 : Env := launch0.env 0 0 0
theorem w_frames : about1.frames = Frame.invoking theMethod args0 :: below0 := rfl
set_option maxRecDepth 65536 in
theorem w_args : argsFit about1.vm theMethod args0 = true := by decide +kernel
set_option maxRecDepth 65536 in
theorem w_heap : heapFits about1 = true := by decide +kernel
set_option maxRecDepth 65536 in
theorem w_runnable : about1.curStatus? = some .runnable := by decide +kernel
set_option maxRecDepth 65536 in
theorem w_alone : about1.alone = true := by decide +kernel
set_option maxRecDepth 65536 in
theorem w_named : about1.methodNamed? x = some theMethod := by decide +kernel
set_option maxRecDepth 65536 in
theorem w_hears : about1.hears theMethod below0 = true := by decide +kernel
set_option maxRecDepth 65536 in
theorem w_ripe : about1.ripe theMethod args0 below0 = true := by decide +kernel
theorem w_running : about1.status = .running := rfl
set_option maxRecDepth 65536 in
theorem w_room : about1.hasRoom e0.platform room_1 = true :=
  launch0.hasRoom_least _ room_1 (by decide +kernel) (by decide +kernel) (by decide +kernel) (by decide +kernel) (by decide +kernel) (by decide +kernel)
theorem allAtoms_all (ts : List Jvm.Cond) (a : Array Jvm.Value) (st : Jvm.State) : (allAtoms ts).before a st = ts.all (fun c => c.before a st) := by
  induction ts with
  | nil => rfl
  | cons c t ih =>
    show (Jvm.Cond.and c (allAtoms t)).before a st = _
    rw [Jvm.Cond.before_and, ih, List.all_cons]
def words1 : List Jvm.Cond := Jvm.Cond.code x code maxLocals ret :: tables_1
/-- a 'code' word, met by the world's own term for the bytes: nothing is compared byte by byte -/
theorem code_word {y : MethodName} {bytes : ByteArray} {mx : Nat} {rt : Option FieldType} {a : Array Value} {s : State} {m : MethodId} {meth : Method} {c : Code} (h1 : s.methodNamed? y = some m) (h2 : s.vm.method? m = some meth) (h3 : meth.code = some c) (h4 : c.code = bytes)
    (h5 : (c.maxLocals == mx && c.exceptionTable.isEmpty && decide (c.maxStack ≤ mostOperands) && decide (meth.sig.returnType = rt) && !meth.locks && decide (parseMethodDescriptor y.desc = some meth.sig)) = true) : (Jvm.Cond.code y bytes mx rt).before a s = true := by
  simp only [Bool.and_eq_true, beq_iff_eq, Bool.not_eq_true', decide_eq_true_eq] at h5
  obtain ⟨⟨⟨⟨⟨g1, g2⟩, g3⟩, g4⟩, g5⟩, g6⟩ := h5
  simp [Cond.before, Cond.holds, Cond.value, h1, h2, h3, h4, g1, g2, g3, g4, g5, g6]
def isCode : Jvm.Cond → Bool
  | .code _ _ _ _ => true
  | _ => false
theorem all_split {L : List Jvm.Cond} {P : Jvm.Cond → Bool} (h1 : L.all (fun c => isCode c || P c) = true) (h2 : ∀ c ∈ L.filter isCode, P c = true) : L.all P = true := by
  refine List.all_eq_true.mpr fun c hc => ?_
  have h := List.all_eq_true.mp h1 c hc
  rcases Bool.eq_false_or_eq_true (isCode c) with hi | hi
  · exact h2 c (List.mem_filter.mpr ⟨hc, hi⟩)
  · simpa [hi] using h
set_option maxRecDepth 65536 in
theorem w_c0 : (Jvm.Cond.code x code maxLocals ret).before args0 about1 = true := code_word (m := ⟨1, 1⟩) (meth := k1m1) (c := k1c1) (by decide +kernel) rfl rfl rfl (by decide +kernel)
set_option maxRecDepth 65536 in
theorem w_c1 : (Jvm.Cond.code ({ cls := "java/util/Optional", name := "empty", desc := "()Ljava/util/Optional;" } : Jvm.MethodName) jdk_32_method_1_code (1 : Nat) (Option.some (Jvm.ClassFile.FieldType.object "java/util/Optional"))).before args0 about1 = true := code_word (m := ⟨7, 0⟩) (meth := k7m0) (c := k7c0) (by decide +kernel) rfl rfl rfl (by decide +kernel)
set_option maxRecDepth 65536 in
theorem w_c2 : (Jvm.Cond.code ({ cls := "com/example/synctoken/synctoken/dav/Depth", name := "parse", desc := "(Ljava/util/Optional;Lcom/example/synctoken/synctoken/dav/Depth;)Lcom/example/synctoken/synctoken/dav/Depth;" } : Jvm.MethodName) prog_4_method_4_code (3 : Nat) (Option.some (Jvm.ClassFile.FieldType.object "com/example/synctoken/synctoken/dav/Depth"))).before args0 about1 = true := code_word (m := ⟨6, 1⟩) (meth := k6m1) (c := k6c1) (by decide +kernel) rfl rfl rfl (by decide +kernel)
set_option maxRecDepth 65536 in
theorem w_c3 : (Jvm.Cond.code ({ cls := "java/util/Optional", name := "isPresent", desc := "()Z" } : Jvm.MethodName) jdk_32_method_6_code (1 : Nat) (Option.some Jvm.ClassFile.FieldType.boolean)).before args0 about1 = true := code_word (m := ⟨7, 4⟩) (meth := k7m4) (c := k7c4) (by decide +kernel) rfl rfl rfl (by decide +kernel)
set_option maxRecDepth 65536 in
theorem w_c4 : (Jvm.Cond.code ({ cls := "com/example/synctoken/synctoken/dav/DepthParsePinLaw", name := "str", desc := "(IIIIICC)Ljava/lang/String;" } : Jvm.MethodName) method_3_code (8 : Nat) (Option.some (Jvm.ClassFile.FieldType.object "java/lang/String"))).before args0 about1 = true := code_word (m := ⟨1, 2⟩) (meth := k1m2) (c := k1c2) (by decide +kernel) rfl rfl rfl (by decide +kernel)
set_option maxRecDepth 65536 in
theorem w_c5 : (Jvm.Cond.code ({ cls := "com/example/synctoken/synctoken/dav/DepthParsePinLaw", name := "at", desc := "(IIIIICC)C" } : Jvm.MethodName) method_4_code (8 : Nat) (Option.some Jvm.ClassFile.FieldType.char)).before args0 about1 = true := code_word (m := ⟨1, 3⟩) (meth := k1m3) (c := k1c3) (by decide +kernel) rfl rfl rfl (by decide +kernel)
set_option maxRecDepth 65536 in
theorem w_c6 : (Jvm.Cond.code ({ cls := "java/lang/String", name := "<init>", desc := "([C)V" } : Jvm.MethodName) jdk_42_method_3_code (2 : Nat) (Option.none : Option Jvm.ClassFile.FieldType)).before args0 about1 = true := code_word (m := ⟨10, 1⟩) (meth := k10m1) (c := k10c1) (by decide +kernel) rfl rfl rfl (by decide +kernel)
set_option maxRecDepth 65536 in
theorem w_c7 : (Jvm.Cond.code ({ cls := "java/lang/String", name := "<init>", desc := "([CIILjava/lang/Void;)V" } : Jvm.MethodName) jdk_42_method_149_code (6 : Nat) (Option.none : Option Jvm.ClassFile.FieldType)).before args0 about1 = true := code_word (m := ⟨10, 6⟩) (meth := k10m6) (c := k10c6) (by decide +kernel) rfl rfl rfl (by decide +kernel)
set_option maxRecDepth 65536 in
theorem w_c8 : (Jvm.Cond.code ({ cls := "java/lang/Object", name := "<init>", desc := "()V" } : Jvm.MethodName) object_method_1_code (1 : Nat) (Option.none : Option Jvm.ClassFile.FieldType)).before args0 about1 = true := code_word (m := ⟨0, 0⟩) (meth := k0m0) (c := k0c0) (by decide +kernel) rfl rfl rfl (by decide +kernel)
set_option maxRecDepth 65536 in
theorem w_c9 : (Jvm.Cond.code ({ cls := "java/lang/StringUTF16", name := "compress", desc := "([CII)[B" } : Jvm.MethodName) jdk_52_method_16_code (6 : Nat) (Option.some (Jvm.ClassFile.FieldType.array Jvm.ClassFile.FieldType.byte))).before args0 about1 = true := code_word (m := ⟨11, 2⟩) (meth := k11m2) (c := k11c2) (by decide +kernel) rfl rfl rfl (by decide +kernel)
set_option maxRecDepth 65536 in
theorem w_c10 : (Jvm.Cond.code ({ cls := "java/lang/StringUTF16", name := "compress", desc := "([CI[BII)I" } : Jvm.MethodName) jdk_52_method_21_code (7 : Nat) (Option.some Jvm.ClassFile.FieldType.int)).before args0 about1 = true := code_word (m := ⟨11, 3⟩) (meth := k11m3) (c := k11c3) (by decide +kernel) rfl rfl rfl (by decide +kernel)
set_option maxRecDepth 65536 in
theorem w_c11 : (Jvm.Cond.code ({ cls := "java/lang/StringUTF16", name := "coderFromArrayLen", desc := "([BI)B" } : Jvm.MethodName) jdk_52_method_15_code (2 : Nat) (Option.some Jvm.ClassFile.FieldType.byte)).before args0 about1 = true := code_word (m := ⟨11, 1⟩) (meth := k11m1) (c := k11c1) (by decide +kernel) rfl rfl rfl (by decide +kernel)
set_option maxRecDepth 65536 in
theorem w_c12 : (Jvm.Cond.code ({ cls := "java/util/Optional", name := "of", desc := "(Ljava/lang/Object;)Ljava/util/Optional;" } : Jvm.MethodName) jdk_32_method_3_code (1 : Nat) (Option.some (Jvm.ClassFile.FieldType.object "java/util/Optional"))).before args0 about1 = true := code_word (m := ⟨7, 2⟩) (meth := k7m2) (c := k7c2) (by decide +kernel) rfl rfl rfl (by decide +kernel)
set_option maxRecDepth 65536 in
theorem w_c13 : (Jvm.Cond.code ({ cls := "java/util/Objects", name := "requireNonNull", desc := "(Ljava/lang/Object;)Ljava/lang/Object;" } : Jvm.MethodName) jdk_31_method_10_code (1 : Nat) (Option.some (Jvm.ClassFile.FieldType.object "java/lang/Object"))).before args0 about1 = true := code_word (m := ⟨12, 1⟩) (meth := k12m1) (c := k12c1) (by decide +kernel) rfl rfl rfl (by decide +kernel)
set_option maxRecDepth 65536 in
theorem w_c14 : (Jvm.Cond.code ({ cls := "java/util/Optional", name := "<init>", desc := "(Ljava/lang/Object;)V" } : Jvm.MethodName) jdk_32_method_2_code (2 : Nat) (Option.none : Option Jvm.ClassFile.FieldType)).before args0 about1 = true := code_word (m := ⟨7, 1⟩) (meth := k7m1) (c := k7c1) (by decide +kernel) rfl rfl rfl (by decide +kernel)
set_option maxRecDepth 65536 in
theorem w_c15 : (Jvm.Cond.code ({ cls := "java/util/Optional", name := "get", desc := "()Ljava/lang/Object;" } : Jvm.MethodName) jdk_32_method_5_code (1 : Nat) (Option.some (Jvm.ClassFile.FieldType.object "java/lang/Object"))).before args0 about1 = true := code_word (m := ⟨7, 3⟩) (meth := k7m3) (c := k7c3) (by decide +kernel) rfl rfl rfl (by decide +kernel)
set_option maxRecDepth 65536 in
theorem w_c16 : (Jvm.Cond.code ({ cls := "java/lang/String", name := "trim", desc := "()Ljava/lang/String;" } : Jvm.MethodName) jdk_42_method_113_code (2 : Nat) (Option.some (Jvm.ClassFile.FieldType.object "java/lang/String"))).before args0 about1 = true := code_word (m := ⟨10, 5⟩) (meth := k10m5) (c := k10c5) (by decide +kernel) rfl rfl rfl (by decide +kernel)
set_option maxRecDepth 65536 in
theorem w_c17 : (Jvm.Cond.code ({ cls := "java/lang/String", name := "isLatin1", desc := "()Z" } : Jvm.MethodName) jdk_42_method_154_code (1 : Nat) (Option.some Jvm.ClassFile.FieldType.boolean)).before args0 about1 = true := code_word (m := ⟨10, 9⟩) (meth := k10m9) (c := k10c9) (by decide +kernel) rfl rfl rfl (by decide +kernel)
set_option maxRecDepth 65536 in
theorem w_c18 : (Jvm.Cond.code ({ cls := "java/lang/StringLatin1", name := "trim", desc := "([B)Ljava/lang/String;" } : Jvm.MethodName) jdk_43_method_36_code (3 : Nat) (Option.some (Jvm.ClassFile.FieldType.object "java/lang/String"))).before args0 about1 = true := code_word (m := ⟨13, 2⟩) (meth := k13m2) (c := k13c2) (by decide +kernel) rfl rfl rfl (by decide +kernel)
set_option maxRecDepth 65536 in
theorem w_c19 : (Jvm.Cond.code ({ cls := "com/example/synctoken/synctoken/dav/Depth", name := "named", desc := "(Ljava/lang/String;)Lcom/example/synctoken/synctoken/dav/Depth;" } : Jvm.MethodName) prog_4_method_5_code (5 : Nat) (Option.some (Jvm.ClassFile.FieldType.object "com/example/synctoken/synctoken/dav/Depth"))).before args0 about1 = true := code_word (m := ⟨6, 2⟩) (meth := k6m2) (c := k6c2) (by decide +kernel) rfl rfl rfl (by decide +kernel)
set_option maxRecDepth 65536 in
theorem w_c20 : (Jvm.Cond.code ({ cls := "com/example/synctoken/synctoken/dav/Depth", name := "values", desc := "()[Lcom/example/synctoken/synctoken/dav/Depth;" } : Jvm.MethodName) prog_4_method_1_code (0 : Nat) (Option.some (Jvm.ClassFile.FieldType.array (Jvm.ClassFile.FieldType.object "com/example/synctoken/synctoken/dav/Depth")))).before args0 about1 = true := code_word (m := ⟨6, 0⟩) (meth := k6m0) (c := k6c0) (by decide +kernel) rfl rfl rfl (by decide +kernel)
set_option maxRecDepth 65536 in
theorem w_c21 : (Jvm.Cond.code ({ cls := "java/lang/String", name := "equalsIgnoreCase", desc := "(Ljava/lang/String;)Z" } : Jvm.MethodName) jdk_42_method_70_code (2 : Nat) (Option.some Jvm.ClassFile.FieldType.boolean)).before args0 about1 = true := code_word (m := ⟨10, 3⟩) (meth := k10m3) (c := k10c3) (by decide +kernel) rfl rfl rfl (by decide +kernel)
set_option maxRecDepth 65536 in
theorem w_c22 : (Jvm.Cond.code ({ cls := "java/lang/String", name := "length", desc := "()I" } : Jvm.MethodName) jdk_42_method_54_code (1 : Nat) (Option.some Jvm.ClassFile.FieldType.int)).before args0 about1 = true := code_word (m := ⟨10, 2⟩) (meth := k10m2) (c := k10c2) (by decide +kernel) rfl rfl rfl (by decide +kernel)
set_option maxRecDepth 65536 in
theorem w_c23 : (Jvm.Cond.code ({ cls := "java/lang/String", name := "coder", desc := "()B" } : Jvm.MethodName) jdk_42_method_152_code (1 : Nat) (Option.some Jvm.ClassFile.FieldType.byte)).before args0 about1 = true := code_word (m := ⟨10, 8⟩) (meth := k10m8) (c := k10c8) (by decide +kernel) rfl rfl rfl (by decide +kernel)
set_option maxRecDepth 65536 in
theorem w_c24 : (Jvm.Cond.code ({ cls := "java/lang/String", name := "regionMatches", desc := "(ZILjava/lang/String;II)Z" } : Jvm.MethodName) jdk_42_method_74_code (9 : Nat) (Option.some Jvm.ClassFile.FieldType.boolean)).before args0 about1 = true := code_word (m := ⟨10, 4⟩) (meth := k10m4) (c := k10c4) (by decide +kernel) rfl rfl rfl (by decide +kernel)
set_option maxRecDepth 65536 in
theorem w_c25 : (Jvm.Cond.code ({ cls := "java/lang/StringLatin1", name := "regionMatchesCI", desc := "([BI[BII)Z" } : Jvm.MethodName) jdk_43_method_30_code (8 : Nat) (Option.some Jvm.ClassFile.FieldType.boolean)).before args0 about1 = true := code_word (m := ⟨13, 1⟩) (meth := k13m1) (c := k13c1) (by decide +kernel) rfl rfl rfl (by decide +kernel)
set_option maxRecDepth 65536 in
theorem w_c26 : (Jvm.Cond.code ({ cls := "java/lang/CharacterDataLatin1", name := "equalsIgnoreCase", desc := "(BB)Z" } : Jvm.MethodName) jdk_116_method_22_code (3 : Nat) (Option.some Jvm.ClassFile.FieldType.boolean)).before args0 about1 = true := code_word (m := ⟨16, 0⟩) (meth := k16m0) (c := k16c0) (by decide +kernel) rfl rfl rfl (by decide +kernel)
set_option maxRecDepth 65536 in
theorem w_c27 : (Jvm.Cond.code ({ cls := "com/example/synctoken/synctoken/dav/DepthParsePinLaw", name := "letter", desc := "(II)C" } : Jvm.MethodName) method_5_code (3 : Nat) (Option.some Jvm.ClassFile.FieldType.char)).before args0 about1 = true := code_word (m := ⟨1, 4⟩) (meth := k1m4) (c := k1c4) (by decide +kernel) rfl rfl rfl (by decide +kernel)
set_option maxRecDepth 65536 in
theorem w_c28 : (Jvm.Cond.code ({ cls := "java/lang/StringLatin1", name := "newString", desc := "([BII)Ljava/lang/String;" } : Jvm.MethodName) jdk_43_method_47_code (3 : Nat) (Option.some (Jvm.ClassFile.FieldType.object "java/lang/String"))).before args0 about1 = true := code_word (m := ⟨13, 3⟩) (meth := k13m3) (c := k13c3) (by decide +kernel) rfl rfl rfl (by decide +kernel)
set_option maxRecDepth 65536 in
theorem w_c29 : (Jvm.Cond.code ({ cls := "java/util/Arrays", name := "copyOfRange", desc := "([BII)[B" } : Jvm.MethodName) jdk_65_method_132_code (3 : Nat) (Option.some (Jvm.ClassFile.FieldType.array Jvm.ClassFile.FieldType.byte))).before args0 about1 = true := code_word (m := ⟨17, 2⟩) (meth := k17m2) (c := k17c2) (by decide +kernel) rfl rfl rfl (by decide +kernel)
set_option maxRecDepth 65536 in
theorem w_c30 : (Jvm.Cond.code ({ cls := "java/util/Arrays", name := "copyOfRangeByte", desc := "([BII)[B" } : Jvm.MethodName) jdk_65_method_133_code (5 : Nat) (Option.some (Jvm.ClassFile.FieldType.array Jvm.ClassFile.FieldType.byte))).before args0 about1 = true := code_word (m := ⟨17, 3⟩) (meth := k17m3) (c := k17c3) (by decide +kernel) rfl rfl rfl (by decide +kernel)
set_option maxRecDepth 65536 in
theorem w_c31 : (Jvm.Cond.code ({ cls := "java/util/Arrays", name := "checkLength", desc := "(II)V" } : Jvm.MethodName) jdk_65_method_131_code (2 : Nat) (Option.none : Option Jvm.ClassFile.FieldType)).before args0 about1 = true := code_word (m := ⟨17, 1⟩) (meth := k17m1) (c := k17c1) (by decide +kernel) rfl rfl rfl (by decide +kernel)
set_option maxRecDepth 65536 in
theorem w_c32 : (Jvm.Cond.code ({ cls := "java/lang/Math", name := "min", desc := "(II)I" } : Jvm.MethodName) jdk_29_method_69_code (2 : Nat) (Option.some Jvm.ClassFile.FieldType.int)).before args0 about1 = true := code_word (m := ⟨18, 1⟩) (meth := k18m1) (c := k18c1) (by decide +kernel) rfl rfl rfl (by decide +kernel)
set_option maxRecDepth 65536 in
theorem w_c33 : (Jvm.Cond.code ({ cls := "java/lang/String", name := "<init>", desc := "([BB)V" } : Jvm.MethodName) jdk_42_method_151_code (3 : Nat) (Option.none : Option Jvm.ClassFile.FieldType)).before args0 about1 = true := code_word (m := ⟨10, 7⟩) (meth := k10m7) (c := k10c7) (by decide +kernel) rfl rfl rfl (by decide +kernel)
def codes1 : List Jvm.Cond := [Jvm.Cond.code x code maxLocals ret, Jvm.Cond.code ({ cls := "java/util/Optional", name := "empty", desc := "()Ljava/util/Optional;" } : Jvm.MethodName) jdk_32_method_1_code (1 : Nat) (Option.some (Jvm.ClassFile.FieldType.object "java/util/Optional")), Jvm.Cond.code ({ cls := "com/example/synctoken/synctoken/dav/Depth", name := "parse", desc := "(Ljava/util/Optional;Lcom/example/synctoken/synctoken/dav/Depth;)Lcom/example/synctoken/synctoken/dav/Depth;" } : Jvm.MethodName) prog_4_method_4_code (3 : Nat) (Option.some (Jvm.ClassFile.FieldType.object "com/example/synctoken/synctoken/dav/Depth")), Jvm.Cond.code ({ cls := "java/util/Optional", name := "isPresent", desc := "()Z" } : Jvm.MethodName) jdk_32_method_6_code (1 : Nat) (Option.some Jvm.ClassFile.FieldType.boolean), Jvm.Cond.code ({ cls := "com/example/synctoken/synctoken/dav/DepthParsePinLaw", name := "str", desc := "(IIIIICC)Ljava/lang/String;" } : Jvm.MethodName) method_3_code (8 : Nat) (Option.some (Jvm.ClassFile.FieldType.object "java/lang/String")), Jvm.Cond.code ({ cls := "com/example/synctoken/synctoken/dav/DepthParsePinLaw", name := "at", desc := "(IIIIICC)C" } : Jvm.MethodName) method_4_code (8 : Nat) (Option.some Jvm.ClassFile.FieldType.char), Jvm.Cond.code ({ cls := "java/lang/String", name := "<init>", desc := "([C)V" } : Jvm.MethodName) jdk_42_method_3_code (2 : Nat) (Option.none : Option Jvm.ClassFile.FieldType), Jvm.Cond.code ({ cls := "java/lang/String", name := "<init>", desc := "([CIILjava/lang/Void;)V" } : Jvm.MethodName) jdk_42_method_149_code (6 : Nat) (Option.none : Option Jvm.ClassFile.FieldType), Jvm.Cond.code ({ cls := "java/lang/Object", name := "<init>", desc := "()V" } : Jvm.MethodName) object_method_1_code (1 : Nat) (Option.none : Option Jvm.ClassFile.FieldType), Jvm.Cond.code ({ cls := "java/lang/StringUTF16", name := "compress", desc := "([CII)[B" } : Jvm.MethodName) jdk_52_method_16_code (6 : Nat) (Option.some (Jvm.ClassFile.FieldType.array Jvm.ClassFile.FieldType.byte)), Jvm.Cond.code ({ cls := "java/lang/StringUTF16", name := "compress", desc := "([CI[BII)I" } : Jvm.MethodName) jdk_52_method_21_code (7 : Nat) (Option.some Jvm.ClassFile.FieldType.int), Jvm.Cond.code ({ cls := "java/lang/StringUTF16", name := "coderFromArrayLen", desc := "([BI)B" } : Jvm.MethodName) jdk_52_method_15_code (2 : Nat) (Option.some Jvm.ClassFile.FieldType.byte), Jvm.Cond.code ({ cls := "java/util/Optional", name := "of", desc := "(Ljava/lang/Object;)Ljava/util/Optional;" } : Jvm.MethodName) jdk_32_method_3_code (1 : Nat) (Option.some (Jvm.ClassFile.FieldType.object "java/util/Optional")), Jvm.Cond.code ({ cls := "java/util/Objects", name := "requireNonNull", desc := "(Ljava/lang/Object;)Ljava/lang/Object;" } : Jvm.MethodName) jdk_31_method_10_code (1 : Nat) (Option.some (Jvm.ClassFile.FieldType.object "java/lang/Object")), Jvm.Cond.code ({ cls := "java/util/Optional", name := "<init>", desc := "(Ljava/lang/Object;)V" } : Jvm.MethodName) jdk_32_method_2_code (2 : Nat) (Option.none : Option Jvm.ClassFile.FieldType), Jvm.Cond.code ({ cls := "java/util/Optional", name := "get", desc := "()Ljava/lang/Object;" } : Jvm.MethodName) jdk_32_method_5_code (1 : Nat) (Option.some (Jvm.ClassFile.FieldType.object "java/lang/Object")), Jvm.Cond.code ({ cls := "java/lang/String", name := "trim", desc := "()Ljava/lang/String;" } : Jvm.MethodName) jdk_42_method_113_code (2 : Nat) (Option.some (Jvm.ClassFile.FieldType.object "java/lang/String")), Jvm.Cond.code ({ cls := "java/lang/String", name := "isLatin1", desc := "()Z" } : Jvm.MethodName) jdk_42_method_154_code (1 : Nat) (Option.some Jvm.ClassFile.FieldType.boolean), Jvm.Cond.code ({ cls := "java/lang/StringLatin1", name := "trim", desc := "([B)Ljava/lang/String;" } : Jvm.MethodName) jdk_43_method_36_code (3 : Nat) (Option.some (Jvm.ClassFile.FieldType.object "java/lang/String")), Jvm.Cond.code ({ cls := "com/example/synctoken/synctoken/dav/Depth", name := "named", desc := "(Ljava/lang/String;)Lcom/example/synctoken/synctoken/dav/Depth;" } : Jvm.MethodName) prog_4_method_5_code (5 : Nat) (Option.some (Jvm.ClassFile.FieldType.object "com/example/synctoken/synctoken/dav/Depth")), Jvm.Cond.code ({ cls := "com/example/synctoken/synctoken/dav/Depth", name := "values", desc := "()[Lcom/example/synctoken/synctoken/dav/Depth;" } : Jvm.MethodName) prog_4_method_1_code (0 : Nat) (Option.some (Jvm.ClassFile.FieldType.array (Jvm.ClassFile.FieldType.object "com/example/synctoken/synctoken/dav/Depth"))), Jvm.Cond.code ({ cls := "java/lang/String", name := "equalsIgnoreCase", desc := "(Ljava/lang/String;)Z" } : Jvm.MethodName) jdk_42_method_70_code (2 : Nat) (Option.some Jvm.ClassFile.FieldType.boolean), Jvm.Cond.code ({ cls := "java/lang/String", name := "length", desc := "()I" } : Jvm.MethodName) jdk_42_method_54_code (1 : Nat) (Option.some Jvm.ClassFile.FieldType.int), Jvm.Cond.code ({ cls := "java/lang/String", name := "coder", desc := "()B" } : Jvm.MethodName) jdk_42_method_152_code (1 : Nat) (Option.some Jvm.ClassFile.FieldType.byte), Jvm.Cond.code ({ cls := "java/lang/String", name := "regionMatches", desc := "(ZILjava/lang/String;II)Z" } : Jvm.MethodName) jdk_42_method_74_code (9 : Nat) (Option.some Jvm.ClassFile.FieldType.boolean), Jvm.Cond.code ({ cls := "java/lang/StringLatin1", name := "regionMatchesCI", desc := "([BI[BII)Z" } : Jvm.MethodName) jdk_43_method_30_code (8 : Nat) (Option.some Jvm.ClassFile.FieldType.boolean), Jvm.Cond.code ({ cls := "java/lang/CharacterDataLatin1", name := "equalsIgnoreCase", desc := "(BB)Z" } : Jvm.MethodName) jdk_116_method_22_code (3 : Nat) (Option.some Jvm.ClassFile.FieldType.boolean), Jvm.Cond.code ({ cls := "com/example/synctoken/synctoken/dav/DepthParsePinLaw", name := "letter", desc := "(II)C" } : Jvm.MethodName) method_5_code (3 : Nat) (Option.some Jvm.ClassFile.FieldType.char), Jvm.Cond.code ({ cls := "java/lang/StringLatin1", name := "newString", desc := "([BII)Ljava/lang/String;" } : Jvm.MethodName) jdk_43_method_47_code (3 : Nat) (Option.some (Jvm.ClassFile.FieldType.object "java/lang/String")), Jvm.Cond.code ({ cls := "java/util/Arrays", name := "copyOfRange", desc := "([BII)[B" } : Jvm.MethodName) jdk_65_method_132_code (3 : Nat) (Option.some (Jvm.ClassFile.FieldType.array Jvm.ClassFile.FieldType.byte)), Jvm.Cond.code ({ cls := "java/util/Arrays", name := "copyOfRangeByte", desc := "([BII)[B" } : Jvm.MethodName) jdk_65_method_133_code (5 : Nat) (Option.some (Jvm.ClassFile.FieldType.array Jvm.ClassFile.FieldType.byte)), Jvm.Cond.code ({ cls := "java/util/Arrays", name := "checkLength", desc := "(II)V" } : Jvm.MethodName) jdk_65_method_131_code (2 : Nat) (Option.none : Option Jvm.ClassFile.FieldType), Jvm.Cond.code ({ cls := "java/lang/Math", name := "min", desc := "(II)I" } : Jvm.MethodName) jdk_29_method_69_code (2 : Nat) (Option.some Jvm.ClassFile.FieldType.int), Jvm.Cond.code ({ cls := "java/lang/String", name := "<init>", desc := "([BB)V" } : Jvm.MethodName) jdk_42_method_151_code (3 : Nat) (Option.none : Option Jvm.ClassFile.FieldType)]
set_option maxRecDepth 65536 in
theorem codes_eq : words1.filter isCode = codes1 := rfl
theorem w_codes : ∀ c ∈ words1.filter isCode, c.before args0 about1 = true := by
  rw [codes_eq]
  intro c hc
  simp only [codes1, List.mem_cons, List.not_mem_nil, or_false] at hc
  rcases hc with rfl | rfl | rfl | rfl | rfl | rfl | rfl | rfl | rfl | rfl | rfl | rfl | rfl | rfl | rfl | rfl | rfl | rfl | rfl | rfl | rfl | rfl | rfl | rfl | rfl | rfl | rfl | rfl | rfl | rfl | rfl | rfl | rfl | rfl
  · exact w_c0
  · exact w_c1
  · exact w_c2
  · exact w_c3
  · exact w_c4
  · exact w_c5
  · exact w_c6
  · exact w_c7
  · exact w_c8
  · exact w_c9
  · exact w_c10
  · exact w_c11
  · exact w_c12
  · exact w_c13
  · exact w_c14
  · exact w_c15
  · exact w_c16
  · exact w_c17
  · exact w_c18
  · exact w_c19
  · exact w_c20
  · exact w_c21
  · exact w_c22
  · exact w_c23
  · exact w_c24
  · exact w_c25
  · exact w_c26
  · exact w_c27
  · exact w_c28
  · exact w_c29
  · exact w_c30
  · exact w_c31
  · exact w_c32
  · exact w_c33
set_option maxRecDepth 65536 in
theorem w_t1 : (words1.take 24).all (fun c => isCode c || c.before args0 about1) = true := by decide +kernel
set_option maxRecDepth 65536 in
theorem w_t2 : ((words1.drop 24).take 24).all (fun c => isCode c || c.before args0 about1) = true := by decide +kernel
set_option maxRecDepth 65536 in
theorem w_t3 : (((words1.drop 24).drop 24).take 24).all (fun c => isCode c || c.before args0 about1) = true := by decide +kernel
set_option maxRecDepth 65536 in
theorem w_t4 : ((((words1.drop 24).drop 24).drop 24).take 24).all (fun c => isCode c || c.before args0 about1) = true := by decide +kernel
set_option maxRecDepth 65536 in
theorem w_t5 : (((((words1.drop 24).drop 24).drop 24).drop 24).take 24).all (fun c => isCode c || c.before args0 about1) = true := by decide +kernel
set_option maxRecDepth 65536 in
theorem w_t6 : ((((((words1.drop 24).drop 24).drop 24).drop 24).drop 24).take 24).all (fun c => isCode c || c.before args0 about1) = true := by decide +kernel
set_option maxRecDepth 65536 in
theorem w_t7 : (((((((words1.drop 24).drop 24).drop 24).drop 24).drop 24).drop 24).take 24).all (fun c => isCode c || c.before args0 about1) = true := by decide +kernel
set_option maxRecDepth 65536 in
theorem w_t8 : (((((((words1.drop 24).drop 24).drop 24).drop 24).drop 24).drop 24).drop 24).all (fun c => isCode c || c.before args0 about1) = true := by decide +kernel
theorem w_tables : (allAtoms (Jvm.Cond.code x code maxLocals ret :: tables_1)).before args0 about1 = true := by
  rw [allAtoms_all]
  show words1.all (fun c => c.before args0 about1) = true
  refine all_split ?_ w_codes
  rw [← List.take_append_drop 24 words1, List.all_append, w_t1, ← List.take_append_drop 24 (words1.drop 24), List.all_append, w_t2, ← List.take_append_drop 24 ((words1.drop 24).drop 24), List.all_append, w_t3, ← List.take_append_drop 24 (((words1.drop 24).drop 24).drop 24), List.all_append, w_t4, ← List.take_append_drop 24 ((((words1.drop 24).drop 24).drop 24).drop 24), List.all_append, w_t5, ← List.take_append_drop 24 (((((words1.drop 24).drop 24).drop 24).drop 24).drop 24), List.all_append, w_t6, ← List.take_append_drop 24 ((((((words1.drop 24).drop 24).drop 24).drop 24).drop 24).drop 24), List.all_append, w_t7, w_t8]
  rfl
set_option maxRecDepth 65536 in
theorem w_rest : rest_1_c.before args0 about1 = true := by decide +kernel
set_option maxRecDepth 65536 in
theorem w_case : (Jvm.Cond.and given_1 narrow_1).before args0 about1 = true := by decide +kernel
theorem w_applies : (headSpec (Jvm.Cond.code x code maxLocals ret :: tables_1) room_1).applies x e0.platform about1 = true :=
  (Spec.applies_iff w_frames).mpr ⟨w_running, w_runnable, w_alone, w_named, w_hears, w_ripe, w_room, w_tables⟩
theorem atStart : AtStart classFile x code maxLocals ret World_1 tables_1 room_1 Calls_1 rest_1 Pre_1 launch0 p0 e0 about1 theMethod args0 below0 :=
  ⟨lists_1, trivial, launch0.admits_env _ _ _, launch0.least_env, fairChoices_fair.cas, fairChoices_fair.clock, w_frames, w_args, w_heap, w_applies, trivial, w_rest, w_case⟩
end start1
theorem witness_1 : WitnessClaimed_1 := ⟨start1.p0, start1.e0, start1.about1, start1.theMethod, start1.args0, start1.below0, start1.atStart⟩
end Jvm.Pilot.@@N@@
