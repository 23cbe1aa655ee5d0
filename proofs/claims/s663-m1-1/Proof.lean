import JvmDerived
import JvmDerived.Pilot.@@N@@Statement
import JvmDerived.Pilot.@@N@@Code
set_option linter.unusedVariables false
set_option linter.unusedSimpArgs false
set_option maxRecDepth 65536
set_option maxHeartbeats 40000000
/- laws to paste: Road.backV (cut by pick.py; bodies as the Statement names them) -/
namespace Jvm.Pilot.@@N@@
namespace StrChars
open Jvm Sem ClassFile Op Lib Jvm.Stand Jvm.Free.XT Jvm.Free.ALB Jvm.Free.JM Jvm.Free
open Jvm.Lib.Cold (StaticIs)
/-- a char array whose places are chars -/
def Ch (a : Addr) (A : Cell) (U : State) : Prop := Arr .char a A U ∧ Typed .char A
theorem Ch.mv {a : Addr} {A : Cell} {U U' : State} (h : Ch a A U) (hal : U.vm.Alike U'.vm) (hh : U'.heap = U.heap) : Ch a A U' := ⟨h.1.mv hal hh, h.2⟩
theorem Ch.keep {a : Addr} {A : Cell} {U U' : State} (h : Ch a A U) (hal : U.vm.Alike U'.vm) (hk : U'.heap[a]? = some A) : Ch a A U' := ⟨h.1.keep hal hk, h.2⟩
/-- what place i of a char[]'s cell holds -/
def cv (A : Cell) (i : Nat) : Int32 := match A.slots[i]? with | some (.int x) => x | _ => 0
theorem Ch.get {a : Addr} {A : Cell} {U : State} (h : Ch a A U) {i : Nat} (hi : i < A.slots.size) : A.slots[i]? = some (.int (cv A i)) := by
  have e := Array.getElem?_eq_getElem hi
  have f := h.2 i _ e
  unfold cv; rw [e]
  generalize A.slots[i] = v at f
  cases v <;> simp [fits] at f ⊢
/-- the byte that i2b leaves of a char -/
def lo8 (x : Int32) : Int32 := x.toInt8.toInt32
theorem fits_lo8 (y : Int32) : fits .byte (.int (lo8 y)) = true := by
  have h1 := y.toInt8.le_toInt
  have h2 := y.toInt8.toInt_lt
  simp only [lo8, fits, Bool.and_eq_true, decide_eq_true_eq, Int32.le_iff_toInt_le, Int8.toInt_toInt32, show (-128 : Int32).toInt = -128 from by decide, show (127 : Int32).toInt = 127 from by decide]
  omega
/-- A' is A but that each place j of lo .. hi - 1 holds f j -/
def Laid (A A' : Cell) (lo hi : Nat) (f : Nat → Value) : Prop := A'.cls = A.cls ∧ A'.vm = A.vm ∧ A'.slots.size = A.slots.size ∧ ∀ i, A'.slots[i]? = if lo ≤ i ∧ i < hi then some (f i) else A.slots[i]?
theorem Laid.zero (A : Cell) (lo : Nat) (f : Nat → Value) : Laid A A lo (lo + 0) f := ⟨rfl, rfl, rfl, fun i => by rw [if_neg (by omega)]⟩
theorem Laid.step {A Ak : Cell} {lo k : Nat} {f : Nat → Value} {v : Value} (h : Laid A Ak lo k f) (hlo : lo ≤ k) (hk : k < Ak.slots.size) (hv : v = f k) : Laid A (Ak.setSlot k v) lo (k + 1) f := by
  refine ⟨h.1, h.2.1, by simpa [Cell.setSlot] using h.2.2.1, fun i => ?_⟩
  by_cases e : k = i
  · subst e; rw [Cell.slots_setSlot_self v hk, if_pos (by omega), hv]
  · rw [Cell.slots_setSlot_ne v e, h.2.2.2 i]
    by_cases q : lo ≤ i ∧ i < k
    · rw [if_pos q, if_pos (by omega)]
    · rw [if_neg q, if_neg (by omega)]
def U16 : String := "java/lang/StringUTF16"
namespace Cmp5
def yN : MethodName := ⟨"java/lang/StringUTF16", "compress", "([CI[BII)I"⟩
abbrev yB : ByteArray := jdk_52_method_21_code
theorem d0 : decode yB 0 = .ok (.iconst 0, 1) := by decide +kernel
theorem d1 : decode yB 1 = .ok (.istore 5, 2) := by decide +kernel
theorem d3 : decode yB 3 = .ok (.iload 5, 2) := by decide +kernel
theorem d5 : decode yB 5 = .ok (.iload 4, 2) := by decide +kernel
theorem d7 : decode yB 7 = .ok (.if_icmp (.ge) 37, 3) := by decide +kernel
theorem d10 : decode yB 10 = .ok (.aload_n 0, 1) := by decide +kernel
theorem d11 : decode yB 11 = .ok (.iload_n 1, 1) := by decide +kernel
theorem d12 : decode yB 12 = .ok (.caload, 1) := by decide +kernel
theorem d13 : decode yB 13 = .ok (.istore 6, 2) := by decide +kernel
theorem d15 : decode yB 15 = .ok (.iload 6, 2) := by decide +kernel
theorem d17 : decode yB 17 = .ok (.sipush 255, 3) := by decide +kernel
theorem d20 : decode yB 20 = .ok (.if_icmp (.le) 6, 3) := by decide +kernel
theorem d26 : decode yB 26 = .ok (.aload_n 2, 1) := by decide +kernel
theorem d27 : decode yB 27 = .ok (.iload_n 3, 1) := by decide +kernel
theorem d28 : decode yB 28 = .ok (.iload 6, 2) := by decide +kernel
theorem d30 : decode yB 30 = .ok (.i2b, 1) := by decide +kernel
theorem d31 : decode yB 31 = .ok (.bastore, 1) := by decide +kernel
theorem d32 : decode yB 32 = .ok (.iinc 1 1, 3) := by decide +kernel
theorem d35 : decode yB 35 = .ok (.iinc 3 1, 3) := by decide +kernel
theorem d38 : decode yB 38 = .ok (.iinc 5 1, 3) := by decide +kernel
theorem d41 : decode yB 41 = .ok (.goto (-38), 3) := by decide +kernel
theorem d44 : decode yB 44 = .ok (.iload 4, 2) := by decide +kernel
theorem d46 : decode yB 46 = .ok (.ireturn, 1) := by decide +kernel
def site : List Cond := []
def tab : Cond := tabOf yN yB 7 (some .int) site
def P (b : Addr) (A : Cell) (d : Addr) (B : Cell) (o q len : Nat) (args : Array Value) (s : State) : Prop := args = #[.ref b, .int (Int32.ofNat o), .ref d, .int (Int32.ofNat q), .int (Int32.ofNat len)] ∧ Ch b A s ∧ Arr .byte d B s ∧ b ≠ d ∧ o + len ≤ A.slots.size ∧ q + len ≤ B.slots.size ∧ ∀ i, i < len → ¬ 255 < cv A (o + i)
def E (b : Addr) (A : Cell) (d : Addr) (B : Cell) (o q len : Nat) (r : Option Value) (s u : State) : Prop := r = some (.int (Int32.ofNat len)) ∧ ∃ B', Put d B' s u ∧ Laid B B' q (q + len) (fun j => Value.int (lo8 (cv A (o + (j - q)))))
/-- no char of the range above 255: len; the places written hold each char's low byte -/
theorem law (l : Launch) (b : Addr) (A : Cell) (d : Addr) (B : Cell) (o q len : Nat) : Law l yN 5 5 0 0 yB 7 (some .int) site (P b A d B o q len) (E b A d B o q len) (copyLocs d q len) 0 0 := by
  refine Law.of_walk (plainFor_of_name (by decide +kernel)) (by decide +kernel) (by decide +kernel) (by decide) (fun _ _ h => by rw [h.1]; rfl) (fun _ U U' hal hh h => ⟨h.1, h.2.1.mv hal hh, h.2.2.1.mv hal hh, h.2.2.2⟩) (fun r U U' V V' h1 hal h2 h => ⟨h.1, h.2.elim fun B' q => ⟨B', q.1.mv h1 h2, q.2⟩⟩) ?_
  intro p e s m args below meth c s₁ X0 hexec hbytes hml hret hlk hnm hown hh0 W hP
  obtain ⟨rfl, hA, hB, hne, l1, l2, hp⟩ := hP
  have c1 : Steps p.tables e below (s₁.setTop (entryFrame m #[.ref b, .int (Int32.ofNat o), .ref d, .int (Int32.ofNat q), .int (Int32.ofNat len)] 7)) (s₁.setTop (mkF m 0 #[.val (.ref b), .val (.int (Int32.ofNat o)), .val (.ref d), .val (.int (Int32.ofNat q)), .val (.int (Int32.ofNat len)), .unset, .unset] [])) := entry rfl
  have hA0 := hA.1.mv X0.warmed.alike hh0
  have hB0 := hB.mv X0.warmed.alike hh0
  have a31 := hA.1.2.2.2
  have c2 : Steps p.tables e below (s₁.setTop (entryFrame m #[.ref b, .int (Int32.ofNat o), .ref d, .int (Int32.ofNat q), .int (Int32.ofNat len)] 7)) (s₁.setTop (mkF m 3 #[.val (.ref b), .val (.int (Int32.ofNat o)), .val (.ref d), .val (.int (Int32.ofNat q)), .val (.int (Int32.ofNat len)), .val (.int 0), .unset] [])) := c1.trans (by
    refine iconstV X0.here hexec rfl 0 (hb hbytes d0) (by decide) ?_
    refine XS.istore X0.here hexec rfl (hb hbytes d1) rfl rfl ?_
    exact Steps.refl _)
  have loop : ∀ (r i : Nat), i + r = len → ∀ (z : Slot), (z = .unset ∨ ∃ w, z = .val w ∧ w.category = 1) → ∀ (Tl : State) (Bk : Cell), Stand p l e { frames := 0, locals := 0, cells := 0, slots := 0 } s m #[.ref b, .int (Int32.ofNat o), .ref d, .int (Int32.ofNat q), .int (Int32.ofNat len)] below meth c Tl ([] ++ copyLocs d q i) 0 0 → Put d Bk s₁ Tl → Laid B Bk q (q + i) (fun j => Value.int (lo8 (cv A (o + (j - q))))) →
      Steps p.tables e below (s₁.setTop (entryFrame m #[.ref b, .int (Int32.ofNat o), .ref d, .int (Int32.ofNat q), .int (Int32.ofNat len)] 7)) (Tl.setTop (mkF m 3 #[.val (.ref b), .val (.int (Int32.ofNat (o + i))), .val (.ref d), .val (.int (Int32.ofNat (q + i))), .val (.int (Int32.ofNat len)), .val (.int (Int32.ofNat i)), z] [])) → ∃ (T' : State) (B' : Cell) (z' : Slot), Stand p l e { frames := 0, locals := 0, cells := 0, slots := 0 } s m #[.ref b, .int (Int32.ofNat o), .ref d, .int (Int32.ofNat q), .int (Int32.ofNat len)] below meth c T' ([] ++ copyLocs d q len) 0 0 ∧ Put d B' s₁ T' ∧ Laid B B' q (q + len) (fun j => Value.int (lo8 (cv A (o + (j - q))))) ∧
      Steps p.tables e below (s₁.setTop (entryFrame m #[.ref b, .int (Int32.ofNat o), .ref d, .int (Int32.ofNat q), .int (Int32.ofNat len)] 7)) (T'.setTop (mkF m 3 #[.val (.ref b), .val (.int (Int32.ofNat (o + len))), .val (.ref d), .val (.int (Int32.ofNat (q + len))), .val (.int (Int32.ofNat len)), .val (.int (Int32.ofNat len)), z'] [])) := by
    intro r
    induction r with
    | zero =>
      intro i hi z hz Tl Bk Xl pl fl cl
      have hil : i = len := by omega
      rw [hil] at Xl fl cl
      exact ⟨Tl, Bk, z, Xl, pl, fl, cl⟩
    | succ r ih =>
      intro i hi z hz Tl Bk Xl pl fl cl
      have all := X0.warmed.alike.symm.trans Xl.warmed.alike
      have hAl := hA0.keep all (pl.other hne hA0.1)
      have hBk := hB0.like all pl.1 fl.1 fl.2.1 fl.2.2.1
      have hlt : q + i < Bk.slots.size := by rw [fl.2.2.1]; omega
      have c3 : Steps p.tables e below (s₁.setTop (entryFrame m #[.ref b, .int (Int32.ofNat o), .ref d, .int (Int32.ofNat q), .int (Int32.ofNat len)] 7)) (Tl.setTop (mkF m 12 #[.val (.ref b), .val (.int (Int32.ofNat (o + i))), .val (.ref d), .val (.int (Int32.ofNat (q + i))), .val (.int (Int32.ofNat len)), .val (.int (Int32.ofNat i)), z] [.int (Int32.ofNat (o + i)), .ref b])) := cl.trans (by
        refine XS.iload Xl.here hexec rfl (hb hbytes d3) rfl ?_
        refine XS.iload Xl.here hexec rfl (hb hbytes d5) rfl ?_
        refine XS.icmpNo Xl.here hexec rfl (hb hbytes d7) rfl (ii_ge_f (lt32 (by omega) (by omega))) ?_
        refine XS.aloadN Xl.here hexec rfl (hb hbytes d10) rfl rfl ?_
        refine XS.iloadN Xl.here hexec rfl (hb hbytes d11) rfl ?_
        exact Steps.refl _)
      have c4 : Steps p.tables e below (s₁.setTop (entryFrame m #[.ref b, .int (Int32.ofNat o), .ref d, .int (Int32.ofNat q), .int (Int32.ofNat len)] 7)) (Tl.setTop (mkF m 13 #[.val (.ref b), .val (.int (Int32.ofNat (o + i))), .val (.ref d), .val (.int (Int32.ofNat (q + i))), .val (.int (Int32.ofNat len)), .val (.int (Int32.ofNat i)), z] [.int (cv A (o + i))])) := c3.trans (by
        refine Xl.aget hexec hAl rfl (hA.get (i := o + i) (by omega)) rfl rfl (hb hbytes d12) ?_
        exact Steps.refl _)
      have c5 : Steps p.tables e below (s₁.setTop (entryFrame m #[.ref b, .int (Int32.ofNat o), .ref d, .int (Int32.ofNat q), .int (Int32.ofNat len)] 7)) (Tl.setTop (mkF m 15 #[.val (.ref b), .val (.int (Int32.ofNat (o + i))), .val (.ref d), .val (.int (Int32.ofNat (q + i))), .val (.int (Int32.ofNat len)), .val (.int (Int32.ofNat i)), .val (.int (cv A (o + i)))] [])) := c4.trans (by
        refine XS.istoreS Xl.here hexec rfl (hb hbytes d13) rfl rfl hz ?_
        exact Steps.refl _)
      have c6 : Steps p.tables e below (s₁.setTop (entryFrame m #[.ref b, .int (Int32.ofNat o), .ref d, .int (Int32.ofNat q), .int (Int32.ofNat len)] 7)) (Tl.setTop (mkF m 31 #[.val (.ref b), .val (.int (Int32.ofNat (o + i))), .val (.ref d), .val (.int (Int32.ofNat (q + i))), .val (.int (Int32.ofNat len)), .val (.int (Int32.ofNat i)), .val (.int (cv A (o + i)))] [.int (lo8 (cv A (o + i))), .int (Int32.ofNat (q + i)), .ref d])) := c5.trans (by
        refine XS.iload Xl.here hexec rfl (hb hbytes d15) rfl ?_
        refine sipushV Xl.here hexec rfl 255 (hb hbytes d17) (by decide) ?_
        refine XS.icmpYes Xl.here hexec rfl (pc0 := 20) rfl (hb hbytes d20) rfl (ii_le_t (hp i (by omega))) (by decide) rfl ?_
        refine XS.aloadN Xl.here hexec rfl (hb hbytes d26) rfl rfl ?_
        refine XS.iloadN Xl.here hexec rfl (hb hbytes d27) rfl ?_
        refine XS.iload Xl.here hexec rfl (hb hbytes d28) rfl ?_
        refine i2b Xl.here hexec rfl (hb hbytes d30) rfl ?_
        exact Steps.refl _)
      obtain ⟨T7, X7, p7, st7⟩ := Xl.aput hexec hBk rfl hlt rfl (fits_lo8 (cv A (o + i))) (g := (mkF m 31 #[.val (.ref b), .val (.int (Int32.ofNat (o + i))), .val (.ref d), .val (.int (Int32.ofNat (q + i))), .val (.int (Int32.ofNat len)), .val (.int (Int32.ofNat i)), .val (.int (cv A (o + i)))] [.int (lo8 (cv A (o + i))), .int (Int32.ofNat (q + i)), .ref d])) rfl (rest := []) rfl (hb hbytes d31)
      have c8 : Steps p.tables e below (s₁.setTop (entryFrame m #[.ref b, .int (Int32.ofNat o), .ref d, .int (Int32.ofNat q), .int (Int32.ofNat len)] 7)) (T7.setTop (mkF m 32 #[.val (.ref b), .val (.int (Int32.ofNat (o + i))), .val (.ref d), .val (.int (Int32.ofNat (q + i))), .val (.int (Int32.ofNat len)), .val (.int (Int32.ofNat i)), .val (.int (cv A (o + i)))] [])) := c6.trans (st7 _ (Steps.refl _))
      have c9 : Steps p.tables e below (s₁.setTop (entryFrame m #[.ref b, .int (Int32.ofNat o), .ref d, .int (Int32.ofNat q), .int (Int32.ofNat len)] 7)) (T7.setTop (mkF m 3 #[.val (.ref b), .val (.int (Int32.ofNat (o + i) + 1)), .val (.ref d), .val (.int (Int32.ofNat (q + i) + 1)), .val (.int (Int32.ofNat len)), .val (.int (Int32.ofNat i + 1)), .val (.int (cv A (o + i)))] [])) := c8.trans (by
        refine iincV X7.here hexec rfl 1 (hb hbytes d32) (by decide) rfl rfl ?_
        refine iincV X7.here hexec rfl 1 (hb hbytes d35) (by decide) rfl rfl ?_
        refine iincV X7.here hexec rfl 1 (hb hbytes d38) (by decide) rfl rfl ?_
        refine XS.goto X7.here hexec rfl (pc0 := 41) rfl (hb hbytes d41) (by decide) rfl ?_
        exact Steps.refl _)
      have c10 : Steps p.tables e below (s₁.setTop (entryFrame m #[.ref b, .int (Int32.ofNat o), .ref d, .int (Int32.ofNat q), .int (Int32.ofNat len)] 7)) (T7.setTop (mkF m 3 #[.val (.ref b), .val (.int (Int32.ofNat (o + (i + 1)))), .val (.ref d), .val (.int (Int32.ofNat (q + (i + 1)))), .val (.int (Int32.ofNat len)), .val (.int (Int32.ofNat (i + 1))), .val (.int (cv A (o + i)))] [])) := by
        have := c9
        rw [succ32, succ32, succ32] at this
        exact this
      exact ih (i + 1) (by omega) _ (Or.inr ⟨_, rfl, rfl⟩) T7 _ (by rw [copyLocs_step, ← List.append_assoc]; exact X7) (pl.trans p7) (fl.step (by omega) hlt (by simp)) c10
  obtain ⟨T9, B9, z9, X9, p9, f9, g9⟩ := loop len 0 (by omega) .unset (Or.inl rfl) s₁ B (by simpa [copyLocs] using X0) ⟨hB0.1, fun _ _ => rfl, rfl⟩ (Laid.zero _ _ _) c2
  have c11 : Steps p.tables e below (s₁.setTop (entryFrame m #[.ref b, .int (Int32.ofNat o), .ref d, .int (Int32.ofNat q), .int (Int32.ofNat len)] 7)) (T9.setTop (mkF m 46 #[.val (.ref b), .val (.int (Int32.ofNat (o + len))), .val (.ref d), .val (.int (Int32.ofNat (q + len))), .val (.int (Int32.ofNat len)), .val (.int (Int32.ofNat len)), z9] [.int (Int32.ofNat len)])) := g9.trans (by
    refine XS.iload X9.here hexec rfl (hb hbytes d3) rfl ?_
    refine XS.iload X9.here hexec rfl (hb hbytes d5) rfl ?_
    refine XS.icmpYes X9.here hexec rfl (pc0 := 7) rfl (hb hbytes d7) rfl (ii_ge_t (nlt32 (by omega) (Nat.le_refl _))) (by decide) rfl ?_
    refine XS.iload X9.here hexec rfl (hb hbytes d44) rfl ?_
    exact Steps.refl _)
  exact ⟨T9, some (.int (Int32.ofNat len)), _, _, _, X9, by simp, rfl, rfl, (fun h => by cases h), ⟨rfl, B9, p9.from hh0, f9⟩, fun fs hl => c11.trans (X9.ireturnOut hexec hret rfl (Or.inl rfl) (hb hbytes d46) hl)⟩
end Cmp5
namespace Cmp3
def yN : MethodName := ⟨"java/lang/StringUTF16", "compress", "([CII)[B"⟩
abbrev yB : ByteArray := jdk_52_method_16_code
theorem d0 : decode yB 0 = .ok (.iload_n 2, 1) := by decide +kernel
theorem d1 : decode yB 1 = .ok (.newarray .byte, 2) := by decide +kernel
theorem d3 : decode yB 3 = .ok (.astore_n 3, 1) := by decide +kernel
theorem d4 : decode yB 4 = .ok (.aload_n 0, 1) := by decide +kernel
theorem d5 : decode yB 5 = .ok (.iload_n 1, 1) := by decide +kernel
theorem d6 : decode yB 6 = .ok (.aload_n 3, 1) := by decide +kernel
theorem d7 : decode yB 7 = .ok (.iconst 0, 1) := by decide +kernel
theorem d8 : decode yB 8 = .ok (.iload_n 2, 1) := by decide +kernel
theorem d9 : decode yB 9 = .ok (.invokestatic 115, 3) := by decide +kernel
theorem d12 : decode yB 12 = .ok (.istore 4, 2) := by decide +kernel
theorem d14 : decode yB 14 = .ok (.iload 4, 2) := by decide +kernel
theorem d16 : decode yB 16 = .ok (.iload_n 2, 1) := by decide +kernel
theorem d17 : decode yB 17 = .ok (.if_icmp (.eq) 40, 3) := by decide +kernel
theorem d57 : decode yB 57 = .ok (.aload_n 3, 1) := by decide +kernel
theorem d58 : decode yB 58 = .ok (.areturn, 1) := by decide +kernel
def site : List Cond := [.arrayClass .byte, Cmp5.tab] ++ staticW U16 115 Cmp5.yN
def tab : Cond := tabOf yN yB 6 (some (.array .byte)) site
def P (b : Addr) (A : Cell) (o len : Nat) (args : Array Value) (s : State) : Prop := args = #[.ref b, .int (Int32.ofNat o), .int (Int32.ofNat len)] ∧ Ch b A s ∧ o + len ≤ A.slots.size ∧ len ≤ 536870912 ∧ ∀ i, i < len → ¬ 255 < cv A (o + i)
def E (b : Addr) (A : Cell) (o len : Nat) (r : Option Value) (s u : State) : Prop := NewArr .byte "[B" len (fun j => .int (lo8 (cv A (o + j)))) r s u ∧ u.heap.size = s.heap.size + 1
/-- no char of the range above 255: a new byte[] of their low bytes -/
theorem law (l : Launch) (b : Addr) (A : Cell) (o len : Nat) : Law l yN 3 3 1 18 yB 6 (some (.array .byte)) site (P b A o len) (E b A o len) [] 1 len := by
  refine Law.of_walk (plainFor_of_name (by decide +kernel)) (by decide +kernel) (by decide +kernel) (by decide) (fun _ _ h => by rw [h.1]; rfl) (fun _ U U' hal hh h => ⟨h.1, h.2.1.mv hal hh, h.2.2⟩) (fun r U U' V V' h1 hal h2 h => ⟨NewArr.mv r U U' V V' h1 hal h2 h.1, by rw [h1, h2]; exact h.2⟩) ?_
  intro p e s m args below meth c s₁ X0 hexec hbytes hml hret hlk hnm hown hh0 W hP
  obtain ⟨rfl, hA, l1, l2, hp⟩ := hP
  have a31 := hA.1.2.2.2
  have c1 : Steps p.tables e below (s₁.setTop (entryFrame m #[.ref b, .int (Int32.ofNat o), .int (Int32.ofNat len)] 6)) (s₁.setTop (mkF m 0 #[.val (.ref b), .val (.int (Int32.ofNat o)), .val (.int (Int32.ofNat len)), .unset, .unset, .unset] [])) := entry rfl
  have c2 : Steps p.tables e below (s₁.setTop (entryFrame m #[.ref b, .int (Int32.ofNat o), .int (Int32.ofNat len)] 6)) (s₁.setTop (mkF m 1 #[.val (.ref b), .val (.int (Int32.ofNat o)), .val (.int (Int32.ofNat len)), .unset, .unset, .unset] [.int (Int32.ofNat len)])) := c1.trans (by
    refine XS.iloadN X0.here hexec rfl (hb hbytes d0) rfl ?_
    exact Steps.refl _)
  obtain ⟨T3, B3, X3, ba3, bs3, bv3, bh3, bf3, st3⟩ := X0.anew hexec (atype := .byte) (wk W (.arrayClass .byte)) rfl (by show len * 1 ≤ _; omega) (by omega) (g := (mkF m 1 #[.val (.ref b), .val (.int (Int32.ofNat o)), .val (.int (Int32.ofNat len)), .unset, .unset, .unset] [.int (Int32.ofNat len)])) rfl (hb hbytes d1) (rest := []) rfl (Nat.le_refl _) (by show 0 + len ≤ len; omega)
  rw [hh0] at ba3 st3
  have kp3 : XT.Kept s T3 := (XT.Kept.of_eq hh0).push bh3
  have hA3 := hA.keep X3.warmed.alike (kp3 _ _ hA.1.1)
  have hne : b ≠ s.heap.size := hA.1.ne
  have c4 : Steps p.tables e below (s₁.setTop (entryFrame m #[.ref b, .int (Int32.ofNat o), .int (Int32.ofNat len)] 6)) (T3.setTop (mkF m 3 #[.val (.ref b), .val (.int (Int32.ofNat o)), .val (.int (Int32.ofNat len)), .unset, .unset, .unset] [.ref s.heap.size])) := c2.trans (st3 _ (Steps.refl _))
  have c5 : Steps p.tables e below (s₁.setTop (entryFrame m #[.ref b, .int (Int32.ofNat o), .int (Int32.ofNat len)] 6)) (T3.setTop (mkF m 9 #[.val (.ref b), .val (.int (Int32.ofNat o)), .val (.int (Int32.ofNat len)), .val (.ref s.heap.size), .unset, .unset] [.int (Int32.ofNat len), .int 0, .ref s.heap.size, .int (Int32.ofNat o), .ref b])) := c4.trans (by
    refine XS.astoreN X3.here hexec rfl (hb hbytes d3) rfl rfl rfl ?_
    refine XS.aloadN X3.here hexec rfl (hb hbytes d4) rfl rfl ?_
    refine XS.iloadN X3.here hexec rfl (hb hbytes d5) rfl ?_
    refine XS.aloadN X3.here hexec rfl (hb hbytes d6) rfl rfl ?_
    refine iconstV X3.here hexec rfl 0 (hb hbytes d7) (by decide) ?_
    refine XS.iloadN X3.here hexec rfl (hb hbytes d8) rfl ?_
    exact Steps.refl _)
  obtain ⟨v6, T6, X6, E6, g6⟩ := X3.callS hexec (Cmp5.law l b A s.heap.size B3 o 0 len) hown (wks W (staticW U16 115 Cmp5.yN)) (wk W Cmp5.tab) (W := 0) (Nat.le_of_ble_eq_true rfl) (Nat.le_of_ble_eq_true rfl) (Nat.le_refl _) (by show 0 + len + 0 ≤ len; omega) (g := (mkF m 9 #[.val (.ref b), .val (.int (Int32.ofNat o)), .val (.int (Int32.ofNat len)), .val (.ref s.heap.size), .unset, .unset] [.int (Int32.ofNat len), .int (Int32.ofNat 0), .ref s.heap.size, .int (Int32.ofNat o), .ref b])) rfl (by rw [hml]; rfl) c5 (argsL := [.ref b, .int (Int32.ofNat o), .ref s.heap.size, .int (Int32.ofNat 0), .int (Int32.ofNat len)]) (rest := []) rfl rfl (by show 2 * 0 + 0 ≤ _; decide) (hb hbytes d9) (⟨rfl, hA3, ba3, hne, l1, by rw [bs3]; simp, hp⟩)
  obtain ⟨rfl, B6, p6, f6⟩ := E6
  have c7 : Steps p.tables e below (s₁.setTop (entryFrame m #[.ref b, .int (Int32.ofNat o), .int (Int32.ofNat len)] 6)) (T6.setTop (mkF m 12 #[.val (.ref b), .val (.int (Int32.ofNat o)), .val (.int (Int32.ofNat len)), .val (.ref s.heap.size), .unset, .unset] [.int (Int32.ofNat len)])) := g6
  have c8 : Steps p.tables e below (s₁.setTop (entryFrame m #[.ref b, .int (Int32.ofNat o), .int (Int32.ofNat len)] 6)) (T6.setTop (mkF m 58 #[.val (.ref b), .val (.int (Int32.ofNat o)), .val (.int (Int32.ofNat len)), .val (.ref s.heap.size), .val (.int (Int32.ofNat len)), .unset] [.ref s.heap.size])) := c7.trans (by
    refine XS.istore X6.here hexec rfl (hb hbytes d12) rfl rfl ?_
    refine XS.iload X6.here hexec rfl (hb hbytes d14) rfl ?_
    refine XS.iloadN X6.here hexec rfl (hb hbytes d16) rfl ?_
    refine XS.icmpYes X6.here hexec rfl (pc0 := 17) rfl (hb hbytes d17) rfl (ii_eq_t rfl) (by decide) rfl ?_
    refine XS.aloadN X6.here hexec rfl (hb hbytes d57) rfl rfl ?_
    exact Steps.refl _)
  have X8 := X6.wide (L' := []) (cells' := 1) (slots' := len) (fun x hx hlt => by
    simp only [List.nil_append, copyLocs, List.mem_map, List.mem_range] at hx
    obtain ⟨i, -, rfl⟩ := hx
    exact absurd hlt (Nat.lt_irrefl _)) (Nat.le_refl _) (by omega)
  exact ⟨T6, some (.ref s.heap.size), _, _, _, X8, rfl, rfl, rfl, (fun h => by cases h), ⟨⟨rfl, B6, ba3.like (X3.warmed.alike.symm.trans X6.warmed.alike) p6.1 f6.1 f6.2.1 f6.2.2.1, f6.2.1.trans bv3, by rw [X6.warmed.alike.findClass, f6.1]; exact bf3, by rw [f6.2.2.1, bs3]; simp, fun j hj => by rw [f6.2.2.2 j, if_pos (by omega)]; rfl, kp3.put p6 (Nat.le_refl _)⟩, by rw [p6.2.2, bh3, hh0]; simp⟩, fun fs hl => c8.trans (X8.areturnOut hexec rfl hret rfl (hb hbytes d58) hl)⟩
end Cmp3
namespace CodL
def yN : MethodName := ⟨"java/lang/StringUTF16", "coderFromArrayLen", "([BI)B"⟩
abbrev yB : ByteArray := jdk_52_method_15_code
theorem d0 : decode yB 0 = .ok (.iload_n 1, 1) := by decide +kernel
theorem d1 : decode yB 1 = .ok (.aload_n 0, 1) := by decide +kernel
theorem d2 : decode yB 2 = .ok (.arraylength, 1) := by decide +kernel
theorem d3 : decode yB 3 = .ok (.isub, 1) := by decide +kernel
theorem d4 : decode yB 4 = .ok (.bipush 31, 2) := by decide +kernel
theorem d6 : decode yB 6 = .ok (.iushr, 1) := by decide +kernel
theorem d7 : decode yB 7 = .ok (.i2b, 1) := by decide +kernel
theorem d8 : decode yB 8 = .ok (.ireturn, 1) := by decide +kernel
def site : List Cond := []
def tab : Cond := tabOf yN yB 2 (some .byte) site
def P (d : Addr) (B : Cell) (args : Array Value) (s : State) : Prop := args = #[.ref d, .int (Int32.ofNat B.slots.size)] ∧ Arr .byte d B s
def E (r : Option Value) (s u : State) : Prop := XT.PureE (some (.int 0)) r s u
/-- an array as long as the number of chars: LATIN1 -/
theorem law (l : Launch) (d : Addr) (B : Cell) : Law l yN 2 2 0 0 yB 2 (some .byte) site (P d B) E [] 0 0 := by
  refine Law.of_walk (plainFor_of_name (by decide +kernel)) (by decide +kernel) (by decide +kernel) (by decide) (fun _ _ h => by rw [h.1]; rfl) (fun _ U U' hal hh h => ⟨h.1, h.2.mv hal hh⟩) (fun r U U' V V' h1 hal h2 h => XT.PureE.mv r U U' V V' h1 hal h2 h) ?_
  intro p e s m args below meth c s₁ X0 hexec hbytes hml hret hlk hnm hown hh0 W hP
  obtain ⟨rfl, hB⟩ := hP
  have hB0 := hB.mv X0.warmed.alike hh0
  have c1 : Steps p.tables e below (s₁.setTop (entryFrame m #[.ref d, .int (Int32.ofNat B.slots.size)] 2)) (s₁.setTop (mkF m 0 #[.val (.ref d), .val (.int (Int32.ofNat B.slots.size))] [])) := entry rfl
  have c2 : Steps p.tables e below (s₁.setTop (entryFrame m #[.ref d, .int (Int32.ofNat B.slots.size)] 2)) (s₁.setTop (mkF m 2 #[.val (.ref d), .val (.int (Int32.ofNat B.slots.size))] [.ref d, .int (Int32.ofNat B.slots.size)])) := c1.trans (by
    refine XS.iloadN X0.here hexec rfl (hb hbytes d0) rfl ?_
    refine XS.aloadN X0.here hexec rfl (hb hbytes d1) rfl rfl ?_
    exact Steps.refl _)
  have c3 : Steps p.tables e below (s₁.setTop (entryFrame m #[.ref d, .int (Int32.ofNat B.slots.size)] 2)) (s₁.setTop (mkF m 8 #[.val (.ref d), .val (.int (Int32.ofNat B.slots.size))] [.int (lo8 (ushr (Int32.ofNat B.slots.size - Int32.ofNat B.slots.size) 31))])) := c2.trans (by
    refine X0.alen hexec hB0 rfl rfl (hb hbytes d2) ?_
    refine XS.isub X0.here hexec rfl (hb hbytes d3) rfl ?_
    refine bipushV X0.here hexec rfl 31 (hb hbytes d4) (by decide) ?_
    refine iushr X0.here hexec rfl (hb hbytes d6) rfl ?_
    refine i2b X0.here hexec rfl (hb hbytes d7) rfl ?_
    exact Steps.refl _)
  have e0 : lo8 (ushr (Int32.ofNat B.slots.size - Int32.ofNat B.slots.size) 31) = 0 := by rw [Int32.sub_self]; decide
  rw [e0] at c3
  exact ⟨s₁, some (.int 0), _, _, _, X0, rfl, rfl, rfl, (fun h => by cases h), ⟨rfl, hh0⟩, fun fs hl => c3.trans (X0.ireturnOut hexec hret rfl (Or.inr (Or.inr (Or.inl rfl))) (hb hbytes d8) hl)⟩
end CodL
/-- the String at a is Latin-1 over a new byte[] (the heap's one new cell): the low bytes of the len chars of A from o on; every cell but a is kept -/
def Got (a : Addr) (D : Cell) (fV fC : Field) (A : Cell) (o len : Nat) (r : Option Value) (s u : State) : Prop := r = none ∧ ∃ D' V : Cell, Blank "java/lang/String" a D' u ∧ Same D D' [fV.slot, fC.slot] ∧ D'.slots[fV.slot]? = some (.ref s.heap.size) ∧ D'.slots[fC.slot]? = some (.int 0) ∧ Arr .byte s.heap.size V u ∧ V.vm = .none ∧ u.vm.findClass "[B" = some V.cls ∧ V.slots.size = len ∧ (∀ j, j < len → V.slots[j]? = some (.int (lo8 (cv A (o + j))))) ∧ (∀ (y : Addr) (c : Cell), y ≠ a → s.heap[y]? = some c → u.heap[y]? = some c) ∧ u.heap.size = s.heap.size + 1
theorem Got.mv {a : Addr} {D A : Cell} {fV fC : Field} {o len : Nat} : ∀ r (U U' V V' : State), U'.heap = U.heap → V.vm.Alike V'.vm → V'.heap = V.heap → Got a D fV fC A o len r U V → Got a D fV fC A o len r U' V' :=
  fun r U U' V V' h1 hal h2 ⟨e0, D', X, a1, a2, a3, a4, a5, a6, a7, a8, a9, a10, a11⟩ => ⟨e0, D', X, a1.mv hal h2, a2, by rw [h1]; exact a3, a4, by rw [h1]; exact a5.mv hal h2, a6, by rw [hal.findClass]; exact a7, a8, a9, by rw [h1, h2]; exact a10, by rw [h1, h2]; exact a11⟩
namespace New4
def yN : MethodName := ⟨"java/lang/String", "<init>", "([CIILjava/lang/Void;)V"⟩
abbrev yB : ByteArray := jdk_42_method_149_code
theorem d0 : decode yB 0 = .ok (.aload_n 0, 1) := by decide +kernel
theorem d1 : decode yB 1 = .ok (.invokespecial 1, 3) := by decide +kernel
theorem d4 : decode yB 4 = .ok (.iload_n 3, 1) := by decide +kernel
theorem d5 : decode yB 5 = .ok (.ifCond (.ne) 22, 3) := by decide +kernel
theorem d27 : decode yB 27 = .ok (.getstatic 38, 3) := by decide +kernel
theorem d30 : decode yB 30 = .ok (.ifCond (.eq) 28, 3) := by decide +kernel
theorem d33 : decode yB 33 = .ok (.aload_n 1, 1) := by decide +kernel
theorem d34 : decode yB 34 = .ok (.iload_n 2, 1) := by decide +kernel
theorem d35 : decode yB 35 = .ok (.iload_n 3, 1) := by decide +kernel
theorem d36 : decode yB 36 = .ok (.invokestatic 177, 3) := by decide +kernel
theorem d39 : decode yB 39 = .ok (.astore 5, 2) := by decide +kernel
theorem d41 : decode yB 41 = .ok (.aload_n 0, 1) := by decide +kernel
theorem d42 : decode yB 42 = .ok (.aload 5, 2) := by decide +kernel
theorem d44 : decode yB 44 = .ok (.iload_n 3, 1) := by decide +kernel
theorem d45 : decode yB 45 = .ok (.invokestatic 47, 3) := by decide +kernel
theorem d48 : decode yB 48 = .ok (.putfield 15, 3) := by decide +kernel
theorem d51 : decode yB 51 = .ok (.aload_n 0, 1) := by decide +kernel
theorem d52 : decode yB 52 = .ok (.aload 5, 2) := by decide +kernel
theorem d54 : decode yB 54 = .ok (.putfield 9, 3) := by decide +kernel
theorem d57 : decode yB 57 = .ok (.return_, 1) := by decide +kernel
def site : List Cond := [.fieldLink "java/lang/String" 38 "java/lang/String" "COMPACT_STRINGS" "Z", Cmp3.tab, CodL.tab, .laysFinal "java/lang/String" "java/lang/String" "value" "[B", .fieldLink "java/lang/String" 9 "java/lang/String" "value" "[B", .laysFinal "java/lang/String" "java/lang/String" "coder" "B", .fieldLink "java/lang/String" 15 "java/lang/String" "coder" "B"] ++ objW "java/lang/String" 1 ++ staticW "java/lang/String" 177 Cmp3.yN ++ staticW "java/lang/String" 47 CodL.yN
def tab : Cond := tabOf yN yB 6 none site
def P (a : Addr) (D : Cell) (fV fC : Field) (b : Addr) (A : Cell) (z : Int32) (o len : Nat) (args : Array Value) (s : State) : Prop := args = #[.ref a, .ref b, .int (Int32.ofNat o), .int (Int32.ofNat len), .null] ∧ Blank "java/lang/String" a D s ∧ Found "java/lang/String" "value" "[B" fV s ∧ Found "java/lang/String" "coder" "B" fC s ∧ Ch b A s ∧ StaticIs s "java/lang/String" "COMPACT_STRINGS" "Z" (.int z) ∧ ¬ z = 0 ∧ 0 < len ∧ o + len ≤ A.slots.size ∧ len ≤ 536870912 ∧ ∀ i, i < len → ¬ 255 < cv A (o + i)
def E (a : Addr) (D : Cell) (fV fC : Field) (A : Cell) (o len : Nat) (r : Option Value) (s u : State) : Prop := Got a D fV fC A o len r s u
/-- len > 0, no char of the range above 255: a Latin-1 String of their low bytes -/
theorem law (l : Launch) (a : Addr) (D : Cell) (fV fC : Field) (b : Addr) (A : Cell) (z : Int32) (o len : Nat) : Law l yN 5 4 2 35 yB 6 none site (P a D fV fC b A z o len) (E a D fV fC A o len) [⟨a, fC.slot⟩, ⟨a, fV.slot⟩] 1 len := by
  refine Law.of_walk (plainFor_of_name (by decide +kernel)) (by decide +kernel) (by decide +kernel) (by decide) (fun _ _ h => by rw [h.1]; rfl) (fun _ U U' hal hh h => ⟨h.1, h.2.1.mv hal hh, h.2.2.1.al hal, h.2.2.2.1.al hal, h.2.2.2.2.1.mv hal hh, h.2.2.2.2.2.1.there hal hh, h.2.2.2.2.2.2⟩) (fun r U U' V V' h1 hal h2 h => Got.mv r U U' V V' h1 hal h2 h) ?_
  intro p e s m args below meth c s₁ X0 hexec hbytes hml hret hlk hnm hown hh0 W hP
  obtain ⟨rfl, hB, f1, f2, hA, s1, hz, l0, l1, l2, hp⟩ := hP
  have a31 := hA.1.2.2.2
  have c1 : Steps p.tables e below (s₁.setTop (entryFrame m #[.ref a, .ref b, .int (Int32.ofNat o), .int (Int32.ofNat len), .null] 6)) (s₁.setTop (mkF m 0 #[.val (.ref a), .val (.ref b), .val (.int (Int32.ofNat o)), .val (.int (Int32.ofNat len)), .val .null, .unset] [])) := entry rfl
  have c2 : Steps p.tables e below (s₁.setTop (entryFrame m #[.ref a, .ref b, .int (Int32.ofNat o), .int (Int32.ofNat len), .null] 6)) (s₁.setTop (mkF m 1 #[.val (.ref a), .val (.ref b), .val (.int (Int32.ofNat o)), .val (.int (Int32.ofNat len)), .val .null, .unset] [.ref a])) := c1.trans (by
    refine XS.aloadN X0.here hexec rfl (hb hbytes d0) rfl rfl ?_
    exact Steps.refl _)
  obtain ⟨T3, X3, q3, st3⟩ := X0.oinit hexec hown (wks W (objW "java/lang/String" 1)) (g := (mkF m 1 #[.val (.ref a), .val (.ref b), .val (.int (Int32.ofNat o)), .val (.int (Int32.ofNat len)), .val .null, .unset] [.ref a])) rfl (by rw [hml]; rfl) (rest := []) rfl (hb hbytes d1) (W := 0) (by show 2 * 0 + 0 ≤ _; decide) (Nat.le_of_ble_eq_true rfl) (Nat.le_of_ble_eq_true rfl)
  have hh3 := q3.trans hh0
  have c4 : Steps p.tables e below (s₁.setTop (entryFrame m #[.ref a, .ref b, .int (Int32.ofNat o), .int (Int32.ofNat len), .null] 6)) (T3.setTop (mkF m 27 #[.val (.ref a), .val (.ref b), .val (.int (Int32.ofNat o)), .val (.int (Int32.ofNat len)), .val .null, .unset] [])) := (c2.trans (st3 _ (Steps.refl _))).trans (by
    refine XS.iloadN X3.here hexec rfl (hb hbytes d4) rfl ?_
    refine XS.ifYes X3.here hexec rfl (pc0 := 5) rfl (hb hbytes d5) rfl (i0_ne_t (nz32 (by omega) l0)) (by decide) rfl ?_
    exact Steps.refl _)
  obtain ⟨T5, X5, q5, st5⟩ := X3.sget hexec hown (wk W (.fieldLink "java/lang/String" 38 "java/lang/String" "COMPACT_STRINGS" "Z")) s1 (fun _ _ h => by rw [hh3]; exact h) (g := (mkF m 27 #[.val (.ref a), .val (.ref b), .val (.int (Int32.ofNat o)), .val (.int (Int32.ofNat len)), .val .null, .unset] [])) rfl (hb hbytes d27)
  have hh5 := q5.trans hh3
  have c6 : Steps p.tables e below (s₁.setTop (entryFrame m #[.ref a, .ref b, .int (Int32.ofNat o), .int (Int32.ofNat len), .null] 6)) (T5.setTop (mkF m 30 #[.val (.ref a), .val (.ref b), .val (.int (Int32.ofNat o)), .val (.int (Int32.ofNat len)), .val .null, .unset] [.int z])) := c4.trans (st5 _ (Steps.refl _))
  have c7 : Steps p.tables e below (s₁.setTop (entryFrame m #[.ref a, .ref b, .int (Int32.ofNat o), .int (Int32.ofNat len), .null] 6)) (T5.setTop (mkF m 36 #[.val (.ref a), .val (.ref b), .val (.int (Int32.ofNat o)), .val (.int (Int32.ofNat len)), .val .null, .unset] [.int (Int32.ofNat len), .int (Int32.ofNat o), .ref b])) := c6.trans (by
    refine XS.ifNo X5.here hexec rfl (hb hbytes d30) rfl (i0_eq_f hz) ?_
    refine XS.aloadN X5.here hexec rfl (hb hbytes d33) rfl rfl ?_
    refine XS.iloadN X5.here hexec rfl (hb hbytes d34) rfl ?_
    refine XS.iloadN X5.here hexec rfl (hb hbytes d35) rfl ?_
    exact Steps.refl _)
  obtain ⟨v8, T8, X8, E8, g8⟩ := X5.callS hexec (Cmp3.law l b A o len) hown (wks W (staticW "java/lang/String" 177 Cmp3.yN)) (wk W Cmp3.tab) (W := 0) (Nat.le_of_ble_eq_true rfl) (Nat.le_of_ble_eq_true rfl) (Nat.le_refl _) (by show 0 + len ≤ len; omega) (g := (mkF m 36 #[.val (.ref a), .val (.ref b), .val (.int (Int32.ofNat o)), .val (.int (Int32.ofNat len)), .val .null, .unset] [.int (Int32.ofNat len), .int (Int32.ofNat o), .ref b])) rfl (by rw [hml]; rfl) c7 (argsL := [.ref b, .int (Int32.ofNat o), .int (Int32.ofNat len)]) (rest := []) rfl rfl (by show 2 * 0 + 0 ≤ _; decide) (hb hbytes d36) (⟨rfl, hA.mv X5.warmed.alike hh5, l1, l2, hp⟩)
  obtain ⟨e8, z8⟩ := E8
  obtain ⟨rfl, N, n1, n2, n3, n4, n5, n6⟩ := NewArr.mv _ T5 s _ _ hh5.symm (Vm.Alike.refl _) rfl e8
  rw [hh5] at z8
  have hB1 := hB.keep X8.warmed.alike (n6 _ _ hB.1)
  have hne : s.heap.size ≠ a := (Nat.ne_of_lt (Array.getElem?_eq_some_iff.mp hB.1).1).symm
  have c9 : Steps p.tables e below (s₁.setTop (entryFrame m #[.ref a, .ref b, .int (Int32.ofNat o), .int (Int32.ofNat len), .null] 6)) (T8.setTop (mkF m 39 #[.val (.ref a), .val (.ref b), .val (.int (Int32.ofNat o)), .val (.int (Int32.ofNat len)), .val .null, .unset] [.ref s.heap.size])) := g8
  have c10 : Steps p.tables e below (s₁.setTop (entryFrame m #[.ref a, .ref b, .int (Int32.ofNat o), .int (Int32.ofNat len), .null] 6)) (T8.setTop (mkF m 45 #[.val (.ref a), .val (.ref b), .val (.int (Int32.ofNat o)), .val (.int (Int32.ofNat len)), .val .null, .val (.ref s.heap.size)] [.int (Int32.ofNat N.slots.size), .ref s.heap.size, .ref a])) := by
    have hc : Steps p.tables e below (s₁.setTop (entryFrame m #[.ref a, .ref b, .int (Int32.ofNat o), .int (Int32.ofNat len), .null] 6)) (T8.setTop (mkF m 45 #[.val (.ref a), .val (.ref b), .val (.int (Int32.ofNat o)), .val (.int (Int32.ofNat len)), .val .null, .val (.ref s.heap.size)] [.int (Int32.ofNat len), .ref s.heap.size, .ref a])) := c9.trans (by
      refine XS.astore X8.here hexec rfl (hb hbytes d39) rfl rfl rfl ?_
      refine XS.aloadN X8.here hexec rfl (hb hbytes d41) rfl rfl ?_
      refine XS.aload X8.here hexec rfl (hb hbytes d42) rfl rfl ?_
      refine XS.iloadN X8.here hexec rfl (hb hbytes d44) rfl ?_
      exact Steps.refl _)
    rw [n4]; exact hc
  obtain ⟨v11, T11, X11, E11, g11⟩ := X8.callS hexec (CodL.law l s.heap.size N) hown (wks W (staticW "java/lang/String" 47 CodL.yN)) (wk W CodL.tab) (W := 1) (Nat.le_of_ble_eq_true rfl) (Nat.le_of_ble_eq_true rfl) (Nat.le_refl _) (by show 0 + len + 0 ≤ len; omega) (g := (mkF m 45 #[.val (.ref a), .val (.ref b), .val (.int (Int32.ofNat o)), .val (.int (Int32.ofNat len)), .val .null, .val (.ref s.heap.size)] [.int (Int32.ofNat N.slots.size), .ref s.heap.size, .ref a])) rfl (by rw [hml]; rfl) c10 (argsL := [.ref s.heap.size, .int (Int32.ofNat N.slots.size)]) (rest := [.ref a]) rfl rfl (by show 2 * 0 + (1 + 0) ≤ _; decide) (hb hbytes d45) (⟨rfl, n1⟩)
  obtain ⟨rfl, q11⟩ := E11
  have hB11 := hB1.mv (X8.warmed.alike.symm.trans X11.warmed.alike) q11
  have c12 : Steps p.tables e below (s₁.setTop (entryFrame m #[.ref a, .ref b, .int (Int32.ofNat o), .int (Int32.ofNat len), .null] 6)) (T11.setTop (mkF m 48 #[.val (.ref a), .val (.ref b), .val (.int (Int32.ofNat o)), .val (.int (Int32.ofNat len)), .val .null, .val (.ref s.heap.size)] [.int 0, .ref a])) := g11
  obtain ⟨T13, X13, p13, bl13, sl13, st13⟩ := X11.finit hexec hown (wk W (.fieldLink "java/lang/String" 15 "java/lang/String" "coder" "B")) (Or.inr ⟨_, (wk W (.laysFinal "java/lang/String" "java/lang/String" "coder" "B"))⟩) (Or.inl ⟨rfl, hnm⟩) f2 (Or.inl rfl) hB11 (t := .byte) (by decide +kernel) rfl (g := (mkF m 48 #[.val (.ref a), .val (.ref b), .val (.int (Int32.ofNat o)), .val (.int (Int32.ofNat len)), .val .null, .val (.ref s.heap.size)] [.int 0, .ref a])) rfl (rest := []) rfl (hb hbytes d48)
  have c14 : Steps p.tables e below (s₁.setTop (entryFrame m #[.ref a, .ref b, .int (Int32.ofNat o), .int (Int32.ofNat len), .null] 6)) (T13.setTop (mkF m 54 #[.val (.ref a), .val (.ref b), .val (.int (Int32.ofNat o)), .val (.int (Int32.ofNat len)), .val .null, .val (.ref s.heap.size)] [.ref s.heap.size, .ref a])) := (c12.trans (st13 _ (Steps.refl _))).trans (by
    refine XS.aloadN X13.here hexec rfl (hb hbytes d51) rfl rfl ?_
    refine XS.aload X13.here hexec rfl (hb hbytes d52) rfl rfl ?_
    exact Steps.refl _)
  obtain ⟨T15, X15, p15, bl15, sl15, st15⟩ := X13.finit hexec hown (wk W (.fieldLink "java/lang/String" 9 "java/lang/String" "value" "[B")) (Or.inr ⟨_, (wk W (.laysFinal "java/lang/String" "java/lang/String" "value" "[B"))⟩) (Or.inl ⟨rfl, hnm⟩) f1 (Or.inl rfl) bl13 (t := (.array .byte)) (by decide +kernel) rfl (g := (mkF m 54 #[.val (.ref a), .val (.ref b), .val (.int (Int32.ofNat o)), .val (.int (Int32.ofNat len)), .val .null, .val (.ref s.heap.size)] [.ref s.heap.size, .ref a])) rfl (rest := []) rfl (hb hbytes d54)
  have c16 : Steps p.tables e below (s₁.setTop (entryFrame m #[.ref a, .ref b, .int (Int32.ofNat o), .int (Int32.ofNat len), .null] 6)) (T15.setTop (mkF m 57 #[.val (.ref a), .val (.ref b), .val (.int (Int32.ofNat o)), .val (.int (Int32.ofNat len)), .val .null, .val (.ref s.heap.size)] [])) := c14.trans (st15 _ (Steps.refl _))
  have ap := apart (Or.inr ⟨_, (wk W (.laysFinal "java/lang/String" "java/lang/String" "value" "[B"))⟩) (Or.inr ⟨_, (wk W (.laysFinal "java/lang/String" "java/lang/String" "coder" "B"))⟩) f1 f2 (t₁ := .array .byte) (t₂ := .byte) (by decide +kernel) (by decide +kernel) (by decide)
  have al := X8.warmed.alike.symm.trans X15.warmed.alike
  have n7 : T11.heap[s.heap.size]? = some N := by rw [q11]; exact n1.1
  exact ⟨T15, none, _, _, _, X15, by simp, rfl, by omega, (fun _ => rfl), ⟨rfl, _, N, bl15, ((Same.refl D _).set _ (by simp)).set _ (by simp), sl15, (Cell.slots_setSlot_ne _ ap).trans sl13, n1.keep al (p15.other hne (p13.other hne n7)), n2, by rw [al.findClass]; exact n3, n4, n5, fun y c h1 h2 => p15.other h1 (p13.other h1 (by rw [q11]; exact n6 y c h2)), by rw [p15.2.2, p13.2.2, q11]; exact z8⟩, fun fs hl => c16.trans (X15.returnOut hexec hret (hb hbytes d57) hl)⟩
end New4
namespace New1
def yN : MethodName := ⟨"java/lang/String", "<init>", "([C)V"⟩
abbrev yB : ByteArray := jdk_42_method_3_code
theorem d0 : decode yB 0 = .ok (.aload_n 0, 1) := by decide +kernel
theorem d1 : decode yB 1 = .ok (.aload_n 1, 1) := by decide +kernel
theorem d2 : decode yB 2 = .ok (.iconst 0, 1) := by decide +kernel
theorem d3 : decode yB 3 = .ok (.aload_n 1, 1) := by decide +kernel
theorem d4 : decode yB 4 = .ok (.arraylength, 1) := by decide +kernel
theorem d5 : decode yB 5 = .ok (.aconst_null, 1) := by decide +kernel
theorem d6 : decode yB 6 = .ok (.invokespecial 27, 3) := by decide +kernel
theorem d9 : decode yB 9 = .ok (.return_, 1) := by decide +kernel
def site : List Cond := [New4.tab] ++ initW "java/lang/String" 27 New4.yN
def tab : Cond := tabOf yN yB 2 none site
def P (a : Addr) (D : Cell) (fV fC : Field) (b : Addr) (A : Cell) (z : Int32) (args : Array Value) (s : State) : Prop := args = #[.ref a, .ref b] ∧ Blank "java/lang/String" a D s ∧ Found "java/lang/String" "value" "[B" fV s ∧ Found "java/lang/String" "coder" "B" fC s ∧ Ch b A s ∧ StaticIs s "java/lang/String" "COMPACT_STRINGS" "Z" (.int z) ∧ ¬ z = 0 ∧ 0 < A.slots.size ∧ A.slots.size ≤ 536870912 ∧ ∀ i, i < A.slots.size → ¬ 255 < cv A i
def E (a : Addr) (D : Cell) (fV fC : Field) (A : Cell) (r : Option Value) (s u : State) : Prop := Got a D fV fC A 0 A.slots.size r s u
/-- new String(chars), not empty, no char above 255: a Latin-1 String of their low bytes -/
theorem law (l : Launch) (a : Addr) (D : Cell) (fV fC : Field) (b : Addr) (A : Cell) (z : Int32) : Law l yN 2 1 3 52 yB 2 none site (P a D fV fC b A z) (E a D fV fC A) [⟨a, fC.slot⟩, ⟨a, fV.slot⟩] 1 A.slots.size := by
  refine Law.of_walk (plainFor_of_name (by decide +kernel)) (by decide +kernel) (by decide +kernel) (by decide) (fun _ _ h => by rw [h.1]; rfl) (fun _ U U' hal hh h => ⟨h.1, h.2.1.mv hal hh, h.2.2.1.al hal, h.2.2.2.1.al hal, h.2.2.2.2.1.mv hal hh, h.2.2.2.2.2.1.there hal hh, h.2.2.2.2.2.2⟩) (fun r U U' V V' h1 hal h2 h => Got.mv r U U' V V' h1 hal h2 h) ?_
  intro p e s m args below meth c s₁ X0 hexec hbytes hml hret hlk hnm hown hh0 W hP
  obtain ⟨rfl, hB, f1, f2, hA, s1, hz, l0, l2, hp⟩ := hP
  have c1 : Steps p.tables e below (s₁.setTop (entryFrame m #[.ref a, .ref b] 2)) (s₁.setTop (mkF m 0 #[.val (.ref a), .val (.ref b)] [])) := entry rfl
  have c2 : Steps p.tables e below (s₁.setTop (entryFrame m #[.ref a, .ref b] 2)) (s₁.setTop (mkF m 6 #[.val (.ref a), .val (.ref b)] [.null, .int (Int32.ofNat A.slots.size), .int 0, .ref b, .ref a])) := c1.trans (by
    refine XS.aloadN X0.here hexec rfl (hb hbytes d0) rfl rfl ?_
    refine XS.aloadN X0.here hexec rfl (hb hbytes d1) rfl rfl ?_
    refine iconstV X0.here hexec rfl 0 (hb hbytes d2) (by decide) ?_
    refine XS.aloadN X0.here hexec rfl (hb hbytes d3) rfl rfl ?_
    refine X0.alen hexec (hA.1.mv X0.warmed.alike hh0) rfl rfl (hb hbytes d4) ?_
    refine XS.aconstNull X0.here hexec rfl (hb hbytes d5) ?_
    exact Steps.refl _)
  obtain ⟨v3, T3, X3, E3, g3⟩ := X0.callN hexec (New4.law l a D fV fC b A z 0 A.slots.size) rfl hown (wks W (initW "java/lang/String" 27 New4.yN)) (W New4.tab (by simp only [site, List.mem_cons, List.mem_append, true_or, or_true])) (W := 0) (Nat.le_of_ble_eq_true rfl) (Nat.le_of_ble_eq_true rfl) (Nat.le_refl _) (by show 0 + A.slots.size ≤ A.slots.size; omega) (g := (mkF m 6 #[.val (.ref a), .val (.ref b)] [.null, .int (Int32.ofNat A.slots.size), .int (Int32.ofNat 0), .ref b, .ref a])) rfl (by rw [hml]; rfl) c2 (argsL := [.ref b, .int (Int32.ofNat 0), .int (Int32.ofNat A.slots.size), .null]) (rest := []) rfl rfl (by show 2 * 0 + 0 ≤ _; decide) (hb hbytes d6) (⟨rfl, hB.mv X0.warmed.alike hh0, f1.al X0.warmed.alike, f2.al X0.warmed.alike, hA.mv X0.warmed.alike hh0, s1.there X0.warmed.alike hh0, hz, l0, by omega, l2, fun i hi => by rw [Nat.zero_add]; exact hp i hi⟩)
  have e0 := Got.mv _ s₁ s _ _ hh0.symm (Vm.Alike.refl _) rfl E3
  obtain rfl := e0.1
  have c4 : Steps p.tables e below (s₁.setTop (entryFrame m #[.ref a, .ref b] 2)) (T3.setTop (mkF m 9 #[.val (.ref a), .val (.ref b)] [])) := g3
  exact ⟨T3, none, _, _, _, X3, by simp, rfl, by omega, (fun _ => rfl), e0, fun fs hl => c4.trans (X3.returnOut hexec hret (hb hbytes d9) hl)⟩
theorem pays {l : Launch} {R : Room} {p : Program} {e : Env} {below : List Frame} {s : State} {sargs : Array Value} {len W : Nat} (a : Addr) (D : Cell) (fV fC : Field) (b : Addr) (A : Cell) (z : Int32) (htab : tab.before sargs s = true) (hfr : 4 ≤ R.frames) (hlo : W + 65 ≤ R.locals) :
    Back l R p e below s sargs yN len W (fun A₁ a₁ => A₁.cells + 1 ≤ R.cells ∧ A₁.slots + A.slots.size ≤ R.slots ∧ P a D fV fC b A z a₁ A₁.U) (fun A₁ _ v₁ B₁ => E a D fV fC A v₁ A₁.U B₁.U ∧ B₁.locs = A₁.locs ++ [⟨a, fC.slot⟩, ⟨a, fV.slot⟩] ∧ B₁.cells = A₁.cells + 1 ∧ B₁.slots = A₁.slots + A.slots.size) :=
  (law l a D fV fC b A z).pays htab hfr (by omega)
end New1
end StrChars
namespace StrChars.Road
open Jvm Sem ClassFile Op Lib Jvm.Stand Jvm.Free Jvm.Free.XT
open Jvm.Lib.Cold (StaticIs)
abbrev ST : String := "java/lang/String"
/-- every table word that New1's law asks, flat -/
abbrev words : List Jvm.Cond := [.code New1.yN New1.yB 2 none, .initialized ST, .methodLink ST 27 New4.yN, .instanceMethod New4.yN,
  .code New4.yN New4.yB 6 none, .fieldLink ST 38 ST "COMPACT_STRINGS" "Z", .laysFinal ST ST "value" "[B", .fieldLink ST 9 ST "value" "[B", .laysFinal ST ST "coder" "B", .fieldLink ST 15 ST "coder" "B",
  .methodLink ST 1 Lib.objectInit, .instanceMethod Lib.objectInit, .code Lib.objectInit ⟨#[0xb1]⟩ 1 none, .methodLink ST 177 Cmp3.yN, .static Cmp3.yN, .methodLink ST 47 CodL.yN, .static CodL.yN,
  .code Cmp3.yN Cmp3.yB 6 (some (.array .byte)), .initialized U16, .arrayClass .byte, .methodLink U16 115 Cmp5.yN, .static Cmp5.yN, .code Cmp5.yN Cmp5.yB 7 (some .int), .code CodL.yN CodL.yB 2 (some .byte)]
theorem tab_of {a : Array Value} {s : State} (h : ∀ w ∈ words, w.before a s = true) : New1.tab.before a s = true := by
  have h5 : Cmp5.tab.before a s = true := unparts (wk h (.code Cmp5.yN Cmp5.yB 7 (some .int))) (wks h (.initialized Cmp5.yN.cls :: Cmp5.site))
  have hc : CodL.tab.before a s = true := unparts (wk h (.code CodL.yN CodL.yB 2 (some .byte))) (wks h (.initialized CodL.yN.cls :: CodL.site))
  have q5 : ∀ w ∈ Cmp5.tab :: words, w.before a s = true := fun w hw => (List.mem_cons.mp hw).elim (fun e => e ▸ h5) (h w)
  have h3 : Cmp3.tab.before a s = true := unparts (wk q5 (.code Cmp3.yN Cmp3.yB 6 (some (.array .byte)))) (wks q5 (.initialized Cmp3.yN.cls :: Cmp3.site))
  have q3 : ∀ w ∈ Cmp3.tab :: CodL.tab :: words, w.before a s = true := fun w hw => (List.mem_cons.mp hw).elim (fun e => e ▸ h3) fun hw => (List.mem_cons.mp hw).elim (fun e => e ▸ hc) (h w)
  have h4 : New4.tab.before a s = true := unparts (wk q3 (.code New4.yN New4.yB 6 none)) (wks q3 (.initialized New4.yN.cls :: New4.site))
  have q4 : ∀ w ∈ New4.tab :: words, w.before a s = true := fun w hw => (List.mem_cons.mp hw).elim (fun e => e ▸ h4) (h w)
  exact unparts (wk q4 (.code New1.yN New1.yB 2 none)) (wks q4 (.initialized New1.yN.cls :: New1.site))
/-- the words ride from the start Z to the walk's own state -/
theorem moved {Z s : State} {a0 args : Array Value} (hZ : Z.Warmed39 s.vm) (hw : ∀ d ∈ words, d.before a0 Z = true) : ∀ d ∈ words, d.before args s = true := fun d hd => by
  have q := hw d hd
  have t : ∀ d ∈ words, d = .arrayClass .byte ∨ (d.onTables && d.keepsFace) = true := by decide +kernel
  rcases t d hd with rfl | t
  · exact RoadKit.mvA hZ q
  · exact RoadKit.mv hZ q t
/-- WHAT COMES BACK, over the tables of the start Z: h the heap at the call, h' behind it -/
def Q (Z : State) (x : Addr) (A : Cell) (h : Heap) (v : Option Value) (h' : Heap) (L : List Loc) : Prop := v = none ∧ (∀ y ∈ L, y.base = x) ∧ RoadKit.Keep h h' [x] ∧ h'.size = h.size + 1 ∧ RoadKit.Exa Z h' x ST ∧ RoadKit.Fld Z h' x ST "value" "[B" (.ref h.size) ∧ RoadKit.Fld Z h' x ST "coder" "B" (.int 0) ∧
  (∃ V : Cell, RoadKit.Arr Z h' h.size V .byte ∧ V.vm = .none ∧ Z.vm.findClass "[B" = some V.cls ∧ V.slots.size = A.slots.size ∧ ∀ j, j < A.slots.size → V.slots[j]? = some (.int (lo8 (cv A j)))) ∧
  ∀ (O n d : String) (w : Value), RoadKit.Fld Z h x O n d w → RoadKit.slotOf Z O n d ≠ RoadKit.slotOf Z ST "value" "[B" → RoadKit.slotOf Z O n d ≠ RoadKit.slotOf Z ST "coder" "B" → RoadKit.Fld Z h' x O n d w
/-- **new String(chars) AT A CALL, IN THE ROAD'S FORM**: for specialBack behind newO: x the fresh String, b the char[] with the cell A -/
theorem back {p : Program} {l : Launch} {e : Env} {R : Room} {s : State} {args : Array Value} {below : List Frame} {len W : Nat} {Z : State} {a0 : Array Value} {h : Heap} (hZ : Z.Warmed39 s.vm) (hw : ∀ d ∈ words, d.before a0 Z = true) {kI : Nat} (wi : (Jvm.Cond.instantiable ST kI).before a0 Z = true)
    {x b : Addr} {A : Cell} {z : Int32} {v0 c0 : Value} (E : RoadKit.Exa Z h x ST) (V : RoadKit.Fld Z h x ST "value" "[B" v0) (C : RoadKit.Fld Z h x ST "coder" "B" c0) (K : RoadKit.Arr Z h b A .char) (hty : Typed .char A) (S : RoadKit.Sta Z h ST "COMPACT_STRINGS" "Z" (.int z)) (hz : ¬ z = 0)
    (l0 : 0 < A.slots.size) (l2 : A.slots.size ≤ 536870912) (hp : ∀ i, i < A.slots.size → ¬ 255 < cv A i) (hfr : 4 ≤ R.frames) (hlo : W + 65 ≤ R.locals) :
    Back l R p e below s args New1.yN len W (fun P a => a = #[.ref x, .ref b] ∧ P.U.heap = h ∧ P.cells + 1 ≤ R.cells ∧ P.slots + A.slots.size ≤ R.slots)
      (fun P _ v B => ∃ L, Q Z x A h v B.U.heap L ∧ B.locs = P.locs ++ L ∧ B.cells = P.cells + 1 ∧ B.slots = P.slots + A.slots.size) := by
  intro m meth c P g ig mk a X hg hsize hdg hW hn hp'
  obtain ⟨rfl, rfl, r1, r2⟩ := hp'
  have al : Z.vm.Alike P.U.vm := hZ.alike.trans X.warmed.alike
  obtain ⟨D, cfV, kV, iV, fV, hD, gV, stV, knV, obV, asV, slV⟩ := id V
  obtain ⟨D', cfC, kC, iC, fC, hD', gC, stC, -, -, asC, slC⟩ := id C
  cases hD.symm.trans hD'
  obtain ⟨D2, kD, e1, e2, e3, e4, e5⟩ := id E
  cases hD.symm.trans e1
  obtain ⟨c2, k2, i1, i2, i3, -⟩ := Cond.instantiable_spec wi
  cases e2.symm.trans i1
  cases e3.symm.trans i2
  obtain ⟨kU, u1, u2⟩ := al.2.2 _ _ e3
  have hB : Blank ST x D P.U := ⟨hD, ⟨knV, fun q hq => by rw [hq] at obV; cases obV⟩, by rw [al.findClass]; exact e2, kU, u1, by rw [u2]; exact i3, by rw [u2]; exact e5 i3⟩
  have F1 : Found ST "value" "[B" fV P.U := ⟨SBG.found_only al ⟨cfV, kV, iV, gV⟩, stV⟩
  have F2 : Found ST "coder" "B" fC P.U := ⟨SBG.found_only al ⟨cfC, kC, iC, gC⟩, stC⟩
  have hA : Ch b A P.U := ⟨⟨K.1, State.isArrayOf_alike al K.2.1, K.2.2, by omega⟩, hty⟩
  have hS : StaticIs P.U ST "COMPACT_STRINGS" "Z" (.int z) := by
    obtain ⟨cfS, iS, kS, fS, st, cS, t1, t2, t3, t4, t5, t6, t7⟩ := S
    exact StaticIs.there (s := { Z with heap := P.U.heap }) ⟨cfS, iS, kS, fS, st, cS, t1, t2, t3, t4, t5, (fun q => by rw [q] at t6; cases t6), t7⟩ al rfl
  obtain ⟨v, B, X', ⟨⟨hv, E', V', q1, q2, q3, q4, q5, q6, q7, q8, q9, q10, q11⟩, hl, hc, hs⟩, st⟩ := New1.pays x D fV fC b A z (tab_of (moved hZ hw)) hfr hlo m meth c P g ig mk _ X hg hsize hdg hW hn ⟨r1, r2, rfl, hB, F1, F2, hA, hS, hz, l0, l2, hp⟩
  have al' : Z.vm.Alike B.U.vm := hZ.alike.trans X'.warmed.alike
  have hsz : E'.slots.size = D.slots.size := by
    obtain ⟨-, -, -, kB, w1, w2, w3⟩ := q1
    obtain ⟨kB', y1, y2⟩ := al'.2.2 _ _ e3
    rw [q2.2.1] at w1
    cases w1.symm.trans y1
    rw [w3, e5 i3, y2]
  refine ⟨v, B, X', ⟨_, ⟨hv, ?_, ⟨by omega, fun y cy hy hn' => q10 y cy (by simpa using hn') hy, fun y cy hy => ?_⟩, q11, ⟨E', _, q1.1, by rw [q2.2.1]; exact e2, by rw [q2.2.1]; exact e3, by rw [q2.1]; exact obV, fun _ => by rw [hsz]; exact e5 i3⟩,
    ⟨E', cfV, kV, iV, fV, q1.1, gV, stV, by rw [q2.1]; exact knV, by rw [q2.1]; exact obV, by rw [q2.2.1]; exact asV, q3⟩, ⟨E', cfC, kC, iC, fC, q1.1, gC, stC, by rw [q2.1]; exact knV, by rw [q2.1]; exact obV, by rw [q2.2.1]; exact asC, q4⟩,
    ⟨V', ⟨q5.1, State.isArrayOf_alike al'.symm q5.2.1, q5.2.2.1⟩, q6, by rw [← al'.findClass]; exact q7, q8, fun j hj => by have := q9 j hj; rwa [Nat.zero_add] at this⟩, fun O n d w F n1 n2 => ?_⟩, hl, hc, hs⟩, st⟩
  · intro y hy
    simp only [List.mem_cons, List.not_mem_nil, or_false] at hy
    rcases hy with rfl | rfl <;> rfl
  · by_cases q : y = x
    · subst q
      cases hD.symm.trans hy
      exact ⟨E', q1.1, q2.2.1, q2.1, hsz⟩
    · exact ⟨cy, q10 y cy q hy, rfl, rfl, rfl⟩
  · obtain ⟨D3, cf, k, i, f, g1, g2, g3, g4, g5, g6, g7⟩ := F
    cases hD.symm.trans g1
    simp only [RoadKit.slotOf, g2, gV, gC, Option.map_some, Option.getD_some] at n1 n2
    exact ⟨E', cf, k, i, f, q1.1, g2, g3, by rw [q2.1]; exact g4, by rw [q2.1]; exact g5, by rw [q2.2.1]; exact g6, by rw [q2.2.2 f.slot (by simp [n1, n2])]; exact g7⟩
end StrChars.Road
namespace StrChars.Road
open Jvm Sem ClassFile Op Lib Jvm.Stand Jvm.Free Jvm.Free.XT
/-- WHAT COMES BACK, the byte[] as a list of values -/
def QA (Z : State) (x : Addr) (zn : Int32) (cs : List Int32) (h : Heap) (v : Option Value) (h' : Heap) (L : List Loc) : Prop := v = none ∧ (∀ y ∈ L, y.base = x) ∧ RoadKit.Keep h h' [x] ∧ h'.size = h.size + 1 ∧ RoadKit.Exa Z h' x ST ∧ RoadKit.Fld Z h' x ST "value" "[B" (.ref h.size) ∧ RoadKit.Fld Z h' x ST "coder" "B" (.int 0) ∧
  (∃ kb, Z.vm.findClass "[B" = some kb ∧ RoadKit.Arv Z h' h.size kb .byte zn (cs.map fun c => .int (lo8 c)) (.int 0)) ∧
  ∀ (O n d : String) (w : Value), RoadKit.Fld Z h x O n d w → RoadKit.slotOf Z O n d ≠ RoadKit.slotOf Z ST "value" "[B" → RoadKit.slotOf Z O n d ≠ RoadKit.slotOf Z ST "coder" "B" → RoadKit.Fld Z h' x O n d w
/-- **new String(chars) AT A CALL, THE ARRAYS AS LISTS**: the char[] at b holds cs, not empty, no char above 255 -/
theorem backArv {p : Program} {l : Launch} {e : Env} {R : Room} {s : State} {args : Array Value} {below : List Frame} {len W : Nat} {Z : State} {a0 : Array Value} {h : Heap} (hZ : Z.Warmed39 s.vm) (hw : ∀ d ∈ words, d.before a0 Z = true) {kI : Nat} (wi : (Jvm.Cond.instantiable ST kI).before a0 Z = true)
    {x b : Addr} {k : ClassId} {zn z : Int32} {cs : List Int32} {dv v0 c0 : Value} (E : RoadKit.Exa Z h x ST) (V : RoadKit.Fld Z h x ST "value" "[B" v0) (C : RoadKit.Fld Z h x ST "coder" "B" c0) (K : RoadKit.Arv Z h b k .char zn (cs.map Value.int) dv) (S : RoadKit.Sta Z h ST "COMPACT_STRINGS" "Z" (.int z)) (hz : ¬ z = 0)
    (hlen : zn.toNatClampNeg = cs.length) (h0 : 0 < cs.length) (hbig : cs.length ≤ 536870912) (hall : ∀ c ∈ cs, ¬ 255 < c) (hfr : 4 ≤ R.frames) (hlo : W + 65 ≤ R.locals) :
    Back l R p e below s args New1.yN len W (fun P a => a = #[.ref x, .ref b] ∧ P.U.heap = h ∧ P.cells + 1 ≤ R.cells ∧ P.slots + cs.length ≤ R.slots)
      (fun P _ v B => ∃ L, QA Z x zn cs h v B.U.heap L ∧ B.locs = P.locs ++ L ∧ B.cells = P.cells + 1 ∧ B.slots = P.slots + cs.length) := by
  obtain ⟨A, K1, K2, K3, K4, K5, K6⟩ := K
  have e : A.slots.size = cs.length := K3.trans hlen
  have hat : ∀ (i : Nat) (hi : i < cs.length), A.slots[i]? = some (.int cs[i]) := fun i hi => by rw [K5 i (by omega)]; simp [List.getD_eq_getElem?_getD, hi]
  have hcv : ∀ (i : Nat) (hi : i < cs.length), cv A i = cs[i] := fun i hi => by unfold cv; rw [hat i hi]
  have hty : Typed .char A := fun i v hv => by
    have hi : i < A.slots.size := (Array.getElem?_eq_some_iff.mp hv).1
    have q := K5 i hi
    rw [hv] at q
    rw [Option.some.inj q]
    exact K6 i hi
  refine Back.mono (back hZ hw wi E V C K1 hty S hz (by omega) (by omega) (fun i hi => by rw [hcv i (by omega)]; exact hall _ (List.getElem_mem _)) hfr hlo) (fun P a hp => ⟨hp.1, hp.2.1, hp.2.2.1, by rw [e]; exact hp.2.2.2⟩) (fun P a v B hp hq => ?_)
  obtain ⟨L, ⟨q1, q2, q3, q4, q5, q6, q7, ⟨V', v1, v2, v3, v4, v5⟩, q9⟩, hl, hc, hs⟩ := hq
  refine ⟨L, ⟨q1, q2, q3, q4, q5, q6, q7, ⟨V'.cls, v3, V', v1, rfl, by rw [v4, e, hlen], K4, fun i hi => ?_, fun i hi => ?_⟩, q9⟩, hl, hc, by rw [hs, e]⟩
  · have hi' : i < cs.length := by omega
    rw [v5 i (by omega), hcv i hi']; simp [List.getD_eq_getElem?_getD, hi']
  · have hi' : i < cs.length := by omega
    simp only [List.getD_eq_getElem?_getD, List.getElem?_map, List.getElem?_eq_getElem hi', Option.map_some, Option.getD_some]
    exact fits_lo8 _
end StrChars.Road
namespace StrChars.Road
open Jvm Sem ClassFile Op Lib Jvm.Stand Jvm.Free Jvm.Free.XT
/-- WHAT COMES BACK, in the writer's own shape -/
def QV (Z : State) (x : Addr) (N : Int32) (bs : List Int32) (h : Heap) (n0 : Nat) (v : Option Value) (h' : Heap) (L : List Loc) : Prop := v = none ∧ RoadKit.Fr n0 L ∧ RoadKit.Keep h h' [x] ∧ RoadKit.Exa Z h' x ST ∧ RoadKit.Fld Z h' x ST "coder" "B" (.int 0) ∧
  ∃ (t : Addr) (kb : ClassId), n0 ≤ t ∧ h.size ≤ t ∧ ¬ t = x ∧ RoadKit.Fld Z h' x ST "value" "[B" (.ref t) ∧ RoadKit.Arv Z h' t kb .byte N (bs.map Value.int) (.int 0)
/-- **new String(chars) AT A CALL, FOR THE WRITER**: a char[] of n known ints, each 0 to 255 -/
theorem backV {p : Program} {l : Launch} {e : Env} {R : Room} {s : State} {args : Array Value} {below : List Frame} {len W : Nat} {Z : State} {a0 : Array Value} {h : Heap} (hZ : Z.Warmed39 s.vm) (hw : ∀ d ∈ words, d.before a0 Z = true) {kI : Nat} (wi : (Jvm.Cond.instantiable ST kI).before a0 Z = true)
    {x b : Addr} {kC : ClassId} {cs bs : List Int32} {d v0 c0 : Value} {z N : Int32} {n n0 : Nat} (hx0 : n0 ≤ x) (hh0 : n0 ≤ h.size) (E : RoadKit.Exa Z h x ST) (V : RoadKit.Fld Z h x ST "value" "[B" v0) (C : RoadKit.Fld Z h x ST "coder" "B" c0) (K : RoadKit.Arv Z h b kC .char N (cs.map Value.int) d) (S : RoadKit.Sta Z h ST "COMPACT_STRINGS" "Z" (.int z)) (hz : ¬ z = 0)
    (hn : cs.length = n) (hN : N = Int32.ofNat n) (l0 : 0 < n) (l2 : n ≤ 4000) (hp : ∀ c ∈ cs, ¬ c < 0 ∧ ¬ (255 : Int32) < c) (hb : bs = cs.map (fun c => c.toInt8.toInt32)) (hfr : 4 ≤ R.frames) (hlo : W + 65 ≤ R.locals) :
    Back l R p e below s args (⟨"java/lang/String", "<init>", "([C)V"⟩ : MethodName) len W (fun P a => a = #[.ref x, .ref b] ∧ P.U.heap = h ∧ P.cells + 1 ≤ R.cells ∧ P.slots + n ≤ R.slots)
      (fun P _ v B => ∃ L, QV Z x N bs h n0 v B.U.heap L ∧ B.locs = P.locs ++ L ∧ B.cells = P.cells + 1 ∧ B.slots = P.slots + n) := by
  subst hn hN hb
  refine Back.mono (backArv hZ hw wi E V C K S hz (n32 (by omega)) l0 (by omega) (fun c hc => (hp c hc).2) hfr hlo) (fun P a hp => hp) (fun P a v B hp hq => ?_)
  obtain ⟨L, ⟨q1, q2, q3, q4, q5, q6, q7, ⟨kb, v1, v2⟩, q9⟩, hl, hc, hs⟩ := hq
  exact ⟨L, ⟨q1, fun y hy => by rw [q2 y hy]; exact hx0, q3, q5, q7, h.size, kb, hh0, Nat.le_refl _, Nat.ne_of_gt E.lt, q6, by rw [List.map_map]; exact v2⟩, hl, hc, hs⟩
end StrChars.Road
end Jvm.Pilot.@@N@@
namespace Jvm.Pilot.@@N@@
open Jvm Jvm.ClassFile Sem Op Lib Jvm.Free Jvm.Stand Jvm.LawKit Jvm.RoadKit Bundle Jvm.Pilot.@@N@@.Jvm.D
section OwnKit
variable {p : Program} {l : Launch} {e : Env} {R : Room} {s : State} {m : MethodId} {A : Array Value} {below : List Frame} {meth : Method} {c : Code} {T : State} {cells slots : Nat} {Z : State} {a0 : Array Value} {h : Heap} {own nm : String} {bytes : ByteArray} {maxL : Nat} {ret : Option FieldType} {W : Outcome → State → Prop} {pc pc' tgt : Nat} {Ls : Array Slot} {st : List Value}
/-- the run from the frame g over T comes to an end at which W holds -/
def Goes (p : Program) (e : Env) (below : List Frame) (W : Outcome → State → Prop) (T : State) (g : JFrame) : Prop :=
  ∃ s₂ o, Steps p.tables e below (T.setTop g) s₂ ∧ s₂.status = .running ∧ Ended s₂ below o ∧ W o s₂
theorem Goes.via {T' : State} {g g' : JFrame} (h : ∀ t, Steps p.tables e below (T'.setTop g') t → Steps p.tables e below (T.setTop g) t) (k : Goes p e below W T' g') : Goes p e below W T g := by
  obtain ⟨s₂, o, h1, h2⟩ := k; exact ⟨s₂, o, h _ h1, h2⟩
/-- what stays the same through a body -/
def Cx (p : Program) (s : State) (m : MethodId) (meth : Method) (c : Code) (Z : State) (own nm : String) (bytes : ByteArray) (maxL : Nat) (ret : Option FieldType) : Prop :=
  p.tables.exec = Jvm.exec ∧ Z.Warmed39 s.vm ∧ s.vm.findClass own = some m.cls ∧ c.code = bytes ∧ c.maxLocals = maxL ∧ meth.sig.returnType = ret ∧ meth.locks = false ∧ meth.name = nm
theorem Cx.hx (C : Cx p s m meth c Z own nm bytes maxL ret) : p.tables.exec = Jvm.exec := C.1
theorem Cx.hZ (C : Cx p s m meth c Z own nm bytes maxL ret) : Z.Warmed39 s.vm := C.2.1
theorem Cx.hown (C : Cx p s m meth c Z own nm bytes maxL ret) : s.vm.findClass own = some m.cls := C.2.2.1
theorem Cx.hby (C : Cx p s m meth c Z own nm bytes maxL ret) : c.code = bytes := C.2.2.2.1
theorem Cx.hml (C : Cx p s m meth c Z own nm bytes maxL ret) : c.maxLocals = maxL := C.2.2.2.2.1
theorem Cx.hret (C : Cx p s m meth c Z own nm bytes maxL ret) : meth.sig.returnType = ret := C.2.2.2.2.2.1
theorem Cx.hlk (C : Cx p s m meth c Z own nm bytes maxL ret) : meth.locks = false := C.2.2.2.2.2.2.1
theorem Cx.hnm (C : Cx p s m meth c Z own nm bytes maxL ret) : meth.name = nm := C.2.2.2.2.2.2.2
/-- where the walk stands: the heap is h; nothing that stood at Z was written; at most so many cells and slots were made -/
def St (p : Program) (l : Launch) (e : Env) (R : Room) (s : State) (m : MethodId) (A : Array Value) (below : List Frame) (meth : Method) (c : Code) (Z : State) (T : State) (h : Heap) (cells slots : Nat) : Prop :=
  ∃ locs, Stand p l e R s m A below meth c T locs cells slots ∧ T.heap = h ∧ Fr Z.heap.size locs ∧ Ext Z.heap h
theorem St.here (X : St p l e R s m A below meth c Z T h cells slots) : At T m c below := by obtain ⟨_, Y, _⟩ := X; exact Y.here
theorem St.ext (X : St p l e R s m A below meth c Z T h cells slots) : Ext Z.heap h := by obtain ⟨_, _, _, _, E⟩ := X; exact E
theorem St.more {cells' slots' : Nat} (X : St p l e R s m A below meth c Z T h cells slots) (h1 : cells ≤ cells') (h2 : slots ≤ slots') : St p l e R s m A below meth c Z T h cells' slots' := by
  obtain ⟨L, Y, r⟩ := X; exact ⟨L, Y.more h1 h2, r⟩
/-- the end of a body: Q of what it returned and of the heap -/
def EndW (Z s : State) (k n : Nat) (Q : Option Value → Heap → Prop) (o : Outcome) (u : State) : Prop :=
  ∃ v L, o = .returned v ∧ (Fr Z.heap.size L ∧ Ext Z.heap u.heap ∧ Q v u.heap) ∧ FrameEnd s o u L k n
/-- a body's contract: called with A at the heap h0, over tables warmer than Z's, it returns and leaves Q -/
def Con (l : Launch) (y : MethodName) (bytes : ByteArray) (maxL : Nat) (ret : Option FieldType) (ws : List Jvm.Cond) (rm : Room) (Z : State) (A : Array Value) (h0 : Heap) (Q : Option Value → Heap → Prop) : Prop :=
  MetFree l y (head1 (Jvm.Cond.code y bytes maxL ret :: ws) rm) (fun a U => a = A ∧ Z.Warmed39 U.vm ∧ U.heap = h0) (fun _ _ _ _ _ => True) (fun _ U o U' => EndW Z U rm.cells rm.slots Q o U')
theorem con_of {y : MethodName} {ws : List Jvm.Cond} {rm : Room} {h0 : Heap} {Q : Option Value → Heap → Prop} {Ls : Array Slot} (hp : plainFor y = true) (hE : Ext Z.heap h0) (hef : ∀ m, entryFrame m A maxL = mkF m 0 Ls [])
    (body : ∀ p e s m below meth c s₁, Cx p s m meth c Z y.cls y.name bytes maxL ret → St p l e rm s m A below meth c Z s₁ h0 0 0 → Goes p e below (EndW Z s rm.cells rm.slots Q) s₁ (mkF m 0 Ls [])) :
    Con l y bytes maxL ret ws rm Z A h0 Q := by
  refine MetFree.of_bodySF hp hisR ?_
  intro p e s m args below meth c s₁ Bd hml0 hP hK
  obtain ⟨rfl, hZ, hh⟩ := hP
  have X0 := Stand.of_body Bd
  have e0 : s₁.heap = h0 := by rw [← hh, Bd.state]; rfl
  have := body p e s m below meth c s₁ ⟨Bd.exec, hZ, findClass_of_methodNamed Bd.named, Bd.bytes, hml0, Bd.returns, Bd.notSynchronized, (name_of_methodNamed Bd.named Bd.method).1⟩ ⟨[], X0, e0, Fr.nil _, hE⟩
  rw [← hef m] at this
  exact this
/-- the instruction at pc, its length, the pc behind it -/
def Dc (b : ByteArray) (pc : Nat) (i : Instr) (n pc' : Nat) : Prop := decode b pc = .ok (i, n) ∧ pc + n = pc'
/-- a jump: besides, its target -/
def Dj (b : ByteArray) (pc : Nat) (i : Instr) (o : Int) (n pc' tgt : Nat) : Prop := decode b pc = .ok (i, n) ∧ pc + n = pc' ∧ 0 ≤ (pc : Int) + o ∧ ((pc : Int) + o).toNat = tgt
theorem g_goto {o : Int} (C : Cx p s m meth c Z own nm bytes maxL ret) (X : St p l e R s m A below meth c Z T h cells slots) (d : Dj bytes pc (.goto o) o 3 pc' tgt) (K : Goes p e below W T (mkF m tgt Ls st)) : Goes p e below W T (mkF m pc Ls st) :=
  Goes.via (fun _ k => XS.goto X.here C.hx rfl rfl (hb C.hby d.1) d.2.2.1 d.2.2.2 k) K
theorem g_if {cd : ClassFile.Cond} {o : Int} {x : Int32} {P : Prop} [Decidable P] (hP : ifCond.holds cd x = decide P) (C : Cx p s m meth c Z own nm bytes maxL ret) (X : St p l e R s m A below meth c Z T h cells slots) (d : Dj bytes pc (.ifCond cd o) o 3 pc' tgt) (K1 : P → Goes p e below W T (mkF m tgt Ls st)) (K2 : ¬ P → Goes p e below W T (mkF m pc' Ls st)) : Goes p e below W T (mkF m pc Ls (.int x :: st)) := by
  obtain ⟨d1, rfl, d3, d4⟩ := d
  by_cases q : P
  · exact Goes.via (fun _ k => XS.ifYes X.here C.hx rfl rfl (hb C.hby d1) rfl (hP.trans (decide_eq_true q)) d3 d4 k) (K1 q)
  · exact Goes.via (fun _ k => XS.ifNo X.here C.hx rfl (hb C.hby d1) rfl (hP.trans (decide_eq_false q)) k) (K2 q)
theorem g_icmp {cd : ClassFile.Cond} {o : Int} {x y : Int32} {P : Prop} [Decidable P] (hP : if_icmp.holds cd x y = decide P) (C : Cx p s m meth c Z own nm bytes maxL ret) (X : St p l e R s m A below meth c Z T h cells slots) (d : Dj bytes pc (.if_icmp cd o) o 3 pc' tgt) (K1 : P → Goes p e below W T (mkF m tgt Ls st)) (K2 : ¬ P → Goes p e below W T (mkF m pc' Ls st)) : Goes p e below W T (mkF m pc Ls (.int y :: .int x :: st)) := by
  obtain ⟨d1, rfl, d3, d4⟩ := d
  by_cases q : P
  · exact Goes.via (fun _ k => XS.icmpYes X.here C.hx rfl rfl (hb C.hby d1) rfl (hP.trans (decide_eq_true q)) d3 d4 k) (K1 q)
  · exact Goes.via (fun _ k => XS.icmpNo X.here C.hx rfl (hb C.hby d1) rfl (hP.trans (decide_eq_false q)) k) (K2 q)
theorem g_ifn {cd : ClassFile.Cond} {o : Int} {x : Int32} {P : Prop} [Decidable P] (hP : ifCond.holds cd x = !decide P) (C : Cx p s m meth c Z own nm bytes maxL ret) (X : St p l e R s m A below meth c Z T h cells slots) (d : Dj bytes pc (.ifCond cd o) o 3 pc' tgt) (K1 : ¬ P → Goes p e below W T (mkF m tgt Ls st)) (K2 : P → Goes p e below W T (mkF m pc' Ls st)) : Goes p e below W T (mkF m pc Ls (.int x :: st)) := by
  obtain ⟨d1, rfl, d3, d4⟩ := d
  by_cases q : P
  · exact Goes.via (fun _ k => XS.ifNo X.here C.hx rfl (hb C.hby d1) rfl (hP.trans (by simp [q])) k) (K2 q)
  · exact Goes.via (fun _ k => XS.ifYes X.here C.hx rfl rfl (hb C.hby d1) rfl (hP.trans (by simp [q])) d3 d4 k) (K1 q)
theorem g_icmpn {cd : ClassFile.Cond} {o : Int} {x y : Int32} {P : Prop} [Decidable P] (hP : if_icmp.holds cd x y = !decide P) (C : Cx p s m meth c Z own nm bytes maxL ret) (X : St p l e R s m A below meth c Z T h cells slots) (d : Dj bytes pc (.if_icmp cd o) o 3 pc' tgt) (K1 : ¬ P → Goes p e below W T (mkF m tgt Ls st)) (K2 : P → Goes p e below W T (mkF m pc' Ls st)) : Goes p e below W T (mkF m pc Ls (.int y :: .int x :: st)) := by
  obtain ⟨d1, rfl, d3, d4⟩ := d
  by_cases q : P
  · exact Goes.via (fun _ k => XS.icmpNo X.here C.hx rfl (hb C.hby d1) rfl (hP.trans (by simp [q])) k) (K2 q)
  · exact Goes.via (fun _ k => XS.icmpYes X.here C.hx rfl rfl (hb C.hby d1) rfl (hP.trans (by simp [q])) d3 d4 k) (K1 q)
theorem hI_eq (x y : Int32) : if_icmp.holds .eq x y = decide (x = y) := by
  by_cases q : x = y
  · rw [(teq q).1]; simp [q]
  · rw [(feq q).1]; simp [q]
theorem hI_ne (x y : Int32) : if_icmp.holds .ne x y = !decide (x = y) := by
  by_cases q : x = y
  · rw [(teq q).2]; simp [q]
  · rw [(feq q).2]; simp [q]
theorem hI_lt (x y : Int32) : if_icmp.holds .lt x y = decide (x < y) := by
  by_cases q : x < y
  · rw [(tlt q).1]; simp [q]
  · rw [(flt q).1]; simp [q]
theorem hI_ge (x y : Int32) : if_icmp.holds .ge x y = !decide (x < y) := by
  by_cases q : x < y
  · rw [(tlt q).2.1]; simp [q]
  · rw [(flt q).2.1]; simp [q]
theorem hI_gt (x y : Int32) : if_icmp.holds .gt x y = decide (y < x) := by
  by_cases q : y < x
  · rw [(tlt q).2.2.1]; simp [q]
  · rw [(flt q).2.2.1]; simp [q]
theorem hI_le (x y : Int32) : if_icmp.holds .le x y = !decide (y < x) := by
  by_cases q : y < x
  · rw [(tlt q).2.2.2]; simp [q]
  · rw [(flt q).2.2.2]; simp [q]
theorem h0_eq (x : Int32) : ifCond.holds .eq x = decide (x = 0) := (if0 _ _).trans (hI_eq x 0)
theorem h0_ne (x : Int32) : ifCond.holds .ne x = !decide (x = 0) := (if0 _ _).trans (hI_ne x 0)
theorem h0_lt (x : Int32) : ifCond.holds .lt x = decide (x < 0) := (if0 _ _).trans (hI_lt x 0)
theorem h0_ge (x : Int32) : ifCond.holds .ge x = !decide (x < 0) := (if0 _ _).trans (hI_ge x 0)
theorem h0_gt (x : Int32) : ifCond.holds .gt x = decide (0 < x) := (if0 _ _).trans (hI_gt x 0)
theorem h0_le (x : Int32) : ifCond.holds .le x = !decide (0 < x) := (if0 _ _).trans (hI_le x 0)
/-- a comparison of longs, then a branch on it: 'lcmp; if..' -/
theorem hL_eq (x y : Int64) : ifCond.holds .eq (lcmpW x y) = decide (x = y) := by rw [h0_eq]; exact decide_eq_decide.mpr (lw_eq x y)
theorem hL_ne (x y : Int64) : ifCond.holds .ne (lcmpW x y) = !decide (x = y) := by rw [h0_ne]; exact congrArg _ (decide_eq_decide.mpr (lw_eq x y))
theorem hL_lt (x y : Int64) : ifCond.holds .lt (lcmpW x y) = decide (x < y) := by rw [h0_lt]; exact decide_eq_decide.mpr (lw_lt x y)
theorem hL_ge (x y : Int64) : ifCond.holds .ge (lcmpW x y) = !decide (x < y) := by rw [h0_ge]; exact congrArg _ (decide_eq_decide.mpr (lw_lt x y))
theorem hL_gt (x y : Int64) : ifCond.holds .gt (lcmpW x y) = decide (y < x) := by rw [h0_gt]; exact decide_eq_decide.mpr (lw_gt x y)
theorem hL_le (x y : Int64) : ifCond.holds .le (lcmpW x y) = !decide (y < x) := by rw [h0_le]; exact congrArg _ (decide_eq_decide.mpr (lw_gt x y))
/-- two references compared; the values are references or null -/
theorem g_acmpeq {o : Int} {x y : Value} (C : Cx p s m meth c Z own nm bytes maxL ret) (X : St p l e R s m A below meth c Z T h cells slots) (d : Dj bytes pc (.if_acmp .eq o) o 3 pc' tgt) (h1 : x.isRef = true) (h2 : y.isRef = true) (K1 : x = y → Goes p e below W T (mkF m tgt Ls st)) (K2 : ¬ x = y → Goes p e below W T (mkF m pc' Ls st)) : Goes p e below W T (mkF m pc Ls (y :: x :: st)) := by
  obtain ⟨d1, rfl, d3, d4⟩ := d
  by_cases q : x = y
  · exact Goes.via (fun _ k => XT.acmpYes X.here C.hx rfl rfl (hb C.hby d1) rfl h1 h2 (XT.aa_eq_t q) d3 d4 k) (K1 q)
  · exact Goes.via (fun _ k => XT.acmpNo X.here C.hx rfl (hb C.hby d1) rfl h1 h2 (XT.aa_eq_f q) k) (K2 q)
theorem g_acmpne {o : Int} {x y : Value} (C : Cx p s m meth c Z own nm bytes maxL ret) (X : St p l e R s m A below meth c Z T h cells slots) (d : Dj bytes pc (.if_acmp .ne o) o 3 pc' tgt) (h1 : x.isRef = true) (h2 : y.isRef = true) (K1 : ¬ x = y → Goes p e below W T (mkF m tgt Ls st)) (K2 : x = y → Goes p e below W T (mkF m pc' Ls st)) : Goes p e below W T (mkF m pc Ls (y :: x :: st)) := by
  obtain ⟨d1, rfl, d3, d4⟩ := d
  by_cases q : x = y
  · exact Goes.via (fun _ k => XT.acmpNo X.here C.hx rfl (hb C.hby d1) rfl h1 h2 (XT.aa_ne_f q) k) (K2 q)
  · exact Goes.via (fun _ k => XT.acmpYes X.here C.hx rfl rfl (hb C.hby d1) rfl h1 h2 (XT.aa_ne_t q) d3 d4 k) (K1 q)
theorem g_ifnull {o : Int} {v : Value} (C : Cx p s m meth c Z own nm bytes maxL ret) (X : St p l e R s m A below meth c Z T h cells slots) (d : Dj bytes pc (.ifnull o) o 3 pc' tgt) (h1 : v.isRef = true) (K1 : v = .null → Goes p e below W T (mkF m tgt Ls st)) (K2 : ¬ v = .null → Goes p e below W T (mkF m pc' Ls st)) : Goes p e below W T (mkF m pc Ls (v :: st)) := by
  obtain ⟨d1, rfl, d3, d4⟩ := d
  by_cases q : v = .null
  · exact Goes.via (fun _ k => XT.nullYes X.here C.hx rfl rfl (hb C.hby d1) rfl q d3 d4 k) (K1 q)
  · exact Goes.via (fun _ k => XT.nullNo X.here C.hx rfl (hb C.hby d1) rfl h1 q k) (K2 q)
theorem g_ifnonnull {o : Int} {v : Value} (C : Cx p s m meth c Z own nm bytes maxL ret) (X : St p l e R s m A below meth c Z T h cells slots) (d : Dj bytes pc (.ifnonnull o) o 3 pc' tgt) (h1 : v.isRef = true) (K1 : ¬ v = .null → Goes p e below W T (mkF m tgt Ls st)) (K2 : v = .null → Goes p e below W T (mkF m pc' Ls st)) : Goes p e below W T (mkF m pc Ls (v :: st)) := by
  obtain ⟨d1, rfl, d3, d4⟩ := d
  by_cases q : v = .null
  · exact Goes.via (fun _ k => XT.nonnullNo X.here C.hx rfl (hb C.hby d1) rfl q k) (K2 q)
  · exact Goes.via (fun _ k => XT.nonnullYes X.here C.hx rfl rfl (hb C.hby d1) rfl h1 q d3 d4 k) (K1 q)
theorem g_iload {k : Nat} {v : Int32} (C : Cx p s m meth c Z own nm bytes maxL ret) (X : St p l e R s m A below meth c Z T h cells slots) (d : Dc bytes pc (.iload k) 2 pc') (hl : Ls[k]? = some (.val (.int v))) (K : Goes p e below W T (mkF m pc' Ls (.int v :: st))) : Goes p e below W T (mkF m pc Ls st) := by
  obtain ⟨d, rfl⟩ := d
  exact Goes.via (fun _ k => XS.iload X.here C.hx rfl (hb C.hby d) hl k) K
theorem g_iloadN {k : Fin 4} {v : Int32} (C : Cx p s m meth c Z own nm bytes maxL ret) (X : St p l e R s m A below meth c Z T h cells slots) (d : Dc bytes pc (.iload_n k) 1 pc') (hl : Ls[k.val]? = some (.val (.int v))) (K : Goes p e below W T (mkF m pc' Ls (.int v :: st))) : Goes p e below W T (mkF m pc Ls st) := by
  obtain ⟨d, rfl⟩ := d
  exact Goes.via (fun _ k => XS.iloadN X.here C.hx rfl (hb C.hby d) hl k) K
theorem g_lload {k : Nat} {v : Int64} (C : Cx p s m meth c Z own nm bytes maxL ret) (X : St p l e R s m A below meth c Z T h cells slots) (d : Dc bytes pc (.lload k) 2 pc') (hl : Ls[k]? = some (.val (.long v))) (K : Goes p e below W T (mkF m pc' Ls (.long v :: st))) : Goes p e below W T (mkF m pc Ls st) := by
  obtain ⟨d, rfl⟩ := d
  exact Goes.via (fun _ k => XT.lload X.here C.hx rfl (hb C.hby d) hl k) K
theorem g_lloadN {k : Fin 4} {v : Int64} (C : Cx p s m meth c Z own nm bytes maxL ret) (X : St p l e R s m A below meth c Z T h cells slots) (d : Dc bytes pc (.lload_n k) 1 pc') (hl : Ls[k.val]? = some (.val (.long v))) (K : Goes p e below W T (mkF m pc' Ls (.long v :: st))) : Goes p e below W T (mkF m pc Ls st) := by
  obtain ⟨d, rfl⟩ := d
  exact Goes.via (fun _ k => XT.lloadN X.here C.hx rfl (hb C.hby d) hl k) K
theorem g_aload {k : Nat} {v : Value} (C : Cx p s m meth c Z own nm bytes maxL ret) (X : St p l e R s m A below meth c Z T h cells slots) (d : Dc bytes pc (.aload k) 2 pc') (hl : Ls[k]? = some (.val v)) (hv : v.isRef = true) (K : Goes p e below W T (mkF m pc' Ls (v :: st))) : Goes p e below W T (mkF m pc Ls st) := by
  obtain ⟨d, rfl⟩ := d
  exact Goes.via (fun _ k => XS.aload X.here C.hx rfl (hb C.hby d) hl hv k) K
theorem g_aloadN {k : Fin 4} {v : Value} (C : Cx p s m meth c Z own nm bytes maxL ret) (X : St p l e R s m A below meth c Z T h cells slots) (d : Dc bytes pc (.aload_n k) 1 pc') (hl : Ls[k.val]? = some (.val v)) (hv : v.isRef = true) (K : Goes p e below W T (mkF m pc' Ls (v :: st))) : Goes p e below W T (mkF m pc Ls st) := by
  obtain ⟨d, rfl⟩ := d
  exact Goes.via (fun _ k => XS.aloadN X.here C.hx rfl (hb C.hby d) hl hv k) K
theorem g_istore {k : Nat} {x : Int32} {l' : Array Slot} (C : Cx p s m meth c Z own nm bytes maxL ret) (X : St p l e R s m A below meth c Z T h cells slots) (d : Dc bytes pc (.istore k) 2 pc') (hl : storeLocals Ls k (.int x) = some l') (K : Goes p e below W T (mkF m pc' l' st)) : Goes p e below W T (mkF m pc Ls (.int x :: st)) := by
  obtain ⟨d, rfl⟩ := d
  exact Goes.via (fun _ k => XS.istore X.here C.hx rfl (hb C.hby d) rfl hl k) K
theorem g_istoreN {k : Fin 4} {x : Int32} {l' : Array Slot} (C : Cx p s m meth c Z own nm bytes maxL ret) (X : St p l e R s m A below meth c Z T h cells slots) (d : Dc bytes pc (.istore_n k) 1 pc') (hl : storeLocals Ls k.val (.int x) = some l') (K : Goes p e below W T (mkF m pc' l' st)) : Goes p e below W T (mkF m pc Ls (.int x :: st)) := by
  obtain ⟨d, rfl⟩ := d
  exact Goes.via (fun _ k => XS.istoreN X.here C.hx rfl (hb C.hby d) rfl hl k) K
theorem g_lstore {k : Nat} {x : Int64} {l' : Array Slot} (C : Cx p s m meth c Z own nm bytes maxL ret) (X : St p l e R s m A below meth c Z T h cells slots) (d : Dc bytes pc (.lstore k) 2 pc') (hl : storeLocals Ls k (.long x) = some l') (K : Goes p e below W T (mkF m pc' l' st)) : Goes p e below W T (mkF m pc Ls (.long x :: st)) := by
  obtain ⟨d, rfl⟩ := d
  exact Goes.via (fun _ k => XT.lstore X.here C.hx rfl (hb C.hby d) rfl hl k) K
theorem g_lstoreN {k : Fin 4} {x : Int64} {l' : Array Slot} (C : Cx p s m meth c Z own nm bytes maxL ret) (X : St p l e R s m A below meth c Z T h cells slots) (d : Dc bytes pc (.lstore_n k) 1 pc') (hl : storeLocals Ls k.val (.long x) = some l') (K : Goes p e below W T (mkF m pc' l' st)) : Goes p e below W T (mkF m pc Ls (.long x :: st)) := by
  obtain ⟨d, rfl⟩ := d
  exact Goes.via (fun _ k => XT.lstoreN X.here C.hx rfl (hb C.hby d) rfl hl k) K
theorem g_astore {k : Nat} {x : Value} {l' : Array Slot} (C : Cx p s m meth c Z own nm bytes maxL ret) (X : St p l e R s m A below meth c Z T h cells slots) (d : Dc bytes pc (.astore k) 2 pc') (hv : x.isRef = true) (hl : storeLocals Ls k x = some l') (K : Goes p e below W T (mkF m pc' l' st)) : Goes p e below W T (mkF m pc Ls (x :: st)) := by
  obtain ⟨d, rfl⟩ := d
  exact Goes.via (fun _ k => XS.astore X.here C.hx rfl (hb C.hby d) rfl hv hl k) K
theorem g_astoreN {k : Fin 4} {x : Value} {l' : Array Slot} (C : Cx p s m meth c Z own nm bytes maxL ret) (X : St p l e R s m A below meth c Z T h cells slots) (d : Dc bytes pc (.astore_n k) 1 pc') (hv : x.isRef = true) (hl : storeLocals Ls k.val x = some l') (K : Goes p e below W T (mkF m pc' l' st)) : Goes p e below W T (mkF m pc Ls (x :: st)) := by
  obtain ⟨d, rfl⟩ := d
  exact Goes.via (fun _ k => XS.astoreN X.here C.hx rfl (hb C.hby d) rfl hv hl k) K
theorem g_iconst {i : Int} (v : Int32) (C : Cx p s m meth c Z own nm bytes maxL ret) (X : St p l e R s m A below meth c Z T h cells slots) (d : Dc bytes pc (.iconst i) 1 pc') (hv : Int32.ofInt i = v) (K : Goes p e below W T (mkF m pc' Ls (.int v :: st))) : Goes p e below W T (mkF m pc Ls st) := by
  obtain ⟨d, rfl⟩ := d
  exact Goes.via (fun _ k => XT.iconstV X.here C.hx rfl v (hb C.hby d) hv k) K
theorem g_bipush {i : Int} (v : Int32) (C : Cx p s m meth c Z own nm bytes maxL ret) (X : St p l e R s m A below meth c Z T h cells slots) (d : Dc bytes pc (.bipush i) 2 pc') (hv : (Int8.ofInt i).toInt32 = v) (K : Goes p e below W T (mkF m pc' Ls (.int v :: st))) : Goes p e below W T (mkF m pc Ls st) := by
  obtain ⟨d, rfl⟩ := d
  exact Goes.via (fun _ k => XT.bipushV X.here C.hx rfl v (hb C.hby d) hv k) K
theorem g_sipush {i : Int} (v : Int32) (C : Cx p s m meth c Z own nm bytes maxL ret) (X : St p l e R s m A below meth c Z T h cells slots) (d : Dc bytes pc (.sipush i) 3 pc') (hv : (Int16.ofInt i).toInt32 = v) (K : Goes p e below W T (mkF m pc' Ls (.int v :: st))) : Goes p e below W T (mkF m pc Ls st) := by
  obtain ⟨d, rfl⟩ := d
  exact Goes.via (fun _ k => XT.sipushV X.here C.hx rfl v (hb C.hby d) hv k) K
theorem g_lconst {k : Fin 2} (v : Int64) (C : Cx p s m meth c Z own nm bytes maxL ret) (X : St p l e R s m A below meth c Z T h cells slots) (d : Dc bytes pc (.lconst k) 1 pc') (hv : Int64.ofNat k = v) (K : Goes p e below W T (mkF m pc' Ls (.long v :: st))) : Goes p e below W T (mkF m pc Ls st) := by
  obtain ⟨d, rfl⟩ := d
  exact Goes.via (fun _ k => XT.lconstV X.here C.hx rfl v (hb C.hby d) hv k) K
theorem g_iinc {k : Nat} {i : Int} {x : Int32} {l' : Array Slot} (v : Int32) (C : Cx p s m meth c Z own nm bytes maxL ret) (X : St p l e R s m A below meth c Z T h cells slots) (d : Dc bytes pc (.iinc k i) 3 pc') (hv : Int32.ofInt i = v) (hl : Ls[k]? = some (.val (.int x))) (hl' : storeLocals Ls k (.int (x + v)) = some l') (K : Goes p e below W T (mkF m pc' l' st)) : Goes p e below W T (mkF m pc Ls st) := by
  obtain ⟨d, rfl⟩ := d
  exact Goes.via (fun _ k => XT.iincV X.here C.hx rfl v (hb C.hby d) hv hl hl' k) K
theorem g_aconst_null  (C : Cx p s m meth c Z own nm bytes maxL ret) (X : St p l e R s m A below meth c Z T h cells slots) (d : Dc bytes pc (.aconst_null) 1 pc')  (K : Goes p e below W T (mkF m pc' Ls (.null :: st))) : Goes p e below W T (mkF m pc Ls st) := by
  obtain ⟨d, rfl⟩ := d
  exact Goes.via (fun _ k => XS.aconstNull X.here C.hx rfl (hb C.hby d)  k) K
theorem g_iadd {x y : Int32} (C : Cx p s m meth c Z own nm bytes maxL ret) (X : St p l e R s m A below meth c Z T h cells slots) (d : Dc bytes pc (.iadd) 1 pc')  (K : Goes p e below W T (mkF m pc' Ls (.int (x + y) :: st))) : Goes p e below W T (mkF m pc Ls (.int y :: .int x :: st)) := by
  obtain ⟨d, rfl⟩ := d
  exact Goes.via (fun _ k => XS.iadd X.here C.hx rfl (hb C.hby d) rfl k) K
theorem g_ladd {x y : Int64} (C : Cx p s m meth c Z own nm bytes maxL ret) (X : St p l e R s m A below meth c Z T h cells slots) (d : Dc bytes pc (.ladd) 1 pc')  (K : Goes p e below W T (mkF m pc' Ls (.long (x + y) :: st))) : Goes p e below W T (mkF m pc Ls (.long y :: .long x :: st)) := by
  obtain ⟨d, rfl⟩ := d
  exact Goes.via (fun _ k => XT.ladd X.here C.hx rfl (hb C.hby d) rfl k) K
theorem g_isub {x y : Int32} (C : Cx p s m meth c Z own nm bytes maxL ret) (X : St p l e R s m A below meth c Z T h cells slots) (d : Dc bytes pc (.isub) 1 pc')  (K : Goes p e below W T (mkF m pc' Ls (.int (x - y) :: st))) : Goes p e below W T (mkF m pc Ls (.int y :: .int x :: st)) := by
  obtain ⟨d, rfl⟩ := d
  exact Goes.via (fun _ k => XS.isub X.here C.hx rfl (hb C.hby d) rfl k) K
theorem g_lsub {x y : Int64} (C : Cx p s m meth c Z own nm bytes maxL ret) (X : St p l e R s m A below meth c Z T h cells slots) (d : Dc bytes pc (.lsub) 1 pc')  (K : Goes p e below W T (mkF m pc' Ls (.long (x - y) :: st))) : Goes p e below W T (mkF m pc Ls (.long y :: .long x :: st)) := by
  obtain ⟨d, rfl⟩ := d
  exact Goes.via (fun _ k => XT.lsub X.here C.hx rfl (hb C.hby d) rfl k) K
theorem g_imul {x y : Int32} (C : Cx p s m meth c Z own nm bytes maxL ret) (X : St p l e R s m A below meth c Z T h cells slots) (d : Dc bytes pc (.imul) 1 pc')  (K : Goes p e below W T (mkF m pc' Ls (.int (x * y) :: st))) : Goes p e below W T (mkF m pc Ls (.int y :: .int x :: st)) := by
  obtain ⟨d, rfl⟩ := d
  exact Goes.via (fun _ k => XS.imul X.here C.hx rfl (hb C.hby d) rfl k) K
theorem g_lmul {x y : Int64} (C : Cx p s m meth c Z own nm bytes maxL ret) (X : St p l e R s m A below meth c Z T h cells slots) (d : Dc bytes pc (.lmul) 1 pc')  (K : Goes p e below W T (mkF m pc' Ls (.long (x * y) :: st))) : Goes p e below W T (mkF m pc Ls (.long y :: .long x :: st)) := by
  obtain ⟨d, rfl⟩ := d
  exact Goes.via (fun _ k => XT.lmul X.here C.hx rfl (hb C.hby d) rfl k) K
theorem g_iand {x y : Int32} (C : Cx p s m meth c Z own nm bytes maxL ret) (X : St p l e R s m A below meth c Z T h cells slots) (d : Dc bytes pc (.iand) 1 pc')  (K : Goes p e below W T (mkF m pc' Ls (.int (x &&& y) :: st))) : Goes p e below W T (mkF m pc Ls (.int y :: .int x :: st)) := by
  obtain ⟨d, rfl⟩ := d
  exact Goes.via (fun _ k => XS.iand X.here C.hx rfl (hb C.hby d) rfl k) K
theorem g_land {x y : Int64} (C : Cx p s m meth c Z own nm bytes maxL ret) (X : St p l e R s m A below meth c Z T h cells slots) (d : Dc bytes pc (.land) 1 pc')  (K : Goes p e below W T (mkF m pc' Ls (.long (x &&& y) :: st))) : Goes p e below W T (mkF m pc Ls (.long y :: .long x :: st)) := by
  obtain ⟨d, rfl⟩ := d
  exact Goes.via (fun _ k => XT.land X.here C.hx rfl (hb C.hby d) rfl k) K
theorem g_ior {x y : Int32} (C : Cx p s m meth c Z own nm bytes maxL ret) (X : St p l e R s m A below meth c Z T h cells slots) (d : Dc bytes pc (.ior) 1 pc')  (K : Goes p e below W T (mkF m pc' Ls (.int (x ||| y) :: st))) : Goes p e below W T (mkF m pc Ls (.int y :: .int x :: st)) := by
  obtain ⟨d, rfl⟩ := d
  exact Goes.via (fun _ k => XT.ior X.here C.hx rfl (hb C.hby d) rfl k) K
theorem g_lor {x y : Int64} (C : Cx p s m meth c Z own nm bytes maxL ret) (X : St p l e R s m A below meth c Z T h cells slots) (d : Dc bytes pc (.lor) 1 pc')  (K : Goes p e below W T (mkF m pc' Ls (.long (x ||| y) :: st))) : Goes p e below W T (mkF m pc Ls (.long y :: .long x :: st)) := by
  obtain ⟨d, rfl⟩ := d
  exact Goes.via (fun _ k => XT.lor X.here C.hx rfl (hb C.hby d) rfl k) K
theorem g_ixor {x y : Int32} (C : Cx p s m meth c Z own nm bytes maxL ret) (X : St p l e R s m A below meth c Z T h cells slots) (d : Dc bytes pc (.ixor) 1 pc')  (K : Goes p e below W T (mkF m pc' Ls (.int (x ^^^ y) :: st))) : Goes p e below W T (mkF m pc Ls (.int y :: .int x :: st)) := by
  obtain ⟨d, rfl⟩ := d
  exact Goes.via (fun _ k => XT.ixor X.here C.hx rfl (hb C.hby d) rfl k) K
theorem g_lxor {x y : Int64} (C : Cx p s m meth c Z own nm bytes maxL ret) (X : St p l e R s m A below meth c Z T h cells slots) (d : Dc bytes pc (.lxor) 1 pc')  (K : Goes p e below W T (mkF m pc' Ls (.long (x ^^^ y) :: st))) : Goes p e below W T (mkF m pc Ls (.long y :: .long x :: st)) := by
  obtain ⟨d, rfl⟩ := d
  exact Goes.via (fun _ k => XT.lxor X.here C.hx rfl (hb C.hby d) rfl k) K
theorem g_idiv {x y : Int32} (C : Cx p s m meth c Z own nm bytes maxL ret) (X : St p l e R s m A below meth c Z T h cells slots) (d : Dc bytes pc (.idiv) 1 pc') (hy : y ≠ 0) (K : Goes p e below W T (mkF m pc' Ls (.int (x / y) :: st))) : Goes p e below W T (mkF m pc Ls (.int y :: .int x :: st)) := by
  obtain ⟨d, rfl⟩ := d
  exact Goes.via (fun _ k => XS.idiv X.here C.hx rfl (hb C.hby d) rfl hy k) K
theorem g_ldiv {x y : Int64} (C : Cx p s m meth c Z own nm bytes maxL ret) (X : St p l e R s m A below meth c Z T h cells slots) (d : Dc bytes pc (.ldiv) 1 pc') (hy : y ≠ 0) (K : Goes p e below W T (mkF m pc' Ls (.long (x / y) :: st))) : Goes p e below W T (mkF m pc Ls (.long y :: .long x :: st)) := by
  obtain ⟨d, rfl⟩ := d
  exact Goes.via (fun _ k => XT.ldiv X.here C.hx rfl (hb C.hby d) rfl hy k) K
theorem g_ineg {x : Int32} (C : Cx p s m meth c Z own nm bytes maxL ret) (X : St p l e R s m A below meth c Z T h cells slots) (d : Dc bytes pc (.ineg) 1 pc')  (K : Goes p e below W T (mkF m pc' Ls (.int (-x) :: st))) : Goes p e below W T (mkF m pc Ls (.int x :: st)) := by
  obtain ⟨d, rfl⟩ := d
  exact Goes.via (fun _ k => XS.ineg X.here C.hx rfl (hb C.hby d) rfl k) K
theorem g_lneg {x : Int64} (C : Cx p s m meth c Z own nm bytes maxL ret) (X : St p l e R s m A below meth c Z T h cells slots) (d : Dc bytes pc (.lneg) 1 pc')  (K : Goes p e below W T (mkF m pc' Ls (.long (-x) :: st))) : Goes p e below W T (mkF m pc Ls (.long x :: st)) := by
  obtain ⟨d, rfl⟩ := d
  exact Goes.via (fun _ k => XT.lneg X.here C.hx rfl (hb C.hby d) rfl k) K
theorem g_ishl {x y : Int32} (C : Cx p s m meth c Z own nm bytes maxL ret) (X : St p l e R s m A below meth c Z T h cells slots) (d : Dc bytes pc (.ishl) 1 pc')  (K : Goes p e below W T (mkF m pc' Ls (.int (x <<< (y &&& 31)) :: st))) : Goes p e below W T (mkF m pc Ls (.int y :: .int x :: st)) := by
  obtain ⟨d, rfl⟩ := d
  exact Goes.via (fun _ k => XT.ishl X.here C.hx rfl (hb C.hby d) rfl k) K
theorem g_ishr {x y : Int32} (C : Cx p s m meth c Z own nm bytes maxL ret) (X : St p l e R s m A below meth c Z T h cells slots) (d : Dc bytes pc (.ishr) 1 pc')  (K : Goes p e below W T (mkF m pc' Ls (.int (x >>> (y &&& 31)) :: st))) : Goes p e below W T (mkF m pc Ls (.int y :: .int x :: st)) := by
  obtain ⟨d, rfl⟩ := d
  exact Goes.via (fun _ k => XT.ishr X.here C.hx rfl (hb C.hby d) rfl k) K
theorem g_iushr {x y : Int32} (C : Cx p s m meth c Z own nm bytes maxL ret) (X : St p l e R s m A below meth c Z T h cells slots) (d : Dc bytes pc (.iushr) 1 pc')  (K : Goes p e below W T (mkF m pc' Ls (.int ((x.toUInt32 >>> (y &&& 31).toUInt32).toInt32) :: st))) : Goes p e below W T (mkF m pc Ls (.int y :: .int x :: st)) := by
  obtain ⟨d, rfl⟩ := d
  exact Goes.via (fun _ k => XT.iushr X.here C.hx rfl (hb C.hby d) rfl k) K
theorem g_lshl {x : Int64} {y : Int32} (C : Cx p s m meth c Z own nm bytes maxL ret) (X : St p l e R s m A below meth c Z T h cells slots) (d : Dc bytes pc (.lshl) 1 pc')  (K : Goes p e below W T (mkF m pc' Ls (.long (x <<< (y &&& 0x3f).toInt64) :: st))) : Goes p e below W T (mkF m pc Ls (.int y :: .long x :: st)) := by
  obtain ⟨d, rfl⟩ := d
  exact Goes.via (fun _ k => XS.lshl X.here C.hx rfl (hb C.hby d) rfl k) K
theorem g_lshr {x : Int64} {y : Int32} (C : Cx p s m meth c Z own nm bytes maxL ret) (X : St p l e R s m A below meth c Z T h cells slots) (d : Dc bytes pc (.lshr) 1 pc')  (K : Goes p e below W T (mkF m pc' Ls (.long (x >>> (y &&& 0x3f).toInt64) :: st))) : Goes p e below W T (mkF m pc Ls (.int y :: .long x :: st)) := by
  obtain ⟨d, rfl⟩ := d
  exact Goes.via (fun _ k => XS.lshr X.here C.hx rfl (hb C.hby d) rfl k) K
theorem g_lushr {x : Int64} {y : Int32} (C : Cx p s m meth c Z own nm bytes maxL ret) (X : St p l e R s m A below meth c Z T h cells slots) (d : Dc bytes pc (.lushr) 1 pc')  (K : Goes p e below W T (mkF m pc' Ls (.long ((x.toUInt64 >>> (y &&& 0x3f).toInt64.toUInt64).toInt64) :: st))) : Goes p e below W T (mkF m pc Ls (.int y :: .long x :: st)) := by
  obtain ⟨d, rfl⟩ := d
  exact Goes.via (fun _ k => XS.lushr X.here C.hx rfl (hb C.hby d) rfl k) K
theorem g_i2l {x : Int32} (C : Cx p s m meth c Z own nm bytes maxL ret) (X : St p l e R s m A below meth c Z T h cells slots) (d : Dc bytes pc (.i2l) 1 pc')  (K : Goes p e below W T (mkF m pc' Ls (.long x.toInt64 :: st))) : Goes p e below W T (mkF m pc Ls (.int x :: st)) := by
  obtain ⟨d, rfl⟩ := d
  exact Goes.via (fun _ k => XT.i2l X.here C.hx rfl (hb C.hby d) rfl k) K
theorem g_l2i {x : Int64} (C : Cx p s m meth c Z own nm bytes maxL ret) (X : St p l e R s m A below meth c Z T h cells slots) (d : Dc bytes pc (.l2i) 1 pc')  (K : Goes p e below W T (mkF m pc' Ls (.int x.toInt32 :: st))) : Goes p e below W T (mkF m pc Ls (.long x :: st)) := by
  obtain ⟨d, rfl⟩ := d
  exact Goes.via (fun _ k => XT.l2i X.here C.hx rfl (hb C.hby d) rfl k) K
theorem g_i2b {x : Int32} (C : Cx p s m meth c Z own nm bytes maxL ret) (X : St p l e R s m A below meth c Z T h cells slots) (d : Dc bytes pc (.i2b) 1 pc')  (K : Goes p e below W T (mkF m pc' Ls (.int x.toInt8.toInt32 :: st))) : Goes p e below W T (mkF m pc Ls (.int x :: st)) := by
  obtain ⟨d, rfl⟩ := d
  exact Goes.via (fun _ k => XT.i2b X.here C.hx rfl (hb C.hby d) rfl k) K
theorem g_i2s {x : Int32} (C : Cx p s m meth c Z own nm bytes maxL ret) (X : St p l e R s m A below meth c Z T h cells slots) (d : Dc bytes pc (.i2s) 1 pc')  (K : Goes p e below W T (mkF m pc' Ls (.int x.toInt16.toInt32 :: st))) : Goes p e below W T (mkF m pc Ls (.int x :: st)) := by
  obtain ⟨d, rfl⟩ := d
  exact Goes.via (fun _ k => XT.i2s X.here C.hx rfl (hb C.hby d) rfl k) K
theorem g_i2c {x : Int32} (C : Cx p s m meth c Z own nm bytes maxL ret) (X : St p l e R s m A below meth c Z T h cells slots) (d : Dc bytes pc (.i2c) 1 pc')  (K : Goes p e below W T (mkF m pc' Ls (.int x.toUInt32.toUInt16.toUInt32.toInt32 :: st))) : Goes p e below W T (mkF m pc Ls (.int x :: st)) := by
  obtain ⟨d, rfl⟩ := d
  exact Goes.via (fun _ k => XT.i2c X.here C.hx rfl (hb C.hby d) rfl k) K
theorem g_lcmp {x y : Int64} (C : Cx p s m meth c Z own nm bytes maxL ret) (X : St p l e R s m A below meth c Z T h cells slots) (d : Dc bytes pc (.lcmp) 1 pc')  (K : Goes p e below W T (mkF m pc' Ls (.int (lcmpW x y) :: st))) : Goes p e below W T (mkF m pc Ls (.long y :: .long x :: st)) := by
  obtain ⟨d, rfl⟩ := d
  exact Goes.via (fun _ k => XT.lcmp X.here C.hx rfl (hb C.hby d) rfl k) K
theorem g_pop {x : Value} (C : Cx p s m meth c Z own nm bytes maxL ret) (X : St p l e R s m A below meth c Z T h cells slots) (d : Dc bytes pc (.pop) 1 pc') (hc : x.category = 1) (K : Goes p e below W T (mkF m pc' Ls st)) : Goes p e below W T (mkF m pc Ls (x :: st)) := by
  obtain ⟨d, rfl⟩ := d
  exact Goes.via (fun _ k => XT.pop X.here C.hx rfl (hb C.hby d) rfl hc k) K
theorem g_dup {x : Value} (C : Cx p s m meth c Z own nm bytes maxL ret) (X : St p l e R s m A below meth c Z T h cells slots) (d : Dc bytes pc (.dup) 1 pc') (hc : x.category = 1) (K : Goes p e below W T (mkF m pc' Ls (x :: x :: st))) : Goes p e below W T (mkF m pc Ls (x :: st)) := by
  obtain ⟨d, rfl⟩ := d
  exact Goes.via (fun _ k => XS.dup X.here C.hx rfl (hb C.hby d) rfl hc k) K
theorem g_dup_x1 {x y : Value} (C : Cx p s m meth c Z own nm bytes maxL ret) (X : St p l e R s m A below meth c Z T h cells slots) (d : Dc bytes pc (.dup_x1) 1 pc') (hc : x.category = 1) (hc' : y.category = 1) (K : Goes p e below W T (mkF m pc' Ls (x :: y :: x :: st))) : Goes p e below W T (mkF m pc Ls (x :: y :: st)) := by
  obtain ⟨d, rfl⟩ := d
  exact Goes.via (fun _ k => XT.dupX1 X.here C.hx rfl (hb C.hby d) rfl hc hc' k) K
theorem g_dup2 {x y : Value} (C : Cx p s m meth c Z own nm bytes maxL ret) (X : St p l e R s m A below meth c Z T h cells slots) (d : Dc bytes pc (.dup2) 1 pc') (hc : x.category = 1) (hc' : y.category = 1) (K : Goes p e below W T (mkF m pc' Ls (x :: y :: x :: y :: st))) : Goes p e below W T (mkF m pc Ls (x :: y :: st)) := by
  obtain ⟨d, rfl⟩ := d
  exact Goes.via (fun _ k => XT.dup2 X.here C.hx rfl (hb C.hby d) rfl hc hc' k) K
theorem g_dup2L {x : Int64} (C : Cx p s m meth c Z own nm bytes maxL ret) (X : St p l e R s m A below meth c Z T h cells slots) (d : Dc bytes pc (.dup2) 1 pc')  (K : Goes p e below W T (mkF m pc' Ls (.long x :: .long x :: st))) : Goes p e below W T (mkF m pc Ls (.long x :: st)) := by
  obtain ⟨d, rfl⟩ := d
  exact Goes.via (fun _ k => XT.dup2L X.here C.hx rfl (hb C.hby d) rfl k) K
theorem g_irem {x y : Int32} (C : Cx p s m meth c Z own nm bytes maxL ret) (X : St p l e R s m A below meth c Z T h cells slots) (d : Dc bytes pc .irem 1 pc') (hy : y ≠ 0) (K : Goes p e below W T (mkF m pc' Ls (.int (x % y) :: st))) : Goes p e below W T (mkF m pc Ls (.int y :: .int x :: st)) := by
  obtain ⟨d, rfl⟩ := d
  obtain ⟨_, Y, _⟩ := X
  exact Goes.via (fun _ k => iremM Y C.hx rfl (hb C.hby d) rfl hy k) K
theorem g_lrem {x y : Int64} (C : Cx p s m meth c Z own nm bytes maxL ret) (X : St p l e R s m A below meth c Z T h cells slots) (d : Dc bytes pc .lrem 1 pc') (hy : y ≠ 0) (K : Goes p e below W T (mkF m pc' Ls (.long (x % y) :: st))) : Goes p e below W T (mkF m pc Ls (.long y :: .long x :: st)) := by
  obtain ⟨d, rfl⟩ := d
  rw [← lrem_mod] at K
  exact Goes.via (fun _ k => XT.lrem X.here C.hx rfl (hb C.hby d) rfl hy k) K
theorem g_ldcI {index : Nat} {v : Int32} (C : Cx p s m meth c Z own nm bytes maxL ret) (X : St p l e R s m A below meth c Z T h cells slots) (w : (Jvm.Cond.constant own index v).before a0 Z = true) (d : Dc bytes pc (.ldc index) 2 pc') (K : Goes p e below W T (mkF m pc' Ls (.int v :: st))) : Goes p e below W T (mkF m pc Ls st) := by
  obtain ⟨d, rfl⟩ := d
  obtain ⟨_, Y, _⟩ := X
  exact Goes.via (fun t k => Y.ldcInt C.hx C.hown (mvT C.hZ w) (g := mkF m pc Ls st) rfl (hb C.hby d) t k) K
theorem g_ldcwI {index : Nat} {v : Int32} (C : Cx p s m meth c Z own nm bytes maxL ret) (X : St p l e R s m A below meth c Z T h cells slots) (w : (Jvm.Cond.constant own index v).before a0 Z = true) (d : Dc bytes pc (.ldc_w index) 3 pc') (K : Goes p e below W T (mkF m pc' Ls (.int v :: st))) : Goes p e below W T (mkF m pc Ls st) := by
  obtain ⟨d, rfl⟩ := d
  obtain ⟨_, Y, _⟩ := X
  exact Goes.via (fun t k => Y.ldcWI C.hx C.hown (mvT C.hZ w) (g := mkF m pc Ls st) rfl (hb C.hby d) k) K
theorem g_ldcJ {index : Nat} {v : Int64} (C : Cx p s m meth c Z own nm bytes maxL ret) (X : St p l e R s m A below meth c Z T h cells slots) (w : (Jvm.Cond.constantLong own index v).before a0 Z = true) (d : Dc bytes pc (.ldc2_w index) 3 pc') (K : Goes p e below W T (mkF m pc' Ls (.long v :: st))) : Goes p e below W T (mkF m pc Ls st) := by
  obtain ⟨d, rfl⟩ := d
  obtain ⟨_, Y, _⟩ := X
  exact Goes.via (fun t k => Y.ldc2Long C.hx C.hown (mvT C.hZ w) (g := mkF m pc Ls st) rfl (hb C.hby d) t k) K
theorem g_getstatic {R0 O n dd host : String} {index : Nat} {v : Value} (C : Cx p s m meth c Z own nm bytes maxL ret) (X : St p l e R s m A below meth c Z T h cells slots) (w : (Jvm.Cond.fieldLink own index R0 n dd).before a0 Z = true ∨ (Jvm.Cond.fieldLinkNest own index R0 n dd host).before a0 Z = true) (via : Via Z R0 O n dd) (F : Sta Z Z.heap O n dd v) (d : Dc bytes pc (.getstatic index) 3 pc')
    (K : ∀ T', St p l e R s m A below meth c Z T' h cells slots → Goes p e below W T' (mkF m pc' Ls (v :: st))) : Goes p e below W T (mkF m pc Ls st) := by
  obtain ⟨d, rfl⟩ := d
  obtain ⟨L, Y, eT, N, E⟩ := X
  obtain ⟨T', Y', e', q⟩ := getS2 Y C.hx C.hZ C.hown w via eT (F.ext E) (g := mkF m pc Ls st) rfl (hb C.hby d)
  exact Goes.via q (K T' ⟨L, Y', e', N, E⟩)
theorem g_getfield {R0 O n dd host : String} {index : Nat} {a : Addr} {v : Value} (C : Cx p s m meth c Z own nm bytes maxL ret) (X : St p l e R s m A below meth c Z T h cells slots) (w : (Jvm.Cond.fieldLink own index R0 n dd).before a0 Z = true ∨ (Jvm.Cond.fieldLinkNest own index R0 n dd host).before a0 Z = true) (via : Via Z R0 O n dd) (F : Fld Z h a O n dd v) (d : Dc bytes pc (.getfield index) 3 pc')
    (K : ∀ T', St p l e R s m A below meth c Z T' h cells slots → Goes p e below W T' (mkF m pc' Ls (v :: st))) : Goes p e below W T (mkF m pc Ls (.ref a :: st)) := by
  obtain ⟨d, rfl⟩ := d
  obtain ⟨L, Y, eT, N, E⟩ := X
  obtain ⟨T', Y', e', q⟩ := getF Y C.hx C.hZ C.hown w via eT F (g := mkF m pc Ls (.ref a :: st)) rfl rfl (hb C.hby d)
  exact Goes.via q (K T' ⟨L, Y', e', N, E⟩)
theorem ext_wr {h h' : Heap} {a : Addr} {sl : Nat} {v : Value} (E : Ext Z.heap h) (w : Wr h h' a sl v) (q : Z.heap.size ≤ a) : Ext Z.heap h' := (Old.wr (Z := Z) (n0 := Z.heap.size) (h := h) ⟨rfl, E⟩ w q).2
theorem ext_keep {h h' : Heap} {ws : List Addr} (E : Ext Z.heap h) (w : Keep h h' ws) (q : ∀ x ∈ ws, Z.heap.size ≤ x) : Ext Z.heap h' := (Old.keep (Z := Z) (n0 := Z.heap.size) (h := h) ⟨rfl, E⟩ w q).2
theorem ext_trans {h h' : Heap} (E : Ext Z.heap h) (E' : Ext h h') : Ext Z.heap h' := ⟨Nat.le_trans E.1 E'.1, fun x c q => E'.2 x c (E.2 x c q)⟩
theorem g_putfield {R0 O n dd host K0 : String} {index kk : Nat} {ty : FieldType} {a : Addr} {v old : Value} (C : Cx p s m meth c Z own nm bytes maxL ret) (X : St p l e R s m A below meth c Z T h cells slots) (w : (Jvm.Cond.fieldLink own index R0 n dd).before a0 Z = true ∨ (Jvm.Cond.fieldLinkNest own index R0 n dd host).before a0 Z = true) (via : Via Z R0 O n dd)
    (F : Fld Z h a O n dd old) (Ex : Exa Z h a K0) (L : (Jvm.Cond.lays K0 O n dd).before a0 Z = true ∨ ((Jvm.Cond.laysFinal K0 O n dd).before a0 Z = true ∧ own = O ∧ nm = "<init>")) (wi : (Jvm.Cond.instantiable K0 kk).before a0 Z = true) (hty : parseFieldDescriptor dd = some ty) (hn : narrow ty v = v) (hf : fits ty v = true) (hnew : Z.heap.size ≤ a) (d : Dc bytes pc (.putfield index) 3 pc')
    (K : ∀ T' h', St p l e R s m A below meth c Z T' h' cells slots → Wr h h' a (RoadKit.slotOf Z O n dd) v → Goes p e below W T' (mkF m pc' Ls st)) : Goes p e below W T (mkF m pc Ls (v :: .ref a :: st)) := by
  obtain ⟨d, rfl⟩ := d
  obtain ⟨L0, Y, eT, N, E⟩ := X
  obtain ⟨T', h', Y', e', W', q⟩ := putF Y C.hx C.hZ C.hown w via eT F Ex (L.imp id fun z => ⟨z.1, z.2.1, C.hnm.trans z.2.2⟩) wi hty hn hf (g := mkF m pc Ls (v :: .ref a :: st)) rfl rfl (hb C.hby d)
  exact Goes.via q (K T' h' ⟨_, Y', e', Fr.snoc Y' N hnew, ext_wr E W' hnew⟩ W')
theorem g_new {K0 : String} {index n : Nat} (C : Cx p s m meth c Z own nm bytes maxL ret) (X : St p l e R s m A below meth c Z T h cells slots) (w : (Jvm.Cond.classLink own index K0).before a0 Z = true) (wi : (Jvm.Cond.instantiable K0 n).before a0 Z = true) (wz : (Jvm.Cond.initialized K0).before a0 Z = true) (d : Dc bytes pc (.new index) 3 pc') (hc : cells + 1 ≤ R.cells) (hl : slots + n ≤ R.slots)
    (K : ∀ T' h' b, b = h.size → Z.heap.size ≤ b → St p l e R s m A below meth c Z T' h' (cells + 1) (slots + n) → Ext h h' → Exa Z h' b K0 → (∀ {O f dd : String} {ty : FieldType}, Laid Z a0 K0 O f dd → parseFieldDescriptor dd = some ty → Fld Z h' b O f dd (defaultValue ty)) → (∃ cell : Cell, h'[b]? = some cell ∧ cell.vm = .none ∧ cell.monitor = {}) → Goes p e below W T' (mkF m pc' Ls (.ref b :: st))) : Goes p e below W T (mkF m pc Ls st) := by
  obtain ⟨d, rfl⟩ := d
  obtain ⟨L0, Y, eT, N, E⟩ := X
  obtain ⟨T', h', Y', e', E', A', D', M', q⟩ := newO Y C.hx C.hZ C.hown w wi wz eT (g := mkF m pc Ls st) rfl (hb C.hby d) hc hl
  exact Goes.via q (K T' h' _ rfl E.1 ⟨_, Y', e', N, ext_trans E E'⟩ E' A' D' M')
theorem g_newarray {aty : ArrayType} {n : Int32} (C : Cx p s m meth c Z own nm bytes maxL ret) (X : St p l e R s m A below meth c Z T h cells slots) (w : (Jvm.Cond.arrayClass (newarray.typeOf aty)).before a0 Z = true) (d : Dc bytes pc (.newarray aty) 2 pc') (hn : ¬ n < 0) (len cap : Nat) (hcap : n.toNatClampNeg ≤ cap) (hb' : cap * 8 ≤ 536870912) (hc : cells + 1 ≤ R.cells) (hl : slots + cap ≤ R.slots)
    (K : ∀ T' h' b k, b = h.size → Z.heap.size ≤ b → St p l e R s m A below meth c Z T' h' (cells + 1) (slots + cap) → Ext h h' → Arv Z h' b k (newarray.typeOf aty) n (List.replicate len (defaultValue (newarray.typeOf aty))) (defaultValue (newarray.typeOf aty)) → Goes p e below W T' (mkF m pc' Ls (.ref b :: st))) : Goes p e below W T (mkF m pc Ls (.int n :: st)) := by
  obtain ⟨d, rfl⟩ := d
  obtain ⟨L0, Y, eT, N, E⟩ := X
  obtain ⟨T', h', k, Y', e', E', A', q⟩ := newP Y C.hx C.hZ w eT (g := mkF m pc Ls (.int n :: st)) rfl (hb C.hby d) rfl hn hcap hb' hc hl
  exact Goes.via q (K T' h' _ k rfl E.1 ⟨_, Y', e', N, ext_trans E E'⟩ E' ((Arv.new A' hn).pad (pad_rep [] _ len)))
theorem g_checkcast {K0 : String} {index : Nat} {a : Addr} (C : Cx p s m meth c Z own nm bytes maxL ret) (X : St p l e R s m A below meth c Z T h cells slots) (w : (Jvm.Cond.classLink own index K0).before a0 Z = true) (F : Ins Z h a K0 true) (d : Dc bytes pc (.checkcast index) 3 pc')
    (K : ∀ T', St p l e R s m A below meth c Z T' h cells slots → Goes p e below W T' (mkF m pc' Ls (.ref a :: st))) : Goes p e below W T (mkF m pc Ls (.ref a :: st)) := by
  obtain ⟨d, rfl⟩ := d
  obtain ⟨L, Y, eT, N, E⟩ := X
  obtain ⟨T', Y', e', q⟩ := castY Y C.hx C.hZ C.hown w eT F (g := mkF m pc Ls (.ref a :: st)) rfl rfl (hb C.hby d)
  exact Goes.via q (K T' ⟨L, Y', e', N, E⟩)
theorem g_checkcastN {index : Nat} (C : Cx p s m meth c Z own nm bytes maxL ret) (X : St p l e R s m A below meth c Z T h cells slots) (d : Dc bytes pc (.checkcast index) 3 pc') (K : Goes p e below W T (mkF m pc' Ls (.null :: st))) : Goes p e below W T (mkF m pc Ls (.null :: st)) := by
  obtain ⟨d, rfl⟩ := d
  obtain ⟨L, Y, eT, N, E⟩ := X
  exact Goes.via (Y.checkcastNull C.hx (g := mkF m pc Ls (.null :: st)) rfl rfl (hb C.hby d)) K
theorem g_instanceY {K0 : String} {index : Nat} {a : Addr} (C : Cx p s m meth c Z own nm bytes maxL ret) (X : St p l e R s m A below meth c Z T h cells slots) (w : (Jvm.Cond.classLink own index K0).before a0 Z = true) (F : Ins Z h a K0 true) (d : Dc bytes pc (.instanceof index) 3 pc')
    (K : ∀ T', St p l e R s m A below meth c Z T' h cells slots → Goes p e below W T' (mkF m pc' Ls (.int 1 :: st))) : Goes p e below W T (mkF m pc Ls (.ref a :: st)) := by
  obtain ⟨d, rfl⟩ := d
  obtain ⟨L, Y, eT, N, E⟩ := X
  obtain ⟨T', Y', e', q⟩ := instY Y C.hx C.hZ C.hown w eT F (g := mkF m pc Ls (.ref a :: st)) rfl rfl (hb C.hby d)
  exact Goes.via q (K T' ⟨L, Y', e', N, E⟩)
theorem g_instanceN {index : Nat} (C : Cx p s m meth c Z own nm bytes maxL ret) (X : St p l e R s m A below meth c Z T h cells slots) (d : Dc bytes pc (.instanceof index) 3 pc') (K : Goes p e below W T (mkF m pc' Ls (.int 0 :: st))) : Goes p e below W T (mkF m pc Ls (.null :: st)) := by
  obtain ⟨d, rfl⟩ := d
  obtain ⟨L, Y, eT, N, E⟩ := X
  exact Goes.via (Y.instanceofNull C.hx (g := mkF m pc Ls (.null :: st)) rfl rfl (hb C.hby d)) K
theorem keep_ext {h h' : Heap} (K : Keep h h' []) : Ext h h' := ⟨K.1, fun x c q => K.2.1 x c q nin0⟩
theorem ext_keep0 {h h' : Heap} (E : Ext h h') (ws : List Addr) : Keep h h' ws := (Keep.refl h ws).ext E
/-- a place of an array -/
theorem in_of {n j : Int32} {c : Cell} (S : c.slots.size = n.toNatClampNeg) (hj : ¬ j < 0) (hj' : j < n) : ¬ (j < 0 ∨ c.slots.size ≤ j.toNatClampNeg) := inb_of S ⟨hj, hj'⟩
theorem g_arraylength {a : Addr} {k : ClassId} {ty : FieldType} {n : Int32} {vs : List Value} {dv : Value} (C : Cx p s m meth c Z own nm bytes maxL ret) (X : St p l e R s m A below meth c Z T h cells slots) (F : Arv Z h a k ty n vs dv) (d : Dc bytes pc .arraylength 1 pc') (K : Goes p e below W T (mkF m pc' Ls (.int n :: st))) : Goes p e below W T (mkF m pc Ls (.ref a :: st)) := by
  obtain ⟨d, rfl⟩ := d
  obtain ⟨L0, Y, eT, N, E⟩ := X
  obtain ⟨cl, Ar, -, hS, hN, -, -⟩ := F
  rw [← len_of hS hN] at K
  exact Goes.via (Y.arraylength C.hx (by rw [eT]; exact Ar.1) (State.isArrayOf_alike C.hZ.alike Ar.2.1) (g := mkF m pc Ls (.ref a :: st)) rfl rfl (hb C.hby d)) K
theorem g_iaload {a : Addr} {k : ClassId} {n j : Int32} {vs : List Value} {dv : Value} {v : Int32} (C : Cx p s m meth c Z own nm bytes maxL ret) (X : St p l e R s m A below meth c Z T h cells slots) (F : Arv Z h a k .int n vs dv) (d : Dc bytes pc .iaload 1 pc') (hj : ¬ j < 0) (hj' : j < n) (hv : vs.getD j.toNatClampNeg dv = .int v) (K : Goes p e below W T (mkF m pc' Ls (.int v :: st))) : Goes p e below W T (mkF m pc Ls (.int j :: .ref a :: st)) := by
  obtain ⟨d, rfl⟩ := d
  obtain ⟨L0, Y, eT, N, E⟩ := X
  obtain ⟨cl, Ar, -, hS, hN, hH, -⟩ := F
  have hin := in_of hS hj hj'
  exact Goes.via (Y.iaload C.hx (j := j) (v := .int v) (by rw [eT]; exact Ar.1) (State.isArrayOf_alike C.hZ.alike Ar.2.1) Ar.2.2 hin (hH.at hin hv) (g := mkF m pc Ls (.int j :: .ref a :: st)) rfl rfl (hb C.hby d)) K
theorem g_caload {a : Addr} {k : ClassId} {n j : Int32} {vs : List Value} {dv : Value} {v : Int32} (C : Cx p s m meth c Z own nm bytes maxL ret) (X : St p l e R s m A below meth c Z T h cells slots) (F : Arv Z h a k .char n vs dv) (d : Dc bytes pc .caload 1 pc') (hj : ¬ j < 0) (hj' : j < n) (hv : vs.getD j.toNatClampNeg dv = .int v) (K : Goes p e below W T (mkF m pc' Ls (.int v :: st))) : Goes p e below W T (mkF m pc Ls (.int j :: .ref a :: st)) := by
  obtain ⟨d, rfl⟩ := d
  obtain ⟨L0, Y, eT, N, E⟩ := X
  obtain ⟨cl, Ar, -, hS, hN, hH, -⟩ := F
  have hin := in_of hS hj hj'
  exact Goes.via (Y.caload C.hx (j := j) (v := .int v) (by rw [eT]; exact Ar.1) (State.isArrayOf_alike C.hZ.alike Ar.2.1) Ar.2.2 hin (hH.at hin hv) (g := mkF m pc Ls (.int j :: .ref a :: st)) rfl rfl (hb C.hby d)) K
theorem g_saload {a : Addr} {k : ClassId} {n j : Int32} {vs : List Value} {dv : Value} {v : Int32} (C : Cx p s m meth c Z own nm bytes maxL ret) (X : St p l e R s m A below meth c Z T h cells slots) (F : Arv Z h a k .short n vs dv) (d : Dc bytes pc .saload 1 pc') (hj : ¬ j < 0) (hj' : j < n) (hv : vs.getD j.toNatClampNeg dv = .int v) (K : Goes p e below W T (mkF m pc' Ls (.int v :: st))) : Goes p e below W T (mkF m pc Ls (.int j :: .ref a :: st)) := by
  obtain ⟨d, rfl⟩ := d
  obtain ⟨L0, Y, eT, N, E⟩ := X
  obtain ⟨cl, Ar, -, hS, hN, hH, -⟩ := F
  have hin := in_of hS hj hj'
  exact Goes.via (Y.saload C.hx (j := j) (v := .int v) (by rw [eT]; exact Ar.1) (State.isArrayOf_alike C.hZ.alike Ar.2.1) Ar.2.2 hin (hH.at hin hv) (g := mkF m pc Ls (.int j :: .ref a :: st)) rfl rfl (hb C.hby d)) K
theorem g_baload {a : Addr} {k : ClassId} {n j : Int32} {vs : List Value} {dv : Value} {v : Int32} (C : Cx p s m meth c Z own nm bytes maxL ret) (X : St p l e R s m A below meth c Z T h cells slots) (F : Arv Z h a k .byte n vs dv) (d : Dc bytes pc .baload 1 pc') (hj : ¬ j < 0) (hj' : j < n) (hv : vs.getD j.toNatClampNeg dv = .int v) (K : Goes p e below W T (mkF m pc' Ls (.int v :: st))) : Goes p e below W T (mkF m pc Ls (.int j :: .ref a :: st)) := by
  obtain ⟨d, rfl⟩ := d
  obtain ⟨L0, Y, eT, N, E⟩ := X
  obtain ⟨cl, Ar, -, hS, hN, hH, -⟩ := F
  have hin := in_of hS hj hj'
  exact Goes.via (Y.baloadBytes C.hx (j := j) (v := .int v) (by rw [eT]; exact Ar.1) (State.isArrayOf_alike C.hZ.alike Ar.2.1) Ar.2.2 hin (hH.at hin hv) (g := mkF m pc Ls (.int j :: .ref a :: st)) rfl rfl (hb C.hby d)) K
theorem g_laload {a : Addr} {k : ClassId} {n j : Int32} {vs : List Value} {dv : Value} {v : Int64} (C : Cx p s m meth c Z own nm bytes maxL ret) (X : St p l e R s m A below meth c Z T h cells slots) (F : Arv Z h a k .long n vs dv) (d : Dc bytes pc .laload 1 pc') (hj : ¬ j < 0) (hj' : j < n) (hv : vs.getD j.toNatClampNeg dv = .long v) (K : Goes p e below W T (mkF m pc' Ls (.long v :: st))) : Goes p e below W T (mkF m pc Ls (.int j :: .ref a :: st)) := by
  obtain ⟨d, rfl⟩ := d
  obtain ⟨L0, Y, eT, N, E⟩ := X
  obtain ⟨cl, Ar, -, hS, hN, hH, -⟩ := F
  have hin := in_of hS hj hj'
  exact Goes.via (Y.laload C.hx (j := j) (v := .long v) (by rw [eT]; exact Ar.1) (State.isArrayOf_alike C.hZ.alike Ar.2.1) Ar.2.2 hin (hH.at hin hv) (g := mkF m pc Ls (.int j :: .ref a :: st)) rfl rfl (hb C.hby d)) K
theorem g_aaload {a : Addr} {k : ClassId} {ty : FieldType} {n j : Int32} {vs : List Value} {dv v : Value} (C : Cx p s m meth c Z own nm bytes maxL ret) (X : St p l e R s m A below meth c Z T h cells slots) (F : Arv Z h a k ty n vs dv) (hty : ty.isReference = true) (d : Dc bytes pc .aaload 1 pc') (hj : ¬ j < 0) (hj' : j < n) (hv : vs.getD j.toNatClampNeg dv = v) (K : Goes p e below W T (mkF m pc' Ls (v :: st))) : Goes p e below W T (mkF m pc Ls (.int j :: .ref a :: st)) := by
  obtain ⟨d, rfl⟩ := d
  obtain ⟨L0, Y, eT, N, E⟩ := X
  obtain ⟨cl, Ar, -, hS, hN, hH, -⟩ := F
  have hin := in_of hS hj hj'
  exact Goes.via (Y.aaload C.hx (j := j) (v := v) (by rw [eT]; exact Ar.1) (State.isArrayOf_alike C.hZ.alike Ar.2.1) hty Ar.2.2 hin (hH.at hin hv) (g := mkF m pc Ls (.int j :: .ref a :: st)) rfl rfl (hb C.hby d)) K
theorem g_iastore {a : Addr} {k : ClassId} {n j : Int32} {vs : List Value} {dv : Value} {x : Int32} (C : Cx p s m meth c Z own nm bytes maxL ret) (X : St p l e R s m A below meth c Z T h cells slots) (F : Arv Z h a k .int n vs dv) (hnew : Z.heap.size ≤ a) (d : Dc bytes pc .iastore 1 pc') (hj : ¬ j < 0) (hj' : j < n) (hi : j.toNatClampNeg < vs.length) (y : Value) (hy : .int x = y)
    (K : ∀ T' h', St p l e R s m A below meth c Z T' h' cells slots → Wr h h' a j.toNatClampNeg y → Arv Z h' a k .int n (vs.set j.toNatClampNeg y) dv → Goes p e below W T' (mkF m pc' Ls st)) : Goes p e below W T (mkF m pc Ls (.int x :: .int j :: .ref a :: st)) := by
  subst hy
  obtain ⟨d, rfl⟩ := d
  obtain ⟨L0, Y, eT, N, E⟩ := X
  obtain ⟨cl, Ar, q1, hS, hN, hH, hG⟩ := F
  have hin := in_of hS hj hj'
  obtain ⟨T', h', Y', e', W', q⟩ := stI Y C.hx C.hZ eT Ar hin (g := mkF m pc Ls (.int x :: .int j :: .ref a :: st)) rfl rfl (hb C.hby d)
  exact Goes.via q (K T' h' ⟨_, Y', e', Fr.snoc Y' N hnew, ext_wr E W' hnew⟩ W' (Arv.set Ar q1 hS hN hH hG rfl W' _ rfl hi))
theorem g_castore {a : Addr} {k : ClassId} {n j : Int32} {vs : List Value} {dv : Value} {x : Int32} (C : Cx p s m meth c Z own nm bytes maxL ret) (X : St p l e R s m A below meth c Z T h cells slots) (F : Arv Z h a k .char n vs dv) (hnew : Z.heap.size ≤ a) (d : Dc bytes pc .castore 1 pc') (hj : ¬ j < 0) (hj' : j < n) (hi : j.toNatClampNeg < vs.length) (y : Value) (hy : .int (nar .char x) = y)
    (K : ∀ T' h', St p l e R s m A below meth c Z T' h' cells slots → Wr h h' a j.toNatClampNeg y → Arv Z h' a k .char n (vs.set j.toNatClampNeg y) dv → Goes p e below W T' (mkF m pc' Ls st)) : Goes p e below W T (mkF m pc Ls (.int x :: .int j :: .ref a :: st)) := by
  subst hy
  obtain ⟨d, rfl⟩ := d
  obtain ⟨L0, Y, eT, N, E⟩ := X
  obtain ⟨cl, Ar, q1, hS, hN, hH, hG⟩ := F
  have hin := in_of hS hj hj'
  obtain ⟨T', h', Y', e', W', q⟩ := stC Y C.hx C.hZ eT Ar hin (g := mkF m pc Ls (.int x :: .int j :: .ref a :: st)) rfl rfl (hb C.hby d)
  exact Goes.via q (K T' h' ⟨_, Y', e', Fr.snoc Y' N hnew, ext_wr E W' hnew⟩ W' (Arv.set Ar q1 hS hN hH hG (fits_nar_char _) W' _ rfl hi))
theorem g_sastore {a : Addr} {k : ClassId} {n j : Int32} {vs : List Value} {dv : Value} {x : Int32} (C : Cx p s m meth c Z own nm bytes maxL ret) (X : St p l e R s m A below meth c Z T h cells slots) (F : Arv Z h a k .short n vs dv) (hnew : Z.heap.size ≤ a) (d : Dc bytes pc .sastore 1 pc') (hj : ¬ j < 0) (hj' : j < n) (hi : j.toNatClampNeg < vs.length) (y : Value) (hy : .int (nar .short x) = y)
    (K : ∀ T' h', St p l e R s m A below meth c Z T' h' cells slots → Wr h h' a j.toNatClampNeg y → Arv Z h' a k .short n (vs.set j.toNatClampNeg y) dv → Goes p e below W T' (mkF m pc' Ls st)) : Goes p e below W T (mkF m pc Ls (.int x :: .int j :: .ref a :: st)) := by
  subst hy
  obtain ⟨d, rfl⟩ := d
  obtain ⟨L0, Y, eT, N, E⟩ := X
  obtain ⟨cl, Ar, q1, hS, hN, hH, hG⟩ := F
  have hin := in_of hS hj hj'
  obtain ⟨T', h', Y', e', W', q⟩ := stS Y C.hx C.hZ eT Ar hin (g := mkF m pc Ls (.int x :: .int j :: .ref a :: st)) rfl rfl (hb C.hby d)
  exact Goes.via q (K T' h' ⟨_, Y', e', Fr.snoc Y' N hnew, ext_wr E W' hnew⟩ W' (Arv.set Ar q1 hS hN hH hG (fits_nar_short _) W' _ rfl hi))
theorem g_bastore {a : Addr} {k : ClassId} {n j : Int32} {vs : List Value} {dv : Value} {x : Int32} (C : Cx p s m meth c Z own nm bytes maxL ret) (X : St p l e R s m A below meth c Z T h cells slots) (F : Arv Z h a k .byte n vs dv) (hnew : Z.heap.size ≤ a) (d : Dc bytes pc .bastore 1 pc') (hj : ¬ j < 0) (hj' : j < n) (hi : j.toNatClampNeg < vs.length) (y : Value) (hy : .int (nar .byte x) = y)
    (K : ∀ T' h', St p l e R s m A below meth c Z T' h' cells slots → Wr h h' a j.toNatClampNeg y → Arv Z h' a k .byte n (vs.set j.toNatClampNeg y) dv → Goes p e below W T' (mkF m pc' Ls st)) : Goes p e below W T (mkF m pc Ls (.int x :: .int j :: .ref a :: st)) := by
  subst hy
  obtain ⟨d, rfl⟩ := d
  obtain ⟨L0, Y, eT, N, E⟩ := X
  obtain ⟨cl, Ar, q1, hS, hN, hH, hG⟩ := F
  have hin := in_of hS hj hj'
  obtain ⟨T', h', Y', e', W', q⟩ := stB Y C.hx C.hZ eT Ar hin (g := mkF m pc Ls (.int x :: .int j :: .ref a :: st)) rfl rfl (hb C.hby d)
  exact Goes.via q (K T' h' ⟨_, Y', e', Fr.snoc Y' N hnew, ext_wr E W' hnew⟩ W' (Arv.set Ar q1 hS hN hH hG (fits_nar_byte _) W' _ rfl hi))
theorem g_lastore {a : Addr} {k : ClassId} {n j : Int32} {vs : List Value} {dv : Value} {x : Int64} (C : Cx p s m meth c Z own nm bytes maxL ret) (X : St p l e R s m A below meth c Z T h cells slots) (F : Arv Z h a k .long n vs dv) (hnew : Z.heap.size ≤ a) (d : Dc bytes pc .lastore 1 pc') (hj : ¬ j < 0) (hj' : j < n) (hi : j.toNatClampNeg < vs.length) (y : Value) (hy : .long x = y)
    (K : ∀ T' h', St p l e R s m A below meth c Z T' h' cells slots → Wr h h' a j.toNatClampNeg y → Arv Z h' a k .long n (vs.set j.toNatClampNeg y) dv → Goes p e below W T' (mkF m pc' Ls st)) : Goes p e below W T (mkF m pc Ls (.long x :: .int j :: .ref a :: st)) := by
  subst hy
  obtain ⟨d, rfl⟩ := d
  obtain ⟨L0, Y, eT, N, E⟩ := X
  obtain ⟨cl, Ar, q1, hS, hN, hH, hG⟩ := F
  have hin := in_of hS hj hj'
  obtain ⟨T', h', Y', e', W', q⟩ := stJ Y C.hx C.hZ eT Ar hin (g := mkF m pc Ls (.long x :: .int j :: .ref a :: st)) rfl rfl (hb C.hby d)
  exact Goes.via q (K T' h' ⟨_, Y', e', Fr.snoc Y' N hnew, ext_wr E W' hnew⟩ W' (Arv.set Ar q1 hS hN hH hG rfl W' _ rfl hi))
theorem st_back {T' : State} {h' : Heap} {k n : Nat} {B : Pt} {locs L : List Loc} (Y' : Stand p l e R s m A below meth c B.U B.locs B.cells B.slots) (hB : B.locs = locs ++ L ∧ B.cells = cells + k ∧ B.slots = slots + n) (N : Fr Z.heap.size locs) (N' : Fr Z.heap.size L) (E : Ext Z.heap B.U.heap) : St p l e R s m A below meth c Z B.U B.U.heap (cells + k) (slots + n) := by
  obtain ⟨b1, b2, b3⟩ := hB
  rw [b1, b2, b3] at Y'
  exact ⟨_, Y', rfl, N.app N', E⟩
theorem g_arraycopy {index : Nat} {a b : Addr} {k k' : ClassId} {ty : FieldType} {z z' sp dp nn : Int32} {vs vd : List Value} {dv dd : Value} (C : Cx p s m meth c Z own nm bytes maxL ret) (X : St p l e R s m A below meth c Z T h cells slots)
    (w1 : (Jvm.Cond.methodLink own index Jvm.Stand.acN).before a0 Z = true) (w2 : (Jvm.Cond.native Jvm.Stand.acN).before a0 Z = true) (w3 : (Jvm.Cond.static Jvm.Stand.acN).before a0 Z = true) (w4 : (Jvm.Cond.initialized "java/lang/System").before a0 Z = true)
    (F : Arv Z h a k ty z vs dv) (G : Arv Z h b k' ty z' vd dd) (hty : refKind ty = false) (h1 : ¬ sp < 0) (h2 : ¬ dp < 0) (h3 : ¬ nn < 0) (h4 : sp.toNatClampNeg + nn.toNatClampNeg ≤ z.toNatClampNeg) (h5 : dp.toNatClampNeg + nn.toNatClampNeg ≤ z'.toNatClampNeg)
    (us : List Value) (hus : us = (List.range nn.toNatClampNeg).map fun i => vs.getD (sp.toNatClampNeg + i) dv) (hl : dp.toNatClampNeg + nn.toNatClampNeg ≤ vd.length) (hnew : Z.heap.size ≤ b) (hsz : Ls.size = maxL) (d : Dc bytes pc (.invokestatic index) 3 pc') (hf : 1 ≤ R.frames) (W' : Nat) (hW : (st.map fun v => v.category).sum ≤ W') (hlo : W' + (nativeFrameWords "java/lang/System" "arraycopy" 5 + 11) ≤ R.locals)
    (K : ∀ T' h', St p l e R s m A below meth c Z T' h' cells slots → Keep h h' [b] → Arv Z h' b k' ty z' (vd.take dp.toNatClampNeg ++ us ++ vd.drop (dp.toNatClampNeg + nn.toNatClampNeg)) dd → Goes p e below W T' (mkF m pc' Ls st)) : Goes p e below W T (mkF m pc Ls (.int nn :: .int dp :: .ref b :: .int sp :: .ref a :: st)) := by
  obtain ⟨d, rfl⟩ := d
  obtain ⟨L0, Y, eT, N, E⟩ := X
  obtain ⟨T', h', L', Y', e', N', K', A', q⟩ := cpA Y C.hx C.hZ C.hown w1 w2 w3 w4 eT F G (Or.inl ⟨rfl, hty⟩) h1 h2 h3 h4 h5 hus hl N hnew (g := mkF m pc Ls (.int nn :: .int dp :: .ref b :: .int sp :: .ref a :: st)) rfl (hsz.trans C.hml.symm) rfl (hb C.hby d) hf (W := W') (by show 2 * 0 + _ ≤ _; omega) hlo
  exact Goes.via q (K T' h' ⟨L', Y', e', N', ext_keep E K' (allS hnew all0)⟩ K' A')
/-- a Back that serves a call: what a contract pays -/
def Pay (l : Launch) (R : Room) (p : Program) (e : Env) (below : List Frame) (s : State) (A : Array Value) (y : MethodName) (len W k n : Nat) (Z : State) (as' : Array Value) (h : Heap) (Q : Option Value → Heap → Prop) : Prop :=
  Back l R p e below s A y len W (fun P a => a = as' ∧ P.U.heap = h ∧ P.cells + k ≤ R.cells ∧ P.slots + n ≤ R.slots)
    (fun P _ v B => ∃ L, (Fr Z.heap.size L ∧ Ext Z.heap B.U.heap ∧ Q v B.U.heap) ∧ B.locs = P.locs ++ L ∧ B.cells = P.cells + k ∧ B.slots = P.slots + n)
theorem pay_of {y : MethodName} {bytes' : ByteArray} {maxL' len W' : Nat} {ret' : Option FieldType} {rm : Room} {as' : Array Value} {Q : Option Value → Heap → Prop} (hM : Con l y bytes' maxL' ret' [] rm Z as' h Q) (hZ : Z.Warmed39 s.vm) (wc : (Jvm.Cond.code y bytes' maxL' ret').before a0 Z = true) (wz : (Jvm.Cond.initialized y.cls).before a0 Z = true) (hf : rm.frames + 1 ≤ R.frames) (hl : W' + (maxL' + 11) + rm.locals ≤ R.locals) :
    Pay l R p e below s A y len W' rm.cells rm.slots Z as' h Q := backOf (Q := fun v h' L => Fr Z.heap.size L ∧ Ext Z.heap h' ∧ Q v h') hM hZ wc wz hf hl
theorem g_static {index k n : Nat} {y : MethodName} {bytes' : ByteArray} {maxL' W' : Nat} {ret' : Option FieldType} {argsL : List Value} {Q : Option Value → Heap → Prop} {ps : List FieldType} {rt : Option FieldType} (C : Cx p s m meth c Z own nm bytes maxL ret) (X : St p l e R s m A below meth c Z T h cells slots)
    (w1 : (Jvm.Cond.methodLink own index y).before a0 Z = true) (w2 : (Jvm.Cond.static y).before a0 Z = true) (w3 : (Jvm.Cond.initialized y.cls).before a0 Z = true) (w4 : (Jvm.Cond.code y bytes' maxL' ret').before a0 Z = true) (hy : y.cls ≠ "java/lang/invoke/MethodHandle" ∧ y.cls ≠ "java/lang/invoke/VarHandle")
    (hK : Pay l R p e below s A y 3 W' k n Z argsL.toArray h Q) (pd : parseMethodDescriptor y.desc = some ⟨ps, rt⟩) (hlen : argsL.length = ps.length) (hsz : Ls.size = maxL) (stk : List Value) (hst : stk = argsL.reverse ++ st) (hW : (st.map fun v => v.category).sum ≤ W') (d : Dc bytes pc (.invokestatic index) 3 pc') (hc : cells + k ≤ R.cells) (hs : slots + n ≤ R.slots)
    (K : ∀ T' h' v, Q v h' → St p l e R s m A below meth c Z T' h' (cells + k) (slots + n) → Goes p e below W T' (mkF m pc' Ls (v.toList ++ st))) : Goes p e below W T (mkF m pc Ls stk) := by
  obtain ⟨d, rfl⟩ := d
  obtain ⟨L0, Y, eT, N, E⟩ := X
  obtain ⟨v, vm₁, B, -, Y', ⟨L, ⟨N', E', hQ⟩, hB⟩, q⟩ := Jvm.LawKit.callS Y C.hx C.hown (mvT C.hZ w1) (mvT C.hZ w2) (mvT C.hZ w3) (mvT C.hZ w4) hy hK (g := mkF m pc Ls stk) rfl (hsz.trans C.hml.symm) (argsL := argsL) (rest := st) (lenOf pd hlen) hst (by show 2 * 0 + _ ≤ _; omega) (hb C.hby d) (fun _ _ => ⟨rfl, eT, hc, hs⟩)
  exact Goes.via q (K _ _ v hQ (st_back (T' := T) (h' := h) Y' hB N N' E'))
theorem g_special {index k n : Nat} {y : MethodName} {bytes' : ByteArray} {maxL' W' : Nat} {argsL : List Value} {Q : Option Value → Heap → Prop} {ps : List FieldType} {rt : Option FieldType} {a : Addr} (C : Cx p s m meth c Z own nm bytes maxL ret) (X : St p l e R s m A below meth c Z T h cells slots) (hi : y.name = "<init>")
    (w1 : (Jvm.Cond.methodLink own index y).before a0 Z = true) (w2 : (Jvm.Cond.instanceMethod y).before a0 Z = true) (w4 : (Jvm.Cond.code y bytes' maxL' none).before a0 Z = true) (hy : y.cls ≠ "java/lang/invoke/MethodHandle" ∧ y.cls ≠ "java/lang/invoke/VarHandle")
    (hK : Pay l R p e below s A y 3 W' k n Z (.ref a :: argsL).toArray h Q) (pd : parseMethodDescriptor y.desc = some ⟨ps, rt⟩) (hlen : argsL.length = ps.length) (hsz : Ls.size = maxL) (stk : List Value) (hst : stk = argsL.reverse ++ .ref a :: st) (hW : (st.map fun v => v.category).sum ≤ W') (d : Dc bytes pc (.invokespecial index) 3 pc') (hc : cells + k ≤ R.cells) (hs : slots + n ≤ R.slots)
    (K : ∀ T' h' v, Q v h' → St p l e R s m A below meth c Z T' h' (cells + k) (slots + n) → Goes p e below W T' (mkF m pc' Ls (v.toList ++ st))) : Goes p e below W T (mkF m pc Ls stk) := by
  obtain ⟨d, rfl⟩ := d
  obtain ⟨L0, Y, eT, N, E⟩ := X
  obtain ⟨v, vm₁, B, -, Y', ⟨L, ⟨N', E', hQ⟩, hB⟩, q⟩ := Y.specialBack C.hx (y := y) hi C.hown (mvT C.hZ w1) (mvT C.hZ w2) (mvT C.hZ w4) hy hK (g := mkF m pc Ls stk) rfl (hsz.trans C.hml.symm) (Steps.refl _) (a := a) (argsL := argsL) (rest := st) (lenOf pd hlen) hst (by show 2 * 0 + _ ≤ _; omega) (hb C.hby d) (fun _ _ => ⟨rfl, eT, hc, hs⟩)
  exact Goes.via (fun _ k => q.trans k) (K _ _ v hQ (st_back (T' := T) (h' := h) Y' hB N N' E'))
theorem g_virtual {index k n : Nat} {y z : MethodName} {K0 : String} {W' : Nat} {argsL : List Value} {Q : Option Value → Heap → Prop} {ps : List FieldType} {rt : Option FieldType} {a : Addr} (C : Cx p s m meth c Z own nm bytes maxL ret) (X : St p l e R s m A below meth c Z T h cells slots)
    (w1 : (Jvm.Cond.methodLink own index y).before a0 Z = true) (w2 : (Jvm.Cond.declares y).before a0 Z = true) (nf : NotFace s y) (w3 : (Jvm.Cond.selects K0 y z).before a0 Z = true) (w4 : (Jvm.Cond.instanceMethod z).before a0 Z = true) (hy : y.cls ≠ "java/lang/invoke/MethodHandle" ∧ y.cls ≠ "java/lang/invoke/VarHandle") (Ex : Exa Z h a K0)
    (hK : Pay l R p e below s A z 3 W' k n Z (.ref a :: argsL).toArray h Q) (pd : parseMethodDescriptor y.desc = some ⟨ps, rt⟩) (hlen : argsL.length = ps.length) (hsz : Ls.size = maxL) (stk : List Value) (hst : stk = argsL.reverse ++ .ref a :: st) (hW : (st.map fun v => v.category).sum ≤ W') (d : Dc bytes pc (.invokevirtual index) 3 pc') (hc : cells + k ≤ R.cells) (hs : slots + n ≤ R.slots)
    (K : ∀ T' h' v, Q v h' → St p l e R s m A below meth c Z T' h' (cells + k) (slots + n) → Goes p e below W T' (mkF m pc' Ls (v.toList ++ st))) : Goes p e below W T (mkF m pc Ls stk) := by
  obtain ⟨d, rfl⟩ := d
  obtain ⟨L0, Y, eT, N, E⟩ := X
  obtain ⟨cq, kq, qa, qb, qc⟩ := isOf C.hZ eT Ex
  obtain ⟨v, vm₁, B, -, Y', ⟨L, ⟨N', E', hQ⟩, hB⟩, q⟩ := Y.virtualBack C.hx (y := y) (z := z) C.hown (mvT C.hZ w1) (mvT C.hZ w2) nf (mvT C.hZ w3) (mvT C.hZ w4) hy hK qa qc (g := mkF m pc Ls stk) rfl (hsz.trans C.hml.symm) (Steps.refl _) (argsL := argsL) (rest := st) (lenOf pd hlen) hst (by show 2 * 0 + _ ≤ _; omega) (hb C.hby d) (fun _ _ => ⟨rfl, eT, hc, hs⟩)
  exact Goes.via (fun _ k => q.trans k) (K _ _ v hQ (st_back (T' := T) (h' := h) Y' hB N N' E'))
theorem nf_of {K0 : String} {y z : MethodName} (C : Cx p s m meth c Z own nm bytes maxL ret) (w3 : (Jvm.Cond.selects K0 y z).before a0 Z = true) (e : K0 = y.cls) (e' : z = y) : NotFace s y := by
  subst e e'; exact notFace_of_selects (args := #[]) (mvT C.hZ w3)
theorem g_interface {index count k n : Nat} {y z : MethodName} {K0 : String} {W' : Nat} {argsL : List Value} {Q : Option Value → Heap → Prop} {ps : List FieldType} {rt : Option FieldType} {a : Addr} (C : Cx p s m meth c Z own nm bytes maxL ret) (X : St p l e R s m A below meth c Z T h cells slots)
    (w1 : (Jvm.Cond.methodLink own index y).before a0 Z = true) (w2 : (Jvm.Cond.declares y).before a0 Z = true) (w5 : (Jvm.Cond.interfaceMethod y.cls y.cls y.name y.desc).before A s = true) (w3 : (Jvm.Cond.selects K0 y z).before a0 Z = true) (w4 : (Jvm.Cond.instanceMethod z).before a0 Z = true) (w6 : (Jvm.Cond.publicMethod z).before a0 Z = true) (w7 : (Jvm.Cond.unhidden K0 y.name y.desc).before A s = true) (w8 : (Jvm.Cond.castable K0 y.cls).before a0 Z = true)
    (hy : y.cls ≠ "java/lang/invoke/MethodHandle" ∧ y.cls ≠ "java/lang/invoke/VarHandle") (Ex : Exa Z h a K0)
    (hK : Pay l R p e below s A z 5 W' k n Z (.ref a :: argsL).toArray h Q) (pd : parseMethodDescriptor y.desc = some ⟨ps, rt⟩) (hlen : argsL.length = ps.length) (hsz : Ls.size = maxL) (stk : List Value) (hst : stk = argsL.reverse ++ .ref a :: st) (hW : (st.map fun v => v.category).sum ≤ W') (d : Dc bytes pc (.invokeinterface index count) 5 pc') (hc : cells + k ≤ R.cells) (hs : slots + n ≤ R.slots)
    (K : ∀ T' h' v, Q v h' → St p l e R s m A below meth c Z T' h' (cells + k) (slots + n) → Goes p e below W T' (mkF m pc' Ls (v.toList ++ st))) : Goes p e below W T (mkF m pc Ls stk) := by
  obtain ⟨d, rfl⟩ := d
  obtain ⟨L0, Y, eT, N, E⟩ := X
  obtain ⟨cq, kq, qa, qb, qc⟩ := isOf C.hZ eT Ex
  obtain ⟨v, vm₁, B, -, Y', ⟨L, ⟨N', E', hQ⟩, hB⟩, q⟩ := Y.interfaceBack C.hx (xi := y) (y := z) C.hown (mvT C.hZ w1) (mvT C.hZ w2) w5 (mvT C.hZ w3) (mvT C.hZ w4) (mvT C.hZ w6) w7 (mvT C.hZ w8) hy hK qa qb qc (g := mkF m pc Ls stk) rfl (hsz.trans C.hml.symm) (Steps.refl _) (argsL := argsL) (rest := st) (lenOf pd hlen) hst (by show 2 * 0 + _ ≤ _; omega) (hb C.hby d) (fun _ _ => ⟨rfl, eT, hc, hs⟩)
  exact Goes.via (fun _ k => q.trans k) (K _ _ v hQ (st_back (T' := T) (h' := h) Y' hB N N' E'))
theorem g_staticP {index : Nat} {y : MethodName} {bytes' : ByteArray} {maxL' W' : Nat} {ret' : Option FieldType} {argsL : List Value} {v : Value} {ps : List FieldType} {rt : Option FieldType} (C : Cx p s m meth c Z own nm bytes maxL ret) (X : St p l e R s m A below meth c Z T h cells slots)
    (w1 : (Jvm.Cond.methodLink own index y).before a0 Z = true) (w2 : (Jvm.Cond.static y).before a0 Z = true) (w3 : (Jvm.Cond.initialized y.cls).before a0 Z = true) (w4 : (Jvm.Cond.code y bytes' maxL' ret').before a0 Z = true) (hy : y.cls ≠ "java/lang/invoke/MethodHandle" ∧ y.cls ≠ "java/lang/invoke/VarHandle")
    (hK : Pay l R p e below s A y 3 W' 0 0 Z argsL.toArray h (fun v' h' => v' = some v ∧ h' = h)) (pd : parseMethodDescriptor y.desc = some ⟨ps, rt⟩) (hlen : argsL.length = ps.length) (hsz : Ls.size = maxL) (stk : List Value) (hst : stk = argsL.reverse ++ st) (hW : (st.map fun v => v.category).sum ≤ W') (d : Dc bytes pc (.invokestatic index) 3 pc') (hc : cells ≤ R.cells) (hs : slots ≤ R.slots)
    (K : ∀ T', St p l e R s m A below meth c Z T' h cells slots → Goes p e below W T' (mkF m pc' Ls (v :: st))) : Goes p e below W T (mkF m pc Ls stk) :=
  g_static C X w1 w2 w3 w4 hy hK pd hlen hsz stk hst hW d hc hs fun T' h' v' hQ X' => by obtain ⟨rfl, rfl⟩ := hQ; exact K T' X'
theorem g_specialP {index : Nat} {y : MethodName} {bytes' : ByteArray} {maxL' W' : Nat} {argsL : List Value} {ps : List FieldType} {rt : Option FieldType} {a : Addr} (C : Cx p s m meth c Z own nm bytes maxL ret) (X : St p l e R s m A below meth c Z T h cells slots) (hi : y.name = "<init>")
    (w1 : (Jvm.Cond.methodLink own index y).before a0 Z = true) (w2 : (Jvm.Cond.instanceMethod y).before a0 Z = true) (w4 : (Jvm.Cond.code y bytes' maxL' none).before a0 Z = true) (hy : y.cls ≠ "java/lang/invoke/MethodHandle" ∧ y.cls ≠ "java/lang/invoke/VarHandle")
    (hK : Pay l R p e below s A y 3 W' 0 0 Z (.ref a :: argsL).toArray h (fun v' h' => v' = none ∧ h' = h)) (pd : parseMethodDescriptor y.desc = some ⟨ps, rt⟩) (hlen : argsL.length = ps.length) (hsz : Ls.size = maxL) (stk : List Value) (hst : stk = argsL.reverse ++ .ref a :: st) (hW : (st.map fun v => v.category).sum ≤ W') (d : Dc bytes pc (.invokespecial index) 3 pc') (hc : cells ≤ R.cells) (hs : slots ≤ R.slots)
    (K : ∀ T', St p l e R s m A below meth c Z T' h cells slots → Goes p e below W T' (mkF m pc' Ls st)) : Goes p e below W T (mkF m pc Ls stk) :=
  g_special C X hi w1 w2 w4 hy hK pd hlen hsz stk hst hW d hc hs fun T' h' v' hQ X' => by obtain ⟨rfl, rfl⟩ := hQ; exact K T' X'
theorem g_virtualP {index : Nat} {y z : MethodName} {K0 : String} {W' : Nat} {argsL : List Value} {v : Value} {ps : List FieldType} {rt : Option FieldType} {a : Addr} (C : Cx p s m meth c Z own nm bytes maxL ret) (X : St p l e R s m A below meth c Z T h cells slots)
    (w1 : (Jvm.Cond.methodLink own index y).before a0 Z = true) (w2 : (Jvm.Cond.declares y).before a0 Z = true) (nf : NotFace s y) (w3 : (Jvm.Cond.selects K0 y z).before a0 Z = true) (w4 : (Jvm.Cond.instanceMethod z).before a0 Z = true) (hy : y.cls ≠ "java/lang/invoke/MethodHandle" ∧ y.cls ≠ "java/lang/invoke/VarHandle") (Ex : Exa Z h a K0)
    (hK : Pay l R p e below s A z 3 W' 0 0 Z (.ref a :: argsL).toArray h (fun v' h' => v' = some v ∧ h' = h)) (pd : parseMethodDescriptor y.desc = some ⟨ps, rt⟩) (hlen : argsL.length = ps.length) (hsz : Ls.size = maxL) (stk : List Value) (hst : stk = argsL.reverse ++ .ref a :: st) (hW : (st.map fun v => v.category).sum ≤ W') (d : Dc bytes pc (.invokevirtual index) 3 pc') (hc : cells ≤ R.cells) (hs : slots ≤ R.slots)
    (K : ∀ T', St p l e R s m A below meth c Z T' h cells slots → Goes p e below W T' (mkF m pc' Ls (v :: st))) : Goes p e below W T (mkF m pc Ls stk) :=
  g_virtual C X w1 w2 nf w3 w4 hy Ex hK pd hlen hsz stk hst hW d hc hs fun T' h' v' hQ X' => by obtain ⟨rfl, rfl⟩ := hQ; exact K T' X'
theorem g_interfaceP {index count : Nat} {y z : MethodName} {K0 : String} {W' : Nat} {argsL : List Value} {v : Value} {ps : List FieldType} {rt : Option FieldType} {a : Addr} (C : Cx p s m meth c Z own nm bytes maxL ret) (X : St p l e R s m A below meth c Z T h cells slots)
    (w1 : (Jvm.Cond.methodLink own index y).before a0 Z = true) (w2 : (Jvm.Cond.declares y).before a0 Z = true) (w5 : (Jvm.Cond.interfaceMethod y.cls y.cls y.name y.desc).before A s = true) (w3 : (Jvm.Cond.selects K0 y z).before a0 Z = true) (w4 : (Jvm.Cond.instanceMethod z).before a0 Z = true) (w6 : (Jvm.Cond.publicMethod z).before a0 Z = true) (w7 : (Jvm.Cond.unhidden K0 y.name y.desc).before A s = true) (w8 : (Jvm.Cond.castable K0 y.cls).before a0 Z = true)
    (hy : y.cls ≠ "java/lang/invoke/MethodHandle" ∧ y.cls ≠ "java/lang/invoke/VarHandle") (Ex : Exa Z h a K0)
    (hK : Pay l R p e below s A z 5 W' 0 0 Z (.ref a :: argsL).toArray h (fun v' h' => v' = some v ∧ h' = h)) (pd : parseMethodDescriptor y.desc = some ⟨ps, rt⟩) (hlen : argsL.length = ps.length) (hsz : Ls.size = maxL) (stk : List Value) (hst : stk = argsL.reverse ++ .ref a :: st) (hW : (st.map fun v => v.category).sum ≤ W') (d : Dc bytes pc (.invokeinterface index count) 5 pc') (hc : cells ≤ R.cells) (hs : slots ≤ R.slots)
    (K : ∀ T', St p l e R s m A below meth c Z T' h cells slots → Goes p e below W T' (mkF m pc' Ls (v :: st))) : Goes p e below W T (mkF m pc Ls stk) :=
  g_interface C X w1 w2 w5 w3 w4 w6 w7 w8 hy Ex hK pd hlen hsz stk hst hW d hc hs fun T' h' v' hQ X' => by obtain ⟨rfl, rfl⟩ := hQ; exact K T' X'
theorem g_initO {index : Nat} {a : Addr} (C : Cx p s m meth c Z own nm bytes maxL ret) (X : St p l e R s m A below meth c Z T h cells slots) (w1 : (Jvm.Cond.methodLink own index Lib.objectInit).before a0 Z = true) (w2 : (Jvm.Cond.instanceMethod Lib.objectInit).before a0 Z = true) (w3 : (Jvm.Cond.code Lib.objectInit ⟨#[0xb1]⟩ 1 none).before a0 Z = true) (hsz : Ls.size = maxL) (d : Dc bytes pc (.invokespecial index) 3 pc') (hf : 1 ≤ R.frames) (W' : Nat) (hW : (st.map fun v => v.category).sum ≤ W') (hl : W' + 12 ≤ R.locals)
    (K : ∀ T', St p l e R s m A below meth c Z T' h cells slots → Goes p e below W T' (mkF m pc' Ls st)) : Goes p e below W T (mkF m pc Ls (.ref a :: st)) := by
  obtain ⟨d, rfl⟩ := d
  obtain ⟨L0, Y, eT, N, E⟩ := X
  obtain ⟨T', Y', e', q⟩ := initO Y C.hx C.hZ C.hown w1 w2 w3 eT (g := mkF m pc Ls (.ref a :: st)) rfl (hsz.trans C.hml.symm) rfl (hb C.hby d) hf (W := W') (by show 2 * 0 + _ ≤ _; omega) hl
  exact Goes.via q (K T' ⟨L0, Y', e', N, E⟩)
theorem end_of {k n : Nat} {Q : Option Value → Heap → Prop} {v : Option Value} {L : List Loc} {fs : List Frame} (N : Fr Z.heap.size L) (E : Ext Z.heap T.heap) (hW : s.WarmedH (T.setFrames fs).vm) (hS : s.sameButNew ({ T.setFrames fs with vm := s.vm } : State) L cells slots) (hc : cells ≤ k) (hs : slots ≤ n) (hQ : Q v T.heap) : EndW Z s k n Q (.returned v) (T.setFrames fs) :=
  ⟨v, L, rfl, ⟨N, E, hQ⟩, ⟨_, rfl⟩, hW, hS.mono hc hs⟩
theorem g_retI {k n : Nat} {Q : Option Value → Heap → Prop} {z : Int32} (C : Cx p s m meth c Z own nm bytes maxL (some .int)) (X : St p l e R s m A below meth c Z T h cells slots) (d : Dc bytes pc .ireturn 1 pc') (hc : cells ≤ k) (hs : slots ≤ n) (hQ : Q (some (.int z)) h) : Goes p e below (EndW Z s k n Q) T (mkF m pc Ls (.int z :: st)) := by
  obtain ⟨L0, Y, rfl, N, E⟩ := X
  have hlk := C.hlk
  obtain ⟨fs, hr, hrun, hended, hW, hS⟩ := Y.leave (v := some (.int z)) (fun h => by rw [C.hret] at h; cases h) hlk
  exact ⟨_, _, retOut Y C.hx C.hret rfl (Or.inl ⟨rfl, Or.inl rfl, z, rfl⟩) (hb C.hby d.1) hr, hrun, hended, end_of N E hW hS hc hs hQ⟩
theorem g_retN {k n : Nat} {Q : Option Value → Heap → Prop} {z : Int32} {t : FieldType} (C : Cx p s m meth c Z own nm bytes maxL (some t)) (X : St p l e R s m A below meth c Z T h cells slots) (ht : t = .boolean ∨ t = .byte ∨ t = .char ∨ t = .short) (d : Dc bytes pc .ireturn 1 pc') (z' : Int32) (hz : nar t z = z') (hc : cells ≤ k) (hs : slots ≤ n) (hQ : Q (some (.int z')) h) : Goes p e below (EndW Z s k n Q) T (mkF m pc Ls (.int z :: st)) := by
  obtain ⟨L0, Y, rfl, N, E⟩ := X
  have hlk := C.hlk
  obtain ⟨fs, hr, hrun, hended, hW, hS⟩ := Y.leave (v := some (.int z')) (fun h => by rw [C.hret] at h; cases h) hlk
  rw [← hz] at hr
  exact ⟨_, _, retN Y C.hx C.hret ht (hb C.hby d.1) hr, hrun, hended, end_of N E hW hS hc hs hQ⟩
theorem g_retJ {k n : Nat} {Q : Option Value → Heap → Prop} {z : Int64} (C : Cx p s m meth c Z own nm bytes maxL (some .long)) (X : St p l e R s m A below meth c Z T h cells slots) (d : Dc bytes pc .lreturn 1 pc') (hc : cells ≤ k) (hs : slots ≤ n) (hQ : Q (some (.long z)) h) : Goes p e below (EndW Z s k n Q) T (mkF m pc Ls (.long z :: st)) := by
  obtain ⟨L0, Y, rfl, N, E⟩ := X
  have hlk := C.hlk
  obtain ⟨fs, hr, hrun, hended, hW, hS⟩ := Y.leave (v := some (.long z)) (fun h => by rw [C.hret] at h; cases h) hlk
  exact ⟨_, _, retOut Y C.hx C.hret rfl (Or.inr (Or.inl ⟨rfl, rfl, z, rfl⟩)) (hb C.hby d.1) hr, hrun, hended, end_of N E hW hS hc hs hQ⟩
theorem g_retA {k n : Nat} {Q : Option Value → Heap → Prop} {z : Value} {t : FieldType} (C : Cx p s m meth c Z own nm bytes maxL (some t)) (X : St p l e R s m A below meth c Z T h cells slots) (ht : t.isReference = true) (hz : z.isRef = true) (d : Dc bytes pc .areturn 1 pc') (hc : cells ≤ k) (hs : slots ≤ n) (hQ : Q (some z) h) : Goes p e below (EndW Z s k n Q) T (mkF m pc Ls (z :: st)) := by
  obtain ⟨L0, Y, rfl, N, E⟩ := X
  have hlk := C.hlk
  have hn : narrow t z = z := by cases t <;> first | rfl | (simp [FieldType.isReference] at ht; done) | (cases z <;> simp [Value.isRef] at hz <;> rfl)
  obtain ⟨fs, hr, hrun, hended, hW, hS⟩ := Y.leave (v := some z) (fun h => by rw [C.hret] at h; cases h) hlk
  exact ⟨_, _, retOut Y C.hx C.hret hn (Or.inr (Or.inr (Or.inr (Or.inr ⟨rfl, ht, hz⟩)))) (hb C.hby d.1) hr, hrun, hended, end_of N E hW hS hc hs hQ⟩
theorem g_retV {k n : Nat} {Q : Option Value → Heap → Prop} (C : Cx p s m meth c Z own nm bytes maxL none) (X : St p l e R s m A below meth c Z T h cells slots) (d : Dc bytes pc .return_ 1 pc') (hc : cells ≤ k) (hs : slots ≤ n) (hQ : Q none h) : Goes p e below (EndW Z s k n Q) T (mkF m pc Ls []) := by
  obtain ⟨L0, Y, rfl, N, E⟩ := X
  have hlk := C.hlk
  obtain ⟨fs, hr, hrun, hended, hW, hS⟩ := Y.leave (v := none) (fun _ => rfl) hlk
  exact ⟨_, _, Y.returnOut C.hx C.hret (hb C.hby d.1) hr, hrun, hended, end_of N E hW hS hc hs hQ⟩
end OwnKit
/-! from the case's words -/
theorem wd {a0 : Array Value} {Z : State} (hw : ∀ d ∈ tables_1, d.before a0 Z = true) (i : Nat) {d : Jvm.Cond} (h : tables_1[i]? = some d) : d.before a0 Z = true := hw d (List.mem_of_getElem? h)
theorem eqI_v {args : Array Value} {first s : State} {o : Option Outcome} {idx : List Nat} {t : Term} {k : Int32} (h : (Jvm.Cond.eq t (.int k)).value args first o s idx = some true) : t.eval args first o idx s = some (.int k) := by
  simp only [Cond.value, Term.eval] at h
  cases ht : t.eval args first o idx s with
  | none => simp [ht] at h
  | some x => cases x <;> simp [ht] at h ⊢; exact h
theorem eqJ_v {args : Array Value} {first s : State} {o : Option Outcome} {idx : List Nat} {t : Term} {k : Int64} (h : (Jvm.Cond.eq t (.long k)).value args first o s idx = some true) : t.eval args first o idx s = some (.long k) := by
  simp only [Cond.value, Term.eval] at h
  cases ht : t.eval args first o idx s with
  | none => simp [ht] at h
  | some x => cases x <;> simp [ht] at h ⊢; exact h
theorem eqR_v {args : Array Value} {first s : State} {o : Option Outcome} {idx : List Nat} {t u : Term} {a : Addr} (h : (Jvm.Cond.eq t u).value args first o s idx = some true) (hu : u.eval args first o idx s = some (.ref a)) : t.eval args first o idx s = some (.ref a) := by
  simp only [Cond.value, hu] at h
  cases ht : t.eval args first o idx s with
  | none => simp [ht] at h
  | some x => cases x <;> simp [ht] at h ⊢; exact h
theorem arr_start {args : Array Value} {Z : State} {t : Term} {a : Addr} {cl : Cell} {ty : FieldType} {n : Int32} {vs : List Value} (dv : Value) (hf : Fit Z) (A : Arr Z Z.heap a cl ty) (ev : t.eval args Z none [] Z = some (.ref a)) (hl : (Term.length t).eval args Z none [] Z = some (.int n)) (hn : ¬ n < 0) (hv : n.toNatClampNeg = vs.length)
    (H : HasL cl 0 vs) : Arv Z Z.heap a cl.cls ty n vs dv := by
  obtain ⟨a', c', e1, e2, e4⟩ := Term.length_spec hl
  cases ev.symm.trans e1
  cases A.1.symm.trans (State.arrayAt?_spec e2).1
  have e3 : cl.slots.size < 2 ^ 31 := by
    by_cases q : cl.slots.size < 2147483648
    · exact q
    · exfalso; simp [Term.eval, ev, e2, q] at hl
  exact Arv.start hf A e3 (Value.int.inj e4.symm) hn hv H
theorem elem_start {args : Array Value} {Z : State} {t : Term} {a : Addr} {cl : Cell} {ty : FieldType} {j : Int32} {v : Value} (A : Arr Z Z.heap a cl ty) (ev : t.eval args Z none [] Z = some (.ref a)) (h : (Term.elem t (.int j)).eval args Z none [] Z = some v) : cl.slots[j.toNatClampNeg]? = some v := (elem_in h ev (Term.int_eval j) A.1).2
theorem own_ch (x : Int32) : Value.int (nar .char ((x &&& (255 : Int32)).toUInt32.toUInt16.toUInt32.toInt32)) = .int (x &&& (255 : Int32)) := by
  show Value.int (((x &&& (255 : Int32)).toUInt32.toUInt16.toUInt32.toInt32).toUInt32.toUInt16.toUInt32.toInt32) = _
  rw [i2c_mask, i2c_mask]
theorem nz_v {args : Array Value} {Z : State} {t : Term} {z : Int32} (ev : t.eval args Z none [] Z = some (.int z)) (h : (Jvm.Cond.not (.eq t (.int 0))).value args Z none Z [] = some true) : ¬ z = 0 := by
  intro e; subst e
  have q := not_v h
  simp [Cond.value, ev, Term.eval] at q
theorem fld_of {args : Array Value} {Z : State} {t : Term} {a : Addr} {C n d : String} {v : Value} (ht : t.eval args Z none [] Z = some (.ref a)) (h : (Term.field t C n d).eval args Z none [] Z = some v) : Fld Z Z.heap a C n d v := Fld.start (by rw [← fld_at (args := args) (first := Z) (o := none) (idx := []) ht]; exact h)
theorem own_m255 (x : Int32) : ¬ (x &&& (255 : Int32)) < 0 ∧ ¬ (255 : Int32) < (x &&& (255 : Int32)) := by
  have h1 := c_mask x 255 8 (by decide) (by decide)
  simp only [Int32.lt_iff_toInt_lt, Int32.reduceToInt] at *
  omega
/-- new String(char[]) of known chars, as a payment -/
theorem payV {p : Program} {l : Launch} {e : Env} {R : Room} {s : State} {A : Array Value} {below : List Frame} {W' : Nat} {Z : State} {a0 : Array Value} {h : Heap} (hZ : Z.Warmed39 s.vm) (hE : Ext Z.heap h) (hw : ∀ d ∈ StrChars.Road.words, d.before a0 Z = true) {kI : Nat} (wi : (Jvm.Cond.instantiable "java/lang/String" kI).before a0 Z = true)
    {x b : Addr} {kC : ClassId} {cs : List Int32} {d v0 c0 : Value} {z N : Int32} {n : Nat} (hx0 : Z.heap.size ≤ x) (E : Exa Z h x "java/lang/String") (V : Fld Z h x "java/lang/String" "value" "[B" v0) (C : Fld Z h x "java/lang/String" "coder" "B" c0) (K : Arv Z h b kC .char N (cs.map Value.int) d) (S : Sta Z Z.heap "java/lang/String" "COMPACT_STRINGS" "Z" (.int z)) (hz : ¬ z = 0)
    (hn : cs.length = n) (hN : N = Int32.ofNat n) (l0 : 0 < n) (l2 : n ≤ 4000) (hp : ∀ c ∈ cs, ¬ c < 0 ∧ ¬ (255 : Int32) < c) (hfr : 4 ≤ R.frames) (hlo : W' + 65 ≤ R.locals) :
    Pay l R p e below s A (⟨"java/lang/String", "<init>", "([C)V"⟩ : MethodName) 3 W' 1 n Z #[.ref x, .ref b] h (fun v h' => v = none ∧ Keep h h' [x] ∧ Exa Z h' x "java/lang/String" ∧ Fld Z h' x "java/lang/String" "coder" "B" (.int 0) ∧
      ∃ (t : Addr) (kb : ClassId), Z.heap.size ≤ t ∧ h.size ≤ t ∧ ¬ t = x ∧ Fld Z h' x "java/lang/String" "value" "[B" (.ref t) ∧ Arv Z h' t kb .byte N ((cs.map fun c => c.toInt8.toInt32).map Value.int) (.int 0)) :=
  Back.mono (StrChars.Road.backV (n0 := Z.heap.size) (W := W') hZ hw wi hx0 hE.1 E V C K (S.ext hE) hz hn hN l0 l2 hp rfl hfr hlo) (fun _ _ q => q)
    (fun P a v B hp hq => by
      obtain ⟨L, ⟨q1, q2, q3, q4, q5, q6⟩, r⟩ := hq
      exact ⟨L, ⟨q2, ext_keep hE q3 (allS hx0 all0), q1, q3, q4, q5, q6⟩, r⟩)

section OwnLit
variable {p : Program} {l : Launch} {e : Env} {R : Room} {s : State} {m : MethodId} {A : Array Value} {below : List Frame} {meth : Method} {c : Code} {T : State} {cells slots : Nat} {Z : State} {a0 : Array Value} {h : Heap} {own nm : String} {bytes : ByteArray} {maxL : Nat} {ret : Option FieldType} {W : Outcome → State → Prop} {pc pc' tgt : Nat} {Ls : Array Slot} {st : List Value} {EL : List (String × Nat)} {vm0 : Vm}
/-- what is known of the String constants: from the body's start s to the tables and the heap at hand -/
def Lits (Z : State) (EL : List (String × Nat)) (s : State) (vm0 : Vm) (h : Heap) : Prop := (∃ k0, s.Since vm0 k0 ∧ k0 ≤ h.size) ∧ CHr Z EL s.vm s.heap vm0 h
theorem Lits.keep {h' : Heap} {ws : List Addr} (I : Lits Z EL s vm0 h) (K : Keep h h' ws) (hs : ∀ x ∈ ws, Safe Z EL vm0 h x) : Lits Z EL s vm0 h' := by
  obtain ⟨⟨k0, a, b⟩, c⟩ := I
  exact ⟨⟨k0, a, Nat.le_trans b K.1⟩, c.trans (CHr.keep K hs c.1)⟩
theorem Lits.safe {h' : Heap} {ws : List Addr} {x : Addr} (I : Lits Z EL s vm0 h) (K : Keep h h' ws) (hs : ∀ x ∈ ws, Safe Z EL vm0 h x) (S : Safe Z EL vm0 h x) : Safe Z EL vm0 h' x := Safe.keep K hs I.2.1 S
theorem g_ldcs {index : Nat} {text : String} {vs : List Value} {z : Int32} (n : Nat) (C : Cx p (s.setVm vm0) m meth c Z own nm bytes maxL ret) (X : St p l e R (s.setVm vm0) m A below meth c Z T h cells slots) (I : Lits Z EL s vm0 h) (wS : ∀ a ∈ Bundle.stringAtoms, a.before a0 Z = true) (hEL : EW Z a0 EL) (hmem : (own, index) ∈ EL) (w : (Jvm.Cond.stringLink own index text).before a0 Z = true)
    (ht : (∀ c ∈ text.toList, c.toNat < 256) ∧ text.toList.map (fun c => Value.int (Jvm.Lit.byteI c.toNat.toUInt16)) = vs) (hz : ¬ z < 0) (hl : z.toNatClampNeg = vs.length) (hn : 4 * text.toList.length ≤ n) (hbig : n ≤ 536870912) (d : Dc bytes pc (.ldc index) 2 pc') (hc : cells + 2 ≤ R.cells) (hs : slots + (n + 4) ≤ R.slots)
    (K : ∀ a T' h' b k, Cx p (s.setVm T'.vm) m meth c Z own nm bytes maxL ret → St p l e R (s.setVm T'.vm) m A below meth c Z T' h' (cells + 2) (slots + (n + 4)) → Lits Z EL s T'.vm h' → CHr Z EL vm0 h T'.vm h' → Ext h h' → Exa Z h' a "java/lang/String" → Fld Z h' a "java/lang/String" "coder" "B" (.int 0) → Fld Z h' a "java/lang/String" "value" "[B" (.ref b) → Arv Z h' b k .byte z vs (.int 0) → (∀ x, Safe Z EL T'.vm h' x → x ≠ a ∧ x ≠ b) → Goes p e below W T' (mkF m pc' Ls (.ref a :: st))) : Goes p e below W T (mkF m pc Ls st) := by
  obtain ⟨d, rfl⟩ := d
  obtain ⟨L0, Y, eT, N, E⟩ := X
  obtain ⟨⟨k0, hS, hk⟩, hC⟩ := I
  obtain ⟨a, T', h', k1, b, k, Y', e', E', hS', hk', hZ', ho', r1, r2, r3, r4, -, -, hR, -, hne, q⟩ := ldcCH Y C.hx C.hZ C.hown w wS eT hS hk hEL hmem hC.1 ht hz hl (g := mkF m pc Ls st) rfl (hb C.hby d) hn hbig hc hs
  exact Goes.via q (K a T' h' b k ⟨C.1, hZ', ho', C.2.2.2⟩ ⟨L0, Y', e', N, ext_trans E E'⟩ ⟨⟨k1, hS', hk'⟩, hC.trans hR⟩ hR E' r1 r2 r3 r4 hne)
/-- the end of a body that may load String constants -/
def EndL (Z : State) (EL : List (String × Nat)) (s : State) (k n : Nat) (Q : Option Value → Heap → Prop) (o : Outcome) (u : State) : Prop :=
  ∃ v L, o = .returned v ∧ (Fr Z.heap.size L ∧ Ext Z.heap u.heap ∧ Q v u.heap) ∧ CHr Z EL s.vm s.heap u.vm u.heap ∧ ReturnedEndW s o u L k n
theorem goes_L {k n : Nat} {Q : Option Value → Heap → Prop} {g : JFrame} (I : Lits Z EL s vm0 h) (hEL : EW Z a0 EL) (hZ : Z.Warmed39 vm0) (G : Goes p e below (EndW Z (s.setVm vm0) k n (fun v h' => Q v h' ∧ h' = h)) T g) : Goes p e below (EndL Z EL s k n Q) T g := by
  obtain ⟨s₂, o, g1, g2, g3, v, L, rfl, ⟨N, E, hQ, hh⟩, hv, hW, hs⟩ := G
  obtain ⟨⟨k0, hS, hk⟩, hC⟩ := I
  obtain ⟨a, b, c'⟩ := hS.ended (U := s₂) hW (by rw [hh]; exact hk) hs
  refine ⟨s₂, _, g1, g2, g3, v, L, rfl, ⟨N, E, hQ⟩, ?_, ⟨v, rfl⟩, a, b, c'⟩
  have q := CHv.later (h' := h) hZ (hW := (show (Wst Z vm0 h).Warmed39 s₂.vm from hW.wide)) hEL ⟨Nat.le_refl _, fun _ _ q => q⟩ (Or.inl hW.interned_eq) hC.1
  rw [hh]; exact hC.trans ⟨q.1, Nat.le_refl _, q.2⟩
def ConL (l : Launch) (y : MethodName) (bytes : ByteArray) (maxL : Nat) (ret : Option FieldType) (ws : List Jvm.Cond) (rm : Room) (Z : State) (EL : List (String × Nat)) (sf : List Addr) (A : Array Value) (h0 : Heap) (Q : Option Value → Heap → Prop) : Prop :=
  MetFree l y (head1 (Jvm.Cond.code y bytes maxL ret :: ws) rm) (fun a U => a = A ∧ Z.Warmed39 U.vm ∧ U.heap = h0 ∧ CHv Z EL U.vm h0 ∧ ∀ x ∈ sf, Safe Z EL U.vm h0 x) (fun _ _ _ _ _ => True) (fun _ U o U' => EndL Z EL U rm.cells rm.slots Q o U')
theorem con_ofL {y : MethodName} {ws : List Jvm.Cond} {rm : Room} {h0 : Heap} {Q : Option Value → Heap → Prop} {Ls : Array Slot} {sf : List Addr} (hp : plainFor y = true) (hE : Ext Z.heap h0) (hef : ∀ m, entryFrame m A maxL = mkF m 0 Ls [])
    (body : ∀ p e s m below meth c s₁, Cx p (s.setVm s.vm) m meth c Z y.cls y.name bytes maxL ret → St p l e rm (s.setVm s.vm) m A below meth c Z s₁ h0 0 0 → Lits Z EL s s.vm h0 → (∀ x ∈ sf, Safe Z EL s.vm h0 x) → Goes p e below (EndL Z EL s rm.cells rm.slots Q) s₁ (mkF m 0 Ls [])) :
    ConL l y bytes maxL ret ws rm Z EL sf A h0 Q := by
  refine MetFree.of_bodySF hp hisR ?_
  intro p e s m args below meth c s₁ Bd hml0 hP hK
  obtain ⟨rfl, hZ, hh, hV, hsf⟩ := hP
  have X0 := Stand.of_body Bd
  have e0 : s₁.heap = h0 := by rw [← hh, Bd.state]; rfl
  have := body p e s m below meth c s₁ ⟨Bd.exec, hZ, findClass_of_methodNamed Bd.named, Bd.bytes, hml0, Bd.returns, Bd.notSynchronized, (name_of_methodNamed Bd.named Bd.method).1⟩ ⟨[], X0, e0, Fr.nil _, hE⟩ ⟨⟨0, (State.WarmedH.refl s).since 0, Nat.zero_le _⟩, by rw [hh]; exact CHr.refl hV⟩ hsf
  rw [← hef m] at this
  exact this
def PayL (l : Launch) (R : Room) (p : Program) (e : Env) (below : List Frame) (s : State) (vm0 : Vm) (A : Array Value) (y : MethodName) (len W k n : Nat) (Z : State) (EL : List (String × Nat)) (as' : Array Value) (h : Heap) (Q : Option Value → Heap → Prop) : Prop :=
  BackS l R p e below (s.setVm vm0) A y len W (fun P a => a = as' ∧ P.U.heap = h ∧ P.cells + k ≤ R.cells ∧ P.slots + n ≤ R.slots)
    (fun P _ v B => ∃ L, (Fr Z.heap.size L ∧ Ext Z.heap B.U.heap ∧ Q v B.U.heap) ∧ (B.locs = P.locs ++ L ∧ B.cells = P.cells + k ∧ B.slots = P.slots + n) ∧ CHr Z EL vm0 h B.U.vm B.U.heap)
theorem payL_of {y : MethodName} {bytes' : ByteArray} {maxL' len W' : Nat} {ret' : Option FieldType} {rm : Room} {sf : List Addr} {as' : Array Value} {Q : Option Value → Heap → Prop} (hM : ConL l y bytes' maxL' ret' [] rm Z EL sf as' h Q) (hZ : Z.Warmed39 vm0) (wc : (Jvm.Cond.code y bytes' maxL' ret').before a0 Z = true) (wz : (Jvm.Cond.initialized y.cls).before a0 Z = true) (hf : rm.frames + 1 ≤ R.frames) (hl : W' + (maxL' + 11) + rm.locals ≤ R.locals) (hEL : EW Z a0 EL) (I : Lits Z EL s vm0 h) (hsf : ∀ x ∈ sf, x < h.size ∧ Safe Z EL vm0 h x) :
    PayL l R p e below s vm0 A y len W' rm.cells rm.slots Z EL as' h Q :=
  BackS.of_freeW (bytes := bytes') (maxL := maxL') (ret := ret') (E := fun _ first o t L k n => k = rm.cells ∧ n = rm.slots ∧ (∃ v, o = .returned v ∧ Fr Z.heap.size L ∧ Ext Z.heap t.heap ∧ Q v t.heap) ∧ CHr Z EL first.vm first.heap t.vm t.heap) hM hf hl
    (fun m meth c A a Y hp => have hU : Z.Warmed39 A.U.vm := wtrans (s := s.setVm vm0) hZ Y.warmed
      ⟨by show (Jvm.Cond.and _ .tt).before a A.U = true; rw [Jvm.Cond.before_and, mv hU wc]; rfl, mv hU wc, mv hU wz, hp.2.2.1, hp.2.2.2⟩)
    (fun m meth c A a g mk Y hp => ⟨hp.1, wtrans (s := s.setVm vm0) hZ Y.warmed, hp.2.1, (CHv.at Y hZ hEL I.2.1).1, fun x hx => (CHv.at Y hZ hEL I.2.1).safe (hsf x hx).1 (hsf x hx).2⟩) (fun _ _ _ _ _ _ _ _ _ => trivial)
    (fun _ _ _ _ ⟨v, L, h1, h2, h3, h4⟩ => ⟨L, _, _, h4, rfl, rfl, ⟨v, h1, h2⟩, h3⟩)
    (fun m meth c A a g mk v t L k n Y hp _ _ ⟨e1, e2, ⟨v', e3, e4⟩, e5⟩ => by
      cases e3; subst e1 e2
      refine ⟨L, e4, ⟨rfl, rfl, rfl⟩, (CHv.at Y hZ hEL I.2.1).trans ?_⟩
      rw [← hp.2.1]; exact e5)
theorem g_staticL {index k n : Nat} {y : MethodName} {bytes' : ByteArray} {maxL' W' : Nat} {ret' : Option FieldType} {argsL : List Value} {Q : Option Value → Heap → Prop} {ps : List FieldType} {rt : Option FieldType} (C : Cx p (s.setVm vm0) m meth c Z own nm bytes maxL ret) (X : St p l e R (s.setVm vm0) m A below meth c Z T h cells slots) (I : Lits Z EL s vm0 h)
    (w1 : (Jvm.Cond.methodLink own index y).before a0 Z = true) (w2 : (Jvm.Cond.static y).before a0 Z = true) (w3 : (Jvm.Cond.initialized y.cls).before a0 Z = true) (w4 : (Jvm.Cond.code y bytes' maxL' ret').before a0 Z = true) (hy : y.cls ≠ "java/lang/invoke/MethodHandle" ∧ y.cls ≠ "java/lang/invoke/VarHandle")
    (hK : PayL l R p e below s vm0 A y 3 W' k n Z EL argsL.toArray h Q) (pd : parseMethodDescriptor y.desc = some ⟨ps, rt⟩) (hlen : argsL.length = ps.length) (hsz : Ls.size = maxL) (stk : List Value) (hst : stk = argsL.reverse ++ st) (hW : (st.map fun v => v.category).sum ≤ W') (d : Dc bytes pc (.invokestatic index) 3 pc') (hc : cells + k ≤ R.cells) (hs : slots + n ≤ R.slots)
    (K : ∀ T' h' v, Q v h' → Cx p (s.setVm T'.vm) m meth c Z own nm bytes maxL ret → St p l e R (s.setVm T'.vm) m A below meth c Z T' h' (cells + k) (slots + n) → Lits Z EL s T'.vm h' → CHr Z EL vm0 h T'.vm h' → Goes p e below W T' (mkF m pc' Ls (v.toList ++ st))) : Goes p e below W T (mkF m pc Ls stk) := by
  obtain ⟨d, rfl⟩ := d
  obtain ⟨L0, Y, eT, N, E⟩ := X
  obtain ⟨⟨k0, hS, hk⟩, hC⟩ := I
  obtain ⟨v, vm₁, B, -, Y', hS', hg', ⟨L, ⟨N', E', hQ⟩, ⟨b1, b2, b3⟩, hR⟩, q⟩ := callSS Y C.hx C.hown (mvT C.hZ w1) (mvT C.hZ w2) (mvT C.hZ w3) (mvT C.hZ w4) hy hK (g := mkF m pc Ls stk) rfl (hsz.trans C.hml.symm) (argsL := argsL) (rest := st) (lenOf pd hlen) hst (by show 2 * 0 + _ ≤ _; omega) (hb C.hby d) (fun _ _ => ⟨rfl, eT, hc, hs⟩)
  have q1 : B.locs = L0 ++ L := b1
  have q2 : B.cells = cells + k := b2
  have q3 : B.slots = slots + n := b3
  rw [q1, q2, q3] at Y'
  subst eT
  exact Goes.via (fun _ k => q.trans k) (K B.U B.U.heap v hQ ⟨C.1, State.Warmed39.trans (t := s.setVm vm0) C.hZ hS'.1, by rw [show (s.setVm B.U.vm).vm = B.U.vm from rfl, hS'.1.alike.findClass]; exact C.hown, C.2.2.2⟩ ⟨_, Y', rfl, N.app N', E'⟩ ⟨⟨_, hS.trans hS' (Nat.le_trans hk hg'), Nat.le_refl _⟩, hC.trans hR⟩ hR)
theorem g_specialL {index k n : Nat} {y : MethodName} {bytes' : ByteArray} {maxL' W' : Nat} {argsL : List Value} {Q : Option Value → Heap → Prop} {ps : List FieldType} {rt : Option FieldType} {a : Addr} (C : Cx p (s.setVm vm0) m meth c Z own nm bytes maxL ret) (X : St p l e R (s.setVm vm0) m A below meth c Z T h cells slots) (I : Lits Z EL s vm0 h) (hi : y.name = "<init>")
    (w1 : (Jvm.Cond.methodLink own index y).before a0 Z = true) (w2 : (Jvm.Cond.instanceMethod y).before a0 Z = true) (w4 : (Jvm.Cond.code y bytes' maxL' none).before a0 Z = true) (hy : y.cls ≠ "java/lang/invoke/MethodHandle" ∧ y.cls ≠ "java/lang/invoke/VarHandle")
    (hK : PayL l R p e below s vm0 A y 3 W' k n Z EL (.ref a :: argsL).toArray h Q) (pd : parseMethodDescriptor y.desc = some ⟨ps, rt⟩) (hlen : argsL.length = ps.length) (hsz : Ls.size = maxL) (stk : List Value) (hst : stk = argsL.reverse ++ .ref a :: st) (hW : (st.map fun v => v.category).sum ≤ W') (d : Dc bytes pc (.invokespecial index) 3 pc') (hc : cells + k ≤ R.cells) (hs : slots + n ≤ R.slots)
    (K : ∀ T' h' v, Q v h' → Cx p (s.setVm T'.vm) m meth c Z own nm bytes maxL ret → St p l e R (s.setVm T'.vm) m A below meth c Z T' h' (cells + k) (slots + n) → Lits Z EL s T'.vm h' → CHr Z EL vm0 h T'.vm h' → Goes p e below W T' (mkF m pc' Ls (v.toList ++ st))) : Goes p e below W T (mkF m pc Ls stk) := by
  obtain ⟨d, rfl⟩ := d
  obtain ⟨L0, Y, eT, N, E⟩ := X
  obtain ⟨⟨k0, hS, hk⟩, hC⟩ := I
  obtain ⟨v, vm₁, B, -, Y', hS', hg', ⟨L, ⟨N', E', hQ⟩, ⟨b1, b2, b3⟩, hR⟩, q⟩ := Y.specialBackS C.hx (y := y) hi C.hown (mvT C.hZ w1) (mvT C.hZ w2) (mvT C.hZ w4) hy hK (g := mkF m pc Ls stk) rfl (hsz.trans C.hml.symm) (Steps.refl _) (a := a) (argsL := argsL) (rest := st) (lenOf pd hlen) hst (by show 2 * 0 + _ ≤ _; omega) (hb C.hby d) (fun _ _ => ⟨rfl, eT, hc, hs⟩)
  have q1 : B.locs = L0 ++ L := b1
  have q2 : B.cells = cells + k := b2
  have q3 : B.slots = slots + n := b3
  rw [q1, q2, q3] at Y'
  subst eT
  exact Goes.via (fun _ k => q.trans k) (K B.U B.U.heap v hQ ⟨C.1, State.Warmed39.trans (t := s.setVm vm0) C.hZ hS'.1, by rw [show (s.setVm B.U.vm).vm = B.U.vm from rfl, hS'.1.alike.findClass]; exact C.hown, C.2.2.2⟩ ⟨_, Y', rfl, N.app N', E'⟩ ⟨⟨_, hS.trans hS' (Nat.le_trans hk hg'), Nat.le_refl _⟩, hC.trans hR⟩ hR)
end OwnLit
section OwnClone
variable {p : Program} {l : Launch} {e : Env} {R : Room} {s : State} {m : MethodId} {A : Array Value} {below : List Frame} {meth : Method} {c : Code} {T : State} {cells slots : Nat} {Z : State} {a0 : Array Value} {h : Heap} {own nm : String} {bytes : ByteArray} {maxL : Nat} {ret : Option FieldType} {W : Outcome → State → Prop} {pc pc' tgt : Nat} {Ls : Array Slot} {st : List Value} {EL : List (String × Nat)} {vm0 : Vm}
theorem g_clone {ad : String} {index cap : Nat} {a : Addr} {k : ClassId} {ty : FieldType} {z : Int32} {vs : List Value} {dv : Value} (C : Cx p s m meth c Z own nm bytes maxL ret) (X : St p l e R s m A below meth c Z T h cells slots)
    (w1 : (Jvm.Cond.methodLink own index ⟨ad, "clone", "()Ljava/lang/Object;"⟩).before a0 Z = true) (w2 : (Jvm.Cond.sameMethod ad "java/lang/Object" "clone" "()Ljava/lang/Object;").before a0 Z = true) (w3 : (Jvm.Cond.native ⟨"java/lang/Object", "clone", "()Ljava/lang/Object;"⟩).before a0 Z = true)
    (w4 : (Jvm.Cond.instanceMethod ⟨"java/lang/Object", "clone", "()Ljava/lang/Object;"⟩).before a0 Z = true) (w5 : (Jvm.Cond.selects ad ⟨ad, "clone", "()Ljava/lang/Object;"⟩ ⟨"java/lang/Object", "clone", "()Ljava/lang/Object;"⟩).before a0 Z = true) (w6 : (Jvm.Cond.castable ad "java/lang/Cloneable").before a0 Z = true)
    (F : Arv Z h a k ty z vs dv) (E0 : Exa Z h a ad) (hsz : Ls.size = maxL) (d : Dc bytes pc (.invokevirtual index) 3 pc') (hf : 1 ≤ R.frames) (W' : Nat) (hW : (st.map fun v => v.category).sum ≤ W') (hl : W' + 14 ≤ R.locals) (hcap : z.toNatClampNeg ≤ cap) (hc : cells + 1 ≤ R.cells) (hs : slots + cap ≤ R.slots)
    (K : ∀ T' h' b, b = h.size → Z.heap.size ≤ b → St p l e R s m A below meth c Z T' h' (cells + 1) (slots + cap) → Ext h h' → Arv Z h' b k ty z vs dv → Exa Z h' b ad → Goes p e below W T' (mkF m pc' Ls (.ref b :: st))) : Goes p e below W T (mkF m pc Ls (.ref a :: st)) := by
  obtain ⟨d, rfl⟩ := d
  obtain ⟨L0, Y, eT, N, E⟩ := X
  obtain ⟨cl, Ar, q1, S, q3, H, G⟩ := F
  have FC : FitC Z cl := fitC_of Ar fun i hi v hv => by rw [H i hi] at hv; cases hv; exact G i hi
  obtain ⟨T', h', Y', e', ex, A', E', q⟩ := cloneA Y C.hx C.hZ C.hown w1 w2 w3 w4 w5 w6 eT Ar E0 FC (g := mkF m pc Ls (.ref a :: st)) rfl (hsz.trans C.hml.symm) rfl (hb C.hby d) hf (W := W') (by show 2 * 0 + _ ≤ _; omega) hl (by rw [S]; exact hcap) hc hs
  exact Goes.via q (K T' h' h.size rfl E.1 ⟨L0, Y', e', N, ext_trans E ex⟩ ex ⟨cloneOf cl, A', q1, S, q3, H, G⟩ E')
theorem g_staticPV {index : Nat} {y : MethodName} {bytes' : ByteArray} {maxL' W' : Nat} {ret' : Option FieldType} {argsL : List Value} {ps : List FieldType} {rt : Option FieldType} (C : Cx p s m meth c Z own nm bytes maxL ret) (X : St p l e R s m A below meth c Z T h cells slots)
    (w1 : (Jvm.Cond.methodLink own index y).before a0 Z = true) (w2 : (Jvm.Cond.static y).before a0 Z = true) (w3 : (Jvm.Cond.initialized y.cls).before a0 Z = true) (w4 : (Jvm.Cond.code y bytes' maxL' ret').before a0 Z = true) (hy : y.cls ≠ "java/lang/invoke/MethodHandle" ∧ y.cls ≠ "java/lang/invoke/VarHandle")
    (hK : Pay l R p e below s A y 3 W' 0 0 Z argsL.toArray h (fun v' h' => v' = none ∧ h' = h)) (pd : parseMethodDescriptor y.desc = some ⟨ps, rt⟩) (hlen : argsL.length = ps.length) (hsz : Ls.size = maxL) (stk : List Value) (hst : stk = argsL.reverse ++ st) (hW : (st.map fun v => v.category).sum ≤ W') (d : Dc bytes pc (.invokestatic index) 3 pc') (hc : cells ≤ R.cells) (hs : slots ≤ R.slots)
    (K : ∀ T', St p l e R s m A below meth c Z T' h cells slots → Goes p e below W T' (mkF m pc' Ls st)) : Goes p e below W T (mkF m pc Ls stk) :=
  g_static C X w1 w2 w3 w4 hy hK pd hlen hsz stk hst hW d hc hs fun T' h' v' hQ X' => by obtain ⟨rfl, rfl⟩ := hQ; exact K T' X'
end OwnClone
theorem own_EW {Z : State} {a0 : Array Value} (hw : ∀ d ∈ tables_1, d.before a0 Z = true) : EW Z a0 consts_1 := fun p hp => by
  simp only [consts_1, List.mem_cons, List.not_mem_nil, or_false] at hp
  rcases hp with rfl
  · exact ⟨"", (wd hw 17 rfl), by decide +kernel⟩
theorem own_wS {Z : State} {a0 : Array Value} (hw : ∀ d ∈ tables_1, d.before a0 Z = true) : ∀ a ∈ Bundle.stringAtoms, a.before a0 Z = true := fun d hd => hw d ((show ∀ d ∈ Bundle.stringAtoms, d ∈ tables_1 by decide +kernel) d hd)
theorem own_rc (y : Int32) : ¬ nar .char ((y &&& (255 : Int32)).toUInt32.toUInt16.toUInt32.toInt32) < 0 ∧ ¬ (255 : Int32) < nar .char ((y &&& (255 : Int32)).toUInt32.toUInt16.toUInt32.toInt32) := by
  rw [Value.int.inj (own_ch y)]; exact own_m255 y
theorem own_set {l : List Int32} {j : Nat} {y : Int32} (hl : ∀ c ∈ l, ¬ c < 0 ∧ ¬ (255 : Int32) < c) (hy : ¬ y < 0 ∧ ¬ (255 : Int32) < y) : ∀ c ∈ l.set j y, ¬ c < 0 ∧ ¬ (255 : Int32) < c := fun c q => by
  rcases List.mem_or_eq_of_mem_set q with q | rfl
  · exact hl c q
  · exact hy
theorem own_mapset (l : List Int32) (j : Nat) (y : Int32) : (l.map Value.int).set j (.int y) = (l.set j y).map Value.int := by rw [List.map_set]
theorem own_nar {x : Int32} (h : ¬ x < 0 ∧ ¬ (255 : Int32) < x) : Value.int (nar .char x) = .int x := by
  have e : x = x &&& 255 := by
    apply Int32.toInt_inj.mp
    have h1 := c_mask x 255 8 (by decide) (by decide)
    simp only [Int32.lt_iff_toInt_lt, Int32.reduceToInt] at *
    omega
  show Value.int (x.toUInt32.toUInt16.toUInt32.toInt32) = _
  rw [e, i2c_mask]
theorem own_latc (y : Int32) : ¬ ((y &&& (255 : Int32)).toUInt32.toUInt16.toUInt32.toInt32) < 0 ∧ ¬ (255 : Int32) < ((y &&& (255 : Int32)).toUInt32.toUInt16.toUInt32.toInt32) := by
  rw [i2c_mask]; exact own_m255 y
theorem own_getlat {cs : List Int32} (h : ∀ c ∈ cs, ¬ c < 0 ∧ ¬ (255 : Int32) < c) {i : Nat} (hi : i < cs.length) : ¬ cs.getD i 0 < 0 ∧ ¬ (255 : Int32) < cs.getD i 0 := by
  have e : cs.getD i 0 = cs[i] := by simp [List.getD_eq_getElem?_getD, hi]
  rw [e]; exact h _ (List.getElem_mem _)
theorem own_ltn {k n : Nat} (hk : k ≤ 4000) (hn : n ≤ 4000) (h : Int32.ofNat k < Int32.ofNat n) : k < n := by
  rw [Int32.lt_iff_toInt_lt, Int32.toInt_ofNat_small (by omega), Int32.toInt_ofNat_small (by omega)] at h
  omega
theorem pn_0 : plainName "java/lang/String" = true := by first | (simp [plainName, overriddenIn]; done) | decide +kernel
theorem ef_rI4 (m : MethodId) (x : Addr) (ca : Addr) : entryFrame m #[(.ref x), (.ref ca), (.int 0), (.int 0), .null] 6 = mkF m 0 #[.val (.ref x), .val (.ref ca), .val (.int 0), .val (.int 0), .val .null, .unset] [] := by first | (simp [entryFrame, mkF, argsToLocals, Value.category]; done) | rfl
theorem d2_0 : Dc jdk_42_method_149_code 0 (.aload_n 0) 1 1 := ⟨by decide +kernel, rfl⟩
theorem d2_1 : Dc jdk_42_method_149_code 1 (.invokespecial 1) 3 4 := ⟨by decide +kernel, rfl⟩
theorem d2_4 : Dc jdk_42_method_149_code 4 (.iload_n 3) 1 5 := ⟨by decide +kernel, rfl⟩
theorem d2_5 : Dj jdk_42_method_149_code 5 (.ifCond .ne 22) 22 3 8 27 := ⟨by decide +kernel, rfl, by decide, by decide⟩
theorem d2_8 : Dc jdk_42_method_149_code 8 (.aload_n 0) 1 9 := ⟨by decide +kernel, rfl⟩
theorem d2_9 : Dc jdk_42_method_149_code 9 (.ldc 7) 2 11 := ⟨by decide +kernel, rfl⟩
theorem d2_11 : Dc jdk_42_method_149_code 11 (.getfield 9) 3 14 := ⟨by decide +kernel, rfl⟩
theorem d2_14 : Dc jdk_42_method_149_code 14 (.putfield 9) 3 17 := ⟨by decide +kernel, rfl⟩
theorem d2_17 : Dc jdk_42_method_149_code 17 (.aload_n 0) 1 18 := ⟨by decide +kernel, rfl⟩
theorem d2_18 : Dc jdk_42_method_149_code 18 (.ldc 7) 2 20 := ⟨by decide +kernel, rfl⟩
theorem d2_20 : Dc jdk_42_method_149_code 20 (.getfield 15) 3 23 := ⟨by decide +kernel, rfl⟩
theorem d2_23 : Dc jdk_42_method_149_code 23 (.putfield 15) 3 26 := ⟨by decide +kernel, rfl⟩
theorem d2_26 : Dc jdk_42_method_149_code 26 (.return_) 1 27 := ⟨by decide +kernel, rfl⟩
theorem rI4 (l : Launch) {Z : State} {a0 : Array Value} (hw : ∀ d ∈ tables_1, d.before a0 Z = true) {h : Heap} (hE : Ext Z.heap h) (x : Addr) (ca : Addr)  (EX : Exa Z h x "java/lang/String") (FC : Fld Z h x "java/lang/String" "coder" "B" (.int (0 : Int32))) (FV : Fld Z h x "java/lang/String" "value" "[B" .null) (hn : Z.heap.size ≤ x) (kc : ClassId) (VC : Arv Z h ca kc .char 0 [] (.int (0 : Int32))) :
    ConL l (⟨"java/lang/String", "<init>", "([CIILjava/lang/Void;)V"⟩ : MethodName) jdk_42_method_149_code 6 none [] ({ frames := 1, cells := 4, slots := 8, locals := 14 } : Room) Z consts_1 [x] #[(.ref x), (.ref ca), (.int 0), (.int 0), .null] h (fun v' h' => v' = none ∧ Keep h h' [x] ∧ Exa Z h' x "java/lang/String" ∧ Fld Z h' x "java/lang/String" "coder" "B" (.int 0) ∧ ∃ (t : Addr) (kb : ClassId), x ≠ t ∧ Fld Z h' x "java/lang/String" "value" "[B" (.ref t) ∧ Arv Z h' t kb .byte 0 [] (.int 0)) := by
  refine con_ofL (plainFor_of_name pn_0) hE (fun m => ef_rI4 m x ca) ?_
  intro p e s m below meth c T0 C X0 I0 hsf
  have C : Cx p (s.setVm s.vm) m meth c Z "java/lang/String" "<init>" jdk_42_method_149_code 6 none := C
  show Goes p e below _ T0 (mkF m 0 #[.val (.ref x), .val (.ref ca), .val (.int 0), .val (.int 0), .val .null, .unset] [])
  refine g_aloadN C X0 d2_0 rfl rfl (g_initO C X0 (wd hw 14 rfl) (wd hw 15 rfl) (wd hw 16 rfl) rfl d2_1 (by decide) 0 (Nat.le_of_eq rfl) (by decide) (fun T1 X1 => ?_))
  refine g_iloadN C X1 d2_4 rfl (g_ifn (h0_ne _) C X1 d2_5 (fun q => absurd (by decide) q) (fun _ => ?_))
  refine g_aloadN C X1 d2_8 rfl rfl (g_ldcs 0 C X1 I0 (own_wS hw) (own_EW hw) (by decide +kernel) (wd hw 17 rfl) (vs := []) (z := 0) ⟨by decide +kernel, by decide +kernel⟩ (by decide) rfl (by decide) (by decide) d2_9 (by decide) (by decide) (fun a2 T2 h2 t2 k_t2 C X2 I2 R2 E2 EA2 FC2 FV2 VA2 N2 => ?_))
  have sf3 := CHr.safe R2 (Exa.lt EX) (hsf _ (by simp))
  have ne4 := N2 _ sf3
  show Goes p e below _ T2 (mkF m 11 #[.val (.ref x), .val (.ref ca), .val (.int 0), .val (.int 0), .val .null, .unset] [(.ref a2), (.ref x)])
  refine g_getfield (host := "") C X2 (Or.inl (wd hw 22 rfl)) Via.refl FV2 d2_11 (fun T5 X5 => ?_)
  have f6 := (Fld.ext E2 FV)
  have f7 := (Exa.ext E2 EX)
  refine g_putfield (host := "") C X5 (Or.inl (wd hw 22 rfl)) Via.refl f6 f7 (Or.inr ⟨(wd hw 18 rfl), rfl, rfl⟩) (wd hw 4 rfl) (ty := (.array .byte)) (by decide) rfl rfl hn d2_14 (fun T8 h8 X8 W8 => ?_)
  have f8 := Fld.same W8 f6
  refine g_aloadN C X8 d2_17 rfl rfl ?_
  have kp9 := (Keep.refl h2 [x]).wr W8 (Or.inl (by simp))
  have I10 := Lits.keep I2 kp9 (sfS sf3 sf0)
  have sf11 := Lits.safe I2 kp9 (sfS sf3 sf0) sf3
  have f12 := (Exa.wr W8 f7)
  refine g_ldcs 0 C X8 I10 (own_wS hw) (own_EW hw) (by decide +kernel) (wd hw 17 rfl) (vs := []) (z := 0) ⟨by decide +kernel, by decide +kernel⟩ (by decide) rfl (by decide) (by decide) d2_18 (by decide) (by decide) (fun a13 T13 h13 t13 k_t13 C X13 I13 R13 E13 EA13 FC13 FV13 VA13 N13 => ?_)
  have sf14 := CHr.safe R13 (Exa.lt f12) sf11
  have ne15 := N13 _ sf14
  show Goes p e below _ T13 (mkF m 20 #[.val (.ref x), .val (.ref ca), .val (.int 0), .val (.int 0), .val .null, .unset] [(.ref a13), (.ref x)])
  refine g_getfield (host := "") C X13 (Or.inl (wd hw 23 rfl)) Via.refl FC13 d2_20 (fun T16 X16 => ?_)
  have f17 := (Fld.ext E13 (Fld.other W8 (Fld.ext E2 FC) (Or.inr (slot_ne (Or.inr (wd hw 19 rfl)) (Or.inr (wd hw 18 rfl)) (by decide) (t := .byte) (t' := (.array .byte)) (by decide) (by decide)))))
  have f18 := (Exa.ext E13 f12)
  refine g_putfield (host := "") C X16 (Or.inl (wd hw 23 rfl)) Via.refl f17 f18 (Or.inr ⟨(wd hw 19 rfl), rfl, rfl⟩) (wd hw 4 rfl) (ty := .byte) (by decide) rfl rfl hn d2_23 (fun T19 h19 X19 W19 => ?_)
  have f19 := Fld.same W19 f17
  have kp20 := (Keep.refl h [x]).ext E2
  have kp21 := kp20.wr W8 (Or.inl (by simp))
  have kp22 := kp21.ext E13
  have kp23 := kp22.wr W19 (Or.inl (by simp))
  have f24 := (Exa.wr W19 f18)
  have f25 := (Fld.other W19 (Fld.ext E13 f8) (Or.inr (slot_ne (Or.inr (wd hw 18 rfl)) (Or.inr (wd hw 19 rfl)) (by decide) (t := (.array .byte)) (t' := .byte) (by decide) (by decide))))
  have f26 := (Arv.other (Arv.ext (Arv.other VA2 W8 (Ne.symm ne4.2)) E13) W19 (Ne.symm ne4.2))
  have kp27 := (Keep.refl h13 [x]).wr W19 (Or.inl (by simp))
  have I28 := Lits.keep I13 kp27 (sfS sf14 sf0)
  have sf29 := Lits.safe I13 kp27 (sfS sf14 sf0) sf14
  exact goes_L I28 (own_EW hw) C.hZ (g_retV C X19 d2_26 (by decide) (by decide) ⟨⟨rfl, kp23, f24, f19, t2, k_t2, ne4.2, f25, f26⟩, rfl⟩)
theorem ef_rI1 (m : MethodId) (x : Addr) (ca : Addr) : entryFrame m #[(.ref x), (.ref ca)] 2 = mkF m 0 #[.val (.ref x), .val (.ref ca)] [] := by first | (simp [entryFrame, mkF, argsToLocals, Value.category]; done) | rfl
theorem d1_0 : Dc jdk_42_method_3_code 0 (.aload_n 0) 1 1 := ⟨by decide +kernel, rfl⟩
theorem d1_1 : Dc jdk_42_method_3_code 1 (.aload_n 1) 1 2 := ⟨by decide +kernel, rfl⟩
theorem d1_2 : Dc jdk_42_method_3_code 2 (.iconst 0) 1 3 := ⟨by decide +kernel, rfl⟩
theorem d1_3 : Dc jdk_42_method_3_code 3 (.aload_n 1) 1 4 := ⟨by decide +kernel, rfl⟩
theorem d1_4 : Dc jdk_42_method_3_code 4 (.arraylength) 1 5 := ⟨by decide +kernel, rfl⟩
theorem d1_5 : Dc jdk_42_method_3_code 5 (.aconst_null) 1 6 := ⟨by decide +kernel, rfl⟩
theorem d1_6 : Dc jdk_42_method_3_code 6 (.invokespecial 27) 3 9 := ⟨by decide +kernel, rfl⟩
theorem pd_0 : parseMethodDescriptor "([CIILjava/lang/Void;)V" = some ⟨[(.array .char), .int, .int, (.object "java/lang/Void")], none⟩ := by decide +kernel
theorem d1_9 : Dc jdk_42_method_3_code 9 (.return_) 1 10 := ⟨by decide +kernel, rfl⟩
theorem rI1 (l : Launch) {Z : State} {a0 : Array Value} (hw : ∀ d ∈ tables_1, d.before a0 Z = true) {h : Heap} (hE : Ext Z.heap h) (x : Addr) (ca : Addr)  (EX : Exa Z h x "java/lang/String") (FC : Fld Z h x "java/lang/String" "coder" "B" (.int (0 : Int32))) (FV : Fld Z h x "java/lang/String" "value" "[B" .null) (hn : Z.heap.size ≤ x) (kc : ClassId) (VC : Arv Z h ca kc .char 0 [] (.int (0 : Int32))) :
    ConL l (⟨"java/lang/String", "<init>", "([C)V"⟩ : MethodName) jdk_42_method_3_code 2 none [] ({ frames := 2, cells := 4, slots := 8, locals := 36 } : Room) Z consts_1 [x] #[(.ref x), (.ref ca)] h (fun v' h' => v' = none ∧ Keep h h' [x] ∧ Exa Z h' x "java/lang/String" ∧ Fld Z h' x "java/lang/String" "coder" "B" (.int 0) ∧ ∃ (t : Addr) (kb : ClassId), x ≠ t ∧ Fld Z h' x "java/lang/String" "value" "[B" (.ref t) ∧ Arv Z h' t kb .byte 0 [] (.int 0)) := by
  refine con_ofL (plainFor_of_name pn_0) hE (fun m => ef_rI1 m x ca) ?_
  intro p e s m below meth c T0 C X0 I0 hsf
  have C : Cx p (s.setVm s.vm) m meth c Z "java/lang/String" "<init>" jdk_42_method_3_code 2 none := C
  show Goes p e below _ T0 (mkF m 0 #[.val (.ref x), .val (.ref ca)] [])
  refine g_aloadN C X0 d1_0 rfl rfl (g_aloadN C X0 d1_1 rfl rfl (g_iconst 0 C X0 d1_2 rfl (g_aloadN C X0 d1_3 rfl rfl (g_arraylength C X0 VC d1_4 (g_aconst_null C X0 d1_5 (g_specialL (argsL := [(.ref ca), (.int 0), (.int 0), .null]) (st := []) C X0 I0 rfl (wd hw 10 rfl) (wd hw 11 rfl) (wd hw 13 rfl) (by decide) (payL_of (W' := 0) (rI4 l hw X0.ext x ca EX FC FV hn kc VC) C.hZ (wd hw 13 rfl) (wd hw 5 rfl) (by decide) (by decide) (own_EW hw) I0 (List.forall_mem_cons.mpr ⟨⟨(Exa.lt EX), (hsf _ (by simp))⟩, fun _ q => nomatch q⟩)) pd_0 rfl rfl _ rfl (Nat.le_of_eq rfl) d1_6 (by decide) (by decide) (fun T30 h30 v30 q30 C X30 I30 R30 => ?_)))))))
  obtain ⟨rfl, K30, A30⟩ := q30
  have sf31 := CHr.safe R30 (Exa.lt EX) (hsf _ (by simp))
  show Goes p e below _ T30 (mkF m 9 #[.val (.ref x), .val (.ref ca)] [])
  exact goes_L I30 (own_EW hw) C.hZ (g_retV C X30 d1_9 (by decide) (by decide) ⟨⟨rfl, K30, A30⟩, rfl⟩)
theorem own_words {Z : State} {a0 : Array Value} (hw : ∀ d ∈ tables_1, d.before a0 Z = true) : ∀ d ∈ StrChars.Road.words, d.before a0 Z = true := fun d hd => hw d ((show ∀ d ∈ StrChars.Road.words, d ∈ tables_1 by decide +kernel) d hd)
theorem own_nb (x : Int32) : Value.int (nar .byte x.toInt8.toInt32) = .int x.toInt8.toInt32 := by
  show Value.int x.toInt8.toInt32.toInt8.toInt32 = _
  simp
theorem own_c16 (y : Int32) : ¬ ((y &&& (65535 : Int32)).toUInt32.toUInt16.toUInt32.toInt32) < 0 ∧ ¬ (65535 : Int32) < ((y &&& (65535 : Int32)).toUInt32.toUInt16.toUInt32.toInt32) := by
  have h := c_i2c (y &&& 65535)
  simp only [Int32.lt_iff_toInt_lt, Int32.reduceToInt]
  omega
theorem own_i2c {c : Int32} (h : ¬ c < 0 ∧ ¬ (65535 : Int32) < c) : c.toUInt32.toUInt16.toUInt32.toInt32 = c := by
  apply Int32.toInt_inj.mp
  have h1 := c_i2c c
  simp only [Int32.lt_iff_toInt_lt, Int32.reduceToInt] at h
  omega
theorem own_nar16 {c : Int32} (h : ¬ c < 0 ∧ ¬ (65535 : Int32) < c) : Value.int (nar .char c) = .int c := congrArg Value.int (own_i2c h)
theorem own_utf {c : Int32} (h : ¬ c < 0 ∧ ¬ (65535 : Int32) < c) : nar .char ((((((c >>> ((0 : Int32) &&& 31)).toInt8.toInt32) &&& (255 : Int32)) <<< ((0 : Int32) &&& 31)) ||| ((((c >>> ((8 : Int32) &&& 31)).toInt8.toInt32) &&& (255 : Int32)) <<< ((8 : Int32) &&& 31))).toUInt32.toUInt16.toUInt32.toInt32) = c := by
  have q : ((((((c >>> ((0 : Int32) &&& 31)).toInt8.toInt32) &&& (255 : Int32)) <<< ((0 : Int32) &&& 31)) ||| ((((c >>> ((8 : Int32) &&& 31)).toInt8.toInt32) &&& (255 : Int32)) <<< ((8 : Int32) &&& 31))).toUInt32.toUInt16.toUInt32.toInt32) = c := by
    apply Int32.toInt_inj.mp
    have r1 := c_ishr c 0 0 (by decide)
    have r2 := c_ishr c 8 8 (by decide)
    have r3 := c_i2b (c >>> ((0 : Int32) &&& 31))
    have r4 := c_i2b (c >>> ((8 : Int32) &&& 31))
    have r5 := c_mask ((c >>> ((0 : Int32) &&& 31)).toInt8.toInt32) 255 8 (by decide) (by decide)
    have r6 := c_mask ((c >>> ((8 : Int32) &&& 31)).toInt8.toInt32) 255 8 (by decide) (by decide)
    have r7 := c_ishl (((c >>> ((0 : Int32) &&& 31)).toInt8.toInt32) &&& 255) 0 0 (by decide)
    have r8 := c_ishl (((c >>> ((8 : Int32) &&& 31)).toInt8.toInt32) &&& 255) 8 8 (by decide)
    have g1 := rng32 ((((c >>> ((0 : Int32) &&& 31)).toInt8.toInt32) &&& 255) <<< ((0 : Int32) &&& 31))
    have g2 := rng32 ((((c >>> ((8 : Int32) &&& 31)).toInt8.toInt32) &&& 255) <<< ((8 : Int32) &&& 31))
    simp only [Int32.lt_iff_toInt_lt, Int32.reduceToInt] at h
    generalize e1 : ((((c >>> ((0 : Int32) &&& 31)).toInt8.toInt32) &&& 255) <<< ((0 : Int32) &&& 31)) = A at *
    generalize e2 : ((((c >>> ((8 : Int32) &&& 31)).toInt8.toInt32) &&& 255) <<< ((8 : Int32) &&& 31)) = B at *
    have g3 := c_or' A B 8 (by decide) 256 (by decide) (by omega) (by omega) (by omega)
    have g4 := rng32 (A ||| B)
    have g5 := c_i2c (A ||| B)
    omega
  rw [q]
  exact own_i2c h
theorem own_latR {c : Int32} (h : ¬ c < 0 ∧ ¬ (65535 : Int32) < c) (h2 : ¬ (255 : Int32) < c) : nar .char ((c.toInt8.toInt32 &&& (255 : Int32)).toUInt32.toUInt16.toUInt32.toInt32) = c := by
  have q : (c.toInt8.toInt32 &&& (255 : Int32)).toUInt32.toUInt16.toUInt32.toInt32 = c := by
    rw [i2c_mask]
    apply Int32.toInt_inj.mp
    have r1 := c_i2b c
    have r2 := c_mask c.toInt8.toInt32 255 8 (by decide) (by decide)
    simp only [Int32.lt_iff_toInt_lt, Int32.reduceToInt] at h h2
    omega
  rw [q]
  exact own_i2c h
def e1 (c : Int32) : Int32 := c.toInt8.toInt32
def e21 (c : Int32) : Int32 := ((192 : Int32) ||| (c >>> ((6 : Int32) &&& 31))).toInt8.toInt32
def e22 (c : Int32) : Int32 := ((128 : Int32) ||| (c &&& (63 : Int32))).toInt8.toInt32
def e31 (c : Int32) : Int32 := ((224 : Int32) ||| (c >>> ((12 : Int32) &&& 31))).toInt8.toInt32
def e32 (c : Int32) : Int32 := ((128 : Int32) ||| ((c >>> ((6 : Int32) &&& 31)) &&& (63 : Int32))).toInt8.toInt32
def encL (c : Int32) (bs : List Int32) (p : Int32) : List Int32 := if c < 128 then bs.set p.toNatClampNeg (e1 c) else if c < 2048 then (bs.set p.toNatClampNeg (e21 c)).set (p + 1).toNatClampNeg (e22 c) else ((bs.set p.toNatClampNeg (e31 c)).set (p + 1).toNatClampNeg (e32 c)).set ((p + 1) + 1).toNatClampNeg (e22 c)
def encP (c p : Int32) : Int32 := if c < 128 then p + 1 else if c < 2048 then (p + 1) + 1 else ((p + 1) + 1) + 1
theorem own_p2 (p : Int32) : p + 2 = (p + 1) + 1 := by rw [Int32.add_assoc]; rfl
theorem own_p3 (p : Int32) : p + 3 = ((p + 1) + 1) + 1 := by rw [Int32.add_assoc, Int32.add_assoc]; rfl
theorem own_len (c : Int32) (bs : List Int32) (p : Int32) : (encL c bs p).length = bs.length := by
  unfold encL
  by_cases h1 : c < 128
  · rw [if_pos h1]; simp
  · rw [if_neg h1]
    by_cases h2 : c < 2048
    · rw [if_pos h2]; simp
    · rw [if_neg h2]; simp
theorem own_j0 {p : Int32} (h : ¬ p < 0 ∧ ¬ (6 : Int32) < p) : ¬ p < 0 ∧ p < 9 ∧ p.toNatClampNeg < 9 := by
  simp only [Int32.lt_iff_toInt_lt, Int32.toNatClampNeg, Int32.reduceToInt] at *
  omega
theorem own_j1 {p : Int32} (h : ¬ p < 0 ∧ ¬ (6 : Int32) < p) : ¬ p + 1 < 0 ∧ p + 1 < 9 ∧ (p + 1).toNatClampNeg < 9 := by
  have h1 := c_iadd p 1
  have h2 := rng32 (p + 1)
  simp only [Int32.lt_iff_toInt_lt, Int32.toNatClampNeg, Int32.reduceToInt] at *
  omega
theorem own_j2 {p : Int32} (h : ¬ p < 0 ∧ ¬ (6 : Int32) < p) : ¬ (p + 1) + 1 < 0 ∧ (p + 1) + 1 < 9 ∧ ((p + 1) + 1).toNatClampNeg < 9 := by
  have h1 := c_iadd p 1
  have h2 := rng32 (p + 1)
  have h3 := c_iadd (p + 1) 1
  have h4 := rng32 ((p + 1) + 1)
  simp only [Int32.lt_iff_toInt_lt, Int32.toNatClampNeg, Int32.reduceToInt] at *
  omega
theorem own_j2' {p : Int32} (h : ¬ p < 0 ∧ ¬ (6 : Int32) < p) : ¬ p + 2 < 0 ∧ p + 2 < 9 ∧ (p + 2).toNatClampNeg < 9 := by rw [own_p2]; exact own_j2 h
theorem own_pp {c p : Int32} (h : ¬ p < 0 ∧ ¬ (3 : Int32) < p) : ¬ encP c p < 0 ∧ ¬ (6 : Int32) < encP c p := by
  have h1 := c_iadd p 1
  have h2 := rng32 (p + 1)
  have h3 := c_iadd (p + 1) 1
  have h4 := rng32 ((p + 1) + 1)
  have h5 := c_iadd ((p + 1) + 1) 1
  have h6 := rng32 (((p + 1) + 1) + 1)
  unfold encP
  by_cases g1 : c < 128
  · rw [if_pos g1]
    simp only [Int32.lt_iff_toInt_lt, Int32.reduceToInt] at *
    omega
  · rw [if_neg g1]
    by_cases g2 : c < 2048
    · rw [if_pos g2]
      simp only [Int32.lt_iff_toInt_lt, Int32.reduceToInt] at *
      omega
    · rw [if_neg g2]
      simp only [Int32.lt_iff_toInt_lt, Int32.reduceToInt] at *
      omega
theorem own_w {p : Int32} (h : ¬ p < 0 ∧ ¬ (3 : Int32) < p) : ¬ p < 0 ∧ ¬ (6 : Int32) < p := by
  simp only [Int32.lt_iff_toInt_lt, Int32.reduceToInt] at *
  omega
theorem own_at (x : Int32) : ¬ (x &&& (3 : Int32)) < 0 ∧ ¬ (3 : Int32) < (x &&& (3 : Int32)) := by
  have h1 := c_mask x 3 2 (by decide) (by decide)
  simp only [Int32.lt_iff_toInt_lt, Int32.reduceToInt] at *
  omega
theorem own_getI (bs : List Int32) (j : Nat) : (bs.map Value.int).getD j (.int 0) = .int (bs.getD j 0) := by
  induction bs generalizing j with
  | nil => rfl
  | cons b t ih => cases j with
    | zero => rfl
    | succ j => exact ih j
theorem own_n3 (x : Int32) : ((x &&& (2147483647 : Int32)) % (3 : Int32)) = (0 : Int32) ∨ ((x &&& (2147483647 : Int32)) % (3 : Int32)) = (1 : Int32) ∨ ((x &&& (2147483647 : Int32)) % (3 : Int32)) = (2 : Int32) := by
  have h1 := c_mask x 2147483647 31 (by decide) (by decide)
  have h2 := (c_irem (x &&& 2147483647) 3 3 (by decide)).1 (by rw [h1]; omega)
  simp only [← Int32.toInt_inj, Int32.reduceToInt] at *
  omega
theorem own_b8 {x y : Int32} (h : (x.toInt - y.toInt) % 256 = 0) : x.toInt8.toInt32 = y.toInt8.toInt32 := by
  apply Int32.toInt_inj.mp
  have h1 := c_i2b x
  have h2 := c_i2b y
  omega
theorem own_q21 {c : Int32} (h : (¬ c < 0 ∧ ¬ (65535 : Int32) < c)) (h1 : ¬ c < 128) (h2 : c < 2048) : Value.int (nar .byte ((192 : Int32) + (c / (64 : Int32))).toInt8.toInt32) = .int (e21 c) := by
  rw [own_nb]
  refine congrArg Value.int (own_b8 ?_)
  have r1 := (c_idiv c 64 64 (by decide) (by decide)).1
  have r2 := c_iadd 192 (c / 64)
  have r3 := rng32 (192 + c / 64)
  have r4 := c_ishr c 6 6 (by decide)
  have r6 := rng32 ((192 : Int32) ||| (c >>> ((6 : Int32) &&& 31)))
  simp only [Int32.lt_iff_toInt_lt, Int32.reduceToInt] at *
  have r5 := c_or 192 (c >>> ((6 : Int32) &&& 31)) 6 (by decide) 64 (by decide) (by decide) (by omega) (by omega)
  simp only [Int32.reduceToInt] at *
  omega
theorem own_q22 {c : Int32} (h : (¬ c < 0 ∧ ¬ (65535 : Int32) < c)) : Value.int (nar .byte ((128 : Int32) + (c % (64 : Int32))).toInt8.toInt32) = .int (e22 c) := by
  rw [own_nb]
  refine congrArg Value.int (own_b8 ?_)
  have r1 := (c_irem c 64 64 (by decide)).1
  have r2 := c_iadd 128 (c % 64)
  have r3 := rng32 (128 + c % 64)
  have r4 := c_mask c 63 6 (by decide) (by decide)
  have r6 := rng32 ((128 : Int32) ||| (c &&& 63))
  simp only [Int32.lt_iff_toInt_lt, Int32.reduceToInt] at *
  have r5 := c_or 128 (c &&& 63) 6 (by decide) 64 (by decide) (by decide) (by omega) (by omega)
  simp only [Int32.reduceToInt] at *
  omega
theorem own_q31 {c : Int32} (h : (¬ c < 0 ∧ ¬ (65535 : Int32) < c)) : Value.int (nar .byte ((224 : Int32) + (c / (4096 : Int32))).toInt8.toInt32) = .int (e31 c) := by
  rw [own_nb]
  refine congrArg Value.int (own_b8 ?_)
  have r1 := (c_idiv c 4096 4096 (by decide) (by decide)).1
  have r2 := c_iadd 224 (c / 4096)
  have r3 := rng32 (224 + c / 4096)
  have r4 := c_ishr c 12 12 (by decide)
  have r6 := rng32 ((224 : Int32) ||| (c >>> ((12 : Int32) &&& 31)))
  simp only [Int32.lt_iff_toInt_lt, Int32.reduceToInt] at *
  have r5 := c_or 224 (c >>> ((12 : Int32) &&& 31)) 5 (by decide) 32 (by decide) (by decide) (by omega) (by omega)
  simp only [Int32.reduceToInt] at *
  omega
theorem own_q32 {c : Int32} (h : (¬ c < 0 ∧ ¬ (65535 : Int32) < c)) : Value.int (nar .byte ((128 : Int32) + ((c / (64 : Int32)) % (64 : Int32))).toInt8.toInt32) = .int (e32 c) := by
  rw [own_nb]
  refine congrArg Value.int (own_b8 ?_)
  have r1 := (c_idiv c 64 64 (by decide) (by decide)).1
  have r1' := (c_irem (c / 64) 64 64 (by decide)).1
  have r2 := c_iadd 128 ((c / 64) % 64)
  have r3 := rng32 (128 + (c / 64) % 64)
  have r4 := c_ishr c 6 6 (by decide)
  have r4' := c_mask (c >>> ((6 : Int32) &&& 31)) 63 6 (by decide) (by decide)
  have r6 := rng32 ((128 : Int32) ||| ((c >>> ((6 : Int32) &&& 31)) &&& 63))
  simp only [Int32.lt_iff_toInt_lt, Int32.reduceToInt] at *
  have r5 := c_or 128 ((c >>> ((6 : Int32) &&& 31)) &&& 63) 6 (by decide) 64 (by decide) (by decide) (by omega) (by omega)
  simp only [Int32.reduceToInt] at *
  omega
theorem ef_rCo0 (m : MethodId) (x : Addr) : entryFrame m #[(.ref x)] 1 = mkF m 0 #[.val (.ref x)] [] := by first | (simp [entryFrame, mkF, argsToLocals, Value.category]; done) | rfl
theorem d13_0 : Dc jdk_42_method_152_code 0 (.getstatic 38) 3 3 := ⟨by decide +kernel, rfl⟩
theorem d13_3 : Dj jdk_42_method_152_code 3 (.ifCond .eq 10) 10 3 6 13 := ⟨by decide +kernel, rfl, by decide, by decide⟩
theorem d13_6 : Dc jdk_42_method_152_code 6 (.aload_n 0) 1 7 := ⟨by decide +kernel, rfl⟩
theorem d13_7 : Dc jdk_42_method_152_code 7 (.getfield 15) 3 10 := ⟨by decide +kernel, rfl⟩
theorem d13_10 : Dj jdk_42_method_152_code 10 (.goto 4) 4 3 13 14 := ⟨by decide +kernel, rfl, by decide, by decide⟩
theorem d13_14 : Dc jdk_42_method_152_code 14 (.ireturn) 1 15 := ⟨by decide +kernel, rfl⟩
theorem rCo0 (l : Launch) {Z : State} {a0 : Array Value} (hw : ∀ d ∈ tables_1, d.before a0 Z = true) {h : Heap} (hE : Ext Z.heap h) (x : Addr) (z_ : Int32) (SZ : Sta Z Z.heap "java/lang/String" "COMPACT_STRINGS" "Z" (.int z_)) (hz : ¬ z_ = 0) (FC : Fld Z h x "java/lang/String" "coder" "B" (.int (0 : Int32))) :
    Con l (⟨"java/lang/String", "coder", "()B"⟩ : MethodName) jdk_42_method_152_code 1 (some .byte) [] ({ frames := 0, cells := 0, slots := 0, locals := 0 } : Room) Z #[(.ref x)] h (fun v' h' => v' = some (.int 0) ∧ h' = h) := by
  refine con_of (plainFor_of_name pn_0) hE (fun m => ef_rCo0 m x) ?_
  intro p e s m below meth c T0 C X0
  have C : Cx p s m meth c Z "java/lang/String" "coder" jdk_42_method_152_code 1 (some .byte) := C
  show Goes p e below _ T0 (mkF m 0 #[.val (.ref x)] [])
  refine g_getstatic (host := "") C X0 (Or.inl (wd hw 27 rfl)) Via.refl SZ d13_0 (fun T32 X32 => ?_)
  refine g_if (h0_eq _) C X32 d13_3 (fun q => absurd q hz) (fun _ => ?_)
  refine g_aloadN C X32 d13_6 rfl rfl (g_getfield (host := "") C X32 (Or.inl (wd hw 23 rfl)) Via.refl FC d13_7 (fun T33 X33 => ?_))
  refine g_goto C X33 d13_10 ?_
  exact g_retN C X33 (by simp) d13_14 (0 : Int32) rfl (by decide) (by decide) ⟨rfl, rfl⟩
theorem ef_rIL0 (m : MethodId) (x : Addr) : entryFrame m #[(.ref x)] 1 = mkF m 0 #[.val (.ref x)] [] := by first | (simp [entryFrame, mkF, argsToLocals, Value.category]; done) | rfl
theorem d15_0 : Dc jdk_42_method_154_code 0 (.getstatic 38) 3 3 := ⟨by decide +kernel, rfl⟩
theorem d15_3 : Dj jdk_42_method_154_code 3 (.ifCond .eq 14) 14 3 6 17 := ⟨by decide +kernel, rfl, by decide, by decide⟩
theorem d15_6 : Dc jdk_42_method_154_code 6 (.aload_n 0) 1 7 := ⟨by decide +kernel, rfl⟩
theorem d15_7 : Dc jdk_42_method_154_code 7 (.getfield 15) 3 10 := ⟨by decide +kernel, rfl⟩
theorem d15_10 : Dj jdk_42_method_154_code 10 (.ifCond .ne 7) 7 3 13 17 := ⟨by decide +kernel, rfl, by decide, by decide⟩
theorem d15_13 : Dc jdk_42_method_154_code 13 (.iconst 1) 1 14 := ⟨by decide +kernel, rfl⟩
theorem d15_14 : Dj jdk_42_method_154_code 14 (.goto 4) 4 3 17 18 := ⟨by decide +kernel, rfl, by decide, by decide⟩
theorem d15_18 : Dc jdk_42_method_154_code 18 (.ireturn) 1 19 := ⟨by decide +kernel, rfl⟩
theorem rIL0 (l : Launch) {Z : State} {a0 : Array Value} (hw : ∀ d ∈ tables_1, d.before a0 Z = true) {h : Heap} (hE : Ext Z.heap h) (x : Addr) (z_ : Int32) (SZ : Sta Z Z.heap "java/lang/String" "COMPACT_STRINGS" "Z" (.int z_)) (hz : ¬ z_ = 0) (FC : Fld Z h x "java/lang/String" "coder" "B" (.int (0 : Int32))) :
    Con l (⟨"java/lang/String", "isLatin1", "()Z"⟩ : MethodName) jdk_42_method_154_code 1 (some .boolean) [] ({ frames := 0, cells := 0, slots := 0, locals := 0 } : Room) Z #[(.ref x)] h (fun v' h' => v' = some (.int 1) ∧ h' = h) := by
  refine con_of (plainFor_of_name pn_0) hE (fun m => ef_rIL0 m x) ?_
  intro p e s m below meth c T0 C X0
  have C : Cx p s m meth c Z "java/lang/String" "isLatin1" jdk_42_method_154_code 1 (some .boolean) := C
  show Goes p e below _ T0 (mkF m 0 #[.val (.ref x)] [])
  refine g_getstatic (host := "") C X0 (Or.inl (wd hw 27 rfl)) Via.refl SZ d15_0 (fun T34 X34 => ?_)
  refine g_if (h0_eq _) C X34 d15_3 (fun q => absurd q hz) (fun _ => ?_)
  refine g_aloadN C X34 d15_6 rfl rfl (g_getfield (host := "") C X34 (Or.inl (wd hw 23 rfl)) Via.refl FC d15_7 (fun T35 X35 => ?_))
  refine g_ifn (h0_ne _) C X35 d15_10 (fun q => absurd (by decide) q) (fun _ => ?_)
  refine g_iconst 1 C X35 d15_13 rfl (g_goto C X35 d15_14 ?_)
  exact g_retN C X35 (by simp) d15_18 (1 : Int32) rfl (by decide) (by decide) ⟨rfl, rfl⟩
theorem ef_rCo1 (m : MethodId) (x : Addr) : entryFrame m #[(.ref x)] 1 = mkF m 0 #[.val (.ref x)] [] := by first | (simp [entryFrame, mkF, argsToLocals, Value.category]; done) | rfl
theorem rCo1 (l : Launch) {Z : State} {a0 : Array Value} (hw : ∀ d ∈ tables_1, d.before a0 Z = true) {h : Heap} (hE : Ext Z.heap h) (x : Addr) (z_ : Int32) (SZ : Sta Z Z.heap "java/lang/String" "COMPACT_STRINGS" "Z" (.int z_)) (hz : ¬ z_ = 0) (FC : Fld Z h x "java/lang/String" "coder" "B" (.int (1 : Int32))) :
    Con l (⟨"java/lang/String", "coder", "()B"⟩ : MethodName) jdk_42_method_152_code 1 (some .byte) [] ({ frames := 0, cells := 0, slots := 0, locals := 0 } : Room) Z #[(.ref x)] h (fun v' h' => v' = some (.int 1) ∧ h' = h) := by
  refine con_of (plainFor_of_name pn_0) hE (fun m => ef_rCo1 m x) ?_
  intro p e s m below meth c T0 C X0
  have C : Cx p s m meth c Z "java/lang/String" "coder" jdk_42_method_152_code 1 (some .byte) := C
  show Goes p e below _ T0 (mkF m 0 #[.val (.ref x)] [])
  refine g_getstatic (host := "") C X0 (Or.inl (wd hw 27 rfl)) Via.refl SZ d13_0 (fun T36 X36 => ?_)
  refine g_if (h0_eq _) C X36 d13_3 (fun q => absurd q hz) (fun _ => ?_)
  refine g_aloadN C X36 d13_6 rfl rfl (g_getfield (host := "") C X36 (Or.inl (wd hw 23 rfl)) Via.refl FC d13_7 (fun T37 X37 => ?_))
  refine g_goto C X37 d13_10 ?_
  exact g_retN C X37 (by simp) d13_14 (1 : Int32) rfl (by decide) (by decide) ⟨rfl, rfl⟩
theorem ef_rIL1 (m : MethodId) (x : Addr) : entryFrame m #[(.ref x)] 1 = mkF m 0 #[.val (.ref x)] [] := by first | (simp [entryFrame, mkF, argsToLocals, Value.category]; done) | rfl
theorem d15_17 : Dc jdk_42_method_154_code 17 (.iconst 0) 1 18 := ⟨by decide +kernel, rfl⟩
theorem rIL1 (l : Launch) {Z : State} {a0 : Array Value} (hw : ∀ d ∈ tables_1, d.before a0 Z = true) {h : Heap} (hE : Ext Z.heap h) (x : Addr) (z_ : Int32) (SZ : Sta Z Z.heap "java/lang/String" "COMPACT_STRINGS" "Z" (.int z_)) (hz : ¬ z_ = 0) (FC : Fld Z h x "java/lang/String" "coder" "B" (.int (1 : Int32))) :
    Con l (⟨"java/lang/String", "isLatin1", "()Z"⟩ : MethodName) jdk_42_method_154_code 1 (some .boolean) [] ({ frames := 0, cells := 0, slots := 0, locals := 0 } : Room) Z #[(.ref x)] h (fun v' h' => v' = some (.int 0) ∧ h' = h) := by
  refine con_of (plainFor_of_name pn_0) hE (fun m => ef_rIL1 m x) ?_
  intro p e s m below meth c T0 C X0
  have C : Cx p s m meth c Z "java/lang/String" "isLatin1" jdk_42_method_154_code 1 (some .boolean) := C
  show Goes p e below _ T0 (mkF m 0 #[.val (.ref x)] [])
  refine g_getstatic (host := "") C X0 (Or.inl (wd hw 27 rfl)) Via.refl SZ d15_0 (fun T38 X38 => ?_)
  refine g_if (h0_eq _) C X38 d15_3 (fun q => absurd q hz) (fun _ => ?_)
  refine g_aloadN C X38 d15_6 rfl rfl (g_getfield (host := "") C X38 (Or.inl (wd hw 23 rfl)) Via.refl FC d15_7 (fun T39 X39 => ?_))
  refine g_ifn (h0_ne _) C X39 d15_10 (fun _ => ?_) (fun q => absurd q (by decide))
  refine g_iconst 0 C X39 d15_17 rfl ?_
  exact g_retN C X39 (by simp) d15_18 (0 : Int32) rfl (by decide) (by decide) ⟨rfl, rfl⟩
theorem ef_rLn0L (m : MethodId) (x : Addr) : entryFrame m #[(.ref x)] 1 = mkF m 0 #[.val (.ref x)] [] := by first | (simp [entryFrame, mkF, argsToLocals, Value.category]; done) | rfl
theorem d12_0 : Dc jdk_42_method_54_code 0 (.aload_n 0) 1 1 := ⟨by decide +kernel, rfl⟩
theorem d12_1 : Dc jdk_42_method_54_code 1 (.getfield 9) 3 4 := ⟨by decide +kernel, rfl⟩
theorem d12_4 : Dc jdk_42_method_54_code 4 (.arraylength) 1 5 := ⟨by decide +kernel, rfl⟩
theorem d12_5 : Dc jdk_42_method_54_code 5 (.aload_n 0) 1 6 := ⟨by decide +kernel, rfl⟩
theorem d12_6 : Dc jdk_42_method_54_code 6 (.invokevirtual 335) 3 9 := ⟨by decide +kernel, rfl⟩
theorem pd_1 : parseMethodDescriptor "()B" = some ⟨[], some .byte⟩ := by decide +kernel
theorem d12_9 : Dc jdk_42_method_54_code 9 (.ishr) 1 10 := ⟨by decide +kernel, rfl⟩
theorem d12_10 : Dc jdk_42_method_54_code 10 (.ireturn) 1 11 := ⟨by decide +kernel, rfl⟩
theorem rLn0L (l : Launch) {Z : State} {a0 : Array Value} (hw : ∀ d ∈ tables_1, d.before a0 Z = true) {h : Heap} (hE : Ext Z.heap h) (x : Addr) (z_ : Int32) (SZ : Sta Z Z.heap "java/lang/String" "COMPACT_STRINGS" "Z" (.int z_)) (hz : ¬ z_ = 0) (t : Addr) (kt : ClassId) (a b : Int32) (EX : Exa Z h x "java/lang/String") (FC : Fld Z h x "java/lang/String" "coder" "B" (.int (0 : Int32))) (FV : Fld Z h x "java/lang/String" "value" "[B" (.ref t)) (VT : Arv Z h t kt .byte 0 [] (.int (0 : Int32))) (ha : (¬ a < 0 ∧ ¬ (65535 : Int32) < a)) (hb : (¬ b < 0 ∧ ¬ (65535 : Int32) < b))  :
    Con l (⟨"java/lang/String", "length", "()I"⟩ : MethodName) jdk_42_method_54_code 1 (some .int) [] ({ frames := 1, cells := 0, slots := 0, locals := 20 } : Room) Z #[(.ref x)] h (fun v' h' => v' = some (.int 0) ∧ h' = h) := by
  refine con_of (plainFor_of_name pn_0) hE (fun m => ef_rLn0L m x) ?_
  intro p e s m below meth c T0 C X0
  have C : Cx p s m meth c Z "java/lang/String" "length" jdk_42_method_54_code 1 (some .int) := C
  show Goes p e below _ T0 (mkF m 0 #[.val (.ref x)] [])
  refine g_aloadN C X0 d12_0 rfl rfl (g_getfield (host := "") C X0 (Or.inl (wd hw 22 rfl)) Via.refl FV d12_1 (fun T40 X40 => ?_))
  refine g_arraylength C X40 VT d12_4 (g_aloadN C X40 d12_5 rfl rfl (g_virtualP (argsL := []) (st := [(.int 0)]) C X40 (wd hw 62 rfl) (wd hw 63 rfl) (nf_of C (wd hw 65 rfl) rfl rfl) (wd hw 65 rfl) (wd hw 64 rfl) (by decide) EX (pay_of (W' := 1) (rCo0 l hw X40.ext x z_ SZ hz FC) C.hZ (wd hw 66 rfl) (wd hw 5 rfl) (by decide) (by decide)) pd_1 rfl rfl _ rfl (Nat.le_of_eq rfl) d12_6 (by decide) (by decide) (fun T41 X41 => ?_)))
  refine g_ishr C X41 d12_9 ?_
  exact g_retI C X41 d12_10 (by decide) (by decide) ⟨rfl, rfl⟩
theorem ef_rLn1L (m : MethodId) (x : Addr) : entryFrame m #[(.ref x)] 1 = mkF m 0 #[.val (.ref x)] [] := by first | (simp [entryFrame, mkF, argsToLocals, Value.category]; done) | rfl
theorem rLn1L (l : Launch) {Z : State} {a0 : Array Value} (hw : ∀ d ∈ tables_1, d.before a0 Z = true) {h : Heap} (hE : Ext Z.heap h) (x : Addr) (z_ : Int32) (SZ : Sta Z Z.heap "java/lang/String" "COMPACT_STRINGS" "Z" (.int z_)) (hz : ¬ z_ = 0) (t : Addr) (kt : ClassId) (a b : Int32) (EX : Exa Z h x "java/lang/String") (FC : Fld Z h x "java/lang/String" "coder" "B" (.int (0 : Int32))) (FV : Fld Z h x "java/lang/String" "value" "[B" (.ref t)) (VT : Arv Z h t kt .byte 1 [(.int (a.toInt8.toInt32))] (.int (0 : Int32))) (ha : (¬ a < 0 ∧ ¬ (65535 : Int32) < a)) (hb : (¬ b < 0 ∧ ¬ (65535 : Int32) < b)) (la : ¬ (255 : Int32) < a) :
    Con l (⟨"java/lang/String", "length", "()I"⟩ : MethodName) jdk_42_method_54_code 1 (some .int) [] ({ frames := 1, cells := 0, slots := 0, locals := 20 } : Room) Z #[(.ref x)] h (fun v' h' => v' = some (.int 1) ∧ h' = h) := by
  refine con_of (plainFor_of_name pn_0) hE (fun m => ef_rLn1L m x) ?_
  intro p e s m below meth c T0 C X0
  have C : Cx p s m meth c Z "java/lang/String" "length" jdk_42_method_54_code 1 (some .int) := C
  show Goes p e below _ T0 (mkF m 0 #[.val (.ref x)] [])
  refine g_aloadN C X0 d12_0 rfl rfl (g_getfield (host := "") C X0 (Or.inl (wd hw 22 rfl)) Via.refl FV d12_1 (fun T42 X42 => ?_))
  refine g_arraylength C X42 VT d12_4 (g_aloadN C X42 d12_5 rfl rfl (g_virtualP (argsL := []) (st := [(.int 1)]) C X42 (wd hw 62 rfl) (wd hw 63 rfl) (nf_of C (wd hw 65 rfl) rfl rfl) (wd hw 65 rfl) (wd hw 64 rfl) (by decide) EX (pay_of (W' := 1) (rCo0 l hw X42.ext x z_ SZ hz FC) C.hZ (wd hw 66 rfl) (wd hw 5 rfl) (by decide) (by decide)) pd_1 rfl rfl _ rfl (Nat.le_of_eq rfl) d12_6 (by decide) (by decide) (fun T43 X43 => ?_)))
  refine g_ishr C X43 d12_9 ?_
  exact g_retI C X43 d12_10 (by decide) (by decide) ⟨rfl, rfl⟩
theorem ef_rLn1U (m : MethodId) (x : Addr) : entryFrame m #[(.ref x)] 1 = mkF m 0 #[.val (.ref x)] [] := by first | (simp [entryFrame, mkF, argsToLocals, Value.category]; done) | rfl
theorem rLn1U (l : Launch) {Z : State} {a0 : Array Value} (hw : ∀ d ∈ tables_1, d.before a0 Z = true) {h : Heap} (hE : Ext Z.heap h) (x : Addr) (z_ : Int32) (SZ : Sta Z Z.heap "java/lang/String" "COMPACT_STRINGS" "Z" (.int z_)) (hz : ¬ z_ = 0) (t : Addr) (kt : ClassId) (a b : Int32) (EX : Exa Z h x "java/lang/String") (FC : Fld Z h x "java/lang/String" "coder" "B" (.int (1 : Int32))) (FV : Fld Z h x "java/lang/String" "value" "[B" (.ref t)) (VT : Arv Z h t kt .byte 2 [(.int ((a >>> ((0 : Int32) &&& 31)).toInt8.toInt32)), (.int ((a >>> ((8 : Int32) &&& 31)).toInt8.toInt32))] (.int (0 : Int32))) (ha : (¬ a < 0 ∧ ¬ (65535 : Int32) < a)) (hb : (¬ b < 0 ∧ ¬ (65535 : Int32) < b))  :
    Con l (⟨"java/lang/String", "length", "()I"⟩ : MethodName) jdk_42_method_54_code 1 (some .int) [] ({ frames := 1, cells := 0, slots := 0, locals := 20 } : Room) Z #[(.ref x)] h (fun v' h' => v' = some (.int 1) ∧ h' = h) := by
  refine con_of (plainFor_of_name pn_0) hE (fun m => ef_rLn1U m x) ?_
  intro p e s m below meth c T0 C X0
  have C : Cx p s m meth c Z "java/lang/String" "length" jdk_42_method_54_code 1 (some .int) := C
  show Goes p e below _ T0 (mkF m 0 #[.val (.ref x)] [])
  refine g_aloadN C X0 d12_0 rfl rfl (g_getfield (host := "") C X0 (Or.inl (wd hw 22 rfl)) Via.refl FV d12_1 (fun T44 X44 => ?_))
  refine g_arraylength C X44 VT d12_4 (g_aloadN C X44 d12_5 rfl rfl (g_virtualP (argsL := []) (st := [(.int 2)]) C X44 (wd hw 62 rfl) (wd hw 63 rfl) (nf_of C (wd hw 65 rfl) rfl rfl) (wd hw 65 rfl) (wd hw 64 rfl) (by decide) EX (pay_of (W' := 1) (rCo1 l hw X44.ext x z_ SZ hz FC) C.hZ (wd hw 66 rfl) (wd hw 5 rfl) (by decide) (by decide)) pd_1 rfl rfl _ rfl (Nat.le_of_eq rfl) d12_6 (by decide) (by decide) (fun T45 X45 => ?_)))
  refine g_ishr C X45 d12_9 ?_
  exact g_retI C X45 d12_10 (by decide) (by decide) ⟨rfl, rfl⟩
theorem ef_rLn2L (m : MethodId) (x : Addr) : entryFrame m #[(.ref x)] 1 = mkF m 0 #[.val (.ref x)] [] := by first | (simp [entryFrame, mkF, argsToLocals, Value.category]; done) | rfl
theorem rLn2L (l : Launch) {Z : State} {a0 : Array Value} (hw : ∀ d ∈ tables_1, d.before a0 Z = true) {h : Heap} (hE : Ext Z.heap h) (x : Addr) (z_ : Int32) (SZ : Sta Z Z.heap "java/lang/String" "COMPACT_STRINGS" "Z" (.int z_)) (hz : ¬ z_ = 0) (t : Addr) (kt : ClassId) (a b : Int32) (EX : Exa Z h x "java/lang/String") (FC : Fld Z h x "java/lang/String" "coder" "B" (.int (0 : Int32))) (FV : Fld Z h x "java/lang/String" "value" "[B" (.ref t)) (VT : Arv Z h t kt .byte 2 [(.int (a.toInt8.toInt32)), (.int (b.toInt8.toInt32))] (.int (0 : Int32))) (ha : (¬ a < 0 ∧ ¬ (65535 : Int32) < a)) (hb : (¬ b < 0 ∧ ¬ (65535 : Int32) < b)) (la : ¬ (255 : Int32) < a) (lb : ¬ (255 : Int32) < b) :
    Con l (⟨"java/lang/String", "length", "()I"⟩ : MethodName) jdk_42_method_54_code 1 (some .int) [] ({ frames := 1, cells := 0, slots := 0, locals := 20 } : Room) Z #[(.ref x)] h (fun v' h' => v' = some (.int 2) ∧ h' = h) := by
  refine con_of (plainFor_of_name pn_0) hE (fun m => ef_rLn2L m x) ?_
  intro p e s m below meth c T0 C X0
  have C : Cx p s m meth c Z "java/lang/String" "length" jdk_42_method_54_code 1 (some .int) := C
  show Goes p e below _ T0 (mkF m 0 #[.val (.ref x)] [])
  refine g_aloadN C X0 d12_0 rfl rfl (g_getfield (host := "") C X0 (Or.inl (wd hw 22 rfl)) Via.refl FV d12_1 (fun T46 X46 => ?_))
  refine g_arraylength C X46 VT d12_4 (g_aloadN C X46 d12_5 rfl rfl (g_virtualP (argsL := []) (st := [(.int 2)]) C X46 (wd hw 62 rfl) (wd hw 63 rfl) (nf_of C (wd hw 65 rfl) rfl rfl) (wd hw 65 rfl) (wd hw 64 rfl) (by decide) EX (pay_of (W' := 1) (rCo0 l hw X46.ext x z_ SZ hz FC) C.hZ (wd hw 66 rfl) (wd hw 5 rfl) (by decide) (by decide)) pd_1 rfl rfl _ rfl (Nat.le_of_eq rfl) d12_6 (by decide) (by decide) (fun T47 X47 => ?_)))
  refine g_ishr C X47 d12_9 ?_
  exact g_retI C X47 d12_10 (by decide) (by decide) ⟨rfl, rfl⟩
theorem ef_rLn2U (m : MethodId) (x : Addr) : entryFrame m #[(.ref x)] 1 = mkF m 0 #[.val (.ref x)] [] := by first | (simp [entryFrame, mkF, argsToLocals, Value.category]; done) | rfl
theorem rLn2U (l : Launch) {Z : State} {a0 : Array Value} (hw : ∀ d ∈ tables_1, d.before a0 Z = true) {h : Heap} (hE : Ext Z.heap h) (x : Addr) (z_ : Int32) (SZ : Sta Z Z.heap "java/lang/String" "COMPACT_STRINGS" "Z" (.int z_)) (hz : ¬ z_ = 0) (t : Addr) (kt : ClassId) (a b : Int32) (EX : Exa Z h x "java/lang/String") (FC : Fld Z h x "java/lang/String" "coder" "B" (.int (1 : Int32))) (FV : Fld Z h x "java/lang/String" "value" "[B" (.ref t)) (VT : Arv Z h t kt .byte 4 [(.int ((a >>> ((0 : Int32) &&& 31)).toInt8.toInt32)), (.int ((a >>> ((8 : Int32) &&& 31)).toInt8.toInt32)), (.int ((b >>> ((0 : Int32) &&& 31)).toInt8.toInt32)), (.int ((b >>> ((8 : Int32) &&& 31)).toInt8.toInt32))] (.int (0 : Int32))) (ha : (¬ a < 0 ∧ ¬ (65535 : Int32) < a)) (hb : (¬ b < 0 ∧ ¬ (65535 : Int32) < b))  :
    Con l (⟨"java/lang/String", "length", "()I"⟩ : MethodName) jdk_42_method_54_code 1 (some .int) [] ({ frames := 1, cells := 0, slots := 0, locals := 20 } : Room) Z #[(.ref x)] h (fun v' h' => v' = some (.int 2) ∧ h' = h) := by
  refine con_of (plainFor_of_name pn_0) hE (fun m => ef_rLn2U m x) ?_
  intro p e s m below meth c T0 C X0
  have C : Cx p s m meth c Z "java/lang/String" "length" jdk_42_method_54_code 1 (some .int) := C
  show Goes p e below _ T0 (mkF m 0 #[.val (.ref x)] [])
  refine g_aloadN C X0 d12_0 rfl rfl (g_getfield (host := "") C X0 (Or.inl (wd hw 22 rfl)) Via.refl FV d12_1 (fun T48 X48 => ?_))
  refine g_arraylength C X48 VT d12_4 (g_aloadN C X48 d12_5 rfl rfl (g_virtualP (argsL := []) (st := [(.int 4)]) C X48 (wd hw 62 rfl) (wd hw 63 rfl) (nf_of C (wd hw 65 rfl) rfl rfl) (wd hw 65 rfl) (wd hw 64 rfl) (by decide) EX (pay_of (W' := 1) (rCo1 l hw X48.ext x z_ SZ hz FC) C.hZ (wd hw 66 rfl) (wd hw 5 rfl) (by decide) (by decide)) pd_1 rfl rfl _ rfl (Nat.le_of_eq rfl) d12_6 (by decide) (by decide) (fun T49 X49 => ?_)))
  refine g_ishr C X49 d12_9 ?_
  exact g_retI C X49 d12_10 (by decide) (by decide) ⟨rfl, rfl⟩
theorem pn_1 : plainName "jdk/internal/util/Preconditions" = true := by first | (simp [plainName, overriddenIn]; done) | decide +kernel
theorem ef_rPc01 (m : MethodId) (fm : Value) (h_fm : fm.isRef = true) : entryFrame m #[(.int 0), (.int 1), fm] 3 = mkF m 0 #[.val (.int 0), .val (.int 1), .val fm] [] := by cases fm <;> first | rfl | (simp [entryFrame, mkF, argsToLocals, Value.category]; done) | (simp_all [Value.isRef]; done)
theorem d18_0 : Dc jdk_41_method_11_code 0 (.iload_n 0) 1 1 := ⟨by decide +kernel, rfl⟩
theorem d18_1 : Dj jdk_41_method_11_code 1 (.ifCond .lt 8) 8 3 4 9 := ⟨by decide +kernel, rfl, by decide, by decide⟩
theorem d18_4 : Dc jdk_41_method_11_code 4 (.iload_n 0) 1 5 := ⟨by decide +kernel, rfl⟩
theorem d18_5 : Dc jdk_41_method_11_code 5 (.iload_n 1) 1 6 := ⟨by decide +kernel, rfl⟩
theorem d18_6 : Dj jdk_41_method_11_code 6 (.if_icmp .lt 10) 10 3 9 16 := ⟨by decide +kernel, rfl, by decide, by decide⟩
theorem d18_16 : Dc jdk_41_method_11_code 16 (.iload_n 0) 1 17 := ⟨by decide +kernel, rfl⟩
theorem d18_17 : Dc jdk_41_method_11_code 17 (.ireturn) 1 18 := ⟨by decide +kernel, rfl⟩
theorem rPc01 (l : Launch) {Z : State} {a0 : Array Value} (hw : ∀ d ∈ tables_1, d.before a0 Z = true) {h : Heap} (hE : Ext Z.heap h) (fm : Value) (rf : fm.isRef = true)  :
    Con l (⟨"jdk/internal/util/Preconditions", "checkIndex", "(IILjava/util/function/BiFunction;)I"⟩ : MethodName) jdk_41_method_11_code 3 (some .int) [] ({ frames := 0, cells := 0, slots := 0, locals := 0 } : Room) Z #[(.int 0), (.int 1), fm] h (fun v' h' => v' = some (.int (0 : Int32)) ∧ h' = h) := by
  refine con_of (plainFor_of_name pn_1) hE (fun m => ef_rPc01 m fm rf) ?_
  intro p e s m below meth c T0 C X0
  have C : Cx p s m meth c Z "jdk/internal/util/Preconditions" "checkIndex" jdk_41_method_11_code 3 (some .int) := C
  show Goes p e below _ T0 (mkF m 0 #[.val (.int 0), .val (.int 1), .val fm] [])
  refine g_iloadN C X0 d18_0 rfl (g_if (h0_lt _) C X0 d18_1 (fun q => absurd q (by decide)) (fun _ => ?_))
  refine g_iloadN C X0 d18_4 rfl (g_iloadN C X0 d18_5 rfl (g_icmp (hI_lt _ _) C X0 d18_6 (fun _ => ?_) (fun q => absurd (by decide) q)))
  refine g_iloadN C X0 d18_16 rfl ?_
  exact g_retI C X0 d18_17 (by decide) (by decide) ⟨rfl, rfl⟩
theorem ef_rCi01 (m : MethodId)  : entryFrame m #[(.int 0), (.int 1)] 2 = mkF m 0 #[.val (.int 0), .val (.int 1)] [] := by first | (simp [entryFrame, mkF, argsToLocals, Value.category]; done) | rfl
theorem d17_0 : Dc jdk_42_method_155_code 0 (.iload_n 0) 1 1 := ⟨by decide +kernel, rfl⟩
theorem d17_1 : Dc jdk_42_method_155_code 1 (.iload_n 1) 1 2 := ⟨by decide +kernel, rfl⟩
theorem d17_2 : Dc jdk_42_method_155_code 2 (.getstatic 1053) 3 5 := ⟨by decide +kernel, rfl⟩
theorem d17_5 : Dc jdk_42_method_155_code 5 (.invokestatic 1059) 3 8 := ⟨by decide +kernel, rfl⟩
theorem pd_2 : parseMethodDescriptor "(IILjava/util/function/BiFunction;)I" = some ⟨[.int, .int, (.object "java/util/function/BiFunction")], some .int⟩ := by decide +kernel
theorem d17_8 : Dc jdk_42_method_155_code 8 (.pop) 1 9 := ⟨by decide +kernel, rfl⟩
theorem d17_9 : Dc jdk_42_method_155_code 9 (.return_) 1 10 := ⟨by decide +kernel, rfl⟩
theorem rCi01 (l : Launch) {Z : State} {a0 : Array Value} (hw : ∀ d ∈ tables_1, d.before a0 Z = true) {h : Heap} (hE : Ext Z.heap h)  (fm_ : Value) (SF : Sta Z Z.heap "jdk/internal/util/Preconditions" "SIOOBE_FORMATTER" "Ljava/util/function/BiFunction;" fm_) (rf_ : fm_.isRef = true)  :
    Con l (⟨"java/lang/String", "checkIndex", "(II)V"⟩ : MethodName) jdk_42_method_155_code 2 none [] ({ frames := 1, cells := 0, slots := 0, locals := 20 } : Room) Z #[(.int 0), (.int 1)] h (fun v' h' => v' = none ∧ h' = h) := by
  refine con_of (plainFor_of_name pn_0) hE (fun m => ef_rCi01 m ) ?_
  intro p e s m below meth c T0 C X0
  have C : Cx p s m meth c Z "java/lang/String" "checkIndex" jdk_42_method_155_code 2 none := C
  show Goes p e below _ T0 (mkF m 0 #[.val (.int 0), .val (.int 1)] [])
  refine g_iloadN C X0 d17_0 rfl (g_iloadN C X0 d17_1 rfl (g_getstatic (host := "") C X0 (Or.inl (wd hw 86 rfl)) Via.refl SF d17_2 (fun T50 X50 => ?_)))
  refine g_staticP (argsL := [(.int 0), (.int 1), fm_]) (st := []) C X50 (wd hw 88 rfl) (wd hw 89 rfl) (wd hw 87 rfl) (wd hw 90 rfl) (by decide) (pay_of (W' := 0) (rPc01 l hw X50.ext fm_ rf_) C.hZ (wd hw 90 rfl) (wd hw 87 rfl) (by decide) (by decide)) pd_2 rfl rfl _ rfl (Nat.le_of_eq rfl) d17_5 (by decide) (by decide) (fun T51 X51 => ?_)
  refine g_pop C X51 d17_8 rfl ?_
  exact g_retV C X51 d17_9 (by decide) (by decide) ⟨rfl, rfl⟩
theorem ef_rPc02 (m : MethodId) (fm : Value) (h_fm : fm.isRef = true) : entryFrame m #[(.int 0), (.int 2), fm] 3 = mkF m 0 #[.val (.int 0), .val (.int 2), .val fm] [] := by cases fm <;> first | rfl | (simp [entryFrame, mkF, argsToLocals, Value.category]; done) | (simp_all [Value.isRef]; done)
theorem rPc02 (l : Launch) {Z : State} {a0 : Array Value} (hw : ∀ d ∈ tables_1, d.before a0 Z = true) {h : Heap} (hE : Ext Z.heap h) (fm : Value) (rf : fm.isRef = true)  :
    Con l (⟨"jdk/internal/util/Preconditions", "checkIndex", "(IILjava/util/function/BiFunction;)I"⟩ : MethodName) jdk_41_method_11_code 3 (some .int) [] ({ frames := 0, cells := 0, slots := 0, locals := 0 } : Room) Z #[(.int 0), (.int 2), fm] h (fun v' h' => v' = some (.int (0 : Int32)) ∧ h' = h) := by
  refine con_of (plainFor_of_name pn_1) hE (fun m => ef_rPc02 m fm rf) ?_
  intro p e s m below meth c T0 C X0
  have C : Cx p s m meth c Z "jdk/internal/util/Preconditions" "checkIndex" jdk_41_method_11_code 3 (some .int) := C
  show Goes p e below _ T0 (mkF m 0 #[.val (.int 0), .val (.int 2), .val fm] [])
  refine g_iloadN C X0 d18_0 rfl (g_if (h0_lt _) C X0 d18_1 (fun q => absurd q (by decide)) (fun _ => ?_))
  refine g_iloadN C X0 d18_4 rfl (g_iloadN C X0 d18_5 rfl (g_icmp (hI_lt _ _) C X0 d18_6 (fun _ => ?_) (fun q => absurd (by decide) q)))
  refine g_iloadN C X0 d18_16 rfl ?_
  exact g_retI C X0 d18_17 (by decide) (by decide) ⟨rfl, rfl⟩
theorem ef_rCi02 (m : MethodId)  : entryFrame m #[(.int 0), (.int 2)] 2 = mkF m 0 #[.val (.int 0), .val (.int 2)] [] := by first | (simp [entryFrame, mkF, argsToLocals, Value.category]; done) | rfl
theorem rCi02 (l : Launch) {Z : State} {a0 : Array Value} (hw : ∀ d ∈ tables_1, d.before a0 Z = true) {h : Heap} (hE : Ext Z.heap h)  (fm_ : Value) (SF : Sta Z Z.heap "jdk/internal/util/Preconditions" "SIOOBE_FORMATTER" "Ljava/util/function/BiFunction;" fm_) (rf_ : fm_.isRef = true)  :
    Con l (⟨"java/lang/String", "checkIndex", "(II)V"⟩ : MethodName) jdk_42_method_155_code 2 none [] ({ frames := 1, cells := 0, slots := 0, locals := 20 } : Room) Z #[(.int 0), (.int 2)] h (fun v' h' => v' = none ∧ h' = h) := by
  refine con_of (plainFor_of_name pn_0) hE (fun m => ef_rCi02 m ) ?_
  intro p e s m below meth c T0 C X0
  have C : Cx p s m meth c Z "java/lang/String" "checkIndex" jdk_42_method_155_code 2 none := C
  show Goes p e below _ T0 (mkF m 0 #[.val (.int 0), .val (.int 2)] [])
  refine g_iloadN C X0 d17_0 rfl (g_iloadN C X0 d17_1 rfl (g_getstatic (host := "") C X0 (Or.inl (wd hw 86 rfl)) Via.refl SF d17_2 (fun T52 X52 => ?_)))
  refine g_staticP (argsL := [(.int 0), (.int 2), fm_]) (st := []) C X52 (wd hw 88 rfl) (wd hw 89 rfl) (wd hw 87 rfl) (wd hw 90 rfl) (by decide) (pay_of (W' := 0) (rPc02 l hw X52.ext fm_ rf_) C.hZ (wd hw 90 rfl) (wd hw 87 rfl) (by decide) (by decide)) pd_2 rfl rfl _ rfl (Nat.le_of_eq rfl) d17_5 (by decide) (by decide) (fun T53 X53 => ?_)
  refine g_pop C X53 d17_8 rfl ?_
  exact g_retV C X53 d17_9 (by decide) (by decide) ⟨rfl, rfl⟩
theorem ef_rPc12 (m : MethodId) (fm : Value) (h_fm : fm.isRef = true) : entryFrame m #[(.int 1), (.int 2), fm] 3 = mkF m 0 #[.val (.int 1), .val (.int 2), .val fm] [] := by cases fm <;> first | rfl | (simp [entryFrame, mkF, argsToLocals, Value.category]; done) | (simp_all [Value.isRef]; done)
theorem rPc12 (l : Launch) {Z : State} {a0 : Array Value} (hw : ∀ d ∈ tables_1, d.before a0 Z = true) {h : Heap} (hE : Ext Z.heap h) (fm : Value) (rf : fm.isRef = true)  :
    Con l (⟨"jdk/internal/util/Preconditions", "checkIndex", "(IILjava/util/function/BiFunction;)I"⟩ : MethodName) jdk_41_method_11_code 3 (some .int) [] ({ frames := 0, cells := 0, slots := 0, locals := 0 } : Room) Z #[(.int 1), (.int 2), fm] h (fun v' h' => v' = some (.int (1 : Int32)) ∧ h' = h) := by
  refine con_of (plainFor_of_name pn_1) hE (fun m => ef_rPc12 m fm rf) ?_
  intro p e s m below meth c T0 C X0
  have C : Cx p s m meth c Z "jdk/internal/util/Preconditions" "checkIndex" jdk_41_method_11_code 3 (some .int) := C
  show Goes p e below _ T0 (mkF m 0 #[.val (.int 1), .val (.int 2), .val fm] [])
  refine g_iloadN C X0 d18_0 rfl (g_if (h0_lt _) C X0 d18_1 (fun q => absurd q (by decide)) (fun _ => ?_))
  refine g_iloadN C X0 d18_4 rfl (g_iloadN C X0 d18_5 rfl (g_icmp (hI_lt _ _) C X0 d18_6 (fun _ => ?_) (fun q => absurd (by decide) q)))
  refine g_iloadN C X0 d18_16 rfl ?_
  exact g_retI C X0 d18_17 (by decide) (by decide) ⟨rfl, rfl⟩
theorem ef_rCi12 (m : MethodId)  : entryFrame m #[(.int 1), (.int 2)] 2 = mkF m 0 #[.val (.int 1), .val (.int 2)] [] := by first | (simp [entryFrame, mkF, argsToLocals, Value.category]; done) | rfl
theorem rCi12 (l : Launch) {Z : State} {a0 : Array Value} (hw : ∀ d ∈ tables_1, d.before a0 Z = true) {h : Heap} (hE : Ext Z.heap h)  (fm_ : Value) (SF : Sta Z Z.heap "jdk/internal/util/Preconditions" "SIOOBE_FORMATTER" "Ljava/util/function/BiFunction;" fm_) (rf_ : fm_.isRef = true)  :
    Con l (⟨"java/lang/String", "checkIndex", "(II)V"⟩ : MethodName) jdk_42_method_155_code 2 none [] ({ frames := 1, cells := 0, slots := 0, locals := 20 } : Room) Z #[(.int 1), (.int 2)] h (fun v' h' => v' = none ∧ h' = h) := by
  refine con_of (plainFor_of_name pn_0) hE (fun m => ef_rCi12 m ) ?_
  intro p e s m below meth c T0 C X0
  have C : Cx p s m meth c Z "java/lang/String" "checkIndex" jdk_42_method_155_code 2 none := C
  show Goes p e below _ T0 (mkF m 0 #[.val (.int 1), .val (.int 2)] [])
  refine g_iloadN C X0 d17_0 rfl (g_iloadN C X0 d17_1 rfl (g_getstatic (host := "") C X0 (Or.inl (wd hw 86 rfl)) Via.refl SF d17_2 (fun T54 X54 => ?_)))
  refine g_staticP (argsL := [(.int 1), (.int 2), fm_]) (st := []) C X54 (wd hw 88 rfl) (wd hw 89 rfl) (wd hw 87 rfl) (wd hw 90 rfl) (by decide) (pay_of (W' := 0) (rPc12 l hw X54.ext fm_ rf_) C.hZ (wd hw 90 rfl) (wd hw 87 rfl) (by decide) (by decide)) pd_2 rfl rfl _ rfl (Nat.le_of_eq rfl) d17_5 (by decide) (by decide) (fun T55 X55 => ?_)
  refine g_pop C X55 d17_8 rfl ?_
  exact g_retV C X55 d17_9 (by decide) (by decide) ⟨rfl, rfl⟩
theorem pn_2 : plainName "java/lang/StringLatin1" = true := by first | (simp [plainName, overriddenIn]; done) | decide +kernel
theorem ef_rLc10 (m : MethodId) (t : Addr) : entryFrame m #[(.ref t), (.int 0)] 2 = mkF m 0 #[.val (.ref t), .val (.int 0)] [] := by first | (simp [entryFrame, mkF, argsToLocals, Value.category]; done) | rfl
theorem d16_0 : Dc jdk_43_method_2_code 0 (.iload_n 1) 1 1 := ⟨by decide +kernel, rfl⟩
theorem d16_1 : Dc jdk_43_method_2_code 1 (.aload_n 0) 1 2 := ⟨by decide +kernel, rfl⟩
theorem d16_2 : Dc jdk_43_method_2_code 2 (.arraylength) 1 3 := ⟨by decide +kernel, rfl⟩
theorem d16_3 : Dc jdk_43_method_2_code 3 (.invokestatic 9) 3 6 := ⟨by decide +kernel, rfl⟩
theorem pd_3 : parseMethodDescriptor "(II)V" = some ⟨[.int, .int], none⟩ := by decide +kernel
theorem d16_6 : Dc jdk_43_method_2_code 6 (.aload_n 0) 1 7 := ⟨by decide +kernel, rfl⟩
theorem d16_7 : Dc jdk_43_method_2_code 7 (.iload_n 1) 1 8 := ⟨by decide +kernel, rfl⟩
theorem d16_8 : Dc jdk_43_method_2_code 8 (.baload) 1 9 := ⟨by decide +kernel, rfl⟩
theorem d16_9 : Dc jdk_43_method_2_code 9 (.sipush 255) 3 12 := ⟨by decide +kernel, rfl⟩
theorem d16_12 : Dc jdk_43_method_2_code 12 (.iand) 1 13 := ⟨by decide +kernel, rfl⟩
theorem d16_13 : Dc jdk_43_method_2_code 13 (.i2c) 1 14 := ⟨by decide +kernel, rfl⟩
theorem d16_14 : Dc jdk_43_method_2_code 14 (.ireturn) 1 15 := ⟨by decide +kernel, rfl⟩
theorem rLc10 (l : Launch) {Z : State} {a0 : Array Value} (hw : ∀ d ∈ tables_1, d.before a0 Z = true) {h : Heap} (hE : Ext Z.heap h) (t : Addr) (fm_ : Value) (SF : Sta Z Z.heap "jdk/internal/util/Preconditions" "SIOOBE_FORMATTER" "Ljava/util/function/BiFunction;" fm_) (rf_ : fm_.isRef = true) (kt : ClassId) (a b : Int32) (VT : Arv Z h t kt .byte 1 [(.int (a.toInt8.toInt32))] (.int (0 : Int32))) (ha : (¬ a < 0 ∧ ¬ (65535 : Int32) < a)) (hb : (¬ b < 0 ∧ ¬ (65535 : Int32) < b)) (la : ¬ (255 : Int32) < a) :
    Con l (⟨"java/lang/StringLatin1", "charAt", "([BI)C"⟩ : MethodName) jdk_43_method_2_code 2 (some .char) [] ({ frames := 2, cells := 0, slots := 0, locals := 40 } : Room) Z #[(.ref t), (.int 0)] h (fun v' h' => v' = some (.int a) ∧ h' = h) := by
  refine con_of (plainFor_of_name pn_2) hE (fun m => ef_rLc10 m t) ?_
  intro p e s m below meth c T0 C X0
  have C : Cx p s m meth c Z "java/lang/StringLatin1" "charAt" jdk_43_method_2_code 2 (some .char) := C
  show Goes p e below _ T0 (mkF m 0 #[.val (.ref t), .val (.int 0)] [])
  refine g_iloadN C X0 d16_0 rfl (g_aloadN C X0 d16_1 rfl rfl (g_arraylength C X0 VT d16_2 (g_staticPV (argsL := [(.int 0), (.int 1)]) (st := []) C X0 (wd hw 83 rfl) (wd hw 84 rfl) (wd hw 5 rfl) (wd hw 85 rfl) (by decide) (pay_of (W' := 0) (rCi01 l hw X0.ext fm_ SF rf_) C.hZ (wd hw 85 rfl) (wd hw 5 rfl) (by decide) (by decide)) pd_3 rfl rfl _ rfl (Nat.le_of_eq rfl) d16_3 (by decide) (by decide) (fun T56 X56 => ?_))))
  refine g_aloadN C X56 d16_6 rfl rfl (g_iloadN C X56 d16_7 rfl (g_baload C X56 VT d16_8 (by decide) (by decide) rfl (g_sipush 255 C X56 d16_9 rfl (g_iand C X56 d16_12 (g_i2c C X56 d16_13 ?_)))))
  exact g_retN C X56 (by simp) d16_14 a (own_latR ha la) (by decide) (by decide) ⟨rfl, rfl⟩
theorem pn_3 : plainName "java/lang/StringUTF16" = true := by first | (simp [plainName, overriddenIn]; done) | decide +kernel
theorem ef_rUl1 (m : MethodId) (t : Addr) : entryFrame m #[(.ref t)] 1 = mkF m 0 #[.val (.ref t)] [] := by first | (simp [entryFrame, mkF, argsToLocals, Value.category]; done) | rfl
theorem d29_0 : Dc jdk_52_method_6_code 0 (.aload_n 0) 1 1 := ⟨by decide +kernel, rfl⟩
theorem d29_1 : Dc jdk_52_method_6_code 1 (.arraylength) 1 2 := ⟨by decide +kernel, rfl⟩
theorem d29_2 : Dc jdk_52_method_6_code 2 (.iconst 1) 1 3 := ⟨by decide +kernel, rfl⟩
theorem d29_3 : Dc jdk_52_method_6_code 3 (.ishr) 1 4 := ⟨by decide +kernel, rfl⟩
theorem d29_4 : Dc jdk_52_method_6_code 4 (.ireturn) 1 5 := ⟨by decide +kernel, rfl⟩
theorem rUl1 (l : Launch) {Z : State} {a0 : Array Value} (hw : ∀ d ∈ tables_1, d.before a0 Z = true) {h : Heap} (hE : Ext Z.heap h) (t : Addr) (kt : ClassId) (a b : Int32) (VT : Arv Z h t kt .byte 2 [(.int ((a >>> ((0 : Int32) &&& 31)).toInt8.toInt32)), (.int ((a >>> ((8 : Int32) &&& 31)).toInt8.toInt32))] (.int (0 : Int32))) (ha : (¬ a < 0 ∧ ¬ (65535 : Int32) < a)) (hb : (¬ b < 0 ∧ ¬ (65535 : Int32) < b))  :
    Con l (⟨"java/lang/StringUTF16", "length", "([B)I"⟩ : MethodName) jdk_52_method_6_code 1 (some .int) [] ({ frames := 0, cells := 0, slots := 0, locals := 0 } : Room) Z #[(.ref t)] h (fun v' h' => v' = some (.int 1) ∧ h' = h) := by
  refine con_of (plainFor_of_name pn_3) hE (fun m => ef_rUl1 m t) ?_
  intro p e s m below meth c T0 C X0
  have C : Cx p s m meth c Z "java/lang/StringUTF16" "length" jdk_52_method_6_code 1 (some .int) := C
  show Goes p e below _ T0 (mkF m 0 #[.val (.ref t)] [])
  refine g_aloadN C X0 d29_0 rfl rfl (g_arraylength C X0 VT d29_1 (g_iconst 1 C X0 d29_2 rfl (g_ishr C X0 d29_3 ?_)))
  exact g_retI C X0 d29_4 (by decide) (by decide) ⟨rfl, rfl⟩
theorem ef_rGc10 (m : MethodId) (t : Addr) : entryFrame m #[(.ref t), (.int 0)] 2 = mkF m 0 #[.val (.ref t), .val (.int 0)] [] := by first | (simp [entryFrame, mkF, argsToLocals, Value.category]; done) | rfl
theorem d26_0 : Dc jdk_52_method_5_code 0 (.getstatic 44) 3 3 := ⟨by decide +kernel, rfl⟩
theorem d26_3 : Dj jdk_52_method_5_code 3 (.ifCond .ne 25) 25 3 6 28 := ⟨by decide +kernel, rfl, by decide, by decide⟩
theorem d26_28 : Dc jdk_52_method_5_code 28 (.iload_n 1) 1 29 := ⟨by decide +kernel, rfl⟩
theorem d26_29 : Dc jdk_52_method_5_code 29 (.iconst 1) 1 30 := ⟨by decide +kernel, rfl⟩
theorem d26_30 : Dc jdk_52_method_5_code 30 (.ishl) 1 31 := ⟨by decide +kernel, rfl⟩
theorem d26_31 : Dc jdk_52_method_5_code 31 (.istore_n 1) 1 32 := ⟨by decide +kernel, rfl⟩
theorem d26_32 : Dc jdk_52_method_5_code 32 (.aload_n 0) 1 33 := ⟨by decide +kernel, rfl⟩
theorem d26_33 : Dc jdk_52_method_5_code 33 (.iload_n 1) 1 34 := ⟨by decide +kernel, rfl⟩
theorem d26_34 : Dc jdk_52_method_5_code 34 (.iinc 1 1) 3 37 := ⟨by decide +kernel, rfl⟩
theorem d26_37 : Dc jdk_52_method_5_code 37 (.baload) 1 38 := ⟨by decide +kernel, rfl⟩
theorem d26_38 : Dc jdk_52_method_5_code 38 (.sipush 255) 3 41 := ⟨by decide +kernel, rfl⟩
theorem d26_41 : Dc jdk_52_method_5_code 41 (.iand) 1 42 := ⟨by decide +kernel, rfl⟩
theorem d26_42 : Dc jdk_52_method_5_code 42 (.getstatic 59) 3 45 := ⟨by decide +kernel, rfl⟩
theorem d26_45 : Dc jdk_52_method_5_code 45 (.ishl) 1 46 := ⟨by decide +kernel, rfl⟩
theorem d26_46 : Dc jdk_52_method_5_code 46 (.aload_n 0) 1 47 := ⟨by decide +kernel, rfl⟩
theorem d26_47 : Dc jdk_52_method_5_code 47 (.iload_n 1) 1 48 := ⟨by decide +kernel, rfl⟩
theorem d26_48 : Dc jdk_52_method_5_code 48 (.baload) 1 49 := ⟨by decide +kernel, rfl⟩
theorem d26_49 : Dc jdk_52_method_5_code 49 (.sipush 255) 3 52 := ⟨by decide +kernel, rfl⟩
theorem d26_52 : Dc jdk_52_method_5_code 52 (.iand) 1 53 := ⟨by decide +kernel, rfl⟩
theorem d26_53 : Dc jdk_52_method_5_code 53 (.getstatic 63) 3 56 := ⟨by decide +kernel, rfl⟩
theorem d26_56 : Dc jdk_52_method_5_code 56 (.ishl) 1 57 := ⟨by decide +kernel, rfl⟩
theorem d26_57 : Dc jdk_52_method_5_code 57 (.ior) 1 58 := ⟨by decide +kernel, rfl⟩
theorem d26_58 : Dc jdk_52_method_5_code 58 (.i2c) 1 59 := ⟨by decide +kernel, rfl⟩
theorem d26_59 : Dc jdk_52_method_5_code 59 (.ireturn) 1 60 := ⟨by decide +kernel, rfl⟩
theorem rGc10 (l : Launch) {Z : State} {a0 : Array Value} (hw : ∀ d ∈ tables_1, d.before a0 Z = true) {h : Heap} (hE : Ext Z.heap h) (t : Addr) (S1 : Sta Z Z.heap "java/lang/StringUTF16" "$assertionsDisabled" "Z" (.int (1 : Int32))) (S2 : Sta Z Z.heap "java/lang/StringUTF16" "HI_BYTE_SHIFT" "I" (.int (0 : Int32))) (S3 : Sta Z Z.heap "java/lang/StringUTF16" "LO_BYTE_SHIFT" "I" (.int (8 : Int32))) (kt : ClassId) (a b : Int32) (VT : Arv Z h t kt .byte 2 [(.int ((a >>> ((0 : Int32) &&& 31)).toInt8.toInt32)), (.int ((a >>> ((8 : Int32) &&& 31)).toInt8.toInt32))] (.int (0 : Int32))) (ha : (¬ a < 0 ∧ ¬ (65535 : Int32) < a)) (hb : (¬ b < 0 ∧ ¬ (65535 : Int32) < b))  :
    Con l (⟨"java/lang/StringUTF16", "getChar", "([BI)C"⟩ : MethodName) jdk_52_method_5_code 2 (some .char) [] ({ frames := 1, cells := 0, slots := 0, locals := 20 } : Room) Z #[(.ref t), (.int 0)] h (fun v' h' => v' = some (.int a) ∧ h' = h) := by
  refine con_of (plainFor_of_name pn_3) hE (fun m => ef_rGc10 m t) ?_
  intro p e s m below meth c T0 C X0
  have C : Cx p s m meth c Z "java/lang/StringUTF16" "getChar" jdk_52_method_5_code 2 (some .char) := C
  show Goes p e below _ T0 (mkF m 0 #[.val (.ref t), .val (.int 0)] [])
  refine g_getstatic (host := "") C X0 (Or.inl (wd hw 104 rfl)) Via.refl S1 d26_0 (fun T57 X57 => ?_)
  refine g_ifn (h0_ne _) C X57 d26_3 (fun _ => ?_) (fun q => absurd q (by decide))
  refine g_iloadN C X57 d26_28 rfl (g_iconst 1 C X57 d26_29 rfl (g_ishl C X57 d26_30 (g_istoreN C X57 d26_31 (l' := #[.val (.ref t), .val (.int 0)]) rfl (g_aloadN C X57 d26_32 rfl rfl (g_iloadN C X57 d26_33 rfl (g_iinc 1 C X57 d26_34 rfl rfl (l' := #[.val (.ref t), .val (.int 1)]) rfl (g_baload C X57 VT d26_37 (by decide) (by decide) rfl (g_sipush 255 C X57 d26_38 rfl (g_iand C X57 d26_41 (g_getstatic (host := "") C X57 (Or.inl (wd hw 105 rfl)) Via.refl S2 d26_42 (fun T58 X58 => ?_)))))))))))
  refine g_ishl C X58 d26_45 (g_aloadN C X58 d26_46 rfl rfl (g_iloadN C X58 d26_47 rfl (g_baload C X58 VT d26_48 (by decide) (by decide) rfl (g_sipush 255 C X58 d26_49 rfl (g_iand C X58 d26_52 (g_getstatic (host := "") C X58 (Or.inl (wd hw 106 rfl)) Via.refl S3 d26_53 (fun T59 X59 => ?_)))))))
  refine g_ishl C X59 d26_56 (g_ior C X59 d26_57 (g_i2c C X59 d26_58 ?_))
  exact g_retN C X59 (by simp) d26_59 a (own_utf ha) (by decide) (by decide) ⟨rfl, rfl⟩
theorem ef_rUi10 (m : MethodId) (t : Addr) : entryFrame m #[(.int 0), (.ref t)] 2 = mkF m 0 #[.val (.int 0), .val (.ref t)] [] := by first | (simp [entryFrame, mkF, argsToLocals, Value.category]; done) | rfl
theorem d28_0 : Dc jdk_52_method_91_code 0 (.iload_n 0) 1 1 := ⟨by decide +kernel, rfl⟩
theorem d28_1 : Dc jdk_52_method_91_code 1 (.aload_n 1) 1 2 := ⟨by decide +kernel, rfl⟩
theorem d28_2 : Dc jdk_52_method_91_code 2 (.invokestatic 48) 3 5 := ⟨by decide +kernel, rfl⟩
theorem pd_4 : parseMethodDescriptor "([B)I" = some ⟨[(.array .byte)], some .int⟩ := by decide +kernel
theorem d28_5 : Dc jdk_52_method_91_code 5 (.invokestatic 414) 3 8 := ⟨by decide +kernel, rfl⟩
theorem d28_8 : Dc jdk_52_method_91_code 8 (.return_) 1 9 := ⟨by decide +kernel, rfl⟩
theorem rUi10 (l : Launch) {Z : State} {a0 : Array Value} (hw : ∀ d ∈ tables_1, d.before a0 Z = true) {h : Heap} (hE : Ext Z.heap h) (t : Addr) (fm_ : Value) (SF : Sta Z Z.heap "jdk/internal/util/Preconditions" "SIOOBE_FORMATTER" "Ljava/util/function/BiFunction;" fm_) (rf_ : fm_.isRef = true) (kt : ClassId) (a b : Int32) (VT : Arv Z h t kt .byte 2 [(.int ((a >>> ((0 : Int32) &&& 31)).toInt8.toInt32)), (.int ((a >>> ((8 : Int32) &&& 31)).toInt8.toInt32))] (.int (0 : Int32))) (ha : (¬ a < 0 ∧ ¬ (65535 : Int32) < a)) (hb : (¬ b < 0 ∧ ¬ (65535 : Int32) < b))  :
    Con l (⟨"java/lang/StringUTF16", "checkIndex", "(I[B)V"⟩ : MethodName) jdk_52_method_91_code 2 none [] ({ frames := 2, cells := 0, slots := 0, locals := 40 } : Room) Z #[(.int 0), (.ref t)] h (fun v' h' => v' = none ∧ h' = h) := by
  refine con_of (plainFor_of_name pn_3) hE (fun m => ef_rUi10 m t) ?_
  intro p e s m below meth c T0 C X0
  have C : Cx p s m meth c Z "java/lang/StringUTF16" "checkIndex" jdk_52_method_91_code 2 none := C
  show Goes p e below _ T0 (mkF m 0 #[.val (.int 0), .val (.ref t)] [])
  refine g_iloadN C X0 d28_0 rfl (g_aloadN C X0 d28_1 rfl rfl (g_staticP (argsL := [(.ref t)]) (st := [(.int 0)]) C X0 (wd hw 126 rfl) (wd hw 127 rfl) (wd hw 41 rfl) (wd hw 128 rfl) (by decide) (pay_of (W' := 1) (rUl1 l hw X0.ext t kt a b VT ha hb) C.hZ (wd hw 128 rfl) (wd hw 41 rfl) (by decide) (by decide)) pd_4 rfl rfl _ rfl (Nat.le_of_eq rfl) d28_2 (by decide) (by decide) (fun T60 X60 => ?_)))
  refine g_staticPV (argsL := [(.int 0), (.int 1)]) (st := []) C X60 (wd hw 129 rfl) (wd hw 84 rfl) (wd hw 5 rfl) (wd hw 85 rfl) (by decide) (pay_of (W' := 0) (rCi01 l hw X60.ext fm_ SF rf_) C.hZ (wd hw 85 rfl) (wd hw 5 rfl) (by decide) (by decide)) pd_3 rfl rfl _ rfl (Nat.le_of_eq rfl) d28_5 (by decide) (by decide) (fun T61 X61 => ?_)
  exact g_retV C X61 d28_8 (by decide) (by decide) ⟨rfl, rfl⟩
theorem ef_rUc10 (m : MethodId) (t : Addr) : entryFrame m #[(.ref t), (.int 0)] 2 = mkF m 0 #[.val (.ref t), .val (.int 0)] [] := by first | (simp [entryFrame, mkF, argsToLocals, Value.category]; done) | rfl
theorem d27_0 : Dc jdk_52_method_83_code 0 (.iload_n 1) 1 1 := ⟨by decide +kernel, rfl⟩
theorem d27_1 : Dc jdk_52_method_83_code 1 (.aload_n 0) 1 2 := ⟨by decide +kernel, rfl⟩
theorem d27_2 : Dc jdk_52_method_83_code 2 (.invokestatic 67) 3 5 := ⟨by decide +kernel, rfl⟩
theorem pd_5 : parseMethodDescriptor "(I[B)V" = some ⟨[.int, (.array .byte)], none⟩ := by decide +kernel
theorem d27_5 : Dc jdk_52_method_83_code 5 (.aload_n 0) 1 6 := ⟨by decide +kernel, rfl⟩
theorem d27_6 : Dc jdk_52_method_83_code 6 (.iload_n 1) 1 7 := ⟨by decide +kernel, rfl⟩
theorem d27_7 : Dc jdk_52_method_83_code 7 (.invokestatic 71) 3 10 := ⟨by decide +kernel, rfl⟩
theorem pd_6 : parseMethodDescriptor "([BI)C" = some ⟨[(.array .byte), .int], some .char⟩ := by decide +kernel
theorem d27_10 : Dc jdk_52_method_83_code 10 (.ireturn) 1 11 := ⟨by decide +kernel, rfl⟩
theorem rUc10 (l : Launch) {Z : State} {a0 : Array Value} (hw : ∀ d ∈ tables_1, d.before a0 Z = true) {h : Heap} (hE : Ext Z.heap h) (t : Addr) (fm_ : Value) (SF : Sta Z Z.heap "jdk/internal/util/Preconditions" "SIOOBE_FORMATTER" "Ljava/util/function/BiFunction;" fm_) (rf_ : fm_.isRef = true) (S1 : Sta Z Z.heap "java/lang/StringUTF16" "$assertionsDisabled" "Z" (.int (1 : Int32))) (S2 : Sta Z Z.heap "java/lang/StringUTF16" "HI_BYTE_SHIFT" "I" (.int (0 : Int32))) (S3 : Sta Z Z.heap "java/lang/StringUTF16" "LO_BYTE_SHIFT" "I" (.int (8 : Int32))) (kt : ClassId) (a b : Int32) (VT : Arv Z h t kt .byte 2 [(.int ((a >>> ((0 : Int32) &&& 31)).toInt8.toInt32)), (.int ((a >>> ((8 : Int32) &&& 31)).toInt8.toInt32))] (.int (0 : Int32))) (ha : (¬ a < 0 ∧ ¬ (65535 : Int32) < a)) (hb : (¬ b < 0 ∧ ¬ (65535 : Int32) < b))  :
    Con l (⟨"java/lang/StringUTF16", "charAt", "([BI)C"⟩ : MethodName) jdk_52_method_83_code 2 (some .char) [] ({ frames := 3, cells := 0, slots := 0, locals := 60 } : Room) Z #[(.ref t), (.int 0)] h (fun v' h' => v' = some (.int a) ∧ h' = h) := by
  refine con_of (plainFor_of_name pn_3) hE (fun m => ef_rUc10 m t) ?_
  intro p e s m below meth c T0 C X0
  have C : Cx p s m meth c Z "java/lang/StringUTF16" "charAt" jdk_52_method_83_code 2 (some .char) := C
  show Goes p e below _ T0 (mkF m 0 #[.val (.ref t), .val (.int 0)] [])
  refine g_iloadN C X0 d27_0 rfl (g_aloadN C X0 d27_1 rfl rfl (g_staticPV (argsL := [(.int 0), (.ref t)]) (st := []) C X0 (wd hw 123 rfl) (wd hw 124 rfl) (wd hw 41 rfl) (wd hw 125 rfl) (by decide) (pay_of (W' := 0) (rUi10 l hw X0.ext t fm_ SF rf_ kt a b VT ha hb) C.hZ (wd hw 125 rfl) (wd hw 41 rfl) (by decide) (by decide)) pd_5 rfl rfl _ rfl (Nat.le_of_eq rfl) d27_2 (by decide) (by decide) (fun T62 X62 => ?_)))
  refine g_aloadN C X62 d27_5 rfl rfl (g_iloadN C X62 d27_6 rfl (g_staticP (argsL := [(.ref t), (.int 0)]) (st := []) C X62 (wd hw 117 rfl) (wd hw 118 rfl) (wd hw 41 rfl) (wd hw 119 rfl) (by decide) (pay_of (W' := 0) (rGc10 l hw X62.ext t S1 S2 S3 kt a b VT ha hb) C.hZ (wd hw 119 rfl) (wd hw 41 rfl) (by decide) (by decide)) pd_6 rfl rfl _ rfl (Nat.le_of_eq rfl) d27_7 (by decide) (by decide) (fun T63 X63 => ?_)))
  exact g_retN C X63 (by simp) d27_10 a (own_i2c ha) (by decide) (by decide) ⟨rfl, rfl⟩
theorem ef_rCh1L0 (m : MethodId) (x : Addr) : entryFrame m #[(.ref x), (.int 0)] 2 = mkF m 0 #[.val (.ref x), .val (.int 0)] [] := by first | (simp [entryFrame, mkF, argsToLocals, Value.category]; done) | rfl
theorem d14_0 : Dc jdk_42_method_56_code 0 (.aload_n 0) 1 1 := ⟨by decide +kernel, rfl⟩
theorem d14_1 : Dc jdk_42_method_56_code 1 (.invokevirtual 492) 3 4 := ⟨by decide +kernel, rfl⟩
theorem pd_7 : parseMethodDescriptor "()Z" = some ⟨[], some .boolean⟩ := by decide +kernel
theorem d14_4 : Dj jdk_42_method_56_code 4 (.ifCond .eq 12) 12 3 7 16 := ⟨by decide +kernel, rfl, by decide, by decide⟩
theorem d14_7 : Dc jdk_42_method_56_code 7 (.aload_n 0) 1 8 := ⟨by decide +kernel, rfl⟩
theorem d14_8 : Dc jdk_42_method_56_code 8 (.getfield 9) 3 11 := ⟨by decide +kernel, rfl⟩
theorem d14_11 : Dc jdk_42_method_56_code 11 (.iload_n 1) 1 12 := ⟨by decide +kernel, rfl⟩
theorem d14_12 : Dc jdk_42_method_56_code 12 (.invokestatic 495) 3 15 := ⟨by decide +kernel, rfl⟩
theorem d14_15 : Dc jdk_42_method_56_code 15 (.ireturn) 1 16 := ⟨by decide +kernel, rfl⟩
theorem rCh1L0 (l : Launch) {Z : State} {a0 : Array Value} (hw : ∀ d ∈ tables_1, d.before a0 Z = true) {h : Heap} (hE : Ext Z.heap h) (x : Addr) (z_ : Int32) (SZ : Sta Z Z.heap "java/lang/String" "COMPACT_STRINGS" "Z" (.int z_)) (hz : ¬ z_ = 0) (fm_ : Value) (SF : Sta Z Z.heap "jdk/internal/util/Preconditions" "SIOOBE_FORMATTER" "Ljava/util/function/BiFunction;" fm_) (rf_ : fm_.isRef = true) (S1 : Sta Z Z.heap "java/lang/StringUTF16" "$assertionsDisabled" "Z" (.int (1 : Int32))) (S2 : Sta Z Z.heap "java/lang/StringUTF16" "HI_BYTE_SHIFT" "I" (.int (0 : Int32))) (S3 : Sta Z Z.heap "java/lang/StringUTF16" "LO_BYTE_SHIFT" "I" (.int (8 : Int32))) (t : Addr) (kt : ClassId) (a b : Int32) (EX : Exa Z h x "java/lang/String") (FC : Fld Z h x "java/lang/String" "coder" "B" (.int (0 : Int32))) (FV : Fld Z h x "java/lang/String" "value" "[B" (.ref t)) (VT : Arv Z h t kt .byte 1 [(.int (a.toInt8.toInt32))] (.int (0 : Int32))) (ha : (¬ a < 0 ∧ ¬ (65535 : Int32) < a)) (hb : (¬ b < 0 ∧ ¬ (65535 : Int32) < b)) (la : ¬ (255 : Int32) < a) :
    Con l (⟨"java/lang/String", "charAt", "(I)C"⟩ : MethodName) jdk_42_method_56_code 2 (some .char) [] ({ frames := 4, cells := 0, slots := 0, locals := 80 } : Room) Z #[(.ref x), (.int 0)] h (fun v' h' => v' = some (.int a) ∧ h' = h) := by
  refine con_of (plainFor_of_name pn_0) hE (fun m => ef_rCh1L0 m x) ?_
  intro p e s m below meth c T0 C X0
  have C : Cx p s m meth c Z "java/lang/String" "charAt" jdk_42_method_56_code 2 (some .char) := C
  show Goes p e below _ T0 (mkF m 0 #[.val (.ref x), .val (.int 0)] [])
  refine g_aloadN C X0 d14_0 rfl rfl (g_virtualP (argsL := []) (st := []) C X0 (wd hw 75 rfl) (wd hw 76 rfl) (nf_of C (wd hw 78 rfl) rfl rfl) (wd hw 78 rfl) (wd hw 77 rfl) (by decide) EX (pay_of (W' := 0) (rIL0 l hw X0.ext x z_ SZ hz FC) C.hZ (wd hw 79 rfl) (wd hw 5 rfl) (by decide) (by decide)) pd_7 rfl rfl _ rfl (Nat.le_of_eq rfl) d14_1 (by decide) (by decide) (fun T64 X64 => ?_))
  refine g_if (h0_eq _) C X64 d14_4 (fun q => absurd q (by decide)) (fun _ => ?_)
  refine g_aloadN C X64 d14_7 rfl rfl (g_getfield (host := "") C X64 (Or.inl (wd hw 22 rfl)) Via.refl FV d14_8 (fun T65 X65 => ?_))
  refine g_iloadN C X65 d14_11 rfl (g_staticP (argsL := [(.ref t), (.int 0)]) (st := []) C X65 (wd hw 80 rfl) (wd hw 81 rfl) (wd hw 30 rfl) (wd hw 82 rfl) (by decide) (pay_of (W' := 0) (rLc10 l hw X65.ext t fm_ SF rf_ kt a b VT ha hb la) C.hZ (wd hw 82 rfl) (wd hw 30 rfl) (by decide) (by decide)) pd_6 rfl rfl _ rfl (Nat.le_of_eq rfl) d14_12 (by decide) (by decide) (fun T66 X66 => ?_))
  exact g_retN C X66 (by simp) d14_15 a (own_i2c ha) (by decide) (by decide) ⟨rfl, rfl⟩
theorem ef_rCh1U0 (m : MethodId) (x : Addr) : entryFrame m #[(.ref x), (.int 0)] 2 = mkF m 0 #[.val (.ref x), .val (.int 0)] [] := by first | (simp [entryFrame, mkF, argsToLocals, Value.category]; done) | rfl
theorem d14_16 : Dc jdk_42_method_56_code 16 (.aload_n 0) 1 17 := ⟨by decide +kernel, rfl⟩
theorem d14_17 : Dc jdk_42_method_56_code 17 (.getfield 9) 3 20 := ⟨by decide +kernel, rfl⟩
theorem d14_20 : Dc jdk_42_method_56_code 20 (.iload_n 1) 1 21 := ⟨by decide +kernel, rfl⟩
theorem d14_21 : Dc jdk_42_method_56_code 21 (.invokestatic 498) 3 24 := ⟨by decide +kernel, rfl⟩
theorem d14_24 : Dc jdk_42_method_56_code 24 (.ireturn) 1 25 := ⟨by decide +kernel, rfl⟩
theorem rCh1U0 (l : Launch) {Z : State} {a0 : Array Value} (hw : ∀ d ∈ tables_1, d.before a0 Z = true) {h : Heap} (hE : Ext Z.heap h) (x : Addr) (z_ : Int32) (SZ : Sta Z Z.heap "java/lang/String" "COMPACT_STRINGS" "Z" (.int z_)) (hz : ¬ z_ = 0) (fm_ : Value) (SF : Sta Z Z.heap "jdk/internal/util/Preconditions" "SIOOBE_FORMATTER" "Ljava/util/function/BiFunction;" fm_) (rf_ : fm_.isRef = true) (S1 : Sta Z Z.heap "java/lang/StringUTF16" "$assertionsDisabled" "Z" (.int (1 : Int32))) (S2 : Sta Z Z.heap "java/lang/StringUTF16" "HI_BYTE_SHIFT" "I" (.int (0 : Int32))) (S3 : Sta Z Z.heap "java/lang/StringUTF16" "LO_BYTE_SHIFT" "I" (.int (8 : Int32))) (t : Addr) (kt : ClassId) (a b : Int32) (EX : Exa Z h x "java/lang/String") (FC : Fld Z h x "java/lang/String" "coder" "B" (.int (1 : Int32))) (FV : Fld Z h x "java/lang/String" "value" "[B" (.ref t)) (VT : Arv Z h t kt .byte 2 [(.int ((a >>> ((0 : Int32) &&& 31)).toInt8.toInt32)), (.int ((a >>> ((8 : Int32) &&& 31)).toInt8.toInt32))] (.int (0 : Int32))) (ha : (¬ a < 0 ∧ ¬ (65535 : Int32) < a)) (hb : (¬ b < 0 ∧ ¬ (65535 : Int32) < b))  :
    Con l (⟨"java/lang/String", "charAt", "(I)C"⟩ : MethodName) jdk_42_method_56_code 2 (some .char) [] ({ frames := 4, cells := 0, slots := 0, locals := 80 } : Room) Z #[(.ref x), (.int 0)] h (fun v' h' => v' = some (.int a) ∧ h' = h) := by
  refine con_of (plainFor_of_name pn_0) hE (fun m => ef_rCh1U0 m x) ?_
  intro p e s m below meth c T0 C X0
  have C : Cx p s m meth c Z "java/lang/String" "charAt" jdk_42_method_56_code 2 (some .char) := C
  show Goes p e below _ T0 (mkF m 0 #[.val (.ref x), .val (.int 0)] [])
  refine g_aloadN C X0 d14_0 rfl rfl (g_virtualP (argsL := []) (st := []) C X0 (wd hw 75 rfl) (wd hw 76 rfl) (nf_of C (wd hw 78 rfl) rfl rfl) (wd hw 78 rfl) (wd hw 77 rfl) (by decide) EX (pay_of (W' := 0) (rIL1 l hw X0.ext x z_ SZ hz FC) C.hZ (wd hw 79 rfl) (wd hw 5 rfl) (by decide) (by decide)) pd_7 rfl rfl _ rfl (Nat.le_of_eq rfl) d14_1 (by decide) (by decide) (fun T67 X67 => ?_))
  refine g_if (h0_eq _) C X67 d14_4 (fun _ => ?_) (fun q => absurd (by decide) q)
  refine g_aloadN C X67 d14_16 rfl rfl (g_getfield (host := "") C X67 (Or.inl (wd hw 22 rfl)) Via.refl FV d14_17 (fun T68 X68 => ?_))
  refine g_iloadN C X68 d14_20 rfl (g_staticP (argsL := [(.ref t), (.int 0)]) (st := []) C X68 (wd hw 120 rfl) (wd hw 121 rfl) (wd hw 41 rfl) (wd hw 122 rfl) (by decide) (pay_of (W' := 0) (rUc10 l hw X68.ext t fm_ SF rf_ S1 S2 S3 kt a b VT ha hb) C.hZ (wd hw 122 rfl) (wd hw 41 rfl) (by decide) (by decide)) pd_6 rfl rfl _ rfl (Nat.le_of_eq rfl) d14_21 (by decide) (by decide) (fun T69 X69 => ?_))
  exact g_retN C X69 (by simp) d14_24 a (own_i2c ha) (by decide) (by decide) ⟨rfl, rfl⟩
theorem ef_rLc20 (m : MethodId) (t : Addr) : entryFrame m #[(.ref t), (.int 0)] 2 = mkF m 0 #[.val (.ref t), .val (.int 0)] [] := by first | (simp [entryFrame, mkF, argsToLocals, Value.category]; done) | rfl
theorem rLc20 (l : Launch) {Z : State} {a0 : Array Value} (hw : ∀ d ∈ tables_1, d.before a0 Z = true) {h : Heap} (hE : Ext Z.heap h) (t : Addr) (fm_ : Value) (SF : Sta Z Z.heap "jdk/internal/util/Preconditions" "SIOOBE_FORMATTER" "Ljava/util/function/BiFunction;" fm_) (rf_ : fm_.isRef = true) (kt : ClassId) (a b : Int32) (VT : Arv Z h t kt .byte 2 [(.int (a.toInt8.toInt32)), (.int (b.toInt8.toInt32))] (.int (0 : Int32))) (ha : (¬ a < 0 ∧ ¬ (65535 : Int32) < a)) (hb : (¬ b < 0 ∧ ¬ (65535 : Int32) < b)) (la : ¬ (255 : Int32) < a) (lb : ¬ (255 : Int32) < b) :
    Con l (⟨"java/lang/StringLatin1", "charAt", "([BI)C"⟩ : MethodName) jdk_43_method_2_code 2 (some .char) [] ({ frames := 2, cells := 0, slots := 0, locals := 40 } : Room) Z #[(.ref t), (.int 0)] h (fun v' h' => v' = some (.int a) ∧ h' = h) := by
  refine con_of (plainFor_of_name pn_2) hE (fun m => ef_rLc20 m t) ?_
  intro p e s m below meth c T0 C X0
  have C : Cx p s m meth c Z "java/lang/StringLatin1" "charAt" jdk_43_method_2_code 2 (some .char) := C
  show Goes p e below _ T0 (mkF m 0 #[.val (.ref t), .val (.int 0)] [])
  refine g_iloadN C X0 d16_0 rfl (g_aloadN C X0 d16_1 rfl rfl (g_arraylength C X0 VT d16_2 (g_staticPV (argsL := [(.int 0), (.int 2)]) (st := []) C X0 (wd hw 83 rfl) (wd hw 84 rfl) (wd hw 5 rfl) (wd hw 85 rfl) (by decide) (pay_of (W' := 0) (rCi02 l hw X0.ext fm_ SF rf_) C.hZ (wd hw 85 rfl) (wd hw 5 rfl) (by decide) (by decide)) pd_3 rfl rfl _ rfl (Nat.le_of_eq rfl) d16_3 (by decide) (by decide) (fun T70 X70 => ?_))))
  refine g_aloadN C X70 d16_6 rfl rfl (g_iloadN C X70 d16_7 rfl (g_baload C X70 VT d16_8 (by decide) (by decide) rfl (g_sipush 255 C X70 d16_9 rfl (g_iand C X70 d16_12 (g_i2c C X70 d16_13 ?_)))))
  exact g_retN C X70 (by simp) d16_14 a (own_latR ha la) (by decide) (by decide) ⟨rfl, rfl⟩
theorem ef_rUl2 (m : MethodId) (t : Addr) : entryFrame m #[(.ref t)] 1 = mkF m 0 #[.val (.ref t)] [] := by first | (simp [entryFrame, mkF, argsToLocals, Value.category]; done) | rfl
theorem rUl2 (l : Launch) {Z : State} {a0 : Array Value} (hw : ∀ d ∈ tables_1, d.before a0 Z = true) {h : Heap} (hE : Ext Z.heap h) (t : Addr) (kt : ClassId) (a b : Int32) (VT : Arv Z h t kt .byte 4 [(.int ((a >>> ((0 : Int32) &&& 31)).toInt8.toInt32)), (.int ((a >>> ((8 : Int32) &&& 31)).toInt8.toInt32)), (.int ((b >>> ((0 : Int32) &&& 31)).toInt8.toInt32)), (.int ((b >>> ((8 : Int32) &&& 31)).toInt8.toInt32))] (.int (0 : Int32))) (ha : (¬ a < 0 ∧ ¬ (65535 : Int32) < a)) (hb : (¬ b < 0 ∧ ¬ (65535 : Int32) < b))  :
    Con l (⟨"java/lang/StringUTF16", "length", "([B)I"⟩ : MethodName) jdk_52_method_6_code 1 (some .int) [] ({ frames := 0, cells := 0, slots := 0, locals := 0 } : Room) Z #[(.ref t)] h (fun v' h' => v' = some (.int 2) ∧ h' = h) := by
  refine con_of (plainFor_of_name pn_3) hE (fun m => ef_rUl2 m t) ?_
  intro p e s m below meth c T0 C X0
  have C : Cx p s m meth c Z "java/lang/StringUTF16" "length" jdk_52_method_6_code 1 (some .int) := C
  show Goes p e below _ T0 (mkF m 0 #[.val (.ref t)] [])
  refine g_aloadN C X0 d29_0 rfl rfl (g_arraylength C X0 VT d29_1 (g_iconst 1 C X0 d29_2 rfl (g_ishr C X0 d29_3 ?_)))
  exact g_retI C X0 d29_4 (by decide) (by decide) ⟨rfl, rfl⟩
theorem ef_rGc20 (m : MethodId) (t : Addr) : entryFrame m #[(.ref t), (.int 0)] 2 = mkF m 0 #[.val (.ref t), .val (.int 0)] [] := by first | (simp [entryFrame, mkF, argsToLocals, Value.category]; done) | rfl
theorem rGc20 (l : Launch) {Z : State} {a0 : Array Value} (hw : ∀ d ∈ tables_1, d.before a0 Z = true) {h : Heap} (hE : Ext Z.heap h) (t : Addr) (S1 : Sta Z Z.heap "java/lang/StringUTF16" "$assertionsDisabled" "Z" (.int (1 : Int32))) (S2 : Sta Z Z.heap "java/lang/StringUTF16" "HI_BYTE_SHIFT" "I" (.int (0 : Int32))) (S3 : Sta Z Z.heap "java/lang/StringUTF16" "LO_BYTE_SHIFT" "I" (.int (8 : Int32))) (kt : ClassId) (a b : Int32) (VT : Arv Z h t kt .byte 4 [(.int ((a >>> ((0 : Int32) &&& 31)).toInt8.toInt32)), (.int ((a >>> ((8 : Int32) &&& 31)).toInt8.toInt32)), (.int ((b >>> ((0 : Int32) &&& 31)).toInt8.toInt32)), (.int ((b >>> ((8 : Int32) &&& 31)).toInt8.toInt32))] (.int (0 : Int32))) (ha : (¬ a < 0 ∧ ¬ (65535 : Int32) < a)) (hb : (¬ b < 0 ∧ ¬ (65535 : Int32) < b))  :
    Con l (⟨"java/lang/StringUTF16", "getChar", "([BI)C"⟩ : MethodName) jdk_52_method_5_code 2 (some .char) [] ({ frames := 1, cells := 0, slots := 0, locals := 20 } : Room) Z #[(.ref t), (.int 0)] h (fun v' h' => v' = some (.int a) ∧ h' = h) := by
  refine con_of (plainFor_of_name pn_3) hE (fun m => ef_rGc20 m t) ?_
  intro p e s m below meth c T0 C X0
  have C : Cx p s m meth c Z "java/lang/StringUTF16" "getChar" jdk_52_method_5_code 2 (some .char) := C
  show Goes p e below _ T0 (mkF m 0 #[.val (.ref t), .val (.int 0)] [])
  refine g_getstatic (host := "") C X0 (Or.inl (wd hw 104 rfl)) Via.refl S1 d26_0 (fun T71 X71 => ?_)
  refine g_ifn (h0_ne _) C X71 d26_3 (fun _ => ?_) (fun q => absurd q (by decide))
  refine g_iloadN C X71 d26_28 rfl (g_iconst 1 C X71 d26_29 rfl (g_ishl C X71 d26_30 (g_istoreN C X71 d26_31 (l' := #[.val (.ref t), .val (.int 0)]) rfl (g_aloadN C X71 d26_32 rfl rfl (g_iloadN C X71 d26_33 rfl (g_iinc 1 C X71 d26_34 rfl rfl (l' := #[.val (.ref t), .val (.int 1)]) rfl (g_baload C X71 VT d26_37 (by decide) (by decide) rfl (g_sipush 255 C X71 d26_38 rfl (g_iand C X71 d26_41 (g_getstatic (host := "") C X71 (Or.inl (wd hw 105 rfl)) Via.refl S2 d26_42 (fun T72 X72 => ?_)))))))))))
  refine g_ishl C X72 d26_45 (g_aloadN C X72 d26_46 rfl rfl (g_iloadN C X72 d26_47 rfl (g_baload C X72 VT d26_48 (by decide) (by decide) rfl (g_sipush 255 C X72 d26_49 rfl (g_iand C X72 d26_52 (g_getstatic (host := "") C X72 (Or.inl (wd hw 106 rfl)) Via.refl S3 d26_53 (fun T73 X73 => ?_)))))))
  refine g_ishl C X73 d26_56 (g_ior C X73 d26_57 (g_i2c C X73 d26_58 ?_))
  exact g_retN C X73 (by simp) d26_59 a (own_utf ha) (by decide) (by decide) ⟨rfl, rfl⟩
theorem ef_rUi20 (m : MethodId) (t : Addr) : entryFrame m #[(.int 0), (.ref t)] 2 = mkF m 0 #[.val (.int 0), .val (.ref t)] [] := by first | (simp [entryFrame, mkF, argsToLocals, Value.category]; done) | rfl
theorem rUi20 (l : Launch) {Z : State} {a0 : Array Value} (hw : ∀ d ∈ tables_1, d.before a0 Z = true) {h : Heap} (hE : Ext Z.heap h) (t : Addr) (fm_ : Value) (SF : Sta Z Z.heap "jdk/internal/util/Preconditions" "SIOOBE_FORMATTER" "Ljava/util/function/BiFunction;" fm_) (rf_ : fm_.isRef = true) (kt : ClassId) (a b : Int32) (VT : Arv Z h t kt .byte 4 [(.int ((a >>> ((0 : Int32) &&& 31)).toInt8.toInt32)), (.int ((a >>> ((8 : Int32) &&& 31)).toInt8.toInt32)), (.int ((b >>> ((0 : Int32) &&& 31)).toInt8.toInt32)), (.int ((b >>> ((8 : Int32) &&& 31)).toInt8.toInt32))] (.int (0 : Int32))) (ha : (¬ a < 0 ∧ ¬ (65535 : Int32) < a)) (hb : (¬ b < 0 ∧ ¬ (65535 : Int32) < b))  :
    Con l (⟨"java/lang/StringUTF16", "checkIndex", "(I[B)V"⟩ : MethodName) jdk_52_method_91_code 2 none [] ({ frames := 2, cells := 0, slots := 0, locals := 40 } : Room) Z #[(.int 0), (.ref t)] h (fun v' h' => v' = none ∧ h' = h) := by
  refine con_of (plainFor_of_name pn_3) hE (fun m => ef_rUi20 m t) ?_
  intro p e s m below meth c T0 C X0
  have C : Cx p s m meth c Z "java/lang/StringUTF16" "checkIndex" jdk_52_method_91_code 2 none := C
  show Goes p e below _ T0 (mkF m 0 #[.val (.int 0), .val (.ref t)] [])
  refine g_iloadN C X0 d28_0 rfl (g_aloadN C X0 d28_1 rfl rfl (g_staticP (argsL := [(.ref t)]) (st := [(.int 0)]) C X0 (wd hw 126 rfl) (wd hw 127 rfl) (wd hw 41 rfl) (wd hw 128 rfl) (by decide) (pay_of (W' := 1) (rUl2 l hw X0.ext t kt a b VT ha hb) C.hZ (wd hw 128 rfl) (wd hw 41 rfl) (by decide) (by decide)) pd_4 rfl rfl _ rfl (Nat.le_of_eq rfl) d28_2 (by decide) (by decide) (fun T74 X74 => ?_)))
  refine g_staticPV (argsL := [(.int 0), (.int 2)]) (st := []) C X74 (wd hw 129 rfl) (wd hw 84 rfl) (wd hw 5 rfl) (wd hw 85 rfl) (by decide) (pay_of (W' := 0) (rCi02 l hw X74.ext fm_ SF rf_) C.hZ (wd hw 85 rfl) (wd hw 5 rfl) (by decide) (by decide)) pd_3 rfl rfl _ rfl (Nat.le_of_eq rfl) d28_5 (by decide) (by decide) (fun T75 X75 => ?_)
  exact g_retV C X75 d28_8 (by decide) (by decide) ⟨rfl, rfl⟩
theorem ef_rUc20 (m : MethodId) (t : Addr) : entryFrame m #[(.ref t), (.int 0)] 2 = mkF m 0 #[.val (.ref t), .val (.int 0)] [] := by first | (simp [entryFrame, mkF, argsToLocals, Value.category]; done) | rfl
theorem rUc20 (l : Launch) {Z : State} {a0 : Array Value} (hw : ∀ d ∈ tables_1, d.before a0 Z = true) {h : Heap} (hE : Ext Z.heap h) (t : Addr) (fm_ : Value) (SF : Sta Z Z.heap "jdk/internal/util/Preconditions" "SIOOBE_FORMATTER" "Ljava/util/function/BiFunction;" fm_) (rf_ : fm_.isRef = true) (S1 : Sta Z Z.heap "java/lang/StringUTF16" "$assertionsDisabled" "Z" (.int (1 : Int32))) (S2 : Sta Z Z.heap "java/lang/StringUTF16" "HI_BYTE_SHIFT" "I" (.int (0 : Int32))) (S3 : Sta Z Z.heap "java/lang/StringUTF16" "LO_BYTE_SHIFT" "I" (.int (8 : Int32))) (kt : ClassId) (a b : Int32) (VT : Arv Z h t kt .byte 4 [(.int ((a >>> ((0 : Int32) &&& 31)).toInt8.toInt32)), (.int ((a >>> ((8 : Int32) &&& 31)).toInt8.toInt32)), (.int ((b >>> ((0 : Int32) &&& 31)).toInt8.toInt32)), (.int ((b >>> ((8 : Int32) &&& 31)).toInt8.toInt32))] (.int (0 : Int32))) (ha : (¬ a < 0 ∧ ¬ (65535 : Int32) < a)) (hb : (¬ b < 0 ∧ ¬ (65535 : Int32) < b))  :
    Con l (⟨"java/lang/StringUTF16", "charAt", "([BI)C"⟩ : MethodName) jdk_52_method_83_code 2 (some .char) [] ({ frames := 3, cells := 0, slots := 0, locals := 60 } : Room) Z #[(.ref t), (.int 0)] h (fun v' h' => v' = some (.int a) ∧ h' = h) := by
  refine con_of (plainFor_of_name pn_3) hE (fun m => ef_rUc20 m t) ?_
  intro p e s m below meth c T0 C X0
  have C : Cx p s m meth c Z "java/lang/StringUTF16" "charAt" jdk_52_method_83_code 2 (some .char) := C
  show Goes p e below _ T0 (mkF m 0 #[.val (.ref t), .val (.int 0)] [])
  refine g_iloadN C X0 d27_0 rfl (g_aloadN C X0 d27_1 rfl rfl (g_staticPV (argsL := [(.int 0), (.ref t)]) (st := []) C X0 (wd hw 123 rfl) (wd hw 124 rfl) (wd hw 41 rfl) (wd hw 125 rfl) (by decide) (pay_of (W' := 0) (rUi20 l hw X0.ext t fm_ SF rf_ kt a b VT ha hb) C.hZ (wd hw 125 rfl) (wd hw 41 rfl) (by decide) (by decide)) pd_5 rfl rfl _ rfl (Nat.le_of_eq rfl) d27_2 (by decide) (by decide) (fun T76 X76 => ?_)))
  refine g_aloadN C X76 d27_5 rfl rfl (g_iloadN C X76 d27_6 rfl (g_staticP (argsL := [(.ref t), (.int 0)]) (st := []) C X76 (wd hw 117 rfl) (wd hw 118 rfl) (wd hw 41 rfl) (wd hw 119 rfl) (by decide) (pay_of (W' := 0) (rGc20 l hw X76.ext t S1 S2 S3 kt a b VT ha hb) C.hZ (wd hw 119 rfl) (wd hw 41 rfl) (by decide) (by decide)) pd_6 rfl rfl _ rfl (Nat.le_of_eq rfl) d27_7 (by decide) (by decide) (fun T77 X77 => ?_)))
  exact g_retN C X77 (by simp) d27_10 a (own_i2c ha) (by decide) (by decide) ⟨rfl, rfl⟩
theorem ef_rCh2L0 (m : MethodId) (x : Addr) : entryFrame m #[(.ref x), (.int 0)] 2 = mkF m 0 #[.val (.ref x), .val (.int 0)] [] := by first | (simp [entryFrame, mkF, argsToLocals, Value.category]; done) | rfl
theorem rCh2L0 (l : Launch) {Z : State} {a0 : Array Value} (hw : ∀ d ∈ tables_1, d.before a0 Z = true) {h : Heap} (hE : Ext Z.heap h) (x : Addr) (z_ : Int32) (SZ : Sta Z Z.heap "java/lang/String" "COMPACT_STRINGS" "Z" (.int z_)) (hz : ¬ z_ = 0) (fm_ : Value) (SF : Sta Z Z.heap "jdk/internal/util/Preconditions" "SIOOBE_FORMATTER" "Ljava/util/function/BiFunction;" fm_) (rf_ : fm_.isRef = true) (S1 : Sta Z Z.heap "java/lang/StringUTF16" "$assertionsDisabled" "Z" (.int (1 : Int32))) (S2 : Sta Z Z.heap "java/lang/StringUTF16" "HI_BYTE_SHIFT" "I" (.int (0 : Int32))) (S3 : Sta Z Z.heap "java/lang/StringUTF16" "LO_BYTE_SHIFT" "I" (.int (8 : Int32))) (t : Addr) (kt : ClassId) (a b : Int32) (EX : Exa Z h x "java/lang/String") (FC : Fld Z h x "java/lang/String" "coder" "B" (.int (0 : Int32))) (FV : Fld Z h x "java/lang/String" "value" "[B" (.ref t)) (VT : Arv Z h t kt .byte 2 [(.int (a.toInt8.toInt32)), (.int (b.toInt8.toInt32))] (.int (0 : Int32))) (ha : (¬ a < 0 ∧ ¬ (65535 : Int32) < a)) (hb : (¬ b < 0 ∧ ¬ (65535 : Int32) < b)) (la : ¬ (255 : Int32) < a) (lb : ¬ (255 : Int32) < b) :
    Con l (⟨"java/lang/String", "charAt", "(I)C"⟩ : MethodName) jdk_42_method_56_code 2 (some .char) [] ({ frames := 4, cells := 0, slots := 0, locals := 80 } : Room) Z #[(.ref x), (.int 0)] h (fun v' h' => v' = some (.int a) ∧ h' = h) := by
  refine con_of (plainFor_of_name pn_0) hE (fun m => ef_rCh2L0 m x) ?_
  intro p e s m below meth c T0 C X0
  have C : Cx p s m meth c Z "java/lang/String" "charAt" jdk_42_method_56_code 2 (some .char) := C
  show Goes p e below _ T0 (mkF m 0 #[.val (.ref x), .val (.int 0)] [])
  refine g_aloadN C X0 d14_0 rfl rfl (g_virtualP (argsL := []) (st := []) C X0 (wd hw 75 rfl) (wd hw 76 rfl) (nf_of C (wd hw 78 rfl) rfl rfl) (wd hw 78 rfl) (wd hw 77 rfl) (by decide) EX (pay_of (W' := 0) (rIL0 l hw X0.ext x z_ SZ hz FC) C.hZ (wd hw 79 rfl) (wd hw 5 rfl) (by decide) (by decide)) pd_7 rfl rfl _ rfl (Nat.le_of_eq rfl) d14_1 (by decide) (by decide) (fun T78 X78 => ?_))
  refine g_if (h0_eq _) C X78 d14_4 (fun q => absurd q (by decide)) (fun _ => ?_)
  refine g_aloadN C X78 d14_7 rfl rfl (g_getfield (host := "") C X78 (Or.inl (wd hw 22 rfl)) Via.refl FV d14_8 (fun T79 X79 => ?_))
  refine g_iloadN C X79 d14_11 rfl (g_staticP (argsL := [(.ref t), (.int 0)]) (st := []) C X79 (wd hw 80 rfl) (wd hw 81 rfl) (wd hw 30 rfl) (wd hw 82 rfl) (by decide) (pay_of (W' := 0) (rLc20 l hw X79.ext t fm_ SF rf_ kt a b VT ha hb la lb) C.hZ (wd hw 82 rfl) (wd hw 30 rfl) (by decide) (by decide)) pd_6 rfl rfl _ rfl (Nat.le_of_eq rfl) d14_12 (by decide) (by decide) (fun T80 X80 => ?_))
  exact g_retN C X80 (by simp) d14_15 a (own_i2c ha) (by decide) (by decide) ⟨rfl, rfl⟩
theorem ef_rCh2U0 (m : MethodId) (x : Addr) : entryFrame m #[(.ref x), (.int 0)] 2 = mkF m 0 #[.val (.ref x), .val (.int 0)] [] := by first | (simp [entryFrame, mkF, argsToLocals, Value.category]; done) | rfl
theorem rCh2U0 (l : Launch) {Z : State} {a0 : Array Value} (hw : ∀ d ∈ tables_1, d.before a0 Z = true) {h : Heap} (hE : Ext Z.heap h) (x : Addr) (z_ : Int32) (SZ : Sta Z Z.heap "java/lang/String" "COMPACT_STRINGS" "Z" (.int z_)) (hz : ¬ z_ = 0) (fm_ : Value) (SF : Sta Z Z.heap "jdk/internal/util/Preconditions" "SIOOBE_FORMATTER" "Ljava/util/function/BiFunction;" fm_) (rf_ : fm_.isRef = true) (S1 : Sta Z Z.heap "java/lang/StringUTF16" "$assertionsDisabled" "Z" (.int (1 : Int32))) (S2 : Sta Z Z.heap "java/lang/StringUTF16" "HI_BYTE_SHIFT" "I" (.int (0 : Int32))) (S3 : Sta Z Z.heap "java/lang/StringUTF16" "LO_BYTE_SHIFT" "I" (.int (8 : Int32))) (t : Addr) (kt : ClassId) (a b : Int32) (EX : Exa Z h x "java/lang/String") (FC : Fld Z h x "java/lang/String" "coder" "B" (.int (1 : Int32))) (FV : Fld Z h x "java/lang/String" "value" "[B" (.ref t)) (VT : Arv Z h t kt .byte 4 [(.int ((a >>> ((0 : Int32) &&& 31)).toInt8.toInt32)), (.int ((a >>> ((8 : Int32) &&& 31)).toInt8.toInt32)), (.int ((b >>> ((0 : Int32) &&& 31)).toInt8.toInt32)), (.int ((b >>> ((8 : Int32) &&& 31)).toInt8.toInt32))] (.int (0 : Int32))) (ha : (¬ a < 0 ∧ ¬ (65535 : Int32) < a)) (hb : (¬ b < 0 ∧ ¬ (65535 : Int32) < b))  :
    Con l (⟨"java/lang/String", "charAt", "(I)C"⟩ : MethodName) jdk_42_method_56_code 2 (some .char) [] ({ frames := 4, cells := 0, slots := 0, locals := 80 } : Room) Z #[(.ref x), (.int 0)] h (fun v' h' => v' = some (.int a) ∧ h' = h) := by
  refine con_of (plainFor_of_name pn_0) hE (fun m => ef_rCh2U0 m x) ?_
  intro p e s m below meth c T0 C X0
  have C : Cx p s m meth c Z "java/lang/String" "charAt" jdk_42_method_56_code 2 (some .char) := C
  show Goes p e below _ T0 (mkF m 0 #[.val (.ref x), .val (.int 0)] [])
  refine g_aloadN C X0 d14_0 rfl rfl (g_virtualP (argsL := []) (st := []) C X0 (wd hw 75 rfl) (wd hw 76 rfl) (nf_of C (wd hw 78 rfl) rfl rfl) (wd hw 78 rfl) (wd hw 77 rfl) (by decide) EX (pay_of (W' := 0) (rIL1 l hw X0.ext x z_ SZ hz FC) C.hZ (wd hw 79 rfl) (wd hw 5 rfl) (by decide) (by decide)) pd_7 rfl rfl _ rfl (Nat.le_of_eq rfl) d14_1 (by decide) (by decide) (fun T81 X81 => ?_))
  refine g_if (h0_eq _) C X81 d14_4 (fun _ => ?_) (fun q => absurd (by decide) q)
  refine g_aloadN C X81 d14_16 rfl rfl (g_getfield (host := "") C X81 (Or.inl (wd hw 22 rfl)) Via.refl FV d14_17 (fun T82 X82 => ?_))
  refine g_iloadN C X82 d14_20 rfl (g_staticP (argsL := [(.ref t), (.int 0)]) (st := []) C X82 (wd hw 120 rfl) (wd hw 121 rfl) (wd hw 41 rfl) (wd hw 122 rfl) (by decide) (pay_of (W' := 0) (rUc20 l hw X82.ext t fm_ SF rf_ S1 S2 S3 kt a b VT ha hb) C.hZ (wd hw 122 rfl) (wd hw 41 rfl) (by decide) (by decide)) pd_6 rfl rfl _ rfl (Nat.le_of_eq rfl) d14_21 (by decide) (by decide) (fun T83 X83 => ?_))
  exact g_retN C X83 (by simp) d14_24 a (own_i2c ha) (by decide) (by decide) ⟨rfl, rfl⟩
theorem ef_rLc21 (m : MethodId) (t : Addr) : entryFrame m #[(.ref t), (.int 1)] 2 = mkF m 0 #[.val (.ref t), .val (.int 1)] [] := by first | (simp [entryFrame, mkF, argsToLocals, Value.category]; done) | rfl
theorem rLc21 (l : Launch) {Z : State} {a0 : Array Value} (hw : ∀ d ∈ tables_1, d.before a0 Z = true) {h : Heap} (hE : Ext Z.heap h) (t : Addr) (fm_ : Value) (SF : Sta Z Z.heap "jdk/internal/util/Preconditions" "SIOOBE_FORMATTER" "Ljava/util/function/BiFunction;" fm_) (rf_ : fm_.isRef = true) (kt : ClassId) (a b : Int32) (VT : Arv Z h t kt .byte 2 [(.int (a.toInt8.toInt32)), (.int (b.toInt8.toInt32))] (.int (0 : Int32))) (ha : (¬ a < 0 ∧ ¬ (65535 : Int32) < a)) (hb : (¬ b < 0 ∧ ¬ (65535 : Int32) < b)) (la : ¬ (255 : Int32) < a) (lb : ¬ (255 : Int32) < b) :
    Con l (⟨"java/lang/StringLatin1", "charAt", "([BI)C"⟩ : MethodName) jdk_43_method_2_code 2 (some .char) [] ({ frames := 2, cells := 0, slots := 0, locals := 40 } : Room) Z #[(.ref t), (.int 1)] h (fun v' h' => v' = some (.int b) ∧ h' = h) := by
  refine con_of (plainFor_of_name pn_2) hE (fun m => ef_rLc21 m t) ?_
  intro p e s m below meth c T0 C X0
  have C : Cx p s m meth c Z "java/lang/StringLatin1" "charAt" jdk_43_method_2_code 2 (some .char) := C
  show Goes p e below _ T0 (mkF m 0 #[.val (.ref t), .val (.int 1)] [])
  refine g_iloadN C X0 d16_0 rfl (g_aloadN C X0 d16_1 rfl rfl (g_arraylength C X0 VT d16_2 (g_staticPV (argsL := [(.int 1), (.int 2)]) (st := []) C X0 (wd hw 83 rfl) (wd hw 84 rfl) (wd hw 5 rfl) (wd hw 85 rfl) (by decide) (pay_of (W' := 0) (rCi12 l hw X0.ext fm_ SF rf_) C.hZ (wd hw 85 rfl) (wd hw 5 rfl) (by decide) (by decide)) pd_3 rfl rfl _ rfl (Nat.le_of_eq rfl) d16_3 (by decide) (by decide) (fun T84 X84 => ?_))))
  refine g_aloadN C X84 d16_6 rfl rfl (g_iloadN C X84 d16_7 rfl (g_baload C X84 VT d16_8 (by decide) (by decide) rfl (g_sipush 255 C X84 d16_9 rfl (g_iand C X84 d16_12 (g_i2c C X84 d16_13 ?_)))))
  exact g_retN C X84 (by simp) d16_14 b (own_latR hb lb) (by decide) (by decide) ⟨rfl, rfl⟩
theorem ef_rGc21 (m : MethodId) (t : Addr) : entryFrame m #[(.ref t), (.int 1)] 2 = mkF m 0 #[.val (.ref t), .val (.int 1)] [] := by first | (simp [entryFrame, mkF, argsToLocals, Value.category]; done) | rfl
theorem rGc21 (l : Launch) {Z : State} {a0 : Array Value} (hw : ∀ d ∈ tables_1, d.before a0 Z = true) {h : Heap} (hE : Ext Z.heap h) (t : Addr) (S1 : Sta Z Z.heap "java/lang/StringUTF16" "$assertionsDisabled" "Z" (.int (1 : Int32))) (S2 : Sta Z Z.heap "java/lang/StringUTF16" "HI_BYTE_SHIFT" "I" (.int (0 : Int32))) (S3 : Sta Z Z.heap "java/lang/StringUTF16" "LO_BYTE_SHIFT" "I" (.int (8 : Int32))) (kt : ClassId) (a b : Int32) (VT : Arv Z h t kt .byte 4 [(.int ((a >>> ((0 : Int32) &&& 31)).toInt8.toInt32)), (.int ((a >>> ((8 : Int32) &&& 31)).toInt8.toInt32)), (.int ((b >>> ((0 : Int32) &&& 31)).toInt8.toInt32)), (.int ((b >>> ((8 : Int32) &&& 31)).toInt8.toInt32))] (.int (0 : Int32))) (ha : (¬ a < 0 ∧ ¬ (65535 : Int32) < a)) (hb : (¬ b < 0 ∧ ¬ (65535 : Int32) < b))  :
    Con l (⟨"java/lang/StringUTF16", "getChar", "([BI)C"⟩ : MethodName) jdk_52_method_5_code 2 (some .char) [] ({ frames := 1, cells := 0, slots := 0, locals := 20 } : Room) Z #[(.ref t), (.int 1)] h (fun v' h' => v' = some (.int b) ∧ h' = h) := by
  refine con_of (plainFor_of_name pn_3) hE (fun m => ef_rGc21 m t) ?_
  intro p e s m below meth c T0 C X0
  have C : Cx p s m meth c Z "java/lang/StringUTF16" "getChar" jdk_52_method_5_code 2 (some .char) := C
  show Goes p e below _ T0 (mkF m 0 #[.val (.ref t), .val (.int 1)] [])
  refine g_getstatic (host := "") C X0 (Or.inl (wd hw 104 rfl)) Via.refl S1 d26_0 (fun T85 X85 => ?_)
  refine g_ifn (h0_ne _) C X85 d26_3 (fun _ => ?_) (fun q => absurd q (by decide))
  refine g_iloadN C X85 d26_28 rfl (g_iconst 1 C X85 d26_29 rfl (g_ishl C X85 d26_30 (g_istoreN C X85 d26_31 (l' := #[.val (.ref t), .val (.int 2)]) rfl (g_aloadN C X85 d26_32 rfl rfl (g_iloadN C X85 d26_33 rfl (g_iinc 1 C X85 d26_34 rfl rfl (l' := #[.val (.ref t), .val (.int 3)]) rfl (g_baload C X85 VT d26_37 (by decide) (by decide) rfl (g_sipush 255 C X85 d26_38 rfl (g_iand C X85 d26_41 (g_getstatic (host := "") C X85 (Or.inl (wd hw 105 rfl)) Via.refl S2 d26_42 (fun T86 X86 => ?_)))))))))))
  refine g_ishl C X86 d26_45 (g_aloadN C X86 d26_46 rfl rfl (g_iloadN C X86 d26_47 rfl (g_baload C X86 VT d26_48 (by decide) (by decide) rfl (g_sipush 255 C X86 d26_49 rfl (g_iand C X86 d26_52 (g_getstatic (host := "") C X86 (Or.inl (wd hw 106 rfl)) Via.refl S3 d26_53 (fun T87 X87 => ?_)))))))
  refine g_ishl C X87 d26_56 (g_ior C X87 d26_57 (g_i2c C X87 d26_58 ?_))
  exact g_retN C X87 (by simp) d26_59 b (own_utf hb) (by decide) (by decide) ⟨rfl, rfl⟩
theorem ef_rUi21 (m : MethodId) (t : Addr) : entryFrame m #[(.int 1), (.ref t)] 2 = mkF m 0 #[.val (.int 1), .val (.ref t)] [] := by first | (simp [entryFrame, mkF, argsToLocals, Value.category]; done) | rfl
theorem rUi21 (l : Launch) {Z : State} {a0 : Array Value} (hw : ∀ d ∈ tables_1, d.before a0 Z = true) {h : Heap} (hE : Ext Z.heap h) (t : Addr) (fm_ : Value) (SF : Sta Z Z.heap "jdk/internal/util/Preconditions" "SIOOBE_FORMATTER" "Ljava/util/function/BiFunction;" fm_) (rf_ : fm_.isRef = true) (kt : ClassId) (a b : Int32) (VT : Arv Z h t kt .byte 4 [(.int ((a >>> ((0 : Int32) &&& 31)).toInt8.toInt32)), (.int ((a >>> ((8 : Int32) &&& 31)).toInt8.toInt32)), (.int ((b >>> ((0 : Int32) &&& 31)).toInt8.toInt32)), (.int ((b >>> ((8 : Int32) &&& 31)).toInt8.toInt32))] (.int (0 : Int32))) (ha : (¬ a < 0 ∧ ¬ (65535 : Int32) < a)) (hb : (¬ b < 0 ∧ ¬ (65535 : Int32) < b))  :
    Con l (⟨"java/lang/StringUTF16", "checkIndex", "(I[B)V"⟩ : MethodName) jdk_52_method_91_code 2 none [] ({ frames := 2, cells := 0, slots := 0, locals := 40 } : Room) Z #[(.int 1), (.ref t)] h (fun v' h' => v' = none ∧ h' = h) := by
  refine con_of (plainFor_of_name pn_3) hE (fun m => ef_rUi21 m t) ?_
  intro p e s m below meth c T0 C X0
  have C : Cx p s m meth c Z "java/lang/StringUTF16" "checkIndex" jdk_52_method_91_code 2 none := C
  show Goes p e below _ T0 (mkF m 0 #[.val (.int 1), .val (.ref t)] [])
  refine g_iloadN C X0 d28_0 rfl (g_aloadN C X0 d28_1 rfl rfl (g_staticP (argsL := [(.ref t)]) (st := [(.int 1)]) C X0 (wd hw 126 rfl) (wd hw 127 rfl) (wd hw 41 rfl) (wd hw 128 rfl) (by decide) (pay_of (W' := 1) (rUl2 l hw X0.ext t kt a b VT ha hb) C.hZ (wd hw 128 rfl) (wd hw 41 rfl) (by decide) (by decide)) pd_4 rfl rfl _ rfl (Nat.le_of_eq rfl) d28_2 (by decide) (by decide) (fun T88 X88 => ?_)))
  refine g_staticPV (argsL := [(.int 1), (.int 2)]) (st := []) C X88 (wd hw 129 rfl) (wd hw 84 rfl) (wd hw 5 rfl) (wd hw 85 rfl) (by decide) (pay_of (W' := 0) (rCi12 l hw X88.ext fm_ SF rf_) C.hZ (wd hw 85 rfl) (wd hw 5 rfl) (by decide) (by decide)) pd_3 rfl rfl _ rfl (Nat.le_of_eq rfl) d28_5 (by decide) (by decide) (fun T89 X89 => ?_)
  exact g_retV C X89 d28_8 (by decide) (by decide) ⟨rfl, rfl⟩
theorem ef_rUc21 (m : MethodId) (t : Addr) : entryFrame m #[(.ref t), (.int 1)] 2 = mkF m 0 #[.val (.ref t), .val (.int 1)] [] := by first | (simp [entryFrame, mkF, argsToLocals, Value.category]; done) | rfl
theorem rUc21 (l : Launch) {Z : State} {a0 : Array Value} (hw : ∀ d ∈ tables_1, d.before a0 Z = true) {h : Heap} (hE : Ext Z.heap h) (t : Addr) (fm_ : Value) (SF : Sta Z Z.heap "jdk/internal/util/Preconditions" "SIOOBE_FORMATTER" "Ljava/util/function/BiFunction;" fm_) (rf_ : fm_.isRef = true) (S1 : Sta Z Z.heap "java/lang/StringUTF16" "$assertionsDisabled" "Z" (.int (1 : Int32))) (S2 : Sta Z Z.heap "java/lang/StringUTF16" "HI_BYTE_SHIFT" "I" (.int (0 : Int32))) (S3 : Sta Z Z.heap "java/lang/StringUTF16" "LO_BYTE_SHIFT" "I" (.int (8 : Int32))) (kt : ClassId) (a b : Int32) (VT : Arv Z h t kt .byte 4 [(.int ((a >>> ((0 : Int32) &&& 31)).toInt8.toInt32)), (.int ((a >>> ((8 : Int32) &&& 31)).toInt8.toInt32)), (.int ((b >>> ((0 : Int32) &&& 31)).toInt8.toInt32)), (.int ((b >>> ((8 : Int32) &&& 31)).toInt8.toInt32))] (.int (0 : Int32))) (ha : (¬ a < 0 ∧ ¬ (65535 : Int32) < a)) (hb : (¬ b < 0 ∧ ¬ (65535 : Int32) < b))  :
    Con l (⟨"java/lang/StringUTF16", "charAt", "([BI)C"⟩ : MethodName) jdk_52_method_83_code 2 (some .char) [] ({ frames := 3, cells := 0, slots := 0, locals := 60 } : Room) Z #[(.ref t), (.int 1)] h (fun v' h' => v' = some (.int b) ∧ h' = h) := by
  refine con_of (plainFor_of_name pn_3) hE (fun m => ef_rUc21 m t) ?_
  intro p e s m below meth c T0 C X0
  have C : Cx p s m meth c Z "java/lang/StringUTF16" "charAt" jdk_52_method_83_code 2 (some .char) := C
  show Goes p e below _ T0 (mkF m 0 #[.val (.ref t), .val (.int 1)] [])
  refine g_iloadN C X0 d27_0 rfl (g_aloadN C X0 d27_1 rfl rfl (g_staticPV (argsL := [(.int 1), (.ref t)]) (st := []) C X0 (wd hw 123 rfl) (wd hw 124 rfl) (wd hw 41 rfl) (wd hw 125 rfl) (by decide) (pay_of (W' := 0) (rUi21 l hw X0.ext t fm_ SF rf_ kt a b VT ha hb) C.hZ (wd hw 125 rfl) (wd hw 41 rfl) (by decide) (by decide)) pd_5 rfl rfl _ rfl (Nat.le_of_eq rfl) d27_2 (by decide) (by decide) (fun T90 X90 => ?_)))
  refine g_aloadN C X90 d27_5 rfl rfl (g_iloadN C X90 d27_6 rfl (g_staticP (argsL := [(.ref t), (.int 1)]) (st := []) C X90 (wd hw 117 rfl) (wd hw 118 rfl) (wd hw 41 rfl) (wd hw 119 rfl) (by decide) (pay_of (W' := 0) (rGc21 l hw X90.ext t S1 S2 S3 kt a b VT ha hb) C.hZ (wd hw 119 rfl) (wd hw 41 rfl) (by decide) (by decide)) pd_6 rfl rfl _ rfl (Nat.le_of_eq rfl) d27_7 (by decide) (by decide) (fun T91 X91 => ?_)))
  exact g_retN C X91 (by simp) d27_10 b (own_i2c hb) (by decide) (by decide) ⟨rfl, rfl⟩
theorem ef_rCh2L1 (m : MethodId) (x : Addr) : entryFrame m #[(.ref x), (.int 1)] 2 = mkF m 0 #[.val (.ref x), .val (.int 1)] [] := by first | (simp [entryFrame, mkF, argsToLocals, Value.category]; done) | rfl
theorem rCh2L1 (l : Launch) {Z : State} {a0 : Array Value} (hw : ∀ d ∈ tables_1, d.before a0 Z = true) {h : Heap} (hE : Ext Z.heap h) (x : Addr) (z_ : Int32) (SZ : Sta Z Z.heap "java/lang/String" "COMPACT_STRINGS" "Z" (.int z_)) (hz : ¬ z_ = 0) (fm_ : Value) (SF : Sta Z Z.heap "jdk/internal/util/Preconditions" "SIOOBE_FORMATTER" "Ljava/util/function/BiFunction;" fm_) (rf_ : fm_.isRef = true) (S1 : Sta Z Z.heap "java/lang/StringUTF16" "$assertionsDisabled" "Z" (.int (1 : Int32))) (S2 : Sta Z Z.heap "java/lang/StringUTF16" "HI_BYTE_SHIFT" "I" (.int (0 : Int32))) (S3 : Sta Z Z.heap "java/lang/StringUTF16" "LO_BYTE_SHIFT" "I" (.int (8 : Int32))) (t : Addr) (kt : ClassId) (a b : Int32) (EX : Exa Z h x "java/lang/String") (FC : Fld Z h x "java/lang/String" "coder" "B" (.int (0 : Int32))) (FV : Fld Z h x "java/lang/String" "value" "[B" (.ref t)) (VT : Arv Z h t kt .byte 2 [(.int (a.toInt8.toInt32)), (.int (b.toInt8.toInt32))] (.int (0 : Int32))) (ha : (¬ a < 0 ∧ ¬ (65535 : Int32) < a)) (hb : (¬ b < 0 ∧ ¬ (65535 : Int32) < b)) (la : ¬ (255 : Int32) < a) (lb : ¬ (255 : Int32) < b) :
    Con l (⟨"java/lang/String", "charAt", "(I)C"⟩ : MethodName) jdk_42_method_56_code 2 (some .char) [] ({ frames := 4, cells := 0, slots := 0, locals := 80 } : Room) Z #[(.ref x), (.int 1)] h (fun v' h' => v' = some (.int b) ∧ h' = h) := by
  refine con_of (plainFor_of_name pn_0) hE (fun m => ef_rCh2L1 m x) ?_
  intro p e s m below meth c T0 C X0
  have C : Cx p s m meth c Z "java/lang/String" "charAt" jdk_42_method_56_code 2 (some .char) := C
  show Goes p e below _ T0 (mkF m 0 #[.val (.ref x), .val (.int 1)] [])
  refine g_aloadN C X0 d14_0 rfl rfl (g_virtualP (argsL := []) (st := []) C X0 (wd hw 75 rfl) (wd hw 76 rfl) (nf_of C (wd hw 78 rfl) rfl rfl) (wd hw 78 rfl) (wd hw 77 rfl) (by decide) EX (pay_of (W' := 0) (rIL0 l hw X0.ext x z_ SZ hz FC) C.hZ (wd hw 79 rfl) (wd hw 5 rfl) (by decide) (by decide)) pd_7 rfl rfl _ rfl (Nat.le_of_eq rfl) d14_1 (by decide) (by decide) (fun T92 X92 => ?_))
  refine g_if (h0_eq _) C X92 d14_4 (fun q => absurd q (by decide)) (fun _ => ?_)
  refine g_aloadN C X92 d14_7 rfl rfl (g_getfield (host := "") C X92 (Or.inl (wd hw 22 rfl)) Via.refl FV d14_8 (fun T93 X93 => ?_))
  refine g_iloadN C X93 d14_11 rfl (g_staticP (argsL := [(.ref t), (.int 1)]) (st := []) C X93 (wd hw 80 rfl) (wd hw 81 rfl) (wd hw 30 rfl) (wd hw 82 rfl) (by decide) (pay_of (W' := 0) (rLc21 l hw X93.ext t fm_ SF rf_ kt a b VT ha hb la lb) C.hZ (wd hw 82 rfl) (wd hw 30 rfl) (by decide) (by decide)) pd_6 rfl rfl _ rfl (Nat.le_of_eq rfl) d14_12 (by decide) (by decide) (fun T94 X94 => ?_))
  exact g_retN C X94 (by simp) d14_15 b (own_i2c hb) (by decide) (by decide) ⟨rfl, rfl⟩
theorem ef_rCh2U1 (m : MethodId) (x : Addr) : entryFrame m #[(.ref x), (.int 1)] 2 = mkF m 0 #[.val (.ref x), .val (.int 1)] [] := by first | (simp [entryFrame, mkF, argsToLocals, Value.category]; done) | rfl
theorem rCh2U1 (l : Launch) {Z : State} {a0 : Array Value} (hw : ∀ d ∈ tables_1, d.before a0 Z = true) {h : Heap} (hE : Ext Z.heap h) (x : Addr) (z_ : Int32) (SZ : Sta Z Z.heap "java/lang/String" "COMPACT_STRINGS" "Z" (.int z_)) (hz : ¬ z_ = 0) (fm_ : Value) (SF : Sta Z Z.heap "jdk/internal/util/Preconditions" "SIOOBE_FORMATTER" "Ljava/util/function/BiFunction;" fm_) (rf_ : fm_.isRef = true) (S1 : Sta Z Z.heap "java/lang/StringUTF16" "$assertionsDisabled" "Z" (.int (1 : Int32))) (S2 : Sta Z Z.heap "java/lang/StringUTF16" "HI_BYTE_SHIFT" "I" (.int (0 : Int32))) (S3 : Sta Z Z.heap "java/lang/StringUTF16" "LO_BYTE_SHIFT" "I" (.int (8 : Int32))) (t : Addr) (kt : ClassId) (a b : Int32) (EX : Exa Z h x "java/lang/String") (FC : Fld Z h x "java/lang/String" "coder" "B" (.int (1 : Int32))) (FV : Fld Z h x "java/lang/String" "value" "[B" (.ref t)) (VT : Arv Z h t kt .byte 4 [(.int ((a >>> ((0 : Int32) &&& 31)).toInt8.toInt32)), (.int ((a >>> ((8 : Int32) &&& 31)).toInt8.toInt32)), (.int ((b >>> ((0 : Int32) &&& 31)).toInt8.toInt32)), (.int ((b >>> ((8 : Int32) &&& 31)).toInt8.toInt32))] (.int (0 : Int32))) (ha : (¬ a < 0 ∧ ¬ (65535 : Int32) < a)) (hb : (¬ b < 0 ∧ ¬ (65535 : Int32) < b))  :
    Con l (⟨"java/lang/String", "charAt", "(I)C"⟩ : MethodName) jdk_42_method_56_code 2 (some .char) [] ({ frames := 4, cells := 0, slots := 0, locals := 80 } : Room) Z #[(.ref x), (.int 1)] h (fun v' h' => v' = some (.int b) ∧ h' = h) := by
  refine con_of (plainFor_of_name pn_0) hE (fun m => ef_rCh2U1 m x) ?_
  intro p e s m below meth c T0 C X0
  have C : Cx p s m meth c Z "java/lang/String" "charAt" jdk_42_method_56_code 2 (some .char) := C
  show Goes p e below _ T0 (mkF m 0 #[.val (.ref x), .val (.int 1)] [])
  refine g_aloadN C X0 d14_0 rfl rfl (g_virtualP (argsL := []) (st := []) C X0 (wd hw 75 rfl) (wd hw 76 rfl) (nf_of C (wd hw 78 rfl) rfl rfl) (wd hw 78 rfl) (wd hw 77 rfl) (by decide) EX (pay_of (W' := 0) (rIL1 l hw X0.ext x z_ SZ hz FC) C.hZ (wd hw 79 rfl) (wd hw 5 rfl) (by decide) (by decide)) pd_7 rfl rfl _ rfl (Nat.le_of_eq rfl) d14_1 (by decide) (by decide) (fun T95 X95 => ?_))
  refine g_if (h0_eq _) C X95 d14_4 (fun _ => ?_) (fun q => absurd (by decide) q)
  refine g_aloadN C X95 d14_16 rfl rfl (g_getfield (host := "") C X95 (Or.inl (wd hw 22 rfl)) Via.refl FV d14_17 (fun T96 X96 => ?_))
  refine g_iloadN C X96 d14_20 rfl (g_staticP (argsL := [(.ref t), (.int 1)]) (st := []) C X96 (wd hw 120 rfl) (wd hw 121 rfl) (wd hw 41 rfl) (wd hw 122 rfl) (by decide) (pay_of (W' := 0) (rUc21 l hw X96.ext t fm_ SF rf_ S1 S2 S3 kt a b VT ha hb) C.hZ (wd hw 122 rfl) (wd hw 41 rfl) (by decide) (by decide)) pd_6 rfl rfl _ rfl (Nat.le_of_eq rfl) d14_21 (by decide) (by decide) (fun T97 X97 => ?_))
  exact g_retN C X97 (by simp) d14_24 b (own_i2c hb) (by decide) (by decide) ⟨rfl, rfl⟩
theorem pn_4 : plainName "com/example/chapeau/chapeau/link/PackedStrings" = true := by first | (simp [plainName, overriddenIn]; done) | decide +kernel
theorem ef_rEc (m : MethodId) (ch : Int32) (ez : Addr) (pz : Int32) : entryFrame m #[(.int ch), (.ref ez), (.int pz)] 3 = mkF m 0 #[.val (.int ch), .val (.ref ez), .val (.int pz)] [] := by first | (simp [entryFrame, mkF, argsToLocals, Value.category]; done) | rfl
theorem d19_0 : Dc prog_74_method_11_code 0 (.iload_n 0) 1 1 := ⟨by decide +kernel, rfl⟩
theorem d19_1 : Dc prog_74_method_11_code 1 (.sipush 128) 3 4 := ⟨by decide +kernel, rfl⟩
theorem d19_4 : Dj prog_74_method_11_code 4 (.if_icmp .ge 14) 14 3 7 18 := ⟨by decide +kernel, rfl, by decide, by decide⟩
theorem d19_18 : Dc prog_74_method_11_code 18 (.iload_n 0) 1 19 := ⟨by decide +kernel, rfl⟩
theorem d19_19 : Dc prog_74_method_11_code 19 (.sipush 2048) 3 22 := ⟨by decide +kernel, rfl⟩
theorem d19_22 : Dj prog_74_method_11_code 22 (.if_icmp .ge 36) 36 3 25 58 := ⟨by decide +kernel, rfl, by decide, by decide⟩
theorem d19_58 : Dc prog_74_method_11_code 58 (.aload_n 1) 1 59 := ⟨by decide +kernel, rfl⟩
theorem d19_59 : Dc prog_74_method_11_code 59 (.iload_n 2) 1 60 := ⟨by decide +kernel, rfl⟩
theorem d19_60 : Dc prog_74_method_11_code 60 (.iinc 2 1) 3 63 := ⟨by decide +kernel, rfl⟩
theorem d19_63 : Dc prog_74_method_11_code 63 (.sipush 224) 3 66 := ⟨by decide +kernel, rfl⟩
theorem d19_66 : Dc prog_74_method_11_code 66 (.iload_n 0) 1 67 := ⟨by decide +kernel, rfl⟩
theorem d19_67 : Dc prog_74_method_11_code 67 (.bipush 12) 2 69 := ⟨by decide +kernel, rfl⟩
theorem d19_69 : Dc prog_74_method_11_code 69 (.ishr) 1 70 := ⟨by decide +kernel, rfl⟩
theorem d19_70 : Dc prog_74_method_11_code 70 (.ior) 1 71 := ⟨by decide +kernel, rfl⟩
theorem d19_71 : Dc prog_74_method_11_code 71 (.i2b) 1 72 := ⟨by decide +kernel, rfl⟩
theorem d19_72 : Dc prog_74_method_11_code 72 (.bastore) 1 73 := ⟨by decide +kernel, rfl⟩
theorem d19_73 : Dc prog_74_method_11_code 73 (.aload_n 1) 1 74 := ⟨by decide +kernel, rfl⟩
theorem d19_74 : Dc prog_74_method_11_code 74 (.iload_n 2) 1 75 := ⟨by decide +kernel, rfl⟩
theorem d19_75 : Dc prog_74_method_11_code 75 (.iinc 2 1) 3 78 := ⟨by decide +kernel, rfl⟩
theorem d19_78 : Dc prog_74_method_11_code 78 (.sipush 128) 3 81 := ⟨by decide +kernel, rfl⟩
theorem d19_81 : Dc prog_74_method_11_code 81 (.iload_n 0) 1 82 := ⟨by decide +kernel, rfl⟩
theorem d19_82 : Dc prog_74_method_11_code 82 (.bipush 6) 2 84 := ⟨by decide +kernel, rfl⟩
theorem d19_84 : Dc prog_74_method_11_code 84 (.ishr) 1 85 := ⟨by decide +kernel, rfl⟩
theorem d19_85 : Dc prog_74_method_11_code 85 (.bipush 63) 2 87 := ⟨by decide +kernel, rfl⟩
theorem d19_87 : Dc prog_74_method_11_code 87 (.iand) 1 88 := ⟨by decide +kernel, rfl⟩
theorem d19_88 : Dc prog_74_method_11_code 88 (.ior) 1 89 := ⟨by decide +kernel, rfl⟩
theorem d19_89 : Dc prog_74_method_11_code 89 (.i2b) 1 90 := ⟨by decide +kernel, rfl⟩
theorem d19_90 : Dc prog_74_method_11_code 90 (.bastore) 1 91 := ⟨by decide +kernel, rfl⟩
theorem d19_91 : Dc prog_74_method_11_code 91 (.aload_n 1) 1 92 := ⟨by decide +kernel, rfl⟩
theorem d19_92 : Dc prog_74_method_11_code 92 (.iload_n 2) 1 93 := ⟨by decide +kernel, rfl⟩
theorem d19_93 : Dc prog_74_method_11_code 93 (.iinc 2 1) 3 96 := ⟨by decide +kernel, rfl⟩
theorem d19_96 : Dc prog_74_method_11_code 96 (.sipush 128) 3 99 := ⟨by decide +kernel, rfl⟩
theorem d19_99 : Dc prog_74_method_11_code 99 (.iload_n 0) 1 100 := ⟨by decide +kernel, rfl⟩
theorem d19_100 : Dc prog_74_method_11_code 100 (.bipush 63) 2 102 := ⟨by decide +kernel, rfl⟩
theorem d19_102 : Dc prog_74_method_11_code 102 (.iand) 1 103 := ⟨by decide +kernel, rfl⟩
theorem d19_103 : Dc prog_74_method_11_code 103 (.ior) 1 104 := ⟨by decide +kernel, rfl⟩
theorem d19_104 : Dc prog_74_method_11_code 104 (.i2b) 1 105 := ⟨by decide +kernel, rfl⟩
theorem d19_105 : Dc prog_74_method_11_code 105 (.bastore) 1 106 := ⟨by decide +kernel, rfl⟩
theorem d19_106 : Dc prog_74_method_11_code 106 (.iload_n 2) 1 107 := ⟨by decide +kernel, rfl⟩
theorem d19_107 : Dc prog_74_method_11_code 107 (.ireturn) 1 108 := ⟨by decide +kernel, rfl⟩
theorem d19_25 : Dc prog_74_method_11_code 25 (.aload_n 1) 1 26 := ⟨by decide +kernel, rfl⟩
theorem d19_26 : Dc prog_74_method_11_code 26 (.iload_n 2) 1 27 := ⟨by decide +kernel, rfl⟩
theorem d19_27 : Dc prog_74_method_11_code 27 (.iinc 2 1) 3 30 := ⟨by decide +kernel, rfl⟩
theorem d19_30 : Dc prog_74_method_11_code 30 (.sipush 192) 3 33 := ⟨by decide +kernel, rfl⟩
theorem d19_33 : Dc prog_74_method_11_code 33 (.iload_n 0) 1 34 := ⟨by decide +kernel, rfl⟩
theorem d19_34 : Dc prog_74_method_11_code 34 (.bipush 6) 2 36 := ⟨by decide +kernel, rfl⟩
theorem d19_36 : Dc prog_74_method_11_code 36 (.ishr) 1 37 := ⟨by decide +kernel, rfl⟩
theorem d19_37 : Dc prog_74_method_11_code 37 (.ior) 1 38 := ⟨by decide +kernel, rfl⟩
theorem d19_38 : Dc prog_74_method_11_code 38 (.i2b) 1 39 := ⟨by decide +kernel, rfl⟩
theorem d19_39 : Dc prog_74_method_11_code 39 (.bastore) 1 40 := ⟨by decide +kernel, rfl⟩
theorem d19_40 : Dc prog_74_method_11_code 40 (.aload_n 1) 1 41 := ⟨by decide +kernel, rfl⟩
theorem d19_41 : Dc prog_74_method_11_code 41 (.iload_n 2) 1 42 := ⟨by decide +kernel, rfl⟩
theorem d19_42 : Dc prog_74_method_11_code 42 (.iinc 2 1) 3 45 := ⟨by decide +kernel, rfl⟩
theorem d19_45 : Dc prog_74_method_11_code 45 (.sipush 128) 3 48 := ⟨by decide +kernel, rfl⟩
theorem d19_48 : Dc prog_74_method_11_code 48 (.iload_n 0) 1 49 := ⟨by decide +kernel, rfl⟩
theorem d19_49 : Dc prog_74_method_11_code 49 (.bipush 63) 2 51 := ⟨by decide +kernel, rfl⟩
theorem d19_51 : Dc prog_74_method_11_code 51 (.iand) 1 52 := ⟨by decide +kernel, rfl⟩
theorem d19_52 : Dc prog_74_method_11_code 52 (.ior) 1 53 := ⟨by decide +kernel, rfl⟩
theorem d19_53 : Dc prog_74_method_11_code 53 (.i2b) 1 54 := ⟨by decide +kernel, rfl⟩
theorem d19_54 : Dc prog_74_method_11_code 54 (.bastore) 1 55 := ⟨by decide +kernel, rfl⟩
theorem d19_55 : Dj prog_74_method_11_code 55 (.goto 51) 51 3 58 106 := ⟨by decide +kernel, rfl, by decide, by decide⟩
theorem d19_7 : Dc prog_74_method_11_code 7 (.aload_n 1) 1 8 := ⟨by decide +kernel, rfl⟩
theorem d19_8 : Dc prog_74_method_11_code 8 (.iload_n 2) 1 9 := ⟨by decide +kernel, rfl⟩
theorem d19_9 : Dc prog_74_method_11_code 9 (.iinc 2 1) 3 12 := ⟨by decide +kernel, rfl⟩
theorem d19_12 : Dc prog_74_method_11_code 12 (.iload_n 0) 1 13 := ⟨by decide +kernel, rfl⟩
theorem d19_13 : Dc prog_74_method_11_code 13 (.i2b) 1 14 := ⟨by decide +kernel, rfl⟩
theorem d19_14 : Dc prog_74_method_11_code 14 (.bastore) 1 15 := ⟨by decide +kernel, rfl⟩
theorem d19_15 : Dj prog_74_method_11_code 15 (.goto 91) 91 3 18 106 := ⟨by decide +kernel, rfl, by decide, by decide⟩
theorem rEc (l : Launch) {Z : State} {a0 : Array Value} (hw : ∀ d ∈ tables_1, d.before a0 Z = true) {h : Heap} (hE : Ext Z.heap h) (ch : Int32) (ez : Addr) (pz : Int32) (ke : ClassId) (bs : List Int32) (hc : (¬ ch < 0 ∧ ¬ (65535 : Int32) < ch)) (hp : ¬ pz < 0 ∧ ¬ (6 : Int32) < pz) (hV : Arv Z h ez ke .byte 9 (bs.map Value.int) (.int (0 : Int32))) (hlen : bs.length = 9) (hn : Z.heap.size ≤ ez) :
    Con l (⟨"com/example/chapeau/chapeau/link/PackedStrings", "encode", "(C[BI)I"⟩ : MethodName) prog_74_method_11_code 3 (some .int) [] ({ frames := 0, cells := 0, slots := 0, locals := 0 } : Room) Z #[(.int ch), (.ref ez), (.int pz)] h (fun v' h' => v' = some (.int (encP ch pz)) ∧ Keep h h' [ez] ∧ Arv Z h' ez ke .byte 9 ((encL ch bs pz).map Value.int) (.int (0 : Int32))) := by
  refine con_of (plainFor_of_name pn_4) hE (fun m => ef_rEc m ch ez pz) ?_
  intro p e s m below meth c T0 C X0
  have C : Cx p s m meth c Z "com/example/chapeau/chapeau/link/PackedStrings" "encode" prog_74_method_11_code 3 (some .int) := C
  show Goes p e below _ T0 (mkF m 0 #[.val (.int ch), .val (.ref ez), .val (.int pz)] [])
  refine g_iloadN C X0 d19_0 rfl (g_sipush 128 C X0 d19_1 rfl (g_icmpn (hI_ge _ _) C X0 d19_4 (fun c4_98 => ?_) (fun c4_98 => ?_)))
  · refine g_iloadN C X0 d19_18 rfl (g_sipush 2048 C X0 d19_19 rfl (g_icmpn (hI_ge _ _) C X0 d19_22 (fun c22_99 => ?_) (fun c22_99 => ?_)))
    · refine g_aloadN C X0 d19_58 rfl rfl (g_iloadN C X0 d19_59 rfl (g_iinc 1 C X0 d19_60 rfl rfl (l' := #[.val (.int ch), .val (.ref ez), .val (.int (pz + (1 : Int32)))]) rfl (g_sipush 224 C X0 d19_63 rfl (g_iloadN C X0 d19_66 rfl (g_bipush 12 C X0 d19_67 rfl (g_ishr C X0 d19_69 (g_ior C X0 d19_70 (g_i2b C X0 d19_71 (g_bastore C X0 hV hn d19_72 (own_j0 hp).1 (own_j0 hp).2.1 (by simp only [List.length_map, List.length_set, hlen]; exact (own_j0 hp).2.2) (.int (e31 ch)) (own_nb _) (fun T100 h100 X100 W100 V100 => ?_))))))))))
      have V100_ez : Arv Z h100 ez ke .byte (9 : Int32) ((bs.set (pz).toNatClampNeg (e31 ch)).map Value.int) (.int 0) := own_mapset bs _ _ ▸ V100
      refine g_aloadN C X100 d19_73 rfl rfl (g_iloadN C X100 d19_74 rfl (g_iinc 1 C X100 d19_75 rfl rfl (l' := #[.val (.int ch), .val (.ref ez), .val (.int ((pz + (1 : Int32)) + (1 : Int32)))]) rfl (g_sipush 128 C X100 d19_78 rfl (g_iloadN C X100 d19_81 rfl (g_bipush 6 C X100 d19_82 rfl (g_ishr C X100 d19_84 (g_bipush 63 C X100 d19_85 rfl (g_iand C X100 d19_87 (g_ior C X100 d19_88 (g_i2b C X100 d19_89 (g_bastore C X100 V100_ez hn d19_90 (own_j1 hp).1 (own_j1 hp).2.1 (by simp only [List.length_map, List.length_set, hlen]; exact (own_j1 hp).2.2) (.int (e32 ch)) (own_nb _) (fun T101 h101 X101 W101 V101 => ?_))))))))))))
      have V101_ez : Arv Z h101 ez ke .byte (9 : Int32) (((bs.set (pz).toNatClampNeg (e31 ch)).set ((pz + (1 : Int32))).toNatClampNeg (e32 ch)).map Value.int) (.int 0) := own_mapset (bs.set (pz).toNatClampNeg (e31 ch)) _ _ ▸ V101
      refine g_aloadN C X101 d19_91 rfl rfl (g_iloadN C X101 d19_92 rfl (g_iinc 1 C X101 d19_93 rfl rfl (l' := #[.val (.int ch), .val (.ref ez), .val (.int (((pz + (1 : Int32)) + (1 : Int32)) + (1 : Int32)))]) rfl (g_sipush 128 C X101 d19_96 rfl (g_iloadN C X101 d19_99 rfl (g_bipush 63 C X101 d19_100 rfl (g_iand C X101 d19_102 (g_ior C X101 d19_103 (g_i2b C X101 d19_104 (g_bastore C X101 V101_ez hn d19_105 (own_j2 hp).1 (own_j2 hp).2.1 (by simp only [List.length_map, List.length_set, hlen]; exact (own_j2 hp).2.2) (.int (e22 ch)) (own_nb _) (fun T102 h102 X102 W102 V102 => ?_))))))))))
      have V102_ez : Arv Z h102 ez ke .byte (9 : Int32) ((((bs.set (pz).toNatClampNeg (e31 ch)).set ((pz + (1 : Int32))).toNatClampNeg (e32 ch)).set (((pz + (1 : Int32)) + (1 : Int32))).toNatClampNeg (e22 ch)).map Value.int) (.int 0) := own_mapset ((bs.set (pz).toNatClampNeg (e31 ch)).set ((pz + (1 : Int32))).toNatClampNeg (e32 ch)) _ _ ▸ V102
      refine g_iloadN C X102 d19_106 rfl ?_
      have kp103 := (Keep.refl h [ez]).wr W100 (Or.inl (by simp))
      have kp104 := kp103.wr W101 (Or.inl (by simp))
      have kp105 := kp104.wr W102 (Or.inl (by simp))
      exact g_retI C X102 d19_107 (by decide) (by decide) ⟨by unfold encP; rw [if_neg c4_98, if_neg c22_99], kp105, by unfold encL; rw [if_neg c4_98, if_neg c22_99]; exact V102_ez⟩
    · refine g_aloadN C X0 d19_25 rfl rfl (g_iloadN C X0 d19_26 rfl (g_iinc 1 C X0 d19_27 rfl rfl (l' := #[.val (.int ch), .val (.ref ez), .val (.int (pz + (1 : Int32)))]) rfl (g_sipush 192 C X0 d19_30 rfl (g_iloadN C X0 d19_33 rfl (g_bipush 6 C X0 d19_34 rfl (g_ishr C X0 d19_36 (g_ior C X0 d19_37 (g_i2b C X0 d19_38 (g_bastore C X0 hV hn d19_39 (own_j0 hp).1 (own_j0 hp).2.1 (by simp only [List.length_map, List.length_set, hlen]; exact (own_j0 hp).2.2) (.int (e21 ch)) (own_nb _) (fun T106 h106 X106 W106 V106 => ?_))))))))))
      have V106_ez : Arv Z h106 ez ke .byte (9 : Int32) ((bs.set (pz).toNatClampNeg (e21 ch)).map Value.int) (.int 0) := own_mapset bs _ _ ▸ V106
      refine g_aloadN C X106 d19_40 rfl rfl (g_iloadN C X106 d19_41 rfl (g_iinc 1 C X106 d19_42 rfl rfl (l' := #[.val (.int ch), .val (.ref ez), .val (.int ((pz + (1 : Int32)) + (1 : Int32)))]) rfl (g_sipush 128 C X106 d19_45 rfl (g_iloadN C X106 d19_48 rfl (g_bipush 63 C X106 d19_49 rfl (g_iand C X106 d19_51 (g_ior C X106 d19_52 (g_i2b C X106 d19_53 (g_bastore C X106 V106_ez hn d19_54 (own_j1 hp).1 (own_j1 hp).2.1 (by simp only [List.length_map, List.length_set, hlen]; exact (own_j1 hp).2.2) (.int (e22 ch)) (own_nb _) (fun T107 h107 X107 W107 V107 => ?_))))))))))
      have V107_ez : Arv Z h107 ez ke .byte (9 : Int32) (((bs.set (pz).toNatClampNeg (e21 ch)).set ((pz + (1 : Int32))).toNatClampNeg (e22 ch)).map Value.int) (.int 0) := own_mapset (bs.set (pz).toNatClampNeg (e21 ch)) _ _ ▸ V107
      refine g_goto C X107 d19_55 (g_iloadN C X107 d19_106 rfl ?_)
      have kp108 := (Keep.refl h [ez]).wr W106 (Or.inl (by simp))
      have kp109 := kp108.wr W107 (Or.inl (by simp))
      exact g_retI C X107 d19_107 (by decide) (by decide) ⟨by unfold encP; rw [if_neg c4_98, if_pos c22_99], kp109, by unfold encL; rw [if_neg c4_98, if_pos c22_99]; exact V107_ez⟩
  · refine g_aloadN C X0 d19_7 rfl rfl (g_iloadN C X0 d19_8 rfl (g_iinc 1 C X0 d19_9 rfl rfl (l' := #[.val (.int ch), .val (.ref ez), .val (.int (pz + (1 : Int32)))]) rfl (g_iloadN C X0 d19_12 rfl (g_i2b C X0 d19_13 (g_bastore C X0 hV hn d19_14 (own_j0 hp).1 (own_j0 hp).2.1 (by simp only [List.length_map, List.length_set, hlen]; exact (own_j0 hp).2.2) (.int (e1 ch)) (own_nb _) (fun T110 h110 X110 W110 V110 => ?_))))))
    have V110_ez : Arv Z h110 ez ke .byte (9 : Int32) ((bs.set (pz).toNatClampNeg (e1 ch)).map Value.int) (.int 0) := own_mapset bs _ _ ▸ V110
    refine g_goto C X110 d19_15 (g_iloadN C X110 d19_106 rfl ?_)
    have kp111 := (Keep.refl h [ez]).wr W110 (Or.inl (by simp))
    exact g_retI C X110 d19_107 (by decide) (by decide) ⟨by unfold encP; rw [if_pos c4_98], kp111, by unfold encL; rw [if_pos c4_98]; exact V110_ez⟩
theorem pn_5 : plainName "com/example/chapeau/chapeau/link/PackedStringsEncodePinLaw" = true := by first | (simp [plainName, overriddenIn]; done) | decide +kernel
theorem ef_rPut (m : MethodId) (ch : Int32) (ez : Addr) (pz : Int32) : entryFrame m #[(.int ch), (.ref ez), (.int pz)] 3 = mkF m 0 #[.val (.int ch), .val (.ref ez), .val (.int pz)] [] := by first | (simp [entryFrame, mkF, argsToLocals, Value.category]; done) | rfl
theorem d20_0 : Dc method_2_code 0 (.iload_n 0) 1 1 := ⟨by decide +kernel, rfl⟩
theorem d20_1 : Dc method_2_code 1 (.sipush 128) 3 4 := ⟨by decide +kernel, rfl⟩
theorem d20_4 : Dj method_2_code 4 (.if_icmp .ge 12) 12 3 7 16 := ⟨by decide +kernel, rfl, by decide, by decide⟩
theorem d20_16 : Dc method_2_code 16 (.iload_n 0) 1 17 := ⟨by decide +kernel, rfl⟩
theorem d20_17 : Dc method_2_code 17 (.sipush 2048) 3 20 := ⟨by decide +kernel, rfl⟩
theorem d20_20 : Dj method_2_code 20 (.if_icmp .ge 33) 33 3 23 53 := ⟨by decide +kernel, rfl, by decide, by decide⟩
theorem d20_53 : Dc method_2_code 53 (.aload_n 1) 1 54 := ⟨by decide +kernel, rfl⟩
theorem d20_54 : Dc method_2_code 54 (.iload_n 2) 1 55 := ⟨by decide +kernel, rfl⟩
theorem d20_55 : Dc method_2_code 55 (.sipush 224) 3 58 := ⟨by decide +kernel, rfl⟩
theorem d20_58 : Dc method_2_code 58 (.iload_n 0) 1 59 := ⟨by decide +kernel, rfl⟩
theorem d20_59 : Dc method_2_code 59 (.sipush 4096) 3 62 := ⟨by decide +kernel, rfl⟩
theorem d20_62 : Dc method_2_code 62 (.idiv) 1 63 := ⟨by decide +kernel, rfl⟩
theorem d20_63 : Dc method_2_code 63 (.iadd) 1 64 := ⟨by decide +kernel, rfl⟩
theorem d20_64 : Dc method_2_code 64 (.i2b) 1 65 := ⟨by decide +kernel, rfl⟩
theorem d20_65 : Dc method_2_code 65 (.bastore) 1 66 := ⟨by decide +kernel, rfl⟩
theorem d20_66 : Dc method_2_code 66 (.aload_n 1) 1 67 := ⟨by decide +kernel, rfl⟩
theorem d20_67 : Dc method_2_code 67 (.iload_n 2) 1 68 := ⟨by decide +kernel, rfl⟩
theorem d20_68 : Dc method_2_code 68 (.iconst 1) 1 69 := ⟨by decide +kernel, rfl⟩
theorem d20_69 : Dc method_2_code 69 (.iadd) 1 70 := ⟨by decide +kernel, rfl⟩
theorem d20_70 : Dc method_2_code 70 (.sipush 128) 3 73 := ⟨by decide +kernel, rfl⟩
theorem d20_73 : Dc method_2_code 73 (.iload_n 0) 1 74 := ⟨by decide +kernel, rfl⟩
theorem d20_74 : Dc method_2_code 74 (.bipush 64) 2 76 := ⟨by decide +kernel, rfl⟩
theorem d20_76 : Dc method_2_code 76 (.idiv) 1 77 := ⟨by decide +kernel, rfl⟩
theorem d20_77 : Dc method_2_code 77 (.bipush 64) 2 79 := ⟨by decide +kernel, rfl⟩
theorem d20_79 : Dc method_2_code 79 (.irem) 1 80 := ⟨by decide +kernel, rfl⟩
theorem d20_80 : Dc method_2_code 80 (.iadd) 1 81 := ⟨by decide +kernel, rfl⟩
theorem d20_81 : Dc method_2_code 81 (.i2b) 1 82 := ⟨by decide +kernel, rfl⟩
theorem d20_82 : Dc method_2_code 82 (.bastore) 1 83 := ⟨by decide +kernel, rfl⟩
theorem d20_83 : Dc method_2_code 83 (.aload_n 1) 1 84 := ⟨by decide +kernel, rfl⟩
theorem d20_84 : Dc method_2_code 84 (.iload_n 2) 1 85 := ⟨by decide +kernel, rfl⟩
theorem d20_85 : Dc method_2_code 85 (.iconst 2) 1 86 := ⟨by decide +kernel, rfl⟩
theorem d20_86 : Dc method_2_code 86 (.iadd) 1 87 := ⟨by decide +kernel, rfl⟩
theorem d20_87 : Dc method_2_code 87 (.sipush 128) 3 90 := ⟨by decide +kernel, rfl⟩
theorem d20_90 : Dc method_2_code 90 (.iload_n 0) 1 91 := ⟨by decide +kernel, rfl⟩
theorem d20_91 : Dc method_2_code 91 (.bipush 64) 2 93 := ⟨by decide +kernel, rfl⟩
theorem d20_93 : Dc method_2_code 93 (.irem) 1 94 := ⟨by decide +kernel, rfl⟩
theorem d20_94 : Dc method_2_code 94 (.iadd) 1 95 := ⟨by decide +kernel, rfl⟩
theorem d20_95 : Dc method_2_code 95 (.i2b) 1 96 := ⟨by decide +kernel, rfl⟩
theorem d20_96 : Dc method_2_code 96 (.bastore) 1 97 := ⟨by decide +kernel, rfl⟩
theorem d20_97 : Dc method_2_code 97 (.iload_n 2) 1 98 := ⟨by decide +kernel, rfl⟩
theorem d20_98 : Dc method_2_code 98 (.iconst 3) 1 99 := ⟨by decide +kernel, rfl⟩
theorem d20_99 : Dc method_2_code 99 (.iadd) 1 100 := ⟨by decide +kernel, rfl⟩
theorem d20_100 : Dc method_2_code 100 (.ireturn) 1 101 := ⟨by decide +kernel, rfl⟩
theorem d20_23 : Dc method_2_code 23 (.aload_n 1) 1 24 := ⟨by decide +kernel, rfl⟩
theorem d20_24 : Dc method_2_code 24 (.iload_n 2) 1 25 := ⟨by decide +kernel, rfl⟩
theorem d20_25 : Dc method_2_code 25 (.sipush 192) 3 28 := ⟨by decide +kernel, rfl⟩
theorem d20_28 : Dc method_2_code 28 (.iload_n 0) 1 29 := ⟨by decide +kernel, rfl⟩
theorem d20_29 : Dc method_2_code 29 (.bipush 64) 2 31 := ⟨by decide +kernel, rfl⟩
theorem d20_31 : Dc method_2_code 31 (.idiv) 1 32 := ⟨by decide +kernel, rfl⟩
theorem d20_32 : Dc method_2_code 32 (.iadd) 1 33 := ⟨by decide +kernel, rfl⟩
theorem d20_33 : Dc method_2_code 33 (.i2b) 1 34 := ⟨by decide +kernel, rfl⟩
theorem d20_34 : Dc method_2_code 34 (.bastore) 1 35 := ⟨by decide +kernel, rfl⟩
theorem d20_35 : Dc method_2_code 35 (.aload_n 1) 1 36 := ⟨by decide +kernel, rfl⟩
theorem d20_36 : Dc method_2_code 36 (.iload_n 2) 1 37 := ⟨by decide +kernel, rfl⟩
theorem d20_37 : Dc method_2_code 37 (.iconst 1) 1 38 := ⟨by decide +kernel, rfl⟩
theorem d20_38 : Dc method_2_code 38 (.iadd) 1 39 := ⟨by decide +kernel, rfl⟩
theorem d20_39 : Dc method_2_code 39 (.sipush 128) 3 42 := ⟨by decide +kernel, rfl⟩
theorem d20_42 : Dc method_2_code 42 (.iload_n 0) 1 43 := ⟨by decide +kernel, rfl⟩
theorem d20_43 : Dc method_2_code 43 (.bipush 64) 2 45 := ⟨by decide +kernel, rfl⟩
theorem d20_45 : Dc method_2_code 45 (.irem) 1 46 := ⟨by decide +kernel, rfl⟩
theorem d20_46 : Dc method_2_code 46 (.iadd) 1 47 := ⟨by decide +kernel, rfl⟩
theorem d20_47 : Dc method_2_code 47 (.i2b) 1 48 := ⟨by decide +kernel, rfl⟩
theorem d20_48 : Dc method_2_code 48 (.bastore) 1 49 := ⟨by decide +kernel, rfl⟩
theorem d20_49 : Dc method_2_code 49 (.iload_n 2) 1 50 := ⟨by decide +kernel, rfl⟩
theorem d20_50 : Dc method_2_code 50 (.iconst 2) 1 51 := ⟨by decide +kernel, rfl⟩
theorem d20_51 : Dc method_2_code 51 (.iadd) 1 52 := ⟨by decide +kernel, rfl⟩
theorem d20_52 : Dc method_2_code 52 (.ireturn) 1 53 := ⟨by decide +kernel, rfl⟩
theorem d20_7 : Dc method_2_code 7 (.aload_n 1) 1 8 := ⟨by decide +kernel, rfl⟩
theorem d20_8 : Dc method_2_code 8 (.iload_n 2) 1 9 := ⟨by decide +kernel, rfl⟩
theorem d20_9 : Dc method_2_code 9 (.iload_n 0) 1 10 := ⟨by decide +kernel, rfl⟩
theorem d20_10 : Dc method_2_code 10 (.i2b) 1 11 := ⟨by decide +kernel, rfl⟩
theorem d20_11 : Dc method_2_code 11 (.bastore) 1 12 := ⟨by decide +kernel, rfl⟩
theorem d20_12 : Dc method_2_code 12 (.iload_n 2) 1 13 := ⟨by decide +kernel, rfl⟩
theorem d20_13 : Dc method_2_code 13 (.iconst 1) 1 14 := ⟨by decide +kernel, rfl⟩
theorem d20_14 : Dc method_2_code 14 (.iadd) 1 15 := ⟨by decide +kernel, rfl⟩
theorem d20_15 : Dc method_2_code 15 (.ireturn) 1 16 := ⟨by decide +kernel, rfl⟩
theorem rPut (l : Launch) {Z : State} {a0 : Array Value} (hw : ∀ d ∈ tables_1, d.before a0 Z = true) {h : Heap} (hE : Ext Z.heap h) (ch : Int32) (ez : Addr) (pz : Int32) (ke : ClassId) (bs : List Int32) (hc : (¬ ch < 0 ∧ ¬ (65535 : Int32) < ch)) (hp : ¬ pz < 0 ∧ ¬ (6 : Int32) < pz) (hV : Arv Z h ez ke .byte 9 (bs.map Value.int) (.int (0 : Int32))) (hlen : bs.length = 9) (hn : Z.heap.size ≤ ez) :
    Con l (⟨"com/example/chapeau/chapeau/link/PackedStringsEncodePinLaw", "put", "(I[BI)I"⟩ : MethodName) method_2_code 3 (some .int) [] ({ frames := 0, cells := 0, slots := 0, locals := 0 } : Room) Z #[(.int ch), (.ref ez), (.int pz)] h (fun v' h' => v' = some (.int (encP ch pz)) ∧ Keep h h' [ez] ∧ Arv Z h' ez ke .byte 9 ((encL ch bs pz).map Value.int) (.int (0 : Int32))) := by
  refine con_of (plainFor_of_name pn_5) hE (fun m => ef_rPut m ch ez pz) ?_
  intro p e s m below meth c T0 C X0
  have C : Cx p s m meth c Z "com/example/chapeau/chapeau/link/PackedStringsEncodePinLaw" "put" method_2_code 3 (some .int) := C
  show Goes p e below _ T0 (mkF m 0 #[.val (.int ch), .val (.ref ez), .val (.int pz)] [])
  refine g_iloadN C X0 d20_0 rfl (g_sipush 128 C X0 d20_1 rfl (g_icmpn (hI_ge _ _) C X0 d20_4 (fun c4_112 => ?_) (fun c4_112 => ?_)))
  · refine g_iloadN C X0 d20_16 rfl (g_sipush 2048 C X0 d20_17 rfl (g_icmpn (hI_ge _ _) C X0 d20_20 (fun c20_113 => ?_) (fun c20_113 => ?_)))
    · refine g_aloadN C X0 d20_53 rfl rfl (g_iloadN C X0 d20_54 rfl (g_sipush 224 C X0 d20_55 rfl (g_iloadN C X0 d20_58 rfl (g_sipush 4096 C X0 d20_59 rfl (g_idiv C X0 d20_62 (by decide) (g_iadd C X0 d20_63 (g_i2b C X0 d20_64 (g_bastore C X0 hV hn d20_65 (own_j0 hp).1 (own_j0 hp).2.1 (by simp only [List.length_map, List.length_set, hlen]; exact (own_j0 hp).2.2) (.int (e31 ch)) (own_q31 hc) (fun T114 h114 X114 W114 V114 => ?_)))))))))
      have V114_ez : Arv Z h114 ez ke .byte (9 : Int32) ((bs.set (pz).toNatClampNeg (e31 ch)).map Value.int) (.int 0) := own_mapset bs _ _ ▸ V114
      refine g_aloadN C X114 d20_66 rfl rfl (g_iloadN C X114 d20_67 rfl (g_iconst 1 C X114 d20_68 rfl (g_iadd C X114 d20_69 (g_sipush 128 C X114 d20_70 rfl (g_iloadN C X114 d20_73 rfl (g_bipush 64 C X114 d20_74 rfl (g_idiv C X114 d20_76 (by decide) (g_bipush 64 C X114 d20_77 rfl (g_irem C X114 d20_79 (by decide) (g_iadd C X114 d20_80 (g_i2b C X114 d20_81 ?_)))))))))))
      refine g_bastore C X114 V114_ez hn d20_82 (own_j1 hp).1 (own_j1 hp).2.1 (by simp only [List.length_map, List.length_set, hlen]; exact (own_j1 hp).2.2) (.int (e32 ch)) (own_q32 hc) (fun T115 h115 X115 W115 V115 => ?_)
      have V115_ez : Arv Z h115 ez ke .byte (9 : Int32) (((bs.set (pz).toNatClampNeg (e31 ch)).set ((pz + (1 : Int32))).toNatClampNeg (e32 ch)).map Value.int) (.int 0) := own_mapset (bs.set (pz).toNatClampNeg (e31 ch)) _ _ ▸ V115
      refine g_aloadN C X115 d20_83 rfl rfl (g_iloadN C X115 d20_84 rfl (g_iconst 2 C X115 d20_85 rfl (g_iadd C X115 d20_86 (g_sipush 128 C X115 d20_87 rfl (g_iloadN C X115 d20_90 rfl (g_bipush 64 C X115 d20_91 rfl (g_irem C X115 d20_93 (by decide) (g_iadd C X115 d20_94 (g_i2b C X115 d20_95 (g_bastore C X115 V115_ez hn d20_96 (own_j2' hp).1 (own_j2' hp).2.1 (by simp only [List.length_map, List.length_set, hlen]; exact (own_j2' hp).2.2) (.int (e22 ch)) (own_q22 hc) (fun T116 h116 X116 W116 V116 => ?_)))))))))))
      have V116_ez : Arv Z h116 ez ke .byte (9 : Int32) ((((bs.set (pz).toNatClampNeg (e31 ch)).set ((pz + (1 : Int32))).toNatClampNeg (e32 ch)).set ((pz + (2 : Int32))).toNatClampNeg (e22 ch)).map Value.int) (.int 0) := own_mapset ((bs.set (pz).toNatClampNeg (e31 ch)).set ((pz + (1 : Int32))).toNatClampNeg (e32 ch)) _ _ ▸ V116
      refine g_iloadN C X116 d20_97 rfl (g_iconst 3 C X116 d20_98 rfl (g_iadd C X116 d20_99 ?_))
      have kp117 := (Keep.refl h [ez]).wr W114 (Or.inl (by simp))
      have kp118 := kp117.wr W115 (Or.inl (by simp))
      have kp119 := kp118.wr W116 (Or.inl (by simp))
      exact g_retI C X116 d20_100 (by decide) (by decide) ⟨by unfold encP; rw [if_neg c4_112, if_neg c20_113, own_p3], kp119, by unfold encL; rw [if_neg c4_112, if_neg c20_113]; rw [← own_p2]; exact V116_ez⟩
    · refine g_aloadN C X0 d20_23 rfl rfl (g_iloadN C X0 d20_24 rfl (g_sipush 192 C X0 d20_25 rfl (g_iloadN C X0 d20_28 rfl (g_bipush 64 C X0 d20_29 rfl (g_idiv C X0 d20_31 (by decide) (g_iadd C X0 d20_32 (g_i2b C X0 d20_33 (g_bastore C X0 hV hn d20_34 (own_j0 hp).1 (own_j0 hp).2.1 (by simp only [List.length_map, List.length_set, hlen]; exact (own_j0 hp).2.2) (.int (e21 ch)) (own_q21 hc c4_112 c20_113) (fun T120 h120 X120 W120 V120 => ?_)))))))))
      have V120_ez : Arv Z h120 ez ke .byte (9 : Int32) ((bs.set (pz).toNatClampNeg (e21 ch)).map Value.int) (.int 0) := own_mapset bs _ _ ▸ V120
      refine g_aloadN C X120 d20_35 rfl rfl (g_iloadN C X120 d20_36 rfl (g_iconst 1 C X120 d20_37 rfl (g_iadd C X120 d20_38 (g_sipush 128 C X120 d20_39 rfl (g_iloadN C X120 d20_42 rfl (g_bipush 64 C X120 d20_43 rfl (g_irem C X120 d20_45 (by decide) (g_iadd C X120 d20_46 (g_i2b C X120 d20_47 (g_bastore C X120 V120_ez hn d20_48 (own_j1 hp).1 (own_j1 hp).2.1 (by simp only [List.length_map, List.length_set, hlen]; exact (own_j1 hp).2.2) (.int (e22 ch)) (own_q22 hc) (fun T121 h121 X121 W121 V121 => ?_)))))))))))
      have V121_ez : Arv Z h121 ez ke .byte (9 : Int32) (((bs.set (pz).toNatClampNeg (e21 ch)).set ((pz + (1 : Int32))).toNatClampNeg (e22 ch)).map Value.int) (.int 0) := own_mapset (bs.set (pz).toNatClampNeg (e21 ch)) _ _ ▸ V121
      refine g_iloadN C X121 d20_49 rfl (g_iconst 2 C X121 d20_50 rfl (g_iadd C X121 d20_51 ?_))
      have kp122 := (Keep.refl h [ez]).wr W120 (Or.inl (by simp))
      have kp123 := kp122.wr W121 (Or.inl (by simp))
      exact g_retI C X121 d20_52 (by decide) (by decide) ⟨by unfold encP; rw [if_neg c4_112, if_pos c20_113, own_p2], kp123, by unfold encL; rw [if_neg c4_112, if_pos c20_113]; exact V121_ez⟩
  · refine g_aloadN C X0 d20_7 rfl rfl (g_iloadN C X0 d20_8 rfl (g_iloadN C X0 d20_9 rfl (g_i2b C X0 d20_10 (g_bastore C X0 hV hn d20_11 (own_j0 hp).1 (own_j0 hp).2.1 (by simp only [List.length_map, List.length_set, hlen]; exact (own_j0 hp).2.2) (.int (e1 ch)) (own_nb _) (fun T124 h124 X124 W124 V124 => ?_)))))
    have V124_ez : Arv Z h124 ez ke .byte (9 : Int32) ((bs.set (pz).toNatClampNeg (e1 ch)).map Value.int) (.int 0) := own_mapset bs _ _ ▸ V124
    refine g_iloadN C X124 d20_12 rfl (g_iconst 1 C X124 d20_13 rfl (g_iadd C X124 d20_14 ?_))
    have kp125 := (Keep.refl h [ez]).wr W124 (Or.inl (by simp))
    exact g_retI C X124 d20_15 (by decide) (by decide) ⟨by unfold encP; rw [if_pos c4_112], kp125, by unfold encL; rw [if_pos c4_112]; exact V124_ez⟩
theorem ef_rEs0L (m : MethodId) (x : Addr) (ez : Addr) (pz : Int32) : entryFrame m #[(.ref x), (.ref ez), (.int pz)] 4 = mkF m 0 #[.val (.ref x), .val (.ref ez), .val (.int pz), .unset] [] := by first | (simp [entryFrame, mkF, argsToLocals, Value.category]; done) | rfl
theorem d11_0 : Dc prog_74_method_10_code 0 (.iconst 0) 1 1 := ⟨by decide +kernel, rfl⟩
theorem d11_1 : Dc prog_74_method_10_code 1 (.istore_n 3) 1 2 := ⟨by decide +kernel, rfl⟩
theorem d11_2 : Dc prog_74_method_10_code 2 (.iload_n 3) 1 3 := ⟨by decide +kernel, rfl⟩
theorem d11_3 : Dc prog_74_method_10_code 3 (.aload_n 0) 1 4 := ⟨by decide +kernel, rfl⟩
theorem d11_4 : Dc prog_74_method_10_code 4 (.invokeinterface 78 1) 5 9 := ⟨by decide +kernel, rfl⟩
theorem pd_8 : parseMethodDescriptor "()I" = some ⟨[], some .int⟩ := by decide +kernel
theorem d11_9 : Dj prog_74_method_10_code 9 (.if_icmp .ge 22) 22 3 12 31 := ⟨by decide +kernel, rfl, by decide, by decide⟩
theorem d11_31 : Dc prog_74_method_10_code 31 (.iload_n 2) 1 32 := ⟨by decide +kernel, rfl⟩
theorem d11_32 : Dc prog_74_method_10_code 32 (.ireturn) 1 33 := ⟨by decide +kernel, rfl⟩
theorem rEs0L (l : Launch) {Z : State} {a0 : Array Value} (hw : ∀ d ∈ tables_1, d.before a0 Z = true) {h : Heap} (hE : Ext Z.heap h) (x : Addr) (ez : Addr) (pz : Int32) (z_ : Int32) (SZ : Sta Z Z.heap "java/lang/String" "COMPACT_STRINGS" "Z" (.int z_)) (hz : ¬ z_ = 0) (fm_ : Value) (SF : Sta Z Z.heap "jdk/internal/util/Preconditions" "SIOOBE_FORMATTER" "Ljava/util/function/BiFunction;" fm_) (rf_ : fm_.isRef = true) (S1 : Sta Z Z.heap "java/lang/StringUTF16" "$assertionsDisabled" "Z" (.int (1 : Int32))) (S2 : Sta Z Z.heap "java/lang/StringUTF16" "HI_BYTE_SHIFT" "I" (.int (0 : Int32))) (S3 : Sta Z Z.heap "java/lang/StringUTF16" "LO_BYTE_SHIFT" "I" (.int (8 : Int32))) (t : Addr) (kt : ClassId) (a b : Int32) (ke : ClassId) (bs : List Int32) (EX : Exa Z h x "java/lang/String") (FC : Fld Z h x "java/lang/String" "coder" "B" (.int (0 : Int32))) (FV : Fld Z h x "java/lang/String" "value" "[B" (.ref t)) (VT : Arv Z h t kt .byte 0 [] (.int (0 : Int32))) (ha : (¬ a < 0 ∧ ¬ (65535 : Int32) < a)) (hb : (¬ b < 0 ∧ ¬ (65535 : Int32) < b))  (hp : ¬ pz < 0 ∧ ¬ (3 : Int32) < pz) (hV : Arv Z h ez ke .byte 9 (bs.map Value.int) (.int (0 : Int32))) (hlen : bs.length = 9) (hn : Z.heap.size ≤ ez) (ne1 : ez ≠ x) (ne2 : ez ≠ t) :
    Con l (⟨"com/example/chapeau/chapeau/link/PackedStrings", "encode", "(Ljava/lang/CharSequence;[BI)I"⟩ : MethodName) prog_74_method_10_code 4 (some .int) [] ({ frames := 5, cells := 0, slots := 0, locals := 100 } : Room) Z #[(.ref x), (.ref ez), (.int pz)] h (fun v' h' => v' = some (.int pz) ∧ Keep h h' [ez] ∧ Arv Z h' ez ke .byte 9 (bs.map Value.int) (.int (0 : Int32))) := by
  refine con_of (plainFor_of_name pn_4) hE (fun m => ef_rEs0L m x ez pz) ?_
  intro p e s m below meth c T0 C X0
  have C : Cx p s m meth c Z "com/example/chapeau/chapeau/link/PackedStrings" "encode" prog_74_method_10_code 4 (some .int) := C
  show Goes p e below _ T0 (mkF m 0 #[.val (.ref x), .val (.ref ez), .val (.int pz), .unset] [])
  refine g_iconst 0 C X0 d11_0 rfl (g_istoreN C X0 d11_1 (l' := #[.val (.ref x), .val (.ref ez), .val (.int pz), .val (.int 0)]) rfl (g_iloadN C X0 d11_2 rfl (g_aloadN C X0 d11_3 rfl rfl (g_interfaceP (argsL := []) (st := [(.int 0)]) C X0 (wd hw 53 rfl) (wd hw 54 rfl) (mvT C.hZ (wd hw 55 rfl)) (wd hw 56 rfl) (wd hw 57 rfl) (wd hw 58 rfl) (mvT C.hZ (wd hw 59 rfl)) (wd hw 60 rfl) (by decide) EX (pay_of (W' := 1) (rLn0L l hw X0.ext x z_ SZ hz t kt a b EX FC FV VT ha hb) C.hZ (wd hw 61 rfl) (wd hw 5 rfl) (by decide) (by decide)) pd_8 rfl rfl _ rfl (Nat.le_of_eq rfl) d11_4 (by decide) (by decide) (fun T126 X126 => ?_)))))
  refine g_icmpn (hI_ge _ _) C X126 d11_9 (fun _ => ?_) (fun q => absurd q (by decide))
  refine g_iloadN C X126 d11_31 rfl ?_
  exact g_retI C X126 d11_32 (by decide) (by decide) ⟨rfl, (Keep.refl h [ez]), hV⟩
theorem ef_rEs1L (m : MethodId) (x : Addr) (ez : Addr) (pz : Int32) : entryFrame m #[(.ref x), (.ref ez), (.int pz)] 4 = mkF m 0 #[.val (.ref x), .val (.ref ez), .val (.int pz), .unset] [] := by first | (simp [entryFrame, mkF, argsToLocals, Value.category]; done) | rfl
theorem d11_12 : Dc prog_74_method_10_code 12 (.aload_n 0) 1 13 := ⟨by decide +kernel, rfl⟩
theorem d11_13 : Dc prog_74_method_10_code 13 (.iload_n 3) 1 14 := ⟨by decide +kernel, rfl⟩
theorem d11_14 : Dc prog_74_method_10_code 14 (.invokeinterface 82 2) 5 19 := ⟨by decide +kernel, rfl⟩
theorem pd_9 : parseMethodDescriptor "(I)C" = some ⟨[.int], some .char⟩ := by decide +kernel
theorem d11_19 : Dc prog_74_method_10_code 19 (.aload_n 1) 1 20 := ⟨by decide +kernel, rfl⟩
theorem d11_20 : Dc prog_74_method_10_code 20 (.iload_n 2) 1 21 := ⟨by decide +kernel, rfl⟩
theorem d11_21 : Dc prog_74_method_10_code 21 (.invokestatic 86) 3 24 := ⟨by decide +kernel, rfl⟩
theorem pd_10 : parseMethodDescriptor "(C[BI)I" = some ⟨[.char, (.array .byte), .int], some .int⟩ := by decide +kernel
theorem d11_24 : Dc prog_74_method_10_code 24 (.istore_n 2) 1 25 := ⟨by decide +kernel, rfl⟩
theorem d11_25 : Dc prog_74_method_10_code 25 (.iinc 3 1) 3 28 := ⟨by decide +kernel, rfl⟩
theorem d11_28 : Dj prog_74_method_10_code 28 (.goto (-26)) (-26) 3 31 2 := ⟨by decide +kernel, rfl, by decide, by decide⟩
theorem rEs1L (l : Launch) {Z : State} {a0 : Array Value} (hw : ∀ d ∈ tables_1, d.before a0 Z = true) {h : Heap} (hE : Ext Z.heap h) (x : Addr) (ez : Addr) (pz : Int32) (z_ : Int32) (SZ : Sta Z Z.heap "java/lang/String" "COMPACT_STRINGS" "Z" (.int z_)) (hz : ¬ z_ = 0) (fm_ : Value) (SF : Sta Z Z.heap "jdk/internal/util/Preconditions" "SIOOBE_FORMATTER" "Ljava/util/function/BiFunction;" fm_) (rf_ : fm_.isRef = true) (S1 : Sta Z Z.heap "java/lang/StringUTF16" "$assertionsDisabled" "Z" (.int (1 : Int32))) (S2 : Sta Z Z.heap "java/lang/StringUTF16" "HI_BYTE_SHIFT" "I" (.int (0 : Int32))) (S3 : Sta Z Z.heap "java/lang/StringUTF16" "LO_BYTE_SHIFT" "I" (.int (8 : Int32))) (t : Addr) (kt : ClassId) (a b : Int32) (ke : ClassId) (bs : List Int32) (EX : Exa Z h x "java/lang/String") (FC : Fld Z h x "java/lang/String" "coder" "B" (.int (0 : Int32))) (FV : Fld Z h x "java/lang/String" "value" "[B" (.ref t)) (VT : Arv Z h t kt .byte 1 [(.int (a.toInt8.toInt32))] (.int (0 : Int32))) (ha : (¬ a < 0 ∧ ¬ (65535 : Int32) < a)) (hb : (¬ b < 0 ∧ ¬ (65535 : Int32) < b)) (la : ¬ (255 : Int32) < a) (hp : ¬ pz < 0 ∧ ¬ (3 : Int32) < pz) (hV : Arv Z h ez ke .byte 9 (bs.map Value.int) (.int (0 : Int32))) (hlen : bs.length = 9) (hn : Z.heap.size ≤ ez) (ne1 : ez ≠ x) (ne2 : ez ≠ t) :
    Con l (⟨"com/example/chapeau/chapeau/link/PackedStrings", "encode", "(Ljava/lang/CharSequence;[BI)I"⟩ : MethodName) prog_74_method_10_code 4 (some .int) [] ({ frames := 5, cells := 0, slots := 0, locals := 100 } : Room) Z #[(.ref x), (.ref ez), (.int pz)] h (fun v' h' => v' = some (.int (encP a pz)) ∧ Keep h h' [ez] ∧ Arv Z h' ez ke .byte 9 ((encL a bs pz).map Value.int) (.int (0 : Int32))) := by
  refine con_of (plainFor_of_name pn_4) hE (fun m => ef_rEs1L m x ez pz) ?_
  intro p e s m below meth c T0 C X0
  have C : Cx p s m meth c Z "com/example/chapeau/chapeau/link/PackedStrings" "encode" prog_74_method_10_code 4 (some .int) := C
  show Goes p e below _ T0 (mkF m 0 #[.val (.ref x), .val (.ref ez), .val (.int pz), .unset] [])
  refine g_iconst 0 C X0 d11_0 rfl (g_istoreN C X0 d11_1 (l' := #[.val (.ref x), .val (.ref ez), .val (.int pz), .val (.int 0)]) rfl (g_iloadN C X0 d11_2 rfl (g_aloadN C X0 d11_3 rfl rfl (g_interfaceP (argsL := []) (st := [(.int 0)]) C X0 (wd hw 53 rfl) (wd hw 54 rfl) (mvT C.hZ (wd hw 55 rfl)) (wd hw 56 rfl) (wd hw 57 rfl) (wd hw 58 rfl) (mvT C.hZ (wd hw 59 rfl)) (wd hw 60 rfl) (by decide) EX (pay_of (W' := 1) (rLn1L l hw X0.ext x z_ SZ hz t kt a b EX FC FV VT ha hb la) C.hZ (wd hw 61 rfl) (wd hw 5 rfl) (by decide) (by decide)) pd_8 rfl rfl _ rfl (Nat.le_of_eq rfl) d11_4 (by decide) (by decide) (fun T127 X127 => ?_)))))
  refine g_icmpn (hI_ge _ _) C X127 d11_9 (fun q => absurd (by decide) q) (fun _ => ?_)
  refine g_aloadN C X127 d11_12 rfl rfl (g_iloadN C X127 d11_13 rfl (g_interfaceP (argsL := [(.int 0)]) (st := []) C X127 (wd hw 67 rfl) (wd hw 68 rfl) (mvT C.hZ (wd hw 69 rfl)) (wd hw 70 rfl) (wd hw 71 rfl) (wd hw 72 rfl) (mvT C.hZ (wd hw 73 rfl)) (wd hw 60 rfl) (by decide) EX (pay_of (W' := 0) (rCh1L0 l hw X127.ext x z_ SZ hz fm_ SF rf_ S1 S2 S3 t kt a b EX FC FV VT ha hb la) C.hZ (wd hw 74 rfl) (wd hw 5 rfl) (by decide) (by decide)) pd_9 rfl rfl _ rfl (Nat.le_of_eq rfl) d11_14 (by decide) (by decide) (fun T128 X128 => ?_)))
  refine g_aloadN C X128 d11_19 rfl rfl (g_iloadN C X128 d11_20 rfl (g_static (argsL := [(.int a), (.ref ez), (.int pz)]) (st := []) C X128 (wd hw 91 rfl) (wd hw 92 rfl) (wd hw 51 rfl) (wd hw 93 rfl) (by decide) (pay_of (W' := 0) (rEc l hw X128.ext a ez pz ke bs ha (own_w hp) hV hlen hn) C.hZ (wd hw 93 rfl) (wd hw 51 rfl) (by decide) (by decide)) pd_10 rfl rfl _ rfl (Nat.le_of_eq rfl) d11_21 (by decide) (by decide) (fun T129 h129 v129 q129 X129 => ?_)))
  obtain ⟨rfl, K129, V129⟩ := q129
  show Goes p e below _ T129 (mkF m 24 #[.val (.ref x), .val (.ref ez), .val (.int pz), .val (.int 0)] [(.int (encP a pz))])
  refine g_istoreN C X129 d11_24 (l' := #[.val (.ref x), .val (.ref ez), .val (.int (encP a pz)), .val (.int 0)]) rfl (g_iinc 1 C X129 d11_25 rfl rfl (l' := #[.val (.ref x), .val (.ref ez), .val (.int (encP a pz)), .val (.int 1)]) rfl (g_goto C X129 d11_28 (g_iloadN C X129 d11_2 rfl (g_aloadN C X129 d11_3 rfl rfl ?_))))
  have f130 := (Exa.keep EX K129)
  have f131 := (Fld.keep FC K129 (ninS (Ne.symm ne1) nin0))
  have f132 := (Fld.keep FV K129 (ninS (Ne.symm ne1) nin0))
  have f133 := (Arv.keep VT K129 (ninS (Ne.symm ne2) nin0))
  refine g_interfaceP (argsL := []) (st := [(.int 1)]) C X129 (wd hw 53 rfl) (wd hw 54 rfl) (mvT C.hZ (wd hw 55 rfl)) (wd hw 56 rfl) (wd hw 57 rfl) (wd hw 58 rfl) (mvT C.hZ (wd hw 59 rfl)) (wd hw 60 rfl) (by decide) f130 (pay_of (W' := 1) (rLn1L l hw X129.ext x z_ SZ hz t kt a b f130 f131 f132 f133 ha hb la) C.hZ (wd hw 61 rfl) (wd hw 5 rfl) (by decide) (by decide)) pd_8 rfl rfl _ rfl (Nat.le_of_eq rfl) d11_4 (by decide) (by decide) (fun T134 X134 => ?_)
  refine g_icmpn (hI_ge _ _) C X134 d11_9 (fun _ => ?_) (fun q => absurd q (by decide))
  refine g_iloadN C X134 d11_31 rfl ?_
  have kp135 := (Keep.refl h [ez]).trans K129 (allS (Or.inl (by simp)) all0)
  exact g_retI C X134 d11_32 (by decide) (by decide) ⟨rfl, kp135, V129⟩
theorem ef_rEs1U (m : MethodId) (x : Addr) (ez : Addr) (pz : Int32) : entryFrame m #[(.ref x), (.ref ez), (.int pz)] 4 = mkF m 0 #[.val (.ref x), .val (.ref ez), .val (.int pz), .unset] [] := by first | (simp [entryFrame, mkF, argsToLocals, Value.category]; done) | rfl
theorem rEs1U (l : Launch) {Z : State} {a0 : Array Value} (hw : ∀ d ∈ tables_1, d.before a0 Z = true) {h : Heap} (hE : Ext Z.heap h) (x : Addr) (ez : Addr) (pz : Int32) (z_ : Int32) (SZ : Sta Z Z.heap "java/lang/String" "COMPACT_STRINGS" "Z" (.int z_)) (hz : ¬ z_ = 0) (fm_ : Value) (SF : Sta Z Z.heap "jdk/internal/util/Preconditions" "SIOOBE_FORMATTER" "Ljava/util/function/BiFunction;" fm_) (rf_ : fm_.isRef = true) (S1 : Sta Z Z.heap "java/lang/StringUTF16" "$assertionsDisabled" "Z" (.int (1 : Int32))) (S2 : Sta Z Z.heap "java/lang/StringUTF16" "HI_BYTE_SHIFT" "I" (.int (0 : Int32))) (S3 : Sta Z Z.heap "java/lang/StringUTF16" "LO_BYTE_SHIFT" "I" (.int (8 : Int32))) (t : Addr) (kt : ClassId) (a b : Int32) (ke : ClassId) (bs : List Int32) (EX : Exa Z h x "java/lang/String") (FC : Fld Z h x "java/lang/String" "coder" "B" (.int (1 : Int32))) (FV : Fld Z h x "java/lang/String" "value" "[B" (.ref t)) (VT : Arv Z h t kt .byte 2 [(.int ((a >>> ((0 : Int32) &&& 31)).toInt8.toInt32)), (.int ((a >>> ((8 : Int32) &&& 31)).toInt8.toInt32))] (.int (0 : Int32))) (ha : (¬ a < 0 ∧ ¬ (65535 : Int32) < a)) (hb : (¬ b < 0 ∧ ¬ (65535 : Int32) < b))  (hp : ¬ pz < 0 ∧ ¬ (3 : Int32) < pz) (hV : Arv Z h ez ke .byte 9 (bs.map Value.int) (.int (0 : Int32))) (hlen : bs.length = 9) (hn : Z.heap.size ≤ ez) (ne1 : ez ≠ x) (ne2 : ez ≠ t) :
    Con l (⟨"com/example/chapeau/chapeau/link/PackedStrings", "encode", "(Ljava/lang/CharSequence;[BI)I"⟩ : MethodName) prog_74_method_10_code 4 (some .int) [] ({ frames := 5, cells := 0, slots := 0, locals := 100 } : Room) Z #[(.ref x), (.ref ez), (.int pz)] h (fun v' h' => v' = some (.int (encP a pz)) ∧ Keep h h' [ez] ∧ Arv Z h' ez ke .byte 9 ((encL a bs pz).map Value.int) (.int (0 : Int32))) := by
  refine con_of (plainFor_of_name pn_4) hE (fun m => ef_rEs1U m x ez pz) ?_
  intro p e s m below meth c T0 C X0
  have C : Cx p s m meth c Z "com/example/chapeau/chapeau/link/PackedStrings" "encode" prog_74_method_10_code 4 (some .int) := C
  show Goes p e below _ T0 (mkF m 0 #[.val (.ref x), .val (.ref ez), .val (.int pz), .unset] [])
  refine g_iconst 0 C X0 d11_0 rfl (g_istoreN C X0 d11_1 (l' := #[.val (.ref x), .val (.ref ez), .val (.int pz), .val (.int 0)]) rfl (g_iloadN C X0 d11_2 rfl (g_aloadN C X0 d11_3 rfl rfl (g_interfaceP (argsL := []) (st := [(.int 0)]) C X0 (wd hw 53 rfl) (wd hw 54 rfl) (mvT C.hZ (wd hw 55 rfl)) (wd hw 56 rfl) (wd hw 57 rfl) (wd hw 58 rfl) (mvT C.hZ (wd hw 59 rfl)) (wd hw 60 rfl) (by decide) EX (pay_of (W' := 1) (rLn1U l hw X0.ext x z_ SZ hz t kt a b EX FC FV VT ha hb) C.hZ (wd hw 61 rfl) (wd hw 5 rfl) (by decide) (by decide)) pd_8 rfl rfl _ rfl (Nat.le_of_eq rfl) d11_4 (by decide) (by decide) (fun T136 X136 => ?_)))))
  refine g_icmpn (hI_ge _ _) C X136 d11_9 (fun q => absurd (by decide) q) (fun _ => ?_)
  refine g_aloadN C X136 d11_12 rfl rfl (g_iloadN C X136 d11_13 rfl (g_interfaceP (argsL := [(.int 0)]) (st := []) C X136 (wd hw 67 rfl) (wd hw 68 rfl) (mvT C.hZ (wd hw 69 rfl)) (wd hw 70 rfl) (wd hw 71 rfl) (wd hw 72 rfl) (mvT C.hZ (wd hw 73 rfl)) (wd hw 60 rfl) (by decide) EX (pay_of (W' := 0) (rCh1U0 l hw X136.ext x z_ SZ hz fm_ SF rf_ S1 S2 S3 t kt a b EX FC FV VT ha hb) C.hZ (wd hw 74 rfl) (wd hw 5 rfl) (by decide) (by decide)) pd_9 rfl rfl _ rfl (Nat.le_of_eq rfl) d11_14 (by decide) (by decide) (fun T137 X137 => ?_)))
  refine g_aloadN C X137 d11_19 rfl rfl (g_iloadN C X137 d11_20 rfl (g_static (argsL := [(.int a), (.ref ez), (.int pz)]) (st := []) C X137 (wd hw 91 rfl) (wd hw 92 rfl) (wd hw 51 rfl) (wd hw 93 rfl) (by decide) (pay_of (W' := 0) (rEc l hw X137.ext a ez pz ke bs ha (own_w hp) hV hlen hn) C.hZ (wd hw 93 rfl) (wd hw 51 rfl) (by decide) (by decide)) pd_10 rfl rfl _ rfl (Nat.le_of_eq rfl) d11_21 (by decide) (by decide) (fun T138 h138 v138 q138 X138 => ?_)))
  obtain ⟨rfl, K138, V138⟩ := q138
  show Goes p e below _ T138 (mkF m 24 #[.val (.ref x), .val (.ref ez), .val (.int pz), .val (.int 0)] [(.int (encP a pz))])
  refine g_istoreN C X138 d11_24 (l' := #[.val (.ref x), .val (.ref ez), .val (.int (encP a pz)), .val (.int 0)]) rfl (g_iinc 1 C X138 d11_25 rfl rfl (l' := #[.val (.ref x), .val (.ref ez), .val (.int (encP a pz)), .val (.int 1)]) rfl (g_goto C X138 d11_28 (g_iloadN C X138 d11_2 rfl (g_aloadN C X138 d11_3 rfl rfl ?_))))
  have f139 := (Exa.keep EX K138)
  have f140 := (Fld.keep FC K138 (ninS (Ne.symm ne1) nin0))
  have f141 := (Fld.keep FV K138 (ninS (Ne.symm ne1) nin0))
  have f142 := (Arv.keep VT K138 (ninS (Ne.symm ne2) nin0))
  refine g_interfaceP (argsL := []) (st := [(.int 1)]) C X138 (wd hw 53 rfl) (wd hw 54 rfl) (mvT C.hZ (wd hw 55 rfl)) (wd hw 56 rfl) (wd hw 57 rfl) (wd hw 58 rfl) (mvT C.hZ (wd hw 59 rfl)) (wd hw 60 rfl) (by decide) f139 (pay_of (W' := 1) (rLn1U l hw X138.ext x z_ SZ hz t kt a b f139 f140 f141 f142 ha hb) C.hZ (wd hw 61 rfl) (wd hw 5 rfl) (by decide) (by decide)) pd_8 rfl rfl _ rfl (Nat.le_of_eq rfl) d11_4 (by decide) (by decide) (fun T143 X143 => ?_)
  refine g_icmpn (hI_ge _ _) C X143 d11_9 (fun _ => ?_) (fun q => absurd q (by decide))
  refine g_iloadN C X143 d11_31 rfl ?_
  have kp144 := (Keep.refl h [ez]).trans K138 (allS (Or.inl (by simp)) all0)
  exact g_retI C X143 d11_32 (by decide) (by decide) ⟨rfl, kp144, V138⟩
theorem ef_rEs2L (m : MethodId) (x : Addr) (ez : Addr) (pz : Int32) : entryFrame m #[(.ref x), (.ref ez), (.int pz)] 4 = mkF m 0 #[.val (.ref x), .val (.ref ez), .val (.int pz), .unset] [] := by first | (simp [entryFrame, mkF, argsToLocals, Value.category]; done) | rfl
theorem rEs2L (l : Launch) {Z : State} {a0 : Array Value} (hw : ∀ d ∈ tables_1, d.before a0 Z = true) {h : Heap} (hE : Ext Z.heap h) (x : Addr) (ez : Addr) (pz : Int32) (z_ : Int32) (SZ : Sta Z Z.heap "java/lang/String" "COMPACT_STRINGS" "Z" (.int z_)) (hz : ¬ z_ = 0) (fm_ : Value) (SF : Sta Z Z.heap "jdk/internal/util/Preconditions" "SIOOBE_FORMATTER" "Ljava/util/function/BiFunction;" fm_) (rf_ : fm_.isRef = true) (S1 : Sta Z Z.heap "java/lang/StringUTF16" "$assertionsDisabled" "Z" (.int (1 : Int32))) (S2 : Sta Z Z.heap "java/lang/StringUTF16" "HI_BYTE_SHIFT" "I" (.int (0 : Int32))) (S3 : Sta Z Z.heap "java/lang/StringUTF16" "LO_BYTE_SHIFT" "I" (.int (8 : Int32))) (t : Addr) (kt : ClassId) (a b : Int32) (ke : ClassId) (bs : List Int32) (EX : Exa Z h x "java/lang/String") (FC : Fld Z h x "java/lang/String" "coder" "B" (.int (0 : Int32))) (FV : Fld Z h x "java/lang/String" "value" "[B" (.ref t)) (VT : Arv Z h t kt .byte 2 [(.int (a.toInt8.toInt32)), (.int (b.toInt8.toInt32))] (.int (0 : Int32))) (ha : (¬ a < 0 ∧ ¬ (65535 : Int32) < a)) (hb : (¬ b < 0 ∧ ¬ (65535 : Int32) < b)) (la : ¬ (255 : Int32) < a) (lb : ¬ (255 : Int32) < b) (hp : ¬ pz < 0 ∧ ¬ (3 : Int32) < pz) (hV : Arv Z h ez ke .byte 9 (bs.map Value.int) (.int (0 : Int32))) (hlen : bs.length = 9) (hn : Z.heap.size ≤ ez) (ne1 : ez ≠ x) (ne2 : ez ≠ t) :
    Con l (⟨"com/example/chapeau/chapeau/link/PackedStrings", "encode", "(Ljava/lang/CharSequence;[BI)I"⟩ : MethodName) prog_74_method_10_code 4 (some .int) [] ({ frames := 5, cells := 0, slots := 0, locals := 100 } : Room) Z #[(.ref x), (.ref ez), (.int pz)] h (fun v' h' => v' = some (.int (encP b (encP a pz))) ∧ Keep h h' [ez] ∧ Arv Z h' ez ke .byte 9 ((encL b (encL a bs pz) (encP a pz)).map Value.int) (.int (0 : Int32))) := by
  refine con_of (plainFor_of_name pn_4) hE (fun m => ef_rEs2L m x ez pz) ?_
  intro p e s m below meth c T0 C X0
  have C : Cx p s m meth c Z "com/example/chapeau/chapeau/link/PackedStrings" "encode" prog_74_method_10_code 4 (some .int) := C
  show Goes p e below _ T0 (mkF m 0 #[.val (.ref x), .val (.ref ez), .val (.int pz), .unset] [])
  refine g_iconst 0 C X0 d11_0 rfl (g_istoreN C X0 d11_1 (l' := #[.val (.ref x), .val (.ref ez), .val (.int pz), .val (.int 0)]) rfl (g_iloadN C X0 d11_2 rfl (g_aloadN C X0 d11_3 rfl rfl (g_interfaceP (argsL := []) (st := [(.int 0)]) C X0 (wd hw 53 rfl) (wd hw 54 rfl) (mvT C.hZ (wd hw 55 rfl)) (wd hw 56 rfl) (wd hw 57 rfl) (wd hw 58 rfl) (mvT C.hZ (wd hw 59 rfl)) (wd hw 60 rfl) (by decide) EX (pay_of (W' := 1) (rLn2L l hw X0.ext x z_ SZ hz t kt a b EX FC FV VT ha hb la lb) C.hZ (wd hw 61 rfl) (wd hw 5 rfl) (by decide) (by decide)) pd_8 rfl rfl _ rfl (Nat.le_of_eq rfl) d11_4 (by decide) (by decide) (fun T145 X145 => ?_)))))
  refine g_icmpn (hI_ge _ _) C X145 d11_9 (fun q => absurd (by decide) q) (fun _ => ?_)
  refine g_aloadN C X145 d11_12 rfl rfl (g_iloadN C X145 d11_13 rfl (g_interfaceP (argsL := [(.int 0)]) (st := []) C X145 (wd hw 67 rfl) (wd hw 68 rfl) (mvT C.hZ (wd hw 69 rfl)) (wd hw 70 rfl) (wd hw 71 rfl) (wd hw 72 rfl) (mvT C.hZ (wd hw 73 rfl)) (wd hw 60 rfl) (by decide) EX (pay_of (W' := 0) (rCh2L0 l hw X145.ext x z_ SZ hz fm_ SF rf_ S1 S2 S3 t kt a b EX FC FV VT ha hb la lb) C.hZ (wd hw 74 rfl) (wd hw 5 rfl) (by decide) (by decide)) pd_9 rfl rfl _ rfl (Nat.le_of_eq rfl) d11_14 (by decide) (by decide) (fun T146 X146 => ?_)))
  refine g_aloadN C X146 d11_19 rfl rfl (g_iloadN C X146 d11_20 rfl (g_static (argsL := [(.int a), (.ref ez), (.int pz)]) (st := []) C X146 (wd hw 91 rfl) (wd hw 92 rfl) (wd hw 51 rfl) (wd hw 93 rfl) (by decide) (pay_of (W' := 0) (rEc l hw X146.ext a ez pz ke bs ha (own_w hp) hV hlen hn) C.hZ (wd hw 93 rfl) (wd hw 51 rfl) (by decide) (by decide)) pd_10 rfl rfl _ rfl (Nat.le_of_eq rfl) d11_21 (by decide) (by decide) (fun T147 h147 v147 q147 X147 => ?_)))
  obtain ⟨rfl, K147, V147⟩ := q147
  show Goes p e below _ T147 (mkF m 24 #[.val (.ref x), .val (.ref ez), .val (.int pz), .val (.int 0)] [(.int (encP a pz))])
  refine g_istoreN C X147 d11_24 (l' := #[.val (.ref x), .val (.ref ez), .val (.int (encP a pz)), .val (.int 0)]) rfl (g_iinc 1 C X147 d11_25 rfl rfl (l' := #[.val (.ref x), .val (.ref ez), .val (.int (encP a pz)), .val (.int 1)]) rfl (g_goto C X147 d11_28 (g_iloadN C X147 d11_2 rfl (g_aloadN C X147 d11_3 rfl rfl ?_))))
  have f148 := (Exa.keep EX K147)
  have f149 := (Fld.keep FC K147 (ninS (Ne.symm ne1) nin0))
  have f150 := (Fld.keep FV K147 (ninS (Ne.symm ne1) nin0))
  have f151 := (Arv.keep VT K147 (ninS (Ne.symm ne2) nin0))
  refine g_interfaceP (argsL := []) (st := [(.int 1)]) C X147 (wd hw 53 rfl) (wd hw 54 rfl) (mvT C.hZ (wd hw 55 rfl)) (wd hw 56 rfl) (wd hw 57 rfl) (wd hw 58 rfl) (mvT C.hZ (wd hw 59 rfl)) (wd hw 60 rfl) (by decide) f148 (pay_of (W' := 1) (rLn2L l hw X147.ext x z_ SZ hz t kt a b f148 f149 f150 f151 ha hb la lb) C.hZ (wd hw 61 rfl) (wd hw 5 rfl) (by decide) (by decide)) pd_8 rfl rfl _ rfl (Nat.le_of_eq rfl) d11_4 (by decide) (by decide) (fun T152 X152 => ?_)
  refine g_icmpn (hI_ge _ _) C X152 d11_9 (fun q => absurd (by decide) q) (fun _ => ?_)
  refine g_aloadN C X152 d11_12 rfl rfl (g_iloadN C X152 d11_13 rfl (g_interfaceP (argsL := [(.int 1)]) (st := []) C X152 (wd hw 67 rfl) (wd hw 68 rfl) (mvT C.hZ (wd hw 69 rfl)) (wd hw 70 rfl) (wd hw 71 rfl) (wd hw 72 rfl) (mvT C.hZ (wd hw 73 rfl)) (wd hw 60 rfl) (by decide) f148 (pay_of (W' := 0) (rCh2L1 l hw X152.ext x z_ SZ hz fm_ SF rf_ S1 S2 S3 t kt a b f148 f149 f150 f151 ha hb la lb) C.hZ (wd hw 74 rfl) (wd hw 5 rfl) (by decide) (by decide)) pd_9 rfl rfl _ rfl (Nat.le_of_eq rfl) d11_14 (by decide) (by decide) (fun T153 X153 => ?_)))
  refine g_aloadN C X153 d11_19 rfl rfl (g_iloadN C X153 d11_20 rfl (g_static (argsL := [(.int b), (.ref ez), (.int (encP a pz))]) (st := []) C X153 (wd hw 91 rfl) (wd hw 92 rfl) (wd hw 51 rfl) (wd hw 93 rfl) (by decide) (pay_of (W' := 0) (rEc l hw X153.ext b ez (encP a pz) ke (encL a bs pz) hb (own_pp hp) V147 ((own_len _ _ _).trans hlen) hn) C.hZ (wd hw 93 rfl) (wd hw 51 rfl) (by decide) (by decide)) pd_10 rfl rfl _ rfl (Nat.le_of_eq rfl) d11_21 (by decide) (by decide) (fun T154 h154 v154 q154 X154 => ?_)))
  obtain ⟨rfl, K154, V154⟩ := q154
  show Goes p e below _ T154 (mkF m 24 #[.val (.ref x), .val (.ref ez), .val (.int (encP a pz)), .val (.int 1)] [(.int (encP b (encP a pz)))])
  refine g_istoreN C X154 d11_24 (l' := #[.val (.ref x), .val (.ref ez), .val (.int (encP b (encP a pz))), .val (.int 1)]) rfl (g_iinc 1 C X154 d11_25 rfl rfl (l' := #[.val (.ref x), .val (.ref ez), .val (.int (encP b (encP a pz))), .val (.int 2)]) rfl (g_goto C X154 d11_28 (g_iloadN C X154 d11_2 rfl (g_aloadN C X154 d11_3 rfl rfl ?_))))
  have f155 := (Exa.keep f148 K154)
  have f156 := (Fld.keep f149 K154 (ninS (Ne.symm ne1) nin0))
  have f157 := (Fld.keep f150 K154 (ninS (Ne.symm ne1) nin0))
  have f158 := (Arv.keep f151 K154 (ninS (Ne.symm ne2) nin0))
  refine g_interfaceP (argsL := []) (st := [(.int 2)]) C X154 (wd hw 53 rfl) (wd hw 54 rfl) (mvT C.hZ (wd hw 55 rfl)) (wd hw 56 rfl) (wd hw 57 rfl) (wd hw 58 rfl) (mvT C.hZ (wd hw 59 rfl)) (wd hw 60 rfl) (by decide) f155 (pay_of (W' := 1) (rLn2L l hw X154.ext x z_ SZ hz t kt a b f155 f156 f157 f158 ha hb la lb) C.hZ (wd hw 61 rfl) (wd hw 5 rfl) (by decide) (by decide)) pd_8 rfl rfl _ rfl (Nat.le_of_eq rfl) d11_4 (by decide) (by decide) (fun T159 X159 => ?_)
  refine g_icmpn (hI_ge _ _) C X159 d11_9 (fun _ => ?_) (fun q => absurd q (by decide))
  refine g_iloadN C X159 d11_31 rfl ?_
  have kp160 := (Keep.refl h [ez]).trans K147 (allS (Or.inl (by simp)) all0)
  have kp161 := kp160.trans K154 (allS (Or.inl (by simp)) all0)
  exact g_retI C X159 d11_32 (by decide) (by decide) ⟨rfl, kp161, V154⟩
theorem ef_rEs2U (m : MethodId) (x : Addr) (ez : Addr) (pz : Int32) : entryFrame m #[(.ref x), (.ref ez), (.int pz)] 4 = mkF m 0 #[.val (.ref x), .val (.ref ez), .val (.int pz), .unset] [] := by first | (simp [entryFrame, mkF, argsToLocals, Value.category]; done) | rfl
theorem rEs2U (l : Launch) {Z : State} {a0 : Array Value} (hw : ∀ d ∈ tables_1, d.before a0 Z = true) {h : Heap} (hE : Ext Z.heap h) (x : Addr) (ez : Addr) (pz : Int32) (z_ : Int32) (SZ : Sta Z Z.heap "java/lang/String" "COMPACT_STRINGS" "Z" (.int z_)) (hz : ¬ z_ = 0) (fm_ : Value) (SF : Sta Z Z.heap "jdk/internal/util/Preconditions" "SIOOBE_FORMATTER" "Ljava/util/function/BiFunction;" fm_) (rf_ : fm_.isRef = true) (S1 : Sta Z Z.heap "java/lang/StringUTF16" "$assertionsDisabled" "Z" (.int (1 : Int32))) (S2 : Sta Z Z.heap "java/lang/StringUTF16" "HI_BYTE_SHIFT" "I" (.int (0 : Int32))) (S3 : Sta Z Z.heap "java/lang/StringUTF16" "LO_BYTE_SHIFT" "I" (.int (8 : Int32))) (t : Addr) (kt : ClassId) (a b : Int32) (ke : ClassId) (bs : List Int32) (EX : Exa Z h x "java/lang/String") (FC : Fld Z h x "java/lang/String" "coder" "B" (.int (1 : Int32))) (FV : Fld Z h x "java/lang/String" "value" "[B" (.ref t)) (VT : Arv Z h t kt .byte 4 [(.int ((a >>> ((0 : Int32) &&& 31)).toInt8.toInt32)), (.int ((a >>> ((8 : Int32) &&& 31)).toInt8.toInt32)), (.int ((b >>> ((0 : Int32) &&& 31)).toInt8.toInt32)), (.int ((b >>> ((8 : Int32) &&& 31)).toInt8.toInt32))] (.int (0 : Int32))) (ha : (¬ a < 0 ∧ ¬ (65535 : Int32) < a)) (hb : (¬ b < 0 ∧ ¬ (65535 : Int32) < b))  (hp : ¬ pz < 0 ∧ ¬ (3 : Int32) < pz) (hV : Arv Z h ez ke .byte 9 (bs.map Value.int) (.int (0 : Int32))) (hlen : bs.length = 9) (hn : Z.heap.size ≤ ez) (ne1 : ez ≠ x) (ne2 : ez ≠ t) :
    Con l (⟨"com/example/chapeau/chapeau/link/PackedStrings", "encode", "(Ljava/lang/CharSequence;[BI)I"⟩ : MethodName) prog_74_method_10_code 4 (some .int) [] ({ frames := 5, cells := 0, slots := 0, locals := 100 } : Room) Z #[(.ref x), (.ref ez), (.int pz)] h (fun v' h' => v' = some (.int (encP b (encP a pz))) ∧ Keep h h' [ez] ∧ Arv Z h' ez ke .byte 9 ((encL b (encL a bs pz) (encP a pz)).map Value.int) (.int (0 : Int32))) := by
  refine con_of (plainFor_of_name pn_4) hE (fun m => ef_rEs2U m x ez pz) ?_
  intro p e s m below meth c T0 C X0
  have C : Cx p s m meth c Z "com/example/chapeau/chapeau/link/PackedStrings" "encode" prog_74_method_10_code 4 (some .int) := C
  show Goes p e below _ T0 (mkF m 0 #[.val (.ref x), .val (.ref ez), .val (.int pz), .unset] [])
  refine g_iconst 0 C X0 d11_0 rfl (g_istoreN C X0 d11_1 (l' := #[.val (.ref x), .val (.ref ez), .val (.int pz), .val (.int 0)]) rfl (g_iloadN C X0 d11_2 rfl (g_aloadN C X0 d11_3 rfl rfl (g_interfaceP (argsL := []) (st := [(.int 0)]) C X0 (wd hw 53 rfl) (wd hw 54 rfl) (mvT C.hZ (wd hw 55 rfl)) (wd hw 56 rfl) (wd hw 57 rfl) (wd hw 58 rfl) (mvT C.hZ (wd hw 59 rfl)) (wd hw 60 rfl) (by decide) EX (pay_of (W' := 1) (rLn2U l hw X0.ext x z_ SZ hz t kt a b EX FC FV VT ha hb) C.hZ (wd hw 61 rfl) (wd hw 5 rfl) (by decide) (by decide)) pd_8 rfl rfl _ rfl (Nat.le_of_eq rfl) d11_4 (by decide) (by decide) (fun T162 X162 => ?_)))))
  refine g_icmpn (hI_ge _ _) C X162 d11_9 (fun q => absurd (by decide) q) (fun _ => ?_)
  refine g_aloadN C X162 d11_12 rfl rfl (g_iloadN C X162 d11_13 rfl (g_interfaceP (argsL := [(.int 0)]) (st := []) C X162 (wd hw 67 rfl) (wd hw 68 rfl) (mvT C.hZ (wd hw 69 rfl)) (wd hw 70 rfl) (wd hw 71 rfl) (wd hw 72 rfl) (mvT C.hZ (wd hw 73 rfl)) (wd hw 60 rfl) (by decide) EX (pay_of (W' := 0) (rCh2U0 l hw X162.ext x z_ SZ hz fm_ SF rf_ S1 S2 S3 t kt a b EX FC FV VT ha hb) C.hZ (wd hw 74 rfl) (wd hw 5 rfl) (by decide) (by decide)) pd_9 rfl rfl _ rfl (Nat.le_of_eq rfl) d11_14 (by decide) (by decide) (fun T163 X163 => ?_)))
  refine g_aloadN C X163 d11_19 rfl rfl (g_iloadN C X163 d11_20 rfl (g_static (argsL := [(.int a), (.ref ez), (.int pz)]) (st := []) C X163 (wd hw 91 rfl) (wd hw 92 rfl) (wd hw 51 rfl) (wd hw 93 rfl) (by decide) (pay_of (W' := 0) (rEc l hw X163.ext a ez pz ke bs ha (own_w hp) hV hlen hn) C.hZ (wd hw 93 rfl) (wd hw 51 rfl) (by decide) (by decide)) pd_10 rfl rfl _ rfl (Nat.le_of_eq rfl) d11_21 (by decide) (by decide) (fun T164 h164 v164 q164 X164 => ?_)))
  obtain ⟨rfl, K164, V164⟩ := q164
  show Goes p e below _ T164 (mkF m 24 #[.val (.ref x), .val (.ref ez), .val (.int pz), .val (.int 0)] [(.int (encP a pz))])
  refine g_istoreN C X164 d11_24 (l' := #[.val (.ref x), .val (.ref ez), .val (.int (encP a pz)), .val (.int 0)]) rfl (g_iinc 1 C X164 d11_25 rfl rfl (l' := #[.val (.ref x), .val (.ref ez), .val (.int (encP a pz)), .val (.int 1)]) rfl (g_goto C X164 d11_28 (g_iloadN C X164 d11_2 rfl (g_aloadN C X164 d11_3 rfl rfl ?_))))
  have f165 := (Exa.keep EX K164)
  have f166 := (Fld.keep FC K164 (ninS (Ne.symm ne1) nin0))
  have f167 := (Fld.keep FV K164 (ninS (Ne.symm ne1) nin0))
  have f168 := (Arv.keep VT K164 (ninS (Ne.symm ne2) nin0))
  refine g_interfaceP (argsL := []) (st := [(.int 1)]) C X164 (wd hw 53 rfl) (wd hw 54 rfl) (mvT C.hZ (wd hw 55 rfl)) (wd hw 56 rfl) (wd hw 57 rfl) (wd hw 58 rfl) (mvT C.hZ (wd hw 59 rfl)) (wd hw 60 rfl) (by decide) f165 (pay_of (W' := 1) (rLn2U l hw X164.ext x z_ SZ hz t kt a b f165 f166 f167 f168 ha hb) C.hZ (wd hw 61 rfl) (wd hw 5 rfl) (by decide) (by decide)) pd_8 rfl rfl _ rfl (Nat.le_of_eq rfl) d11_4 (by decide) (by decide) (fun T169 X169 => ?_)
  refine g_icmpn (hI_ge _ _) C X169 d11_9 (fun q => absurd (by decide) q) (fun _ => ?_)
  refine g_aloadN C X169 d11_12 rfl rfl (g_iloadN C X169 d11_13 rfl (g_interfaceP (argsL := [(.int 1)]) (st := []) C X169 (wd hw 67 rfl) (wd hw 68 rfl) (mvT C.hZ (wd hw 69 rfl)) (wd hw 70 rfl) (wd hw 71 rfl) (wd hw 72 rfl) (mvT C.hZ (wd hw 73 rfl)) (wd hw 60 rfl) (by decide) f165 (pay_of (W' := 0) (rCh2U1 l hw X169.ext x z_ SZ hz fm_ SF rf_ S1 S2 S3 t kt a b f165 f166 f167 f168 ha hb) C.hZ (wd hw 74 rfl) (wd hw 5 rfl) (by decide) (by decide)) pd_9 rfl rfl _ rfl (Nat.le_of_eq rfl) d11_14 (by decide) (by decide) (fun T170 X170 => ?_)))
  refine g_aloadN C X170 d11_19 rfl rfl (g_iloadN C X170 d11_20 rfl (g_static (argsL := [(.int b), (.ref ez), (.int (encP a pz))]) (st := []) C X170 (wd hw 91 rfl) (wd hw 92 rfl) (wd hw 51 rfl) (wd hw 93 rfl) (by decide) (pay_of (W' := 0) (rEc l hw X170.ext b ez (encP a pz) ke (encL a bs pz) hb (own_pp hp) V164 ((own_len _ _ _).trans hlen) hn) C.hZ (wd hw 93 rfl) (wd hw 51 rfl) (by decide) (by decide)) pd_10 rfl rfl _ rfl (Nat.le_of_eq rfl) d11_21 (by decide) (by decide) (fun T171 h171 v171 q171 X171 => ?_)))
  obtain ⟨rfl, K171, V171⟩ := q171
  show Goes p e below _ T171 (mkF m 24 #[.val (.ref x), .val (.ref ez), .val (.int (encP a pz)), .val (.int 1)] [(.int (encP b (encP a pz)))])
  refine g_istoreN C X171 d11_24 (l' := #[.val (.ref x), .val (.ref ez), .val (.int (encP b (encP a pz))), .val (.int 1)]) rfl (g_iinc 1 C X171 d11_25 rfl rfl (l' := #[.val (.ref x), .val (.ref ez), .val (.int (encP b (encP a pz))), .val (.int 2)]) rfl (g_goto C X171 d11_28 (g_iloadN C X171 d11_2 rfl (g_aloadN C X171 d11_3 rfl rfl ?_))))
  have f172 := (Exa.keep f165 K171)
  have f173 := (Fld.keep f166 K171 (ninS (Ne.symm ne1) nin0))
  have f174 := (Fld.keep f167 K171 (ninS (Ne.symm ne1) nin0))
  have f175 := (Arv.keep f168 K171 (ninS (Ne.symm ne2) nin0))
  refine g_interfaceP (argsL := []) (st := [(.int 2)]) C X171 (wd hw 53 rfl) (wd hw 54 rfl) (mvT C.hZ (wd hw 55 rfl)) (wd hw 56 rfl) (wd hw 57 rfl) (wd hw 58 rfl) (mvT C.hZ (wd hw 59 rfl)) (wd hw 60 rfl) (by decide) f172 (pay_of (W' := 1) (rLn2U l hw X171.ext x z_ SZ hz t kt a b f172 f173 f174 f175 ha hb) C.hZ (wd hw 61 rfl) (wd hw 5 rfl) (by decide) (by decide)) pd_8 rfl rfl _ rfl (Nat.le_of_eq rfl) d11_4 (by decide) (by decide) (fun T176 X176 => ?_)
  refine g_icmpn (hI_ge _ _) C X176 d11_9 (fun _ => ?_) (fun q => absurd q (by decide))
  refine g_iloadN C X176 d11_31 rfl ?_
  have kp177 := (Keep.refl h [ez]).trans K164 (allS (Or.inl (by simp)) all0)
  have kp178 := kp177.trans K171 (allS (Or.inl (by simp)) all0)
  exact g_retI C X176 d11_32 (by decide) (by decide) ⟨rfl, kp178, V171⟩
theorem d0_206 : Dc code 206 (.aload 15) 2 208 := ⟨at_206, rfl⟩
theorem d0_208 : Dc code 208 (.aload 10) 2 210 := ⟨at_208, rfl⟩
theorem d0_210 : Dc code 210 (.iload 7) 2 212 := ⟨at_210, rfl⟩
theorem d0_212 : Dc code 212 (.invokestatic 18) 3 215 := ⟨at_212, rfl⟩
theorem pd_11 : parseMethodDescriptor "(Ljava/lang/CharSequence;[BI)I" = some ⟨[(.object "java/lang/CharSequence"), (.array .byte), .int], some .int⟩ := by decide +kernel
theorem d0_215 : Dc code 215 (.istore 16) 2 217 := ⟨at_215, rfl⟩
theorem d0_217 : Dc code 217 (.iload 7) 2 219 := ⟨at_217, rfl⟩
theorem d0_219 : Dc code 219 (.istore 17) 2 221 := ⟨at_219, rfl⟩
theorem d0_221 : Dc code 221 (.iload 8) 2 223 := ⟨at_221, rfl⟩
theorem d0_223 : Dc code 223 (.iconst 1) 1 224 := ⟨at_223, rfl⟩
theorem d0_224 : Dj code 224 (.if_icmp .lt 14) 14 3 227 238 := ⟨at_224, rfl, by decide, by decide⟩
theorem d0_238 : Dc code 238 (.iload 8) 2 240 := ⟨at_238, rfl⟩
theorem d0_240 : Dc code 240 (.iconst 2) 1 241 := ⟨at_240, rfl⟩
theorem d0_241 : Dj code 241 (.if_icmp .lt 14) 14 3 244 255 := ⟨at_241, rfl, by decide, by decide⟩
theorem d0_255 : Dc code 255 (.iload 16) 2 257 := ⟨at_255, rfl⟩
theorem d0_257 : Dc code 257 (.iload 17) 2 259 := ⟨at_257, rfl⟩
theorem d0_259 : Dj code 259 (.if_icmp .ne 112) 112 3 262 371 := ⟨at_259, rfl, by decide, by decide⟩
theorem d0_262 : Dc code 262 (.aload 10) 2 264 := ⟨at_262, rfl⟩
theorem d0_264 : Dc code 264 (.iconst 0) 1 265 := ⟨at_264, rfl⟩
theorem d0_265 : Dc code 265 (.baload) 1 266 := ⟨at_265, rfl⟩
theorem d0_266 : Dc code 266 (.aload 11) 2 268 := ⟨at_266, rfl⟩
theorem d0_268 : Dc code 268 (.iconst 0) 1 269 := ⟨at_268, rfl⟩
theorem d0_269 : Dc code 269 (.baload) 1 270 := ⟨at_269, rfl⟩
theorem d0_270 : Dj code 270 (.if_icmp .ne 101) 101 3 273 371 := ⟨at_270, rfl, by decide, by decide⟩
theorem d0_273 : Dc code 273 (.aload 10) 2 275 := ⟨at_273, rfl⟩
theorem d0_275 : Dc code 275 (.iconst 1) 1 276 := ⟨at_275, rfl⟩
theorem d0_276 : Dc code 276 (.baload) 1 277 := ⟨at_276, rfl⟩
theorem d0_277 : Dc code 277 (.aload 11) 2 279 := ⟨at_277, rfl⟩
theorem d0_279 : Dc code 279 (.iconst 1) 1 280 := ⟨at_279, rfl⟩
theorem d0_280 : Dc code 280 (.baload) 1 281 := ⟨at_280, rfl⟩
theorem d0_281 : Dj code 281 (.if_icmp .ne 90) 90 3 284 371 := ⟨at_281, rfl, by decide, by decide⟩
theorem d0_284 : Dc code 284 (.aload 10) 2 286 := ⟨at_284, rfl⟩
theorem d0_286 : Dc code 286 (.iconst 2) 1 287 := ⟨at_286, rfl⟩
theorem d0_287 : Dc code 287 (.baload) 1 288 := ⟨at_287, rfl⟩
theorem d0_288 : Dc code 288 (.aload 11) 2 290 := ⟨at_288, rfl⟩
theorem d0_290 : Dc code 290 (.iconst 2) 1 291 := ⟨at_290, rfl⟩
theorem d0_291 : Dc code 291 (.baload) 1 292 := ⟨at_291, rfl⟩
theorem d0_292 : Dj code 292 (.if_icmp .ne 79) 79 3 295 371 := ⟨at_292, rfl, by decide, by decide⟩
theorem d0_295 : Dc code 295 (.aload 10) 2 297 := ⟨at_295, rfl⟩
theorem d0_297 : Dc code 297 (.iconst 3) 1 298 := ⟨at_297, rfl⟩
theorem d0_298 : Dc code 298 (.baload) 1 299 := ⟨at_298, rfl⟩
theorem d0_299 : Dc code 299 (.aload 11) 2 301 := ⟨at_299, rfl⟩
theorem d0_301 : Dc code 301 (.iconst 3) 1 302 := ⟨at_301, rfl⟩
theorem d0_302 : Dc code 302 (.baload) 1 303 := ⟨at_302, rfl⟩
theorem d0_303 : Dj code 303 (.if_icmp .ne 68) 68 3 306 371 := ⟨at_303, rfl, by decide, by decide⟩
theorem d0_306 : Dc code 306 (.aload 10) 2 308 := ⟨at_306, rfl⟩
theorem d0_308 : Dc code 308 (.iconst 4) 1 309 := ⟨at_308, rfl⟩
theorem d0_309 : Dc code 309 (.baload) 1 310 := ⟨at_309, rfl⟩
theorem d0_310 : Dc code 310 (.aload 11) 2 312 := ⟨at_310, rfl⟩
theorem d0_312 : Dc code 312 (.iconst 4) 1 313 := ⟨at_312, rfl⟩
theorem d0_313 : Dc code 313 (.baload) 1 314 := ⟨at_313, rfl⟩
theorem d0_314 : Dj code 314 (.if_icmp .ne 57) 57 3 317 371 := ⟨at_314, rfl, by decide, by decide⟩
theorem d0_317 : Dc code 317 (.aload 10) 2 319 := ⟨at_317, rfl⟩
theorem d0_319 : Dc code 319 (.iconst 5) 1 320 := ⟨at_319, rfl⟩
theorem d0_320 : Dc code 320 (.baload) 1 321 := ⟨at_320, rfl⟩
theorem d0_321 : Dc code 321 (.aload 11) 2 323 := ⟨at_321, rfl⟩
theorem d0_323 : Dc code 323 (.iconst 5) 1 324 := ⟨at_323, rfl⟩
theorem d0_324 : Dc code 324 (.baload) 1 325 := ⟨at_324, rfl⟩
theorem d0_325 : Dj code 325 (.if_icmp .ne 46) 46 3 328 371 := ⟨at_325, rfl, by decide, by decide⟩
theorem d0_328 : Dc code 328 (.aload 10) 2 330 := ⟨at_328, rfl⟩
theorem d0_330 : Dc code 330 (.bipush 6) 2 332 := ⟨at_330, rfl⟩
theorem d0_332 : Dc code 332 (.baload) 1 333 := ⟨at_332, rfl⟩
theorem d0_333 : Dc code 333 (.aload 11) 2 335 := ⟨at_333, rfl⟩
theorem d0_335 : Dc code 335 (.bipush 6) 2 337 := ⟨at_335, rfl⟩
theorem d0_337 : Dc code 337 (.baload) 1 338 := ⟨at_337, rfl⟩
theorem d0_338 : Dj code 338 (.if_icmp .ne 33) 33 3 341 371 := ⟨at_338, rfl, by decide, by decide⟩
theorem d0_341 : Dc code 341 (.aload 10) 2 343 := ⟨at_341, rfl⟩
theorem d0_343 : Dc code 343 (.bipush 7) 2 345 := ⟨at_343, rfl⟩
theorem d0_345 : Dc code 345 (.baload) 1 346 := ⟨at_345, rfl⟩
theorem d0_346 : Dc code 346 (.aload 11) 2 348 := ⟨at_346, rfl⟩
theorem d0_348 : Dc code 348 (.bipush 7) 2 350 := ⟨at_348, rfl⟩
theorem d0_350 : Dc code 350 (.baload) 1 351 := ⟨at_350, rfl⟩
theorem d0_351 : Dj code 351 (.if_icmp .ne 20) 20 3 354 371 := ⟨at_351, rfl, by decide, by decide⟩
theorem d0_354 : Dc code 354 (.aload 10) 2 356 := ⟨at_354, rfl⟩
theorem d0_356 : Dc code 356 (.bipush 8) 2 358 := ⟨at_356, rfl⟩
theorem d0_358 : Dc code 358 (.baload) 1 359 := ⟨at_358, rfl⟩
theorem d0_359 : Dc code 359 (.aload 11) 2 361 := ⟨at_359, rfl⟩
theorem d0_361 : Dc code 361 (.bipush 8) 2 363 := ⟨at_361, rfl⟩
theorem d0_363 : Dc code 363 (.baload) 1 364 := ⟨at_363, rfl⟩
theorem d0_364 : Dj code 364 (.if_icmp .ne 7) 7 3 367 371 := ⟨at_364, rfl, by decide, by decide⟩
theorem d0_367 : Dc code 367 (.iconst 1) 1 368 := ⟨at_367, rfl⟩
theorem d0_368 : Dj code 368 (.goto 4) 4 3 371 372 := ⟨at_368, rfl, by decide, by decide⟩
theorem d0_372 : Dc code 372 (.ireturn) 1 373 := ⟨at_372, rfl⟩
theorem seg0L {p : Program} {l : Launch} {e : Env} {s : State} {m : MethodId} {A : Array Value} {below : List Frame} {meth : Method} {c : Code} {Z : State} {a0 : Array Value} (hw : ∀ d ∈ tables_1, d.before a0 Z = true) {T0 : State} {h : Heap} {vm0 : Vm} (s0 s1 s2 s3 s4 s9 s12 s13 s14 : Slot) (a b pz : Int32) (x ez e2 : Addr) (z_ : Int32) (SZ : Sta Z Z.heap "java/lang/String" "COMPACT_STRINGS" "Z" (.int z_)) (hz : ¬ z_ = 0) (fm_ : Value) (SF : Sta Z Z.heap "jdk/internal/util/Preconditions" "SIOOBE_FORMATTER" "Ljava/util/function/BiFunction;" fm_) (rf_ : fm_.isRef = true) (S1 : Sta Z Z.heap "java/lang/StringUTF16" "$assertionsDisabled" "Z" (.int (1 : Int32))) (S2 : Sta Z Z.heap "java/lang/StringUTF16" "HI_BYTE_SHIFT" "I" (.int (0 : Int32))) (S3 : Sta Z Z.heap "java/lang/StringUTF16" "LO_BYTE_SHIFT" "I" (.int (8 : Int32))) (t : Addr) (kt : ClassId) (ke ke2 : ClassId) (bs : List Int32) (C : Cx p (s.setVm vm0) m meth c Z "com/example/chapeau/chapeau/link/PackedStringsEncodePinLaw" "law" code maxLocals ret) (X0 : St p l e room_1 (s.setVm vm0) m A below meth c Z T0 h 16 200) (I0 : Lits Z consts_1 s vm0 h) (EX : Exa Z h x "java/lang/String") (FC : Fld Z h x "java/lang/String" "coder" "B" (.int (0 : Int32))) (FV : Fld Z h x "java/lang/String" "value" "[B" (.ref t)) (VT : Arv Z h t kt .byte 0 [] (.int (0 : Int32))) (ha : (¬ a < 0 ∧ ¬ (65535 : Int32) < a)) (hb : (¬ b < 0 ∧ ¬ (65535 : Int32) < b))  (hp : ¬ pz < 0 ∧ ¬ (3 : Int32) < pz) (hV : Arv Z h ez ke .byte 9 (bs.map Value.int) (.int (0 : Int32))) (hV2 : Arv Z h e2 ke2 .byte 9 (bs.map Value.int) (.int (0 : Int32))) (hlen : bs.length = 9) (hn : Z.heap.size ≤ ez) (hn2 : Z.heap.size ≤ e2) (ne1 : ez ≠ x) (ne2 : ez ≠ t) (ne3 : ez ≠ e2) (sf1 : Safe Z consts_1 vm0 h ez) (sf2 : Safe Z consts_1 vm0 h e2) :
    Goes p e below (EndL Z consts_1 s 32 1216 (fun v' h' => v' = some (.int 1))) T0 (mkF m 206 #[s0, s1, s2, s3, s4, .val (.int a), .val (.int b), .val (.int pz), .val (.int 0), s9, .val (.ref ez), .val (.ref e2), s12, s13, s14, .val (.ref x), .unset, .unset] []) := by
  refine g_aload C X0 d0_206 rfl rfl (g_aload C X0 d0_208 rfl rfl (g_iload C X0 d0_210 rfl (g_static (argsL := [(.ref x), (.ref ez), (.int pz)]) (st := []) C X0 (wd hw 49 rfl) (wd hw 50 rfl) (wd hw 51 rfl) (wd hw 52 rfl) (by decide) (pay_of (W' := 0) (rEs0L l hw X0.ext x ez pz z_ SZ hz fm_ SF rf_ S1 S2 S3 t kt a b ke bs EX FC FV VT ha hb hp hV hlen hn ne1 ne2) C.hZ (wd hw 52 rfl) (wd hw 51 rfl) (by decide) (by decide)) pd_11 rfl rfl _ rfl (Nat.le_of_eq rfl) d0_212 (by decide) (by decide) (fun T179 h179 v179 q179 X179 => ?_))))
  obtain ⟨rfl, K179, V179⟩ := q179
  show Goes p e below _ T179 (mkF m 215 #[s0, s1, s2, s3, s4, .val (.int a), .val (.int b), .val (.int pz), .val (.int 0), s9, .val (.ref ez), .val (.ref e2), s12, s13, s14, .val (.ref x), .unset, .unset] [(.int pz)])
  refine g_istore C X179 d0_215 (l' := #[s0, s1, s2, s3, s4, .val (.int a), .val (.int b), .val (.int pz), .val (.int 0), s9, .val (.ref ez), .val (.ref e2), s12, s13, s14, .val (.ref x), .val (.int pz), .unset]) rfl (g_iload C X179 d0_217 rfl (g_istore C X179 d0_219 (l' := #[s0, s1, s2, s3, s4, .val (.int a), .val (.int b), .val (.int pz), .val (.int 0), s9, .val (.ref ez), .val (.ref e2), s12, s13, s14, .val (.ref x), .val (.int pz), .val (.int pz)]) rfl (g_iload C X179 d0_221 rfl (g_iconst 1 C X179 d0_223 rfl (g_icmp (hI_lt _ _) C X179 d0_224 (fun _ => ?_) (fun q => absurd (by decide) q))))))
  refine g_iload C X179 d0_238 rfl (g_iconst 2 C X179 d0_240 rfl (g_icmp (hI_lt _ _) C X179 d0_241 (fun _ => ?_) (fun q => absurd (by decide) q)))
  refine g_iload C X179 d0_255 rfl (g_iload C X179 d0_257 rfl (g_icmpn (hI_ne _ _) C X179 d0_259 (fun q => absurd rfl q) (fun _ => ?_)))
  refine g_aload C X179 d0_262 rfl rfl (g_iconst 0 C X179 d0_264 rfl (g_baload C X179 V179 d0_265 (by decide) (by decide) (own_getI _ _) (g_aload C X179 d0_266 rfl rfl (g_iconst 0 C X179 d0_268 rfl ?_))))
  have f180 := (Arv.keep hV2 K179 (ninS (Ne.symm ne3) nin0))
  refine g_baload C X179 f180 d0_269 (by decide) (by decide) (own_getI _ _) (g_icmpn (hI_ne _ _) C X179 d0_270 (fun q => absurd rfl q) (fun _ => ?_))
  refine g_aload C X179 d0_273 rfl rfl (g_iconst 1 C X179 d0_275 rfl (g_baload C X179 V179 d0_276 (by decide) (by decide) (own_getI _ _) (g_aload C X179 d0_277 rfl rfl (g_iconst 1 C X179 d0_279 rfl (g_baload C X179 f180 d0_280 (by decide) (by decide) (own_getI _ _) (g_icmpn (hI_ne _ _) C X179 d0_281 (fun q => absurd rfl q) (fun _ => ?_)))))))
  refine g_aload C X179 d0_284 rfl rfl (g_iconst 2 C X179 d0_286 rfl (g_baload C X179 V179 d0_287 (by decide) (by decide) (own_getI _ _) (g_aload C X179 d0_288 rfl rfl (g_iconst 2 C X179 d0_290 rfl (g_baload C X179 f180 d0_291 (by decide) (by decide) (own_getI _ _) (g_icmpn (hI_ne _ _) C X179 d0_292 (fun q => absurd rfl q) (fun _ => ?_)))))))
  refine g_aload C X179 d0_295 rfl rfl (g_iconst 3 C X179 d0_297 rfl (g_baload C X179 V179 d0_298 (by decide) (by decide) (own_getI _ _) (g_aload C X179 d0_299 rfl rfl (g_iconst 3 C X179 d0_301 rfl (g_baload C X179 f180 d0_302 (by decide) (by decide) (own_getI _ _) (g_icmpn (hI_ne _ _) C X179 d0_303 (fun q => absurd rfl q) (fun _ => ?_)))))))
  refine g_aload C X179 d0_306 rfl rfl (g_iconst 4 C X179 d0_308 rfl (g_baload C X179 V179 d0_309 (by decide) (by decide) (own_getI _ _) (g_aload C X179 d0_310 rfl rfl (g_iconst 4 C X179 d0_312 rfl (g_baload C X179 f180 d0_313 (by decide) (by decide) (own_getI _ _) (g_icmpn (hI_ne _ _) C X179 d0_314 (fun q => absurd rfl q) (fun _ => ?_)))))))
  refine g_aload C X179 d0_317 rfl rfl (g_iconst 5 C X179 d0_319 rfl (g_baload C X179 V179 d0_320 (by decide) (by decide) (own_getI _ _) (g_aload C X179 d0_321 rfl rfl (g_iconst 5 C X179 d0_323 rfl (g_baload C X179 f180 d0_324 (by decide) (by decide) (own_getI _ _) (g_icmpn (hI_ne _ _) C X179 d0_325 (fun q => absurd rfl q) (fun _ => ?_)))))))
  refine g_aload C X179 d0_328 rfl rfl (g_bipush 6 C X179 d0_330 rfl (g_baload C X179 V179 d0_332 (by decide) (by decide) (own_getI _ _) (g_aload C X179 d0_333 rfl rfl (g_bipush 6 C X179 d0_335 rfl (g_baload C X179 f180 d0_337 (by decide) (by decide) (own_getI _ _) (g_icmpn (hI_ne _ _) C X179 d0_338 (fun q => absurd rfl q) (fun _ => ?_)))))))
  refine g_aload C X179 d0_341 rfl rfl (g_bipush 7 C X179 d0_343 rfl (g_baload C X179 V179 d0_345 (by decide) (by decide) (own_getI _ _) (g_aload C X179 d0_346 rfl rfl (g_bipush 7 C X179 d0_348 rfl (g_baload C X179 f180 d0_350 (by decide) (by decide) (own_getI _ _) (g_icmpn (hI_ne _ _) C X179 d0_351 (fun q => absurd rfl q) (fun _ => ?_)))))))
  refine g_aload C X179 d0_354 rfl rfl (g_bipush 8 C X179 d0_356 rfl (g_baload C X179 V179 d0_358 (by decide) (by decide) (own_getI _ _) (g_aload C X179 d0_359 rfl rfl (g_bipush 8 C X179 d0_361 rfl (g_baload C X179 f180 d0_363 (by decide) (by decide) (own_getI _ _) (g_icmpn (hI_ne _ _) C X179 d0_364 (fun q => absurd rfl q) (fun _ => ?_)))))))
  refine g_iconst 1 C X179 d0_367 rfl (g_goto C X179 d0_368 ?_)
  have kp181 := (Keep.refl h [ez]).trans K179 (allS (Or.inl (by simp)) all0)
  have I182 := Lits.keep I0 kp181 (sfS sf1 sf0)
  have sf183 := Lits.safe I0 kp181 (sfS sf1 sf0) sf1
  have sf184 := Lits.safe I0 kp181 (sfS sf1 sf0) sf2
  exact goes_L I182 (own_EW hw) C.hZ (g_retN C X179 (by simp) d0_372 (1 : Int32) rfl (by decide) (by decide) ⟨rfl, rfl⟩)
theorem d0_227 : Dc code 227 (.iload 5) 2 229 := ⟨at_227, rfl⟩
theorem d0_229 : Dc code 229 (.aload 11) 2 231 := ⟨at_229, rfl⟩
theorem d0_231 : Dc code 231 (.iload 17) 2 233 := ⟨at_231, rfl⟩
theorem d0_233 : Dc code 233 (.invokestatic 24) 3 236 := ⟨at_233, rfl⟩
theorem pd_12 : parseMethodDescriptor "(I[BI)I" = some ⟨[.int, (.array .byte), .int], some .int⟩ := by decide +kernel
theorem d0_236 : Dc code 236 (.istore 17) 2 238 := ⟨at_236, rfl⟩
theorem seg1L {p : Program} {l : Launch} {e : Env} {s : State} {m : MethodId} {A : Array Value} {below : List Frame} {meth : Method} {c : Code} {Z : State} {a0 : Array Value} (hw : ∀ d ∈ tables_1, d.before a0 Z = true) {T0 : State} {h : Heap} {vm0 : Vm} (s0 s1 s2 s3 s4 s9 s12 s13 s14 : Slot) (a b pz : Int32) (x ez e2 : Addr) (z_ : Int32) (SZ : Sta Z Z.heap "java/lang/String" "COMPACT_STRINGS" "Z" (.int z_)) (hz : ¬ z_ = 0) (fm_ : Value) (SF : Sta Z Z.heap "jdk/internal/util/Preconditions" "SIOOBE_FORMATTER" "Ljava/util/function/BiFunction;" fm_) (rf_ : fm_.isRef = true) (S1 : Sta Z Z.heap "java/lang/StringUTF16" "$assertionsDisabled" "Z" (.int (1 : Int32))) (S2 : Sta Z Z.heap "java/lang/StringUTF16" "HI_BYTE_SHIFT" "I" (.int (0 : Int32))) (S3 : Sta Z Z.heap "java/lang/StringUTF16" "LO_BYTE_SHIFT" "I" (.int (8 : Int32))) (t : Addr) (kt : ClassId) (ke ke2 : ClassId) (bs : List Int32) (C : Cx p (s.setVm vm0) m meth c Z "com/example/chapeau/chapeau/link/PackedStringsEncodePinLaw" "law" code maxLocals ret) (X0 : St p l e room_1 (s.setVm vm0) m A below meth c Z T0 h 16 200) (I0 : Lits Z consts_1 s vm0 h) (EX : Exa Z h x "java/lang/String") (FC : Fld Z h x "java/lang/String" "coder" "B" (.int (0 : Int32))) (FV : Fld Z h x "java/lang/String" "value" "[B" (.ref t)) (VT : Arv Z h t kt .byte 1 [(.int (a.toInt8.toInt32))] (.int (0 : Int32))) (ha : (¬ a < 0 ∧ ¬ (65535 : Int32) < a)) (hb : (¬ b < 0 ∧ ¬ (65535 : Int32) < b)) (la : ¬ (255 : Int32) < a) (hp : ¬ pz < 0 ∧ ¬ (3 : Int32) < pz) (hV : Arv Z h ez ke .byte 9 (bs.map Value.int) (.int (0 : Int32))) (hV2 : Arv Z h e2 ke2 .byte 9 (bs.map Value.int) (.int (0 : Int32))) (hlen : bs.length = 9) (hn : Z.heap.size ≤ ez) (hn2 : Z.heap.size ≤ e2) (ne1 : ez ≠ x) (ne2 : ez ≠ t) (ne3 : ez ≠ e2) (sf1 : Safe Z consts_1 vm0 h ez) (sf2 : Safe Z consts_1 vm0 h e2) :
    Goes p e below (EndL Z consts_1 s 32 1216 (fun v' h' => v' = some (.int 1))) T0 (mkF m 206 #[s0, s1, s2, s3, s4, .val (.int a), .val (.int b), .val (.int pz), .val (.int 1), s9, .val (.ref ez), .val (.ref e2), s12, s13, s14, .val (.ref x), .unset, .unset] []) := by
  refine g_aload C X0 d0_206 rfl rfl (g_aload C X0 d0_208 rfl rfl (g_iload C X0 d0_210 rfl (g_static (argsL := [(.ref x), (.ref ez), (.int pz)]) (st := []) C X0 (wd hw 49 rfl) (wd hw 50 rfl) (wd hw 51 rfl) (wd hw 52 rfl) (by decide) (pay_of (W' := 0) (rEs1L l hw X0.ext x ez pz z_ SZ hz fm_ SF rf_ S1 S2 S3 t kt a b ke bs EX FC FV VT ha hb la hp hV hlen hn ne1 ne2) C.hZ (wd hw 52 rfl) (wd hw 51 rfl) (by decide) (by decide)) pd_11 rfl rfl _ rfl (Nat.le_of_eq rfl) d0_212 (by decide) (by decide) (fun T185 h185 v185 q185 X185 => ?_))))
  obtain ⟨rfl, K185, V185⟩ := q185
  show Goes p e below _ T185 (mkF m 215 #[s0, s1, s2, s3, s4, .val (.int a), .val (.int b), .val (.int pz), .val (.int 1), s9, .val (.ref ez), .val (.ref e2), s12, s13, s14, .val (.ref x), .unset, .unset] [(.int (encP a pz))])
  refine g_istore C X185 d0_215 (l' := #[s0, s1, s2, s3, s4, .val (.int a), .val (.int b), .val (.int pz), .val (.int 1), s9, .val (.ref ez), .val (.ref e2), s12, s13, s14, .val (.ref x), .val (.int (encP a pz)), .unset]) rfl (g_iload C X185 d0_217 rfl (g_istore C X185 d0_219 (l' := #[s0, s1, s2, s3, s4, .val (.int a), .val (.int b), .val (.int pz), .val (.int 1), s9, .val (.ref ez), .val (.ref e2), s12, s13, s14, .val (.ref x), .val (.int (encP a pz)), .val (.int pz)]) rfl (g_iload C X185 d0_221 rfl (g_iconst 1 C X185 d0_223 rfl (g_icmp (hI_lt _ _) C X185 d0_224 (fun q => absurd q (by decide)) (fun _ => ?_))))))
  refine g_iload C X185 d0_227 rfl (g_aload C X185 d0_229 rfl rfl (g_iload C X185 d0_231 rfl ?_))
  have f186 := (Arv.keep hV2 K185 (ninS (Ne.symm ne3) nin0))
  refine g_static (argsL := [(.int a), (.ref e2), (.int pz)]) (st := []) C X185 (wd hw 94 rfl) (wd hw 95 rfl) (wd hw 96 rfl) (wd hw 97 rfl) (by decide) (pay_of (W' := 0) (rPut l hw X185.ext a e2 pz ke2 bs ha (own_w hp) f186 hlen hn2) C.hZ (wd hw 97 rfl) (wd hw 96 rfl) (by decide) (by decide)) pd_12 rfl rfl _ rfl (Nat.le_of_eq rfl) d0_233 (by decide) (by decide) (fun T187 h187 v187 q187 X187 => ?_)
  obtain ⟨rfl, K187, V187⟩ := q187
  show Goes p e below _ T187 (mkF m 236 #[s0, s1, s2, s3, s4, .val (.int a), .val (.int b), .val (.int pz), .val (.int 1), s9, .val (.ref ez), .val (.ref e2), s12, s13, s14, .val (.ref x), .val (.int (encP a pz)), .val (.int pz)] [(.int (encP a pz))])
  refine g_istore C X187 d0_236 (l' := #[s0, s1, s2, s3, s4, .val (.int a), .val (.int b), .val (.int pz), .val (.int 1), s9, .val (.ref ez), .val (.ref e2), s12, s13, s14, .val (.ref x), .val (.int (encP a pz)), .val (.int (encP a pz))]) rfl (g_iload C X187 d0_238 rfl (g_iconst 2 C X187 d0_240 rfl (g_icmp (hI_lt _ _) C X187 d0_241 (fun _ => ?_) (fun q => absurd (by decide) q))))
  refine g_iload C X187 d0_255 rfl (g_iload C X187 d0_257 rfl (g_icmpn (hI_ne _ _) C X187 d0_259 (fun q => absurd rfl q) (fun _ => ?_)))
  refine g_aload C X187 d0_262 rfl rfl (g_iconst 0 C X187 d0_264 rfl ?_)
  have f188 := (Arv.keep V185 K187 (ninS ne3 nin0))
  refine g_baload C X187 f188 d0_265 (by decide) (by decide) (own_getI _ _) (g_aload C X187 d0_266 rfl rfl (g_iconst 0 C X187 d0_268 rfl (g_baload C X187 V187 d0_269 (by decide) (by decide) (own_getI _ _) (g_icmpn (hI_ne _ _) C X187 d0_270 (fun q => absurd rfl q) (fun _ => ?_)))))
  refine g_aload C X187 d0_273 rfl rfl (g_iconst 1 C X187 d0_275 rfl (g_baload C X187 f188 d0_276 (by decide) (by decide) (own_getI _ _) (g_aload C X187 d0_277 rfl rfl (g_iconst 1 C X187 d0_279 rfl (g_baload C X187 V187 d0_280 (by decide) (by decide) (own_getI _ _) (g_icmpn (hI_ne _ _) C X187 d0_281 (fun q => absurd rfl q) (fun _ => ?_)))))))
  refine g_aload C X187 d0_284 rfl rfl (g_iconst 2 C X187 d0_286 rfl (g_baload C X187 f188 d0_287 (by decide) (by decide) (own_getI _ _) (g_aload C X187 d0_288 rfl rfl (g_iconst 2 C X187 d0_290 rfl (g_baload C X187 V187 d0_291 (by decide) (by decide) (own_getI _ _) (g_icmpn (hI_ne _ _) C X187 d0_292 (fun q => absurd rfl q) (fun _ => ?_)))))))
  refine g_aload C X187 d0_295 rfl rfl (g_iconst 3 C X187 d0_297 rfl (g_baload C X187 f188 d0_298 (by decide) (by decide) (own_getI _ _) (g_aload C X187 d0_299 rfl rfl (g_iconst 3 C X187 d0_301 rfl (g_baload C X187 V187 d0_302 (by decide) (by decide) (own_getI _ _) (g_icmpn (hI_ne _ _) C X187 d0_303 (fun q => absurd rfl q) (fun _ => ?_)))))))
  refine g_aload C X187 d0_306 rfl rfl (g_iconst 4 C X187 d0_308 rfl (g_baload C X187 f188 d0_309 (by decide) (by decide) (own_getI _ _) (g_aload C X187 d0_310 rfl rfl (g_iconst 4 C X187 d0_312 rfl (g_baload C X187 V187 d0_313 (by decide) (by decide) (own_getI _ _) (g_icmpn (hI_ne _ _) C X187 d0_314 (fun q => absurd rfl q) (fun _ => ?_)))))))
  refine g_aload C X187 d0_317 rfl rfl (g_iconst 5 C X187 d0_319 rfl (g_baload C X187 f188 d0_320 (by decide) (by decide) (own_getI _ _) (g_aload C X187 d0_321 rfl rfl (g_iconst 5 C X187 d0_323 rfl (g_baload C X187 V187 d0_324 (by decide) (by decide) (own_getI _ _) (g_icmpn (hI_ne _ _) C X187 d0_325 (fun q => absurd rfl q) (fun _ => ?_)))))))
  refine g_aload C X187 d0_328 rfl rfl (g_bipush 6 C X187 d0_330 rfl (g_baload C X187 f188 d0_332 (by decide) (by decide) (own_getI _ _) (g_aload C X187 d0_333 rfl rfl (g_bipush 6 C X187 d0_335 rfl (g_baload C X187 V187 d0_337 (by decide) (by decide) (own_getI _ _) (g_icmpn (hI_ne _ _) C X187 d0_338 (fun q => absurd rfl q) (fun _ => ?_)))))))
  refine g_aload C X187 d0_341 rfl rfl (g_bipush 7 C X187 d0_343 rfl (g_baload C X187 f188 d0_345 (by decide) (by decide) (own_getI _ _) (g_aload C X187 d0_346 rfl rfl (g_bipush 7 C X187 d0_348 rfl (g_baload C X187 V187 d0_350 (by decide) (by decide) (own_getI _ _) (g_icmpn (hI_ne _ _) C X187 d0_351 (fun q => absurd rfl q) (fun _ => ?_)))))))
  refine g_aload C X187 d0_354 rfl rfl (g_bipush 8 C X187 d0_356 rfl (g_baload C X187 f188 d0_358 (by decide) (by decide) (own_getI _ _) (g_aload C X187 d0_359 rfl rfl (g_bipush 8 C X187 d0_361 rfl (g_baload C X187 V187 d0_363 (by decide) (by decide) (own_getI _ _) (g_icmpn (hI_ne _ _) C X187 d0_364 (fun q => absurd rfl q) (fun _ => ?_)))))))
  refine g_iconst 1 C X187 d0_367 rfl (g_goto C X187 d0_368 ?_)
  have kp189 := (Keep.refl h [ez, e2]).trans K185 (allS (Or.inl (by simp)) all0)
  have kp190 := kp189.trans K187 (allS (Or.inl (by simp)) all0)
  have I191 := Lits.keep I0 kp190 (sfS sf1 (sfS sf2 sf0))
  have sf192 := Lits.safe I0 kp190 (sfS sf1 (sfS sf2 sf0)) sf1
  have sf193 := Lits.safe I0 kp190 (sfS sf1 (sfS sf2 sf0)) sf2
  exact goes_L I191 (own_EW hw) C.hZ (g_retN C X187 (by simp) d0_372 (1 : Int32) rfl (by decide) (by decide) ⟨rfl, rfl⟩)
theorem seg1U {p : Program} {l : Launch} {e : Env} {s : State} {m : MethodId} {A : Array Value} {below : List Frame} {meth : Method} {c : Code} {Z : State} {a0 : Array Value} (hw : ∀ d ∈ tables_1, d.before a0 Z = true) {T0 : State} {h : Heap} {vm0 : Vm} (s0 s1 s2 s3 s4 s9 s12 s13 s14 : Slot) (a b pz : Int32) (x ez e2 : Addr) (z_ : Int32) (SZ : Sta Z Z.heap "java/lang/String" "COMPACT_STRINGS" "Z" (.int z_)) (hz : ¬ z_ = 0) (fm_ : Value) (SF : Sta Z Z.heap "jdk/internal/util/Preconditions" "SIOOBE_FORMATTER" "Ljava/util/function/BiFunction;" fm_) (rf_ : fm_.isRef = true) (S1 : Sta Z Z.heap "java/lang/StringUTF16" "$assertionsDisabled" "Z" (.int (1 : Int32))) (S2 : Sta Z Z.heap "java/lang/StringUTF16" "HI_BYTE_SHIFT" "I" (.int (0 : Int32))) (S3 : Sta Z Z.heap "java/lang/StringUTF16" "LO_BYTE_SHIFT" "I" (.int (8 : Int32))) (t : Addr) (kt : ClassId) (ke ke2 : ClassId) (bs : List Int32) (C : Cx p (s.setVm vm0) m meth c Z "com/example/chapeau/chapeau/link/PackedStringsEncodePinLaw" "law" code maxLocals ret) (X0 : St p l e room_1 (s.setVm vm0) m A below meth c Z T0 h 16 200) (I0 : Lits Z consts_1 s vm0 h) (EX : Exa Z h x "java/lang/String") (FC : Fld Z h x "java/lang/String" "coder" "B" (.int (1 : Int32))) (FV : Fld Z h x "java/lang/String" "value" "[B" (.ref t)) (VT : Arv Z h t kt .byte 2 [(.int ((a >>> ((0 : Int32) &&& 31)).toInt8.toInt32)), (.int ((a >>> ((8 : Int32) &&& 31)).toInt8.toInt32))] (.int (0 : Int32))) (ha : (¬ a < 0 ∧ ¬ (65535 : Int32) < a)) (hb : (¬ b < 0 ∧ ¬ (65535 : Int32) < b))  (hp : ¬ pz < 0 ∧ ¬ (3 : Int32) < pz) (hV : Arv Z h ez ke .byte 9 (bs.map Value.int) (.int (0 : Int32))) (hV2 : Arv Z h e2 ke2 .byte 9 (bs.map Value.int) (.int (0 : Int32))) (hlen : bs.length = 9) (hn : Z.heap.size ≤ ez) (hn2 : Z.heap.size ≤ e2) (ne1 : ez ≠ x) (ne2 : ez ≠ t) (ne3 : ez ≠ e2) (sf1 : Safe Z consts_1 vm0 h ez) (sf2 : Safe Z consts_1 vm0 h e2) :
    Goes p e below (EndL Z consts_1 s 32 1216 (fun v' h' => v' = some (.int 1))) T0 (mkF m 206 #[s0, s1, s2, s3, s4, .val (.int a), .val (.int b), .val (.int pz), .val (.int 1), s9, .val (.ref ez), .val (.ref e2), s12, s13, s14, .val (.ref x), .unset, .unset] []) := by
  refine g_aload C X0 d0_206 rfl rfl (g_aload C X0 d0_208 rfl rfl (g_iload C X0 d0_210 rfl (g_static (argsL := [(.ref x), (.ref ez), (.int pz)]) (st := []) C X0 (wd hw 49 rfl) (wd hw 50 rfl) (wd hw 51 rfl) (wd hw 52 rfl) (by decide) (pay_of (W' := 0) (rEs1U l hw X0.ext x ez pz z_ SZ hz fm_ SF rf_ S1 S2 S3 t kt a b ke bs EX FC FV VT ha hb hp hV hlen hn ne1 ne2) C.hZ (wd hw 52 rfl) (wd hw 51 rfl) (by decide) (by decide)) pd_11 rfl rfl _ rfl (Nat.le_of_eq rfl) d0_212 (by decide) (by decide) (fun T194 h194 v194 q194 X194 => ?_))))
  obtain ⟨rfl, K194, V194⟩ := q194
  show Goes p e below _ T194 (mkF m 215 #[s0, s1, s2, s3, s4, .val (.int a), .val (.int b), .val (.int pz), .val (.int 1), s9, .val (.ref ez), .val (.ref e2), s12, s13, s14, .val (.ref x), .unset, .unset] [(.int (encP a pz))])
  refine g_istore C X194 d0_215 (l' := #[s0, s1, s2, s3, s4, .val (.int a), .val (.int b), .val (.int pz), .val (.int 1), s9, .val (.ref ez), .val (.ref e2), s12, s13, s14, .val (.ref x), .val (.int (encP a pz)), .unset]) rfl (g_iload C X194 d0_217 rfl (g_istore C X194 d0_219 (l' := #[s0, s1, s2, s3, s4, .val (.int a), .val (.int b), .val (.int pz), .val (.int 1), s9, .val (.ref ez), .val (.ref e2), s12, s13, s14, .val (.ref x), .val (.int (encP a pz)), .val (.int pz)]) rfl (g_iload C X194 d0_221 rfl (g_iconst 1 C X194 d0_223 rfl (g_icmp (hI_lt _ _) C X194 d0_224 (fun q => absurd q (by decide)) (fun _ => ?_))))))
  refine g_iload C X194 d0_227 rfl (g_aload C X194 d0_229 rfl rfl (g_iload C X194 d0_231 rfl ?_))
  have f195 := (Arv.keep hV2 K194 (ninS (Ne.symm ne3) nin0))
  refine g_static (argsL := [(.int a), (.ref e2), (.int pz)]) (st := []) C X194 (wd hw 94 rfl) (wd hw 95 rfl) (wd hw 96 rfl) (wd hw 97 rfl) (by decide) (pay_of (W' := 0) (rPut l hw X194.ext a e2 pz ke2 bs ha (own_w hp) f195 hlen hn2) C.hZ (wd hw 97 rfl) (wd hw 96 rfl) (by decide) (by decide)) pd_12 rfl rfl _ rfl (Nat.le_of_eq rfl) d0_233 (by decide) (by decide) (fun T196 h196 v196 q196 X196 => ?_)
  obtain ⟨rfl, K196, V196⟩ := q196
  show Goes p e below _ T196 (mkF m 236 #[s0, s1, s2, s3, s4, .val (.int a), .val (.int b), .val (.int pz), .val (.int 1), s9, .val (.ref ez), .val (.ref e2), s12, s13, s14, .val (.ref x), .val (.int (encP a pz)), .val (.int pz)] [(.int (encP a pz))])
  refine g_istore C X196 d0_236 (l' := #[s0, s1, s2, s3, s4, .val (.int a), .val (.int b), .val (.int pz), .val (.int 1), s9, .val (.ref ez), .val (.ref e2), s12, s13, s14, .val (.ref x), .val (.int (encP a pz)), .val (.int (encP a pz))]) rfl (g_iload C X196 d0_238 rfl (g_iconst 2 C X196 d0_240 rfl (g_icmp (hI_lt _ _) C X196 d0_241 (fun _ => ?_) (fun q => absurd (by decide) q))))
  refine g_iload C X196 d0_255 rfl (g_iload C X196 d0_257 rfl (g_icmpn (hI_ne _ _) C X196 d0_259 (fun q => absurd rfl q) (fun _ => ?_)))
  refine g_aload C X196 d0_262 rfl rfl (g_iconst 0 C X196 d0_264 rfl ?_)
  have f197 := (Arv.keep V194 K196 (ninS ne3 nin0))
  refine g_baload C X196 f197 d0_265 (by decide) (by decide) (own_getI _ _) (g_aload C X196 d0_266 rfl rfl (g_iconst 0 C X196 d0_268 rfl (g_baload C X196 V196 d0_269 (by decide) (by decide) (own_getI _ _) (g_icmpn (hI_ne _ _) C X196 d0_270 (fun q => absurd rfl q) (fun _ => ?_)))))
  refine g_aload C X196 d0_273 rfl rfl (g_iconst 1 C X196 d0_275 rfl (g_baload C X196 f197 d0_276 (by decide) (by decide) (own_getI _ _) (g_aload C X196 d0_277 rfl rfl (g_iconst 1 C X196 d0_279 rfl (g_baload C X196 V196 d0_280 (by decide) (by decide) (own_getI _ _) (g_icmpn (hI_ne _ _) C X196 d0_281 (fun q => absurd rfl q) (fun _ => ?_)))))))
  refine g_aload C X196 d0_284 rfl rfl (g_iconst 2 C X196 d0_286 rfl (g_baload C X196 f197 d0_287 (by decide) (by decide) (own_getI _ _) (g_aload C X196 d0_288 rfl rfl (g_iconst 2 C X196 d0_290 rfl (g_baload C X196 V196 d0_291 (by decide) (by decide) (own_getI _ _) (g_icmpn (hI_ne _ _) C X196 d0_292 (fun q => absurd rfl q) (fun _ => ?_)))))))
  refine g_aload C X196 d0_295 rfl rfl (g_iconst 3 C X196 d0_297 rfl (g_baload C X196 f197 d0_298 (by decide) (by decide) (own_getI _ _) (g_aload C X196 d0_299 rfl rfl (g_iconst 3 C X196 d0_301 rfl (g_baload C X196 V196 d0_302 (by decide) (by decide) (own_getI _ _) (g_icmpn (hI_ne _ _) C X196 d0_303 (fun q => absurd rfl q) (fun _ => ?_)))))))
  refine g_aload C X196 d0_306 rfl rfl (g_iconst 4 C X196 d0_308 rfl (g_baload C X196 f197 d0_309 (by decide) (by decide) (own_getI _ _) (g_aload C X196 d0_310 rfl rfl (g_iconst 4 C X196 d0_312 rfl (g_baload C X196 V196 d0_313 (by decide) (by decide) (own_getI _ _) (g_icmpn (hI_ne _ _) C X196 d0_314 (fun q => absurd rfl q) (fun _ => ?_)))))))
  refine g_aload C X196 d0_317 rfl rfl (g_iconst 5 C X196 d0_319 rfl (g_baload C X196 f197 d0_320 (by decide) (by decide) (own_getI _ _) (g_aload C X196 d0_321 rfl rfl (g_iconst 5 C X196 d0_323 rfl (g_baload C X196 V196 d0_324 (by decide) (by decide) (own_getI _ _) (g_icmpn (hI_ne _ _) C X196 d0_325 (fun q => absurd rfl q) (fun _ => ?_)))))))
  refine g_aload C X196 d0_328 rfl rfl (g_bipush 6 C X196 d0_330 rfl (g_baload C X196 f197 d0_332 (by decide) (by decide) (own_getI _ _) (g_aload C X196 d0_333 rfl rfl (g_bipush 6 C X196 d0_335 rfl (g_baload C X196 V196 d0_337 (by decide) (by decide) (own_getI _ _) (g_icmpn (hI_ne _ _) C X196 d0_338 (fun q => absurd rfl q) (fun _ => ?_)))))))
  refine g_aload C X196 d0_341 rfl rfl (g_bipush 7 C X196 d0_343 rfl (g_baload C X196 f197 d0_345 (by decide) (by decide) (own_getI _ _) (g_aload C X196 d0_346 rfl rfl (g_bipush 7 C X196 d0_348 rfl (g_baload C X196 V196 d0_350 (by decide) (by decide) (own_getI _ _) (g_icmpn (hI_ne _ _) C X196 d0_351 (fun q => absurd rfl q) (fun _ => ?_)))))))
  refine g_aload C X196 d0_354 rfl rfl (g_bipush 8 C X196 d0_356 rfl (g_baload C X196 f197 d0_358 (by decide) (by decide) (own_getI _ _) (g_aload C X196 d0_359 rfl rfl (g_bipush 8 C X196 d0_361 rfl (g_baload C X196 V196 d0_363 (by decide) (by decide) (own_getI _ _) (g_icmpn (hI_ne _ _) C X196 d0_364 (fun q => absurd rfl q) (fun _ => ?_)))))))
  refine g_iconst 1 C X196 d0_367 rfl (g_goto C X196 d0_368 ?_)
  have kp198 := (Keep.refl h [ez, e2]).trans K194 (allS (Or.inl (by simp)) all0)
  have kp199 := kp198.trans K196 (allS (Or.inl (by simp)) all0)
  have I200 := Lits.keep I0 kp199 (sfS sf1 (sfS sf2 sf0))
  have sf201 := Lits.safe I0 kp199 (sfS sf1 (sfS sf2 sf0)) sf1
  have sf202 := Lits.safe I0 kp199 (sfS sf1 (sfS sf2 sf0)) sf2
  exact goes_L I200 (own_EW hw) C.hZ (g_retN C X196 (by simp) d0_372 (1 : Int32) rfl (by decide) (by decide) ⟨rfl, rfl⟩)
theorem d0_244 : Dc code 244 (.iload 6) 2 246 := ⟨at_244, rfl⟩
theorem d0_246 : Dc code 246 (.aload 11) 2 248 := ⟨at_246, rfl⟩
theorem d0_248 : Dc code 248 (.iload 17) 2 250 := ⟨at_248, rfl⟩
theorem d0_250 : Dc code 250 (.invokestatic 24) 3 253 := ⟨at_250, rfl⟩
theorem d0_253 : Dc code 253 (.istore 17) 2 255 := ⟨at_253, rfl⟩
theorem seg2L {p : Program} {l : Launch} {e : Env} {s : State} {m : MethodId} {A : Array Value} {below : List Frame} {meth : Method} {c : Code} {Z : State} {a0 : Array Value} (hw : ∀ d ∈ tables_1, d.before a0 Z = true) {T0 : State} {h : Heap} {vm0 : Vm} (s0 s1 s2 s3 s4 s9 s12 s13 s14 : Slot) (a b pz : Int32) (x ez e2 : Addr) (z_ : Int32) (SZ : Sta Z Z.heap "java/lang/String" "COMPACT_STRINGS" "Z" (.int z_)) (hz : ¬ z_ = 0) (fm_ : Value) (SF : Sta Z Z.heap "jdk/internal/util/Preconditions" "SIOOBE_FORMATTER" "Ljava/util/function/BiFunction;" fm_) (rf_ : fm_.isRef = true) (S1 : Sta Z Z.heap "java/lang/StringUTF16" "$assertionsDisabled" "Z" (.int (1 : Int32))) (S2 : Sta Z Z.heap "java/lang/StringUTF16" "HI_BYTE_SHIFT" "I" (.int (0 : Int32))) (S3 : Sta Z Z.heap "java/lang/StringUTF16" "LO_BYTE_SHIFT" "I" (.int (8 : Int32))) (t : Addr) (kt : ClassId) (ke ke2 : ClassId) (bs : List Int32) (C : Cx p (s.setVm vm0) m meth c Z "com/example/chapeau/chapeau/link/PackedStringsEncodePinLaw" "law" code maxLocals ret) (X0 : St p l e room_1 (s.setVm vm0) m A below meth c Z T0 h 16 200) (I0 : Lits Z consts_1 s vm0 h) (EX : Exa Z h x "java/lang/String") (FC : Fld Z h x "java/lang/String" "coder" "B" (.int (0 : Int32))) (FV : Fld Z h x "java/lang/String" "value" "[B" (.ref t)) (VT : Arv Z h t kt .byte 2 [(.int (a.toInt8.toInt32)), (.int (b.toInt8.toInt32))] (.int (0 : Int32))) (ha : (¬ a < 0 ∧ ¬ (65535 : Int32) < a)) (hb : (¬ b < 0 ∧ ¬ (65535 : Int32) < b)) (la : ¬ (255 : Int32) < a) (lb : ¬ (255 : Int32) < b) (hp : ¬ pz < 0 ∧ ¬ (3 : Int32) < pz) (hV : Arv Z h ez ke .byte 9 (bs.map Value.int) (.int (0 : Int32))) (hV2 : Arv Z h e2 ke2 .byte 9 (bs.map Value.int) (.int (0 : Int32))) (hlen : bs.length = 9) (hn : Z.heap.size ≤ ez) (hn2 : Z.heap.size ≤ e2) (ne1 : ez ≠ x) (ne2 : ez ≠ t) (ne3 : ez ≠ e2) (sf1 : Safe Z consts_1 vm0 h ez) (sf2 : Safe Z consts_1 vm0 h e2) :
    Goes p e below (EndL Z consts_1 s 32 1216 (fun v' h' => v' = some (.int 1))) T0 (mkF m 206 #[s0, s1, s2, s3, s4, .val (.int a), .val (.int b), .val (.int pz), .val (.int 2), s9, .val (.ref ez), .val (.ref e2), s12, s13, s14, .val (.ref x), .unset, .unset] []) := by
  refine g_aload C X0 d0_206 rfl rfl (g_aload C X0 d0_208 rfl rfl (g_iload C X0 d0_210 rfl (g_static (argsL := [(.ref x), (.ref ez), (.int pz)]) (st := []) C X0 (wd hw 49 rfl) (wd hw 50 rfl) (wd hw 51 rfl) (wd hw 52 rfl) (by decide) (pay_of (W' := 0) (rEs2L l hw X0.ext x ez pz z_ SZ hz fm_ SF rf_ S1 S2 S3 t kt a b ke bs EX FC FV VT ha hb la lb hp hV hlen hn ne1 ne2) C.hZ (wd hw 52 rfl) (wd hw 51 rfl) (by decide) (by decide)) pd_11 rfl rfl _ rfl (Nat.le_of_eq rfl) d0_212 (by decide) (by decide) (fun T203 h203 v203 q203 X203 => ?_))))
  obtain ⟨rfl, K203, V203⟩ := q203
  show Goes p e below _ T203 (mkF m 215 #[s0, s1, s2, s3, s4, .val (.int a), .val (.int b), .val (.int pz), .val (.int 2), s9, .val (.ref ez), .val (.ref e2), s12, s13, s14, .val (.ref x), .unset, .unset] [(.int (encP b (encP a pz)))])
  refine g_istore C X203 d0_215 (l' := #[s0, s1, s2, s3, s4, .val (.int a), .val (.int b), .val (.int pz), .val (.int 2), s9, .val (.ref ez), .val (.ref e2), s12, s13, s14, .val (.ref x), .val (.int (encP b (encP a pz))), .unset]) rfl (g_iload C X203 d0_217 rfl (g_istore C X203 d0_219 (l' := #[s0, s1, s2, s3, s4, .val (.int a), .val (.int b), .val (.int pz), .val (.int 2), s9, .val (.ref ez), .val (.ref e2), s12, s13, s14, .val (.ref x), .val (.int (encP b (encP a pz))), .val (.int pz)]) rfl (g_iload C X203 d0_221 rfl (g_iconst 1 C X203 d0_223 rfl (g_icmp (hI_lt _ _) C X203 d0_224 (fun q => absurd q (by decide)) (fun _ => ?_))))))
  refine g_iload C X203 d0_227 rfl (g_aload C X203 d0_229 rfl rfl (g_iload C X203 d0_231 rfl ?_))
  have f204 := (Arv.keep hV2 K203 (ninS (Ne.symm ne3) nin0))
  refine g_static (argsL := [(.int a), (.ref e2), (.int pz)]) (st := []) C X203 (wd hw 94 rfl) (wd hw 95 rfl) (wd hw 96 rfl) (wd hw 97 rfl) (by decide) (pay_of (W' := 0) (rPut l hw X203.ext a e2 pz ke2 bs ha (own_w hp) f204 hlen hn2) C.hZ (wd hw 97 rfl) (wd hw 96 rfl) (by decide) (by decide)) pd_12 rfl rfl _ rfl (Nat.le_of_eq rfl) d0_233 (by decide) (by decide) (fun T205 h205 v205 q205 X205 => ?_)
  obtain ⟨rfl, K205, V205⟩ := q205
  show Goes p e below _ T205 (mkF m 236 #[s0, s1, s2, s3, s4, .val (.int a), .val (.int b), .val (.int pz), .val (.int 2), s9, .val (.ref ez), .val (.ref e2), s12, s13, s14, .val (.ref x), .val (.int (encP b (encP a pz))), .val (.int pz)] [(.int (encP a pz))])
  refine g_istore C X205 d0_236 (l' := #[s0, s1, s2, s3, s4, .val (.int a), .val (.int b), .val (.int pz), .val (.int 2), s9, .val (.ref ez), .val (.ref e2), s12, s13, s14, .val (.ref x), .val (.int (encP b (encP a pz))), .val (.int (encP a pz))]) rfl (g_iload C X205 d0_238 rfl (g_iconst 2 C X205 d0_240 rfl (g_icmp (hI_lt _ _) C X205 d0_241 (fun q => absurd q (by decide)) (fun _ => ?_))))
  refine g_iload C X205 d0_244 rfl (g_aload C X205 d0_246 rfl rfl (g_iload C X205 d0_248 rfl (g_static (argsL := [(.int b), (.ref e2), (.int (encP a pz))]) (st := []) C X205 (wd hw 94 rfl) (wd hw 95 rfl) (wd hw 96 rfl) (wd hw 97 rfl) (by decide) (pay_of (W' := 0) (rPut l hw X205.ext b e2 (encP a pz) ke2 (encL a bs pz) hb (own_pp hp) V205 ((own_len _ _ _).trans hlen) hn2) C.hZ (wd hw 97 rfl) (wd hw 96 rfl) (by decide) (by decide)) pd_12 rfl rfl _ rfl (Nat.le_of_eq rfl) d0_250 (by decide) (by decide) (fun T206 h206 v206 q206 X206 => ?_))))
  obtain ⟨rfl, K206, V206⟩ := q206
  show Goes p e below _ T206 (mkF m 253 #[s0, s1, s2, s3, s4, .val (.int a), .val (.int b), .val (.int pz), .val (.int 2), s9, .val (.ref ez), .val (.ref e2), s12, s13, s14, .val (.ref x), .val (.int (encP b (encP a pz))), .val (.int (encP a pz))] [(.int (encP b (encP a pz)))])
  refine g_istore C X206 d0_253 (l' := #[s0, s1, s2, s3, s4, .val (.int a), .val (.int b), .val (.int pz), .val (.int 2), s9, .val (.ref ez), .val (.ref e2), s12, s13, s14, .val (.ref x), .val (.int (encP b (encP a pz))), .val (.int (encP b (encP a pz)))]) rfl (g_iload C X206 d0_255 rfl (g_iload C X206 d0_257 rfl (g_icmpn (hI_ne _ _) C X206 d0_259 (fun q => absurd rfl q) (fun _ => ?_))))
  refine g_aload C X206 d0_262 rfl rfl (g_iconst 0 C X206 d0_264 rfl ?_)
  have f207 := (Arv.keep (Arv.keep V203 K205 (ninS ne3 nin0)) K206 (ninS ne3 nin0))
  refine g_baload C X206 f207 d0_265 (by decide) (by decide) (own_getI _ _) (g_aload C X206 d0_266 rfl rfl (g_iconst 0 C X206 d0_268 rfl (g_baload C X206 V206 d0_269 (by decide) (by decide) (own_getI _ _) (g_icmpn (hI_ne _ _) C X206 d0_270 (fun q => absurd rfl q) (fun _ => ?_)))))
  refine g_aload C X206 d0_273 rfl rfl (g_iconst 1 C X206 d0_275 rfl (g_baload C X206 f207 d0_276 (by decide) (by decide) (own_getI _ _) (g_aload C X206 d0_277 rfl rfl (g_iconst 1 C X206 d0_279 rfl (g_baload C X206 V206 d0_280 (by decide) (by decide) (own_getI _ _) (g_icmpn (hI_ne _ _) C X206 d0_281 (fun q => absurd rfl q) (fun _ => ?_)))))))
  refine g_aload C X206 d0_284 rfl rfl (g_iconst 2 C X206 d0_286 rfl (g_baload C X206 f207 d0_287 (by decide) (by decide) (own_getI _ _) (g_aload C X206 d0_288 rfl rfl (g_iconst 2 C X206 d0_290 rfl (g_baload C X206 V206 d0_291 (by decide) (by decide) (own_getI _ _) (g_icmpn (hI_ne _ _) C X206 d0_292 (fun q => absurd rfl q) (fun _ => ?_)))))))
  refine g_aload C X206 d0_295 rfl rfl (g_iconst 3 C X206 d0_297 rfl (g_baload C X206 f207 d0_298 (by decide) (by decide) (own_getI _ _) (g_aload C X206 d0_299 rfl rfl (g_iconst 3 C X206 d0_301 rfl (g_baload C X206 V206 d0_302 (by decide) (by decide) (own_getI _ _) (g_icmpn (hI_ne _ _) C X206 d0_303 (fun q => absurd rfl q) (fun _ => ?_)))))))
  refine g_aload C X206 d0_306 rfl rfl (g_iconst 4 C X206 d0_308 rfl (g_baload C X206 f207 d0_309 (by decide) (by decide) (own_getI _ _) (g_aload C X206 d0_310 rfl rfl (g_iconst 4 C X206 d0_312 rfl (g_baload C X206 V206 d0_313 (by decide) (by decide) (own_getI _ _) (g_icmpn (hI_ne _ _) C X206 d0_314 (fun q => absurd rfl q) (fun _ => ?_)))))))
  refine g_aload C X206 d0_317 rfl rfl (g_iconst 5 C X206 d0_319 rfl (g_baload C X206 f207 d0_320 (by decide) (by decide) (own_getI _ _) (g_aload C X206 d0_321 rfl rfl (g_iconst 5 C X206 d0_323 rfl (g_baload C X206 V206 d0_324 (by decide) (by decide) (own_getI _ _) (g_icmpn (hI_ne _ _) C X206 d0_325 (fun q => absurd rfl q) (fun _ => ?_)))))))
  refine g_aload C X206 d0_328 rfl rfl (g_bipush 6 C X206 d0_330 rfl (g_baload C X206 f207 d0_332 (by decide) (by decide) (own_getI _ _) (g_aload C X206 d0_333 rfl rfl (g_bipush 6 C X206 d0_335 rfl (g_baload C X206 V206 d0_337 (by decide) (by decide) (own_getI _ _) (g_icmpn (hI_ne _ _) C X206 d0_338 (fun q => absurd rfl q) (fun _ => ?_)))))))
  refine g_aload C X206 d0_341 rfl rfl (g_bipush 7 C X206 d0_343 rfl (g_baload C X206 f207 d0_345 (by decide) (by decide) (own_getI _ _) (g_aload C X206 d0_346 rfl rfl (g_bipush 7 C X206 d0_348 rfl (g_baload C X206 V206 d0_350 (by decide) (by decide) (own_getI _ _) (g_icmpn (hI_ne _ _) C X206 d0_351 (fun q => absurd rfl q) (fun _ => ?_)))))))
  refine g_aload C X206 d0_354 rfl rfl (g_bipush 8 C X206 d0_356 rfl (g_baload C X206 f207 d0_358 (by decide) (by decide) (own_getI _ _) (g_aload C X206 d0_359 rfl rfl (g_bipush 8 C X206 d0_361 rfl (g_baload C X206 V206 d0_363 (by decide) (by decide) (own_getI _ _) (g_icmpn (hI_ne _ _) C X206 d0_364 (fun q => absurd rfl q) (fun _ => ?_)))))))
  refine g_iconst 1 C X206 d0_367 rfl (g_goto C X206 d0_368 ?_)
  have kp208 := (Keep.refl h [ez, e2]).trans K203 (allS (Or.inl (by simp)) all0)
  have kp209 := kp208.trans K205 (allS (Or.inl (by simp)) all0)
  have kp210 := kp209.trans K206 (allS (Or.inl (by simp)) all0)
  have I211 := Lits.keep I0 kp210 (sfS sf1 (sfS sf2 sf0))
  have sf212 := Lits.safe I0 kp210 (sfS sf1 (sfS sf2 sf0)) sf1
  have sf213 := Lits.safe I0 kp210 (sfS sf1 (sfS sf2 sf0)) sf2
  exact goes_L I211 (own_EW hw) C.hZ (g_retN C X206 (by simp) d0_372 (1 : Int32) rfl (by decide) (by decide) ⟨rfl, rfl⟩)
theorem seg2U {p : Program} {l : Launch} {e : Env} {s : State} {m : MethodId} {A : Array Value} {below : List Frame} {meth : Method} {c : Code} {Z : State} {a0 : Array Value} (hw : ∀ d ∈ tables_1, d.before a0 Z = true) {T0 : State} {h : Heap} {vm0 : Vm} (s0 s1 s2 s3 s4 s9 s12 s13 s14 : Slot) (a b pz : Int32) (x ez e2 : Addr) (z_ : Int32) (SZ : Sta Z Z.heap "java/lang/String" "COMPACT_STRINGS" "Z" (.int z_)) (hz : ¬ z_ = 0) (fm_ : Value) (SF : Sta Z Z.heap "jdk/internal/util/Preconditions" "SIOOBE_FORMATTER" "Ljava/util/function/BiFunction;" fm_) (rf_ : fm_.isRef = true) (S1 : Sta Z Z.heap "java/lang/StringUTF16" "$assertionsDisabled" "Z" (.int (1 : Int32))) (S2 : Sta Z Z.heap "java/lang/StringUTF16" "HI_BYTE_SHIFT" "I" (.int (0 : Int32))) (S3 : Sta Z Z.heap "java/lang/StringUTF16" "LO_BYTE_SHIFT" "I" (.int (8 : Int32))) (t : Addr) (kt : ClassId) (ke ke2 : ClassId) (bs : List Int32) (C : Cx p (s.setVm vm0) m meth c Z "com/example/chapeau/chapeau/link/PackedStringsEncodePinLaw" "law" code maxLocals ret) (X0 : St p l e room_1 (s.setVm vm0) m A below meth c Z T0 h 16 200) (I0 : Lits Z consts_1 s vm0 h) (EX : Exa Z h x "java/lang/String") (FC : Fld Z h x "java/lang/String" "coder" "B" (.int (1 : Int32))) (FV : Fld Z h x "java/lang/String" "value" "[B" (.ref t)) (VT : Arv Z h t kt .byte 4 [(.int ((a >>> ((0 : Int32) &&& 31)).toInt8.toInt32)), (.int ((a >>> ((8 : Int32) &&& 31)).toInt8.toInt32)), (.int ((b >>> ((0 : Int32) &&& 31)).toInt8.toInt32)), (.int ((b >>> ((8 : Int32) &&& 31)).toInt8.toInt32))] (.int (0 : Int32))) (ha : (¬ a < 0 ∧ ¬ (65535 : Int32) < a)) (hb : (¬ b < 0 ∧ ¬ (65535 : Int32) < b))  (hp : ¬ pz < 0 ∧ ¬ (3 : Int32) < pz) (hV : Arv Z h ez ke .byte 9 (bs.map Value.int) (.int (0 : Int32))) (hV2 : Arv Z h e2 ke2 .byte 9 (bs.map Value.int) (.int (0 : Int32))) (hlen : bs.length = 9) (hn : Z.heap.size ≤ ez) (hn2 : Z.heap.size ≤ e2) (ne1 : ez ≠ x) (ne2 : ez ≠ t) (ne3 : ez ≠ e2) (sf1 : Safe Z consts_1 vm0 h ez) (sf2 : Safe Z consts_1 vm0 h e2) :
    Goes p e below (EndL Z consts_1 s 32 1216 (fun v' h' => v' = some (.int 1))) T0 (mkF m 206 #[s0, s1, s2, s3, s4, .val (.int a), .val (.int b), .val (.int pz), .val (.int 2), s9, .val (.ref ez), .val (.ref e2), s12, s13, s14, .val (.ref x), .unset, .unset] []) := by
  refine g_aload C X0 d0_206 rfl rfl (g_aload C X0 d0_208 rfl rfl (g_iload C X0 d0_210 rfl (g_static (argsL := [(.ref x), (.ref ez), (.int pz)]) (st := []) C X0 (wd hw 49 rfl) (wd hw 50 rfl) (wd hw 51 rfl) (wd hw 52 rfl) (by decide) (pay_of (W' := 0) (rEs2U l hw X0.ext x ez pz z_ SZ hz fm_ SF rf_ S1 S2 S3 t kt a b ke bs EX FC FV VT ha hb hp hV hlen hn ne1 ne2) C.hZ (wd hw 52 rfl) (wd hw 51 rfl) (by decide) (by decide)) pd_11 rfl rfl _ rfl (Nat.le_of_eq rfl) d0_212 (by decide) (by decide) (fun T214 h214 v214 q214 X214 => ?_))))
  obtain ⟨rfl, K214, V214⟩ := q214
  show Goes p e below _ T214 (mkF m 215 #[s0, s1, s2, s3, s4, .val (.int a), .val (.int b), .val (.int pz), .val (.int 2), s9, .val (.ref ez), .val (.ref e2), s12, s13, s14, .val (.ref x), .unset, .unset] [(.int (encP b (encP a pz)))])
  refine g_istore C X214 d0_215 (l' := #[s0, s1, s2, s3, s4, .val (.int a), .val (.int b), .val (.int pz), .val (.int 2), s9, .val (.ref ez), .val (.ref e2), s12, s13, s14, .val (.ref x), .val (.int (encP b (encP a pz))), .unset]) rfl (g_iload C X214 d0_217 rfl (g_istore C X214 d0_219 (l' := #[s0, s1, s2, s3, s4, .val (.int a), .val (.int b), .val (.int pz), .val (.int 2), s9, .val (.ref ez), .val (.ref e2), s12, s13, s14, .val (.ref x), .val (.int (encP b (encP a pz))), .val (.int pz)]) rfl (g_iload C X214 d0_221 rfl (g_iconst 1 C X214 d0_223 rfl (g_icmp (hI_lt _ _) C X214 d0_224 (fun q => absurd q (by decide)) (fun _ => ?_))))))
  refine g_iload C X214 d0_227 rfl (g_aload C X214 d0_229 rfl rfl (g_iload C X214 d0_231 rfl ?_))
  have f215 := (Arv.keep hV2 K214 (ninS (Ne.symm ne3) nin0))
  refine g_static (argsL := [(.int a), (.ref e2), (.int pz)]) (st := []) C X214 (wd hw 94 rfl) (wd hw 95 rfl) (wd hw 96 rfl) (wd hw 97 rfl) (by decide) (pay_of (W' := 0) (rPut l hw X214.ext a e2 pz ke2 bs ha (own_w hp) f215 hlen hn2) C.hZ (wd hw 97 rfl) (wd hw 96 rfl) (by decide) (by decide)) pd_12 rfl rfl _ rfl (Nat.le_of_eq rfl) d0_233 (by decide) (by decide) (fun T216 h216 v216 q216 X216 => ?_)
  obtain ⟨rfl, K216, V216⟩ := q216
  show Goes p e below _ T216 (mkF m 236 #[s0, s1, s2, s3, s4, .val (.int a), .val (.int b), .val (.int pz), .val (.int 2), s9, .val (.ref ez), .val (.ref e2), s12, s13, s14, .val (.ref x), .val (.int (encP b (encP a pz))), .val (.int pz)] [(.int (encP a pz))])
  refine g_istore C X216 d0_236 (l' := #[s0, s1, s2, s3, s4, .val (.int a), .val (.int b), .val (.int pz), .val (.int 2), s9, .val (.ref ez), .val (.ref e2), s12, s13, s14, .val (.ref x), .val (.int (encP b (encP a pz))), .val (.int (encP a pz))]) rfl (g_iload C X216 d0_238 rfl (g_iconst 2 C X216 d0_240 rfl (g_icmp (hI_lt _ _) C X216 d0_241 (fun q => absurd q (by decide)) (fun _ => ?_))))
  refine g_iload C X216 d0_244 rfl (g_aload C X216 d0_246 rfl rfl (g_iload C X216 d0_248 rfl (g_static (argsL := [(.int b), (.ref e2), (.int (encP a pz))]) (st := []) C X216 (wd hw 94 rfl) (wd hw 95 rfl) (wd hw 96 rfl) (wd hw 97 rfl) (by decide) (pay_of (W' := 0) (rPut l hw X216.ext b e2 (encP a pz) ke2 (encL a bs pz) hb (own_pp hp) V216 ((own_len _ _ _).trans hlen) hn2) C.hZ (wd hw 97 rfl) (wd hw 96 rfl) (by decide) (by decide)) pd_12 rfl rfl _ rfl (Nat.le_of_eq rfl) d0_250 (by decide) (by decide) (fun T217 h217 v217 q217 X217 => ?_))))
  obtain ⟨rfl, K217, V217⟩ := q217
  show Goes p e below _ T217 (mkF m 253 #[s0, s1, s2, s3, s4, .val (.int a), .val (.int b), .val (.int pz), .val (.int 2), s9, .val (.ref ez), .val (.ref e2), s12, s13, s14, .val (.ref x), .val (.int (encP b (encP a pz))), .val (.int (encP a pz))] [(.int (encP b (encP a pz)))])
  refine g_istore C X217 d0_253 (l' := #[s0, s1, s2, s3, s4, .val (.int a), .val (.int b), .val (.int pz), .val (.int 2), s9, .val (.ref ez), .val (.ref e2), s12, s13, s14, .val (.ref x), .val (.int (encP b (encP a pz))), .val (.int (encP b (encP a pz)))]) rfl (g_iload C X217 d0_255 rfl (g_iload C X217 d0_257 rfl (g_icmpn (hI_ne _ _) C X217 d0_259 (fun q => absurd rfl q) (fun _ => ?_))))
  refine g_aload C X217 d0_262 rfl rfl (g_iconst 0 C X217 d0_264 rfl ?_)
  have f218 := (Arv.keep (Arv.keep V214 K216 (ninS ne3 nin0)) K217 (ninS ne3 nin0))
  refine g_baload C X217 f218 d0_265 (by decide) (by decide) (own_getI _ _) (g_aload C X217 d0_266 rfl rfl (g_iconst 0 C X217 d0_268 rfl (g_baload C X217 V217 d0_269 (by decide) (by decide) (own_getI _ _) (g_icmpn (hI_ne _ _) C X217 d0_270 (fun q => absurd rfl q) (fun _ => ?_)))))
  refine g_aload C X217 d0_273 rfl rfl (g_iconst 1 C X217 d0_275 rfl (g_baload C X217 f218 d0_276 (by decide) (by decide) (own_getI _ _) (g_aload C X217 d0_277 rfl rfl (g_iconst 1 C X217 d0_279 rfl (g_baload C X217 V217 d0_280 (by decide) (by decide) (own_getI _ _) (g_icmpn (hI_ne _ _) C X217 d0_281 (fun q => absurd rfl q) (fun _ => ?_)))))))
  refine g_aload C X217 d0_284 rfl rfl (g_iconst 2 C X217 d0_286 rfl (g_baload C X217 f218 d0_287 (by decide) (by decide) (own_getI _ _) (g_aload C X217 d0_288 rfl rfl (g_iconst 2 C X217 d0_290 rfl (g_baload C X217 V217 d0_291 (by decide) (by decide) (own_getI _ _) (g_icmpn (hI_ne _ _) C X217 d0_292 (fun q => absurd rfl q) (fun _ => ?_)))))))
  refine g_aload C X217 d0_295 rfl rfl (g_iconst 3 C X217 d0_297 rfl (g_baload C X217 f218 d0_298 (by decide) (by decide) (own_getI _ _) (g_aload C X217 d0_299 rfl rfl (g_iconst 3 C X217 d0_301 rfl (g_baload C X217 V217 d0_302 (by decide) (by decide) (own_getI _ _) (g_icmpn (hI_ne _ _) C X217 d0_303 (fun q => absurd rfl q) (fun _ => ?_)))))))
  refine g_aload C X217 d0_306 rfl rfl (g_iconst 4 C X217 d0_308 rfl (g_baload C X217 f218 d0_309 (by decide) (by decide) (own_getI _ _) (g_aload C X217 d0_310 rfl rfl (g_iconst 4 C X217 d0_312 rfl (g_baload C X217 V217 d0_313 (by decide) (by decide) (own_getI _ _) (g_icmpn (hI_ne _ _) C X217 d0_314 (fun q => absurd rfl q) (fun _ => ?_)))))))
  refine g_aload C X217 d0_317 rfl rfl (g_iconst 5 C X217 d0_319 rfl (g_baload C X217 f218 d0_320 (by decide) (by decide) (own_getI _ _) (g_aload C X217 d0_321 rfl rfl (g_iconst 5 C X217 d0_323 rfl (g_baload C X217 V217 d0_324 (by decide) (by decide) (own_getI _ _) (g_icmpn (hI_ne _ _) C X217 d0_325 (fun q => absurd rfl q) (fun _ => ?_)))))))
  refine g_aload C X217 d0_328 rfl rfl (g_bipush 6 C X217 d0_330 rfl (g_baload C X217 f218 d0_332 (by decide) (by decide) (own_getI _ _) (g_aload C X217 d0_333 rfl rfl (g_bipush 6 C X217 d0_335 rfl (g_baload C X217 V217 d0_337 (by decide) (by decide) (own_getI _ _) (g_icmpn (hI_ne _ _) C X217 d0_338 (fun q => absurd rfl q) (fun _ => ?_)))))))
  refine g_aload C X217 d0_341 rfl rfl (g_bipush 7 C X217 d0_343 rfl (g_baload C X217 f218 d0_345 (by decide) (by decide) (own_getI _ _) (g_aload C X217 d0_346 rfl rfl (g_bipush 7 C X217 d0_348 rfl (g_baload C X217 V217 d0_350 (by decide) (by decide) (own_getI _ _) (g_icmpn (hI_ne _ _) C X217 d0_351 (fun q => absurd rfl q) (fun _ => ?_)))))))
  refine g_aload C X217 d0_354 rfl rfl (g_bipush 8 C X217 d0_356 rfl (g_baload C X217 f218 d0_358 (by decide) (by decide) (own_getI _ _) (g_aload C X217 d0_359 rfl rfl (g_bipush 8 C X217 d0_361 rfl (g_baload C X217 V217 d0_363 (by decide) (by decide) (own_getI _ _) (g_icmpn (hI_ne _ _) C X217 d0_364 (fun q => absurd rfl q) (fun _ => ?_)))))))
  refine g_iconst 1 C X217 d0_367 rfl (g_goto C X217 d0_368 ?_)
  have kp219 := (Keep.refl h [ez, e2]).trans K214 (allS (Or.inl (by simp)) all0)
  have kp220 := kp219.trans K216 (allS (Or.inl (by simp)) all0)
  have kp221 := kp220.trans K217 (allS (Or.inl (by simp)) all0)
  have I222 := Lits.keep I0 kp221 (sfS sf1 (sfS sf2 sf0))
  have sf223 := Lits.safe I0 kp221 (sfS sf1 (sfS sf2 sf0)) sf1
  have sf224 := Lits.safe I0 kp221 (sfS sf1 (sfS sf2 sf0)) sf2
  exact goes_L I222 (own_EW hw) C.hZ (g_retN C X217 (by simp) d0_372 (1 : Int32) rfl (by decide) (by decide) ⟨rfl, rfl⟩)
theorem ef_rPu20 (m : MethodId) (t : Addr) (ch : Int32) : entryFrame m #[(.ref t), (.int 0), (.int ch)] 3 = mkF m 0 #[.val (.ref t), .val (.int 0), .val (.int ch)] [] := by first | (simp [entryFrame, mkF, argsToLocals, Value.category]; done) | rfl
theorem d22_0 : Dc jdk_52_method_4_code 0 (.getstatic 44) 3 3 := ⟨by decide +kernel, rfl⟩
theorem d22_3 : Dj jdk_52_method_4_code 3 (.ifCond .ne 25) 25 3 6 28 := ⟨by decide +kernel, rfl, by decide, by decide⟩
theorem d22_28 : Dc jdk_52_method_4_code 28 (.iload_n 1) 1 29 := ⟨by decide +kernel, rfl⟩
theorem d22_29 : Dc jdk_52_method_4_code 29 (.iconst 1) 1 30 := ⟨by decide +kernel, rfl⟩
theorem d22_30 : Dc jdk_52_method_4_code 30 (.ishl) 1 31 := ⟨by decide +kernel, rfl⟩
theorem d22_31 : Dc jdk_52_method_4_code 31 (.istore_n 1) 1 32 := ⟨by decide +kernel, rfl⟩
theorem d22_32 : Dc jdk_52_method_4_code 32 (.aload_n 0) 1 33 := ⟨by decide +kernel, rfl⟩
theorem d22_33 : Dc jdk_52_method_4_code 33 (.iload_n 1) 1 34 := ⟨by decide +kernel, rfl⟩
theorem d22_34 : Dc jdk_52_method_4_code 34 (.iinc 1 1) 3 37 := ⟨by decide +kernel, rfl⟩
theorem d22_37 : Dc jdk_52_method_4_code 37 (.iload_n 2) 1 38 := ⟨by decide +kernel, rfl⟩
theorem d22_38 : Dc jdk_52_method_4_code 38 (.getstatic 59) 3 41 := ⟨by decide +kernel, rfl⟩
theorem d22_41 : Dc jdk_52_method_4_code 41 (.ishr) 1 42 := ⟨by decide +kernel, rfl⟩
theorem d22_42 : Dc jdk_52_method_4_code 42 (.i2b) 1 43 := ⟨by decide +kernel, rfl⟩
theorem d22_43 : Dc jdk_52_method_4_code 43 (.bastore) 1 44 := ⟨by decide +kernel, rfl⟩
theorem d22_44 : Dc jdk_52_method_4_code 44 (.aload_n 0) 1 45 := ⟨by decide +kernel, rfl⟩
theorem d22_45 : Dc jdk_52_method_4_code 45 (.iload_n 1) 1 46 := ⟨by decide +kernel, rfl⟩
theorem d22_46 : Dc jdk_52_method_4_code 46 (.iload_n 2) 1 47 := ⟨by decide +kernel, rfl⟩
theorem d22_47 : Dc jdk_52_method_4_code 47 (.getstatic 63) 3 50 := ⟨by decide +kernel, rfl⟩
theorem d22_50 : Dc jdk_52_method_4_code 50 (.ishr) 1 51 := ⟨by decide +kernel, rfl⟩
theorem d22_51 : Dc jdk_52_method_4_code 51 (.i2b) 1 52 := ⟨by decide +kernel, rfl⟩
theorem d22_52 : Dc jdk_52_method_4_code 52 (.bastore) 1 53 := ⟨by decide +kernel, rfl⟩
theorem d22_53 : Dc jdk_52_method_4_code 53 (.return_) 1 54 := ⟨by decide +kernel, rfl⟩
theorem rPu20 (l : Launch) {Z : State} {a0 : Array Value} (hw : ∀ d ∈ tables_1, d.before a0 Z = true) {h : Heap} (hE : Ext Z.heap h) (t : Addr) (ch : Int32) (S1 : Sta Z Z.heap "java/lang/StringUTF16" "$assertionsDisabled" "Z" (.int (1 : Int32))) (S2 : Sta Z Z.heap "java/lang/StringUTF16" "HI_BYTE_SHIFT" "I" (.int (0 : Int32))) (S3 : Sta Z Z.heap "java/lang/StringUTF16" "LO_BYTE_SHIFT" "I" (.int (8 : Int32))) (kt : ClassId) (v0 v1 : Int32) (VT : Arv Z h t kt .byte 2 [(.int v0), (.int v1)] (.int (0 : Int32))) (hn : Z.heap.size ≤ t) :
    Con l (⟨"java/lang/StringUTF16", "putChar", "([BII)V"⟩ : MethodName) jdk_52_method_4_code 3 none [] ({ frames := 1, cells := 0, slots := 0, locals := 20 } : Room) Z #[(.ref t), (.int 0), (.int ch)] h (fun v' h' => v' = none ∧ Keep h h' [t] ∧ Arv Z h' t kt .byte 2 [(.int ((ch >>> ((0 : Int32) &&& 31)).toInt8.toInt32)), (.int ((ch >>> ((8 : Int32) &&& 31)).toInt8.toInt32))] (.int (0 : Int32))) := by
  refine con_of (plainFor_of_name pn_3) hE (fun m => ef_rPu20 m t ch) ?_
  intro p e s m below meth c T0 C X0
  have C : Cx p s m meth c Z "java/lang/StringUTF16" "putChar" jdk_52_method_4_code 3 none := C
  show Goes p e below _ T0 (mkF m 0 #[.val (.ref t), .val (.int 0), .val (.int ch)] [])
  refine g_getstatic (host := "") C X0 (Or.inl (wd hw 104 rfl)) Via.refl S1 d22_0 (fun T225 X225 => ?_)
  refine g_ifn (h0_ne _) C X225 d22_3 (fun _ => ?_) (fun q => absurd q (by decide))
  refine g_iloadN C X225 d22_28 rfl (g_iconst 1 C X225 d22_29 rfl (g_ishl C X225 d22_30 (g_istoreN C X225 d22_31 (l' := #[.val (.ref t), .val (.int 0), .val (.int ch)]) rfl (g_aloadN C X225 d22_32 rfl rfl (g_iloadN C X225 d22_33 rfl (g_iinc 1 C X225 d22_34 rfl rfl (l' := #[.val (.ref t), .val (.int 1), .val (.int ch)]) rfl (g_iloadN C X225 d22_37 rfl (g_getstatic (host := "") C X225 (Or.inl (wd hw 105 rfl)) Via.refl S2 d22_38 (fun T226 X226 => ?_)))))))))
  refine g_ishr C X226 d22_41 (g_i2b C X226 d22_42 (g_bastore C X226 VT hn d22_43 (by decide) (by decide) (Nat.le_of_ble_eq_true rfl) (.int ((ch >>> ((0 : Int32) &&& 31)).toInt8.toInt32)) (own_nb _) (fun T227 h227 X227 W227 V227 => ?_)))
  have V227_t : Arv Z h227 t kt .byte (2 : Int32) [(.int ((ch >>> ((0 : Int32) &&& 31)).toInt8.toInt32)), (.int v1)] (.int 0) := V227
  refine g_aloadN C X227 d22_44 rfl rfl (g_iloadN C X227 d22_45 rfl (g_iloadN C X227 d22_46 rfl (g_getstatic (host := "") C X227 (Or.inl (wd hw 106 rfl)) Via.refl S3 d22_47 (fun T228 X228 => ?_))))
  refine g_ishr C X228 d22_50 (g_i2b C X228 d22_51 (g_bastore C X228 V227_t hn d22_52 (by decide) (by decide) (Nat.le_of_ble_eq_true rfl) (.int ((ch >>> ((8 : Int32) &&& 31)).toInt8.toInt32)) (own_nb _) (fun T229 h229 X229 W229 V229 => ?_)))
  have V229_t : Arv Z h229 t kt .byte (2 : Int32) [(.int ((ch >>> ((0 : Int32) &&& 31)).toInt8.toInt32)), (.int ((ch >>> ((8 : Int32) &&& 31)).toInt8.toInt32))] (.int 0) := V229
  have kp230 := (Keep.refl h [t]).wr W227 (Or.inl (by simp))
  have kp231 := kp230.wr W229 (Or.inl (by simp))
  exact g_retV C X229 d22_53 (by decide) (by decide) ⟨rfl, kp231, V229_t⟩
theorem ef_rPu40 (m : MethodId) (t : Addr) (ch : Int32) : entryFrame m #[(.ref t), (.int 0), (.int ch)] 3 = mkF m 0 #[.val (.ref t), .val (.int 0), .val (.int ch)] [] := by first | (simp [entryFrame, mkF, argsToLocals, Value.category]; done) | rfl
theorem rPu40 (l : Launch) {Z : State} {a0 : Array Value} (hw : ∀ d ∈ tables_1, d.before a0 Z = true) {h : Heap} (hE : Ext Z.heap h) (t : Addr) (ch : Int32) (S1 : Sta Z Z.heap "java/lang/StringUTF16" "$assertionsDisabled" "Z" (.int (1 : Int32))) (S2 : Sta Z Z.heap "java/lang/StringUTF16" "HI_BYTE_SHIFT" "I" (.int (0 : Int32))) (S3 : Sta Z Z.heap "java/lang/StringUTF16" "LO_BYTE_SHIFT" "I" (.int (8 : Int32))) (kt : ClassId) (v0 v1 v2 v3 : Int32) (VT : Arv Z h t kt .byte 4 [(.int v0), (.int v1), (.int v2), (.int v3)] (.int (0 : Int32))) (hn : Z.heap.size ≤ t) :
    Con l (⟨"java/lang/StringUTF16", "putChar", "([BII)V"⟩ : MethodName) jdk_52_method_4_code 3 none [] ({ frames := 1, cells := 0, slots := 0, locals := 20 } : Room) Z #[(.ref t), (.int 0), (.int ch)] h (fun v' h' => v' = none ∧ Keep h h' [t] ∧ Arv Z h' t kt .byte 4 [(.int ((ch >>> ((0 : Int32) &&& 31)).toInt8.toInt32)), (.int ((ch >>> ((8 : Int32) &&& 31)).toInt8.toInt32)), (.int v2), (.int v3)] (.int (0 : Int32))) := by
  refine con_of (plainFor_of_name pn_3) hE (fun m => ef_rPu40 m t ch) ?_
  intro p e s m below meth c T0 C X0
  have C : Cx p s m meth c Z "java/lang/StringUTF16" "putChar" jdk_52_method_4_code 3 none := C
  show Goes p e below _ T0 (mkF m 0 #[.val (.ref t), .val (.int 0), .val (.int ch)] [])
  refine g_getstatic (host := "") C X0 (Or.inl (wd hw 104 rfl)) Via.refl S1 d22_0 (fun T232 X232 => ?_)
  refine g_ifn (h0_ne _) C X232 d22_3 (fun _ => ?_) (fun q => absurd q (by decide))
  refine g_iloadN C X232 d22_28 rfl (g_iconst 1 C X232 d22_29 rfl (g_ishl C X232 d22_30 (g_istoreN C X232 d22_31 (l' := #[.val (.ref t), .val (.int 0), .val (.int ch)]) rfl (g_aloadN C X232 d22_32 rfl rfl (g_iloadN C X232 d22_33 rfl (g_iinc 1 C X232 d22_34 rfl rfl (l' := #[.val (.ref t), .val (.int 1), .val (.int ch)]) rfl (g_iloadN C X232 d22_37 rfl (g_getstatic (host := "") C X232 (Or.inl (wd hw 105 rfl)) Via.refl S2 d22_38 (fun T233 X233 => ?_)))))))))
  refine g_ishr C X233 d22_41 (g_i2b C X233 d22_42 (g_bastore C X233 VT hn d22_43 (by decide) (by decide) (Nat.le_of_ble_eq_true rfl) (.int ((ch >>> ((0 : Int32) &&& 31)).toInt8.toInt32)) (own_nb _) (fun T234 h234 X234 W234 V234 => ?_)))
  have V234_t : Arv Z h234 t kt .byte (4 : Int32) [(.int ((ch >>> ((0 : Int32) &&& 31)).toInt8.toInt32)), (.int v1), (.int v2), (.int v3)] (.int 0) := V234
  refine g_aloadN C X234 d22_44 rfl rfl (g_iloadN C X234 d22_45 rfl (g_iloadN C X234 d22_46 rfl (g_getstatic (host := "") C X234 (Or.inl (wd hw 106 rfl)) Via.refl S3 d22_47 (fun T235 X235 => ?_))))
  refine g_ishr C X235 d22_50 (g_i2b C X235 d22_51 (g_bastore C X235 V234_t hn d22_52 (by decide) (by decide) (Nat.le_of_ble_eq_true rfl) (.int ((ch >>> ((8 : Int32) &&& 31)).toInt8.toInt32)) (own_nb _) (fun T236 h236 X236 W236 V236 => ?_)))
  have V236_t : Arv Z h236 t kt .byte (4 : Int32) [(.int ((ch >>> ((0 : Int32) &&& 31)).toInt8.toInt32)), (.int ((ch >>> ((8 : Int32) &&& 31)).toInt8.toInt32)), (.int v2), (.int v3)] (.int 0) := V236
  have kp237 := (Keep.refl h [t]).wr W234 (Or.inl (by simp))
  have kp238 := kp237.wr W236 (Or.inl (by simp))
  exact g_retV C X236 d22_53 (by decide) (by decide) ⟨rfl, kp238, V236_t⟩
theorem ef_rPu41 (m : MethodId) (t : Addr) (ch : Int32) : entryFrame m #[(.ref t), (.int 1), (.int ch)] 3 = mkF m 0 #[.val (.ref t), .val (.int 1), .val (.int ch)] [] := by first | (simp [entryFrame, mkF, argsToLocals, Value.category]; done) | rfl
theorem rPu41 (l : Launch) {Z : State} {a0 : Array Value} (hw : ∀ d ∈ tables_1, d.before a0 Z = true) {h : Heap} (hE : Ext Z.heap h) (t : Addr) (ch : Int32) (S1 : Sta Z Z.heap "java/lang/StringUTF16" "$assertionsDisabled" "Z" (.int (1 : Int32))) (S2 : Sta Z Z.heap "java/lang/StringUTF16" "HI_BYTE_SHIFT" "I" (.int (0 : Int32))) (S3 : Sta Z Z.heap "java/lang/StringUTF16" "LO_BYTE_SHIFT" "I" (.int (8 : Int32))) (kt : ClassId) (v0 v1 v2 v3 : Int32) (VT : Arv Z h t kt .byte 4 [(.int v0), (.int v1), (.int v2), (.int v3)] (.int (0 : Int32))) (hn : Z.heap.size ≤ t) :
    Con l (⟨"java/lang/StringUTF16", "putChar", "([BII)V"⟩ : MethodName) jdk_52_method_4_code 3 none [] ({ frames := 1, cells := 0, slots := 0, locals := 20 } : Room) Z #[(.ref t), (.int 1), (.int ch)] h (fun v' h' => v' = none ∧ Keep h h' [t] ∧ Arv Z h' t kt .byte 4 [(.int v0), (.int v1), (.int ((ch >>> ((0 : Int32) &&& 31)).toInt8.toInt32)), (.int ((ch >>> ((8 : Int32) &&& 31)).toInt8.toInt32))] (.int (0 : Int32))) := by
  refine con_of (plainFor_of_name pn_3) hE (fun m => ef_rPu41 m t ch) ?_
  intro p e s m below meth c T0 C X0
  have C : Cx p s m meth c Z "java/lang/StringUTF16" "putChar" jdk_52_method_4_code 3 none := C
  show Goes p e below _ T0 (mkF m 0 #[.val (.ref t), .val (.int 1), .val (.int ch)] [])
  refine g_getstatic (host := "") C X0 (Or.inl (wd hw 104 rfl)) Via.refl S1 d22_0 (fun T239 X239 => ?_)
  refine g_ifn (h0_ne _) C X239 d22_3 (fun _ => ?_) (fun q => absurd q (by decide))
  refine g_iloadN C X239 d22_28 rfl (g_iconst 1 C X239 d22_29 rfl (g_ishl C X239 d22_30 (g_istoreN C X239 d22_31 (l' := #[.val (.ref t), .val (.int 2), .val (.int ch)]) rfl (g_aloadN C X239 d22_32 rfl rfl (g_iloadN C X239 d22_33 rfl (g_iinc 1 C X239 d22_34 rfl rfl (l' := #[.val (.ref t), .val (.int 3), .val (.int ch)]) rfl (g_iloadN C X239 d22_37 rfl (g_getstatic (host := "") C X239 (Or.inl (wd hw 105 rfl)) Via.refl S2 d22_38 (fun T240 X240 => ?_)))))))))
  refine g_ishr C X240 d22_41 (g_i2b C X240 d22_42 (g_bastore C X240 VT hn d22_43 (by decide) (by decide) (Nat.le_of_ble_eq_true rfl) (.int ((ch >>> ((0 : Int32) &&& 31)).toInt8.toInt32)) (own_nb _) (fun T241 h241 X241 W241 V241 => ?_)))
  have V241_t : Arv Z h241 t kt .byte (4 : Int32) [(.int v0), (.int v1), (.int ((ch >>> ((0 : Int32) &&& 31)).toInt8.toInt32)), (.int v3)] (.int 0) := V241
  refine g_aloadN C X241 d22_44 rfl rfl (g_iloadN C X241 d22_45 rfl (g_iloadN C X241 d22_46 rfl (g_getstatic (host := "") C X241 (Or.inl (wd hw 106 rfl)) Via.refl S3 d22_47 (fun T242 X242 => ?_))))
  refine g_ishr C X242 d22_50 (g_i2b C X242 d22_51 (g_bastore C X242 V241_t hn d22_52 (by decide) (by decide) (Nat.le_of_ble_eq_true rfl) (.int ((ch >>> ((8 : Int32) &&& 31)).toInt8.toInt32)) (own_nb _) (fun T243 h243 X243 W243 V243 => ?_)))
  have V243_t : Arv Z h243 t kt .byte (4 : Int32) [(.int v0), (.int v1), (.int ((ch >>> ((0 : Int32) &&& 31)).toInt8.toInt32)), (.int ((ch >>> ((8 : Int32) &&& 31)).toInt8.toInt32))] (.int 0) := V243
  have kp244 := (Keep.refl h [t]).wr W241 (Or.inl (by simp))
  have kp245 := kp244.wr W243 (Or.inl (by simp))
  exact g_retV C X243 d22_53 (by decide) (by decide) ⟨rfl, kp245, V243_t⟩
theorem ef_rTc (m : MethodId) (a : Int32) : entryFrame m #[(.int a)] 2 = mkF m 0 #[.val (.int a), .unset] [] := by first | (simp [entryFrame, mkF, argsToLocals, Value.category]; done) | rfl
theorem d21_0 : Dc jdk_52_method_24_code 0 (.iconst 2) 1 1 := ⟨by decide +kernel, rfl⟩
theorem d21_1 : Dc jdk_52_method_24_code 1 (.newarray .byte) 2 3 := ⟨by decide +kernel, rfl⟩
theorem d21_3 : Dc jdk_52_method_24_code 3 (.astore_n 1) 1 4 := ⟨by decide +kernel, rfl⟩
theorem d21_4 : Dc jdk_52_method_24_code 4 (.aload_n 1) 1 5 := ⟨by decide +kernel, rfl⟩
theorem d21_5 : Dc jdk_52_method_24_code 5 (.iconst 0) 1 6 := ⟨by decide +kernel, rfl⟩
theorem d21_6 : Dc jdk_52_method_24_code 6 (.iload_n 0) 1 7 := ⟨by decide +kernel, rfl⟩
theorem d21_7 : Dc jdk_52_method_24_code 7 (.invokestatic 111) 3 10 := ⟨by decide +kernel, rfl⟩
theorem pd_13 : parseMethodDescriptor "([BII)V" = some ⟨[(.array .byte), .int, .int], none⟩ := by decide +kernel
theorem d21_10 : Dc jdk_52_method_24_code 10 (.aload_n 1) 1 11 := ⟨by decide +kernel, rfl⟩
theorem d21_11 : Dc jdk_52_method_24_code 11 (.areturn) 1 12 := ⟨by decide +kernel, rfl⟩
theorem rTc (l : Launch) {Z : State} {a0 : Array Value} (hw : ∀ d ∈ tables_1, d.before a0 Z = true) {h : Heap} (hE : Ext Z.heap h) (a : Int32) (S1 : Sta Z Z.heap "java/lang/StringUTF16" "$assertionsDisabled" "Z" (.int (1 : Int32))) (S2 : Sta Z Z.heap "java/lang/StringUTF16" "HI_BYTE_SHIFT" "I" (.int (0 : Int32))) (S3 : Sta Z Z.heap "java/lang/StringUTF16" "LO_BYTE_SHIFT" "I" (.int (8 : Int32)))  :
    Con l (⟨"java/lang/StringUTF16", "toBytes", "(C)[B"⟩ : MethodName) jdk_52_method_24_code 2 (some (.array .byte)) [] ({ frames := 2, cells := 1, slots := 2, locals := 40 } : Room) Z #[(.int a)] h (fun v' h' => ∃ b_ kb, v' = some (.ref b_) ∧ Z.heap.size ≤ b_ ∧ h.size ≤ b_ ∧ Ext h h' ∧ Arv Z h' b_ kb .byte 2 [(.int ((a >>> ((0 : Int32) &&& 31)).toInt8.toInt32)), (.int ((a >>> ((8 : Int32) &&& 31)).toInt8.toInt32))] (.int (0 : Int32))) := by
  refine con_of (plainFor_of_name pn_3) hE (fun m => ef_rTc m a) ?_
  intro p e s m below meth c T0 C X0
  have C : Cx p s m meth c Z "java/lang/StringUTF16" "toBytes" jdk_52_method_24_code 2 (some (.array .byte)) := C
  show Goes p e below _ T0 (mkF m 0 #[.val (.int a), .unset] [])
  refine g_iconst 2 C X0 d21_0 rfl (g_newarray C X0 (wd hw 2 rfl) d21_1 (by decide) 2 2 (by decide) (by decide) (by decide) (by decide) (fun T246 h246 b246 k_b246 g_b246 n_b246 X246 E246 V246 => ?_))
  have V_b246 : Arv Z h246 b246 k_b246 .byte (2 : Int32) [(.int 0), (.int 0)] (.int 0) := V246
  refine g_astoreN C X246 d21_3 rfl (l' := #[.val (.int a), .val (.ref b246)]) rfl (g_aloadN C X246 d21_4 rfl rfl (g_iconst 0 C X246 d21_5 rfl (g_iloadN C X246 d21_6 rfl (g_static (argsL := [(.ref b246), (.int 0), (.int a)]) (st := []) C X246 (wd hw 101 rfl) (wd hw 102 rfl) (wd hw 41 rfl) (wd hw 103 rfl) (by decide) (pay_of (W' := 0) (rPu20 l hw X246.ext b246 a S1 S2 S3 k_b246 (0 : Int32) (0 : Int32) V_b246 n_b246) C.hZ (wd hw 103 rfl) (wd hw 41 rfl) (by decide) (by decide)) pd_13 rfl rfl _ rfl (Nat.le_of_eq rfl) d21_7 (by decide) (by decide) (fun T247 h247 v247 q247 X247 => ?_)))))
  obtain ⟨rfl, K247, V247⟩ := q247
  show Goes p e below _ T247 (mkF m 10 #[.val (.int a), .val (.ref b246)] [])
  refine g_aloadN C X247 d21_10 rfl rfl ?_
  have sz248 : h.size ≤ b246 := by rw [g_b246]; exact (Keep.refl h []).1
  have kp249 := (Keep.refl h []).ext E246
  have kp250 := kp249.trans K247 (allS (Or.inr sz248) all0)
  exact g_retA C X247 rfl rfl d21_11 (by decide) (by decide) ⟨b246, k_b246, rfl, n_b246, sz248, keep_ext kp250, V247⟩
theorem ef_rNl (m : MethodId)  : entryFrame m #[(.int 2)] 1 = mkF m 0 #[.val (.int 2)] [] := by first | (simp [entryFrame, mkF, argsToLocals, Value.category]; done) | rfl
theorem d25_0 : Dc jdk_52_method_3_code 0 (.iload_n 0) 1 1 := ⟨by decide +kernel, rfl⟩
theorem d25_1 : Dj jdk_52_method_3_code 1 (.ifCond .ge 11) 11 3 4 12 := ⟨by decide +kernel, rfl, by decide, by decide⟩
theorem d25_12 : Dc jdk_52_method_3_code 12 (.iload_n 0) 1 13 := ⟨by decide +kernel, rfl⟩
theorem d25_13 : Dc jdk_52_method_3_code 13 (.ldc 20) 2 15 := ⟨by decide +kernel, rfl⟩
theorem d25_15 : Dj jdk_52_method_3_code 15 (.if_icmp .lt 40) 40 3 18 55 := ⟨by decide +kernel, rfl, by decide, by decide⟩
theorem d25_55 : Dc jdk_52_method_3_code 55 (.iload_n 0) 1 56 := ⟨by decide +kernel, rfl⟩
theorem d25_56 : Dc jdk_52_method_3_code 56 (.iconst 1) 1 57 := ⟨by decide +kernel, rfl⟩
theorem d25_57 : Dc jdk_52_method_3_code 57 (.ishl) 1 58 := ⟨by decide +kernel, rfl⟩
theorem d25_58 : Dc jdk_52_method_3_code 58 (.ireturn) 1 59 := ⟨by decide +kernel, rfl⟩
theorem rNl (l : Launch) {Z : State} {a0 : Array Value} (hw : ∀ d ∈ tables_1, d.before a0 Z = true) {h : Heap} (hE : Ext Z.heap h)    :
    Con l (⟨"java/lang/StringUTF16", "newBytesLength", "(I)I"⟩ : MethodName) jdk_52_method_3_code 1 (some .int) [] ({ frames := 0, cells := 0, slots := 0, locals := 0 } : Room) Z #[(.int 2)] h (fun v' h' => v' = some (.int 4) ∧ h' = h) := by
  refine con_of (plainFor_of_name pn_3) hE (fun m => ef_rNl m ) ?_
  intro p e s m below meth c T0 C X0
  have C : Cx p s m meth c Z "java/lang/StringUTF16" "newBytesLength" jdk_52_method_3_code 1 (some .int) := C
  show Goes p e below _ T0 (mkF m 0 #[.val (.int 2)] [])
  refine g_iloadN C X0 d25_0 rfl (g_ifn (h0_ge _) C X0 d25_1 (fun _ => ?_) (fun q => absurd q (by decide)))
  refine g_iloadN C X0 d25_12 rfl (g_ldcI C X0 (wd hw 116 rfl) d25_13 (g_icmp (hI_lt _ _) C X0 d25_15 (fun _ => ?_) (fun q => absurd (by decide) q)))
  refine g_iloadN C X0 d25_55 rfl (g_iconst 1 C X0 d25_56 rfl (g_ishl C X0 d25_57 ?_))
  exact g_retI C X0 d25_58 (by decide) (by decide) ⟨rfl, rfl⟩
theorem ef_rNf (m : MethodId)  : entryFrame m #[(.int 2)] 1 = mkF m 0 #[.val (.int 2)] [] := by first | (simp [entryFrame, mkF, argsToLocals, Value.category]; done) | rfl
theorem d24_0 : Dc jdk_52_method_2_code 0 (.iload_n 0) 1 1 := ⟨by decide +kernel, rfl⟩
theorem d24_1 : Dc jdk_52_method_2_code 1 (.invokestatic 11) 3 4 := ⟨by decide +kernel, rfl⟩
theorem pd_14 : parseMethodDescriptor "(I)I" = some ⟨[.int], some .int⟩ := by decide +kernel
theorem d24_4 : Dc jdk_52_method_2_code 4 (.newarray .byte) 2 6 := ⟨by decide +kernel, rfl⟩
theorem d24_6 : Dc jdk_52_method_2_code 6 (.areturn) 1 7 := ⟨by decide +kernel, rfl⟩
theorem rNf (l : Launch) {Z : State} {a0 : Array Value} (hw : ∀ d ∈ tables_1, d.before a0 Z = true) {h : Heap} (hE : Ext Z.heap h)    :
    Con l (⟨"java/lang/StringUTF16", "newBytesFor", "(I)[B"⟩ : MethodName) jdk_52_method_2_code 1 (some (.array .byte)) [] ({ frames := 1, cells := 1, slots := 4, locals := 20 } : Room) Z #[(.int 2)] h (fun v' h' => ∃ b_ kb, v' = some (.ref b_) ∧ Z.heap.size ≤ b_ ∧ h.size ≤ b_ ∧ Ext h h' ∧ Arv Z h' b_ kb .byte 4 [(.int 0), (.int 0), (.int 0), (.int 0)] (.int (0 : Int32))) := by
  refine con_of (plainFor_of_name pn_3) hE (fun m => ef_rNf m ) ?_
  intro p e s m below meth c T0 C X0
  have C : Cx p s m meth c Z "java/lang/StringUTF16" "newBytesFor" jdk_52_method_2_code 1 (some (.array .byte)) := C
  show Goes p e below _ T0 (mkF m 0 #[.val (.int 2)] [])
  refine g_iloadN C X0 d24_0 rfl (g_staticP (argsL := [(.int 2)]) (st := []) C X0 (wd hw 113 rfl) (wd hw 114 rfl) (wd hw 41 rfl) (wd hw 115 rfl) (by decide) (pay_of (W' := 0) (rNl l hw X0.ext) C.hZ (wd hw 115 rfl) (wd hw 41 rfl) (by decide) (by decide)) pd_14 rfl rfl _ rfl (Nat.le_of_eq rfl) d24_1 (by decide) (by decide) (fun T251 X251 => ?_))
  refine g_newarray C X251 (wd hw 2 rfl) d24_4 (by decide) 4 4 (by decide) (by decide) (by decide) (by decide) (fun T252 h252 b252 k_b252 g_b252 n_b252 X252 E252 V252 => ?_)
  have V_b252 : Arv Z h252 b252 k_b252 .byte (4 : Int32) [(.int 0), (.int 0), (.int 0), (.int 0)] (.int 0) := V252
  have sz253 : h.size ≤ b252 := by rw [g_b252]; exact (Keep.refl h []).1
  have kp254 := (Keep.refl h []).ext E252
  exact g_retA C X252 rfl rfl d24_6 (by decide) (by decide) ⟨b252, k_b252, rfl, n_b252, sz253, keep_ext kp254, V_b252⟩
theorem ef_rTs (m : MethodId) (ca : Addr) : entryFrame m #[(.ref ca), (.int 0), (.int 2)] 5 = mkF m 0 #[.val (.ref ca), .val (.int 0), .val (.int 2), .unset, .unset] [] := by first | (simp [entryFrame, mkF, argsToLocals, Value.category]; done) | rfl
theorem d23_0 : Dc jdk_52_method_14_code 0 (.iload_n 2) 1 1 := ⟨by decide +kernel, rfl⟩
theorem d23_1 : Dc jdk_52_method_14_code 1 (.invokestatic 107) 3 4 := ⟨by decide +kernel, rfl⟩
theorem pd_15 : parseMethodDescriptor "(I)[B" = some ⟨[.int], some (.array .byte)⟩ := by decide +kernel
theorem d23_4 : Dc jdk_52_method_14_code 4 (.astore_n 3) 1 5 := ⟨by decide +kernel, rfl⟩
theorem d23_5 : Dc jdk_52_method_14_code 5 (.iconst 0) 1 6 := ⟨by decide +kernel, rfl⟩
theorem d23_6 : Dc jdk_52_method_14_code 6 (.istore 4) 2 8 := ⟨by decide +kernel, rfl⟩
theorem d23_8 : Dc jdk_52_method_14_code 8 (.iload 4) 2 10 := ⟨by decide +kernel, rfl⟩
theorem d23_10 : Dc jdk_52_method_14_code 10 (.iload_n 2) 1 11 := ⟨by decide +kernel, rfl⟩
theorem d23_11 : Dj jdk_52_method_14_code 11 (.if_icmp .ge 21) 21 3 14 32 := ⟨by decide +kernel, rfl, by decide, by decide⟩
theorem d23_14 : Dc jdk_52_method_14_code 14 (.aload_n 3) 1 15 := ⟨by decide +kernel, rfl⟩
theorem d23_15 : Dc jdk_52_method_14_code 15 (.iload 4) 2 17 := ⟨by decide +kernel, rfl⟩
theorem d23_17 : Dc jdk_52_method_14_code 17 (.aload_n 0) 1 18 := ⟨by decide +kernel, rfl⟩
theorem d23_18 : Dc jdk_52_method_14_code 18 (.iload_n 1) 1 19 := ⟨by decide +kernel, rfl⟩
theorem d23_19 : Dc jdk_52_method_14_code 19 (.caload) 1 20 := ⟨by decide +kernel, rfl⟩
theorem d23_20 : Dc jdk_52_method_14_code 20 (.invokestatic 111) 3 23 := ⟨by decide +kernel, rfl⟩
theorem d23_23 : Dc jdk_52_method_14_code 23 (.iinc 1 1) 3 26 := ⟨by decide +kernel, rfl⟩
theorem d23_26 : Dc jdk_52_method_14_code 26 (.iinc 4 1) 3 29 := ⟨by decide +kernel, rfl⟩
theorem d23_29 : Dj jdk_52_method_14_code 29 (.goto (-21)) (-21) 3 32 8 := ⟨by decide +kernel, rfl, by decide, by decide⟩
theorem d23_32 : Dc jdk_52_method_14_code 32 (.aload_n 3) 1 33 := ⟨by decide +kernel, rfl⟩
theorem d23_33 : Dc jdk_52_method_14_code 33 (.areturn) 1 34 := ⟨by decide +kernel, rfl⟩
theorem rTs (l : Launch) {Z : State} {a0 : Array Value} (hw : ∀ d ∈ tables_1, d.before a0 Z = true) {h : Heap} (hE : Ext Z.heap h) (ca : Addr) (S1 : Sta Z Z.heap "java/lang/StringUTF16" "$assertionsDisabled" "Z" (.int (1 : Int32))) (S2 : Sta Z Z.heap "java/lang/StringUTF16" "HI_BYTE_SHIFT" "I" (.int (0 : Int32))) (S3 : Sta Z Z.heap "java/lang/StringUTF16" "LO_BYTE_SHIFT" "I" (.int (8 : Int32))) (kc : ClassId) (a b : Int32) (VC : Arv Z h ca kc .char 2 [(.int a), (.int b)] (.int (0 : Int32))) :
    Con l (⟨"java/lang/StringUTF16", "toBytes", "([CII)[B"⟩ : MethodName) jdk_52_method_14_code 5 (some (.array .byte)) [] ({ frames := 3, cells := 1, slots := 4, locals := 60 } : Room) Z #[(.ref ca), (.int 0), (.int 2)] h (fun v' h' => ∃ b_ kb, v' = some (.ref b_) ∧ Z.heap.size ≤ b_ ∧ h.size ≤ b_ ∧ Ext h h' ∧ Arv Z h' b_ kb .byte 4 [(.int ((a >>> ((0 : Int32) &&& 31)).toInt8.toInt32)), (.int ((a >>> ((8 : Int32) &&& 31)).toInt8.toInt32)), (.int ((b >>> ((0 : Int32) &&& 31)).toInt8.toInt32)), (.int ((b >>> ((8 : Int32) &&& 31)).toInt8.toInt32))] (.int (0 : Int32))) := by
  refine con_of (plainFor_of_name pn_3) hE (fun m => ef_rTs m ca) ?_
  intro p e s m below meth c T0 C X0
  have C : Cx p s m meth c Z "java/lang/StringUTF16" "toBytes" jdk_52_method_14_code 5 (some (.array .byte)) := C
  show Goes p e below _ T0 (mkF m 0 #[.val (.ref ca), .val (.int 0), .val (.int 2), .unset, .unset] [])
  refine g_iloadN C X0 d23_0 rfl (g_static (argsL := [(.int 2)]) (st := []) C X0 (wd hw 110 rfl) (wd hw 111 rfl) (wd hw 41 rfl) (wd hw 112 rfl) (by decide) (pay_of (W' := 0) (rNf l hw X0.ext ) C.hZ (wd hw 112 rfl) (wd hw 41 rfl) (by decide) (by decide)) pd_15 rfl rfl _ rfl (Nat.le_of_eq rfl) d23_1 (by decide) (by decide) (fun T255 h255 v255 q255 X255 => ?_))
  obtain ⟨b255, k_b255, rfl, n_b255, g255, E255, V255⟩ := q255
  have lt256 : ca < b255 := Nat.lt_of_lt_of_le (Arv.lt VC) g255
  show Goes p e below _ T255 (mkF m 4 #[.val (.ref ca), .val (.int 0), .val (.int 2), .unset, .unset] [(.ref b255)])
  refine g_astoreN C X255 d23_4 rfl (l' := #[.val (.ref ca), .val (.int 0), .val (.int 2), .val (.ref b255), .unset]) rfl (g_iconst 0 C X255 d23_5 rfl (g_istore C X255 d23_6 (l' := #[.val (.ref ca), .val (.int 0), .val (.int 2), .val (.ref b255), .val (.int 0)]) rfl (g_iload C X255 d23_8 rfl (g_iloadN C X255 d23_10 rfl (g_icmpn (hI_ge _ _) C X255 d23_11 (fun q => absurd (by decide) q) (fun _ => ?_))))))
  refine g_aloadN C X255 d23_14 rfl rfl (g_iload C X255 d23_15 rfl (g_aloadN C X255 d23_17 rfl rfl (g_iloadN C X255 d23_18 rfl ?_)))
  have f257 := (Arv.ext VC E255)
  refine g_caload C X255 f257 d23_19 (by decide) (by decide) rfl (g_static (argsL := [(.ref b255), (.int 0), (.int a)]) (st := []) C X255 (wd hw 101 rfl) (wd hw 102 rfl) (wd hw 41 rfl) (wd hw 103 rfl) (by decide) (pay_of (W' := 0) (rPu40 l hw X255.ext b255 a S1 S2 S3 k_b255 (0 : Int32) (0 : Int32) (0 : Int32) (0 : Int32) V255 n_b255) C.hZ (wd hw 103 rfl) (wd hw 41 rfl) (by decide) (by decide)) pd_13 rfl rfl _ rfl (Nat.le_of_eq rfl) d23_20 (by decide) (by decide) (fun T258 h258 v258 q258 X258 => ?_))
  obtain ⟨rfl, K258, V258⟩ := q258
  show Goes p e below _ T258 (mkF m 23 #[.val (.ref ca), .val (.int 0), .val (.int 2), .val (.ref b255), .val (.int 0)] [])
  refine g_iinc 1 C X258 d23_23 rfl rfl (l' := #[.val (.ref ca), .val (.int 1), .val (.int 2), .val (.ref b255), .val (.int 0)]) rfl (g_iinc 1 C X258 d23_26 rfl rfl (l' := #[.val (.ref ca), .val (.int 1), .val (.int 2), .val (.ref b255), .val (.int 1)]) rfl (g_goto C X258 d23_29 (g_iload C X258 d23_8 rfl (g_iloadN C X258 d23_10 rfl (g_icmpn (hI_ge _ _) C X258 d23_11 (fun q => absurd (by decide) q) (fun _ => ?_))))))
  refine g_aloadN C X258 d23_14 rfl rfl (g_iload C X258 d23_15 rfl (g_aloadN C X258 d23_17 rfl rfl (g_iloadN C X258 d23_18 rfl ?_)))
  have f259 := (Arv.keep f257 K258 (ninS (Nat.ne_of_lt lt256) nin0))
  refine g_caload C X258 f259 d23_19 (by decide) (by decide) rfl (g_static (argsL := [(.ref b255), (.int 1), (.int b)]) (st := []) C X258 (wd hw 101 rfl) (wd hw 102 rfl) (wd hw 41 rfl) (wd hw 103 rfl) (by decide) (pay_of (W' := 0) (rPu41 l hw X258.ext b255 b S1 S2 S3 k_b255 ((a >>> ((0 : Int32) &&& 31)).toInt8.toInt32) ((a >>> ((8 : Int32) &&& 31)).toInt8.toInt32) (0 : Int32) (0 : Int32) V258 n_b255) C.hZ (wd hw 103 rfl) (wd hw 41 rfl) (by decide) (by decide)) pd_13 rfl rfl _ rfl (Nat.le_of_eq rfl) d23_20 (by decide) (by decide) (fun T260 h260 v260 q260 X260 => ?_))
  obtain ⟨rfl, K260, V260⟩ := q260
  show Goes p e below _ T260 (mkF m 23 #[.val (.ref ca), .val (.int 1), .val (.int 2), .val (.ref b255), .val (.int 1)] [])
  refine g_iinc 1 C X260 d23_23 rfl rfl (l' := #[.val (.ref ca), .val (.int 2), .val (.int 2), .val (.ref b255), .val (.int 1)]) rfl (g_iinc 1 C X260 d23_26 rfl rfl (l' := #[.val (.ref ca), .val (.int 2), .val (.int 2), .val (.ref b255), .val (.int 2)]) rfl (g_goto C X260 d23_29 (g_iload C X260 d23_8 rfl (g_iloadN C X260 d23_10 rfl (g_icmpn (hI_ge _ _) C X260 d23_11 (fun _ => ?_) (fun q => absurd q (by decide)))))))
  refine g_aloadN C X260 d23_32 rfl rfl ?_
  have sz261 : h.size ≤ b255 := Nat.le_trans (Keep.refl h []).1 g255
  have kp262 := (Keep.refl h []).ext E255
  have kp263 := kp262.trans K258 (allS (Or.inr sz261) all0)
  have kp264 := kp263.trans K260 (allS (Or.inr sz261) all0)
  exact g_retA C X260 rfl rfl d23_33 (by decide) (by decide) ⟨b255, k_b255, rfl, n_b255, sz261, keep_ext kp264, V260⟩
theorem ef_rC50 (m : MethodId) (ca : Addr) (t : Addr) : entryFrame m #[(.ref ca), (.int 0), (.ref t), (.int 0), (.int 2)] 7 = mkF m 0 #[.val (.ref ca), .val (.int 0), .val (.ref t), .val (.int 0), .val (.int 2), .unset, .unset] [] := by first | (simp [entryFrame, mkF, argsToLocals, Value.category]; done) | rfl
theorem d9_0 : Dc jdk_52_method_21_code 0 (.iconst 0) 1 1 := ⟨by decide +kernel, rfl⟩
theorem d9_1 : Dc jdk_52_method_21_code 1 (.istore 5) 2 3 := ⟨by decide +kernel, rfl⟩
theorem d9_3 : Dc jdk_52_method_21_code 3 (.iload 5) 2 5 := ⟨by decide +kernel, rfl⟩
theorem d9_5 : Dc jdk_52_method_21_code 5 (.iload 4) 2 7 := ⟨by decide +kernel, rfl⟩
theorem d9_7 : Dj jdk_52_method_21_code 7 (.if_icmp .ge 37) 37 3 10 44 := ⟨by decide +kernel, rfl, by decide, by decide⟩
theorem d9_10 : Dc jdk_52_method_21_code 10 (.aload_n 0) 1 11 := ⟨by decide +kernel, rfl⟩
theorem d9_11 : Dc jdk_52_method_21_code 11 (.iload_n 1) 1 12 := ⟨by decide +kernel, rfl⟩
theorem d9_12 : Dc jdk_52_method_21_code 12 (.caload) 1 13 := ⟨by decide +kernel, rfl⟩
theorem d9_13 : Dc jdk_52_method_21_code 13 (.istore 6) 2 15 := ⟨by decide +kernel, rfl⟩
theorem d9_15 : Dc jdk_52_method_21_code 15 (.iload 6) 2 17 := ⟨by decide +kernel, rfl⟩
theorem d9_17 : Dc jdk_52_method_21_code 17 (.sipush 255) 3 20 := ⟨by decide +kernel, rfl⟩
theorem d9_20 : Dj jdk_52_method_21_code 20 (.if_icmp .le 6) 6 3 23 26 := ⟨by decide +kernel, rfl, by decide, by decide⟩
theorem d9_23 : Dc jdk_52_method_21_code 23 (.iload 5) 2 25 := ⟨by decide +kernel, rfl⟩
theorem d9_25 : Dc jdk_52_method_21_code 25 (.ireturn) 1 26 := ⟨by decide +kernel, rfl⟩
theorem rC50 (l : Launch) {Z : State} {a0 : Array Value} (hw : ∀ d ∈ tables_1, d.before a0 Z = true) {h : Heap} (hE : Ext Z.heap h) (ca : Addr) (t : Addr) (kt : ClassId) (kc : ClassId) (a b : Int32) (VT : Arv Z h t kt .byte 2 [(.int 0), (.int 0)] (.int (0 : Int32))) (hn : Z.heap.size ≤ t) (ne : ca ≠ t) (VC : Arv Z h ca kc .char 2 [(.int a), (.int b)] (.int (0 : Int32))) (l1 : (255 : Int32) < a) :
    Con l (⟨"java/lang/StringUTF16", "compress", "([CI[BII)I"⟩ : MethodName) jdk_52_method_21_code 7 (some .int) [] ({ frames := 0, cells := 0, slots := 0, locals := 0 } : Room) Z #[(.ref ca), (.int 0), (.ref t), (.int 0), (.int 2)] h (fun v' h' => v' = some (.int (0 : Int32)) ∧ Keep h h' [t]) := by
  refine con_of (plainFor_of_name pn_3) hE (fun m => ef_rC50 m ca t) ?_
  intro p e s m below meth c T0 C X0
  have C : Cx p s m meth c Z "java/lang/StringUTF16" "compress" jdk_52_method_21_code 7 (some .int) := C
  show Goes p e below _ T0 (mkF m 0 #[.val (.ref ca), .val (.int 0), .val (.ref t), .val (.int 0), .val (.int 2), .unset, .unset] [])
  refine g_iconst 0 C X0 d9_0 rfl (g_istore C X0 d9_1 (l' := #[.val (.ref ca), .val (.int 0), .val (.ref t), .val (.int 0), .val (.int 2), .val (.int 0), .unset]) rfl (g_iload C X0 d9_3 rfl (g_iload C X0 d9_5 rfl (g_icmpn (hI_ge _ _) C X0 d9_7 (fun q => absurd (by decide) q) (fun _ => ?_)))))
  refine g_aloadN C X0 d9_10 rfl rfl (g_iloadN C X0 d9_11 rfl (g_caload C X0 VC d9_12 (by decide) (by decide) rfl (g_istore C X0 d9_13 (l' := #[.val (.ref ca), .val (.int 0), .val (.ref t), .val (.int 0), .val (.int 2), .val (.int 0), .val (.int a)]) rfl (g_iload C X0 d9_15 rfl (g_sipush 255 C X0 d9_17 rfl (g_icmpn (hI_le _ _) C X0 d9_20 (fun q => absurd l1 q) (fun _ => ?_)))))))
  refine g_iload C X0 d9_23 rfl ?_
  exact g_retI C X0 d9_25 (by decide) (by decide) ⟨rfl, (Keep.refl h [t])⟩
theorem ef_rCp0 (m : MethodId) (ca : Addr) : entryFrame m #[(.ref ca), (.int 0), (.int 2)] 6 = mkF m 0 #[.val (.ref ca), .val (.int 0), .val (.int 2), .unset, .unset, .unset] [] := by first | (simp [entryFrame, mkF, argsToLocals, Value.category]; done) | rfl
theorem d8_0 : Dc jdk_52_method_16_code 0 (.iload_n 2) 1 1 := ⟨by decide +kernel, rfl⟩
theorem d8_1 : Dc jdk_52_method_16_code 1 (.newarray .byte) 2 3 := ⟨by decide +kernel, rfl⟩
theorem d8_3 : Dc jdk_52_method_16_code 3 (.astore_n 3) 1 4 := ⟨by decide +kernel, rfl⟩
theorem d8_4 : Dc jdk_52_method_16_code 4 (.aload_n 0) 1 5 := ⟨by decide +kernel, rfl⟩
theorem d8_5 : Dc jdk_52_method_16_code 5 (.iload_n 1) 1 6 := ⟨by decide +kernel, rfl⟩
theorem d8_6 : Dc jdk_52_method_16_code 6 (.aload_n 3) 1 7 := ⟨by decide +kernel, rfl⟩
theorem d8_7 : Dc jdk_52_method_16_code 7 (.iconst 0) 1 8 := ⟨by decide +kernel, rfl⟩
theorem d8_8 : Dc jdk_52_method_16_code 8 (.iload_n 2) 1 9 := ⟨by decide +kernel, rfl⟩
theorem d8_9 : Dc jdk_52_method_16_code 9 (.invokestatic 115) 3 12 := ⟨by decide +kernel, rfl⟩
theorem pd_16 : parseMethodDescriptor "([CI[BII)I" = some ⟨[(.array .char), .int, (.array .byte), .int, .int], some .int⟩ := by decide +kernel
theorem d8_12 : Dc jdk_52_method_16_code 12 (.istore 4) 2 14 := ⟨by decide +kernel, rfl⟩
theorem d8_14 : Dc jdk_52_method_16_code 14 (.iload 4) 2 16 := ⟨by decide +kernel, rfl⟩
theorem d8_16 : Dc jdk_52_method_16_code 16 (.iload_n 2) 1 17 := ⟨by decide +kernel, rfl⟩
theorem d8_17 : Dj jdk_52_method_16_code 17 (.if_icmp .eq 40) 40 3 20 57 := ⟨by decide +kernel, rfl, by decide, by decide⟩
theorem d8_20 : Dc jdk_52_method_16_code 20 (.aload_n 0) 1 21 := ⟨by decide +kernel, rfl⟩
theorem d8_21 : Dc jdk_52_method_16_code 21 (.iload_n 1) 1 22 := ⟨by decide +kernel, rfl⟩
theorem d8_22 : Dc jdk_52_method_16_code 22 (.iload_n 2) 1 23 := ⟨by decide +kernel, rfl⟩
theorem d8_23 : Dc jdk_52_method_16_code 23 (.invokestatic 119) 3 26 := ⟨by decide +kernel, rfl⟩
theorem pd_17 : parseMethodDescriptor "([CII)[B" = some ⟨[(.array .char), .int, .int], some (.array .byte)⟩ := by decide +kernel
theorem d8_26 : Dc jdk_52_method_16_code 26 (.astore 5) 2 28 := ⟨by decide +kernel, rfl⟩
theorem d8_28 : Dc jdk_52_method_16_code 28 (.aload 5) 2 30 := ⟨by decide +kernel, rfl⟩
theorem d8_30 : Dc jdk_52_method_16_code 30 (.iload 4) 2 32 := ⟨by decide +kernel, rfl⟩
theorem d8_32 : Dc jdk_52_method_16_code 32 (.invokestatic 71) 3 35 := ⟨by decide +kernel, rfl⟩
theorem d8_35 : Dc jdk_52_method_16_code 35 (.sipush 255) 3 38 := ⟨by decide +kernel, rfl⟩
theorem d8_38 : Dj jdk_52_method_16_code 38 (.if_icmp .gt 16) 16 3 41 54 := ⟨by decide +kernel, rfl, by decide, by decide⟩
theorem d8_54 : Dc jdk_52_method_16_code 54 (.aload 5) 2 56 := ⟨by decide +kernel, rfl⟩
theorem d8_56 : Dc jdk_52_method_16_code 56 (.areturn) 1 57 := ⟨by decide +kernel, rfl⟩
theorem rCp0 (l : Launch) {Z : State} {a0 : Array Value} (hw : ∀ d ∈ tables_1, d.before a0 Z = true) {h : Heap} (hE : Ext Z.heap h) (ca : Addr) (S1 : Sta Z Z.heap "java/lang/StringUTF16" "$assertionsDisabled" "Z" (.int (1 : Int32))) (S2 : Sta Z Z.heap "java/lang/StringUTF16" "HI_BYTE_SHIFT" "I" (.int (0 : Int32))) (S3 : Sta Z Z.heap "java/lang/StringUTF16" "LO_BYTE_SHIFT" "I" (.int (8 : Int32))) (kc : ClassId) (a b : Int32) (VC : Arv Z h ca kc .char 2 [(.int a), (.int b)] (.int (0 : Int32))) (ha : (¬ a < 0 ∧ ¬ (65535 : Int32) < a)) (hb : (¬ b < 0 ∧ ¬ (65535 : Int32) < b)) (l1 : (255 : Int32) < a) :
    Con l (⟨"java/lang/StringUTF16", "compress", "([CII)[B"⟩ : MethodName) jdk_52_method_16_code 6 (some (.array .byte)) [] ({ frames := 4, cells := 2, slots := 6, locals := 80 } : Room) Z #[(.ref ca), (.int 0), (.int 2)] h (fun v' h' => ∃ b_ kb, v' = some (.ref b_) ∧ Z.heap.size ≤ b_ ∧ h.size ≤ b_ ∧ Ext h h' ∧ Arv Z h' b_ kb .byte 4 [(.int ((a >>> ((0 : Int32) &&& 31)).toInt8.toInt32)), (.int ((a >>> ((8 : Int32) &&& 31)).toInt8.toInt32)), (.int ((b >>> ((0 : Int32) &&& 31)).toInt8.toInt32)), (.int ((b >>> ((8 : Int32) &&& 31)).toInt8.toInt32))] (.int (0 : Int32))) := by
  refine con_of (plainFor_of_name pn_3) hE (fun m => ef_rCp0 m ca) ?_
  intro p e s m below meth c T0 C X0
  have C : Cx p s m meth c Z "java/lang/StringUTF16" "compress" jdk_52_method_16_code 6 (some (.array .byte)) := C
  show Goes p e below _ T0 (mkF m 0 #[.val (.ref ca), .val (.int 0), .val (.int 2), .unset, .unset, .unset] [])
  refine g_iloadN C X0 d8_0 rfl (g_newarray C X0 (wd hw 2 rfl) d8_1 (by decide) 2 2 (by decide) (by decide) (by decide) (by decide) (fun T265 h265 b265 k_b265 g_b265 n_b265 X265 E265 V265 => ?_))
  have lt266 : ca < b265 := by rw [g_b265]; exact Arv.lt VC
  have V_b265 : Arv Z h265 b265 k_b265 .byte (2 : Int32) [(.int 0), (.int 0)] (.int 0) := V265
  refine g_astoreN C X265 d8_3 rfl (l' := #[.val (.ref ca), .val (.int 0), .val (.int 2), .val (.ref b265), .unset, .unset]) rfl (g_aloadN C X265 d8_4 rfl rfl (g_iloadN C X265 d8_5 rfl (g_aloadN C X265 d8_6 rfl rfl (g_iconst 0 C X265 d8_7 rfl (g_iloadN C X265 d8_8 rfl ?_)))))
  have f267 := (Arv.ext VC E265)
  refine g_static (argsL := [(.ref ca), (.int 0), (.ref b265), (.int 0), (.int 2)]) (st := []) C X265 (wd hw 43 rfl) (wd hw 44 rfl) (wd hw 41 rfl) (wd hw 45 rfl) (by decide) (pay_of (W' := 0) (rC50 l hw X265.ext ca b265 k_b265 kc a b V_b265 n_b265 (Nat.ne_of_lt lt266) f267 l1) C.hZ (wd hw 45 rfl) (wd hw 41 rfl) (by decide) (by decide)) pd_16 rfl rfl _ rfl (Nat.le_of_eq rfl) d8_9 (by decide) (by decide) (fun T268 h268 v268 q268 X268 => ?_)
  obtain ⟨rfl, K268⟩ := q268
  show Goes p e below _ T268 (mkF m 12 #[.val (.ref ca), .val (.int 0), .val (.int 2), .val (.ref b265), .unset, .unset] [(.int 0)])
  refine g_istore C X268 d8_12 (l' := #[.val (.ref ca), .val (.int 0), .val (.int 2), .val (.ref b265), .val (.int 0), .unset]) rfl (g_iload C X268 d8_14 rfl (g_iloadN C X268 d8_16 rfl (g_icmp (hI_eq _ _) C X268 d8_17 (fun q => absurd q (by decide)) (fun _ => ?_))))
  refine g_aloadN C X268 d8_20 rfl rfl (g_iloadN C X268 d8_21 rfl (g_iloadN C X268 d8_22 rfl ?_))
  have f269 := (Arv.keep f267 K268 (ninS (Nat.ne_of_lt lt266) nin0))
  refine g_static (argsL := [(.ref ca), (.int 0), (.int 2)]) (st := []) C X268 (wd hw 107 rfl) (wd hw 108 rfl) (wd hw 41 rfl) (wd hw 109 rfl) (by decide) (pay_of (W' := 0) (rTs l hw X268.ext ca S1 S2 S3 kc a b f269) C.hZ (wd hw 109 rfl) (wd hw 41 rfl) (by decide) (by decide)) pd_17 rfl rfl _ rfl (Nat.le_of_eq rfl) d8_23 (by decide) (by decide) (fun T270 h270 v270 q270 X270 => ?_)
  obtain ⟨b270, k_b270, rfl, n_b270, g270, E270, V270⟩ := q270
  have lt271 : ca < b270 := Nat.lt_of_lt_of_le (Arv.lt f269) g270
  show Goes p e below _ T270 (mkF m 26 #[.val (.ref ca), .val (.int 0), .val (.int 2), .val (.ref b265), .val (.int 0), .unset] [(.ref b270)])
  refine g_astore C X270 d8_26 rfl (l' := #[.val (.ref ca), .val (.int 0), .val (.int 2), .val (.ref b265), .val (.int 0), .val (.ref b270)]) rfl (g_aload C X270 d8_28 rfl rfl (g_iload C X270 d8_30 rfl (g_staticP (argsL := [(.ref b270), (.int 0)]) (st := []) C X270 (wd hw 117 rfl) (wd hw 118 rfl) (wd hw 41 rfl) (wd hw 119 rfl) (by decide) (pay_of (W' := 0) (rGc20 l hw X270.ext b270 S1 S2 S3 k_b270 a b V270 ha hb) C.hZ (wd hw 119 rfl) (wd hw 41 rfl) (by decide) (by decide)) pd_6 rfl rfl _ rfl (Nat.le_of_eq rfl) d8_32 (by decide) (by decide) (fun T272 X272 => ?_))))
  refine g_sipush 255 C X272 d8_35 rfl (g_icmp (hI_gt _ _) C X272 d8_38 (fun _ => ?_) (fun q => absurd l1 q))
  refine g_aload C X272 d8_54 rfl rfl ?_
  have sz273 : h.size ≤ b265 := by rw [g_b265]; exact (Keep.refl h []).1
  have kp274 := (Keep.refl h []).ext E265
  have kp275 := kp274.trans K268 (allS (Or.inr sz273) all0)
  have sz276 : h.size ≤ b270 := Nat.le_trans kp275.1 g270
  have kp277 := kp275.ext E270
  exact g_retA C X272 rfl rfl d8_56 (by decide) (by decide) ⟨b270, k_b270, rfl, n_b270, sz276, keep_ext kp277, V270⟩
theorem ef_rCf (m : MethodId) (t : Addr) : entryFrame m #[(.ref t), (.int 2)] 2 = mkF m 0 #[.val (.ref t), .val (.int 2)] [] := by first | (simp [entryFrame, mkF, argsToLocals, Value.category]; done) | rfl
theorem d10_0 : Dc jdk_52_method_15_code 0 (.iload_n 1) 1 1 := ⟨by decide +kernel, rfl⟩
theorem d10_1 : Dc jdk_52_method_15_code 1 (.aload_n 0) 1 2 := ⟨by decide +kernel, rfl⟩
theorem d10_2 : Dc jdk_52_method_15_code 2 (.arraylength) 1 3 := ⟨by decide +kernel, rfl⟩
theorem d10_3 : Dc jdk_52_method_15_code 3 (.isub) 1 4 := ⟨by decide +kernel, rfl⟩
theorem d10_4 : Dc jdk_52_method_15_code 4 (.bipush 31) 2 6 := ⟨by decide +kernel, rfl⟩
theorem d10_6 : Dc jdk_52_method_15_code 6 (.iushr) 1 7 := ⟨by decide +kernel, rfl⟩
theorem d10_7 : Dc jdk_52_method_15_code 7 (.i2b) 1 8 := ⟨by decide +kernel, rfl⟩
theorem d10_8 : Dc jdk_52_method_15_code 8 (.ireturn) 1 9 := ⟨by decide +kernel, rfl⟩
theorem rCf (l : Launch) {Z : State} {a0 : Array Value} (hw : ∀ d ∈ tables_1, d.before a0 Z = true) {h : Heap} (hE : Ext Z.heap h) (t : Addr) (kt : ClassId) (a b : Int32) (VT : Arv Z h t kt .byte 4 [(.int ((a >>> ((0 : Int32) &&& 31)).toInt8.toInt32)), (.int ((a >>> ((8 : Int32) &&& 31)).toInt8.toInt32)), (.int ((b >>> ((0 : Int32) &&& 31)).toInt8.toInt32)), (.int ((b >>> ((8 : Int32) &&& 31)).toInt8.toInt32))] (.int (0 : Int32))) (ha : (¬ a < 0 ∧ ¬ (65535 : Int32) < a)) (hb : (¬ b < 0 ∧ ¬ (65535 : Int32) < b))  :
    Con l (⟨"java/lang/StringUTF16", "coderFromArrayLen", "([BI)B"⟩ : MethodName) jdk_52_method_15_code 2 (some .byte) [] ({ frames := 0, cells := 0, slots := 0, locals := 0 } : Room) Z #[(.ref t), (.int 2)] h (fun v' h' => v' = some (.int 1) ∧ h' = h) := by
  refine con_of (plainFor_of_name pn_3) hE (fun m => ef_rCf m t) ?_
  intro p e s m below meth c T0 C X0
  have C : Cx p s m meth c Z "java/lang/StringUTF16" "coderFromArrayLen" jdk_52_method_15_code 2 (some .byte) := C
  show Goes p e below _ T0 (mkF m 0 #[.val (.ref t), .val (.int 2)] [])
  refine g_iloadN C X0 d10_0 rfl (g_aloadN C X0 d10_1 rfl rfl (g_arraylength C X0 VT d10_2 (g_isub C X0 d10_3 (g_bipush 31 C X0 d10_4 rfl (g_iushr C X0 d10_6 (g_i2b C X0 d10_7 ?_))))))
  exact g_retN C X0 (by simp) d10_8 (1 : Int32) rfl (by decide) (by decide) ⟨rfl, rfl⟩
theorem ef_rX40 (m : MethodId) (x : Addr) (ca : Addr) : entryFrame m #[(.ref x), (.ref ca), (.int 0), (.int 2), .null] 6 = mkF m 0 #[.val (.ref x), .val (.ref ca), .val (.int 0), .val (.int 2), .val .null, .unset] [] := by first | (simp [entryFrame, mkF, argsToLocals, Value.category]; done) | rfl
theorem d2_27 : Dc jdk_42_method_149_code 27 (.getstatic 38) 3 30 := ⟨by decide +kernel, rfl⟩
theorem d2_30 : Dj jdk_42_method_149_code 30 (.ifCond .eq 28) 28 3 33 58 := ⟨by decide +kernel, rfl, by decide, by decide⟩
theorem d2_33 : Dc jdk_42_method_149_code 33 (.aload_n 1) 1 34 := ⟨by decide +kernel, rfl⟩
theorem d2_34 : Dc jdk_42_method_149_code 34 (.iload_n 2) 1 35 := ⟨by decide +kernel, rfl⟩
theorem d2_35 : Dc jdk_42_method_149_code 35 (.iload_n 3) 1 36 := ⟨by decide +kernel, rfl⟩
theorem d2_36 : Dc jdk_42_method_149_code 36 (.invokestatic 177) 3 39 := ⟨by decide +kernel, rfl⟩
theorem d2_39 : Dc jdk_42_method_149_code 39 (.astore 5) 2 41 := ⟨by decide +kernel, rfl⟩
theorem d2_41 : Dc jdk_42_method_149_code 41 (.aload_n 0) 1 42 := ⟨by decide +kernel, rfl⟩
theorem d2_42 : Dc jdk_42_method_149_code 42 (.aload 5) 2 44 := ⟨by decide +kernel, rfl⟩
theorem d2_44 : Dc jdk_42_method_149_code 44 (.iload_n 3) 1 45 := ⟨by decide +kernel, rfl⟩
theorem d2_45 : Dc jdk_42_method_149_code 45 (.invokestatic 47) 3 48 := ⟨by decide +kernel, rfl⟩
theorem pd_18 : parseMethodDescriptor "([BI)B" = some ⟨[(.array .byte), .int], some .byte⟩ := by decide +kernel
theorem d2_48 : Dc jdk_42_method_149_code 48 (.putfield 15) 3 51 := ⟨by decide +kernel, rfl⟩
theorem d2_51 : Dc jdk_42_method_149_code 51 (.aload_n 0) 1 52 := ⟨by decide +kernel, rfl⟩
theorem d2_52 : Dc jdk_42_method_149_code 52 (.aload 5) 2 54 := ⟨by decide +kernel, rfl⟩
theorem d2_54 : Dc jdk_42_method_149_code 54 (.putfield 9) 3 57 := ⟨by decide +kernel, rfl⟩
theorem d2_57 : Dc jdk_42_method_149_code 57 (.return_) 1 58 := ⟨by decide +kernel, rfl⟩
theorem rX40 (l : Launch) {Z : State} {a0 : Array Value} (hw : ∀ d ∈ tables_1, d.before a0 Z = true) {h : Heap} (hE : Ext Z.heap h) (x : Addr) (ca : Addr) (z_ : Int32) (SZ : Sta Z Z.heap "java/lang/String" "COMPACT_STRINGS" "Z" (.int z_)) (hz : ¬ z_ = 0) (S1 : Sta Z Z.heap "java/lang/StringUTF16" "$assertionsDisabled" "Z" (.int (1 : Int32))) (S2 : Sta Z Z.heap "java/lang/StringUTF16" "HI_BYTE_SHIFT" "I" (.int (0 : Int32))) (S3 : Sta Z Z.heap "java/lang/StringUTF16" "LO_BYTE_SHIFT" "I" (.int (8 : Int32))) (kc : ClassId) (a b : Int32) (EX : Exa Z h x "java/lang/String") (FC : Fld Z h x "java/lang/String" "coder" "B" (.int (0 : Int32))) (FV : Fld Z h x "java/lang/String" "value" "[B" .null) (hn : Z.heap.size ≤ x) (VC : Arv Z h ca kc .char 2 [(.int a), (.int b)] (.int (0 : Int32))) (ha : (¬ a < 0 ∧ ¬ (65535 : Int32) < a)) (hb : (¬ b < 0 ∧ ¬ (65535 : Int32) < b)) (l1 : (255 : Int32) < a) :
    Con l (⟨"java/lang/String", "<init>", "([CIILjava/lang/Void;)V"⟩ : MethodName) jdk_42_method_149_code 6 none [] ({ frames := 5, cells := 2, slots := 6, locals := 100 } : Room) Z #[(.ref x), (.ref ca), (.int 0), (.int 2), .null] h (fun v' h' => v' = none ∧ Keep h h' [x] ∧ Exa Z h' x "java/lang/String" ∧ Fld Z h' x "java/lang/String" "coder" "B" (.int (1 : Int32)) ∧ ∃ (t : Addr) (kt : ClassId), h.size ≤ t ∧ Fld Z h' x "java/lang/String" "value" "[B" (.ref t) ∧ Arv Z h' t kt .byte 4 [(.int ((a >>> ((0 : Int32) &&& 31)).toInt8.toInt32)), (.int ((a >>> ((8 : Int32) &&& 31)).toInt8.toInt32)), (.int ((b >>> ((0 : Int32) &&& 31)).toInt8.toInt32)), (.int ((b >>> ((8 : Int32) &&& 31)).toInt8.toInt32))] (.int (0 : Int32))) := by
  refine con_of (plainFor_of_name pn_0) hE (fun m => ef_rX40 m x ca) ?_
  intro p e s m below meth c T0 C X0
  have C : Cx p s m meth c Z "java/lang/String" "<init>" jdk_42_method_149_code 6 none := C
  show Goes p e below _ T0 (mkF m 0 #[.val (.ref x), .val (.ref ca), .val (.int 0), .val (.int 2), .val .null, .unset] [])
  refine g_aloadN C X0 d2_0 rfl rfl (g_initO C X0 (wd hw 14 rfl) (wd hw 15 rfl) (wd hw 16 rfl) rfl d2_1 (by decide) 0 (Nat.le_of_eq rfl) (by decide) (fun T278 X278 => ?_))
  refine g_iloadN C X278 d2_4 rfl (g_ifn (h0_ne _) C X278 d2_5 (fun _ => ?_) (fun q => absurd q (by decide)))
  refine g_getstatic (host := "") C X278 (Or.inl (wd hw 27 rfl)) Via.refl SZ d2_27 (fun T279 X279 => ?_)
  refine g_if (h0_eq _) C X279 d2_30 (fun q => absurd q hz) (fun _ => ?_)
  refine g_aloadN C X279 d2_33 rfl rfl (g_iloadN C X279 d2_34 rfl (g_iloadN C X279 d2_35 rfl (g_static (argsL := [(.ref ca), (.int 0), (.int 2)]) (st := []) C X279 (wd hw 39 rfl) (wd hw 40 rfl) (wd hw 41 rfl) (wd hw 42 rfl) (by decide) (pay_of (W' := 0) (rCp0 l hw X279.ext ca S1 S2 S3 kc a b VC ha hb l1) C.hZ (wd hw 42 rfl) (wd hw 41 rfl) (by decide) (by decide)) pd_17 rfl rfl _ rfl (Nat.le_of_eq rfl) d2_36 (by decide) (by decide) (fun T280 h280 v280 q280 X280 => ?_))))
  obtain ⟨b280, k_b280, rfl, n_b280, g280, E280, V280⟩ := q280
  have lt281 : ca < b280 := Nat.lt_of_lt_of_le (Arv.lt VC) g280
  have lt282 : x < b280 := Nat.lt_of_lt_of_le (Exa.lt EX) g280
  show Goes p e below _ T280 (mkF m 39 #[.val (.ref x), .val (.ref ca), .val (.int 0), .val (.int 2), .val .null, .unset] [(.ref b280)])
  refine g_astore C X280 d2_39 rfl (l' := #[.val (.ref x), .val (.ref ca), .val (.int 0), .val (.int 2), .val .null, .val (.ref b280)]) rfl (g_aloadN C X280 d2_41 rfl rfl (g_aload C X280 d2_42 rfl rfl (g_iloadN C X280 d2_44 rfl (g_staticP (argsL := [(.ref b280), (.int 2)]) (st := [(.ref x)]) C X280 (wd hw 46 rfl) (wd hw 47 rfl) (wd hw 41 rfl) (wd hw 48 rfl) (by decide) (pay_of (W' := 1) (rCf l hw X280.ext b280 k_b280 a b V280 ha hb) C.hZ (wd hw 48 rfl) (wd hw 41 rfl) (by decide) (by decide)) pd_18 rfl rfl _ rfl (Nat.le_of_eq rfl) d2_45 (by decide) (by decide) (fun T283 X283 => ?_)))))
  have f284 := (Fld.ext E280 FC)
  have f285 := (Exa.ext E280 EX)
  refine g_putfield (host := "") C X283 (Or.inl (wd hw 23 rfl)) Via.refl f284 f285 (Or.inr ⟨(wd hw 19 rfl), rfl, rfl⟩) (wd hw 4 rfl) (ty := .byte) (by decide) rfl rfl hn d2_48 (fun T286 h286 X286 W286 => ?_)
  have f286 := Fld.same W286 f284
  refine g_aloadN C X286 d2_51 rfl rfl (g_aload C X286 d2_52 rfl rfl ?_)
  have f287 := (Fld.other W286 (Fld.ext E280 FV) (Or.inr (slot_ne (Or.inr (wd hw 18 rfl)) (Or.inr (wd hw 19 rfl)) (by decide) (t := (.array .byte)) (t' := .byte) (by decide) (by decide))))
  have f288 := (Exa.wr W286 f285)
  refine g_putfield (host := "") C X286 (Or.inl (wd hw 22 rfl)) Via.refl f287 f288 (Or.inr ⟨(wd hw 18 rfl), rfl, rfl⟩) (wd hw 4 rfl) (ty := (.array .byte)) (by decide) rfl rfl hn d2_54 (fun T289 h289 X289 W289 => ?_)
  have f289 := Fld.same W289 f287
  have sz290 : h.size ≤ b280 := Nat.le_trans (Keep.refl h [x]).1 g280
  have kp291 := (Keep.refl h [x]).ext E280
  have kp292 := kp291.wr W286 (Or.inl (by simp))
  have kp293 := kp292.wr W289 (Or.inl (by simp))
  have f294 := (Exa.wr W289 f288)
  have f295 := (Fld.other W289 f286 (Or.inr (slot_ne (Or.inr (wd hw 19 rfl)) (Or.inr (wd hw 18 rfl)) (by decide) (t := .byte) (t' := (.array .byte)) (by decide) (by decide))))
  have f296 := (Arv.other (Arv.other V280 W286 (Nat.ne_of_gt lt282)) W289 (Nat.ne_of_gt lt282))
  exact g_retV C X289 d2_57 (by decide) (by decide) ⟨rfl, kp293, f294, f295, b280, k_b280, sz290, f289, f296⟩
theorem ef_rX10 (m : MethodId) (x : Addr) (ca : Addr) : entryFrame m #[(.ref x), (.ref ca)] 2 = mkF m 0 #[.val (.ref x), .val (.ref ca)] [] := by first | (simp [entryFrame, mkF, argsToLocals, Value.category]; done) | rfl
theorem rX10 (l : Launch) {Z : State} {a0 : Array Value} (hw : ∀ d ∈ tables_1, d.before a0 Z = true) {h : Heap} (hE : Ext Z.heap h) (x : Addr) (ca : Addr) (z_ : Int32) (SZ : Sta Z Z.heap "java/lang/String" "COMPACT_STRINGS" "Z" (.int z_)) (hz : ¬ z_ = 0) (S1 : Sta Z Z.heap "java/lang/StringUTF16" "$assertionsDisabled" "Z" (.int (1 : Int32))) (S2 : Sta Z Z.heap "java/lang/StringUTF16" "HI_BYTE_SHIFT" "I" (.int (0 : Int32))) (S3 : Sta Z Z.heap "java/lang/StringUTF16" "LO_BYTE_SHIFT" "I" (.int (8 : Int32))) (kc : ClassId) (a b : Int32) (EX : Exa Z h x "java/lang/String") (FC : Fld Z h x "java/lang/String" "coder" "B" (.int (0 : Int32))) (FV : Fld Z h x "java/lang/String" "value" "[B" .null) (hn : Z.heap.size ≤ x) (VC : Arv Z h ca kc .char 2 [(.int a), (.int b)] (.int (0 : Int32))) (ha : (¬ a < 0 ∧ ¬ (65535 : Int32) < a)) (hb : (¬ b < 0 ∧ ¬ (65535 : Int32) < b)) (l1 : (255 : Int32) < a) :
    Con l (⟨"java/lang/String", "<init>", "([C)V"⟩ : MethodName) jdk_42_method_3_code 2 none [] ({ frames := 6, cells := 2, slots := 6, locals := 120 } : Room) Z #[(.ref x), (.ref ca)] h (fun v' h' => v' = none ∧ Keep h h' [x] ∧ Exa Z h' x "java/lang/String" ∧ Fld Z h' x "java/lang/String" "coder" "B" (.int (1 : Int32)) ∧ ∃ (t : Addr) (kt : ClassId), h.size ≤ t ∧ Fld Z h' x "java/lang/String" "value" "[B" (.ref t) ∧ Arv Z h' t kt .byte 4 [(.int ((a >>> ((0 : Int32) &&& 31)).toInt8.toInt32)), (.int ((a >>> ((8 : Int32) &&& 31)).toInt8.toInt32)), (.int ((b >>> ((0 : Int32) &&& 31)).toInt8.toInt32)), (.int ((b >>> ((8 : Int32) &&& 31)).toInt8.toInt32))] (.int (0 : Int32))) := by
  refine con_of (plainFor_of_name pn_0) hE (fun m => ef_rX10 m x ca) ?_
  intro p e s m below meth c T0 C X0
  have C : Cx p s m meth c Z "java/lang/String" "<init>" jdk_42_method_3_code 2 none := C
  show Goes p e below _ T0 (mkF m 0 #[.val (.ref x), .val (.ref ca)] [])
  refine g_aloadN C X0 d1_0 rfl rfl (g_aloadN C X0 d1_1 rfl rfl (g_iconst 0 C X0 d1_2 rfl (g_aloadN C X0 d1_3 rfl rfl (g_arraylength C X0 VC d1_4 (g_aconst_null C X0 d1_5 (g_special (argsL := [(.ref ca), (.int 0), (.int 2), .null]) (st := []) C X0 rfl (wd hw 10 rfl) (wd hw 11 rfl) (wd hw 13 rfl) (by decide) (pay_of (W' := 0) (rX40 l hw X0.ext x ca z_ SZ hz S1 S2 S3 kc a b EX FC FV hn VC ha hb l1) C.hZ (wd hw 13 rfl) (wd hw 5 rfl) (by decide) (by decide)) pd_0 rfl rfl _ rfl (Nat.le_of_eq rfl) d1_6 (by decide) (by decide) (fun T297 h297 v297 q297 X297 => ?_)))))))
  obtain ⟨rfl, K297, A297⟩ := q297
  show Goes p e below _ T297 (mkF m 9 #[.val (.ref x), .val (.ref ca)] [])
  exact g_retV C X297 d1_9 (by decide) (by decide) ⟨rfl, K297, A297⟩
theorem ef_rC51 (m : MethodId) (ca : Addr) (t : Addr) : entryFrame m #[(.ref ca), (.int 0), (.ref t), (.int 0), (.int 2)] 7 = mkF m 0 #[.val (.ref ca), .val (.int 0), .val (.ref t), .val (.int 0), .val (.int 2), .unset, .unset] [] := by first | (simp [entryFrame, mkF, argsToLocals, Value.category]; done) | rfl
theorem d9_26 : Dc jdk_52_method_21_code 26 (.aload_n 2) 1 27 := ⟨by decide +kernel, rfl⟩
theorem d9_27 : Dc jdk_52_method_21_code 27 (.iload_n 3) 1 28 := ⟨by decide +kernel, rfl⟩
theorem d9_28 : Dc jdk_52_method_21_code 28 (.iload 6) 2 30 := ⟨by decide +kernel, rfl⟩
theorem d9_30 : Dc jdk_52_method_21_code 30 (.i2b) 1 31 := ⟨by decide +kernel, rfl⟩
theorem d9_31 : Dc jdk_52_method_21_code 31 (.bastore) 1 32 := ⟨by decide +kernel, rfl⟩
theorem d9_32 : Dc jdk_52_method_21_code 32 (.iinc 1 1) 3 35 := ⟨by decide +kernel, rfl⟩
theorem d9_35 : Dc jdk_52_method_21_code 35 (.iinc 3 1) 3 38 := ⟨by decide +kernel, rfl⟩
theorem d9_38 : Dc jdk_52_method_21_code 38 (.iinc 5 1) 3 41 := ⟨by decide +kernel, rfl⟩
theorem d9_41 : Dj jdk_52_method_21_code 41 (.goto (-38)) (-38) 3 44 3 := ⟨by decide +kernel, rfl, by decide, by decide⟩
theorem rC51 (l : Launch) {Z : State} {a0 : Array Value} (hw : ∀ d ∈ tables_1, d.before a0 Z = true) {h : Heap} (hE : Ext Z.heap h) (ca : Addr) (t : Addr) (kt : ClassId) (kc : ClassId) (a b : Int32) (VT : Arv Z h t kt .byte 2 [(.int 0), (.int 0)] (.int (0 : Int32))) (hn : Z.heap.size ≤ t) (ne : ca ≠ t) (VC : Arv Z h ca kc .char 2 [(.int a), (.int b)] (.int (0 : Int32))) (la : ¬ (255 : Int32) < a) (l1 : (255 : Int32) < b) :
    Con l (⟨"java/lang/StringUTF16", "compress", "([CI[BII)I"⟩ : MethodName) jdk_52_method_21_code 7 (some .int) [] ({ frames := 0, cells := 0, slots := 0, locals := 0 } : Room) Z #[(.ref ca), (.int 0), (.ref t), (.int 0), (.int 2)] h (fun v' h' => v' = some (.int (1 : Int32)) ∧ Keep h h' [t]) := by
  refine con_of (plainFor_of_name pn_3) hE (fun m => ef_rC51 m ca t) ?_
  intro p e s m below meth c T0 C X0
  have C : Cx p s m meth c Z "java/lang/StringUTF16" "compress" jdk_52_method_21_code 7 (some .int) := C
  show Goes p e below _ T0 (mkF m 0 #[.val (.ref ca), .val (.int 0), .val (.ref t), .val (.int 0), .val (.int 2), .unset, .unset] [])
  refine g_iconst 0 C X0 d9_0 rfl (g_istore C X0 d9_1 (l' := #[.val (.ref ca), .val (.int 0), .val (.ref t), .val (.int 0), .val (.int 2), .val (.int 0), .unset]) rfl (g_iload C X0 d9_3 rfl (g_iload C X0 d9_5 rfl (g_icmpn (hI_ge _ _) C X0 d9_7 (fun q => absurd (by decide) q) (fun _ => ?_)))))
  refine g_aloadN C X0 d9_10 rfl rfl (g_iloadN C X0 d9_11 rfl (g_caload C X0 VC d9_12 (by decide) (by decide) rfl (g_istore C X0 d9_13 (l' := #[.val (.ref ca), .val (.int 0), .val (.ref t), .val (.int 0), .val (.int 2), .val (.int 0), .val (.int a)]) rfl (g_iload C X0 d9_15 rfl (g_sipush 255 C X0 d9_17 rfl (g_icmpn (hI_le _ _) C X0 d9_20 (fun _ => ?_) (fun q => absurd q la)))))))
  refine g_aloadN C X0 d9_26 rfl rfl (g_iloadN C X0 d9_27 rfl (g_iload C X0 d9_28 rfl (g_i2b C X0 d9_30 (g_bastore C X0 VT hn d9_31 (by decide) (by decide) (Nat.le_of_ble_eq_true rfl) (.int (a.toInt8.toInt32)) (own_nb _) (fun T298 h298 X298 W298 V298 => ?_)))))
  have V298_t : Arv Z h298 t kt .byte (2 : Int32) [(.int (a.toInt8.toInt32)), (.int 0)] (.int 0) := V298
  refine g_iinc 1 C X298 d9_32 rfl rfl (l' := #[.val (.ref ca), .val (.int 1), .val (.ref t), .val (.int 0), .val (.int 2), .val (.int 0), .val (.int a)]) rfl (g_iinc 1 C X298 d9_35 rfl rfl (l' := #[.val (.ref ca), .val (.int 1), .val (.ref t), .val (.int 1), .val (.int 2), .val (.int 0), .val (.int a)]) rfl (g_iinc 1 C X298 d9_38 rfl rfl (l' := #[.val (.ref ca), .val (.int 1), .val (.ref t), .val (.int 1), .val (.int 2), .val (.int 1), .val (.int a)]) rfl (g_goto C X298 d9_41 (g_iload C X298 d9_3 rfl (g_iload C X298 d9_5 rfl (g_icmpn (hI_ge _ _) C X298 d9_7 (fun q => absurd (by decide) q) (fun _ => ?_)))))))
  refine g_aloadN C X298 d9_10 rfl rfl (g_iloadN C X298 d9_11 rfl ?_)
  have f299 := (Arv.other VC W298 ne)
  refine g_caload C X298 f299 d9_12 (by decide) (by decide) rfl (g_istore C X298 d9_13 (l' := #[.val (.ref ca), .val (.int 1), .val (.ref t), .val (.int 1), .val (.int 2), .val (.int 1), .val (.int b)]) rfl (g_iload C X298 d9_15 rfl (g_sipush 255 C X298 d9_17 rfl (g_icmpn (hI_le _ _) C X298 d9_20 (fun q => absurd l1 q) (fun _ => ?_)))))
  refine g_iload C X298 d9_23 rfl ?_
  have kp300 := (Keep.refl h [t]).wr W298 (Or.inl (by simp))
  exact g_retI C X298 d9_25 (by decide) (by decide) ⟨rfl, kp300⟩
theorem ef_rCp1 (m : MethodId) (ca : Addr) : entryFrame m #[(.ref ca), (.int 0), (.int 2)] 6 = mkF m 0 #[.val (.ref ca), .val (.int 0), .val (.int 2), .unset, .unset, .unset] [] := by first | (simp [entryFrame, mkF, argsToLocals, Value.category]; done) | rfl
theorem rCp1 (l : Launch) {Z : State} {a0 : Array Value} (hw : ∀ d ∈ tables_1, d.before a0 Z = true) {h : Heap} (hE : Ext Z.heap h) (ca : Addr) (S1 : Sta Z Z.heap "java/lang/StringUTF16" "$assertionsDisabled" "Z" (.int (1 : Int32))) (S2 : Sta Z Z.heap "java/lang/StringUTF16" "HI_BYTE_SHIFT" "I" (.int (0 : Int32))) (S3 : Sta Z Z.heap "java/lang/StringUTF16" "LO_BYTE_SHIFT" "I" (.int (8 : Int32))) (kc : ClassId) (a b : Int32) (VC : Arv Z h ca kc .char 2 [(.int a), (.int b)] (.int (0 : Int32))) (ha : (¬ a < 0 ∧ ¬ (65535 : Int32) < a)) (hb : (¬ b < 0 ∧ ¬ (65535 : Int32) < b)) (la : ¬ (255 : Int32) < a) (l1 : (255 : Int32) < b) :
    Con l (⟨"java/lang/StringUTF16", "compress", "([CII)[B"⟩ : MethodName) jdk_52_method_16_code 6 (some (.array .byte)) [] ({ frames := 4, cells := 2, slots := 6, locals := 80 } : Room) Z #[(.ref ca), (.int 0), (.int 2)] h (fun v' h' => ∃ b_ kb, v' = some (.ref b_) ∧ Z.heap.size ≤ b_ ∧ h.size ≤ b_ ∧ Ext h h' ∧ Arv Z h' b_ kb .byte 4 [(.int ((a >>> ((0 : Int32) &&& 31)).toInt8.toInt32)), (.int ((a >>> ((8 : Int32) &&& 31)).toInt8.toInt32)), (.int ((b >>> ((0 : Int32) &&& 31)).toInt8.toInt32)), (.int ((b >>> ((8 : Int32) &&& 31)).toInt8.toInt32))] (.int (0 : Int32))) := by
  refine con_of (plainFor_of_name pn_3) hE (fun m => ef_rCp1 m ca) ?_
  intro p e s m below meth c T0 C X0
  have C : Cx p s m meth c Z "java/lang/StringUTF16" "compress" jdk_52_method_16_code 6 (some (.array .byte)) := C
  show Goes p e below _ T0 (mkF m 0 #[.val (.ref ca), .val (.int 0), .val (.int 2), .unset, .unset, .unset] [])
  refine g_iloadN C X0 d8_0 rfl (g_newarray C X0 (wd hw 2 rfl) d8_1 (by decide) 2 2 (by decide) (by decide) (by decide) (by decide) (fun T301 h301 b301 k_b301 g_b301 n_b301 X301 E301 V301 => ?_))
  have lt302 : ca < b301 := by rw [g_b301]; exact Arv.lt VC
  have V_b301 : Arv Z h301 b301 k_b301 .byte (2 : Int32) [(.int 0), (.int 0)] (.int 0) := V301
  refine g_astoreN C X301 d8_3 rfl (l' := #[.val (.ref ca), .val (.int 0), .val (.int 2), .val (.ref b301), .unset, .unset]) rfl (g_aloadN C X301 d8_4 rfl rfl (g_iloadN C X301 d8_5 rfl (g_aloadN C X301 d8_6 rfl rfl (g_iconst 0 C X301 d8_7 rfl (g_iloadN C X301 d8_8 rfl ?_)))))
  have f303 := (Arv.ext VC E301)
  refine g_static (argsL := [(.ref ca), (.int 0), (.ref b301), (.int 0), (.int 2)]) (st := []) C X301 (wd hw 43 rfl) (wd hw 44 rfl) (wd hw 41 rfl) (wd hw 45 rfl) (by decide) (pay_of (W' := 0) (rC51 l hw X301.ext ca b301 k_b301 kc a b V_b301 n_b301 (Nat.ne_of_lt lt302) f303 la l1) C.hZ (wd hw 45 rfl) (wd hw 41 rfl) (by decide) (by decide)) pd_16 rfl rfl _ rfl (Nat.le_of_eq rfl) d8_9 (by decide) (by decide) (fun T304 h304 v304 q304 X304 => ?_)
  obtain ⟨rfl, K304⟩ := q304
  show Goes p e below _ T304 (mkF m 12 #[.val (.ref ca), .val (.int 0), .val (.int 2), .val (.ref b301), .unset, .unset] [(.int 1)])
  refine g_istore C X304 d8_12 (l' := #[.val (.ref ca), .val (.int 0), .val (.int 2), .val (.ref b301), .val (.int 1), .unset]) rfl (g_iload C X304 d8_14 rfl (g_iloadN C X304 d8_16 rfl (g_icmp (hI_eq _ _) C X304 d8_17 (fun q => absurd q (by decide)) (fun _ => ?_))))
  refine g_aloadN C X304 d8_20 rfl rfl (g_iloadN C X304 d8_21 rfl (g_iloadN C X304 d8_22 rfl ?_))
  have f305 := (Arv.keep f303 K304 (ninS (Nat.ne_of_lt lt302) nin0))
  refine g_static (argsL := [(.ref ca), (.int 0), (.int 2)]) (st := []) C X304 (wd hw 107 rfl) (wd hw 108 rfl) (wd hw 41 rfl) (wd hw 109 rfl) (by decide) (pay_of (W' := 0) (rTs l hw X304.ext ca S1 S2 S3 kc a b f305) C.hZ (wd hw 109 rfl) (wd hw 41 rfl) (by decide) (by decide)) pd_17 rfl rfl _ rfl (Nat.le_of_eq rfl) d8_23 (by decide) (by decide) (fun T306 h306 v306 q306 X306 => ?_)
  obtain ⟨b306, k_b306, rfl, n_b306, g306, E306, V306⟩ := q306
  have lt307 : ca < b306 := Nat.lt_of_lt_of_le (Arv.lt f305) g306
  show Goes p e below _ T306 (mkF m 26 #[.val (.ref ca), .val (.int 0), .val (.int 2), .val (.ref b301), .val (.int 1), .unset] [(.ref b306)])
  refine g_astore C X306 d8_26 rfl (l' := #[.val (.ref ca), .val (.int 0), .val (.int 2), .val (.ref b301), .val (.int 1), .val (.ref b306)]) rfl (g_aload C X306 d8_28 rfl rfl (g_iload C X306 d8_30 rfl (g_staticP (argsL := [(.ref b306), (.int 1)]) (st := []) C X306 (wd hw 117 rfl) (wd hw 118 rfl) (wd hw 41 rfl) (wd hw 119 rfl) (by decide) (pay_of (W' := 0) (rGc21 l hw X306.ext b306 S1 S2 S3 k_b306 a b V306 ha hb) C.hZ (wd hw 119 rfl) (wd hw 41 rfl) (by decide) (by decide)) pd_6 rfl rfl _ rfl (Nat.le_of_eq rfl) d8_32 (by decide) (by decide) (fun T308 X308 => ?_))))
  refine g_sipush 255 C X308 d8_35 rfl (g_icmp (hI_gt _ _) C X308 d8_38 (fun _ => ?_) (fun q => absurd l1 q))
  refine g_aload C X308 d8_54 rfl rfl ?_
  have sz309 : h.size ≤ b301 := by rw [g_b301]; exact (Keep.refl h []).1
  have kp310 := (Keep.refl h []).ext E301
  have kp311 := kp310.trans K304 (allS (Or.inr sz309) all0)
  have sz312 : h.size ≤ b306 := Nat.le_trans kp311.1 g306
  have kp313 := kp311.ext E306
  exact g_retA C X308 rfl rfl d8_56 (by decide) (by decide) ⟨b306, k_b306, rfl, n_b306, sz312, keep_ext kp313, V306⟩
theorem ef_rX41 (m : MethodId) (x : Addr) (ca : Addr) : entryFrame m #[(.ref x), (.ref ca), (.int 0), (.int 2), .null] 6 = mkF m 0 #[.val (.ref x), .val (.ref ca), .val (.int 0), .val (.int 2), .val .null, .unset] [] := by first | (simp [entryFrame, mkF, argsToLocals, Value.category]; done) | rfl
theorem rX41 (l : Launch) {Z : State} {a0 : Array Value} (hw : ∀ d ∈ tables_1, d.before a0 Z = true) {h : Heap} (hE : Ext Z.heap h) (x : Addr) (ca : Addr) (z_ : Int32) (SZ : Sta Z Z.heap "java/lang/String" "COMPACT_STRINGS" "Z" (.int z_)) (hz : ¬ z_ = 0) (S1 : Sta Z Z.heap "java/lang/StringUTF16" "$assertionsDisabled" "Z" (.int (1 : Int32))) (S2 : Sta Z Z.heap "java/lang/StringUTF16" "HI_BYTE_SHIFT" "I" (.int (0 : Int32))) (S3 : Sta Z Z.heap "java/lang/StringUTF16" "LO_BYTE_SHIFT" "I" (.int (8 : Int32))) (kc : ClassId) (a b : Int32) (EX : Exa Z h x "java/lang/String") (FC : Fld Z h x "java/lang/String" "coder" "B" (.int (0 : Int32))) (FV : Fld Z h x "java/lang/String" "value" "[B" .null) (hn : Z.heap.size ≤ x) (VC : Arv Z h ca kc .char 2 [(.int a), (.int b)] (.int (0 : Int32))) (ha : (¬ a < 0 ∧ ¬ (65535 : Int32) < a)) (hb : (¬ b < 0 ∧ ¬ (65535 : Int32) < b)) (la : ¬ (255 : Int32) < a) (l1 : (255 : Int32) < b) :
    Con l (⟨"java/lang/String", "<init>", "([CIILjava/lang/Void;)V"⟩ : MethodName) jdk_42_method_149_code 6 none [] ({ frames := 5, cells := 2, slots := 6, locals := 100 } : Room) Z #[(.ref x), (.ref ca), (.int 0), (.int 2), .null] h (fun v' h' => v' = none ∧ Keep h h' [x] ∧ Exa Z h' x "java/lang/String" ∧ Fld Z h' x "java/lang/String" "coder" "B" (.int (1 : Int32)) ∧ ∃ (t : Addr) (kt : ClassId), h.size ≤ t ∧ Fld Z h' x "java/lang/String" "value" "[B" (.ref t) ∧ Arv Z h' t kt .byte 4 [(.int ((a >>> ((0 : Int32) &&& 31)).toInt8.toInt32)), (.int ((a >>> ((8 : Int32) &&& 31)).toInt8.toInt32)), (.int ((b >>> ((0 : Int32) &&& 31)).toInt8.toInt32)), (.int ((b >>> ((8 : Int32) &&& 31)).toInt8.toInt32))] (.int (0 : Int32))) := by
  refine con_of (plainFor_of_name pn_0) hE (fun m => ef_rX41 m x ca) ?_
  intro p e s m below meth c T0 C X0
  have C : Cx p s m meth c Z "java/lang/String" "<init>" jdk_42_method_149_code 6 none := C
  show Goes p e below _ T0 (mkF m 0 #[.val (.ref x), .val (.ref ca), .val (.int 0), .val (.int 2), .val .null, .unset] [])
  refine g_aloadN C X0 d2_0 rfl rfl (g_initO C X0 (wd hw 14 rfl) (wd hw 15 rfl) (wd hw 16 rfl) rfl d2_1 (by decide) 0 (Nat.le_of_eq rfl) (by decide) (fun T314 X314 => ?_))
  refine g_iloadN C X314 d2_4 rfl (g_ifn (h0_ne _) C X314 d2_5 (fun _ => ?_) (fun q => absurd q (by decide)))
  refine g_getstatic (host := "") C X314 (Or.inl (wd hw 27 rfl)) Via.refl SZ d2_27 (fun T315 X315 => ?_)
  refine g_if (h0_eq _) C X315 d2_30 (fun q => absurd q hz) (fun _ => ?_)
  refine g_aloadN C X315 d2_33 rfl rfl (g_iloadN C X315 d2_34 rfl (g_iloadN C X315 d2_35 rfl (g_static (argsL := [(.ref ca), (.int 0), (.int 2)]) (st := []) C X315 (wd hw 39 rfl) (wd hw 40 rfl) (wd hw 41 rfl) (wd hw 42 rfl) (by decide) (pay_of (W' := 0) (rCp1 l hw X315.ext ca S1 S2 S3 kc a b VC ha hb la l1) C.hZ (wd hw 42 rfl) (wd hw 41 rfl) (by decide) (by decide)) pd_17 rfl rfl _ rfl (Nat.le_of_eq rfl) d2_36 (by decide) (by decide) (fun T316 h316 v316 q316 X316 => ?_))))
  obtain ⟨b316, k_b316, rfl, n_b316, g316, E316, V316⟩ := q316
  have lt317 : ca < b316 := Nat.lt_of_lt_of_le (Arv.lt VC) g316
  have lt318 : x < b316 := Nat.lt_of_lt_of_le (Exa.lt EX) g316
  show Goes p e below _ T316 (mkF m 39 #[.val (.ref x), .val (.ref ca), .val (.int 0), .val (.int 2), .val .null, .unset] [(.ref b316)])
  refine g_astore C X316 d2_39 rfl (l' := #[.val (.ref x), .val (.ref ca), .val (.int 0), .val (.int 2), .val .null, .val (.ref b316)]) rfl (g_aloadN C X316 d2_41 rfl rfl (g_aload C X316 d2_42 rfl rfl (g_iloadN C X316 d2_44 rfl (g_staticP (argsL := [(.ref b316), (.int 2)]) (st := [(.ref x)]) C X316 (wd hw 46 rfl) (wd hw 47 rfl) (wd hw 41 rfl) (wd hw 48 rfl) (by decide) (pay_of (W' := 1) (rCf l hw X316.ext b316 k_b316 a b V316 ha hb) C.hZ (wd hw 48 rfl) (wd hw 41 rfl) (by decide) (by decide)) pd_18 rfl rfl _ rfl (Nat.le_of_eq rfl) d2_45 (by decide) (by decide) (fun T319 X319 => ?_)))))
  have f320 := (Fld.ext E316 FC)
  have f321 := (Exa.ext E316 EX)
  refine g_putfield (host := "") C X319 (Or.inl (wd hw 23 rfl)) Via.refl f320 f321 (Or.inr ⟨(wd hw 19 rfl), rfl, rfl⟩) (wd hw 4 rfl) (ty := .byte) (by decide) rfl rfl hn d2_48 (fun T322 h322 X322 W322 => ?_)
  have f322 := Fld.same W322 f320
  refine g_aloadN C X322 d2_51 rfl rfl (g_aload C X322 d2_52 rfl rfl ?_)
  have f323 := (Fld.other W322 (Fld.ext E316 FV) (Or.inr (slot_ne (Or.inr (wd hw 18 rfl)) (Or.inr (wd hw 19 rfl)) (by decide) (t := (.array .byte)) (t' := .byte) (by decide) (by decide))))
  have f324 := (Exa.wr W322 f321)
  refine g_putfield (host := "") C X322 (Or.inl (wd hw 22 rfl)) Via.refl f323 f324 (Or.inr ⟨(wd hw 18 rfl), rfl, rfl⟩) (wd hw 4 rfl) (ty := (.array .byte)) (by decide) rfl rfl hn d2_54 (fun T325 h325 X325 W325 => ?_)
  have f325 := Fld.same W325 f323
  have sz326 : h.size ≤ b316 := Nat.le_trans (Keep.refl h [x]).1 g316
  have kp327 := (Keep.refl h [x]).ext E316
  have kp328 := kp327.wr W322 (Or.inl (by simp))
  have kp329 := kp328.wr W325 (Or.inl (by simp))
  have f330 := (Exa.wr W325 f324)
  have f331 := (Fld.other W325 f322 (Or.inr (slot_ne (Or.inr (wd hw 19 rfl)) (Or.inr (wd hw 18 rfl)) (by decide) (t := .byte) (t' := (.array .byte)) (by decide) (by decide))))
  have f332 := (Arv.other (Arv.other V316 W322 (Nat.ne_of_gt lt318)) W325 (Nat.ne_of_gt lt318))
  exact g_retV C X325 d2_57 (by decide) (by decide) ⟨rfl, kp329, f330, f331, b316, k_b316, sz326, f325, f332⟩
theorem ef_rX11 (m : MethodId) (x : Addr) (ca : Addr) : entryFrame m #[(.ref x), (.ref ca)] 2 = mkF m 0 #[.val (.ref x), .val (.ref ca)] [] := by first | (simp [entryFrame, mkF, argsToLocals, Value.category]; done) | rfl
theorem rX11 (l : Launch) {Z : State} {a0 : Array Value} (hw : ∀ d ∈ tables_1, d.before a0 Z = true) {h : Heap} (hE : Ext Z.heap h) (x : Addr) (ca : Addr) (z_ : Int32) (SZ : Sta Z Z.heap "java/lang/String" "COMPACT_STRINGS" "Z" (.int z_)) (hz : ¬ z_ = 0) (S1 : Sta Z Z.heap "java/lang/StringUTF16" "$assertionsDisabled" "Z" (.int (1 : Int32))) (S2 : Sta Z Z.heap "java/lang/StringUTF16" "HI_BYTE_SHIFT" "I" (.int (0 : Int32))) (S3 : Sta Z Z.heap "java/lang/StringUTF16" "LO_BYTE_SHIFT" "I" (.int (8 : Int32))) (kc : ClassId) (a b : Int32) (EX : Exa Z h x "java/lang/String") (FC : Fld Z h x "java/lang/String" "coder" "B" (.int (0 : Int32))) (FV : Fld Z h x "java/lang/String" "value" "[B" .null) (hn : Z.heap.size ≤ x) (VC : Arv Z h ca kc .char 2 [(.int a), (.int b)] (.int (0 : Int32))) (ha : (¬ a < 0 ∧ ¬ (65535 : Int32) < a)) (hb : (¬ b < 0 ∧ ¬ (65535 : Int32) < b)) (la : ¬ (255 : Int32) < a) (l1 : (255 : Int32) < b) :
    Con l (⟨"java/lang/String", "<init>", "([C)V"⟩ : MethodName) jdk_42_method_3_code 2 none [] ({ frames := 6, cells := 2, slots := 6, locals := 120 } : Room) Z #[(.ref x), (.ref ca)] h (fun v' h' => v' = none ∧ Keep h h' [x] ∧ Exa Z h' x "java/lang/String" ∧ Fld Z h' x "java/lang/String" "coder" "B" (.int (1 : Int32)) ∧ ∃ (t : Addr) (kt : ClassId), h.size ≤ t ∧ Fld Z h' x "java/lang/String" "value" "[B" (.ref t) ∧ Arv Z h' t kt .byte 4 [(.int ((a >>> ((0 : Int32) &&& 31)).toInt8.toInt32)), (.int ((a >>> ((8 : Int32) &&& 31)).toInt8.toInt32)), (.int ((b >>> ((0 : Int32) &&& 31)).toInt8.toInt32)), (.int ((b >>> ((8 : Int32) &&& 31)).toInt8.toInt32))] (.int (0 : Int32))) := by
  refine con_of (plainFor_of_name pn_0) hE (fun m => ef_rX11 m x ca) ?_
  intro p e s m below meth c T0 C X0
  have C : Cx p s m meth c Z "java/lang/String" "<init>" jdk_42_method_3_code 2 none := C
  show Goes p e below _ T0 (mkF m 0 #[.val (.ref x), .val (.ref ca)] [])
  refine g_aloadN C X0 d1_0 rfl rfl (g_aloadN C X0 d1_1 rfl rfl (g_iconst 0 C X0 d1_2 rfl (g_aloadN C X0 d1_3 rfl rfl (g_arraylength C X0 VC d1_4 (g_aconst_null C X0 d1_5 (g_special (argsL := [(.ref ca), (.int 0), (.int 2), .null]) (st := []) C X0 rfl (wd hw 10 rfl) (wd hw 11 rfl) (wd hw 13 rfl) (by decide) (pay_of (W' := 0) (rX41 l hw X0.ext x ca z_ SZ hz S1 S2 S3 kc a b EX FC FV hn VC ha hb la l1) C.hZ (wd hw 13 rfl) (wd hw 5 rfl) (by decide) (by decide)) pd_0 rfl rfl _ rfl (Nat.le_of_eq rfl) d1_6 (by decide) (by decide) (fun T333 h333 v333 q333 X333 => ?_)))))))
  obtain ⟨rfl, K333, A333⟩ := q333
  show Goes p e below _ T333 (mkF m 9 #[.val (.ref x), .val (.ref ca)] [])
  exact g_retV C X333 d1_9 (by decide) (by decide) ⟨rfl, K333, A333⟩
theorem ef_rCeL (m : MethodId) (a : Int32) : entryFrame m #[(.int a)] 1 = mkF m 0 #[.val (.int a)] [] := by first | (simp [entryFrame, mkF, argsToLocals, Value.category]; done) | rfl
theorem d5_0 : Dc jdk_43_method_3_code 0 (.iload_n 0) 1 1 := ⟨by decide +kernel, rfl⟩
theorem d5_1 : Dc jdk_43_method_3_code 1 (.sipush 255) 3 4 := ⟨by decide +kernel, rfl⟩
theorem d5_4 : Dj jdk_43_method_3_code 4 (.if_icmp .gt 7) 7 3 7 11 := ⟨by decide +kernel, rfl, by decide, by decide⟩
theorem d5_7 : Dc jdk_43_method_3_code 7 (.iconst 1) 1 8 := ⟨by decide +kernel, rfl⟩
theorem d5_8 : Dj jdk_43_method_3_code 8 (.goto 4) 4 3 11 12 := ⟨by decide +kernel, rfl, by decide, by decide⟩
theorem d5_12 : Dc jdk_43_method_3_code 12 (.ireturn) 1 13 := ⟨by decide +kernel, rfl⟩
theorem rCeL (l : Launch) {Z : State} {a0 : Array Value} (hw : ∀ d ∈ tables_1, d.before a0 Z = true) {h : Heap} (hE : Ext Z.heap h) (a : Int32)  (la : ¬ (255 : Int32) < a) :
    Con l (⟨"java/lang/StringLatin1", "canEncode", "(C)Z"⟩ : MethodName) jdk_43_method_3_code 1 (some .boolean) [] ({ frames := 0, cells := 0, slots := 0, locals := 0 } : Room) Z #[(.int a)] h (fun v' h' => v' = some (.int (1 : Int32)) ∧ h' = h) := by
  refine con_of (plainFor_of_name pn_2) hE (fun m => ef_rCeL m a) ?_
  intro p e s m below meth c T0 C X0
  have C : Cx p s m meth c Z "java/lang/StringLatin1" "canEncode" jdk_43_method_3_code 1 (some .boolean) := C
  show Goes p e below _ T0 (mkF m 0 #[.val (.int a)] [])
  refine g_iloadN C X0 d5_0 rfl (g_sipush 255 C X0 d5_1 rfl (g_icmp (hI_gt _ _) C X0 d5_4 (fun q => absurd q la) (fun _ => ?_)))
  refine g_iconst 1 C X0 d5_7 rfl (g_goto C X0 d5_8 ?_)
  exact g_retN C X0 (by simp) d5_12 (1 : Int32) rfl (by decide) (by decide) ⟨rfl, rfl⟩
theorem ef_rTl (m : MethodId) (a : Int32) : entryFrame m #[(.int a)] 1 = mkF m 0 #[.val (.int a)] [] := by first | (simp [entryFrame, mkF, argsToLocals, Value.category]; done) | rfl
theorem d6_0 : Dc jdk_43_method_46_code 0 (.iconst 1) 1 1 := ⟨by decide +kernel, rfl⟩
theorem d6_1 : Dc jdk_43_method_46_code 1 (.newarray .byte) 2 3 := ⟨by decide +kernel, rfl⟩
theorem d6_3 : Dc jdk_43_method_46_code 3 (.dup) 1 4 := ⟨by decide +kernel, rfl⟩
theorem d6_4 : Dc jdk_43_method_46_code 4 (.iconst 0) 1 5 := ⟨by decide +kernel, rfl⟩
theorem d6_5 : Dc jdk_43_method_46_code 5 (.iload_n 0) 1 6 := ⟨by decide +kernel, rfl⟩
theorem d6_6 : Dc jdk_43_method_46_code 6 (.i2b) 1 7 := ⟨by decide +kernel, rfl⟩
theorem d6_7 : Dc jdk_43_method_46_code 7 (.bastore) 1 8 := ⟨by decide +kernel, rfl⟩
theorem d6_8 : Dc jdk_43_method_46_code 8 (.areturn) 1 9 := ⟨by decide +kernel, rfl⟩
theorem rTl (l : Launch) {Z : State} {a0 : Array Value} (hw : ∀ d ∈ tables_1, d.before a0 Z = true) {h : Heap} (hE : Ext Z.heap h) (a : Int32)   :
    Con l (⟨"java/lang/StringLatin1", "toBytes", "(C)[B"⟩ : MethodName) jdk_43_method_46_code 1 (some (.array .byte)) [] ({ frames := 0, cells := 1, slots := 1, locals := 0 } : Room) Z #[(.int a)] h (fun v' h' => ∃ b_ kb, v' = some (.ref b_) ∧ Z.heap.size ≤ b_ ∧ h.size ≤ b_ ∧ Ext h h' ∧ Arv Z h' b_ kb .byte 1 [(.int (a.toInt8.toInt32))] (.int (0 : Int32))) := by
  refine con_of (plainFor_of_name pn_2) hE (fun m => ef_rTl m a) ?_
  intro p e s m below meth c T0 C X0
  have C : Cx p s m meth c Z "java/lang/StringLatin1" "toBytes" jdk_43_method_46_code 1 (some (.array .byte)) := C
  show Goes p e below _ T0 (mkF m 0 #[.val (.int a)] [])
  refine g_iconst 1 C X0 d6_0 rfl (g_newarray C X0 (wd hw 2 rfl) d6_1 (by decide) 1 1 (by decide) (by decide) (by decide) (by decide) (fun T334 h334 b334 k_b334 g_b334 n_b334 X334 E334 V334 => ?_))
  have V_b334 : Arv Z h334 b334 k_b334 .byte (1 : Int32) [(.int 0)] (.int 0) := V334
  refine g_dup C X334 d6_3 rfl (g_iconst 0 C X334 d6_4 rfl (g_iloadN C X334 d6_5 rfl (g_i2b C X334 d6_6 (g_bastore C X334 V_b334 n_b334 d6_7 (by decide) (by decide) (Nat.le_of_ble_eq_true rfl) (.int (a.toInt8.toInt32)) (own_nb _) (fun T335 h335 X335 W335 V335 => ?_)))))
  have V335_b334 : Arv Z h335 b334 k_b334 .byte (1 : Int32) [(.int (a.toInt8.toInt32))] (.int 0) := V335
  have sz336 : h.size ≤ b334 := by rw [g_b334]; exact (Keep.refl h []).1
  have kp337 := (Keep.refl h []).ext E334
  have kp338 := kp337.wr W335 (Or.inr sz336)
  exact g_retA C X335 rfl rfl d6_8 (by decide) (by decide) ⟨b334, k_b334, rfl, n_b334, sz336, keep_ext kp338, V335_b334⟩
theorem ef_rIbL (m : MethodId) (x : Addr) (t : Addr) : entryFrame m #[(.ref x), (.ref t), (.int 0)] 3 = mkF m 0 #[.val (.ref x), .val (.ref t), .val (.int 0)] [] := by first | (simp [entryFrame, mkF, argsToLocals, Value.category]; done) | rfl
theorem d7_0 : Dc jdk_42_method_151_code 0 (.aload_n 0) 1 1 := ⟨by decide +kernel, rfl⟩
theorem d7_1 : Dc jdk_42_method_151_code 1 (.invokespecial 1) 3 4 := ⟨by decide +kernel, rfl⟩
theorem d7_4 : Dc jdk_42_method_151_code 4 (.aload_n 0) 1 5 := ⟨by decide +kernel, rfl⟩
theorem d7_5 : Dc jdk_42_method_151_code 5 (.aload_n 1) 1 6 := ⟨by decide +kernel, rfl⟩
theorem d7_6 : Dc jdk_42_method_151_code 6 (.putfield 9) 3 9 := ⟨by decide +kernel, rfl⟩
theorem d7_9 : Dc jdk_42_method_151_code 9 (.aload_n 0) 1 10 := ⟨by decide +kernel, rfl⟩
theorem d7_10 : Dc jdk_42_method_151_code 10 (.iload_n 2) 1 11 := ⟨by decide +kernel, rfl⟩
theorem d7_11 : Dc jdk_42_method_151_code 11 (.putfield 15) 3 14 := ⟨by decide +kernel, rfl⟩
theorem d7_14 : Dc jdk_42_method_151_code 14 (.return_) 1 15 := ⟨by decide +kernel, rfl⟩
theorem rIbL (l : Launch) {Z : State} {a0 : Array Value} (hw : ∀ d ∈ tables_1, d.before a0 Z = true) {h : Heap} (hE : Ext Z.heap h) (x : Addr) (t : Addr)  (EX : Exa Z h x "java/lang/String") (FC : Fld Z h x "java/lang/String" "coder" "B" (.int (0 : Int32))) (FV : Fld Z h x "java/lang/String" "value" "[B" .null) (hn : Z.heap.size ≤ x) :
    Con l (⟨"java/lang/String", "<init>", "([BB)V"⟩ : MethodName) jdk_42_method_151_code 3 none [] ({ frames := 1, cells := 0, slots := 0, locals := 20 } : Room) Z #[(.ref x), (.ref t), (.int 0)] h (fun v' h' => v' = none ∧ Keep h h' [x] ∧ Exa Z h' x "java/lang/String" ∧ Fld Z h' x "java/lang/String" "coder" "B" (.int (0 : Int32)) ∧ Fld Z h' x "java/lang/String" "value" "[B" (.ref t)) := by
  refine con_of (plainFor_of_name pn_0) hE (fun m => ef_rIbL m x t) ?_
  intro p e s m below meth c T0 C X0
  have C : Cx p s m meth c Z "java/lang/String" "<init>" jdk_42_method_151_code 3 none := C
  show Goes p e below _ T0 (mkF m 0 #[.val (.ref x), .val (.ref t), .val (.int 0)] [])
  refine g_aloadN C X0 d7_0 rfl rfl (g_initO C X0 (wd hw 14 rfl) (wd hw 15 rfl) (wd hw 16 rfl) rfl d7_1 (by decide) 0 (Nat.le_of_eq rfl) (by decide) (fun T339 X339 => ?_))
  refine g_aloadN C X339 d7_4 rfl rfl (g_aloadN C X339 d7_5 rfl rfl (g_putfield (host := "") C X339 (Or.inl (wd hw 22 rfl)) Via.refl FV EX (Or.inr ⟨(wd hw 18 rfl), rfl, rfl⟩) (wd hw 4 rfl) (ty := (.array .byte)) (by decide) rfl rfl hn d7_6 (fun T340 h340 X340 W340 => ?_)))
  have f340 := Fld.same W340 FV
  refine g_aloadN C X340 d7_9 rfl rfl (g_iloadN C X340 d7_10 rfl ?_)
  have f341 := (Fld.other W340 FC (Or.inr (slot_ne (Or.inr (wd hw 19 rfl)) (Or.inr (wd hw 18 rfl)) (by decide) (t := .byte) (t' := (.array .byte)) (by decide) (by decide))))
  have f342 := (Exa.wr W340 EX)
  refine g_putfield (host := "") C X340 (Or.inl (wd hw 23 rfl)) Via.refl f341 f342 (Or.inr ⟨(wd hw 19 rfl), rfl, rfl⟩) (wd hw 4 rfl) (ty := .byte) (by decide) rfl rfl hn d7_11 (fun T343 h343 X343 W343 => ?_)
  have f343 := Fld.same W343 f341
  have kp344 := (Keep.refl h [x]).wr W340 (Or.inl (by simp))
  have kp345 := kp344.wr W343 (Or.inl (by simp))
  have f346 := (Exa.wr W343 f342)
  have f347 := (Fld.other W343 f340 (Or.inr (slot_ne (Or.inr (wd hw 18 rfl)) (Or.inr (wd hw 19 rfl)) (by decide) (t := (.array .byte)) (t' := .byte) (by decide) (by decide))))
  exact g_retV C X343 d7_14 (by decide) (by decide) ⟨rfl, kp345, f346, f343, f347⟩
theorem ef_rVoL (m : MethodId) (a : Int32) : entryFrame m #[(.int a)] 1 = mkF m 0 #[.val (.int a)] [] := by first | (simp [entryFrame, mkF, argsToLocals, Value.category]; done) | rfl
theorem d4_0 : Dc jdk_42_method_139_code 0 (.getstatic 38) 3 3 := ⟨by decide +kernel, rfl⟩
theorem d4_3 : Dj jdk_42_method_139_code 3 (.ifCond .eq 23) 23 3 6 26 := ⟨by decide +kernel, rfl, by decide, by decide⟩
theorem d4_6 : Dc jdk_42_method_139_code 6 (.iload_n 0) 1 7 := ⟨by decide +kernel, rfl⟩
theorem d4_7 : Dc jdk_42_method_139_code 7 (.invokestatic 1015) 3 10 := ⟨by decide +kernel, rfl⟩
theorem pd_19 : parseMethodDescriptor "(C)Z" = some ⟨[.char], some .boolean⟩ := by decide +kernel
theorem d4_10 : Dj jdk_42_method_139_code 10 (.ifCond .eq 16) 16 3 13 26 := ⟨by decide +kernel, rfl, by decide, by decide⟩
theorem d4_13 : Dc jdk_42_method_139_code 13 (.new 10) 3 16 := ⟨by decide +kernel, rfl⟩
theorem d4_16 : Dc jdk_42_method_139_code 16 (.dup) 1 17 := ⟨by decide +kernel, rfl⟩
theorem d4_17 : Dc jdk_42_method_139_code 17 (.iload_n 0) 1 18 := ⟨by decide +kernel, rfl⟩
theorem d4_18 : Dc jdk_42_method_139_code 18 (.invokestatic 1018) 3 21 := ⟨by decide +kernel, rfl⟩
theorem pd_20 : parseMethodDescriptor "(C)[B" = some ⟨[.char], some (.array .byte)⟩ := by decide +kernel
theorem d4_21 : Dc jdk_42_method_139_code 21 (.iconst 0) 1 22 := ⟨by decide +kernel, rfl⟩
theorem d4_22 : Dc jdk_42_method_139_code 22 (.invokespecial 209) 3 25 := ⟨by decide +kernel, rfl⟩
theorem pd_21 : parseMethodDescriptor "([BB)V" = some ⟨[(.array .byte), .byte], none⟩ := by decide +kernel
theorem d4_25 : Dc jdk_42_method_139_code 25 (.areturn) 1 26 := ⟨by decide +kernel, rfl⟩
theorem rVoL (l : Launch) {Z : State} {a0 : Array Value} (hw : ∀ d ∈ tables_1, d.before a0 Z = true) {h : Heap} (hE : Ext Z.heap h) (a : Int32) (z_ : Int32) (SZ : Sta Z Z.heap "java/lang/String" "COMPACT_STRINGS" "Z" (.int z_)) (hz : ¬ z_ = 0) (S1 : Sta Z Z.heap "java/lang/StringUTF16" "$assertionsDisabled" "Z" (.int (1 : Int32))) (S2 : Sta Z Z.heap "java/lang/StringUTF16" "HI_BYTE_SHIFT" "I" (.int (0 : Int32))) (S3 : Sta Z Z.heap "java/lang/StringUTF16" "LO_BYTE_SHIFT" "I" (.int (8 : Int32))) (la : ¬ (255 : Int32) < a) :
    Con l (⟨"java/lang/String", "valueOf", "(C)Ljava/lang/String;"⟩ : MethodName) jdk_42_method_139_code 1 (some (.object "java/lang/String")) [] ({ frames := 3, cells := 2, slots := 5, locals := 60 } : Room) Z #[(.int a)] h (fun v' h' => ∃ x t kt, v' = some (.ref x) ∧ Z.heap.size ≤ x ∧ h.size ≤ x ∧ h.size ≤ t ∧ Ext h h' ∧ Exa Z h' x "java/lang/String" ∧ Fld Z h' x "java/lang/String" "coder" "B" (.int (0 : Int32)) ∧ Fld Z h' x "java/lang/String" "value" "[B" (.ref t) ∧ Arv Z h' t kt .byte 1 [(.int (a.toInt8.toInt32))] (.int (0 : Int32))) := by
  refine con_of (plainFor_of_name pn_0) hE (fun m => ef_rVoL m a) ?_
  intro p e s m below meth c T0 C X0
  have C : Cx p s m meth c Z "java/lang/String" "valueOf" jdk_42_method_139_code 1 (some (.object "java/lang/String")) := C
  show Goes p e below _ T0 (mkF m 0 #[.val (.int a)] [])
  refine g_getstatic (host := "") C X0 (Or.inl (wd hw 27 rfl)) Via.refl SZ d4_0 (fun T348 X348 => ?_)
  refine g_if (h0_eq _) C X348 d4_3 (fun q => absurd q hz) (fun _ => ?_)
  refine g_iloadN C X348 d4_6 rfl (g_staticP (argsL := [(.int a)]) (st := []) C X348 (wd hw 28 rfl) (wd hw 29 rfl) (wd hw 30 rfl) (wd hw 31 rfl) (by decide) (pay_of (W' := 0) (rCeL l hw X348.ext a la) C.hZ (wd hw 31 rfl) (wd hw 30 rfl) (by decide) (by decide)) pd_19 rfl rfl _ rfl (Nat.le_of_eq rfl) d4_7 (by decide) (by decide) (fun T349 X349 => ?_))
  refine g_if (h0_eq _) C X349 d4_10 (fun q => absurd q (by decide)) (fun _ => ?_)
  refine g_new C X349 (wd hw 32 rfl) (wd hw 4 rfl) (wd hw 5 rfl) d4_13 (by decide) (by decide) (fun T350 h350 b350 g_b350 n_b350 X350 E350 A350 D350 M350 => ?_)
  have F_value_b350 : Fld Z h350 b350 "java/lang/String" "value" "[B" .null := D350 (Or.inr (wd hw 18 rfl)) (ty := (.array .byte)) (by decide)
  have F_coder_b350 : Fld Z h350 b350 "java/lang/String" "coder" "B" (.int 0) := D350 (Or.inr (wd hw 19 rfl)) (ty := .byte) (by decide)
  refine g_dup C X350 d4_16 rfl (g_iloadN C X350 d4_17 rfl (g_static (argsL := [(.int a)]) (st := [(.ref b350), (.ref b350)]) C X350 (wd hw 33 rfl) (wd hw 34 rfl) (wd hw 30 rfl) (wd hw 35 rfl) (by decide) (pay_of (W' := 2) (rTl l hw X350.ext a) C.hZ (wd hw 35 rfl) (wd hw 30 rfl) (by decide) (by decide)) pd_20 rfl rfl _ rfl (Nat.le_of_eq rfl) d4_18 (by decide) (by decide) (fun T351 h351 v351 q351 X351 => ?_)))
  obtain ⟨b351, k_b351, rfl, n_b351, g351, E351, V351⟩ := q351
  have lt352 : b350 < b351 := Nat.lt_of_lt_of_le (Exa.lt A350) g351
  show Goes p e below _ T351 (mkF m 21 #[.val (.int a)] [(.ref b351), (.ref b350), (.ref b350)])
  refine g_iconst 0 C X351 d4_21 rfl ?_
  have f353 := (Exa.ext E351 A350)
  have f354 := (Fld.ext E351 F_coder_b350)
  have f355 := (Fld.ext E351 F_value_b350)
  refine g_special (argsL := [(.ref b351), (.int 0)]) (st := [(.ref b350)]) C X351 rfl (wd hw 36 rfl) (wd hw 37 rfl) (wd hw 38 rfl) (by decide) (pay_of (W' := 1) (rIbL l hw X351.ext b350 b351 f353 f354 f355 n_b350) C.hZ (wd hw 38 rfl) (wd hw 5 rfl) (by decide) (by decide)) pd_21 rfl rfl _ rfl (Nat.le_of_eq rfl) d4_22 (by decide) (by decide) (fun T356 h356 v356 q356 X356 => ?_)
  obtain ⟨rfl, K356, E356, C356, F356⟩ := q356
  show Goes p e below _ T356 (mkF m 25 #[.val (.int a)] [(.ref b350)])
  have sz357 : h.size ≤ b350 := by rw [g_b350]; exact (Keep.refl h []).1
  have kp358 := (Keep.refl h []).ext E350
  have sz359 : h.size ≤ b351 := Nat.le_trans kp358.1 g351
  have kp360 := kp358.ext E351
  have kp361 := kp360.trans K356 (allS (Or.inr sz357) all0)
  have f362 := (Arv.keep V351 K356 (ninS (Nat.ne_of_gt lt352) nin0))
  exact g_retA C X356 rfl rfl d4_25 (by decide) (by decide) ⟨b350, b351, k_b351, rfl, n_b350, sz357, sz359, keep_ext kp361, E356, C356, F356, f362⟩
theorem ef_rCeU (m : MethodId) (a : Int32) : entryFrame m #[(.int a)] 1 = mkF m 0 #[.val (.int a)] [] := by first | (simp [entryFrame, mkF, argsToLocals, Value.category]; done) | rfl
theorem d5_11 : Dc jdk_43_method_3_code 11 (.iconst 0) 1 12 := ⟨by decide +kernel, rfl⟩
theorem rCeU (l : Launch) {Z : State} {a0 : Array Value} (hw : ∀ d ∈ tables_1, d.before a0 Z = true) {h : Heap} (hE : Ext Z.heap h) (a : Int32)  (l1 : (255 : Int32) < a) :
    Con l (⟨"java/lang/StringLatin1", "canEncode", "(C)Z"⟩ : MethodName) jdk_43_method_3_code 1 (some .boolean) [] ({ frames := 0, cells := 0, slots := 0, locals := 0 } : Room) Z #[(.int a)] h (fun v' h' => v' = some (.int (0 : Int32)) ∧ h' = h) := by
  refine con_of (plainFor_of_name pn_2) hE (fun m => ef_rCeU m a) ?_
  intro p e s m below meth c T0 C X0
  have C : Cx p s m meth c Z "java/lang/StringLatin1" "canEncode" jdk_43_method_3_code 1 (some .boolean) := C
  show Goes p e below _ T0 (mkF m 0 #[.val (.int a)] [])
  refine g_iloadN C X0 d5_0 rfl (g_sipush 255 C X0 d5_1 rfl (g_icmp (hI_gt _ _) C X0 d5_4 (fun _ => ?_) (fun q => absurd l1 q)))
  refine g_iconst 0 C X0 d5_11 rfl ?_
  exact g_retN C X0 (by simp) d5_12 (0 : Int32) rfl (by decide) (by decide) ⟨rfl, rfl⟩
theorem ef_rIbU (m : MethodId) (x : Addr) (t : Addr) : entryFrame m #[(.ref x), (.ref t), (.int 1)] 3 = mkF m 0 #[.val (.ref x), .val (.ref t), .val (.int 1)] [] := by first | (simp [entryFrame, mkF, argsToLocals, Value.category]; done) | rfl
theorem rIbU (l : Launch) {Z : State} {a0 : Array Value} (hw : ∀ d ∈ tables_1, d.before a0 Z = true) {h : Heap} (hE : Ext Z.heap h) (x : Addr) (t : Addr)  (EX : Exa Z h x "java/lang/String") (FC : Fld Z h x "java/lang/String" "coder" "B" (.int (0 : Int32))) (FV : Fld Z h x "java/lang/String" "value" "[B" .null) (hn : Z.heap.size ≤ x) :
    Con l (⟨"java/lang/String", "<init>", "([BB)V"⟩ : MethodName) jdk_42_method_151_code 3 none [] ({ frames := 1, cells := 0, slots := 0, locals := 20 } : Room) Z #[(.ref x), (.ref t), (.int 1)] h (fun v' h' => v' = none ∧ Keep h h' [x] ∧ Exa Z h' x "java/lang/String" ∧ Fld Z h' x "java/lang/String" "coder" "B" (.int (1 : Int32)) ∧ Fld Z h' x "java/lang/String" "value" "[B" (.ref t)) := by
  refine con_of (plainFor_of_name pn_0) hE (fun m => ef_rIbU m x t) ?_
  intro p e s m below meth c T0 C X0
  have C : Cx p s m meth c Z "java/lang/String" "<init>" jdk_42_method_151_code 3 none := C
  show Goes p e below _ T0 (mkF m 0 #[.val (.ref x), .val (.ref t), .val (.int 1)] [])
  refine g_aloadN C X0 d7_0 rfl rfl (g_initO C X0 (wd hw 14 rfl) (wd hw 15 rfl) (wd hw 16 rfl) rfl d7_1 (by decide) 0 (Nat.le_of_eq rfl) (by decide) (fun T363 X363 => ?_))
  refine g_aloadN C X363 d7_4 rfl rfl (g_aloadN C X363 d7_5 rfl rfl (g_putfield (host := "") C X363 (Or.inl (wd hw 22 rfl)) Via.refl FV EX (Or.inr ⟨(wd hw 18 rfl), rfl, rfl⟩) (wd hw 4 rfl) (ty := (.array .byte)) (by decide) rfl rfl hn d7_6 (fun T364 h364 X364 W364 => ?_)))
  have f364 := Fld.same W364 FV
  refine g_aloadN C X364 d7_9 rfl rfl (g_iloadN C X364 d7_10 rfl ?_)
  have f365 := (Fld.other W364 FC (Or.inr (slot_ne (Or.inr (wd hw 19 rfl)) (Or.inr (wd hw 18 rfl)) (by decide) (t := .byte) (t' := (.array .byte)) (by decide) (by decide))))
  have f366 := (Exa.wr W364 EX)
  refine g_putfield (host := "") C X364 (Or.inl (wd hw 23 rfl)) Via.refl f365 f366 (Or.inr ⟨(wd hw 19 rfl), rfl, rfl⟩) (wd hw 4 rfl) (ty := .byte) (by decide) rfl rfl hn d7_11 (fun T367 h367 X367 W367 => ?_)
  have f367 := Fld.same W367 f365
  have kp368 := (Keep.refl h [x]).wr W364 (Or.inl (by simp))
  have kp369 := kp368.wr W367 (Or.inl (by simp))
  have f370 := (Exa.wr W367 f366)
  have f371 := (Fld.other W367 f364 (Or.inr (slot_ne (Or.inr (wd hw 18 rfl)) (Or.inr (wd hw 19 rfl)) (by decide) (t := (.array .byte)) (t' := .byte) (by decide) (by decide))))
  exact g_retV C X367 d7_14 (by decide) (by decide) ⟨rfl, kp369, f370, f367, f371⟩
theorem ef_rVoU (m : MethodId) (a : Int32) : entryFrame m #[(.int a)] 1 = mkF m 0 #[.val (.int a)] [] := by first | (simp [entryFrame, mkF, argsToLocals, Value.category]; done) | rfl
theorem d4_26 : Dc jdk_42_method_139_code 26 (.new 10) 3 29 := ⟨by decide +kernel, rfl⟩
theorem d4_29 : Dc jdk_42_method_139_code 29 (.dup) 1 30 := ⟨by decide +kernel, rfl⟩
theorem d4_30 : Dc jdk_42_method_139_code 30 (.iload_n 0) 1 31 := ⟨by decide +kernel, rfl⟩
theorem d4_31 : Dc jdk_42_method_139_code 31 (.invokestatic 1021) 3 34 := ⟨by decide +kernel, rfl⟩
theorem d4_34 : Dc jdk_42_method_139_code 34 (.iconst 1) 1 35 := ⟨by decide +kernel, rfl⟩
theorem d4_35 : Dc jdk_42_method_139_code 35 (.invokespecial 209) 3 38 := ⟨by decide +kernel, rfl⟩
theorem d4_38 : Dc jdk_42_method_139_code 38 (.areturn) 1 39 := ⟨by decide +kernel, rfl⟩
theorem rVoU (l : Launch) {Z : State} {a0 : Array Value} (hw : ∀ d ∈ tables_1, d.before a0 Z = true) {h : Heap} (hE : Ext Z.heap h) (a : Int32) (z_ : Int32) (SZ : Sta Z Z.heap "java/lang/String" "COMPACT_STRINGS" "Z" (.int z_)) (hz : ¬ z_ = 0) (S1 : Sta Z Z.heap "java/lang/StringUTF16" "$assertionsDisabled" "Z" (.int (1 : Int32))) (S2 : Sta Z Z.heap "java/lang/StringUTF16" "HI_BYTE_SHIFT" "I" (.int (0 : Int32))) (S3 : Sta Z Z.heap "java/lang/StringUTF16" "LO_BYTE_SHIFT" "I" (.int (8 : Int32))) (l1 : (255 : Int32) < a) :
    Con l (⟨"java/lang/String", "valueOf", "(C)Ljava/lang/String;"⟩ : MethodName) jdk_42_method_139_code 1 (some (.object "java/lang/String")) [] ({ frames := 3, cells := 2, slots := 6, locals := 60 } : Room) Z #[(.int a)] h (fun v' h' => ∃ x t kt, v' = some (.ref x) ∧ Z.heap.size ≤ x ∧ h.size ≤ x ∧ h.size ≤ t ∧ Ext h h' ∧ Exa Z h' x "java/lang/String" ∧ Fld Z h' x "java/lang/String" "coder" "B" (.int (1 : Int32)) ∧ Fld Z h' x "java/lang/String" "value" "[B" (.ref t) ∧ Arv Z h' t kt .byte 2 [(.int ((a >>> ((0 : Int32) &&& 31)).toInt8.toInt32)), (.int ((a >>> ((8 : Int32) &&& 31)).toInt8.toInt32))] (.int (0 : Int32))) := by
  refine con_of (plainFor_of_name pn_0) hE (fun m => ef_rVoU m a) ?_
  intro p e s m below meth c T0 C X0
  have C : Cx p s m meth c Z "java/lang/String" "valueOf" jdk_42_method_139_code 1 (some (.object "java/lang/String")) := C
  show Goes p e below _ T0 (mkF m 0 #[.val (.int a)] [])
  refine g_getstatic (host := "") C X0 (Or.inl (wd hw 27 rfl)) Via.refl SZ d4_0 (fun T372 X372 => ?_)
  refine g_if (h0_eq _) C X372 d4_3 (fun q => absurd q hz) (fun _ => ?_)
  refine g_iloadN C X372 d4_6 rfl (g_staticP (argsL := [(.int a)]) (st := []) C X372 (wd hw 28 rfl) (wd hw 29 rfl) (wd hw 30 rfl) (wd hw 31 rfl) (by decide) (pay_of (W' := 0) (rCeU l hw X372.ext a l1) C.hZ (wd hw 31 rfl) (wd hw 30 rfl) (by decide) (by decide)) pd_19 rfl rfl _ rfl (Nat.le_of_eq rfl) d4_7 (by decide) (by decide) (fun T373 X373 => ?_))
  refine g_if (h0_eq _) C X373 d4_10 (fun _ => ?_) (fun q => absurd (by decide) q)
  refine g_new C X373 (wd hw 32 rfl) (wd hw 4 rfl) (wd hw 5 rfl) d4_26 (by decide) (by decide) (fun T374 h374 b374 g_b374 n_b374 X374 E374 A374 D374 M374 => ?_)
  have F_value_b374 : Fld Z h374 b374 "java/lang/String" "value" "[B" .null := D374 (Or.inr (wd hw 18 rfl)) (ty := (.array .byte)) (by decide)
  have F_coder_b374 : Fld Z h374 b374 "java/lang/String" "coder" "B" (.int 0) := D374 (Or.inr (wd hw 19 rfl)) (ty := .byte) (by decide)
  refine g_dup C X374 d4_29 rfl (g_iloadN C X374 d4_30 rfl (g_static (argsL := [(.int a)]) (st := [(.ref b374), (.ref b374)]) C X374 (wd hw 98 rfl) (wd hw 99 rfl) (wd hw 41 rfl) (wd hw 100 rfl) (by decide) (pay_of (W' := 2) (rTc l hw X374.ext a S1 S2 S3) C.hZ (wd hw 100 rfl) (wd hw 41 rfl) (by decide) (by decide)) pd_20 rfl rfl _ rfl (Nat.le_of_eq rfl) d4_31 (by decide) (by decide) (fun T375 h375 v375 q375 X375 => ?_)))
  obtain ⟨b375, k_b375, rfl, n_b375, g375, E375, V375⟩ := q375
  have lt376 : b374 < b375 := Nat.lt_of_lt_of_le (Exa.lt A374) g375
  show Goes p e below _ T375 (mkF m 34 #[.val (.int a)] [(.ref b375), (.ref b374), (.ref b374)])
  refine g_iconst 1 C X375 d4_34 rfl ?_
  have f377 := (Exa.ext E375 A374)
  have f378 := (Fld.ext E375 F_coder_b374)
  have f379 := (Fld.ext E375 F_value_b374)
  refine g_special (argsL := [(.ref b375), (.int 1)]) (st := [(.ref b374)]) C X375 rfl (wd hw 36 rfl) (wd hw 37 rfl) (wd hw 38 rfl) (by decide) (pay_of (W' := 1) (rIbU l hw X375.ext b374 b375 f377 f378 f379 n_b374) C.hZ (wd hw 38 rfl) (wd hw 5 rfl) (by decide) (by decide)) pd_21 rfl rfl _ rfl (Nat.le_of_eq rfl) d4_35 (by decide) (by decide) (fun T380 h380 v380 q380 X380 => ?_)
  obtain ⟨rfl, K380, E380, C380, F380⟩ := q380
  show Goes p e below _ T380 (mkF m 38 #[.val (.int a)] [(.ref b374)])
  have sz381 : h.size ≤ b374 := by rw [g_b374]; exact (Keep.refl h []).1
  have kp382 := (Keep.refl h []).ext E374
  have sz383 : h.size ≤ b375 := Nat.le_trans kp382.1 g375
  have kp384 := kp382.ext E375
  have kp385 := kp384.trans K380 (allS (Or.inr sz381) all0)
  have f386 := (Arv.keep V375 K380 (ninS (Nat.ne_of_gt lt376) nin0))
  exact g_retA C X380 rfl rfl d4_38 (by decide) (by decide) ⟨b374, b375, k_b375, rfl, n_b374, sz381, sz383, keep_ext kp385, E380, C380, F380, f386⟩
theorem ef_rm0 (m : MethodId) (p0 : Int32) (p1 : Int32) (p2 : Int32) (p3 : Int32) (p4 : Int32) : entryFrame m #[(.int p0), (.int p1), (.int p2), (.int p3), (.int p4)] maxLocals = mkF m 0 #[.val (.int p0), .val (.int p1), .val (.int p2), .val (.int p3), .val (.int p4), .unset, .unset, .unset, .unset, .unset, .unset, .unset, .unset, .unset, .unset, .unset, .unset, .unset] [] := by first | (simp [entryFrame, mkF, argsToLocals, Value.category, maxLocals]; done) | rfl
theorem d0_0 : Dc code 0 (.iload_n 0) 1 1 := ⟨at_0, rfl⟩
theorem d0_1 : Dc code 1 (.ldc 7) 2 3 := ⟨at_1, rfl⟩
theorem d0_3 : Dc code 3 (.iand) 1 4 := ⟨at_3, rfl⟩
theorem d0_4 : Dc code 4 (.i2c) 1 5 := ⟨at_4, rfl⟩
theorem d0_5 : Dc code 5 (.istore 5) 2 7 := ⟨at_5, rfl⟩
theorem d0_7 : Dc code 7 (.iload_n 1) 1 8 := ⟨at_7, rfl⟩
theorem d0_8 : Dc code 8 (.ldc 7) 2 10 := ⟨at_8, rfl⟩
theorem d0_10 : Dc code 10 (.iand) 1 11 := ⟨at_10, rfl⟩
theorem d0_11 : Dc code 11 (.i2c) 1 12 := ⟨at_11, rfl⟩
theorem d0_12 : Dc code 12 (.istore 6) 2 14 := ⟨at_12, rfl⟩
theorem d0_14 : Dc code 14 (.iload_n 2) 1 15 := ⟨at_14, rfl⟩
theorem d0_15 : Dc code 15 (.iconst 3) 1 16 := ⟨at_15, rfl⟩
theorem d0_16 : Dc code 16 (.iand) 1 17 := ⟨at_16, rfl⟩
theorem d0_17 : Dc code 17 (.istore 7) 2 19 := ⟨at_17, rfl⟩
theorem d0_19 : Dc code 19 (.iload_n 3) 1 20 := ⟨at_19, rfl⟩
theorem d0_20 : Dc code 20 (.ldc 8) 2 22 := ⟨at_20, rfl⟩
theorem d0_22 : Dc code 22 (.iand) 1 23 := ⟨at_22, rfl⟩
theorem d0_23 : Dc code 23 (.iconst 3) 1 24 := ⟨at_23, rfl⟩
theorem d0_24 : Dc code 24 (.irem) 1 25 := ⟨at_24, rfl⟩
theorem d0_25 : Dc code 25 (.istore 8) 2 27 := ⟨at_25, rfl⟩
theorem d0_27 : Dc code 27 (.iload 4) 2 29 := ⟨at_27, rfl⟩
theorem d0_29 : Dc code 29 (.i2b) 1 30 := ⟨at_29, rfl⟩
theorem d0_30 : Dc code 30 (.istore 9) 2 32 := ⟨at_30, rfl⟩
theorem d0_32 : Dc code 32 (.bipush 9) 2 34 := ⟨at_32, rfl⟩
theorem d0_34 : Dc code 34 (.newarray .byte) 2 36 := ⟨at_34, rfl⟩
theorem d0_36 : Dc code 36 (.dup) 1 37 := ⟨at_36, rfl⟩
theorem d0_37 : Dc code 37 (.iconst 0) 1 38 := ⟨at_37, rfl⟩
theorem d0_38 : Dc code 38 (.iload 9) 2 40 := ⟨at_38, rfl⟩
theorem d0_40 : Dc code 40 (.bastore) 1 41 := ⟨at_40, rfl⟩
theorem d0_41 : Dc code 41 (.dup) 1 42 := ⟨at_41, rfl⟩
theorem d0_42 : Dc code 42 (.iconst 1) 1 43 := ⟨at_42, rfl⟩
theorem d0_43 : Dc code 43 (.iload 9) 2 45 := ⟨at_43, rfl⟩
theorem d0_45 : Dc code 45 (.bastore) 1 46 := ⟨at_45, rfl⟩
theorem d0_46 : Dc code 46 (.dup) 1 47 := ⟨at_46, rfl⟩
theorem d0_47 : Dc code 47 (.iconst 2) 1 48 := ⟨at_47, rfl⟩
theorem d0_48 : Dc code 48 (.iload 9) 2 50 := ⟨at_48, rfl⟩
theorem d0_50 : Dc code 50 (.bastore) 1 51 := ⟨at_50, rfl⟩
theorem d0_51 : Dc code 51 (.dup) 1 52 := ⟨at_51, rfl⟩
theorem d0_52 : Dc code 52 (.iconst 3) 1 53 := ⟨at_52, rfl⟩
theorem d0_53 : Dc code 53 (.iload 9) 2 55 := ⟨at_53, rfl⟩
theorem d0_55 : Dc code 55 (.bastore) 1 56 := ⟨at_55, rfl⟩
theorem d0_56 : Dc code 56 (.dup) 1 57 := ⟨at_56, rfl⟩
theorem d0_57 : Dc code 57 (.iconst 4) 1 58 := ⟨at_57, rfl⟩
theorem d0_58 : Dc code 58 (.iload 9) 2 60 := ⟨at_58, rfl⟩
theorem d0_60 : Dc code 60 (.bastore) 1 61 := ⟨at_60, rfl⟩
theorem d0_61 : Dc code 61 (.dup) 1 62 := ⟨at_61, rfl⟩
theorem d0_62 : Dc code 62 (.iconst 5) 1 63 := ⟨at_62, rfl⟩
theorem d0_63 : Dc code 63 (.iload 9) 2 65 := ⟨at_63, rfl⟩
theorem d0_65 : Dc code 65 (.bastore) 1 66 := ⟨at_65, rfl⟩
theorem d0_66 : Dc code 66 (.dup) 1 67 := ⟨at_66, rfl⟩
theorem d0_67 : Dc code 67 (.bipush 6) 2 69 := ⟨at_67, rfl⟩
theorem d0_69 : Dc code 69 (.iload 9) 2 71 := ⟨at_69, rfl⟩
theorem d0_71 : Dc code 71 (.bastore) 1 72 := ⟨at_71, rfl⟩
theorem d0_72 : Dc code 72 (.dup) 1 73 := ⟨at_72, rfl⟩
theorem d0_73 : Dc code 73 (.bipush 7) 2 75 := ⟨at_73, rfl⟩
theorem d0_75 : Dc code 75 (.iload 9) 2 77 := ⟨at_75, rfl⟩
theorem d0_77 : Dc code 77 (.bastore) 1 78 := ⟨at_77, rfl⟩
theorem d0_78 : Dc code 78 (.dup) 1 79 := ⟨at_78, rfl⟩
theorem d0_79 : Dc code 79 (.bipush 8) 2 81 := ⟨at_79, rfl⟩
theorem d0_81 : Dc code 81 (.iload 9) 2 83 := ⟨at_81, rfl⟩
theorem d0_83 : Dc code 83 (.bastore) 1 84 := ⟨at_83, rfl⟩
theorem d0_84 : Dc code 84 (.astore 10) 2 86 := ⟨at_84, rfl⟩
theorem d0_86 : Dc code 86 (.bipush 9) 2 88 := ⟨at_86, rfl⟩
theorem d0_88 : Dc code 88 (.newarray .byte) 2 90 := ⟨at_88, rfl⟩
theorem d0_90 : Dc code 90 (.dup) 1 91 := ⟨at_90, rfl⟩
theorem d0_91 : Dc code 91 (.iconst 0) 1 92 := ⟨at_91, rfl⟩
theorem d0_92 : Dc code 92 (.iload 9) 2 94 := ⟨at_92, rfl⟩
theorem d0_94 : Dc code 94 (.bastore) 1 95 := ⟨at_94, rfl⟩
theorem d0_95 : Dc code 95 (.dup) 1 96 := ⟨at_95, rfl⟩
theorem d0_96 : Dc code 96 (.iconst 1) 1 97 := ⟨at_96, rfl⟩
theorem d0_97 : Dc code 97 (.iload 9) 2 99 := ⟨at_97, rfl⟩
theorem d0_99 : Dc code 99 (.bastore) 1 100 := ⟨at_99, rfl⟩
theorem d0_100 : Dc code 100 (.dup) 1 101 := ⟨at_100, rfl⟩
theorem d0_101 : Dc code 101 (.iconst 2) 1 102 := ⟨at_101, rfl⟩
theorem d0_102 : Dc code 102 (.iload 9) 2 104 := ⟨at_102, rfl⟩
theorem d0_104 : Dc code 104 (.bastore) 1 105 := ⟨at_104, rfl⟩
theorem d0_105 : Dc code 105 (.dup) 1 106 := ⟨at_105, rfl⟩
theorem d0_106 : Dc code 106 (.iconst 3) 1 107 := ⟨at_106, rfl⟩
theorem d0_107 : Dc code 107 (.iload 9) 2 109 := ⟨at_107, rfl⟩
theorem d0_109 : Dc code 109 (.bastore) 1 110 := ⟨at_109, rfl⟩
theorem d0_110 : Dc code 110 (.dup) 1 111 := ⟨at_110, rfl⟩
theorem d0_111 : Dc code 111 (.iconst 4) 1 112 := ⟨at_111, rfl⟩
theorem d0_112 : Dc code 112 (.iload 9) 2 114 := ⟨at_112, rfl⟩
theorem d0_114 : Dc code 114 (.bastore) 1 115 := ⟨at_114, rfl⟩
theorem d0_115 : Dc code 115 (.dup) 1 116 := ⟨at_115, rfl⟩
theorem d0_116 : Dc code 116 (.iconst 5) 1 117 := ⟨at_116, rfl⟩
theorem d0_117 : Dc code 117 (.iload 9) 2 119 := ⟨at_117, rfl⟩
theorem d0_119 : Dc code 119 (.bastore) 1 120 := ⟨at_119, rfl⟩
theorem d0_120 : Dc code 120 (.dup) 1 121 := ⟨at_120, rfl⟩
theorem d0_121 : Dc code 121 (.bipush 6) 2 123 := ⟨at_121, rfl⟩
theorem d0_123 : Dc code 123 (.iload 9) 2 125 := ⟨at_123, rfl⟩
theorem d0_125 : Dc code 125 (.bastore) 1 126 := ⟨at_125, rfl⟩
theorem d0_126 : Dc code 126 (.dup) 1 127 := ⟨at_126, rfl⟩
theorem d0_127 : Dc code 127 (.bipush 7) 2 129 := ⟨at_127, rfl⟩
theorem d0_129 : Dc code 129 (.iload 9) 2 131 := ⟨at_129, rfl⟩
theorem d0_131 : Dc code 131 (.bastore) 1 132 := ⟨at_131, rfl⟩
theorem d0_132 : Dc code 132 (.dup) 1 133 := ⟨at_132, rfl⟩
theorem d0_133 : Dc code 133 (.bipush 8) 2 135 := ⟨at_133, rfl⟩
theorem d0_135 : Dc code 135 (.iload 9) 2 137 := ⟨at_135, rfl⟩
theorem d0_137 : Dc code 137 (.bastore) 1 138 := ⟨at_137, rfl⟩
theorem d0_138 : Dc code 138 (.astore 11) 2 140 := ⟨at_138, rfl⟩
theorem d0_140 : Dc code 140 (.new 9) 3 143 := ⟨at_140, rfl⟩
theorem d0_143 : Dc code 143 (.dup) 1 144 := ⟨at_143, rfl⟩
theorem d0_144 : Dc code 144 (.iconst 0) 1 145 := ⟨at_144, rfl⟩
theorem d0_145 : Dc code 145 (.newarray .char) 2 147 := ⟨at_145, rfl⟩
theorem d0_147 : Dc code 147 (.invokespecial 11) 3 150 := ⟨at_147, rfl⟩
theorem pd_22 : parseMethodDescriptor "([C)V" = some ⟨[(.array .char)], none⟩ := by decide +kernel
theorem d0_150 : Dc code 150 (.astore 12) 2 152 := ⟨at_150, rfl⟩
theorem d0_152 : Dc code 152 (.iload 5) 2 154 := ⟨at_152, rfl⟩
theorem d0_154 : Dc code 154 (.invokestatic 14) 3 157 := ⟨at_154, rfl⟩
theorem pd_23 : parseMethodDescriptor "(C)Ljava/lang/String;" = some ⟨[.char], some (.object "java/lang/String")⟩ := by decide +kernel
theorem d0_157 : Dc code 157 (.astore 13) 2 159 := ⟨at_157, rfl⟩
theorem d0_159 : Dc code 159 (.new 9) 3 162 := ⟨at_159, rfl⟩
theorem d0_162 : Dc code 162 (.dup) 1 163 := ⟨at_162, rfl⟩
theorem d0_163 : Dc code 163 (.iconst 2) 1 164 := ⟨at_163, rfl⟩
theorem d0_164 : Dc code 164 (.newarray .char) 2 166 := ⟨at_164, rfl⟩
theorem d0_166 : Dc code 166 (.dup) 1 167 := ⟨at_166, rfl⟩
theorem d0_167 : Dc code 167 (.iconst 0) 1 168 := ⟨at_167, rfl⟩
theorem d0_168 : Dc code 168 (.iload 5) 2 170 := ⟨at_168, rfl⟩
theorem d0_170 : Dc code 170 (.castore) 1 171 := ⟨at_170, rfl⟩
theorem d0_171 : Dc code 171 (.dup) 1 172 := ⟨at_171, rfl⟩
theorem d0_172 : Dc code 172 (.iconst 1) 1 173 := ⟨at_172, rfl⟩
theorem d0_173 : Dc code 173 (.iload 6) 2 175 := ⟨at_173, rfl⟩
theorem d0_175 : Dc code 175 (.castore) 1 176 := ⟨at_175, rfl⟩
theorem d0_176 : Dc code 176 (.invokespecial 11) 3 179 := ⟨at_176, rfl⟩
theorem d0_179 : Dc code 179 (.astore 14) 2 181 := ⟨at_179, rfl⟩
theorem d0_181 : Dc code 181 (.iload 8) 2 183 := ⟨at_181, rfl⟩
theorem d0_183 : Dj code 183 (.ifCond .ne 8) 8 3 186 191 := ⟨at_183, rfl, by decide, by decide⟩
theorem d0_186 : Dc code 186 (.aload 12) 2 188 := ⟨at_186, rfl⟩
theorem d0_188 : Dj code 188 (.goto 16) 16 3 191 204 := ⟨at_188, rfl, by decide, by decide⟩
theorem d0_204 : Dc code 204 (.astore 15) 2 206 := ⟨at_204, rfl⟩
theorem d0_191 : Dc code 191 (.iload 8) 2 193 := ⟨at_191, rfl⟩
theorem d0_193 : Dc code 193 (.iconst 1) 1 194 := ⟨at_193, rfl⟩
theorem d0_194 : Dj code 194 (.if_icmp .ne 8) 8 3 197 202 := ⟨at_194, rfl, by decide, by decide⟩
theorem d0_197 : Dc code 197 (.aload 13) 2 199 := ⟨at_197, rfl⟩
theorem d0_199 : Dj code 199 (.goto 5) 5 3 202 204 := ⟨at_199, rfl, by decide, by decide⟩
theorem d0_202 : Dc code 202 (.aload 14) 2 204 := ⟨at_202, rfl⟩
theorem rm0 (l : Launch) {Z : State} {a0 : Array Value} (hw : ∀ d ∈ tables_1, d.before a0 Z = true) {h : Heap} (hE : Ext Z.heap h) (p0 : Int32) (p1 : Int32) (p2 : Int32) (p3 : Int32) (p4 : Int32) (z_ : Int32) (SZ : Sta Z Z.heap "java/lang/String" "COMPACT_STRINGS" "Z" (.int z_)) (hz : ¬ z_ = 0) (fm_ : Value) (SF : Sta Z Z.heap "jdk/internal/util/Preconditions" "SIOOBE_FORMATTER" "Ljava/util/function/BiFunction;" fm_) (rf_ : fm_.isRef = true) (S1 : Sta Z Z.heap "java/lang/StringUTF16" "$assertionsDisabled" "Z" (.int (1 : Int32))) (S2 : Sta Z Z.heap "java/lang/StringUTF16" "HI_BYTE_SHIFT" "I" (.int (0 : Int32))) (S3 : Sta Z Z.heap "java/lang/StringUTF16" "LO_BYTE_SHIFT" "I" (.int (8 : Int32)))  :
    ConL l x code maxLocals ret tables_1 room_1 Z consts_1 [] #[(.int p0), (.int p1), (.int p2), (.int p3), (.int p4)] h (fun v' h' => v' = some (.int 1)) := by
  refine con_ofL (plainFor_of_name pn_5) hE (fun m => ef_rm0 m p0 p1 p2 p3 p4) ?_
  intro p e s m below meth c T0 C X0 I0 hsf
  have C : Cx p (s.setVm s.vm) m meth c Z "com/example/chapeau/chapeau/link/PackedStringsEncodePinLaw" "law" code maxLocals ret := C
  show Goes p e below _ T0 (mkF m 0 #[.val (.int p0), .val (.int p1), .val (.int p2), .val (.int p3), .val (.int p4), .unset, .unset, .unset, .unset, .unset, .unset, .unset, .unset, .unset, .unset, .unset, .unset, .unset] [])
  refine g_iloadN C X0 d0_0 rfl (g_ldcI C X0 (wd hw 0 rfl) d0_1 (g_iand C X0 d0_3 (g_i2c C X0 d0_4 (g_istore C X0 d0_5 (l' := #[.val (.int p0), .val (.int p1), .val (.int p2), .val (.int p3), .val (.int p4), .val (.int ((p0 &&& (65535 : Int32)).toUInt32.toUInt16.toUInt32.toInt32)), .unset, .unset, .unset, .unset, .unset, .unset, .unset, .unset, .unset, .unset, .unset, .unset]) rfl (g_iloadN C X0 d0_7 rfl (g_ldcI C X0 (wd hw 0 rfl) d0_8 (g_iand C X0 d0_10 (g_i2c C X0 d0_11 (g_istore C X0 d0_12 (l' := #[.val (.int p0), .val (.int p1), .val (.int p2), .val (.int p3), .val (.int p4), .val (.int ((p0 &&& (65535 : Int32)).toUInt32.toUInt16.toUInt32.toInt32)), .val (.int ((p1 &&& (65535 : Int32)).toUInt32.toUInt16.toUInt32.toInt32)), .unset, .unset, .unset, .unset, .unset, .unset, .unset, .unset, .unset, .unset, .unset]) rfl (g_iloadN C X0 d0_14 rfl (g_iconst 3 C X0 d0_15 rfl ?_)))))))))))
  refine g_iand C X0 d0_16 (g_istore C X0 d0_17 (l' := #[.val (.int p0), .val (.int p1), .val (.int p2), .val (.int p3), .val (.int p4), .val (.int ((p0 &&& (65535 : Int32)).toUInt32.toUInt16.toUInt32.toInt32)), .val (.int ((p1 &&& (65535 : Int32)).toUInt32.toUInt16.toUInt32.toInt32)), .val (.int (p2 &&& (3 : Int32))), .unset, .unset, .unset, .unset, .unset, .unset, .unset, .unset, .unset, .unset]) rfl ?_)
  obtain ⟨a, ea⟩ : ∃ a : Int32, a = ((p0 &&& (65535 : Int32)).toUInt32.toUInt16.toUInt32.toInt32) := ⟨_, rfl⟩
  obtain ⟨b, eb⟩ : ∃ b : Int32, b = ((p1 &&& (65535 : Int32)).toUInt32.toUInt16.toUInt32.toInt32) := ⟨_, rfl⟩
  obtain ⟨pz, ep⟩ : ∃ p : Int32, p = (p2 &&& (3 : Int32)) := ⟨_, rfl⟩
  rw [← ea, ← eb, ← ep]
  have ha : (¬ a < 0 ∧ ¬ (65535 : Int32) < a) := ea ▸ own_c16 p0
  have hb : (¬ b < 0 ∧ ¬ (65535 : Int32) < b) := eb ▸ own_c16 p1
  have hp : ¬ pz < 0 ∧ ¬ (3 : Int32) < pz := ep ▸ own_at p2
  show Goes p e below _ T0 (mkF m 19 #[.val (.int p0), .val (.int p1), .val (.int p2), .val (.int p3), .val (.int p4), .val (.int a), .val (.int b), .val (.int pz), .unset, .unset, .unset, .unset, .unset, .unset, .unset, .unset, .unset, .unset] [])
  refine g_iloadN C X0 d0_19 rfl (g_ldcI C X0 (wd hw 1 rfl) d0_20 (g_iand C X0 d0_22 (g_iconst 3 C X0 d0_23 rfl (g_irem C X0 d0_24 (by decide) (g_istore C X0 d0_25 (l' := #[.val (.int p0), .val (.int p1), .val (.int p2), .val (.int p3), .val (.int p4), .val (.int a), .val (.int b), .val (.int pz), .val (.int ((p3 &&& (2147483647 : Int32)) % (3 : Int32))), .unset, .unset, .unset, .unset, .unset, .unset, .unset, .unset, .unset]) rfl (g_iload C X0 d0_27 rfl (g_i2b C X0 d0_29 (g_istore C X0 d0_30 (l' := #[.val (.int p0), .val (.int p1), .val (.int p2), .val (.int p3), .val (.int p4), .val (.int a), .val (.int b), .val (.int pz), .val (.int ((p3 &&& (2147483647 : Int32)) % (3 : Int32))), .val (.int (p4.toInt8.toInt32)), .unset, .unset, .unset, .unset, .unset, .unset, .unset, .unset]) rfl (g_bipush 9 C X0 d0_32 rfl (g_newarray C X0 (wd hw 2 rfl) d0_34 (by decide) 9 9 (by decide) (by decide) (by decide) (by decide) (fun T387 h387 b387 k_b387 g_b387 n_b387 X387 E387 V387 => ?_)))))))))))
  have V_b387 : Arv Z h387 b387 k_b387 .byte (9 : Int32) [(.int 0), (.int 0), (.int 0), (.int 0), (.int 0), (.int 0), (.int 0), (.int 0), (.int 0)] (.int 0) := V387
  refine g_dup C X387 d0_36 rfl (g_iconst 0 C X387 d0_37 rfl (g_iload C X387 d0_38 rfl (g_bastore C X387 V_b387 n_b387 d0_40 (by decide) (by decide) (Nat.le_of_ble_eq_true rfl) (.int (p4.toInt8.toInt32)) (own_nb _) (fun T388 h388 X388 W388 V388 => ?_))))
  have V388_b387 : Arv Z h388 b387 k_b387 .byte (9 : Int32) [(.int (p4.toInt8.toInt32)), (.int 0), (.int 0), (.int 0), (.int 0), (.int 0), (.int 0), (.int 0), (.int 0)] (.int 0) := V388
  refine g_dup C X388 d0_41 rfl (g_iconst 1 C X388 d0_42 rfl (g_iload C X388 d0_43 rfl (g_bastore C X388 V388_b387 n_b387 d0_45 (by decide) (by decide) (Nat.le_of_ble_eq_true rfl) (.int (p4.toInt8.toInt32)) (own_nb _) (fun T389 h389 X389 W389 V389 => ?_))))
  have V389_b387 : Arv Z h389 b387 k_b387 .byte (9 : Int32) [(.int (p4.toInt8.toInt32)), (.int (p4.toInt8.toInt32)), (.int 0), (.int 0), (.int 0), (.int 0), (.int 0), (.int 0), (.int 0)] (.int 0) := V389
  refine g_dup C X389 d0_46 rfl (g_iconst 2 C X389 d0_47 rfl (g_iload C X389 d0_48 rfl (g_bastore C X389 V389_b387 n_b387 d0_50 (by decide) (by decide) (Nat.le_of_ble_eq_true rfl) (.int (p4.toInt8.toInt32)) (own_nb _) (fun T390 h390 X390 W390 V390 => ?_))))
  have V390_b387 : Arv Z h390 b387 k_b387 .byte (9 : Int32) [(.int (p4.toInt8.toInt32)), (.int (p4.toInt8.toInt32)), (.int (p4.toInt8.toInt32)), (.int 0), (.int 0), (.int 0), (.int 0), (.int 0), (.int 0)] (.int 0) := V390
  refine g_dup C X390 d0_51 rfl (g_iconst 3 C X390 d0_52 rfl (g_iload C X390 d0_53 rfl (g_bastore C X390 V390_b387 n_b387 d0_55 (by decide) (by decide) (Nat.le_of_ble_eq_true rfl) (.int (p4.toInt8.toInt32)) (own_nb _) (fun T391 h391 X391 W391 V391 => ?_))))
  have V391_b387 : Arv Z h391 b387 k_b387 .byte (9 : Int32) [(.int (p4.toInt8.toInt32)), (.int (p4.toInt8.toInt32)), (.int (p4.toInt8.toInt32)), (.int (p4.toInt8.toInt32)), (.int 0), (.int 0), (.int 0), (.int 0), (.int 0)] (.int 0) := V391
  refine g_dup C X391 d0_56 rfl (g_iconst 4 C X391 d0_57 rfl (g_iload C X391 d0_58 rfl (g_bastore C X391 V391_b387 n_b387 d0_60 (by decide) (by decide) (Nat.le_of_ble_eq_true rfl) (.int (p4.toInt8.toInt32)) (own_nb _) (fun T392 h392 X392 W392 V392 => ?_))))
  have V392_b387 : Arv Z h392 b387 k_b387 .byte (9 : Int32) [(.int (p4.toInt8.toInt32)), (.int (p4.toInt8.toInt32)), (.int (p4.toInt8.toInt32)), (.int (p4.toInt8.toInt32)), (.int (p4.toInt8.toInt32)), (.int 0), (.int 0), (.int 0), (.int 0)] (.int 0) := V392
  refine g_dup C X392 d0_61 rfl (g_iconst 5 C X392 d0_62 rfl (g_iload C X392 d0_63 rfl (g_bastore C X392 V392_b387 n_b387 d0_65 (by decide) (by decide) (Nat.le_of_ble_eq_true rfl) (.int (p4.toInt8.toInt32)) (own_nb _) (fun T393 h393 X393 W393 V393 => ?_))))
  have V393_b387 : Arv Z h393 b387 k_b387 .byte (9 : Int32) [(.int (p4.toInt8.toInt32)), (.int (p4.toInt8.toInt32)), (.int (p4.toInt8.toInt32)), (.int (p4.toInt8.toInt32)), (.int (p4.toInt8.toInt32)), (.int (p4.toInt8.toInt32)), (.int 0), (.int 0), (.int 0)] (.int 0) := V393
  refine g_dup C X393 d0_66 rfl (g_bipush 6 C X393 d0_67 rfl (g_iload C X393 d0_69 rfl (g_bastore C X393 V393_b387 n_b387 d0_71 (by decide) (by decide) (Nat.le_of_ble_eq_true rfl) (.int (p4.toInt8.toInt32)) (own_nb _) (fun T394 h394 X394 W394 V394 => ?_))))
  have V394_b387 : Arv Z h394 b387 k_b387 .byte (9 : Int32) [(.int (p4.toInt8.toInt32)), (.int (p4.toInt8.toInt32)), (.int (p4.toInt8.toInt32)), (.int (p4.toInt8.toInt32)), (.int (p4.toInt8.toInt32)), (.int (p4.toInt8.toInt32)), (.int (p4.toInt8.toInt32)), (.int 0), (.int 0)] (.int 0) := V394
  refine g_dup C X394 d0_72 rfl (g_bipush 7 C X394 d0_73 rfl (g_iload C X394 d0_75 rfl (g_bastore C X394 V394_b387 n_b387 d0_77 (by decide) (by decide) (Nat.le_of_ble_eq_true rfl) (.int (p4.toInt8.toInt32)) (own_nb _) (fun T395 h395 X395 W395 V395 => ?_))))
  have V395_b387 : Arv Z h395 b387 k_b387 .byte (9 : Int32) [(.int (p4.toInt8.toInt32)), (.int (p4.toInt8.toInt32)), (.int (p4.toInt8.toInt32)), (.int (p4.toInt8.toInt32)), (.int (p4.toInt8.toInt32)), (.int (p4.toInt8.toInt32)), (.int (p4.toInt8.toInt32)), (.int (p4.toInt8.toInt32)), (.int 0)] (.int 0) := V395
  refine g_dup C X395 d0_78 rfl (g_bipush 8 C X395 d0_79 rfl (g_iload C X395 d0_81 rfl (g_bastore C X395 V395_b387 n_b387 d0_83 (by decide) (by decide) (Nat.le_of_ble_eq_true rfl) (.int (p4.toInt8.toInt32)) (own_nb _) (fun T396 h396 X396 W396 V396 => ?_))))
  have V396_b387 : Arv Z h396 b387 k_b387 .byte (9 : Int32) [(.int (p4.toInt8.toInt32)), (.int (p4.toInt8.toInt32)), (.int (p4.toInt8.toInt32)), (.int (p4.toInt8.toInt32)), (.int (p4.toInt8.toInt32)), (.int (p4.toInt8.toInt32)), (.int (p4.toInt8.toInt32)), (.int (p4.toInt8.toInt32)), (.int (p4.toInt8.toInt32))] (.int 0) := V396
  refine g_astore C X396 d0_84 rfl (l' := #[.val (.int p0), .val (.int p1), .val (.int p2), .val (.int p3), .val (.int p4), .val (.int a), .val (.int b), .val (.int pz), .val (.int ((p3 &&& (2147483647 : Int32)) % (3 : Int32))), .val (.int (p4.toInt8.toInt32)), .val (.ref b387), .unset, .unset, .unset, .unset, .unset, .unset, .unset]) rfl (g_bipush 9 C X396 d0_86 rfl (g_newarray C X396 (wd hw 2 rfl) d0_88 (by decide) 9 9 (by decide) (by decide) (by decide) (by decide) (fun T397 h397 b397 k_b397 g_b397 n_b397 X397 E397 V397 => ?_)))
  have lt398 : b387 < b397 := by rw [g_b397]; exact Arv.lt V396_b387
  have V_b397 : Arv Z h397 b397 k_b397 .byte (9 : Int32) [(.int 0), (.int 0), (.int 0), (.int 0), (.int 0), (.int 0), (.int 0), (.int 0), (.int 0)] (.int 0) := V397
  refine g_dup C X397 d0_90 rfl (g_iconst 0 C X397 d0_91 rfl (g_iload C X397 d0_92 rfl (g_bastore C X397 V_b397 n_b397 d0_94 (by decide) (by decide) (Nat.le_of_ble_eq_true rfl) (.int (p4.toInt8.toInt32)) (own_nb _) (fun T399 h399 X399 W399 V399 => ?_))))
  have V399_b397 : Arv Z h399 b397 k_b397 .byte (9 : Int32) [(.int (p4.toInt8.toInt32)), (.int 0), (.int 0), (.int 0), (.int 0), (.int 0), (.int 0), (.int 0), (.int 0)] (.int 0) := V399
  refine g_dup C X399 d0_95 rfl (g_iconst 1 C X399 d0_96 rfl (g_iload C X399 d0_97 rfl (g_bastore C X399 V399_b397 n_b397 d0_99 (by decide) (by decide) (Nat.le_of_ble_eq_true rfl) (.int (p4.toInt8.toInt32)) (own_nb _) (fun T400 h400 X400 W400 V400 => ?_))))
  have V400_b397 : Arv Z h400 b397 k_b397 .byte (9 : Int32) [(.int (p4.toInt8.toInt32)), (.int (p4.toInt8.toInt32)), (.int 0), (.int 0), (.int 0), (.int 0), (.int 0), (.int 0), (.int 0)] (.int 0) := V400
  refine g_dup C X400 d0_100 rfl (g_iconst 2 C X400 d0_101 rfl (g_iload C X400 d0_102 rfl (g_bastore C X400 V400_b397 n_b397 d0_104 (by decide) (by decide) (Nat.le_of_ble_eq_true rfl) (.int (p4.toInt8.toInt32)) (own_nb _) (fun T401 h401 X401 W401 V401 => ?_))))
  have V401_b397 : Arv Z h401 b397 k_b397 .byte (9 : Int32) [(.int (p4.toInt8.toInt32)), (.int (p4.toInt8.toInt32)), (.int (p4.toInt8.toInt32)), (.int 0), (.int 0), (.int 0), (.int 0), (.int 0), (.int 0)] (.int 0) := V401
  refine g_dup C X401 d0_105 rfl (g_iconst 3 C X401 d0_106 rfl (g_iload C X401 d0_107 rfl (g_bastore C X401 V401_b397 n_b397 d0_109 (by decide) (by decide) (Nat.le_of_ble_eq_true rfl) (.int (p4.toInt8.toInt32)) (own_nb _) (fun T402 h402 X402 W402 V402 => ?_))))
  have V402_b397 : Arv Z h402 b397 k_b397 .byte (9 : Int32) [(.int (p4.toInt8.toInt32)), (.int (p4.toInt8.toInt32)), (.int (p4.toInt8.toInt32)), (.int (p4.toInt8.toInt32)), (.int 0), (.int 0), (.int 0), (.int 0), (.int 0)] (.int 0) := V402
  refine g_dup C X402 d0_110 rfl (g_iconst 4 C X402 d0_111 rfl (g_iload C X402 d0_112 rfl (g_bastore C X402 V402_b397 n_b397 d0_114 (by decide) (by decide) (Nat.le_of_ble_eq_true rfl) (.int (p4.toInt8.toInt32)) (own_nb _) (fun T403 h403 X403 W403 V403 => ?_))))
  have V403_b397 : Arv Z h403 b397 k_b397 .byte (9 : Int32) [(.int (p4.toInt8.toInt32)), (.int (p4.toInt8.toInt32)), (.int (p4.toInt8.toInt32)), (.int (p4.toInt8.toInt32)), (.int (p4.toInt8.toInt32)), (.int 0), (.int 0), (.int 0), (.int 0)] (.int 0) := V403
  refine g_dup C X403 d0_115 rfl (g_iconst 5 C X403 d0_116 rfl (g_iload C X403 d0_117 rfl (g_bastore C X403 V403_b397 n_b397 d0_119 (by decide) (by decide) (Nat.le_of_ble_eq_true rfl) (.int (p4.toInt8.toInt32)) (own_nb _) (fun T404 h404 X404 W404 V404 => ?_))))
  have V404_b397 : Arv Z h404 b397 k_b397 .byte (9 : Int32) [(.int (p4.toInt8.toInt32)), (.int (p4.toInt8.toInt32)), (.int (p4.toInt8.toInt32)), (.int (p4.toInt8.toInt32)), (.int (p4.toInt8.toInt32)), (.int (p4.toInt8.toInt32)), (.int 0), (.int 0), (.int 0)] (.int 0) := V404
  refine g_dup C X404 d0_120 rfl (g_bipush 6 C X404 d0_121 rfl (g_iload C X404 d0_123 rfl (g_bastore C X404 V404_b397 n_b397 d0_125 (by decide) (by decide) (Nat.le_of_ble_eq_true rfl) (.int (p4.toInt8.toInt32)) (own_nb _) (fun T405 h405 X405 W405 V405 => ?_))))
  have V405_b397 : Arv Z h405 b397 k_b397 .byte (9 : Int32) [(.int (p4.toInt8.toInt32)), (.int (p4.toInt8.toInt32)), (.int (p4.toInt8.toInt32)), (.int (p4.toInt8.toInt32)), (.int (p4.toInt8.toInt32)), (.int (p4.toInt8.toInt32)), (.int (p4.toInt8.toInt32)), (.int 0), (.int 0)] (.int 0) := V405
  refine g_dup C X405 d0_126 rfl (g_bipush 7 C X405 d0_127 rfl (g_iload C X405 d0_129 rfl (g_bastore C X405 V405_b397 n_b397 d0_131 (by decide) (by decide) (Nat.le_of_ble_eq_true rfl) (.int (p4.toInt8.toInt32)) (own_nb _) (fun T406 h406 X406 W406 V406 => ?_))))
  have V406_b397 : Arv Z h406 b397 k_b397 .byte (9 : Int32) [(.int (p4.toInt8.toInt32)), (.int (p4.toInt8.toInt32)), (.int (p4.toInt8.toInt32)), (.int (p4.toInt8.toInt32)), (.int (p4.toInt8.toInt32)), (.int (p4.toInt8.toInt32)), (.int (p4.toInt8.toInt32)), (.int (p4.toInt8.toInt32)), (.int 0)] (.int 0) := V406
  refine g_dup C X406 d0_132 rfl (g_bipush 8 C X406 d0_133 rfl (g_iload C X406 d0_135 rfl (g_bastore C X406 V406_b397 n_b397 d0_137 (by decide) (by decide) (Nat.le_of_ble_eq_true rfl) (.int (p4.toInt8.toInt32)) (own_nb _) (fun T407 h407 X407 W407 V407 => ?_))))
  have V407_b397 : Arv Z h407 b397 k_b397 .byte (9 : Int32) [(.int (p4.toInt8.toInt32)), (.int (p4.toInt8.toInt32)), (.int (p4.toInt8.toInt32)), (.int (p4.toInt8.toInt32)), (.int (p4.toInt8.toInt32)), (.int (p4.toInt8.toInt32)), (.int (p4.toInt8.toInt32)), (.int (p4.toInt8.toInt32)), (.int (p4.toInt8.toInt32))] (.int 0) := V407
  refine g_astore C X407 d0_138 rfl (l' := #[.val (.int p0), .val (.int p1), .val (.int p2), .val (.int p3), .val (.int p4), .val (.int a), .val (.int b), .val (.int pz), .val (.int ((p3 &&& (2147483647 : Int32)) % (3 : Int32))), .val (.int (p4.toInt8.toInt32)), .val (.ref b387), .val (.ref b397), .unset, .unset, .unset, .unset, .unset, .unset]) rfl (g_new C X407 (wd hw 3 rfl) (wd hw 4 rfl) (wd hw 5 rfl) d0_140 (by decide) (by decide) (fun T408 h408 b408 g_b408 n_b408 X408 E408 A408 D408 M408 => ?_))
  have f409 := (Arv.other (Arv.other (Arv.other (Arv.other (Arv.other (Arv.other (Arv.other (Arv.other (Arv.other (Arv.ext V396_b387 E397) W399 (Nat.ne_of_lt lt398)) W400 (Nat.ne_of_lt lt398)) W401 (Nat.ne_of_lt lt398)) W402 (Nat.ne_of_lt lt398)) W403 (Nat.ne_of_lt lt398)) W404 (Nat.ne_of_lt lt398)) W405 (Nat.ne_of_lt lt398)) W406 (Nat.ne_of_lt lt398)) W407 (Nat.ne_of_lt lt398))
  have lt410 : b387 < b408 := by rw [g_b408]; exact Arv.lt f409
  have lt411 : b397 < b408 := by rw [g_b408]; exact Arv.lt V407_b397
  have F_value_b408 : Fld Z h408 b408 "java/lang/String" "value" "[B" .null := D408 (Or.inr (wd hw 18 rfl)) (ty := (.array .byte)) (by decide)
  have F_coder_b408 : Fld Z h408 b408 "java/lang/String" "coder" "B" (.int 0) := D408 (Or.inr (wd hw 19 rfl)) (ty := .byte) (by decide)
  refine g_dup C X408 d0_143 rfl (g_iconst 0 C X408 d0_144 rfl (g_newarray C X408 (wd hw 6 rfl) d0_145 (by decide) 0 0 (by decide) (by decide) (by decide) (by decide) (fun T412 h412 b412 k_b412 g_b412 n_b412 X412 E412 V412 => ?_)))
  have f413 := (Arv.ext f409 E408)
  have lt414 : b387 < b412 := by rw [g_b412]; exact Arv.lt f413
  have f415 := (Arv.ext V407_b397 E408)
  have lt416 : b397 < b412 := by rw [g_b412]; exact Arv.lt f415
  have lt417 : b408 < b412 := by rw [g_b412]; exact Exa.lt A408
  have V_b412 : Arv Z h412 b412 k_b412 .char (0 : Int32) [] (.int 0) := V412
  have sz418 : h.size ≤ b387 := by rw [g_b387]; exact (Keep.refl h []).1
  have kp419 := (Keep.refl h []).ext E387
  have kp420 := kp419.wr W388 (Or.inr sz418)
  have kp421 := kp420.wr W389 (Or.inr sz418)
  have kp422 := kp421.wr W390 (Or.inr sz418)
  have kp423 := kp422.wr W391 (Or.inr sz418)
  have kp424 := kp423.wr W392 (Or.inr sz418)
  have kp425 := kp424.wr W393 (Or.inr sz418)
  have kp426 := kp425.wr W394 (Or.inr sz418)
  have kp427 := kp426.wr W395 (Or.inr sz418)
  have kp428 := kp427.wr W396 (Or.inr sz418)
  have sz429 : h.size ≤ b397 := by rw [g_b397]; exact kp428.1
  have kp430 := kp428.ext E397
  have kp431 := kp430.wr W399 (Or.inr sz429)
  have kp432 := kp431.wr W400 (Or.inr sz429)
  have kp433 := kp432.wr W401 (Or.inr sz429)
  have kp434 := kp433.wr W402 (Or.inr sz429)
  have kp435 := kp434.wr W403 (Or.inr sz429)
  have kp436 := kp435.wr W404 (Or.inr sz429)
  have kp437 := kp436.wr W405 (Or.inr sz429)
  have kp438 := kp437.wr W406 (Or.inr sz429)
  have kp439 := kp438.wr W407 (Or.inr sz429)
  have sz440 : h.size ≤ b408 := by rw [g_b408]; exact kp439.1
  have kp441 := kp439.ext E408
  have sz442 : h.size ≤ b412 := by rw [g_b412]; exact kp441.1
  have kp443 := kp441.ext E412
  have I444 := Lits.keep I0 kp443 sf0
  have sf445 := Lits.safe I0 kp443 sf0 (Safe.new sz418)
  have sf446 := Lits.safe I0 kp443 sf0 (Safe.new sz429)
  have sf447 := Lits.safe I0 kp443 sf0 (Safe.new sz440)
  have f448 := (Arv.ext f413 E412)
  have f449 := (Arv.ext f415 E412)
  have f450 := (Exa.ext E412 A408)
  have lx451 : b408 < h412.size := (Exa.lt f450)
  have f452 := (Fld.ext E412 F_coder_b408)
  have f453 := (Fld.ext E412 F_value_b408)
  refine g_specialL (argsL := [(.ref b412)]) (st := [(.ref b408)]) C X412 I444 rfl (wd hw 7 rfl) (wd hw 8 rfl) (wd hw 9 rfl) (by decide) (payL_of (W' := 1) (rI1 l hw X412.ext b408 b412 f450 f452 f453 n_b408 k_b412 V_b412) C.hZ (wd hw 9 rfl) (wd hw 5 rfl) (by decide) (by decide) (own_EW hw) I444 (List.forall_mem_cons.mpr ⟨⟨lx451, sf447⟩, fun _ q => nomatch q⟩)) pd_22 rfl rfl _ rfl (Nat.le_of_eq rfl) d0_147 (by decide) (by decide) (fun T454 h454 v454 q454 C X454 I454 R454 => ?_)
  obtain ⟨rfl, K454, EX454, FC454, t454, k_t454, nt454, FV454, VT454⟩ := q454
  have sf455 := CHr.safe R454 (Arv.lt f448) sf445
  have sf456 := CHr.safe R454 (Arv.lt f449) sf446
  have sf457 := CHr.safe R454 (Exa.lt f450) sf447
  have f458 := (Arv.keep V_b412 K454 (ninS (Nat.ne_of_gt lt417) nin0))
  show Goes p e below _ T454 (mkF m 150 #[.val (.int p0), .val (.int p1), .val (.int p2), .val (.int p3), .val (.int p4), .val (.int a), .val (.int b), .val (.int pz), .val (.int ((p3 &&& (2147483647 : Int32)) % (3 : Int32))), .val (.int (p4.toInt8.toInt32)), .val (.ref b387), .val (.ref b397), .unset, .unset, .unset, .unset, .unset, .unset] [(.ref b408)])
  refine g_astore C X454 d0_150 rfl (l' := #[.val (.int p0), .val (.int p1), .val (.int p2), .val (.int p3), .val (.int p4), .val (.int a), .val (.int b), .val (.int pz), .val (.int ((p3 &&& (2147483647 : Int32)) % (3 : Int32))), .val (.int (p4.toInt8.toInt32)), .val (.ref b387), .val (.ref b397), .val (.ref b408), .unset, .unset, .unset, .unset, .unset]) rfl ?_
  by_cases q459 : (255 : Int32) < a
  · refine g_iload C X454 d0_152 rfl (g_static (argsL := [(.int a)]) (st := []) C X454 (wd hw 24 rfl) (wd hw 25 rfl) (wd hw 5 rfl) (wd hw 26 rfl) (by decide) (pay_of (W' := 0) (rVoU l hw X454.ext a z_ SZ hz S1 S2 S3 q459) C.hZ (wd hw 26 rfl) (wd hw 5 rfl) (by decide) (by decide)) pd_23 rfl rfl _ rfl (Nat.le_of_eq rfl) d0_154 (by decide) (by decide) (fun T460 h460 v460 q460 X460 => ?_))
    obtain ⟨b460, t460, k_t460, rfl, n_b460, g460, gt460, E460, A460, C460, F460, V460⟩ := q460
    have f461 := (Arv.keep f448 K454 (ninS (Nat.ne_of_lt lt410) nin0))
    have lt462 : b387 < b460 := Nat.lt_of_lt_of_le (Arv.lt f461) g460
    have lt463 : b387 < t460 := Nat.lt_of_lt_of_le (Arv.lt f461) gt460
    have f464 := (Arv.keep f449 K454 (ninS (Nat.ne_of_lt lt411) nin0))
    have lt465 : b397 < b460 := Nat.lt_of_lt_of_le (Arv.lt f464) g460
    have lt466 : b397 < t460 := Nat.lt_of_lt_of_le (Arv.lt f464) gt460
    have lt467 : b408 < b460 := Nat.lt_of_lt_of_le (Exa.lt EX454) g460
    have lt468 : b408 < t460 := Nat.lt_of_lt_of_le (Exa.lt EX454) gt460
    have lt469 : b412 < b460 := Nat.lt_of_lt_of_le (Arv.lt f458) g460
    have lt470 : b412 < t460 := Nat.lt_of_lt_of_le (Arv.lt f458) gt460
    have lt471 : t454 < b460 := Nat.lt_of_lt_of_le (Arv.lt VT454) g460
    have lt472 : t454 < t460 := Nat.lt_of_lt_of_le (Arv.lt VT454) gt460
    show Goes p e below _ T460 (mkF m 157 #[.val (.int p0), .val (.int p1), .val (.int p2), .val (.int p3), .val (.int p4), .val (.int a), .val (.int b), .val (.int pz), .val (.int ((p3 &&& (2147483647 : Int32)) % (3 : Int32))), .val (.int (p4.toInt8.toInt32)), .val (.ref b387), .val (.ref b397), .val (.ref b408), .unset, .unset, .unset, .unset, .unset] [(.ref b460)])
    refine g_astore C X460 d0_157 rfl (l' := #[.val (.int p0), .val (.int p1), .val (.int p2), .val (.int p3), .val (.int p4), .val (.int a), .val (.int b), .val (.int pz), .val (.int ((p3 &&& (2147483647 : Int32)) % (3 : Int32))), .val (.int (p4.toInt8.toInt32)), .val (.ref b387), .val (.ref b397), .val (.ref b408), .val (.ref b460), .unset, .unset, .unset, .unset]) rfl (g_new C X460 (wd hw 3 rfl) (wd hw 4 rfl) (wd hw 5 rfl) d0_159 (by decide) (by decide) (fun T473 h473 b473 g_b473 n_b473 X473 E473 A473 D473 M473 => ?_))
    have f474 := (Arv.ext f461 E460)
    have lt475 : b387 < b473 := by rw [g_b473]; exact Arv.lt f474
    have f476 := (Arv.ext f464 E460)
    have lt477 : b397 < b473 := by rw [g_b473]; exact Arv.lt f476
    have f478 := (Exa.ext E460 EX454)
    have lt479 : b408 < b473 := by rw [g_b473]; exact Exa.lt f478
    have f480 := (Arv.ext f458 E460)
    have lt481 : b412 < b473 := by rw [g_b473]; exact Arv.lt f480
    have f482 := (Arv.ext VT454 E460)
    have lt483 : t454 < b473 := by rw [g_b473]; exact Arv.lt f482
    have lt484 : b460 < b473 := by rw [g_b473]; exact Exa.lt A460
    have lt485 : t460 < b473 := by rw [g_b473]; exact Arv.lt V460
    have F_value_b473 : Fld Z h473 b473 "java/lang/String" "value" "[B" .null := D473 (Or.inr (wd hw 18 rfl)) (ty := (.array .byte)) (by decide)
    have F_coder_b473 : Fld Z h473 b473 "java/lang/String" "coder" "B" (.int 0) := D473 (Or.inr (wd hw 19 rfl)) (ty := .byte) (by decide)
    refine g_dup C X473 d0_162 rfl (g_iconst 2 C X473 d0_163 rfl (g_newarray C X473 (wd hw 6 rfl) d0_164 (by decide) 2 2 (by decide) (by decide) (by decide) (by decide) (fun T486 h486 b486 k_b486 g_b486 n_b486 X486 E486 V486 => ?_)))
    have f487 := (Arv.ext f474 E473)
    have lt488 : b387 < b486 := by rw [g_b486]; exact Arv.lt f487
    have f489 := (Arv.ext f476 E473)
    have lt490 : b397 < b486 := by rw [g_b486]; exact Arv.lt f489
    have f491 := (Exa.ext E473 f478)
    have lt492 : b408 < b486 := by rw [g_b486]; exact Exa.lt f491
    have f493 := (Arv.ext f480 E473)
    have lt494 : b412 < b486 := by rw [g_b486]; exact Arv.lt f493
    have f495 := (Arv.ext f482 E473)
    have lt496 : t454 < b486 := by rw [g_b486]; exact Arv.lt f495
    have f497 := (Exa.ext E473 A460)
    have lt498 : b460 < b486 := by rw [g_b486]; exact Exa.lt f497
    have f499 := (Arv.ext V460 E473)
    have lt500 : t460 < b486 := by rw [g_b486]; exact Arv.lt f499
    have lt501 : b473 < b486 := by rw [g_b486]; exact Exa.lt A473
    have V_b486 : Arv Z h486 b486 k_b486 .char (2 : Int32) [(.int 0), (.int 0)] (.int 0) := V486
    refine g_dup C X486 d0_166 rfl (g_iconst 0 C X486 d0_167 rfl (g_iload C X486 d0_168 rfl (g_castore C X486 V_b486 n_b486 d0_170 (by decide) (by decide) (Nat.le_of_ble_eq_true rfl) (.int a) (own_nar16 ha) (fun T502 h502 X502 W502 V502 => ?_))))
    have V502_b486 : Arv Z h502 b486 k_b486 .char (2 : Int32) [(.int a), (.int 0)] (.int 0) := V502
    refine g_dup C X502 d0_171 rfl (g_iconst 1 C X502 d0_172 rfl (g_iload C X502 d0_173 rfl (g_castore C X502 V502_b486 n_b486 d0_175 (by decide) (by decide) (Nat.le_of_ble_eq_true rfl) (.int b) (own_nar16 hb) (fun T503 h503 X503 W503 V503 => ?_))))
    have V503_b486 : Arv Z h503 b486 k_b486 .char (2 : Int32) [(.int a), (.int b)] (.int 0) := V503
    have f504 := (Exa.wr W503 (Exa.wr W502 (Exa.ext E486 A473)))
    have f505 := (Fld.other W503 (Fld.other W502 (Fld.ext E486 F_coder_b473) (Or.inl (Nat.ne_of_lt lt501))) (Or.inl (Nat.ne_of_lt lt501)))
    have f506 := (Fld.other W503 (Fld.other W502 (Fld.ext E486 F_value_b473) (Or.inl (Nat.ne_of_lt lt501))) (Or.inl (Nat.ne_of_lt lt501)))
    refine g_special (argsL := [(.ref b486)]) (st := [(.ref b473)]) C X503 rfl (wd hw 7 rfl) (wd hw 8 rfl) (wd hw 9 rfl) (by decide) (pay_of (W' := 1) (rX10 l hw X503.ext b473 b486 z_ SZ hz S1 S2 S3 k_b486 a b f504 f505 f506 n_b473 V503_b486 ha hb q459) C.hZ (wd hw 9 rfl) (wd hw 5 rfl) (by decide) (by decide)) pd_22 rfl rfl _ rfl (Nat.le_of_eq rfl) d0_176 (by decide) (by decide) (fun T507 h507 v507 q507 X507 => ?_)
    obtain ⟨rfl, K507, EX507, FC507, t507, k_t507, gt507, FV507, VT507⟩ := q507
    have f509 := (Arv.other (Arv.other (Arv.ext f487 E486) W502 (Nat.ne_of_lt lt488)) W503 (Nat.ne_of_lt lt488))
    have lt508 : b387 < t507 := Nat.lt_of_lt_of_le (Arv.lt f509) gt507
    have f511 := (Arv.other (Arv.other (Arv.ext f489 E486) W502 (Nat.ne_of_lt lt490)) W503 (Nat.ne_of_lt lt490))
    have lt510 : b397 < t507 := Nat.lt_of_lt_of_le (Arv.lt f511) gt507
    have f513 := (Exa.wr W503 (Exa.wr W502 (Exa.ext E486 f491)))
    have lt512 : b408 < t507 := Nat.lt_of_lt_of_le (Exa.lt f513) gt507
    have f515 := (Arv.other (Arv.other (Arv.ext f493 E486) W502 (Nat.ne_of_lt lt494)) W503 (Nat.ne_of_lt lt494))
    have lt514 : b412 < t507 := Nat.lt_of_lt_of_le (Arv.lt f515) gt507
    have f517 := (Arv.other (Arv.other (Arv.ext f495 E486) W502 (Nat.ne_of_lt lt496)) W503 (Nat.ne_of_lt lt496))
    have lt516 : t454 < t507 := Nat.lt_of_lt_of_le (Arv.lt f517) gt507
    have f519 := (Exa.wr W503 (Exa.wr W502 (Exa.ext E486 f497)))
    have lt518 : b460 < t507 := Nat.lt_of_lt_of_le (Exa.lt f519) gt507
    have f521 := (Arv.other (Arv.other (Arv.ext f499 E486) W502 (Nat.ne_of_lt lt500)) W503 (Nat.ne_of_lt lt500))
    have lt520 : t460 < t507 := Nat.lt_of_lt_of_le (Arv.lt f521) gt507
    have lt522 : b473 < t507 := Nat.lt_of_lt_of_le (Exa.lt f504) gt507
    have lt523 : b486 < t507 := Nat.lt_of_lt_of_le (Arv.lt V503_b486) gt507
    show Goes p e below _ T507 (mkF m 179 #[.val (.int p0), .val (.int p1), .val (.int p2), .val (.int p3), .val (.int p4), .val (.int a), .val (.int b), .val (.int pz), .val (.int ((p3 &&& (2147483647 : Int32)) % (3 : Int32))), .val (.int (p4.toInt8.toInt32)), .val (.ref b387), .val (.ref b397), .val (.ref b408), .val (.ref b460), .unset, .unset, .unset, .unset] [(.ref b473)])
    refine g_astore C X507 d0_179 rfl (l' := #[.val (.int p0), .val (.int p1), .val (.int p2), .val (.int p3), .val (.int p4), .val (.int a), .val (.int b), .val (.int pz), .val (.int ((p3 &&& (2147483647 : Int32)) % (3 : Int32))), .val (.int (p4.toInt8.toInt32)), .val (.ref b387), .val (.ref b397), .val (.ref b408), .val (.ref b460), .val (.ref b473), .unset, .unset, .unset]) rfl ?_
    rcases own_n3 p3 with e3 | e3 | e3
    · rw [e3]
      refine g_iload C X507 d0_181 rfl (g_ifn (h0_ne _) C X507 d0_183 (fun q => absurd (by decide) q) (fun _ => ?_))
      refine g_aload C X507 d0_186 rfl rfl (g_goto C X507 d0_188 (g_astore C X507 d0_204 rfl (l' := #[.val (.int p0), .val (.int p1), .val (.int p2), .val (.int p3), .val (.int p4), .val (.int a), .val (.int b), .val (.int pz), .val (.int 0), .val (.int (p4.toInt8.toInt32)), .val (.ref b387), .val (.ref b397), .val (.ref b408), .val (.ref b460), .val (.ref b473), .val (.ref b408), .unset, .unset]) rfl ?_))
      have kp524 := (Keep.refl h454 []).ext E460
      have sz525 : h454.size ≤ b473 := by rw [g_b473]; exact kp524.1
      have kp526 := kp524.ext E473
      have sz527 : h454.size ≤ b486 := by rw [g_b486]; exact kp526.1
      have kp528 := kp526.ext E486
      have kp529 := kp528.wr W502 (Or.inr sz527)
      have kp530 := kp529.wr W503 (Or.inr sz527)
      have kp531 := kp530.trans K507 (allS (Or.inr sz525) all0)
      have I532 := Lits.keep I454 kp531 sf0
      have sf533 := Lits.safe I454 kp531 sf0 sf455
      have sf534 := Lits.safe I454 kp531 sf0 sf456
      have f535 := (Arv.keep f515 K507 (ninS (Nat.ne_of_lt lt481) nin0))
      have f536 := (Arv.keep V503_b486 K507 (ninS (Nat.ne_of_gt lt501) nin0))
      have Y537 := X507.more (cells' := 16) (slots' := 200) (by decide) (by decide)
      have f538 := (Exa.keep f513 K507)
      have f539 := (Fld.keep (Fld.other W503 (Fld.other W502 (Fld.ext E486 (Fld.ext E473 (Fld.ext E460 FC454))) (Or.inl (Nat.ne_of_lt lt492))) (Or.inl (Nat.ne_of_lt lt492))) K507 (ninS (Nat.ne_of_lt lt479) nin0))
      have f540 := (Fld.keep (Fld.other W503 (Fld.other W502 (Fld.ext E486 (Fld.ext E473 (Fld.ext E460 FV454))) (Or.inl (Nat.ne_of_lt lt492))) (Or.inl (Nat.ne_of_lt lt492))) K507 (ninS (Nat.ne_of_lt lt479) nin0))
      have f541 := (Arv.keep f517 K507 (ninS (Nat.ne_of_lt lt483) nin0))
      have f542 := (Arv.keep f509 K507 (ninS (Nat.ne_of_lt lt475) nin0))
      have f543 := (Arv.keep f511 K507 (ninS (Nat.ne_of_lt lt477) nin0))
      exact seg0L hw (.val (.int p0)) (.val (.int p1)) (.val (.int p2)) (.val (.int p3)) (.val (.int p4)) (.val (.int (p4.toInt8.toInt32))) (.val (.ref b408)) (.val (.ref b460)) (.val (.ref b473)) a b pz b408 b387 b397 z_ SZ hz fm_ SF rf_ S1 S2 S3 t454 k_t454 k_b387 k_b397 [(p4.toInt8.toInt32), (p4.toInt8.toInt32), (p4.toInt8.toInt32), (p4.toInt8.toInt32), (p4.toInt8.toInt32), (p4.toInt8.toInt32), (p4.toInt8.toInt32), (p4.toInt8.toInt32), (p4.toInt8.toInt32)] C Y537 I532 f538 f539 f540 f541 ha hb hp f542 f543 rfl n_b387 n_b397 (Nat.ne_of_lt lt410) (arv_ne f542 f541 (Or.inl (by decide))) (Nat.ne_of_lt lt398) sf533 sf534
    · rw [e3]
      refine g_iload C X507 d0_181 rfl (g_ifn (h0_ne _) C X507 d0_183 (fun _ => ?_) (fun q => absurd q (by decide)))
      refine g_iload C X507 d0_191 rfl (g_iconst 1 C X507 d0_193 rfl (g_icmpn (hI_ne _ _) C X507 d0_194 (fun q => absurd (by decide) q) (fun _ => ?_)))
      refine g_aload C X507 d0_197 rfl rfl (g_goto C X507 d0_199 (g_astore C X507 d0_204 rfl (l' := #[.val (.int p0), .val (.int p1), .val (.int p2), .val (.int p3), .val (.int p4), .val (.int a), .val (.int b), .val (.int pz), .val (.int 1), .val (.int (p4.toInt8.toInt32)), .val (.ref b387), .val (.ref b397), .val (.ref b408), .val (.ref b460), .val (.ref b473), .val (.ref b460), .unset, .unset]) rfl ?_))
      have kp544 := (Keep.refl h454 []).ext E460
      have sz545 : h454.size ≤ b473 := by rw [g_b473]; exact kp544.1
      have kp546 := kp544.ext E473
      have sz547 : h454.size ≤ b486 := by rw [g_b486]; exact kp546.1
      have kp548 := kp546.ext E486
      have kp549 := kp548.wr W502 (Or.inr sz547)
      have kp550 := kp549.wr W503 (Or.inr sz547)
      have kp551 := kp550.trans K507 (allS (Or.inr sz545) all0)
      have I552 := Lits.keep I454 kp551 sf0
      have sf553 := Lits.safe I454 kp551 sf0 sf455
      have sf554 := Lits.safe I454 kp551 sf0 sf456
      have f555 := (Arv.keep f515 K507 (ninS (Nat.ne_of_lt lt481) nin0))
      have f556 := (Arv.keep V503_b486 K507 (ninS (Nat.ne_of_gt lt501) nin0))
      have Y557 := X507.more (cells' := 16) (slots' := 200) (by decide) (by decide)
      have f558 := (Exa.keep f519 K507)
      have f559 := (Fld.keep (Fld.other W503 (Fld.other W502 (Fld.ext E486 (Fld.ext E473 C460)) (Or.inl (Nat.ne_of_lt lt498))) (Or.inl (Nat.ne_of_lt lt498))) K507 (ninS (Nat.ne_of_lt lt484) nin0))
      have f560 := (Fld.keep (Fld.other W503 (Fld.other W502 (Fld.ext E486 (Fld.ext E473 F460)) (Or.inl (Nat.ne_of_lt lt498))) (Or.inl (Nat.ne_of_lt lt498))) K507 (ninS (Nat.ne_of_lt lt484) nin0))
      have f561 := (Arv.keep f521 K507 (ninS (Nat.ne_of_lt lt485) nin0))
      have f562 := (Arv.keep f509 K507 (ninS (Nat.ne_of_lt lt475) nin0))
      have f563 := (Arv.keep f511 K507 (ninS (Nat.ne_of_lt lt477) nin0))
      exact seg1U hw (.val (.int p0)) (.val (.int p1)) (.val (.int p2)) (.val (.int p3)) (.val (.int p4)) (.val (.int (p4.toInt8.toInt32))) (.val (.ref b408)) (.val (.ref b460)) (.val (.ref b473)) a b pz b460 b387 b397 z_ SZ hz fm_ SF rf_ S1 S2 S3 t460 k_t460 k_b387 k_b397 [(p4.toInt8.toInt32), (p4.toInt8.toInt32), (p4.toInt8.toInt32), (p4.toInt8.toInt32), (p4.toInt8.toInt32), (p4.toInt8.toInt32), (p4.toInt8.toInt32), (p4.toInt8.toInt32), (p4.toInt8.toInt32)] C Y557 I552 f558 f559 f560 f561 ha hb hp f562 f563 rfl n_b387 n_b397 (Nat.ne_of_lt lt462) (Nat.ne_of_lt lt463) (Nat.ne_of_lt lt398) sf553 sf554
    · rw [e3]
      refine g_iload C X507 d0_181 rfl (g_ifn (h0_ne _) C X507 d0_183 (fun _ => ?_) (fun q => absurd q (by decide)))
      refine g_iload C X507 d0_191 rfl (g_iconst 1 C X507 d0_193 rfl (g_icmpn (hI_ne _ _) C X507 d0_194 (fun _ => ?_) (fun q => absurd q (by decide))))
      refine g_aload C X507 d0_202 rfl rfl (g_astore C X507 d0_204 rfl (l' := #[.val (.int p0), .val (.int p1), .val (.int p2), .val (.int p3), .val (.int p4), .val (.int a), .val (.int b), .val (.int pz), .val (.int 2), .val (.int (p4.toInt8.toInt32)), .val (.ref b387), .val (.ref b397), .val (.ref b408), .val (.ref b460), .val (.ref b473), .val (.ref b473), .unset, .unset]) rfl ?_)
      have kp564 := (Keep.refl h454 []).ext E460
      have sz565 : h454.size ≤ b473 := by rw [g_b473]; exact kp564.1
      have kp566 := kp564.ext E473
      have sz567 : h454.size ≤ b486 := by rw [g_b486]; exact kp566.1
      have kp568 := kp566.ext E486
      have kp569 := kp568.wr W502 (Or.inr sz567)
      have kp570 := kp569.wr W503 (Or.inr sz567)
      have kp571 := kp570.trans K507 (allS (Or.inr sz565) all0)
      have I572 := Lits.keep I454 kp571 sf0
      have sf573 := Lits.safe I454 kp571 sf0 sf455
      have sf574 := Lits.safe I454 kp571 sf0 sf456
      have f575 := (Arv.keep f515 K507 (ninS (Nat.ne_of_lt lt481) nin0))
      have f576 := (Arv.keep V503_b486 K507 (ninS (Nat.ne_of_gt lt501) nin0))
      have Y577 := X507.more (cells' := 16) (slots' := 200) (by decide) (by decide)
      have f578 := (Arv.keep f509 K507 (ninS (Nat.ne_of_lt lt475) nin0))
      have f579 := (Arv.keep f511 K507 (ninS (Nat.ne_of_lt lt477) nin0))
      exact seg2U hw (.val (.int p0)) (.val (.int p1)) (.val (.int p2)) (.val (.int p3)) (.val (.int p4)) (.val (.int (p4.toInt8.toInt32))) (.val (.ref b408)) (.val (.ref b460)) (.val (.ref b473)) a b pz b473 b387 b397 z_ SZ hz fm_ SF rf_ S1 S2 S3 t507 k_t507 k_b387 k_b397 [(p4.toInt8.toInt32), (p4.toInt8.toInt32), (p4.toInt8.toInt32), (p4.toInt8.toInt32), (p4.toInt8.toInt32), (p4.toInt8.toInt32), (p4.toInt8.toInt32), (p4.toInt8.toInt32), (p4.toInt8.toInt32)] C Y577 I572 EX507 FC507 FV507 VT507 ha hb hp f578 f579 rfl n_b387 n_b397 (Nat.ne_of_lt lt475) (Nat.ne_of_lt lt508) (Nat.ne_of_lt lt398) sf573 sf574
  · refine g_iload C X454 d0_152 rfl (g_static (argsL := [(.int a)]) (st := []) C X454 (wd hw 24 rfl) (wd hw 25 rfl) (wd hw 5 rfl) (wd hw 26 rfl) (by decide) (pay_of (W' := 0) (rVoL l hw X454.ext a z_ SZ hz S1 S2 S3 q459) C.hZ (wd hw 26 rfl) (wd hw 5 rfl) (by decide) (by decide)) pd_23 rfl rfl _ rfl (Nat.le_of_eq rfl) d0_154 (by decide) (by decide) (fun T580 h580 v580 q580 X580 => ?_))
    obtain ⟨b580, t580, k_t580, rfl, n_b580, g580, gt580, E580, A580, C580, F580, V580⟩ := q580
    have f581 := (Arv.keep f448 K454 (ninS (Nat.ne_of_lt lt410) nin0))
    have lt582 : b387 < b580 := Nat.lt_of_lt_of_le (Arv.lt f581) g580
    have lt583 : b387 < t580 := Nat.lt_of_lt_of_le (Arv.lt f581) gt580
    have f584 := (Arv.keep f449 K454 (ninS (Nat.ne_of_lt lt411) nin0))
    have lt585 : b397 < b580 := Nat.lt_of_lt_of_le (Arv.lt f584) g580
    have lt586 : b397 < t580 := Nat.lt_of_lt_of_le (Arv.lt f584) gt580
    have lt587 : b408 < b580 := Nat.lt_of_lt_of_le (Exa.lt EX454) g580
    have lt588 : b408 < t580 := Nat.lt_of_lt_of_le (Exa.lt EX454) gt580
    have lt589 : b412 < b580 := Nat.lt_of_lt_of_le (Arv.lt f458) g580
    have lt590 : b412 < t580 := Nat.lt_of_lt_of_le (Arv.lt f458) gt580
    have lt591 : t454 < b580 := Nat.lt_of_lt_of_le (Arv.lt VT454) g580
    have lt592 : t454 < t580 := Nat.lt_of_lt_of_le (Arv.lt VT454) gt580
    show Goes p e below _ T580 (mkF m 157 #[.val (.int p0), .val (.int p1), .val (.int p2), .val (.int p3), .val (.int p4), .val (.int a), .val (.int b), .val (.int pz), .val (.int ((p3 &&& (2147483647 : Int32)) % (3 : Int32))), .val (.int (p4.toInt8.toInt32)), .val (.ref b387), .val (.ref b397), .val (.ref b408), .unset, .unset, .unset, .unset, .unset] [(.ref b580)])
    refine g_astore C X580 d0_157 rfl (l' := #[.val (.int p0), .val (.int p1), .val (.int p2), .val (.int p3), .val (.int p4), .val (.int a), .val (.int b), .val (.int pz), .val (.int ((p3 &&& (2147483647 : Int32)) % (3 : Int32))), .val (.int (p4.toInt8.toInt32)), .val (.ref b387), .val (.ref b397), .val (.ref b408), .val (.ref b580), .unset, .unset, .unset, .unset]) rfl (g_new C X580 (wd hw 3 rfl) (wd hw 4 rfl) (wd hw 5 rfl) d0_159 (by decide) (by decide) (fun T593 h593 b593 g_b593 n_b593 X593 E593 A593 D593 M593 => ?_))
    have f594 := (Arv.ext f581 E580)
    have lt595 : b387 < b593 := by rw [g_b593]; exact Arv.lt f594
    have f596 := (Arv.ext f584 E580)
    have lt597 : b397 < b593 := by rw [g_b593]; exact Arv.lt f596
    have f598 := (Exa.ext E580 EX454)
    have lt599 : b408 < b593 := by rw [g_b593]; exact Exa.lt f598
    have f600 := (Arv.ext f458 E580)
    have lt601 : b412 < b593 := by rw [g_b593]; exact Arv.lt f600
    have f602 := (Arv.ext VT454 E580)
    have lt603 : t454 < b593 := by rw [g_b593]; exact Arv.lt f602
    have lt604 : b580 < b593 := by rw [g_b593]; exact Exa.lt A580
    have lt605 : t580 < b593 := by rw [g_b593]; exact Arv.lt V580
    have F_value_b593 : Fld Z h593 b593 "java/lang/String" "value" "[B" .null := D593 (Or.inr (wd hw 18 rfl)) (ty := (.array .byte)) (by decide)
    have F_coder_b593 : Fld Z h593 b593 "java/lang/String" "coder" "B" (.int 0) := D593 (Or.inr (wd hw 19 rfl)) (ty := .byte) (by decide)
    refine g_dup C X593 d0_162 rfl (g_iconst 2 C X593 d0_163 rfl (g_newarray C X593 (wd hw 6 rfl) d0_164 (by decide) 2 2 (by decide) (by decide) (by decide) (by decide) (fun T606 h606 b606 k_b606 g_b606 n_b606 X606 E606 V606 => ?_)))
    have f607 := (Arv.ext f594 E593)
    have lt608 : b387 < b606 := by rw [g_b606]; exact Arv.lt f607
    have f609 := (Arv.ext f596 E593)
    have lt610 : b397 < b606 := by rw [g_b606]; exact Arv.lt f609
    have f611 := (Exa.ext E593 f598)
    have lt612 : b408 < b606 := by rw [g_b606]; exact Exa.lt f611
    have f613 := (Arv.ext f600 E593)
    have lt614 : b412 < b606 := by rw [g_b606]; exact Arv.lt f613
    have f615 := (Arv.ext f602 E593)
    have lt616 : t454 < b606 := by rw [g_b606]; exact Arv.lt f615
    have f617 := (Exa.ext E593 A580)
    have lt618 : b580 < b606 := by rw [g_b606]; exact Exa.lt f617
    have f619 := (Arv.ext V580 E593)
    have lt620 : t580 < b606 := by rw [g_b606]; exact Arv.lt f619
    have lt621 : b593 < b606 := by rw [g_b606]; exact Exa.lt A593
    have V_b606 : Arv Z h606 b606 k_b606 .char (2 : Int32) [(.int 0), (.int 0)] (.int 0) := V606
    refine g_dup C X606 d0_166 rfl (g_iconst 0 C X606 d0_167 rfl (g_iload C X606 d0_168 rfl (g_castore C X606 V_b606 n_b606 d0_170 (by decide) (by decide) (Nat.le_of_ble_eq_true rfl) (.int a) (own_nar16 ha) (fun T622 h622 X622 W622 V622 => ?_))))
    have V622_b606 : Arv Z h622 b606 k_b606 .char (2 : Int32) [(.int a), (.int 0)] (.int 0) := V622
    refine g_dup C X622 d0_171 rfl (g_iconst 1 C X622 d0_172 rfl (g_iload C X622 d0_173 rfl (g_castore C X622 V622_b606 n_b606 d0_175 (by decide) (by decide) (Nat.le_of_ble_eq_true rfl) (.int b) (own_nar16 hb) (fun T623 h623 X623 W623 V623 => ?_))))
    have V623_b606 : Arv Z h623 b606 k_b606 .char (2 : Int32) [(.int a), (.int b)] (.int 0) := V623
    by_cases q624 : (255 : Int32) < b
    · have f625 := (Exa.wr W623 (Exa.wr W622 (Exa.ext E606 A593)))
      have f626 := (Fld.other W623 (Fld.other W622 (Fld.ext E606 F_coder_b593) (Or.inl (Nat.ne_of_lt lt621))) (Or.inl (Nat.ne_of_lt lt621)))
      have f627 := (Fld.other W623 (Fld.other W622 (Fld.ext E606 F_value_b593) (Or.inl (Nat.ne_of_lt lt621))) (Or.inl (Nat.ne_of_lt lt621)))
      refine g_special (argsL := [(.ref b606)]) (st := [(.ref b593)]) C X623 rfl (wd hw 7 rfl) (wd hw 8 rfl) (wd hw 9 rfl) (by decide) (pay_of (W' := 1) (rX11 l hw X623.ext b593 b606 z_ SZ hz S1 S2 S3 k_b606 a b f625 f626 f627 n_b593 V623_b606 ha hb q459 q624) C.hZ (wd hw 9 rfl) (wd hw 5 rfl) (by decide) (by decide)) pd_22 rfl rfl _ rfl (Nat.le_of_eq rfl) d0_176 (by decide) (by decide) (fun T628 h628 v628 q628 X628 => ?_)
      obtain ⟨rfl, K628, EX628, FC628, t628, k_t628, gt628, FV628, VT628⟩ := q628
      have f630 := (Arv.other (Arv.other (Arv.ext f607 E606) W622 (Nat.ne_of_lt lt608)) W623 (Nat.ne_of_lt lt608))
      have lt629 : b387 < t628 := Nat.lt_of_lt_of_le (Arv.lt f630) gt628
      have f632 := (Arv.other (Arv.other (Arv.ext f609 E606) W622 (Nat.ne_of_lt lt610)) W623 (Nat.ne_of_lt lt610))
      have lt631 : b397 < t628 := Nat.lt_of_lt_of_le (Arv.lt f632) gt628
      have f634 := (Exa.wr W623 (Exa.wr W622 (Exa.ext E606 f611)))
      have lt633 : b408 < t628 := Nat.lt_of_lt_of_le (Exa.lt f634) gt628
      have f636 := (Arv.other (Arv.other (Arv.ext f613 E606) W622 (Nat.ne_of_lt lt614)) W623 (Nat.ne_of_lt lt614))
      have lt635 : b412 < t628 := Nat.lt_of_lt_of_le (Arv.lt f636) gt628
      have f638 := (Arv.other (Arv.other (Arv.ext f615 E606) W622 (Nat.ne_of_lt lt616)) W623 (Nat.ne_of_lt lt616))
      have lt637 : t454 < t628 := Nat.lt_of_lt_of_le (Arv.lt f638) gt628
      have f640 := (Exa.wr W623 (Exa.wr W622 (Exa.ext E606 f617)))
      have lt639 : b580 < t628 := Nat.lt_of_lt_of_le (Exa.lt f640) gt628
      have f642 := (Arv.other (Arv.other (Arv.ext f619 E606) W622 (Nat.ne_of_lt lt620)) W623 (Nat.ne_of_lt lt620))
      have lt641 : t580 < t628 := Nat.lt_of_lt_of_le (Arv.lt f642) gt628
      have lt643 : b593 < t628 := Nat.lt_of_lt_of_le (Exa.lt f625) gt628
      have lt644 : b606 < t628 := Nat.lt_of_lt_of_le (Arv.lt V623_b606) gt628
      show Goes p e below _ T628 (mkF m 179 #[.val (.int p0), .val (.int p1), .val (.int p2), .val (.int p3), .val (.int p4), .val (.int a), .val (.int b), .val (.int pz), .val (.int ((p3 &&& (2147483647 : Int32)) % (3 : Int32))), .val (.int (p4.toInt8.toInt32)), .val (.ref b387), .val (.ref b397), .val (.ref b408), .val (.ref b580), .unset, .unset, .unset, .unset] [(.ref b593)])
      refine g_astore C X628 d0_179 rfl (l' := #[.val (.int p0), .val (.int p1), .val (.int p2), .val (.int p3), .val (.int p4), .val (.int a), .val (.int b), .val (.int pz), .val (.int ((p3 &&& (2147483647 : Int32)) % (3 : Int32))), .val (.int (p4.toInt8.toInt32)), .val (.ref b387), .val (.ref b397), .val (.ref b408), .val (.ref b580), .val (.ref b593), .unset, .unset, .unset]) rfl ?_
      rcases own_n3 p3 with e3 | e3 | e3
      · rw [e3]
        refine g_iload C X628 d0_181 rfl (g_ifn (h0_ne _) C X628 d0_183 (fun q => absurd (by decide) q) (fun _ => ?_))
        refine g_aload C X628 d0_186 rfl rfl (g_goto C X628 d0_188 (g_astore C X628 d0_204 rfl (l' := #[.val (.int p0), .val (.int p1), .val (.int p2), .val (.int p3), .val (.int p4), .val (.int a), .val (.int b), .val (.int pz), .val (.int 0), .val (.int (p4.toInt8.toInt32)), .val (.ref b387), .val (.ref b397), .val (.ref b408), .val (.ref b580), .val (.ref b593), .val (.ref b408), .unset, .unset]) rfl ?_))
        have kp645 := (Keep.refl h454 []).ext E580
        have sz646 : h454.size ≤ b593 := by rw [g_b593]; exact kp645.1
        have kp647 := kp645.ext E593
        have sz648 : h454.size ≤ b606 := by rw [g_b606]; exact kp647.1
        have kp649 := kp647.ext E606
        have kp650 := kp649.wr W622 (Or.inr sz648)
        have kp651 := kp650.wr W623 (Or.inr sz648)
        have kp652 := kp651.trans K628 (allS (Or.inr sz646) all0)
        have I653 := Lits.keep I454 kp652 sf0
        have sf654 := Lits.safe I454 kp652 sf0 sf455
        have sf655 := Lits.safe I454 kp652 sf0 sf456
        have f656 := (Arv.keep f636 K628 (ninS (Nat.ne_of_lt lt601) nin0))
        have f657 := (Arv.keep V623_b606 K628 (ninS (Nat.ne_of_gt lt621) nin0))
        have Y658 := X628.more (cells' := 16) (slots' := 200) (by decide) (by decide)
        have f659 := (Exa.keep f634 K628)
        have f660 := (Fld.keep (Fld.other W623 (Fld.other W622 (Fld.ext E606 (Fld.ext E593 (Fld.ext E580 FC454))) (Or.inl (Nat.ne_of_lt lt612))) (Or.inl (Nat.ne_of_lt lt612))) K628 (ninS (Nat.ne_of_lt lt599) nin0))
        have f661 := (Fld.keep (Fld.other W623 (Fld.other W622 (Fld.ext E606 (Fld.ext E593 (Fld.ext E580 FV454))) (Or.inl (Nat.ne_of_lt lt612))) (Or.inl (Nat.ne_of_lt lt612))) K628 (ninS (Nat.ne_of_lt lt599) nin0))
        have f662 := (Arv.keep f638 K628 (ninS (Nat.ne_of_lt lt603) nin0))
        have f663 := (Arv.keep f630 K628 (ninS (Nat.ne_of_lt lt595) nin0))
        have f664 := (Arv.keep f632 K628 (ninS (Nat.ne_of_lt lt597) nin0))
        exact seg0L hw (.val (.int p0)) (.val (.int p1)) (.val (.int p2)) (.val (.int p3)) (.val (.int p4)) (.val (.int (p4.toInt8.toInt32))) (.val (.ref b408)) (.val (.ref b580)) (.val (.ref b593)) a b pz b408 b387 b397 z_ SZ hz fm_ SF rf_ S1 S2 S3 t454 k_t454 k_b387 k_b397 [(p4.toInt8.toInt32), (p4.toInt8.toInt32), (p4.toInt8.toInt32), (p4.toInt8.toInt32), (p4.toInt8.toInt32), (p4.toInt8.toInt32), (p4.toInt8.toInt32), (p4.toInt8.toInt32), (p4.toInt8.toInt32)] C Y658 I653 f659 f660 f661 f662 ha hb hp f663 f664 rfl n_b387 n_b397 (Nat.ne_of_lt lt410) (arv_ne f663 f662 (Or.inl (by decide))) (Nat.ne_of_lt lt398) sf654 sf655
      · rw [e3]
        refine g_iload C X628 d0_181 rfl (g_ifn (h0_ne _) C X628 d0_183 (fun _ => ?_) (fun q => absurd q (by decide)))
        refine g_iload C X628 d0_191 rfl (g_iconst 1 C X628 d0_193 rfl (g_icmpn (hI_ne _ _) C X628 d0_194 (fun q => absurd (by decide) q) (fun _ => ?_)))
        refine g_aload C X628 d0_197 rfl rfl (g_goto C X628 d0_199 (g_astore C X628 d0_204 rfl (l' := #[.val (.int p0), .val (.int p1), .val (.int p2), .val (.int p3), .val (.int p4), .val (.int a), .val (.int b), .val (.int pz), .val (.int 1), .val (.int (p4.toInt8.toInt32)), .val (.ref b387), .val (.ref b397), .val (.ref b408), .val (.ref b580), .val (.ref b593), .val (.ref b580), .unset, .unset]) rfl ?_))
        have kp665 := (Keep.refl h454 []).ext E580
        have sz666 : h454.size ≤ b593 := by rw [g_b593]; exact kp665.1
        have kp667 := kp665.ext E593
        have sz668 : h454.size ≤ b606 := by rw [g_b606]; exact kp667.1
        have kp669 := kp667.ext E606
        have kp670 := kp669.wr W622 (Or.inr sz668)
        have kp671 := kp670.wr W623 (Or.inr sz668)
        have kp672 := kp671.trans K628 (allS (Or.inr sz666) all0)
        have I673 := Lits.keep I454 kp672 sf0
        have sf674 := Lits.safe I454 kp672 sf0 sf455
        have sf675 := Lits.safe I454 kp672 sf0 sf456
        have f676 := (Arv.keep f636 K628 (ninS (Nat.ne_of_lt lt601) nin0))
        have f677 := (Arv.keep V623_b606 K628 (ninS (Nat.ne_of_gt lt621) nin0))
        have Y678 := X628.more (cells' := 16) (slots' := 200) (by decide) (by decide)
        have f679 := (Exa.keep f640 K628)
        have f680 := (Fld.keep (Fld.other W623 (Fld.other W622 (Fld.ext E606 (Fld.ext E593 C580)) (Or.inl (Nat.ne_of_lt lt618))) (Or.inl (Nat.ne_of_lt lt618))) K628 (ninS (Nat.ne_of_lt lt604) nin0))
        have f681 := (Fld.keep (Fld.other W623 (Fld.other W622 (Fld.ext E606 (Fld.ext E593 F580)) (Or.inl (Nat.ne_of_lt lt618))) (Or.inl (Nat.ne_of_lt lt618))) K628 (ninS (Nat.ne_of_lt lt604) nin0))
        have f682 := (Arv.keep f642 K628 (ninS (Nat.ne_of_lt lt605) nin0))
        have f683 := (Arv.keep f630 K628 (ninS (Nat.ne_of_lt lt595) nin0))
        have f684 := (Arv.keep f632 K628 (ninS (Nat.ne_of_lt lt597) nin0))
        exact seg1L hw (.val (.int p0)) (.val (.int p1)) (.val (.int p2)) (.val (.int p3)) (.val (.int p4)) (.val (.int (p4.toInt8.toInt32))) (.val (.ref b408)) (.val (.ref b580)) (.val (.ref b593)) a b pz b580 b387 b397 z_ SZ hz fm_ SF rf_ S1 S2 S3 t580 k_t580 k_b387 k_b397 [(p4.toInt8.toInt32), (p4.toInt8.toInt32), (p4.toInt8.toInt32), (p4.toInt8.toInt32), (p4.toInt8.toInt32), (p4.toInt8.toInt32), (p4.toInt8.toInt32), (p4.toInt8.toInt32), (p4.toInt8.toInt32)] C Y678 I673 f679 f680 f681 f682 ha hb q459 hp f683 f684 rfl n_b387 n_b397 (Nat.ne_of_lt lt582) (Nat.ne_of_lt lt583) (Nat.ne_of_lt lt398) sf674 sf675
      · rw [e3]
        refine g_iload C X628 d0_181 rfl (g_ifn (h0_ne _) C X628 d0_183 (fun _ => ?_) (fun q => absurd q (by decide)))
        refine g_iload C X628 d0_191 rfl (g_iconst 1 C X628 d0_193 rfl (g_icmpn (hI_ne _ _) C X628 d0_194 (fun _ => ?_) (fun q => absurd q (by decide))))
        refine g_aload C X628 d0_202 rfl rfl (g_astore C X628 d0_204 rfl (l' := #[.val (.int p0), .val (.int p1), .val (.int p2), .val (.int p3), .val (.int p4), .val (.int a), .val (.int b), .val (.int pz), .val (.int 2), .val (.int (p4.toInt8.toInt32)), .val (.ref b387), .val (.ref b397), .val (.ref b408), .val (.ref b580), .val (.ref b593), .val (.ref b593), .unset, .unset]) rfl ?_)
        have kp685 := (Keep.refl h454 []).ext E580
        have sz686 : h454.size ≤ b593 := by rw [g_b593]; exact kp685.1
        have kp687 := kp685.ext E593
        have sz688 : h454.size ≤ b606 := by rw [g_b606]; exact kp687.1
        have kp689 := kp687.ext E606
        have kp690 := kp689.wr W622 (Or.inr sz688)
        have kp691 := kp690.wr W623 (Or.inr sz688)
        have kp692 := kp691.trans K628 (allS (Or.inr sz686) all0)
        have I693 := Lits.keep I454 kp692 sf0
        have sf694 := Lits.safe I454 kp692 sf0 sf455
        have sf695 := Lits.safe I454 kp692 sf0 sf456
        have f696 := (Arv.keep f636 K628 (ninS (Nat.ne_of_lt lt601) nin0))
        have f697 := (Arv.keep V623_b606 K628 (ninS (Nat.ne_of_gt lt621) nin0))
        have Y698 := X628.more (cells' := 16) (slots' := 200) (by decide) (by decide)
        have f699 := (Arv.keep f630 K628 (ninS (Nat.ne_of_lt lt595) nin0))
        have f700 := (Arv.keep f632 K628 (ninS (Nat.ne_of_lt lt597) nin0))
        exact seg2U hw (.val (.int p0)) (.val (.int p1)) (.val (.int p2)) (.val (.int p3)) (.val (.int p4)) (.val (.int (p4.toInt8.toInt32))) (.val (.ref b408)) (.val (.ref b580)) (.val (.ref b593)) a b pz b593 b387 b397 z_ SZ hz fm_ SF rf_ S1 S2 S3 t628 k_t628 k_b387 k_b397 [(p4.toInt8.toInt32), (p4.toInt8.toInt32), (p4.toInt8.toInt32), (p4.toInt8.toInt32), (p4.toInt8.toInt32), (p4.toInt8.toInt32), (p4.toInt8.toInt32), (p4.toInt8.toInt32), (p4.toInt8.toInt32)] C Y698 I693 EX628 FC628 FV628 VT628 ha hb hp f699 f700 rfl n_b387 n_b397 (Nat.ne_of_lt lt595) (Nat.ne_of_lt lt629) (Nat.ne_of_lt lt398) sf694 sf695
    · have hp701 : ∀ c ∈ [a, b], ¬ c < 0 ∧ ¬ (255 : Int32) < c := (List.forall_mem_cons.mpr ⟨⟨ha.1, q459⟩, (List.forall_mem_cons.mpr ⟨⟨hb.1, q624⟩, (fun _ q => nomatch q)⟩)⟩)
      have f703 := (Exa.wr W623 (Exa.wr W622 (Exa.ext E606 A593)))
      have f704 := (Fld.other W623 (Fld.other W622 (Fld.ext E606 F_value_b593) (Or.inl (Nat.ne_of_lt lt621))) (Or.inl (Nat.ne_of_lt lt621)))
      have f705 := (Fld.other W623 (Fld.other W622 (Fld.ext E606 F_coder_b593) (Or.inl (Nat.ne_of_lt lt621))) (Or.inl (Nat.ne_of_lt lt621)))
      refine g_special (argsL := [(.ref b606)]) (st := [(.ref b593)]) C X623 rfl (wd hw 7 rfl) (wd hw 8 rfl) (wd hw 9 rfl) (by decide) (payV (W' := 1) (cs := [a, b]) (n := 2) C.hZ X623.ext (own_words hw) (kI := 4) (wd hw 4 rfl) n_b593 f703 f704 f705 V623_b606 SZ hz rfl rfl (by decide) (by decide) hp701 (by decide) (by decide)) pd_22 rfl rfl _ rfl (Nat.le_of_eq rfl) d0_176 (by decide) (by decide) (fun T702 h702 v702 q702 X702 => ?_)
      obtain ⟨rfl, K702, EX702, FC702, t702, k_t702, nt0_702, gt702, nt702, FV702, VT702⟩ := q702
      have f707 := (Arv.other (Arv.other (Arv.ext f607 E606) W622 (Nat.ne_of_lt lt608)) W623 (Nat.ne_of_lt lt608))
      have lt706 : b387 < t702 := Nat.lt_of_lt_of_le (Arv.lt f707) gt702
      have f709 := (Arv.other (Arv.other (Arv.ext f609 E606) W622 (Nat.ne_of_lt lt610)) W623 (Nat.ne_of_lt lt610))
      have lt708 : b397 < t702 := Nat.lt_of_lt_of_le (Arv.lt f709) gt702
      have f711 := (Exa.wr W623 (Exa.wr W622 (Exa.ext E606 f611)))
      have lt710 : b408 < t702 := Nat.lt_of_lt_of_le (Exa.lt f711) gt702
      have f713 := (Arv.other (Arv.other (Arv.ext f613 E606) W622 (Nat.ne_of_lt lt614)) W623 (Nat.ne_of_lt lt614))
      have lt712 : b412 < t702 := Nat.lt_of_lt_of_le (Arv.lt f713) gt702
      have f715 := (Arv.other (Arv.other (Arv.ext f615 E606) W622 (Nat.ne_of_lt lt616)) W623 (Nat.ne_of_lt lt616))
      have lt714 : t454 < t702 := Nat.lt_of_lt_of_le (Arv.lt f715) gt702
      have f717 := (Exa.wr W623 (Exa.wr W622 (Exa.ext E606 f617)))
      have lt716 : b580 < t702 := Nat.lt_of_lt_of_le (Exa.lt f717) gt702
      have f719 := (Arv.other (Arv.other (Arv.ext f619 E606) W622 (Nat.ne_of_lt lt620)) W623 (Nat.ne_of_lt lt620))
      have lt718 : t580 < t702 := Nat.lt_of_lt_of_le (Arv.lt f719) gt702
      have lt720 : b593 < t702 := Nat.lt_of_lt_of_le (Exa.lt f703) gt702
      have lt721 : b606 < t702 := Nat.lt_of_lt_of_le (Arv.lt V623_b606) gt702
      show Goes p e below _ T702 (mkF m 179 #[.val (.int p0), .val (.int p1), .val (.int p2), .val (.int p3), .val (.int p4), .val (.int a), .val (.int b), .val (.int pz), .val (.int ((p3 &&& (2147483647 : Int32)) % (3 : Int32))), .val (.int (p4.toInt8.toInt32)), .val (.ref b387), .val (.ref b397), .val (.ref b408), .val (.ref b580), .unset, .unset, .unset, .unset] [(.ref b593)])
      refine g_astore C X702 d0_179 rfl (l' := #[.val (.int p0), .val (.int p1), .val (.int p2), .val (.int p3), .val (.int p4), .val (.int a), .val (.int b), .val (.int pz), .val (.int ((p3 &&& (2147483647 : Int32)) % (3 : Int32))), .val (.int (p4.toInt8.toInt32)), .val (.ref b387), .val (.ref b397), .val (.ref b408), .val (.ref b580), .val (.ref b593), .unset, .unset, .unset]) rfl ?_
      rcases own_n3 p3 with e3 | e3 | e3
      · rw [e3]
        refine g_iload C X702 d0_181 rfl (g_ifn (h0_ne _) C X702 d0_183 (fun q => absurd (by decide) q) (fun _ => ?_))
        refine g_aload C X702 d0_186 rfl rfl (g_goto C X702 d0_188 (g_astore C X702 d0_204 rfl (l' := #[.val (.int p0), .val (.int p1), .val (.int p2), .val (.int p3), .val (.int p4), .val (.int a), .val (.int b), .val (.int pz), .val (.int 0), .val (.int (p4.toInt8.toInt32)), .val (.ref b387), .val (.ref b397), .val (.ref b408), .val (.ref b580), .val (.ref b593), .val (.ref b408), .unset, .unset]) rfl ?_))
        have kp722 := (Keep.refl h454 []).ext E580
        have sz723 : h454.size ≤ b593 := by rw [g_b593]; exact kp722.1
        have kp724 := kp722.ext E593
        have sz725 : h454.size ≤ b606 := by rw [g_b606]; exact kp724.1
        have kp726 := kp724.ext E606
        have kp727 := kp726.wr W622 (Or.inr sz725)
        have kp728 := kp727.wr W623 (Or.inr sz725)
        have kp729 := kp728.trans K702 (allS (Or.inr sz723) all0)
        have I730 := Lits.keep I454 kp729 sf0
        have sf731 := Lits.safe I454 kp729 sf0 sf455
        have sf732 := Lits.safe I454 kp729 sf0 sf456
        have f733 := (Arv.keep f713 K702 (ninS (Nat.ne_of_lt lt601) nin0))
        have f734 := (Arv.keep V623_b606 K702 (ninS (Nat.ne_of_gt lt621) nin0))
        have Y735 := X702.more (cells' := 16) (slots' := 200) (by decide) (by decide)
        have f736 := (Exa.keep f711 K702)
        have f737 := (Fld.keep (Fld.other W623 (Fld.other W622 (Fld.ext E606 (Fld.ext E593 (Fld.ext E580 FC454))) (Or.inl (Nat.ne_of_lt lt612))) (Or.inl (Nat.ne_of_lt lt612))) K702 (ninS (Nat.ne_of_lt lt599) nin0))
        have f738 := (Fld.keep (Fld.other W623 (Fld.other W622 (Fld.ext E606 (Fld.ext E593 (Fld.ext E580 FV454))) (Or.inl (Nat.ne_of_lt lt612))) (Or.inl (Nat.ne_of_lt lt612))) K702 (ninS (Nat.ne_of_lt lt599) nin0))
        have f739 := (Arv.keep f715 K702 (ninS (Nat.ne_of_lt lt603) nin0))
        have f740 := (Arv.keep f707 K702 (ninS (Nat.ne_of_lt lt595) nin0))
        have f741 := (Arv.keep f709 K702 (ninS (Nat.ne_of_lt lt597) nin0))
        exact seg0L hw (.val (.int p0)) (.val (.int p1)) (.val (.int p2)) (.val (.int p3)) (.val (.int p4)) (.val (.int (p4.toInt8.toInt32))) (.val (.ref b408)) (.val (.ref b580)) (.val (.ref b593)) a b pz b408 b387 b397 z_ SZ hz fm_ SF rf_ S1 S2 S3 t454 k_t454 k_b387 k_b397 [(p4.toInt8.toInt32), (p4.toInt8.toInt32), (p4.toInt8.toInt32), (p4.toInt8.toInt32), (p4.toInt8.toInt32), (p4.toInt8.toInt32), (p4.toInt8.toInt32), (p4.toInt8.toInt32), (p4.toInt8.toInt32)] C Y735 I730 f736 f737 f738 f739 ha hb hp f740 f741 rfl n_b387 n_b397 (Nat.ne_of_lt lt410) (arv_ne f740 f739 (Or.inl (by decide))) (Nat.ne_of_lt lt398) sf731 sf732
      · rw [e3]
        refine g_iload C X702 d0_181 rfl (g_ifn (h0_ne _) C X702 d0_183 (fun _ => ?_) (fun q => absurd q (by decide)))
        refine g_iload C X702 d0_191 rfl (g_iconst 1 C X702 d0_193 rfl (g_icmpn (hI_ne _ _) C X702 d0_194 (fun q => absurd (by decide) q) (fun _ => ?_)))
        refine g_aload C X702 d0_197 rfl rfl (g_goto C X702 d0_199 (g_astore C X702 d0_204 rfl (l' := #[.val (.int p0), .val (.int p1), .val (.int p2), .val (.int p3), .val (.int p4), .val (.int a), .val (.int b), .val (.int pz), .val (.int 1), .val (.int (p4.toInt8.toInt32)), .val (.ref b387), .val (.ref b397), .val (.ref b408), .val (.ref b580), .val (.ref b593), .val (.ref b580), .unset, .unset]) rfl ?_))
        have kp742 := (Keep.refl h454 []).ext E580
        have sz743 : h454.size ≤ b593 := by rw [g_b593]; exact kp742.1
        have kp744 := kp742.ext E593
        have sz745 : h454.size ≤ b606 := by rw [g_b606]; exact kp744.1
        have kp746 := kp744.ext E606
        have kp747 := kp746.wr W622 (Or.inr sz745)
        have kp748 := kp747.wr W623 (Or.inr sz745)
        have kp749 := kp748.trans K702 (allS (Or.inr sz743) all0)
        have I750 := Lits.keep I454 kp749 sf0
        have sf751 := Lits.safe I454 kp749 sf0 sf455
        have sf752 := Lits.safe I454 kp749 sf0 sf456
        have f753 := (Arv.keep f713 K702 (ninS (Nat.ne_of_lt lt601) nin0))
        have f754 := (Arv.keep V623_b606 K702 (ninS (Nat.ne_of_gt lt621) nin0))
        have Y755 := X702.more (cells' := 16) (slots' := 200) (by decide) (by decide)
        have f756 := (Exa.keep f717 K702)
        have f757 := (Fld.keep (Fld.other W623 (Fld.other W622 (Fld.ext E606 (Fld.ext E593 C580)) (Or.inl (Nat.ne_of_lt lt618))) (Or.inl (Nat.ne_of_lt lt618))) K702 (ninS (Nat.ne_of_lt lt604) nin0))
        have f758 := (Fld.keep (Fld.other W623 (Fld.other W622 (Fld.ext E606 (Fld.ext E593 F580)) (Or.inl (Nat.ne_of_lt lt618))) (Or.inl (Nat.ne_of_lt lt618))) K702 (ninS (Nat.ne_of_lt lt604) nin0))
        have f759 := (Arv.keep f719 K702 (ninS (Nat.ne_of_lt lt605) nin0))
        have f760 := (Arv.keep f707 K702 (ninS (Nat.ne_of_lt lt595) nin0))
        have f761 := (Arv.keep f709 K702 (ninS (Nat.ne_of_lt lt597) nin0))
        exact seg1L hw (.val (.int p0)) (.val (.int p1)) (.val (.int p2)) (.val (.int p3)) (.val (.int p4)) (.val (.int (p4.toInt8.toInt32))) (.val (.ref b408)) (.val (.ref b580)) (.val (.ref b593)) a b pz b580 b387 b397 z_ SZ hz fm_ SF rf_ S1 S2 S3 t580 k_t580 k_b387 k_b397 [(p4.toInt8.toInt32), (p4.toInt8.toInt32), (p4.toInt8.toInt32), (p4.toInt8.toInt32), (p4.toInt8.toInt32), (p4.toInt8.toInt32), (p4.toInt8.toInt32), (p4.toInt8.toInt32), (p4.toInt8.toInt32)] C Y755 I750 f756 f757 f758 f759 ha hb q459 hp f760 f761 rfl n_b387 n_b397 (Nat.ne_of_lt lt582) (Nat.ne_of_lt lt583) (Nat.ne_of_lt lt398) sf751 sf752
      · rw [e3]
        refine g_iload C X702 d0_181 rfl (g_ifn (h0_ne _) C X702 d0_183 (fun _ => ?_) (fun q => absurd q (by decide)))
        refine g_iload C X702 d0_191 rfl (g_iconst 1 C X702 d0_193 rfl (g_icmpn (hI_ne _ _) C X702 d0_194 (fun _ => ?_) (fun q => absurd q (by decide))))
        refine g_aload C X702 d0_202 rfl rfl (g_astore C X702 d0_204 rfl (l' := #[.val (.int p0), .val (.int p1), .val (.int p2), .val (.int p3), .val (.int p4), .val (.int a), .val (.int b), .val (.int pz), .val (.int 2), .val (.int (p4.toInt8.toInt32)), .val (.ref b387), .val (.ref b397), .val (.ref b408), .val (.ref b580), .val (.ref b593), .val (.ref b593), .unset, .unset]) rfl ?_)
        have kp762 := (Keep.refl h454 []).ext E580
        have sz763 : h454.size ≤ b593 := by rw [g_b593]; exact kp762.1
        have kp764 := kp762.ext E593
        have sz765 : h454.size ≤ b606 := by rw [g_b606]; exact kp764.1
        have kp766 := kp764.ext E606
        have kp767 := kp766.wr W622 (Or.inr sz765)
        have kp768 := kp767.wr W623 (Or.inr sz765)
        have kp769 := kp768.trans K702 (allS (Or.inr sz763) all0)
        have I770 := Lits.keep I454 kp769 sf0
        have sf771 := Lits.safe I454 kp769 sf0 sf455
        have sf772 := Lits.safe I454 kp769 sf0 sf456
        have f773 := (Arv.keep f713 K702 (ninS (Nat.ne_of_lt lt601) nin0))
        have f774 := (Arv.keep V623_b606 K702 (ninS (Nat.ne_of_gt lt621) nin0))
        have Y775 := X702.more (cells' := 16) (slots' := 200) (by decide) (by decide)
        have f776 := (Arv.keep f707 K702 (ninS (Nat.ne_of_lt lt595) nin0))
        have f777 := (Arv.keep f709 K702 (ninS (Nat.ne_of_lt lt597) nin0))
        exact seg2L hw (.val (.int p0)) (.val (.int p1)) (.val (.int p2)) (.val (.int p3)) (.val (.int p4)) (.val (.int (p4.toInt8.toInt32))) (.val (.ref b408)) (.val (.ref b580)) (.val (.ref b593)) a b pz b593 b387 b397 z_ SZ hz fm_ SF rf_ S1 S2 S3 t702 k_t702 k_b387 k_b397 [(p4.toInt8.toInt32), (p4.toInt8.toInt32), (p4.toInt8.toInt32), (p4.toInt8.toInt32), (p4.toInt8.toInt32), (p4.toInt8.toInt32), (p4.toInt8.toInt32), (p4.toInt8.toInt32), (p4.toInt8.toInt32)] C Y775 I770 EX702 FC702 FV702 VT702 ha hb q459 q624 hp f776 f777 rfl n_b387 n_b397 (Nat.ne_of_lt lt595) (Nat.ne_of_lt lt706) (Nat.ne_of_lt lt398) sf771 sf772
theorem comes_1 {Post : Tables → Env → Array Value → State → Outcome → State → Prop} (hpost : ∀ tb e args s v u, (limb_1_1.after args s (.returned v) u = true ∧ limb_1_2.after args s (.returned v) u = true ∧ True) → ReturnedEndW s (.returned v) u (Jvm.fieldLocs frame_1_writes args s ++ Jvm.arrayLocs frame_1_arrays args s ++ Jvm.staticLocs frame_1_statics s) 32 1216 → Post tb e args s (.returned v) u) :
    ArmFor flags0 classFile x code maxLocals ret World_1 tables_1 room_1 Calls_1 rest_1 Pre_1 Post := by
  intro l hfl _ _ p e ha hc hk s m args below hf hA hF happ hP
  obtain ⟨hcalls, hrest, hpre⟩ := hP
  obtain ⟨-, -, -, hnamed, -, -, -, hat⟩ := (Spec.applies_iff hf).mp happ
  obtain ⟨hg, hn⟩ := and_e (Cond.before_iff.mp (show (Jvm.Cond.and given_1 narrow_1).before args s = true from hpre))
  obtain ⟨hcount, hg⟩ := and_e hg
  obtain ⟨ha0, hg⟩ := and_e hg
  obtain ⟨ha1, hg⟩ := and_e hg
  obtain ⟨ha2, hg⟩ := and_e hg
  obtain ⟨ha3, hg⟩ := and_e hg
  have ha4 := hg
  obtain ⟨w0, w1, w2, w3, w4, rfl⟩ : ∃ w0 w1 w2 w3 w4 : Value, args = #[w0, w1, w2, w3, w4] := by
    have hs : args.size = 5 := by simpa [Cond.value, given_1] using hcount
    obtain ⟨L⟩ := args
    match L, hs with
    | [w0, w1, w2, w3, w4], _ => exact ⟨w0, w1, w2, w3, w4, rfl⟩
  have hw := fun d (hd : d ∈ tables_1) => atoms_spec (ws := Jvm.Cond.code x code maxLocals ret :: tables_1) hat d (List.mem_cons_of_mem _ hd)
  have hfit : Fit s := fun {y c} hc i hi => by
    obtain ⟨ha, rfl⟩ := Array.getElem?_eq_some_iff.mp hc
    have q := List.all_eq_true.mp ((Array.all_eq_true_iff_forall_mem.mp hF) _ (Array.getElem_mem ha)) i (List.mem_range.mpr hi)
    simpa [Array.getElem?_eq_getElem hi] using q
  obtain ⟨hsets, hown0⟩ := atoms_of _ (rest_1_c_eq ▸ (show rest_1_c.before _ s = true from hrest))
  have hr0 := Cond.before_iff.mp hown0
  obtain ⟨i0, ei0⟩ := is_v ha0
  obtain rfl : w0 = (.int i0) := Option.some.inj ei0
  obtain ⟨i1, ei1⟩ := is_v ha1
  obtain rfl : w1 = (.int i1) := Option.some.inj ei1
  obtain ⟨i2, ei2⟩ := is_v ha2
  obtain rfl : w2 = (.int i2) := Option.some.inj ei2
  obtain ⟨i3, ei3⟩ := is_v ha3
  obtain rfl : w3 = (.int i3) := Option.some.inj ei3
  obtain ⟨i4, ei4⟩ := is_v ha4
  obtain rfl : w4 = (.int i4) := Option.some.inj ei4
  obtain ⟨z_, vz⟩ := is_v (Cond.before_iff.mp (hsets _ (List.mem_of_getElem? (i := 1) rfl)))
  have SZ := Sta.start vz (Or.inl (hsets _ (List.mem_of_getElem? (i := 0) rfl)))
  have hz := nz_v vz (Cond.before_iff.mp (hsets _ (List.mem_of_getElem? (i := 2) rfl)))
  obtain ⟨fm_, vf, rf_⟩ := isR_v (Cond.before_iff.mp (hsets _ (List.mem_of_getElem? (i := 8) rfl)))
  have SF := Sta.start vf (Or.inl (hsets _ (List.mem_of_getElem? (i := 7) rfl)))
  have S1 := Sta.start (eqI_v (Cond.before_iff.mp (hsets _ (List.mem_of_getElem? (i := 12) rfl)))) (Or.inl (hsets _ (List.mem_of_getElem? (i := 11) rfl)))
  have S2 := Sta.start (eqI_v (Cond.before_iff.mp (hsets _ (List.mem_of_getElem? (i := 15) rfl)))) (Or.inl (hsets _ (List.mem_of_getElem? (i := 14) rfl)))
  have S3 := Sta.start (eqI_v (Cond.before_iff.mp (hsets _ (List.mem_of_getElem? (i := 18) rfl)))) (Or.inl (hsets _ (List.mem_of_getElem? (i := 17) rfl)))
  have hCH : CHv s consts_1 s.vm s.heap := CHv.start (own_EW hw) (fun q hq => hcalls.1 q hq) (hsets _ (List.mem_of_getElem? (i := 2) rfl)) (wd hw 2 rfl) (wd hw 4 rfl)
  obtain ⟨n, o, h1, h2, h3, _, L, rfl, ⟨N, _, rfl⟩, -, hq⟩ := rm0 l (Z := s) hw ⟨Nat.le_refl _, fun _ _ q => q⟩ i0 i1 i2 i3 i4 z_ SZ hz fm_ SF rf_ S1 S2 S3 p e ha hc hk s m _ below hf ((Spec.applies_iff_loose hf).mp happ).1 ⟨rfl, State.Warmed39.refl s, rfl, hCH, sf0⟩ trivial
  exact ⟨n, _, h1, h2, h3, hpost _ _ _ _ _ _ ⟨Cond.after_iff.mpr rfl, Cond.after_iff.mpr (eq_i res_at (Term.int_eval (1)) rfl), trivial⟩ ⟨hq.1, hq.2.1, hq.2.2.1, (hq.2.2.2.sift fun y hy => Or.inr (N y hy)).mono (by decide) (by decide)⟩⟩
theorem main_1_1 : Claimed_1_1 := comes_1 fun _ _ _ _ _ _ h hF => ⟨h.1, hF⟩
theorem main_1_2 : Claimed_1_2 := comes_1 fun _ _ _ _ _ _ h hF => ⟨h.2.1, hF⟩
end Jvm.Pilot.@@N@@
namespace Jvm.Pilot.@@N@@
open Jvm Jvm.ClassFile Sem Op Lib Jvm.Free Jvm.Stand Jvm.Pilot.@@N@@.Jvm.D
/-! MADE BY PROGRAM (witnessworld.py) out of the Statement's table words and the real class files: 20 classes; the members and pool entries that the words name. The judged class is class 1, her method 2. -/
namespace start1
open Jvm.ClassFile
def u (s : String) : CpInfo := .utf8 (stringToUtf16 s)
/-- a pool by its gaps: so many unusable entries, then the entry; so many at the end -/
def gap : Nat → List CpInfo → List CpInfo
  | 0, r => r
  | n + 1, r => .unusable :: gap n r
def poolList (es : List (Nat × CpInfo)) (last : Nat) : List CpInfo := es.foldr (fun e r => gap e.1 (e.2 :: r)) (gap last [])
def pool (es : List (Nat × CpInfo)) (last : Nat) : Array CpInfo := ⟨poolList es last⟩
def fileOf (pool : Array CpInfo) (this : Nat) (attrs : Array Attribute := #[]) (ms : Array MethodInfo := #[]) (fl : Nat := 33) (sup : Nat := 0) (ifs : Array Nat := #[]) (fds : Array FieldInfo := #[]) : ClassFile where
  minorVersion := 0
  majorVersion := 65
  constantPool := pool
  accessFlags := fl
  thisClass := this
  superClass := sup
  interfaces := ifs
  fields := fds
  methods := ms
  attributes := attrs
def plain (name : String) (sup : Option ClassId) : Class where
  name := name
  kind := .ordinary
  loader := none
  accessFlags := 33
  super := sup
  interfaces := #[]
  cf := none
  fields := #[]
  methods := #[]
  instanceTypes := #[]
  staticTypes := #[]
  resolved := #[]
  callSites := []
  init := .initialized
  statics := none
  mirror := none

def pool0 : Array CpInfo := pool [(5, u "<init>"), (0, u "()V"), (1, .class_ 10), (1, u "java/lang/Object")] 113

def k0c0 : Code := { maxStack := 0, maxLocals := 1, code := object_method_1_code, exceptionTable := #[], attributes := #[] }
def k0m0 : Method := { name := "<init>", desc := "()V", sig := { parameters := [], returnType := none }, accessFlags := 1, code := some k0c0 }
/-- java/lang/Object -/
def k0 : Class := { plain "java/lang/Object" none with
  accessFlags := 33
  interfaces := #[]
  cf := some (fileOf pool0 8 #[] #[{ accessFlags := 1, nameIndex := 5, descriptorIndex := 6, attributes := #[] }] 33 0 #[] #[])
  fields := #[]
  methods := #[k0m0]
  instanceTypes := #[]
  staticTypes := #[]
  resolved := Array.replicate 124 none
  statics := none }

def pool1 : Array CpInfo := pool [(2, .class_ 4), (1, u "java/lang/Object"), (0, u "<init>"), (0, u "()V"), (0, .integer 65535), (0, .integer 2147483647), (0, .class_ 10), (0, u "java/lang/String"), (0, .methodref 9 12), (0, .nameAndType 5 13), (0, u "([C)V"), (0, .methodref 9 15), (0, .nameAndType 16 17), (0, u "valueOf"), (0, u "(C)Ljava/lang/String;"), (0, .methodref 19 20), (0, .class_ 21), (0, .nameAndType 22 23), (0, u "com/example/chapeau/chapeau/link/PackedStrings"), (0, u "encode"), (0, u "(Ljava/lang/CharSequence;[BI)I"), (0, .methodref 25 26), (0, .class_ 27), (0, .nameAndType 28 29), (0, u "com/example/chapeau/chapeau/link/PackedStringsEncodePinLaw"), (0, u "put"), (0, u "(I[BI)I"), (3, u "law"), (0, u "(IIIII)Z")] 6

def k1m0 : Method := { name := "<init>", desc := "()V", sig := { parameters := [], returnType := none }, accessFlags := 1, code := none }
def k1c1 : Code := { maxStack := 5, maxLocals := 3, code := method_2_code, exceptionTable := #[], attributes := #[] }
def k1m1 : Method := { name := "put", desc := "(I[BI)I", sig := { parameters := [.int, (.array .byte), .int], returnType := some .int }, accessFlags := 10, code := some k1c1 }
def k1c2 : Code := { maxStack := 6, maxLocals := 18, code := code, exceptionTable := #[], attributes := #[] }
def k1m2 : Method := { name := "law", desc := "(IIIII)Z", sig := { parameters := [.int, .int, .int, .int, .int], returnType := some .boolean }, accessFlags := 9, code := some k1c2 }
/-- com/example/chapeau/chapeau/link/PackedStringsEncodePinLaw -/
def k1 : Class := { plain "com/example/chapeau/chapeau/link/PackedStringsEncodePinLaw" (some 0) with
  accessFlags := 49
  interfaces := #[]
  cf := some (fileOf pool1 25 #[] #[{ accessFlags := 1, nameIndex := 5, descriptorIndex := 6, attributes := #[] }, { accessFlags := 10, nameIndex := 28, descriptorIndex := 29, attributes := #[] }, { accessFlags := 9, nameIndex := 33, descriptorIndex := 34, attributes := #[] }] 49 2 #[] #[])
  fields := #[]
  methods := #[k1m0, k1m1, k1m2]
  instanceTypes := #[]
  staticTypes := #[]
  resolved := Array.replicate 41 none
  statics := none }

def pool2 : Array CpInfo := pool [(1, .class_ 2), (0, u "java/io/Serializable"), (0, .class_ 4), (0, u "java/lang/Object")] 2

/-- java/io/Serializable -/
def k2 : Class := { plain "java/io/Serializable" (some 0) with
  accessFlags := 1537
  interfaces := #[]
  cf := some (fileOf pool2 1 #[] #[] 1537 3 #[] #[])
  fields := #[]
  methods := #[]
  instanceTypes := #[]
  staticTypes := #[]
  resolved := Array.replicate 7 none
  statics := none }

def pool3 : Array CpInfo := pool [(1, .class_ 2), (0, u "java/lang/Comparable"), (0, .class_ 4), (0, u "java/lang/Object")] 7

/-- java/lang/Comparable -/
def k3 : Class := { plain "java/lang/Comparable" (some 0) with
  accessFlags := 1537
  interfaces := #[]
  cf := some (fileOf pool3 1 #[] #[] 1537 3 #[] #[])
  fields := #[]
  methods := #[]
  instanceTypes := #[]
  staticTypes := #[]
  resolved := Array.replicate 12 none
  statics := none }

def pool4 : Array CpInfo := pool [(2, .class_ 4), (1, u "java/lang/CharSequence"), (0, u "length"), (0, u "()I"), (38, u "charAt"), (0, u "(I)C"), (0, .class_ 48), (0, u "java/lang/CharSequence$1CodePointIterator"), (10, .class_ 60), (0, u "java/lang/CharSequence$1CharIterator"), (5, .class_ 67), (0, u "java/lang/Object")] 63

def k4m0 : Method := { name := "length", desc := "()I", sig := { parameters := [], returnType := some .int }, accessFlags := 1025, code := none }
def k4m1 : Method := { name := "charAt", desc := "(I)C", sig := { parameters := [.int], returnType := some .char }, accessFlags := 1025, code := none }
/-- java/lang/CharSequence -/
def k4 : Class := { plain "java/lang/CharSequence" (some 0) with
  accessFlags := 1537
  interfaces := #[]
  cf := some (fileOf pool4 2 #[.nestMembers #[47, 59]] #[{ accessFlags := 1025, nameIndex := 5, descriptorIndex := 6, attributes := #[] }, { accessFlags := 1025, nameIndex := 45, descriptorIndex := 46, attributes := #[] }] 1537 66 #[] #[])
  fields := #[]
  methods := #[k4m0, k4m1]
  instanceTypes := #[]
  staticTypes := #[]
  resolved := Array.replicate 131 none
  statics := none }

def pool5 : Array CpInfo := pool [(1, .class_ 2), (0, u "java/lang/constant/Constable"), (0, .class_ 4), (0, u "java/lang/Object")] 6

/-- java/lang/constant/Constable -/
def k5 : Class := { plain "java/lang/constant/Constable" (some 0) with
  accessFlags := 1537
  interfaces := #[]
  cf := some (fileOf pool5 1 #[] #[] 1537 3 #[] #[])
  fields := #[]
  methods := #[]
  instanceTypes := #[]
  staticTypes := #[]
  resolved := Array.replicate 11 none
  statics := none }

def pool6 : Array CpInfo := pool [(1, .class_ 2), (0, u "java/lang/constant/ConstantDesc"), (0, .class_ 4), (0, u "java/lang/Object")] 32

/-- java/lang/constant/ConstantDesc -/
def k6 : Class := { plain "java/lang/constant/ConstantDesc" (some 0) with
  accessFlags := 1537
  interfaces := #[]
  cf := some (fileOf pool6 1 #[] #[] 1537 3 #[] #[])
  fields := #[]
  methods := #[]
  instanceTypes := #[]
  staticTypes := #[]
  resolved := Array.replicate 37 none
  statics := none }

def pool7 : Array CpInfo := pool [(1, .methodref 2 3), (0, .class_ 4), (0, .nameAndType 5 6), (0, u "java/lang/Object"), (0, u "<init>"), (0, u "()V"), (0, .string 8), (0, u ""), (0, .fieldref 10 11), (0, .class_ 12), (0, .nameAndType 13 14), (0, u "java/lang/String"), (0, u "value"), (0, u "[B"), (0, .fieldref 10 16), (0, .nameAndType 17 18), (0, u "coder"), (0, u "B"), (2, u "hash"), (0, u "I"), (2, u "hashIsZero"), (0, u "Z"), (0, .methodref 10 28), (0, .nameAndType 5 29), (0, u "([CIILjava/lang/Void;)V"), (8, .fieldref 10 39), (0, .nameAndType 40 26), (0, u "COMPACT_STRINGS"), (1, .class_ 44), (1, u "java/lang/StringUTF16"), (0, u "compress"), (1, .methodref 42 48), (0, .nameAndType 49 50), (0, u "coderFromArrayLen"), (0, u "([BI)B"), (2, u "toBytes"), (53, .class_ 109), (1, u "java/lang/StringLatin1"), (32, u "()Z"), (34, .methodref 42 178), (0, .nameAndType 45 179), (0, u "([CII)[B"), (29, .methodref 10 210), (0, .nameAndType 5 211), (0, u "([BB)V"), (122, u "()I"), (0, .methodref 10 336), (0, .nameAndType 17 337), (0, u "()B"), (25, u "([BI)C"), (5, u "(C)Z"), (21, u "(II)V"), (35, u "(I)C"), (64, .methodref 10 493), (0, .nameAndType 494 142), (0, u "isLatin1"), (0, .methodref 107 496), (0, .nameAndType 497 363), (0, u "charAt"), (0, .methodref 42 496), (2, u "checkIndex"), (5, u "length"), (67, .class_ 576), (0, u "java/lang/CharSequence"), (22, u "CASE_INSENSITIVE_ORDER"), (0, u "Ljava/util/Comparator;"), (181, u "valueOf"), (0, u "(C)Ljava/lang/String;"), (226, u "([C)V"), (4, .methodref 107 1016), (0, .nameAndType 1017 369), (0, u "canEncode"), (0, .methodref 107 1019), (0, .nameAndType 53 1020), (0, u "(C)[B"), (0, .methodref 42 1019), (31, .fieldref 1054 1055), (0, .class_ 1056), (0, .nameAndType 1057 1058), (0, u "jdk/internal/util/Preconditions"), (0, u "SIOOBE_FORMATTER"), (0, u "Ljava/util/function/BiFunction;"), (0, .methodref 1054 1060), (0, .nameAndType 501 1061), (0, u "(IILjava/util/function/BiFunction;)I"), (39, u "serialPersistentFields"), (0, u "[Ljava/io/ObjectStreamField;"), (0, .class_ 1104), (0, u "java/lang/String$CaseInsensitiveComparator"), (1, .class_ 1107), (0, u "java/io/Serializable"), (0, .class_ 1109), (0, u "java/lang/Comparable"), (0, .class_ 1111), (0, u "java/lang/constant/Constable"), (0, .class_ 1113), (0, u "java/lang/constant/ConstantDesc"), (2, u "serialVersionUID"), (0, u "J"), (3, u "REPL"), (0, u "C"), (2, u "LATIN1"), (1, u "UTF16")] 323

def k7m0 : Method := { name := "<init>", desc := "()V", sig := { parameters := [], returnType := none }, accessFlags := 1, code := none }
def k7c1 : Code := { maxStack := 5, maxLocals := 2, code := jdk_42_method_3_code, exceptionTable := #[], attributes := #[] }
def k7m1 : Method := { name := "<init>", desc := "([C)V", sig := { parameters := [(.array .char)], returnType := none }, accessFlags := 1, code := some k7c1 }
def k7c2 : Code := { maxStack := 2, maxLocals := 1, code := jdk_42_method_54_code, exceptionTable := #[], attributes := #[] }
def k7m2 : Method := { name := "length", desc := "()I", sig := { parameters := [], returnType := some .int }, accessFlags := 1, code := some k7c2 }
def k7c3 : Code := { maxStack := 2, maxLocals := 2, code := jdk_42_method_56_code, exceptionTable := #[], attributes := #[] }
def k7m3 : Method := { name := "charAt", desc := "(I)C", sig := { parameters := [.int], returnType := some .char }, accessFlags := 1, code := some k7c3 }
def k7c4 : Code := { maxStack := 4, maxLocals := 1, code := jdk_42_method_139_code, exceptionTable := #[], attributes := #[] }
def k7m4 : Method := { name := "valueOf", desc := "(C)Ljava/lang/String;", sig := { parameters := [.char], returnType := some (.object "java/lang/String") }, accessFlags := 9, code := some k7c4 }
def k7c5 : Code := { maxStack := 4, maxLocals := 6, code := jdk_42_method_149_code, exceptionTable := #[], attributes := #[] }
def k7m5 : Method := { name := "<init>", desc := "([CIILjava/lang/Void;)V", sig := { parameters := [(.array .char), .int, .int, (.object "java/lang/Void")], returnType := none }, accessFlags := 2, code := some k7c5 }
def k7c6 : Code := { maxStack := 2, maxLocals := 3, code := jdk_42_method_151_code, exceptionTable := #[], attributes := #[] }
def k7m6 : Method := { name := "<init>", desc := "([BB)V", sig := { parameters := [(.array .byte), .byte], returnType := none }, accessFlags := 0, code := some k7c6 }
def k7c7 : Code := { maxStack := 1, maxLocals := 1, code := jdk_42_method_152_code, exceptionTable := #[], attributes := #[] }
def k7m7 : Method := { name := "coder", desc := "()B", sig := { parameters := [], returnType := some .byte }, accessFlags := 0, code := some k7c7 }
def k7c8 : Code := { maxStack := 1, maxLocals := 1, code := jdk_42_method_154_code, exceptionTable := #[], attributes := #[] }
def k7m8 : Method := { name := "isLatin1", desc := "()Z", sig := { parameters := [], returnType := some .boolean }, accessFlags := 0, code := some k7c8 }
def k7c9 : Code := { maxStack := 3, maxLocals := 2, code := jdk_42_method_155_code, exceptionTable := #[], attributes := #[] }
def k7m9 : Method := { name := "checkIndex", desc := "(II)V", sig := { parameters := [.int, .int], returnType := none }, accessFlags := 8, code := some k7c9 }
/-- java/lang/String -/
def k7 : Class := { plain "java/lang/String" (some 0) with
  accessFlags := 49
  interfaces := #[2, 3, 4, 5, 6]
  cf := some (fileOf pool7 10 #[.nestMembers #[1103]] #[{ accessFlags := 1, nameIndex := 5, descriptorIndex := 6, attributes := #[] }, { accessFlags := 1, nameIndex := 5, descriptorIndex := 1010, attributes := #[] }, { accessFlags := 1, nameIndex := 507, descriptorIndex := 334, attributes := #[] }, { accessFlags := 1, nameIndex := 497, descriptorIndex := 427, attributes := #[] }, { accessFlags := 9, nameIndex := 782, descriptorIndex := 783, attributes := #[] }, { accessFlags := 2, nameIndex := 5, descriptorIndex := 29, attributes := #[] }, { accessFlags := 0, nameIndex := 5, descriptorIndex := 211, attributes := #[] }, { accessFlags := 0, nameIndex := 17, descriptorIndex := 337, attributes := #[] }, { accessFlags := 0, nameIndex := 494, descriptorIndex := 142, attributes := #[] }, { accessFlags := 8, nameIndex := 501, descriptorIndex := 391, attributes := #[] }] 49 2 #[1106, 1108, 575, 1110, 1112] #[{ accessFlags := 18, nameIndex := 13, descriptorIndex := 14, attributes := #[] }, { accessFlags := 18, nameIndex := 17, descriptorIndex := 18, attributes := #[] }, { accessFlags := 2, nameIndex := 21, descriptorIndex := 22, attributes := #[] }, { accessFlags := 2, nameIndex := 25, descriptorIndex := 26, attributes := #[] }, { accessFlags := 26, nameIndex := 1116, descriptorIndex := 1117, attributes := #[] }, { accessFlags := 24, nameIndex := 40, descriptorIndex := 26, attributes := #[] }, { accessFlags := 26, nameIndex := 1101, descriptorIndex := 1102, attributes := #[] }, { accessFlags := 26, nameIndex := 1121, descriptorIndex := 1122, attributes := #[] }, { accessFlags := 25, nameIndex := 599, descriptorIndex := 600, attributes := #[] }, { accessFlags := 24, nameIndex := 1125, descriptorIndex := 18, attributes := #[] }, { accessFlags := 24, nameIndex := 1127, descriptorIndex := 18, attributes := #[] }])
  fields := #[{ name := "value", type := (.array .byte), accessFlags := 18, slot := 0, constantValue := 0 }, { name := "coder", type := .byte, accessFlags := 18, slot := 1, constantValue := 0 }, { name := "hash", type := .int, accessFlags := 2, slot := 2, constantValue := 0 }, { name := "hashIsZero", type := .boolean, accessFlags := 2, slot := 3, constantValue := 0 }, { name := "serialVersionUID", type := .long, accessFlags := 26, slot := 0, constantValue := 0 }, { name := "COMPACT_STRINGS", type := .boolean, accessFlags := 24, slot := 1, constantValue := 0 }, { name := "serialPersistentFields", type := (.array (.object "java/io/ObjectStreamField")), accessFlags := 26, slot := 2, constantValue := 0 }, { name := "REPL", type := .char, accessFlags := 26, slot := 3, constantValue := 0 }, { name := "CASE_INSENSITIVE_ORDER", type := (.object "java/util/Comparator"), accessFlags := 25, slot := 4, constantValue := 0 }, { name := "LATIN1", type := .byte, accessFlags := 24, slot := 5, constantValue := 0 }, { name := "UTF16", type := .byte, accessFlags := 24, slot := 6, constantValue := 0 }]
  methods := #[k7m0, k7m1, k7m2, k7m3, k7m4, k7m5, k7m6, k7m7, k7m8, k7m9]
  instanceTypes := #[(.array .byte), .byte, .int, .boolean]
  staticTypes := #[.long, .boolean, (.array (.object "java/io/ObjectStreamField")), .char, (.object "java/util/Comparator"), .byte, .byte]
  resolved := Array.replicate 1451 none
  statics := some 0 }

def pool8 : Array CpInfo := pool [(1, .class_ 2), (0, u "java/lang/String"), (1, .class_ 6), (1, u "java/lang/Object"), (0, u "<init>"), (0, u "()V"), (0, .methodref 1 10), (0, .nameAndType 11 12), (0, u "checkIndex"), (0, u "(II)V"), (1, .class_ 16), (1, u "java/lang/StringLatin1"), (36, u "([BI)C"), (36, u "canEncode"), (14, u "(C)Z"), (15, u "$assertionsDisabled"), (0, u "Z"), (98, .class_ 223), (1, u "java/lang/StringLatin1$LinesSpliterator"), (28, u "charAt"), (127, u "toBytes"), (1, u "(C)[B"), (7, .class_ 391), (0, u "java/lang/StringLatin1$CharsSpliterator")] 3

def k8m0 : Method := { name := "<init>", desc := "()V", sig := { parameters := [], returnType := none }, accessFlags := 0, code := none }
def k8c1 : Code := { maxStack := 2, maxLocals := 2, code := jdk_43_method_2_code, exceptionTable := #[], attributes := #[] }
def k8m1 : Method := { name := "charAt", desc := "([BI)C", sig := { parameters := [(.array .byte), .int], returnType := some .char }, accessFlags := 9, code := some k8c1 }
def k8c2 : Code := { maxStack := 2, maxLocals := 1, code := jdk_43_method_3_code, exceptionTable := #[], attributes := #[] }
def k8m2 : Method := { name := "canEncode", desc := "(C)Z", sig := { parameters := [.char], returnType := some .boolean }, accessFlags := 9, code := some k8c2 }
def k8c3 : Code := { maxStack := 4, maxLocals := 1, code := jdk_43_method_46_code, exceptionTable := #[], attributes := #[] }
def k8m3 : Method := { name := "toBytes", desc := "(C)[B", sig := { parameters := [.char], returnType := some (.array .byte) }, accessFlags := 9, code := some k8c3 }
/-- java/lang/StringLatin1 -/
def k8 : Class := { plain "java/lang/StringLatin1" (some 0) with
  accessFlags := 48
  interfaces := #[]
  cf := some (fileOf pool8 14 #[.nestMembers #[390, 221]] #[{ accessFlags := 0, nameIndex := 7, descriptorIndex := 8, attributes := #[] }, { accessFlags := 9, nameIndex := 252, descriptorIndex := 53, attributes := #[] }, { accessFlags := 9, nameIndex := 90, descriptorIndex := 105, attributes := #[] }, { accessFlags := 9, nameIndex := 380, descriptorIndex := 382, attributes := #[] }] 48 4 #[] #[{ accessFlags := 4120, nameIndex := 121, descriptorIndex := 122, attributes := #[] }])
  fields := #[{ name := "$assertionsDisabled", type := .boolean, accessFlags := 4120, slot := 0, constantValue := 0 }]
  methods := #[k8m0, k8m1, k8m2, k8m3]
  instanceTypes := #[]
  staticTypes := #[.boolean]
  resolved := Array.replicate 395 none
  statics := none }

def pool9 : Array CpInfo := pool [(3, .class_ 4), (0, u "java/lang/String"), (1, .class_ 8), (1, u "java/lang/Object"), (0, u "<init>"), (0, u "()V"), (0, .methodref 12 13), (0, .class_ 14), (0, .nameAndType 15 16), (0, u "java/lang/StringUTF16"), (0, u "newBytesLength"), (0, u "(I)I"), (3, .integer 1073741823), (23, .fieldref 12 45), (0, .nameAndType 46 47), (0, u "$assertionsDisabled"), (0, u "Z"), (0, .methodref 12 49), (0, .nameAndType 50 51), (0, u "length"), (0, u "([B)I"), (7, .fieldref 12 60), (0, .nameAndType 61 62), (0, u "HI_BYTE_SHIFT"), (0, u "I"), (0, .fieldref 12 64), (0, .nameAndType 65 62), (0, u "LO_BYTE_SHIFT"), (1, .methodref 12 68), (0, .nameAndType 69 70), (0, u "checkIndex"), (0, u "(I[B)V"), (0, .methodref 12 72), (0, .nameAndType 73 74), (0, u "getChar"), (0, u "([BI)C"), (32, .methodref 12 108), (0, .nameAndType 109 110), (0, u "newBytesFor"), (0, u "(I)[B"), (0, .methodref 12 112), (0, .nameAndType 113 114), (0, u "putChar"), (0, u "([BII)V"), (0, .methodref 12 116), (0, .nameAndType 117 118), (0, u "compress"), (0, u "([CI[BII)I"), (0, .methodref 12 120), (0, .nameAndType 121 122), (0, u "toBytes"), (0, u "([CII)[B"), (138, u "coderFromArrayLen"), (0, u "([BI)B"), (106, .class_ 371), (1, u "java/lang/StringUTF16$LinesSpliterator"), (20, u "charAt"), (21, .methodref 3 415), (0, .nameAndType 69 416), (0, u "(II)V"), (13, u "MAX_LENGTH"), (44, u "(C)[B"), (151, .class_ 628), (0, u "java/lang/StringUTF16$CodePointsSpliterator"), (0, .class_ 630), (0, u "java/lang/StringUTF16$CharsSpliterator")] 4

def k9m0 : Method := { name := "<init>", desc := "()V", sig := { parameters := [], returnType := none }, accessFlags := 0, code := none }
def k9c1 : Code := { maxStack := 1, maxLocals := 1, code := jdk_52_method_2_code, exceptionTable := #[], attributes := #[] }
def k9m1 : Method := { name := "newBytesFor", desc := "(I)[B", sig := { parameters := [.int], returnType := some (.array .byte) }, accessFlags := 9, code := some k9c1 }
def k9c2 : Code := { maxStack := 4, maxLocals := 1, code := jdk_52_method_3_code, exceptionTable := #[], attributes := #[] }
def k9m2 : Method := { name := "newBytesLength", desc := "(I)I", sig := { parameters := [.int], returnType := some .int }, accessFlags := 9, code := some k9c2 }
def k9c3 : Code := { maxStack := 4, maxLocals := 3, code := jdk_52_method_4_code, exceptionTable := #[], attributes := #[] }
def k9m3 : Method := { name := "putChar", desc := "([BII)V", sig := { parameters := [(.array .byte), .int, .int], returnType := none }, accessFlags := 8, code := some k9c3 }
def k9c4 : Code := { maxStack := 3, maxLocals := 2, code := jdk_52_method_5_code, exceptionTable := #[], attributes := #[] }
def k9m4 : Method := { name := "getChar", desc := "([BI)C", sig := { parameters := [(.array .byte), .int], returnType := some .char }, accessFlags := 8, code := some k9c4 }
def k9c5 : Code := { maxStack := 2, maxLocals := 1, code := jdk_52_method_6_code, exceptionTable := #[], attributes := #[] }
def k9m5 : Method := { name := "length", desc := "([B)I", sig := { parameters := [(.array .byte)], returnType := some .int }, accessFlags := 9, code := some k9c5 }
def k9c6 : Code := { maxStack := 4, maxLocals := 5, code := jdk_52_method_14_code, exceptionTable := #[], attributes := #[] }
def k9m6 : Method := { name := "toBytes", desc := "([CII)[B", sig := { parameters := [(.array .char), .int, .int], returnType := some (.array .byte) }, accessFlags := 9, code := some k9c6 }
def k9c7 : Code := { maxStack := 2, maxLocals := 2, code := jdk_52_method_15_code, exceptionTable := #[], attributes := #[] }
def k9m7 : Method := { name := "coderFromArrayLen", desc := "([BI)B", sig := { parameters := [(.array .byte), .int], returnType := some .byte }, accessFlags := 8, code := some k9c7 }
def k9c8 : Code := { maxStack := 5, maxLocals := 6, code := jdk_52_method_16_code, exceptionTable := #[], attributes := #[] }
def k9m8 : Method := { name := "compress", desc := "([CII)[B", sig := { parameters := [(.array .char), .int, .int], returnType := some (.array .byte) }, accessFlags := 9, code := some k9c8 }
def k9c9 : Code := { maxStack := 3, maxLocals := 7, code := jdk_52_method_21_code, exceptionTable := #[], attributes := #[] }
def k9m9 : Method := { name := "compress", desc := "([CI[BII)I", sig := { parameters := [(.array .char), .int, (.array .byte), .int, .int], returnType := some .int }, accessFlags := 9, code := some k9c9 }
def k9c10 : Code := { maxStack := 3, maxLocals := 2, code := jdk_52_method_24_code, exceptionTable := #[], attributes := #[] }
def k9m10 : Method := { name := "toBytes", desc := "(C)[B", sig := { parameters := [.char], returnType := some (.array .byte) }, accessFlags := 9, code := some k9c10 }
def k9c11 : Code := { maxStack := 2, maxLocals := 2, code := jdk_52_method_83_code, exceptionTable := #[], attributes := #[] }
def k9m11 : Method := { name := "charAt", desc := "([BI)C", sig := { parameters := [(.array .byte), .int], returnType := some .char }, accessFlags := 9, code := some k9c11 }
def k9c12 : Code := { maxStack := 2, maxLocals := 2, code := jdk_52_method_91_code, exceptionTable := #[], attributes := #[] }
def k9m12 : Method := { name := "checkIndex", desc := "(I[B)V", sig := { parameters := [.int, (.array .byte)], returnType := none }, accessFlags := 9, code := some k9c12 }
/-- java/lang/StringUTF16 -/
def k9 : Class := { plain "java/lang/StringUTF16" (some 0) with
  accessFlags := 48
  interfaces := #[]
  cf := some (fileOf pool9 12 #[.nestMembers #[627, 629, 369]] #[{ accessFlags := 0, nameIndex := 9, descriptorIndex := 10, attributes := #[] }, { accessFlags := 9, nameIndex := 109, descriptorIndex := 110, attributes := #[] }, { accessFlags := 9, nameIndex := 15, descriptorIndex := 16, attributes := #[] }, { accessFlags := 8, nameIndex := 113, descriptorIndex := 114, attributes := #[] }, { accessFlags := 8, nameIndex := 73, descriptorIndex := 74, attributes := #[] }, { accessFlags := 9, nameIndex := 50, descriptorIndex := 51, attributes := #[] }, { accessFlags := 9, nameIndex := 121, descriptorIndex := 122, attributes := #[] }, { accessFlags := 8, nameIndex := 261, descriptorIndex := 262, attributes := #[] }, { accessFlags := 9, nameIndex := 117, descriptorIndex := 122, attributes := #[] }, { accessFlags := 9, nameIndex := 117, descriptorIndex := 118, attributes := #[] }, { accessFlags := 9, nameIndex := 121, descriptorIndex := 475, attributes := #[] }, { accessFlags := 9, nameIndex := 392, descriptorIndex := 74, attributes := #[] }, { accessFlags := 9, nameIndex := 69, descriptorIndex := 70, attributes := #[] }] 48 6 #[] #[{ accessFlags := 26, nameIndex := 61, descriptorIndex := 62, attributes := #[] }, { accessFlags := 26, nameIndex := 65, descriptorIndex := 62, attributes := #[] }, { accessFlags := 24, nameIndex := 430, descriptorIndex := 62, attributes := #[] }, { accessFlags := 4120, nameIndex := 46, descriptorIndex := 47, attributes := #[] }])
  fields := #[{ name := "HI_BYTE_SHIFT", type := .int, accessFlags := 26, slot := 0, constantValue := 0 }, { name := "LO_BYTE_SHIFT", type := .int, accessFlags := 26, slot := 1, constantValue := 0 }, { name := "MAX_LENGTH", type := .int, accessFlags := 24, slot := 2, constantValue := 0 }, { name := "$assertionsDisabled", type := .boolean, accessFlags := 4120, slot := 3, constantValue := 0 }]
  methods := #[k9m0, k9m1, k9m2, k9m3, k9m4, k9m5, k9m6, k9m7, k9m8, k9m9, k9m10, k9m11, k9m12]
  instanceTypes := #[]
  staticTypes := #[.int, .int, .int, .boolean]
  resolved := Array.replicate 635 none
  statics := some 1 }

def pool10 : Array CpInfo := pool [(2, .class_ 4), (1, u "java/lang/Object"), (0, u "<init>"), (0, u "()V"), (3, .class_ 12), (1, u "com/example/chapeau/chapeau/link/PackedStrings"), (0, u "blocks"), (0, u "[[B"), (5, u "blockOf"), (0, u "Lcom/example/chapeau/chapeau/link/IntColumn;"), (2, u "starts"), (3, u "()I"), (10, u "used"), (0, u "I"), (6, u "encode"), (0, u "(Ljava/lang/CharSequence;[BI)I"), (8, u "length"), (20, .interfaceMethodref 79 80), (0, .class_ 81), (0, .nameAndType 57 28), (0, u "java/lang/CharSequence"), (0, .interfaceMethodref 79 83), (0, .nameAndType 84 85), (0, u "charAt"), (0, u "(I)C"), (0, .methodref 10 87), (0, .nameAndType 47 88), (0, u "(C[BI)I"), (16, u "blockCount"), (23, u "FIRST_BLOCK"), (1, u "LARGEST_BLOCK")] 13

def k10m0 : Method := { name := "<init>", desc := "()V", sig := { parameters := [], returnType := none }, accessFlags := 0, code := none }
def k10c1 : Code := { maxStack := 3, maxLocals := 4, code := prog_74_method_10_code, exceptionTable := #[], attributes := #[] }
def k10m1 : Method := { name := "encode", desc := "(Ljava/lang/CharSequence;[BI)I", sig := { parameters := [(.object "java/lang/CharSequence"), (.array .byte), .int], returnType := some .int }, accessFlags := 8, code := some k10c1 }
def k10c2 : Code := { maxStack := 5, maxLocals := 3, code := prog_74_method_11_code, exceptionTable := #[], attributes := #[] }
def k10m2 : Method := { name := "encode", desc := "(C[BI)I", sig := { parameters := [.char, (.array .byte), .int], returnType := some .int }, accessFlags := 8, code := some k10c2 }
/-- com/example/chapeau/chapeau/link/PackedStrings -/
def k10 : Class := { plain "com/example/chapeau/chapeau/link/PackedStrings" (some 0) with
  accessFlags := 48
  interfaces := #[]
  cf := some (fileOf pool10 10 #[] #[{ accessFlags := 0, nameIndex := 5, descriptorIndex := 6, attributes := #[] }, { accessFlags := 8, nameIndex := 47, descriptorIndex := 48, attributes := #[] }, { accessFlags := 8, nameIndex := 47, descriptorIndex := 88, attributes := #[] }] 48 2 #[] #[{ accessFlags := 26, nameIndex := 129, descriptorIndex := 40, attributes := #[] }, { accessFlags := 26, nameIndex := 131, descriptorIndex := 40, attributes := #[] }, { accessFlags := 2, nameIndex := 13, descriptorIndex := 14, attributes := #[] }, { accessFlags := 2, nameIndex := 105, descriptorIndex := 40, attributes := #[] }, { accessFlags := 2, nameIndex := 39, descriptorIndex := 40, attributes := #[] }, { accessFlags := 18, nameIndex := 20, descriptorIndex := 21, attributes := #[] }, { accessFlags := 18, nameIndex := 24, descriptorIndex := 21, attributes := #[] }])
  fields := #[{ name := "FIRST_BLOCK", type := .int, accessFlags := 26, slot := 0, constantValue := 0 }, { name := "LARGEST_BLOCK", type := .int, accessFlags := 26, slot := 1, constantValue := 0 }, { name := "blocks", type := (.array (.array .byte)), accessFlags := 2, slot := 0, constantValue := 0 }, { name := "blockCount", type := .int, accessFlags := 2, slot := 1, constantValue := 0 }, { name := "used", type := .int, accessFlags := 2, slot := 2, constantValue := 0 }, { name := "blockOf", type := (.object "com/example/chapeau/chapeau/link/IntColumn"), accessFlags := 18, slot := 3, constantValue := 0 }, { name := "starts", type := (.object "com/example/chapeau/chapeau/link/IntColumn"), accessFlags := 18, slot := 4, constantValue := 0 }]
  methods := #[k10m0, k10m1, k10m2]
  instanceTypes := #[(.array (.array .byte)), .int, .int, (.object "com/example/chapeau/chapeau/link/IntColumn"), (.object "com/example/chapeau/chapeau/link/IntColumn")]
  staticTypes := #[.int, .int]
  resolved := Array.replicate 145 none
  statics := none }

def pool11 : Array CpInfo := pool [(2, .class_ 4), (1, u "java/lang/Object"), (0, u "<init>"), (0, u "()V"), (17, .class_ 26), (1, u "jdk/internal/util/Preconditions"), (6, u "checkIndex"), (21, .class_ 56), (0, u "jdk/internal/util/Preconditions$4"), (57, .class_ 115), (0, u "jdk/internal/util/Preconditions$1"), (7, u "SIOOBE_FORMATTER"), (0, u "Ljava/util/function/BiFunction;"), (0, .class_ 126), (0, u "jdk/internal/util/Preconditions$2"), (3, u "AIOOBE_FORMATTER"), (0, .class_ 132), (0, u "jdk/internal/util/Preconditions$3"), (3, u "IOOBE_FORMATTER"), (41, u "(IILjava/util/function/BiFunction;)I")] 15

def k11m0 : Method := { name := "<init>", desc := "()V", sig := { parameters := [], returnType := none }, accessFlags := 1, code := none }
def k11c1 : Code := { maxStack := 3, maxLocals := 3, code := jdk_41_method_11_code, exceptionTable := #[], attributes := #[] }
def k11m1 : Method := { name := "checkIndex", desc := "(IILjava/util/function/BiFunction;)I", sig := { parameters := [.int, .int, (.object "java/util/function/BiFunction")], returnType := some .int }, accessFlags := 9, code := some k11c1 }
/-- jdk/internal/util/Preconditions -/
def k11 : Class := { plain "jdk/internal/util/Preconditions" (some 0) with
  accessFlags := 33
  interfaces := #[]
  cf := some (fileOf pool11 24 #[.nestMembers #[55, 131, 125, 114]] #[{ accessFlags := 1, nameIndex := 5, descriptorIndex := 6, attributes := #[] }, { accessFlags := 9, nameIndex := 33, descriptorIndex := 178, attributes := #[] }] 33 2 #[] #[{ accessFlags := 25, nameIndex := 123, descriptorIndex := 124, attributes := #[] }, { accessFlags := 25, nameIndex := 130, descriptorIndex := 124, attributes := #[] }, { accessFlags := 25, nameIndex := 136, descriptorIndex := 124, attributes := #[] }])
  fields := #[{ name := "SIOOBE_FORMATTER", type := (.object "java/util/function/BiFunction"), accessFlags := 25, slot := 0, constantValue := 0 }, { name := "AIOOBE_FORMATTER", type := (.object "java/util/function/BiFunction"), accessFlags := 25, slot := 1, constantValue := 0 }, { name := "IOOBE_FORMATTER", type := (.object "java/util/function/BiFunction"), accessFlags := 25, slot := 2, constantValue := 0 }]
  methods := #[k11m0, k11m1]
  instanceTypes := #[]
  staticTypes := #[(.object "java/util/function/BiFunction"), (.object "java/util/function/BiFunction"), (.object "java/util/function/BiFunction")]
  resolved := Array.replicate 194 none
  statics := some 2 }

def pool12 : Array CpInfo := pool [(9, u "<init>"), (6, .class_ 18), (1, u "java/lang/Object"), (0, u "()V"), (1, .class_ 23), (1, u "jdk/internal/util/ArraysSupport"), (0, u "LOG2_ARRAY_LONG_INDEX_SCALE"), (0, u "I"), (2, u "U"), (0, u "Ljdk/internal/misc/Unsafe;"), (8, u "BIG_ENDIAN"), (0, u "Z"), (8, u "LOG2_BYTE_BIT_SIZE"), (4, u "LOG2_ARRAY_INT_INDEX_SCALE"), (54, u "JLA"), (0, u "Ljdk/internal/access/JavaLangAccess;"), (11, u "LOG2_ARRAY_BOOLEAN_INDEX_SCALE"), (9, u "LOG2_ARRAY_BYTE_INDEX_SCALE"), (5, u "LOG2_ARRAY_CHAR_INDEX_SCALE"), (5, u "LOG2_ARRAY_SHORT_INDEX_SCALE"), (18, u "LOG2_ARRAY_FLOAT_INDEX_SCALE"), (24, u "LOG2_ARRAY_DOUBLE_INDEX_SCALE"), (89, u "T_BOOLEAN"), (2, u "T_CHAR"), (1, u "T_FLOAT"), (1, u "T_DOUBLE"), (1, u "T_BYTE"), (1, u "T_SHORT"), (1, u "T_INT"), (1, u "T_LONG"), (1, u "SOFT_MAX_ARRAY_LENGTH")] 83

def k12m0 : Method := { name := "<init>", desc := "()V", sig := { parameters := [], returnType := none }, accessFlags := 2, code := none }
/-- jdk/internal/util/ArraysSupport -/
def k12 : Class := { plain "jdk/internal/util/ArraysSupport" (some 0) with
  accessFlags := 33
  interfaces := #[]
  cf := some (fileOf pool12 21 #[] #[{ accessFlags := 2, nameIndex := 9, descriptorIndex := 19, attributes := #[] }] 33 16 #[] #[{ accessFlags := 24, nameIndex := 28, descriptorIndex := 29, attributes := #[] }, { accessFlags := 26, nameIndex := 38, descriptorIndex := 39, attributes := #[] }, { accessFlags := 25, nameIndex := 121, descriptorIndex := 25, attributes := #[] }, { accessFlags := 25, nameIndex := 131, descriptorIndex := 25, attributes := #[] }, { accessFlags := 25, nameIndex := 137, descriptorIndex := 25, attributes := #[] }, { accessFlags := 25, nameIndex := 143, descriptorIndex := 25, attributes := #[] }, { accessFlags := 25, nameIndex := 53, descriptorIndex := 25, attributes := #[] }, { accessFlags := 25, nameIndex := 24, descriptorIndex := 25, attributes := #[] }, { accessFlags := 25, nameIndex := 162, descriptorIndex := 25, attributes := #[] }, { accessFlags := 25, nameIndex := 187, descriptorIndex := 25, attributes := #[] }, { accessFlags := 26, nameIndex := 48, descriptorIndex := 25, attributes := #[] }, { accessFlags := 25, nameIndex := 277, descriptorIndex := 25, attributes := #[] }, { accessFlags := 25, nameIndex := 280, descriptorIndex := 25, attributes := #[] }, { accessFlags := 25, nameIndex := 282, descriptorIndex := 25, attributes := #[] }, { accessFlags := 25, nameIndex := 284, descriptorIndex := 25, attributes := #[] }, { accessFlags := 25, nameIndex := 286, descriptorIndex := 25, attributes := #[] }, { accessFlags := 25, nameIndex := 288, descriptorIndex := 25, attributes := #[] }, { accessFlags := 25, nameIndex := 290, descriptorIndex := 25, attributes := #[] }, { accessFlags := 25, nameIndex := 292, descriptorIndex := 25, attributes := #[] }, { accessFlags := 26, nameIndex := 108, descriptorIndex := 109, attributes := #[] }, { accessFlags := 25, nameIndex := 294, descriptorIndex := 25, attributes := #[] }])
  fields := #[{ name := "U", type := (.object "jdk/internal/misc/Unsafe"), accessFlags := 24, slot := 0, constantValue := 0 }, { name := "BIG_ENDIAN", type := .boolean, accessFlags := 26, slot := 1, constantValue := 0 }, { name := "LOG2_ARRAY_BOOLEAN_INDEX_SCALE", type := .int, accessFlags := 25, slot := 2, constantValue := 0 }, { name := "LOG2_ARRAY_BYTE_INDEX_SCALE", type := .int, accessFlags := 25, slot := 3, constantValue := 0 }, { name := "LOG2_ARRAY_CHAR_INDEX_SCALE", type := .int, accessFlags := 25, slot := 4, constantValue := 0 }, { name := "LOG2_ARRAY_SHORT_INDEX_SCALE", type := .int, accessFlags := 25, slot := 5, constantValue := 0 }, { name := "LOG2_ARRAY_INT_INDEX_SCALE", type := .int, accessFlags := 25, slot := 6, constantValue := 0 }, { name := "LOG2_ARRAY_LONG_INDEX_SCALE", type := .int, accessFlags := 25, slot := 7, constantValue := 0 }, { name := "LOG2_ARRAY_FLOAT_INDEX_SCALE", type := .int, accessFlags := 25, slot := 8, constantValue := 0 }, { name := "LOG2_ARRAY_DOUBLE_INDEX_SCALE", type := .int, accessFlags := 25, slot := 9, constantValue := 0 }, { name := "LOG2_BYTE_BIT_SIZE", type := .int, accessFlags := 26, slot := 10, constantValue := 0 }, { name := "T_BOOLEAN", type := .int, accessFlags := 25, slot := 11, constantValue := 0 }, { name := "T_CHAR", type := .int, accessFlags := 25, slot := 12, constantValue := 0 }, { name := "T_FLOAT", type := .int, accessFlags := 25, slot := 13, constantValue := 0 }, { name := "T_DOUBLE", type := .int, accessFlags := 25, slot := 14, constantValue := 0 }, { name := "T_BYTE", type := .int, accessFlags := 25, slot := 15, constantValue := 0 }, { name := "T_SHORT", type := .int, accessFlags := 25, slot := 16, constantValue := 0 }, { name := "T_INT", type := .int, accessFlags := 25, slot := 17, constantValue := 0 }, { name := "T_LONG", type := .int, accessFlags := 25, slot := 18, constantValue := 0 }, { name := "JLA", type := (.object "jdk/internal/access/JavaLangAccess"), accessFlags := 26, slot := 19, constantValue := 0 }, { name := "SOFT_MAX_ARRAY_LENGTH", type := .int, accessFlags := 25, slot := 20, constantValue := 0 }]
  methods := #[k12m0]
  instanceTypes := #[]
  staticTypes := #[(.object "jdk/internal/misc/Unsafe"), .boolean, .int, .int, .int, .int, .int, .int, .int, .int, .int, .int, .int, .int, .int, .int, .int, .int, .int, (.object "jdk/internal/access/JavaLangAccess"), .int]
  resolved := Array.replicate 378 none
  statics := none }

def pool13 : Array CpInfo := pool [(1, u "java/lang/Cloneable"), (0, .class_ 1), (0, u "java/lang/Object"), (0, .class_ 3)] 3

/-- java/lang/Cloneable -/
def k13 : Class := { plain "java/lang/Cloneable" (some 0) with
  accessFlags := 1537
  interfaces := #[]
  cf := some (fileOf pool13 2 #[] #[] 1537 4 #[] #[])
  fields := #[]
  methods := #[]
  instanceTypes := #[]
  staticTypes := #[]
  resolved := Array.replicate 8 none
  statics := none }

/-- the primitive byte -/
def k14 : Class := { plain "byte" none with kind := .primitive 'B', accessFlags := 0x411 }
/-- [B -/
def k15 : Class := { plain "[B" (some 0) with kind := .array 14 .byte, interfaces := #[13, 2], accessFlags := 1041 }

/-- the primitive char -/
def k16 : Class := { plain "char" none with kind := .primitive 'C', accessFlags := 0x411 }
/-- [C -/
def k17 : Class := { plain "[C" (some 0) with kind := .array 16 .char, interfaces := #[13, 2], accessFlags := 1041 }

/-- the primitive int -/
def k18 : Class := { plain "int" none with kind := .primitive 'I', accessFlags := 0x411 }
/-- [I -/
def k19 : Class := { plain "[I" (some 0) with kind := .array 18 .int, interfaces := #[13, 2], accessFlags := 1041 }

def heap : Heap := #[{ cls := 7, slots := #[.long 0, .int 1, .null, .int 0, .null, .int 0, .int 0], vm := .statics 7 },
  { cls := 9, slots := #[.int 0, .int 8, .int 0, .int 1], vm := .statics 9 },
  { cls := 11, slots := #[.null, .null, .null], vm := .statics 11 }]
def classes : Array Class := #[k0, k1, k2, k3, k4, k5, k6, k7, k8, k9, k10, k11, k12, k13, k14, k15, k16, k17, k18, k19]
def interned : List (Array UInt16 × Addr) := []
def slotsUsed : Nat := 14
def theMethod : MethodId := ⟨1, 2⟩
def args0 : Array Value := #[.int 5, .int 6, .int 7, .int 8, .int 9]
def aboutOver (below : List Frame) : State where
  vm := { classes := classes, interned := interned.toArray }
  heap := heap
  slotsUsed := slotsUsed
  threads := #[{ frames := .invoking theMethod args0 :: below }]
def below0 : List Frame := [.native { method := ⟨0, 0⟩, args := #[] }]
def about1 : State := aboutOver below0
def p0 : Program := .bare "" "" ""
def e0 : Env := launch0.env 0 0 0
theorem w_frames : about1.frames = Frame.invoking theMethod args0 :: below0 := rfl
set_option maxRecDepth 65536 in
theorem w_args : argsFit about1.vm theMethod args0 = true := by decide +kernel
set_option maxRecDepth 65536 in
theorem w_heap : heapFits about1 = true := by decide +kernel
set_option maxRecDepth 65536 in
theorem w_runnable : about1.curStatus? = some .runnable := by decide +kernel
set_option maxRecDepth 65536 in
theorem w_alone : about1.alone = true := by decide +kernel
set_option maxRecDepth 65536 in
theorem w_named : about1.methodNamed? x = some theMethod := by decide +kernel
set_option maxRecDepth 65536 in
theorem w_hears : about1.hears theMethod below0 = true := by decide +kernel
set_option maxRecDepth 65536 in
theorem w_ripe : about1.ripe theMethod args0 below0 = true := by decide +kernel
theorem w_running : about1.status = .running := rfl
set_option maxRecDepth 65536 in
theorem w_room : about1.hasRoom e0.platform room_1 = true :=
  launch0.hasRoom_least _ room_1 (by decide +kernel) (by decide +kernel) (by decide +kernel) (by decide +kernel) (by decide +kernel) (by decide +kernel)
theorem allAtoms_all (ts : List Jvm.Cond) (a : Array Jvm.Value) (st : Jvm.State) : (allAtoms ts).before a st = ts.all (fun c => c.before a st) := by
  induction ts with
  | nil => rfl
  | cons c t ih =>
    show (Jvm.Cond.and c (allAtoms t)).before a st = _
    rw [Jvm.Cond.before_and, ih, List.all_cons]
def words1 : List Jvm.Cond := Jvm.Cond.code x code maxLocals ret :: tables_1
/-- a 'code' word, met by the world's own term for the bytes: nothing is compared byte by byte -/
theorem code_word {y : MethodName} {bytes : ByteArray} {mx : Nat} {rt : Option FieldType} {a : Array Value} {s : State} {m : MethodId} {meth : Method} {c : Code} (h1 : s.methodNamed? y = some m) (h2 : s.vm.method? m = some meth) (h3 : meth.code = some c) (h4 : c.code = bytes)
    (h5 : (c.maxLocals == mx && c.exceptionTable.isEmpty && decide (c.maxStack ≤ mostOperands) && decide (meth.sig.returnType = rt) && !meth.locks && decide (parseMethodDescriptor y.desc = some meth.sig)) = true) : (Jvm.Cond.code y bytes mx rt).before a s = true := by
  simp only [Bool.and_eq_true, beq_iff_eq, Bool.not_eq_true', decide_eq_true_eq] at h5
  obtain ⟨⟨⟨⟨⟨g1, g2⟩, g3⟩, g4⟩, g5⟩, g6⟩ := h5
  simp [Cond.before, Cond.holds, Cond.value, h1, h2, h3, h4, g1, g2, g3, g4, g5, g6]
def isCode : Jvm.Cond → Bool
  | .code _ _ _ _ => true
  | _ => false
theorem all_split {L : List Jvm.Cond} {P : Jvm.Cond → Bool} (h1 : L.all (fun c => isCode c || P c) = true) (h2 : ∀ c ∈ L.filter isCode, P c = true) : L.all P = true := by
  refine List.all_eq_true.mpr fun c hc => ?_
  have h := List.all_eq_true.mp h1 c hc
  rcases Bool.eq_false_or_eq_true (isCode c) with hi | hi
  · exact h2 c (List.mem_filter.mpr ⟨hc, hi⟩)
  · simpa [hi] using h
set_option maxRecDepth 65536 in
theorem w_c0 : (Jvm.Cond.code x code maxLocals ret).before args0 about1 = true := code_word (m := ⟨1, 2⟩) (meth := k1m2) (c := k1c2) (by decide +kernel) rfl rfl rfl (by decide +kernel)
set_option maxRecDepth 65536 in
theorem w_c1 : (Jvm.Cond.code ({ cls := "java/lang/String", name := "<init>", desc := "([C)V" } : Jvm.MethodName) jdk_42_method_3_code (2 : Nat) (Option.none : Option Jvm.ClassFile.FieldType)).before args0 about1 = true := code_word (m := ⟨7, 1⟩) (meth := k7m1) (c := k7c1) (by decide +kernel) rfl rfl rfl (by decide +kernel)
set_option maxRecDepth 65536 in
theorem w_c2 : (Jvm.Cond.code ({ cls := "java/lang/String", name := "<init>", desc := "([CIILjava/lang/Void;)V" } : Jvm.MethodName) jdk_42_method_149_code (6 : Nat) (Option.none : Option Jvm.ClassFile.FieldType)).before args0 about1 = true := code_word (m := ⟨7, 5⟩) (meth := k7m5) (c := k7c5) (by decide +kernel) rfl rfl rfl (by decide +kernel)
set_option maxRecDepth 65536 in
theorem w_c3 : (Jvm.Cond.code ({ cls := "java/lang/Object", name := "<init>", desc := "()V" } : Jvm.MethodName) object_method_1_code (1 : Nat) (Option.none : Option Jvm.ClassFile.FieldType)).before args0 about1 = true := code_word (m := ⟨0, 0⟩) (meth := k0m0) (c := k0c0) (by decide +kernel) rfl rfl rfl (by decide +kernel)
set_option maxRecDepth 65536 in
theorem w_c4 : (Jvm.Cond.code ({ cls := "java/lang/String", name := "valueOf", desc := "(C)Ljava/lang/String;" } : Jvm.MethodName) jdk_42_method_139_code (1 : Nat) (Option.some (Jvm.ClassFile.FieldType.object "java/lang/String"))).before args0 about1 = true := code_word (m := ⟨7, 4⟩) (meth := k7m4) (c := k7c4) (by decide +kernel) rfl rfl rfl (by decide +kernel)
set_option maxRecDepth 65536 in
theorem w_c5 : (Jvm.Cond.code ({ cls := "java/lang/StringLatin1", name := "canEncode", desc := "(C)Z" } : Jvm.MethodName) jdk_43_method_3_code (1 : Nat) (Option.some Jvm.ClassFile.FieldType.boolean)).before args0 about1 = true := code_word (m := ⟨8, 2⟩) (meth := k8m2) (c := k8c2) (by decide +kernel) rfl rfl rfl (by decide +kernel)
set_option maxRecDepth 65536 in
theorem w_c6 : (Jvm.Cond.code ({ cls := "java/lang/StringLatin1", name := "toBytes", desc := "(C)[B" } : Jvm.MethodName) jdk_43_method_46_code (1 : Nat) (Option.some (Jvm.ClassFile.FieldType.array Jvm.ClassFile.FieldType.byte))).before args0 about1 = true := code_word (m := ⟨8, 3⟩) (meth := k8m3) (c := k8c3) (by decide +kernel) rfl rfl rfl (by decide +kernel)
set_option maxRecDepth 65536 in
theorem w_c7 : (Jvm.Cond.code ({ cls := "java/lang/String", name := "<init>", desc := "([BB)V" } : Jvm.MethodName) jdk_42_method_151_code (3 : Nat) (Option.none : Option Jvm.ClassFile.FieldType)).before args0 about1 = true := code_word (m := ⟨7, 6⟩) (meth := k7m6) (c := k7c6) (by decide +kernel) rfl rfl rfl (by decide +kernel)
set_option maxRecDepth 65536 in
theorem w_c8 : (Jvm.Cond.code ({ cls := "java/lang/StringUTF16", name := "compress", desc := "([CII)[B" } : Jvm.MethodName) jdk_52_method_16_code (6 : Nat) (Option.some (Jvm.ClassFile.FieldType.array Jvm.ClassFile.FieldType.byte))).before args0 about1 = true := code_word (m := ⟨9, 8⟩) (meth := k9m8) (c := k9c8) (by decide +kernel) rfl rfl rfl (by decide +kernel)
set_option maxRecDepth 65536 in
theorem w_c9 : (Jvm.Cond.code ({ cls := "java/lang/StringUTF16", name := "compress", desc := "([CI[BII)I" } : Jvm.MethodName) jdk_52_method_21_code (7 : Nat) (Option.some Jvm.ClassFile.FieldType.int)).before args0 about1 = true := code_word (m := ⟨9, 9⟩) (meth := k9m9) (c := k9c9) (by decide +kernel) rfl rfl rfl (by decide +kernel)
set_option maxRecDepth 65536 in
theorem w_c10 : (Jvm.Cond.code ({ cls := "java/lang/StringUTF16", name := "coderFromArrayLen", desc := "([BI)B" } : Jvm.MethodName) jdk_52_method_15_code (2 : Nat) (Option.some Jvm.ClassFile.FieldType.byte)).before args0 about1 = true := code_word (m := ⟨9, 7⟩) (meth := k9m7) (c := k9c7) (by decide +kernel) rfl rfl rfl (by decide +kernel)
set_option maxRecDepth 65536 in
theorem w_c11 : (Jvm.Cond.code ({ cls := "com/example/chapeau/chapeau/link/PackedStrings", name := "encode", desc := "(Ljava/lang/CharSequence;[BI)I" } : Jvm.MethodName) prog_74_method_10_code (4 : Nat) (Option.some Jvm.ClassFile.FieldType.int)).before args0 about1 = true := code_word (m := ⟨10, 1⟩) (meth := k10m1) (c := k10c1) (by decide +kernel) rfl rfl rfl (by decide +kernel)
set_option maxRecDepth 65536 in
theorem w_c12 : (Jvm.Cond.code ({ cls := "java/lang/String", name := "length", desc := "()I" } : Jvm.MethodName) jdk_42_method_54_code (1 : Nat) (Option.some Jvm.ClassFile.FieldType.int)).before args0 about1 = true := code_word (m := ⟨7, 2⟩) (meth := k7m2) (c := k7c2) (by decide +kernel) rfl rfl rfl (by decide +kernel)
set_option maxRecDepth 65536 in
theorem w_c13 : (Jvm.Cond.code ({ cls := "java/lang/String", name := "coder", desc := "()B" } : Jvm.MethodName) jdk_42_method_152_code (1 : Nat) (Option.some Jvm.ClassFile.FieldType.byte)).before args0 about1 = true := code_word (m := ⟨7, 7⟩) (meth := k7m7) (c := k7c7) (by decide +kernel) rfl rfl rfl (by decide +kernel)
set_option maxRecDepth 65536 in
theorem w_c14 : (Jvm.Cond.code ({ cls := "java/lang/String", name := "charAt", desc := "(I)C" } : Jvm.MethodName) jdk_42_method_56_code (2 : Nat) (Option.some Jvm.ClassFile.FieldType.char)).before args0 about1 = true := code_word (m := ⟨7, 3⟩) (meth := k7m3) (c := k7c3) (by decide +kernel) rfl rfl rfl (by decide +kernel)
set_option maxRecDepth 65536 in
theorem w_c15 : (Jvm.Cond.code ({ cls := "java/lang/String", name := "isLatin1", desc := "()Z" } : Jvm.MethodName) jdk_42_method_154_code (1 : Nat) (Option.some Jvm.ClassFile.FieldType.boolean)).before args0 about1 = true := code_word (m := ⟨7, 8⟩) (meth := k7m8) (c := k7c8) (by decide +kernel) rfl rfl rfl (by decide +kernel)
set_option maxRecDepth 65536 in
theorem w_c16 : (Jvm.Cond.code ({ cls := "java/lang/StringLatin1", name := "charAt", desc := "([BI)C" } : Jvm.MethodName) jdk_43_method_2_code (2 : Nat) (Option.some Jvm.ClassFile.FieldType.char)).before args0 about1 = true := code_word (m := ⟨8, 1⟩) (meth := k8m1) (c := k8c1) (by decide +kernel) rfl rfl rfl (by decide +kernel)
set_option maxRecDepth 65536 in
theorem w_c17 : (Jvm.Cond.code ({ cls := "java/lang/String", name := "checkIndex", desc := "(II)V" } : Jvm.MethodName) jdk_42_method_155_code (2 : Nat) (Option.none : Option Jvm.ClassFile.FieldType)).before args0 about1 = true := code_word (m := ⟨7, 9⟩) (meth := k7m9) (c := k7c9) (by decide +kernel) rfl rfl rfl (by decide +kernel)
set_option maxRecDepth 65536 in
theorem w_c18 : (Jvm.Cond.code ({ cls := "jdk/internal/util/Preconditions", name := "checkIndex", desc := "(IILjava/util/function/BiFunction;)I" } : Jvm.MethodName) jdk_41_method_11_code (3 : Nat) (Option.some Jvm.ClassFile.FieldType.int)).before args0 about1 = true := code_word (m := ⟨11, 1⟩) (meth := k11m1) (c := k11c1) (by decide +kernel) rfl rfl rfl (by decide +kernel)
set_option maxRecDepth 65536 in
theorem w_c19 : (Jvm.Cond.code ({ cls := "com/example/chapeau/chapeau/link/PackedStrings", name := "encode", desc := "(C[BI)I" } : Jvm.MethodName) prog_74_method_11_code (3 : Nat) (Option.some Jvm.ClassFile.FieldType.int)).before args0 about1 = true := code_word (m := ⟨10, 2⟩) (meth := k10m2) (c := k10c2) (by decide +kernel) rfl rfl rfl (by decide +kernel)
set_option maxRecDepth 65536 in
theorem w_c20 : (Jvm.Cond.code ({ cls := "com/example/chapeau/chapeau/link/PackedStringsEncodePinLaw", name := "put", desc := "(I[BI)I" } : Jvm.MethodName) method_2_code (3 : Nat) (Option.some Jvm.ClassFile.FieldType.int)).before args0 about1 = true := code_word (m := ⟨1, 1⟩) (meth := k1m1) (c := k1c1) (by decide +kernel) rfl rfl rfl (by decide +kernel)
set_option maxRecDepth 65536 in
theorem w_c21 : (Jvm.Cond.code ({ cls := "java/lang/StringUTF16", name := "toBytes", desc := "(C)[B" } : Jvm.MethodName) jdk_52_method_24_code (2 : Nat) (Option.some (Jvm.ClassFile.FieldType.array Jvm.ClassFile.FieldType.byte))).before args0 about1 = true := code_word (m := ⟨9, 10⟩) (meth := k9m10) (c := k9c10) (by decide +kernel) rfl rfl rfl (by decide +kernel)
set_option maxRecDepth 65536 in
theorem w_c22 : (Jvm.Cond.code ({ cls := "java/lang/StringUTF16", name := "putChar", desc := "([BII)V" } : Jvm.MethodName) jdk_52_method_4_code (3 : Nat) (Option.none : Option Jvm.ClassFile.FieldType)).before args0 about1 = true := code_word (m := ⟨9, 3⟩) (meth := k9m3) (c := k9c3) (by decide +kernel) rfl rfl rfl (by decide +kernel)
set_option maxRecDepth 65536 in
theorem w_c23 : (Jvm.Cond.code ({ cls := "java/lang/StringUTF16", name := "toBytes", desc := "([CII)[B" } : Jvm.MethodName) jdk_52_method_14_code (5 : Nat) (Option.some (Jvm.ClassFile.FieldType.array Jvm.ClassFile.FieldType.byte))).before args0 about1 = true := code_word (m := ⟨9, 6⟩) (meth := k9m6) (c := k9c6) (by decide +kernel) rfl rfl rfl (by decide +kernel)
set_option maxRecDepth 65536 in
theorem w_c24 : (Jvm.Cond.code ({ cls := "java/lang/StringUTF16", name := "newBytesFor", desc := "(I)[B" } : Jvm.MethodName) jdk_52_method_2_code (1 : Nat) (Option.some (Jvm.ClassFile.FieldType.array Jvm.ClassFile.FieldType.byte))).before args0 about1 = true := code_word (m := ⟨9, 1⟩) (meth := k9m1) (c := k9c1) (by decide +kernel) rfl rfl rfl (by decide +kernel)
set_option maxRecDepth 65536 in
theorem w_c25 : (Jvm.Cond.code ({ cls := "java/lang/StringUTF16", name := "newBytesLength", desc := "(I)I" } : Jvm.MethodName) jdk_52_method_3_code (1 : Nat) (Option.some Jvm.ClassFile.FieldType.int)).before args0 about1 = true := code_word (m := ⟨9, 2⟩) (meth := k9m2) (c := k9c2) (by decide +kernel) rfl rfl rfl (by decide +kernel)
set_option maxRecDepth 65536 in
theorem w_c26 : (Jvm.Cond.code ({ cls := "java/lang/StringUTF16", name := "getChar", desc := "([BI)C" } : Jvm.MethodName) jdk_52_method_5_code (2 : Nat) (Option.some Jvm.ClassFile.FieldType.char)).before args0 about1 = true := code_word (m := ⟨9, 4⟩) (meth := k9m4) (c := k9c4) (by decide +kernel) rfl rfl rfl (by decide +kernel)
set_option maxRecDepth 65536 in
theorem w_c27 : (Jvm.Cond.code ({ cls := "java/lang/StringUTF16", name := "charAt", desc := "([BI)C" } : Jvm.MethodName) jdk_52_method_83_code (2 : Nat) (Option.some Jvm.ClassFile.FieldType.char)).before args0 about1 = true := code_word (m := ⟨9, 11⟩) (meth := k9m11) (c := k9c11) (by decide +kernel) rfl rfl rfl (by decide +kernel)
set_option maxRecDepth 65536 in
theorem w_c28 : (Jvm.Cond.code ({ cls := "java/lang/StringUTF16", name := "checkIndex", desc := "(I[B)V" } : Jvm.MethodName) jdk_52_method_91_code (2 : Nat) (Option.none : Option Jvm.ClassFile.FieldType)).before args0 about1 = true := code_word (m := ⟨9, 12⟩) (meth := k9m12) (c := k9c12) (by decide +kernel) rfl rfl rfl (by decide +kernel)
set_option maxRecDepth 65536 in
theorem w_c29 : (Jvm.Cond.code ({ cls := "java/lang/StringUTF16", name := "length", desc := "([B)I" } : Jvm.MethodName) jdk_52_method_6_code (1 : Nat) (Option.some Jvm.ClassFile.FieldType.int)).before args0 about1 = true := code_word (m := ⟨9, 5⟩) (meth := k9m5) (c := k9c5) (by decide +kernel) rfl rfl rfl (by decide +kernel)
def codes1 : List Jvm.Cond := [Jvm.Cond.code x code maxLocals ret, Jvm.Cond.code ({ cls := "java/lang/String", name := "<init>", desc := "([C)V" } : Jvm.MethodName) jdk_42_method_3_code (2 : Nat) (Option.none : Option Jvm.ClassFile.FieldType), Jvm.Cond.code ({ cls := "java/lang/String", name := "<init>", desc := "([CIILjava/lang/Void;)V" } : Jvm.MethodName) jdk_42_method_149_code (6 : Nat) (Option.none : Option Jvm.ClassFile.FieldType), Jvm.Cond.code ({ cls := "java/lang/Object", name := "<init>", desc := "()V" } : Jvm.MethodName) object_method_1_code (1 : Nat) (Option.none : Option Jvm.ClassFile.FieldType), Jvm.Cond.code ({ cls := "java/lang/String", name := "valueOf", desc := "(C)Ljava/lang/String;" } : Jvm.MethodName) jdk_42_method_139_code (1 : Nat) (Option.some (Jvm.ClassFile.FieldType.object "java/lang/String")), Jvm.Cond.code ({ cls := "java/lang/StringLatin1", name := "canEncode", desc := "(C)Z" } : Jvm.MethodName) jdk_43_method_3_code (1 : Nat) (Option.some Jvm.ClassFile.FieldType.boolean), Jvm.Cond.code ({ cls := "java/lang/StringLatin1", name := "toBytes", desc := "(C)[B" } : Jvm.MethodName) jdk_43_method_46_code (1 : Nat) (Option.some (Jvm.ClassFile.FieldType.array Jvm.ClassFile.FieldType.byte)), Jvm.Cond.code ({ cls := "java/lang/String", name := "<init>", desc := "([BB)V" } : Jvm.MethodName) jdk_42_method_151_code (3 : Nat) (Option.none : Option Jvm.ClassFile.FieldType), Jvm.Cond.code ({ cls := "java/lang/StringUTF16", name := "compress", desc := "([CII)[B" } : Jvm.MethodName) jdk_52_method_16_code (6 : Nat) (Option.some (Jvm.ClassFile.FieldType.array Jvm.ClassFile.FieldType.byte)), Jvm.Cond.code ({ cls := "java/lang/StringUTF16", name := "compress", desc := "([CI[BII)I" } : Jvm.MethodName) jdk_52_method_21_code (7 : Nat) (Option.some Jvm.ClassFile.FieldType.int), Jvm.Cond.code ({ cls := "java/lang/StringUTF16", name := "coderFromArrayLen", desc := "([BI)B" } : Jvm.MethodName) jdk_52_method_15_code (2 : Nat) (Option.some Jvm.ClassFile.FieldType.byte), Jvm.Cond.code ({ cls := "com/example/chapeau/chapeau/link/PackedStrings", name := "encode", desc := "(Ljava/lang/CharSequence;[BI)I" } : Jvm.MethodName) prog_74_method_10_code (4 : Nat) (Option.some Jvm.ClassFile.FieldType.int), Jvm.Cond.code ({ cls := "java/lang/String", name := "length", desc := "()I" } : Jvm.MethodName) jdk_42_method_54_code (1 : Nat) (Option.some Jvm.ClassFile.FieldType.int), Jvm.Cond.code ({ cls := "java/lang/String", name := "coder", desc := "()B" } : Jvm.MethodName) jdk_42_method_152_code (1 : Nat) (Option.some Jvm.ClassFile.FieldType.byte), Jvm.Cond.code ({ cls := "java/lang/String", name := "charAt", desc := "(I)C" } : Jvm.MethodName) jdk_42_method_56_code (2 : Nat) (Option.some Jvm.ClassFile.FieldType.char), Jvm.Cond.code ({ cls := "java/lang/String", name := "isLatin1", desc := "()Z" } : Jvm.MethodName) jdk_42_method_154_code (1 : Nat) (Option.some Jvm.ClassFile.FieldType.boolean), Jvm.Cond.code ({ cls := "java/lang/StringLatin1", name := "charAt", desc := "([BI)C" } : Jvm.MethodName) jdk_43_method_2_code (2 : Nat) (Option.some Jvm.ClassFile.FieldType.char), Jvm.Cond.code ({ cls := "java/lang/String", name := "checkIndex", desc := "(II)V" } : Jvm.MethodName) jdk_42_method_155_code (2 : Nat) (Option.none : Option Jvm.ClassFile.FieldType), Jvm.Cond.code ({ cls := "jdk/internal/util/Preconditions", name := "checkIndex", desc := "(IILjava/util/function/BiFunction;)I" } : Jvm.MethodName) jdk_41_method_11_code (3 : Nat) (Option.some Jvm.ClassFile.FieldType.int), Jvm.Cond.code ({ cls := "com/example/chapeau/chapeau/link/PackedStrings", name := "encode", desc := "(C[BI)I" } : Jvm.MethodName) prog_74_method_11_code (3 : Nat) (Option.some Jvm.ClassFile.FieldType.int), Jvm.Cond.code ({ cls := "com/example/chapeau/chapeau/link/PackedStringsEncodePinLaw", name := "put", desc := "(I[BI)I" } : Jvm.MethodName) method_2_code (3 : Nat) (Option.some Jvm.ClassFile.FieldType.int), Jvm.Cond.code ({ cls := "java/lang/StringUTF16", name := "toBytes", desc := "(C)[B" } : Jvm.MethodName) jdk_52_method_24_code (2 : Nat) (Option.some (Jvm.ClassFile.FieldType.array Jvm.ClassFile.FieldType.byte)), Jvm.Cond.code ({ cls := "java/lang/StringUTF16", name := "putChar", desc := "([BII)V" } : Jvm.MethodName) jdk_52_method_4_code (3 : Nat) (Option.none : Option Jvm.ClassFile.FieldType), Jvm.Cond.code ({ cls := "java/lang/StringUTF16", name := "toBytes", desc := "([CII)[B" } : Jvm.MethodName) jdk_52_method_14_code (5 : Nat) (Option.some (Jvm.ClassFile.FieldType.array Jvm.ClassFile.FieldType.byte)), Jvm.Cond.code ({ cls := "java/lang/StringUTF16", name := "newBytesFor", desc := "(I)[B" } : Jvm.MethodName) jdk_52_method_2_code (1 : Nat) (Option.some (Jvm.ClassFile.FieldType.array Jvm.ClassFile.FieldType.byte)), Jvm.Cond.code ({ cls := "java/lang/StringUTF16", name := "newBytesLength", desc := "(I)I" } : Jvm.MethodName) jdk_52_method_3_code (1 : Nat) (Option.some Jvm.ClassFile.FieldType.int), Jvm.Cond.code ({ cls := "java/lang/StringUTF16", name := "getChar", desc := "([BI)C" } : Jvm.MethodName) jdk_52_method_5_code (2 : Nat) (Option.some Jvm.ClassFile.FieldType.char), Jvm.Cond.code ({ cls := "java/lang/StringUTF16", name := "charAt", desc := "([BI)C" } : Jvm.MethodName) jdk_52_method_83_code (2 : Nat) (Option.some Jvm.ClassFile.FieldType.char), Jvm.Cond.code ({ cls := "java/lang/StringUTF16", name := "checkIndex", desc := "(I[B)V" } : Jvm.MethodName) jdk_52_method_91_code (2 : Nat) (Option.none : Option Jvm.ClassFile.FieldType), Jvm.Cond.code ({ cls := "java/lang/StringUTF16", name := "length", desc := "([B)I" } : Jvm.MethodName) jdk_52_method_6_code (1 : Nat) (Option.some Jvm.ClassFile.FieldType.int)]
set_option maxRecDepth 65536 in
theorem codes_eq : words1.filter isCode = codes1 := rfl
theorem w_codes : ∀ c ∈ words1.filter isCode, c.before args0 about1 = true := by
  rw [codes_eq]
  intro c hc
  simp only [codes1, List.mem_cons, List.not_mem_nil, or_false] at hc
  rcases hc with rfl | rfl | rfl | rfl | rfl | rfl | rfl | rfl | rfl | rfl | rfl | rfl | rfl | rfl | rfl | rfl | rfl | rfl | rfl | rfl | rfl | rfl | rfl | rfl | rfl | rfl | rfl | rfl | rfl | rfl
  · exact w_c0
  · exact w_c1
  · exact w_c2
  · exact w_c3
  · exact w_c4
  · exact w_c5
  · exact w_c6
  · exact w_c7
  · exact w_c8
  · exact w_c9
  · exact w_c10
  · exact w_c11
  · exact w_c12
  · exact w_c13
  · exact w_c14
  · exact w_c15
  · exact w_c16
  · exact w_c17
  · exact w_c18
  · exact w_c19
  · exact w_c20
  · exact w_c21
  · exact w_c22
  · exact w_c23
  · exact w_c24
  · exact w_c25
  · exact w_c26
  · exact w_c27
  · exact w_c28
  · exact w_c29
set_option maxRecDepth 65536 in
theorem w_t1 : (words1.take 24).all (fun c => isCode c || c.before args0 about1) = true := by decide +kernel
set_option maxRecDepth 65536 in
theorem w_t2 : ((words1.drop 24).take 24).all (fun c => isCode c || c.before args0 about1) = true := by decide +kernel
set_option maxRecDepth 65536 in
theorem w_t3 : (((words1.drop 24).drop 24).take 24).all (fun c => isCode c || c.before args0 about1) = true := by decide +kernel
set_option maxRecDepth 65536 in
theorem w_t4 : ((((words1.drop 24).drop 24).drop 24).take 24).all (fun c => isCode c || c.before args0 about1) = true := by decide +kernel
set_option maxRecDepth 65536 in
theorem w_t5 : (((((words1.drop 24).drop 24).drop 24).drop 24).take 24).all (fun c => isCode c || c.before args0 about1) = true := by decide +kernel
set_option maxRecDepth 65536 in
theorem w_t6 : (((((words1.drop 24).drop 24).drop 24).drop 24).drop 24).all (fun c => isCode c || c.before args0 about1) = true := by decide +kernel
theorem w_tables : (allAtoms (Jvm.Cond.code x code maxLocals ret :: tables_1)).before args0 about1 = true := by
  rw [allAtoms_all]
  show words1.all (fun c => c.before args0 about1) = true
  refine all_split ?_ w_codes
  rw [← List.take_append_drop 24 words1, List.all_append, w_t1, ← List.take_append_drop 24 (words1.drop 24), List.all_append, w_t2, ← List.take_append_drop 24 ((words1.drop 24).drop 24), List.all_append, w_t3, ← List.take_append_drop 24 (((words1.drop 24).drop 24).drop 24), List.all_append, w_t4, ← List.take_append_drop 24 ((((words1.drop 24).drop 24).drop 24).drop 24), List.all_append, w_t5, w_t6]
  rfl
set_option maxRecDepth 65536 in
theorem w_rest : rest_1_c.before args0 about1 = true := by decide +kernel
set_option maxRecDepth 65536 in
theorem w_case : (Jvm.Cond.and given_1 narrow_1).before args0 about1 = true := by decide +kernel
set_option maxRecDepth 65536 in
theorem w_consts : constsHeld consts_1 about1 := Jvm.Lit.constsHeldB_iff.mp (by decide +kernel)
theorem w_applies : (headSpec (Jvm.Cond.code x code maxLocals ret :: tables_1) room_1).applies x e0.platform about1 = true :=
  (Spec.applies_iff w_frames).mpr ⟨w_running, w_runnable, w_alone, w_named, w_hears, w_ripe, w_room, w_tables⟩
theorem atStart : AtStart classFile x code maxLocals ret World_1 tables_1 room_1 Calls_1 rest_1 Pre_1 launch0 p0 e0 about1 theMethod args0 below0 :=
  ⟨lists_1, trivial, launch0.admits_env _ _ _, launch0.least_env, fairChoices_fair.cas, fairChoices_fair.clock, w_frames, w_args, w_heap, w_applies, ⟨w_consts, trivial⟩, w_rest, w_case⟩
end start1
theorem witness_1 : WitnessClaimed_1 := ⟨start1.p0, start1.e0, start1.about1, start1.theMethod, start1.args0, start1.below0, start1.atStart⟩
end Jvm.Pilot.@@N@@
