import JvmDerived
import JvmDerived.Pilot.@@N@@Statement
import JvmDerived.Pilot.@@N@@Code
set_option linter.unusedVariables false
set_option linter.unusedSimpArgs false
set_option maxRecDepth 65536
set_option maxHeartbeats 40000000
/- laws to paste: Road.backV, Road.eqW, Road.lenW, Road.chN (cut by pick.py; bodies as the Statement names them) -/
namespace Jvm.Pilot.@@N@@
namespace StrChars
open Jvm Sem ClassFile Op Lib Jvm.Stand Jvm.Free.XT Jvm.Free.ALB Jvm.Free.JM Jvm.Free
open Jvm.Lib.Cold (StaticIs)
/-- a char array whose places are chars -/
def Ch (a : Addr) (A : Cell) (U : State) : Prop := Arr .char a A U ∧ Typed .char A
theorem Ch.mv {a : Addr} {A : Cell} {U U' : State} (h : Ch a A U) (hal : U.vm.Alike U'.vm) (hh : U'.heap = U.heap) : Ch a A U' := ⟨h.1.mv hal hh, h.2⟩
theorem Ch.keep {a : Addr} {A : Cell} {U U' : State} (h : Ch a A U) (hal : U.vm.Alike U'.vm) (hk : U'.heap[a]? = some A) : Ch a A U' := ⟨h.1.keep hal hk, h.2⟩
/-- what place i of a char[]'s cell holds -/
def cv (A : Cell) (i : Nat) : Int32 := match A.slots[i]? with | some (.int x) => x | _ => 0
theorem Ch.get {a : Addr} {A : Cell} {U : State} (h : Ch a A U) {i : Nat} (hi : i < A.slots.size) : A.slots[i]? = some (.int (cv A i)) := by
  have e := Array.getElem?_eq_getElem hi
  have f := h.2 i _ e
  unfold cv; rw [e]
  generalize A.slots[i] = v at f
  cases v <;> simp [fits] at f ⊢
/-- the byte that i2b leaves of a char -/
def lo8 (x : Int32) : Int32 := x.toInt8.toInt32
theorem fits_lo8 (y : Int32) : fits .byte (.int (lo8 y)) = true := by
  have h1 := y.toInt8.le_toInt
  have h2 := y.toInt8.toInt_lt
  simp only [lo8, fits, Bool.and_eq_true, decide_eq_true_eq, Int32.le_iff_toInt_le, Int8.toInt_toInt32, show (-128 : Int32).toInt = -128 from by decide, show (127 : Int32).toInt = 127 from by decide]
  omega
/-- A' is A but that each place j of lo .. hi - 1 holds f j -/
def Laid (A A' : Cell) (lo hi : Nat) (f : Nat → Value) : Prop := A'.cls = A.cls ∧ A'.vm = A.vm ∧ A'.slots.size = A.slots.size ∧ ∀ i, A'.slots[i]? = if lo ≤ i ∧ i < hi then some (f i) else A.slots[i]?
theorem Laid.zero (A : Cell) (lo : Nat) (f : Nat → Value) : Laid A A lo (lo + 0) f := ⟨rfl, rfl, rfl, fun i => by rw [if_neg (by omega)]⟩
theorem Laid.step {A Ak : Cell} {lo k : Nat} {f : Nat → Value} {v : Value} (h : Laid A Ak lo k f) (hlo : lo ≤ k) (hk : k < Ak.slots.size) (hv : v = f k) : Laid A (Ak.setSlot k v) lo (k + 1) f := by
  refine ⟨h.1, h.2.1, by simpa [Cell.setSlot] using h.2.2.1, fun i => ?_⟩
  by_cases e : k = i
  · subst e; rw [Cell.slots_setSlot_self v hk, if_pos (by omega), hv]
  · rw [Cell.slots_setSlot_ne v e, h.2.2.2 i]
    by_cases q : lo ≤ i ∧ i < k
    · rw [if_pos q, if_pos (by omega)]
    · rw [if_neg q, if_neg (by omega)]
def U16 : String := "java/lang/StringUTF16"
namespace Cmp5
def yN : MethodName := ⟨"java/lang/StringUTF16", "compress", "([CI[BII)I"⟩
abbrev yB : ByteArray := jdk_52_method_21_code
theorem d0 : decode yB 0 = .ok (.iconst 0, 1) := by decide +kernel
theorem d1 : decode yB 1 = .ok (.istore 5, 2) := by decide +kernel
theorem d3 : decode yB 3 = .ok (.iload 5, 2) := by decide +kernel
theorem d5 : decode yB 5 = .ok (.iload 4, 2) := by decide +kernel
theorem d7 : decode yB 7 = .ok (.if_icmp (.ge) 37, 3) := by decide +kernel
theorem d10 : decode yB 10 = .ok (.aload_n 0, 1) := by decide +kernel
theorem d11 : decode yB 11 = .ok (.iload_n 1, 1) := by decide +kernel
theorem d12 : decode yB 12 = .ok (.caload, 1) := by decide +kernel
theorem d13 : decode yB 13 = .ok (.istore 6, 2) := by decide +kernel
theorem d15 : decode yB 15 = .ok (.iload 6, 2) := by decide +kernel
theorem d17 : decode yB 17 = .ok (.sipush 255, 3) := by decide +kernel
theorem d20 : decode yB 20 = .ok (.if_icmp (.le) 6, 3) := by decide +kernel
theorem d26 : decode yB 26 = .ok (.aload_n 2, 1) := by decide +kernel
theorem d27 : decode yB 27 = .ok (.iload_n 3, 1) := by decide +kernel
theorem d28 : decode yB 28 = .ok (.iload 6, 2) := by decide +kernel
theorem d30 : decode yB 30 = .ok (.i2b, 1) := by decide +kernel
theorem d31 : decode yB 31 = .ok (.bastore, 1) := by decide +kernel
theorem d32 : decode yB 32 = .ok (.iinc 1 1, 3) := by decide +kernel
theorem d35 : decode yB 35 = .ok (.iinc 3 1, 3) := by decide +kernel
theorem d38 : decode yB 38 = .ok (.iinc 5 1, 3) := by decide +kernel
theorem d41 : decode yB 41 = .ok (.goto (-38), 3) := by decide +kernel
theorem d44 : decode yB 44 = .ok (.iload 4, 2) := by decide +kernel
theorem d46 : decode yB 46 = .ok (.ireturn, 1) := by decide +kernel
def site : List Cond := []
def tab : Cond := tabOf yN yB 7 (some .int) site
def P (b : Addr) (A : Cell) (d : Addr) (B : Cell) (o q len : Nat) (args : Array Value) (s : State) : Prop := args = #[.ref b, .int (Int32.ofNat o), .ref d, .int (Int32.ofNat q), .int (Int32.ofNat len)] ∧ Ch b A s ∧ Arr .byte d B s ∧ b ≠ d ∧ o + len ≤ A.slots.size ∧ q + len ≤ B.slots.size ∧ ∀ i, i < len → ¬ 255 < cv A (o + i)
def E (b : Addr) (A : Cell) (d : Addr) (B : Cell) (o q len : Nat) (r : Option Value) (s u : State) : Prop := r = some (.int (Int32.ofNat len)) ∧ ∃ B', Put d B' s u ∧ Laid B B' q (q + len) (fun j => Value.int (lo8 (cv A (o + (j - q)))))
/-- no char of the range above 255: len; the places written hold each char's low byte -/
theorem law (l : Launch) (b : Addr) (A : Cell) (d : Addr) (B : Cell) (o q len : Nat) : Law l yN 5 5 0 0 yB 7 (some .int) site (P b A d B o q len) (E b A d B o q len) (copyLocs d q len) 0 0 := by
  refine Law.of_walk (plainFor_of_name (by decide +kernel)) (by decide +kernel) (by decide +kernel) (by decide) (fun _ _ h => by rw [h.1]; rfl) (fun _ U U' hal hh h => ⟨h.1, h.2.1.mv hal hh, h.2.2.1.mv hal hh, h.2.2.2⟩) (fun r U U' V V' h1 hal h2 h => ⟨h.1, h.2.elim fun B' q => ⟨B', q.1.mv h1 h2, q.2⟩⟩) ?_
  intro p e s m args below meth c s₁ X0 hexec hbytes hml hret hlk hnm hown hh0 W hP
  obtain ⟨rfl, hA, hB, hne, l1, l2, hp⟩ := hP
  have c1 : Steps p.tables e below (s₁.setTop (entryFrame m #[.ref b, .int (Int32.ofNat o), .ref d, .int (Int32.ofNat q), .int (Int32.ofNat len)] 7)) (s₁.setTop (mkF m 0 #[.val (.ref b), .val (.int (Int32.ofNat o)), .val (.ref d), .val (.int (Int32.ofNat q)), .val (.int (Int32.ofNat len)), .unset, .unset] [])) := entry rfl
  have hA0 := hA.1.mv X0.warmed.alike hh0
  have hB0 := hB.mv X0.warmed.alike hh0
  have a31 := hA.1.2.2.2
  have c2 : Steps p.tables e below (s₁.setTop (entryFrame m #[.ref b, .int (Int32.ofNat o), .ref d, .int (Int32.ofNat q), .int (Int32.ofNat len)] 7)) (s₁.setTop (mkF m 3 #[.val (.ref b), .val (.int (Int32.ofNat o)), .val (.ref d), .val (.int (Int32.ofNat q)), .val (.int (Int32.ofNat len)), .val (.int 0), .unset] [])) := c1.trans (by
    refine iconstV X0.here hexec rfl 0 (hb hbytes d0) (by decide) ?_
    refine XS.istore X0.here hexec rfl (hb hbytes d1) rfl rfl ?_
    exact Steps.refl _)
  have loop : ∀ (r i : Nat), i + r = len → ∀ (z : Slot), (z = .unset ∨ ∃ w, z = .val w ∧ w.category = 1) → ∀ (Tl : State) (Bk : Cell), Stand p l e { frames := 0, locals := 0, cells := 0, slots := 0 } s m #[.ref b, .int (Int32.ofNat o), .ref d, .int (Int32.ofNat q), .int (Int32.ofNat len)] below meth c Tl ([] ++ copyLocs d q i) 0 0 → Put d Bk s₁ Tl → Laid B Bk q (q + i) (fun j => Value.int (lo8 (cv A (o + (j - q))))) →
      Steps p.tables e below (s₁.setTop (entryFrame m #[.ref b, .int (Int32.ofNat o), .ref d, .int (Int32.ofNat q), .int (Int32.ofNat len)] 7)) (Tl.setTop (mkF m 3 #[.val (.ref b), .val (.int (Int32.ofNat (o + i))), .val (.ref d), .val (.int (Int32.ofNat (q + i))), .val (.int (Int32.ofNat len)), .val (.int (Int32.ofNat i)), z] [])) → ∃ (T' : State) (B' : Cell) (z' : Slot), Stand p l e { frames := 0, locals := 0, cells := 0, slots := 0 } s m #[.ref b, .int (Int32.ofNat o), .ref d, .int (Int32.ofNat q), .int (Int32.ofNat len)] below meth c T' ([] ++ copyLocs d q len) 0 0 ∧ Put d B' s₁ T' ∧ Laid B B' q (q + len) (fun j => Value.int (lo8 (cv A (o + (j - q))))) ∧
      Steps p.tables e below (s₁.setTop (entryFrame m #[.ref b, .int (Int32.ofNat o), .ref d, .int (Int32.ofNat q), .int (Int32.ofNat len)] 7)) (T'.setTop (mkF m 3 #[.val (.ref b), .val (.int (Int32.ofNat (o + len))), .val (.ref d), .val (.int (Int32.ofNat (q + len))), .val (.int (Int32.ofNat len)), .val (.int (Int32.ofNat len)), z'] [])) := by
    intro r
    induction r with
    | zero =>
      intro i hi z hz Tl Bk Xl pl fl cl
      have hil : i = len := by omega
      rw [hil] at Xl fl cl
      exact ⟨Tl, Bk, z, Xl, pl, fl, cl⟩
    | succ r ih =>
      intro i hi z hz Tl Bk Xl pl fl cl
      have all := X0.warmed.alike.symm.trans Xl.warmed.alike
      have hAl := hA0.keep all (pl.other hne hA0.1)
      have hBk := hB0.like all pl.1 fl.1 fl.2.1 fl.2.2.1
      have hlt : q + i < Bk.slots.size := by rw [fl.2.2.1]; omega
      have c3 : Steps p.tables e below (s₁.setTop (entryFrame m #[.ref b, .int (Int32.ofNat o), .ref d, .int (Int32.ofNat q), .int (Int32.ofNat len)] 7)) (Tl.setTop (mkF m 12 #[.val (.ref b), .val (.int (Int32.ofNat (o + i))), .val (.ref d), .val (.int (Int32.ofNat (q + i))), .val (.int (Int32.ofNat len)), .val (.int (Int32.ofNat i)), z] [.int (Int32.ofNat (o + i)), .ref b])) := cl.trans (by
        refine XS.iload Xl.here hexec rfl (hb hbytes d3) rfl ?_
        refine XS.iload Xl.here hexec rfl (hb hbytes d5) rfl ?_
        refine XS.icmpNo Xl.here hexec rfl (hb hbytes d7) rfl (ii_ge_f (lt32 (by omega) (by omega))) ?_
        refine XS.aloadN Xl.here hexec rfl (hb hbytes d10) rfl rfl ?_
        refine XS.iloadN Xl.here hexec rfl (hb hbytes d11) rfl ?_
        exact Steps.refl _)
      have c4 : Steps p.tables e below (s₁.setTop (entryFrame m #[.ref b, .int (Int32.ofNat o), .ref d, .int (Int32.ofNat q), .int (Int32.ofNat len)] 7)) (Tl.setTop (mkF m 13 #[.val (.ref b), .val (.int (Int32.ofNat (o + i))), .val (.ref d), .val (.int (Int32.ofNat (q + i))), .val (.int (Int32.ofNat len)), .val (.int (Int32.ofNat i)), z] [.int (cv A (o + i))])) := c3.trans (by
        refine Xl.aget hexec hAl rfl (hA.get (i := o + i) (by omega)) rfl rfl (hb hbytes d12) ?_
        exact Steps.refl _)
      have c5 : Steps p.tables e below (s₁.setTop (entryFrame m #[.ref b, .int (Int32.ofNat o), .ref d, .int (Int32.ofNat q), .int (Int32.ofNat len)] 7)) (Tl.setTop (mkF m 15 #[.val (.ref b), .val (.int (Int32.ofNat (o + i))), .val (.ref d), .val (.int (Int32.ofNat (q + i))), .val (.int (Int32.ofNat len)), .val (.int (Int32.ofNat i)), .val (.int (cv A (o + i)))] [])) := c4.trans (by
        refine XS.istoreS Xl.here hexec rfl (hb hbytes d13) rfl rfl hz ?_
        exact Steps.refl _)
      have c6 : Steps p.tables e below (s₁.setTop (entryFrame m #[.ref b, .int (Int32.ofNat o), .ref d, .int (Int32.ofNat q), .int (Int32.ofNat len)] 7)) (Tl.setTop (mkF m 31 #[.val (.ref b), .val (.int (Int32.ofNat (o + i))), .val (.ref d), .val (.int (Int32.ofNat (q + i))), .val (.int (Int32.ofNat len)), .val (.int (Int32.ofNat i)), .val (.int (cv A (o + i)))] [.int (lo8 (cv A (o + i))), .int (Int32.ofNat (q + i)), .ref d])) := c5.trans (by
        refine XS.iload Xl.here hexec rfl (hb hbytes d15) rfl ?_
        refine sipushV Xl.here hexec rfl 255 (hb hbytes d17) (by decide) ?_
        refine XS.icmpYes Xl.here hexec rfl (pc0 := 20) rfl (hb hbytes d20) rfl (ii_le_t (hp i (by omega))) (by decide) rfl ?_
        refine XS.aloadN Xl.here hexec rfl (hb hbytes d26) rfl rfl ?_
        refine XS.iloadN Xl.here hexec rfl (hb hbytes d27) rfl ?_
        refine XS.iload Xl.here hexec rfl (hb hbytes d28) rfl ?_
        refine i2b Xl.here hexec rfl (hb hbytes d30) rfl ?_
        exact Steps.refl _)
      obtain ⟨T7, X7, p7, st7⟩ := Xl.aput hexec hBk rfl hlt rfl (fits_lo8 (cv A (o + i))) (g := (mkF m 31 #[.val (.ref b), .val (.int (Int32.ofNat (o + i))), .val (.ref d), .val (.int (Int32.ofNat (q + i))), .val (.int (Int32.ofNat len)), .val (.int (Int32.ofNat i)), .val (.int (cv A (o + i)))] [.int (lo8 (cv A (o + i))), .int (Int32.ofNat (q + i)), .ref d])) rfl (rest := []) rfl (hb hbytes d31)
      have c8 : Steps p.tables e below (s₁.setTop (entryFrame m #[.ref b, .int (Int32.ofNat o), .ref d, .int (Int32.ofNat q), .int (Int32.ofNat len)] 7)) (T7.setTop (mkF m 32 #[.val (.ref b), .val (.int (Int32.ofNat (o + i))), .val (.ref d), .val (.int (Int32.ofNat (q + i))), .val (.int (Int32.ofNat len)), .val (.int (Int32.ofNat i)), .val (.int (cv A (o + i)))] [])) := c6.trans (st7 _ (Steps.refl _))
      have c9 : Steps p.tables e below (s₁.setTop (entryFrame m #[.ref b, .int (Int32.ofNat o), .ref d, .int (Int32.ofNat q), .int (Int32.ofNat len)] 7)) (T7.setTop (mkF m 3 #[.val (.ref b), .val (.int (Int32.ofNat (o + i) + 1)), .val (.ref d), .val (.int (Int32.ofNat (q + i) + 1)), .val (.int (Int32.ofNat len)), .val (.int (Int32.ofNat i + 1)), .val (.int (cv A (o + i)))] [])) := c8.trans (by
        refine iincV X7.here hexec rfl 1 (hb hbytes d32) (by decide) rfl rfl ?_
        refine iincV X7.here hexec rfl 1 (hb hbytes d35) (by decide) rfl rfl ?_
        refine iincV X7.here hexec rfl 1 (hb hbytes d38) (by decide) rfl rfl ?_
        refine XS.goto X7.here hexec rfl (pc0 := 41) rfl (hb hbytes d41) (by decide) rfl ?_
        exact Steps.refl _)
      have c10 : Steps p.tables e below (s₁.setTop (entryFrame m #[.ref b, .int (Int32.ofNat o), .ref d, .int (Int32.ofNat q), .int (Int32.ofNat len)] 7)) (T7.setTop (mkF m 3 #[.val (.ref b), .val (.int (Int32.ofNat (o + (i + 1)))), .val (.ref d), .val (.int (Int32.ofNat (q + (i + 1)))), .val (.int (Int32.ofNat len)), .val (.int (Int32.ofNat (i + 1))), .val (.int (cv A (o + i)))] [])) := by
        have := c9
        rw [succ32, succ32, succ32] at this
        exact this
      exact ih (i + 1) (by omega) _ (Or.inr ⟨_, rfl, rfl⟩) T7 _ (by rw [copyLocs_step, ← List.append_assoc]; exact X7) (pl.trans p7) (fl.step (by omega) hlt (by simp)) c10
  obtain ⟨T9, B9, z9, X9, p9, f9, g9⟩ := loop len 0 (by omega) .unset (Or.inl rfl) s₁ B (by simpa [copyLocs] using X0) ⟨hB0.1, fun _ _ => rfl, rfl⟩ (Laid.zero _ _ _) c2
  have c11 : Steps p.tables e below (s₁.setTop (entryFrame m #[.ref b, .int (Int32.ofNat o), .ref d, .int (Int32.ofNat q), .int (Int32.ofNat len)] 7)) (T9.setTop (mkF m 46 #[.val (.ref b), .val (.int (Int32.ofNat (o + len))), .val (.ref d), .val (.int (Int32.ofNat (q + len))), .val (.int (Int32.ofNat len)), .val (.int (Int32.ofNat len)), z9] [.int (Int32.ofNat len)])) := g9.trans (by
    refine XS.iload X9.here hexec rfl (hb hbytes d3) rfl ?_
    refine XS.iload X9.here hexec rfl (hb hbytes d5) rfl ?_
    refine XS.icmpYes X9.here hexec rfl (pc0 := 7) rfl (hb hbytes d7) rfl (ii_ge_t (nlt32 (by omega) (Nat.le_refl _))) (by decide) rfl ?_
    refine XS.iload X9.here hexec rfl (hb hbytes d44) rfl ?_
    exact Steps.refl _)
  exact ⟨T9, some (.int (Int32.ofNat len)), _, _, _, X9, by simp, rfl, rfl, (fun h => by cases h), ⟨rfl, B9, p9.from hh0, f9⟩, fun fs hl => c11.trans (X9.ireturnOut hexec hret rfl (Or.inl rfl) (hb hbytes d46) hl)⟩
end Cmp5
namespace Cmp3
def yN : MethodName := ⟨"java/lang/StringUTF16", "compress", "([CII)[B"⟩
abbrev yB : ByteArray := jdk_52_method_16_code
theorem d0 : decode yB 0 = .ok (.iload_n 2, 1) := by decide +kernel
theorem d1 : decode yB 1 = .ok (.newarray .byte, 2) := by decide +kernel
theorem d3 : decode yB 3 = .ok (.astore_n 3, 1) := by decide +kernel
theorem d4 : decode yB 4 = .ok (.aload_n 0, 1) := by decide +kernel
theorem d5 : decode yB 5 = .ok (.iload_n 1, 1) := by decide +kernel
theorem d6 : decode yB 6 = .ok (.aload_n 3, 1) := by decide +kernel
theorem d7 : decode yB 7 = .ok (.iconst 0, 1) := by decide +kernel
theorem d8 : decode yB 8 = .ok (.iload_n 2, 1) := by decide +kernel
theorem d9 : decode yB 9 = .ok (.invokestatic 115, 3) := by decide +kernel
theorem d12 : decode yB 12 = .ok (.istore 4, 2) := by decide +kernel
theorem d14 : decode yB 14 = .ok (.iload 4, 2) := by decide +kernel
theorem d16 : decode yB 16 = .ok (.iload_n 2, 1) := by decide +kernel
theorem d17 : decode yB 17 = .ok (.if_icmp (.eq) 40, 3) := by decide +kernel
theorem d57 : decode yB 57 = .ok (.aload_n 3, 1) := by decide +kernel
theorem d58 : decode yB 58 = .ok (.areturn, 1) := by decide +kernel
def site : List Cond := [.arrayClass .byte, Cmp5.tab] ++ staticW U16 115 Cmp5.yN
def tab : Cond := tabOf yN yB 6 (some (.array .byte)) site
def P (b : Addr) (A : Cell) (o len : Nat) (args : Array Value) (s : State) : Prop := args = #[.ref b, .int (Int32.ofNat o), .int (Int32.ofNat len)] ∧ Ch b A s ∧ o + len ≤ A.slots.size ∧ len ≤ 536870912 ∧ ∀ i, i < len → ¬ 255 < cv A (o + i)
def E (b : Addr) (A : Cell) (o len : Nat) (r : Option Value) (s u : State) : Prop := NewArr .byte "[B" len (fun j => .int (lo8 (cv A (o + j)))) r s u ∧ u.heap.size = s.heap.size + 1
/-- no char of the range above 255: a new byte[] of their low bytes -/
theorem law (l : Launch) (b : Addr) (A : Cell) (o len : Nat) : Law l yN 3 3 1 18 yB 6 (some (.array .byte)) site (P b A o len) (E b A o len) [] 1 len := by
  refine Law.of_walk (plainFor_of_name (by decide +kernel)) (by decide +kernel) (by decide +kernel) (by decide) (fun _ _ h => by rw [h.1]; rfl) (fun _ U U' hal hh h => ⟨h.1, h.2.1.mv hal hh, h.2.2⟩) (fun r U U' V V' h1 hal h2 h => ⟨NewArr.mv r U U' V V' h1 hal h2 h.1, by rw [h1, h2]; exact h.2⟩) ?_
  intro p e s m args below meth c s₁ X0 hexec hbytes hml hret hlk hnm hown hh0 W hP
  obtain ⟨rfl, hA, l1, l2, hp⟩ := hP
  have a31 := hA.1.2.2.2
  have c1 : Steps p.tables e below (s₁.setTop (entryFrame m #[.ref b, .int (Int32.ofNat o), .int (Int32.ofNat len)] 6)) (s₁.setTop (mkF m 0 #[.val (.ref b), .val (.int (Int32.ofNat o)), .val (.int (Int32.ofNat len)), .unset, .unset, .unset] [])) := entry rfl
  have c2 : Steps p.tables e below (s₁.setTop (entryFrame m #[.ref b, .int (Int32.ofNat o), .int (Int32.ofNat len)] 6)) (s₁.setTop (mkF m 1 #[.val (.ref b), .val (.int (Int32.ofNat o)), .val (.int (Int32.ofNat len)), .unset, .unset, .unset] [.int (Int32.ofNat len)])) := c1.trans (by
    refine XS.iloadN X0.here hexec rfl (hb hbytes d0) rfl ?_
    exact Steps.refl _)
  obtain ⟨T3, B3, X3, ba3, bs3, bv3, bh3, bf3, st3⟩ := X0.anew hexec (atype := .byte) (wk W (.arrayClass .byte)) rfl (by show len * 1 ≤ _; omega) (by omega) (g := (mkF m 1 #[.val (.ref b), .val (.int (Int32.ofNat o)), .val (.int (Int32.ofNat len)), .unset, .unset, .unset] [.int (Int32.ofNat len)])) rfl (hb hbytes d1) (rest := []) rfl (Nat.le_refl _) (by show 0 + len ≤ len; omega)
  rw [hh0] at ba3 st3
  have kp3 : XT.Kept s T3 := (XT.Kept.of_eq hh0).push bh3
  have hA3 := hA.keep X3.warmed.alike (kp3 _ _ hA.1.1)
  have hne : b ≠ s.heap.size := hA.1.ne
  have c4 : Steps p.tables e below (s₁.setTop (entryFrame m #[.ref b, .int (Int32.ofNat o), .int (Int32.ofNat len)] 6)) (T3.setTop (mkF m 3 #[.val (.ref b), .val (.int (Int32.ofNat o)), .val (.int (Int32.ofNat len)), .unset, .unset, .unset] [.ref s.heap.size])) := c2.trans (st3 _ (Steps.refl _))
  have c5 : Steps p.tables e below (s₁.setTop (entryFrame m #[.ref b, .int (Int32.ofNat o), .int (Int32.ofNat len)] 6)) (T3.setTop (mkF m 9 #[.val (.ref b), .val (.int (Int32.ofNat o)), .val (.int (Int32.ofNat len)), .val (.ref s.heap.size), .unset, .unset] [.int (Int32.ofNat len), .int 0, .ref s.heap.size, .int (Int32.ofNat o), .ref b])) := c4.trans (by
    refine XS.astoreN X3.here hexec rfl (hb hbytes d3) rfl rfl rfl ?_
    refine XS.aloadN X3.here hexec rfl (hb hbytes d4) rfl rfl ?_
    refine XS.iloadN X3.here hexec rfl (hb hbytes d5) rfl ?_
    refine XS.aloadN X3.here hexec rfl (hb hbytes d6) rfl rfl ?_
    refine iconstV X3.here hexec rfl 0 (hb hbytes d7) (by decide) ?_
    refine XS.iloadN X3.here hexec rfl (hb hbytes d8) rfl ?_
    exact Steps.refl _)
  obtain ⟨v6, T6, X6, E6, g6⟩ := X3.callS hexec (Cmp5.law l b A s.heap.size B3 o 0 len) hown (wks W (staticW U16 115 Cmp5.yN)) (wk W Cmp5.tab) (W := 0) (Nat.le_of_ble_eq_true rfl) (Nat.le_of_ble_eq_true rfl) (Nat.le_refl _) (by show 0 + len + 0 ≤ len; omega) (g := (mkF m 9 #[.val (.ref b), .val (.int (Int32.ofNat o)), .val (.int (Int32.ofNat len)), .val (.ref s.heap.size), .unset, .unset] [.int (Int32.ofNat len), .int (Int32.ofNat 0), .ref s.heap.size, .int (Int32.ofNat o), .ref b])) rfl (by rw [hml]; rfl) c5 (argsL := [.ref b, .int (Int32.ofNat o), .ref s.heap.size, .int (Int32.ofNat 0), .int (Int32.ofNat len)]) (rest := []) rfl rfl (by show 2 * 0 + 0 ≤ _; decide) (hb hbytes d9) (⟨rfl, hA3, ba3, hne, l1, by rw [bs3]; simp, hp⟩)
  obtain ⟨rfl, B6, p6, f6⟩ := E6
  have c7 : Steps p.tables e below (s₁.setTop (entryFrame m #[.ref b, .int (Int32.ofNat o), .int (Int32.ofNat len)] 6)) (T6.setTop (mkF m 12 #[.val (.ref b), .val (.int (Int32.ofNat o)), .val (.int (Int32.ofNat len)), .val (.ref s.heap.size), .unset, .unset] [.int (Int32.ofNat len)])) := g6
  have c8 : Steps p.tables e below (s₁.setTop (entryFrame m #[.ref b, .int (Int32.ofNat o), .int (Int32.ofNat len)] 6)) (T6.setTop (mkF m 58 #[.val (.ref b), .val (.int (Int32.ofNat o)), .val (.int (Int32.ofNat len)), .val (.ref s.heap.size), .val (.int (Int32.ofNat len)), .unset] [.ref s.heap.size])) := c7.trans (by
    refine XS.istore X6.here hexec rfl (hb hbytes d12) rfl rfl ?_
    refine XS.iload X6.here hexec rfl (hb hbytes d14) rfl ?_
    refine XS.iloadN X6.here hexec rfl (hb hbytes d16) rfl ?_
    refine XS.icmpYes X6.here hexec rfl (pc0 := 17) rfl (hb hbytes d17) rfl (ii_eq_t rfl) (by decide) rfl ?_
    refine XS.aloadN X6.here hexec rfl (hb hbytes d57) rfl rfl ?_
    exact Steps.refl _)
  have X8 := X6.wide (L' := []) (cells' := 1) (slots' := len) (fun x hx hlt => by
    simp only [List.nil_append, copyLocs, List.mem_map, List.mem_range] at hx
    obtain ⟨i, -, rfl⟩ := hx
    exact absurd hlt (Nat.lt_irrefl _)) (Nat.le_refl _) (by omega)
  exact ⟨T6, some (.ref s.heap.size), _, _, _, X8, rfl, rfl, rfl, (fun h => by cases h), ⟨⟨rfl, B6, ba3.like (X3.warmed.alike.symm.trans X6.warmed.alike) p6.1 f6.1 f6.2.1 f6.2.2.1, f6.2.1.trans bv3, by rw [X6.warmed.alike.findClass, f6.1]; exact bf3, by rw [f6.2.2.1, bs3]; simp, fun j hj => by rw [f6.2.2.2 j, if_pos (by omega)]; rfl, kp3.put p6 (Nat.le_refl _)⟩, by rw [p6.2.2, bh3, hh0]; simp⟩, fun fs hl => c8.trans (X8.areturnOut hexec rfl hret rfl (hb hbytes d58) hl)⟩
end Cmp3
namespace CodL
def yN : MethodName := ⟨"java/lang/StringUTF16", "coderFromArrayLen", "([BI)B"⟩
abbrev yB : ByteArray := jdk_52_method_15_code
theorem d0 : decode yB 0 = .ok (.iload_n 1, 1) := by decide +kernel
theorem d1 : decode yB 1 = .ok (.aload_n 0, 1) := by decide +kernel
theorem d2 : decode yB 2 = .ok (.arraylength, 1) := by decide +kernel
theorem d3 : decode yB 3 = .ok (.isub, 1) := by decide +kernel
theorem d4 : decode yB 4 = .ok (.bipush 31, 2) := by decide +kernel
theorem d6 : decode yB 6 = .ok (.iushr, 1) := by decide +kernel
theorem d7 : decode yB 7 = .ok (.i2b, 1) := by decide +kernel
theorem d8 : decode yB 8 = .ok (.ireturn, 1) := by decide +kernel
def site : List Cond := []
def tab : Cond := tabOf yN yB 2 (some .byte) site
def P (d : Addr) (B : Cell) (args : Array Value) (s : State) : Prop := args = #[.ref d, .int (Int32.ofNat B.slots.size)] ∧ Arr .byte d B s
def E (r : Option Value) (s u : State) : Prop := XT.PureE (some (.int 0)) r s u
/-- an array as long as the number of chars: LATIN1 -/
theorem law (l : Launch) (d : Addr) (B : Cell) : Law l yN 2 2 0 0 yB 2 (some .byte) site (P d B) E [] 0 0 := by
  refine Law.of_walk (plainFor_of_name (by decide +kernel)) (by decide +kernel) (by decide +kernel) (by decide) (fun _ _ h => by rw [h.1]; rfl) (fun _ U U' hal hh h => ⟨h.1, h.2.mv hal hh⟩) (fun r U U' V V' h1 hal h2 h => XT.PureE.mv r U U' V V' h1 hal h2 h) ?_
  intro p e s m args below meth c s₁ X0 hexec hbytes hml hret hlk hnm hown hh0 W hP
  obtain ⟨rfl, hB⟩ := hP
  have hB0 := hB.mv X0.warmed.alike hh0
  have c1 : Steps p.tables e below (s₁.setTop (entryFrame m #[.ref d, .int (Int32.ofNat B.slots.size)] 2)) (s₁.setTop (mkF m 0 #[.val (.ref d), .val (.int (Int32.ofNat B.slots.size))] [])) := entry rfl
  have c2 : Steps p.tables e below (s₁.setTop (entryFrame m #[.ref d, .int (Int32.ofNat B.slots.size)] 2)) (s₁.setTop (mkF m 2 #[.val (.ref d), .val (.int (Int32.ofNat B.slots.size))] [.ref d, .int (Int32.ofNat B.slots.size)])) := c1.trans (by
    refine XS.iloadN X0.here hexec rfl (hb hbytes d0) rfl ?_
    refine XS.aloadN X0.here hexec rfl (hb hbytes d1) rfl rfl ?_
    exact Steps.refl _)
  have c3 : Steps p.tables e below (s₁.setTop (entryFrame m #[.ref d, .int (Int32.ofNat B.slots.size)] 2)) (s₁.setTop (mkF m 8 #[.val (.ref d), .val (.int (Int32.ofNat B.slots.size))] [.int (lo8 (ushr (Int32.ofNat B.slots.size - Int32.ofNat B.slots.size) 31))])) := c2.trans (by
    refine X0.alen hexec hB0 rfl rfl (hb hbytes d2) ?_
    refine XS.isub X0.here hexec rfl (hb hbytes d3) rfl ?_
    refine bipushV X0.here hexec rfl 31 (hb hbytes d4) (by decide) ?_
    refine iushr X0.here hexec rfl (hb hbytes d6) rfl ?_
    refine i2b X0.here hexec rfl (hb hbytes d7) rfl ?_
    exact Steps.refl _)
  have e0 : lo8 (ushr (Int32.ofNat B.slots.size - Int32.ofNat B.slots.size) 31) = 0 := by rw [Int32.sub_self]; decide
  rw [e0] at c3
  exact ⟨s₁, some (.int 0), _, _, _, X0, rfl, rfl, rfl, (fun h => by cases h), ⟨rfl, hh0⟩, fun fs hl => c3.trans (X0.ireturnOut hexec hret rfl (Or.inr (Or.inr (Or.inl rfl))) (hb hbytes d8) hl)⟩
end CodL
/-- the String at a is Latin-1 over a new byte[] (the heap's one new cell): the low bytes of the len chars of A from o on; every cell but a is kept -/
def Got (a : Addr) (D : Cell) (fV fC : Field) (A : Cell) (o len : Nat) (r : Option Value) (s u : State) : Prop := r = none ∧ ∃ D' V : Cell, Blank "java/lang/String" a D' u ∧ Same D D' [fV.slot, fC.slot] ∧ D'.slots[fV.slot]? = some (.ref s.heap.size) ∧ D'.slots[fC.slot]? = some (.int 0) ∧ Arr .byte s.heap.size V u ∧ V.vm = .none ∧ u.vm.findClass "[B" = some V.cls ∧ V.slots.size = len ∧ (∀ j, j < len → V.slots[j]? = some (.int (lo8 (cv A (o + j))))) ∧ (∀ (y : Addr) (c : Cell), y ≠ a → s.heap[y]? = some c → u.heap[y]? = some c) ∧ u.heap.size = s.heap.size + 1
theorem Got.mv {a : Addr} {D A : Cell} {fV fC : Field} {o len : Nat} : ∀ r (U U' V V' : State), U'.heap = U.heap → V.vm.Alike V'.vm → V'.heap = V.heap → Got a D fV fC A o len r U V → Got a D fV fC A o len r U' V' :=
  fun r U U' V V' h1 hal h2 ⟨e0, D', X, a1, a2, a3, a4, a5, a6, a7, a8, a9, a10, a11⟩ => ⟨e0, D', X, a1.mv hal h2, a2, by rw [h1]; exact a3, a4, by rw [h1]; exact a5.mv hal h2, a6, by rw [hal.findClass]; exact a7, a8, a9, by rw [h1, h2]; exact a10, by rw [h1, h2]; exact a11⟩
namespace New4
def yN : MethodName := ⟨"java/lang/String", "<init>", "([CIILjava/lang/Void;)V"⟩
abbrev yB : ByteArray := jdk_42_method_149_code
theorem d0 : decode yB 0 = .ok (.aload_n 0, 1) := by decide +kernel
theorem d1 : decode yB 1 = .ok (.invokespecial 1, 3) := by decide +kernel
theorem d4 : decode yB 4 = .ok (.iload_n 3, 1) := by decide +kernel
theorem d5 : decode yB 5 = .ok (.ifCond (.ne) 22, 3) := by decide +kernel
theorem d27 : decode yB 27 = .ok (.getstatic 38, 3) := by decide +kernel
theorem d30 : decode yB 30 = .ok (.ifCond (.eq) 28, 3) := by decide +kernel
theorem d33 : decode yB 33 = .ok (.aload_n 1, 1) := by decide +kernel
theorem d34 : decode yB 34 = .ok (.iload_n 2, 1) := by decide +kernel
theorem d35 : decode yB 35 = .ok (.iload_n 3, 1) := by decide +kernel
theorem d36 : decode yB 36 = .ok (.invokestatic 177, 3) := by decide +kernel
theorem d39 : decode yB 39 = .ok (.astore 5, 2) := by decide +kernel
theorem d41 : decode yB 41 = .ok (.aload_n 0, 1) := by decide +kernel
theorem d42 : decode yB 42 = .ok (.aload 5, 2) := by decide +kernel
theorem d44 : decode yB 44 = .ok (.iload_n 3, 1) := by decide +kernel
theorem d45 : decode yB 45 = .ok (.invokestatic 47, 3) := by decide +kernel
theorem d48 : decode yB 48 = .ok (.putfield 15, 3) := by decide +kernel
theorem d51 : decode yB 51 = .ok (.aload_n 0, 1) := by decide +kernel
theorem d52 : decode yB 52 = .ok (.aload 5, 2) := by decide +kernel
theorem d54 : decode yB 54 = .ok (.putfield 9, 3) := by decide +kernel
theorem d57 : decode yB 57 = .ok (.return_, 1) := by decide +kernel
def site : List Cond := [.fieldLink "java/lang/String" 38 "java/lang/String" "COMPACT_STRINGS" "Z", Cmp3.tab, CodL.tab, .laysFinal "java/lang/String" "java/lang/String" "value" "[B", .fieldLink "java/lang/String" 9 "java/lang/String" "value" "[B", .laysFinal "java/lang/String" "java/lang/String" "coder" "B", .fieldLink "java/lang/String" 15 "java/lang/String" "coder" "B"] ++ objW "java/lang/String" 1 ++ staticW "java/lang/String" 177 Cmp3.yN ++ staticW "java/lang/String" 47 CodL.yN
def tab : Cond := tabOf yN yB 6 none site
def P (a : Addr) (D : Cell) (fV fC : Field) (b : Addr) (A : Cell) (z : Int32) (o len : Nat) (args : Array Value) (s : State) : Prop := args = #[.ref a, .ref b, .int (Int32.ofNat o), .int (Int32.ofNat len), .null] ∧ Blank "java/lang/String" a D s ∧ Found "java/lang/String" "value" "[B" fV s ∧ Found "java/lang/String" "coder" "B" fC s ∧ Ch b A s ∧ StaticIs s "java/lang/String" "COMPACT_STRINGS" "Z" (.int z) ∧ ¬ z = 0 ∧ 0 < len ∧ o + len ≤ A.slots.size ∧ len ≤ 536870912 ∧ ∀ i, i < len → ¬ 255 < cv A (o + i)
def E (a : Addr) (D : Cell) (fV fC : Field) (A : Cell) (o len : Nat) (r : Option Value) (s u : State) : Prop := Got a D fV fC A o len r s u
/-- len > 0, no char of the range above 255: a Latin-1 String of their low bytes -/
theorem law (l : Launch) (a : Addr) (D : Cell) (fV fC : Field) (b : Addr) (A : Cell) (z : Int32) (o len : Nat) : Law l yN 5 4 2 35 yB 6 none site (P a D fV fC b A z o len) (E a D fV fC A o len) [⟨a, fC.slot⟩, ⟨a, fV.slot⟩] 1 len := by
  refine Law.of_walk (plainFor_of_name (by decide +kernel)) (by decide +kernel) (by decide +kernel) (by decide) (fun _ _ h => by rw [h.1]; rfl) (fun _ U U' hal hh h => ⟨h.1, h.2.1.mv hal hh, h.2.2.1.al hal, h.2.2.2.1.al hal, h.2.2.2.2.1.mv hal hh, h.2.2.2.2.2.1.there hal hh, h.2.2.2.2.2.2⟩) (fun r U U' V V' h1 hal h2 h => Got.mv r U U' V V' h1 hal h2 h) ?_
  intro p e s m args below meth c s₁ X0 hexec hbytes hml hret hlk hnm hown hh0 W hP
  obtain ⟨rfl, hB, f1, f2, hA, s1, hz, l0, l1, l2, hp⟩ := hP
  have a31 := hA.1.2.2.2
  have c1 : Steps p.tables e below (s₁.setTop (entryFrame m #[.ref a, .ref b, .int (Int32.ofNat o), .int (Int32.ofNat len), .null] 6)) (s₁.setTop (mkF m 0 #[.val (.ref a), .val (.ref b), .val (.int (Int32.ofNat o)), .val (.int (Int32.ofNat len)), .val .null, .unset] [])) := entry rfl
  have c2 : Steps p.tables e below (s₁.setTop (entryFrame m #[.ref a, .ref b, .int (Int32.ofNat o), .int (Int32.ofNat len), .null] 6)) (s₁.setTop (mkF m 1 #[.val (.ref a), .val (.ref b), .val (.int (Int32.ofNat o)), .val (.int (Int32.ofNat len)), .val .null, .unset] [.ref a])) := c1.trans (by
    refine XS.aloadN X0.here hexec rfl (hb hbytes d0) rfl rfl ?_
    exact Steps.refl _)
  obtain ⟨T3, X3, q3, st3⟩ := X0.oinit hexec hown (wks W (objW "java/lang/String" 1)) (g := (mkF m 1 #[.val (.ref a), .val (.ref b), .val (.int (Int32.ofNat o)), .val (.int (Int32.ofNat len)), .val .null, .unset] [.ref a])) rfl (by rw [hml]; rfl) (rest := []) rfl (hb hbytes d1) (W := 0) (by show 2 * 0 + 0 ≤ _; decide) (Nat.le_of_ble_eq_true rfl) (Nat.le_of_ble_eq_true rfl)
  have hh3 := q3.trans hh0
  have c4 : Steps p.tables e below (s₁.setTop (entryFrame m #[.ref a, .ref b, .int (Int32.ofNat o), .int (Int32.ofNat len), .null] 6)) (T3.setTop (mkF m 27 #[.val (.ref a), .val (.ref b), .val (.int (Int32.ofNat o)), .val (.int (Int32.ofNat len)), .val .null, .unset] [])) := (c2.trans (st3 _ (Steps.refl _))).trans (by
    refine XS.iloadN X3.here hexec rfl (hb hbytes d4) rfl ?_
    refine XS.ifYes X3.here hexec rfl (pc0 := 5) rfl (hb hbytes d5) rfl (i0_ne_t (nz32 (by omega) l0)) (by decide) rfl ?_
    exact Steps.refl _)
  obtain ⟨T5, X5, q5, st5⟩ := X3.sget hexec hown (wk W (.fieldLink "java/lang/String" 38 "java/lang/String" "COMPACT_STRINGS" "Z")) s1 (fun _ _ h => by rw [hh3]; exact h) (g := (mkF m 27 #[.val (.ref a), .val (.ref b), .val (.int (Int32.ofNat o)), .val (.int (Int32.ofNat len)), .val .null, .unset] [])) rfl (hb hbytes d27)
  have hh5 := q5.trans hh3
  have c6 : Steps p.tables e below (s₁.setTop (entryFrame m #[.ref a, .ref b, .int (Int32.ofNat o), .int (Int32.ofNat len), .null] 6)) (T5.setTop (mkF m 30 #[.val (.ref a), .val (.ref b), .val (.int (Int32.ofNat o)), .val (.int (Int32.ofNat len)), .val .null, .unset] [.int z])) := c4.trans (st5 _ (Steps.refl _))
  have c7 : Steps p.tables e below (s₁.setTop (entryFrame m #[.ref a, .ref b, .int (Int32.ofNat o), .int (Int32.ofNat len), .null] 6)) (T5.setTop (mkF m 36 #[.val (.ref a), .val (.ref b), .val (.int (Int32.ofNat o)), .val (.int (Int32.ofNat len)), .val .null, .unset] [.int (Int32.ofNat len), .int (Int32.ofNat o), .ref b])) := c6.trans (by
    refine XS.ifNo X5.here hexec rfl (hb hbytes d30) rfl (i0_eq_f hz) ?_
    refine XS.aloadN X5.here hexec rfl (hb hbytes d33) rfl rfl ?_
    refine XS.iloadN X5.here hexec rfl (hb hbytes d34) rfl ?_
    refine XS.iloadN X5.here hexec rfl (hb hbytes d35) rfl ?_
    exact Steps.refl _)
  obtain ⟨v8, T8, X8, E8, g8⟩ := X5.callS hexec (Cmp3.law l b A o len) hown (wks W (staticW "java/lang/String" 177 Cmp3.yN)) (wk W Cmp3.tab) (W := 0) (Nat.le_of_ble_eq_true rfl) (Nat.le_of_ble_eq_true rfl) (Nat.le_refl _) (by show 0 + len ≤ len; omega) (g := (mkF m 36 #[.val (.ref a), .val (.ref b), .val (.int (Int32.ofNat o)), .val (.int (Int32.ofNat len)), .val .null, .unset] [.int (Int32.ofNat len), .int (Int32.ofNat o), .ref b])) rfl (by rw [hml]; rfl) c7 (argsL := [.ref b, .int (Int32.ofNat o), .int (Int32.ofNat len)]) (rest := []) rfl rfl (by show 2 * 0 + 0 ≤ _; decide) (hb hbytes d36) (⟨rfl, hA.mv X5.warmed.alike hh5, l1, l2, hp⟩)
  obtain ⟨e8, z8⟩ := E8
  obtain ⟨rfl, N, n1, n2, n3, n4, n5, n6⟩ := NewArr.mv _ T5 s _ _ hh5.symm (Vm.Alike.refl _) rfl e8
  rw [hh5] at z8
  have hB1 := hB.keep X8.warmed.alike (n6 _ _ hB.1)
  have hne : s.heap.size ≠ a := (Nat.ne_of_lt (Array.getElem?_eq_some_iff.mp hB.1).1).symm
  have c9 : Steps p.tables e below (s₁.setTop (entryFrame m #[.ref a, .ref b, .int (Int32.ofNat o), .int (Int32.ofNat len), .null] 6)) (T8.setTop (mkF m 39 #[.val (.ref a), .val (.ref b), .val (.int (Int32.ofNat o)), .val (.int (Int32.ofNat len)), .val .null, .unset] [.ref s.heap.size])) := g8
  have c10 : Steps p.tables e below (s₁.setTop (entryFrame m #[.ref a, .ref b, .int (Int32.ofNat o), .int (Int32.ofNat len), .null] 6)) (T8.setTop (mkF m 45 #[.val (.ref a), .val (.ref b), .val (.int (Int32.ofNat o)), .val (.int (Int32.ofNat len)), .val .null, .val (.ref s.heap.size)] [.int (Int32.ofNat N.slots.size), .ref s.heap.size, .ref a])) := by
    have hc : Steps p.tables e below (s₁.setTop (entryFrame m #[.ref a, .ref b, .int (Int32.ofNat o), .int (Int32.ofNat len), .null] 6)) (T8.setTop (mkF m 45 #[.val (.ref a), .val (.ref b), .val (.int (Int32.ofNat o)), .val (.int (Int32.ofNat len)), .val .null, .val (.ref s.heap.size)] [.int (Int32.ofNat len), .ref s.heap.size, .ref a])) := c9.trans (by
      refine XS.astore X8.here hexec rfl (hb hbytes d39) rfl rfl rfl ?_
      refine XS.aloadN X8.here hexec rfl (hb hbytes d41) rfl rfl ?_
      refine XS.aload X8.here hexec rfl (hb hbytes d42) rfl rfl ?_
      refine XS.iloadN X8.here hexec rfl (hb hbytes d44) rfl ?_
      exact Steps.refl _)
    rw [n4]; exact hc
  obtain ⟨v11, T11, X11, E11, g11⟩ := X8.callS hexec (CodL.law l s.heap.size N) hown (wks W (staticW "java/lang/String" 47 CodL.yN)) (wk W CodL.tab) (W := 1) (Nat.le_of_ble_eq_true rfl) (Nat.le_of_ble_eq_true rfl) (Nat.le_refl _) (by show 0 + len + 0 ≤ len; omega) (g := (mkF m 45 #[.val (.ref a), .val (.ref b), .val (.int (Int32.ofNat o)), .val (.int (Int32.ofNat len)), .val .null, .val (.ref s.heap.size)] [.int (Int32.ofNat N.slots.size), .ref s.heap.size, .ref a])) rfl (by rw [hml]; rfl) c10 (argsL := [.ref s.heap.size, .int (Int32.ofNat N.slots.size)]) (rest := [.ref a]) rfl rfl (by show 2 * 0 + (1 + 0) ≤ _; decide) (hb hbytes d45) (⟨rfl, n1⟩)
  obtain ⟨rfl, q11⟩ := E11
  have hB11 := hB1.mv (X8.warmed.alike.symm.trans X11.warmed.alike) q11
  have c12 : Steps p.tables e below (s₁.setTop (entryFrame m #[.ref a, .ref b, .int (Int32.ofNat o), .int (Int32.ofNat len), .null] 6)) (T11.setTop (mkF m 48 #[.val (.ref a), .val (.ref b), .val (.int (Int32.ofNat o)), .val (.int (Int32.ofNat len)), .val .null, .val (.ref s.heap.size)] [.int 0, .ref a])) := g11
  obtain ⟨T13, X13, p13, bl13, sl13, st13⟩ := X11.finit hexec hown (wk W (.fieldLink "java/lang/String" 15 "java/lang/String" "coder" "B")) (Or.inr ⟨_, (wk W (.laysFinal "java/lang/String" "java/lang/String" "coder" "B"))⟩) (Or.inl ⟨rfl, hnm⟩) f2 (Or.inl rfl) hB11 (t := .byte) (by decide +kernel) rfl (g := (mkF m 48 #[.val (.ref a), .val (.ref b), .val (.int (Int32.ofNat o)), .val (.int (Int32.ofNat len)), .val .null, .val (.ref s.heap.size)] [.int 0, .ref a])) rfl (rest := []) rfl (hb hbytes d48)
  have c14 : Steps p.tables e below (s₁.setTop (entryFrame m #[.ref a, .ref b, .int (Int32.ofNat o), .int (Int32.ofNat len), .null] 6)) (T13.setTop (mkF m 54 #[.val (.ref a), .val (.ref b), .val (.int (Int32.ofNat o)), .val (.int (Int32.ofNat len)), .val .null, .val (.ref s.heap.size)] [.ref s.heap.size, .ref a])) := (c12.trans (st13 _ (Steps.refl _))).trans (by
    refine XS.aloadN X13.here hexec rfl (hb hbytes d51) rfl rfl ?_
    refine XS.aload X13.here hexec rfl (hb hbytes d52) rfl rfl ?_
    exact Steps.refl _)
  obtain ⟨T15, X15, p15, bl15, sl15, st15⟩ := X13.finit hexec hown (wk W (.fieldLink "java/lang/String" 9 "java/lang/String" "value" "[B")) (Or.inr ⟨_, (wk W (.laysFinal "java/lang/String" "java/lang/String" "value" "[B"))⟩) (Or.inl ⟨rfl, hnm⟩) f1 (Or.inl rfl) bl13 (t := (.array .byte)) (by decide +kernel) rfl (g := (mkF m 54 #[.val (.ref a), .val (.ref b), .val (.int (Int32.ofNat o)), .val (.int (Int32.ofNat len)), .val .null, .val (.ref s.heap.size)] [.ref s.heap.size, .ref a])) rfl (rest := []) rfl (hb hbytes d54)
  have c16 : Steps p.tables e below (s₁.setTop (entryFrame m #[.ref a, .ref b, .int (Int32.ofNat o), .int (Int32.ofNat len), .null] 6)) (T15.setTop (mkF m 57 #[.val (.ref a), .val (.ref b), .val (.int (Int32.ofNat o)), .val (.int (Int32.ofNat len)), .val .null, .val (.ref s.heap.size)] [])) := c14.trans (st15 _ (Steps.refl _))
  have ap := apart (Or.inr ⟨_, (wk W (.laysFinal "java/lang/String" "java/lang/String" "value" "[B"))⟩) (Or.inr ⟨_, (wk W (.laysFinal "java/lang/String" "java/lang/String" "coder" "B"))⟩) f1 f2 (t₁ := .array .byte) (t₂ := .byte) (by decide +kernel) (by decide +kernel) (by decide)
  have al := X8.warmed.alike.symm.trans X15.warmed.alike
  have n7 : T11.heap[s.heap.size]? = some N := by rw [q11]; exact n1.1
  exact ⟨T15, none, _, _, _, X15, by simp, rfl, by omega, (fun _ => rfl), ⟨rfl, _, N, bl15, ((Same.refl D _).set _ (by simp)).set _ (by simp), sl15, (Cell.slots_setSlot_ne _ ap).trans sl13, n1.keep al (p15.other hne (p13.other hne n7)), n2, by rw [al.findClass]; exact n3, n4, n5, fun y c h1 h2 => p15.other h1 (p13.other h1 (by rw [q11]; exact n6 y c h2)), by rw [p15.2.2, p13.2.2, q11]; exact z8⟩, fun fs hl => c16.trans (X15.returnOut hexec hret (hb hbytes d57) hl)⟩
end New4
namespace New1
def yN : MethodName := ⟨"java/lang/String", "<init>", "([C)V"⟩
abbrev yB : ByteArray := jdk_42_method_3_code
theorem d0 : decode yB 0 = .ok (.aload_n 0, 1) := by decide +kernel
theorem d1 : decode yB 1 = .ok (.aload_n 1, 1) := by decide +kernel
theorem d2 : decode yB 2 = .ok (.iconst 0, 1) := by decide +kernel
theorem d3 : decode yB 3 = .ok (.aload_n 1, 1) := by decide +kernel
theorem d4 : decode yB 4 = .ok (.arraylength, 1) := by decide +kernel
theorem d5 : decode yB 5 = .ok (.aconst_null, 1) := by decide +kernel
theorem d6 : decode yB 6 = .ok (.invokespecial 27, 3) := by decide +kernel
theorem d9 : decode yB 9 = .ok (.return_, 1) := by decide +kernel
def site : List Cond := [New4.tab] ++ initW "java/lang/String" 27 New4.yN
def tab : Cond := tabOf yN yB 2 none site
def P (a : Addr) (D : Cell) (fV fC : Field) (b : Addr) (A : Cell) (z : Int32) (args : Array Value) (s : State) : Prop := args = #[.ref a, .ref b] ∧ Blank "java/lang/String" a D s ∧ Found "java/lang/String" "value" "[B" fV s ∧ Found "java/lang/String" "coder" "B" fC s ∧ Ch b A s ∧ StaticIs s "java/lang/String" "COMPACT_STRINGS" "Z" (.int z) ∧ ¬ z = 0 ∧ 0 < A.slots.size ∧ A.slots.size ≤ 536870912 ∧ ∀ i, i < A.slots.size → ¬ 255 < cv A i
def E (a : Addr) (D : Cell) (fV fC : Field) (A : Cell) (r : Option Value) (s u : State) : Prop := Got a D fV fC A 0 A.slots.size r s u
/-- new String(chars), not empty, no char above 255: a Latin-1 String of their low bytes -/
theorem law (l : Launch) (a : Addr) (D : Cell) (fV fC : Field) (b : Addr) (A : Cell) (z : Int32) : Law l yN 2 1 3 52 yB 2 none site (P a D fV fC b A z) (E a D fV fC A) [⟨a, fC.slot⟩, ⟨a, fV.slot⟩] 1 A.slots.size := by
  refine Law.of_walk (plainFor_of_name (by decide +kernel)) (by decide +kernel) (by decide +kernel) (by decide) (fun _ _ h => by rw [h.1]; rfl) (fun _ U U' hal hh h => ⟨h.1, h.2.1.mv hal hh, h.2.2.1.al hal, h.2.2.2.1.al hal, h.2.2.2.2.1.mv hal hh, h.2.2.2.2.2.1.there hal hh, h.2.2.2.2.2.2⟩) (fun r U U' V V' h1 hal h2 h => Got.mv r U U' V V' h1 hal h2 h) ?_
  intro p e s m args below meth c s₁ X0 hexec hbytes hml hret hlk hnm hown hh0 W hP
  obtain ⟨rfl, hB, f1, f2, hA, s1, hz, l0, l2, hp⟩ := hP
  have c1 : Steps p.tables e below (s₁.setTop (entryFrame m #[.ref a, .ref b] 2)) (s₁.setTop (mkF m 0 #[.val (.ref a), .val (.ref b)] [])) := entry rfl
  have c2 : Steps p.tables e below (s₁.setTop (entryFrame m #[.ref a, .ref b] 2)) (s₁.setTop (mkF m 6 #[.val (.ref a), .val (.ref b)] [.null, .int (Int32.ofNat A.slots.size), .int 0, .ref b, .ref a])) := c1.trans (by
    refine XS.aloadN X0.here hexec rfl (hb hbytes d0) rfl rfl ?_
    refine XS.aloadN X0.here hexec rfl (hb hbytes d1) rfl rfl ?_
    refine iconstV X0.here hexec rfl 0 (hb hbytes d2) (by decide) ?_
    refine XS.aloadN X0.here hexec rfl (hb hbytes d3) rfl rfl ?_
    refine X0.alen hexec (hA.1.mv X0.warmed.alike hh0) rfl rfl (hb hbytes d4) ?_
    refine XS.aconstNull X0.here hexec rfl (hb hbytes d5) ?_
    exact Steps.refl _)
  obtain ⟨v3, T3, X3, E3, g3⟩ := X0.callN hexec (New4.law l a D fV fC b A z 0 A.slots.size) rfl hown (wks W (initW "java/lang/String" 27 New4.yN)) (W New4.tab (by simp only [site, List.mem_cons, List.mem_append, true_or, or_true])) (W := 0) (Nat.le_of_ble_eq_true rfl) (Nat.le_of_ble_eq_true rfl) (Nat.le_refl _) (by show 0 + A.slots.size ≤ A.slots.size; omega) (g := (mkF m 6 #[.val (.ref a), .val (.ref b)] [.null, .int (Int32.ofNat A.slots.size), .int (Int32.ofNat 0), .ref b, .ref a])) rfl (by rw [hml]; rfl) c2 (argsL := [.ref b, .int (Int32.ofNat 0), .int (Int32.ofNat A.slots.size), .null]) (rest := []) rfl rfl (by show 2 * 0 + 0 ≤ _; decide) (hb hbytes d6) (⟨rfl, hB.mv X0.warmed.alike hh0, f1.al X0.warmed.alike, f2.al X0.warmed.alike, hA.mv X0.warmed.alike hh0, s1.there X0.warmed.alike hh0, hz, l0, by omega, l2, fun i hi => by rw [Nat.zero_add]; exact hp i hi⟩)
  have e0 := Got.mv _ s₁ s _ _ hh0.symm (Vm.Alike.refl _) rfl E3
  obtain rfl := e0.1
  have c4 : Steps p.tables e below (s₁.setTop (entryFrame m #[.ref a, .ref b] 2)) (T3.setTop (mkF m 9 #[.val (.ref a), .val (.ref b)] [])) := g3
  exact ⟨T3, none, _, _, _, X3, by simp, rfl, by omega, (fun _ => rfl), e0, fun fs hl => c4.trans (X3.returnOut hexec hret (hb hbytes d9) hl)⟩
theorem pays {l : Launch} {R : Room} {p : Program} {e : Env} {below : List Frame} {s : State} {sargs : Array Value} {len W : Nat} (a : Addr) (D : Cell) (fV fC : Field) (b : Addr) (A : Cell) (z : Int32) (htab : tab.before sargs s = true) (hfr : 4 ≤ R.frames) (hlo : W + 65 ≤ R.locals) :
    Back l R p e below s sargs yN len W (fun A₁ a₁ => A₁.cells + 1 ≤ R.cells ∧ A₁.slots + A.slots.size ≤ R.slots ∧ P a D fV fC b A z a₁ A₁.U) (fun A₁ _ v₁ B₁ => E a D fV fC A v₁ A₁.U B₁.U ∧ B₁.locs = A₁.locs ++ [⟨a, fC.slot⟩, ⟨a, fV.slot⟩] ∧ B₁.cells = A₁.cells + 1 ∧ B₁.slots = A₁.slots + A.slots.size) :=
  (law l a D fV fC b A z).pays htab hfr (by omega)
end New1
/-- the byte, read back as charAt reads it, is the char -/
theorem lo8_mask {x : Int32} (h0 : ¬ x < 0) (h1 : ¬ 255 < x) : lo8 x &&& 255 = x := by
  have t : ∀ k : Fin 256, lo8 (Int32.ofNat k.val) &&& 255 = Int32.ofNat k.val := by decide +kernel
  rw [Int32.lt_iff_toInt_lt] at h0 h1
  have e0 : (0 : Int32).toInt = 0 := rfl
  have e1 : (255 : Int32).toInt = 255 := rfl
  obtain ⟨k, hk⟩ : ∃ k : Nat, x.toInt = k := ⟨x.toInt.toNat, by omega⟩
  have hx : x = Int32.ofNat k := Int32.toInt_inj.mp (by rw [hk, Int32.toInt_ofNat_small (by omega)])
  rw [hx]
  exact t ⟨k, by omega⟩
end StrChars
namespace StrChars.Road
open Jvm Sem ClassFile Op Lib Jvm.Stand Jvm.Free Jvm.Free.XT
open Jvm.Lib.Cold (StaticIs)
abbrev ST : String := "java/lang/String"
/-- every table word that New1's law asks, flat -/
abbrev words : List Jvm.Cond := [.code New1.yN New1.yB 2 none, .initialized ST, .methodLink ST 27 New4.yN, .instanceMethod New4.yN,
  .code New4.yN New4.yB 6 none, .fieldLink ST 38 ST "COMPACT_STRINGS" "Z", .laysFinal ST ST "value" "[B", .fieldLink ST 9 ST "value" "[B", .laysFinal ST ST "coder" "B", .fieldLink ST 15 ST "coder" "B",
  .methodLink ST 1 Lib.objectInit, .instanceMethod Lib.objectInit, .code Lib.objectInit ⟨#[0xb1]⟩ 1 none, .methodLink ST 177 Cmp3.yN, .static Cmp3.yN, .methodLink ST 47 CodL.yN, .static CodL.yN,
  .code Cmp3.yN Cmp3.yB 6 (some (.array .byte)), .initialized U16, .arrayClass .byte, .methodLink U16 115 Cmp5.yN, .static Cmp5.yN, .code Cmp5.yN Cmp5.yB 7 (some .int), .code CodL.yN CodL.yB 2 (some .byte)]
theorem tab_of {a : Array Value} {s : State} (h : ∀ w ∈ words, w.before a s = true) : New1.tab.before a s = true := by
  have h5 : Cmp5.tab.before a s = true := unparts (wk h (.code Cmp5.yN Cmp5.yB 7 (some .int))) (wks h (.initialized Cmp5.yN.cls :: Cmp5.site))
  have hc : CodL.tab.before a s = true := unparts (wk h (.code CodL.yN CodL.yB 2 (some .byte))) (wks h (.initialized CodL.yN.cls :: CodL.site))
  have q5 : ∀ w ∈ Cmp5.tab :: words, w.before a s = true := fun w hw => (List.mem_cons.mp hw).elim (fun e => e ▸ h5) (h w)
  have h3 : Cmp3.tab.before a s = true := unparts (wk q5 (.code Cmp3.yN Cmp3.yB 6 (some (.array .byte)))) (wks q5 (.initialized Cmp3.yN.cls :: Cmp3.site))
  have q3 : ∀ w ∈ Cmp3.tab :: CodL.tab :: words, w.before a s = true := fun w hw => (List.mem_cons.mp hw).elim (fun e => e ▸ h3) fun hw => (List.mem_cons.mp hw).elim (fun e => e ▸ hc) (h w)
  have h4 : New4.tab.before a s = true := unparts (wk q3 (.code New4.yN New4.yB 6 none)) (wks q3 (.initialized New4.yN.cls :: New4.site))
  have q4 : ∀ w ∈ New4.tab :: words, w.before a s = true := fun w hw => (List.mem_cons.mp hw).elim (fun e => e ▸ h4) (h w)
  exact unparts (wk q4 (.code New1.yN New1.yB 2 none)) (wks q4 (.initialized New1.yN.cls :: New1.site))
/-- the words ride from the start Z to the walk's own state -/
theorem moved {Z s : State} {a0 args : Array Value} (hZ : Z.Warmed39 s.vm) (hw : ∀ d ∈ words, d.before a0 Z = true) : ∀ d ∈ words, d.before args s = true := fun d hd => by
  have q := hw d hd
  have t : ∀ d ∈ words, d = .arrayClass .byte ∨ (d.onTables && d.keepsFace) = true := by decide +kernel
  rcases t d hd with rfl | t
  · exact RoadKit.mvA hZ q
  · exact RoadKit.mv hZ q t
/-- WHAT COMES BACK, over the tables of the start Z: h the heap at the call, h' behind it -/
def Q (Z : State) (x : Addr) (A : Cell) (h : Heap) (v : Option Value) (h' : Heap) (L : List Loc) : Prop := v = none ∧ (∀ y ∈ L, y.base = x) ∧ RoadKit.Keep h h' [x] ∧ h'.size = h.size + 1 ∧ RoadKit.Exa Z h' x ST ∧ RoadKit.Fld Z h' x ST "value" "[B" (.ref h.size) ∧ RoadKit.Fld Z h' x ST "coder" "B" (.int 0) ∧
  (∃ V : Cell, RoadKit.Arr Z h' h.size V .byte ∧ V.vm = .none ∧ Z.vm.findClass "[B" = some V.cls ∧ V.slots.size = A.slots.size ∧ ∀ j, j < A.slots.size → V.slots[j]? = some (.int (lo8 (cv A j)))) ∧
  ∀ (O n d : String) (w : Value), RoadKit.Fld Z h x O n d w → RoadKit.slotOf Z O n d ≠ RoadKit.slotOf Z ST "value" "[B" → RoadKit.slotOf Z O n d ≠ RoadKit.slotOf Z ST "coder" "B" → RoadKit.Fld Z h' x O n d w
/-- **new String(chars) AT A CALL, IN THE ROAD'S FORM**: for specialBack behind newO: x the fresh String, b the char[] with the cell A -/
theorem back {p : Program} {l : Launch} {e : Env} {R : Room} {s : State} {args : Array Value} {below : List Frame} {len W : Nat} {Z : State} {a0 : Array Value} {h : Heap} (hZ : Z.Warmed39 s.vm) (hw : ∀ d ∈ words, d.before a0 Z = true) {kI : Nat} (wi : (Jvm.Cond.instantiable ST kI).before a0 Z = true)
    {x b : Addr} {A : Cell} {z : Int32} {v0 c0 : Value} (E : RoadKit.Exa Z h x ST) (V : RoadKit.Fld Z h x ST "value" "[B" v0) (C : RoadKit.Fld Z h x ST "coder" "B" c0) (K : RoadKit.Arr Z h b A .char) (hty : Typed .char A) (S : RoadKit.Sta Z h ST "COMPACT_STRINGS" "Z" (.int z)) (hz : ¬ z = 0)
    (l0 : 0 < A.slots.size) (l2 : A.slots.size ≤ 536870912) (hp : ∀ i, i < A.slots.size → ¬ 255 < cv A i) (hfr : 4 ≤ R.frames) (hlo : W + 65 ≤ R.locals) :
    Back l R p e below s args New1.yN len W (fun P a => a = #[.ref x, .ref b] ∧ P.U.heap = h ∧ P.cells + 1 ≤ R.cells ∧ P.slots + A.slots.size ≤ R.slots)
      (fun P _ v B => ∃ L, Q Z x A h v B.U.heap L ∧ B.locs = P.locs ++ L ∧ B.cells = P.cells + 1 ∧ B.slots = P.slots + A.slots.size) := by
  intro m meth c P g ig mk a X hg hsize hdg hW hn hp'
  obtain ⟨rfl, rfl, r1, r2⟩ := hp'
  have al : Z.vm.Alike P.U.vm := hZ.alike.trans X.warmed.alike
  obtain ⟨D, cfV, kV, iV, fV, hD, gV, stV, knV, obV, asV, slV⟩ := id V
  obtain ⟨D', cfC, kC, iC, fC, hD', gC, stC, -, -, asC, slC⟩ := id C
  cases hD.symm.trans hD'
  obtain ⟨D2, kD, e1, e2, e3, e4, e5⟩ := id E
  cases hD.symm.trans e1
  obtain ⟨c2, k2, i1, i2, i3, -⟩ := Cond.instantiable_spec wi
  cases e2.symm.trans i1
  cases e3.symm.trans i2
  obtain ⟨kU, u1, u2⟩ := al.2.2 _ _ e3
  have hB : Blank ST x D P.U := ⟨hD, ⟨knV, fun q hq => by rw [hq] at obV; cases obV⟩, by rw [al.findClass]; exact e2, kU, u1, by rw [u2]; exact i3, by rw [u2]; exact e5 i3⟩
  have F1 : Found ST "value" "[B" fV P.U := ⟨SBG.found_only al ⟨cfV, kV, iV, gV⟩, stV⟩
  have F2 : Found ST "coder" "B" fC P.U := ⟨SBG.found_only al ⟨cfC, kC, iC, gC⟩, stC⟩
  have hA : Ch b A P.U := ⟨⟨K.1, State.isArrayOf_alike al K.2.1, K.2.2, by omega⟩, hty⟩
  have hS : StaticIs P.U ST "COMPACT_STRINGS" "Z" (.int z) := by
    obtain ⟨cfS, iS, kS, fS, st, cS, t1, t2, t3, t4, t5, t6, t7⟩ := S
    exact StaticIs.there (s := { Z with heap := P.U.heap }) ⟨cfS, iS, kS, fS, st, cS, t1, t2, t3, t4, t5, (fun q => by rw [q] at t6; cases t6), t7⟩ al rfl
  obtain ⟨v, B, X', ⟨⟨hv, E', V', q1, q2, q3, q4, q5, q6, q7, q8, q9, q10, q11⟩, hl, hc, hs⟩, st⟩ := New1.pays x D fV fC b A z (tab_of (moved hZ hw)) hfr hlo m meth c P g ig mk _ X hg hsize hdg hW hn ⟨r1, r2, rfl, hB, F1, F2, hA, hS, hz, l0, l2, hp⟩
  have al' : Z.vm.Alike B.U.vm := hZ.alike.trans X'.warmed.alike
  have hsz : E'.slots.size = D.slots.size := by
    obtain ⟨-, -, -, kB, w1, w2, w3⟩ := q1
    obtain ⟨kB', y1, y2⟩ := al'.2.2 _ _ e3
    rw [q2.2.1] at w1
    cases w1.symm.trans y1
    rw [w3, e5 i3, y2]
  refine ⟨v, B, X', ⟨_, ⟨hv, ?_, ⟨by omega, fun y cy hy hn' => q10 y cy (by simpa using hn') hy, fun y cy hy => ?_⟩, q11, ⟨E', _, q1.1, by rw [q2.2.1]; exact e2, by rw [q2.2.1]; exact e3, by rw [q2.1]; exact obV, fun _ => by rw [hsz]; exact e5 i3⟩,
    ⟨E', cfV, kV, iV, fV, q1.1, gV, stV, by rw [q2.1]; exact knV, by rw [q2.1]; exact obV, by rw [q2.2.1]; exact asV, q3⟩, ⟨E', cfC, kC, iC, fC, q1.1, gC, stC, by rw [q2.1]; exact knV, by rw [q2.1]; exact obV, by rw [q2.2.1]; exact asC, q4⟩,
    ⟨V', ⟨q5.1, State.isArrayOf_alike al'.symm q5.2.1, q5.2.2.1⟩, q6, by rw [← al'.findClass]; exact q7, q8, fun j hj => by have := q9 j hj; rwa [Nat.zero_add] at this⟩, fun O n d w F n1 n2 => ?_⟩, hl, hc, hs⟩, st⟩
  · intro y hy
    simp only [List.mem_cons, List.not_mem_nil, or_false] at hy
    rcases hy with rfl | rfl <;> rfl
  · by_cases q : y = x
    · subst q
      cases hD.symm.trans hy
      exact ⟨E', q1.1, q2.2.1, q2.1, hsz⟩
    · exact ⟨cy, q10 y cy q hy, rfl, rfl, rfl⟩
  · obtain ⟨D3, cf, k, i, f, g1, g2, g3, g4, g5, g6, g7⟩ := F
    cases hD.symm.trans g1
    simp only [RoadKit.slotOf, g2, gV, gC, Option.map_some, Option.getD_some] at n1 n2
    exact ⟨E', cf, k, i, f, q1.1, g2, g3, by rw [q2.1]; exact g4, by rw [q2.1]; exact g5, by rw [q2.2.1]; exact g6, by rw [q2.2.2 f.slot (by simp [n1, n2])]; exact g7⟩
end StrChars.Road
namespace StrChars.Road
open Jvm Sem ClassFile Op Lib Jvm.Stand Jvm.Free Jvm.Free.XT
/-- WHAT COMES BACK, the byte[] as a list of values -/
def QA (Z : State) (x : Addr) (zn : Int32) (cs : List Int32) (h : Heap) (v : Option Value) (h' : Heap) (L : List Loc) : Prop := v = none ∧ (∀ y ∈ L, y.base = x) ∧ RoadKit.Keep h h' [x] ∧ h'.size = h.size + 1 ∧ RoadKit.Exa Z h' x ST ∧ RoadKit.Fld Z h' x ST "value" "[B" (.ref h.size) ∧ RoadKit.Fld Z h' x ST "coder" "B" (.int 0) ∧
  (∃ kb, Z.vm.findClass "[B" = some kb ∧ RoadKit.Arv Z h' h.size kb .byte zn (cs.map fun c => .int (lo8 c)) (.int 0)) ∧
  ∀ (O n d : String) (w : Value), RoadKit.Fld Z h x O n d w → RoadKit.slotOf Z O n d ≠ RoadKit.slotOf Z ST "value" "[B" → RoadKit.slotOf Z O n d ≠ RoadKit.slotOf Z ST "coder" "B" → RoadKit.Fld Z h' x O n d w
/-- **new String(chars) AT A CALL, THE ARRAYS AS LISTS**: the char[] at b holds cs, not empty, no char above 255 -/
theorem backArv {p : Program} {l : Launch} {e : Env} {R : Room} {s : State} {args : Array Value} {below : List Frame} {len W : Nat} {Z : State} {a0 : Array Value} {h : Heap} (hZ : Z.Warmed39 s.vm) (hw : ∀ d ∈ words, d.before a0 Z = true) {kI : Nat} (wi : (Jvm.Cond.instantiable ST kI).before a0 Z = true)
    {x b : Addr} {k : ClassId} {zn z : Int32} {cs : List Int32} {dv v0 c0 : Value} (E : RoadKit.Exa Z h x ST) (V : RoadKit.Fld Z h x ST "value" "[B" v0) (C : RoadKit.Fld Z h x ST "coder" "B" c0) (K : RoadKit.Arv Z h b k .char zn (cs.map Value.int) dv) (S : RoadKit.Sta Z h ST "COMPACT_STRINGS" "Z" (.int z)) (hz : ¬ z = 0)
    (hlen : zn.toNatClampNeg = cs.length) (h0 : 0 < cs.length) (hbig : cs.length ≤ 536870912) (hall : ∀ c ∈ cs, ¬ 255 < c) (hfr : 4 ≤ R.frames) (hlo : W + 65 ≤ R.locals) :
    Back l R p e below s args New1.yN len W (fun P a => a = #[.ref x, .ref b] ∧ P.U.heap = h ∧ P.cells + 1 ≤ R.cells ∧ P.slots + cs.length ≤ R.slots)
      (fun P _ v B => ∃ L, QA Z x zn cs h v B.U.heap L ∧ B.locs = P.locs ++ L ∧ B.cells = P.cells + 1 ∧ B.slots = P.slots + cs.length) := by
  obtain ⟨A, K1, K2, K3, K4, K5, K6⟩ := K
  have e : A.slots.size = cs.length := K3.trans hlen
  have hat : ∀ (i : Nat) (hi : i < cs.length), A.slots[i]? = some (.int cs[i]) := fun i hi => by rw [K5 i (by omega)]; simp [List.getD_eq_getElem?_getD, hi]
  have hcv : ∀ (i : Nat) (hi : i < cs.length), cv A i = cs[i] := fun i hi => by unfold cv; rw [hat i hi]
  have hty : Typed .char A := fun i v hv => by
    have hi : i < A.slots.size := (Array.getElem?_eq_some_iff.mp hv).1
    have q := K5 i hi
    rw [hv] at q
    rw [Option.some.inj q]
    exact K6 i hi
  refine Back.mono (back hZ hw wi E V C K1 hty S hz (by omega) (by omega) (fun i hi => by rw [hcv i (by omega)]; exact hall _ (List.getElem_mem _)) hfr hlo) (fun P a hp => ⟨hp.1, hp.2.1, hp.2.2.1, by rw [e]; exact hp.2.2.2⟩) (fun P a v B hp hq => ?_)
  obtain ⟨L, ⟨q1, q2, q3, q4, q5, q6, q7, ⟨V', v1, v2, v3, v4, v5⟩, q9⟩, hl, hc, hs⟩ := hq
  refine ⟨L, ⟨q1, q2, q3, q4, q5, q6, q7, ⟨V'.cls, v3, V', v1, rfl, by rw [v4, e, hlen], K4, fun i hi => ?_, fun i hi => ?_⟩, q9⟩, hl, hc, by rw [hs, e]⟩
  · have hi' : i < cs.length := by omega
    rw [v5 i (by omega), hcv i hi']; simp [List.getD_eq_getElem?_getD, hi']
  · have hi' : i < cs.length := by omega
    simp only [List.getD_eq_getElem?_getD, List.getElem?_map, List.getElem?_eq_getElem hi', Option.map_some, Option.getD_some]
    exact fits_lo8 _
end StrChars.Road
namespace StrChars.Road
open Jvm Sem ClassFile Op Lib Jvm.Stand Jvm.Free Jvm.Free.XT
/-- WHAT COMES BACK, in the writer's own shape -/
def QV (Z : State) (x : Addr) (N : Int32) (bs : List Int32) (h : Heap) (n0 : Nat) (v : Option Value) (h' : Heap) (L : List Loc) : Prop := v = none ∧ RoadKit.Fr n0 L ∧ RoadKit.Keep h h' [x] ∧ RoadKit.Exa Z h' x ST ∧ RoadKit.Fld Z h' x ST "coder" "B" (.int 0) ∧
  ∃ (t : Addr) (kb : ClassId), n0 ≤ t ∧ h.size ≤ t ∧ ¬ t = x ∧ RoadKit.Fld Z h' x ST "value" "[B" (.ref t) ∧ RoadKit.Arv Z h' t kb .byte N (bs.map Value.int) (.int 0)
/-- **new String(chars) AT A CALL, FOR THE WRITER**: a char[] of n known ints, each 0 to 255 -/
theorem backV {p : Program} {l : Launch} {e : Env} {R : Room} {s : State} {args : Array Value} {below : List Frame} {len W : Nat} {Z : State} {a0 : Array Value} {h : Heap} (hZ : Z.Warmed39 s.vm) (hw : ∀ d ∈ words, d.before a0 Z = true) {kI : Nat} (wi : (Jvm.Cond.instantiable ST kI).before a0 Z = true)
    {x b : Addr} {kC : ClassId} {cs bs : List Int32} {d v0 c0 : Value} {z N : Int32} {n n0 : Nat} (hx0 : n0 ≤ x) (hh0 : n0 ≤ h.size) (E : RoadKit.Exa Z h x ST) (V : RoadKit.Fld Z h x ST "value" "[B" v0) (C : RoadKit.Fld Z h x ST "coder" "B" c0) (K : RoadKit.Arv Z h b kC .char N (cs.map Value.int) d) (S : RoadKit.Sta Z h ST "COMPACT_STRINGS" "Z" (.int z)) (hz : ¬ z = 0)
    (hn : cs.length = n) (hN : N = Int32.ofNat n) (l0 : 0 < n) (l2 : n ≤ 4000) (hp : ∀ c ∈ cs, ¬ c < 0 ∧ ¬ (255 : Int32) < c) (hb : bs = cs.map (fun c => c.toInt8.toInt32)) (hfr : 4 ≤ R.frames) (hlo : W + 65 ≤ R.locals) :
    Back l R p e below s args (⟨"java/lang/String", "<init>", "([C)V"⟩ : MethodName) len W (fun P a => a = #[.ref x, .ref b] ∧ P.U.heap = h ∧ P.cells + 1 ≤ R.cells ∧ P.slots + n ≤ R.slots)
      (fun P _ v B => ∃ L, QV Z x N bs h n0 v B.U.heap L ∧ B.locs = P.locs ++ L ∧ B.cells = P.cells + 1 ∧ B.slots = P.slots + n) := by
  subst hn hN hb
  refine Back.mono (backArv hZ hw wi E V C K S hz (n32 (by omega)) l0 (by omega) (fun c hc => (hp c hc).2) hfr hlo) (fun P a hp => hp) (fun P a v B hp hq => ?_)
  obtain ⟨L, ⟨q1, q2, q3, q4, q5, q6, q7, ⟨kb, v1, v2⟩, q9⟩, hl, hc, hs⟩ := hq
  exact ⟨L, ⟨q1, fun y hy => by rw [q2 y hy]; exact hx0, q3, q5, q7, h.size, kb, hh0, Nat.le_refl _, Nat.ne_of_gt E.lt, q6, by rw [List.map_map]; exact v2⟩, hl, hc, hs⟩
end StrChars.Road
namespace StrChars
open Jvm Sem ClassFile Op Lib Jvm.Stand Jvm.Free.XT Jvm.Free.ALB Jvm.Free.JM Jvm.Free
open Jvm.Lib.Cold (StaticIs)
def hi8 (x : Int32) : Int32 := lo8 (x >>> ((8 : Int32) &&& 31))
/-- what StringUTF16.getChar makes of two bytes -/
def pairCh (u v : Int32) : Int32 := (((u &&& 255) <<< ((0 : Int32) &&& 31)) ||| ((v &&& 255) <<< ((8 : Int32) &&& 31))).toUInt32.toUInt16.toUInt32.toInt32
theorem shr0 (c : Int32) : c >>> ((0 : Int32) &&& 31) = c := by
  have e : ((0 : Int32) &&& 31) = 0 := by decide
  rw [e]
  apply Int32.toBitVec_inj.mp
  rw [Int32.toBitVec_shiftRight]
  have e1 : ((0 : Int32).toBitVec.smod 32) = 0#32 := by decide
  rw [e1, BitVec.sshiftRight_eq']
  exact BitVec.sshiftRight_zero
theorem lo8_and (x : Int32) : (lo8 x &&& 255).toBitVec.toNat = x.toBitVec.toNat % 256 := by
  have h : (lo8 x).toBitVec = (x.toBitVec.signExtend 8).signExtend 32 := by rw [lo8, Int8.toBitVec_toInt32, Int32.toBitVec_toInt8]
  rw [Int32.toBitVec_and, BitVec.toNat_and, h]
  have e : ((x.toBitVec.signExtend 8).signExtend 32).toNat % 256 = x.toBitVec.toNat % 256 := by
    rw [BitVec.toNat_signExtend]
    have hlt := x.toBitVec.isLt
    simp only [BitVec.toNat_setWidth, BitVec.toNat_signExtend]
    split <;> split <;> omega
  rw [← e]
  exact Nat.and_two_pow_sub_one_eq_mod _ 8
theorem pair_says {c : Int32} (h0 : ¬ c < 0) (h1 : ¬ 65535 < c) : pairCh (lo8 c) (hi8 c) = c := by
  rw [Int32.lt_iff_toInt_lt] at h0 h1
  have e0 : (0 : Int32).toInt = 0 := rfl
  have e1 : (65535 : Int32).toInt = 65535 := rfl
  have hc : c.toInt = c.toBitVec.toNat := by
    have := c.toBitVec.isLt
    have e : c.toInt = c.toBitVec.toInt := rfl
    rw [e] at h0 h1
    rw [e]
    rw [BitVec.toInt_eq_toNat_cond] at h0 h1 ⊢
    split at h0 <;> split <;> omega
  have hn : c.toBitVec.toNat < 65536 := by omega
  have a1 := lo8_and c
  have a2 : (hi8 c &&& 255).toBitVec.toNat = c.toBitVec.toNat / 256 := by
    rw [hi8, lo8_and]
    have e : ((8 : Int32) &&& 31) = 8 := by decide
    rw [e, Int32.toBitVec_shiftRight]
    have e2 : ((8 : Int32).toBitVec.smod 32) = 8#32 := by decide
    rw [e2, BitVec.sshiftRight_eq', BitVec.toNat_sshiftRight_of_msb_false (by rw [BitVec.msb_eq_false_iff_two_mul_lt]; omega)]
    show c.toBitVec.toNat >>> 8 % 256 = _
    rw [Nat.shiftRight_eq_div_pow]
    omega
  unfold pairCh
  apply Int32.toBitVec_inj.mp
  apply BitVec.eq_of_toNat_eq
  have f0 : ((0 : Int32) &&& 31) = 0 := by decide
  have f8 : ((8 : Int32) &&& 31) = 8 := by decide
  rw [f0, f8]
  have g : (((lo8 c &&& 255) <<< (0 : Int32)) ||| ((hi8 c &&& 255) <<< (8 : Int32))).toBitVec.toNat = c.toBitVec.toNat := by
    rw [Int32.toBitVec_or, Int32.toBitVec_shiftLeft, Int32.toBitVec_shiftLeft]
    have s0 : ((0 : Int32).toBitVec.smod 32) = 0#32 := by decide
    have s8 : ((8 : Int32).toBitVec.smod 32) = 8#32 := by decide
    rw [s0, s8, BitVec.toNat_or]
    simp only [BitVec.shiftLeft_eq', BitVec.toNat_shiftLeft, a1, a2]
    show (c.toBitVec.toNat % 256) <<< 0 % 2 ^ 32 ||| (c.toBitVec.toNat / 256) <<< 8 % 2 ^ 32 = _
    rw [Nat.shiftLeft_zero, Nat.mod_eq_of_lt (show c.toBitVec.toNat % 256 < 2 ^ 32 by omega), Nat.mod_eq_of_lt (show (c.toBitVec.toNat / 256) <<< 8 < 2 ^ 32 by rw [Nat.shiftLeft_eq]; omega), Nat.or_comm, ← Nat.shiftLeft_add_eq_or_of_lt (by omega), Nat.shiftLeft_eq]
    omega
  show BitVec.toNat (((((lo8 c &&& 255) <<< (0 : Int32)) ||| ((hi8 c &&& 255) <<< (8 : Int32))).toBitVec.setWidth 16).setWidth 32) = _
  rw [BitVec.toNat_setWidth, BitVec.toNat_setWidth, g]
  omega
end StrChars
namespace StrChars
open Jvm Sem ClassFile Op Lib Jvm.Stand Jvm.Free.XT Jvm.Free.ALB Jvm.Free.JM Jvm.Free
open Jvm.Lib.Cold (StaticIs)
theorem shr1 {n : Nat} (h : 2 * n < 2 ^ 31) : Int32.ofNat (2 * n) >>> ((1 : Int32) &&& 31) = Int32.ofNat n := by
  have e : ((1 : Int32) &&& 31) = 1 := by decide
  rw [e]
  apply Int32.toBitVec_inj.mp
  rw [Int32.toBitVec_shiftRight]
  have e1 : ((1 : Int32).toBitVec.smod 32) = 1#32 := by decide
  have hm : (BitVec.ofNat 32 (2 * n)).toNat = 2 * n := by rw [BitVec.toNat_ofNat, Nat.mod_eq_of_lt (by omega)]
  rw [e1, BitVec.sshiftRight_eq']
  apply BitVec.eq_of_toNat_eq
  show ((BitVec.ofNat 32 (2 * n)).sshiftRight 1).toNat = (BitVec.ofNat 32 n).toNat
  rw [BitVec.toNat_sshiftRight_of_msb_false (by rw [BitVec.msb_eq_false_iff_two_mul_lt, hm]; omega), hm, BitVec.toNat_ofNat, Nat.shiftRight_eq_div_pow]
  omega
/-- charAt's cast of a byte read back -/
def chr8 (u : Int32) : Int32 := (u &&& 255).toUInt32.toUInt16.toUInt32.toInt32
theorem chr8_lo8 {c : Int32} (h0 : ¬ c < 0) (h1 : ¬ 255 < c) : chr8 (lo8 c) = c := by
  have t : ∀ k : Fin 256, (Int32.ofNat k.val).toUInt32.toUInt16.toUInt32.toInt32 = Int32.ofNat k.val := by decide +kernel
  unfold chr8
  rw [lo8_mask h0 h1]
  rw [Int32.lt_iff_toInt_lt] at h0 h1
  have e0 : (0 : Int32).toInt = 0 := rfl
  have e1 : (255 : Int32).toInt = 255 := rfl
  obtain ⟨k, hk⟩ : ∃ k : Nat, c.toInt = k := ⟨c.toInt.toNat, by omega⟩
  have hx : c = Int32.ofNat k := Int32.toInt_inj.mp (by rw [hk, Int32.toInt_ofNat_small (by omega)])
  rw [hx]
  exact t ⟨k, by omega⟩
theorem narrow_ch {c : Int32} (h0 : ¬ c < 0) (h1 : ¬ 65535 < c) : narrow .char (.int c) = .int c := by
  have q : narrow .char (.int (pairCh (lo8 c) (hi8 c))) = .int (pairCh (lo8 c) (hi8 c)) := narrow_c _
  rwa [pair_says h0 h1] at q
/-- the array's cell V codes the n chars f 0 .. f (n - 1) by the coder cd, as the JDK does: coder 1 just where some char is above 255 -/
def Cod (cd : Int32) (n : Nat) (f : Nat → Int32) (V : Cell) : Prop := (cd = 0 ∧ V.slots.size = n ∧ ∀ j, j < n → V.slots[j]? = some (.int (lo8 (f j))) ∧ ¬ 255 < f j) ∨ (cd = 1 ∧ V.slots.size = 2 * n ∧ (∀ j, j < n → V.slots[2 * j]? = some (.int (lo8 (f j))) ∧ V.slots[2 * j + 1]? = some (.int (hi8 (f j)))) ∧ ∃ j, j < n ∧ 255 < f j)
theorem Cod.cd {cd : Int32} {n : Nat} {f : Nat → Int32} {V : Cell} (h : Cod cd n f V) : cd = 0 ∨ cd = 1 := h.imp (fun q => q.1) fun q => q.1
theorem Cod.len {cd : Int32} {n : Nat} {f : Nat → Int32} {V : Cell} (h : Cod cd n f V) (hs : V.slots.size < 2 ^ 31) : Int32.ofNat V.slots.size >>> (cd &&& 31) = Int32.ofNat n := by
  rcases h with ⟨rfl, h, -⟩ | ⟨rfl, h, -⟩
  · rw [shr0, h]
  · rw [h, shr1 (by omega)]
/-- **x is a String of the n chars f 0 .. f (n - 1)**, Latin-1 or UTF-16; its array at t has the cell V -/
def Txt (x t : Addr) (V : Cell) (cd : Int32) (n : Nat) (f : Nat → Int32) (U : State) : Prop := Exact "java/lang/String" x U ∧ Has x "java/lang/String" "value" "[B" (.ref t) U ∧ Has x "java/lang/String" "coder" "B" (.int cd) U ∧ XT.Arr .byte t V U ∧ Cod cd n f V ∧ ∀ j, j < n → ¬ f j < 0 ∧ ¬ 65535 < f j
theorem Txt.mv {x t : Addr} {V : Cell} {cd : Int32} {n : Nat} {f : Nat → Int32} {U U' : State} (h : Txt x t V cd n f U) (hal : U.vm.Alike U'.vm) (hh : U'.heap = U.heap) : Txt x t V cd n f U' := ⟨h.1.mv hal hh, h.2.1.mv hal hh, h.2.2.1.mv hal hh, h.2.2.2.1.mv hal hh, h.2.2.2.2⟩
namespace Cdr
def yN : MethodName := ⟨"java/lang/String", "coder", "()B"⟩
abbrev yB : ByteArray := jdk_42_method_152_code
theorem d0 : decode yB 0 = .ok (.getstatic 38, 3) := by decide +kernel
theorem d3 : decode yB 3 = .ok (.ifCond (.eq) 10, 3) := by decide +kernel
theorem d6 : decode yB 6 = .ok (.aload_n 0, 1) := by decide +kernel
theorem d7 : decode yB 7 = .ok (.getfield 15, 3) := by decide +kernel
theorem d10 : decode yB 10 = .ok (.goto 4, 3) := by decide +kernel
theorem d14 : decode yB 14 = .ok (.ireturn, 1) := by decide +kernel
def site : List Cond := [.fieldLink "java/lang/String" 38 "java/lang/String" "COMPACT_STRINGS" "Z", .fieldLink "java/lang/String" 15 "java/lang/String" "coder" "B"]
def tab : Cond := tabOf yN yB 1 (some .byte) site
def P (x : Addr) (cd z : Int32) (args : Array Value) (s : State) : Prop := args = #[.ref x] ∧ Has x "java/lang/String" "coder" "B" (.int cd) s ∧ (cd = 0 ∨ cd = 1) ∧ StaticIs s "java/lang/String" "COMPACT_STRINGS" "Z" (.int z) ∧ ¬ z = 0
def E (cd : Int32) (r : Option Value) (s u : State) : Prop := XT.PureE (some (.int cd)) r s u
theorem law (l : Launch) (x : Addr) (cd z : Int32) : Law l yN 1 0 0 0 yB 1 (some .byte) site (P x cd z) (E cd) [] 0 0 := by
  refine Law.of_walk (plainFor_of_name (by decide +kernel)) (by decide +kernel) (by decide +kernel) (by decide) (fun _ _ h => by rw [h.1]; rfl) (fun _ U U' hal hh h => ⟨h.1, h.2.1.mv hal hh, h.2.2.1, h.2.2.2.1.there hal hh, h.2.2.2.2⟩) (fun r U U' V V' h1 hal h2 h => XT.PureE.mv r U U' V V' h1 hal h2 h) ?_
  intro p e s m args below meth c s₁ X0 hexec hbytes hml hret hlk hnm hown hh0 W hP
  obtain ⟨rfl, hx, hc, s1, hz⟩ := hP
  have c1 : Steps p.tables e below (s₁.setTop (entryFrame m #[.ref x] 1)) (s₁.setTop (mkF m 0 #[.val (.ref x)] [])) := entry rfl
  obtain ⟨T2, X2, q2, st2⟩ := X0.sget hexec hown (wk W (.fieldLink "java/lang/String" 38 "java/lang/String" "COMPACT_STRINGS" "Z")) s1 (fun _ _ h => by rw [hh0]; exact h) (g := (mkF m 0 #[.val (.ref x)] [])) rfl (hb hbytes d0)
  have hh2 := q2.trans hh0
  have c3 : Steps p.tables e below (s₁.setTop (entryFrame m #[.ref x] 1)) (T2.setTop (mkF m 7 #[.val (.ref x)] [.ref x])) := (c1.trans (st2 _ (Steps.refl _))).trans (by
    refine XS.ifNo X2.here hexec rfl (hb hbytes d3) rfl (i0_eq_f hz) ?_
    refine XS.aloadN X2.here hexec rfl (hb hbytes d6) rfl rfl ?_
    exact Steps.refl _)
  obtain ⟨T4, X4, q4, st4⟩ := X2.hget hexec hown (wk W (.fieldLink "java/lang/String" 15 "java/lang/String" "coder" "B")) (hx.mv X2.warmed.alike hh2) (g := (mkF m 7 #[.val (.ref x)] [.ref x])) rfl (rest := []) rfl (hb hbytes d7)
  have c5 : Steps p.tables e below (s₁.setTop (entryFrame m #[.ref x] 1)) (T4.setTop (mkF m 14 #[.val (.ref x)] [.int cd])) := (c3.trans (st4 _ (Steps.refl _))).trans (by
    refine XS.goto X4.here hexec rfl (pc0 := 10) rfl (hb hbytes d10) (by decide) rfl ?_
    exact Steps.refl _)
  exact ⟨T4, some (.int cd), _, _, _, X4, rfl, rfl, rfl, (fun h => by cases h), ⟨rfl, q4.trans hh2⟩, fun fs hl => c5.trans (X4.ireturnOut hexec hret (by rcases hc with rfl | rfl <;> rfl) (Or.inr (Or.inr (Or.inl rfl))) (hb hbytes d14) hl)⟩
end Cdr
namespace Len
def yN : MethodName := ⟨"java/lang/String", "length", "()I"⟩
abbrev yB : ByteArray := jdk_42_method_54_code
theorem d0 : decode yB 0 = .ok (.aload_n 0, 1) := by decide +kernel
theorem d1 : decode yB 1 = .ok (.getfield 9, 3) := by decide +kernel
theorem d4 : decode yB 4 = .ok (.arraylength, 1) := by decide +kernel
theorem d5 : decode yB 5 = .ok (.aload_n 0, 1) := by decide +kernel
theorem d6 : decode yB 6 = .ok (.invokevirtual 335, 3) := by decide +kernel
theorem d9 : decode yB 9 = .ok (.ishr, 1) := by decide +kernel
theorem d10 : decode yB 10 = .ok (.ireturn, 1) := by decide +kernel
def site : List Cond := [.fieldLink "java/lang/String" 9 "java/lang/String" "value" "[B", Cdr.tab] ++ virtW "java/lang/String" 335 "java/lang/String" Cdr.yN Cdr.yN
def tab : Cond := tabOf yN yB 1 (some .int) site
def P (x t : Addr) (V : Cell) (cd : Int32) (n : Nat) (f : Nat → Int32) (z : Int32) (args : Array Value) (s : State) : Prop := args = #[.ref x] ∧ Txt x t V cd n f s ∧ StaticIs s "java/lang/String" "COMPACT_STRINGS" "Z" (.int z) ∧ ¬ z = 0
def E (n : Nat) (r : Option Value) (s u : State) : Prop := XT.PureE (some (.int (Int32.ofNat n))) r s u
/-- length() of a String of n chars, in either coding -/
theorem law (l : Launch) (x t : Addr) (V : Cell) (cd : Int32) (n : Nat) (f : Nat → Int32) (z : Int32) : Law l yN 1 0 1 13 yB 1 (some .int) site (P x t V cd n f z) (E n) [] 0 0 := by
  refine Law.of_walk (plainFor_of_name (by decide +kernel)) (by decide +kernel) (by decide +kernel) (by decide) (fun _ _ h => by rw [h.1]; rfl) (fun _ U U' hal hh h => ⟨h.1, h.2.1.mv hal hh, h.2.2.1.there hal hh, h.2.2.2⟩) (fun r U U' V V' h1 hal h2 h => XT.PureE.mv r U U' V V' h1 hal h2 h) ?_
  intro p e s m args below meth c s₁ X0 hexec hbytes hml hret hlk hnm hown hh0 W hP
  obtain ⟨rfl, hx, s1, hz⟩ := hP
  have v31 := hx.2.2.2.1.2.2.2
  have c1 : Steps p.tables e below (s₁.setTop (entryFrame m #[.ref x] 1)) (s₁.setTop (mkF m 1 #[.val (.ref x)] [.ref x])) := Steps.trans (entry rfl) (by
    show Steps p.tables e below (s₁.setTop (mkF m 0 #[.val (.ref x)] [])) _
    refine XS.aloadN X0.here hexec rfl (hb hbytes d0) rfl rfl ?_
    exact Steps.refl _)
  obtain ⟨T2, X2, q2, st2⟩ := X0.hget hexec hown (wk W (.fieldLink "java/lang/String" 9 "java/lang/String" "value" "[B")) (hx.mv X0.warmed.alike hh0).2.1 (g := (mkF m 1 #[.val (.ref x)] [.ref x])) rfl (rest := []) rfl (hb hbytes d1)
  have hh2 := q2.trans hh0
  have hx2 := hx.mv X2.warmed.alike hh2
  have c3 : Steps p.tables e below (s₁.setTop (entryFrame m #[.ref x] 1)) (T2.setTop (mkF m 6 #[.val (.ref x)] [.ref x, .int (Int32.ofNat V.slots.size)])) := (c1.trans (st2 _ (Steps.refl _))).trans (by
    refine X2.alen hexec hx2.2.2.2.1 rfl rfl (hb hbytes d4) ?_
    refine XS.aloadN X2.here hexec rfl (hb hbytes d5) rfl rfl ?_
    exact Steps.refl _)
  obtain ⟨v4, T4, X4, E4, g4⟩ := X2.callV hexec (Cdr.law l x cd z) hown (wks W (virtW "java/lang/String" 335 "java/lang/String" Cdr.yN Cdr.yN)) rfl (by decide) (wk W Cdr.tab) (W := 1) (Nat.le_of_ble_eq_true rfl) (Nat.le_of_ble_eq_true rfl) (Nat.le_refl _) (Nat.le_refl _) (hx2.1.fc X2.warmed.alike) hx2.1.is (g := (mkF m 6 #[.val (.ref x)] [.ref x, .int (Int32.ofNat V.slots.size)])) rfl (by rw [hml]; rfl) c3 (argsL := []) (rest := [.int (Int32.ofNat V.slots.size)]) rfl rfl (by show 2 * 0 + (1 + 0) ≤ _; decide) (hb hbytes d6) (⟨rfl, hx2.2.2.1, hx.2.2.2.2.1.cd, s1.there X2.warmed.alike hh2, hz⟩)
  obtain ⟨rfl, q4⟩ := E4
  have c5 : Steps p.tables e below (s₁.setTop (entryFrame m #[.ref x] 1)) (T4.setTop (mkF m 10 #[.val (.ref x)] [.int (Int32.ofNat V.slots.size >>> (cd &&& 31))])) := Steps.trans g4 (by
    refine ishr X4.here hexec rfl (hb hbytes d9) rfl ?_
    exact Steps.refl _)
  rw [hx.2.2.2.2.1.len v31] at c5
  exact ⟨T4, some (.int (Int32.ofNat n)), _, _, _, X4, rfl, rfl, rfl, (fun h => by cases h), ⟨rfl, q4.trans hh2⟩, fun fs hl => c5.trans (X4.ireturnOut hexec hret rfl (Or.inl rfl) (hb hbytes d10) hl)⟩
theorem pays {l : Launch} {R : Room} {p : Program} {e : Env} {below : List Frame} {s : State} {sargs : Array Value} {len W : Nat} (x t : Addr) (V : Cell) (cd : Int32) (n : Nat) (f : Nat → Int32) (z : Int32) (htab : tab.before sargs s = true) (hfr : 2 ≤ R.frames) (hlo : W + 25 ≤ R.locals) :
    Back l R p e below s sargs yN len W (fun A₁ a₁ => A₁.cells + 0 ≤ R.cells ∧ A₁.slots + 0 ≤ R.slots ∧ P x t V cd n f z a₁ A₁.U) (fun A₁ _ v₁ B₁ => E n v₁ A₁.U B₁.U ∧ B₁.locs = A₁.locs ++ [] ∧ B₁.cells = A₁.cells + 0 ∧ B₁.slots = A₁.slots + 0) :=
  (law l x t V cd n f z).pays htab hfr (by omega)
end Len
namespace IsL
def yN : MethodName := ⟨"java/lang/String", "isLatin1", "()Z"⟩
abbrev yB : ByteArray := jdk_42_method_154_code
theorem d0 : decode yB 0 = .ok (.getstatic 38, 3) := by decide +kernel
theorem d3 : decode yB 3 = .ok (.ifCond (.eq) 14, 3) := by decide +kernel
theorem d6 : decode yB 6 = .ok (.aload_n 0, 1) := by decide +kernel
theorem d7 : decode yB 7 = .ok (.getfield 15, 3) := by decide +kernel
theorem d10 : decode yB 10 = .ok (.ifCond (.ne) 7, 3) := by decide +kernel
theorem d13 : decode yB 13 = .ok (.iconst 1, 1) := by decide +kernel
theorem d14 : decode yB 14 = .ok (.goto 4, 3) := by decide +kernel
theorem d17 : decode yB 17 = .ok (.iconst 0, 1) := by decide +kernel
theorem d18 : decode yB 18 = .ok (.ireturn, 1) := by decide +kernel
def site : List Cond := [.fieldLink "java/lang/String" 38 "java/lang/String" "COMPACT_STRINGS" "Z", .fieldLink "java/lang/String" 15 "java/lang/String" "coder" "B"]
def tab : Cond := tabOf yN yB 1 (some .boolean) site
def P (x : Addr) (cd z : Int32) (args : Array Value) (s : State) : Prop := args = #[.ref x] ∧ Has x "java/lang/String" "coder" "B" (.int cd) s ∧ (cd = 0 ∨ cd = 1) ∧ StaticIs s "java/lang/String" "COMPACT_STRINGS" "Z" (.int z) ∧ ¬ z = 0
def E (cd : Int32) (r : Option Value) (s u : State) : Prop := XT.PureE (some (.int (1 - cd))) r s u
theorem law (l : Launch) (x : Addr) (cd z : Int32) : Law l yN 1 0 0 0 yB 1 (some .boolean) site (P x cd z) (E cd) [] 0 0 := by
  refine Law.of_walk (plainFor_of_name (by decide +kernel)) (by decide +kernel) (by decide +kernel) (by decide) (fun _ _ h => by rw [h.1]; rfl) (fun _ U U' hal hh h => ⟨h.1, h.2.1.mv hal hh, h.2.2.1, h.2.2.2.1.there hal hh, h.2.2.2.2⟩) (fun r U U' V V' h1 hal h2 h => XT.PureE.mv r U U' V V' h1 hal h2 h) ?_
  intro p e s m args below meth c s₁ X0 hexec hbytes hml hret hlk hnm hown hh0 W hP
  obtain ⟨rfl, hx, hc, s1, hz⟩ := hP
  have c1 : Steps p.tables e below (s₁.setTop (entryFrame m #[.ref x] 1)) (s₁.setTop (mkF m 0 #[.val (.ref x)] [])) := entry rfl
  obtain ⟨T2, X2, q2, st2⟩ := X0.sget hexec hown (wk W (.fieldLink "java/lang/String" 38 "java/lang/String" "COMPACT_STRINGS" "Z")) s1 (fun _ _ h => by rw [hh0]; exact h) (g := (mkF m 0 #[.val (.ref x)] [])) rfl (hb hbytes d0)
  have hh2 := q2.trans hh0
  have c3 : Steps p.tables e below (s₁.setTop (entryFrame m #[.ref x] 1)) (T2.setTop (mkF m 7 #[.val (.ref x)] [.ref x])) := (c1.trans (st2 _ (Steps.refl _))).trans (by
    refine XS.ifNo X2.here hexec rfl (hb hbytes d3) rfl (i0_eq_f hz) ?_
    refine XS.aloadN X2.here hexec rfl (hb hbytes d6) rfl rfl ?_
    exact Steps.refl _)
  obtain ⟨T4, X4, q4, st4⟩ := X2.hget hexec hown (wk W (.fieldLink "java/lang/String" 15 "java/lang/String" "coder" "B")) (hx.mv X2.warmed.alike hh2) (g := (mkF m 7 #[.val (.ref x)] [.ref x])) rfl (rest := []) rfl (hb hbytes d7)
  have c5 : Steps p.tables e below (s₁.setTop (entryFrame m #[.ref x] 1)) (T4.setTop (mkF m 10 #[.val (.ref x)] [.int cd])) := c3.trans (st4 _ (Steps.refl _))
  have c6 : Steps p.tables e below (s₁.setTop (entryFrame m #[.ref x] 1)) (T4.setTop (mkF m 18 #[.val (.ref x)] [.int (1 - cd)])) := by
    rcases hc with rfl | rfl
    · exact c5.trans (by
        refine XS.ifNo X4.here hexec rfl (hb hbytes d10) rfl (i0_ne_f rfl) ?_
        refine iconstV X4.here hexec rfl 1 (hb hbytes d13) (by decide) ?_
        refine XS.goto X4.here hexec rfl (pc0 := 14) rfl (hb hbytes d14) (by decide) rfl ?_
        exact Steps.refl _)
    · exact c5.trans (by
        refine XS.ifYes X4.here hexec rfl (pc0 := 10) rfl (hb hbytes d10) rfl (i0_ne_t (by decide)) (by decide) rfl ?_
        refine iconstV X4.here hexec rfl 0 (hb hbytes d17) (by decide) ?_
        exact Steps.refl _)
  exact ⟨T4, some (.int (1 - cd)), _, _, _, X4, rfl, rfl, rfl, (fun h => by cases h), ⟨rfl, q4.trans hh2⟩, fun fs hl => c6.trans (X4.ireturnOut hexec hret (by rcases hc with rfl | rfl <;> rfl) (Or.inr (Or.inl rfl)) (hb hbytes d18) hl)⟩
end IsL
namespace LChA
def yN : MethodName := ⟨"java/lang/StringLatin1", "charAt", "([BI)C"⟩
abbrev yB : ByteArray := jdk_43_method_2_code
theorem d0 : decode yB 0 = .ok (.iload_n 1, 1) := by decide +kernel
theorem d1 : decode yB 1 = .ok (.aload_n 0, 1) := by decide +kernel
theorem d2 : decode yB 2 = .ok (.arraylength, 1) := by decide +kernel
theorem d3 : decode yB 3 = .ok (.invokestatic 9, 3) := by decide +kernel
theorem d6 : decode yB 6 = .ok (.aload_n 0, 1) := by decide +kernel
theorem d7 : decode yB 7 = .ok (.iload_n 1, 1) := by decide +kernel
theorem d8 : decode yB 8 = .ok (.baload, 1) := by decide +kernel
theorem d9 : decode yB 9 = .ok (.sipush 255, 3) := by decide +kernel
theorem d12 : decode yB 12 = .ok (.iand, 1) := by decide +kernel
theorem d13 : decode yB 13 = .ok (.i2c, 1) := by decide +kernel
theorem d14 : decode yB 14 = .ok (.ireturn, 1) := by decide +kernel
def site : List Cond := [JO.Str_checkIndex.tab] ++ staticW "java/lang/StringLatin1" 9 JO.Str_checkIndex.yN
def tab : Cond := tabOf yN yB 2 (some .char) site
def P (t : Addr) (V : Cell) (i : Nat) (u : Int32) (fm : Value) (args : Array Value) (s : State) : Prop := args = #[.ref t, .int (Int32.ofNat i)] ∧ XT.Arr .byte t V s ∧ V.slots[i]? = some (.int u) ∧ (StaticIs s "jdk/internal/util/Preconditions" "SIOOBE_FORMATTER" "Ljava/util/function/BiFunction;" fm ∧ fm.isRef = true)
def E (u : Int32) (r : Option Value) (s w : State) : Prop := XT.PureE (some (.int (chr8 u))) r s w
theorem law (l : Launch) (t : Addr) (V : Cell) (i : Nat) (u : Int32) (fm : Value) : Law l yN 2 2 2 27 yB 2 (some .char) site (P t V i u fm) (E u) [] 0 0 := by
  refine Law.of_walk (plainFor_of_name (by decide +kernel)) (by decide +kernel) (by decide +kernel) (by decide) (fun _ _ h => by rw [h.1]; rfl) (fun _ U U' hal hh h => ⟨h.1, h.2.1.mv hal hh, h.2.2.1, h.2.2.2.1.there hal hh, h.2.2.2.2⟩) (fun r U U' V V' h1 hal h2 h => XT.PureE.mv r U U' V V' h1 hal h2 h) ?_
  intro p e s m args below meth c s₁ X0 hexec hbytes hml hret hlk hnm hown hh0 W hP
  obtain ⟨rfl, hV, hu, s1, rf⟩ := hP
  have v31 := hV.2.2.2
  have hi : i < V.slots.size := (Array.getElem?_eq_some_iff.mp hu).1
  have c1 : Steps p.tables e below (s₁.setTop (entryFrame m #[.ref t, .int (Int32.ofNat i)] 2)) (s₁.setTop (mkF m 0 #[.val (.ref t), .val (.int (Int32.ofNat i))] [])) := entry rfl
  have c2 : Steps p.tables e below (s₁.setTop (entryFrame m #[.ref t, .int (Int32.ofNat i)] 2)) (s₁.setTop (mkF m 3 #[.val (.ref t), .val (.int (Int32.ofNat i))] [.int (Int32.ofNat V.slots.size), .int (Int32.ofNat i)])) := c1.trans (by
    refine XS.iloadN X0.here hexec rfl (hb hbytes d0) rfl ?_
    refine XS.aloadN X0.here hexec rfl (hb hbytes d1) rfl rfl ?_
    refine X0.alen hexec (hV.mv X0.warmed.alike hh0) rfl rfl (hb hbytes d2) ?_
    exact Steps.refl _)
  obtain ⟨v3, T3, X3, E3, g3⟩ := X0.callS hexec (JO.Str_checkIndex.law l (Int32.ofNat i) (Int32.ofNat V.slots.size) fm) hown (wks W (staticW "java/lang/StringLatin1" 9 JO.Str_checkIndex.yN)) (wk W JO.Str_checkIndex.tab) (W := 0) (Nat.le_of_ble_eq_true rfl) (Nat.le_of_ble_eq_true rfl) (Nat.le_refl _) (Nat.le_refl _) (g := (mkF m 3 #[.val (.ref t), .val (.int (Int32.ofNat i))] [.int (Int32.ofNat V.slots.size), .int (Int32.ofNat i)])) rfl (by rw [hml]; rfl) c2 (argsL := [.int (Int32.ofNat i), .int (Int32.ofNat V.slots.size)]) (rest := []) rfl rfl (by show 2 * 0 + 0 ≤ _; decide) (hb hbytes d3) (⟨rfl, rf, s1.there X0.warmed.alike hh0, Int32.ofNat_not_neg (by omega), lt32 v31 hi⟩)
  obtain ⟨rfl, q3⟩ := E3
  have hh3 := q3.trans hh0
  have c4 : Steps p.tables e below (s₁.setTop (entryFrame m #[.ref t, .int (Int32.ofNat i)] 2)) (T3.setTop (mkF m 14 #[.val (.ref t), .val (.int (Int32.ofNat i))] [.int (chr8 u)])) := Steps.trans g3 (by
    refine XS.aloadN X3.here hexec rfl (hb hbytes d6) rfl rfl ?_
    refine XS.iloadN X3.here hexec rfl (hb hbytes d7) rfl ?_
    refine X3.aget hexec (hV.mv X3.warmed.alike hh3) rfl hu rfl rfl (hb hbytes d8) ?_
    refine sipushV X3.here hexec rfl 255 (hb hbytes d9) (by decide) ?_
    refine XS.iand X3.here hexec rfl (hb hbytes d12) rfl ?_
    refine i2c X3.here hexec rfl (hb hbytes d13) rfl ?_
    exact Steps.refl _)
  exact ⟨T3, some (.int (chr8 u)), _, _, _, X3, rfl, rfl, rfl, (fun h => by cases h), ⟨rfl, hh3⟩, fun fs hl => c4.trans (X3.ireturnOut hexec hret (narrow_c _) (Or.inr (Or.inr (Or.inr (Or.inl rfl)))) (hb hbytes d14) hl)⟩
end LChA
end StrChars
namespace StrChars.Road
open Jvm Sem ClassFile Op Lib Jvm.Stand Jvm.Free Jvm.Free.XT
open Jvm.Lib.Cold (StaticIs)
theorem consq {a : Array Value} {s : State} {c : Jvm.Cond} {L : List Jvm.Cond} (h0 : c.before a s = true) (h : ∀ w ∈ L, w.before a s = true) : ∀ w ∈ c :: L, w.before a s = true := fun w hw => (List.mem_cons.mp hw).elim (fun e => e ▸ h0) (h w)
/-- the words of String.length(), either coding -/
abbrev wordsLen : List Jvm.Cond := [.code Len.yN Len.yB 1 (some .int), .initialized ST, .fieldLink ST 9 ST "value" "[B", .fieldLink ST 38 ST "COMPACT_STRINGS" "Z", .fieldLink ST 15 ST "coder" "B", .code Cdr.yN Cdr.yB 1 (some .byte), .methodLink ST 335 Cdr.yN, .declares Cdr.yN, .selects ST Cdr.yN Cdr.yN, .instanceMethod Cdr.yN]
theorem tabLen_of {a : Array Value} {s : State} (h : ∀ w ∈ wordsLen, w.before a s = true) : Len.tab.before a s = true := by
  have hc : Cdr.tab.before a s = true := unparts (wk h (.code Cdr.yN Cdr.yB 1 (some .byte))) (wks h (.initialized Cdr.yN.cls :: Cdr.site))
  have q := consq hc h
  exact unparts (wk q (.code Len.yN Len.yB 1 (some .int))) (wks q (.initialized Len.yN.cls :: Len.site))
theorem movedLen {Z s : State} {a0 args : Array Value} (hZ : Z.Warmed39 s.vm) (hw : ∀ d ∈ wordsLen, d.before a0 Z = true) : ∀ d ∈ wordsLen, d.before args s = true := fun d hd => by
  have q := hw d hd
  have t : ∀ d ∈ wordsLen, d = .arrayClass .byte ∨ (d.onTables && d.keepsFace) = true := by decide +kernel
  rcases t d hd with rfl | t
  · exact RoadKit.mvA hZ q
  · exact RoadKit.mv hZ q t
/-- the bytes of the chars cs, low before high -/
def wideBytes : List Int32 → List Value
  | [] => []
  | c :: cs => .int (lo8 c) :: .int (hi8 c) :: wideBytes cs
theorem wide_lo (d : Value) : ∀ (cs : List Int32) (j : Nat), j < cs.length → (wideBytes cs).getD (2 * j) d = .int (lo8 (cs.getD j 0))
  | [], j, h => absurd h (Nat.not_lt_zero j)
  | c :: cs, 0, _ => rfl
  | c :: cs, j + 1, h => by
    have q := wide_lo d cs j (by simpa using h)
    rw [show 2 * (j + 1) = 2 * j + 1 + 1 from by omega]
    simpa [wideBytes] using q
theorem wide_hi (d : Value) : ∀ (cs : List Int32) (j : Nat), j < cs.length → (wideBytes cs).getD (2 * j + 1) d = .int (hi8 (cs.getD j 0))
  | [], j, h => absurd h (Nat.not_lt_zero j)
  | c :: cs, 0, _ => rfl
  | c :: cs, j + 1, h => by
    have q := wide_hi d cs j (by simpa using h)
    rw [show 2 * (j + 1) + 1 = 2 * j + 1 + 1 + 1 from by omega]
    simpa [wideBytes] using q
theorem low_at (d : Value) (cs : List Int32) (j : Nat) (h : j < cs.length) : (cs.map fun c => Value.int (lo8 c)).getD j d = .int (lo8 (cs.getD j 0)) := by
  simp [List.getD_eq_getElem?_getD, h]
/-- an array of N2 bytes vs codes the chars cs by the coder cd -/
def CodA (cs : List Int32) (cd N2 : Int32) (vs : List Value) : Prop := (cd = 0 ∧ N2 = Int32.ofNat cs.length ∧ vs = (cs.map fun c => Value.int (lo8 c)) ∧ ∀ c ∈ cs, ¬ 255 < c) ∨ (cd = 1 ∧ N2 = Int32.ofNat (2 * cs.length) ∧ vs = wideBytes cs ∧ ∃ c ∈ cs, 255 < c)
theorem CodA.cod {cs : List Int32} {cd N2 : Int32} {vs : List Value} {V : Cell} (h : CodA cs cd N2 vs) (hn : 2 * cs.length < 2 ^ 31) (hs : V.slots.size = N2.toNatClampNeg) (hv : RoadKit.Has V vs (.int 0)) : Cod cd cs.length (fun j => cs.getD j 0) V := by
  rcases h with ⟨rfl, rfl, rfl, h⟩ | ⟨rfl, rfl, rfl, c, hc, hw⟩
  · rw [n32 (by omega)] at hs
    exact Or.inl ⟨rfl, hs, fun j hj => ⟨by rw [hv j (by omega), low_at _ _ _ hj], by
      have e : cs.getD j 0 = cs[j] := by simp [List.getD_eq_getElem?_getD, hj]
      show ¬ 255 < cs.getD j 0
      rw [e]; exact h _ (List.getElem_mem _)⟩⟩
  · rw [n32 (by omega)] at hs
    obtain ⟨j, hj, rfl⟩ := List.getElem_of_mem hc
    exact Or.inr ⟨rfl, hs, fun j hj => ⟨by rw [hv _ (by omega), wide_lo _ _ _ hj], by rw [hv _ (by omega), wide_hi _ _ _ hj]⟩, j, hj, by
      have e : cs.getD j 0 = cs[j] := by simp [List.getD_eq_getElem?_getD, hj]
      show 255 < cs.getD j 0
      rw [e]; exact hw⟩
/-- an object of exactly java/lang/String, its two fields found: as the laws ask it -/
theorem strObj {Z U : State} {a0 : Array Value} {kI : Nat} (wi : (Jvm.Cond.instantiable ST kI).before a0 Z = true) (al : Z.vm.Alike U.vm) {x : Addr} {v0 c0 : Value} (E : RoadKit.Exa Z U.heap x ST) (V : RoadKit.Fld Z U.heap x ST "value" "[B" v0) (C : RoadKit.Fld Z U.heap x ST "coder" "B" c0) :
    ∃ (D : Cell) (fV fC : Field), Blank ST x D U ∧ Found ST "value" "[B" fV U ∧ Found ST "coder" "B" fC U ∧ D.slots[fV.slot]? = some v0 ∧ D.slots[fC.slot]? = some c0 ∧ RoadKit.slotOf Z ST "value" "[B" = fV.slot ∧ RoadKit.slotOf Z ST "coder" "B" = fC.slot := by
  obtain ⟨D, cfV, kV, iV, fV, hD, gV, stV, knV, obV, asV, slV⟩ := V
  obtain ⟨D', cfC, kC, iC, fC, hD', gC, stC, -, -, asC, slC⟩ := C
  cases hD.symm.trans hD'
  obtain ⟨D2, kD, e1, e2, e3, e4, e5⟩ := E
  cases hD.symm.trans e1
  obtain ⟨c2, k2, i1, i2, i3, -⟩ := Cond.instantiable_spec wi
  cases e2.symm.trans i1
  cases e3.symm.trans i2
  obtain ⟨kU, u1, u2⟩ := al.2.2 _ _ e3
  exact ⟨D, fV, fC, ⟨hD, ⟨knV, fun q hq => by rw [hq] at obV; cases obV⟩, by rw [al.findClass]; exact e2, kU, u1, by rw [u2]; exact i3, by rw [u2]; exact e5 i3⟩, ⟨SBG.found_only al ⟨cfV, kV, iV, gV⟩, stV⟩, ⟨SBG.found_only al ⟨cfC, kC, iC, gC⟩, stC⟩, slV, slC, by simp [RoadKit.slotOf, gV], by simp [RoadKit.slotOf, gC]⟩
theorem sta_is {Z U : State} (al : Z.vm.Alike U.vm) {C n d : String} {v : Value} (S : RoadKit.Sta Z U.heap C n d v) : StaticIs U C n d v := by
  obtain ⟨cfS, iS, kS, fS, st, cS, t1, t2, t3, t4, t5, t6, t7⟩ := S
  exact StaticIs.there (s := { Z with heap := U.heap }) ⟨cfS, iS, kS, fS, st, cS, t1, t2, t3, t4, t5, (fun q => by rw [q] at t6; cases t6), t7⟩ al rfl
/-- **length() OF SUCH A STRING** -/
theorem lenW {p : Program} {l : Launch} {e : Env} {R : Room} {s : State} {args : Array Value} {below : List Frame} {len W : Nat} {Z : State} {a0 : Array Value} {h : Heap} (hZ : Z.Warmed39 s.vm) (hw : ∀ d ∈ wordsLen, d.before a0 Z = true) {kI : Nat} (wi : (Jvm.Cond.instantiable ST kI).before a0 Z = true)
    {x t : Addr} {kb : ClassId} {cs : List Int32} {cd N2 z : Int32} {vs : List Value} (E : RoadKit.Exa Z h x ST) (V : RoadKit.Fld Z h x ST "value" "[B" (.ref t)) (C : RoadKit.Fld Z h x ST "coder" "B" (.int cd)) (K : RoadKit.Arv Z h t kb .byte N2 vs (.int 0)) (hc : CodA cs cd N2 vs) (hb : ∀ c ∈ cs, ¬ c < 0 ∧ ¬ (65535 : Int32) < c)
    (S : RoadKit.Sta Z h ST "COMPACT_STRINGS" "Z" (.int z)) (hz : ¬ z = 0) (l2 : cs.length ≤ 4000) (hfr : 2 ≤ R.frames) (hlo : W + 25 ≤ R.locals) :
    Back l R p e below s args (⟨"java/lang/String", "length", "()I"⟩ : MethodName) len W (fun P a => a = #[.ref x] ∧ P.U.heap = h ∧ P.cells + 0 ≤ R.cells ∧ P.slots + 0 ≤ R.slots)
      (fun P _ v B => ∃ L, (v = some (.int (Int32.ofNat cs.length)) ∧ L = [] ∧ B.U.heap = h) ∧ B.locs = P.locs ++ L ∧ B.cells = P.cells + 0 ∧ B.slots = P.slots + 0) := by
  obtain ⟨A, K1, K2, K3, K4, K5, K6⟩ := K
  have hcod := hc.cod (by omega) K3 K5
  intro m meth c P g ig mk a X hg hsize hdg hW hn hp'
  obtain ⟨rfl, rfl, r1, r2⟩ := hp'
  have al : Z.vm.Alike P.U.vm := hZ.alike.trans X.warmed.alike
  obtain ⟨D, fV, fC, hB, F1, F2, g1, g2, -, -⟩ := strObj wi al E V C
  have hx : Txt x t A cd cs.length (fun j => cs.getD j 0) P.U := ⟨⟨_, hB.2.2.1, D, hB.1, rfl, by cases q : D.vm <;> first | rfl | exact absurd q (hB.2.1.2 _)⟩, Has.of hB F1 g1, Has.of hB F2 g2, ⟨K1.1, State.isArrayOf_alike al K1.2.1, K1.2.2, by rcases hcod with ⟨-, q, -⟩ | ⟨-, q, -⟩ <;> omega⟩, hcod, fun j hj => by
    have e : cs.getD j 0 = cs[j] := by simp [List.getD_eq_getElem?_getD, hj]
    show ¬ cs.getD j 0 < 0 ∧ ¬ 65535 < cs.getD j 0
    rw [e]; exact hb _ (List.getElem_mem _)⟩
  obtain ⟨v, B, X', ⟨⟨hv, hh⟩, hl, hk, hs⟩, st⟩ := Len.pays x t A cd cs.length (fun j => cs.getD j 0) z (tabLen_of (movedLen hZ hw)) hfr hlo m meth c P g ig mk _ X hg hsize hdg hW hn ⟨r1, r2, rfl, hx, sta_is al S, hz⟩
  exact ⟨v, B, X', ⟨[], ⟨hv, rfl, hh⟩, hl, hk, hs⟩, st⟩
end StrChars.Road
namespace StrChars
open Jvm Sem ClassFile Op Lib Jvm.Stand Jvm.Free.XT Jvm.Free.ALB Jvm.Free.JM Jvm.Free
open Jvm.Lib.Cold (StaticIs)
/-- what place i of a byte[]'s cell holds -/
def yv (A : Cell) (i : Nat) : Int32 := match A.slots[i]? with | some (.int x) => x | _ => 0
theorem yv_get {a : Addr} {A : Cell} {U : State} (h : XT.Arr .byte a A U) (ht : Typed .byte A) {i : Nat} (hi : i < A.slots.size) : A.slots[i]? = some (.int (yv A i)) := by
  have e := Array.getElem?_eq_getElem hi
  have f := ht i _ e
  unfold yv; rw [e]
  generalize A.slots[i] = v at f
  cases v <;> simp [fits] at f ⊢
/-- the two arrays are equal, place for place -/
def EqC (A B : Cell) : Prop := A.slots.size = B.slots.size ∧ ∀ i, i < A.slots.size → yv A i = yv B i
/-- a boolean that says whether p -/
def Says01 (q : Prop) (r : Option Value) (s u : State) : Prop := ∃ v : Int32, r = some (.int v) ∧ u.heap = s.heap ∧ ((v = 1 ∧ q) ∨ (v = 0 ∧ ¬ q))
theorem Says01.mv {q : Prop} : ∀ r (U U' V V' : State), U'.heap = U.heap → V.vm.Alike V'.vm → V'.heap = V.heap → Says01 q r U V → Says01 q r U' V' :=
  fun r U U' V V' h1 _ h2 ⟨v, a, b, c⟩ => ⟨v, a, by rw [h1, h2]; exact b, c⟩
namespace LEq
def yN : MethodName := ⟨"java/lang/StringLatin1", "equals", "([B[B)Z"⟩
abbrev yB : ByteArray := jdk_43_method_13_code
theorem d0 : decode yB 0 = .ok (.aload_n 0, 1) := by decide +kernel
theorem d1 : decode yB 1 = .ok (.arraylength, 1) := by decide +kernel
theorem d2 : decode yB 2 = .ok (.aload_n 1, 1) := by decide +kernel
theorem d3 : decode yB 3 = .ok (.arraylength, 1) := by decide +kernel
theorem d4 : decode yB 4 = .ok (.if_icmp (.ne) 30, 3) := by decide +kernel
theorem d7 : decode yB 7 = .ok (.iconst 0, 1) := by decide +kernel
theorem d8 : decode yB 8 = .ok (.istore_n 2, 1) := by decide +kernel
theorem d9 : decode yB 9 = .ok (.iload_n 2, 1) := by decide +kernel
theorem d10 : decode yB 10 = .ok (.aload_n 0, 1) := by decide +kernel
theorem d11 : decode yB 11 = .ok (.arraylength, 1) := by decide +kernel
theorem d12 : decode yB 12 = .ok (.if_icmp (.ge) 20, 3) := by decide +kernel
theorem d15 : decode yB 15 = .ok (.aload_n 0, 1) := by decide +kernel
theorem d16 : decode yB 16 = .ok (.iload_n 2, 1) := by decide +kernel
theorem d17 : decode yB 17 = .ok (.baload, 1) := by decide +kernel
theorem d18 : decode yB 18 = .ok (.aload_n 1, 1) := by decide +kernel
theorem d19 : decode yB 19 = .ok (.iload_n 2, 1) := by decide +kernel
theorem d20 : decode yB 20 = .ok (.baload, 1) := by decide +kernel
theorem d21 : decode yB 21 = .ok (.if_icmp (.eq) 5, 3) := by decide +kernel
theorem d24 : decode yB 24 = .ok (.iconst 0, 1) := by decide +kernel
theorem d25 : decode yB 25 = .ok (.ireturn, 1) := by decide +kernel
theorem d26 : decode yB 26 = .ok (.iinc 2 1, 3) := by decide +kernel
theorem d29 : decode yB 29 = .ok (.goto (-20), 3) := by decide +kernel
theorem d32 : decode yB 32 = .ok (.iconst 1, 1) := by decide +kernel
theorem d33 : decode yB 33 = .ok (.ireturn, 1) := by decide +kernel
theorem d34 : decode yB 34 = .ok (.iconst 0, 1) := by decide +kernel
theorem d35 : decode yB 35 = .ok (.ireturn, 1) := by decide +kernel
def site : List Cond := []
def tab : Cond := tabOf yN yB 3 (some .boolean) site
def P (a : Addr) (A : Cell) (b : Addr) (B : Cell) (args : Array Value) (s : State) : Prop := args = #[.ref a, .ref b] ∧ XT.Arr .byte a A s ∧ Typed .byte A ∧ XT.Arr .byte b B s ∧ Typed .byte B
/-- whether two byte[] are equal, place for place -/
theorem law (l : Launch) (a : Addr) (A : Cell) (b : Addr) (B : Cell) : Law l yN 2 2 0 0 yB 3 (some .boolean) site (P a A b B) (Says01 (EqC A B)) [] 0 0 := by
  refine Law.of_walk (plainFor_of_name (by decide +kernel)) (by decide +kernel) (by decide +kernel) (by decide) (fun _ _ h => by rw [h.1]; rfl) (fun _ U U' hal hh h => ⟨h.1, h.2.1.mv hal hh, h.2.2.1, h.2.2.2.1.mv hal hh, h.2.2.2.2⟩) (fun r U U' V V' h1 hal h2 h => Says01.mv r U U' V V' h1 hal h2 h) ?_
  intro p e s m args below meth c s₁ X0 hexec hbytes hml hret hlk hnm hown hh0 W hP
  obtain ⟨rfl, hA, tA, hB, tB⟩ := hP
  have a31 := hA.2.2.2
  have b31 := hB.2.2.2
  have hA0 := hA.mv X0.warmed.alike hh0
  have hB0 := hB.mv X0.warmed.alike hh0
  have c1 : Steps p.tables e below (s₁.setTop (entryFrame m #[.ref a, .ref b] 3)) (s₁.setTop (mkF m 0 #[.val (.ref a), .val (.ref b), .unset] [])) := entry rfl
  have c2 : Steps p.tables e below (s₁.setTop (entryFrame m #[.ref a, .ref b] 3)) (s₁.setTop (mkF m 4 #[.val (.ref a), .val (.ref b), .unset] [.int (Int32.ofNat B.slots.size), .int (Int32.ofNat A.slots.size)])) := c1.trans (by
    refine XS.aloadN X0.here hexec rfl (hb hbytes d0) rfl rfl ?_
    refine X0.alen hexec hA0 rfl rfl (hb hbytes d1) ?_
    refine XS.aloadN X0.here hexec rfl (hb hbytes d2) rfl rfl ?_
    refine X0.alen hexec hB0 rfl rfl (hb hbytes d3) ?_
    exact Steps.refl _)
  by_cases hs : A.slots.size = B.slots.size
  · have c3 : Steps p.tables e below (s₁.setTop (entryFrame m #[.ref a, .ref b] 3)) (s₁.setTop (mkF m 9 #[.val (.ref a), .val (.ref b), .val (.int 0)] [])) := c2.trans (by
      refine XS.icmpNo X0.here hexec rfl (hb hbytes d4) rfl (ii_ne_f (by rw [hs])) ?_
      refine iconstV X0.here hexec rfl 0 (hb hbytes d7) (by decide) ?_
      refine XS.istoreN X0.here hexec rfl (hb hbytes d8) rfl rfl ?_
      exact Steps.refl _)
    have loop : ∀ (r i : Nat), i + r = A.slots.size → (∀ j, j < i → yv A j = yv B j) → Steps p.tables e below (s₁.setTop (entryFrame m #[.ref a, .ref b] 3)) (s₁.setTop (mkF m 9 #[.val (.ref a), .val (.ref b), .val (.int (Int32.ofNat i))] [])) → ∃ (pc : Nat) (Ls : Array Slot) (v : Int32), (pc = 25 ∨ pc = 33) ∧ ((v = 1 ∧ EqC A B) ∨ (v = 0 ∧ ¬ EqC A B)) ∧ Steps p.tables e below (s₁.setTop (entryFrame m #[.ref a, .ref b] 3)) (s₁.setTop (mkF m pc Ls [.int v])) := by
      intro r
      induction r with
      | zero =>
        intro i hi he cl
        exact ⟨33, _, 1, Or.inr rfl, Or.inl ⟨rfl, hs, fun j hj => he j (by omega)⟩, cl.trans (by
          refine XS.iloadN X0.here hexec rfl (hb hbytes d9) rfl ?_
          refine XS.aloadN X0.here hexec rfl (hb hbytes d10) rfl rfl ?_
          refine X0.alen hexec hA0 rfl rfl (hb hbytes d11) ?_
          refine XS.icmpYes X0.here hexec rfl (pc0 := 12) rfl (hb hbytes d12) rfl (ii_ge_t (nlt32 (by omega) (by omega))) (by decide) rfl ?_
          refine iconstV X0.here hexec rfl 1 (hb hbytes d32) (by decide) ?_
          exact Steps.refl _)⟩
      | succ r ih =>
        intro i hi he cl
        have c4 : Steps p.tables e below (s₁.setTop (entryFrame m #[.ref a, .ref b] 3)) (s₁.setTop (mkF m 21 #[.val (.ref a), .val (.ref b), .val (.int (Int32.ofNat i))] [.int (yv B i), .int (yv A i)])) := cl.trans (by
          refine XS.iloadN X0.here hexec rfl (hb hbytes d9) rfl ?_
          refine XS.aloadN X0.here hexec rfl (hb hbytes d10) rfl rfl ?_
          refine X0.alen hexec hA0 rfl rfl (hb hbytes d11) ?_
          refine XS.icmpNo X0.here hexec rfl (hb hbytes d12) rfl (ii_ge_f (lt32 (by omega) (by omega))) ?_
          refine XS.aloadN X0.here hexec rfl (hb hbytes d15) rfl rfl ?_
          refine XS.iloadN X0.here hexec rfl (hb hbytes d16) rfl ?_
          refine X0.aget hexec hA0 rfl (yv_get hA tA (i := i) (by omega)) rfl rfl (hb hbytes d17) ?_
          refine XS.aloadN X0.here hexec rfl (hb hbytes d18) rfl rfl ?_
          refine XS.iloadN X0.here hexec rfl (hb hbytes d19) rfl ?_
          refine X0.aget hexec hB0 rfl (yv_get hB tB (i := i) (by omega)) rfl rfl (hb hbytes d20) ?_
          exact Steps.refl _)
        by_cases hv : yv A i = yv B i
        · have c5 : Steps p.tables e below (s₁.setTop (entryFrame m #[.ref a, .ref b] 3)) (s₁.setTop (mkF m 9 #[.val (.ref a), .val (.ref b), .val (.int (Int32.ofNat i + 1))] [])) := c4.trans (by
            refine XS.icmpYes X0.here hexec rfl (pc0 := 21) rfl (hb hbytes d21) rfl (ii_eq_t hv) (by decide) rfl ?_
            refine iincV X0.here hexec rfl 1 (hb hbytes d26) (by decide) rfl rfl ?_
            refine XS.goto X0.here hexec rfl (pc0 := 29) rfl (hb hbytes d29) (by decide) rfl ?_
            exact Steps.refl _)
          rw [succ32] at c5
          exact ih (i + 1) (by omega) (fun j hj => by
            by_cases e : j = i
            · rw [e]; exact hv
            · exact he j (by omega)) c5
        · exact ⟨25, _, 0, Or.inl rfl, Or.inr ⟨rfl, fun q => hv (q.2 i (by omega))⟩, c4.trans (by
            refine XS.icmpNo X0.here hexec rfl (hb hbytes d21) rfl (ii_eq_f hv) ?_
            refine iconstV X0.here hexec rfl 0 (hb hbytes d24) (by decide) ?_
            exact Steps.refl _)⟩
    obtain ⟨pc, Ls, v, hpc, hv, cz⟩ := loop A.slots.size 0 (by omega) (fun j hj => absurd hj (Nat.not_lt_zero j)) c3
    have nv : narrow .boolean (.int v) = .int v := by rcases hv with ⟨rfl, -⟩ | ⟨rfl, -⟩ <;> rfl
    rcases hpc with rfl | rfl
    · exact ⟨s₁, some (.int v), _, _, _, X0, rfl, rfl, rfl, (fun h => by cases h), ⟨v, rfl, hh0, hv⟩, fun fs hl => cz.trans (X0.ireturnOut hexec hret nv (Or.inr (Or.inl rfl)) (hb hbytes d25) hl)⟩
    · exact ⟨s₁, some (.int v), _, _, _, X0, rfl, rfl, rfl, (fun h => by cases h), ⟨v, rfl, hh0, hv⟩, fun fs hl => cz.trans (X0.ireturnOut hexec hret nv (Or.inr (Or.inl rfl)) (hb hbytes d33) hl)⟩
  · have c3 : Steps p.tables e below (s₁.setTop (entryFrame m #[.ref a, .ref b] 3)) (s₁.setTop (mkF m 35 #[.val (.ref a), .val (.ref b), .unset] [.int 0])) := c2.trans (by
      refine XS.icmpYes X0.here hexec rfl (pc0 := 4) rfl (hb hbytes d4) rfl (ii_ne_t (ne32 a31 b31 hs)) (by decide) rfl ?_
      refine iconstV X0.here hexec rfl 0 (hb hbytes d34) (by decide) ?_
      exact Steps.refl _)
    exact ⟨s₁, some (.int 0), _, _, _, X0, rfl, rfl, rfl, (fun h => by cases h), ⟨0, rfl, hh0, Or.inr ⟨rfl, fun q => hs q.1⟩⟩, fun fs hl => c3.trans (X0.ireturnOut hexec hret rfl (Or.inr (Or.inl rfl)) (hb hbytes d35) hl)⟩
end LEq
theorem Cod.ty {cd : Int32} {n : Nat} {f : Nat → Int32} {V : Cell} (h : Cod cd n f V) : Typed .byte V := fun i v hv => by
  have hi : i < V.slots.size := (Array.getElem?_eq_some_iff.mp hv).1
  rcases h with ⟨-, k1, k2⟩ | ⟨-, k1, k2, -⟩
  · rw [(k2 i (by omega)).1] at hv; cases hv; exact fits_lo8 _
  · rcases Nat.mod_two_eq_zero_or_one i with e | e
    · obtain ⟨j, rfl⟩ : ∃ j, i = 2 * j := ⟨i / 2, by omega⟩
      rw [(k2 j (by omega)).1] at hv; cases hv; exact fits_lo8 _
    · obtain ⟨j, rfl⟩ : ∃ j, i = 2 * j + 1 := ⟨i / 2, by omega⟩
      rw [(k2 j (by omega)).2] at hv; cases hv; exact fits_lo8 _
/-- the same text -/
def SameT (n : Nat) (f : Nat → Int32) (k : Nat) (g : Nat → Int32) : Prop := n = k ∧ ∀ j, j < n → f j = g j
theorem lo8_inj {x y : Int32} (h0 : ¬ x < 0) (h1 : ¬ 255 < x) (k0 : ¬ y < 0) (k1 : ¬ 255 < y) (h : lo8 x = lo8 y) : x = y := by
  rw [← lo8_mask h0 h1, ← lo8_mask k0 k1, h]
/-- arrays coded by one coder are equal just where the texts are -/
theorem Cod.eqv {cd : Int32} {n k : Nat} {f g : Nat → Int32} {V V' : Cell} (h : Cod cd n f V) (h' : Cod cd k g V') (hf : ∀ j, j < n → ¬ f j < 0 ∧ ¬ 65535 < f j) (hg : ∀ j, j < k → ¬ g j < 0 ∧ ¬ 65535 < g j) : EqC V V' ↔ SameT n f k g := by
  have yvv : ∀ {W : Cell} {i : Nat} {x : Int32}, W.slots[i]? = some (.int x) → yv W i = x := fun q => by unfold yv; rw [q]
  rcases h with ⟨rfl, k1, k2⟩ | ⟨rfl, k1, k2, -⟩
  · rcases h' with ⟨-, m1, m2⟩ | ⟨e, -⟩
    · constructor
      · rintro ⟨e1, e2⟩
        refine ⟨by omega, fun j hj => ?_⟩
        have q := e2 j (by omega)
        rw [yvv (k2 j hj).1, yvv (m2 j (by omega)).1] at q
        exact lo8_inj (hf j hj).1 (k2 j hj).2 (hg j (by omega)).1 (m2 j (by omega)).2 q
      · rintro ⟨rfl, e2⟩
        refine ⟨by omega, fun j hj => ?_⟩
        rw [yvv (k2 j (by omega)).1, yvv (m2 j (by omega)).1, e2 j (by omega)]
    · exact absurd e (by decide)
  · rcases h' with ⟨e, -⟩ | ⟨-, m1, m2, -⟩
    · exact absurd e (by decide)
    · constructor
      · rintro ⟨e1, e2⟩
        refine ⟨by omega, fun j hj => ?_⟩
        have q1 := e2 (2 * j) (by omega)
        have q2 := e2 (2 * j + 1) (by omega)
        rw [yvv (k2 j hj).1, yvv (m2 j (by omega)).1] at q1
        rw [yvv (k2 j hj).2, yvv (m2 j (by omega)).2] at q2
        rw [← pair_says (hf j hj).1 (hf j hj).2, ← pair_says (hg j (by omega)).1 (hg j (by omega)).2, q1, q2]
      · rintro ⟨rfl, e2⟩
        refine ⟨by omega, fun i hi => ?_⟩
        rcases Nat.mod_two_eq_zero_or_one i with e | e
        · obtain ⟨j, rfl⟩ : ∃ j, i = 2 * j := ⟨i / 2, by omega⟩
          rw [yvv (k2 j (by omega)).1, yvv (m2 j (by omega)).1, e2 j (by omega)]
        · obtain ⟨j, rfl⟩ : ∃ j, i = 2 * j + 1 := ⟨i / 2, by omega⟩
          rw [yvv (k2 j (by omega)).2, yvv (m2 j (by omega)).2, e2 j (by omega)]
/-- two codings differ: so do the texts -/
theorem Cod.dif {cd cd' : Int32} {n k : Nat} {f g : Nat → Int32} {V V' : Cell} (h : Cod cd n f V) (h' : Cod cd' k g V') (hne : ¬ cd = cd') : ¬ SameT n f k g := by
  rintro ⟨rfl, e⟩
  rcases h with ⟨rfl, -, k2⟩ | ⟨rfl, -, -, j, hj, hw⟩
  · rcases h' with ⟨rfl, -⟩ | ⟨-, -, -, j, hj, hw⟩
    · exact hne rfl
    · exact (k2 j hj).2 (by rw [e j hj]; exact hw)
  · rcases h' with ⟨-, -, m2⟩ | ⟨rfl, -⟩
    · exact (m2 j hj).2 (by rw [← e j hj]; exact hw)
    · exact hne rfl
/-- an object of exactly C is an instance of C -/
theorem cinst {p : Program} {l : Launch} {e : Env} {R : Room} {s : State} {m : MethodId} {args : Array Value} {below : List Frame} {meth : Method} {c : Code} {T : State} {locs : List Loc} {cells slots : Nat} (X : Stand p l e R s m args below meth c T locs cells slots) (hexec : p.tables.exec = Jvm.exec) {own C : String} {index : Nat} (hown : s.vm.findClass own = some m.cls) (hlink : (Cond.classLink own index C).before args s = true) {a : Addr} (hE : Exact C a T)
    {g : JFrame} (hg : g.method = m) {rest : List Value} (hstack : g.stack = .ref a :: rest) (hdg : decode c.code g.pc = .ok (.instanceof index, 3)) :
    ∃ T', Stand p l e R s m args below meth c T' locs cells slots ∧ T'.heap = T.heap ∧ ∀ target, Steps p.tables e below (T'.setTop { g with pc := g.pc + 3, stack := .int 1 :: rest }) target → Steps p.tables e below (T.setTop g) target := by
  obtain ⟨cB, h1, D, h2, h3, h4⟩ := hE
  have h1' : s.vm.findClass C = some cB := by rw [← X.warmed.alike.findClass]; exact h1
  obtain ⟨vm', X', st⟩ := X.instanceofYes hexec hown hlink h2 h4 h1' (by rw [h3]; exact Jvm.Free.SB.assignable_self _ _) hg hstack hdg
  exact ⟨_, X', rfl, st⟩
theorem cself {p : Program} {l : Launch} {e : Env} {R : Room} {s : State} {m : MethodId} {args : Array Value} {below : List Frame} {meth : Method} {c : Code} {T : State} {locs : List Loc} {cells slots : Nat} (X : Stand p l e R s m args below meth c T locs cells slots) (hexec : p.tables.exec = Jvm.exec) {own C : String} {index : Nat} (hown : s.vm.findClass own = some m.cls) (hlink : (Cond.classLink own index C).before args s = true) {a : Addr} (hE : Exact C a T)
    {g : JFrame} (hg : g.method = m) {rest : List Value} (hstack : g.stack = .ref a :: rest) (hdg : decode c.code g.pc = .ok (.checkcast index, 3)) :
    ∃ T', Stand p l e R s m args below meth c T' locs cells slots ∧ T'.heap = T.heap ∧ ∀ target, Steps p.tables e below (T'.setTop { g with pc := g.pc + 3, stack := .ref a :: rest }) target → Steps p.tables e below (T.setTop g) target := by
  obtain ⟨cB, h1, D, h2, h3, h4⟩ := hE
  have h1' : s.vm.findClass C = some cB := by rw [← X.warmed.alike.findClass]; exact h1
  obtain ⟨vm', X', st⟩ := X.checkcastYes hexec hown hlink h2 h4 h1' (by rw [h3]; exact Jvm.Free.SB.assignable_self _ _) hg hstack hdg
  exact ⟨_, X', rfl, fun t h => st t (by rw [← hstack] at h; exact h)⟩
namespace SEq
def yN : MethodName := ⟨"java/lang/String", "equals", "(Ljava/lang/Object;)Z"⟩
abbrev yB : ByteArray := jdk_42_method_66_code
theorem d0 : decode yB 0 = .ok (.aload_n 0, 1) := by decide +kernel
theorem d1 : decode yB 1 = .ok (.aload_n 1, 1) := by decide +kernel
theorem d2 : decode yB 2 = .ok (.if_acmp (.ne) 5, 3) := by decide +kernel
theorem d5 : decode yB 5 = .ok (.iconst 1, 1) := by decide +kernel
theorem d6 : decode yB 6 = .ok (.ireturn, 1) := by decide +kernel
theorem d7 : decode yB 7 = .ok (.aload_n 1, 1) := by decide +kernel
theorem d8 : decode yB 8 = .ok (.instanceof 10, 3) := by decide +kernel
theorem d11 : decode yB 11 = .ok (.ifCond (.eq) 43, 3) := by decide +kernel
theorem d14 : decode yB 14 = .ok (.aload_n 1, 1) := by decide +kernel
theorem d15 : decode yB 15 = .ok (.checkcast 10, 3) := by decide +kernel
theorem d18 : decode yB 18 = .ok (.astore_n 2, 1) := by decide +kernel
theorem d19 : decode yB 19 = .ok (.getstatic 38, 3) := by decide +kernel
theorem d22 : decode yB 22 = .ok (.ifCond (.eq) 14, 3) := by decide +kernel
theorem d25 : decode yB 25 = .ok (.aload_n 0, 1) := by decide +kernel
theorem d26 : decode yB 26 = .ok (.getfield 15, 3) := by decide +kernel
theorem d29 : decode yB 29 = .ok (.aload_n 2, 1) := by decide +kernel
theorem d30 : decode yB 30 = .ok (.getfield 15, 3) := by decide +kernel
theorem d33 : decode yB 33 = .ok (.if_icmp (.ne) 21, 3) := by decide +kernel
theorem d36 : decode yB 36 = .ok (.aload_n 0, 1) := by decide +kernel
theorem d37 : decode yB 37 = .ok (.getfield 9, 3) := by decide +kernel
theorem d40 : decode yB 40 = .ok (.aload_n 2, 1) := by decide +kernel
theorem d41 : decode yB 41 = .ok (.getfield 9, 3) := by decide +kernel
theorem d44 : decode yB 44 = .ok (.invokestatic 541, 3) := by decide +kernel
theorem d47 : decode yB 47 = .ok (.ifCond (.eq) 7, 3) := by decide +kernel
theorem d50 : decode yB 50 = .ok (.iconst 1, 1) := by decide +kernel
theorem d51 : decode yB 51 = .ok (.goto 4, 3) := by decide +kernel
theorem d54 : decode yB 54 = .ok (.iconst 0, 1) := by decide +kernel
theorem d55 : decode yB 55 = .ok (.ireturn, 1) := by decide +kernel
def site : List Cond := [.classLink "java/lang/String" 10 "java/lang/String", .fieldLink "java/lang/String" 38 "java/lang/String" "COMPACT_STRINGS" "Z", .fieldLink "java/lang/String" 15 "java/lang/String" "coder" "B", .fieldLink "java/lang/String" 9 "java/lang/String" "value" "[B", LEq.tab] ++ staticW "java/lang/String" 541 LEq.yN
def tab : Cond := tabOf yN yB 3 (some .boolean) site
def P (x t : Addr) (V : Cell) (cd : Int32) (n : Nat) (f : Nat → Int32) (y t' : Addr) (V' : Cell) (cd' : Int32) (k : Nat) (g : Nat → Int32) (z : Int32) (args : Array Value) (s : State) : Prop := args = #[.ref x, .ref y] ∧ Txt x t V cd n f s ∧ Txt y t' V' cd' k g s ∧ StaticIs s "java/lang/String" "COMPACT_STRINGS" "Z" (.int z) ∧ ¬ z = 0
/-- equals(Object) of two Strings: whether the texts are the same -/
theorem law (l : Launch) (x t : Addr) (V : Cell) (cd : Int32) (n : Nat) (f : Nat → Int32) (y t' : Addr) (V' : Cell) (cd' : Int32) (k : Nat) (g : Nat → Int32) (z : Int32) : Law l yN 2 1 1 14 yB 3 (some .boolean) site (P x t V cd n f y t' V' cd' k g z) (Says01 (SameT n f k g)) [] 0 0 := by
  refine Law.of_walk (plainFor_of_name (by decide +kernel)) (by decide +kernel) (by decide +kernel) (by decide) (fun _ _ h => by rw [h.1]; rfl) (fun _ U U' hal hh h => ⟨h.1, h.2.1.mv hal hh, h.2.2.1.mv hal hh, h.2.2.2.1.there hal hh, h.2.2.2.2⟩) (fun r U U' V V' h1 hal h2 h => Says01.mv r U U' V V' h1 hal h2 h) ?_
  intro p e s m args below meth c s₁ X0 hexec hbytes hml hret hlk hnm hown hh0 W hP
  obtain ⟨rfl, hx, hy, s1, hz⟩ := hP
  have c1 : Steps p.tables e below (s₁.setTop (entryFrame m #[.ref x, .ref y] 3)) (s₁.setTop (mkF m 2 #[.val (.ref x), .val (.ref y), .unset] [.ref y, .ref x])) := Steps.trans (entry rfl) (by
    show Steps p.tables e below (s₁.setTop (mkF m 0 #[.val (.ref x), .val (.ref y), .unset] [])) _
    refine XS.aloadN X0.here hexec rfl (hb hbytes d0) rfl rfl ?_
    refine XS.aloadN X0.here hexec rfl (hb hbytes d1) rfl rfl ?_
    exact Steps.refl _)
  by_cases hxy : x = y
  · have c2 : Steps p.tables e below (s₁.setTop (entryFrame m #[.ref x, .ref y] 3)) (s₁.setTop (mkF m 6 #[.val (.ref x), .val (.ref y), .unset] [.int 1])) := c1.trans (by
      refine acmpNo X0.here hexec rfl (hb hbytes d2) rfl rfl rfl (by simp [acmp, hxy]) ?_
      refine iconstV X0.here hexec rfl 1 (hb hbytes d5) (by decide) ?_
      exact Steps.refl _)
    subst hxy
    have ec : cd = cd' := by
      obtain ⟨D, fd, a1, a2, a3⟩ := hx.2.2.1
      obtain ⟨D', fd', b1, b2, b3⟩ := hy.2.2.1
      cases a1.symm.trans b1
      obtain ⟨q1, q2, q3, q4⟩ := a2.1
      obtain ⟨r1, r2, r3, r4⟩ := b2.1
      cases q4.symm.trans r4
      cases a3.symm.trans b3; rfl
    have et : t = t' := by
      obtain ⟨D, fd, a1, a2, a3⟩ := hx.2.1
      obtain ⟨D', fd', b1, b2, b3⟩ := hy.2.1
      cases a1.symm.trans b1
      obtain ⟨q1, q2, q3, q4⟩ := a2.1
      obtain ⟨r1, r2, r3, r4⟩ := b2.1
      cases q4.symm.trans r4
      cases a3.symm.trans b3; rfl
    subst ec et
    have ev : V = V' := by cases hx.2.2.2.1.1.symm.trans hy.2.2.2.1.1; rfl
    subst ev
    have hs : SameT n f k g := (Cod.eqv hx.2.2.2.2.1 hy.2.2.2.2.1 hx.2.2.2.2.2 hy.2.2.2.2.2).mp ⟨rfl, fun _ _ => rfl⟩
    exact ⟨s₁, some (.int 1), _, _, _, X0, rfl, rfl, rfl, (fun h => by cases h), ⟨1, rfl, hh0, Or.inl ⟨rfl, hs⟩⟩, fun fs hl => c2.trans (X0.ireturnOut hexec hret rfl (Or.inr (Or.inl rfl)) (hb hbytes d6) hl)⟩
  · have c2 : Steps p.tables e below (s₁.setTop (entryFrame m #[.ref x, .ref y] 3)) (s₁.setTop (mkF m 8 #[.val (.ref x), .val (.ref y), .unset] [.ref y])) := c1.trans (by
      refine acmpYes X0.here hexec rfl (pc0 := 2) rfl (hb hbytes d2) rfl rfl rfl (by simp [acmp, hxy]) (by decide) rfl ?_
      refine XS.aloadN X0.here hexec rfl (hb hbytes d7) rfl rfl ?_
      exact Steps.refl _)
    obtain ⟨T3, X3, q3, st3⟩ := cinst X0 hexec hown (wk W (.classLink "java/lang/String" 10 "java/lang/String")) (hy.mv X0.warmed.alike hh0).1 (g := (mkF m 8 #[.val (.ref x), .val (.ref y), .unset] [.ref y])) rfl (rest := []) rfl (hb hbytes d8)
    have hh3 := q3.trans hh0
    have c4 : Steps p.tables e below (s₁.setTop (entryFrame m #[.ref x, .ref y] 3)) (T3.setTop (mkF m 15 #[.val (.ref x), .val (.ref y), .unset] [.ref y])) := (c2.trans (st3 _ (Steps.refl _))).trans (by
      refine XS.ifNo X3.here hexec rfl (hb hbytes d11) rfl (i0_eq_f (by decide)) ?_
      refine XS.aloadN X3.here hexec rfl (hb hbytes d14) rfl rfl ?_
      exact Steps.refl _)
    obtain ⟨T5, X5, q5, st5⟩ := cself X3 hexec hown (wk W (.classLink "java/lang/String" 10 "java/lang/String")) (hy.mv X3.warmed.alike hh3).1 (g := (mkF m 15 #[.val (.ref x), .val (.ref y), .unset] [.ref y])) rfl (rest := []) rfl (hb hbytes d15)
    have hh5 := q5.trans hh3
    have c6 : Steps p.tables e below (s₁.setTop (entryFrame m #[.ref x, .ref y] 3)) (T5.setTop (mkF m 19 #[.val (.ref x), .val (.ref y), .val (.ref y)] [])) := (c4.trans (st5 _ (Steps.refl _))).trans (by
      refine XS.astoreN X5.here hexec rfl (hb hbytes d18) rfl rfl rfl ?_
      exact Steps.refl _)
    obtain ⟨T7, X7, q7, st7⟩ := X5.sget hexec hown (wk W (.fieldLink "java/lang/String" 38 "java/lang/String" "COMPACT_STRINGS" "Z")) s1 (fun _ _ h => by rw [hh5]; exact h) (g := (mkF m 19 #[.val (.ref x), .val (.ref y), .val (.ref y)] [])) rfl (hb hbytes d19)
    have hh7 := q7.trans hh5
    have c8 : Steps p.tables e below (s₁.setTop (entryFrame m #[.ref x, .ref y] 3)) (T7.setTop (mkF m 26 #[.val (.ref x), .val (.ref y), .val (.ref y)] [.ref x])) := (c6.trans (st7 _ (Steps.refl _))).trans (by
      refine XS.ifNo X7.here hexec rfl (hb hbytes d22) rfl (i0_eq_f hz) ?_
      refine XS.aloadN X7.here hexec rfl (hb hbytes d25) rfl rfl ?_
      exact Steps.refl _)
    obtain ⟨T9, X9, q9, st9⟩ := X7.hget hexec hown (wk W (.fieldLink "java/lang/String" 15 "java/lang/String" "coder" "B")) (hx.mv X7.warmed.alike hh7).2.2.1 (g := (mkF m 26 #[.val (.ref x), .val (.ref y), .val (.ref y)] [.ref x])) rfl (rest := []) rfl (hb hbytes d26)
    have hh9 := q9.trans hh7
    have c10 : Steps p.tables e below (s₁.setTop (entryFrame m #[.ref x, .ref y] 3)) (T9.setTop (mkF m 30 #[.val (.ref x), .val (.ref y), .val (.ref y)] [.ref y, .int cd])) := (c8.trans (st9 _ (Steps.refl _))).trans (by
      refine XS.aloadN X9.here hexec rfl (hb hbytes d29) rfl rfl ?_
      exact Steps.refl _)
    obtain ⟨T11, X11, q11, st11⟩ := X9.hget hexec hown (wk W (.fieldLink "java/lang/String" 15 "java/lang/String" "coder" "B")) (hy.mv X9.warmed.alike hh9).2.2.1 (g := (mkF m 30 #[.val (.ref x), .val (.ref y), .val (.ref y)] [.ref y, .int cd])) rfl (rest := [.int cd]) rfl (hb hbytes d30)
    have hh11 := q11.trans hh9
    have c12 : Steps p.tables e below (s₁.setTop (entryFrame m #[.ref x, .ref y] 3)) (T11.setTop (mkF m 33 #[.val (.ref x), .val (.ref y), .val (.ref y)] [.int cd', .int cd])) := c10.trans (st11 _ (Steps.refl _))
    by_cases hcd : cd = cd'
    · subst hcd
      have c13 : Steps p.tables e below (s₁.setTop (entryFrame m #[.ref x, .ref y] 3)) (T11.setTop (mkF m 37 #[.val (.ref x), .val (.ref y), .val (.ref y)] [.ref x])) := c12.trans (by
        refine XS.icmpNo X11.here hexec rfl (hb hbytes d33) rfl (ii_ne_f rfl) ?_
        refine XS.aloadN X11.here hexec rfl (hb hbytes d36) rfl rfl ?_
        exact Steps.refl _)
      obtain ⟨T14, X14, q14, st14⟩ := X11.hget hexec hown (wk W (.fieldLink "java/lang/String" 9 "java/lang/String" "value" "[B")) (hx.mv X11.warmed.alike hh11).2.1 (g := (mkF m 37 #[.val (.ref x), .val (.ref y), .val (.ref y)] [.ref x])) rfl (rest := []) rfl (hb hbytes d37)
      have hh14 := q14.trans hh11
      have c15 : Steps p.tables e below (s₁.setTop (entryFrame m #[.ref x, .ref y] 3)) (T14.setTop (mkF m 41 #[.val (.ref x), .val (.ref y), .val (.ref y)] [.ref y, .ref t])) := (c13.trans (st14 _ (Steps.refl _))).trans (by
        refine XS.aloadN X14.here hexec rfl (hb hbytes d40) rfl rfl ?_
        exact Steps.refl _)
      obtain ⟨T16, X16, q16, st16⟩ := X14.hget hexec hown (wk W (.fieldLink "java/lang/String" 9 "java/lang/String" "value" "[B")) (hy.mv X14.warmed.alike hh14).2.1 (g := (mkF m 41 #[.val (.ref x), .val (.ref y), .val (.ref y)] [.ref y, .ref t])) rfl (rest := [.ref t]) rfl (hb hbytes d41)
      have hh16 := q16.trans hh14
      have c17 : Steps p.tables e below (s₁.setTop (entryFrame m #[.ref x, .ref y] 3)) (T16.setTop (mkF m 44 #[.val (.ref x), .val (.ref y), .val (.ref y)] [.ref t', .ref t])) := c15.trans (st16 _ (Steps.refl _))
      obtain ⟨v18, T18, X18, E18, g18⟩ := X16.callS hexec (LEq.law l t V t' V') hown (wks W (staticW "java/lang/String" 541 LEq.yN)) (wk W LEq.tab) (W := 0) (Nat.le_of_ble_eq_true rfl) (Nat.le_of_ble_eq_true rfl) (Nat.le_refl _) (Nat.le_refl _) (g := (mkF m 44 #[.val (.ref x), .val (.ref y), .val (.ref y)] [.ref t', .ref t])) rfl (by rw [hml]; rfl) c17 (argsL := [.ref t, .ref t']) (rest := []) rfl rfl (by show 2 * 0 + 0 ≤ _; decide) (hb hbytes d44) (⟨rfl, hx.2.2.2.1.mv X16.warmed.alike hh16, hx.2.2.2.2.1.ty, hy.2.2.2.1.mv X16.warmed.alike hh16, hy.2.2.2.2.1.ty⟩)
      obtain ⟨v, rfl, q18, hv⟩ := E18
      have iff := Cod.eqv hx.2.2.2.2.1 hy.2.2.2.2.1 hx.2.2.2.2.2 hy.2.2.2.2.2
      rcases hv with ⟨rfl, he⟩ | ⟨rfl, he⟩
      · have c19 : Steps p.tables e below (s₁.setTop (entryFrame m #[.ref x, .ref y] 3)) (T18.setTop (mkF m 55 #[.val (.ref x), .val (.ref y), .val (.ref y)] [.int 1])) := Steps.trans g18 (by
          refine XS.ifNo X18.here hexec rfl (hb hbytes d47) rfl (i0_eq_f (by decide)) ?_
          refine iconstV X18.here hexec rfl 1 (hb hbytes d50) (by decide) ?_
          refine XS.goto X18.here hexec rfl (pc0 := 51) rfl (hb hbytes d51) (by decide) rfl ?_
          exact Steps.refl _)
        exact ⟨T18, some (.int 1), _, _, _, X18, rfl, rfl, rfl, (fun h => by cases h), ⟨1, rfl, q18.trans hh16, Or.inl ⟨rfl, iff.mp he⟩⟩, fun fs hl => c19.trans (X18.ireturnOut hexec hret rfl (Or.inr (Or.inl rfl)) (hb hbytes d55) hl)⟩
      · have c19 : Steps p.tables e below (s₁.setTop (entryFrame m #[.ref x, .ref y] 3)) (T18.setTop (mkF m 55 #[.val (.ref x), .val (.ref y), .val (.ref y)] [.int 0])) := Steps.trans g18 (by
          refine XS.ifYes X18.here hexec rfl (pc0 := 47) rfl (hb hbytes d47) rfl (i0_eq_t rfl) (by decide) rfl ?_
          refine iconstV X18.here hexec rfl 0 (hb hbytes d54) (by decide) ?_
          exact Steps.refl _)
        exact ⟨T18, some (.int 0), _, _, _, X18, rfl, rfl, rfl, (fun h => by cases h), ⟨0, rfl, q18.trans hh16, Or.inr ⟨rfl, fun q => he (iff.mpr q)⟩⟩, fun fs hl => c19.trans (X18.ireturnOut hexec hret rfl (Or.inr (Or.inl rfl)) (hb hbytes d55) hl)⟩
    · have c13 : Steps p.tables e below (s₁.setTop (entryFrame m #[.ref x, .ref y] 3)) (T11.setTop (mkF m 55 #[.val (.ref x), .val (.ref y), .val (.ref y)] [.int 0])) := c12.trans (by
        refine XS.icmpYes X11.here hexec rfl (pc0 := 33) rfl (hb hbytes d33) rfl (ii_ne_t hcd) (by decide) rfl ?_
        refine iconstV X11.here hexec rfl 0 (hb hbytes d54) (by decide) ?_
        exact Steps.refl _)
      exact ⟨T11, some (.int 0), _, _, _, X11, rfl, rfl, rfl, (fun h => by cases h), ⟨0, rfl, hh11, Or.inr ⟨rfl, Cod.dif hx.2.2.2.2.1 hy.2.2.2.2.1 hcd⟩⟩, fun fs hl => c13.trans (X11.ireturnOut hexec hret rfl (Or.inr (Or.inl rfl)) (hb hbytes d55) hl)⟩
theorem pays {l : Launch} {R : Room} {p : Program} {e : Env} {below : List Frame} {s : State} {sargs : Array Value} {len W : Nat} (x t : Addr) (V : Cell) (cd : Int32) (n : Nat) (f : Nat → Int32) (y t' : Addr) (V' : Cell) (cd' : Int32) (k : Nat) (g : Nat → Int32) (z : Int32) (htab : tab.before sargs s = true) (hfr : 2 ≤ R.frames) (hlo : W + 28 ≤ R.locals) :
    Back l R p e below s sargs yN len W (fun A₁ a₁ => A₁.cells + 0 ≤ R.cells ∧ A₁.slots + 0 ≤ R.slots ∧ P x t V cd n f y t' V' cd' k g z a₁ A₁.U) (fun A₁ _ v₁ B₁ => Says01 (SameT n f k g) v₁ A₁.U B₁.U ∧ B₁.locs = A₁.locs ++ [] ∧ B₁.cells = A₁.cells + 0 ∧ B₁.slots = A₁.slots + 0) :=
  (law l x t V cd n f y t' V' cd' k g z).pays htab hfr (by omega)
end SEq
end StrChars
namespace StrChars.Road
open Jvm Sem ClassFile Op Lib Jvm.Stand Jvm.Free Jvm.Free.XT
open Jvm.Lib.Cold (StaticIs)
/-- the words of String.equals(Object) -/
abbrev wordsEq : List Jvm.Cond := [.code SEq.yN SEq.yB 3 (some .boolean), .initialized ST, .classLink ST 10 ST, .fieldLink ST 38 ST "COMPACT_STRINGS" "Z", .fieldLink ST 15 ST "coder" "B", .fieldLink ST 9 ST "value" "[B", .methodLink ST 541 LEq.yN, .static LEq.yN, .code LEq.yN LEq.yB 3 (some .boolean), .initialized "java/lang/StringLatin1"]
theorem tabEq_of {a : Array Value} {s : State} (h : ∀ w ∈ wordsEq, w.before a s = true) : SEq.tab.before a s = true := by
  have hl : LEq.tab.before a s = true := unparts (wk h (.code LEq.yN LEq.yB 3 (some .boolean))) (wks h (.initialized LEq.yN.cls :: LEq.site))
  have q := consq hl h
  exact unparts (wk q (.code SEq.yN SEq.yB 3 (some .boolean))) (wks q (.initialized SEq.yN.cls :: SEq.site))
theorem movedEq {Z s : State} {a0 args : Array Value} (hZ : Z.Warmed39 s.vm) (hw : ∀ d ∈ wordsEq, d.before a0 Z = true) : ∀ d ∈ wordsEq, d.before args s = true := fun d hd => by
  have t : ∀ d ∈ wordsEq, (d.onTables && d.keepsFace) = true := by decide +kernel
  exact RoadKit.mv hZ (hw d hd) (t d hd)
/-- the road's facts of a String, as the laws ask it -/
theorem txt_of {Z U : State} {a0 : Array Value} {kI : Nat} (wi : (Jvm.Cond.instantiable ST kI).before a0 Z = true) (al : Z.vm.Alike U.vm) {x t : Addr} {kb : ClassId} {cs : List Int32} {cd N2 : Int32} {vs : List Value} (E : RoadKit.Exa Z U.heap x ST) (V : RoadKit.Fld Z U.heap x ST "value" "[B" (.ref t)) (C : RoadKit.Fld Z U.heap x ST "coder" "B" (.int cd)) (K : RoadKit.Arv Z U.heap t kb .byte N2 vs (.int 0)) (hc : CodA cs cd N2 vs) (hb : ∀ c ∈ cs, ¬ c < 0 ∧ ¬ (65535 : Int32) < c) (l2 : cs.length ≤ 4000) :
    ∃ A, Txt x t A cd cs.length (fun j => cs.getD j 0) U := by
  obtain ⟨A, K1, K2, K3, K4, K5, K6⟩ := K
  have hcod := hc.cod (by omega) K3 K5
  obtain ⟨D, fV, fC, hB, F1, F2, g1, g2, -, -⟩ := strObj wi al E V C
  exact ⟨A, ⟨_, hB.2.2.1, D, hB.1, rfl, by cases q : D.vm <;> first | rfl | exact absurd q (hB.2.1.2 _)⟩, Has.of hB F1 g1, Has.of hB F2 g2, ⟨K1.1, State.isArrayOf_alike al K1.2.1, K1.2.2, by rcases hcod with ⟨-, q, -⟩ | ⟨-, q, -⟩ <;> omega⟩, hcod, fun j hj => by
    have e : cs.getD j 0 = cs[j] := by simp [List.getD_eq_getElem?_getD, hj]
    show ¬ cs.getD j 0 < 0 ∧ ¬ 65535 < cs.getD j 0
    rw [e]; exact hb _ (List.getElem_mem _)⟩
theorem same_list (cs ds : List Int32) : SameT cs.length (fun j => cs.getD j 0) ds.length (fun j => ds.getD j 0) ↔ cs = ds := by
  constructor
  · rintro ⟨e, q⟩
    refine List.ext_getElem e fun j h1 h2 => ?_
    have := q j h1
    simpa [List.getD_eq_getElem?_getD, h1, h2] using this
  · rintro rfl
    exact ⟨rfl, fun _ _ => rfl⟩
/-- **equals(Object) OF TWO SUCH STRINGS**: 1 just where the chars are the same -/
theorem eqW {p : Program} {l : Launch} {e : Env} {R : Room} {s : State} {args : Array Value} {below : List Frame} {len W : Nat} {Z : State} {a0 : Array Value} {h : Heap} (hZ : Z.Warmed39 s.vm) (hw : ∀ d ∈ wordsEq, d.before a0 Z = true) {kI : Nat} (wi : (Jvm.Cond.instantiable ST kI).before a0 Z = true)
    {x t : Addr} {kb : ClassId} {cs : List Int32} {cd N2 : Int32} {vs : List Value} (E : RoadKit.Exa Z h x ST) (V : RoadKit.Fld Z h x ST "value" "[B" (.ref t)) (C : RoadKit.Fld Z h x ST "coder" "B" (.int cd)) (K : RoadKit.Arv Z h t kb .byte N2 vs (.int 0)) (hc : CodA cs cd N2 vs) (hb : ∀ c ∈ cs, ¬ c < 0 ∧ ¬ (65535 : Int32) < c) (l2 : cs.length ≤ 4000)
    {y t' : Addr} {kb' : ClassId} {ds : List Int32} {cd' N2' : Int32} {vs' : List Value} (E' : RoadKit.Exa Z h y ST) (V' : RoadKit.Fld Z h y ST "value" "[B" (.ref t')) (C' : RoadKit.Fld Z h y ST "coder" "B" (.int cd')) (K' : RoadKit.Arv Z h t' kb' .byte N2' vs' (.int 0)) (hc' : CodA ds cd' N2' vs') (hb' : ∀ c ∈ ds, ¬ c < 0 ∧ ¬ (65535 : Int32) < c) (l2' : ds.length ≤ 4000)
    {z : Int32} (S : RoadKit.Sta Z h ST "COMPACT_STRINGS" "Z" (.int z)) (hz : ¬ z = 0) (hfr : 2 ≤ R.frames) (hlo : W + 28 ≤ R.locals) :
    Back l R p e below s args (⟨"java/lang/String", "equals", "(Ljava/lang/Object;)Z"⟩ : MethodName) len W (fun P a => a = #[.ref x, .ref y] ∧ P.U.heap = h ∧ P.cells + 0 ≤ R.cells ∧ P.slots + 0 ≤ R.slots)
      (fun P _ v B => ∃ L, (((v = some (.int 1) ∧ cs = ds) ∨ (v = some (.int 0) ∧ ¬ cs = ds)) ∧ L = [] ∧ B.U.heap = h) ∧ B.locs = P.locs ++ L ∧ B.cells = P.cells + 0 ∧ B.slots = P.slots + 0) := by
  intro m meth c P g ig mk a X hg hsize hdg hW hn hp'
  obtain ⟨rfl, rfl, r1, r2⟩ := hp'
  have al : Z.vm.Alike P.U.vm := hZ.alike.trans X.warmed.alike
  obtain ⟨A, hx⟩ := txt_of wi al E V C K hc hb l2
  obtain ⟨A', hy⟩ := txt_of wi al E' V' C' K' hc' hb' l2'
  obtain ⟨v, B, X', ⟨⟨w, hv, hh, hq⟩, hl, hk, hs⟩, st⟩ := SEq.pays x t A cd cs.length (fun j => cs.getD j 0) y t' A' cd' ds.length (fun j => ds.getD j 0) z (tabEq_of (movedEq hZ hw)) hfr hlo m meth c P g ig mk _ X hg hsize hdg hW hn ⟨r1, r2, rfl, hx, hy, sta_is al S, hz⟩
  refine ⟨v, B, X', ⟨[], ⟨?_, rfl, hh⟩, hl, hk, hs⟩, st⟩
  rcases hq with ⟨rfl, q⟩ | ⟨rfl, q⟩
  · exact Or.inl ⟨hv, (same_list cs ds).mp q⟩
  · exact Or.inr ⟨hv, fun e => q ((same_list cs ds).mpr e)⟩
end StrChars.Road
namespace StrChars
open Jvm Sem ClassFile Op Lib Jvm.Stand Jvm.Free.XT Jvm.Free.ALB Jvm.Free.JM Jvm.Free
open Jvm.Lib.Cold (StaticIs)
namespace ChN
def yN : MethodName := ⟨"java/lang/String", "charAt", "(I)C"⟩
abbrev yB : ByteArray := jdk_42_method_56_code
theorem d0 : decode yB 0 = .ok (.aload_n 0, 1) := by decide +kernel
theorem d1 : decode yB 1 = .ok (.invokevirtual 492, 3) := by decide +kernel
theorem d4 : decode yB 4 = .ok (.ifCond (.eq) 12, 3) := by decide +kernel
theorem d7 : decode yB 7 = .ok (.aload_n 0, 1) := by decide +kernel
theorem d8 : decode yB 8 = .ok (.getfield 9, 3) := by decide +kernel
theorem d11 : decode yB 11 = .ok (.iload_n 1, 1) := by decide +kernel
theorem d12 : decode yB 12 = .ok (.invokestatic 495, 3) := by decide +kernel
theorem d15 : decode yB 15 = .ok (.ireturn, 1) := by decide +kernel
def site : List Cond := [.fieldLink "java/lang/String" 9 "java/lang/String" "value" "[B", IsL.tab, LChA.tab] ++ virtW "java/lang/String" 492 "java/lang/String" IsL.yN IsL.yN ++ staticW "java/lang/String" 495 LChA.yN
def tab : Cond := tabOf yN yB 2 (some .char) site
def P (x t : Addr) (V : Cell) (n : Nat) (f : Nat → Int32) (z : Int32) (fm : Value) (i : Nat) (args : Array Value) (s : State) : Prop := args = #[.ref x, .int (Int32.ofNat i)] ∧ Txt x t V 0 n f s ∧ i < n ∧ StaticIs s "java/lang/String" "COMPACT_STRINGS" "Z" (.int z) ∧ ¬ z = 0 ∧ StaticIs s "jdk/internal/util/Preconditions" "SIOOBE_FORMATTER" "Ljava/util/function/BiFunction;" fm ∧ fm.isRef = true
def E (f : Nat → Int32) (i : Nat) (r : Option Value) (s u : State) : Prop := XT.PureE (some (.int (f i))) r s u
/-- charAt(i) of a Latin-1 String of n chars, i < n: f i -/
theorem law (l : Launch) (x t : Addr) (V : Cell) (n : Nat) (f : Nat → Int32) (z : Int32) (fm : Value) (i : Nat) : Law l yN 2 1 3 40 yB 2 (some .char) site (P x t V n f z fm i) (E f i) [] 0 0 := by
  refine Law.of_walk (plainFor_of_name (by decide +kernel)) (by decide +kernel) (by decide +kernel) (by decide) (fun _ _ h => by rw [h.1]; rfl) (fun _ U U' hal hh h => ⟨h.1, h.2.1.mv hal hh, h.2.2.1, h.2.2.2.1.there hal hh, h.2.2.2.2.1, h.2.2.2.2.2.1.there hal hh, h.2.2.2.2.2.2⟩) (fun r U U' V V' h1 hal h2 h => XT.PureE.mv r U U' V V' h1 hal h2 h) ?_
  intro p e s m args below meth c s₁ X0 hexec hbytes hml hret hlk hnm hown hh0 W hP
  obtain ⟨rfl, hx, hi, s1, hz, s3, rf⟩ := hP
  have v31 := hx.2.2.2.1.2.2.2
  have hr := hx.2.2.2.2.2 i hi
  have hx0 := hx.mv X0.warmed.alike hh0
  have c1 : Steps p.tables e below (s₁.setTop (entryFrame m #[.ref x, .int (Int32.ofNat i)] 2)) (s₁.setTop (mkF m 1 #[.val (.ref x), .val (.int (Int32.ofNat i))] [.ref x])) := Steps.trans (entry rfl) (by
    show Steps p.tables e below (s₁.setTop (mkF m 0 #[.val (.ref x), .val (.int (Int32.ofNat i))] [])) _
    refine XS.aloadN X0.here hexec rfl (hb hbytes d0) rfl rfl ?_
    exact Steps.refl _)
  obtain ⟨v2, T2, X2, E2, g2⟩ := X0.callV hexec (IsL.law l x 0 z) hown (wks W (virtW "java/lang/String" 492 "java/lang/String" IsL.yN IsL.yN)) rfl (by decide) (wk W IsL.tab) (W := 0) (Nat.le_of_ble_eq_true rfl) (Nat.le_of_ble_eq_true rfl) (Nat.le_refl _) (Nat.le_refl _) (hx0.1.fc X0.warmed.alike) hx0.1.is (g := (mkF m 1 #[.val (.ref x), .val (.int (Int32.ofNat i))] [.ref x])) rfl (by rw [hml]; rfl) c1 (argsL := []) (rest := []) rfl rfl (by show 2 * 0 + 0 ≤ _; decide) (hb hbytes d1) (⟨rfl, hx0.2.2.1, hx.2.2.2.2.1.cd, s1.there X0.warmed.alike hh0, hz⟩)
  obtain ⟨rfl, q2⟩ := E2
  have hh2 := q2.trans hh0
  have hx2 := hx.mv X2.warmed.alike hh2
  obtain ⟨-, k1, k2⟩ | ⟨k0, -⟩ := hx.2.2.2.2.1
  · have c3 : Steps p.tables e below (s₁.setTop (entryFrame m #[.ref x, .int (Int32.ofNat i)] 2)) (T2.setTop (mkF m 8 #[.val (.ref x), .val (.int (Int32.ofNat i))] [.ref x])) := Steps.trans g2 (by
      refine XS.ifNo X2.here hexec rfl (hb hbytes d4) rfl (i0_eq_f (by decide)) ?_
      refine XS.aloadN X2.here hexec rfl (hb hbytes d7) rfl rfl ?_
      exact Steps.refl _)
    obtain ⟨T4, X4, q4, st4⟩ := X2.hget hexec hown (wk W (.fieldLink "java/lang/String" 9 "java/lang/String" "value" "[B")) hx2.2.1 (g := (mkF m 8 #[.val (.ref x), .val (.int (Int32.ofNat i))] [.ref x])) rfl (rest := []) rfl (hb hbytes d8)
    have hh4 := q4.trans hh2
    have c5 : Steps p.tables e below (s₁.setTop (entryFrame m #[.ref x, .int (Int32.ofNat i)] 2)) (T4.setTop (mkF m 12 #[.val (.ref x), .val (.int (Int32.ofNat i))] [.int (Int32.ofNat i), .ref t])) := (c3.trans (st4 _ (Steps.refl _))).trans (by
      refine XS.iloadN X4.here hexec rfl (hb hbytes d11) rfl ?_
      exact Steps.refl _)
    obtain ⟨v6, T6, X6, E6, g6⟩ := X4.callS hexec (LChA.law l t V i (lo8 (f i)) fm) hown (wks W (staticW "java/lang/String" 495 LChA.yN)) (wk W LChA.tab) (W := 0) (Nat.le_of_ble_eq_true rfl) (Nat.le_of_ble_eq_true rfl) (Nat.le_refl _) (Nat.le_refl _) (g := (mkF m 12 #[.val (.ref x), .val (.int (Int32.ofNat i))] [.int (Int32.ofNat i), .ref t])) rfl (by rw [hml]; rfl) c5 (argsL := [.ref t, .int (Int32.ofNat i)]) (rest := []) rfl rfl (by show 2 * 0 + 0 ≤ _; decide) (hb hbytes d12) (⟨rfl, hx.2.2.2.1.mv X4.warmed.alike hh4, (k2 i hi).1, s3.there X4.warmed.alike hh4, rf⟩)
    obtain ⟨rfl, q6⟩ := E6
    rw [chr8_lo8 hr.1 (k2 i hi).2] at g6
    exact ⟨T6, some (.int (f i)), _, _, _, X6, rfl, rfl, rfl, (fun h => by cases h), ⟨rfl, q6.trans hh4⟩, fun fs hl => Steps.trans g6 (X6.ireturnOut hexec hret (narrow_ch hr.1 hr.2) (Or.inr (Or.inr (Or.inr (Or.inl rfl)))) (hb hbytes d15) hl)⟩
  · exact absurd k0 (by decide)
theorem pays {l : Launch} {R : Room} {p : Program} {e : Env} {below : List Frame} {s : State} {sargs : Array Value} {len W : Nat} (x t : Addr) (V : Cell) (n : Nat) (f : Nat → Int32) (z : Int32) (fm : Value) (i : Nat) (htab : tab.before sargs s = true) (hfr : 4 ≤ R.frames) (hlo : W + 53 ≤ R.locals) :
    Back l R p e below s sargs yN len W (fun A₁ a₁ => A₁.cells + 0 ≤ R.cells ∧ A₁.slots + 0 ≤ R.slots ∧ P x t V n f z fm i a₁ A₁.U) (fun A₁ _ v₁ B₁ => E f i v₁ A₁.U B₁.U ∧ B₁.locs = A₁.locs ++ [] ∧ B₁.cells = A₁.cells + 0 ∧ B₁.slots = A₁.slots + 0) :=
  (law l x t V n f z fm i).pays htab hfr (by omega)
end ChN
end StrChars
namespace StrChars.Road
open Jvm Sem ClassFile Op Lib Jvm.Stand Jvm.Free Jvm.Free.XT
open Jvm.Lib.Cold (StaticIs)
/-- the words of String.charAt(int), the Latin-1 road alone -/
abbrev wordsChN : List Jvm.Cond := [.code ChN.yN ChN.yB 2 (some .char), .initialized ST, .fieldLink ST 9 ST "value" "[B", .fieldLink ST 38 ST "COMPACT_STRINGS" "Z", .fieldLink ST 15 ST "coder" "B", .code IsL.yN IsL.yB 1 (some .boolean), .methodLink ST 492 IsL.yN, .declares IsL.yN, .selects ST IsL.yN IsL.yN, .instanceMethod IsL.yN,
  .methodLink ST 495 LChA.yN, .static LChA.yN, .code LChA.yN LChA.yB 2 (some .char), .initialized "java/lang/StringLatin1", .methodLink "java/lang/StringLatin1" 9 JO.Str_checkIndex.yN, .static JO.Str_checkIndex.yN, .code JO.Str_checkIndex.yN JO.Str_checkIndex.yB 2 none,
  .fieldLink ST 1053 "jdk/internal/util/Preconditions" "SIOOBE_FORMATTER" "Ljava/util/function/BiFunction;", .methodLink ST 1059 JC.PreCheck.yN, .static JC.PreCheck.yN, .code JC.PreCheck.yN JC.PreCheck.yB 3 (some .int), .initialized "jdk/internal/util/Preconditions"]
theorem tabChN_of {a : Array Value} {s : State} (h : ∀ w ∈ wordsChN, w.before a s = true) : ChN.tab.before a s = true := by
  have hp : JC.PreCheck.tab.before a s = true := unparts (wk h (.code JC.PreCheck.yN JC.PreCheck.yB 3 (some .int))) (wks h (.initialized JC.PreCheck.yN.cls :: JC.PreCheck.site))
  have qk := consq hp h
  have hk : JO.Str_checkIndex.tab.before a s = true := unparts (wk qk (.code JO.Str_checkIndex.yN JO.Str_checkIndex.yB 2 none)) (wks qk (.initialized JO.Str_checkIndex.yN.cls :: JO.Str_checkIndex.site))
  have ql := consq hk h
  have hl : LChA.tab.before a s = true := unparts (wk ql (.code LChA.yN LChA.yB 2 (some .char))) (wks ql (.initialized LChA.yN.cls :: LChA.site))
  have hi : IsL.tab.before a s = true := unparts (wk h (.code IsL.yN IsL.yB 1 (some .boolean))) (wks h (.initialized IsL.yN.cls :: IsL.site))
  have q := consq hi (consq hl h)
  exact unparts (wk q (.code ChN.yN ChN.yB 2 (some .char))) (wks q (.initialized ChN.yN.cls :: ChN.site))
theorem movedChN {Z s : State} {a0 args : Array Value} (hZ : Z.Warmed39 s.vm) (hw : ∀ d ∈ wordsChN, d.before a0 Z = true) : ∀ d ∈ wordsChN, d.before args s = true := fun d hd => by
  have t : ∀ d ∈ wordsChN, (d.onTables && d.keepsFace) = true := by decide +kernel
  exact RoadKit.mv hZ (hw d hd) (t d hd)
/-- **charAt(i) OF A LATIN-1 STRING**, i < n: the char -/
theorem chN {p : Program} {l : Launch} {e : Env} {R : Room} {s : State} {args : Array Value} {below : List Frame} {len W : Nat} {Z : State} {a0 : Array Value} {h : Heap} (hZ : Z.Warmed39 s.vm) (hw : ∀ d ∈ wordsChN, d.before a0 Z = true) {kI : Nat} (wi : (Jvm.Cond.instantiable ST kI).before a0 Z = true)
    {x t : Addr} {kb : ClassId} {cs : List Int32} {N2 z : Int32} {vs : List Value} {fm : Value} {i : Nat} {j : Int32} (E : RoadKit.Exa Z h x ST) (V : RoadKit.Fld Z h x ST "value" "[B" (.ref t)) (C : RoadKit.Fld Z h x ST "coder" "B" (.int 0)) (K : RoadKit.Arv Z h t kb .byte N2 vs (.int 0)) (hc : CodA cs 0 N2 vs) (hb : ∀ c ∈ cs, ¬ c < 0 ∧ ¬ (65535 : Int32) < c)
    (S : RoadKit.Sta Z h ST "COMPACT_STRINGS" "Z" (.int z)) (hz : ¬ z = 0) (F : RoadKit.Sta Z h "jdk/internal/util/Preconditions" "SIOOBE_FORMATTER" "Ljava/util/function/BiFunction;" fm) (rf : fm.isRef = true) (l2 : cs.length ≤ 4000) (hi : i < cs.length) (hj : j = Int32.ofNat i) (hfr : 4 ≤ R.frames) (hlo : W + 53 ≤ R.locals) :
    Back l R p e below s args (⟨"java/lang/String", "charAt", "(I)C"⟩ : MethodName) len W (fun P a => a = #[.ref x, .int j] ∧ P.U.heap = h ∧ P.cells + 0 ≤ R.cells ∧ P.slots + 0 ≤ R.slots)
      (fun P _ v B => ∃ L, (v = some (.int (cs.getD i 0)) ∧ L = [] ∧ B.U.heap = h) ∧ B.locs = P.locs ++ L ∧ B.cells = P.cells + 0 ∧ B.slots = P.slots + 0) := by
  subst hj
  intro m meth c P g ig mk a X hg hsize hdg hW hn hp'
  obtain ⟨rfl, rfl, r1, r2⟩ := hp'
  have al : Z.vm.Alike P.U.vm := hZ.alike.trans X.warmed.alike
  obtain ⟨A, hx⟩ := txt_of wi al E V C K hc hb l2
  obtain ⟨v, B, X', ⟨⟨hv, hh⟩, hl, hk, hs⟩, st⟩ := ChN.pays x t A cs.length (fun j => cs.getD j 0) z fm i (tabChN_of (movedChN hZ hw)) hfr hlo m meth c P g ig mk _ X hg hsize hdg hW hn ⟨r1, r2, rfl, hx, hi, sta_is al S, hz, sta_is al F, rf⟩
  exact ⟨v, B, X', ⟨[], ⟨hv, rfl, hh⟩, hl, hk, hs⟩, st⟩
end StrChars.Road
end Jvm.Pilot.@@N@@
namespace Jvm.Pilot.@@N@@
open Jvm Jvm.ClassFile Sem Op Lib Jvm.Free Jvm.Stand Jvm.LawKit Jvm.RoadKit Bundle Jvm.Pilot.@@N@@.Jvm.D
section OwnKit
variable {p : Program} {l : Launch} {e : Env} {R : Room} {s : State} {m : MethodId} {A : Array Value} {below : List Frame} {meth : Method} {c : Code} {T : State} {cells slots : Nat} {Z : State} {a0 : Array Value} {h : Heap} {own nm : String} {bytes : ByteArray} {maxL : Nat} {ret : Option FieldType} {W : Outcome → State → Prop} {pc pc' tgt : Nat} {Ls : Array Slot} {st : List Value}
/-- the run from the frame g over T comes to an end at which W holds -/
def Goes (p : Program) (e : Env) (below : List Frame) (W : Outcome → State → Prop) (T : State) (g : JFrame) : Prop :=
  ∃ s₂ o, Steps p.tables e below (T.setTop g) s₂ ∧ s₂.status = .running ∧ Ended s₂ below o ∧ W o s₂
theorem Goes.via {T' : State} {g g' : JFrame} (h : ∀ t, Steps p.tables e below (T'.setTop g') t → Steps p.tables e below (T.setTop g) t) (k : Goes p e below W T' g') : Goes p e below W T g := by
  obtain ⟨s₂, o, h1, h2⟩ := k; exact ⟨s₂, o, h _ h1, h2⟩
/-- what stays the same through a body -/
def Cx (p : Program) (s : State) (m : MethodId) (meth : Method) (c : Code) (Z : State) (own nm : String) (bytes : ByteArray) (maxL : Nat) (ret : Option FieldType) : Prop :=
  p.tables.exec = Jvm.exec ∧ Z.Warmed39 s.vm ∧ s.vm.findClass own = some m.cls ∧ c.code = bytes ∧ c.maxLocals = maxL ∧ meth.sig.returnType = ret ∧ meth.locks = false ∧ meth.name = nm
theorem Cx.hx (C : Cx p s m meth c Z own nm bytes maxL ret) : p.tables.exec = Jvm.exec := C.1
theorem Cx.hZ (C : Cx p s m meth c Z own nm bytes maxL ret) : Z.Warmed39 s.vm := C.2.1
theorem Cx.hown (C : Cx p s m meth c Z own nm bytes maxL ret) : s.vm.findClass own = some m.cls := C.2.2.1
theorem Cx.hby (C : Cx p s m meth c Z own nm bytes maxL ret) : c.code = bytes := C.2.2.2.1
theorem Cx.hml (C : Cx p s m meth c Z own nm bytes maxL ret) : c.maxLocals = maxL := C.2.2.2.2.1
theorem Cx.hret (C : Cx p s m meth c Z own nm bytes maxL ret) : meth.sig.returnType = ret := C.2.2.2.2.2.1
theorem Cx.hlk (C : Cx p s m meth c Z own nm bytes maxL ret) : meth.locks = false := C.2.2.2.2.2.2.1
theorem Cx.hnm (C : Cx p s m meth c Z own nm bytes maxL ret) : meth.name = nm := C.2.2.2.2.2.2.2
/-- where the walk stands: the heap is h; nothing that stood at Z was written; at most so many cells and slots were made -/
def St (p : Program) (l : Launch) (e : Env) (R : Room) (s : State) (m : MethodId) (A : Array Value) (below : List Frame) (meth : Method) (c : Code) (Z : State) (T : State) (h : Heap) (cells slots : Nat) : Prop :=
  ∃ locs, Stand p l e R s m A below meth c T locs cells slots ∧ T.heap = h ∧ Fr Z.heap.size locs ∧ Ext Z.heap h
theorem St.here (X : St p l e R s m A below meth c Z T h cells slots) : At T m c below := by obtain ⟨_, Y, _⟩ := X; exact Y.here
theorem St.ext (X : St p l e R s m A below meth c Z T h cells slots) : Ext Z.heap h := by obtain ⟨_, _, _, _, E⟩ := X; exact E
theorem St.more {cells' slots' : Nat} (X : St p l e R s m A below meth c Z T h cells slots) (h1 : cells ≤ cells') (h2 : slots ≤ slots') : St p l e R s m A below meth c Z T h cells' slots' := by
  obtain ⟨L, Y, r⟩ := X; exact ⟨L, Y.more h1 h2, r⟩
/-- the end of a body: Q of what it returned and of the heap -/
def EndW (Z s : State) (k n : Nat) (Q : Option Value → Heap → Prop) (o : Outcome) (u : State) : Prop :=
  ∃ v L, o = .returned v ∧ (Fr Z.heap.size L ∧ Ext Z.heap u.heap ∧ Q v u.heap) ∧ FrameEnd s o u L k n
/-- a body's contract: called with A at the heap h0, over tables warmer than Z's, it returns and leaves Q -/
def Con (l : Launch) (y : MethodName) (bytes : ByteArray) (maxL : Nat) (ret : Option FieldType) (ws : List Jvm.Cond) (rm : Room) (Z : State) (A : Array Value) (h0 : Heap) (Q : Option Value → Heap → Prop) : Prop :=
  MetFree l y (head1 (Jvm.Cond.code y bytes maxL ret :: ws) rm) (fun a U => a = A ∧ Z.Warmed39 U.vm ∧ U.heap = h0) (fun _ _ _ _ _ => True) (fun _ U o U' => EndW Z U rm.cells rm.slots Q o U')
theorem con_of {y : MethodName} {ws : List Jvm.Cond} {rm : Room} {h0 : Heap} {Q : Option Value → Heap → Prop} {Ls : Array Slot} (hp : plainFor y = true) (hE : Ext Z.heap h0) (hef : ∀ m, entryFrame m A maxL = mkF m 0 Ls [])
    (body : ∀ p e s m below meth c s₁, Cx p s m meth c Z y.cls y.name bytes maxL ret → St p l e rm s m A below meth c Z s₁ h0 0 0 → Goes p e below (EndW Z s rm.cells rm.slots Q) s₁ (mkF m 0 Ls [])) :
    Con l y bytes maxL ret ws rm Z A h0 Q := by
  refine MetFree.of_bodySF hp hisR ?_
  intro p e s m args below meth c s₁ Bd hml0 hP hK
  obtain ⟨rfl, hZ, hh⟩ := hP
  have X0 := Stand.of_body Bd
  have e0 : s₁.heap = h0 := by rw [← hh, Bd.state]; rfl
  have := body p e s m below meth c s₁ ⟨Bd.exec, hZ, findClass_of_methodNamed Bd.named, Bd.bytes, hml0, Bd.returns, Bd.notSynchronized, (name_of_methodNamed Bd.named Bd.method).1⟩ ⟨[], X0, e0, Fr.nil _, hE⟩
  rw [← hef m] at this
  exact this
/-- the instruction at pc, its length, the pc behind it -/
def Dc (b : ByteArray) (pc : Nat) (i : Instr) (n pc' : Nat) : Prop := decode b pc = .ok (i, n) ∧ pc + n = pc'
/-- a jump: besides, its target -/
def Dj (b : ByteArray) (pc : Nat) (i : Instr) (o : Int) (n pc' tgt : Nat) : Prop := decode b pc = .ok (i, n) ∧ pc + n = pc' ∧ 0 ≤ (pc : Int) + o ∧ ((pc : Int) + o).toNat = tgt
theorem g_goto {o : Int} (C : Cx p s m meth c Z own nm bytes maxL ret) (X : St p l e R s m A below meth c Z T h cells slots) (d : Dj bytes pc (.goto o) o 3 pc' tgt) (K : Goes p e below W T (mkF m tgt Ls st)) : Goes p e below W T (mkF m pc Ls st) :=
  Goes.via (fun _ k => XS.goto X.here C.hx rfl rfl (hb C.hby d.1) d.2.2.1 d.2.2.2 k) K
theorem g_if {cd : ClassFile.Cond} {o : Int} {x : Int32} {P : Prop} [Decidable P] (hP : ifCond.holds cd x = decide P) (C : Cx p s m meth c Z own nm bytes maxL ret) (X : St p l e R s m A below meth c Z T h cells slots) (d : Dj bytes pc (.ifCond cd o) o 3 pc' tgt) (K1 : P → Goes p e below W T (mkF m tgt Ls st)) (K2 : ¬ P → Goes p e below W T (mkF m pc' Ls st)) : Goes p e below W T (mkF m pc Ls (.int x :: st)) := by
  obtain ⟨d1, rfl, d3, d4⟩ := d
  by_cases q : P
  · exact Goes.via (fun _ k => XS.ifYes X.here C.hx rfl rfl (hb C.hby d1) rfl (hP.trans (decide_eq_true q)) d3 d4 k) (K1 q)
  · exact Goes.via (fun _ k => XS.ifNo X.here C.hx rfl (hb C.hby d1) rfl (hP.trans (decide_eq_false q)) k) (K2 q)
theorem g_icmp {cd : ClassFile.Cond} {o : Int} {x y : Int32} {P : Prop} [Decidable P] (hP : if_icmp.holds cd x y = decide P) (C : Cx p s m meth c Z own nm bytes maxL ret) (X : St p l e R s m A below meth c Z T h cells slots) (d : Dj bytes pc (.if_icmp cd o) o 3 pc' tgt) (K1 : P → Goes p e below W T (mkF m tgt Ls st)) (K2 : ¬ P → Goes p e below W T (mkF m pc' Ls st)) : Goes p e below W T (mkF m pc Ls (.int y :: .int x :: st)) := by
  obtain ⟨d1, rfl, d3, d4⟩ := d
  by_cases q : P
  · exact Goes.via (fun _ k => XS.icmpYes X.here C.hx rfl rfl (hb C.hby d1) rfl (hP.trans (decide_eq_true q)) d3 d4 k) (K1 q)
  · exact Goes.via (fun _ k => XS.icmpNo X.here C.hx rfl (hb C.hby d1) rfl (hP.trans (decide_eq_false q)) k) (K2 q)
theorem g_ifn {cd : ClassFile.Cond} {o : Int} {x : Int32} {P : Prop} [Decidable P] (hP : ifCond.holds cd x = !decide P) (C : Cx p s m meth c Z own nm bytes maxL ret) (X : St p l e R s m A below meth c Z T h cells slots) (d : Dj bytes pc (.ifCond cd o) o 3 pc' tgt) (K1 : ¬ P → Goes p e below W T (mkF m tgt Ls st)) (K2 : P → Goes p e below W T (mkF m pc' Ls st)) : Goes p e below W T (mkF m pc Ls (.int x :: st)) := by
  obtain ⟨d1, rfl, d3, d4⟩ := d
  by_cases q : P
  · exact Goes.via (fun _ k => XS.ifNo X.here C.hx rfl (hb C.hby d1) rfl (hP.trans (by simp [q])) k) (K2 q)
  · exact Goes.via (fun _ k => XS.ifYes X.here C.hx rfl rfl (hb C.hby d1) rfl (hP.trans (by simp [q])) d3 d4 k) (K1 q)
theorem g_icmpn {cd : ClassFile.Cond} {o : Int} {x y : Int32} {P : Prop} [Decidable P] (hP : if_icmp.holds cd x y = !decide P) (C : Cx p s m meth c Z own nm bytes maxL ret) (X : St p l e R s m A below meth c Z T h cells slots) (d : Dj bytes pc (.if_icmp cd o) o 3 pc' tgt) (K1 : ¬ P → Goes p e below W T (mkF m tgt Ls st)) (K2 : P → Goes p e below W T (mkF m pc' Ls st)) : Goes p e below W T (mkF m pc Ls (.int y :: .int x :: st)) := by
  obtain ⟨d1, rfl, d3, d4⟩ := d
  by_cases q : P
  · exact Goes.via (fun _ k => XS.icmpNo X.here C.hx rfl (hb C.hby d1) rfl (hP.trans (by simp [q])) k) (K2 q)
  · exact Goes.via (fun _ k => XS.icmpYes X.here C.hx rfl rfl (hb C.hby d1) rfl (hP.trans (by simp [q])) d3 d4 k) (K1 q)
theorem hI_eq (x y : Int32) : if_icmp.holds .eq x y = decide (x = y) := by
  by_cases q : x = y
  · rw [(teq q).1]; simp [q]
  · rw [(feq q).1]; simp [q]
theorem hI_ne (x y : Int32) : if_icmp.holds .ne x y = !decide (x = y) := by
  by_cases q : x = y
  · rw [(teq q).2]; simp [q]
  · rw [(feq q).2]; simp [q]
theorem hI_lt (x y : Int32) : if_icmp.holds .lt x y = decide (x < y) := by
  by_cases q : x < y
  · rw [(tlt q).1]; simp [q]
  · rw [(flt q).1]; simp [q]
theorem hI_ge (x y : Int32) : if_icmp.holds .ge x y = !decide (x < y) := by
  by_cases q : x < y
  · rw [(tlt q).2.1]; simp [q]
  · rw [(flt q).2.1]; simp [q]
theorem hI_gt (x y : Int32) : if_icmp.holds .gt x y = decide (y < x) := by
  by_cases q : y < x
  · rw [(tlt q).2.2.1]; simp [q]
  · rw [(flt q).2.2.1]; simp [q]
theorem hI_le (x y : Int32) : if_icmp.holds .le x y = !decide (y < x) := by
  by_cases q : y < x
  · rw [(tlt q).2.2.2]; simp [q]
  · rw [(flt q).2.2.2]; simp [q]
theorem h0_eq (x : Int32) : ifCond.holds .eq x = decide (x = 0) := (if0 _ _).trans (hI_eq x 0)
theorem h0_ne (x : Int32) : ifCond.holds .ne x = !decide (x = 0) := (if0 _ _).trans (hI_ne x 0)
theorem h0_lt (x : Int32) : ifCond.holds .lt x = decide (x < 0) := (if0 _ _).trans (hI_lt x 0)
theorem h0_ge (x : Int32) : ifCond.holds .ge x = !decide (x < 0) := (if0 _ _).trans (hI_ge x 0)
theorem h0_gt (x : Int32) : ifCond.holds .gt x = decide (0 < x) := (if0 _ _).trans (hI_gt x 0)
theorem h0_le (x : Int32) : ifCond.holds .le x = !decide (0 < x) := (if0 _ _).trans (hI_le x 0)
/-- a comparison of longs, then a branch on it: 'lcmp; if..' -/
theorem hL_eq (x y : Int64) : ifCond.holds .eq (lcmpW x y) = decide (x = y) := by rw [h0_eq]; exact decide_eq_decide.mpr (lw_eq x y)
theorem hL_ne (x y : Int64) : ifCond.holds .ne (lcmpW x y) = !decide (x = y) := by rw [h0_ne]; exact congrArg _ (decide_eq_decide.mpr (lw_eq x y))
theorem hL_lt (x y : Int64) : ifCond.holds .lt (lcmpW x y) = decide (x < y) := by rw [h0_lt]; exact decide_eq_decide.mpr (lw_lt x y)
theorem hL_ge (x y : Int64) : ifCond.holds .ge (lcmpW x y) = !decide (x < y) := by rw [h0_ge]; exact congrArg _ (decide_eq_decide.mpr (lw_lt x y))
theorem hL_gt (x y : Int64) : ifCond.holds .gt (lcmpW x y) = decide (y < x) := by rw [h0_gt]; exact decide_eq_decide.mpr (lw_gt x y)
theorem hL_le (x y : Int64) : ifCond.holds .le (lcmpW x y) = !decide (y < x) := by rw [h0_le]; exact congrArg _ (decide_eq_decide.mpr (lw_gt x y))
/-- two references compared; the values are references or null -/
theorem g_acmpeq {o : Int} {x y : Value} (C : Cx p s m meth c Z own nm bytes maxL ret) (X : St p l e R s m A below meth c Z T h cells slots) (d : Dj bytes pc (.if_acmp .eq o) o 3 pc' tgt) (h1 : x.isRef = true) (h2 : y.isRef = true) (K1 : x = y → Goes p e below W T (mkF m tgt Ls st)) (K2 : ¬ x = y → Goes p e below W T (mkF m pc' Ls st)) : Goes p e below W T (mkF m pc Ls (y :: x :: st)) := by
  obtain ⟨d1, rfl, d3, d4⟩ := d
  by_cases q : x = y
  · exact Goes.via (fun _ k => XT.acmpYes X.here C.hx rfl rfl (hb C.hby d1) rfl h1 h2 (XT.aa_eq_t q) d3 d4 k) (K1 q)
  · exact Goes.via (fun _ k => XT.acmpNo X.here C.hx rfl (hb C.hby d1) rfl h1 h2 (XT.aa_eq_f q) k) (K2 q)
theorem g_acmpne {o : Int} {x y : Value} (C : Cx p s m meth c Z own nm bytes maxL ret) (X : St p l e R s m A below meth c Z T h cells slots) (d : Dj bytes pc (.if_acmp .ne o) o 3 pc' tgt) (h1 : x.isRef = true) (h2 : y.isRef = true) (K1 : ¬ x = y → Goes p e below W T (mkF m tgt Ls st)) (K2 : x = y → Goes p e below W T (mkF m pc' Ls st)) : Goes p e below W T (mkF m pc Ls (y :: x :: st)) := by
  obtain ⟨d1, rfl, d3, d4⟩ := d
  by_cases q : x = y
  · exact Goes.via (fun _ k => XT.acmpNo X.here C.hx rfl (hb C.hby d1) rfl h1 h2 (XT.aa_ne_f q) k) (K2 q)
  · exact Goes.via (fun _ k => XT.acmpYes X.here C.hx rfl rfl (hb C.hby d1) rfl h1 h2 (XT.aa_ne_t q) d3 d4 k) (K1 q)
theorem g_ifnull {o : Int} {v : Value} (C : Cx p s m meth c Z own nm bytes maxL ret) (X : St p l e R s m A below meth c Z T h cells slots) (d : Dj bytes pc (.ifnull o) o 3 pc' tgt) (h1 : v.isRef = true) (K1 : v = .null → Goes p e below W T (mkF m tgt Ls st)) (K2 : ¬ v = .null → Goes p e below W T (mkF m pc' Ls st)) : Goes p e below W T (mkF m pc Ls (v :: st)) := by
  obtain ⟨d1, rfl, d3, d4⟩ := d
  by_cases q : v = .null
  · exact Goes.via (fun _ k => XT.nullYes X.here C.hx rfl rfl (hb C.hby d1) rfl q d3 d4 k) (K1 q)
  · exact Goes.via (fun _ k => XT.nullNo X.here C.hx rfl (hb C.hby d1) rfl h1 q k) (K2 q)
theorem g_ifnonnull {o : Int} {v : Value} (C : Cx p s m meth c Z own nm bytes maxL ret) (X : St p l e R s m A below meth c Z T h cells slots) (d : Dj bytes pc (.ifnonnull o) o 3 pc' tgt) (h1 : v.isRef = true) (K1 : ¬ v = .null → Goes p e below W T (mkF m tgt Ls st)) (K2 : v = .null → Goes p e below W T (mkF m pc' Ls st)) : Goes p e below W T (mkF m pc Ls (v :: st)) := by
  obtain ⟨d1, rfl, d3, d4⟩ := d
  by_cases q : v = .null
  · exact Goes.via (fun _ k => XT.nonnullNo X.here C.hx rfl (hb C.hby d1) rfl q k) (K2 q)
  · exact Goes.via (fun _ k => XT.nonnullYes X.here C.hx rfl rfl (hb C.hby d1) rfl h1 q d3 d4 k) (K1 q)
theorem g_iload {k : Nat} {v : Int32} (C : Cx p s m meth c Z own nm bytes maxL ret) (X : St p l e R s m A below meth c Z T h cells slots) (d : Dc bytes pc (.iload k) 2 pc') (hl : Ls[k]? = some (.val (.int v))) (K : Goes p e below W T (mkF m pc' Ls (.int v :: st))) : Goes p e below W T (mkF m pc Ls st) := by
  obtain ⟨d, rfl⟩ := d
  exact Goes.via (fun _ k => XS.iload X.here C.hx rfl (hb C.hby d) hl k) K
theorem g_iloadN {k : Fin 4} {v : Int32} (C : Cx p s m meth c Z own nm bytes maxL ret) (X : St p l e R s m A below meth c Z T h cells slots) (d : Dc bytes pc (.iload_n k) 1 pc') (hl : Ls[k.val]? = some (.val (.int v))) (K : Goes p e below W T (mkF m pc' Ls (.int v :: st))) : Goes p e below W T (mkF m pc Ls st) := by
  obtain ⟨d, rfl⟩ := d
  exact Goes.via (fun _ k => XS.iloadN X.here C.hx rfl (hb C.hby d) hl k) K
theorem g_lload {k : Nat} {v : Int64} (C : Cx p s m meth c Z own nm bytes maxL ret) (X : St p l e R s m A below meth c Z T h cells slots) (d : Dc bytes pc (.lload k) 2 pc') (hl : Ls[k]? = some (.val (.long v))) (K : Goes p e below W T (mkF m pc' Ls (.long v :: st))) : Goes p e below W T (mkF m pc Ls st) := by
  obtain ⟨d, rfl⟩ := d
  exact Goes.via (fun _ k => XT.lload X.here C.hx rfl (hb C.hby d) hl k) K
theorem g_lloadN {k : Fin 4} {v : Int64} (C : Cx p s m meth c Z own nm bytes maxL ret) (X : St p l e R s m A below meth c Z T h cells slots) (d : Dc bytes pc (.lload_n k) 1 pc') (hl : Ls[k.val]? = some (.val (.long v))) (K : Goes p e below W T (mkF m pc' Ls (.long v :: st))) : Goes p e below W T (mkF m pc Ls st) := by
  obtain ⟨d, rfl⟩ := d
  exact Goes.via (fun _ k => XT.lloadN X.here C.hx rfl (hb C.hby d) hl k) K
theorem g_aload {k : Nat} {v : Value} (C : Cx p s m meth c Z own nm bytes maxL ret) (X : St p l e R s m A below meth c Z T h cells slots) (d : Dc bytes pc (.aload k) 2 pc') (hl : Ls[k]? = some (.val v)) (hv : v.isRef = true) (K : Goes p e below W T (mkF m pc' Ls (v :: st))) : Goes p e below W T (mkF m pc Ls st) := by
  obtain ⟨d, rfl⟩ := d
  exact Goes.via (fun _ k => XS.aload X.here C.hx rfl (hb C.hby d) hl hv k) K
theorem g_aloadN {k : Fin 4} {v : Value} (C : Cx p s m meth c Z own nm bytes maxL ret) (X : St p l e R s m A below meth c Z T h cells slots) (d : Dc bytes pc (.aload_n k) 1 pc') (hl : Ls[k.val]? = some (.val v)) (hv : v.isRef = true) (K : Goes p e below W T (mkF m pc' Ls (v :: st))) : Goes p e below W T (mkF m pc Ls st) := by
  obtain ⟨d, rfl⟩ := d
  exact Goes.via (fun _ k => XS.aloadN X.here C.hx rfl (hb C.hby d) hl hv k) K
theorem g_istore {k : Nat} {x : Int32} {l' : Array Slot} (C : Cx p s m meth c Z own nm bytes maxL ret) (X : St p l e R s m A below meth c Z T h cells slots) (d : Dc bytes pc (.istore k) 2 pc') (hl : storeLocals Ls k (.int x) = some l') (K : Goes p e below W T (mkF m pc' l' st)) : Goes p e below W T (mkF m pc Ls (.int x :: st)) := by
  obtain ⟨d, rfl⟩ := d
  exact Goes.via (fun _ k => XS.istore X.here C.hx rfl (hb C.hby d) rfl hl k) K
theorem g_istoreN {k : Fin 4} {x : Int32} {l' : Array Slot} (C : Cx p s m meth c Z own nm bytes maxL ret) (X : St p l e R s m A below meth c Z T h cells slots) (d : Dc bytes pc (.istore_n k) 1 pc') (hl : storeLocals Ls k.val (.int x) = some l') (K : Goes p e below W T (mkF m pc' l' st)) : Goes p e below W T (mkF m pc Ls (.int x :: st)) := by
  obtain ⟨d, rfl⟩ := d
  exact Goes.via (fun _ k => XS.istoreN X.here C.hx rfl (hb C.hby d) rfl hl k) K
theorem g_lstore {k : Nat} {x : Int64} {l' : Array Slot} (C : Cx p s m meth c Z own nm bytes maxL ret) (X : St p l e R s m A below meth c Z T h cells slots) (d : Dc bytes pc (.lstore k) 2 pc') (hl : storeLocals Ls k (.long x) = some l') (K : Goes p e below W T (mkF m pc' l' st)) : Goes p e below W T (mkF m pc Ls (.long x :: st)) := by
  obtain ⟨d, rfl⟩ := d
  exact Goes.via (fun _ k => XT.lstore X.here C.hx rfl (hb C.hby d) rfl hl k) K
theorem g_lstoreN {k : Fin 4} {x : Int64} {l' : Array Slot} (C : Cx p s m meth c Z own nm bytes maxL ret) (X : St p l e R s m A below meth c Z T h cells slots) (d : Dc bytes pc (.lstore_n k) 1 pc') (hl : storeLocals Ls k.val (.long x) = some l') (K : Goes p e below W T (mkF m pc' l' st)) : Goes p e below W T (mkF m pc Ls (.long x :: st)) := by
  obtain ⟨d, rfl⟩ := d
  exact Goes.via (fun _ k => XT.lstoreN X.here C.hx rfl (hb C.hby d) rfl hl k) K
theorem g_astore {k : Nat} {x : Value} {l' : Array Slot} (C : Cx p s m meth c Z own nm bytes maxL ret) (X : St p l e R s m A below meth c Z T h cells slots) (d : Dc bytes pc (.astore k) 2 pc') (hv : x.isRef = true) (hl : storeLocals Ls k x = some l') (K : Goes p e below W T (mkF m pc' l' st)) : Goes p e below W T (mkF m pc Ls (x :: st)) := by
  obtain ⟨d, rfl⟩ := d
  exact Goes.via (fun _ k => XS.astore X.here C.hx rfl (hb C.hby d) rfl hv hl k) K
theorem g_astoreN {k : Fin 4} {x : Value} {l' : Array Slot} (C : Cx p s m meth c Z own nm bytes maxL ret) (X : St p l e R s m A below meth c Z T h cells slots) (d : Dc bytes pc (.astore_n k) 1 pc') (hv : x.isRef = true) (hl : storeLocals Ls k.val x = some l') (K : Goes p e below W T (mkF m pc' l' st)) : Goes p e below W T (mkF m pc Ls (x :: st)) := by
  obtain ⟨d, rfl⟩ := d
  exact Goes.via (fun _ k => XS.astoreN X.here C.hx rfl (hb C.hby d) rfl hv hl k) K
theorem g_iconst {i : Int} (v : Int32) (C : Cx p s m meth c Z own nm bytes maxL ret) (X : St p l e R s m A below meth c Z T h cells slots) (d : Dc bytes pc (.iconst i) 1 pc') (hv : Int32.ofInt i = v) (K : Goes p e below W T (mkF m pc' Ls (.int v :: st))) : Goes p e below W T (mkF m pc Ls st) := by
  obtain ⟨d, rfl⟩ := d
  exact Goes.via (fun _ k => XT.iconstV X.here C.hx rfl v (hb C.hby d) hv k) K
theorem g_bipush {i : Int} (v : Int32) (C : Cx p s m meth c Z own nm bytes maxL ret) (X : St p l e R s m A below meth c Z T h cells slots) (d : Dc bytes pc (.bipush i) 2 pc') (hv : (Int8.ofInt i).toInt32 = v) (K : Goes p e below W T (mkF m pc' Ls (.int v :: st))) : Goes p e below W T (mkF m pc Ls st) := by
  obtain ⟨d, rfl⟩ := d
  exact Goes.via (fun _ k => XT.bipushV X.here C.hx rfl v (hb C.hby d) hv k) K
theorem g_sipush {i : Int} (v : Int32) (C : Cx p s m meth c Z own nm bytes maxL ret) (X : St p l e R s m A below meth c Z T h cells slots) (d : Dc bytes pc (.sipush i) 3 pc') (hv : (Int16.ofInt i).toInt32 = v) (K : Goes p e below W T (mkF m pc' Ls (.int v :: st))) : Goes p e below W T (mkF m pc Ls st) := by
  obtain ⟨d, rfl⟩ := d
  exact Goes.via (fun _ k => XT.sipushV X.here C.hx rfl v (hb C.hby d) hv k) K
theorem g_lconst {k : Fin 2} (v : Int64) (C : Cx p s m meth c Z own nm bytes maxL ret) (X : St p l e R s m A below meth c Z T h cells slots) (d : Dc bytes pc (.lconst k) 1 pc') (hv : Int64.ofNat k = v) (K : Goes p e below W T (mkF m pc' Ls (.long v :: st))) : Goes p e below W T (mkF m pc Ls st) := by
  obtain ⟨d, rfl⟩ := d
  exact Goes.via (fun _ k => XT.lconstV X.here C.hx rfl v (hb C.hby d) hv k) K
theorem g_iinc {k : Nat} {i : Int} {x : Int32} {l' : Array Slot} (v : Int32) (C : Cx p s m meth c Z own nm bytes maxL ret) (X : St p l e R s m A below meth c Z T h cells slots) (d : Dc bytes pc (.iinc k i) 3 pc') (hv : Int32.ofInt i = v) (hl : Ls[k]? = some (.val (.int x))) (hl' : storeLocals Ls k (.int (x + v)) = some l') (K : Goes p e below W T (mkF m pc' l' st)) : Goes p e below W T (mkF m pc Ls st) := by
  obtain ⟨d, rfl⟩ := d
  exact Goes.via (fun _ k => XT.iincV X.here C.hx rfl v (hb C.hby d) hv hl hl' k) K
theorem g_aconst_null  (C : Cx p s m meth c Z own nm bytes maxL ret) (X : St p l e R s m A below meth c Z T h cells slots) (d : Dc bytes pc (.aconst_null) 1 pc')  (K : Goes p e below W T (mkF m pc' Ls (.null :: st))) : Goes p e below W T (mkF m pc Ls st) := by
  obtain ⟨d, rfl⟩ := d
  exact Goes.via (fun _ k => XS.aconstNull X.here C.hx rfl (hb C.hby d)  k) K
theorem g_iadd {x y : Int32} (C : Cx p s m meth c Z own nm bytes maxL ret) (X : St p l e R s m A below meth c Z T h cells slots) (d : Dc bytes pc (.iadd) 1 pc')  (K : Goes p e below W T (mkF m pc' Ls (.int (x + y) :: st))) : Goes p e below W T (mkF m pc Ls (.int y :: .int x :: st)) := by
  obtain ⟨d, rfl⟩ := d
  exact Goes.via (fun _ k => XS.iadd X.here C.hx rfl (hb C.hby d) rfl k) K
theorem g_ladd {x y : Int64} (C : Cx p s m meth c Z own nm bytes maxL ret) (X : St p l e R s m A below meth c Z T h cells slots) (d : Dc bytes pc (.ladd) 1 pc')  (K : Goes p e below W T (mkF m pc' Ls (.long (x + y) :: st))) : Goes p e below W T (mkF m pc Ls (.long y :: .long x :: st)) := by
  obtain ⟨d, rfl⟩ := d
  exact Goes.via (fun _ k => XT.ladd X.here C.hx rfl (hb C.hby d) rfl k) K
theorem g_isub {x y : Int32} (C : Cx p s m meth c Z own nm bytes maxL ret) (X : St p l e R s m A below meth c Z T h cells slots) (d : Dc bytes pc (.isub) 1 pc')  (K : Goes p e below W T (mkF m pc' Ls (.int (x - y) :: st))) : Goes p e below W T (mkF m pc Ls (.int y :: .int x :: st)) := by
  obtain ⟨d, rfl⟩ := d
  exact Goes.via (fun _ k => XS.isub X.here C.hx rfl (hb C.hby d) rfl k) K
theorem g_lsub {x y : Int64} (C : Cx p s m meth c Z own nm bytes maxL ret) (X : St p l e R s m A below meth c Z T h cells slots) (d : Dc bytes pc (.lsub) 1 pc')  (K : Goes p e below W T (mkF m pc' Ls (.long (x - y) :: st))) : Goes p e below W T (mkF m pc Ls (.long y :: .long x :: st)) := by
  obtain ⟨d, rfl⟩ := d
  exact Goes.via (fun _ k => XT.lsub X.here C.hx rfl (hb C.hby d) rfl k) K
theorem g_imul {x y : Int32} (C : Cx p s m meth c Z own nm bytes maxL ret) (X : St p l e R s m A below meth c Z T h cells slots) (d : Dc bytes pc (.imul) 1 pc')  (K : Goes p e below W T (mkF m pc' Ls (.int (x * y) :: st))) : Goes p e below W T (mkF m pc Ls (.int y :: .int x :: st)) := by
  obtain ⟨d, rfl⟩ := d
  exact Goes.via (fun _ k => XS.imul X.here C.hx rfl (hb C.hby d) rfl k) K
theorem g_lmul {x y : Int64} (C : Cx p s m meth c Z own nm bytes maxL ret) (X : St p l e R s m A below meth c Z T h cells slots) (d : Dc bytes pc (.lmul) 1 pc')  (K : Goes p e below W T (mkF m pc' Ls (.long (x * y) :: st))) : Goes p e below W T (mkF m pc Ls (.long y :: .long x :: st)) := by
  obtain ⟨d, rfl⟩ := d
  exact Goes.via (fun _ k => XT.lmul X.here C.hx rfl (hb C.hby d) rfl k) K
theorem g_iand {x y : Int32} (C : Cx p s m meth c Z own nm bytes maxL ret) (X : St p l e R s m A below meth c Z T h cells slots) (d : Dc bytes pc (.iand) 1 pc')  (K : Goes p e below W T (mkF m pc' Ls (.int (x &&& y) :: st))) : Goes p e below W T (mkF m pc Ls (.int y :: .int x :: st)) := by
  obtain ⟨d, rfl⟩ := d
  exact Goes.via (fun _ k => XS.iand X.here C.hx rfl (hb C.hby d) rfl k) K
theorem g_land {x y : Int64} (C : Cx p s m meth c Z own nm bytes maxL ret) (X : St p l e R s m A below meth c Z T h cells slots) (d : Dc bytes pc (.land) 1 pc')  (K : Goes p e below W T (mkF m pc' Ls (.long (x &&& y) :: st))) : Goes p e below W T (mkF m pc Ls (.long y :: .long x :: st)) := by
  obtain ⟨d, rfl⟩ := d
  exact Goes.via (fun _ k => XT.land X.here C.hx rfl (hb C.hby d) rfl k) K
theorem g_ior {x y : Int32} (C : Cx p s m meth c Z own nm bytes maxL ret) (X : St p l e R s m A below meth c Z T h cells slots) (d : Dc bytes pc (.ior) 1 pc')  (K : Goes p e below W T (mkF m pc' Ls (.int (x ||| y) :: st))) : Goes p e below W T (mkF m pc Ls (.int y :: .int x :: st)) := by
  obtain ⟨d, rfl⟩ := d
  exact Goes.via (fun _ k => XT.ior X.here C.hx rfl (hb C.hby d) rfl k) K
theorem g_lor {x y : Int64} (C : Cx p s m meth c Z own nm bytes maxL ret) (X : St p l e R s m A below meth c Z T h cells slots) (d : Dc bytes pc (.lor) 1 pc')  (K : Goes p e below W T (mkF m pc' Ls (.long (x ||| y) :: st))) : Goes p e below W T (mkF m pc Ls (.long y :: .long x :: st)) := by
  obtain ⟨d, rfl⟩ := d
  exact Goes.via (fun _ k => XT.lor X.here C.hx rfl (hb C.hby d) rfl k) K
theorem g_ixor {x y : Int32} (C : Cx p s m meth c Z own nm bytes maxL ret) (X : St p l e R s m A below meth c Z T h cells slots) (d : Dc bytes pc (.ixor) 1 pc')  (K : Goes p e below W T (mkF m pc' Ls (.int (x ^^^ y) :: st))) : Goes p e below W T (mkF m pc Ls (.int y :: .int x :: st)) := by
  obtain ⟨d, rfl⟩ := d
  exact Goes.via (fun _ k => XT.ixor X.here C.hx rfl (hb C.hby d) rfl k) K
theorem g_lxor {x y : Int64} (C : Cx p s m meth c Z own nm bytes maxL ret) (X : St p l e R s m A below meth c Z T h cells slots) (d : Dc bytes pc (.lxor) 1 pc')  (K : Goes p e below W T (mkF m pc' Ls (.long (x ^^^ y) :: st))) : Goes p e below W T (mkF m pc Ls (.long y :: .long x :: st)) := by
  obtain ⟨d, rfl⟩ := d
  exact Goes.via (fun _ k => XT.lxor X.here C.hx rfl (hb C.hby d) rfl k) K
theorem g_idiv {x y : Int32} (C : Cx p s m meth c Z own nm bytes maxL ret) (X : St p l e R s m A below meth c Z T h cells slots) (d : Dc bytes pc (.idiv) 1 pc') (hy : y ≠ 0) (K : Goes p e below W T (mkF m pc' Ls (.int (x / y) :: st))) : Goes p e below W T (mkF m pc Ls (.int y :: .int x :: st)) := by
  obtain ⟨d, rfl⟩ := d
  exact Goes.via (fun _ k => XS.idiv X.here C.hx rfl (hb C.hby d) rfl hy k) K
theorem g_ldiv {x y : Int64} (C : Cx p s m meth c Z own nm bytes maxL ret) (X : St p l e R s m A below meth c Z T h cells slots) (d : Dc bytes pc (.ldiv) 1 pc') (hy : y ≠ 0) (K : Goes p e below W T (mkF m pc' Ls (.long (x / y) :: st))) : Goes p e below W T (mkF m pc Ls (.long y :: .long x :: st)) := by
  obtain ⟨d, rfl⟩ := d
  exact Goes.via (fun _ k => XT.ldiv X.here C.hx rfl (hb C.hby d) rfl hy k) K
theorem g_ineg {x : Int32} (C : Cx p s m meth c Z own nm bytes maxL ret) (X : St p l e R s m A below meth c Z T h cells slots) (d : Dc bytes pc (.ineg) 1 pc')  (K : Goes p e below W T (mkF m pc' Ls (.int (-x) :: st))) : Goes p e below W T (mkF m pc Ls (.int x :: st)) := by
  obtain ⟨d, rfl⟩ := d
  exact Goes.via (fun _ k => XS.ineg X.here C.hx rfl (hb C.hby d) rfl k) K
theorem g_lneg {x : Int64} (C : Cx p s m meth c Z own nm bytes maxL ret) (X : St p l e R s m A below meth c Z T h cells slots) (d : Dc bytes pc (.lneg) 1 pc')  (K : Goes p e below W T (mkF m pc' Ls (.long (-x) :: st))) : Goes p e below W T (mkF m pc Ls (.long x :: st)) := by
  obtain ⟨d, rfl⟩ := d
  exact Goes.via (fun _ k => XT.lneg X.here C.hx rfl (hb C.hby d) rfl k) K
theorem g_ishl {x y : Int32} (C : Cx p s m meth c Z own nm bytes maxL ret) (X : St p l e R s m A below meth c Z T h cells slots) (d : Dc bytes pc (.ishl) 1 pc')  (K : Goes p e below W T (mkF m pc' Ls (.int (x <<< (y &&& 31)) :: st))) : Goes p e below W T (mkF m pc Ls (.int y :: .int x :: st)) := by
  obtain ⟨d, rfl⟩ := d
  exact Goes.via (fun _ k => XT.ishl X.here C.hx rfl (hb C.hby d) rfl k) K
theorem g_ishr {x y : Int32} (C : Cx p s m meth c Z own nm bytes maxL ret) (X : St p l e R s m A below meth c Z T h cells slots) (d : Dc bytes pc (.ishr) 1 pc')  (K : Goes p e below W T (mkF m pc' Ls (.int (x >>> (y &&& 31)) :: st))) : Goes p e below W T (mkF m pc Ls (.int y :: .int x :: st)) := by
  obtain ⟨d, rfl⟩ := d
  exact Goes.via (fun _ k => XT.ishr X.here C.hx rfl (hb C.hby d) rfl k) K
theorem g_iushr {x y : Int32} (C : Cx p s m meth c Z own nm bytes maxL ret) (X : St p l e R s m A below meth c Z T h cells slots) (d : Dc bytes pc (.iushr) 1 pc')  (K : Goes p e below W T (mkF m pc' Ls (.int ((x.toUInt32 >>> (y &&& 31).toUInt32).toInt32) :: st))) : Goes p e below W T (mkF m pc Ls (.int y :: .int x :: st)) := by
  obtain ⟨d, rfl⟩ := d
  exact Goes.via (fun _ k => XT.iushr X.here C.hx rfl (hb C.hby d) rfl k) K
theorem g_lshl {x : Int64} {y : Int32} (C : Cx p s m meth c Z own nm bytes maxL ret) (X : St p l e R s m A below meth c Z T h cells slots) (d : Dc bytes pc (.lshl) 1 pc')  (K : Goes p e below W T (mkF m pc' Ls (.long (x <<< (y &&& 0x3f).toInt64) :: st))) : Goes p e below W T (mkF m pc Ls (.int y :: .long x :: st)) := by
  obtain ⟨d, rfl⟩ := d
  exact Goes.via (fun _ k => XS.lshl X.here C.hx rfl (hb C.hby d) rfl k) K
theorem g_lshr {x : Int64} {y : Int32} (C : Cx p s m meth c Z own nm bytes maxL ret) (X : St p l e R s m A below meth c Z T h cells slots) (d : Dc bytes pc (.lshr) 1 pc')  (K : Goes p e below W T (mkF m pc' Ls (.long (x >>> (y &&& 0x3f).toInt64) :: st))) : Goes p e below W T (mkF m pc Ls (.int y :: .long x :: st)) := by
  obtain ⟨d, rfl⟩ := d
  exact Goes.via (fun _ k => XS.lshr X.here C.hx rfl (hb C.hby d) rfl k) K
theorem g_lushr {x : Int64} {y : Int32} (C : Cx p s m meth c Z own nm bytes maxL ret) (X : St p l e R s m A below meth c Z T h cells slots) (d : Dc bytes pc (.lushr) 1 pc')  (K : Goes p e below W T (mkF m pc' Ls (.long ((x.toUInt64 >>> (y &&& 0x3f).toInt64.toUInt64).toInt64) :: st))) : Goes p e below W T (mkF m pc Ls (.int y :: .long x :: st)) := by
  obtain ⟨d, rfl⟩ := d
  exact Goes.via (fun _ k => XS.lushr X.here C.hx rfl (hb C.hby d) rfl k) K
theorem g_i2l {x : Int32} (C : Cx p s m meth c Z own nm bytes maxL ret) (X : St p l e R s m A below meth c Z T h cells slots) (d : Dc bytes pc (.i2l) 1 pc')  (K : Goes p e below W T (mkF m pc' Ls (.long x.toInt64 :: st))) : Goes p e below W T (mkF m pc Ls (.int x :: st)) := by
  obtain ⟨d, rfl⟩ := d
  exact Goes.via (fun _ k => XT.i2l X.here C.hx rfl (hb C.hby d) rfl k) K
theorem g_l2i {x : Int64} (C : Cx p s m meth c Z own nm bytes maxL ret) (X : St p l e R s m A below meth c Z T h cells slots) (d : Dc bytes pc (.l2i) 1 pc')  (K : Goes p e below W T (mkF m pc' Ls (.int x.toInt32 :: st))) : Goes p e below W T (mkF m pc Ls (.long x :: st)) := by
  obtain ⟨d, rfl⟩ := d
  exact Goes.via (fun _ k => XT.l2i X.here C.hx rfl (hb C.hby d) rfl k) K
theorem g_i2b {x : Int32} (C : Cx p s m meth c Z own nm bytes maxL ret) (X : St p l e R s m A below meth c Z T h cells slots) (d : Dc bytes pc (.i2b) 1 pc')  (K : Goes p e below W T (mkF m pc' Ls (.int x.toInt8.toInt32 :: st))) : Goes p e below W T (mkF m pc Ls (.int x :: st)) := by
  obtain ⟨d, rfl⟩ := d
  exact Goes.via (fun _ k => XT.i2b X.here C.hx rfl (hb C.hby d) rfl k) K
theorem g_i2s {x : Int32} (C : Cx p s m meth c Z own nm bytes maxL ret) (X : St p l e R s m A below meth c Z T h cells slots) (d : Dc bytes pc (.i2s) 1 pc')  (K : Goes p e below W T (mkF m pc' Ls (.int x.toInt16.toInt32 :: st))) : Goes p e below W T (mkF m pc Ls (.int x :: st)) := by
  obtain ⟨d, rfl⟩ := d
  exact Goes.via (fun _ k => XT.i2s X.here C.hx rfl (hb C.hby d) rfl k) K
theorem g_i2c {x : Int32} (C : Cx p s m meth c Z own nm bytes maxL ret) (X : St p l e R s m A below meth c Z T h cells slots) (d : Dc bytes pc (.i2c) 1 pc')  (K : Goes p e below W T (mkF m pc' Ls (.int x.toUInt32.toUInt16.toUInt32.toInt32 :: st))) : Goes p e below W T (mkF m pc Ls (.int x :: st)) := by
  obtain ⟨d, rfl⟩ := d
  exact Goes.via (fun _ k => XT.i2c X.here C.hx rfl (hb C.hby d) rfl k) K
theorem g_lcmp {x y : Int64} (C : Cx p s m meth c Z own nm bytes maxL ret) (X : St p l e R s m A below meth c Z T h cells slots) (d : Dc bytes pc (.lcmp) 1 pc')  (K : Goes p e below W T (mkF m pc' Ls (.int (lcmpW x y) :: st))) : Goes p e below W T (mkF m pc Ls (.long y :: .long x :: st)) := by
  obtain ⟨d, rfl⟩ := d
  exact Goes.via (fun _ k => XT.lcmp X.here C.hx rfl (hb C.hby d) rfl k) K
theorem g_pop {x : Value} (C : Cx p s m meth c Z own nm bytes maxL ret) (X : St p l e R s m A below meth c Z T h cells slots) (d : Dc bytes pc (.pop) 1 pc') (hc : x.category = 1) (K : Goes p e below W T (mkF m pc' Ls st)) : Goes p e below W T (mkF m pc Ls (x :: st)) := by
  obtain ⟨d, rfl⟩ := d
  exact Goes.via (fun _ k => XT.pop X.here C.hx rfl (hb C.hby d) rfl hc k) K
theorem g_dup {x : Value} (C : Cx p s m meth c Z own nm bytes maxL ret) (X : St p l e R s m A below meth c Z T h cells slots) (d : Dc bytes pc (.dup) 1 pc') (hc : x.category = 1) (K : Goes p e below W T (mkF m pc' Ls (x :: x :: st))) : Goes p e below W T (mkF m pc Ls (x :: st)) := by
  obtain ⟨d, rfl⟩ := d
  exact Goes.via (fun _ k => XS.dup X.here C.hx rfl (hb C.hby d) rfl hc k) K
theorem g_dup_x1 {x y : Value} (C : Cx p s m meth c Z own nm bytes maxL ret) (X : St p l e R s m A below meth c Z T h cells slots) (d : Dc bytes pc (.dup_x1) 1 pc') (hc : x.category = 1) (hc' : y.category = 1) (K : Goes p e below W T (mkF m pc' Ls (x :: y :: x :: st))) : Goes p e below W T (mkF m pc Ls (x :: y :: st)) := by
  obtain ⟨d, rfl⟩ := d
  exact Goes.via (fun _ k => XT.dupX1 X.here C.hx rfl (hb C.hby d) rfl hc hc' k) K
theorem g_dup2 {x y : Value} (C : Cx p s m meth c Z own nm bytes maxL ret) (X : St p l e R s m A below meth c Z T h cells slots) (d : Dc bytes pc (.dup2) 1 pc') (hc : x.category = 1) (hc' : y.category = 1) (K : Goes p e below W T (mkF m pc' Ls (x :: y :: x :: y :: st))) : Goes p e below W T (mkF m pc Ls (x :: y :: st)) := by
  obtain ⟨d, rfl⟩ := d
  exact Goes.via (fun _ k => XT.dup2 X.here C.hx rfl (hb C.hby d) rfl hc hc' k) K
theorem g_dup2L {x : Int64} (C : Cx p s m meth c Z own nm bytes maxL ret) (X : St p l e R s m A below meth c Z T h cells slots) (d : Dc bytes pc (.dup2) 1 pc')  (K : Goes p e below W T (mkF m pc' Ls (.long x :: .long x :: st))) : Goes p e below W T (mkF m pc Ls (.long x :: st)) := by
  obtain ⟨d, rfl⟩ := d
  exact Goes.via (fun _ k => XT.dup2L X.here C.hx rfl (hb C.hby d) rfl k) K
theorem g_irem {x y : Int32} (C : Cx p s m meth c Z own nm bytes maxL ret) (X : St p l e R s m A below meth c Z T h cells slots) (d : Dc bytes pc .irem 1 pc') (hy : y ≠ 0) (K : Goes p e below W T (mkF m pc' Ls (.int (x % y) :: st))) : Goes p e below W T (mkF m pc Ls (.int y :: .int x :: st)) := by
  obtain ⟨d, rfl⟩ := d
  obtain ⟨_, Y, _⟩ := X
  exact Goes.via (fun _ k => iremM Y C.hx rfl (hb C.hby d) rfl hy k) K
theorem g_lrem {x y : Int64} (C : Cx p s m meth c Z own nm bytes maxL ret) (X : St p l e R s m A below meth c Z T h cells slots) (d : Dc bytes pc .lrem 1 pc') (hy : y ≠ 0) (K : Goes p e below W T (mkF m pc' Ls (.long (x % y) :: st))) : Goes p e below W T (mkF m pc Ls (.long y :: .long x :: st)) := by
  obtain ⟨d, rfl⟩ := d
  rw [← lrem_mod] at K
  exact Goes.via (fun _ k => XT.lrem X.here C.hx rfl (hb C.hby d) rfl hy k) K
theorem g_ldcI {index : Nat} {v : Int32} (C : Cx p s m meth c Z own nm bytes maxL ret) (X : St p l e R s m A below meth c Z T h cells slots) (w : (Jvm.Cond.constant own index v).before a0 Z = true) (d : Dc bytes pc (.ldc index) 2 pc') (K : Goes p e below W T (mkF m pc' Ls (.int v :: st))) : Goes p e below W T (mkF m pc Ls st) := by
  obtain ⟨d, rfl⟩ := d
  obtain ⟨_, Y, _⟩ := X
  exact Goes.via (fun t k => Y.ldcInt C.hx C.hown (mvT C.hZ w) (g := mkF m pc Ls st) rfl (hb C.hby d) t k) K
theorem g_ldcwI {index : Nat} {v : Int32} (C : Cx p s m meth c Z own nm bytes maxL ret) (X : St p l e R s m A below meth c Z T h cells slots) (w : (Jvm.Cond.constant own index v).before a0 Z = true) (d : Dc bytes pc (.ldc_w index) 3 pc') (K : Goes p e below W T (mkF m pc' Ls (.int v :: st))) : Goes p e below W T (mkF m pc Ls st) := by
  obtain ⟨d, rfl⟩ := d
  obtain ⟨_, Y, _⟩ := X
  exact Goes.via (fun t k => Y.ldcWI C.hx C.hown (mvT C.hZ w) (g := mkF m pc Ls st) rfl (hb C.hby d) k) K
theorem g_ldcJ {index : Nat} {v : Int64} (C : Cx p s m meth c Z own nm bytes maxL ret) (X : St p l e R s m A below meth c Z T h cells slots) (w : (Jvm.Cond.constantLong own index v).before a0 Z = true) (d : Dc bytes pc (.ldc2_w index) 3 pc') (K : Goes p e below W T (mkF m pc' Ls (.long v :: st))) : Goes p e below W T (mkF m pc Ls st) := by
  obtain ⟨d, rfl⟩ := d
  obtain ⟨_, Y, _⟩ := X
  exact Goes.via (fun t k => Y.ldc2Long C.hx C.hown (mvT C.hZ w) (g := mkF m pc Ls st) rfl (hb C.hby d) t k) K
theorem g_getstatic {R0 O n dd host : String} {index : Nat} {v : Value} (C : Cx p s m meth c Z own nm bytes maxL ret) (X : St p l e R s m A below meth c Z T h cells slots) (w : (Jvm.Cond.fieldLink own index R0 n dd).before a0 Z = true ∨ (Jvm.Cond.fieldLinkNest own index R0 n dd host).before a0 Z = true) (via : Via Z R0 O n dd) (F : Sta Z Z.heap O n dd v) (d : Dc bytes pc (.getstatic index) 3 pc')
    (K : ∀ T', St p l e R s m A below meth c Z T' h cells slots → Goes p e below W T' (mkF m pc' Ls (v :: st))) : Goes p e below W T (mkF m pc Ls st) := by
  obtain ⟨d, rfl⟩ := d
  obtain ⟨L, Y, eT, N, E⟩ := X
  obtain ⟨T', Y', e', q⟩ := getS2 Y C.hx C.hZ C.hown w via eT (F.ext E) (g := mkF m pc Ls st) rfl (hb C.hby d)
  exact Goes.via q (K T' ⟨L, Y', e', N, E⟩)
theorem g_getfield {R0 O n dd host : String} {index : Nat} {a : Addr} {v : Value} (C : Cx p s m meth c Z own nm bytes maxL ret) (X : St p l e R s m A below meth c Z T h cells slots) (w : (Jvm.Cond.fieldLink own index R0 n dd).before a0 Z = true ∨ (Jvm.Cond.fieldLinkNest own index R0 n dd host).before a0 Z = true) (via : Via Z R0 O n dd) (F : Fld Z h a O n dd v) (d : Dc bytes pc (.getfield index) 3 pc')
    (K : ∀ T', St p l e R s m A below meth c Z T' h cells slots → Goes p e below W T' (mkF m pc' Ls (v :: st))) : Goes p e below W T (mkF m pc Ls (.ref a :: st)) := by
  obtain ⟨d, rfl⟩ := d
  obtain ⟨L, Y, eT, N, E⟩ := X
  obtain ⟨T', Y', e', q⟩ := getF Y C.hx C.hZ C.hown w via eT F (g := mkF m pc Ls (.ref a :: st)) rfl rfl (hb C.hby d)
  exact Goes.via q (K T' ⟨L, Y', e', N, E⟩)
theorem ext_wr {h h' : Heap} {a : Addr} {sl : Nat} {v : Value} (E : Ext Z.heap h) (w : Wr h h' a sl v) (q : Z.heap.size ≤ a) : Ext Z.heap h' := (Old.wr (Z := Z) (n0 := Z.heap.size) (h := h) ⟨rfl, E⟩ w q).2
theorem ext_keep {h h' : Heap} {ws : List Addr} (E : Ext Z.heap h) (w : Keep h h' ws) (q : ∀ x ∈ ws, Z.heap.size ≤ x) : Ext Z.heap h' := (Old.keep (Z := Z) (n0 := Z.heap.size) (h := h) ⟨rfl, E⟩ w q).2
theorem ext_trans {h h' : Heap} (E : Ext Z.heap h) (E' : Ext h h') : Ext Z.heap h' := ⟨Nat.le_trans E.1 E'.1, fun x c q => E'.2 x c (E.2 x c q)⟩
theorem g_putfield {R0 O n dd host K0 : String} {index kk : Nat} {ty : FieldType} {a : Addr} {v old : Value} (C : Cx p s m meth c Z own nm bytes maxL ret) (X : St p l e R s m A below meth c Z T h cells slots) (w : (Jvm.Cond.fieldLink own index R0 n dd).before a0 Z = true ∨ (Jvm.Cond.fieldLinkNest own index R0 n dd host).before a0 Z = true) (via : Via Z R0 O n dd)
    (F : Fld Z h a O n dd old) (Ex : Exa Z h a K0) (L : (Jvm.Cond.lays K0 O n dd).before a0 Z = true ∨ ((Jvm.Cond.laysFinal K0 O n dd).before a0 Z = true ∧ own = O ∧ nm = "<init>")) (wi : (Jvm.Cond.instantiable K0 kk).before a0 Z = true) (hty : parseFieldDescriptor dd = some ty) (hn : narrow ty v = v) (hf : fits ty v = true) (hnew : Z.heap.size ≤ a) (d : Dc bytes pc (.putfield index) 3 pc')
    (K : ∀ T' h', St p l e R s m A below meth c Z T' h' cells slots → Wr h h' a (RoadKit.slotOf Z O n dd) v → Goes p e below W T' (mkF m pc' Ls st)) : Goes p e below W T (mkF m pc Ls (v :: .ref a :: st)) := by
  obtain ⟨d, rfl⟩ := d
  obtain ⟨L0, Y, eT, N, E⟩ := X
  obtain ⟨T', h', Y', e', W', q⟩ := putF Y C.hx C.hZ C.hown w via eT F Ex (L.imp id fun z => ⟨z.1, z.2.1, C.hnm.trans z.2.2⟩) wi hty hn hf (g := mkF m pc Ls (v :: .ref a :: st)) rfl rfl (hb C.hby d)
  exact Goes.via q (K T' h' ⟨_, Y', e', Fr.snoc Y' N hnew, ext_wr E W' hnew⟩ W')
theorem g_new {K0 : String} {index n : Nat} (C : Cx p s m meth c Z own nm bytes maxL ret) (X : St p l e R s m A below meth c Z T h cells slots) (w : (Jvm.Cond.classLink own index K0).before a0 Z = true) (wi : (Jvm.Cond.instantiable K0 n).before a0 Z = true) (wz : (Jvm.Cond.initialized K0).before a0 Z = true) (d : Dc bytes pc (.new index) 3 pc') (hc : cells + 1 ≤ R.cells) (hl : slots + n ≤ R.slots)
    (K : ∀ T' h' b, b = h.size → Z.heap.size ≤ b → St p l e R s m A below meth c Z T' h' (cells + 1) (slots + n) → Ext h h' → Exa Z h' b K0 → (∀ {O f dd : String} {ty : FieldType}, Laid Z a0 K0 O f dd → parseFieldDescriptor dd = some ty → Fld Z h' b O f dd (defaultValue ty)) → (∃ cell : Cell, h'[b]? = some cell ∧ cell.vm = .none ∧ cell.monitor = {}) → Goes p e below W T' (mkF m pc' Ls (.ref b :: st))) : Goes p e below W T (mkF m pc Ls st) := by
  obtain ⟨d, rfl⟩ := d
  obtain ⟨L0, Y, eT, N, E⟩ := X
  obtain ⟨T', h', Y', e', E', A', D', M', q⟩ := newO Y C.hx C.hZ C.hown w wi wz eT (g := mkF m pc Ls st) rfl (hb C.hby d) hc hl
  exact Goes.via q (K T' h' _ rfl E.1 ⟨_, Y', e', N, ext_trans E E'⟩ E' A' D' M')
theorem g_newarray {aty : ArrayType} {n : Int32} (C : Cx p s m meth c Z own nm bytes maxL ret) (X : St p l e R s m A below meth c Z T h cells slots) (w : (Jvm.Cond.arrayClass (newarray.typeOf aty)).before a0 Z = true) (d : Dc bytes pc (.newarray aty) 2 pc') (hn : ¬ n < 0) (len cap : Nat) (hcap : n.toNatClampNeg ≤ cap) (hb' : cap * 8 ≤ 536870912) (hc : cells + 1 ≤ R.cells) (hl : slots + cap ≤ R.slots)
    (K : ∀ T' h' b k, b = h.size → Z.heap.size ≤ b → St p l e R s m A below meth c Z T' h' (cells + 1) (slots + cap) → Ext h h' → Arv Z h' b k (newarray.typeOf aty) n (List.replicate len (defaultValue (newarray.typeOf aty))) (defaultValue (newarray.typeOf aty)) → Goes p e below W T' (mkF m pc' Ls (.ref b :: st))) : Goes p e below W T (mkF m pc Ls (.int n :: st)) := by
  obtain ⟨d, rfl⟩ := d
  obtain ⟨L0, Y, eT, N, E⟩ := X
  obtain ⟨T', h', k, Y', e', E', A', q⟩ := newP Y C.hx C.hZ w eT (g := mkF m pc Ls (.int n :: st)) rfl (hb C.hby d) rfl hn hcap hb' hc hl
  exact Goes.via q (K T' h' _ k rfl E.1 ⟨_, Y', e', N, ext_trans E E'⟩ E' ((Arv.new A' hn).pad (pad_rep [] _ len)))
theorem g_checkcast {K0 : String} {index : Nat} {a : Addr} (C : Cx p s m meth c Z own nm bytes maxL ret) (X : St p l e R s m A below meth c Z T h cells slots) (w : (Jvm.Cond.classLink own index K0).before a0 Z = true) (F : Ins Z h a K0 true) (d : Dc bytes pc (.checkcast index) 3 pc')
    (K : ∀ T', St p l e R s m A below meth c Z T' h cells slots → Goes p e below W T' (mkF m pc' Ls (.ref a :: st))) : Goes p e below W T (mkF m pc Ls (.ref a :: st)) := by
  obtain ⟨d, rfl⟩ := d
  obtain ⟨L, Y, eT, N, E⟩ := X
  obtain ⟨T', Y', e', q⟩ := castY Y C.hx C.hZ C.hown w eT F (g := mkF m pc Ls (.ref a :: st)) rfl rfl (hb C.hby d)
  exact Goes.via q (K T' ⟨L, Y', e', N, E⟩)
theorem g_checkcastN {index : Nat} (C : Cx p s m meth c Z own nm bytes maxL ret) (X : St p l e R s m A below meth c Z T h cells slots) (d : Dc bytes pc (.checkcast index) 3 pc') (K : Goes p e below W T (mkF m pc' Ls (.null :: st))) : Goes p e below W T (mkF m pc Ls (.null :: st)) := by
  obtain ⟨d, rfl⟩ := d
  obtain ⟨L, Y, eT, N, E⟩ := X
  exact Goes.via (Y.checkcastNull C.hx (g := mkF m pc Ls (.null :: st)) rfl rfl (hb C.hby d)) K
theorem g_instanceY {K0 : String} {index : Nat} {a : Addr} (C : Cx p s m meth c Z own nm bytes maxL ret) (X : St p l e R s m A below meth c Z T h cells slots) (w : (Jvm.Cond.classLink own index K0).before a0 Z = true) (F : Ins Z h a K0 true) (d : Dc bytes pc (.instanceof index) 3 pc')
    (K : ∀ T', St p l e R s m A below meth c Z T' h cells slots → Goes p e below W T' (mkF m pc' Ls (.int 1 :: st))) : Goes p e below W T (mkF m pc Ls (.ref a :: st)) := by
  obtain ⟨d, rfl⟩ := d
  obtain ⟨L, Y, eT, N, E⟩ := X
  obtain ⟨T', Y', e', q⟩ := instY Y C.hx C.hZ C.hown w eT F (g := mkF m pc Ls (.ref a :: st)) rfl rfl (hb C.hby d)
  exact Goes.via q (K T' ⟨L, Y', e', N, E⟩)
theorem g_instanceN {index : Nat} (C : Cx p s m meth c Z own nm bytes maxL ret) (X : St p l e R s m A below meth c Z T h cells slots) (d : Dc bytes pc (.instanceof index) 3 pc') (K : Goes p e below W T (mkF m pc' Ls (.int 0 :: st))) : Goes p e below W T (mkF m pc Ls (.null :: st)) := by
  obtain ⟨d, rfl⟩ := d
  obtain ⟨L, Y, eT, N, E⟩ := X
  exact Goes.via (Y.instanceofNull C.hx (g := mkF m pc Ls (.null :: st)) rfl rfl (hb C.hby d)) K
theorem keep_ext {h h' : Heap} (K : Keep h h' []) : Ext h h' := ⟨K.1, fun x c q => K.2.1 x c q nin0⟩
theorem ext_keep0 {h h' : Heap} (E : Ext h h') (ws : List Addr) : Keep h h' ws := (Keep.refl h ws).ext E
/-- a place of an array -/
theorem in_of {n j : Int32} {c : Cell} (S : c.slots.size = n.toNatClampNeg) (hj : ¬ j < 0) (hj' : j < n) : ¬ (j < 0 ∨ c.slots.size ≤ j.toNatClampNeg) := inb_of S ⟨hj, hj'⟩
theorem g_arraylength {a : Addr} {k : ClassId} {ty : FieldType} {n : Int32} {vs : List Value} {dv : Value} (C : Cx p s m meth c Z own nm bytes maxL ret) (X : St p l e R s m A below meth c Z T h cells slots) (F : Arv Z h a k ty n vs dv) (d : Dc bytes pc .arraylength 1 pc') (K : Goes p e below W T (mkF m pc' Ls (.int n :: st))) : Goes p e below W T (mkF m pc Ls (.ref a :: st)) := by
  obtain ⟨d, rfl⟩ := d
  obtain ⟨L0, Y, eT, N, E⟩ := X
  obtain ⟨cl, Ar, -, hS, hN, -, -⟩ := F
  rw [← len_of hS hN] at K
  exact Goes.via (Y.arraylength C.hx (by rw [eT]; exact Ar.1) (State.isArrayOf_alike C.hZ.alike Ar.2.1) (g := mkF m pc Ls (.ref a :: st)) rfl rfl (hb C.hby d)) K
theorem g_iaload {a : Addr} {k : ClassId} {n j : Int32} {vs : List Value} {dv : Value} {v : Int32} (C : Cx p s m meth c Z own nm bytes maxL ret) (X : St p l e R s m A below meth c Z T h cells slots) (F : Arv Z h a k .int n vs dv) (d : Dc bytes pc .iaload 1 pc') (hj : ¬ j < 0) (hj' : j < n) (hv : vs.getD j.toNatClampNeg dv = .int v) (K : Goes p e below W T (mkF m pc' Ls (.int v :: st))) : Goes p e below W T (mkF m pc Ls (.int j :: .ref a :: st)) := by
  obtain ⟨d, rfl⟩ := d
  obtain ⟨L0, Y, eT, N, E⟩ := X
  obtain ⟨cl, Ar, -, hS, hN, hH, -⟩ := F
  have hin := in_of hS hj hj'
  exact Goes.via (Y.iaload C.hx (j := j) (v := .int v) (by rw [eT]; exact Ar.1) (State.isArrayOf_alike C.hZ.alike Ar.2.1) Ar.2.2 hin (hH.at hin hv) (g := mkF m pc Ls (.int j :: .ref a :: st)) rfl rfl (hb C.hby d)) K
theorem g_caload {a : Addr} {k : ClassId} {n j : Int32} {vs : List Value} {dv : Value} {v : Int32} (C : Cx p s m meth c Z own nm bytes maxL ret) (X : St p l e R s m A below meth c Z T h cells slots) (F : Arv Z h a k .char n vs dv) (d : Dc bytes pc .caload 1 pc') (hj : ¬ j < 0) (hj' : j < n) (hv : vs.getD j.toNatClampNeg dv = .int v) (K : Goes p e below W T (mkF m pc' Ls (.int v :: st))) : Goes p e below W T (mkF m pc Ls (.int j :: .ref a :: st)) := by
  obtain ⟨d, rfl⟩ := d
  obtain ⟨L0, Y, eT, N, E⟩ := X
  obtain ⟨cl, Ar, -, hS, hN, hH, -⟩ := F
  have hin := in_of hS hj hj'
  exact Goes.via (Y.caload C.hx (j := j) (v := .int v) (by rw [eT]; exact Ar.1) (State.isArrayOf_alike C.hZ.alike Ar.2.1) Ar.2.2 hin (hH.at hin hv) (g := mkF m pc Ls (.int j :: .ref a :: st)) rfl rfl (hb C.hby d)) K
theorem g_saload {a : Addr} {k : ClassId} {n j : Int32} {vs : List Value} {dv : Value} {v : Int32} (C : Cx p s m meth c Z own nm bytes maxL ret) (X : St p l e R s m A below meth c Z T h cells slots) (F : Arv Z h a k .short n vs dv) (d : Dc bytes pc .saload 1 pc') (hj : ¬ j < 0) (hj' : j < n) (hv : vs.getD j.toNatClampNeg dv = .int v) (K : Goes p e below W T (mkF m pc' Ls (.int v :: st))) : Goes p e below W T (mkF m pc Ls (.int j :: .ref a :: st)) := by
  obtain ⟨d, rfl⟩ := d
  obtain ⟨L0, Y, eT, N, E⟩ := X
  obtain ⟨cl, Ar, -, hS, hN, hH, -⟩ := F
  have hin := in_of hS hj hj'
  exact Goes.via (Y.saload C.hx (j := j) (v := .int v) (by rw [eT]; exact Ar.1) (State.isArrayOf_alike C.hZ.alike Ar.2.1) Ar.2.2 hin (hH.at hin hv) (g := mkF m pc Ls (.int j :: .ref a :: st)) rfl rfl (hb C.hby d)) K
theorem g_baload {a : Addr} {k : ClassId} {n j : Int32} {vs : List Value} {dv : Value} {v : Int32} (C : Cx p s m meth c Z own nm bytes maxL ret) (X : St p l e R s m A below meth c Z T h cells slots) (F : Arv Z h a k .byte n vs dv) (d : Dc bytes pc .baload 1 pc') (hj : ¬ j < 0) (hj' : j < n) (hv : vs.getD j.toNatClampNeg dv = .int v) (K : Goes p e below W T (mkF m pc' Ls (.int v :: st))) : Goes p e below W T (mkF m pc Ls (.int j :: .ref a :: st)) := by
  obtain ⟨d, rfl⟩ := d
  obtain ⟨L0, Y, eT, N, E⟩ := X
  obtain ⟨cl, Ar, -, hS, hN, hH, -⟩ := F
  have hin := in_of hS hj hj'
  exact Goes.via (Y.baloadBytes C.hx (j := j) (v := .int v) (by rw [eT]; exact Ar.1) (State.isArrayOf_alike C.hZ.alike Ar.2.1) Ar.2.2 hin (hH.at hin hv) (g := mkF m pc Ls (.int j :: .ref a :: st)) rfl rfl (hb C.hby d)) K
theorem g_laload {a : Addr} {k : ClassId} {n j : Int32} {vs : List Value} {dv : Value} {v : Int64} (C : Cx p s m meth c Z own nm bytes maxL ret) (X : St p l e R s m A below meth c Z T h cells slots) (F : Arv Z h a k .long n vs dv) (d : Dc bytes pc .laload 1 pc') (hj : ¬ j < 0) (hj' : j < n) (hv : vs.getD j.toNatClampNeg dv = .long v) (K : Goes p e below W T (mkF m pc' Ls (.long v :: st))) : Goes p e below W T (mkF m pc Ls (.int j :: .ref a :: st)) := by
  obtain ⟨d, rfl⟩ := d
  obtain ⟨L0, Y, eT, N, E⟩ := X
  obtain ⟨cl, Ar, -, hS, hN, hH, -⟩ := F
  have hin := in_of hS hj hj'
  exact Goes.via (Y.laload C.hx (j := j) (v := .long v) (by rw [eT]; exact Ar.1) (State.isArrayOf_alike C.hZ.alike Ar.2.1) Ar.2.2 hin (hH.at hin hv) (g := mkF m pc Ls (.int j :: .ref a :: st)) rfl rfl (hb C.hby d)) K
theorem g_aaload {a : Addr} {k : ClassId} {ty : FieldType} {n j : Int32} {vs : List Value} {dv v : Value} (C : Cx p s m meth c Z own nm bytes maxL ret) (X : St p l e R s m A below meth c Z T h cells slots) (F : Arv Z h a k ty n vs dv) (hty : ty.isReference = true) (d : Dc bytes pc .aaload 1 pc') (hj : ¬ j < 0) (hj' : j < n) (hv : vs.getD j.toNatClampNeg dv = v) (K : Goes p e below W T (mkF m pc' Ls (v :: st))) : Goes p e below W T (mkF m pc Ls (.int j :: .ref a :: st)) := by
  obtain ⟨d, rfl⟩ := d
  obtain ⟨L0, Y, eT, N, E⟩ := X
  obtain ⟨cl, Ar, -, hS, hN, hH, -⟩ := F
  have hin := in_of hS hj hj'
  exact Goes.via (Y.aaload C.hx (j := j) (v := v) (by rw [eT]; exact Ar.1) (State.isArrayOf_alike C.hZ.alike Ar.2.1) hty Ar.2.2 hin (hH.at hin hv) (g := mkF m pc Ls (.int j :: .ref a :: st)) rfl rfl (hb C.hby d)) K
theorem g_iastore {a : Addr} {k : ClassId} {n j : Int32} {vs : List Value} {dv : Value} {x : Int32} (C : Cx p s m meth c Z own nm bytes maxL ret) (X : St p l e R s m A below meth c Z T h cells slots) (F : Arv Z h a k .int n vs dv) (hnew : Z.heap.size ≤ a) (d : Dc bytes pc .iastore 1 pc') (hj : ¬ j < 0) (hj' : j < n) (hi : j.toNatClampNeg < vs.length) (y : Value) (hy : .int x = y)
    (K : ∀ T' h', St p l e R s m A below meth c Z T' h' cells slots → Wr h h' a j.toNatClampNeg y → Arv Z h' a k .int n (vs.set j.toNatClampNeg y) dv → Goes p e below W T' (mkF m pc' Ls st)) : Goes p e below W T (mkF m pc Ls (.int x :: .int j :: .ref a :: st)) := by
  subst hy
  obtain ⟨d, rfl⟩ := d
  obtain ⟨L0, Y, eT, N, E⟩ := X
  obtain ⟨cl, Ar, q1, hS, hN, hH, hG⟩ := F
  have hin := in_of hS hj hj'
  obtain ⟨T', h', Y', e', W', q⟩ := stI Y C.hx C.hZ eT Ar hin (g := mkF m pc Ls (.int x :: .int j :: .ref a :: st)) rfl rfl (hb C.hby d)
  exact Goes.via q (K T' h' ⟨_, Y', e', Fr.snoc Y' N hnew, ext_wr E W' hnew⟩ W' (Arv.set Ar q1 hS hN hH hG rfl W' _ rfl hi))
theorem g_castore {a : Addr} {k : ClassId} {n j : Int32} {vs : List Value} {dv : Value} {x : Int32} (C : Cx p s m meth c Z own nm bytes maxL ret) (X : St p l e R s m A below meth c Z T h cells slots) (F : Arv Z h a k .char n vs dv) (hnew : Z.heap.size ≤ a) (d : Dc bytes pc .castore 1 pc') (hj : ¬ j < 0) (hj' : j < n) (hi : j.toNatClampNeg < vs.length) (y : Value) (hy : .int (nar .char x) = y)
    (K : ∀ T' h', St p l e R s m A below meth c Z T' h' cells slots → Wr h h' a j.toNatClampNeg y → Arv Z h' a k .char n (vs.set j.toNatClampNeg y) dv → Goes p e below W T' (mkF m pc' Ls st)) : Goes p e below W T (mkF m pc Ls (.int x :: .int j :: .ref a :: st)) := by
  subst hy
  obtain ⟨d, rfl⟩ := d
  obtain ⟨L0, Y, eT, N, E⟩ := X
  obtain ⟨cl, Ar, q1, hS, hN, hH, hG⟩ := F
  have hin := in_of hS hj hj'
  obtain ⟨T', h', Y', e', W', q⟩ := stC Y C.hx C.hZ eT Ar hin (g := mkF m pc Ls (.int x :: .int j :: .ref a :: st)) rfl rfl (hb C.hby d)
  exact Goes.via q (K T' h' ⟨_, Y', e', Fr.snoc Y' N hnew, ext_wr E W' hnew⟩ W' (Arv.set Ar q1 hS hN hH hG (fits_nar_char _) W' _ rfl hi))
theorem g_sastore {a : Addr} {k : ClassId} {n j : Int32} {vs : List Value} {dv : Value} {x : Int32} (C : Cx p s m meth c Z own nm bytes maxL ret) (X : St p l e R s m A below meth c Z T h cells slots) (F : Arv Z h a k .short n vs dv) (hnew : Z.heap.size ≤ a) (d : Dc bytes pc .sastore 1 pc') (hj : ¬ j < 0) (hj' : j < n) (hi : j.toNatClampNeg < vs.length) (y : Value) (hy : .int (nar .short x) = y)
    (K : ∀ T' h', St p l e R s m A below meth c Z T' h' cells slots → Wr h h' a j.toNatClampNeg y → Arv Z h' a k .short n (vs.set j.toNatClampNeg y) dv → Goes p e below W T' (mkF m pc' Ls st)) : Goes p e below W T (mkF m pc Ls (.int x :: .int j :: .ref a :: st)) := by
  subst hy
  obtain ⟨d, rfl⟩ := d
  obtain ⟨L0, Y, eT, N, E⟩ := X
  obtain ⟨cl, Ar, q1, hS, hN, hH, hG⟩ := F
  have hin := in_of hS hj hj'
  obtain ⟨T', h', Y', e', W', q⟩ := stS Y C.hx C.hZ eT Ar hin (g := mkF m pc Ls (.int x :: .int j :: .ref a :: st)) rfl rfl (hb C.hby d)
  exact Goes.via q (K T' h' ⟨_, Y', e', Fr.snoc Y' N hnew, ext_wr E W' hnew⟩ W' (Arv.set Ar q1 hS hN hH hG (fits_nar_short _) W' _ rfl hi))
theorem g_bastore {a : Addr} {k : ClassId} {n j : Int32} {vs : List Value} {dv : Value} {x : Int32} (C : Cx p s m meth c Z own nm bytes maxL ret) (X : St p l e R s m A below meth c Z T h cells slots) (F : Arv Z h a k .byte n vs dv) (hnew : Z.heap.size ≤ a) (d : Dc bytes pc .bastore 1 pc') (hj : ¬ j < 0) (hj' : j < n) (hi : j.toNatClampNeg < vs.length) (y : Value) (hy : .int (nar .byte x) = y)
    (K : ∀ T' h', St p l e R s m A below meth c Z T' h' cells slots → Wr h h' a j.toNatClampNeg y → Arv Z h' a k .byte n (vs.set j.toNatClampNeg y) dv → Goes p e below W T' (mkF m pc' Ls st)) : Goes p e below W T (mkF m pc Ls (.int x :: .int j :: .ref a :: st)) := by
  subst hy
  obtain ⟨d, rfl⟩ := d
  obtain ⟨L0, Y, eT, N, E⟩ := X
  obtain ⟨cl, Ar, q1, hS, hN, hH, hG⟩ := F
  have hin := in_of hS hj hj'
  obtain ⟨T', h', Y', e', W', q⟩ := stB Y C.hx C.hZ eT Ar hin (g := mkF m pc Ls (.int x :: .int j :: .ref a :: st)) rfl rfl (hb C.hby d)
  exact Goes.via q (K T' h' ⟨_, Y', e', Fr.snoc Y' N hnew, ext_wr E W' hnew⟩ W' (Arv.set Ar q1 hS hN hH hG (fits_nar_byte _) W' _ rfl hi))
theorem g_lastore {a : Addr} {k : ClassId} {n j : Int32} {vs : List Value} {dv : Value} {x : Int64} (C : Cx p s m meth c Z own nm bytes maxL ret) (X : St p l e R s m A below meth c Z T h cells slots) (F : Arv Z h a k .long n vs dv) (hnew : Z.heap.size ≤ a) (d : Dc bytes pc .lastore 1 pc') (hj : ¬ j < 0) (hj' : j < n) (hi : j.toNatClampNeg < vs.length) (y : Value) (hy : .long x = y)
    (K : ∀ T' h', St p l e R s m A below meth c Z T' h' cells slots → Wr h h' a j.toNatClampNeg y → Arv Z h' a k .long n (vs.set j.toNatClampNeg y) dv → Goes p e below W T' (mkF m pc' Ls st)) : Goes p e below W T (mkF m pc Ls (.long x :: .int j :: .ref a :: st)) := by
  subst hy
  obtain ⟨d, rfl⟩ := d
  obtain ⟨L0, Y, eT, N, E⟩ := X
  obtain ⟨cl, Ar, q1, hS, hN, hH, hG⟩ := F
  have hin := in_of hS hj hj'
  obtain ⟨T', h', Y', e', W', q⟩ := stJ Y C.hx C.hZ eT Ar hin (g := mkF m pc Ls (.long x :: .int j :: .ref a :: st)) rfl rfl (hb C.hby d)
  exact Goes.via q (K T' h' ⟨_, Y', e', Fr.snoc Y' N hnew, ext_wr E W' hnew⟩ W' (Arv.set Ar q1 hS hN hH hG rfl W' _ rfl hi))
theorem st_back {T' : State} {h' : Heap} {k n : Nat} {B : Pt} {locs L : List Loc} (Y' : Stand p l e R s m A below meth c B.U B.locs B.cells B.slots) (hB : B.locs = locs ++ L ∧ B.cells = cells + k ∧ B.slots = slots + n) (N : Fr Z.heap.size locs) (N' : Fr Z.heap.size L) (E : Ext Z.heap B.U.heap) : St p l e R s m A below meth c Z B.U B.U.heap (cells + k) (slots + n) := by
  obtain ⟨b1, b2, b3⟩ := hB
  rw [b1, b2, b3] at Y'
  exact ⟨_, Y', rfl, N.app N', E⟩
theorem g_arraycopy {index : Nat} {a b : Addr} {k k' : ClassId} {ty : FieldType} {z z' sp dp nn : Int32} {vs vd : List Value} {dv dd : Value} (C : Cx p s m meth c Z own nm bytes maxL ret) (X : St p l e R s m A below meth c Z T h cells slots)
    (w1 : (Jvm.Cond.methodLink own index Jvm.Stand.acN).before a0 Z = true) (w2 : (Jvm.Cond.native Jvm.Stand.acN).before a0 Z = true) (w3 : (Jvm.Cond.static Jvm.Stand.acN).before a0 Z = true) (w4 : (Jvm.Cond.initialized "java/lang/System").before a0 Z = true)
    (F : Arv Z h a k ty z vs dv) (G : Arv Z h b k' ty z' vd dd) (hty : refKind ty = false) (h1 : ¬ sp < 0) (h2 : ¬ dp < 0) (h3 : ¬ nn < 0) (h4 : sp.toNatClampNeg + nn.toNatClampNeg ≤ z.toNatClampNeg) (h5 : dp.toNatClampNeg + nn.toNatClampNeg ≤ z'.toNatClampNeg)
    (us : List Value) (hus : us = (List.range nn.toNatClampNeg).map fun i => vs.getD (sp.toNatClampNeg + i) dv) (hl : dp.toNatClampNeg + nn.toNatClampNeg ≤ vd.length) (hnew : Z.heap.size ≤ b) (hsz : Ls.size = maxL) (d : Dc bytes pc (.invokestatic index) 3 pc') (hf : 1 ≤ R.frames) (W' : Nat) (hW : (st.map fun v => v.category).sum ≤ W') (hlo : W' + (nativeFrameWords "java/lang/System" "arraycopy" 5 + 11) ≤ R.locals)
    (K : ∀ T' h', St p l e R s m A below meth c Z T' h' cells slots → Keep h h' [b] → Arv Z h' b k' ty z' (vd.take dp.toNatClampNeg ++ us ++ vd.drop (dp.toNatClampNeg + nn.toNatClampNeg)) dd → Goes p e below W T' (mkF m pc' Ls st)) : Goes p e below W T (mkF m pc Ls (.int nn :: .int dp :: .ref b :: .int sp :: .ref a :: st)) := by
  obtain ⟨d, rfl⟩ := d
  obtain ⟨L0, Y, eT, N, E⟩ := X
  obtain ⟨T', h', L', Y', e', N', K', A', q⟩ := cpA Y C.hx C.hZ C.hown w1 w2 w3 w4 eT F G (Or.inl ⟨rfl, hty⟩) h1 h2 h3 h4 h5 hus hl N hnew (g := mkF m pc Ls (.int nn :: .int dp :: .ref b :: .int sp :: .ref a :: st)) rfl (hsz.trans C.hml.symm) rfl (hb C.hby d) hf (W := W') (by show 2 * 0 + _ ≤ _; omega) hlo
  exact Goes.via q (K T' h' ⟨L', Y', e', N', ext_keep E K' (allS hnew all0)⟩ K' A')
/-- a Back that serves a call: what a contract pays -/
def Pay (l : Launch) (R : Room) (p : Program) (e : Env) (below : List Frame) (s : State) (A : Array Value) (y : MethodName) (len W k n : Nat) (Z : State) (as' : Array Value) (h : Heap) (Q : Option Value → Heap → Prop) : Prop :=
  Back l R p e below s A y len W (fun P a => a = as' ∧ P.U.heap = h ∧ P.cells + k ≤ R.cells ∧ P.slots + n ≤ R.slots)
    (fun P _ v B => ∃ L, (Fr Z.heap.size L ∧ Ext Z.heap B.U.heap ∧ Q v B.U.heap) ∧ B.locs = P.locs ++ L ∧ B.cells = P.cells + k ∧ B.slots = P.slots + n)
theorem pay_of {y : MethodName} {bytes' : ByteArray} {maxL' len W' : Nat} {ret' : Option FieldType} {rm : Room} {as' : Array Value} {Q : Option Value → Heap → Prop} (hM : Con l y bytes' maxL' ret' [] rm Z as' h Q) (hZ : Z.Warmed39 s.vm) (wc : (Jvm.Cond.code y bytes' maxL' ret').before a0 Z = true) (wz : (Jvm.Cond.initialized y.cls).before a0 Z = true) (hf : rm.frames + 1 ≤ R.frames) (hl : W' + (maxL' + 11) + rm.locals ≤ R.locals) :
    Pay l R p e below s A y len W' rm.cells rm.slots Z as' h Q := backOf (Q := fun v h' L => Fr Z.heap.size L ∧ Ext Z.heap h' ∧ Q v h') hM hZ wc wz hf hl
theorem g_static {index k n : Nat} {y : MethodName} {bytes' : ByteArray} {maxL' W' : Nat} {ret' : Option FieldType} {argsL : List Value} {Q : Option Value → Heap → Prop} {ps : List FieldType} {rt : Option FieldType} (C : Cx p s m meth c Z own nm bytes maxL ret) (X : St p l e R s m A below meth c Z T h cells slots)
    (w1 : (Jvm.Cond.methodLink own index y).before a0 Z = true) (w2 : (Jvm.Cond.static y).before a0 Z = true) (w3 : (Jvm.Cond.initialized y.cls).before a0 Z = true) (w4 : (Jvm.Cond.code y bytes' maxL' ret').before a0 Z = true) (hy : y.cls ≠ "java/lang/invoke/MethodHandle" ∧ y.cls ≠ "java/lang/invoke/VarHandle")
    (hK : Pay l R p e below s A y 3 W' k n Z argsL.toArray h Q) (pd : parseMethodDescriptor y.desc = some ⟨ps, rt⟩) (hlen : argsL.length = ps.length) (hsz : Ls.size = maxL) (stk : List Value) (hst : stk = argsL.reverse ++ st) (hW : (st.map fun v => v.category).sum ≤ W') (d : Dc bytes pc (.invokestatic index) 3 pc') (hc : cells + k ≤ R.cells) (hs : slots + n ≤ R.slots)
    (K : ∀ T' h' v, Q v h' → St p l e R s m A below meth c Z T' h' (cells + k) (slots + n) → Goes p e below W T' (mkF m pc' Ls (v.toList ++ st))) : Goes p e below W T (mkF m pc Ls stk) := by
  obtain ⟨d, rfl⟩ := d
  obtain ⟨L0, Y, eT, N, E⟩ := X
  obtain ⟨v, vm₁, B, -, Y', ⟨L, ⟨N', E', hQ⟩, hB⟩, q⟩ := Jvm.LawKit.callS Y C.hx C.hown (mvT C.hZ w1) (mvT C.hZ w2) (mvT C.hZ w3) (mvT C.hZ w4) hy hK (g := mkF m pc Ls stk) rfl (hsz.trans C.hml.symm) (argsL := argsL) (rest := st) (lenOf pd hlen) hst (by show 2 * 0 + _ ≤ _; omega) (hb C.hby d) (fun _ _ => ⟨rfl, eT, hc, hs⟩)
  exact Goes.via q (K _ _ v hQ (st_back (T' := T) (h' := h) Y' hB N N' E'))
theorem g_special {index k n : Nat} {y : MethodName} {bytes' : ByteArray} {maxL' W' : Nat} {argsL : List Value} {Q : Option Value → Heap → Prop} {ps : List FieldType} {rt : Option FieldType} {a : Addr} (C : Cx p s m meth c Z own nm bytes maxL ret) (X : St p l e R s m A below meth c Z T h cells slots) (hi : y.name = "<init>")
    (w1 : (Jvm.Cond.methodLink own index y).before a0 Z = true) (w2 : (Jvm.Cond.instanceMethod y).before a0 Z = true) (w4 : (Jvm.Cond.code y bytes' maxL' none).before a0 Z = true) (hy : y.cls ≠ "java/lang/invoke/MethodHandle" ∧ y.cls ≠ "java/lang/invoke/VarHandle")
    (hK : Pay l R p e below s A y 3 W' k n Z (.ref a :: argsL).toArray h Q) (pd : parseMethodDescriptor y.desc = some ⟨ps, rt⟩) (hlen : argsL.length = ps.length) (hsz : Ls.size = maxL) (stk : List Value) (hst : stk = argsL.reverse ++ .ref a :: st) (hW : (st.map fun v => v.category).sum ≤ W') (d : Dc bytes pc (.invokespecial index) 3 pc') (hc : cells + k ≤ R.cells) (hs : slots + n ≤ R.slots)
    (K : ∀ T' h' v, Q v h' → St p l e R s m A below meth c Z T' h' (cells + k) (slots + n) → Goes p e below W T' (mkF m pc' Ls (v.toList ++ st))) : Goes p e below W T (mkF m pc Ls stk) := by
  obtain ⟨d, rfl⟩ := d
  obtain ⟨L0, Y, eT, N, E⟩ := X
  obtain ⟨v, vm₁, B, -, Y', ⟨L, ⟨N', E', hQ⟩, hB⟩, q⟩ := Y.specialBack C.hx (y := y) hi C.hown (mvT C.hZ w1) (mvT C.hZ w2) (mvT C.hZ w4) hy hK (g := mkF m pc Ls stk) rfl (hsz.trans C.hml.symm) (Steps.refl _) (a := a) (argsL := argsL) (rest := st) (lenOf pd hlen) hst (by show 2 * 0 + _ ≤ _; omega) (hb C.hby d) (fun _ _ => ⟨rfl, eT, hc, hs⟩)
  exact Goes.via (fun _ k => q.trans k) (K _ _ v hQ (st_back (T' := T) (h' := h) Y' hB N N' E'))
theorem g_virtual {index k n : Nat} {y z : MethodName} {K0 : String} {W' : Nat} {argsL : List Value} {Q : Option Value → Heap → Prop} {ps : List FieldType} {rt : Option FieldType} {a : Addr} (C : Cx p s m meth c Z own nm bytes maxL ret) (X : St p l e R s m A below meth c Z T h cells slots)
    (w1 : (Jvm.Cond.methodLink own index y).before a0 Z = true) (w2 : (Jvm.Cond.declares y).before a0 Z = true) (nf : NotFace s y) (w3 : (Jvm.Cond.selects K0 y z).before a0 Z = true) (w4 : (Jvm.Cond.instanceMethod z).before a0 Z = true) (hy : y.cls ≠ "java/lang/invoke/MethodHandle" ∧ y.cls ≠ "java/lang/invoke/VarHandle") (Ex : Exa Z h a K0)
    (hK : Pay l R p e below s A z 3 W' k n Z (.ref a :: argsL).toArray h Q) (pd : parseMethodDescriptor y.desc = some ⟨ps, rt⟩) (hlen : argsL.length = ps.length) (hsz : Ls.size = maxL) (stk : List Value) (hst : stk = argsL.reverse ++ .ref a :: st) (hW : (st.map fun v => v.category).sum ≤ W') (d : Dc bytes pc (.invokevirtual index) 3 pc') (hc : cells + k ≤ R.cells) (hs : slots + n ≤ R.slots)
    (K : ∀ T' h' v, Q v h' → St p l e R s m A below meth c Z T' h' (cells + k) (slots + n) → Goes p e below W T' (mkF m pc' Ls (v.toList ++ st))) : Goes p e below W T (mkF m pc Ls stk) := by
  obtain ⟨d, rfl⟩ := d
  obtain ⟨L0, Y, eT, N, E⟩ := X
  obtain ⟨cq, kq, qa, qb, qc⟩ := isOf C.hZ eT Ex
  obtain ⟨v, vm₁, B, -, Y', ⟨L, ⟨N', E', hQ⟩, hB⟩, q⟩ := Y.virtualBack C.hx (y := y) (z := z) C.hown (mvT C.hZ w1) (mvT C.hZ w2) nf (mvT C.hZ w3) (mvT C.hZ w4) hy hK qa qc (g := mkF m pc Ls stk) rfl (hsz.trans C.hml.symm) (Steps.refl _) (argsL := argsL) (rest := st) (lenOf pd hlen) hst (by show 2 * 0 + _ ≤ _; omega) (hb C.hby d) (fun _ _ => ⟨rfl, eT, hc, hs⟩)
  exact Goes.via (fun _ k => q.trans k) (K _ _ v hQ (st_back (T' := T) (h' := h) Y' hB N N' E'))
theorem nf_of {K0 : String} {y z : MethodName} (C : Cx p s m meth c Z own nm bytes maxL ret) (w3 : (Jvm.Cond.selects K0 y z).before a0 Z = true) (e : K0 = y.cls) (e' : z = y) : NotFace s y := by
  subst e e'; exact notFace_of_selects (args := #[]) (mvT C.hZ w3)
theorem g_interface {index count k n : Nat} {y z : MethodName} {K0 : String} {W' : Nat} {argsL : List Value} {Q : Option Value → Heap → Prop} {ps : List FieldType} {rt : Option FieldType} {a : Addr} (C : Cx p s m meth c Z own nm bytes maxL ret) (X : St p l e R s m A below meth c Z T h cells slots)
    (w1 : (Jvm.Cond.methodLink own index y).before a0 Z = true) (w2 : (Jvm.Cond.declares y).before a0 Z = true) (w5 : (Jvm.Cond.interfaceMethod y.cls y.cls y.name y.desc).before A s = true) (w3 : (Jvm.Cond.selects K0 y z).before a0 Z = true) (w4 : (Jvm.Cond.instanceMethod z).before a0 Z = true) (w6 : (Jvm.Cond.publicMethod z).before a0 Z = true) (w7 : (Jvm.Cond.unhidden K0 y.name y.desc).before A s = true) (w8 : (Jvm.Cond.castable K0 y.cls).before a0 Z = true)
    (hy : y.cls ≠ "java/lang/invoke/MethodHandle" ∧ y.cls ≠ "java/lang/invoke/VarHandle") (Ex : Exa Z h a K0)
    (hK : Pay l R p e below s A z 5 W' k n Z (.ref a :: argsL).toArray h Q) (pd : parseMethodDescriptor y.desc = some ⟨ps, rt⟩) (hlen : argsL.length = ps.length) (hsz : Ls.size = maxL) (stk : List Value) (hst : stk = argsL.reverse ++ .ref a :: st) (hW : (st.map fun v => v.category).sum ≤ W') (d : Dc bytes pc (.invokeinterface index count) 5 pc') (hc : cells + k ≤ R.cells) (hs : slots + n ≤ R.slots)
    (K : ∀ T' h' v, Q v h' → St p l e R s m A below meth c Z T' h' (cells + k) (slots + n) → Goes p e below W T' (mkF m pc' Ls (v.toList ++ st))) : Goes p e below W T (mkF m pc Ls stk) := by
  obtain ⟨d, rfl⟩ := d
  obtain ⟨L0, Y, eT, N, E⟩ := X
  obtain ⟨cq, kq, qa, qb, qc⟩ := isOf C.hZ eT Ex
  obtain ⟨v, vm₁, B, -, Y', ⟨L, ⟨N', E', hQ⟩, hB⟩, q⟩ := Y.interfaceBack C.hx (xi := y) (y := z) C.hown (mvT C.hZ w1) (mvT C.hZ w2) w5 (mvT C.hZ w3) (mvT C.hZ w4) (mvT C.hZ w6) w7 (mvT C.hZ w8) hy hK qa qb qc (g := mkF m pc Ls stk) rfl (hsz.trans C.hml.symm) (Steps.refl _) (argsL := argsL) (rest := st) (lenOf pd hlen) hst (by show 2 * 0 + _ ≤ _; omega) (hb C.hby d) (fun _ _ => ⟨rfl, eT, hc, hs⟩)
  exact Goes.via (fun _ k => q.trans k) (K _ _ v hQ (st_back (T' := T) (h' := h) Y' hB N N' E'))
theorem g_staticP {index : Nat} {y : MethodName} {bytes' : ByteArray} {maxL' W' : Nat} {ret' : Option FieldType} {argsL : List Value} {v : Value} {ps : List FieldType} {rt : Option FieldType} (C : Cx p s m meth c Z own nm bytes maxL ret) (X : St p l e R s m A below meth c Z T h cells slots)
    (w1 : (Jvm.Cond.methodLink own index y).before a0 Z = true) (w2 : (Jvm.Cond.static y).before a0 Z = true) (w3 : (Jvm.Cond.initialized y.cls).before a0 Z = true) (w4 : (Jvm.Cond.code y bytes' maxL' ret').before a0 Z = true) (hy : y.cls ≠ "java/lang/invoke/MethodHandle" ∧ y.cls ≠ "java/lang/invoke/VarHandle")
    (hK : Pay l R p e below s A y 3 W' 0 0 Z argsL.toArray h (fun v' h' => v' = some v ∧ h' = h)) (pd : parseMethodDescriptor y.desc = some ⟨ps, rt⟩) (hlen : argsL.length = ps.length) (hsz : Ls.size = maxL) (stk : List Value) (hst : stk = argsL.reverse ++ st) (hW : (st.map fun v => v.category).sum ≤ W') (d : Dc bytes pc (.invokestatic index) 3 pc') (hc : cells ≤ R.cells) (hs : slots ≤ R.slots)
    (K : ∀ T', St p l e R s m A below meth c Z T' h cells slots → Goes p e below W T' (mkF m pc' Ls (v :: st))) : Goes p e below W T (mkF m pc Ls stk) :=
  g_static C X w1 w2 w3 w4 hy hK pd hlen hsz stk hst hW d hc hs fun T' h' v' hQ X' => by obtain ⟨rfl, rfl⟩ := hQ; exact K T' X'
theorem g_specialP {index : Nat} {y : MethodName} {bytes' : ByteArray} {maxL' W' : Nat} {argsL : List Value} {ps : List FieldType} {rt : Option FieldType} {a : Addr} (C : Cx p s m meth c Z own nm bytes maxL ret) (X : St p l e R s m A below meth c Z T h cells slots) (hi : y.name = "<init>")
    (w1 : (Jvm.Cond.methodLink own index y).before a0 Z = true) (w2 : (Jvm.Cond.instanceMethod y).before a0 Z = true) (w4 : (Jvm.Cond.code y bytes' maxL' none).before a0 Z = true) (hy : y.cls ≠ "java/lang/invoke/MethodHandle" ∧ y.cls ≠ "java/lang/invoke/VarHandle")
    (hK : Pay l R p e below s A y 3 W' 0 0 Z (.ref a :: argsL).toArray h (fun v' h' => v' = none ∧ h' = h)) (pd : parseMethodDescriptor y.desc = some ⟨ps, rt⟩) (hlen : argsL.length = ps.length) (hsz : Ls.size = maxL) (stk : List Value) (hst : stk = argsL.reverse ++ .ref a :: st) (hW : (st.map fun v => v.category).sum ≤ W') (d : Dc bytes pc (.invokespecial index) 3 pc') (hc : cells ≤ R.cells) (hs : slots ≤ R.slots)
    (K : ∀ T', St p l e R s m A below meth c Z T' h cells slots → Goes p e below W T' (mkF m pc' Ls st)) : Goes p e below W T (mkF m pc Ls stk) :=
  g_special C X hi w1 w2 w4 hy hK pd hlen hsz stk hst hW d hc hs fun T' h' v' hQ X' => by obtain ⟨rfl, rfl⟩ := hQ; exact K T' X'
theorem g_virtualP {index : Nat} {y z : MethodName} {K0 : String} {W' : Nat} {argsL : List Value} {v : Value} {ps : List FieldType} {rt : Option FieldType} {a : Addr} (C : Cx p s m meth c Z own nm bytes maxL ret) (X : St p l e R s m A below meth c Z T h cells slots)
    (w1 : (Jvm.Cond.methodLink own index y).before a0 Z = true) (w2 : (Jvm.Cond.declares y).before a0 Z = true) (nf : NotFace s y) (w3 : (Jvm.Cond.selects K0 y z).before a0 Z = true) (w4 : (Jvm.Cond.instanceMethod z).before a0 Z = true) (hy : y.cls ≠ "java/lang/invoke/MethodHandle" ∧ y.cls ≠ "java/lang/invoke/VarHandle") (Ex : Exa Z h a K0)
    (hK : Pay l R p e below s A z 3 W' 0 0 Z (.ref a :: argsL).toArray h (fun v' h' => v' = some v ∧ h' = h)) (pd : parseMethodDescriptor y.desc = some ⟨ps, rt⟩) (hlen : argsL.length = ps.length) (hsz : Ls.size = maxL) (stk : List Value) (hst : stk = argsL.reverse ++ .ref a :: st) (hW : (st.map fun v => v.category).sum ≤ W') (d : Dc bytes pc (.invokevirtual index) 3 pc') (hc : cells ≤ R.cells) (hs : slots ≤ R.slots)
    (K : ∀ T', St p l e R s m A below meth c Z T' h cells slots → Goes p e below W T' (mkF m pc' Ls (v :: st))) : Goes p e below W T (mkF m pc Ls stk) :=
  g_virtual C X w1 w2 nf w3 w4 hy Ex hK pd hlen hsz stk hst hW d hc hs fun T' h' v' hQ X' => by obtain ⟨rfl, rfl⟩ := hQ; exact K T' X'
theorem g_interfaceP {index count : Nat} {y z : MethodName} {K0 : String} {W' : Nat} {argsL : List Value} {v : Value} {ps : List FieldType} {rt : Option FieldType} {a : Addr} (C : Cx p s m meth c Z own nm bytes maxL ret) (X : St p l e R s m A below meth c Z T h cells slots)
    (w1 : (Jvm.Cond.methodLink own index y).before a0 Z = true) (w2 : (Jvm.Cond.declares y).before a0 Z = true) (w5 : (Jvm.Cond.interfaceMethod y.cls y.cls y.name y.desc).before A s = true) (w3 : (Jvm.Cond.selects K0 y z).before a0 Z = true) (w4 : (Jvm.Cond.instanceMethod z).before a0 Z = true) (w6 : (Jvm.Cond.publicMethod z).before a0 Z = true) (w7 : (Jvm.Cond.unhidden K0 y.name y.desc).before A s = true) (w8 : (Jvm.Cond.castable K0 y.cls).before a0 Z = true)
    (hy : y.cls ≠ "java/lang/invoke/MethodHandle" ∧ y.cls ≠ "java/lang/invoke/VarHandle") (Ex : Exa Z h a K0)
    (hK : Pay l R p e below s A z 5 W' 0 0 Z (.ref a :: argsL).toArray h (fun v' h' => v' = some v ∧ h' = h)) (pd : parseMethodDescriptor y.desc = some ⟨ps, rt⟩) (hlen : argsL.length = ps.length) (hsz : Ls.size = maxL) (stk : List Value) (hst : stk = argsL.reverse ++ .ref a :: st) (hW : (st.map fun v => v.category).sum ≤ W') (d : Dc bytes pc (.invokeinterface index count) 5 pc') (hc : cells ≤ R.cells) (hs : slots ≤ R.slots)
    (K : ∀ T', St p l e R s m A below meth c Z T' h cells slots → Goes p e below W T' (mkF m pc' Ls (v :: st))) : Goes p e below W T (mkF m pc Ls stk) :=
  g_interface C X w1 w2 w5 w3 w4 w6 w7 w8 hy Ex hK pd hlen hsz stk hst hW d hc hs fun T' h' v' hQ X' => by obtain ⟨rfl, rfl⟩ := hQ; exact K T' X'
theorem g_initO {index : Nat} {a : Addr} (C : Cx p s m meth c Z own nm bytes maxL ret) (X : St p l e R s m A below meth c Z T h cells slots) (w1 : (Jvm.Cond.methodLink own index Lib.objectInit).before a0 Z = true) (w2 : (Jvm.Cond.instanceMethod Lib.objectInit).before a0 Z = true) (w3 : (Jvm.Cond.code Lib.objectInit ⟨#[0xb1]⟩ 1 none).before a0 Z = true) (hsz : Ls.size = maxL) (d : Dc bytes pc (.invokespecial index) 3 pc') (hf : 1 ≤ R.frames) (W' : Nat) (hW : (st.map fun v => v.category).sum ≤ W') (hl : W' + 12 ≤ R.locals)
    (K : ∀ T', St p l e R s m A below meth c Z T' h cells slots → Goes p e below W T' (mkF m pc' Ls st)) : Goes p e below W T (mkF m pc Ls (.ref a :: st)) := by
  obtain ⟨d, rfl⟩ := d
  obtain ⟨L0, Y, eT, N, E⟩ := X
  obtain ⟨T', Y', e', q⟩ := initO Y C.hx C.hZ C.hown w1 w2 w3 eT (g := mkF m pc Ls (.ref a :: st)) rfl (hsz.trans C.hml.symm) rfl (hb C.hby d) hf (W := W') (by show 2 * 0 + _ ≤ _; omega) hl
  exact Goes.via q (K T' ⟨L0, Y', e', N, E⟩)
theorem end_of {k n : Nat} {Q : Option Value → Heap → Prop} {v : Option Value} {L : List Loc} {fs : List Frame} (N : Fr Z.heap.size L) (E : Ext Z.heap T.heap) (hW : s.WarmedH (T.setFrames fs).vm) (hS : s.sameButNew ({ T.setFrames fs with vm := s.vm } : State) L cells slots) (hc : cells ≤ k) (hs : slots ≤ n) (hQ : Q v T.heap) : EndW Z s k n Q (.returned v) (T.setFrames fs) :=
  ⟨v, L, rfl, ⟨N, E, hQ⟩, ⟨_, rfl⟩, hW, hS.mono hc hs⟩
theorem g_retI {k n : Nat} {Q : Option Value → Heap → Prop} {z : Int32} (C : Cx p s m meth c Z own nm bytes maxL (some .int)) (X : St p l e R s m A below meth c Z T h cells slots) (d : Dc bytes pc .ireturn 1 pc') (hc : cells ≤ k) (hs : slots ≤ n) (hQ : Q (some (.int z)) h) : Goes p e below (EndW Z s k n Q) T (mkF m pc Ls (.int z :: st)) := by
  obtain ⟨L0, Y, rfl, N, E⟩ := X
  have hlk := C.hlk
  obtain ⟨fs, hr, hrun, hended, hW, hS⟩ := Y.leave (v := some (.int z)) (fun h => by rw [C.hret] at h; cases h) hlk
  exact ⟨_, _, retOut Y C.hx C.hret rfl (Or.inl ⟨rfl, Or.inl rfl, z, rfl⟩) (hb C.hby d.1) hr, hrun, hended, end_of N E hW hS hc hs hQ⟩
theorem g_retN {k n : Nat} {Q : Option Value → Heap → Prop} {z : Int32} {t : FieldType} (C : Cx p s m meth c Z own nm bytes maxL (some t)) (X : St p l e R s m A below meth c Z T h cells slots) (ht : t = .boolean ∨ t = .byte ∨ t = .char ∨ t = .short) (d : Dc bytes pc .ireturn 1 pc') (z' : Int32) (hz : nar t z = z') (hc : cells ≤ k) (hs : slots ≤ n) (hQ : Q (some (.int z')) h) : Goes p e below (EndW Z s k n Q) T (mkF m pc Ls (.int z :: st)) := by
  obtain ⟨L0, Y, rfl, N, E⟩ := X
  have hlk := C.hlk
  obtain ⟨fs, hr, hrun, hended, hW, hS⟩ := Y.leave (v := some (.int z')) (fun h => by rw [C.hret] at h; cases h) hlk
  rw [← hz] at hr
  exact ⟨_, _, retN Y C.hx C.hret ht (hb C.hby d.1) hr, hrun, hended, end_of N E hW hS hc hs hQ⟩
theorem g_retJ {k n : Nat} {Q : Option Value → Heap → Prop} {z : Int64} (C : Cx p s m meth c Z own nm bytes maxL (some .long)) (X : St p l e R s m A below meth c Z T h cells slots) (d : Dc bytes pc .lreturn 1 pc') (hc : cells ≤ k) (hs : slots ≤ n) (hQ : Q (some (.long z)) h) : Goes p e below (EndW Z s k n Q) T (mkF m pc Ls (.long z :: st)) := by
  obtain ⟨L0, Y, rfl, N, E⟩ := X
  have hlk := C.hlk
  obtain ⟨fs, hr, hrun, hended, hW, hS⟩ := Y.leave (v := some (.long z)) (fun h => by rw [C.hret] at h; cases h) hlk
  exact ⟨_, _, retOut Y C.hx C.hret rfl (Or.inr (Or.inl ⟨rfl, rfl, z, rfl⟩)) (hb C.hby d.1) hr, hrun, hended, end_of N E hW hS hc hs hQ⟩
theorem g_retA {k n : Nat} {Q : Option Value → Heap → Prop} {z : Value} {t : FieldType} (C : Cx p s m meth c Z own nm bytes maxL (some t)) (X : St p l e R s m A below meth c Z T h cells slots) (ht : t.isReference = true) (hz : z.isRef = true) (d : Dc bytes pc .areturn 1 pc') (hc : cells ≤ k) (hs : slots ≤ n) (hQ : Q (some z) h) : Goes p e below (EndW Z s k n Q) T (mkF m pc Ls (z :: st)) := by
  obtain ⟨L0, Y, rfl, N, E⟩ := X
  have hlk := C.hlk
  have hn : narrow t z = z := by cases t <;> first | rfl | (simp [FieldType.isReference] at ht; done) | (cases z <;> simp [Value.isRef] at hz <;> rfl)
  obtain ⟨fs, hr, hrun, hended, hW, hS⟩ := Y.leave (v := some z) (fun h => by rw [C.hret] at h; cases h) hlk
  exact ⟨_, _, retOut Y C.hx C.hret hn (Or.inr (Or.inr (Or.inr (Or.inr ⟨rfl, ht, hz⟩)))) (hb C.hby d.1) hr, hrun, hended, end_of N E hW hS hc hs hQ⟩
theorem g_retV {k n : Nat} {Q : Option Value → Heap → Prop} (C : Cx p s m meth c Z own nm bytes maxL none) (X : St p l e R s m A below meth c Z T h cells slots) (d : Dc bytes pc .return_ 1 pc') (hc : cells ≤ k) (hs : slots ≤ n) (hQ : Q none h) : Goes p e below (EndW Z s k n Q) T (mkF m pc Ls []) := by
  obtain ⟨L0, Y, rfl, N, E⟩ := X
  have hlk := C.hlk
  obtain ⟨fs, hr, hrun, hended, hW, hS⟩ := Y.leave (v := none) (fun _ => rfl) hlk
  exact ⟨_, _, Y.returnOut C.hx C.hret (hb C.hby d.1) hr, hrun, hended, end_of N E hW hS hc hs hQ⟩
end OwnKit
/-! from the case's words -/
theorem wd {a0 : Array Value} {Z : State} (hw : ∀ d ∈ tables_1, d.before a0 Z = true) (i : Nat) {d : Jvm.Cond} (h : tables_1[i]? = some d) : d.before a0 Z = true := hw d (List.mem_of_getElem? h)
theorem eqI_v {args : Array Value} {first s : State} {o : Option Outcome} {idx : List Nat} {t : Term} {k : Int32} (h : (Jvm.Cond.eq t (.int k)).value args first o s idx = some true) : t.eval args first o idx s = some (.int k) := by
  simp only [Cond.value, Term.eval] at h
  cases ht : t.eval args first o idx s with
  | none => simp [ht] at h
  | some x => cases x <;> simp [ht] at h ⊢; exact h
theorem eqJ_v {args : Array Value} {first s : State} {o : Option Outcome} {idx : List Nat} {t : Term} {k : Int64} (h : (Jvm.Cond.eq t (.long k)).value args first o s idx = some true) : t.eval args first o idx s = some (.long k) := by
  simp only [Cond.value, Term.eval] at h
  cases ht : t.eval args first o idx s with
  | none => simp [ht] at h
  | some x => cases x <;> simp [ht] at h ⊢; exact h
theorem eqR_v {args : Array Value} {first s : State} {o : Option Outcome} {idx : List Nat} {t u : Term} {a : Addr} (h : (Jvm.Cond.eq t u).value args first o s idx = some true) (hu : u.eval args first o idx s = some (.ref a)) : t.eval args first o idx s = some (.ref a) := by
  simp only [Cond.value, hu] at h
  cases ht : t.eval args first o idx s with
  | none => simp [ht] at h
  | some x => cases x <;> simp [ht] at h ⊢; exact h
theorem arr_start {args : Array Value} {Z : State} {t : Term} {a : Addr} {cl : Cell} {ty : FieldType} {n : Int32} {vs : List Value} (dv : Value) (hf : Fit Z) (A : Arr Z Z.heap a cl ty) (ev : t.eval args Z none [] Z = some (.ref a)) (hl : (Term.length t).eval args Z none [] Z = some (.int n)) (hn : ¬ n < 0) (hv : n.toNatClampNeg = vs.length)
    (H : HasL cl 0 vs) : Arv Z Z.heap a cl.cls ty n vs dv := by
  obtain ⟨a', c', e1, e2, e4⟩ := Term.length_spec hl
  cases ev.symm.trans e1
  cases A.1.symm.trans (State.arrayAt?_spec e2).1
  have e3 : cl.slots.size < 2 ^ 31 := by
    by_cases q : cl.slots.size < 2147483648
    · exact q
    · exfalso; simp [Term.eval, ev, e2, q] at hl
  exact Arv.start hf A e3 (Value.int.inj e4.symm) hn hv H
theorem elem_start {args : Array Value} {Z : State} {t : Term} {a : Addr} {cl : Cell} {ty : FieldType} {j : Int32} {v : Value} (A : Arr Z Z.heap a cl ty) (ev : t.eval args Z none [] Z = some (.ref a)) (h : (Term.elem t (.int j)).eval args Z none [] Z = some v) : cl.slots[j.toNatClampNeg]? = some v := (elem_in h ev (Term.int_eval j) A.1).2
theorem own_ch (x : Int32) : Value.int (nar .char ((x &&& (255 : Int32)).toUInt32.toUInt16.toUInt32.toInt32)) = .int (x &&& (255 : Int32)) := by
  show Value.int (((x &&& (255 : Int32)).toUInt32.toUInt16.toUInt32.toInt32).toUInt32.toUInt16.toUInt32.toInt32) = _
  rw [i2c_mask, i2c_mask]
theorem nz_v {args : Array Value} {Z : State} {t : Term} {z : Int32} (ev : t.eval args Z none [] Z = some (.int z)) (h : (Jvm.Cond.not (.eq t (.int 0))).value args Z none Z [] = some true) : ¬ z = 0 := by
  intro e; subst e
  have q := not_v h
  simp [Cond.value, ev, Term.eval] at q
theorem fld_of {args : Array Value} {Z : State} {t : Term} {a : Addr} {C n d : String} {v : Value} (ht : t.eval args Z none [] Z = some (.ref a)) (h : (Term.field t C n d).eval args Z none [] Z = some v) : Fld Z Z.heap a C n d v := Fld.start (by rw [← fld_at (args := args) (first := Z) (o := none) (idx := []) ht]; exact h)
theorem own_m255 (x : Int32) : ¬ (x &&& (255 : Int32)) < 0 ∧ ¬ (255 : Int32) < (x &&& (255 : Int32)) := by
  have h1 := c_mask x 255 8 (by decide) (by decide)
  simp only [Int32.lt_iff_toInt_lt, Int32.reduceToInt] at *
  omega
/-- new String(char[]) of known chars, as a payment -/
theorem payV {p : Program} {l : Launch} {e : Env} {R : Room} {s : State} {A : Array Value} {below : List Frame} {W' : Nat} {Z : State} {a0 : Array Value} {h : Heap} (hZ : Z.Warmed39 s.vm) (hE : Ext Z.heap h) (hw : ∀ d ∈ StrChars.Road.words, d.before a0 Z = true) {kI : Nat} (wi : (Jvm.Cond.instantiable "java/lang/String" kI).before a0 Z = true)
    {x b : Addr} {kC : ClassId} {cs : List Int32} {d v0 c0 : Value} {z N : Int32} {n : Nat} (hx0 : Z.heap.size ≤ x) (E : Exa Z h x "java/lang/String") (V : Fld Z h x "java/lang/String" "value" "[B" v0) (C : Fld Z h x "java/lang/String" "coder" "B" c0) (K : Arv Z h b kC .char N (cs.map Value.int) d) (S : Sta Z Z.heap "java/lang/String" "COMPACT_STRINGS" "Z" (.int z)) (hz : ¬ z = 0)
    (hn : cs.length = n) (hN : N = Int32.ofNat n) (l0 : 0 < n) (l2 : n ≤ 4000) (hp : ∀ c ∈ cs, ¬ c < 0 ∧ ¬ (255 : Int32) < c) (hfr : 4 ≤ R.frames) (hlo : W' + 65 ≤ R.locals) :
    Pay l R p e below s A (⟨"java/lang/String", "<init>", "([C)V"⟩ : MethodName) 3 W' 1 n Z #[.ref x, .ref b] h (fun v h' => v = none ∧ Keep h h' [x] ∧ Exa Z h' x "java/lang/String" ∧ Fld Z h' x "java/lang/String" "coder" "B" (.int 0) ∧
      ∃ (t : Addr) (kb : ClassId), Z.heap.size ≤ t ∧ h.size ≤ t ∧ ¬ t = x ∧ Fld Z h' x "java/lang/String" "value" "[B" (.ref t) ∧ Arv Z h' t kb .byte N ((cs.map fun c => c.toInt8.toInt32).map Value.int) (.int 0)) :=
  Back.mono (StrChars.Road.backV (n0 := Z.heap.size) (W := W') hZ hw wi hx0 hE.1 E V C K (S.ext hE) hz hn hN l0 l2 hp rfl hfr hlo) (fun _ _ q => q)
    (fun P a v B hp hq => by
      obtain ⟨L, ⟨q1, q2, q3, q4, q5, q6⟩, r⟩ := hq
      exact ⟨L, ⟨q2, ext_keep hE q3 (allS hx0 all0), q1, q3, q4, q5, q6⟩, r⟩)

section OwnLit
variable {p : Program} {l : Launch} {e : Env} {R : Room} {s : State} {m : MethodId} {A : Array Value} {below : List Frame} {meth : Method} {c : Code} {T : State} {cells slots : Nat} {Z : State} {a0 : Array Value} {h : Heap} {own nm : String} {bytes : ByteArray} {maxL : Nat} {ret : Option FieldType} {W : Outcome → State → Prop} {pc pc' tgt : Nat} {Ls : Array Slot} {st : List Value} {EL : List (String × Nat)} {vm0 : Vm}
/-- what is known of the String constants: from the body's start s to the tables and the heap at hand -/
def Lits (Z : State) (EL : List (String × Nat)) (s : State) (vm0 : Vm) (h : Heap) : Prop := (∃ k0, s.Since vm0 k0 ∧ k0 ≤ h.size) ∧ CHr Z EL s.vm s.heap vm0 h
theorem Lits.keep {h' : Heap} {ws : List Addr} (I : Lits Z EL s vm0 h) (K : Keep h h' ws) (hs : ∀ x ∈ ws, Safe Z EL vm0 h x) : Lits Z EL s vm0 h' := by
  obtain ⟨⟨k0, a, b⟩, c⟩ := I
  exact ⟨⟨k0, a, Nat.le_trans b K.1⟩, c.trans (CHr.keep K hs c.1)⟩
theorem Lits.safe {h' : Heap} {ws : List Addr} {x : Addr} (I : Lits Z EL s vm0 h) (K : Keep h h' ws) (hs : ∀ x ∈ ws, Safe Z EL vm0 h x) (S : Safe Z EL vm0 h x) : Safe Z EL vm0 h' x := Safe.keep K hs I.2.1 S
theorem g_ldcs {index : Nat} {text : String} {vs : List Value} {z : Int32} (n : Nat) (C : Cx p (s.setVm vm0) m meth c Z own nm bytes maxL ret) (X : St p l e R (s.setVm vm0) m A below meth c Z T h cells slots) (I : Lits Z EL s vm0 h) (wS : ∀ a ∈ Bundle.stringAtoms, a.before a0 Z = true) (hEL : EW Z a0 EL) (hmem : (own, index) ∈ EL) (w : (Jvm.Cond.stringLink own index text).before a0 Z = true)
    (ht : (∀ c ∈ text.toList, c.toNat < 256) ∧ text.toList.map (fun c => Value.int (Jvm.Lit.byteI c.toNat.toUInt16)) = vs) (hz : ¬ z < 0) (hl : z.toNatClampNeg = vs.length) (hn : 4 * text.toList.length ≤ n) (hbig : n ≤ 536870912) (d : Dc bytes pc (.ldc index) 2 pc') (hc : cells + 2 ≤ R.cells) (hs : slots + (n + 4) ≤ R.slots)
    (K : ∀ a T' h' b k, Cx p (s.setVm T'.vm) m meth c Z own nm bytes maxL ret → St p l e R (s.setVm T'.vm) m A below meth c Z T' h' (cells + 2) (slots + (n + 4)) → Lits Z EL s T'.vm h' → CHr Z EL vm0 h T'.vm h' → Ext h h' → Exa Z h' a "java/lang/String" → Fld Z h' a "java/lang/String" "coder" "B" (.int 0) → Fld Z h' a "java/lang/String" "value" "[B" (.ref b) → Arv Z h' b k .byte z vs (.int 0) → (∀ x, Safe Z EL T'.vm h' x → x ≠ a ∧ x ≠ b) → Goes p e below W T' (mkF m pc' Ls (.ref a :: st))) : Goes p e below W T (mkF m pc Ls st) := by
  obtain ⟨d, rfl⟩ := d
  obtain ⟨L0, Y, eT, N, E⟩ := X
  obtain ⟨⟨k0, hS, hk⟩, hC⟩ := I
  obtain ⟨a, T', h', k1, b, k, Y', e', E', hS', hk', hZ', ho', r1, r2, r3, r4, -, -, hR, -, hne, q⟩ := ldcCH Y C.hx C.hZ C.hown w wS eT hS hk hEL hmem hC.1 ht hz hl (g := mkF m pc Ls st) rfl (hb C.hby d) hn hbig hc hs
  exact Goes.via q (K a T' h' b k ⟨C.1, hZ', ho', C.2.2.2⟩ ⟨L0, Y', e', N, ext_trans E E'⟩ ⟨⟨k1, hS', hk'⟩, hC.trans hR⟩ hR E' r1 r2 r3 r4 hne)
/-- the end of a body that may load String constants -/
def EndL (Z : State) (EL : List (String × Nat)) (s : State) (k n : Nat) (Q : Option Value → Heap → Prop) (o : Outcome) (u : State) : Prop :=
  ∃ v L, o = .returned v ∧ (Fr Z.heap.size L ∧ Ext Z.heap u.heap ∧ Q v u.heap) ∧ CHr Z EL s.vm s.heap u.vm u.heap ∧ ReturnedEndW s o u L k n
theorem goes_L {k n : Nat} {Q : Option Value → Heap → Prop} {g : JFrame} (I : Lits Z EL s vm0 h) (hEL : EW Z a0 EL) (hZ : Z.Warmed39 vm0) (G : Goes p e below (EndW Z (s.setVm vm0) k n (fun v h' => Q v h' ∧ h' = h)) T g) : Goes p e below (EndL Z EL s k n Q) T g := by
  obtain ⟨s₂, o, g1, g2, g3, v, L, rfl, ⟨N, E, hQ, hh⟩, hv, hW, hs⟩ := G
  obtain ⟨⟨k0, hS, hk⟩, hC⟩ := I
  obtain ⟨a, b, c'⟩ := hS.ended (U := s₂) hW (by rw [hh]; exact hk) hs
  refine ⟨s₂, _, g1, g2, g3, v, L, rfl, ⟨N, E, hQ⟩, ?_, ⟨v, rfl⟩, a, b, c'⟩
  have q := CHv.later (h' := h) hZ (hW := (show (Wst Z vm0 h).Warmed39 s₂.vm from hW.wide)) hEL ⟨Nat.le_refl _, fun _ _ q => q⟩ (Or.inl hW.interned_eq) hC.1
  rw [hh]; exact hC.trans ⟨q.1, Nat.le_refl _, q.2⟩
def ConL (l : Launch) (y : MethodName) (bytes : ByteArray) (maxL : Nat) (ret : Option FieldType) (ws : List Jvm.Cond) (rm : Room) (Z : State) (EL : List (String × Nat)) (sf : List Addr) (A : Array Value) (h0 : Heap) (Q : Option Value → Heap → Prop) : Prop :=
  MetFree l y (head1 (Jvm.Cond.code y bytes maxL ret :: ws) rm) (fun a U => a = A ∧ Z.Warmed39 U.vm ∧ U.heap = h0 ∧ CHv Z EL U.vm h0 ∧ ∀ x ∈ sf, Safe Z EL U.vm h0 x) (fun _ _ _ _ _ => True) (fun _ U o U' => EndL Z EL U rm.cells rm.slots Q o U')
theorem con_ofL {y : MethodName} {ws : List Jvm.Cond} {rm : Room} {h0 : Heap} {Q : Option Value → Heap → Prop} {Ls : Array Slot} {sf : List Addr} (hp : plainFor y = true) (hE : Ext Z.heap h0) (hef : ∀ m, entryFrame m A maxL = mkF m 0 Ls [])
    (body : ∀ p e s m below meth c s₁, Cx p (s.setVm s.vm) m meth c Z y.cls y.name bytes maxL ret → St p l e rm (s.setVm s.vm) m A below meth c Z s₁ h0 0 0 → Lits Z EL s s.vm h0 → (∀ x ∈ sf, Safe Z EL s.vm h0 x) → Goes p e below (EndL Z EL s rm.cells rm.slots Q) s₁ (mkF m 0 Ls [])) :
    ConL l y bytes maxL ret ws rm Z EL sf A h0 Q := by
  refine MetFree.of_bodySF hp hisR ?_
  intro p e s m args below meth c s₁ Bd hml0 hP hK
  obtain ⟨rfl, hZ, hh, hV, hsf⟩ := hP
  have X0 := Stand.of_body Bd
  have e0 : s₁.heap = h0 := by rw [← hh, Bd.state]; rfl
  have := body p e s m below meth c s₁ ⟨Bd.exec, hZ, findClass_of_methodNamed Bd.named, Bd.bytes, hml0, Bd.returns, Bd.notSynchronized, (name_of_methodNamed Bd.named Bd.method).1⟩ ⟨[], X0, e0, Fr.nil _, hE⟩ ⟨⟨0, (State.WarmedH.refl s).since 0, Nat.zero_le _⟩, by rw [hh]; exact CHr.refl hV⟩ hsf
  rw [← hef m] at this
  exact this
def PayL (l : Launch) (R : Room) (p : Program) (e : Env) (below : List Frame) (s : State) (vm0 : Vm) (A : Array Value) (y : MethodName) (len W k n : Nat) (Z : State) (EL : List (String × Nat)) (as' : Array Value) (h : Heap) (Q : Option Value → Heap → Prop) : Prop :=
  BackS l R p e below (s.setVm vm0) A y len W (fun P a => a = as' ∧ P.U.heap = h ∧ P.cells + k ≤ R.cells ∧ P.slots + n ≤ R.slots)
    (fun P _ v B => ∃ L, (Fr Z.heap.size L ∧ Ext Z.heap B.U.heap ∧ Q v B.U.heap) ∧ (B.locs = P.locs ++ L ∧ B.cells = P.cells + k ∧ B.slots = P.slots + n) ∧ CHr Z EL vm0 h B.U.vm B.U.heap)
theorem payL_of {y : MethodName} {bytes' : ByteArray} {maxL' len W' : Nat} {ret' : Option FieldType} {rm : Room} {sf : List Addr} {as' : Array Value} {Q : Option Value → Heap → Prop} (hM : ConL l y bytes' maxL' ret' [] rm Z EL sf as' h Q) (hZ : Z.Warmed39 vm0) (wc : (Jvm.Cond.code y bytes' maxL' ret').before a0 Z = true) (wz : (Jvm.Cond.initialized y.cls).before a0 Z = true) (hf : rm.frames + 1 ≤ R.frames) (hl : W' + (maxL' + 11) + rm.locals ≤ R.locals) (hEL : EW Z a0 EL) (I : Lits Z EL s vm0 h) (hsf : ∀ x ∈ sf, x < h.size ∧ Safe Z EL vm0 h x) :
    PayL l R p e below s vm0 A y len W' rm.cells rm.slots Z EL as' h Q :=
  BackS.of_freeW (bytes := bytes') (maxL := maxL') (ret := ret') (E := fun _ first o t L k n => k = rm.cells ∧ n = rm.slots ∧ (∃ v, o = .returned v ∧ Fr Z.heap.size L ∧ Ext Z.heap t.heap ∧ Q v t.heap) ∧ CHr Z EL first.vm first.heap t.vm t.heap) hM hf hl
    (fun m meth c A a Y hp => have hU : Z.Warmed39 A.U.vm := wtrans (s := s.setVm vm0) hZ Y.warmed
      ⟨by show (Jvm.Cond.and _ .tt).before a A.U = true; rw [Jvm.Cond.before_and, mv hU wc]; rfl, mv hU wc, mv hU wz, hp.2.2.1, hp.2.2.2⟩)
    (fun m meth c A a g mk Y hp => ⟨hp.1, wtrans (s := s.setVm vm0) hZ Y.warmed, hp.2.1, (CHv.at Y hZ hEL I.2.1).1, fun x hx => (CHv.at Y hZ hEL I.2.1).safe (hsf x hx).1 (hsf x hx).2⟩) (fun _ _ _ _ _ _ _ _ _ => trivial)
    (fun _ _ _ _ ⟨v, L, h1, h2, h3, h4⟩ => ⟨L, _, _, h4, rfl, rfl, ⟨v, h1, h2⟩, h3⟩)
    (fun m meth c A a g mk v t L k n Y hp _ _ ⟨e1, e2, ⟨v', e3, e4⟩, e5⟩ => by
      cases e3; subst e1 e2
      refine ⟨L, e4, ⟨rfl, rfl, rfl⟩, (CHv.at Y hZ hEL I.2.1).trans ?_⟩
      rw [← hp.2.1]; exact e5)
theorem g_staticL {index k n : Nat} {y : MethodName} {bytes' : ByteArray} {maxL' W' : Nat} {ret' : Option FieldType} {argsL : List Value} {Q : Option Value → Heap → Prop} {ps : List FieldType} {rt : Option FieldType} (C : Cx p (s.setVm vm0) m meth c Z own nm bytes maxL ret) (X : St p l e R (s.setVm vm0) m A below meth c Z T h cells slots) (I : Lits Z EL s vm0 h)
    (w1 : (Jvm.Cond.methodLink own index y).before a0 Z = true) (w2 : (Jvm.Cond.static y).before a0 Z = true) (w3 : (Jvm.Cond.initialized y.cls).before a0 Z = true) (w4 : (Jvm.Cond.code y bytes' maxL' ret').before a0 Z = true) (hy : y.cls ≠ "java/lang/invoke/MethodHandle" ∧ y.cls ≠ "java/lang/invoke/VarHandle")
    (hK : PayL l R p e below s vm0 A y 3 W' k n Z EL argsL.toArray h Q) (pd : parseMethodDescriptor y.desc = some ⟨ps, rt⟩) (hlen : argsL.length = ps.length) (hsz : Ls.size = maxL) (stk : List Value) (hst : stk = argsL.reverse ++ st) (hW : (st.map fun v => v.category).sum ≤ W') (d : Dc bytes pc (.invokestatic index) 3 pc') (hc : cells + k ≤ R.cells) (hs : slots + n ≤ R.slots)
    (K : ∀ T' h' v, Q v h' → Cx p (s.setVm T'.vm) m meth c Z own nm bytes maxL ret → St p l e R (s.setVm T'.vm) m A below meth c Z T' h' (cells + k) (slots + n) → Lits Z EL s T'.vm h' → CHr Z EL vm0 h T'.vm h' → Goes p e below W T' (mkF m pc' Ls (v.toList ++ st))) : Goes p e below W T (mkF m pc Ls stk) := by
  obtain ⟨d, rfl⟩ := d
  obtain ⟨L0, Y, eT, N, E⟩ := X
  obtain ⟨⟨k0, hS, hk⟩, hC⟩ := I
  obtain ⟨v, vm₁, B, -, Y', hS', hg', ⟨L, ⟨N', E', hQ⟩, ⟨b1, b2, b3⟩, hR⟩, q⟩ := callSS Y C.hx C.hown (mvT C.hZ w1) (mvT C.hZ w2) (mvT C.hZ w3) (mvT C.hZ w4) hy hK (g := mkF m pc Ls stk) rfl (hsz.trans C.hml.symm) (argsL := argsL) (rest := st) (lenOf pd hlen) hst (by show 2 * 0 + _ ≤ _; omega) (hb C.hby d) (fun _ _ => ⟨rfl, eT, hc, hs⟩)
  have q1 : B.locs = L0 ++ L := b1
  have q2 : B.cells = cells + k := b2
  have q3 : B.slots = slots + n := b3
  rw [q1, q2, q3] at Y'
  subst eT
  exact Goes.via (fun _ k => q.trans k) (K B.U B.U.heap v hQ ⟨C.1, State.Warmed39.trans (t := s.setVm vm0) C.hZ hS'.1, by rw [show (s.setVm B.U.vm).vm = B.U.vm from rfl, hS'.1.alike.findClass]; exact C.hown, C.2.2.2⟩ ⟨_, Y', rfl, N.app N', E'⟩ ⟨⟨_, hS.trans hS' (Nat.le_trans hk hg'), Nat.le_refl _⟩, hC.trans hR⟩ hR)
theorem g_specialL {index k n : Nat} {y : MethodName} {bytes' : ByteArray} {maxL' W' : Nat} {argsL : List Value} {Q : Option Value → Heap → Prop} {ps : List FieldType} {rt : Option FieldType} {a : Addr} (C : Cx p (s.setVm vm0) m meth c Z own nm bytes maxL ret) (X : St p l e R (s.setVm vm0) m A below meth c Z T h cells slots) (I : Lits Z EL s vm0 h) (hi : y.name = "<init>")
    (w1 : (Jvm.Cond.methodLink own index y).before a0 Z = true) (w2 : (Jvm.Cond.instanceMethod y).before a0 Z = true) (w4 : (Jvm.Cond.code y bytes' maxL' none).before a0 Z = true) (hy : y.cls ≠ "java/lang/invoke/MethodHandle" ∧ y.cls ≠ "java/lang/invoke/VarHandle")
    (hK : PayL l R p e below s vm0 A y 3 W' k n Z EL (.ref a :: argsL).toArray h Q) (pd : parseMethodDescriptor y.desc = some ⟨ps, rt⟩) (hlen : argsL.length = ps.length) (hsz : Ls.size = maxL) (stk : List Value) (hst : stk = argsL.reverse ++ .ref a :: st) (hW : (st.map fun v => v.category).sum ≤ W') (d : Dc bytes pc (.invokespecial index) 3 pc') (hc : cells + k ≤ R.cells) (hs : slots + n ≤ R.slots)
    (K : ∀ T' h' v, Q v h' → Cx p (s.setVm T'.vm) m meth c Z own nm bytes maxL ret → St p l e R (s.setVm T'.vm) m A below meth c Z T' h' (cells + k) (slots + n) → Lits Z EL s T'.vm h' → CHr Z EL vm0 h T'.vm h' → Goes p e below W T' (mkF m pc' Ls (v.toList ++ st))) : Goes p e below W T (mkF m pc Ls stk) := by
  obtain ⟨d, rfl⟩ := d
  obtain ⟨L0, Y, eT, N, E⟩ := X
  obtain ⟨⟨k0, hS, hk⟩, hC⟩ := I
  obtain ⟨v, vm₁, B, -, Y', hS', hg', ⟨L, ⟨N', E', hQ⟩, ⟨b1, b2, b3⟩, hR⟩, q⟩ := Y.specialBackS C.hx (y := y) hi C.hown (mvT C.hZ w1) (mvT C.hZ w2) (mvT C.hZ w4) hy hK (g := mkF m pc Ls stk) rfl (hsz.trans C.hml.symm) (Steps.refl _) (a := a) (argsL := argsL) (rest := st) (lenOf pd hlen) hst (by show 2 * 0 + _ ≤ _; omega) (hb C.hby d) (fun _ _ => ⟨rfl, eT, hc, hs⟩)
  have q1 : B.locs = L0 ++ L := b1
  have q2 : B.cells = cells + k := b2
  have q3 : B.slots = slots + n := b3
  rw [q1, q2, q3] at Y'
  subst eT
  exact Goes.via (fun _ k => q.trans k) (K B.U B.U.heap v hQ ⟨C.1, State.Warmed39.trans (t := s.setVm vm0) C.hZ hS'.1, by rw [show (s.setVm B.U.vm).vm = B.U.vm from rfl, hS'.1.alike.findClass]; exact C.hown, C.2.2.2⟩ ⟨_, Y', rfl, N.app N', E'⟩ ⟨⟨_, hS.trans hS' (Nat.le_trans hk hg'), Nat.le_refl _⟩, hC.trans hR⟩ hR)
end OwnLit
section OwnClone
variable {p : Program} {l : Launch} {e : Env} {R : Room} {s : State} {m : MethodId} {A : Array Value} {below : List Frame} {meth : Method} {c : Code} {T : State} {cells slots : Nat} {Z : State} {a0 : Array Value} {h : Heap} {own nm : String} {bytes : ByteArray} {maxL : Nat} {ret : Option FieldType} {W : Outcome → State → Prop} {pc pc' tgt : Nat} {Ls : Array Slot} {st : List Value} {EL : List (String × Nat)} {vm0 : Vm}
theorem g_clone {ad : String} {index cap : Nat} {a : Addr} {k : ClassId} {ty : FieldType} {z : Int32} {vs : List Value} {dv : Value} (C : Cx p s m meth c Z own nm bytes maxL ret) (X : St p l e R s m A below meth c Z T h cells slots)
    (w1 : (Jvm.Cond.methodLink own index ⟨ad, "clone", "()Ljava/lang/Object;"⟩).before a0 Z = true) (w2 : (Jvm.Cond.sameMethod ad "java/lang/Object" "clone" "()Ljava/lang/Object;").before a0 Z = true) (w3 : (Jvm.Cond.native ⟨"java/lang/Object", "clone", "()Ljava/lang/Object;"⟩).before a0 Z = true)
    (w4 : (Jvm.Cond.instanceMethod ⟨"java/lang/Object", "clone", "()Ljava/lang/Object;"⟩).before a0 Z = true) (w5 : (Jvm.Cond.selects ad ⟨ad, "clone", "()Ljava/lang/Object;"⟩ ⟨"java/lang/Object", "clone", "()Ljava/lang/Object;"⟩).before a0 Z = true) (w6 : (Jvm.Cond.castable ad "java/lang/Cloneable").before a0 Z = true)
    (F : Arv Z h a k ty z vs dv) (E0 : Exa Z h a ad) (hsz : Ls.size = maxL) (d : Dc bytes pc (.invokevirtual index) 3 pc') (hf : 1 ≤ R.frames) (W' : Nat) (hW : (st.map fun v => v.category).sum ≤ W') (hl : W' + 14 ≤ R.locals) (hcap : z.toNatClampNeg ≤ cap) (hc : cells + 1 ≤ R.cells) (hs : slots + cap ≤ R.slots)
    (K : ∀ T' h' b, b = h.size → Z.heap.size ≤ b → St p l e R s m A below meth c Z T' h' (cells + 1) (slots + cap) → Ext h h' → Arv Z h' b k ty z vs dv → Exa Z h' b ad → Goes p e below W T' (mkF m pc' Ls (.ref b :: st))) : Goes p e below W T (mkF m pc Ls (.ref a :: st)) := by
  obtain ⟨d, rfl⟩ := d
  obtain ⟨L0, Y, eT, N, E⟩ := X
  obtain ⟨cl, Ar, q1, S, q3, H, G⟩ := F
  have FC : FitC Z cl := fitC_of Ar fun i hi v hv => by rw [H i hi] at hv; cases hv; exact G i hi
  obtain ⟨T', h', Y', e', ex, A', E', q⟩ := cloneA Y C.hx C.hZ C.hown w1 w2 w3 w4 w5 w6 eT Ar E0 FC (g := mkF m pc Ls (.ref a :: st)) rfl (hsz.trans C.hml.symm) rfl (hb C.hby d) hf (W := W') (by show 2 * 0 + _ ≤ _; omega) hl (by rw [S]; exact hcap) hc hs
  exact Goes.via q (K T' h' h.size rfl E.1 ⟨L0, Y', e', N, ext_trans E ex⟩ ex ⟨cloneOf cl, A', q1, S, q3, H, G⟩ E')
end OwnClone
theorem own_up {c : Int32} (h : ¬ (255 : Int32) < c) : ¬ (65535 : Int32) < c := by
  simp only [Int32.lt_iff_toInt_lt, Int32.reduceToInt] at *
  omega

/-- String.equals of two Strings of known chars, as a payment -/
theorem payEq {p : Program} {l : Launch} {e : Env} {R : Room} {s : State} {A : Array Value} {below : List Frame} {W' : Nat} {Z : State} {a0 : Array Value} {h : Heap} (hZ : Z.Warmed39 s.vm) (hE : Ext Z.heap h) (hw : ∀ d ∈ StrChars.Road.wordsEq, d.before a0 Z = true) {kI : Nat} (wi : (Jvm.Cond.instantiable "java/lang/String" kI).before a0 Z = true)
    {x t : Addr} {kb : ClassId} {cs : List Int32} {N2 : Int32} {vs : List Value} (E : Exa Z h x "java/lang/String") (V : Fld Z h x "java/lang/String" "value" "[B" (.ref t)) (C : Fld Z h x "java/lang/String" "coder" "B" (.int 0)) (K : Arv Z h t kb .byte N2 vs (.int 0)) (hc : StrChars.Road.CodA cs 0 N2 vs) (hb : ∀ c ∈ cs, ¬ c < 0 ∧ ¬ (255 : Int32) < c) (l2 : cs.length ≤ 4000)
    {y t' : Addr} {kb' : ClassId} {ds : List Int32} {N2' : Int32} {vs' : List Value} (E' : Exa Z h y "java/lang/String") (V' : Fld Z h y "java/lang/String" "value" "[B" (.ref t')) (C' : Fld Z h y "java/lang/String" "coder" "B" (.int 0)) (K' : Arv Z h t' kb' .byte N2' vs' (.int 0)) (hc' : StrChars.Road.CodA ds 0 N2' vs') (hb' : ∀ c ∈ ds, ¬ c < 0 ∧ ¬ (255 : Int32) < c) (l2' : ds.length ≤ 4000)
    {z : Int32} (S : Sta Z Z.heap "java/lang/String" "COMPACT_STRINGS" "Z" (.int z)) (hz : ¬ z = 0) (hfr : 2 ≤ R.frames) (hlo : W' + 28 ≤ R.locals) (b : Int32) (h1 : cs = ds → b = 1) (h2 : ¬ cs = ds → b = 0) :
    Pay l R p e below s A (⟨"java/lang/String", "equals", "(Ljava/lang/Object;)Z"⟩ : MethodName) 3 W' 0 0 Z #[.ref x, .ref y] h (fun v h' => v = some (.int b) ∧ h' = h) :=
  Back.mono (StrChars.Road.eqW (W := W') hZ hw wi E V C K hc (fun c q => ⟨(hb c q).1, own_up (hb c q).2⟩) l2 E' V' C' K' hc' (fun c q => ⟨(hb' c q).1, own_up (hb' c q).2⟩) l2' (S.ext hE) hz hfr hlo) (fun _ _ q => q)
    (fun P a v B hp hq => by
      obtain ⟨L, ⟨q1, rfl, q2⟩, r⟩ := hq
      refine ⟨[], ⟨Fr.nil _, by rw [q2]; exact hE, ?_, q2⟩, r⟩
      rcases q1 with ⟨rfl, q⟩ | ⟨rfl, q⟩
      · rw [h1 q]
      · rw [h2 q])
theorem payLen {p : Program} {l : Launch} {e : Env} {R : Room} {s : State} {A : Array Value} {below : List Frame} {W' : Nat} {Z : State} {a0 : Array Value} {h : Heap} (hZ : Z.Warmed39 s.vm) (hE : Ext Z.heap h) (hw : ∀ d ∈ StrChars.Road.wordsLen, d.before a0 Z = true) {kI : Nat} (wi : (Jvm.Cond.instantiable "java/lang/String" kI).before a0 Z = true)
    {x t : Addr} {kb : ClassId} {cs : List Int32} {N2 : Int32} {vs : List Value} (E : Exa Z h x "java/lang/String") (V : Fld Z h x "java/lang/String" "value" "[B" (.ref t)) (C : Fld Z h x "java/lang/String" "coder" "B" (.int 0)) (K : Arv Z h t kb .byte N2 vs (.int 0)) (hc : StrChars.Road.CodA cs 0 N2 vs) (hb : ∀ c ∈ cs, ¬ c < 0 ∧ ¬ (255 : Int32) < c) (l2 : cs.length ≤ 4000)
    {z : Int32} (S : Sta Z Z.heap "java/lang/String" "COMPACT_STRINGS" "Z" (.int z)) (hz : ¬ z = 0) (hfr : 2 ≤ R.frames) (hlo : W' + 25 ≤ R.locals) (n : Int32) (hn : Int32.ofNat cs.length = n) :
    Pay l R p e below s A (⟨"java/lang/String", "length", "()I"⟩ : MethodName) 3 W' 0 0 Z #[.ref x] h (fun v h' => v = some (.int n) ∧ h' = h) :=
  Back.mono (StrChars.Road.lenW (W := W') hZ hw wi E V C K hc (fun c q => ⟨(hb c q).1, own_up (hb c q).2⟩) (S.ext hE) hz l2 hfr hlo) (fun _ _ q => q)
    (fun P a v B hp hq => by
      obtain ⟨L, ⟨q1, rfl, q2⟩, r⟩ := hq
      exact ⟨[], ⟨Fr.nil _, by rw [q2]; exact hE, by rw [q1, hn], q2⟩, r⟩)
theorem payCh {p : Program} {l : Launch} {e : Env} {R : Room} {s : State} {A : Array Value} {below : List Frame} {W' : Nat} {Z : State} {a0 : Array Value} {h : Heap} (hZ : Z.Warmed39 s.vm) (hE : Ext Z.heap h) (hw : ∀ d ∈ StrChars.Road.wordsChN, d.before a0 Z = true) {kI : Nat} (wi : (Jvm.Cond.instantiable "java/lang/String" kI).before a0 Z = true)
    {x t : Addr} {kb : ClassId} {cs : List Int32} {N2 : Int32} {vs : List Value} (E : Exa Z h x "java/lang/String") (V : Fld Z h x "java/lang/String" "value" "[B" (.ref t)) (C : Fld Z h x "java/lang/String" "coder" "B" (.int 0)) (K : Arv Z h t kb .byte N2 vs (.int 0)) (hc : StrChars.Road.CodA cs 0 N2 vs) (hb : ∀ c ∈ cs, ¬ c < 0 ∧ ¬ (255 : Int32) < c) (l2 : cs.length ≤ 4000)
    {z : Int32} (S : Sta Z Z.heap "java/lang/String" "COMPACT_STRINGS" "Z" (.int z)) (hz : ¬ z = 0) {fm : Value} (F : Sta Z Z.heap "jdk/internal/util/Preconditions" "SIOOBE_FORMATTER" "Ljava/util/function/BiFunction;" fm) (rf : fm.isRef = true) (hfr : 4 ≤ R.frames) (hlo : W' + 53 ≤ R.locals) {i : Nat} {j : Int32} (hi : i < cs.length) (hj : j = Int32.ofNat i) (n : Int32) (hn : cs.getD i 0 = n) :
    Pay l R p e below s A (⟨"java/lang/String", "charAt", "(I)C"⟩ : MethodName) 3 W' 0 0 Z #[.ref x, .int j] h (fun v h' => v = some (.int n) ∧ h' = h) :=
  Back.mono (StrChars.Road.chN (W := W') hZ hw wi E V C K hc (fun c q => ⟨(hb c q).1, own_up (hb c q).2⟩) (S.ext hE) hz (F.ext hE) rf l2 hi hj hfr hlo) (fun _ _ q => q)
    (fun P a v B hp hq => by
      obtain ⟨L, ⟨q1, rfl, q2⟩, r⟩ := hq
      exact ⟨[], ⟨Fr.nil _, by rw [q2]; exact hE, by rw [q1, hn], q2⟩, r⟩)
theorem own_EW {Z : State} {a0 : Array Value} (hw : ∀ d ∈ tables_1, d.before a0 Z = true) : EW Z a0 consts_1 := fun p hp => by
  simp only [consts_1, List.mem_cons, List.not_mem_nil, or_false] at hp
  rcases hp with rfl | rfl | rfl | rfl | rfl
  · exact ⟨"active", (wd hw 0 rfl), by decide +kernel⟩
  · exact ⟨"fallback", (wd hw 106 rfl), by decide +kernel⟩
  · exact ⟨"expired", (wd hw 107 rfl), by decide +kernel⟩
  · exact ⟨"revoked", (wd hw 79 rfl), by decide +kernel⟩
  · exact ⟨"", (wd hw 112 rfl), by decide +kernel⟩
theorem own_wS {Z : State} {a0 : Array Value} (hw : ∀ d ∈ tables_1, d.before a0 Z = true) : ∀ a ∈ Bundle.stringAtoms, a.before a0 Z = true := fun d hd => hw d ((show ∀ d ∈ Bundle.stringAtoms, d ∈ tables_1 by decide +kernel) d hd)
theorem own_cod {cs : List Int32} {N : Int32} {vs : List Value} (h1 : N = Int32.ofNat cs.length) (h2 : vs = (cs.map fun c => c.toInt8.toInt32).map Value.int) (h3 : ∀ c ∈ cs, ¬ c < 0 ∧ ¬ (255 : Int32) < c) : StrChars.Road.CodA cs 0 N vs := Or.inl ⟨rfl, h1, by rw [h2, List.map_map]; rfl, fun c q => (h3 c q).2⟩
theorem own_rc (y : Int32) : ¬ nar .char ((y &&& (255 : Int32)).toUInt32.toUInt16.toUInt32.toInt32) < 0 ∧ ¬ (255 : Int32) < nar .char ((y &&& (255 : Int32)).toUInt32.toUInt16.toUInt32.toInt32) := by
  rw [Value.int.inj (own_ch y)]; exact own_m255 y
theorem own_set {l : List Int32} {j : Nat} {y : Int32} (hl : ∀ c ∈ l, ¬ c < 0 ∧ ¬ (255 : Int32) < c) (hy : ¬ y < 0 ∧ ¬ (255 : Int32) < y) : ∀ c ∈ l.set j y, ¬ c < 0 ∧ ¬ (255 : Int32) < c := fun c q => by
  rcases List.mem_or_eq_of_mem_set q with q | rfl
  · exact hl c q
  · exact hy
theorem own_mapset (l : List Int32) (j : Nat) (y : Int32) : (l.map Value.int).set j (.int y) = (l.set j y).map Value.int := by rw [List.map_set]
theorem own_nar {x : Int32} (h : ¬ x < 0 ∧ ¬ (255 : Int32) < x) : Value.int (nar .char x) = .int x := by
  have e : x = x &&& 255 := by
    apply Int32.toInt_inj.mp
    have h1 := c_mask x 255 8 (by decide) (by decide)
    simp only [Int32.lt_iff_toInt_lt, Int32.reduceToInt] at *
    omega
  show Value.int (x.toUInt32.toUInt16.toUInt32.toInt32) = _
  rw [e, i2c_mask]
theorem own_latc (y : Int32) : ¬ ((y &&& (255 : Int32)).toUInt32.toUInt16.toUInt32.toInt32) < 0 ∧ ¬ (255 : Int32) < ((y &&& (255 : Int32)).toUInt32.toUInt16.toUInt32.toInt32) := by
  rw [i2c_mask]; exact own_m255 y
theorem own_getlat {cs : List Int32} (h : ∀ c ∈ cs, ¬ c < 0 ∧ ¬ (255 : Int32) < c) {i : Nat} (hi : i < cs.length) : ¬ cs.getD i 0 < 0 ∧ ¬ (255 : Int32) < cs.getD i 0 := by
  have e : cs.getD i 0 = cs[i] := by simp [List.getD_eq_getElem?_getD, hi]
  rw [e]; exact h _ (List.getElem_mem _)
theorem own_ltn {k n : Nat} (hk : k ≤ 4000) (hn : n ≤ 4000) (h : Int32.ofNat k < Int32.ofNat n) : k < n := by
  rw [Int32.lt_iff_toInt_lt, Int32.toInt_ofNat_small (by omega), Int32.toInt_ofNat_small (by omega)] at h
  omega
theorem pn_0 : plainName "java/lang/String" = true := by first | (simp [plainName, overriddenIn]; done) | decide +kernel
theorem ef_rI4 (m : MethodId) (x : Addr) (ca : Addr) : entryFrame m #[(.ref x), (.ref ca), (.int 0), (.int 0), .null] 6 = mkF m 0 #[.val (.ref x), .val (.ref ca), .val (.int 0), .val (.int 0), .val .null, .unset] [] := by first | (simp [entryFrame, mkF, argsToLocals, Value.category]; done) | rfl
theorem d13_0 : Dc jdk_42_method_149_code 0 (.aload_n 0) 1 1 := ⟨by decide +kernel, rfl⟩
theorem d13_1 : Dc jdk_42_method_149_code 1 (.invokespecial 1) 3 4 := ⟨by decide +kernel, rfl⟩
theorem d13_4 : Dc jdk_42_method_149_code 4 (.iload_n 3) 1 5 := ⟨by decide +kernel, rfl⟩
theorem d13_5 : Dj jdk_42_method_149_code 5 (.ifCond .ne 22) 22 3 8 27 := ⟨by decide +kernel, rfl, by decide, by decide⟩
theorem d13_8 : Dc jdk_42_method_149_code 8 (.aload_n 0) 1 9 := ⟨by decide +kernel, rfl⟩
theorem d13_9 : Dc jdk_42_method_149_code 9 (.ldc 7) 2 11 := ⟨by decide +kernel, rfl⟩
theorem d13_11 : Dc jdk_42_method_149_code 11 (.getfield 9) 3 14 := ⟨by decide +kernel, rfl⟩
theorem d13_14 : Dc jdk_42_method_149_code 14 (.putfield 9) 3 17 := ⟨by decide +kernel, rfl⟩
theorem d13_17 : Dc jdk_42_method_149_code 17 (.aload_n 0) 1 18 := ⟨by decide +kernel, rfl⟩
theorem d13_18 : Dc jdk_42_method_149_code 18 (.ldc 7) 2 20 := ⟨by decide +kernel, rfl⟩
theorem d13_20 : Dc jdk_42_method_149_code 20 (.getfield 15) 3 23 := ⟨by decide +kernel, rfl⟩
theorem d13_23 : Dc jdk_42_method_149_code 23 (.putfield 15) 3 26 := ⟨by decide +kernel, rfl⟩
theorem d13_26 : Dc jdk_42_method_149_code 26 (.return_) 1 27 := ⟨by decide +kernel, rfl⟩
theorem rI4 (l : Launch) {Z : State} {a0 : Array Value} (hw : ∀ d ∈ tables_1, d.before a0 Z = true) {h : Heap} (hE : Ext Z.heap h) (x : Addr) (ca : Addr)  (EX : Exa Z h x "java/lang/String") (FC : Fld Z h x "java/lang/String" "coder" "B" (.int (0 : Int32))) (FV : Fld Z h x "java/lang/String" "value" "[B" .null) (hn : Z.heap.size ≤ x) (kc : ClassId) (VC : Arv Z h ca kc .char 0 [] (.int (0 : Int32))) :
    ConL l (⟨"java/lang/String", "<init>", "([CIILjava/lang/Void;)V"⟩ : MethodName) jdk_42_method_149_code 6 none [] ({ frames := 1, cells := 4, slots := 8, locals := 14 } : Room) Z consts_1 [x] #[(.ref x), (.ref ca), (.int 0), (.int 0), .null] h (fun v' h' => v' = none ∧ Keep h h' [x] ∧ Exa Z h' x "java/lang/String" ∧ Fld Z h' x "java/lang/String" "coder" "B" (.int 0) ∧ ∃ (t : Addr) (kb : ClassId), x ≠ t ∧ Fld Z h' x "java/lang/String" "value" "[B" (.ref t) ∧ Arv Z h' t kb .byte 0 [] (.int 0)) := by
  refine con_ofL (plainFor_of_name pn_0) hE (fun m => ef_rI4 m x ca) ?_
  intro p e s m below meth c T0 C X0 I0 hsf
  have C : Cx p (s.setVm s.vm) m meth c Z "java/lang/String" "<init>" jdk_42_method_149_code 6 none := C
  show Goes p e below _ T0 (mkF m 0 #[.val (.ref x), .val (.ref ca), .val (.int 0), .val (.int 0), .val .null, .unset] [])
  refine g_aloadN C X0 d13_0 rfl rfl (g_initO C X0 (wd hw 88 rfl) (wd hw 89 rfl) (wd hw 90 rfl) rfl d13_1 (by decide) 0 (Nat.le_of_eq rfl) (by decide) (fun T1 X1 => ?_))
  refine g_iloadN C X1 d13_4 rfl (g_ifn (h0_ne _) C X1 d13_5 (fun q => absurd (by decide) q) (fun _ => ?_))
  refine g_aloadN C X1 d13_8 rfl rfl (g_ldcs 0 C X1 I0 (own_wS hw) (own_EW hw) (by decide +kernel) (wd hw 112 rfl) (vs := []) (z := 0) ⟨by decide +kernel, by decide +kernel⟩ (by decide) rfl (by decide) (by decide) d13_9 (by decide) (by decide) (fun a2 T2 h2 t2 k_t2 C X2 I2 R2 E2 EA2 FC2 FV2 VA2 N2 => ?_))
  have sf3 := CHr.safe R2 (Exa.lt EX) (hsf _ (by simp))
  have ne4 := N2 _ sf3
  show Goes p e below _ T2 (mkF m 11 #[.val (.ref x), .val (.ref ca), .val (.int 0), .val (.int 0), .val .null, .unset] [(.ref a2), (.ref x)])
  refine g_getfield (host := "") C X2 (Or.inl (wd hw 13 rfl)) Via.refl FV2 d13_11 (fun T5 X5 => ?_)
  have f6 := (Fld.ext E2 FV)
  have f7 := (Exa.ext E2 EX)
  refine g_putfield (host := "") C X5 (Or.inl (wd hw 13 rfl)) Via.refl f6 f7 (Or.inr ⟨(wd hw 4 rfl), rfl, rfl⟩) (wd hw 2 rfl) (ty := (.array .byte)) (by decide) rfl rfl hn d13_14 (fun T8 h8 X8 W8 => ?_)
  have f8 := Fld.same W8 f6
  refine g_aloadN C X8 d13_17 rfl rfl ?_
  have kp9 := (Keep.refl h2 [x]).wr W8 (Or.inl (by simp))
  have I10 := Lits.keep I2 kp9 (sfS sf3 sf0)
  have sf11 := Lits.safe I2 kp9 (sfS sf3 sf0) sf3
  have f12 := (Exa.wr W8 f7)
  refine g_ldcs 0 C X8 I10 (own_wS hw) (own_EW hw) (by decide +kernel) (wd hw 112 rfl) (vs := []) (z := 0) ⟨by decide +kernel, by decide +kernel⟩ (by decide) rfl (by decide) (by decide) d13_18 (by decide) (by decide) (fun a13 T13 h13 t13 k_t13 C X13 I13 R13 E13 EA13 FC13 FV13 VA13 N13 => ?_)
  have sf14 := CHr.safe R13 (Exa.lt f12) sf11
  have ne15 := N13 _ sf14
  show Goes p e below _ T13 (mkF m 20 #[.val (.ref x), .val (.ref ca), .val (.int 0), .val (.int 0), .val .null, .unset] [(.ref a13), (.ref x)])
  refine g_getfield (host := "") C X13 (Or.inl (wd hw 20 rfl)) Via.refl FC13 d13_20 (fun T16 X16 => ?_)
  have f17 := (Fld.ext E13 (Fld.other W8 (Fld.ext E2 FC) (Or.inr (slot_ne (Or.inr (wd hw 5 rfl)) (Or.inr (wd hw 4 rfl)) (by decide) (t := .byte) (t' := (.array .byte)) (by decide) (by decide)))))
  have f18 := (Exa.ext E13 f12)
  refine g_putfield (host := "") C X16 (Or.inl (wd hw 20 rfl)) Via.refl f17 f18 (Or.inr ⟨(wd hw 5 rfl), rfl, rfl⟩) (wd hw 2 rfl) (ty := .byte) (by decide) rfl rfl hn d13_23 (fun T19 h19 X19 W19 => ?_)
  have f19 := Fld.same W19 f17
  have kp20 := (Keep.refl h [x]).ext E2
  have kp21 := kp20.wr W8 (Or.inl (by simp))
  have kp22 := kp21.ext E13
  have kp23 := kp22.wr W19 (Or.inl (by simp))
  have f24 := (Exa.wr W19 f18)
  have f25 := (Fld.other W19 (Fld.ext E13 f8) (Or.inr (slot_ne (Or.inr (wd hw 4 rfl)) (Or.inr (wd hw 5 rfl)) (by decide) (t := (.array .byte)) (t' := .byte) (by decide) (by decide))))
  have f26 := (Arv.other (Arv.ext (Arv.other VA2 W8 (Ne.symm ne4.2)) E13) W19 (Ne.symm ne4.2))
  have kp27 := (Keep.refl h13 [x]).wr W19 (Or.inl (by simp))
  have I28 := Lits.keep I13 kp27 (sfS sf14 sf0)
  have sf29 := Lits.safe I13 kp27 (sfS sf14 sf0) sf14
  exact goes_L I28 (own_EW hw) C.hZ (g_retV C X19 d13_26 (by decide) (by decide) ⟨⟨rfl, kp23, f24, f19, t2, k_t2, ne4.2, f25, f26⟩, rfl⟩)
theorem ef_rI1 (m : MethodId) (x : Addr) (ca : Addr) : entryFrame m #[(.ref x), (.ref ca)] 2 = mkF m 0 #[.val (.ref x), .val (.ref ca)] [] := by first | (simp [entryFrame, mkF, argsToLocals, Value.category]; done) | rfl
theorem d12_0 : Dc jdk_42_method_3_code 0 (.aload_n 0) 1 1 := ⟨by decide +kernel, rfl⟩
theorem d12_1 : Dc jdk_42_method_3_code 1 (.aload_n 1) 1 2 := ⟨by decide +kernel, rfl⟩
theorem d12_2 : Dc jdk_42_method_3_code 2 (.iconst 0) 1 3 := ⟨by decide +kernel, rfl⟩
theorem d12_3 : Dc jdk_42_method_3_code 3 (.aload_n 1) 1 4 := ⟨by decide +kernel, rfl⟩
theorem d12_4 : Dc jdk_42_method_3_code 4 (.arraylength) 1 5 := ⟨by decide +kernel, rfl⟩
theorem d12_5 : Dc jdk_42_method_3_code 5 (.aconst_null) 1 6 := ⟨by decide +kernel, rfl⟩
theorem d12_6 : Dc jdk_42_method_3_code 6 (.invokespecial 27) 3 9 := ⟨by decide +kernel, rfl⟩
theorem pd_0 : parseMethodDescriptor "([CIILjava/lang/Void;)V" = some ⟨[(.array .char), .int, .int, (.object "java/lang/Void")], none⟩ := by decide +kernel
theorem d12_9 : Dc jdk_42_method_3_code 9 (.return_) 1 10 := ⟨by decide +kernel, rfl⟩
theorem rI1 (l : Launch) {Z : State} {a0 : Array Value} (hw : ∀ d ∈ tables_1, d.before a0 Z = true) {h : Heap} (hE : Ext Z.heap h) (x : Addr) (ca : Addr)  (EX : Exa Z h x "java/lang/String") (FC : Fld Z h x "java/lang/String" "coder" "B" (.int (0 : Int32))) (FV : Fld Z h x "java/lang/String" "value" "[B" .null) (hn : Z.heap.size ≤ x) (kc : ClassId) (VC : Arv Z h ca kc .char 0 [] (.int (0 : Int32))) :
    ConL l (⟨"java/lang/String", "<init>", "([C)V"⟩ : MethodName) jdk_42_method_3_code 2 none [] ({ frames := 2, cells := 4, slots := 8, locals := 36 } : Room) Z consts_1 [x] #[(.ref x), (.ref ca)] h (fun v' h' => v' = none ∧ Keep h h' [x] ∧ Exa Z h' x "java/lang/String" ∧ Fld Z h' x "java/lang/String" "coder" "B" (.int 0) ∧ ∃ (t : Addr) (kb : ClassId), x ≠ t ∧ Fld Z h' x "java/lang/String" "value" "[B" (.ref t) ∧ Arv Z h' t kb .byte 0 [] (.int 0)) := by
  refine con_ofL (plainFor_of_name pn_0) hE (fun m => ef_rI1 m x ca) ?_
  intro p e s m below meth c T0 C X0 I0 hsf
  have C : Cx p (s.setVm s.vm) m meth c Z "java/lang/String" "<init>" jdk_42_method_3_code 2 none := C
  show Goes p e below _ T0 (mkF m 0 #[.val (.ref x), .val (.ref ca)] [])
  refine g_aloadN C X0 d12_0 rfl rfl (g_aloadN C X0 d12_1 rfl rfl (g_iconst 0 C X0 d12_2 rfl (g_aloadN C X0 d12_3 rfl rfl (g_arraylength C X0 VC d12_4 (g_aconst_null C X0 d12_5 (g_specialL (argsL := [(.ref ca), (.int 0), (.int 0), .null]) (st := []) C X0 I0 rfl (wd hw 84 rfl) (wd hw 85 rfl) (wd hw 87 rfl) (by decide) (payL_of (W' := 0) (rI4 l hw X0.ext x ca EX FC FV hn kc VC) C.hZ (wd hw 87 rfl) (wd hw 1 rfl) (by decide) (by decide) (own_EW hw) I0 (List.forall_mem_cons.mpr ⟨⟨(Exa.lt EX), (hsf _ (by simp))⟩, fun _ q => nomatch q⟩)) pd_0 rfl rfl _ rfl (Nat.le_of_eq rfl) d12_6 (by decide) (by decide) (fun T30 h30 v30 q30 C X30 I30 R30 => ?_)))))))
  obtain ⟨rfl, K30, A30⟩ := q30
  have sf31 := CHr.safe R30 (Exa.lt EX) (hsf _ (by simp))
  show Goes p e below _ T30 (mkF m 9 #[.val (.ref x), .val (.ref ca)] [])
  exact goes_L I30 (own_EW hw) C.hZ (g_retV C X30 d12_9 (by decide) (by decide) ⟨⟨rfl, K30, A30⟩, rfl⟩)
theorem own_words {Z : State} {a0 : Array Value} (hw : ∀ d ∈ tables_1, d.before a0 Z = true) : ∀ d ∈ StrChars.Road.words, d.before a0 Z = true := fun d hd => hw d ((show ∀ d ∈ StrChars.Road.words, d ∈ tables_1 by decide +kernel) d hd)
theorem own_wordsEq {Z : State} {a0 : Array Value} (hw : ∀ d ∈ tables_1, d.before a0 Z = true) : ∀ d ∈ StrChars.Road.wordsEq, d.before a0 Z = true := fun d hd => hw d ((show ∀ d ∈ StrChars.Road.wordsEq, d ∈ tables_1 by decide +kernel) d hd)
theorem own_wordsLen {Z : State} {a0 : Array Value} (hw : ∀ d ∈ tables_1, d.before a0 Z = true) : ∀ d ∈ StrChars.Road.wordsLen, d.before a0 Z = true := fun d hd => hw d ((show ∀ d ∈ StrChars.Road.wordsLen, d ∈ tables_1 by decide +kernel) d hd)
theorem own_wordsChN {Z : State} {a0 : Array Value} (hw : ∀ d ∈ tables_1, d.before a0 Z = true) : ∀ d ∈ StrChars.Road.wordsChN, d.before a0 Z = true := fun d hd => hw d ((show ∀ d ∈ StrChars.Road.wordsChN, d ∈ tables_1 by decide +kernel) d hd)
theorem ef_rEqN (m : MethodId) (a : Addr) : entryFrame m #[(.ref a), .null] 3 = mkF m 0 #[.val (.ref a), .val .null, .unset] [] := by first | (simp [entryFrame, mkF, argsToLocals, Value.category]; done) | rfl
theorem d11_0 : Dc jdk_42_method_66_code 0 (.aload_n 0) 1 1 := ⟨by decide +kernel, rfl⟩
theorem d11_1 : Dc jdk_42_method_66_code 1 (.aload_n 1) 1 2 := ⟨by decide +kernel, rfl⟩
theorem d11_2 : Dj jdk_42_method_66_code 2 (.if_acmp .ne 5) 5 3 5 7 := ⟨by decide +kernel, rfl, by decide, by decide⟩
theorem d11_7 : Dc jdk_42_method_66_code 7 (.aload_n 1) 1 8 := ⟨by decide +kernel, rfl⟩
theorem d11_8 : Dc jdk_42_method_66_code 8 (.instanceof 10) 3 11 := ⟨by decide +kernel, rfl⟩
theorem d11_11 : Dj jdk_42_method_66_code 11 (.ifCond .eq 43) 43 3 14 54 := ⟨by decide +kernel, rfl, by decide, by decide⟩
theorem d11_54 : Dc jdk_42_method_66_code 54 (.iconst 0) 1 55 := ⟨by decide +kernel, rfl⟩
theorem d11_55 : Dc jdk_42_method_66_code 55 (.ireturn) 1 56 := ⟨by decide +kernel, rfl⟩
theorem rEqN (l : Launch) {Z : State} {a0 : Array Value} (hw : ∀ d ∈ tables_1, d.before a0 Z = true) {h : Heap} (hE : Ext Z.heap h) (a : Addr)   :
    Con l (⟨"java/lang/String", "equals", "(Ljava/lang/Object;)Z"⟩ : MethodName) jdk_42_method_66_code 3 (some .boolean) [] ({ frames := 0, cells := 0, slots := 0, locals := 0 } : Room) Z #[(.ref a), .null] h (fun v' h' => v' = some (.int 0) ∧ h' = h) := by
  refine con_of (plainFor_of_name pn_0) hE (fun m => ef_rEqN m a) ?_
  intro p e s m below meth c T0 C X0
  have C : Cx p s m meth c Z "java/lang/String" "equals" jdk_42_method_66_code 3 (some .boolean) := C
  show Goes p e below _ T0 (mkF m 0 #[.val (.ref a), .val .null, .unset] [])
  refine g_aloadN C X0 d11_0 rfl rfl (g_aloadN C X0 d11_1 rfl rfl (g_acmpne C X0 d11_2 rfl rfl (fun _ => ?_) (fun q => absurd q nofun)))
  refine g_aloadN C X0 d11_7 rfl rfl (g_instanceN C X0 d11_8 (g_if (h0_eq _) C X0 d11_11 (fun _ => ?_) (fun q => absurd (by decide) q)))
  refine g_iconst 0 C X0 d11_54 rfl ?_
  exact g_retN C X0 (by simp) d11_55 (0 : Int32) rfl (by decide) (by decide) ⟨rfl, rfl⟩
theorem own_n10 (x : Int32) : ((x &&& (2147483647 : Int32)) % (10 : Int32)) = (0 : Int32) ∨ ((x &&& (2147483647 : Int32)) % (10 : Int32)) = (1 : Int32) ∨ ((x &&& (2147483647 : Int32)) % (10 : Int32)) = (2 : Int32) ∨ ((x &&& (2147483647 : Int32)) % (10 : Int32)) = (3 : Int32) ∨ ((x &&& (2147483647 : Int32)) % (10 : Int32)) = (4 : Int32) ∨ ((x &&& (2147483647 : Int32)) % (10 : Int32)) = (5 : Int32) ∨ ((x &&& (2147483647 : Int32)) % (10 : Int32)) = (6 : Int32) ∨ ((x &&& (2147483647 : Int32)) % (10 : Int32)) = (7 : Int32) ∨ ((x &&& (2147483647 : Int32)) % (10 : Int32)) = (8 : Int32) ∨ ((x &&& (2147483647 : Int32)) % (10 : Int32)) = (9 : Int32) := by
  have h1 := c_mask x 2147483647 31 (by decide) (by decide)
  have h2 := (c_irem (x &&& 2147483647) 10 10 (by decide)).1 (by rw [h1]; omega)
  simp only [← Int32.toInt_inj, Int32.reduceToInt] at *
  omega
def own_c1 (s : Slot) : Prop := s = .unset ∨ ∃ a : Addr, s = .val (.ref a)
theorem pn_1 : plainName "com/example/indie_lease/indielease/model/LicenseStatusOfCodePinLaw" = true := by first | (simp [plainName, overriddenIn]; done) | decide +kernel
theorem ef_rpk0 (m : MethodId) (bs : Addr) (n : Int32) (rp : Int32) (pp : Int32) (ch : Int32) : entryFrame m #[(.ref bs), (.int n), (.int 0), (.int rp), (.int pp), (.int ch)] 6 = mkF m 0 #[.val (.ref bs), .val (.int n), .val (.int 0), .val (.int rp), .val (.int pp), .val (.int ch)] [] := by first | (simp [entryFrame, mkF, argsToLocals, Value.category]; done) | rfl
theorem d3_0 : Dc method_2_code 0 (.iload_n 3) 1 1 := ⟨by decide +kernel, rfl⟩
theorem d3_1 : Dj method_2_code 1 (.ifCond .eq 12) 12 3 4 13 := ⟨by decide +kernel, rfl, by decide, by decide⟩
theorem d3_13 : Dc method_2_code 13 (.iload_n 2) 1 14 := ⟨by decide +kernel, rfl⟩
theorem d3_14 : Dc method_2_code 14 (.iload_n 1) 1 15 := ⟨by decide +kernel, rfl⟩
theorem d3_15 : Dj method_2_code 15 (.if_icmp .ge 9) 9 3 18 24 := ⟨by decide +kernel, rfl, by decide, by decide⟩
theorem d3_24 : Dc method_2_code 24 (.iload 5) 2 26 := ⟨by decide +kernel, rfl⟩
theorem d3_26 : Dc method_2_code 26 (.ireturn) 1 27 := ⟨by decide +kernel, rfl⟩
theorem d3_18 : Dc method_2_code 18 (.aload_n 0) 1 19 := ⟨by decide +kernel, rfl⟩
theorem d3_19 : Dc method_2_code 19 (.iload_n 2) 1 20 := ⟨by decide +kernel, rfl⟩
theorem d3_20 : Dc method_2_code 20 (.invokevirtual 7) 3 23 := ⟨by decide +kernel, rfl⟩
theorem pd_1 : parseMethodDescriptor "(I)C" = some ⟨[.int], some .char⟩ := by decide +kernel
theorem d3_23 : Dc method_2_code 23 (.ireturn) 1 24 := ⟨by decide +kernel, rfl⟩
theorem d3_4 : Dc method_2_code 4 (.iload_n 2) 1 5 := ⟨by decide +kernel, rfl⟩
theorem d3_5 : Dc method_2_code 5 (.iload 4) 2 7 := ⟨by decide +kernel, rfl⟩
theorem d3_7 : Dj method_2_code 7 (.if_icmp .ne 6) 6 3 10 13 := ⟨by decide +kernel, rfl, by decide, by decide⟩
theorem d3_10 : Dc method_2_code 10 (.iload 5) 2 12 := ⟨by decide +kernel, rfl⟩
theorem d3_12 : Dc method_2_code 12 (.ireturn) 1 13 := ⟨by decide +kernel, rfl⟩
theorem rpk0 (l : Launch) {Z : State} {a0 : Array Value} (hw : ∀ d ∈ tables_1, d.before a0 Z = true) {h : Heap} (hE : Ext Z.heap h) (bs : Addr) (n : Int32) (rp : Int32) (pp : Int32) (ch : Int32) (z_ : Int32) (SZ : Sta Z Z.heap "java/lang/String" "COMPACT_STRINGS" "Z" (.int z_)) (hz : ¬ z_ = 0) (fm_ : Value) (SF : Sta Z Z.heap "jdk/internal/util/Preconditions" "SIOOBE_FORMATTER" "Ljava/util/function/BiFunction;" fm_) (rf_ : fm_.isRef = true) (bt : Addr) (bk : ClassId) (bN : Int32) (bv : List Value) (bc : List Int32) (bEX : Exa Z h bs "java/lang/String") (bFC : Fld Z h bs "java/lang/String" "coder" "B" (.int (0 : Int32))) (bFV : Fld Z h bs "java/lang/String" "value" "[B" (.ref bt)) (bVT : Arv Z h bt bk .byte bN bv (.int (0 : Int32))) (bhc : StrChars.Road.CodA bc 0 bN bv) (bhs : ∀ c ∈ bc, ¬ c < 0 ∧ ¬ (255 : Int32) < c) (bhl : bc.length ≤ 4000) (hn : Int32.ofNat bc.length = n) (hc : ¬ ch < 0 ∧ ¬ (255 : Int32) < ch) :
    Con l (⟨"com/example/indie_lease/indielease/model/LicenseStatusOfCodePinLaw", "pick", "(Ljava/lang/String;IIZIC)C"⟩ : MethodName) method_2_code 6 (some .char) [] ({ frames := 5, cells := 0, slots := 0, locals := 80 } : Room) Z #[(.ref bs), (.int n), (.int 0), (.int rp), (.int pp), (.int ch)] h (fun v' h' => ∃ x : Int32, v' = some (.int x) ∧ (¬ x < 0 ∧ ¬ (255 : Int32) < x) ∧ h' = h) := by
  refine con_of (plainFor_of_name pn_1) hE (fun m => ef_rpk0 m bs n rp pp ch) ?_
  intro p e s m below meth c T0 C X0
  have C : Cx p s m meth c Z "com/example/indie_lease/indielease/model/LicenseStatusOfCodePinLaw" "pick" method_2_code 6 (some .char) := C
  show Goes p e below _ T0 (mkF m 0 #[.val (.ref bs), .val (.int n), .val (.int 0), .val (.int rp), .val (.int pp), .val (.int ch)] [])
  refine g_iloadN C X0 d3_0 rfl (g_if (h0_eq _) C X0 d3_1 (fun c1_32 => ?_) (fun c1_32 => ?_))
  · refine g_iloadN C X0 d3_13 rfl (g_iloadN C X0 d3_14 rfl (g_icmpn (hI_ge _ _) C X0 d3_15 (fun c15_33 => ?_) (fun c15_33 => ?_)))
    · refine g_iload C X0 d3_24 rfl ?_
      exact g_retN C X0 (by simp) d3_26 _ rfl (by decide) (by decide) ⟨ch, congrArg some (own_nar hc), hc, rfl⟩
    · refine g_aloadN C X0 d3_18 rfl rfl (g_iloadN C X0 d3_19 rfl (g_virtualP (argsL := [(.int 0)]) (st := []) C X0 (wd hw 27 rfl) (wd hw 28 rfl) (nf_of C (wd hw 30 rfl) rfl rfl) (wd hw 30 rfl) (wd hw 29 rfl) (by decide) bEX (payCh (W' := 0) C.hZ X0.ext (own_wordsChN hw) (kI := 4) (wd hw 2 rfl) (cs := bc) bEX bFV bFC bVT bhc bhs bhl SZ hz SF rf_ (by decide) (by decide) (i := 0) (own_ltn (k := 0) (by decide) bhl (by rw [hn]; exact c15_33)) rfl (bc.getD 0 0) rfl) pd_1 rfl rfl _ rfl (Nat.le_of_eq rfl) d3_20 (by decide) (by decide) (fun T34 X34 => ?_)))
      exact g_retN C X34 (by simp) d3_23 _ rfl (by decide) (by decide) ⟨_, congrArg some (own_nar (own_getlat bhs (own_ltn (k := 0) (by decide) bhl (by rw [hn]; exact c15_33)))), (own_getlat bhs (own_ltn (k := 0) (by decide) bhl (by rw [hn]; exact c15_33))), rfl⟩
  · refine g_iloadN C X0 d3_4 rfl (g_iload C X0 d3_5 rfl (g_icmpn (hI_ne _ _) C X0 d3_7 (fun c7_35 => ?_) (fun c7_35 => ?_)))
    · refine g_iloadN C X0 d3_13 rfl (g_iloadN C X0 d3_14 rfl (g_icmpn (hI_ge _ _) C X0 d3_15 (fun c15_36 => ?_) (fun c15_36 => ?_)))
      · refine g_iload C X0 d3_24 rfl ?_
        exact g_retN C X0 (by simp) d3_26 _ rfl (by decide) (by decide) ⟨ch, congrArg some (own_nar hc), hc, rfl⟩
      · refine g_aloadN C X0 d3_18 rfl rfl (g_iloadN C X0 d3_19 rfl (g_virtualP (argsL := [(.int 0)]) (st := []) C X0 (wd hw 27 rfl) (wd hw 28 rfl) (nf_of C (wd hw 30 rfl) rfl rfl) (wd hw 30 rfl) (wd hw 29 rfl) (by decide) bEX (payCh (W' := 0) C.hZ X0.ext (own_wordsChN hw) (kI := 4) (wd hw 2 rfl) (cs := bc) bEX bFV bFC bVT bhc bhs bhl SZ hz SF rf_ (by decide) (by decide) (i := 0) (own_ltn (k := 0) (by decide) bhl (by rw [hn]; exact c15_36)) rfl (bc.getD 0 0) rfl) pd_1 rfl rfl _ rfl (Nat.le_of_eq rfl) d3_20 (by decide) (by decide) (fun T37 X37 => ?_)))
        exact g_retN C X37 (by simp) d3_23 _ rfl (by decide) (by decide) ⟨_, congrArg some (own_nar (own_getlat bhs (own_ltn (k := 0) (by decide) bhl (by rw [hn]; exact c15_36)))), (own_getlat bhs (own_ltn (k := 0) (by decide) bhl (by rw [hn]; exact c15_36))), rfl⟩
    · refine g_iload C X0 d3_10 rfl ?_
      exact g_retN C X0 (by simp) d3_12 _ rfl (by decide) (by decide) ⟨ch, congrArg some (own_nar hc), hc, rfl⟩
theorem ef_rpk1 (m : MethodId) (bs : Addr) (n : Int32) (rp : Int32) (pp : Int32) (ch : Int32) : entryFrame m #[(.ref bs), (.int n), (.int 1), (.int rp), (.int pp), (.int ch)] 6 = mkF m 0 #[.val (.ref bs), .val (.int n), .val (.int 1), .val (.int rp), .val (.int pp), .val (.int ch)] [] := by first | (simp [entryFrame, mkF, argsToLocals, Value.category]; done) | rfl
theorem rpk1 (l : Launch) {Z : State} {a0 : Array Value} (hw : ∀ d ∈ tables_1, d.before a0 Z = true) {h : Heap} (hE : Ext Z.heap h) (bs : Addr) (n : Int32) (rp : Int32) (pp : Int32) (ch : Int32) (z_ : Int32) (SZ : Sta Z Z.heap "java/lang/String" "COMPACT_STRINGS" "Z" (.int z_)) (hz : ¬ z_ = 0) (fm_ : Value) (SF : Sta Z Z.heap "jdk/internal/util/Preconditions" "SIOOBE_FORMATTER" "Ljava/util/function/BiFunction;" fm_) (rf_ : fm_.isRef = true) (bt : Addr) (bk : ClassId) (bN : Int32) (bv : List Value) (bc : List Int32) (bEX : Exa Z h bs "java/lang/String") (bFC : Fld Z h bs "java/lang/String" "coder" "B" (.int (0 : Int32))) (bFV : Fld Z h bs "java/lang/String" "value" "[B" (.ref bt)) (bVT : Arv Z h bt bk .byte bN bv (.int (0 : Int32))) (bhc : StrChars.Road.CodA bc 0 bN bv) (bhs : ∀ c ∈ bc, ¬ c < 0 ∧ ¬ (255 : Int32) < c) (bhl : bc.length ≤ 4000) (hn : Int32.ofNat bc.length = n) (hc : ¬ ch < 0 ∧ ¬ (255 : Int32) < ch) :
    Con l (⟨"com/example/indie_lease/indielease/model/LicenseStatusOfCodePinLaw", "pick", "(Ljava/lang/String;IIZIC)C"⟩ : MethodName) method_2_code 6 (some .char) [] ({ frames := 5, cells := 0, slots := 0, locals := 80 } : Room) Z #[(.ref bs), (.int n), (.int 1), (.int rp), (.int pp), (.int ch)] h (fun v' h' => ∃ x : Int32, v' = some (.int x) ∧ (¬ x < 0 ∧ ¬ (255 : Int32) < x) ∧ h' = h) := by
  refine con_of (plainFor_of_name pn_1) hE (fun m => ef_rpk1 m bs n rp pp ch) ?_
  intro p e s m below meth c T0 C X0
  have C : Cx p s m meth c Z "com/example/indie_lease/indielease/model/LicenseStatusOfCodePinLaw" "pick" method_2_code 6 (some .char) := C
  show Goes p e below _ T0 (mkF m 0 #[.val (.ref bs), .val (.int n), .val (.int 1), .val (.int rp), .val (.int pp), .val (.int ch)] [])
  refine g_iloadN C X0 d3_0 rfl (g_if (h0_eq _) C X0 d3_1 (fun c1_38 => ?_) (fun c1_38 => ?_))
  · refine g_iloadN C X0 d3_13 rfl (g_iloadN C X0 d3_14 rfl (g_icmpn (hI_ge _ _) C X0 d3_15 (fun c15_39 => ?_) (fun c15_39 => ?_)))
    · refine g_iload C X0 d3_24 rfl ?_
      exact g_retN C X0 (by simp) d3_26 _ rfl (by decide) (by decide) ⟨ch, congrArg some (own_nar hc), hc, rfl⟩
    · refine g_aloadN C X0 d3_18 rfl rfl (g_iloadN C X0 d3_19 rfl (g_virtualP (argsL := [(.int 1)]) (st := []) C X0 (wd hw 27 rfl) (wd hw 28 rfl) (nf_of C (wd hw 30 rfl) rfl rfl) (wd hw 30 rfl) (wd hw 29 rfl) (by decide) bEX (payCh (W' := 0) C.hZ X0.ext (own_wordsChN hw) (kI := 4) (wd hw 2 rfl) (cs := bc) bEX bFV bFC bVT bhc bhs bhl SZ hz SF rf_ (by decide) (by decide) (i := 1) (own_ltn (k := 1) (by decide) bhl (by rw [hn]; exact c15_39)) rfl (bc.getD 1 0) rfl) pd_1 rfl rfl _ rfl (Nat.le_of_eq rfl) d3_20 (by decide) (by decide) (fun T40 X40 => ?_)))
      exact g_retN C X40 (by simp) d3_23 _ rfl (by decide) (by decide) ⟨_, congrArg some (own_nar (own_getlat bhs (own_ltn (k := 1) (by decide) bhl (by rw [hn]; exact c15_39)))), (own_getlat bhs (own_ltn (k := 1) (by decide) bhl (by rw [hn]; exact c15_39))), rfl⟩
  · refine g_iloadN C X0 d3_4 rfl (g_iload C X0 d3_5 rfl (g_icmpn (hI_ne _ _) C X0 d3_7 (fun c7_41 => ?_) (fun c7_41 => ?_)))
    · refine g_iloadN C X0 d3_13 rfl (g_iloadN C X0 d3_14 rfl (g_icmpn (hI_ge _ _) C X0 d3_15 (fun c15_42 => ?_) (fun c15_42 => ?_)))
      · refine g_iload C X0 d3_24 rfl ?_
        exact g_retN C X0 (by simp) d3_26 _ rfl (by decide) (by decide) ⟨ch, congrArg some (own_nar hc), hc, rfl⟩
      · refine g_aloadN C X0 d3_18 rfl rfl (g_iloadN C X0 d3_19 rfl (g_virtualP (argsL := [(.int 1)]) (st := []) C X0 (wd hw 27 rfl) (wd hw 28 rfl) (nf_of C (wd hw 30 rfl) rfl rfl) (wd hw 30 rfl) (wd hw 29 rfl) (by decide) bEX (payCh (W' := 0) C.hZ X0.ext (own_wordsChN hw) (kI := 4) (wd hw 2 rfl) (cs := bc) bEX bFV bFC bVT bhc bhs bhl SZ hz SF rf_ (by decide) (by decide) (i := 1) (own_ltn (k := 1) (by decide) bhl (by rw [hn]; exact c15_42)) rfl (bc.getD 1 0) rfl) pd_1 rfl rfl _ rfl (Nat.le_of_eq rfl) d3_20 (by decide) (by decide) (fun T43 X43 => ?_)))
        exact g_retN C X43 (by simp) d3_23 _ rfl (by decide) (by decide) ⟨_, congrArg some (own_nar (own_getlat bhs (own_ltn (k := 1) (by decide) bhl (by rw [hn]; exact c15_42)))), (own_getlat bhs (own_ltn (k := 1) (by decide) bhl (by rw [hn]; exact c15_42))), rfl⟩
    · refine g_iload C X0 d3_10 rfl ?_
      exact g_retN C X0 (by simp) d3_12 _ rfl (by decide) (by decide) ⟨ch, congrArg some (own_nar hc), hc, rfl⟩
theorem ef_rpk2 (m : MethodId) (bs : Addr) (n : Int32) (rp : Int32) (pp : Int32) (ch : Int32) : entryFrame m #[(.ref bs), (.int n), (.int 2), (.int rp), (.int pp), (.int ch)] 6 = mkF m 0 #[.val (.ref bs), .val (.int n), .val (.int 2), .val (.int rp), .val (.int pp), .val (.int ch)] [] := by first | (simp [entryFrame, mkF, argsToLocals, Value.category]; done) | rfl
theorem rpk2 (l : Launch) {Z : State} {a0 : Array Value} (hw : ∀ d ∈ tables_1, d.before a0 Z = true) {h : Heap} (hE : Ext Z.heap h) (bs : Addr) (n : Int32) (rp : Int32) (pp : Int32) (ch : Int32) (z_ : Int32) (SZ : Sta Z Z.heap "java/lang/String" "COMPACT_STRINGS" "Z" (.int z_)) (hz : ¬ z_ = 0) (fm_ : Value) (SF : Sta Z Z.heap "jdk/internal/util/Preconditions" "SIOOBE_FORMATTER" "Ljava/util/function/BiFunction;" fm_) (rf_ : fm_.isRef = true) (bt : Addr) (bk : ClassId) (bN : Int32) (bv : List Value) (bc : List Int32) (bEX : Exa Z h bs "java/lang/String") (bFC : Fld Z h bs "java/lang/String" "coder" "B" (.int (0 : Int32))) (bFV : Fld Z h bs "java/lang/String" "value" "[B" (.ref bt)) (bVT : Arv Z h bt bk .byte bN bv (.int (0 : Int32))) (bhc : StrChars.Road.CodA bc 0 bN bv) (bhs : ∀ c ∈ bc, ¬ c < 0 ∧ ¬ (255 : Int32) < c) (bhl : bc.length ≤ 4000) (hn : Int32.ofNat bc.length = n) (hc : ¬ ch < 0 ∧ ¬ (255 : Int32) < ch) :
    Con l (⟨"com/example/indie_lease/indielease/model/LicenseStatusOfCodePinLaw", "pick", "(Ljava/lang/String;IIZIC)C"⟩ : MethodName) method_2_code 6 (some .char) [] ({ frames := 5, cells := 0, slots := 0, locals := 80 } : Room) Z #[(.ref bs), (.int n), (.int 2), (.int rp), (.int pp), (.int ch)] h (fun v' h' => ∃ x : Int32, v' = some (.int x) ∧ (¬ x < 0 ∧ ¬ (255 : Int32) < x) ∧ h' = h) := by
  refine con_of (plainFor_of_name pn_1) hE (fun m => ef_rpk2 m bs n rp pp ch) ?_
  intro p e s m below meth c T0 C X0
  have C : Cx p s m meth c Z "com/example/indie_lease/indielease/model/LicenseStatusOfCodePinLaw" "pick" method_2_code 6 (some .char) := C
  show Goes p e below _ T0 (mkF m 0 #[.val (.ref bs), .val (.int n), .val (.int 2), .val (.int rp), .val (.int pp), .val (.int ch)] [])
  refine g_iloadN C X0 d3_0 rfl (g_if (h0_eq _) C X0 d3_1 (fun c1_44 => ?_) (fun c1_44 => ?_))
  · refine g_iloadN C X0 d3_13 rfl (g_iloadN C X0 d3_14 rfl (g_icmpn (hI_ge _ _) C X0 d3_15 (fun c15_45 => ?_) (fun c15_45 => ?_)))
    · refine g_iload C X0 d3_24 rfl ?_
      exact g_retN C X0 (by simp) d3_26 _ rfl (by decide) (by decide) ⟨ch, congrArg some (own_nar hc), hc, rfl⟩
    · refine g_aloadN C X0 d3_18 rfl rfl (g_iloadN C X0 d3_19 rfl (g_virtualP (argsL := [(.int 2)]) (st := []) C X0 (wd hw 27 rfl) (wd hw 28 rfl) (nf_of C (wd hw 30 rfl) rfl rfl) (wd hw 30 rfl) (wd hw 29 rfl) (by decide) bEX (payCh (W' := 0) C.hZ X0.ext (own_wordsChN hw) (kI := 4) (wd hw 2 rfl) (cs := bc) bEX bFV bFC bVT bhc bhs bhl SZ hz SF rf_ (by decide) (by decide) (i := 2) (own_ltn (k := 2) (by decide) bhl (by rw [hn]; exact c15_45)) rfl (bc.getD 2 0) rfl) pd_1 rfl rfl _ rfl (Nat.le_of_eq rfl) d3_20 (by decide) (by decide) (fun T46 X46 => ?_)))
      exact g_retN C X46 (by simp) d3_23 _ rfl (by decide) (by decide) ⟨_, congrArg some (own_nar (own_getlat bhs (own_ltn (k := 2) (by decide) bhl (by rw [hn]; exact c15_45)))), (own_getlat bhs (own_ltn (k := 2) (by decide) bhl (by rw [hn]; exact c15_45))), rfl⟩
  · refine g_iloadN C X0 d3_4 rfl (g_iload C X0 d3_5 rfl (g_icmpn (hI_ne _ _) C X0 d3_7 (fun c7_47 => ?_) (fun c7_47 => ?_)))
    · refine g_iloadN C X0 d3_13 rfl (g_iloadN C X0 d3_14 rfl (g_icmpn (hI_ge _ _) C X0 d3_15 (fun c15_48 => ?_) (fun c15_48 => ?_)))
      · refine g_iload C X0 d3_24 rfl ?_
        exact g_retN C X0 (by simp) d3_26 _ rfl (by decide) (by decide) ⟨ch, congrArg some (own_nar hc), hc, rfl⟩
      · refine g_aloadN C X0 d3_18 rfl rfl (g_iloadN C X0 d3_19 rfl (g_virtualP (argsL := [(.int 2)]) (st := []) C X0 (wd hw 27 rfl) (wd hw 28 rfl) (nf_of C (wd hw 30 rfl) rfl rfl) (wd hw 30 rfl) (wd hw 29 rfl) (by decide) bEX (payCh (W' := 0) C.hZ X0.ext (own_wordsChN hw) (kI := 4) (wd hw 2 rfl) (cs := bc) bEX bFV bFC bVT bhc bhs bhl SZ hz SF rf_ (by decide) (by decide) (i := 2) (own_ltn (k := 2) (by decide) bhl (by rw [hn]; exact c15_48)) rfl (bc.getD 2 0) rfl) pd_1 rfl rfl _ rfl (Nat.le_of_eq rfl) d3_20 (by decide) (by decide) (fun T49 X49 => ?_)))
        exact g_retN C X49 (by simp) d3_23 _ rfl (by decide) (by decide) ⟨_, congrArg some (own_nar (own_getlat bhs (own_ltn (k := 2) (by decide) bhl (by rw [hn]; exact c15_48)))), (own_getlat bhs (own_ltn (k := 2) (by decide) bhl (by rw [hn]; exact c15_48))), rfl⟩
    · refine g_iload C X0 d3_10 rfl ?_
      exact g_retN C X0 (by simp) d3_12 _ rfl (by decide) (by decide) ⟨ch, congrArg some (own_nar hc), hc, rfl⟩
theorem ef_rpk3 (m : MethodId) (bs : Addr) (n : Int32) (rp : Int32) (pp : Int32) (ch : Int32) : entryFrame m #[(.ref bs), (.int n), (.int 3), (.int rp), (.int pp), (.int ch)] 6 = mkF m 0 #[.val (.ref bs), .val (.int n), .val (.int 3), .val (.int rp), .val (.int pp), .val (.int ch)] [] := by first | (simp [entryFrame, mkF, argsToLocals, Value.category]; done) | rfl
theorem rpk3 (l : Launch) {Z : State} {a0 : Array Value} (hw : ∀ d ∈ tables_1, d.before a0 Z = true) {h : Heap} (hE : Ext Z.heap h) (bs : Addr) (n : Int32) (rp : Int32) (pp : Int32) (ch : Int32) (z_ : Int32) (SZ : Sta Z Z.heap "java/lang/String" "COMPACT_STRINGS" "Z" (.int z_)) (hz : ¬ z_ = 0) (fm_ : Value) (SF : Sta Z Z.heap "jdk/internal/util/Preconditions" "SIOOBE_FORMATTER" "Ljava/util/function/BiFunction;" fm_) (rf_ : fm_.isRef = true) (bt : Addr) (bk : ClassId) (bN : Int32) (bv : List Value) (bc : List Int32) (bEX : Exa Z h bs "java/lang/String") (bFC : Fld Z h bs "java/lang/String" "coder" "B" (.int (0 : Int32))) (bFV : Fld Z h bs "java/lang/String" "value" "[B" (.ref bt)) (bVT : Arv Z h bt bk .byte bN bv (.int (0 : Int32))) (bhc : StrChars.Road.CodA bc 0 bN bv) (bhs : ∀ c ∈ bc, ¬ c < 0 ∧ ¬ (255 : Int32) < c) (bhl : bc.length ≤ 4000) (hn : Int32.ofNat bc.length = n) (hc : ¬ ch < 0 ∧ ¬ (255 : Int32) < ch) :
    Con l (⟨"com/example/indie_lease/indielease/model/LicenseStatusOfCodePinLaw", "pick", "(Ljava/lang/String;IIZIC)C"⟩ : MethodName) method_2_code 6 (some .char) [] ({ frames := 5, cells := 0, slots := 0, locals := 80 } : Room) Z #[(.ref bs), (.int n), (.int 3), (.int rp), (.int pp), (.int ch)] h (fun v' h' => ∃ x : Int32, v' = some (.int x) ∧ (¬ x < 0 ∧ ¬ (255 : Int32) < x) ∧ h' = h) := by
  refine con_of (plainFor_of_name pn_1) hE (fun m => ef_rpk3 m bs n rp pp ch) ?_
  intro p e s m below meth c T0 C X0
  have C : Cx p s m meth c Z "com/example/indie_lease/indielease/model/LicenseStatusOfCodePinLaw" "pick" method_2_code 6 (some .char) := C
  show Goes p e below _ T0 (mkF m 0 #[.val (.ref bs), .val (.int n), .val (.int 3), .val (.int rp), .val (.int pp), .val (.int ch)] [])
  refine g_iloadN C X0 d3_0 rfl (g_if (h0_eq _) C X0 d3_1 (fun c1_50 => ?_) (fun c1_50 => ?_))
  · refine g_iloadN C X0 d3_13 rfl (g_iloadN C X0 d3_14 rfl (g_icmpn (hI_ge _ _) C X0 d3_15 (fun c15_51 => ?_) (fun c15_51 => ?_)))
    · refine g_iload C X0 d3_24 rfl ?_
      exact g_retN C X0 (by simp) d3_26 _ rfl (by decide) (by decide) ⟨ch, congrArg some (own_nar hc), hc, rfl⟩
    · refine g_aloadN C X0 d3_18 rfl rfl (g_iloadN C X0 d3_19 rfl (g_virtualP (argsL := [(.int 3)]) (st := []) C X0 (wd hw 27 rfl) (wd hw 28 rfl) (nf_of C (wd hw 30 rfl) rfl rfl) (wd hw 30 rfl) (wd hw 29 rfl) (by decide) bEX (payCh (W' := 0) C.hZ X0.ext (own_wordsChN hw) (kI := 4) (wd hw 2 rfl) (cs := bc) bEX bFV bFC bVT bhc bhs bhl SZ hz SF rf_ (by decide) (by decide) (i := 3) (own_ltn (k := 3) (by decide) bhl (by rw [hn]; exact c15_51)) rfl (bc.getD 3 0) rfl) pd_1 rfl rfl _ rfl (Nat.le_of_eq rfl) d3_20 (by decide) (by decide) (fun T52 X52 => ?_)))
      exact g_retN C X52 (by simp) d3_23 _ rfl (by decide) (by decide) ⟨_, congrArg some (own_nar (own_getlat bhs (own_ltn (k := 3) (by decide) bhl (by rw [hn]; exact c15_51)))), (own_getlat bhs (own_ltn (k := 3) (by decide) bhl (by rw [hn]; exact c15_51))), rfl⟩
  · refine g_iloadN C X0 d3_4 rfl (g_iload C X0 d3_5 rfl (g_icmpn (hI_ne _ _) C X0 d3_7 (fun c7_53 => ?_) (fun c7_53 => ?_)))
    · refine g_iloadN C X0 d3_13 rfl (g_iloadN C X0 d3_14 rfl (g_icmpn (hI_ge _ _) C X0 d3_15 (fun c15_54 => ?_) (fun c15_54 => ?_)))
      · refine g_iload C X0 d3_24 rfl ?_
        exact g_retN C X0 (by simp) d3_26 _ rfl (by decide) (by decide) ⟨ch, congrArg some (own_nar hc), hc, rfl⟩
      · refine g_aloadN C X0 d3_18 rfl rfl (g_iloadN C X0 d3_19 rfl (g_virtualP (argsL := [(.int 3)]) (st := []) C X0 (wd hw 27 rfl) (wd hw 28 rfl) (nf_of C (wd hw 30 rfl) rfl rfl) (wd hw 30 rfl) (wd hw 29 rfl) (by decide) bEX (payCh (W' := 0) C.hZ X0.ext (own_wordsChN hw) (kI := 4) (wd hw 2 rfl) (cs := bc) bEX bFV bFC bVT bhc bhs bhl SZ hz SF rf_ (by decide) (by decide) (i := 3) (own_ltn (k := 3) (by decide) bhl (by rw [hn]; exact c15_54)) rfl (bc.getD 3 0) rfl) pd_1 rfl rfl _ rfl (Nat.le_of_eq rfl) d3_20 (by decide) (by decide) (fun T55 X55 => ?_)))
        exact g_retN C X55 (by simp) d3_23 _ rfl (by decide) (by decide) ⟨_, congrArg some (own_nar (own_getlat bhs (own_ltn (k := 3) (by decide) bhl (by rw [hn]; exact c15_54)))), (own_getlat bhs (own_ltn (k := 3) (by decide) bhl (by rw [hn]; exact c15_54))), rfl⟩
    · refine g_iload C X0 d3_10 rfl ?_
      exact g_retN C X0 (by simp) d3_12 _ rfl (by decide) (by decide) ⟨ch, congrArg some (own_nar hc), hc, rfl⟩
theorem ef_rpk4 (m : MethodId) (bs : Addr) (n : Int32) (rp : Int32) (pp : Int32) (ch : Int32) : entryFrame m #[(.ref bs), (.int n), (.int 4), (.int rp), (.int pp), (.int ch)] 6 = mkF m 0 #[.val (.ref bs), .val (.int n), .val (.int 4), .val (.int rp), .val (.int pp), .val (.int ch)] [] := by first | (simp [entryFrame, mkF, argsToLocals, Value.category]; done) | rfl
theorem rpk4 (l : Launch) {Z : State} {a0 : Array Value} (hw : ∀ d ∈ tables_1, d.before a0 Z = true) {h : Heap} (hE : Ext Z.heap h) (bs : Addr) (n : Int32) (rp : Int32) (pp : Int32) (ch : Int32) (z_ : Int32) (SZ : Sta Z Z.heap "java/lang/String" "COMPACT_STRINGS" "Z" (.int z_)) (hz : ¬ z_ = 0) (fm_ : Value) (SF : Sta Z Z.heap "jdk/internal/util/Preconditions" "SIOOBE_FORMATTER" "Ljava/util/function/BiFunction;" fm_) (rf_ : fm_.isRef = true) (bt : Addr) (bk : ClassId) (bN : Int32) (bv : List Value) (bc : List Int32) (bEX : Exa Z h bs "java/lang/String") (bFC : Fld Z h bs "java/lang/String" "coder" "B" (.int (0 : Int32))) (bFV : Fld Z h bs "java/lang/String" "value" "[B" (.ref bt)) (bVT : Arv Z h bt bk .byte bN bv (.int (0 : Int32))) (bhc : StrChars.Road.CodA bc 0 bN bv) (bhs : ∀ c ∈ bc, ¬ c < 0 ∧ ¬ (255 : Int32) < c) (bhl : bc.length ≤ 4000) (hn : Int32.ofNat bc.length = n) (hc : ¬ ch < 0 ∧ ¬ (255 : Int32) < ch) :
    Con l (⟨"com/example/indie_lease/indielease/model/LicenseStatusOfCodePinLaw", "pick", "(Ljava/lang/String;IIZIC)C"⟩ : MethodName) method_2_code 6 (some .char) [] ({ frames := 5, cells := 0, slots := 0, locals := 80 } : Room) Z #[(.ref bs), (.int n), (.int 4), (.int rp), (.int pp), (.int ch)] h (fun v' h' => ∃ x : Int32, v' = some (.int x) ∧ (¬ x < 0 ∧ ¬ (255 : Int32) < x) ∧ h' = h) := by
  refine con_of (plainFor_of_name pn_1) hE (fun m => ef_rpk4 m bs n rp pp ch) ?_
  intro p e s m below meth c T0 C X0
  have C : Cx p s m meth c Z "com/example/indie_lease/indielease/model/LicenseStatusOfCodePinLaw" "pick" method_2_code 6 (some .char) := C
  show Goes p e below _ T0 (mkF m 0 #[.val (.ref bs), .val (.int n), .val (.int 4), .val (.int rp), .val (.int pp), .val (.int ch)] [])
  refine g_iloadN C X0 d3_0 rfl (g_if (h0_eq _) C X0 d3_1 (fun c1_56 => ?_) (fun c1_56 => ?_))
  · refine g_iloadN C X0 d3_13 rfl (g_iloadN C X0 d3_14 rfl (g_icmpn (hI_ge _ _) C X0 d3_15 (fun c15_57 => ?_) (fun c15_57 => ?_)))
    · refine g_iload C X0 d3_24 rfl ?_
      exact g_retN C X0 (by simp) d3_26 _ rfl (by decide) (by decide) ⟨ch, congrArg some (own_nar hc), hc, rfl⟩
    · refine g_aloadN C X0 d3_18 rfl rfl (g_iloadN C X0 d3_19 rfl (g_virtualP (argsL := [(.int 4)]) (st := []) C X0 (wd hw 27 rfl) (wd hw 28 rfl) (nf_of C (wd hw 30 rfl) rfl rfl) (wd hw 30 rfl) (wd hw 29 rfl) (by decide) bEX (payCh (W' := 0) C.hZ X0.ext (own_wordsChN hw) (kI := 4) (wd hw 2 rfl) (cs := bc) bEX bFV bFC bVT bhc bhs bhl SZ hz SF rf_ (by decide) (by decide) (i := 4) (own_ltn (k := 4) (by decide) bhl (by rw [hn]; exact c15_57)) rfl (bc.getD 4 0) rfl) pd_1 rfl rfl _ rfl (Nat.le_of_eq rfl) d3_20 (by decide) (by decide) (fun T58 X58 => ?_)))
      exact g_retN C X58 (by simp) d3_23 _ rfl (by decide) (by decide) ⟨_, congrArg some (own_nar (own_getlat bhs (own_ltn (k := 4) (by decide) bhl (by rw [hn]; exact c15_57)))), (own_getlat bhs (own_ltn (k := 4) (by decide) bhl (by rw [hn]; exact c15_57))), rfl⟩
  · refine g_iloadN C X0 d3_4 rfl (g_iload C X0 d3_5 rfl (g_icmpn (hI_ne _ _) C X0 d3_7 (fun c7_59 => ?_) (fun c7_59 => ?_)))
    · refine g_iloadN C X0 d3_13 rfl (g_iloadN C X0 d3_14 rfl (g_icmpn (hI_ge _ _) C X0 d3_15 (fun c15_60 => ?_) (fun c15_60 => ?_)))
      · refine g_iload C X0 d3_24 rfl ?_
        exact g_retN C X0 (by simp) d3_26 _ rfl (by decide) (by decide) ⟨ch, congrArg some (own_nar hc), hc, rfl⟩
      · refine g_aloadN C X0 d3_18 rfl rfl (g_iloadN C X0 d3_19 rfl (g_virtualP (argsL := [(.int 4)]) (st := []) C X0 (wd hw 27 rfl) (wd hw 28 rfl) (nf_of C (wd hw 30 rfl) rfl rfl) (wd hw 30 rfl) (wd hw 29 rfl) (by decide) bEX (payCh (W' := 0) C.hZ X0.ext (own_wordsChN hw) (kI := 4) (wd hw 2 rfl) (cs := bc) bEX bFV bFC bVT bhc bhs bhl SZ hz SF rf_ (by decide) (by decide) (i := 4) (own_ltn (k := 4) (by decide) bhl (by rw [hn]; exact c15_60)) rfl (bc.getD 4 0) rfl) pd_1 rfl rfl _ rfl (Nat.le_of_eq rfl) d3_20 (by decide) (by decide) (fun T61 X61 => ?_)))
        exact g_retN C X61 (by simp) d3_23 _ rfl (by decide) (by decide) ⟨_, congrArg some (own_nar (own_getlat bhs (own_ltn (k := 4) (by decide) bhl (by rw [hn]; exact c15_60)))), (own_getlat bhs (own_ltn (k := 4) (by decide) bhl (by rw [hn]; exact c15_60))), rfl⟩
    · refine g_iload C X0 d3_10 rfl ?_
      exact g_retN C X0 (by simp) d3_12 _ rfl (by decide) (by decide) ⟨ch, congrArg some (own_nar hc), hc, rfl⟩
theorem ef_rpk5 (m : MethodId) (bs : Addr) (n : Int32) (rp : Int32) (pp : Int32) (ch : Int32) : entryFrame m #[(.ref bs), (.int n), (.int 5), (.int rp), (.int pp), (.int ch)] 6 = mkF m 0 #[.val (.ref bs), .val (.int n), .val (.int 5), .val (.int rp), .val (.int pp), .val (.int ch)] [] := by first | (simp [entryFrame, mkF, argsToLocals, Value.category]; done) | rfl
theorem rpk5 (l : Launch) {Z : State} {a0 : Array Value} (hw : ∀ d ∈ tables_1, d.before a0 Z = true) {h : Heap} (hE : Ext Z.heap h) (bs : Addr) (n : Int32) (rp : Int32) (pp : Int32) (ch : Int32) (z_ : Int32) (SZ : Sta Z Z.heap "java/lang/String" "COMPACT_STRINGS" "Z" (.int z_)) (hz : ¬ z_ = 0) (fm_ : Value) (SF : Sta Z Z.heap "jdk/internal/util/Preconditions" "SIOOBE_FORMATTER" "Ljava/util/function/BiFunction;" fm_) (rf_ : fm_.isRef = true) (bt : Addr) (bk : ClassId) (bN : Int32) (bv : List Value) (bc : List Int32) (bEX : Exa Z h bs "java/lang/String") (bFC : Fld Z h bs "java/lang/String" "coder" "B" (.int (0 : Int32))) (bFV : Fld Z h bs "java/lang/String" "value" "[B" (.ref bt)) (bVT : Arv Z h bt bk .byte bN bv (.int (0 : Int32))) (bhc : StrChars.Road.CodA bc 0 bN bv) (bhs : ∀ c ∈ bc, ¬ c < 0 ∧ ¬ (255 : Int32) < c) (bhl : bc.length ≤ 4000) (hn : Int32.ofNat bc.length = n) (hc : ¬ ch < 0 ∧ ¬ (255 : Int32) < ch) :
    Con l (⟨"com/example/indie_lease/indielease/model/LicenseStatusOfCodePinLaw", "pick", "(Ljava/lang/String;IIZIC)C"⟩ : MethodName) method_2_code 6 (some .char) [] ({ frames := 5, cells := 0, slots := 0, locals := 80 } : Room) Z #[(.ref bs), (.int n), (.int 5), (.int rp), (.int pp), (.int ch)] h (fun v' h' => ∃ x : Int32, v' = some (.int x) ∧ (¬ x < 0 ∧ ¬ (255 : Int32) < x) ∧ h' = h) := by
  refine con_of (plainFor_of_name pn_1) hE (fun m => ef_rpk5 m bs n rp pp ch) ?_
  intro p e s m below meth c T0 C X0
  have C : Cx p s m meth c Z "com/example/indie_lease/indielease/model/LicenseStatusOfCodePinLaw" "pick" method_2_code 6 (some .char) := C
  show Goes p e below _ T0 (mkF m 0 #[.val (.ref bs), .val (.int n), .val (.int 5), .val (.int rp), .val (.int pp), .val (.int ch)] [])
  refine g_iloadN C X0 d3_0 rfl (g_if (h0_eq _) C X0 d3_1 (fun c1_62 => ?_) (fun c1_62 => ?_))
  · refine g_iloadN C X0 d3_13 rfl (g_iloadN C X0 d3_14 rfl (g_icmpn (hI_ge _ _) C X0 d3_15 (fun c15_63 => ?_) (fun c15_63 => ?_)))
    · refine g_iload C X0 d3_24 rfl ?_
      exact g_retN C X0 (by simp) d3_26 _ rfl (by decide) (by decide) ⟨ch, congrArg some (own_nar hc), hc, rfl⟩
    · refine g_aloadN C X0 d3_18 rfl rfl (g_iloadN C X0 d3_19 rfl (g_virtualP (argsL := [(.int 5)]) (st := []) C X0 (wd hw 27 rfl) (wd hw 28 rfl) (nf_of C (wd hw 30 rfl) rfl rfl) (wd hw 30 rfl) (wd hw 29 rfl) (by decide) bEX (payCh (W' := 0) C.hZ X0.ext (own_wordsChN hw) (kI := 4) (wd hw 2 rfl) (cs := bc) bEX bFV bFC bVT bhc bhs bhl SZ hz SF rf_ (by decide) (by decide) (i := 5) (own_ltn (k := 5) (by decide) bhl (by rw [hn]; exact c15_63)) rfl (bc.getD 5 0) rfl) pd_1 rfl rfl _ rfl (Nat.le_of_eq rfl) d3_20 (by decide) (by decide) (fun T64 X64 => ?_)))
      exact g_retN C X64 (by simp) d3_23 _ rfl (by decide) (by decide) ⟨_, congrArg some (own_nar (own_getlat bhs (own_ltn (k := 5) (by decide) bhl (by rw [hn]; exact c15_63)))), (own_getlat bhs (own_ltn (k := 5) (by decide) bhl (by rw [hn]; exact c15_63))), rfl⟩
  · refine g_iloadN C X0 d3_4 rfl (g_iload C X0 d3_5 rfl (g_icmpn (hI_ne _ _) C X0 d3_7 (fun c7_65 => ?_) (fun c7_65 => ?_)))
    · refine g_iloadN C X0 d3_13 rfl (g_iloadN C X0 d3_14 rfl (g_icmpn (hI_ge _ _) C X0 d3_15 (fun c15_66 => ?_) (fun c15_66 => ?_)))
      · refine g_iload C X0 d3_24 rfl ?_
        exact g_retN C X0 (by simp) d3_26 _ rfl (by decide) (by decide) ⟨ch, congrArg some (own_nar hc), hc, rfl⟩
      · refine g_aloadN C X0 d3_18 rfl rfl (g_iloadN C X0 d3_19 rfl (g_virtualP (argsL := [(.int 5)]) (st := []) C X0 (wd hw 27 rfl) (wd hw 28 rfl) (nf_of C (wd hw 30 rfl) rfl rfl) (wd hw 30 rfl) (wd hw 29 rfl) (by decide) bEX (payCh (W' := 0) C.hZ X0.ext (own_wordsChN hw) (kI := 4) (wd hw 2 rfl) (cs := bc) bEX bFV bFC bVT bhc bhs bhl SZ hz SF rf_ (by decide) (by decide) (i := 5) (own_ltn (k := 5) (by decide) bhl (by rw [hn]; exact c15_66)) rfl (bc.getD 5 0) rfl) pd_1 rfl rfl _ rfl (Nat.le_of_eq rfl) d3_20 (by decide) (by decide) (fun T67 X67 => ?_)))
        exact g_retN C X67 (by simp) d3_23 _ rfl (by decide) (by decide) ⟨_, congrArg some (own_nar (own_getlat bhs (own_ltn (k := 5) (by decide) bhl (by rw [hn]; exact c15_66)))), (own_getlat bhs (own_ltn (k := 5) (by decide) bhl (by rw [hn]; exact c15_66))), rfl⟩
    · refine g_iload C X0 d3_10 rfl ?_
      exact g_retN C X0 (by simp) d3_12 _ rfl (by decide) (by decide) ⟨ch, congrArg some (own_nar hc), hc, rfl⟩
theorem ef_rpk6 (m : MethodId) (bs : Addr) (n : Int32) (rp : Int32) (pp : Int32) (ch : Int32) : entryFrame m #[(.ref bs), (.int n), (.int 6), (.int rp), (.int pp), (.int ch)] 6 = mkF m 0 #[.val (.ref bs), .val (.int n), .val (.int 6), .val (.int rp), .val (.int pp), .val (.int ch)] [] := by first | (simp [entryFrame, mkF, argsToLocals, Value.category]; done) | rfl
theorem rpk6 (l : Launch) {Z : State} {a0 : Array Value} (hw : ∀ d ∈ tables_1, d.before a0 Z = true) {h : Heap} (hE : Ext Z.heap h) (bs : Addr) (n : Int32) (rp : Int32) (pp : Int32) (ch : Int32) (z_ : Int32) (SZ : Sta Z Z.heap "java/lang/String" "COMPACT_STRINGS" "Z" (.int z_)) (hz : ¬ z_ = 0) (fm_ : Value) (SF : Sta Z Z.heap "jdk/internal/util/Preconditions" "SIOOBE_FORMATTER" "Ljava/util/function/BiFunction;" fm_) (rf_ : fm_.isRef = true) (bt : Addr) (bk : ClassId) (bN : Int32) (bv : List Value) (bc : List Int32) (bEX : Exa Z h bs "java/lang/String") (bFC : Fld Z h bs "java/lang/String" "coder" "B" (.int (0 : Int32))) (bFV : Fld Z h bs "java/lang/String" "value" "[B" (.ref bt)) (bVT : Arv Z h bt bk .byte bN bv (.int (0 : Int32))) (bhc : StrChars.Road.CodA bc 0 bN bv) (bhs : ∀ c ∈ bc, ¬ c < 0 ∧ ¬ (255 : Int32) < c) (bhl : bc.length ≤ 4000) (hn : Int32.ofNat bc.length = n) (hc : ¬ ch < 0 ∧ ¬ (255 : Int32) < ch) :
    Con l (⟨"com/example/indie_lease/indielease/model/LicenseStatusOfCodePinLaw", "pick", "(Ljava/lang/String;IIZIC)C"⟩ : MethodName) method_2_code 6 (some .char) [] ({ frames := 5, cells := 0, slots := 0, locals := 80 } : Room) Z #[(.ref bs), (.int n), (.int 6), (.int rp), (.int pp), (.int ch)] h (fun v' h' => ∃ x : Int32, v' = some (.int x) ∧ (¬ x < 0 ∧ ¬ (255 : Int32) < x) ∧ h' = h) := by
  refine con_of (plainFor_of_name pn_1) hE (fun m => ef_rpk6 m bs n rp pp ch) ?_
  intro p e s m below meth c T0 C X0
  have C : Cx p s m meth c Z "com/example/indie_lease/indielease/model/LicenseStatusOfCodePinLaw" "pick" method_2_code 6 (some .char) := C
  show Goes p e below _ T0 (mkF m 0 #[.val (.ref bs), .val (.int n), .val (.int 6), .val (.int rp), .val (.int pp), .val (.int ch)] [])
  refine g_iloadN C X0 d3_0 rfl (g_if (h0_eq _) C X0 d3_1 (fun c1_68 => ?_) (fun c1_68 => ?_))
  · refine g_iloadN C X0 d3_13 rfl (g_iloadN C X0 d3_14 rfl (g_icmpn (hI_ge _ _) C X0 d3_15 (fun c15_69 => ?_) (fun c15_69 => ?_)))
    · refine g_iload C X0 d3_24 rfl ?_
      exact g_retN C X0 (by simp) d3_26 _ rfl (by decide) (by decide) ⟨ch, congrArg some (own_nar hc), hc, rfl⟩
    · refine g_aloadN C X0 d3_18 rfl rfl (g_iloadN C X0 d3_19 rfl (g_virtualP (argsL := [(.int 6)]) (st := []) C X0 (wd hw 27 rfl) (wd hw 28 rfl) (nf_of C (wd hw 30 rfl) rfl rfl) (wd hw 30 rfl) (wd hw 29 rfl) (by decide) bEX (payCh (W' := 0) C.hZ X0.ext (own_wordsChN hw) (kI := 4) (wd hw 2 rfl) (cs := bc) bEX bFV bFC bVT bhc bhs bhl SZ hz SF rf_ (by decide) (by decide) (i := 6) (own_ltn (k := 6) (by decide) bhl (by rw [hn]; exact c15_69)) rfl (bc.getD 6 0) rfl) pd_1 rfl rfl _ rfl (Nat.le_of_eq rfl) d3_20 (by decide) (by decide) (fun T70 X70 => ?_)))
      exact g_retN C X70 (by simp) d3_23 _ rfl (by decide) (by decide) ⟨_, congrArg some (own_nar (own_getlat bhs (own_ltn (k := 6) (by decide) bhl (by rw [hn]; exact c15_69)))), (own_getlat bhs (own_ltn (k := 6) (by decide) bhl (by rw [hn]; exact c15_69))), rfl⟩
  · refine g_iloadN C X0 d3_4 rfl (g_iload C X0 d3_5 rfl (g_icmpn (hI_ne _ _) C X0 d3_7 (fun c7_71 => ?_) (fun c7_71 => ?_)))
    · refine g_iloadN C X0 d3_13 rfl (g_iloadN C X0 d3_14 rfl (g_icmpn (hI_ge _ _) C X0 d3_15 (fun c15_72 => ?_) (fun c15_72 => ?_)))
      · refine g_iload C X0 d3_24 rfl ?_
        exact g_retN C X0 (by simp) d3_26 _ rfl (by decide) (by decide) ⟨ch, congrArg some (own_nar hc), hc, rfl⟩
      · refine g_aloadN C X0 d3_18 rfl rfl (g_iloadN C X0 d3_19 rfl (g_virtualP (argsL := [(.int 6)]) (st := []) C X0 (wd hw 27 rfl) (wd hw 28 rfl) (nf_of C (wd hw 30 rfl) rfl rfl) (wd hw 30 rfl) (wd hw 29 rfl) (by decide) bEX (payCh (W' := 0) C.hZ X0.ext (own_wordsChN hw) (kI := 4) (wd hw 2 rfl) (cs := bc) bEX bFV bFC bVT bhc bhs bhl SZ hz SF rf_ (by decide) (by decide) (i := 6) (own_ltn (k := 6) (by decide) bhl (by rw [hn]; exact c15_72)) rfl (bc.getD 6 0) rfl) pd_1 rfl rfl _ rfl (Nat.le_of_eq rfl) d3_20 (by decide) (by decide) (fun T73 X73 => ?_)))
        exact g_retN C X73 (by simp) d3_23 _ rfl (by decide) (by decide) ⟨_, congrArg some (own_nar (own_getlat bhs (own_ltn (k := 6) (by decide) bhl (by rw [hn]; exact c15_72)))), (own_getlat bhs (own_ltn (k := 6) (by decide) bhl (by rw [hn]; exact c15_72))), rfl⟩
    · refine g_iload C X0 d3_10 rfl ?_
      exact g_retN C X0 (by simp) d3_12 _ rfl (by decide) (by decide) ⟨ch, congrArg some (own_nar hc), hc, rfl⟩
theorem ef_rpk7 (m : MethodId) (bs : Addr) (n : Int32) (rp : Int32) (pp : Int32) (ch : Int32) : entryFrame m #[(.ref bs), (.int n), (.int 7), (.int rp), (.int pp), (.int ch)] 6 = mkF m 0 #[.val (.ref bs), .val (.int n), .val (.int 7), .val (.int rp), .val (.int pp), .val (.int ch)] [] := by first | (simp [entryFrame, mkF, argsToLocals, Value.category]; done) | rfl
theorem rpk7 (l : Launch) {Z : State} {a0 : Array Value} (hw : ∀ d ∈ tables_1, d.before a0 Z = true) {h : Heap} (hE : Ext Z.heap h) (bs : Addr) (n : Int32) (rp : Int32) (pp : Int32) (ch : Int32) (z_ : Int32) (SZ : Sta Z Z.heap "java/lang/String" "COMPACT_STRINGS" "Z" (.int z_)) (hz : ¬ z_ = 0) (fm_ : Value) (SF : Sta Z Z.heap "jdk/internal/util/Preconditions" "SIOOBE_FORMATTER" "Ljava/util/function/BiFunction;" fm_) (rf_ : fm_.isRef = true) (bt : Addr) (bk : ClassId) (bN : Int32) (bv : List Value) (bc : List Int32) (bEX : Exa Z h bs "java/lang/String") (bFC : Fld Z h bs "java/lang/String" "coder" "B" (.int (0 : Int32))) (bFV : Fld Z h bs "java/lang/String" "value" "[B" (.ref bt)) (bVT : Arv Z h bt bk .byte bN bv (.int (0 : Int32))) (bhc : StrChars.Road.CodA bc 0 bN bv) (bhs : ∀ c ∈ bc, ¬ c < 0 ∧ ¬ (255 : Int32) < c) (bhl : bc.length ≤ 4000) (hn : Int32.ofNat bc.length = n) (hc : ¬ ch < 0 ∧ ¬ (255 : Int32) < ch) :
    Con l (⟨"com/example/indie_lease/indielease/model/LicenseStatusOfCodePinLaw", "pick", "(Ljava/lang/String;IIZIC)C"⟩ : MethodName) method_2_code 6 (some .char) [] ({ frames := 5, cells := 0, slots := 0, locals := 80 } : Room) Z #[(.ref bs), (.int n), (.int 7), (.int rp), (.int pp), (.int ch)] h (fun v' h' => ∃ x : Int32, v' = some (.int x) ∧ (¬ x < 0 ∧ ¬ (255 : Int32) < x) ∧ h' = h) := by
  refine con_of (plainFor_of_name pn_1) hE (fun m => ef_rpk7 m bs n rp pp ch) ?_
  intro p e s m below meth c T0 C X0
  have C : Cx p s m meth c Z "com/example/indie_lease/indielease/model/LicenseStatusOfCodePinLaw" "pick" method_2_code 6 (some .char) := C
  show Goes p e below _ T0 (mkF m 0 #[.val (.ref bs), .val (.int n), .val (.int 7), .val (.int rp), .val (.int pp), .val (.int ch)] [])
  refine g_iloadN C X0 d3_0 rfl (g_if (h0_eq _) C X0 d3_1 (fun c1_74 => ?_) (fun c1_74 => ?_))
  · refine g_iloadN C X0 d3_13 rfl (g_iloadN C X0 d3_14 rfl (g_icmpn (hI_ge _ _) C X0 d3_15 (fun c15_75 => ?_) (fun c15_75 => ?_)))
    · refine g_iload C X0 d3_24 rfl ?_
      exact g_retN C X0 (by simp) d3_26 _ rfl (by decide) (by decide) ⟨ch, congrArg some (own_nar hc), hc, rfl⟩
    · refine g_aloadN C X0 d3_18 rfl rfl (g_iloadN C X0 d3_19 rfl (g_virtualP (argsL := [(.int 7)]) (st := []) C X0 (wd hw 27 rfl) (wd hw 28 rfl) (nf_of C (wd hw 30 rfl) rfl rfl) (wd hw 30 rfl) (wd hw 29 rfl) (by decide) bEX (payCh (W' := 0) C.hZ X0.ext (own_wordsChN hw) (kI := 4) (wd hw 2 rfl) (cs := bc) bEX bFV bFC bVT bhc bhs bhl SZ hz SF rf_ (by decide) (by decide) (i := 7) (own_ltn (k := 7) (by decide) bhl (by rw [hn]; exact c15_75)) rfl (bc.getD 7 0) rfl) pd_1 rfl rfl _ rfl (Nat.le_of_eq rfl) d3_20 (by decide) (by decide) (fun T76 X76 => ?_)))
      exact g_retN C X76 (by simp) d3_23 _ rfl (by decide) (by decide) ⟨_, congrArg some (own_nar (own_getlat bhs (own_ltn (k := 7) (by decide) bhl (by rw [hn]; exact c15_75)))), (own_getlat bhs (own_ltn (k := 7) (by decide) bhl (by rw [hn]; exact c15_75))), rfl⟩
  · refine g_iloadN C X0 d3_4 rfl (g_iload C X0 d3_5 rfl (g_icmpn (hI_ne _ _) C X0 d3_7 (fun c7_77 => ?_) (fun c7_77 => ?_)))
    · refine g_iloadN C X0 d3_13 rfl (g_iloadN C X0 d3_14 rfl (g_icmpn (hI_ge _ _) C X0 d3_15 (fun c15_78 => ?_) (fun c15_78 => ?_)))
      · refine g_iload C X0 d3_24 rfl ?_
        exact g_retN C X0 (by simp) d3_26 _ rfl (by decide) (by decide) ⟨ch, congrArg some (own_nar hc), hc, rfl⟩
      · refine g_aloadN C X0 d3_18 rfl rfl (g_iloadN C X0 d3_19 rfl (g_virtualP (argsL := [(.int 7)]) (st := []) C X0 (wd hw 27 rfl) (wd hw 28 rfl) (nf_of C (wd hw 30 rfl) rfl rfl) (wd hw 30 rfl) (wd hw 29 rfl) (by decide) bEX (payCh (W' := 0) C.hZ X0.ext (own_wordsChN hw) (kI := 4) (wd hw 2 rfl) (cs := bc) bEX bFV bFC bVT bhc bhs bhl SZ hz SF rf_ (by decide) (by decide) (i := 7) (own_ltn (k := 7) (by decide) bhl (by rw [hn]; exact c15_78)) rfl (bc.getD 7 0) rfl) pd_1 rfl rfl _ rfl (Nat.le_of_eq rfl) d3_20 (by decide) (by decide) (fun T79 X79 => ?_)))
        exact g_retN C X79 (by simp) d3_23 _ rfl (by decide) (by decide) ⟨_, congrArg some (own_nar (own_getlat bhs (own_ltn (k := 7) (by decide) bhl (by rw [hn]; exact c15_78)))), (own_getlat bhs (own_ltn (k := 7) (by decide) bhl (by rw [hn]; exact c15_78))), rfl⟩
    · refine g_iload C X0 d3_10 rfl ?_
      exact g_retN C X0 (by simp) d3_12 _ rfl (by decide) (by decide) ⟨ch, congrArg some (own_nar hc), hc, rfl⟩
theorem ef_rpk8 (m : MethodId) (bs : Addr) (n : Int32) (rp : Int32) (pp : Int32) (ch : Int32) : entryFrame m #[(.ref bs), (.int n), (.int 8), (.int rp), (.int pp), (.int ch)] 6 = mkF m 0 #[.val (.ref bs), .val (.int n), .val (.int 8), .val (.int rp), .val (.int pp), .val (.int ch)] [] := by first | (simp [entryFrame, mkF, argsToLocals, Value.category]; done) | rfl
theorem rpk8 (l : Launch) {Z : State} {a0 : Array Value} (hw : ∀ d ∈ tables_1, d.before a0 Z = true) {h : Heap} (hE : Ext Z.heap h) (bs : Addr) (n : Int32) (rp : Int32) (pp : Int32) (ch : Int32) (z_ : Int32) (SZ : Sta Z Z.heap "java/lang/String" "COMPACT_STRINGS" "Z" (.int z_)) (hz : ¬ z_ = 0) (fm_ : Value) (SF : Sta Z Z.heap "jdk/internal/util/Preconditions" "SIOOBE_FORMATTER" "Ljava/util/function/BiFunction;" fm_) (rf_ : fm_.isRef = true) (bt : Addr) (bk : ClassId) (bN : Int32) (bv : List Value) (bc : List Int32) (bEX : Exa Z h bs "java/lang/String") (bFC : Fld Z h bs "java/lang/String" "coder" "B" (.int (0 : Int32))) (bFV : Fld Z h bs "java/lang/String" "value" "[B" (.ref bt)) (bVT : Arv Z h bt bk .byte bN bv (.int (0 : Int32))) (bhc : StrChars.Road.CodA bc 0 bN bv) (bhs : ∀ c ∈ bc, ¬ c < 0 ∧ ¬ (255 : Int32) < c) (bhl : bc.length ≤ 4000) (hn : Int32.ofNat bc.length = n) (hc : ¬ ch < 0 ∧ ¬ (255 : Int32) < ch) :
    Con l (⟨"com/example/indie_lease/indielease/model/LicenseStatusOfCodePinLaw", "pick", "(Ljava/lang/String;IIZIC)C"⟩ : MethodName) method_2_code 6 (some .char) [] ({ frames := 5, cells := 0, slots := 0, locals := 80 } : Room) Z #[(.ref bs), (.int n), (.int 8), (.int rp), (.int pp), (.int ch)] h (fun v' h' => ∃ x : Int32, v' = some (.int x) ∧ (¬ x < 0 ∧ ¬ (255 : Int32) < x) ∧ h' = h) := by
  refine con_of (plainFor_of_name pn_1) hE (fun m => ef_rpk8 m bs n rp pp ch) ?_
  intro p e s m below meth c T0 C X0
  have C : Cx p s m meth c Z "com/example/indie_lease/indielease/model/LicenseStatusOfCodePinLaw" "pick" method_2_code 6 (some .char) := C
  show Goes p e below _ T0 (mkF m 0 #[.val (.ref bs), .val (.int n), .val (.int 8), .val (.int rp), .val (.int pp), .val (.int ch)] [])
  refine g_iloadN C X0 d3_0 rfl (g_if (h0_eq _) C X0 d3_1 (fun c1_80 => ?_) (fun c1_80 => ?_))
  · refine g_iloadN C X0 d3_13 rfl (g_iloadN C X0 d3_14 rfl (g_icmpn (hI_ge _ _) C X0 d3_15 (fun c15_81 => ?_) (fun c15_81 => ?_)))
    · refine g_iload C X0 d3_24 rfl ?_
      exact g_retN C X0 (by simp) d3_26 _ rfl (by decide) (by decide) ⟨ch, congrArg some (own_nar hc), hc, rfl⟩
    · refine g_aloadN C X0 d3_18 rfl rfl (g_iloadN C X0 d3_19 rfl (g_virtualP (argsL := [(.int 8)]) (st := []) C X0 (wd hw 27 rfl) (wd hw 28 rfl) (nf_of C (wd hw 30 rfl) rfl rfl) (wd hw 30 rfl) (wd hw 29 rfl) (by decide) bEX (payCh (W' := 0) C.hZ X0.ext (own_wordsChN hw) (kI := 4) (wd hw 2 rfl) (cs := bc) bEX bFV bFC bVT bhc bhs bhl SZ hz SF rf_ (by decide) (by decide) (i := 8) (own_ltn (k := 8) (by decide) bhl (by rw [hn]; exact c15_81)) rfl (bc.getD 8 0) rfl) pd_1 rfl rfl _ rfl (Nat.le_of_eq rfl) d3_20 (by decide) (by decide) (fun T82 X82 => ?_)))
      exact g_retN C X82 (by simp) d3_23 _ rfl (by decide) (by decide) ⟨_, congrArg some (own_nar (own_getlat bhs (own_ltn (k := 8) (by decide) bhl (by rw [hn]; exact c15_81)))), (own_getlat bhs (own_ltn (k := 8) (by decide) bhl (by rw [hn]; exact c15_81))), rfl⟩
  · refine g_iloadN C X0 d3_4 rfl (g_iload C X0 d3_5 rfl (g_icmpn (hI_ne _ _) C X0 d3_7 (fun c7_83 => ?_) (fun c7_83 => ?_)))
    · refine g_iloadN C X0 d3_13 rfl (g_iloadN C X0 d3_14 rfl (g_icmpn (hI_ge _ _) C X0 d3_15 (fun c15_84 => ?_) (fun c15_84 => ?_)))
      · refine g_iload C X0 d3_24 rfl ?_
        exact g_retN C X0 (by simp) d3_26 _ rfl (by decide) (by decide) ⟨ch, congrArg some (own_nar hc), hc, rfl⟩
      · refine g_aloadN C X0 d3_18 rfl rfl (g_iloadN C X0 d3_19 rfl (g_virtualP (argsL := [(.int 8)]) (st := []) C X0 (wd hw 27 rfl) (wd hw 28 rfl) (nf_of C (wd hw 30 rfl) rfl rfl) (wd hw 30 rfl) (wd hw 29 rfl) (by decide) bEX (payCh (W' := 0) C.hZ X0.ext (own_wordsChN hw) (kI := 4) (wd hw 2 rfl) (cs := bc) bEX bFV bFC bVT bhc bhs bhl SZ hz SF rf_ (by decide) (by decide) (i := 8) (own_ltn (k := 8) (by decide) bhl (by rw [hn]; exact c15_84)) rfl (bc.getD 8 0) rfl) pd_1 rfl rfl _ rfl (Nat.le_of_eq rfl) d3_20 (by decide) (by decide) (fun T85 X85 => ?_)))
        exact g_retN C X85 (by simp) d3_23 _ rfl (by decide) (by decide) ⟨_, congrArg some (own_nar (own_getlat bhs (own_ltn (k := 8) (by decide) bhl (by rw [hn]; exact c15_84)))), (own_getlat bhs (own_ltn (k := 8) (by decide) bhl (by rw [hn]; exact c15_84))), rfl⟩
    · refine g_iload C X0 d3_10 rfl ?_
      exact g_retN C X0 (by simp) d3_12 _ rfl (by decide) (by decide) ⟨ch, congrArg some (own_nar hc), hc, rfl⟩
theorem pn_2 : plainName "com/example/indie_lease/indielease/model/LicenseStatus" = true := by first | (simp [plainName, overriddenIn]; done) | decide +kernel
theorem ef_rVal (m : MethodId)  : entryFrame m #[] 0 = mkF m 0 #[] [] := by first | (simp [entryFrame, mkF, argsToLocals, Value.category]; done) | rfl
theorem d10_0 : Dc prog_18_method_1_code 0 (.getstatic 16) 3 3 := ⟨by decide +kernel, rfl⟩
theorem d10_3 : Dc prog_18_method_1_code 3 (.invokevirtual 20) 3 6 := ⟨by decide +kernel, rfl⟩
theorem d10_6 : Dc prog_18_method_1_code 6 (.checkcast 21) 3 9 := ⟨by decide +kernel, rfl⟩
theorem d10_9 : Dc prog_18_method_1_code 9 (.areturn) 1 10 := ⟨by decide +kernel, rfl⟩
theorem rVal (l : Launch) {Z : State} {a0 : Array Value} (hw : ∀ d ∈ tables_1, d.before a0 Z = true) {h : Heap} (hE : Ext Z.heap h)  (p_1 p_7 p_11 p_15 p_19 p_23 p_27 p_31 p_35 p_40 p_46 p_52 p_58 : Addr) (k_64 k_66 k_68 k_70 k_72 : ClassId) (S_3 : Sta Z Z.heap "com/example/indie_lease/indielease/model/LicenseStatus" "$VALUES" "[Lcom/example/indie_lease/indielease/model/LicenseStatus;" (.ref p_1)) (E_6 : Exa Z Z.heap p_1 "[Lcom/example/indie_lease/indielease/model/LicenseStatus;") (S_9 : Sta Z Z.heap "com/example/indie_lease/indielease/model/LicenseStatus" "ACTIVE" "Lcom/example/indie_lease/indielease/model/LicenseStatus;" (.ref p_7)) (E_10 : Exa Z Z.heap p_7 "com/example/indie_lease/indielease/model/LicenseStatus") (S_13 : Sta Z Z.heap "com/example/indie_lease/indielease/model/LicenseStatus" "FALLBACK" "Lcom/example/indie_lease/indielease/model/LicenseStatus;" (.ref p_11)) (E_14 : Exa Z Z.heap p_11 "com/example/indie_lease/indielease/model/LicenseStatus") (S_17 : Sta Z Z.heap "com/example/indie_lease/indielease/model/LicenseStatus" "EXPIRED" "Lcom/example/indie_lease/indielease/model/LicenseStatus;" (.ref p_15)) (E_18 : Exa Z Z.heap p_15 "com/example/indie_lease/indielease/model/LicenseStatus") (S_21 : Sta Z Z.heap "com/example/indie_lease/indielease/model/LicenseStatus" "REVOKED" "Lcom/example/indie_lease/indielease/model/LicenseStatus;" (.ref p_19)) (E_22 : Exa Z Z.heap p_19 "com/example/indie_lease/indielease/model/LicenseStatus") (F_25 : Fld Z Z.heap p_7 "com/example/indie_lease/indielease/model/LicenseStatus" "code" "Ljava/lang/String;" (.ref p_23)) (E_26 : Exa Z Z.heap p_23 "java/lang/String") (F_29 : Fld Z Z.heap p_11 "com/example/indie_lease/indielease/model/LicenseStatus" "code" "Ljava/lang/String;" (.ref p_27)) (E_30 : Exa Z Z.heap p_27 "java/lang/String") (F_33 : Fld Z Z.heap p_15 "com/example/indie_lease/indielease/model/LicenseStatus" "code" "Ljava/lang/String;" (.ref p_31)) (E_34 : Exa Z Z.heap p_31 "java/lang/String") (F_37 : Fld Z Z.heap p_19 "com/example/indie_lease/indielease/model/LicenseStatus" "code" "Ljava/lang/String;" (.ref p_35)) (E_38 : Exa Z Z.heap p_35 "java/lang/String") (F_39 : Fld Z Z.heap p_23 "java/lang/String" "coder" "B" (.int 0)) (F_42 : Fld Z Z.heap p_23 "java/lang/String" "value" "[B" (.ref p_40)) (F_45 : Fld Z Z.heap p_27 "java/lang/String" "coder" "B" (.int 0)) (F_48 : Fld Z Z.heap p_27 "java/lang/String" "value" "[B" (.ref p_46)) (F_51 : Fld Z Z.heap p_31 "java/lang/String" "coder" "B" (.int 0)) (F_54 : Fld Z Z.heap p_31 "java/lang/String" "value" "[B" (.ref p_52)) (F_57 : Fld Z Z.heap p_35 "java/lang/String" "coder" "B" (.int 0)) (F_60 : Fld Z Z.heap p_35 "java/lang/String" "value" "[B" (.ref p_58)) (V_63 : Arv Z Z.heap p_1 k_64 (.object "com/example/indie_lease/indielease/model/LicenseStatus") 4 [(.ref p_7), (.ref p_11), (.ref p_15), (.ref p_19)] .null) (V_65 : Arv Z Z.heap p_40 k_66 .byte 6 [(.int 97), (.int 99), (.int 116), (.int 105), (.int 118), (.int 101)] (.int 0)) (V_67 : Arv Z Z.heap p_46 k_68 .byte 8 [(.int 102), (.int 97), (.int 108), (.int 108), (.int 98), (.int 97), (.int 99), (.int 107)] (.int 0)) (V_69 : Arv Z Z.heap p_52 k_70 .byte 7 [(.int 101), (.int 120), (.int 112), (.int 105), (.int 114), (.int 101), (.int 100)] (.int 0)) (V_71 : Arv Z Z.heap p_58 k_72 .byte 7 [(.int 114), (.int 101), (.int 118), (.int 111), (.int 107), (.int 101), (.int 100)] (.int 0)) :
    Con l (⟨"com/example/indie_lease/indielease/model/LicenseStatus", "values", "()[Lcom/example/indie_lease/indielease/model/LicenseStatus;"⟩ : MethodName) prog_18_method_1_code 0 (some (.array (.object "com/example/indie_lease/indielease/model/LicenseStatus"))) [] ({ frames := 1, cells := 1, slots := 4, locals := 14 } : Room) Z #[] h (fun v' h' => ∃ b, v' = some (.ref b) ∧ Z.heap.size ≤ b ∧ h.size ≤ b ∧ Ext h h' ∧ Arv Z h' b k_64 (.object "com/example/indie_lease/indielease/model/LicenseStatus") 4 [(.ref p_7), (.ref p_11), (.ref p_15), (.ref p_19)] .null) := by
  refine con_of (plainFor_of_name pn_2) hE (fun m => ef_rVal m ) ?_
  intro p e s m below meth c T0 C X0
  have C : Cx p s m meth c Z "com/example/indie_lease/indielease/model/LicenseStatus" "values" prog_18_method_1_code 0 (some (.array (.object "com/example/indie_lease/indielease/model/LicenseStatus"))) := C
  show Goes p e below _ T0 (mkF m 0 #[] [])
  refine g_getstatic (host := "") C X0 (Or.inl (wd hw 56 rfl)) Via.refl S_3 d10_0 (fun T86 X86 => ?_)
  refine g_clone (cap := 4) C X86 (wd hw 58 rfl) (wd hw 59 rfl) (wd hw 63 rfl) (wd hw 61 rfl) (wd hw 62 rfl) (wd hw 64 rfl) (Arv.ext V_63 X86.ext) (Exa.ext X86.ext E_6) rfl d10_3 (by decide) 0 (Nat.le_of_eq rfl) (by decide) (by decide) (by decide) (by decide) (fun T87 h87 b87 g_b87 n_b87 X87 E87 V87 A87 => ?_)
  refine g_checkcast C X87 (wd hw 70 rfl) (Ins.self A87) d10_6 (fun T88 X88 => ?_)
  have sz89 : h.size ≤ b87 := by rw [g_b87]; exact (Keep.refl h []).1
  have kp90 := (Keep.refl h []).ext E87
  exact g_retA C X88 rfl rfl d10_9 (by decide) (by decide) ⟨b87, rfl, n_b87, sz89, keep_ext kp90, V87⟩
theorem ef_roC (m : MethodId) (x : Addr) : entryFrame m #[(.ref x)] 5 = mkF m 0 #[.val (.ref x), .unset, .unset, .unset, .unset] [] := by first | (simp [entryFrame, mkF, argsToLocals, Value.category]; done) | rfl
theorem d9_0 : Dc prog_18_method_4_code 0 (.invokestatic 43) 3 3 := ⟨by decide +kernel, rfl⟩
theorem pd_2 : parseMethodDescriptor "()[Lcom/example/indie_lease/indielease/model/LicenseStatus;" = some ⟨[], some (.array (.object "com/example/indie_lease/indielease/model/LicenseStatus"))⟩ := by decide +kernel
theorem d9_3 : Dc prog_18_method_4_code 3 (.astore_n 1) 1 4 := ⟨by decide +kernel, rfl⟩
theorem d9_4 : Dc prog_18_method_4_code 4 (.aload_n 1) 1 5 := ⟨by decide +kernel, rfl⟩
theorem d9_5 : Dc prog_18_method_4_code 5 (.arraylength) 1 6 := ⟨by decide +kernel, rfl⟩
theorem d9_6 : Dc prog_18_method_4_code 6 (.istore_n 2) 1 7 := ⟨by decide +kernel, rfl⟩
theorem d9_7 : Dc prog_18_method_4_code 7 (.iconst 0) 1 8 := ⟨by decide +kernel, rfl⟩
theorem d9_8 : Dc prog_18_method_4_code 8 (.istore_n 3) 1 9 := ⟨by decide +kernel, rfl⟩
theorem d9_9 : Dc prog_18_method_4_code 9 (.iload_n 3) 1 10 := ⟨by decide +kernel, rfl⟩
theorem d9_10 : Dc prog_18_method_4_code 10 (.iload_n 2) 1 11 := ⟨by decide +kernel, rfl⟩
theorem d9_11 : Dj prog_18_method_4_code 11 (.if_icmp .ge 29) 29 3 14 40 := ⟨by decide +kernel, rfl, by decide, by decide⟩
theorem d9_14 : Dc prog_18_method_4_code 14 (.aload_n 1) 1 15 := ⟨by decide +kernel, rfl⟩
theorem d9_15 : Dc prog_18_method_4_code 15 (.iload_n 3) 1 16 := ⟨by decide +kernel, rfl⟩
theorem d9_16 : Dc prog_18_method_4_code 16 (.aaload) 1 17 := ⟨by decide +kernel, rfl⟩
theorem d9_17 : Dc prog_18_method_4_code 17 (.astore 4) 2 19 := ⟨by decide +kernel, rfl⟩
theorem d9_19 : Dc prog_18_method_4_code 19 (.aload 4) 2 21 := ⟨by decide +kernel, rfl⟩
theorem d9_21 : Dc prog_18_method_4_code 21 (.getfield 35) 3 24 := ⟨by decide +kernel, rfl⟩
theorem d9_24 : Dc prog_18_method_4_code 24 (.aload_n 0) 1 25 := ⟨by decide +kernel, rfl⟩
theorem d9_25 : Dc prog_18_method_4_code 25 (.invokevirtual 47) 3 28 := ⟨by decide +kernel, rfl⟩
theorem pd_3 : parseMethodDescriptor "(Ljava/lang/Object;)Z" = some ⟨[(.object "java/lang/Object")], some .boolean⟩ := by decide +kernel
theorem d9_28 : Dj prog_18_method_4_code 28 (.ifCond .eq 6) 6 3 31 34 := ⟨by decide +kernel, rfl, by decide, by decide⟩
theorem d9_31 : Dc prog_18_method_4_code 31 (.aload 4) 2 33 := ⟨by decide +kernel, rfl⟩
theorem d9_33 : Dc prog_18_method_4_code 33 (.areturn) 1 34 := ⟨by decide +kernel, rfl⟩
theorem d9_34 : Dc prog_18_method_4_code 34 (.iinc 3 1) 3 37 := ⟨by decide +kernel, rfl⟩
theorem d9_37 : Dj prog_18_method_4_code 37 (.goto (-28)) (-28) 3 40 9 := ⟨by decide +kernel, rfl, by decide, by decide⟩
theorem d9_40 : Dc prog_18_method_4_code 40 (.aconst_null) 1 41 := ⟨by decide +kernel, rfl⟩
theorem d9_41 : Dc prog_18_method_4_code 41 (.areturn) 1 42 := ⟨by decide +kernel, rfl⟩
theorem roC (l : Launch) {Z : State} {a0 : Array Value} (hw : ∀ d ∈ tables_1, d.before a0 Z = true) {h : Heap} (hE : Ext Z.heap h) (x : Addr) (p_1 p_7 p_11 p_15 p_19 p_23 p_27 p_31 p_35 p_40 p_46 p_52 p_58 : Addr) (k_64 k_66 k_68 k_70 k_72 : ClassId) (z_ : Int32) (SZ : Sta Z Z.heap "java/lang/String" "COMPACT_STRINGS" "Z" (.int z_)) (hz : ¬ z_ = 0) (t : Addr) (kb : ClassId) (N_ : Int32) (vs : List Value) (cs : List Int32) (S_3 : Sta Z Z.heap "com/example/indie_lease/indielease/model/LicenseStatus" "$VALUES" "[Lcom/example/indie_lease/indielease/model/LicenseStatus;" (.ref p_1)) (E_6 : Exa Z Z.heap p_1 "[Lcom/example/indie_lease/indielease/model/LicenseStatus;") (S_9 : Sta Z Z.heap "com/example/indie_lease/indielease/model/LicenseStatus" "ACTIVE" "Lcom/example/indie_lease/indielease/model/LicenseStatus;" (.ref p_7)) (E_10 : Exa Z Z.heap p_7 "com/example/indie_lease/indielease/model/LicenseStatus") (S_13 : Sta Z Z.heap "com/example/indie_lease/indielease/model/LicenseStatus" "FALLBACK" "Lcom/example/indie_lease/indielease/model/LicenseStatus;" (.ref p_11)) (E_14 : Exa Z Z.heap p_11 "com/example/indie_lease/indielease/model/LicenseStatus") (S_17 : Sta Z Z.heap "com/example/indie_lease/indielease/model/LicenseStatus" "EXPIRED" "Lcom/example/indie_lease/indielease/model/LicenseStatus;" (.ref p_15)) (E_18 : Exa Z Z.heap p_15 "com/example/indie_lease/indielease/model/LicenseStatus") (S_21 : Sta Z Z.heap "com/example/indie_lease/indielease/model/LicenseStatus" "REVOKED" "Lcom/example/indie_lease/indielease/model/LicenseStatus;" (.ref p_19)) (E_22 : Exa Z Z.heap p_19 "com/example/indie_lease/indielease/model/LicenseStatus") (F_25 : Fld Z Z.heap p_7 "com/example/indie_lease/indielease/model/LicenseStatus" "code" "Ljava/lang/String;" (.ref p_23)) (E_26 : Exa Z Z.heap p_23 "java/lang/String") (F_29 : Fld Z Z.heap p_11 "com/example/indie_lease/indielease/model/LicenseStatus" "code" "Ljava/lang/String;" (.ref p_27)) (E_30 : Exa Z Z.heap p_27 "java/lang/String") (F_33 : Fld Z Z.heap p_15 "com/example/indie_lease/indielease/model/LicenseStatus" "code" "Ljava/lang/String;" (.ref p_31)) (E_34 : Exa Z Z.heap p_31 "java/lang/String") (F_37 : Fld Z Z.heap p_19 "com/example/indie_lease/indielease/model/LicenseStatus" "code" "Ljava/lang/String;" (.ref p_35)) (E_38 : Exa Z Z.heap p_35 "java/lang/String") (F_39 : Fld Z Z.heap p_23 "java/lang/String" "coder" "B" (.int 0)) (F_42 : Fld Z Z.heap p_23 "java/lang/String" "value" "[B" (.ref p_40)) (F_45 : Fld Z Z.heap p_27 "java/lang/String" "coder" "B" (.int 0)) (F_48 : Fld Z Z.heap p_27 "java/lang/String" "value" "[B" (.ref p_46)) (F_51 : Fld Z Z.heap p_31 "java/lang/String" "coder" "B" (.int 0)) (F_54 : Fld Z Z.heap p_31 "java/lang/String" "value" "[B" (.ref p_52)) (F_57 : Fld Z Z.heap p_35 "java/lang/String" "coder" "B" (.int 0)) (F_60 : Fld Z Z.heap p_35 "java/lang/String" "value" "[B" (.ref p_58)) (V_63 : Arv Z Z.heap p_1 k_64 (.object "com/example/indie_lease/indielease/model/LicenseStatus") 4 [(.ref p_7), (.ref p_11), (.ref p_15), (.ref p_19)] .null) (V_65 : Arv Z Z.heap p_40 k_66 .byte 6 [(.int 97), (.int 99), (.int 116), (.int 105), (.int 118), (.int 101)] (.int 0)) (V_67 : Arv Z Z.heap p_46 k_68 .byte 8 [(.int 102), (.int 97), (.int 108), (.int 108), (.int 98), (.int 97), (.int 99), (.int 107)] (.int 0)) (V_69 : Arv Z Z.heap p_52 k_70 .byte 7 [(.int 101), (.int 120), (.int 112), (.int 105), (.int 114), (.int 101), (.int 100)] (.int 0)) (V_71 : Arv Z Z.heap p_58 k_72 .byte 7 [(.int 114), (.int 101), (.int 118), (.int 111), (.int 107), (.int 101), (.int 100)] (.int 0)) (EX : Exa Z h x "java/lang/String") (FC : Fld Z h x "java/lang/String" "coder" "B" (.int (0 : Int32))) (FV : Fld Z h x "java/lang/String" "value" "[B" (.ref t)) (VT : Arv Z h t kb .byte N_ vs (.int (0 : Int32))) (hc : StrChars.Road.CodA cs 0 N_ vs) (hs : ∀ c ∈ cs, ¬ c < 0 ∧ ¬ (255 : Int32) < c) (hl : cs.length ≤ 4000) :
    Con l (⟨"com/example/indie_lease/indielease/model/LicenseStatus", "ofCode", "(Ljava/lang/String;)Lcom/example/indie_lease/indielease/model/LicenseStatus;"⟩ : MethodName) prog_18_method_4_code 5 (some (.object "com/example/indie_lease/indielease/model/LicenseStatus")) [] ({ frames := 3, cells := 1, slots := 4, locals := 44 } : Room) Z #[(.ref x)] h (fun v' h' => v' = some (if cs = [(97 : Int32), (99 : Int32), (116 : Int32), (105 : Int32), (118 : Int32), (101 : Int32)] then .ref p_7 else (if cs = [(102 : Int32), (97 : Int32), (108 : Int32), (108 : Int32), (98 : Int32), (97 : Int32), (99 : Int32), (107 : Int32)] then .ref p_11 else (if cs = [(101 : Int32), (120 : Int32), (112 : Int32), (105 : Int32), (114 : Int32), (101 : Int32), (100 : Int32)] then .ref p_15 else (if cs = [(114 : Int32), (101 : Int32), (118 : Int32), (111 : Int32), (107 : Int32), (101 : Int32), (100 : Int32)] then .ref p_19 else .null)))) ∧ Ext h h') := by
  refine con_of (plainFor_of_name pn_2) hE (fun m => ef_roC m x) ?_
  intro p e s m below meth c T0 C X0
  have C : Cx p s m meth c Z "com/example/indie_lease/indielease/model/LicenseStatus" "ofCode" prog_18_method_4_code 5 (some (.object "com/example/indie_lease/indielease/model/LicenseStatus")) := C
  show Goes p e below _ T0 (mkF m 0 #[.val (.ref x), .unset, .unset, .unset, .unset] [])
  refine g_static (argsL := []) (st := []) C X0 (wd hw 53 rfl) (wd hw 54 rfl) (wd hw 51 rfl) (wd hw 55 rfl) (by decide) (pay_of (W' := 0) (rVal l hw X0.ext p_1 p_7 p_11 p_15 p_19 p_23 p_27 p_31 p_35 p_40 p_46 p_52 p_58 k_64 k_66 k_68 k_70 k_72 S_3 E_6 S_9 E_10 S_13 E_14 S_17 E_18 S_21 E_22 F_25 E_26 F_29 E_30 F_33 E_34 F_37 E_38 F_39 F_42 F_45 F_48 F_51 F_54 F_57 F_60 V_63 V_65 V_67 V_69 V_71) C.hZ (wd hw 55 rfl) (wd hw 51 rfl) (by decide) (by decide)) pd_2 rfl rfl _ rfl (Nat.le_of_eq rfl) d9_0 (by decide) (by decide) (fun T91 h91 v91 q91 X91 => ?_)
  obtain ⟨b91, rfl, n_b91, g91, E91, V91⟩ := q91
  show Goes p e below _ T91 (mkF m 3 #[.val (.ref x), .unset, .unset, .unset, .unset] [(.ref b91)])
  refine g_astoreN C X91 d9_3 rfl (l' := #[.val (.ref x), .val (.ref b91), .unset, .unset, .unset]) rfl (g_aloadN C X91 d9_4 rfl rfl (g_arraylength C X91 V91 d9_5 (g_istoreN C X91 d9_6 (l' := #[.val (.ref x), .val (.ref b91), .val (.int 4), .unset, .unset]) rfl (g_iconst 0 C X91 d9_7 rfl (g_istoreN C X91 d9_8 (l' := #[.val (.ref x), .val (.ref b91), .val (.int 4), .val (.int 0), .unset]) rfl (g_iloadN C X91 d9_9 rfl (g_iloadN C X91 d9_10 rfl (g_icmpn (hI_ge _ _) C X91 d9_11 (fun q => absurd (by decide) q) (fun _ => ?_)))))))))
  refine g_aloadN C X91 d9_14 rfl rfl (g_iloadN C X91 d9_15 rfl (g_aaload C X91 V91 rfl d9_16 (by decide) (by decide) rfl (g_astore C X91 d9_17 rfl (l' := #[.val (.ref x), .val (.ref b91), .val (.int 4), .val (.int 0), .val (.ref p_7)]) rfl (g_aload C X91 d9_19 rfl rfl (g_getfield (host := "") C X91 (Or.inl (wd hw 72 rfl)) Via.refl (Fld.ext X91.ext F_25) d9_21 (fun T92 X92 => ?_))))))
  refine g_aloadN C X92 d9_24 rfl rfl ?_
  by_cases q93 : [(97 : Int32), (99 : Int32), (116 : Int32), (105 : Int32), (118 : Int32), (101 : Int32)] = cs
  · have f95 := (Exa.ext E91 EX)
    have f96 := (Fld.ext E91 FV)
    have f97 := (Fld.ext E91 FC)
    have f98 := (Arv.ext VT E91)
    refine g_virtualP (argsL := [(.ref x)]) (st := []) C X92 (wd hw 74 rfl) (wd hw 75 rfl) (nf_of C (wd hw 77 rfl) rfl rfl) (wd hw 77 rfl) (wd hw 76 rfl) (by decide) (Exa.ext X92.ext E_26) (payEq (W' := 0) C.hZ X92.ext (own_wordsEq hw) (kI := 4) (wd hw 2 rfl) (cs := [(97 : Int32), (99 : Int32), (116 : Int32), (105 : Int32), (118 : Int32), (101 : Int32)]) (Exa.ext X92.ext E_26) (Fld.ext X92.ext F_42) (Fld.ext X92.ext F_39) (Arv.ext V_65 X92.ext) (own_cod rfl rfl (by decide)) (by decide) (by decide) (ds := cs) f95 f96 f97 f98 hc hs hl SZ hz (by decide) (by decide) 1 (fun _ => rfl) (fun q => absurd q93 q)) pd_3 rfl rfl _ rfl (Nat.le_of_eq rfl) d9_25 (by decide) (by decide) (fun T94 X94 => ?_)
    refine g_if (h0_eq _) C X94 d9_28 (fun q => absurd q (by decide)) (fun _ => ?_)
    refine g_aload C X94 d9_31 rfl rfl ?_
    have kp99 := (Keep.refl h []).ext E91
    exact g_retA C X94 rfl rfl d9_33 (by decide) (by decide) ⟨by rw [if_pos (Eq.symm q93)], keep_ext kp99⟩
  · have f101 := (Exa.ext E91 EX)
    have f102 := (Fld.ext E91 FV)
    have f103 := (Fld.ext E91 FC)
    have f104 := (Arv.ext VT E91)
    refine g_virtualP (argsL := [(.ref x)]) (st := []) C X92 (wd hw 74 rfl) (wd hw 75 rfl) (nf_of C (wd hw 77 rfl) rfl rfl) (wd hw 77 rfl) (wd hw 76 rfl) (by decide) (Exa.ext X92.ext E_26) (payEq (W' := 0) C.hZ X92.ext (own_wordsEq hw) (kI := 4) (wd hw 2 rfl) (cs := [(97 : Int32), (99 : Int32), (116 : Int32), (105 : Int32), (118 : Int32), (101 : Int32)]) (Exa.ext X92.ext E_26) (Fld.ext X92.ext F_42) (Fld.ext X92.ext F_39) (Arv.ext V_65 X92.ext) (own_cod rfl rfl (by decide)) (by decide) (by decide) (ds := cs) f101 f102 f103 f104 hc hs hl SZ hz (by decide) (by decide) 0 (fun q => absurd q q93) (fun _ => rfl)) pd_3 rfl rfl _ rfl (Nat.le_of_eq rfl) d9_25 (by decide) (by decide) (fun T100 X100 => ?_)
    refine g_if (h0_eq _) C X100 d9_28 (fun _ => ?_) (fun q => absurd (by decide) q)
    refine g_iinc 1 C X100 d9_34 rfl rfl (l' := #[.val (.ref x), .val (.ref b91), .val (.int 4), .val (.int 1), .val (.ref p_7)]) rfl (g_goto C X100 d9_37 (g_iloadN C X100 d9_9 rfl (g_iloadN C X100 d9_10 rfl (g_icmpn (hI_ge _ _) C X100 d9_11 (fun q => absurd (by decide) q) (fun _ => ?_)))))
    refine g_aloadN C X100 d9_14 rfl rfl (g_iloadN C X100 d9_15 rfl (g_aaload C X100 V91 rfl d9_16 (by decide) (by decide) rfl (g_astore C X100 d9_17 rfl (l' := #[.val (.ref x), .val (.ref b91), .val (.int 4), .val (.int 1), .val (.ref p_11)]) rfl (g_aload C X100 d9_19 rfl rfl (g_getfield (host := "") C X100 (Or.inl (wd hw 72 rfl)) Via.refl (Fld.ext X100.ext F_29) d9_21 (fun T105 X105 => ?_))))))
    refine g_aloadN C X105 d9_24 rfl rfl ?_
    by_cases q106 : [(102 : Int32), (97 : Int32), (108 : Int32), (108 : Int32), (98 : Int32), (97 : Int32), (99 : Int32), (107 : Int32)] = cs
    · refine g_virtualP (argsL := [(.ref x)]) (st := []) C X105 (wd hw 74 rfl) (wd hw 75 rfl) (nf_of C (wd hw 77 rfl) rfl rfl) (wd hw 77 rfl) (wd hw 76 rfl) (by decide) (Exa.ext X105.ext E_30) (payEq (W' := 0) C.hZ X105.ext (own_wordsEq hw) (kI := 4) (wd hw 2 rfl) (cs := [(102 : Int32), (97 : Int32), (108 : Int32), (108 : Int32), (98 : Int32), (97 : Int32), (99 : Int32), (107 : Int32)]) (Exa.ext X105.ext E_30) (Fld.ext X105.ext F_48) (Fld.ext X105.ext F_45) (Arv.ext V_67 X105.ext) (own_cod rfl rfl (by decide)) (by decide) (by decide) (ds := cs) f101 f102 f103 f104 hc hs hl SZ hz (by decide) (by decide) 1 (fun _ => rfl) (fun q => absurd q106 q)) pd_3 rfl rfl _ rfl (Nat.le_of_eq rfl) d9_25 (by decide) (by decide) (fun T107 X107 => ?_)
      refine g_if (h0_eq _) C X107 d9_28 (fun q => absurd q (by decide)) (fun _ => ?_)
      refine g_aload C X107 d9_31 rfl rfl ?_
      have kp108 := (Keep.refl h []).ext E91
      exact g_retA C X107 rfl rfl d9_33 (by decide) (by decide) ⟨by rw [if_neg (Ne.symm q93), if_pos (Eq.symm q106)], keep_ext kp108⟩
    · refine g_virtualP (argsL := [(.ref x)]) (st := []) C X105 (wd hw 74 rfl) (wd hw 75 rfl) (nf_of C (wd hw 77 rfl) rfl rfl) (wd hw 77 rfl) (wd hw 76 rfl) (by decide) (Exa.ext X105.ext E_30) (payEq (W' := 0) C.hZ X105.ext (own_wordsEq hw) (kI := 4) (wd hw 2 rfl) (cs := [(102 : Int32), (97 : Int32), (108 : Int32), (108 : Int32), (98 : Int32), (97 : Int32), (99 : Int32), (107 : Int32)]) (Exa.ext X105.ext E_30) (Fld.ext X105.ext F_48) (Fld.ext X105.ext F_45) (Arv.ext V_67 X105.ext) (own_cod rfl rfl (by decide)) (by decide) (by decide) (ds := cs) f101 f102 f103 f104 hc hs hl SZ hz (by decide) (by decide) 0 (fun q => absurd q q106) (fun _ => rfl)) pd_3 rfl rfl _ rfl (Nat.le_of_eq rfl) d9_25 (by decide) (by decide) (fun T109 X109 => ?_)
      refine g_if (h0_eq _) C X109 d9_28 (fun _ => ?_) (fun q => absurd (by decide) q)
      refine g_iinc 1 C X109 d9_34 rfl rfl (l' := #[.val (.ref x), .val (.ref b91), .val (.int 4), .val (.int 2), .val (.ref p_11)]) rfl (g_goto C X109 d9_37 (g_iloadN C X109 d9_9 rfl (g_iloadN C X109 d9_10 rfl (g_icmpn (hI_ge _ _) C X109 d9_11 (fun q => absurd (by decide) q) (fun _ => ?_)))))
      refine g_aloadN C X109 d9_14 rfl rfl (g_iloadN C X109 d9_15 rfl (g_aaload C X109 V91 rfl d9_16 (by decide) (by decide) rfl (g_astore C X109 d9_17 rfl (l' := #[.val (.ref x), .val (.ref b91), .val (.int 4), .val (.int 2), .val (.ref p_15)]) rfl (g_aload C X109 d9_19 rfl rfl (g_getfield (host := "") C X109 (Or.inl (wd hw 72 rfl)) Via.refl (Fld.ext X109.ext F_33) d9_21 (fun T110 X110 => ?_))))))
      refine g_aloadN C X110 d9_24 rfl rfl ?_
      by_cases q111 : [(101 : Int32), (120 : Int32), (112 : Int32), (105 : Int32), (114 : Int32), (101 : Int32), (100 : Int32)] = cs
      · refine g_virtualP (argsL := [(.ref x)]) (st := []) C X110 (wd hw 74 rfl) (wd hw 75 rfl) (nf_of C (wd hw 77 rfl) rfl rfl) (wd hw 77 rfl) (wd hw 76 rfl) (by decide) (Exa.ext X110.ext E_34) (payEq (W' := 0) C.hZ X110.ext (own_wordsEq hw) (kI := 4) (wd hw 2 rfl) (cs := [(101 : Int32), (120 : Int32), (112 : Int32), (105 : Int32), (114 : Int32), (101 : Int32), (100 : Int32)]) (Exa.ext X110.ext E_34) (Fld.ext X110.ext F_54) (Fld.ext X110.ext F_51) (Arv.ext V_69 X110.ext) (own_cod rfl rfl (by decide)) (by decide) (by decide) (ds := cs) f101 f102 f103 f104 hc hs hl SZ hz (by decide) (by decide) 1 (fun _ => rfl) (fun q => absurd q111 q)) pd_3 rfl rfl _ rfl (Nat.le_of_eq rfl) d9_25 (by decide) (by decide) (fun T112 X112 => ?_)
        refine g_if (h0_eq _) C X112 d9_28 (fun q => absurd q (by decide)) (fun _ => ?_)
        refine g_aload C X112 d9_31 rfl rfl ?_
        have kp113 := (Keep.refl h []).ext E91
        exact g_retA C X112 rfl rfl d9_33 (by decide) (by decide) ⟨by rw [if_neg (Ne.symm q93), if_neg (Ne.symm q106), if_pos (Eq.symm q111)], keep_ext kp113⟩
      · refine g_virtualP (argsL := [(.ref x)]) (st := []) C X110 (wd hw 74 rfl) (wd hw 75 rfl) (nf_of C (wd hw 77 rfl) rfl rfl) (wd hw 77 rfl) (wd hw 76 rfl) (by decide) (Exa.ext X110.ext E_34) (payEq (W' := 0) C.hZ X110.ext (own_wordsEq hw) (kI := 4) (wd hw 2 rfl) (cs := [(101 : Int32), (120 : Int32), (112 : Int32), (105 : Int32), (114 : Int32), (101 : Int32), (100 : Int32)]) (Exa.ext X110.ext E_34) (Fld.ext X110.ext F_54) (Fld.ext X110.ext F_51) (Arv.ext V_69 X110.ext) (own_cod rfl rfl (by decide)) (by decide) (by decide) (ds := cs) f101 f102 f103 f104 hc hs hl SZ hz (by decide) (by decide) 0 (fun q => absurd q q111) (fun _ => rfl)) pd_3 rfl rfl _ rfl (Nat.le_of_eq rfl) d9_25 (by decide) (by decide) (fun T114 X114 => ?_)
        refine g_if (h0_eq _) C X114 d9_28 (fun _ => ?_) (fun q => absurd (by decide) q)
        refine g_iinc 1 C X114 d9_34 rfl rfl (l' := #[.val (.ref x), .val (.ref b91), .val (.int 4), .val (.int 3), .val (.ref p_15)]) rfl (g_goto C X114 d9_37 (g_iloadN C X114 d9_9 rfl (g_iloadN C X114 d9_10 rfl (g_icmpn (hI_ge _ _) C X114 d9_11 (fun q => absurd (by decide) q) (fun _ => ?_)))))
        refine g_aloadN C X114 d9_14 rfl rfl (g_iloadN C X114 d9_15 rfl (g_aaload C X114 V91 rfl d9_16 (by decide) (by decide) rfl (g_astore C X114 d9_17 rfl (l' := #[.val (.ref x), .val (.ref b91), .val (.int 4), .val (.int 3), .val (.ref p_19)]) rfl (g_aload C X114 d9_19 rfl rfl (g_getfield (host := "") C X114 (Or.inl (wd hw 72 rfl)) Via.refl (Fld.ext X114.ext F_37) d9_21 (fun T115 X115 => ?_))))))
        refine g_aloadN C X115 d9_24 rfl rfl ?_
        by_cases q116 : [(114 : Int32), (101 : Int32), (118 : Int32), (111 : Int32), (107 : Int32), (101 : Int32), (100 : Int32)] = cs
        · refine g_virtualP (argsL := [(.ref x)]) (st := []) C X115 (wd hw 74 rfl) (wd hw 75 rfl) (nf_of C (wd hw 77 rfl) rfl rfl) (wd hw 77 rfl) (wd hw 76 rfl) (by decide) (Exa.ext X115.ext E_38) (payEq (W' := 0) C.hZ X115.ext (own_wordsEq hw) (kI := 4) (wd hw 2 rfl) (cs := [(114 : Int32), (101 : Int32), (118 : Int32), (111 : Int32), (107 : Int32), (101 : Int32), (100 : Int32)]) (Exa.ext X115.ext E_38) (Fld.ext X115.ext F_60) (Fld.ext X115.ext F_57) (Arv.ext V_71 X115.ext) (own_cod rfl rfl (by decide)) (by decide) (by decide) (ds := cs) f101 f102 f103 f104 hc hs hl SZ hz (by decide) (by decide) 1 (fun _ => rfl) (fun q => absurd q116 q)) pd_3 rfl rfl _ rfl (Nat.le_of_eq rfl) d9_25 (by decide) (by decide) (fun T117 X117 => ?_)
          refine g_if (h0_eq _) C X117 d9_28 (fun q => absurd q (by decide)) (fun _ => ?_)
          refine g_aload C X117 d9_31 rfl rfl ?_
          have kp118 := (Keep.refl h []).ext E91
          exact g_retA C X117 rfl rfl d9_33 (by decide) (by decide) ⟨by rw [if_neg (Ne.symm q93), if_neg (Ne.symm q106), if_neg (Ne.symm q111), if_pos (Eq.symm q116)], keep_ext kp118⟩
        · refine g_virtualP (argsL := [(.ref x)]) (st := []) C X115 (wd hw 74 rfl) (wd hw 75 rfl) (nf_of C (wd hw 77 rfl) rfl rfl) (wd hw 77 rfl) (wd hw 76 rfl) (by decide) (Exa.ext X115.ext E_38) (payEq (W' := 0) C.hZ X115.ext (own_wordsEq hw) (kI := 4) (wd hw 2 rfl) (cs := [(114 : Int32), (101 : Int32), (118 : Int32), (111 : Int32), (107 : Int32), (101 : Int32), (100 : Int32)]) (Exa.ext X115.ext E_38) (Fld.ext X115.ext F_60) (Fld.ext X115.ext F_57) (Arv.ext V_71 X115.ext) (own_cod rfl rfl (by decide)) (by decide) (by decide) (ds := cs) f101 f102 f103 f104 hc hs hl SZ hz (by decide) (by decide) 0 (fun q => absurd q q116) (fun _ => rfl)) pd_3 rfl rfl _ rfl (Nat.le_of_eq rfl) d9_25 (by decide) (by decide) (fun T119 X119 => ?_)
          refine g_if (h0_eq _) C X119 d9_28 (fun _ => ?_) (fun q => absurd (by decide) q)
          refine g_iinc 1 C X119 d9_34 rfl rfl (l' := #[.val (.ref x), .val (.ref b91), .val (.int 4), .val (.int 4), .val (.ref p_19)]) rfl (g_goto C X119 d9_37 (g_iloadN C X119 d9_9 rfl (g_iloadN C X119 d9_10 rfl (g_icmpn (hI_ge _ _) C X119 d9_11 (fun _ => ?_) (fun q => absurd q (by decide))))))
          refine g_aconst_null C X119 d9_40 ?_
          have kp120 := (Keep.refl h []).ext E91
          exact g_retA C X119 rfl rfl d9_41 (by decide) (by decide) ⟨by rw [if_neg (Ne.symm q93), if_neg (Ne.symm q106), if_neg (Ne.symm q111), if_neg (Ne.symm q116)], keep_ext kp120⟩
theorem ef_roN (m : MethodId)  : entryFrame m #[.null] 5 = mkF m 0 #[.val .null, .unset, .unset, .unset, .unset] [] := by first | (simp [entryFrame, mkF, argsToLocals, Value.category]; done) | rfl
theorem roN (l : Launch) {Z : State} {a0 : Array Value} (hw : ∀ d ∈ tables_1, d.before a0 Z = true) {h : Heap} (hE : Ext Z.heap h)  (p_1 p_7 p_11 p_15 p_19 p_23 p_27 p_31 p_35 p_40 p_46 p_52 p_58 : Addr) (k_64 k_66 k_68 k_70 k_72 : ClassId) (S_3 : Sta Z Z.heap "com/example/indie_lease/indielease/model/LicenseStatus" "$VALUES" "[Lcom/example/indie_lease/indielease/model/LicenseStatus;" (.ref p_1)) (E_6 : Exa Z Z.heap p_1 "[Lcom/example/indie_lease/indielease/model/LicenseStatus;") (S_9 : Sta Z Z.heap "com/example/indie_lease/indielease/model/LicenseStatus" "ACTIVE" "Lcom/example/indie_lease/indielease/model/LicenseStatus;" (.ref p_7)) (E_10 : Exa Z Z.heap p_7 "com/example/indie_lease/indielease/model/LicenseStatus") (S_13 : Sta Z Z.heap "com/example/indie_lease/indielease/model/LicenseStatus" "FALLBACK" "Lcom/example/indie_lease/indielease/model/LicenseStatus;" (.ref p_11)) (E_14 : Exa Z Z.heap p_11 "com/example/indie_lease/indielease/model/LicenseStatus") (S_17 : Sta Z Z.heap "com/example/indie_lease/indielease/model/LicenseStatus" "EXPIRED" "Lcom/example/indie_lease/indielease/model/LicenseStatus;" (.ref p_15)) (E_18 : Exa Z Z.heap p_15 "com/example/indie_lease/indielease/model/LicenseStatus") (S_21 : Sta Z Z.heap "com/example/indie_lease/indielease/model/LicenseStatus" "REVOKED" "Lcom/example/indie_lease/indielease/model/LicenseStatus;" (.ref p_19)) (E_22 : Exa Z Z.heap p_19 "com/example/indie_lease/indielease/model/LicenseStatus") (F_25 : Fld Z Z.heap p_7 "com/example/indie_lease/indielease/model/LicenseStatus" "code" "Ljava/lang/String;" (.ref p_23)) (E_26 : Exa Z Z.heap p_23 "java/lang/String") (F_29 : Fld Z Z.heap p_11 "com/example/indie_lease/indielease/model/LicenseStatus" "code" "Ljava/lang/String;" (.ref p_27)) (E_30 : Exa Z Z.heap p_27 "java/lang/String") (F_33 : Fld Z Z.heap p_15 "com/example/indie_lease/indielease/model/LicenseStatus" "code" "Ljava/lang/String;" (.ref p_31)) (E_34 : Exa Z Z.heap p_31 "java/lang/String") (F_37 : Fld Z Z.heap p_19 "com/example/indie_lease/indielease/model/LicenseStatus" "code" "Ljava/lang/String;" (.ref p_35)) (E_38 : Exa Z Z.heap p_35 "java/lang/String") (F_39 : Fld Z Z.heap p_23 "java/lang/String" "coder" "B" (.int 0)) (F_42 : Fld Z Z.heap p_23 "java/lang/String" "value" "[B" (.ref p_40)) (F_45 : Fld Z Z.heap p_27 "java/lang/String" "coder" "B" (.int 0)) (F_48 : Fld Z Z.heap p_27 "java/lang/String" "value" "[B" (.ref p_46)) (F_51 : Fld Z Z.heap p_31 "java/lang/String" "coder" "B" (.int 0)) (F_54 : Fld Z Z.heap p_31 "java/lang/String" "value" "[B" (.ref p_52)) (F_57 : Fld Z Z.heap p_35 "java/lang/String" "coder" "B" (.int 0)) (F_60 : Fld Z Z.heap p_35 "java/lang/String" "value" "[B" (.ref p_58)) (V_63 : Arv Z Z.heap p_1 k_64 (.object "com/example/indie_lease/indielease/model/LicenseStatus") 4 [(.ref p_7), (.ref p_11), (.ref p_15), (.ref p_19)] .null) (V_65 : Arv Z Z.heap p_40 k_66 .byte 6 [(.int 97), (.int 99), (.int 116), (.int 105), (.int 118), (.int 101)] (.int 0)) (V_67 : Arv Z Z.heap p_46 k_68 .byte 8 [(.int 102), (.int 97), (.int 108), (.int 108), (.int 98), (.int 97), (.int 99), (.int 107)] (.int 0)) (V_69 : Arv Z Z.heap p_52 k_70 .byte 7 [(.int 101), (.int 120), (.int 112), (.int 105), (.int 114), (.int 101), (.int 100)] (.int 0)) (V_71 : Arv Z Z.heap p_58 k_72 .byte 7 [(.int 114), (.int 101), (.int 118), (.int 111), (.int 107), (.int 101), (.int 100)] (.int 0)) :
    Con l (⟨"com/example/indie_lease/indielease/model/LicenseStatus", "ofCode", "(Ljava/lang/String;)Lcom/example/indie_lease/indielease/model/LicenseStatus;"⟩ : MethodName) prog_18_method_4_code 5 (some (.object "com/example/indie_lease/indielease/model/LicenseStatus")) [] ({ frames := 3, cells := 1, slots := 4, locals := 44 } : Room) Z #[.null] h (fun v' h' => v' = some .null ∧ Ext h h') := by
  refine con_of (plainFor_of_name pn_2) hE (fun m => ef_roN m ) ?_
  intro p e s m below meth c T0 C X0
  have C : Cx p s m meth c Z "com/example/indie_lease/indielease/model/LicenseStatus" "ofCode" prog_18_method_4_code 5 (some (.object "com/example/indie_lease/indielease/model/LicenseStatus")) := C
  show Goes p e below _ T0 (mkF m 0 #[.val .null, .unset, .unset, .unset, .unset] [])
  refine g_static (argsL := []) (st := []) C X0 (wd hw 53 rfl) (wd hw 54 rfl) (wd hw 51 rfl) (wd hw 55 rfl) (by decide) (pay_of (W' := 0) (rVal l hw X0.ext p_1 p_7 p_11 p_15 p_19 p_23 p_27 p_31 p_35 p_40 p_46 p_52 p_58 k_64 k_66 k_68 k_70 k_72 S_3 E_6 S_9 E_10 S_13 E_14 S_17 E_18 S_21 E_22 F_25 E_26 F_29 E_30 F_33 E_34 F_37 E_38 F_39 F_42 F_45 F_48 F_51 F_54 F_57 F_60 V_63 V_65 V_67 V_69 V_71) C.hZ (wd hw 55 rfl) (wd hw 51 rfl) (by decide) (by decide)) pd_2 rfl rfl _ rfl (Nat.le_of_eq rfl) d9_0 (by decide) (by decide) (fun T121 h121 v121 q121 X121 => ?_)
  obtain ⟨b121, rfl, n_b121, g121, E121, V121⟩ := q121
  show Goes p e below _ T121 (mkF m 3 #[.val .null, .unset, .unset, .unset, .unset] [(.ref b121)])
  refine g_astoreN C X121 d9_3 rfl (l' := #[.val .null, .val (.ref b121), .unset, .unset, .unset]) rfl (g_aloadN C X121 d9_4 rfl rfl (g_arraylength C X121 V121 d9_5 (g_istoreN C X121 d9_6 (l' := #[.val .null, .val (.ref b121), .val (.int 4), .unset, .unset]) rfl (g_iconst 0 C X121 d9_7 rfl (g_istoreN C X121 d9_8 (l' := #[.val .null, .val (.ref b121), .val (.int 4), .val (.int 0), .unset]) rfl (g_iloadN C X121 d9_9 rfl (g_iloadN C X121 d9_10 rfl (g_icmpn (hI_ge _ _) C X121 d9_11 (fun q => absurd (by decide) q) (fun _ => ?_)))))))))
  refine g_aloadN C X121 d9_14 rfl rfl (g_iloadN C X121 d9_15 rfl (g_aaload C X121 V121 rfl d9_16 (by decide) (by decide) rfl (g_astore C X121 d9_17 rfl (l' := #[.val .null, .val (.ref b121), .val (.int 4), .val (.int 0), .val (.ref p_7)]) rfl (g_aload C X121 d9_19 rfl rfl (g_getfield (host := "") C X121 (Or.inl (wd hw 72 rfl)) Via.refl (Fld.ext X121.ext F_25) d9_21 (fun T122 X122 => ?_))))))
  refine g_aloadN C X122 d9_24 rfl rfl (g_virtualP (argsL := [.null]) (st := []) C X122 (wd hw 74 rfl) (wd hw 75 rfl) (nf_of C (wd hw 77 rfl) rfl rfl) (wd hw 77 rfl) (wd hw 76 rfl) (by decide) (Exa.ext X122.ext E_26) (pay_of (W' := 0) (rEqN l hw X122.ext p_23) C.hZ (wd hw 78 rfl) (wd hw 1 rfl) (by decide) (by decide)) pd_3 rfl rfl _ rfl (Nat.le_of_eq rfl) d9_25 (by decide) (by decide) (fun T123 X123 => ?_))
  refine g_if (h0_eq _) C X123 d9_28 (fun _ => ?_) (fun q => absurd (by decide) q)
  refine g_iinc 1 C X123 d9_34 rfl rfl (l' := #[.val .null, .val (.ref b121), .val (.int 4), .val (.int 1), .val (.ref p_7)]) rfl (g_goto C X123 d9_37 (g_iloadN C X123 d9_9 rfl (g_iloadN C X123 d9_10 rfl (g_icmpn (hI_ge _ _) C X123 d9_11 (fun q => absurd (by decide) q) (fun _ => ?_)))))
  refine g_aloadN C X123 d9_14 rfl rfl (g_iloadN C X123 d9_15 rfl (g_aaload C X123 V121 rfl d9_16 (by decide) (by decide) rfl (g_astore C X123 d9_17 rfl (l' := #[.val .null, .val (.ref b121), .val (.int 4), .val (.int 1), .val (.ref p_11)]) rfl (g_aload C X123 d9_19 rfl rfl (g_getfield (host := "") C X123 (Or.inl (wd hw 72 rfl)) Via.refl (Fld.ext X123.ext F_29) d9_21 (fun T124 X124 => ?_))))))
  refine g_aloadN C X124 d9_24 rfl rfl (g_virtualP (argsL := [.null]) (st := []) C X124 (wd hw 74 rfl) (wd hw 75 rfl) (nf_of C (wd hw 77 rfl) rfl rfl) (wd hw 77 rfl) (wd hw 76 rfl) (by decide) (Exa.ext X124.ext E_30) (pay_of (W' := 0) (rEqN l hw X124.ext p_27) C.hZ (wd hw 78 rfl) (wd hw 1 rfl) (by decide) (by decide)) pd_3 rfl rfl _ rfl (Nat.le_of_eq rfl) d9_25 (by decide) (by decide) (fun T125 X125 => ?_))
  refine g_if (h0_eq _) C X125 d9_28 (fun _ => ?_) (fun q => absurd (by decide) q)
  refine g_iinc 1 C X125 d9_34 rfl rfl (l' := #[.val .null, .val (.ref b121), .val (.int 4), .val (.int 2), .val (.ref p_11)]) rfl (g_goto C X125 d9_37 (g_iloadN C X125 d9_9 rfl (g_iloadN C X125 d9_10 rfl (g_icmpn (hI_ge _ _) C X125 d9_11 (fun q => absurd (by decide) q) (fun _ => ?_)))))
  refine g_aloadN C X125 d9_14 rfl rfl (g_iloadN C X125 d9_15 rfl (g_aaload C X125 V121 rfl d9_16 (by decide) (by decide) rfl (g_astore C X125 d9_17 rfl (l' := #[.val .null, .val (.ref b121), .val (.int 4), .val (.int 2), .val (.ref p_15)]) rfl (g_aload C X125 d9_19 rfl rfl (g_getfield (host := "") C X125 (Or.inl (wd hw 72 rfl)) Via.refl (Fld.ext X125.ext F_33) d9_21 (fun T126 X126 => ?_))))))
  refine g_aloadN C X126 d9_24 rfl rfl (g_virtualP (argsL := [.null]) (st := []) C X126 (wd hw 74 rfl) (wd hw 75 rfl) (nf_of C (wd hw 77 rfl) rfl rfl) (wd hw 77 rfl) (wd hw 76 rfl) (by decide) (Exa.ext X126.ext E_34) (pay_of (W' := 0) (rEqN l hw X126.ext p_31) C.hZ (wd hw 78 rfl) (wd hw 1 rfl) (by decide) (by decide)) pd_3 rfl rfl _ rfl (Nat.le_of_eq rfl) d9_25 (by decide) (by decide) (fun T127 X127 => ?_))
  refine g_if (h0_eq _) C X127 d9_28 (fun _ => ?_) (fun q => absurd (by decide) q)
  refine g_iinc 1 C X127 d9_34 rfl rfl (l' := #[.val .null, .val (.ref b121), .val (.int 4), .val (.int 3), .val (.ref p_15)]) rfl (g_goto C X127 d9_37 (g_iloadN C X127 d9_9 rfl (g_iloadN C X127 d9_10 rfl (g_icmpn (hI_ge _ _) C X127 d9_11 (fun q => absurd (by decide) q) (fun _ => ?_)))))
  refine g_aloadN C X127 d9_14 rfl rfl (g_iloadN C X127 d9_15 rfl (g_aaload C X127 V121 rfl d9_16 (by decide) (by decide) rfl (g_astore C X127 d9_17 rfl (l' := #[.val .null, .val (.ref b121), .val (.int 4), .val (.int 3), .val (.ref p_19)]) rfl (g_aload C X127 d9_19 rfl rfl (g_getfield (host := "") C X127 (Or.inl (wd hw 72 rfl)) Via.refl (Fld.ext X127.ext F_37) d9_21 (fun T128 X128 => ?_))))))
  refine g_aloadN C X128 d9_24 rfl rfl (g_virtualP (argsL := [.null]) (st := []) C X128 (wd hw 74 rfl) (wd hw 75 rfl) (nf_of C (wd hw 77 rfl) rfl rfl) (wd hw 77 rfl) (wd hw 76 rfl) (by decide) (Exa.ext X128.ext E_38) (pay_of (W' := 0) (rEqN l hw X128.ext p_35) C.hZ (wd hw 78 rfl) (wd hw 1 rfl) (by decide) (by decide)) pd_3 rfl rfl _ rfl (Nat.le_of_eq rfl) d9_25 (by decide) (by decide) (fun T129 X129 => ?_))
  refine g_if (h0_eq _) C X129 d9_28 (fun _ => ?_) (fun q => absurd (by decide) q)
  refine g_iinc 1 C X129 d9_34 rfl rfl (l' := #[.val .null, .val (.ref b121), .val (.int 4), .val (.int 4), .val (.ref p_19)]) rfl (g_goto C X129 d9_37 (g_iloadN C X129 d9_9 rfl (g_iloadN C X129 d9_10 rfl (g_icmpn (hI_ge _ _) C X129 d9_11 (fun _ => ?_) (fun q => absurd q (by decide))))))
  refine g_aconst_null C X129 d9_40 ?_
  have kp130 := (Keep.refl h []).ext E121
  exact g_retA C X129 rfl rfl d9_41 (by decide) (by decide) ⟨rfl, keep_ext kp130⟩
theorem d0_360 : Dc code 360 (.aload 14) 2 362 := ⟨at_360, rfl⟩
theorem d0_362 : Dj code 362 (.ifnonnull 9) 9 3 365 371 := ⟨at_362, rfl, by decide, by decide⟩
theorem d0_365 : Dc code 365 (.aconst_null) 1 366 := ⟨at_365, rfl⟩
theorem d0_366 : Dc code 366 (.astore 15) 2 368 := ⟨at_366, rfl⟩
theorem d0_368 : Dj code 368 (.goto 78) 78 3 371 446 := ⟨at_368, rfl, by decide, by decide⟩
theorem d0_446 : Dc code 446 (.aload 14) 2 448 := ⟨at_446, rfl⟩
theorem d0_448 : Dc code 448 (.invokestatic 54) 3 451 := ⟨at_448, rfl⟩
theorem pd_4 : parseMethodDescriptor "(Ljava/lang/String;)Lcom/example/indie_lease/indielease/model/LicenseStatus;" = some ⟨[(.object "java/lang/String")], some (.object "com/example/indie_lease/indielease/model/LicenseStatus")⟩ := by decide +kernel
theorem d0_451 : Dc code 451 (.astore 16) 2 453 := ⟨at_451, rfl⟩
theorem d0_453 : Dc code 453 (.aload 16) 2 455 := ⟨at_453, rfl⟩
theorem d0_455 : Dc code 455 (.aload 15) 2 457 := ⟨at_455, rfl⟩
theorem d0_457 : Dj code 457 (.if_acmp .ne 7) 7 3 460 464 := ⟨at_457, rfl, by decide, by decide⟩
theorem d0_460 : Dc code 460 (.iconst 1) 1 461 := ⟨at_460, rfl⟩
theorem d0_461 : Dj code 461 (.goto 4) 4 3 464 465 := ⟨at_461, rfl, by decide, by decide⟩
theorem d0_465 : Dc code 465 (.ireturn) 1 466 := ⟨at_465, rfl⟩
theorem segN {p : Program} {l : Launch} {e : Env} {s : State} {m : MethodId} {A : Array Value} {below : List Frame} {meth : Method} {c : Code} {Z : State} {a0 : Array Value} (hw : ∀ d ∈ tables_1, d.before a0 Z = true) {T0 : State} {h : Heap} {vm0 : Vm} (s0 s1 s2 s3 s4 s5 s6 s7 s8 s9 s10 s11 s12 s13 : Slot) (p_1 p_7 p_11 p_15 p_19 p_23 p_27 p_31 p_35 p_40 p_46 p_52 p_58 : Addr) (k_64 k_66 k_68 k_70 k_72 : ClassId) (z_ : Int32) (SZ : Sta Z Z.heap "java/lang/String" "COMPACT_STRINGS" "Z" (.int z_)) (hz : ¬ z_ = 0) (C : Cx p (s.setVm vm0) m meth c Z "com/example/indie_lease/indielease/model/LicenseStatusOfCodePinLaw" "law" code maxLocals ret) (X0 : St p l e room_1 (s.setVm vm0) m A below meth c Z T0 h 12 200) (I0 : Lits Z consts_1 s vm0 h) (S_3 : Sta Z Z.heap "com/example/indie_lease/indielease/model/LicenseStatus" "$VALUES" "[Lcom/example/indie_lease/indielease/model/LicenseStatus;" (.ref p_1)) (E_6 : Exa Z Z.heap p_1 "[Lcom/example/indie_lease/indielease/model/LicenseStatus;") (S_9 : Sta Z Z.heap "com/example/indie_lease/indielease/model/LicenseStatus" "ACTIVE" "Lcom/example/indie_lease/indielease/model/LicenseStatus;" (.ref p_7)) (E_10 : Exa Z Z.heap p_7 "com/example/indie_lease/indielease/model/LicenseStatus") (S_13 : Sta Z Z.heap "com/example/indie_lease/indielease/model/LicenseStatus" "FALLBACK" "Lcom/example/indie_lease/indielease/model/LicenseStatus;" (.ref p_11)) (E_14 : Exa Z Z.heap p_11 "com/example/indie_lease/indielease/model/LicenseStatus") (S_17 : Sta Z Z.heap "com/example/indie_lease/indielease/model/LicenseStatus" "EXPIRED" "Lcom/example/indie_lease/indielease/model/LicenseStatus;" (.ref p_15)) (E_18 : Exa Z Z.heap p_15 "com/example/indie_lease/indielease/model/LicenseStatus") (S_21 : Sta Z Z.heap "com/example/indie_lease/indielease/model/LicenseStatus" "REVOKED" "Lcom/example/indie_lease/indielease/model/LicenseStatus;" (.ref p_19)) (E_22 : Exa Z Z.heap p_19 "com/example/indie_lease/indielease/model/LicenseStatus") (F_25 : Fld Z Z.heap p_7 "com/example/indie_lease/indielease/model/LicenseStatus" "code" "Ljava/lang/String;" (.ref p_23)) (E_26 : Exa Z Z.heap p_23 "java/lang/String") (F_29 : Fld Z Z.heap p_11 "com/example/indie_lease/indielease/model/LicenseStatus" "code" "Ljava/lang/String;" (.ref p_27)) (E_30 : Exa Z Z.heap p_27 "java/lang/String") (F_33 : Fld Z Z.heap p_15 "com/example/indie_lease/indielease/model/LicenseStatus" "code" "Ljava/lang/String;" (.ref p_31)) (E_34 : Exa Z Z.heap p_31 "java/lang/String") (F_37 : Fld Z Z.heap p_19 "com/example/indie_lease/indielease/model/LicenseStatus" "code" "Ljava/lang/String;" (.ref p_35)) (E_38 : Exa Z Z.heap p_35 "java/lang/String") (F_39 : Fld Z Z.heap p_23 "java/lang/String" "coder" "B" (.int 0)) (F_42 : Fld Z Z.heap p_23 "java/lang/String" "value" "[B" (.ref p_40)) (F_45 : Fld Z Z.heap p_27 "java/lang/String" "coder" "B" (.int 0)) (F_48 : Fld Z Z.heap p_27 "java/lang/String" "value" "[B" (.ref p_46)) (F_51 : Fld Z Z.heap p_31 "java/lang/String" "coder" "B" (.int 0)) (F_54 : Fld Z Z.heap p_31 "java/lang/String" "value" "[B" (.ref p_52)) (F_57 : Fld Z Z.heap p_35 "java/lang/String" "coder" "B" (.int 0)) (F_60 : Fld Z Z.heap p_35 "java/lang/String" "value" "[B" (.ref p_58)) (V_63 : Arv Z Z.heap p_1 k_64 (.object "com/example/indie_lease/indielease/model/LicenseStatus") 4 [(.ref p_7), (.ref p_11), (.ref p_15), (.ref p_19)] .null) (V_65 : Arv Z Z.heap p_40 k_66 .byte 6 [(.int 97), (.int 99), (.int 116), (.int 105), (.int 118), (.int 101)] (.int 0)) (V_67 : Arv Z Z.heap p_46 k_68 .byte 8 [(.int 102), (.int 97), (.int 108), (.int 108), (.int 98), (.int 97), (.int 99), (.int 107)] (.int 0)) (V_69 : Arv Z Z.heap p_52 k_70 .byte 7 [(.int 101), (.int 120), (.int 112), (.int 105), (.int 114), (.int 101), (.int 100)] (.int 0)) (V_71 : Arv Z Z.heap p_58 k_72 .byte 7 [(.int 114), (.int 101), (.int 118), (.int 111), (.int 107), (.int 101), (.int 100)] (.int 0)) :
    Goes p e below (EndL Z consts_1 s 32 5312 (fun v' h' => v' = some (.int 1))) T0 (mkF m 360 #[s0, s1, s2, s3, s4, s5, s6, s7, s8, s9, s10, s11, s12, s13, .val .null, .unset, .unset] []) := by
  refine g_aload C X0 d0_360 rfl rfl (g_ifnonnull C X0 d0_362 rfl (fun q => absurd rfl q) (fun _ => ?_))
  refine g_aconst_null C X0 d0_365 (g_astore C X0 d0_366 rfl (l' := #[s0, s1, s2, s3, s4, s5, s6, s7, s8, s9, s10, s11, s12, s13, .val .null, .val .null, .unset]) rfl (g_goto C X0 d0_368 (g_aload C X0 d0_446 rfl rfl (g_static (argsL := [.null]) (st := []) C X0 (wd hw 49 rfl) (wd hw 50 rfl) (wd hw 51 rfl) (wd hw 52 rfl) (by decide) (pay_of (W' := 0) (roN l hw X0.ext p_1 p_7 p_11 p_15 p_19 p_23 p_27 p_31 p_35 p_40 p_46 p_52 p_58 k_64 k_66 k_68 k_70 k_72 S_3 E_6 S_9 E_10 S_13 E_14 S_17 E_18 S_21 E_22 F_25 E_26 F_29 E_30 F_33 E_34 F_37 E_38 F_39 F_42 F_45 F_48 F_51 F_54 F_57 F_60 V_63 V_65 V_67 V_69 V_71) C.hZ (wd hw 52 rfl) (wd hw 51 rfl) (by decide) (by decide)) pd_4 rfl rfl _ rfl (Nat.le_of_eq rfl) d0_448 (by decide) (by decide) (fun T131 h131 v131 q131 X131 => ?_)))))
  obtain ⟨rfl, E131⟩ := q131
  show Goes p e below _ T131 (mkF m 451 #[s0, s1, s2, s3, s4, s5, s6, s7, s8, s9, s10, s11, s12, s13, .val .null, .val .null, .unset] [.null])
  refine g_astore C X131 d0_451 rfl (l' := #[s0, s1, s2, s3, s4, s5, s6, s7, s8, s9, s10, s11, s12, s13, .val .null, .val .null, .val .null]) rfl (g_aload C X131 d0_453 rfl rfl (g_aload C X131 d0_455 rfl rfl (g_acmpne C X131 d0_457 rfl rfl (fun q => absurd rfl q) (fun _ => ?_))))
  refine g_iconst 1 C X131 d0_460 rfl (g_goto C X131 d0_461 ?_)
  have kp132 := (Keep.refl h []).ext E131
  have I133 := Lits.keep I0 kp132 sf0
  exact goes_L I133 (own_EW hw) C.hZ (g_retN C X131 (by simp) d0_465 (1 : Int32) rfl (by decide) (by decide) ⟨rfl, rfl⟩)
theorem d0_371 : Dc code 371 (.aload 14) 2 373 := ⟨at_371, rfl⟩
theorem d0_373 : Dc code 373 (.ldc 13) 2 375 := ⟨at_373, rfl⟩
theorem d0_375 : Dc code 375 (.invokevirtual 35) 3 378 := ⟨at_375, rfl⟩
theorem d0_378 : Dj code 378 (.ifCond .eq 11) 11 3 381 389 := ⟨at_378, rfl, by decide, by decide⟩
theorem d0_381 : Dc code 381 (.getstatic 39) 3 384 := ⟨at_381, rfl⟩
theorem d0_384 : Dc code 384 (.astore 15) 2 386 := ⟨at_384, rfl⟩
theorem d0_386 : Dj code 386 (.goto 60) 60 3 389 446 := ⟨at_386, rfl, by decide, by decide⟩
theorem d0_389 : Dc code 389 (.aload 14) 2 391 := ⟨at_389, rfl⟩
theorem d0_391 : Dc code 391 (.ldc 15) 2 393 := ⟨at_391, rfl⟩
theorem d0_393 : Dc code 393 (.invokevirtual 35) 3 396 := ⟨at_393, rfl⟩
theorem d0_396 : Dj code 396 (.ifCond .eq 11) 11 3 399 407 := ⟨at_396, rfl, by decide, by decide⟩
theorem d0_399 : Dc code 399 (.getstatic 45) 3 402 := ⟨at_399, rfl⟩
theorem d0_402 : Dc code 402 (.astore 15) 2 404 := ⟨at_402, rfl⟩
theorem d0_404 : Dj code 404 (.goto 42) 42 3 407 446 := ⟨at_404, rfl, by decide, by decide⟩
theorem d0_407 : Dc code 407 (.aload 14) 2 409 := ⟨at_407, rfl⟩
theorem d0_409 : Dc code 409 (.ldc 17) 2 411 := ⟨at_409, rfl⟩
theorem d0_411 : Dc code 411 (.invokevirtual 35) 3 414 := ⟨at_411, rfl⟩
theorem d0_414 : Dj code 414 (.ifCond .eq 11) 11 3 417 425 := ⟨at_414, rfl, by decide, by decide⟩
theorem d0_417 : Dc code 417 (.getstatic 48) 3 420 := ⟨at_417, rfl⟩
theorem d0_420 : Dc code 420 (.astore 15) 2 422 := ⟨at_420, rfl⟩
theorem d0_422 : Dj code 422 (.goto 24) 24 3 425 446 := ⟨at_422, rfl, by decide, by decide⟩
theorem d0_425 : Dc code 425 (.aload 14) 2 427 := ⟨at_425, rfl⟩
theorem d0_427 : Dc code 427 (.ldc 19) 2 429 := ⟨at_427, rfl⟩
theorem d0_429 : Dc code 429 (.invokevirtual 35) 3 432 := ⟨at_429, rfl⟩
theorem d0_432 : Dj code 432 (.ifCond .eq 11) 11 3 435 443 := ⟨at_432, rfl, by decide, by decide⟩
theorem d0_435 : Dc code 435 (.getstatic 51) 3 438 := ⟨at_435, rfl⟩
theorem d0_438 : Dc code 438 (.astore 15) 2 440 := ⟨at_438, rfl⟩
theorem d0_440 : Dj code 440 (.goto 6) 6 3 443 446 := ⟨at_440, rfl, by decide, by decide⟩
theorem d0_443 : Dc code 443 (.aconst_null) 1 444 := ⟨at_443, rfl⟩
theorem d0_444 : Dc code 444 (.astore 15) 2 446 := ⟨at_444, rfl⟩
theorem segS {p : Program} {l : Launch} {e : Env} {s : State} {m : MethodId} {A : Array Value} {below : List Frame} {meth : Method} {c : Code} {Z : State} {a0 : Array Value} (hw : ∀ d ∈ tables_1, d.before a0 Z = true) {T0 : State} {h : Heap} {vm0 : Vm} (s0 s1 s2 s3 s4 s5 s6 s7 s8 s9 s10 s11 s12 s13 : Slot) (p_1 p_7 p_11 p_15 p_19 p_23 p_27 p_31 p_35 p_40 p_46 p_52 p_58 : Addr) (k_64 k_66 k_68 k_70 k_72 : ClassId) (z_ : Int32) (SZ : Sta Z Z.heap "java/lang/String" "COMPACT_STRINGS" "Z" (.int z_)) (hz : ¬ z_ = 0) (x : Addr) (t : Addr) (kb : ClassId) (N_ : Int32) (vs : List Value) (cs : List Int32) (C : Cx p (s.setVm vm0) m meth c Z "com/example/indie_lease/indielease/model/LicenseStatusOfCodePinLaw" "law" code maxLocals ret) (X0 : St p l e room_1 (s.setVm vm0) m A below meth c Z T0 h 12 200) (I0 : Lits Z consts_1 s vm0 h) (S_3 : Sta Z Z.heap "com/example/indie_lease/indielease/model/LicenseStatus" "$VALUES" "[Lcom/example/indie_lease/indielease/model/LicenseStatus;" (.ref p_1)) (E_6 : Exa Z Z.heap p_1 "[Lcom/example/indie_lease/indielease/model/LicenseStatus;") (S_9 : Sta Z Z.heap "com/example/indie_lease/indielease/model/LicenseStatus" "ACTIVE" "Lcom/example/indie_lease/indielease/model/LicenseStatus;" (.ref p_7)) (E_10 : Exa Z Z.heap p_7 "com/example/indie_lease/indielease/model/LicenseStatus") (S_13 : Sta Z Z.heap "com/example/indie_lease/indielease/model/LicenseStatus" "FALLBACK" "Lcom/example/indie_lease/indielease/model/LicenseStatus;" (.ref p_11)) (E_14 : Exa Z Z.heap p_11 "com/example/indie_lease/indielease/model/LicenseStatus") (S_17 : Sta Z Z.heap "com/example/indie_lease/indielease/model/LicenseStatus" "EXPIRED" "Lcom/example/indie_lease/indielease/model/LicenseStatus;" (.ref p_15)) (E_18 : Exa Z Z.heap p_15 "com/example/indie_lease/indielease/model/LicenseStatus") (S_21 : Sta Z Z.heap "com/example/indie_lease/indielease/model/LicenseStatus" "REVOKED" "Lcom/example/indie_lease/indielease/model/LicenseStatus;" (.ref p_19)) (E_22 : Exa Z Z.heap p_19 "com/example/indie_lease/indielease/model/LicenseStatus") (F_25 : Fld Z Z.heap p_7 "com/example/indie_lease/indielease/model/LicenseStatus" "code" "Ljava/lang/String;" (.ref p_23)) (E_26 : Exa Z Z.heap p_23 "java/lang/String") (F_29 : Fld Z Z.heap p_11 "com/example/indie_lease/indielease/model/LicenseStatus" "code" "Ljava/lang/String;" (.ref p_27)) (E_30 : Exa Z Z.heap p_27 "java/lang/String") (F_33 : Fld Z Z.heap p_15 "com/example/indie_lease/indielease/model/LicenseStatus" "code" "Ljava/lang/String;" (.ref p_31)) (E_34 : Exa Z Z.heap p_31 "java/lang/String") (F_37 : Fld Z Z.heap p_19 "com/example/indie_lease/indielease/model/LicenseStatus" "code" "Ljava/lang/String;" (.ref p_35)) (E_38 : Exa Z Z.heap p_35 "java/lang/String") (F_39 : Fld Z Z.heap p_23 "java/lang/String" "coder" "B" (.int 0)) (F_42 : Fld Z Z.heap p_23 "java/lang/String" "value" "[B" (.ref p_40)) (F_45 : Fld Z Z.heap p_27 "java/lang/String" "coder" "B" (.int 0)) (F_48 : Fld Z Z.heap p_27 "java/lang/String" "value" "[B" (.ref p_46)) (F_51 : Fld Z Z.heap p_31 "java/lang/String" "coder" "B" (.int 0)) (F_54 : Fld Z Z.heap p_31 "java/lang/String" "value" "[B" (.ref p_52)) (F_57 : Fld Z Z.heap p_35 "java/lang/String" "coder" "B" (.int 0)) (F_60 : Fld Z Z.heap p_35 "java/lang/String" "value" "[B" (.ref p_58)) (V_63 : Arv Z Z.heap p_1 k_64 (.object "com/example/indie_lease/indielease/model/LicenseStatus") 4 [(.ref p_7), (.ref p_11), (.ref p_15), (.ref p_19)] .null) (V_65 : Arv Z Z.heap p_40 k_66 .byte 6 [(.int 97), (.int 99), (.int 116), (.int 105), (.int 118), (.int 101)] (.int 0)) (V_67 : Arv Z Z.heap p_46 k_68 .byte 8 [(.int 102), (.int 97), (.int 108), (.int 108), (.int 98), (.int 97), (.int 99), (.int 107)] (.int 0)) (V_69 : Arv Z Z.heap p_52 k_70 .byte 7 [(.int 101), (.int 120), (.int 112), (.int 105), (.int 114), (.int 101), (.int 100)] (.int 0)) (V_71 : Arv Z Z.heap p_58 k_72 .byte 7 [(.int 114), (.int 101), (.int 118), (.int 111), (.int 107), (.int 101), (.int 100)] (.int 0)) (EX : Exa Z h x "java/lang/String") (FC : Fld Z h x "java/lang/String" "coder" "B" (.int (0 : Int32))) (FV : Fld Z h x "java/lang/String" "value" "[B" (.ref t)) (VT : Arv Z h t kb .byte N_ vs (.int (0 : Int32))) (hc : StrChars.Road.CodA cs 0 N_ vs) (hs : ∀ c ∈ cs, ¬ c < 0 ∧ ¬ (255 : Int32) < c) (hl : cs.length ≤ 4000) :
    Goes p e below (EndL Z consts_1 s 32 5312 (fun v' h' => v' = some (.int 1))) T0 (mkF m 360 #[s0, s1, s2, s3, s4, s5, s6, s7, s8, s9, s10, s11, s12, s13, .val (.ref x), .unset, .unset] []) := by
  refine g_aload C X0 d0_360 rfl rfl (g_ifnonnull C X0 d0_362 rfl (fun _ => ?_) (fun q => absurd q nofun))
  refine g_aload C X0 d0_371 rfl rfl (g_ldcs 24 C X0 I0 (own_wS hw) (own_EW hw) (by decide +kernel) (wd hw 0 rfl) (vs := [(.int 97), (.int 99), (.int 116), (.int 105), (.int 118), (.int 101)]) (z := 6) ⟨by decide +kernel, by decide +kernel⟩ (by decide) rfl (by decide) (by decide) d0_373 (by decide) (by decide) (fun a134 T134 h134 t134 k_t134 C X134 I134 R134 E134 EA134 FC134 FV134 VA134 N134 => ?_))
  show Goes p e below _ T134 (mkF m 375 #[s0, s1, s2, s3, s4, s5, s6, s7, s8, s9, s10, s11, s12, s13, .val (.ref x), .unset, .unset] [(.ref a134), (.ref x)])
  by_cases q135 : cs = [(97 : Int32), (99 : Int32), (116 : Int32), (105 : Int32), (118 : Int32), (101 : Int32)]
  · have f137 := (Exa.ext E134 EX)
    have f138 := (Fld.ext E134 FV)
    have f139 := (Fld.ext E134 FC)
    have f140 := (Arv.ext VT E134)
    refine g_virtualP (argsL := [(.ref a134)]) (st := []) C X134 (wd hw 101 rfl) (wd hw 75 rfl) (nf_of C (wd hw 77 rfl) rfl rfl) (wd hw 77 rfl) (wd hw 76 rfl) (by decide) f137 (payEq (W' := 0) C.hZ X134.ext (own_wordsEq hw) (kI := 4) (wd hw 2 rfl) (cs := cs) f137 f138 f139 f140 hc hs hl (ds := [(97 : Int32), (99 : Int32), (116 : Int32), (105 : Int32), (118 : Int32), (101 : Int32)]) EA134 FV134 FC134 VA134 (own_cod rfl rfl (by decide)) (by decide) (by decide) SZ hz (by decide) (by decide) 1 (fun _ => rfl) (fun q => absurd q135 q)) pd_3 rfl rfl _ rfl (Nat.le_of_eq rfl) d0_375 (by decide) (by decide) (fun T136 X136 => ?_)
    refine g_if (h0_eq _) C X136 d0_378 (fun q => absurd q (by decide)) (fun _ => ?_)
    refine g_getstatic (host := "") C X136 (Or.inl (wd hw 110 rfl)) Via.refl S_9 d0_381 (fun T141 X141 => ?_)
    refine g_astore C X141 d0_384 rfl (l' := #[s0, s1, s2, s3, s4, s5, s6, s7, s8, s9, s10, s11, s12, s13, .val (.ref x), .val (.ref p_7), .unset]) rfl (g_goto C X141 d0_386 (g_aload C X141 d0_446 rfl rfl (g_static (argsL := [(.ref x)]) (st := []) C X141 (wd hw 49 rfl) (wd hw 50 rfl) (wd hw 51 rfl) (wd hw 52 rfl) (by decide) (pay_of (W' := 0) (roC l hw X141.ext x p_1 p_7 p_11 p_15 p_19 p_23 p_27 p_31 p_35 p_40 p_46 p_52 p_58 k_64 k_66 k_68 k_70 k_72 z_ SZ hz t _ _ _ cs S_3 E_6 S_9 E_10 S_13 E_14 S_17 E_18 S_21 E_22 F_25 E_26 F_29 E_30 F_33 E_34 F_37 E_38 F_39 F_42 F_45 F_48 F_51 F_54 F_57 F_60 V_63 V_65 V_67 V_69 V_71 f137 f139 f138 f140 hc hs hl) C.hZ (wd hw 52 rfl) (wd hw 51 rfl) (by decide) (by decide)) pd_4 rfl rfl _ rfl (Nat.le_of_eq rfl) d0_448 (by decide) (by decide) (fun T142 h142 v142 q142 X142 => ?_))))
    obtain ⟨e142, E142⟩ := q142
    rw [if_pos q135] at e142
    subst e142
    show Goes p e below _ T142 (mkF m 451 #[s0, s1, s2, s3, s4, s5, s6, s7, s8, s9, s10, s11, s12, s13, .val (.ref x), .val (.ref p_7), .unset] [(.ref p_7)])
    refine g_astore C X142 d0_451 rfl (l' := #[s0, s1, s2, s3, s4, s5, s6, s7, s8, s9, s10, s11, s12, s13, .val (.ref x), .val (.ref p_7), .val (.ref p_7)]) rfl (g_aload C X142 d0_453 rfl rfl (g_aload C X142 d0_455 rfl rfl (g_acmpne C X142 d0_457 rfl rfl (fun q => absurd rfl q) (fun _ => ?_))))
    refine g_iconst 1 C X142 d0_460 rfl (g_goto C X142 d0_461 ?_)
    have kp143 := (Keep.refl h134 []).ext E142
    have I144 := Lits.keep I134 kp143 sf0
    exact goes_L I144 (own_EW hw) C.hZ (g_retN C X142 (by simp) d0_465 (1 : Int32) rfl (by decide) (by decide) ⟨rfl, rfl⟩)
  · have f146 := (Exa.ext E134 EX)
    have f147 := (Fld.ext E134 FV)
    have f148 := (Fld.ext E134 FC)
    have f149 := (Arv.ext VT E134)
    refine g_virtualP (argsL := [(.ref a134)]) (st := []) C X134 (wd hw 101 rfl) (wd hw 75 rfl) (nf_of C (wd hw 77 rfl) rfl rfl) (wd hw 77 rfl) (wd hw 76 rfl) (by decide) f146 (payEq (W' := 0) C.hZ X134.ext (own_wordsEq hw) (kI := 4) (wd hw 2 rfl) (cs := cs) f146 f147 f148 f149 hc hs hl (ds := [(97 : Int32), (99 : Int32), (116 : Int32), (105 : Int32), (118 : Int32), (101 : Int32)]) EA134 FV134 FC134 VA134 (own_cod rfl rfl (by decide)) (by decide) (by decide) SZ hz (by decide) (by decide) 0 (fun q => absurd q q135) (fun _ => rfl)) pd_3 rfl rfl _ rfl (Nat.le_of_eq rfl) d0_375 (by decide) (by decide) (fun T145 X145 => ?_)
    refine g_if (h0_eq _) C X145 d0_378 (fun _ => ?_) (fun q => absurd (by decide) q)
    refine g_aload C X145 d0_389 rfl rfl (g_ldcs 32 C X145 I134 (own_wS hw) (own_EW hw) (by decide +kernel) (wd hw 106 rfl) (vs := [(.int 102), (.int 97), (.int 108), (.int 108), (.int 98), (.int 97), (.int 99), (.int 107)]) (z := 8) ⟨by decide +kernel, by decide +kernel⟩ (by decide) rfl (by decide) (by decide) d0_391 (by decide) (by decide) (fun a150 T150 h150 t150 k_t150 C X150 I150 R150 E150 EA150 FC150 FV150 VA150 N150 => ?_))
    show Goes p e below _ T150 (mkF m 393 #[s0, s1, s2, s3, s4, s5, s6, s7, s8, s9, s10, s11, s12, s13, .val (.ref x), .unset, .unset] [(.ref a150), (.ref x)])
    by_cases q151 : cs = [(102 : Int32), (97 : Int32), (108 : Int32), (108 : Int32), (98 : Int32), (97 : Int32), (99 : Int32), (107 : Int32)]
    · have f153 := (Exa.ext E150 f146)
      have f154 := (Fld.ext E150 f147)
      have f155 := (Fld.ext E150 f148)
      have f156 := (Arv.ext f149 E150)
      refine g_virtualP (argsL := [(.ref a150)]) (st := []) C X150 (wd hw 101 rfl) (wd hw 75 rfl) (nf_of C (wd hw 77 rfl) rfl rfl) (wd hw 77 rfl) (wd hw 76 rfl) (by decide) f153 (payEq (W' := 0) C.hZ X150.ext (own_wordsEq hw) (kI := 4) (wd hw 2 rfl) (cs := cs) f153 f154 f155 f156 hc hs hl (ds := [(102 : Int32), (97 : Int32), (108 : Int32), (108 : Int32), (98 : Int32), (97 : Int32), (99 : Int32), (107 : Int32)]) EA150 FV150 FC150 VA150 (own_cod rfl rfl (by decide)) (by decide) (by decide) SZ hz (by decide) (by decide) 1 (fun _ => rfl) (fun q => absurd q151 q)) pd_3 rfl rfl _ rfl (Nat.le_of_eq rfl) d0_393 (by decide) (by decide) (fun T152 X152 => ?_)
      refine g_if (h0_eq _) C X152 d0_396 (fun q => absurd q (by decide)) (fun _ => ?_)
      refine g_getstatic (host := "") C X152 (Or.inl (wd hw 109 rfl)) Via.refl S_13 d0_399 (fun T157 X157 => ?_)
      refine g_astore C X157 d0_402 rfl (l' := #[s0, s1, s2, s3, s4, s5, s6, s7, s8, s9, s10, s11, s12, s13, .val (.ref x), .val (.ref p_11), .unset]) rfl (g_goto C X157 d0_404 (g_aload C X157 d0_446 rfl rfl (g_static (argsL := [(.ref x)]) (st := []) C X157 (wd hw 49 rfl) (wd hw 50 rfl) (wd hw 51 rfl) (wd hw 52 rfl) (by decide) (pay_of (W' := 0) (roC l hw X157.ext x p_1 p_7 p_11 p_15 p_19 p_23 p_27 p_31 p_35 p_40 p_46 p_52 p_58 k_64 k_66 k_68 k_70 k_72 z_ SZ hz t _ _ _ cs S_3 E_6 S_9 E_10 S_13 E_14 S_17 E_18 S_21 E_22 F_25 E_26 F_29 E_30 F_33 E_34 F_37 E_38 F_39 F_42 F_45 F_48 F_51 F_54 F_57 F_60 V_63 V_65 V_67 V_69 V_71 f153 f155 f154 f156 hc hs hl) C.hZ (wd hw 52 rfl) (wd hw 51 rfl) (by decide) (by decide)) pd_4 rfl rfl _ rfl (Nat.le_of_eq rfl) d0_448 (by decide) (by decide) (fun T158 h158 v158 q158 X158 => ?_))))
      obtain ⟨e158, E158⟩ := q158
      rw [if_neg q135, if_pos q151] at e158
      subst e158
      show Goes p e below _ T158 (mkF m 451 #[s0, s1, s2, s3, s4, s5, s6, s7, s8, s9, s10, s11, s12, s13, .val (.ref x), .val (.ref p_11), .unset] [(.ref p_11)])
      refine g_astore C X158 d0_451 rfl (l' := #[s0, s1, s2, s3, s4, s5, s6, s7, s8, s9, s10, s11, s12, s13, .val (.ref x), .val (.ref p_11), .val (.ref p_11)]) rfl (g_aload C X158 d0_453 rfl rfl (g_aload C X158 d0_455 rfl rfl (g_acmpne C X158 d0_457 rfl rfl (fun q => absurd rfl q) (fun _ => ?_))))
      refine g_iconst 1 C X158 d0_460 rfl (g_goto C X158 d0_461 ?_)
      have kp159 := (Keep.refl h150 []).ext E158
      have I160 := Lits.keep I150 kp159 sf0
      exact goes_L I160 (own_EW hw) C.hZ (g_retN C X158 (by simp) d0_465 (1 : Int32) rfl (by decide) (by decide) ⟨rfl, rfl⟩)
    · have f162 := (Exa.ext E150 f146)
      have f163 := (Fld.ext E150 f147)
      have f164 := (Fld.ext E150 f148)
      have f165 := (Arv.ext f149 E150)
      refine g_virtualP (argsL := [(.ref a150)]) (st := []) C X150 (wd hw 101 rfl) (wd hw 75 rfl) (nf_of C (wd hw 77 rfl) rfl rfl) (wd hw 77 rfl) (wd hw 76 rfl) (by decide) f162 (payEq (W' := 0) C.hZ X150.ext (own_wordsEq hw) (kI := 4) (wd hw 2 rfl) (cs := cs) f162 f163 f164 f165 hc hs hl (ds := [(102 : Int32), (97 : Int32), (108 : Int32), (108 : Int32), (98 : Int32), (97 : Int32), (99 : Int32), (107 : Int32)]) EA150 FV150 FC150 VA150 (own_cod rfl rfl (by decide)) (by decide) (by decide) SZ hz (by decide) (by decide) 0 (fun q => absurd q q151) (fun _ => rfl)) pd_3 rfl rfl _ rfl (Nat.le_of_eq rfl) d0_393 (by decide) (by decide) (fun T161 X161 => ?_)
      refine g_if (h0_eq _) C X161 d0_396 (fun _ => ?_) (fun q => absurd (by decide) q)
      refine g_aload C X161 d0_407 rfl rfl (g_ldcs 28 C X161 I150 (own_wS hw) (own_EW hw) (by decide +kernel) (wd hw 107 rfl) (vs := [(.int 101), (.int 120), (.int 112), (.int 105), (.int 114), (.int 101), (.int 100)]) (z := 7) ⟨by decide +kernel, by decide +kernel⟩ (by decide) rfl (by decide) (by decide) d0_409 (by decide) (by decide) (fun a166 T166 h166 t166 k_t166 C X166 I166 R166 E166 EA166 FC166 FV166 VA166 N166 => ?_))
      show Goes p e below _ T166 (mkF m 411 #[s0, s1, s2, s3, s4, s5, s6, s7, s8, s9, s10, s11, s12, s13, .val (.ref x), .unset, .unset] [(.ref a166), (.ref x)])
      by_cases q167 : cs = [(101 : Int32), (120 : Int32), (112 : Int32), (105 : Int32), (114 : Int32), (101 : Int32), (100 : Int32)]
      · have f169 := (Exa.ext E166 f162)
        have f170 := (Fld.ext E166 f163)
        have f171 := (Fld.ext E166 f164)
        have f172 := (Arv.ext f165 E166)
        refine g_virtualP (argsL := [(.ref a166)]) (st := []) C X166 (wd hw 101 rfl) (wd hw 75 rfl) (nf_of C (wd hw 77 rfl) rfl rfl) (wd hw 77 rfl) (wd hw 76 rfl) (by decide) f169 (payEq (W' := 0) C.hZ X166.ext (own_wordsEq hw) (kI := 4) (wd hw 2 rfl) (cs := cs) f169 f170 f171 f172 hc hs hl (ds := [(101 : Int32), (120 : Int32), (112 : Int32), (105 : Int32), (114 : Int32), (101 : Int32), (100 : Int32)]) EA166 FV166 FC166 VA166 (own_cod rfl rfl (by decide)) (by decide) (by decide) SZ hz (by decide) (by decide) 1 (fun _ => rfl) (fun q => absurd q167 q)) pd_3 rfl rfl _ rfl (Nat.le_of_eq rfl) d0_411 (by decide) (by decide) (fun T168 X168 => ?_)
        refine g_if (h0_eq _) C X168 d0_414 (fun q => absurd q (by decide)) (fun _ => ?_)
        refine g_getstatic (host := "") C X168 (Or.inl (wd hw 111 rfl)) Via.refl S_17 d0_417 (fun T173 X173 => ?_)
        refine g_astore C X173 d0_420 rfl (l' := #[s0, s1, s2, s3, s4, s5, s6, s7, s8, s9, s10, s11, s12, s13, .val (.ref x), .val (.ref p_15), .unset]) rfl (g_goto C X173 d0_422 (g_aload C X173 d0_446 rfl rfl (g_static (argsL := [(.ref x)]) (st := []) C X173 (wd hw 49 rfl) (wd hw 50 rfl) (wd hw 51 rfl) (wd hw 52 rfl) (by decide) (pay_of (W' := 0) (roC l hw X173.ext x p_1 p_7 p_11 p_15 p_19 p_23 p_27 p_31 p_35 p_40 p_46 p_52 p_58 k_64 k_66 k_68 k_70 k_72 z_ SZ hz t _ _ _ cs S_3 E_6 S_9 E_10 S_13 E_14 S_17 E_18 S_21 E_22 F_25 E_26 F_29 E_30 F_33 E_34 F_37 E_38 F_39 F_42 F_45 F_48 F_51 F_54 F_57 F_60 V_63 V_65 V_67 V_69 V_71 f169 f171 f170 f172 hc hs hl) C.hZ (wd hw 52 rfl) (wd hw 51 rfl) (by decide) (by decide)) pd_4 rfl rfl _ rfl (Nat.le_of_eq rfl) d0_448 (by decide) (by decide) (fun T174 h174 v174 q174 X174 => ?_))))
        obtain ⟨e174, E174⟩ := q174
        rw [if_neg q135, if_neg q151, if_pos q167] at e174
        subst e174
        show Goes p e below _ T174 (mkF m 451 #[s0, s1, s2, s3, s4, s5, s6, s7, s8, s9, s10, s11, s12, s13, .val (.ref x), .val (.ref p_15), .unset] [(.ref p_15)])
        refine g_astore C X174 d0_451 rfl (l' := #[s0, s1, s2, s3, s4, s5, s6, s7, s8, s9, s10, s11, s12, s13, .val (.ref x), .val (.ref p_15), .val (.ref p_15)]) rfl (g_aload C X174 d0_453 rfl rfl (g_aload C X174 d0_455 rfl rfl (g_acmpne C X174 d0_457 rfl rfl (fun q => absurd rfl q) (fun _ => ?_))))
        refine g_iconst 1 C X174 d0_460 rfl (g_goto C X174 d0_461 ?_)
        have kp175 := (Keep.refl h166 []).ext E174
        have I176 := Lits.keep I166 kp175 sf0
        exact goes_L I176 (own_EW hw) C.hZ (g_retN C X174 (by simp) d0_465 (1 : Int32) rfl (by decide) (by decide) ⟨rfl, rfl⟩)
      · have f178 := (Exa.ext E166 f162)
        have f179 := (Fld.ext E166 f163)
        have f180 := (Fld.ext E166 f164)
        have f181 := (Arv.ext f165 E166)
        refine g_virtualP (argsL := [(.ref a166)]) (st := []) C X166 (wd hw 101 rfl) (wd hw 75 rfl) (nf_of C (wd hw 77 rfl) rfl rfl) (wd hw 77 rfl) (wd hw 76 rfl) (by decide) f178 (payEq (W' := 0) C.hZ X166.ext (own_wordsEq hw) (kI := 4) (wd hw 2 rfl) (cs := cs) f178 f179 f180 f181 hc hs hl (ds := [(101 : Int32), (120 : Int32), (112 : Int32), (105 : Int32), (114 : Int32), (101 : Int32), (100 : Int32)]) EA166 FV166 FC166 VA166 (own_cod rfl rfl (by decide)) (by decide) (by decide) SZ hz (by decide) (by decide) 0 (fun q => absurd q q167) (fun _ => rfl)) pd_3 rfl rfl _ rfl (Nat.le_of_eq rfl) d0_411 (by decide) (by decide) (fun T177 X177 => ?_)
        refine g_if (h0_eq _) C X177 d0_414 (fun _ => ?_) (fun q => absurd (by decide) q)
        refine g_aload C X177 d0_425 rfl rfl (g_ldcs 28 C X177 I166 (own_wS hw) (own_EW hw) (by decide +kernel) (wd hw 79 rfl) (vs := [(.int 114), (.int 101), (.int 118), (.int 111), (.int 107), (.int 101), (.int 100)]) (z := 7) ⟨by decide +kernel, by decide +kernel⟩ (by decide) rfl (by decide) (by decide) d0_427 (by decide) (by decide) (fun a182 T182 h182 t182 k_t182 C X182 I182 R182 E182 EA182 FC182 FV182 VA182 N182 => ?_))
        show Goes p e below _ T182 (mkF m 429 #[s0, s1, s2, s3, s4, s5, s6, s7, s8, s9, s10, s11, s12, s13, .val (.ref x), .unset, .unset] [(.ref a182), (.ref x)])
        by_cases q183 : cs = [(114 : Int32), (101 : Int32), (118 : Int32), (111 : Int32), (107 : Int32), (101 : Int32), (100 : Int32)]
        · have f185 := (Exa.ext E182 f178)
          have f186 := (Fld.ext E182 f179)
          have f187 := (Fld.ext E182 f180)
          have f188 := (Arv.ext f181 E182)
          refine g_virtualP (argsL := [(.ref a182)]) (st := []) C X182 (wd hw 101 rfl) (wd hw 75 rfl) (nf_of C (wd hw 77 rfl) rfl rfl) (wd hw 77 rfl) (wd hw 76 rfl) (by decide) f185 (payEq (W' := 0) C.hZ X182.ext (own_wordsEq hw) (kI := 4) (wd hw 2 rfl) (cs := cs) f185 f186 f187 f188 hc hs hl (ds := [(114 : Int32), (101 : Int32), (118 : Int32), (111 : Int32), (107 : Int32), (101 : Int32), (100 : Int32)]) EA182 FV182 FC182 VA182 (own_cod rfl rfl (by decide)) (by decide) (by decide) SZ hz (by decide) (by decide) 1 (fun _ => rfl) (fun q => absurd q183 q)) pd_3 rfl rfl _ rfl (Nat.le_of_eq rfl) d0_429 (by decide) (by decide) (fun T184 X184 => ?_)
          refine g_if (h0_eq _) C X184 d0_432 (fun q => absurd q (by decide)) (fun _ => ?_)
          refine g_getstatic (host := "") C X184 (Or.inl (wd hw 108 rfl)) Via.refl S_21 d0_435 (fun T189 X189 => ?_)
          refine g_astore C X189 d0_438 rfl (l' := #[s0, s1, s2, s3, s4, s5, s6, s7, s8, s9, s10, s11, s12, s13, .val (.ref x), .val (.ref p_19), .unset]) rfl (g_goto C X189 d0_440 (g_aload C X189 d0_446 rfl rfl (g_static (argsL := [(.ref x)]) (st := []) C X189 (wd hw 49 rfl) (wd hw 50 rfl) (wd hw 51 rfl) (wd hw 52 rfl) (by decide) (pay_of (W' := 0) (roC l hw X189.ext x p_1 p_7 p_11 p_15 p_19 p_23 p_27 p_31 p_35 p_40 p_46 p_52 p_58 k_64 k_66 k_68 k_70 k_72 z_ SZ hz t _ _ _ cs S_3 E_6 S_9 E_10 S_13 E_14 S_17 E_18 S_21 E_22 F_25 E_26 F_29 E_30 F_33 E_34 F_37 E_38 F_39 F_42 F_45 F_48 F_51 F_54 F_57 F_60 V_63 V_65 V_67 V_69 V_71 f185 f187 f186 f188 hc hs hl) C.hZ (wd hw 52 rfl) (wd hw 51 rfl) (by decide) (by decide)) pd_4 rfl rfl _ rfl (Nat.le_of_eq rfl) d0_448 (by decide) (by decide) (fun T190 h190 v190 q190 X190 => ?_))))
          obtain ⟨e190, E190⟩ := q190
          rw [if_neg q135, if_neg q151, if_neg q167, if_pos q183] at e190
          subst e190
          show Goes p e below _ T190 (mkF m 451 #[s0, s1, s2, s3, s4, s5, s6, s7, s8, s9, s10, s11, s12, s13, .val (.ref x), .val (.ref p_19), .unset] [(.ref p_19)])
          refine g_astore C X190 d0_451 rfl (l' := #[s0, s1, s2, s3, s4, s5, s6, s7, s8, s9, s10, s11, s12, s13, .val (.ref x), .val (.ref p_19), .val (.ref p_19)]) rfl (g_aload C X190 d0_453 rfl rfl (g_aload C X190 d0_455 rfl rfl (g_acmpne C X190 d0_457 rfl rfl (fun q => absurd rfl q) (fun _ => ?_))))
          refine g_iconst 1 C X190 d0_460 rfl (g_goto C X190 d0_461 ?_)
          have kp191 := (Keep.refl h182 []).ext E190
          have I192 := Lits.keep I182 kp191 sf0
          exact goes_L I192 (own_EW hw) C.hZ (g_retN C X190 (by simp) d0_465 (1 : Int32) rfl (by decide) (by decide) ⟨rfl, rfl⟩)
        · have f194 := (Exa.ext E182 f178)
          have f195 := (Fld.ext E182 f179)
          have f196 := (Fld.ext E182 f180)
          have f197 := (Arv.ext f181 E182)
          refine g_virtualP (argsL := [(.ref a182)]) (st := []) C X182 (wd hw 101 rfl) (wd hw 75 rfl) (nf_of C (wd hw 77 rfl) rfl rfl) (wd hw 77 rfl) (wd hw 76 rfl) (by decide) f194 (payEq (W' := 0) C.hZ X182.ext (own_wordsEq hw) (kI := 4) (wd hw 2 rfl) (cs := cs) f194 f195 f196 f197 hc hs hl (ds := [(114 : Int32), (101 : Int32), (118 : Int32), (111 : Int32), (107 : Int32), (101 : Int32), (100 : Int32)]) EA182 FV182 FC182 VA182 (own_cod rfl rfl (by decide)) (by decide) (by decide) SZ hz (by decide) (by decide) 0 (fun q => absurd q q183) (fun _ => rfl)) pd_3 rfl rfl _ rfl (Nat.le_of_eq rfl) d0_429 (by decide) (by decide) (fun T193 X193 => ?_)
          refine g_if (h0_eq _) C X193 d0_432 (fun _ => ?_) (fun q => absurd (by decide) q)
          refine g_aconst_null C X193 d0_443 (g_astore C X193 d0_444 rfl (l' := #[s0, s1, s2, s3, s4, s5, s6, s7, s8, s9, s10, s11, s12, s13, .val (.ref x), .val .null, .unset]) rfl (g_aload C X193 d0_446 rfl rfl (g_static (argsL := [(.ref x)]) (st := []) C X193 (wd hw 49 rfl) (wd hw 50 rfl) (wd hw 51 rfl) (wd hw 52 rfl) (by decide) (pay_of (W' := 0) (roC l hw X193.ext x p_1 p_7 p_11 p_15 p_19 p_23 p_27 p_31 p_35 p_40 p_46 p_52 p_58 k_64 k_66 k_68 k_70 k_72 z_ SZ hz t _ _ _ cs S_3 E_6 S_9 E_10 S_13 E_14 S_17 E_18 S_21 E_22 F_25 E_26 F_29 E_30 F_33 E_34 F_37 E_38 F_39 F_42 F_45 F_48 F_51 F_54 F_57 F_60 V_63 V_65 V_67 V_69 V_71 f194 f196 f195 f197 hc hs hl) C.hZ (wd hw 52 rfl) (wd hw 51 rfl) (by decide) (by decide)) pd_4 rfl rfl _ rfl (Nat.le_of_eq rfl) d0_448 (by decide) (by decide) (fun T198 h198 v198 q198 X198 => ?_))))
          obtain ⟨e198, E198⟩ := q198
          rw [if_neg q135, if_neg q151, if_neg q167, if_neg q183] at e198
          subst e198
          show Goes p e below _ T198 (mkF m 451 #[s0, s1, s2, s3, s4, s5, s6, s7, s8, s9, s10, s11, s12, s13, .val (.ref x), .val .null, .unset] [.null])
          refine g_astore C X198 d0_451 rfl (l' := #[s0, s1, s2, s3, s4, s5, s6, s7, s8, s9, s10, s11, s12, s13, .val (.ref x), .val .null, .val .null]) rfl (g_aload C X198 d0_453 rfl rfl (g_aload C X198 d0_455 rfl rfl (g_acmpne C X198 d0_457 rfl rfl (fun q => absurd rfl q) (fun _ => ?_))))
          refine g_iconst 1 C X198 d0_460 rfl (g_goto C X198 d0_461 ?_)
          have kp199 := (Keep.refl h182 []).ext E198
          have I200 := Lits.keep I182 kp199 sf0
          exact goes_L I200 (own_EW hw) C.hZ (g_retN C X198 (by simp) d0_465 (1 : Int32) rfl (by decide) (by decide) ⟨rfl, rfl⟩)
theorem d0_109 : Dc code 109 (.iload 12) 2 111 := ⟨at_109, rfl⟩
theorem d0_111 : Dc code 111 (.newarray .char) 2 113 := ⟨at_111, rfl⟩
theorem d0_113 : Dc code 113 (.astore 13) 2 115 := ⟨at_113, rfl⟩
theorem d0_115 : Dc code 115 (.iload 12) 2 117 := ⟨at_115, rfl⟩
theorem d0_117 : Dj code 117 (.ifCond .le 21) 21 3 120 138 := ⟨at_117, rfl, by decide, by decide⟩
theorem d0_138 : Dc code 138 (.iload 12) 2 140 := ⟨at_138, rfl⟩
theorem d0_140 : Dc code 140 (.iconst 1) 1 141 := ⟨at_140, rfl⟩
theorem d0_141 : Dj code 141 (.if_icmp .le 21) 21 3 144 162 := ⟨at_141, rfl, by decide, by decide⟩
theorem d0_162 : Dc code 162 (.iload 12) 2 164 := ⟨at_162, rfl⟩
theorem d0_164 : Dc code 164 (.iconst 2) 1 165 := ⟨at_164, rfl⟩
theorem d0_165 : Dj code 165 (.if_icmp .le 21) 21 3 168 186 := ⟨at_165, rfl, by decide, by decide⟩
theorem d0_186 : Dc code 186 (.iload 12) 2 188 := ⟨at_186, rfl⟩
theorem d0_188 : Dc code 188 (.iconst 3) 1 189 := ⟨at_188, rfl⟩
theorem d0_189 : Dj code 189 (.if_icmp .le 21) 21 3 192 210 := ⟨at_189, rfl, by decide, by decide⟩
theorem d0_210 : Dc code 210 (.iload 12) 2 212 := ⟨at_210, rfl⟩
theorem d0_212 : Dc code 212 (.iconst 4) 1 213 := ⟨at_212, rfl⟩
theorem d0_213 : Dj code 213 (.if_icmp .le 21) 21 3 216 234 := ⟨at_213, rfl, by decide, by decide⟩
theorem d0_234 : Dc code 234 (.iload 12) 2 236 := ⟨at_234, rfl⟩
theorem d0_236 : Dc code 236 (.iconst 5) 1 237 := ⟨at_236, rfl⟩
theorem d0_237 : Dj code 237 (.if_icmp .le 21) 21 3 240 258 := ⟨at_237, rfl, by decide, by decide⟩
theorem d0_258 : Dc code 258 (.iload 12) 2 260 := ⟨at_258, rfl⟩
theorem d0_260 : Dc code 260 (.bipush 6) 2 262 := ⟨at_260, rfl⟩
theorem d0_262 : Dj code 262 (.if_icmp .le 23) 23 3 265 285 := ⟨at_262, rfl, by decide, by decide⟩
theorem d0_285 : Dc code 285 (.iload 12) 2 287 := ⟨at_285, rfl⟩
theorem d0_287 : Dc code 287 (.bipush 7) 2 289 := ⟨at_287, rfl⟩
theorem d0_289 : Dj code 289 (.if_icmp .le 23) 23 3 292 312 := ⟨at_289, rfl, by decide, by decide⟩
theorem d0_312 : Dc code 312 (.iload 12) 2 314 := ⟨at_312, rfl⟩
theorem d0_314 : Dc code 314 (.bipush 8) 2 316 := ⟨at_314, rfl⟩
theorem d0_316 : Dj code 316 (.if_icmp .le 23) 23 3 319 339 := ⟨at_316, rfl, by decide, by decide⟩
theorem d0_339 : Dc code 339 (.iload 8) 2 341 := ⟨at_339, rfl⟩
theorem d0_341 : Dc code 341 (.iconst 3) 1 342 := ⟨at_341, rfl⟩
theorem d0_342 : Dj code 342 (.if_icmp .ne 7) 7 3 345 349 := ⟨at_342, rfl, by decide, by decide⟩
theorem d0_349 : Dc code 349 (.new 8) 3 352 := ⟨at_349, rfl⟩
theorem d0_352 : Dc code 352 (.dup) 1 353 := ⟨at_352, rfl⟩
theorem d0_353 : Dc code 353 (.aload 13) 2 355 := ⟨at_353, rfl⟩
theorem d0_355 : Dc code 355 (.invokespecial 32) 3 358 := ⟨at_355, rfl⟩
theorem pd_5 : parseMethodDescriptor "([C)V" = some ⟨[(.array .char)], none⟩ := by decide +kernel
theorem d0_358 : Dc code 358 (.astore 14) 2 360 := ⟨at_358, rfl⟩
theorem d0_345 : Dc code 345 (.aconst_null) 1 346 := ⟨at_345, rfl⟩
theorem d0_346 : Dj code 346 (.goto 12) 12 3 349 358 := ⟨at_346, rfl, by decide, by decide⟩
theorem segL0 {p : Program} {l : Launch} {e : Env} {s : State} {m : MethodId} {A : Array Value} {below : List Frame} {meth : Method} {c : Code} {Z : State} {a0 : Array Value} (hw : ∀ d ∈ tables_1, d.before a0 Z = true) {T0 : State} {h : Heap} {vm0 : Vm} (p0 p1 p2 p3 p4 : Int32) (s5 : Slot) (n kd rp pp ch : Int32) (p_1 p_7 p_11 p_15 p_19 p_23 p_27 p_31 p_35 p_40 p_46 p_52 p_58 : Addr) (k_64 k_66 k_68 k_70 k_72 : ClassId) (z_ : Int32) (SZ : Sta Z Z.heap "java/lang/String" "COMPACT_STRINGS" "Z" (.int z_)) (hz : ¬ z_ = 0) (fm_ : Value) (SF : Sta Z Z.heap "jdk/internal/util/Preconditions" "SIOOBE_FORMATTER" "Ljava/util/function/BiFunction;" fm_) (rf_ : fm_.isRef = true) (bs : Addr) (bt : Addr) (bk : ClassId) (bN : Int32) (bv : List Value) (bc : List Int32) (C : Cx p (s.setVm vm0) m meth c Z "com/example/indie_lease/indielease/model/LicenseStatusOfCodePinLaw" "law" code maxLocals ret) (X0 : St p l e room_1 (s.setVm vm0) m A below meth c Z T0 h 2 36) (I0 : Lits Z consts_1 s vm0 h) (S_3 : Sta Z Z.heap "com/example/indie_lease/indielease/model/LicenseStatus" "$VALUES" "[Lcom/example/indie_lease/indielease/model/LicenseStatus;" (.ref p_1)) (E_6 : Exa Z Z.heap p_1 "[Lcom/example/indie_lease/indielease/model/LicenseStatus;") (S_9 : Sta Z Z.heap "com/example/indie_lease/indielease/model/LicenseStatus" "ACTIVE" "Lcom/example/indie_lease/indielease/model/LicenseStatus;" (.ref p_7)) (E_10 : Exa Z Z.heap p_7 "com/example/indie_lease/indielease/model/LicenseStatus") (S_13 : Sta Z Z.heap "com/example/indie_lease/indielease/model/LicenseStatus" "FALLBACK" "Lcom/example/indie_lease/indielease/model/LicenseStatus;" (.ref p_11)) (E_14 : Exa Z Z.heap p_11 "com/example/indie_lease/indielease/model/LicenseStatus") (S_17 : Sta Z Z.heap "com/example/indie_lease/indielease/model/LicenseStatus" "EXPIRED" "Lcom/example/indie_lease/indielease/model/LicenseStatus;" (.ref p_15)) (E_18 : Exa Z Z.heap p_15 "com/example/indie_lease/indielease/model/LicenseStatus") (S_21 : Sta Z Z.heap "com/example/indie_lease/indielease/model/LicenseStatus" "REVOKED" "Lcom/example/indie_lease/indielease/model/LicenseStatus;" (.ref p_19)) (E_22 : Exa Z Z.heap p_19 "com/example/indie_lease/indielease/model/LicenseStatus") (F_25 : Fld Z Z.heap p_7 "com/example/indie_lease/indielease/model/LicenseStatus" "code" "Ljava/lang/String;" (.ref p_23)) (E_26 : Exa Z Z.heap p_23 "java/lang/String") (F_29 : Fld Z Z.heap p_11 "com/example/indie_lease/indielease/model/LicenseStatus" "code" "Ljava/lang/String;" (.ref p_27)) (E_30 : Exa Z Z.heap p_27 "java/lang/String") (F_33 : Fld Z Z.heap p_15 "com/example/indie_lease/indielease/model/LicenseStatus" "code" "Ljava/lang/String;" (.ref p_31)) (E_34 : Exa Z Z.heap p_31 "java/lang/String") (F_37 : Fld Z Z.heap p_19 "com/example/indie_lease/indielease/model/LicenseStatus" "code" "Ljava/lang/String;" (.ref p_35)) (E_38 : Exa Z Z.heap p_35 "java/lang/String") (F_39 : Fld Z Z.heap p_23 "java/lang/String" "coder" "B" (.int 0)) (F_42 : Fld Z Z.heap p_23 "java/lang/String" "value" "[B" (.ref p_40)) (F_45 : Fld Z Z.heap p_27 "java/lang/String" "coder" "B" (.int 0)) (F_48 : Fld Z Z.heap p_27 "java/lang/String" "value" "[B" (.ref p_46)) (F_51 : Fld Z Z.heap p_31 "java/lang/String" "coder" "B" (.int 0)) (F_54 : Fld Z Z.heap p_31 "java/lang/String" "value" "[B" (.ref p_52)) (F_57 : Fld Z Z.heap p_35 "java/lang/String" "coder" "B" (.int 0)) (F_60 : Fld Z Z.heap p_35 "java/lang/String" "value" "[B" (.ref p_58)) (V_63 : Arv Z Z.heap p_1 k_64 (.object "com/example/indie_lease/indielease/model/LicenseStatus") 4 [(.ref p_7), (.ref p_11), (.ref p_15), (.ref p_19)] .null) (V_65 : Arv Z Z.heap p_40 k_66 .byte 6 [(.int 97), (.int 99), (.int 116), (.int 105), (.int 118), (.int 101)] (.int 0)) (V_67 : Arv Z Z.heap p_46 k_68 .byte 8 [(.int 102), (.int 97), (.int 108), (.int 108), (.int 98), (.int 97), (.int 99), (.int 107)] (.int 0)) (V_69 : Arv Z Z.heap p_52 k_70 .byte 7 [(.int 101), (.int 120), (.int 112), (.int 105), (.int 114), (.int 101), (.int 100)] (.int 0)) (V_71 : Arv Z Z.heap p_58 k_72 .byte 7 [(.int 114), (.int 101), (.int 118), (.int 111), (.int 107), (.int 101), (.int 100)] (.int 0)) (bEX : Exa Z h bs "java/lang/String") (bFC : Fld Z h bs "java/lang/String" "coder" "B" (.int (0 : Int32))) (bFV : Fld Z h bs "java/lang/String" "value" "[B" (.ref bt)) (bVT : Arv Z h bt bk .byte bN bv (.int (0 : Int32))) (bhc : StrChars.Road.CodA bc 0 bN bv) (bhs : ∀ c ∈ bc, ¬ c < 0 ∧ ¬ (255 : Int32) < c) (bhl : bc.length ≤ 4000) (hn : Int32.ofNat bc.length = n) (hc : ¬ ch < 0 ∧ ¬ (255 : Int32) < ch) :
    Goes p e below (EndL Z consts_1 s 32 5312 (fun v' h' => v' = some (.int 1))) T0 (mkF m 109 #[.val (.int p0), .val (.int p1), .val (.int p2), .val (.int p3), .val (.int p4), s5, .val (.ref bs), .val (.int n), .val (.int kd), .val (.int rp), .val (.int pp), .val (.int ch), .val (.int 0), .unset, .unset, .unset, .unset] []) := by
  refine g_iload C X0 d0_109 rfl (g_newarray C X0 (wd hw 22 rfl) d0_111 (by decide) 0 0 (by decide) (by decide) (by decide) (by decide) (fun T201 h201 b201 k_b201 g_b201 n_b201 X201 E201 V201 => ?_))
  have lt202 : bs < b201 := by rw [g_b201]; exact Exa.lt bEX
  have lt203 : bt < b201 := by rw [g_b201]; exact Arv.lt bVT
  have V_b201 : Arv Z h201 b201 k_b201 .char (0 : Int32) [] (.int 0) := V201
  refine g_astore C X201 d0_113 rfl (l' := #[.val (.int p0), .val (.int p1), .val (.int p2), .val (.int p3), .val (.int p4), s5, .val (.ref bs), .val (.int n), .val (.int kd), .val (.int rp), .val (.int pp), .val (.int ch), .val (.int 0), .val (.ref b201), .unset, .unset, .unset]) rfl (g_iload C X201 d0_115 rfl (g_ifn (h0_le _) C X201 d0_117 (fun _ => ?_) (fun q => absurd q (by decide))))
  refine g_iload C X201 d0_138 rfl (g_iconst 1 C X201 d0_140 rfl (g_icmpn (hI_le _ _) C X201 d0_141 (fun _ => ?_) (fun q => absurd q (by decide))))
  refine g_iload C X201 d0_162 rfl (g_iconst 2 C X201 d0_164 rfl (g_icmpn (hI_le _ _) C X201 d0_165 (fun _ => ?_) (fun q => absurd q (by decide))))
  refine g_iload C X201 d0_186 rfl (g_iconst 3 C X201 d0_188 rfl (g_icmpn (hI_le _ _) C X201 d0_189 (fun _ => ?_) (fun q => absurd q (by decide))))
  refine g_iload C X201 d0_210 rfl (g_iconst 4 C X201 d0_212 rfl (g_icmpn (hI_le _ _) C X201 d0_213 (fun _ => ?_) (fun q => absurd q (by decide))))
  refine g_iload C X201 d0_234 rfl (g_iconst 5 C X201 d0_236 rfl (g_icmpn (hI_le _ _) C X201 d0_237 (fun _ => ?_) (fun q => absurd q (by decide))))
  refine g_iload C X201 d0_258 rfl (g_bipush 6 C X201 d0_260 rfl (g_icmpn (hI_le _ _) C X201 d0_262 (fun _ => ?_) (fun q => absurd q (by decide))))
  refine g_iload C X201 d0_285 rfl (g_bipush 7 C X201 d0_287 rfl (g_icmpn (hI_le _ _) C X201 d0_289 (fun _ => ?_) (fun q => absurd q (by decide))))
  refine g_iload C X201 d0_312 rfl (g_bipush 8 C X201 d0_314 rfl (g_icmpn (hI_le _ _) C X201 d0_316 (fun _ => ?_) (fun q => absurd q (by decide))))
  refine g_iload C X201 d0_339 rfl (g_iconst 3 C X201 d0_341 rfl (g_icmpn (hI_ne _ _) C X201 d0_342 (fun c342_204 => ?_) (fun c342_204 => ?_)))
  · refine g_new C X201 (wd hw 80 rfl) (wd hw 2 rfl) (wd hw 1 rfl) d0_349 (by decide) (by decide) (fun T205 h205 b205 g_b205 n_b205 X205 E205 A205 D205 M205 => ?_)
    have f206 := (Exa.ext E201 bEX)
    have lt207 : bs < b205 := by rw [g_b205]; exact Exa.lt f206
    have f208 := (Arv.ext bVT E201)
    have lt209 : bt < b205 := by rw [g_b205]; exact Arv.lt f208
    have lt210 : b201 < b205 := by rw [g_b205]; exact Arv.lt V_b201
    have F_value_b205 : Fld Z h205 b205 "java/lang/String" "value" "[B" .null := D205 (Or.inr (wd hw 4 rfl)) (ty := (.array .byte)) (by decide)
    have F_coder_b205 : Fld Z h205 b205 "java/lang/String" "coder" "B" (.int 0) := D205 (Or.inr (wd hw 5 rfl)) (ty := .byte) (by decide)
    refine g_dup C X205 d0_352 rfl (g_aload C X205 d0_353 rfl rfl ?_)
    have sz211 : h.size ≤ b201 := by rw [g_b201]; exact (Keep.refl h []).1
    have kp212 := (Keep.refl h []).ext E201
    have sz213 : h.size ≤ b205 := by rw [g_b205]; exact kp212.1
    have kp214 := kp212.ext E205
    have I215 := Lits.keep I0 kp214 sf0
    have sf216 := Lits.safe I0 kp214 sf0 (Safe.new sz213)
    have f217 := (Arv.ext V_b201 E205)
    have lx217 : b205 < h205.size := (Exa.lt A205)
    refine g_specialL (argsL := [(.ref b201)]) (st := [(.ref b205)]) C X205 I215 rfl (wd hw 81 rfl) (wd hw 82 rfl) (wd hw 83 rfl) (by decide) (payL_of (W' := 1) (rI1 l hw X205.ext b205 b201 A205 F_coder_b205 F_value_b205 n_b205 k_b201 f217) C.hZ (wd hw 83 rfl) (wd hw 1 rfl) (by decide) (by decide) (own_EW hw) I215 (List.forall_mem_cons.mpr ⟨⟨lx217, sf216⟩, fun _ q => nomatch q⟩)) pd_5 rfl rfl _ rfl (Nat.le_of_eq rfl) d0_355 (by decide) (by decide) (fun T218 h218 v218 q218 C X218 I218 R218 => ?_)
    obtain ⟨rfl, K218, EX218, FC218, t218, k_t218, nt218, FV218, VT218⟩ := q218
    have sf219 := CHr.safe R218 (Exa.lt A205) sf216
    have f220 := (Arv.keep f217 K218 (ninS (Nat.ne_of_lt lt210) nin0))
    show Goes p e below _ T218 (mkF m 358 #[.val (.int p0), .val (.int p1), .val (.int p2), .val (.int p3), .val (.int p4), s5, .val (.ref bs), .val (.int n), .val (.int kd), .val (.int rp), .val (.int pp), .val (.int ch), .val (.int 0), .val (.ref b201), .unset, .unset, .unset] [(.ref b205)])
    refine g_astore C X218 d0_358 rfl (l' := #[.val (.int p0), .val (.int p1), .val (.int p2), .val (.int p3), .val (.int p4), s5, .val (.ref bs), .val (.int n), .val (.int kd), .val (.int rp), .val (.int pp), .val (.int ch), .val (.int 0), .val (.ref b201), .val (.ref b205), .unset, .unset]) rfl ?_
    have Y221 := X218.more (cells' := 12) (slots' := 200) (by decide) (by decide)
    exact segS hw (.val (.int p0)) (.val (.int p1)) (.val (.int p2)) (.val (.int p3)) (.val (.int p4)) (s5) (.val (.ref bs)) (.val (.int n)) (.val (.int kd)) (.val (.int rp)) (.val (.int pp)) (.val (.int ch)) (.val (.int 0)) (.val (.ref b201)) p_1 p_7 p_11 p_15 p_19 p_23 p_27 p_31 p_35 p_40 p_46 p_52 p_58 k_64 k_66 k_68 k_70 k_72 z_ SZ hz b205 t218 _ _ _ [] C Y221 I218 S_3 E_6 S_9 E_10 S_13 E_14 S_17 E_18 S_21 E_22 F_25 E_26 F_29 E_30 F_33 E_34 F_37 E_38 F_39 F_42 F_45 F_48 F_51 F_54 F_57 F_60 V_63 V_65 V_67 V_69 V_71 EX218 FC218 FV218 VT218 (own_cod rfl rfl (fun _ q => nomatch q)) (fun _ q => nomatch q) (by decide)
  · refine g_aconst_null C X201 d0_345 (g_goto C X201 d0_346 (g_astore C X201 d0_358 rfl (l' := #[.val (.int p0), .val (.int p1), .val (.int p2), .val (.int p3), .val (.int p4), s5, .val (.ref bs), .val (.int n), .val (.int kd), .val (.int rp), .val (.int pp), .val (.int ch), .val (.int 0), .val (.ref b201), .val .null, .unset, .unset]) rfl ?_))
    have sz222 : h.size ≤ b201 := by rw [g_b201]; exact (Keep.refl h []).1
    have kp223 := (Keep.refl h []).ext E201
    have I224 := Lits.keep I0 kp223 sf0
    have Y225 := X201.more (cells' := 12) (slots' := 200) (by decide) (by decide)
    exact segN hw (.val (.int p0)) (.val (.int p1)) (.val (.int p2)) (.val (.int p3)) (.val (.int p4)) (s5) (.val (.ref bs)) (.val (.int n)) (.val (.int kd)) (.val (.int rp)) (.val (.int pp)) (.val (.int ch)) (.val (.int 0)) (.val (.ref b201)) p_1 p_7 p_11 p_15 p_19 p_23 p_27 p_31 p_35 p_40 p_46 p_52 p_58 k_64 k_66 k_68 k_70 k_72 z_ SZ hz C Y225 I224 S_3 E_6 S_9 E_10 S_13 E_14 S_17 E_18 S_21 E_22 F_25 E_26 F_29 E_30 F_33 E_34 F_37 E_38 F_39 F_42 F_45 F_48 F_51 F_54 F_57 F_60 V_63 V_65 V_67 V_69 V_71
theorem d0_120 : Dc code 120 (.aload 13) 2 122 := ⟨at_120, rfl⟩
theorem d0_122 : Dc code 122 (.iconst 0) 1 123 := ⟨at_122, rfl⟩
theorem d0_123 : Dc code 123 (.aload 6) 2 125 := ⟨at_123, rfl⟩
theorem d0_125 : Dc code 125 (.iload 7) 2 127 := ⟨at_125, rfl⟩
theorem d0_127 : Dc code 127 (.iconst 0) 1 128 := ⟨at_127, rfl⟩
theorem d0_128 : Dc code 128 (.iload 9) 2 130 := ⟨at_128, rfl⟩
theorem d0_130 : Dc code 130 (.iload 10) 2 132 := ⟨at_130, rfl⟩
theorem d0_132 : Dc code 132 (.iload 11) 2 134 := ⟨at_132, rfl⟩
theorem d0_134 : Dc code 134 (.invokestatic 26) 3 137 := ⟨at_134, rfl⟩
theorem pd_6 : parseMethodDescriptor "(Ljava/lang/String;IIZIC)C" = some ⟨[(.object "java/lang/String"), .int, .int, .boolean, .int, .char], some .char⟩ := by decide +kernel
theorem d0_137 : Dc code 137 (.castore) 1 138 := ⟨at_137, rfl⟩
theorem segL1 {p : Program} {l : Launch} {e : Env} {s : State} {m : MethodId} {A : Array Value} {below : List Frame} {meth : Method} {c : Code} {Z : State} {a0 : Array Value} (hw : ∀ d ∈ tables_1, d.before a0 Z = true) {T0 : State} {h : Heap} {vm0 : Vm} (p0 p1 p2 p3 p4 : Int32) (s5 : Slot) (n kd rp pp ch : Int32) (p_1 p_7 p_11 p_15 p_19 p_23 p_27 p_31 p_35 p_40 p_46 p_52 p_58 : Addr) (k_64 k_66 k_68 k_70 k_72 : ClassId) (z_ : Int32) (SZ : Sta Z Z.heap "java/lang/String" "COMPACT_STRINGS" "Z" (.int z_)) (hz : ¬ z_ = 0) (fm_ : Value) (SF : Sta Z Z.heap "jdk/internal/util/Preconditions" "SIOOBE_FORMATTER" "Ljava/util/function/BiFunction;" fm_) (rf_ : fm_.isRef = true) (bs : Addr) (bt : Addr) (bk : ClassId) (bN : Int32) (bv : List Value) (bc : List Int32) (C : Cx p (s.setVm vm0) m meth c Z "com/example/indie_lease/indielease/model/LicenseStatusOfCodePinLaw" "law" code maxLocals ret) (X0 : St p l e room_1 (s.setVm vm0) m A below meth c Z T0 h 2 36) (I0 : Lits Z consts_1 s vm0 h) (S_3 : Sta Z Z.heap "com/example/indie_lease/indielease/model/LicenseStatus" "$VALUES" "[Lcom/example/indie_lease/indielease/model/LicenseStatus;" (.ref p_1)) (E_6 : Exa Z Z.heap p_1 "[Lcom/example/indie_lease/indielease/model/LicenseStatus;") (S_9 : Sta Z Z.heap "com/example/indie_lease/indielease/model/LicenseStatus" "ACTIVE" "Lcom/example/indie_lease/indielease/model/LicenseStatus;" (.ref p_7)) (E_10 : Exa Z Z.heap p_7 "com/example/indie_lease/indielease/model/LicenseStatus") (S_13 : Sta Z Z.heap "com/example/indie_lease/indielease/model/LicenseStatus" "FALLBACK" "Lcom/example/indie_lease/indielease/model/LicenseStatus;" (.ref p_11)) (E_14 : Exa Z Z.heap p_11 "com/example/indie_lease/indielease/model/LicenseStatus") (S_17 : Sta Z Z.heap "com/example/indie_lease/indielease/model/LicenseStatus" "EXPIRED" "Lcom/example/indie_lease/indielease/model/LicenseStatus;" (.ref p_15)) (E_18 : Exa Z Z.heap p_15 "com/example/indie_lease/indielease/model/LicenseStatus") (S_21 : Sta Z Z.heap "com/example/indie_lease/indielease/model/LicenseStatus" "REVOKED" "Lcom/example/indie_lease/indielease/model/LicenseStatus;" (.ref p_19)) (E_22 : Exa Z Z.heap p_19 "com/example/indie_lease/indielease/model/LicenseStatus") (F_25 : Fld Z Z.heap p_7 "com/example/indie_lease/indielease/model/LicenseStatus" "code" "Ljava/lang/String;" (.ref p_23)) (E_26 : Exa Z Z.heap p_23 "java/lang/String") (F_29 : Fld Z Z.heap p_11 "com/example/indie_lease/indielease/model/LicenseStatus" "code" "Ljava/lang/String;" (.ref p_27)) (E_30 : Exa Z Z.heap p_27 "java/lang/String") (F_33 : Fld Z Z.heap p_15 "com/example/indie_lease/indielease/model/LicenseStatus" "code" "Ljava/lang/String;" (.ref p_31)) (E_34 : Exa Z Z.heap p_31 "java/lang/String") (F_37 : Fld Z Z.heap p_19 "com/example/indie_lease/indielease/model/LicenseStatus" "code" "Ljava/lang/String;" (.ref p_35)) (E_38 : Exa Z Z.heap p_35 "java/lang/String") (F_39 : Fld Z Z.heap p_23 "java/lang/String" "coder" "B" (.int 0)) (F_42 : Fld Z Z.heap p_23 "java/lang/String" "value" "[B" (.ref p_40)) (F_45 : Fld Z Z.heap p_27 "java/lang/String" "coder" "B" (.int 0)) (F_48 : Fld Z Z.heap p_27 "java/lang/String" "value" "[B" (.ref p_46)) (F_51 : Fld Z Z.heap p_31 "java/lang/String" "coder" "B" (.int 0)) (F_54 : Fld Z Z.heap p_31 "java/lang/String" "value" "[B" (.ref p_52)) (F_57 : Fld Z Z.heap p_35 "java/lang/String" "coder" "B" (.int 0)) (F_60 : Fld Z Z.heap p_35 "java/lang/String" "value" "[B" (.ref p_58)) (V_63 : Arv Z Z.heap p_1 k_64 (.object "com/example/indie_lease/indielease/model/LicenseStatus") 4 [(.ref p_7), (.ref p_11), (.ref p_15), (.ref p_19)] .null) (V_65 : Arv Z Z.heap p_40 k_66 .byte 6 [(.int 97), (.int 99), (.int 116), (.int 105), (.int 118), (.int 101)] (.int 0)) (V_67 : Arv Z Z.heap p_46 k_68 .byte 8 [(.int 102), (.int 97), (.int 108), (.int 108), (.int 98), (.int 97), (.int 99), (.int 107)] (.int 0)) (V_69 : Arv Z Z.heap p_52 k_70 .byte 7 [(.int 101), (.int 120), (.int 112), (.int 105), (.int 114), (.int 101), (.int 100)] (.int 0)) (V_71 : Arv Z Z.heap p_58 k_72 .byte 7 [(.int 114), (.int 101), (.int 118), (.int 111), (.int 107), (.int 101), (.int 100)] (.int 0)) (bEX : Exa Z h bs "java/lang/String") (bFC : Fld Z h bs "java/lang/String" "coder" "B" (.int (0 : Int32))) (bFV : Fld Z h bs "java/lang/String" "value" "[B" (.ref bt)) (bVT : Arv Z h bt bk .byte bN bv (.int (0 : Int32))) (bhc : StrChars.Road.CodA bc 0 bN bv) (bhs : ∀ c ∈ bc, ¬ c < 0 ∧ ¬ (255 : Int32) < c) (bhl : bc.length ≤ 4000) (hn : Int32.ofNat bc.length = n) (hc : ¬ ch < 0 ∧ ¬ (255 : Int32) < ch) :
    Goes p e below (EndL Z consts_1 s 32 5312 (fun v' h' => v' = some (.int 1))) T0 (mkF m 109 #[.val (.int p0), .val (.int p1), .val (.int p2), .val (.int p3), .val (.int p4), s5, .val (.ref bs), .val (.int n), .val (.int kd), .val (.int rp), .val (.int pp), .val (.int ch), .val (.int 1), .unset, .unset, .unset, .unset] []) := by
  refine g_iload C X0 d0_109 rfl (g_newarray C X0 (wd hw 22 rfl) d0_111 (by decide) 1 1 (by decide) (by decide) (by decide) (by decide) (fun T226 h226 b226 k_b226 g_b226 n_b226 X226 E226 V226 => ?_))
  have lt227 : bs < b226 := by rw [g_b226]; exact Exa.lt bEX
  have lt228 : bt < b226 := by rw [g_b226]; exact Arv.lt bVT
  have V_b226 : Arv Z h226 b226 k_b226 .char (1 : Int32) [(.int 0)] (.int 0) := V226
  refine g_astore C X226 d0_113 rfl (l' := #[.val (.int p0), .val (.int p1), .val (.int p2), .val (.int p3), .val (.int p4), s5, .val (.ref bs), .val (.int n), .val (.int kd), .val (.int rp), .val (.int pp), .val (.int ch), .val (.int 1), .val (.ref b226), .unset, .unset, .unset]) rfl (g_iload C X226 d0_115 rfl (g_ifn (h0_le _) C X226 d0_117 (fun q => absurd (by decide) q) (fun _ => ?_)))
  refine g_aload C X226 d0_120 rfl rfl (g_iconst 0 C X226 d0_122 rfl (g_aload C X226 d0_123 rfl rfl (g_iload C X226 d0_125 rfl (g_iconst 0 C X226 d0_127 rfl (g_iload C X226 d0_128 rfl (g_iload C X226 d0_130 rfl (g_iload C X226 d0_132 rfl ?_)))))))
  have f229 := (Exa.ext E226 bEX)
  have f230 := (Fld.ext E226 bFV)
  have f231 := (Fld.ext E226 bFC)
  have f232 := (Arv.ext bVT E226)
  refine g_static (argsL := [(.ref bs), (.int n), (.int 0), (.int rp), (.int pp), (.int ch)]) (st := [(.int 0), (.ref b226)]) C X226 (wd hw 23 rfl) (wd hw 24 rfl) (wd hw 25 rfl) (wd hw 26 rfl) (by decide) (pay_of (W' := 2) (rpk0 l hw X226.ext bs n rp pp ch z_ SZ hz fm_ SF rf_ bt _ _ _ bc f229 f231 f230 f232 bhc bhs bhl hn hc) C.hZ (wd hw 26 rfl) (wd hw 25 rfl) (by decide) (by decide)) pd_6 rfl rfl _ rfl (Nat.le_of_eq rfl) d0_134 (by decide) (by decide) (fun T233 h233 v233 q233 X233 => ?_)
  obtain ⟨x233_, rfl, lx233, e233⟩ := q233
  subst e233
  show Goes p e below _ T233 (mkF m 137 #[.val (.int p0), .val (.int p1), .val (.int p2), .val (.int p3), .val (.int p4), s5, .val (.ref bs), .val (.int n), .val (.int kd), .val (.int rp), .val (.int pp), .val (.int ch), .val (.int 1), .val (.ref b226), .unset, .unset, .unset] [(.int x233_), (.int 0), (.ref b226)])
  refine g_castore C X233 V_b226 n_b226 d0_137 (by decide) (by decide) (Nat.le_of_ble_eq_true rfl) (.int x233_) (own_nar lx233) (fun T234 h234 X234 W234 V234 => ?_)
  have V234_b226 : Arv Z h234 b226 k_b226 .char (1 : Int32) [(.int x233_)] (.int 0) := V234
  refine g_iload C X234 d0_138 rfl (g_iconst 1 C X234 d0_140 rfl (g_icmpn (hI_le _ _) C X234 d0_141 (fun _ => ?_) (fun q => absurd q (by decide))))
  refine g_iload C X234 d0_162 rfl (g_iconst 2 C X234 d0_164 rfl (g_icmpn (hI_le _ _) C X234 d0_165 (fun _ => ?_) (fun q => absurd q (by decide))))
  refine g_iload C X234 d0_186 rfl (g_iconst 3 C X234 d0_188 rfl (g_icmpn (hI_le _ _) C X234 d0_189 (fun _ => ?_) (fun q => absurd q (by decide))))
  refine g_iload C X234 d0_210 rfl (g_iconst 4 C X234 d0_212 rfl (g_icmpn (hI_le _ _) C X234 d0_213 (fun _ => ?_) (fun q => absurd q (by decide))))
  refine g_iload C X234 d0_234 rfl (g_iconst 5 C X234 d0_236 rfl (g_icmpn (hI_le _ _) C X234 d0_237 (fun _ => ?_) (fun q => absurd q (by decide))))
  refine g_iload C X234 d0_258 rfl (g_bipush 6 C X234 d0_260 rfl (g_icmpn (hI_le _ _) C X234 d0_262 (fun _ => ?_) (fun q => absurd q (by decide))))
  refine g_iload C X234 d0_285 rfl (g_bipush 7 C X234 d0_287 rfl (g_icmpn (hI_le _ _) C X234 d0_289 (fun _ => ?_) (fun q => absurd q (by decide))))
  refine g_iload C X234 d0_312 rfl (g_bipush 8 C X234 d0_314 rfl (g_icmpn (hI_le _ _) C X234 d0_316 (fun _ => ?_) (fun q => absurd q (by decide))))
  refine g_iload C X234 d0_339 rfl (g_iconst 3 C X234 d0_341 rfl (g_icmpn (hI_ne _ _) C X234 d0_342 (fun c342_235 => ?_) (fun c342_235 => ?_)))
  · refine g_new C X234 (wd hw 80 rfl) (wd hw 2 rfl) (wd hw 1 rfl) d0_349 (by decide) (by decide) (fun T236 h236 b236 g_b236 n_b236 X236 E236 A236 D236 M236 => ?_)
    have f237 := (Exa.wr W234 f229)
    have lt238 : bs < b236 := by rw [g_b236]; exact Exa.lt f237
    have f239 := (Arv.other f232 W234 (Nat.ne_of_lt lt228))
    have lt240 : bt < b236 := by rw [g_b236]; exact Arv.lt f239
    have lt241 : b226 < b236 := by rw [g_b236]; exact Arv.lt V234_b226
    have F_value_b236 : Fld Z h236 b236 "java/lang/String" "value" "[B" .null := D236 (Or.inr (wd hw 4 rfl)) (ty := (.array .byte)) (by decide)
    have F_coder_b236 : Fld Z h236 b236 "java/lang/String" "coder" "B" (.int 0) := D236 (Or.inr (wd hw 5 rfl)) (ty := .byte) (by decide)
    refine g_dup C X236 d0_352 rfl (g_aload C X236 d0_353 rfl rfl ?_)
    have hp242 : ∀ c ∈ [x233_], ¬ c < 0 ∧ ¬ (255 : Int32) < c := (List.forall_mem_cons.mpr ⟨lx233, (fun _ q => nomatch q)⟩)
    have f244 := (Arv.ext V234_b226 E236)
    refine g_special (argsL := [(.ref b226)]) (st := [(.ref b236)]) C X236 rfl (wd hw 81 rfl) (wd hw 82 rfl) (wd hw 83 rfl) (by decide) (payV (W' := 1) (cs := [x233_]) (n := 1) C.hZ X236.ext (own_words hw) (kI := 4) (wd hw 2 rfl) n_b236 A236 F_value_b236 F_coder_b236 f244 SZ hz rfl rfl (by decide) (by decide) hp242 (by decide) (by decide)) pd_5 rfl rfl _ rfl (Nat.le_of_eq rfl) d0_355 (by decide) (by decide) (fun T243 h243 v243 q243 X243 => ?_)
    obtain ⟨rfl, K243, EX243, FC243, t243, k_t243, nt0_243, gt243, nt243, FV243, VT243⟩ := q243
    have f246 := (Exa.ext E236 f237)
    have lt245 : bs < t243 := Nat.lt_of_lt_of_le (Exa.lt f246) gt243
    have f248 := (Arv.ext f239 E236)
    have lt247 : bt < t243 := Nat.lt_of_lt_of_le (Arv.lt f248) gt243
    have lt249 : b226 < t243 := Nat.lt_of_lt_of_le (Arv.lt f244) gt243
    have lt250 : b236 < t243 := Nat.lt_of_lt_of_le (Exa.lt A236) gt243
    show Goes p e below _ T243 (mkF m 358 #[.val (.int p0), .val (.int p1), .val (.int p2), .val (.int p3), .val (.int p4), s5, .val (.ref bs), .val (.int n), .val (.int kd), .val (.int rp), .val (.int pp), .val (.int ch), .val (.int 1), .val (.ref b226), .unset, .unset, .unset] [(.ref b236)])
    refine g_astore C X243 d0_358 rfl (l' := #[.val (.int p0), .val (.int p1), .val (.int p2), .val (.int p3), .val (.int p4), s5, .val (.ref bs), .val (.int n), .val (.int kd), .val (.int rp), .val (.int pp), .val (.int ch), .val (.int 1), .val (.ref b226), .val (.ref b236), .unset, .unset]) rfl ?_
    have sz251 : h.size ≤ b226 := by rw [g_b226]; exact (Keep.refl h []).1
    have kp252 := (Keep.refl h []).ext E226
    have kp253 := kp252.wr W234 (Or.inr sz251)
    have sz254 : h.size ≤ b236 := by rw [g_b236]; exact kp253.1
    have kp255 := kp253.ext E236
    have kp256 := kp255.trans K243 (allS (Or.inr sz254) all0)
    have I257 := Lits.keep I0 kp256 sf0
    have f258 := (Arv.keep f244 K243 (ninS (Nat.ne_of_lt lt241) nin0))
    have Y259 := X243.more (cells' := 12) (slots' := 200) (by decide) (by decide)
    exact segS hw (.val (.int p0)) (.val (.int p1)) (.val (.int p2)) (.val (.int p3)) (.val (.int p4)) (s5) (.val (.ref bs)) (.val (.int n)) (.val (.int kd)) (.val (.int rp)) (.val (.int pp)) (.val (.int ch)) (.val (.int 1)) (.val (.ref b226)) p_1 p_7 p_11 p_15 p_19 p_23 p_27 p_31 p_35 p_40 p_46 p_52 p_58 k_64 k_66 k_68 k_70 k_72 z_ SZ hz b236 t243 _ _ _ [x233_] C Y259 I257 S_3 E_6 S_9 E_10 S_13 E_14 S_17 E_18 S_21 E_22 F_25 E_26 F_29 E_30 F_33 E_34 F_37 E_38 F_39 F_42 F_45 F_48 F_51 F_54 F_57 F_60 V_63 V_65 V_67 V_69 V_71 EX243 FC243 FV243 VT243 (own_cod rfl rfl hp242) hp242 (Nat.le_of_ble_eq_true rfl)
  · refine g_aconst_null C X234 d0_345 (g_goto C X234 d0_346 (g_astore C X234 d0_358 rfl (l' := #[.val (.int p0), .val (.int p1), .val (.int p2), .val (.int p3), .val (.int p4), s5, .val (.ref bs), .val (.int n), .val (.int kd), .val (.int rp), .val (.int pp), .val (.int ch), .val (.int 1), .val (.ref b226), .val .null, .unset, .unset]) rfl ?_))
    have sz260 : h.size ≤ b226 := by rw [g_b226]; exact (Keep.refl h []).1
    have kp261 := (Keep.refl h []).ext E226
    have kp262 := kp261.wr W234 (Or.inr sz260)
    have I263 := Lits.keep I0 kp262 sf0
    have Y264 := X234.more (cells' := 12) (slots' := 200) (by decide) (by decide)
    exact segN hw (.val (.int p0)) (.val (.int p1)) (.val (.int p2)) (.val (.int p3)) (.val (.int p4)) (s5) (.val (.ref bs)) (.val (.int n)) (.val (.int kd)) (.val (.int rp)) (.val (.int pp)) (.val (.int ch)) (.val (.int 1)) (.val (.ref b226)) p_1 p_7 p_11 p_15 p_19 p_23 p_27 p_31 p_35 p_40 p_46 p_52 p_58 k_64 k_66 k_68 k_70 k_72 z_ SZ hz C Y264 I263 S_3 E_6 S_9 E_10 S_13 E_14 S_17 E_18 S_21 E_22 F_25 E_26 F_29 E_30 F_33 E_34 F_37 E_38 F_39 F_42 F_45 F_48 F_51 F_54 F_57 F_60 V_63 V_65 V_67 V_69 V_71
theorem d0_144 : Dc code 144 (.aload 13) 2 146 := ⟨at_144, rfl⟩
theorem d0_146 : Dc code 146 (.iconst 1) 1 147 := ⟨at_146, rfl⟩
theorem d0_147 : Dc code 147 (.aload 6) 2 149 := ⟨at_147, rfl⟩
theorem d0_149 : Dc code 149 (.iload 7) 2 151 := ⟨at_149, rfl⟩
theorem d0_151 : Dc code 151 (.iconst 1) 1 152 := ⟨at_151, rfl⟩
theorem d0_152 : Dc code 152 (.iload 9) 2 154 := ⟨at_152, rfl⟩
theorem d0_154 : Dc code 154 (.iload 10) 2 156 := ⟨at_154, rfl⟩
theorem d0_156 : Dc code 156 (.iload 11) 2 158 := ⟨at_156, rfl⟩
theorem d0_158 : Dc code 158 (.invokestatic 26) 3 161 := ⟨at_158, rfl⟩
theorem d0_161 : Dc code 161 (.castore) 1 162 := ⟨at_161, rfl⟩
theorem segL2 {p : Program} {l : Launch} {e : Env} {s : State} {m : MethodId} {A : Array Value} {below : List Frame} {meth : Method} {c : Code} {Z : State} {a0 : Array Value} (hw : ∀ d ∈ tables_1, d.before a0 Z = true) {T0 : State} {h : Heap} {vm0 : Vm} (p0 p1 p2 p3 p4 : Int32) (s5 : Slot) (n kd rp pp ch : Int32) (p_1 p_7 p_11 p_15 p_19 p_23 p_27 p_31 p_35 p_40 p_46 p_52 p_58 : Addr) (k_64 k_66 k_68 k_70 k_72 : ClassId) (z_ : Int32) (SZ : Sta Z Z.heap "java/lang/String" "COMPACT_STRINGS" "Z" (.int z_)) (hz : ¬ z_ = 0) (fm_ : Value) (SF : Sta Z Z.heap "jdk/internal/util/Preconditions" "SIOOBE_FORMATTER" "Ljava/util/function/BiFunction;" fm_) (rf_ : fm_.isRef = true) (bs : Addr) (bt : Addr) (bk : ClassId) (bN : Int32) (bv : List Value) (bc : List Int32) (C : Cx p (s.setVm vm0) m meth c Z "com/example/indie_lease/indielease/model/LicenseStatusOfCodePinLaw" "law" code maxLocals ret) (X0 : St p l e room_1 (s.setVm vm0) m A below meth c Z T0 h 2 36) (I0 : Lits Z consts_1 s vm0 h) (S_3 : Sta Z Z.heap "com/example/indie_lease/indielease/model/LicenseStatus" "$VALUES" "[Lcom/example/indie_lease/indielease/model/LicenseStatus;" (.ref p_1)) (E_6 : Exa Z Z.heap p_1 "[Lcom/example/indie_lease/indielease/model/LicenseStatus;") (S_9 : Sta Z Z.heap "com/example/indie_lease/indielease/model/LicenseStatus" "ACTIVE" "Lcom/example/indie_lease/indielease/model/LicenseStatus;" (.ref p_7)) (E_10 : Exa Z Z.heap p_7 "com/example/indie_lease/indielease/model/LicenseStatus") (S_13 : Sta Z Z.heap "com/example/indie_lease/indielease/model/LicenseStatus" "FALLBACK" "Lcom/example/indie_lease/indielease/model/LicenseStatus;" (.ref p_11)) (E_14 : Exa Z Z.heap p_11 "com/example/indie_lease/indielease/model/LicenseStatus") (S_17 : Sta Z Z.heap "com/example/indie_lease/indielease/model/LicenseStatus" "EXPIRED" "Lcom/example/indie_lease/indielease/model/LicenseStatus;" (.ref p_15)) (E_18 : Exa Z Z.heap p_15 "com/example/indie_lease/indielease/model/LicenseStatus") (S_21 : Sta Z Z.heap "com/example/indie_lease/indielease/model/LicenseStatus" "REVOKED" "Lcom/example/indie_lease/indielease/model/LicenseStatus;" (.ref p_19)) (E_22 : Exa Z Z.heap p_19 "com/example/indie_lease/indielease/model/LicenseStatus") (F_25 : Fld Z Z.heap p_7 "com/example/indie_lease/indielease/model/LicenseStatus" "code" "Ljava/lang/String;" (.ref p_23)) (E_26 : Exa Z Z.heap p_23 "java/lang/String") (F_29 : Fld Z Z.heap p_11 "com/example/indie_lease/indielease/model/LicenseStatus" "code" "Ljava/lang/String;" (.ref p_27)) (E_30 : Exa Z Z.heap p_27 "java/lang/String") (F_33 : Fld Z Z.heap p_15 "com/example/indie_lease/indielease/model/LicenseStatus" "code" "Ljava/lang/String;" (.ref p_31)) (E_34 : Exa Z Z.heap p_31 "java/lang/String") (F_37 : Fld Z Z.heap p_19 "com/example/indie_lease/indielease/model/LicenseStatus" "code" "Ljava/lang/String;" (.ref p_35)) (E_38 : Exa Z Z.heap p_35 "java/lang/String") (F_39 : Fld Z Z.heap p_23 "java/lang/String" "coder" "B" (.int 0)) (F_42 : Fld Z Z.heap p_23 "java/lang/String" "value" "[B" (.ref p_40)) (F_45 : Fld Z Z.heap p_27 "java/lang/String" "coder" "B" (.int 0)) (F_48 : Fld Z Z.heap p_27 "java/lang/String" "value" "[B" (.ref p_46)) (F_51 : Fld Z Z.heap p_31 "java/lang/String" "coder" "B" (.int 0)) (F_54 : Fld Z Z.heap p_31 "java/lang/String" "value" "[B" (.ref p_52)) (F_57 : Fld Z Z.heap p_35 "java/lang/String" "coder" "B" (.int 0)) (F_60 : Fld Z Z.heap p_35 "java/lang/String" "value" "[B" (.ref p_58)) (V_63 : Arv Z Z.heap p_1 k_64 (.object "com/example/indie_lease/indielease/model/LicenseStatus") 4 [(.ref p_7), (.ref p_11), (.ref p_15), (.ref p_19)] .null) (V_65 : Arv Z Z.heap p_40 k_66 .byte 6 [(.int 97), (.int 99), (.int 116), (.int 105), (.int 118), (.int 101)] (.int 0)) (V_67 : Arv Z Z.heap p_46 k_68 .byte 8 [(.int 102), (.int 97), (.int 108), (.int 108), (.int 98), (.int 97), (.int 99), (.int 107)] (.int 0)) (V_69 : Arv Z Z.heap p_52 k_70 .byte 7 [(.int 101), (.int 120), (.int 112), (.int 105), (.int 114), (.int 101), (.int 100)] (.int 0)) (V_71 : Arv Z Z.heap p_58 k_72 .byte 7 [(.int 114), (.int 101), (.int 118), (.int 111), (.int 107), (.int 101), (.int 100)] (.int 0)) (bEX : Exa Z h bs "java/lang/String") (bFC : Fld Z h bs "java/lang/String" "coder" "B" (.int (0 : Int32))) (bFV : Fld Z h bs "java/lang/String" "value" "[B" (.ref bt)) (bVT : Arv Z h bt bk .byte bN bv (.int (0 : Int32))) (bhc : StrChars.Road.CodA bc 0 bN bv) (bhs : ∀ c ∈ bc, ¬ c < 0 ∧ ¬ (255 : Int32) < c) (bhl : bc.length ≤ 4000) (hn : Int32.ofNat bc.length = n) (hc : ¬ ch < 0 ∧ ¬ (255 : Int32) < ch) :
    Goes p e below (EndL Z consts_1 s 32 5312 (fun v' h' => v' = some (.int 1))) T0 (mkF m 109 #[.val (.int p0), .val (.int p1), .val (.int p2), .val (.int p3), .val (.int p4), s5, .val (.ref bs), .val (.int n), .val (.int kd), .val (.int rp), .val (.int pp), .val (.int ch), .val (.int 2), .unset, .unset, .unset, .unset] []) := by
  refine g_iload C X0 d0_109 rfl (g_newarray C X0 (wd hw 22 rfl) d0_111 (by decide) 2 2 (by decide) (by decide) (by decide) (by decide) (fun T265 h265 b265 k_b265 g_b265 n_b265 X265 E265 V265 => ?_))
  have lt266 : bs < b265 := by rw [g_b265]; exact Exa.lt bEX
  have lt267 : bt < b265 := by rw [g_b265]; exact Arv.lt bVT
  have V_b265 : Arv Z h265 b265 k_b265 .char (2 : Int32) [(.int 0), (.int 0)] (.int 0) := V265
  refine g_astore C X265 d0_113 rfl (l' := #[.val (.int p0), .val (.int p1), .val (.int p2), .val (.int p3), .val (.int p4), s5, .val (.ref bs), .val (.int n), .val (.int kd), .val (.int rp), .val (.int pp), .val (.int ch), .val (.int 2), .val (.ref b265), .unset, .unset, .unset]) rfl (g_iload C X265 d0_115 rfl (g_ifn (h0_le _) C X265 d0_117 (fun q => absurd (by decide) q) (fun _ => ?_)))
  refine g_aload C X265 d0_120 rfl rfl (g_iconst 0 C X265 d0_122 rfl (g_aload C X265 d0_123 rfl rfl (g_iload C X265 d0_125 rfl (g_iconst 0 C X265 d0_127 rfl (g_iload C X265 d0_128 rfl (g_iload C X265 d0_130 rfl (g_iload C X265 d0_132 rfl ?_)))))))
  have f268 := (Exa.ext E265 bEX)
  have f269 := (Fld.ext E265 bFV)
  have f270 := (Fld.ext E265 bFC)
  have f271 := (Arv.ext bVT E265)
  refine g_static (argsL := [(.ref bs), (.int n), (.int 0), (.int rp), (.int pp), (.int ch)]) (st := [(.int 0), (.ref b265)]) C X265 (wd hw 23 rfl) (wd hw 24 rfl) (wd hw 25 rfl) (wd hw 26 rfl) (by decide) (pay_of (W' := 2) (rpk0 l hw X265.ext bs n rp pp ch z_ SZ hz fm_ SF rf_ bt _ _ _ bc f268 f270 f269 f271 bhc bhs bhl hn hc) C.hZ (wd hw 26 rfl) (wd hw 25 rfl) (by decide) (by decide)) pd_6 rfl rfl _ rfl (Nat.le_of_eq rfl) d0_134 (by decide) (by decide) (fun T272 h272 v272 q272 X272 => ?_)
  obtain ⟨x272_, rfl, lx272, e272⟩ := q272
  subst e272
  show Goes p e below _ T272 (mkF m 137 #[.val (.int p0), .val (.int p1), .val (.int p2), .val (.int p3), .val (.int p4), s5, .val (.ref bs), .val (.int n), .val (.int kd), .val (.int rp), .val (.int pp), .val (.int ch), .val (.int 2), .val (.ref b265), .unset, .unset, .unset] [(.int x272_), (.int 0), (.ref b265)])
  refine g_castore C X272 V_b265 n_b265 d0_137 (by decide) (by decide) (Nat.le_of_ble_eq_true rfl) (.int x272_) (own_nar lx272) (fun T273 h273 X273 W273 V273 => ?_)
  have V273_b265 : Arv Z h273 b265 k_b265 .char (2 : Int32) [(.int x272_), (.int 0)] (.int 0) := V273
  refine g_iload C X273 d0_138 rfl (g_iconst 1 C X273 d0_140 rfl (g_icmpn (hI_le _ _) C X273 d0_141 (fun q => absurd (by decide) q) (fun _ => ?_)))
  refine g_aload C X273 d0_144 rfl rfl (g_iconst 1 C X273 d0_146 rfl (g_aload C X273 d0_147 rfl rfl (g_iload C X273 d0_149 rfl (g_iconst 1 C X273 d0_151 rfl (g_iload C X273 d0_152 rfl (g_iload C X273 d0_154 rfl (g_iload C X273 d0_156 rfl ?_)))))))
  have f274 := (Exa.wr W273 f268)
  have f275 := (Fld.other W273 f269 (Or.inl (Nat.ne_of_lt lt266)))
  have f276 := (Fld.other W273 f270 (Or.inl (Nat.ne_of_lt lt266)))
  have f277 := (Arv.other f271 W273 (Nat.ne_of_lt lt267))
  refine g_static (argsL := [(.ref bs), (.int n), (.int 1), (.int rp), (.int pp), (.int ch)]) (st := [(.int 1), (.ref b265)]) C X273 (wd hw 23 rfl) (wd hw 24 rfl) (wd hw 25 rfl) (wd hw 26 rfl) (by decide) (pay_of (W' := 2) (rpk1 l hw X273.ext bs n rp pp ch z_ SZ hz fm_ SF rf_ bt _ _ _ bc f274 f276 f275 f277 bhc bhs bhl hn hc) C.hZ (wd hw 26 rfl) (wd hw 25 rfl) (by decide) (by decide)) pd_6 rfl rfl _ rfl (Nat.le_of_eq rfl) d0_158 (by decide) (by decide) (fun T278 h278 v278 q278 X278 => ?_)
  obtain ⟨x278_, rfl, lx278, e278⟩ := q278
  subst e278
  show Goes p e below _ T278 (mkF m 161 #[.val (.int p0), .val (.int p1), .val (.int p2), .val (.int p3), .val (.int p4), s5, .val (.ref bs), .val (.int n), .val (.int kd), .val (.int rp), .val (.int pp), .val (.int ch), .val (.int 2), .val (.ref b265), .unset, .unset, .unset] [(.int x278_), (.int 1), (.ref b265)])
  refine g_castore C X278 V273_b265 n_b265 d0_161 (by decide) (by decide) (Nat.le_of_ble_eq_true rfl) (.int x278_) (own_nar lx278) (fun T279 h279 X279 W279 V279 => ?_)
  have V279_b265 : Arv Z h279 b265 k_b265 .char (2 : Int32) [(.int x272_), (.int x278_)] (.int 0) := V279
  refine g_iload C X279 d0_162 rfl (g_iconst 2 C X279 d0_164 rfl (g_icmpn (hI_le _ _) C X279 d0_165 (fun _ => ?_) (fun q => absurd q (by decide))))
  refine g_iload C X279 d0_186 rfl (g_iconst 3 C X279 d0_188 rfl (g_icmpn (hI_le _ _) C X279 d0_189 (fun _ => ?_) (fun q => absurd q (by decide))))
  refine g_iload C X279 d0_210 rfl (g_iconst 4 C X279 d0_212 rfl (g_icmpn (hI_le _ _) C X279 d0_213 (fun _ => ?_) (fun q => absurd q (by decide))))
  refine g_iload C X279 d0_234 rfl (g_iconst 5 C X279 d0_236 rfl (g_icmpn (hI_le _ _) C X279 d0_237 (fun _ => ?_) (fun q => absurd q (by decide))))
  refine g_iload C X279 d0_258 rfl (g_bipush 6 C X279 d0_260 rfl (g_icmpn (hI_le _ _) C X279 d0_262 (fun _ => ?_) (fun q => absurd q (by decide))))
  refine g_iload C X279 d0_285 rfl (g_bipush 7 C X279 d0_287 rfl (g_icmpn (hI_le _ _) C X279 d0_289 (fun _ => ?_) (fun q => absurd q (by decide))))
  refine g_iload C X279 d0_312 rfl (g_bipush 8 C X279 d0_314 rfl (g_icmpn (hI_le _ _) C X279 d0_316 (fun _ => ?_) (fun q => absurd q (by decide))))
  refine g_iload C X279 d0_339 rfl (g_iconst 3 C X279 d0_341 rfl (g_icmpn (hI_ne _ _) C X279 d0_342 (fun c342_280 => ?_) (fun c342_280 => ?_)))
  · refine g_new C X279 (wd hw 80 rfl) (wd hw 2 rfl) (wd hw 1 rfl) d0_349 (by decide) (by decide) (fun T281 h281 b281 g_b281 n_b281 X281 E281 A281 D281 M281 => ?_)
    have f282 := (Exa.wr W279 f274)
    have lt283 : bs < b281 := by rw [g_b281]; exact Exa.lt f282
    have f284 := (Arv.other f277 W279 (Nat.ne_of_lt lt267))
    have lt285 : bt < b281 := by rw [g_b281]; exact Arv.lt f284
    have lt286 : b265 < b281 := by rw [g_b281]; exact Arv.lt V279_b265
    have F_value_b281 : Fld Z h281 b281 "java/lang/String" "value" "[B" .null := D281 (Or.inr (wd hw 4 rfl)) (ty := (.array .byte)) (by decide)
    have F_coder_b281 : Fld Z h281 b281 "java/lang/String" "coder" "B" (.int 0) := D281 (Or.inr (wd hw 5 rfl)) (ty := .byte) (by decide)
    refine g_dup C X281 d0_352 rfl (g_aload C X281 d0_353 rfl rfl ?_)
    have hp287 : ∀ c ∈ [x272_, x278_], ¬ c < 0 ∧ ¬ (255 : Int32) < c := (List.forall_mem_cons.mpr ⟨lx272, (List.forall_mem_cons.mpr ⟨lx278, (fun _ q => nomatch q)⟩)⟩)
    have f289 := (Arv.ext V279_b265 E281)
    refine g_special (argsL := [(.ref b265)]) (st := [(.ref b281)]) C X281 rfl (wd hw 81 rfl) (wd hw 82 rfl) (wd hw 83 rfl) (by decide) (payV (W' := 1) (cs := [x272_, x278_]) (n := 2) C.hZ X281.ext (own_words hw) (kI := 4) (wd hw 2 rfl) n_b281 A281 F_value_b281 F_coder_b281 f289 SZ hz rfl rfl (by decide) (by decide) hp287 (by decide) (by decide)) pd_5 rfl rfl _ rfl (Nat.le_of_eq rfl) d0_355 (by decide) (by decide) (fun T288 h288 v288 q288 X288 => ?_)
    obtain ⟨rfl, K288, EX288, FC288, t288, k_t288, nt0_288, gt288, nt288, FV288, VT288⟩ := q288
    have f291 := (Exa.ext E281 f282)
    have lt290 : bs < t288 := Nat.lt_of_lt_of_le (Exa.lt f291) gt288
    have f293 := (Arv.ext f284 E281)
    have lt292 : bt < t288 := Nat.lt_of_lt_of_le (Arv.lt f293) gt288
    have lt294 : b265 < t288 := Nat.lt_of_lt_of_le (Arv.lt f289) gt288
    have lt295 : b281 < t288 := Nat.lt_of_lt_of_le (Exa.lt A281) gt288
    show Goes p e below _ T288 (mkF m 358 #[.val (.int p0), .val (.int p1), .val (.int p2), .val (.int p3), .val (.int p4), s5, .val (.ref bs), .val (.int n), .val (.int kd), .val (.int rp), .val (.int pp), .val (.int ch), .val (.int 2), .val (.ref b265), .unset, .unset, .unset] [(.ref b281)])
    refine g_astore C X288 d0_358 rfl (l' := #[.val (.int p0), .val (.int p1), .val (.int p2), .val (.int p3), .val (.int p4), s5, .val (.ref bs), .val (.int n), .val (.int kd), .val (.int rp), .val (.int pp), .val (.int ch), .val (.int 2), .val (.ref b265), .val (.ref b281), .unset, .unset]) rfl ?_
    have sz296 : h.size ≤ b265 := by rw [g_b265]; exact (Keep.refl h []).1
    have kp297 := (Keep.refl h []).ext E265
    have kp298 := kp297.wr W273 (Or.inr sz296)
    have kp299 := kp298.wr W279 (Or.inr sz296)
    have sz300 : h.size ≤ b281 := by rw [g_b281]; exact kp299.1
    have kp301 := kp299.ext E281
    have kp302 := kp301.trans K288 (allS (Or.inr sz300) all0)
    have I303 := Lits.keep I0 kp302 sf0
    have f304 := (Arv.keep f289 K288 (ninS (Nat.ne_of_lt lt286) nin0))
    have Y305 := X288.more (cells' := 12) (slots' := 200) (by decide) (by decide)
    exact segS hw (.val (.int p0)) (.val (.int p1)) (.val (.int p2)) (.val (.int p3)) (.val (.int p4)) (s5) (.val (.ref bs)) (.val (.int n)) (.val (.int kd)) (.val (.int rp)) (.val (.int pp)) (.val (.int ch)) (.val (.int 2)) (.val (.ref b265)) p_1 p_7 p_11 p_15 p_19 p_23 p_27 p_31 p_35 p_40 p_46 p_52 p_58 k_64 k_66 k_68 k_70 k_72 z_ SZ hz b281 t288 _ _ _ [x272_, x278_] C Y305 I303 S_3 E_6 S_9 E_10 S_13 E_14 S_17 E_18 S_21 E_22 F_25 E_26 F_29 E_30 F_33 E_34 F_37 E_38 F_39 F_42 F_45 F_48 F_51 F_54 F_57 F_60 V_63 V_65 V_67 V_69 V_71 EX288 FC288 FV288 VT288 (own_cod rfl rfl hp287) hp287 (Nat.le_of_ble_eq_true rfl)
  · refine g_aconst_null C X279 d0_345 (g_goto C X279 d0_346 (g_astore C X279 d0_358 rfl (l' := #[.val (.int p0), .val (.int p1), .val (.int p2), .val (.int p3), .val (.int p4), s5, .val (.ref bs), .val (.int n), .val (.int kd), .val (.int rp), .val (.int pp), .val (.int ch), .val (.int 2), .val (.ref b265), .val .null, .unset, .unset]) rfl ?_))
    have sz306 : h.size ≤ b265 := by rw [g_b265]; exact (Keep.refl h []).1
    have kp307 := (Keep.refl h []).ext E265
    have kp308 := kp307.wr W273 (Or.inr sz306)
    have kp309 := kp308.wr W279 (Or.inr sz306)
    have I310 := Lits.keep I0 kp309 sf0
    have Y311 := X279.more (cells' := 12) (slots' := 200) (by decide) (by decide)
    exact segN hw (.val (.int p0)) (.val (.int p1)) (.val (.int p2)) (.val (.int p3)) (.val (.int p4)) (s5) (.val (.ref bs)) (.val (.int n)) (.val (.int kd)) (.val (.int rp)) (.val (.int pp)) (.val (.int ch)) (.val (.int 2)) (.val (.ref b265)) p_1 p_7 p_11 p_15 p_19 p_23 p_27 p_31 p_35 p_40 p_46 p_52 p_58 k_64 k_66 k_68 k_70 k_72 z_ SZ hz C Y311 I310 S_3 E_6 S_9 E_10 S_13 E_14 S_17 E_18 S_21 E_22 F_25 E_26 F_29 E_30 F_33 E_34 F_37 E_38 F_39 F_42 F_45 F_48 F_51 F_54 F_57 F_60 V_63 V_65 V_67 V_69 V_71
theorem d0_168 : Dc code 168 (.aload 13) 2 170 := ⟨at_168, rfl⟩
theorem d0_170 : Dc code 170 (.iconst 2) 1 171 := ⟨at_170, rfl⟩
theorem d0_171 : Dc code 171 (.aload 6) 2 173 := ⟨at_171, rfl⟩
theorem d0_173 : Dc code 173 (.iload 7) 2 175 := ⟨at_173, rfl⟩
theorem d0_175 : Dc code 175 (.iconst 2) 1 176 := ⟨at_175, rfl⟩
theorem d0_176 : Dc code 176 (.iload 9) 2 178 := ⟨at_176, rfl⟩
theorem d0_178 : Dc code 178 (.iload 10) 2 180 := ⟨at_178, rfl⟩
theorem d0_180 : Dc code 180 (.iload 11) 2 182 := ⟨at_180, rfl⟩
theorem d0_182 : Dc code 182 (.invokestatic 26) 3 185 := ⟨at_182, rfl⟩
theorem d0_185 : Dc code 185 (.castore) 1 186 := ⟨at_185, rfl⟩
theorem segL3 {p : Program} {l : Launch} {e : Env} {s : State} {m : MethodId} {A : Array Value} {below : List Frame} {meth : Method} {c : Code} {Z : State} {a0 : Array Value} (hw : ∀ d ∈ tables_1, d.before a0 Z = true) {T0 : State} {h : Heap} {vm0 : Vm} (p0 p1 p2 p3 p4 : Int32) (s5 : Slot) (n kd rp pp ch : Int32) (p_1 p_7 p_11 p_15 p_19 p_23 p_27 p_31 p_35 p_40 p_46 p_52 p_58 : Addr) (k_64 k_66 k_68 k_70 k_72 : ClassId) (z_ : Int32) (SZ : Sta Z Z.heap "java/lang/String" "COMPACT_STRINGS" "Z" (.int z_)) (hz : ¬ z_ = 0) (fm_ : Value) (SF : Sta Z Z.heap "jdk/internal/util/Preconditions" "SIOOBE_FORMATTER" "Ljava/util/function/BiFunction;" fm_) (rf_ : fm_.isRef = true) (bs : Addr) (bt : Addr) (bk : ClassId) (bN : Int32) (bv : List Value) (bc : List Int32) (C : Cx p (s.setVm vm0) m meth c Z "com/example/indie_lease/indielease/model/LicenseStatusOfCodePinLaw" "law" code maxLocals ret) (X0 : St p l e room_1 (s.setVm vm0) m A below meth c Z T0 h 2 36) (I0 : Lits Z consts_1 s vm0 h) (S_3 : Sta Z Z.heap "com/example/indie_lease/indielease/model/LicenseStatus" "$VALUES" "[Lcom/example/indie_lease/indielease/model/LicenseStatus;" (.ref p_1)) (E_6 : Exa Z Z.heap p_1 "[Lcom/example/indie_lease/indielease/model/LicenseStatus;") (S_9 : Sta Z Z.heap "com/example/indie_lease/indielease/model/LicenseStatus" "ACTIVE" "Lcom/example/indie_lease/indielease/model/LicenseStatus;" (.ref p_7)) (E_10 : Exa Z Z.heap p_7 "com/example/indie_lease/indielease/model/LicenseStatus") (S_13 : Sta Z Z.heap "com/example/indie_lease/indielease/model/LicenseStatus" "FALLBACK" "Lcom/example/indie_lease/indielease/model/LicenseStatus;" (.ref p_11)) (E_14 : Exa Z Z.heap p_11 "com/example/indie_lease/indielease/model/LicenseStatus") (S_17 : Sta Z Z.heap "com/example/indie_lease/indielease/model/LicenseStatus" "EXPIRED" "Lcom/example/indie_lease/indielease/model/LicenseStatus;" (.ref p_15)) (E_18 : Exa Z Z.heap p_15 "com/example/indie_lease/indielease/model/LicenseStatus") (S_21 : Sta Z Z.heap "com/example/indie_lease/indielease/model/LicenseStatus" "REVOKED" "Lcom/example/indie_lease/indielease/model/LicenseStatus;" (.ref p_19)) (E_22 : Exa Z Z.heap p_19 "com/example/indie_lease/indielease/model/LicenseStatus") (F_25 : Fld Z Z.heap p_7 "com/example/indie_lease/indielease/model/LicenseStatus" "code" "Ljava/lang/String;" (.ref p_23)) (E_26 : Exa Z Z.heap p_23 "java/lang/String") (F_29 : Fld Z Z.heap p_11 "com/example/indie_lease/indielease/model/LicenseStatus" "code" "Ljava/lang/String;" (.ref p_27)) (E_30 : Exa Z Z.heap p_27 "java/lang/String") (F_33 : Fld Z Z.heap p_15 "com/example/indie_lease/indielease/model/LicenseStatus" "code" "Ljava/lang/String;" (.ref p_31)) (E_34 : Exa Z Z.heap p_31 "java/lang/String") (F_37 : Fld Z Z.heap p_19 "com/example/indie_lease/indielease/model/LicenseStatus" "code" "Ljava/lang/String;" (.ref p_35)) (E_38 : Exa Z Z.heap p_35 "java/lang/String") (F_39 : Fld Z Z.heap p_23 "java/lang/String" "coder" "B" (.int 0)) (F_42 : Fld Z Z.heap p_23 "java/lang/String" "value" "[B" (.ref p_40)) (F_45 : Fld Z Z.heap p_27 "java/lang/String" "coder" "B" (.int 0)) (F_48 : Fld Z Z.heap p_27 "java/lang/String" "value" "[B" (.ref p_46)) (F_51 : Fld Z Z.heap p_31 "java/lang/String" "coder" "B" (.int 0)) (F_54 : Fld Z Z.heap p_31 "java/lang/String" "value" "[B" (.ref p_52)) (F_57 : Fld Z Z.heap p_35 "java/lang/String" "coder" "B" (.int 0)) (F_60 : Fld Z Z.heap p_35 "java/lang/String" "value" "[B" (.ref p_58)) (V_63 : Arv Z Z.heap p_1 k_64 (.object "com/example/indie_lease/indielease/model/LicenseStatus") 4 [(.ref p_7), (.ref p_11), (.ref p_15), (.ref p_19)] .null) (V_65 : Arv Z Z.heap p_40 k_66 .byte 6 [(.int 97), (.int 99), (.int 116), (.int 105), (.int 118), (.int 101)] (.int 0)) (V_67 : Arv Z Z.heap p_46 k_68 .byte 8 [(.int 102), (.int 97), (.int 108), (.int 108), (.int 98), (.int 97), (.int 99), (.int 107)] (.int 0)) (V_69 : Arv Z Z.heap p_52 k_70 .byte 7 [(.int 101), (.int 120), (.int 112), (.int 105), (.int 114), (.int 101), (.int 100)] (.int 0)) (V_71 : Arv Z Z.heap p_58 k_72 .byte 7 [(.int 114), (.int 101), (.int 118), (.int 111), (.int 107), (.int 101), (.int 100)] (.int 0)) (bEX : Exa Z h bs "java/lang/String") (bFC : Fld Z h bs "java/lang/String" "coder" "B" (.int (0 : Int32))) (bFV : Fld Z h bs "java/lang/String" "value" "[B" (.ref bt)) (bVT : Arv Z h bt bk .byte bN bv (.int (0 : Int32))) (bhc : StrChars.Road.CodA bc 0 bN bv) (bhs : ∀ c ∈ bc, ¬ c < 0 ∧ ¬ (255 : Int32) < c) (bhl : bc.length ≤ 4000) (hn : Int32.ofNat bc.length = n) (hc : ¬ ch < 0 ∧ ¬ (255 : Int32) < ch) :
    Goes p e below (EndL Z consts_1 s 32 5312 (fun v' h' => v' = some (.int 1))) T0 (mkF m 109 #[.val (.int p0), .val (.int p1), .val (.int p2), .val (.int p3), .val (.int p4), s5, .val (.ref bs), .val (.int n), .val (.int kd), .val (.int rp), .val (.int pp), .val (.int ch), .val (.int 3), .unset, .unset, .unset, .unset] []) := by
  refine g_iload C X0 d0_109 rfl (g_newarray C X0 (wd hw 22 rfl) d0_111 (by decide) 3 3 (by decide) (by decide) (by decide) (by decide) (fun T312 h312 b312 k_b312 g_b312 n_b312 X312 E312 V312 => ?_))
  have lt313 : bs < b312 := by rw [g_b312]; exact Exa.lt bEX
  have lt314 : bt < b312 := by rw [g_b312]; exact Arv.lt bVT
  have V_b312 : Arv Z h312 b312 k_b312 .char (3 : Int32) [(.int 0), (.int 0), (.int 0)] (.int 0) := V312
  refine g_astore C X312 d0_113 rfl (l' := #[.val (.int p0), .val (.int p1), .val (.int p2), .val (.int p3), .val (.int p4), s5, .val (.ref bs), .val (.int n), .val (.int kd), .val (.int rp), .val (.int pp), .val (.int ch), .val (.int 3), .val (.ref b312), .unset, .unset, .unset]) rfl (g_iload C X312 d0_115 rfl (g_ifn (h0_le _) C X312 d0_117 (fun q => absurd (by decide) q) (fun _ => ?_)))
  refine g_aload C X312 d0_120 rfl rfl (g_iconst 0 C X312 d0_122 rfl (g_aload C X312 d0_123 rfl rfl (g_iload C X312 d0_125 rfl (g_iconst 0 C X312 d0_127 rfl (g_iload C X312 d0_128 rfl (g_iload C X312 d0_130 rfl (g_iload C X312 d0_132 rfl ?_)))))))
  have f315 := (Exa.ext E312 bEX)
  have f316 := (Fld.ext E312 bFV)
  have f317 := (Fld.ext E312 bFC)
  have f318 := (Arv.ext bVT E312)
  refine g_static (argsL := [(.ref bs), (.int n), (.int 0), (.int rp), (.int pp), (.int ch)]) (st := [(.int 0), (.ref b312)]) C X312 (wd hw 23 rfl) (wd hw 24 rfl) (wd hw 25 rfl) (wd hw 26 rfl) (by decide) (pay_of (W' := 2) (rpk0 l hw X312.ext bs n rp pp ch z_ SZ hz fm_ SF rf_ bt _ _ _ bc f315 f317 f316 f318 bhc bhs bhl hn hc) C.hZ (wd hw 26 rfl) (wd hw 25 rfl) (by decide) (by decide)) pd_6 rfl rfl _ rfl (Nat.le_of_eq rfl) d0_134 (by decide) (by decide) (fun T319 h319 v319 q319 X319 => ?_)
  obtain ⟨x319_, rfl, lx319, e319⟩ := q319
  subst e319
  show Goes p e below _ T319 (mkF m 137 #[.val (.int p0), .val (.int p1), .val (.int p2), .val (.int p3), .val (.int p4), s5, .val (.ref bs), .val (.int n), .val (.int kd), .val (.int rp), .val (.int pp), .val (.int ch), .val (.int 3), .val (.ref b312), .unset, .unset, .unset] [(.int x319_), (.int 0), (.ref b312)])
  refine g_castore C X319 V_b312 n_b312 d0_137 (by decide) (by decide) (Nat.le_of_ble_eq_true rfl) (.int x319_) (own_nar lx319) (fun T320 h320 X320 W320 V320 => ?_)
  have V320_b312 : Arv Z h320 b312 k_b312 .char (3 : Int32) [(.int x319_), (.int 0), (.int 0)] (.int 0) := V320
  refine g_iload C X320 d0_138 rfl (g_iconst 1 C X320 d0_140 rfl (g_icmpn (hI_le _ _) C X320 d0_141 (fun q => absurd (by decide) q) (fun _ => ?_)))
  refine g_aload C X320 d0_144 rfl rfl (g_iconst 1 C X320 d0_146 rfl (g_aload C X320 d0_147 rfl rfl (g_iload C X320 d0_149 rfl (g_iconst 1 C X320 d0_151 rfl (g_iload C X320 d0_152 rfl (g_iload C X320 d0_154 rfl (g_iload C X320 d0_156 rfl ?_)))))))
  have f321 := (Exa.wr W320 f315)
  have f322 := (Fld.other W320 f316 (Or.inl (Nat.ne_of_lt lt313)))
  have f323 := (Fld.other W320 f317 (Or.inl (Nat.ne_of_lt lt313)))
  have f324 := (Arv.other f318 W320 (Nat.ne_of_lt lt314))
  refine g_static (argsL := [(.ref bs), (.int n), (.int 1), (.int rp), (.int pp), (.int ch)]) (st := [(.int 1), (.ref b312)]) C X320 (wd hw 23 rfl) (wd hw 24 rfl) (wd hw 25 rfl) (wd hw 26 rfl) (by decide) (pay_of (W' := 2) (rpk1 l hw X320.ext bs n rp pp ch z_ SZ hz fm_ SF rf_ bt _ _ _ bc f321 f323 f322 f324 bhc bhs bhl hn hc) C.hZ (wd hw 26 rfl) (wd hw 25 rfl) (by decide) (by decide)) pd_6 rfl rfl _ rfl (Nat.le_of_eq rfl) d0_158 (by decide) (by decide) (fun T325 h325 v325 q325 X325 => ?_)
  obtain ⟨x325_, rfl, lx325, e325⟩ := q325
  subst e325
  show Goes p e below _ T325 (mkF m 161 #[.val (.int p0), .val (.int p1), .val (.int p2), .val (.int p3), .val (.int p4), s5, .val (.ref bs), .val (.int n), .val (.int kd), .val (.int rp), .val (.int pp), .val (.int ch), .val (.int 3), .val (.ref b312), .unset, .unset, .unset] [(.int x325_), (.int 1), (.ref b312)])
  refine g_castore C X325 V320_b312 n_b312 d0_161 (by decide) (by decide) (Nat.le_of_ble_eq_true rfl) (.int x325_) (own_nar lx325) (fun T326 h326 X326 W326 V326 => ?_)
  have V326_b312 : Arv Z h326 b312 k_b312 .char (3 : Int32) [(.int x319_), (.int x325_), (.int 0)] (.int 0) := V326
  refine g_iload C X326 d0_162 rfl (g_iconst 2 C X326 d0_164 rfl (g_icmpn (hI_le _ _) C X326 d0_165 (fun q => absurd (by decide) q) (fun _ => ?_)))
  refine g_aload C X326 d0_168 rfl rfl (g_iconst 2 C X326 d0_170 rfl (g_aload C X326 d0_171 rfl rfl (g_iload C X326 d0_173 rfl (g_iconst 2 C X326 d0_175 rfl (g_iload C X326 d0_176 rfl (g_iload C X326 d0_178 rfl (g_iload C X326 d0_180 rfl ?_)))))))
  have f327 := (Exa.wr W326 f321)
  have f328 := (Fld.other W326 f322 (Or.inl (Nat.ne_of_lt lt313)))
  have f329 := (Fld.other W326 f323 (Or.inl (Nat.ne_of_lt lt313)))
  have f330 := (Arv.other f324 W326 (Nat.ne_of_lt lt314))
  refine g_static (argsL := [(.ref bs), (.int n), (.int 2), (.int rp), (.int pp), (.int ch)]) (st := [(.int 2), (.ref b312)]) C X326 (wd hw 23 rfl) (wd hw 24 rfl) (wd hw 25 rfl) (wd hw 26 rfl) (by decide) (pay_of (W' := 2) (rpk2 l hw X326.ext bs n rp pp ch z_ SZ hz fm_ SF rf_ bt _ _ _ bc f327 f329 f328 f330 bhc bhs bhl hn hc) C.hZ (wd hw 26 rfl) (wd hw 25 rfl) (by decide) (by decide)) pd_6 rfl rfl _ rfl (Nat.le_of_eq rfl) d0_182 (by decide) (by decide) (fun T331 h331 v331 q331 X331 => ?_)
  obtain ⟨x331_, rfl, lx331, e331⟩ := q331
  subst e331
  show Goes p e below _ T331 (mkF m 185 #[.val (.int p0), .val (.int p1), .val (.int p2), .val (.int p3), .val (.int p4), s5, .val (.ref bs), .val (.int n), .val (.int kd), .val (.int rp), .val (.int pp), .val (.int ch), .val (.int 3), .val (.ref b312), .unset, .unset, .unset] [(.int x331_), (.int 2), (.ref b312)])
  refine g_castore C X331 V326_b312 n_b312 d0_185 (by decide) (by decide) (Nat.le_of_ble_eq_true rfl) (.int x331_) (own_nar lx331) (fun T332 h332 X332 W332 V332 => ?_)
  have V332_b312 : Arv Z h332 b312 k_b312 .char (3 : Int32) [(.int x319_), (.int x325_), (.int x331_)] (.int 0) := V332
  refine g_iload C X332 d0_186 rfl (g_iconst 3 C X332 d0_188 rfl (g_icmpn (hI_le _ _) C X332 d0_189 (fun _ => ?_) (fun q => absurd q (by decide))))
  refine g_iload C X332 d0_210 rfl (g_iconst 4 C X332 d0_212 rfl (g_icmpn (hI_le _ _) C X332 d0_213 (fun _ => ?_) (fun q => absurd q (by decide))))
  refine g_iload C X332 d0_234 rfl (g_iconst 5 C X332 d0_236 rfl (g_icmpn (hI_le _ _) C X332 d0_237 (fun _ => ?_) (fun q => absurd q (by decide))))
  refine g_iload C X332 d0_258 rfl (g_bipush 6 C X332 d0_260 rfl (g_icmpn (hI_le _ _) C X332 d0_262 (fun _ => ?_) (fun q => absurd q (by decide))))
  refine g_iload C X332 d0_285 rfl (g_bipush 7 C X332 d0_287 rfl (g_icmpn (hI_le _ _) C X332 d0_289 (fun _ => ?_) (fun q => absurd q (by decide))))
  refine g_iload C X332 d0_312 rfl (g_bipush 8 C X332 d0_314 rfl (g_icmpn (hI_le _ _) C X332 d0_316 (fun _ => ?_) (fun q => absurd q (by decide))))
  refine g_iload C X332 d0_339 rfl (g_iconst 3 C X332 d0_341 rfl (g_icmpn (hI_ne _ _) C X332 d0_342 (fun c342_333 => ?_) (fun c342_333 => ?_)))
  · refine g_new C X332 (wd hw 80 rfl) (wd hw 2 rfl) (wd hw 1 rfl) d0_349 (by decide) (by decide) (fun T334 h334 b334 g_b334 n_b334 X334 E334 A334 D334 M334 => ?_)
    have f335 := (Exa.wr W332 f327)
    have lt336 : bs < b334 := by rw [g_b334]; exact Exa.lt f335
    have f337 := (Arv.other f330 W332 (Nat.ne_of_lt lt314))
    have lt338 : bt < b334 := by rw [g_b334]; exact Arv.lt f337
    have lt339 : b312 < b334 := by rw [g_b334]; exact Arv.lt V332_b312
    have F_value_b334 : Fld Z h334 b334 "java/lang/String" "value" "[B" .null := D334 (Or.inr (wd hw 4 rfl)) (ty := (.array .byte)) (by decide)
    have F_coder_b334 : Fld Z h334 b334 "java/lang/String" "coder" "B" (.int 0) := D334 (Or.inr (wd hw 5 rfl)) (ty := .byte) (by decide)
    refine g_dup C X334 d0_352 rfl (g_aload C X334 d0_353 rfl rfl ?_)
    have hp340 : ∀ c ∈ [x319_, x325_, x331_], ¬ c < 0 ∧ ¬ (255 : Int32) < c := (List.forall_mem_cons.mpr ⟨lx319, (List.forall_mem_cons.mpr ⟨lx325, (List.forall_mem_cons.mpr ⟨lx331, (fun _ q => nomatch q)⟩)⟩)⟩)
    have f342 := (Arv.ext V332_b312 E334)
    refine g_special (argsL := [(.ref b312)]) (st := [(.ref b334)]) C X334 rfl (wd hw 81 rfl) (wd hw 82 rfl) (wd hw 83 rfl) (by decide) (payV (W' := 1) (cs := [x319_, x325_, x331_]) (n := 3) C.hZ X334.ext (own_words hw) (kI := 4) (wd hw 2 rfl) n_b334 A334 F_value_b334 F_coder_b334 f342 SZ hz rfl rfl (by decide) (by decide) hp340 (by decide) (by decide)) pd_5 rfl rfl _ rfl (Nat.le_of_eq rfl) d0_355 (by decide) (by decide) (fun T341 h341 v341 q341 X341 => ?_)
    obtain ⟨rfl, K341, EX341, FC341, t341, k_t341, nt0_341, gt341, nt341, FV341, VT341⟩ := q341
    have f344 := (Exa.ext E334 f335)
    have lt343 : bs < t341 := Nat.lt_of_lt_of_le (Exa.lt f344) gt341
    have f346 := (Arv.ext f337 E334)
    have lt345 : bt < t341 := Nat.lt_of_lt_of_le (Arv.lt f346) gt341
    have lt347 : b312 < t341 := Nat.lt_of_lt_of_le (Arv.lt f342) gt341
    have lt348 : b334 < t341 := Nat.lt_of_lt_of_le (Exa.lt A334) gt341
    show Goes p e below _ T341 (mkF m 358 #[.val (.int p0), .val (.int p1), .val (.int p2), .val (.int p3), .val (.int p4), s5, .val (.ref bs), .val (.int n), .val (.int kd), .val (.int rp), .val (.int pp), .val (.int ch), .val (.int 3), .val (.ref b312), .unset, .unset, .unset] [(.ref b334)])
    refine g_astore C X341 d0_358 rfl (l' := #[.val (.int p0), .val (.int p1), .val (.int p2), .val (.int p3), .val (.int p4), s5, .val (.ref bs), .val (.int n), .val (.int kd), .val (.int rp), .val (.int pp), .val (.int ch), .val (.int 3), .val (.ref b312), .val (.ref b334), .unset, .unset]) rfl ?_
    have sz349 : h.size ≤ b312 := by rw [g_b312]; exact (Keep.refl h []).1
    have kp350 := (Keep.refl h []).ext E312
    have kp351 := kp350.wr W320 (Or.inr sz349)
    have kp352 := kp351.wr W326 (Or.inr sz349)
    have kp353 := kp352.wr W332 (Or.inr sz349)
    have sz354 : h.size ≤ b334 := by rw [g_b334]; exact kp353.1
    have kp355 := kp353.ext E334
    have kp356 := kp355.trans K341 (allS (Or.inr sz354) all0)
    have I357 := Lits.keep I0 kp356 sf0
    have f358 := (Arv.keep f342 K341 (ninS (Nat.ne_of_lt lt339) nin0))
    have Y359 := X341.more (cells' := 12) (slots' := 200) (by decide) (by decide)
    exact segS hw (.val (.int p0)) (.val (.int p1)) (.val (.int p2)) (.val (.int p3)) (.val (.int p4)) (s5) (.val (.ref bs)) (.val (.int n)) (.val (.int kd)) (.val (.int rp)) (.val (.int pp)) (.val (.int ch)) (.val (.int 3)) (.val (.ref b312)) p_1 p_7 p_11 p_15 p_19 p_23 p_27 p_31 p_35 p_40 p_46 p_52 p_58 k_64 k_66 k_68 k_70 k_72 z_ SZ hz b334 t341 _ _ _ [x319_, x325_, x331_] C Y359 I357 S_3 E_6 S_9 E_10 S_13 E_14 S_17 E_18 S_21 E_22 F_25 E_26 F_29 E_30 F_33 E_34 F_37 E_38 F_39 F_42 F_45 F_48 F_51 F_54 F_57 F_60 V_63 V_65 V_67 V_69 V_71 EX341 FC341 FV341 VT341 (own_cod rfl rfl hp340) hp340 (Nat.le_of_ble_eq_true rfl)
  · refine g_aconst_null C X332 d0_345 (g_goto C X332 d0_346 (g_astore C X332 d0_358 rfl (l' := #[.val (.int p0), .val (.int p1), .val (.int p2), .val (.int p3), .val (.int p4), s5, .val (.ref bs), .val (.int n), .val (.int kd), .val (.int rp), .val (.int pp), .val (.int ch), .val (.int 3), .val (.ref b312), .val .null, .unset, .unset]) rfl ?_))
    have sz360 : h.size ≤ b312 := by rw [g_b312]; exact (Keep.refl h []).1
    have kp361 := (Keep.refl h []).ext E312
    have kp362 := kp361.wr W320 (Or.inr sz360)
    have kp363 := kp362.wr W326 (Or.inr sz360)
    have kp364 := kp363.wr W332 (Or.inr sz360)
    have I365 := Lits.keep I0 kp364 sf0
    have Y366 := X332.more (cells' := 12) (slots' := 200) (by decide) (by decide)
    exact segN hw (.val (.int p0)) (.val (.int p1)) (.val (.int p2)) (.val (.int p3)) (.val (.int p4)) (s5) (.val (.ref bs)) (.val (.int n)) (.val (.int kd)) (.val (.int rp)) (.val (.int pp)) (.val (.int ch)) (.val (.int 3)) (.val (.ref b312)) p_1 p_7 p_11 p_15 p_19 p_23 p_27 p_31 p_35 p_40 p_46 p_52 p_58 k_64 k_66 k_68 k_70 k_72 z_ SZ hz C Y366 I365 S_3 E_6 S_9 E_10 S_13 E_14 S_17 E_18 S_21 E_22 F_25 E_26 F_29 E_30 F_33 E_34 F_37 E_38 F_39 F_42 F_45 F_48 F_51 F_54 F_57 F_60 V_63 V_65 V_67 V_69 V_71
theorem d0_192 : Dc code 192 (.aload 13) 2 194 := ⟨at_192, rfl⟩
theorem d0_194 : Dc code 194 (.iconst 3) 1 195 := ⟨at_194, rfl⟩
theorem d0_195 : Dc code 195 (.aload 6) 2 197 := ⟨at_195, rfl⟩
theorem d0_197 : Dc code 197 (.iload 7) 2 199 := ⟨at_197, rfl⟩
theorem d0_199 : Dc code 199 (.iconst 3) 1 200 := ⟨at_199, rfl⟩
theorem d0_200 : Dc code 200 (.iload 9) 2 202 := ⟨at_200, rfl⟩
theorem d0_202 : Dc code 202 (.iload 10) 2 204 := ⟨at_202, rfl⟩
theorem d0_204 : Dc code 204 (.iload 11) 2 206 := ⟨at_204, rfl⟩
theorem d0_206 : Dc code 206 (.invokestatic 26) 3 209 := ⟨at_206, rfl⟩
theorem d0_209 : Dc code 209 (.castore) 1 210 := ⟨at_209, rfl⟩
theorem segL4 {p : Program} {l : Launch} {e : Env} {s : State} {m : MethodId} {A : Array Value} {below : List Frame} {meth : Method} {c : Code} {Z : State} {a0 : Array Value} (hw : ∀ d ∈ tables_1, d.before a0 Z = true) {T0 : State} {h : Heap} {vm0 : Vm} (p0 p1 p2 p3 p4 : Int32) (s5 : Slot) (n kd rp pp ch : Int32) (p_1 p_7 p_11 p_15 p_19 p_23 p_27 p_31 p_35 p_40 p_46 p_52 p_58 : Addr) (k_64 k_66 k_68 k_70 k_72 : ClassId) (z_ : Int32) (SZ : Sta Z Z.heap "java/lang/String" "COMPACT_STRINGS" "Z" (.int z_)) (hz : ¬ z_ = 0) (fm_ : Value) (SF : Sta Z Z.heap "jdk/internal/util/Preconditions" "SIOOBE_FORMATTER" "Ljava/util/function/BiFunction;" fm_) (rf_ : fm_.isRef = true) (bs : Addr) (bt : Addr) (bk : ClassId) (bN : Int32) (bv : List Value) (bc : List Int32) (C : Cx p (s.setVm vm0) m meth c Z "com/example/indie_lease/indielease/model/LicenseStatusOfCodePinLaw" "law" code maxLocals ret) (X0 : St p l e room_1 (s.setVm vm0) m A below meth c Z T0 h 2 36) (I0 : Lits Z consts_1 s vm0 h) (S_3 : Sta Z Z.heap "com/example/indie_lease/indielease/model/LicenseStatus" "$VALUES" "[Lcom/example/indie_lease/indielease/model/LicenseStatus;" (.ref p_1)) (E_6 : Exa Z Z.heap p_1 "[Lcom/example/indie_lease/indielease/model/LicenseStatus;") (S_9 : Sta Z Z.heap "com/example/indie_lease/indielease/model/LicenseStatus" "ACTIVE" "Lcom/example/indie_lease/indielease/model/LicenseStatus;" (.ref p_7)) (E_10 : Exa Z Z.heap p_7 "com/example/indie_lease/indielease/model/LicenseStatus") (S_13 : Sta Z Z.heap "com/example/indie_lease/indielease/model/LicenseStatus" "FALLBACK" "Lcom/example/indie_lease/indielease/model/LicenseStatus;" (.ref p_11)) (E_14 : Exa Z Z.heap p_11 "com/example/indie_lease/indielease/model/LicenseStatus") (S_17 : Sta Z Z.heap "com/example/indie_lease/indielease/model/LicenseStatus" "EXPIRED" "Lcom/example/indie_lease/indielease/model/LicenseStatus;" (.ref p_15)) (E_18 : Exa Z Z.heap p_15 "com/example/indie_lease/indielease/model/LicenseStatus") (S_21 : Sta Z Z.heap "com/example/indie_lease/indielease/model/LicenseStatus" "REVOKED" "Lcom/example/indie_lease/indielease/model/LicenseStatus;" (.ref p_19)) (E_22 : Exa Z Z.heap p_19 "com/example/indie_lease/indielease/model/LicenseStatus") (F_25 : Fld Z Z.heap p_7 "com/example/indie_lease/indielease/model/LicenseStatus" "code" "Ljava/lang/String;" (.ref p_23)) (E_26 : Exa Z Z.heap p_23 "java/lang/String") (F_29 : Fld Z Z.heap p_11 "com/example/indie_lease/indielease/model/LicenseStatus" "code" "Ljava/lang/String;" (.ref p_27)) (E_30 : Exa Z Z.heap p_27 "java/lang/String") (F_33 : Fld Z Z.heap p_15 "com/example/indie_lease/indielease/model/LicenseStatus" "code" "Ljava/lang/String;" (.ref p_31)) (E_34 : Exa Z Z.heap p_31 "java/lang/String") (F_37 : Fld Z Z.heap p_19 "com/example/indie_lease/indielease/model/LicenseStatus" "code" "Ljava/lang/String;" (.ref p_35)) (E_38 : Exa Z Z.heap p_35 "java/lang/String") (F_39 : Fld Z Z.heap p_23 "java/lang/String" "coder" "B" (.int 0)) (F_42 : Fld Z Z.heap p_23 "java/lang/String" "value" "[B" (.ref p_40)) (F_45 : Fld Z Z.heap p_27 "java/lang/String" "coder" "B" (.int 0)) (F_48 : Fld Z Z.heap p_27 "java/lang/String" "value" "[B" (.ref p_46)) (F_51 : Fld Z Z.heap p_31 "java/lang/String" "coder" "B" (.int 0)) (F_54 : Fld Z Z.heap p_31 "java/lang/String" "value" "[B" (.ref p_52)) (F_57 : Fld Z Z.heap p_35 "java/lang/String" "coder" "B" (.int 0)) (F_60 : Fld Z Z.heap p_35 "java/lang/String" "value" "[B" (.ref p_58)) (V_63 : Arv Z Z.heap p_1 k_64 (.object "com/example/indie_lease/indielease/model/LicenseStatus") 4 [(.ref p_7), (.ref p_11), (.ref p_15), (.ref p_19)] .null) (V_65 : Arv Z Z.heap p_40 k_66 .byte 6 [(.int 97), (.int 99), (.int 116), (.int 105), (.int 118), (.int 101)] (.int 0)) (V_67 : Arv Z Z.heap p_46 k_68 .byte 8 [(.int 102), (.int 97), (.int 108), (.int 108), (.int 98), (.int 97), (.int 99), (.int 107)] (.int 0)) (V_69 : Arv Z Z.heap p_52 k_70 .byte 7 [(.int 101), (.int 120), (.int 112), (.int 105), (.int 114), (.int 101), (.int 100)] (.int 0)) (V_71 : Arv Z Z.heap p_58 k_72 .byte 7 [(.int 114), (.int 101), (.int 118), (.int 111), (.int 107), (.int 101), (.int 100)] (.int 0)) (bEX : Exa Z h bs "java/lang/String") (bFC : Fld Z h bs "java/lang/String" "coder" "B" (.int (0 : Int32))) (bFV : Fld Z h bs "java/lang/String" "value" "[B" (.ref bt)) (bVT : Arv Z h bt bk .byte bN bv (.int (0 : Int32))) (bhc : StrChars.Road.CodA bc 0 bN bv) (bhs : ∀ c ∈ bc, ¬ c < 0 ∧ ¬ (255 : Int32) < c) (bhl : bc.length ≤ 4000) (hn : Int32.ofNat bc.length = n) (hc : ¬ ch < 0 ∧ ¬ (255 : Int32) < ch) :
    Goes p e below (EndL Z consts_1 s 32 5312 (fun v' h' => v' = some (.int 1))) T0 (mkF m 109 #[.val (.int p0), .val (.int p1), .val (.int p2), .val (.int p3), .val (.int p4), s5, .val (.ref bs), .val (.int n), .val (.int kd), .val (.int rp), .val (.int pp), .val (.int ch), .val (.int 4), .unset, .unset, .unset, .unset] []) := by
  refine g_iload C X0 d0_109 rfl (g_newarray C X0 (wd hw 22 rfl) d0_111 (by decide) 4 4 (by decide) (by decide) (by decide) (by decide) (fun T367 h367 b367 k_b367 g_b367 n_b367 X367 E367 V367 => ?_))
  have lt368 : bs < b367 := by rw [g_b367]; exact Exa.lt bEX
  have lt369 : bt < b367 := by rw [g_b367]; exact Arv.lt bVT
  have V_b367 : Arv Z h367 b367 k_b367 .char (4 : Int32) [(.int 0), (.int 0), (.int 0), (.int 0)] (.int 0) := V367
  refine g_astore C X367 d0_113 rfl (l' := #[.val (.int p0), .val (.int p1), .val (.int p2), .val (.int p3), .val (.int p4), s5, .val (.ref bs), .val (.int n), .val (.int kd), .val (.int rp), .val (.int pp), .val (.int ch), .val (.int 4), .val (.ref b367), .unset, .unset, .unset]) rfl (g_iload C X367 d0_115 rfl (g_ifn (h0_le _) C X367 d0_117 (fun q => absurd (by decide) q) (fun _ => ?_)))
  refine g_aload C X367 d0_120 rfl rfl (g_iconst 0 C X367 d0_122 rfl (g_aload C X367 d0_123 rfl rfl (g_iload C X367 d0_125 rfl (g_iconst 0 C X367 d0_127 rfl (g_iload C X367 d0_128 rfl (g_iload C X367 d0_130 rfl (g_iload C X367 d0_132 rfl ?_)))))))
  have f370 := (Exa.ext E367 bEX)
  have f371 := (Fld.ext E367 bFV)
  have f372 := (Fld.ext E367 bFC)
  have f373 := (Arv.ext bVT E367)
  refine g_static (argsL := [(.ref bs), (.int n), (.int 0), (.int rp), (.int pp), (.int ch)]) (st := [(.int 0), (.ref b367)]) C X367 (wd hw 23 rfl) (wd hw 24 rfl) (wd hw 25 rfl) (wd hw 26 rfl) (by decide) (pay_of (W' := 2) (rpk0 l hw X367.ext bs n rp pp ch z_ SZ hz fm_ SF rf_ bt _ _ _ bc f370 f372 f371 f373 bhc bhs bhl hn hc) C.hZ (wd hw 26 rfl) (wd hw 25 rfl) (by decide) (by decide)) pd_6 rfl rfl _ rfl (Nat.le_of_eq rfl) d0_134 (by decide) (by decide) (fun T374 h374 v374 q374 X374 => ?_)
  obtain ⟨x374_, rfl, lx374, e374⟩ := q374
  subst e374
  show Goes p e below _ T374 (mkF m 137 #[.val (.int p0), .val (.int p1), .val (.int p2), .val (.int p3), .val (.int p4), s5, .val (.ref bs), .val (.int n), .val (.int kd), .val (.int rp), .val (.int pp), .val (.int ch), .val (.int 4), .val (.ref b367), .unset, .unset, .unset] [(.int x374_), (.int 0), (.ref b367)])
  refine g_castore C X374 V_b367 n_b367 d0_137 (by decide) (by decide) (Nat.le_of_ble_eq_true rfl) (.int x374_) (own_nar lx374) (fun T375 h375 X375 W375 V375 => ?_)
  have V375_b367 : Arv Z h375 b367 k_b367 .char (4 : Int32) [(.int x374_), (.int 0), (.int 0), (.int 0)] (.int 0) := V375
  refine g_iload C X375 d0_138 rfl (g_iconst 1 C X375 d0_140 rfl (g_icmpn (hI_le _ _) C X375 d0_141 (fun q => absurd (by decide) q) (fun _ => ?_)))
  refine g_aload C X375 d0_144 rfl rfl (g_iconst 1 C X375 d0_146 rfl (g_aload C X375 d0_147 rfl rfl (g_iload C X375 d0_149 rfl (g_iconst 1 C X375 d0_151 rfl (g_iload C X375 d0_152 rfl (g_iload C X375 d0_154 rfl (g_iload C X375 d0_156 rfl ?_)))))))
  have f376 := (Exa.wr W375 f370)
  have f377 := (Fld.other W375 f371 (Or.inl (Nat.ne_of_lt lt368)))
  have f378 := (Fld.other W375 f372 (Or.inl (Nat.ne_of_lt lt368)))
  have f379 := (Arv.other f373 W375 (Nat.ne_of_lt lt369))
  refine g_static (argsL := [(.ref bs), (.int n), (.int 1), (.int rp), (.int pp), (.int ch)]) (st := [(.int 1), (.ref b367)]) C X375 (wd hw 23 rfl) (wd hw 24 rfl) (wd hw 25 rfl) (wd hw 26 rfl) (by decide) (pay_of (W' := 2) (rpk1 l hw X375.ext bs n rp pp ch z_ SZ hz fm_ SF rf_ bt _ _ _ bc f376 f378 f377 f379 bhc bhs bhl hn hc) C.hZ (wd hw 26 rfl) (wd hw 25 rfl) (by decide) (by decide)) pd_6 rfl rfl _ rfl (Nat.le_of_eq rfl) d0_158 (by decide) (by decide) (fun T380 h380 v380 q380 X380 => ?_)
  obtain ⟨x380_, rfl, lx380, e380⟩ := q380
  subst e380
  show Goes p e below _ T380 (mkF m 161 #[.val (.int p0), .val (.int p1), .val (.int p2), .val (.int p3), .val (.int p4), s5, .val (.ref bs), .val (.int n), .val (.int kd), .val (.int rp), .val (.int pp), .val (.int ch), .val (.int 4), .val (.ref b367), .unset, .unset, .unset] [(.int x380_), (.int 1), (.ref b367)])
  refine g_castore C X380 V375_b367 n_b367 d0_161 (by decide) (by decide) (Nat.le_of_ble_eq_true rfl) (.int x380_) (own_nar lx380) (fun T381 h381 X381 W381 V381 => ?_)
  have V381_b367 : Arv Z h381 b367 k_b367 .char (4 : Int32) [(.int x374_), (.int x380_), (.int 0), (.int 0)] (.int 0) := V381
  refine g_iload C X381 d0_162 rfl (g_iconst 2 C X381 d0_164 rfl (g_icmpn (hI_le _ _) C X381 d0_165 (fun q => absurd (by decide) q) (fun _ => ?_)))
  refine g_aload C X381 d0_168 rfl rfl (g_iconst 2 C X381 d0_170 rfl (g_aload C X381 d0_171 rfl rfl (g_iload C X381 d0_173 rfl (g_iconst 2 C X381 d0_175 rfl (g_iload C X381 d0_176 rfl (g_iload C X381 d0_178 rfl (g_iload C X381 d0_180 rfl ?_)))))))
  have f382 := (Exa.wr W381 f376)
  have f383 := (Fld.other W381 f377 (Or.inl (Nat.ne_of_lt lt368)))
  have f384 := (Fld.other W381 f378 (Or.inl (Nat.ne_of_lt lt368)))
  have f385 := (Arv.other f379 W381 (Nat.ne_of_lt lt369))
  refine g_static (argsL := [(.ref bs), (.int n), (.int 2), (.int rp), (.int pp), (.int ch)]) (st := [(.int 2), (.ref b367)]) C X381 (wd hw 23 rfl) (wd hw 24 rfl) (wd hw 25 rfl) (wd hw 26 rfl) (by decide) (pay_of (W' := 2) (rpk2 l hw X381.ext bs n rp pp ch z_ SZ hz fm_ SF rf_ bt _ _ _ bc f382 f384 f383 f385 bhc bhs bhl hn hc) C.hZ (wd hw 26 rfl) (wd hw 25 rfl) (by decide) (by decide)) pd_6 rfl rfl _ rfl (Nat.le_of_eq rfl) d0_182 (by decide) (by decide) (fun T386 h386 v386 q386 X386 => ?_)
  obtain ⟨x386_, rfl, lx386, e386⟩ := q386
  subst e386
  show Goes p e below _ T386 (mkF m 185 #[.val (.int p0), .val (.int p1), .val (.int p2), .val (.int p3), .val (.int p4), s5, .val (.ref bs), .val (.int n), .val (.int kd), .val (.int rp), .val (.int pp), .val (.int ch), .val (.int 4), .val (.ref b367), .unset, .unset, .unset] [(.int x386_), (.int 2), (.ref b367)])
  refine g_castore C X386 V381_b367 n_b367 d0_185 (by decide) (by decide) (Nat.le_of_ble_eq_true rfl) (.int x386_) (own_nar lx386) (fun T387 h387 X387 W387 V387 => ?_)
  have V387_b367 : Arv Z h387 b367 k_b367 .char (4 : Int32) [(.int x374_), (.int x380_), (.int x386_), (.int 0)] (.int 0) := V387
  refine g_iload C X387 d0_186 rfl (g_iconst 3 C X387 d0_188 rfl (g_icmpn (hI_le _ _) C X387 d0_189 (fun q => absurd (by decide) q) (fun _ => ?_)))
  refine g_aload C X387 d0_192 rfl rfl (g_iconst 3 C X387 d0_194 rfl (g_aload C X387 d0_195 rfl rfl (g_iload C X387 d0_197 rfl (g_iconst 3 C X387 d0_199 rfl (g_iload C X387 d0_200 rfl (g_iload C X387 d0_202 rfl (g_iload C X387 d0_204 rfl ?_)))))))
  have f388 := (Exa.wr W387 f382)
  have f389 := (Fld.other W387 f383 (Or.inl (Nat.ne_of_lt lt368)))
  have f390 := (Fld.other W387 f384 (Or.inl (Nat.ne_of_lt lt368)))
  have f391 := (Arv.other f385 W387 (Nat.ne_of_lt lt369))
  refine g_static (argsL := [(.ref bs), (.int n), (.int 3), (.int rp), (.int pp), (.int ch)]) (st := [(.int 3), (.ref b367)]) C X387 (wd hw 23 rfl) (wd hw 24 rfl) (wd hw 25 rfl) (wd hw 26 rfl) (by decide) (pay_of (W' := 2) (rpk3 l hw X387.ext bs n rp pp ch z_ SZ hz fm_ SF rf_ bt _ _ _ bc f388 f390 f389 f391 bhc bhs bhl hn hc) C.hZ (wd hw 26 rfl) (wd hw 25 rfl) (by decide) (by decide)) pd_6 rfl rfl _ rfl (Nat.le_of_eq rfl) d0_206 (by decide) (by decide) (fun T392 h392 v392 q392 X392 => ?_)
  obtain ⟨x392_, rfl, lx392, e392⟩ := q392
  subst e392
  show Goes p e below _ T392 (mkF m 209 #[.val (.int p0), .val (.int p1), .val (.int p2), .val (.int p3), .val (.int p4), s5, .val (.ref bs), .val (.int n), .val (.int kd), .val (.int rp), .val (.int pp), .val (.int ch), .val (.int 4), .val (.ref b367), .unset, .unset, .unset] [(.int x392_), (.int 3), (.ref b367)])
  refine g_castore C X392 V387_b367 n_b367 d0_209 (by decide) (by decide) (Nat.le_of_ble_eq_true rfl) (.int x392_) (own_nar lx392) (fun T393 h393 X393 W393 V393 => ?_)
  have V393_b367 : Arv Z h393 b367 k_b367 .char (4 : Int32) [(.int x374_), (.int x380_), (.int x386_), (.int x392_)] (.int 0) := V393
  refine g_iload C X393 d0_210 rfl (g_iconst 4 C X393 d0_212 rfl (g_icmpn (hI_le _ _) C X393 d0_213 (fun _ => ?_) (fun q => absurd q (by decide))))
  refine g_iload C X393 d0_234 rfl (g_iconst 5 C X393 d0_236 rfl (g_icmpn (hI_le _ _) C X393 d0_237 (fun _ => ?_) (fun q => absurd q (by decide))))
  refine g_iload C X393 d0_258 rfl (g_bipush 6 C X393 d0_260 rfl (g_icmpn (hI_le _ _) C X393 d0_262 (fun _ => ?_) (fun q => absurd q (by decide))))
  refine g_iload C X393 d0_285 rfl (g_bipush 7 C X393 d0_287 rfl (g_icmpn (hI_le _ _) C X393 d0_289 (fun _ => ?_) (fun q => absurd q (by decide))))
  refine g_iload C X393 d0_312 rfl (g_bipush 8 C X393 d0_314 rfl (g_icmpn (hI_le _ _) C X393 d0_316 (fun _ => ?_) (fun q => absurd q (by decide))))
  refine g_iload C X393 d0_339 rfl (g_iconst 3 C X393 d0_341 rfl (g_icmpn (hI_ne _ _) C X393 d0_342 (fun c342_394 => ?_) (fun c342_394 => ?_)))
  · refine g_new C X393 (wd hw 80 rfl) (wd hw 2 rfl) (wd hw 1 rfl) d0_349 (by decide) (by decide) (fun T395 h395 b395 g_b395 n_b395 X395 E395 A395 D395 M395 => ?_)
    have f396 := (Exa.wr W393 f388)
    have lt397 : bs < b395 := by rw [g_b395]; exact Exa.lt f396
    have f398 := (Arv.other f391 W393 (Nat.ne_of_lt lt369))
    have lt399 : bt < b395 := by rw [g_b395]; exact Arv.lt f398
    have lt400 : b367 < b395 := by rw [g_b395]; exact Arv.lt V393_b367
    have F_value_b395 : Fld Z h395 b395 "java/lang/String" "value" "[B" .null := D395 (Or.inr (wd hw 4 rfl)) (ty := (.array .byte)) (by decide)
    have F_coder_b395 : Fld Z h395 b395 "java/lang/String" "coder" "B" (.int 0) := D395 (Or.inr (wd hw 5 rfl)) (ty := .byte) (by decide)
    refine g_dup C X395 d0_352 rfl (g_aload C X395 d0_353 rfl rfl ?_)
    have hp401 : ∀ c ∈ [x374_, x380_, x386_, x392_], ¬ c < 0 ∧ ¬ (255 : Int32) < c := (List.forall_mem_cons.mpr ⟨lx374, (List.forall_mem_cons.mpr ⟨lx380, (List.forall_mem_cons.mpr ⟨lx386, (List.forall_mem_cons.mpr ⟨lx392, (fun _ q => nomatch q)⟩)⟩)⟩)⟩)
    have f403 := (Arv.ext V393_b367 E395)
    refine g_special (argsL := [(.ref b367)]) (st := [(.ref b395)]) C X395 rfl (wd hw 81 rfl) (wd hw 82 rfl) (wd hw 83 rfl) (by decide) (payV (W' := 1) (cs := [x374_, x380_, x386_, x392_]) (n := 4) C.hZ X395.ext (own_words hw) (kI := 4) (wd hw 2 rfl) n_b395 A395 F_value_b395 F_coder_b395 f403 SZ hz rfl rfl (by decide) (by decide) hp401 (by decide) (by decide)) pd_5 rfl rfl _ rfl (Nat.le_of_eq rfl) d0_355 (by decide) (by decide) (fun T402 h402 v402 q402 X402 => ?_)
    obtain ⟨rfl, K402, EX402, FC402, t402, k_t402, nt0_402, gt402, nt402, FV402, VT402⟩ := q402
    have f405 := (Exa.ext E395 f396)
    have lt404 : bs < t402 := Nat.lt_of_lt_of_le (Exa.lt f405) gt402
    have f407 := (Arv.ext f398 E395)
    have lt406 : bt < t402 := Nat.lt_of_lt_of_le (Arv.lt f407) gt402
    have lt408 : b367 < t402 := Nat.lt_of_lt_of_le (Arv.lt f403) gt402
    have lt409 : b395 < t402 := Nat.lt_of_lt_of_le (Exa.lt A395) gt402
    show Goes p e below _ T402 (mkF m 358 #[.val (.int p0), .val (.int p1), .val (.int p2), .val (.int p3), .val (.int p4), s5, .val (.ref bs), .val (.int n), .val (.int kd), .val (.int rp), .val (.int pp), .val (.int ch), .val (.int 4), .val (.ref b367), .unset, .unset, .unset] [(.ref b395)])
    refine g_astore C X402 d0_358 rfl (l' := #[.val (.int p0), .val (.int p1), .val (.int p2), .val (.int p3), .val (.int p4), s5, .val (.ref bs), .val (.int n), .val (.int kd), .val (.int rp), .val (.int pp), .val (.int ch), .val (.int 4), .val (.ref b367), .val (.ref b395), .unset, .unset]) rfl ?_
    have sz410 : h.size ≤ b367 := by rw [g_b367]; exact (Keep.refl h []).1
    have kp411 := (Keep.refl h []).ext E367
    have kp412 := kp411.wr W375 (Or.inr sz410)
    have kp413 := kp412.wr W381 (Or.inr sz410)
    have kp414 := kp413.wr W387 (Or.inr sz410)
    have kp415 := kp414.wr W393 (Or.inr sz410)
    have sz416 : h.size ≤ b395 := by rw [g_b395]; exact kp415.1
    have kp417 := kp415.ext E395
    have kp418 := kp417.trans K402 (allS (Or.inr sz416) all0)
    have I419 := Lits.keep I0 kp418 sf0
    have f420 := (Arv.keep f403 K402 (ninS (Nat.ne_of_lt lt400) nin0))
    have Y421 := X402.more (cells' := 12) (slots' := 200) (by decide) (by decide)
    exact segS hw (.val (.int p0)) (.val (.int p1)) (.val (.int p2)) (.val (.int p3)) (.val (.int p4)) (s5) (.val (.ref bs)) (.val (.int n)) (.val (.int kd)) (.val (.int rp)) (.val (.int pp)) (.val (.int ch)) (.val (.int 4)) (.val (.ref b367)) p_1 p_7 p_11 p_15 p_19 p_23 p_27 p_31 p_35 p_40 p_46 p_52 p_58 k_64 k_66 k_68 k_70 k_72 z_ SZ hz b395 t402 _ _ _ [x374_, x380_, x386_, x392_] C Y421 I419 S_3 E_6 S_9 E_10 S_13 E_14 S_17 E_18 S_21 E_22 F_25 E_26 F_29 E_30 F_33 E_34 F_37 E_38 F_39 F_42 F_45 F_48 F_51 F_54 F_57 F_60 V_63 V_65 V_67 V_69 V_71 EX402 FC402 FV402 VT402 (own_cod rfl rfl hp401) hp401 (Nat.le_of_ble_eq_true rfl)
  · refine g_aconst_null C X393 d0_345 (g_goto C X393 d0_346 (g_astore C X393 d0_358 rfl (l' := #[.val (.int p0), .val (.int p1), .val (.int p2), .val (.int p3), .val (.int p4), s5, .val (.ref bs), .val (.int n), .val (.int kd), .val (.int rp), .val (.int pp), .val (.int ch), .val (.int 4), .val (.ref b367), .val .null, .unset, .unset]) rfl ?_))
    have sz422 : h.size ≤ b367 := by rw [g_b367]; exact (Keep.refl h []).1
    have kp423 := (Keep.refl h []).ext E367
    have kp424 := kp423.wr W375 (Or.inr sz422)
    have kp425 := kp424.wr W381 (Or.inr sz422)
    have kp426 := kp425.wr W387 (Or.inr sz422)
    have kp427 := kp426.wr W393 (Or.inr sz422)
    have I428 := Lits.keep I0 kp427 sf0
    have Y429 := X393.more (cells' := 12) (slots' := 200) (by decide) (by decide)
    exact segN hw (.val (.int p0)) (.val (.int p1)) (.val (.int p2)) (.val (.int p3)) (.val (.int p4)) (s5) (.val (.ref bs)) (.val (.int n)) (.val (.int kd)) (.val (.int rp)) (.val (.int pp)) (.val (.int ch)) (.val (.int 4)) (.val (.ref b367)) p_1 p_7 p_11 p_15 p_19 p_23 p_27 p_31 p_35 p_40 p_46 p_52 p_58 k_64 k_66 k_68 k_70 k_72 z_ SZ hz C Y429 I428 S_3 E_6 S_9 E_10 S_13 E_14 S_17 E_18 S_21 E_22 F_25 E_26 F_29 E_30 F_33 E_34 F_37 E_38 F_39 F_42 F_45 F_48 F_51 F_54 F_57 F_60 V_63 V_65 V_67 V_69 V_71
theorem d0_216 : Dc code 216 (.aload 13) 2 218 := ⟨at_216, rfl⟩
theorem d0_218 : Dc code 218 (.iconst 4) 1 219 := ⟨at_218, rfl⟩
theorem d0_219 : Dc code 219 (.aload 6) 2 221 := ⟨at_219, rfl⟩
theorem d0_221 : Dc code 221 (.iload 7) 2 223 := ⟨at_221, rfl⟩
theorem d0_223 : Dc code 223 (.iconst 4) 1 224 := ⟨at_223, rfl⟩
theorem d0_224 : Dc code 224 (.iload 9) 2 226 := ⟨at_224, rfl⟩
theorem d0_226 : Dc code 226 (.iload 10) 2 228 := ⟨at_226, rfl⟩
theorem d0_228 : Dc code 228 (.iload 11) 2 230 := ⟨at_228, rfl⟩
theorem d0_230 : Dc code 230 (.invokestatic 26) 3 233 := ⟨at_230, rfl⟩
theorem d0_233 : Dc code 233 (.castore) 1 234 := ⟨at_233, rfl⟩
theorem segL5 {p : Program} {l : Launch} {e : Env} {s : State} {m : MethodId} {A : Array Value} {below : List Frame} {meth : Method} {c : Code} {Z : State} {a0 : Array Value} (hw : ∀ d ∈ tables_1, d.before a0 Z = true) {T0 : State} {h : Heap} {vm0 : Vm} (p0 p1 p2 p3 p4 : Int32) (s5 : Slot) (n kd rp pp ch : Int32) (p_1 p_7 p_11 p_15 p_19 p_23 p_27 p_31 p_35 p_40 p_46 p_52 p_58 : Addr) (k_64 k_66 k_68 k_70 k_72 : ClassId) (z_ : Int32) (SZ : Sta Z Z.heap "java/lang/String" "COMPACT_STRINGS" "Z" (.int z_)) (hz : ¬ z_ = 0) (fm_ : Value) (SF : Sta Z Z.heap "jdk/internal/util/Preconditions" "SIOOBE_FORMATTER" "Ljava/util/function/BiFunction;" fm_) (rf_ : fm_.isRef = true) (bs : Addr) (bt : Addr) (bk : ClassId) (bN : Int32) (bv : List Value) (bc : List Int32) (C : Cx p (s.setVm vm0) m meth c Z "com/example/indie_lease/indielease/model/LicenseStatusOfCodePinLaw" "law" code maxLocals ret) (X0 : St p l e room_1 (s.setVm vm0) m A below meth c Z T0 h 2 36) (I0 : Lits Z consts_1 s vm0 h) (S_3 : Sta Z Z.heap "com/example/indie_lease/indielease/model/LicenseStatus" "$VALUES" "[Lcom/example/indie_lease/indielease/model/LicenseStatus;" (.ref p_1)) (E_6 : Exa Z Z.heap p_1 "[Lcom/example/indie_lease/indielease/model/LicenseStatus;") (S_9 : Sta Z Z.heap "com/example/indie_lease/indielease/model/LicenseStatus" "ACTIVE" "Lcom/example/indie_lease/indielease/model/LicenseStatus;" (.ref p_7)) (E_10 : Exa Z Z.heap p_7 "com/example/indie_lease/indielease/model/LicenseStatus") (S_13 : Sta Z Z.heap "com/example/indie_lease/indielease/model/LicenseStatus" "FALLBACK" "Lcom/example/indie_lease/indielease/model/LicenseStatus;" (.ref p_11)) (E_14 : Exa Z Z.heap p_11 "com/example/indie_lease/indielease/model/LicenseStatus") (S_17 : Sta Z Z.heap "com/example/indie_lease/indielease/model/LicenseStatus" "EXPIRED" "Lcom/example/indie_lease/indielease/model/LicenseStatus;" (.ref p_15)) (E_18 : Exa Z Z.heap p_15 "com/example/indie_lease/indielease/model/LicenseStatus") (S_21 : Sta Z Z.heap "com/example/indie_lease/indielease/model/LicenseStatus" "REVOKED" "Lcom/example/indie_lease/indielease/model/LicenseStatus;" (.ref p_19)) (E_22 : Exa Z Z.heap p_19 "com/example/indie_lease/indielease/model/LicenseStatus") (F_25 : Fld Z Z.heap p_7 "com/example/indie_lease/indielease/model/LicenseStatus" "code" "Ljava/lang/String;" (.ref p_23)) (E_26 : Exa Z Z.heap p_23 "java/lang/String") (F_29 : Fld Z Z.heap p_11 "com/example/indie_lease/indielease/model/LicenseStatus" "code" "Ljava/lang/String;" (.ref p_27)) (E_30 : Exa Z Z.heap p_27 "java/lang/String") (F_33 : Fld Z Z.heap p_15 "com/example/indie_lease/indielease/model/LicenseStatus" "code" "Ljava/lang/String;" (.ref p_31)) (E_34 : Exa Z Z.heap p_31 "java/lang/String") (F_37 : Fld Z Z.heap p_19 "com/example/indie_lease/indielease/model/LicenseStatus" "code" "Ljava/lang/String;" (.ref p_35)) (E_38 : Exa Z Z.heap p_35 "java/lang/String") (F_39 : Fld Z Z.heap p_23 "java/lang/String" "coder" "B" (.int 0)) (F_42 : Fld Z Z.heap p_23 "java/lang/String" "value" "[B" (.ref p_40)) (F_45 : Fld Z Z.heap p_27 "java/lang/String" "coder" "B" (.int 0)) (F_48 : Fld Z Z.heap p_27 "java/lang/String" "value" "[B" (.ref p_46)) (F_51 : Fld Z Z.heap p_31 "java/lang/String" "coder" "B" (.int 0)) (F_54 : Fld Z Z.heap p_31 "java/lang/String" "value" "[B" (.ref p_52)) (F_57 : Fld Z Z.heap p_35 "java/lang/String" "coder" "B" (.int 0)) (F_60 : Fld Z Z.heap p_35 "java/lang/String" "value" "[B" (.ref p_58)) (V_63 : Arv Z Z.heap p_1 k_64 (.object "com/example/indie_lease/indielease/model/LicenseStatus") 4 [(.ref p_7), (.ref p_11), (.ref p_15), (.ref p_19)] .null) (V_65 : Arv Z Z.heap p_40 k_66 .byte 6 [(.int 97), (.int 99), (.int 116), (.int 105), (.int 118), (.int 101)] (.int 0)) (V_67 : Arv Z Z.heap p_46 k_68 .byte 8 [(.int 102), (.int 97), (.int 108), (.int 108), (.int 98), (.int 97), (.int 99), (.int 107)] (.int 0)) (V_69 : Arv Z Z.heap p_52 k_70 .byte 7 [(.int 101), (.int 120), (.int 112), (.int 105), (.int 114), (.int 101), (.int 100)] (.int 0)) (V_71 : Arv Z Z.heap p_58 k_72 .byte 7 [(.int 114), (.int 101), (.int 118), (.int 111), (.int 107), (.int 101), (.int 100)] (.int 0)) (bEX : Exa Z h bs "java/lang/String") (bFC : Fld Z h bs "java/lang/String" "coder" "B" (.int (0 : Int32))) (bFV : Fld Z h bs "java/lang/String" "value" "[B" (.ref bt)) (bVT : Arv Z h bt bk .byte bN bv (.int (0 : Int32))) (bhc : StrChars.Road.CodA bc 0 bN bv) (bhs : ∀ c ∈ bc, ¬ c < 0 ∧ ¬ (255 : Int32) < c) (bhl : bc.length ≤ 4000) (hn : Int32.ofNat bc.length = n) (hc : ¬ ch < 0 ∧ ¬ (255 : Int32) < ch) :
    Goes p e below (EndL Z consts_1 s 32 5312 (fun v' h' => v' = some (.int 1))) T0 (mkF m 109 #[.val (.int p0), .val (.int p1), .val (.int p2), .val (.int p3), .val (.int p4), s5, .val (.ref bs), .val (.int n), .val (.int kd), .val (.int rp), .val (.int pp), .val (.int ch), .val (.int 5), .unset, .unset, .unset, .unset] []) := by
  refine g_iload C X0 d0_109 rfl (g_newarray C X0 (wd hw 22 rfl) d0_111 (by decide) 5 5 (by decide) (by decide) (by decide) (by decide) (fun T430 h430 b430 k_b430 g_b430 n_b430 X430 E430 V430 => ?_))
  have lt431 : bs < b430 := by rw [g_b430]; exact Exa.lt bEX
  have lt432 : bt < b430 := by rw [g_b430]; exact Arv.lt bVT
  have V_b430 : Arv Z h430 b430 k_b430 .char (5 : Int32) [(.int 0), (.int 0), (.int 0), (.int 0), (.int 0)] (.int 0) := V430
  refine g_astore C X430 d0_113 rfl (l' := #[.val (.int p0), .val (.int p1), .val (.int p2), .val (.int p3), .val (.int p4), s5, .val (.ref bs), .val (.int n), .val (.int kd), .val (.int rp), .val (.int pp), .val (.int ch), .val (.int 5), .val (.ref b430), .unset, .unset, .unset]) rfl (g_iload C X430 d0_115 rfl (g_ifn (h0_le _) C X430 d0_117 (fun q => absurd (by decide) q) (fun _ => ?_)))
  refine g_aload C X430 d0_120 rfl rfl (g_iconst 0 C X430 d0_122 rfl (g_aload C X430 d0_123 rfl rfl (g_iload C X430 d0_125 rfl (g_iconst 0 C X430 d0_127 rfl (g_iload C X430 d0_128 rfl (g_iload C X430 d0_130 rfl (g_iload C X430 d0_132 rfl ?_)))))))
  have f433 := (Exa.ext E430 bEX)
  have f434 := (Fld.ext E430 bFV)
  have f435 := (Fld.ext E430 bFC)
  have f436 := (Arv.ext bVT E430)
  refine g_static (argsL := [(.ref bs), (.int n), (.int 0), (.int rp), (.int pp), (.int ch)]) (st := [(.int 0), (.ref b430)]) C X430 (wd hw 23 rfl) (wd hw 24 rfl) (wd hw 25 rfl) (wd hw 26 rfl) (by decide) (pay_of (W' := 2) (rpk0 l hw X430.ext bs n rp pp ch z_ SZ hz fm_ SF rf_ bt _ _ _ bc f433 f435 f434 f436 bhc bhs bhl hn hc) C.hZ (wd hw 26 rfl) (wd hw 25 rfl) (by decide) (by decide)) pd_6 rfl rfl _ rfl (Nat.le_of_eq rfl) d0_134 (by decide) (by decide) (fun T437 h437 v437 q437 X437 => ?_)
  obtain ⟨x437_, rfl, lx437, e437⟩ := q437
  subst e437
  show Goes p e below _ T437 (mkF m 137 #[.val (.int p0), .val (.int p1), .val (.int p2), .val (.int p3), .val (.int p4), s5, .val (.ref bs), .val (.int n), .val (.int kd), .val (.int rp), .val (.int pp), .val (.int ch), .val (.int 5), .val (.ref b430), .unset, .unset, .unset] [(.int x437_), (.int 0), (.ref b430)])
  refine g_castore C X437 V_b430 n_b430 d0_137 (by decide) (by decide) (Nat.le_of_ble_eq_true rfl) (.int x437_) (own_nar lx437) (fun T438 h438 X438 W438 V438 => ?_)
  have V438_b430 : Arv Z h438 b430 k_b430 .char (5 : Int32) [(.int x437_), (.int 0), (.int 0), (.int 0), (.int 0)] (.int 0) := V438
  refine g_iload C X438 d0_138 rfl (g_iconst 1 C X438 d0_140 rfl (g_icmpn (hI_le _ _) C X438 d0_141 (fun q => absurd (by decide) q) (fun _ => ?_)))
  refine g_aload C X438 d0_144 rfl rfl (g_iconst 1 C X438 d0_146 rfl (g_aload C X438 d0_147 rfl rfl (g_iload C X438 d0_149 rfl (g_iconst 1 C X438 d0_151 rfl (g_iload C X438 d0_152 rfl (g_iload C X438 d0_154 rfl (g_iload C X438 d0_156 rfl ?_)))))))
  have f439 := (Exa.wr W438 f433)
  have f440 := (Fld.other W438 f434 (Or.inl (Nat.ne_of_lt lt431)))
  have f441 := (Fld.other W438 f435 (Or.inl (Nat.ne_of_lt lt431)))
  have f442 := (Arv.other f436 W438 (Nat.ne_of_lt lt432))
  refine g_static (argsL := [(.ref bs), (.int n), (.int 1), (.int rp), (.int pp), (.int ch)]) (st := [(.int 1), (.ref b430)]) C X438 (wd hw 23 rfl) (wd hw 24 rfl) (wd hw 25 rfl) (wd hw 26 rfl) (by decide) (pay_of (W' := 2) (rpk1 l hw X438.ext bs n rp pp ch z_ SZ hz fm_ SF rf_ bt _ _ _ bc f439 f441 f440 f442 bhc bhs bhl hn hc) C.hZ (wd hw 26 rfl) (wd hw 25 rfl) (by decide) (by decide)) pd_6 rfl rfl _ rfl (Nat.le_of_eq rfl) d0_158 (by decide) (by decide) (fun T443 h443 v443 q443 X443 => ?_)
  obtain ⟨x443_, rfl, lx443, e443⟩ := q443
  subst e443
  show Goes p e below _ T443 (mkF m 161 #[.val (.int p0), .val (.int p1), .val (.int p2), .val (.int p3), .val (.int p4), s5, .val (.ref bs), .val (.int n), .val (.int kd), .val (.int rp), .val (.int pp), .val (.int ch), .val (.int 5), .val (.ref b430), .unset, .unset, .unset] [(.int x443_), (.int 1), (.ref b430)])
  refine g_castore C X443 V438_b430 n_b430 d0_161 (by decide) (by decide) (Nat.le_of_ble_eq_true rfl) (.int x443_) (own_nar lx443) (fun T444 h444 X444 W444 V444 => ?_)
  have V444_b430 : Arv Z h444 b430 k_b430 .char (5 : Int32) [(.int x437_), (.int x443_), (.int 0), (.int 0), (.int 0)] (.int 0) := V444
  refine g_iload C X444 d0_162 rfl (g_iconst 2 C X444 d0_164 rfl (g_icmpn (hI_le _ _) C X444 d0_165 (fun q => absurd (by decide) q) (fun _ => ?_)))
  refine g_aload C X444 d0_168 rfl rfl (g_iconst 2 C X444 d0_170 rfl (g_aload C X444 d0_171 rfl rfl (g_iload C X444 d0_173 rfl (g_iconst 2 C X444 d0_175 rfl (g_iload C X444 d0_176 rfl (g_iload C X444 d0_178 rfl (g_iload C X444 d0_180 rfl ?_)))))))
  have f445 := (Exa.wr W444 f439)
  have f446 := (Fld.other W444 f440 (Or.inl (Nat.ne_of_lt lt431)))
  have f447 := (Fld.other W444 f441 (Or.inl (Nat.ne_of_lt lt431)))
  have f448 := (Arv.other f442 W444 (Nat.ne_of_lt lt432))
  refine g_static (argsL := [(.ref bs), (.int n), (.int 2), (.int rp), (.int pp), (.int ch)]) (st := [(.int 2), (.ref b430)]) C X444 (wd hw 23 rfl) (wd hw 24 rfl) (wd hw 25 rfl) (wd hw 26 rfl) (by decide) (pay_of (W' := 2) (rpk2 l hw X444.ext bs n rp pp ch z_ SZ hz fm_ SF rf_ bt _ _ _ bc f445 f447 f446 f448 bhc bhs bhl hn hc) C.hZ (wd hw 26 rfl) (wd hw 25 rfl) (by decide) (by decide)) pd_6 rfl rfl _ rfl (Nat.le_of_eq rfl) d0_182 (by decide) (by decide) (fun T449 h449 v449 q449 X449 => ?_)
  obtain ⟨x449_, rfl, lx449, e449⟩ := q449
  subst e449
  show Goes p e below _ T449 (mkF m 185 #[.val (.int p0), .val (.int p1), .val (.int p2), .val (.int p3), .val (.int p4), s5, .val (.ref bs), .val (.int n), .val (.int kd), .val (.int rp), .val (.int pp), .val (.int ch), .val (.int 5), .val (.ref b430), .unset, .unset, .unset] [(.int x449_), (.int 2), (.ref b430)])
  refine g_castore C X449 V444_b430 n_b430 d0_185 (by decide) (by decide) (Nat.le_of_ble_eq_true rfl) (.int x449_) (own_nar lx449) (fun T450 h450 X450 W450 V450 => ?_)
  have V450_b430 : Arv Z h450 b430 k_b430 .char (5 : Int32) [(.int x437_), (.int x443_), (.int x449_), (.int 0), (.int 0)] (.int 0) := V450
  refine g_iload C X450 d0_186 rfl (g_iconst 3 C X450 d0_188 rfl (g_icmpn (hI_le _ _) C X450 d0_189 (fun q => absurd (by decide) q) (fun _ => ?_)))
  refine g_aload C X450 d0_192 rfl rfl (g_iconst 3 C X450 d0_194 rfl (g_aload C X450 d0_195 rfl rfl (g_iload C X450 d0_197 rfl (g_iconst 3 C X450 d0_199 rfl (g_iload C X450 d0_200 rfl (g_iload C X450 d0_202 rfl (g_iload C X450 d0_204 rfl ?_)))))))
  have f451 := (Exa.wr W450 f445)
  have f452 := (Fld.other W450 f446 (Or.inl (Nat.ne_of_lt lt431)))
  have f453 := (Fld.other W450 f447 (Or.inl (Nat.ne_of_lt lt431)))
  have f454 := (Arv.other f448 W450 (Nat.ne_of_lt lt432))
  refine g_static (argsL := [(.ref bs), (.int n), (.int 3), (.int rp), (.int pp), (.int ch)]) (st := [(.int 3), (.ref b430)]) C X450 (wd hw 23 rfl) (wd hw 24 rfl) (wd hw 25 rfl) (wd hw 26 rfl) (by decide) (pay_of (W' := 2) (rpk3 l hw X450.ext bs n rp pp ch z_ SZ hz fm_ SF rf_ bt _ _ _ bc f451 f453 f452 f454 bhc bhs bhl hn hc) C.hZ (wd hw 26 rfl) (wd hw 25 rfl) (by decide) (by decide)) pd_6 rfl rfl _ rfl (Nat.le_of_eq rfl) d0_206 (by decide) (by decide) (fun T455 h455 v455 q455 X455 => ?_)
  obtain ⟨x455_, rfl, lx455, e455⟩ := q455
  subst e455
  show Goes p e below _ T455 (mkF m 209 #[.val (.int p0), .val (.int p1), .val (.int p2), .val (.int p3), .val (.int p4), s5, .val (.ref bs), .val (.int n), .val (.int kd), .val (.int rp), .val (.int pp), .val (.int ch), .val (.int 5), .val (.ref b430), .unset, .unset, .unset] [(.int x455_), (.int 3), (.ref b430)])
  refine g_castore C X455 V450_b430 n_b430 d0_209 (by decide) (by decide) (Nat.le_of_ble_eq_true rfl) (.int x455_) (own_nar lx455) (fun T456 h456 X456 W456 V456 => ?_)
  have V456_b430 : Arv Z h456 b430 k_b430 .char (5 : Int32) [(.int x437_), (.int x443_), (.int x449_), (.int x455_), (.int 0)] (.int 0) := V456
  refine g_iload C X456 d0_210 rfl (g_iconst 4 C X456 d0_212 rfl (g_icmpn (hI_le _ _) C X456 d0_213 (fun q => absurd (by decide) q) (fun _ => ?_)))
  refine g_aload C X456 d0_216 rfl rfl (g_iconst 4 C X456 d0_218 rfl (g_aload C X456 d0_219 rfl rfl (g_iload C X456 d0_221 rfl (g_iconst 4 C X456 d0_223 rfl (g_iload C X456 d0_224 rfl (g_iload C X456 d0_226 rfl (g_iload C X456 d0_228 rfl ?_)))))))
  have f457 := (Exa.wr W456 f451)
  have f458 := (Fld.other W456 f452 (Or.inl (Nat.ne_of_lt lt431)))
  have f459 := (Fld.other W456 f453 (Or.inl (Nat.ne_of_lt lt431)))
  have f460 := (Arv.other f454 W456 (Nat.ne_of_lt lt432))
  refine g_static (argsL := [(.ref bs), (.int n), (.int 4), (.int rp), (.int pp), (.int ch)]) (st := [(.int 4), (.ref b430)]) C X456 (wd hw 23 rfl) (wd hw 24 rfl) (wd hw 25 rfl) (wd hw 26 rfl) (by decide) (pay_of (W' := 2) (rpk4 l hw X456.ext bs n rp pp ch z_ SZ hz fm_ SF rf_ bt _ _ _ bc f457 f459 f458 f460 bhc bhs bhl hn hc) C.hZ (wd hw 26 rfl) (wd hw 25 rfl) (by decide) (by decide)) pd_6 rfl rfl _ rfl (Nat.le_of_eq rfl) d0_230 (by decide) (by decide) (fun T461 h461 v461 q461 X461 => ?_)
  obtain ⟨x461_, rfl, lx461, e461⟩ := q461
  subst e461
  show Goes p e below _ T461 (mkF m 233 #[.val (.int p0), .val (.int p1), .val (.int p2), .val (.int p3), .val (.int p4), s5, .val (.ref bs), .val (.int n), .val (.int kd), .val (.int rp), .val (.int pp), .val (.int ch), .val (.int 5), .val (.ref b430), .unset, .unset, .unset] [(.int x461_), (.int 4), (.ref b430)])
  refine g_castore C X461 V456_b430 n_b430 d0_233 (by decide) (by decide) (Nat.le_of_ble_eq_true rfl) (.int x461_) (own_nar lx461) (fun T462 h462 X462 W462 V462 => ?_)
  have V462_b430 : Arv Z h462 b430 k_b430 .char (5 : Int32) [(.int x437_), (.int x443_), (.int x449_), (.int x455_), (.int x461_)] (.int 0) := V462
  refine g_iload C X462 d0_234 rfl (g_iconst 5 C X462 d0_236 rfl (g_icmpn (hI_le _ _) C X462 d0_237 (fun _ => ?_) (fun q => absurd q (by decide))))
  refine g_iload C X462 d0_258 rfl (g_bipush 6 C X462 d0_260 rfl (g_icmpn (hI_le _ _) C X462 d0_262 (fun _ => ?_) (fun q => absurd q (by decide))))
  refine g_iload C X462 d0_285 rfl (g_bipush 7 C X462 d0_287 rfl (g_icmpn (hI_le _ _) C X462 d0_289 (fun _ => ?_) (fun q => absurd q (by decide))))
  refine g_iload C X462 d0_312 rfl (g_bipush 8 C X462 d0_314 rfl (g_icmpn (hI_le _ _) C X462 d0_316 (fun _ => ?_) (fun q => absurd q (by decide))))
  refine g_iload C X462 d0_339 rfl (g_iconst 3 C X462 d0_341 rfl (g_icmpn (hI_ne _ _) C X462 d0_342 (fun c342_463 => ?_) (fun c342_463 => ?_)))
  · refine g_new C X462 (wd hw 80 rfl) (wd hw 2 rfl) (wd hw 1 rfl) d0_349 (by decide) (by decide) (fun T464 h464 b464 g_b464 n_b464 X464 E464 A464 D464 M464 => ?_)
    have f465 := (Exa.wr W462 f457)
    have lt466 : bs < b464 := by rw [g_b464]; exact Exa.lt f465
    have f467 := (Arv.other f460 W462 (Nat.ne_of_lt lt432))
    have lt468 : bt < b464 := by rw [g_b464]; exact Arv.lt f467
    have lt469 : b430 < b464 := by rw [g_b464]; exact Arv.lt V462_b430
    have F_value_b464 : Fld Z h464 b464 "java/lang/String" "value" "[B" .null := D464 (Or.inr (wd hw 4 rfl)) (ty := (.array .byte)) (by decide)
    have F_coder_b464 : Fld Z h464 b464 "java/lang/String" "coder" "B" (.int 0) := D464 (Or.inr (wd hw 5 rfl)) (ty := .byte) (by decide)
    refine g_dup C X464 d0_352 rfl (g_aload C X464 d0_353 rfl rfl ?_)
    have hp470 : ∀ c ∈ [x437_, x443_, x449_, x455_, x461_], ¬ c < 0 ∧ ¬ (255 : Int32) < c := (List.forall_mem_cons.mpr ⟨lx437, (List.forall_mem_cons.mpr ⟨lx443, (List.forall_mem_cons.mpr ⟨lx449, (List.forall_mem_cons.mpr ⟨lx455, (List.forall_mem_cons.mpr ⟨lx461, (fun _ q => nomatch q)⟩)⟩)⟩)⟩)⟩)
    have f472 := (Arv.ext V462_b430 E464)
    refine g_special (argsL := [(.ref b430)]) (st := [(.ref b464)]) C X464 rfl (wd hw 81 rfl) (wd hw 82 rfl) (wd hw 83 rfl) (by decide) (payV (W' := 1) (cs := [x437_, x443_, x449_, x455_, x461_]) (n := 5) C.hZ X464.ext (own_words hw) (kI := 4) (wd hw 2 rfl) n_b464 A464 F_value_b464 F_coder_b464 f472 SZ hz rfl rfl (by decide) (by decide) hp470 (by decide) (by decide)) pd_5 rfl rfl _ rfl (Nat.le_of_eq rfl) d0_355 (by decide) (by decide) (fun T471 h471 v471 q471 X471 => ?_)
    obtain ⟨rfl, K471, EX471, FC471, t471, k_t471, nt0_471, gt471, nt471, FV471, VT471⟩ := q471
    have f474 := (Exa.ext E464 f465)
    have lt473 : bs < t471 := Nat.lt_of_lt_of_le (Exa.lt f474) gt471
    have f476 := (Arv.ext f467 E464)
    have lt475 : bt < t471 := Nat.lt_of_lt_of_le (Arv.lt f476) gt471
    have lt477 : b430 < t471 := Nat.lt_of_lt_of_le (Arv.lt f472) gt471
    have lt478 : b464 < t471 := Nat.lt_of_lt_of_le (Exa.lt A464) gt471
    show Goes p e below _ T471 (mkF m 358 #[.val (.int p0), .val (.int p1), .val (.int p2), .val (.int p3), .val (.int p4), s5, .val (.ref bs), .val (.int n), .val (.int kd), .val (.int rp), .val (.int pp), .val (.int ch), .val (.int 5), .val (.ref b430), .unset, .unset, .unset] [(.ref b464)])
    refine g_astore C X471 d0_358 rfl (l' := #[.val (.int p0), .val (.int p1), .val (.int p2), .val (.int p3), .val (.int p4), s5, .val (.ref bs), .val (.int n), .val (.int kd), .val (.int rp), .val (.int pp), .val (.int ch), .val (.int 5), .val (.ref b430), .val (.ref b464), .unset, .unset]) rfl ?_
    have sz479 : h.size ≤ b430 := by rw [g_b430]; exact (Keep.refl h []).1
    have kp480 := (Keep.refl h []).ext E430
    have kp481 := kp480.wr W438 (Or.inr sz479)
    have kp482 := kp481.wr W444 (Or.inr sz479)
    have kp483 := kp482.wr W450 (Or.inr sz479)
    have kp484 := kp483.wr W456 (Or.inr sz479)
    have kp485 := kp484.wr W462 (Or.inr sz479)
    have sz486 : h.size ≤ b464 := by rw [g_b464]; exact kp485.1
    have kp487 := kp485.ext E464
    have kp488 := kp487.trans K471 (allS (Or.inr sz486) all0)
    have I489 := Lits.keep I0 kp488 sf0
    have f490 := (Arv.keep f472 K471 (ninS (Nat.ne_of_lt lt469) nin0))
    have Y491 := X471.more (cells' := 12) (slots' := 200) (by decide) (by decide)
    exact segS hw (.val (.int p0)) (.val (.int p1)) (.val (.int p2)) (.val (.int p3)) (.val (.int p4)) (s5) (.val (.ref bs)) (.val (.int n)) (.val (.int kd)) (.val (.int rp)) (.val (.int pp)) (.val (.int ch)) (.val (.int 5)) (.val (.ref b430)) p_1 p_7 p_11 p_15 p_19 p_23 p_27 p_31 p_35 p_40 p_46 p_52 p_58 k_64 k_66 k_68 k_70 k_72 z_ SZ hz b464 t471 _ _ _ [x437_, x443_, x449_, x455_, x461_] C Y491 I489 S_3 E_6 S_9 E_10 S_13 E_14 S_17 E_18 S_21 E_22 F_25 E_26 F_29 E_30 F_33 E_34 F_37 E_38 F_39 F_42 F_45 F_48 F_51 F_54 F_57 F_60 V_63 V_65 V_67 V_69 V_71 EX471 FC471 FV471 VT471 (own_cod rfl rfl hp470) hp470 (Nat.le_of_ble_eq_true rfl)
  · refine g_aconst_null C X462 d0_345 (g_goto C X462 d0_346 (g_astore C X462 d0_358 rfl (l' := #[.val (.int p0), .val (.int p1), .val (.int p2), .val (.int p3), .val (.int p4), s5, .val (.ref bs), .val (.int n), .val (.int kd), .val (.int rp), .val (.int pp), .val (.int ch), .val (.int 5), .val (.ref b430), .val .null, .unset, .unset]) rfl ?_))
    have sz492 : h.size ≤ b430 := by rw [g_b430]; exact (Keep.refl h []).1
    have kp493 := (Keep.refl h []).ext E430
    have kp494 := kp493.wr W438 (Or.inr sz492)
    have kp495 := kp494.wr W444 (Or.inr sz492)
    have kp496 := kp495.wr W450 (Or.inr sz492)
    have kp497 := kp496.wr W456 (Or.inr sz492)
    have kp498 := kp497.wr W462 (Or.inr sz492)
    have I499 := Lits.keep I0 kp498 sf0
    have Y500 := X462.more (cells' := 12) (slots' := 200) (by decide) (by decide)
    exact segN hw (.val (.int p0)) (.val (.int p1)) (.val (.int p2)) (.val (.int p3)) (.val (.int p4)) (s5) (.val (.ref bs)) (.val (.int n)) (.val (.int kd)) (.val (.int rp)) (.val (.int pp)) (.val (.int ch)) (.val (.int 5)) (.val (.ref b430)) p_1 p_7 p_11 p_15 p_19 p_23 p_27 p_31 p_35 p_40 p_46 p_52 p_58 k_64 k_66 k_68 k_70 k_72 z_ SZ hz C Y500 I499 S_3 E_6 S_9 E_10 S_13 E_14 S_17 E_18 S_21 E_22 F_25 E_26 F_29 E_30 F_33 E_34 F_37 E_38 F_39 F_42 F_45 F_48 F_51 F_54 F_57 F_60 V_63 V_65 V_67 V_69 V_71
theorem d0_240 : Dc code 240 (.aload 13) 2 242 := ⟨at_240, rfl⟩
theorem d0_242 : Dc code 242 (.iconst 5) 1 243 := ⟨at_242, rfl⟩
theorem d0_243 : Dc code 243 (.aload 6) 2 245 := ⟨at_243, rfl⟩
theorem d0_245 : Dc code 245 (.iload 7) 2 247 := ⟨at_245, rfl⟩
theorem d0_247 : Dc code 247 (.iconst 5) 1 248 := ⟨at_247, rfl⟩
theorem d0_248 : Dc code 248 (.iload 9) 2 250 := ⟨at_248, rfl⟩
theorem d0_250 : Dc code 250 (.iload 10) 2 252 := ⟨at_250, rfl⟩
theorem d0_252 : Dc code 252 (.iload 11) 2 254 := ⟨at_252, rfl⟩
theorem d0_254 : Dc code 254 (.invokestatic 26) 3 257 := ⟨at_254, rfl⟩
theorem d0_257 : Dc code 257 (.castore) 1 258 := ⟨at_257, rfl⟩
theorem segL6 {p : Program} {l : Launch} {e : Env} {s : State} {m : MethodId} {A : Array Value} {below : List Frame} {meth : Method} {c : Code} {Z : State} {a0 : Array Value} (hw : ∀ d ∈ tables_1, d.before a0 Z = true) {T0 : State} {h : Heap} {vm0 : Vm} (p0 p1 p2 p3 p4 : Int32) (s5 : Slot) (n kd rp pp ch : Int32) (p_1 p_7 p_11 p_15 p_19 p_23 p_27 p_31 p_35 p_40 p_46 p_52 p_58 : Addr) (k_64 k_66 k_68 k_70 k_72 : ClassId) (z_ : Int32) (SZ : Sta Z Z.heap "java/lang/String" "COMPACT_STRINGS" "Z" (.int z_)) (hz : ¬ z_ = 0) (fm_ : Value) (SF : Sta Z Z.heap "jdk/internal/util/Preconditions" "SIOOBE_FORMATTER" "Ljava/util/function/BiFunction;" fm_) (rf_ : fm_.isRef = true) (bs : Addr) (bt : Addr) (bk : ClassId) (bN : Int32) (bv : List Value) (bc : List Int32) (C : Cx p (s.setVm vm0) m meth c Z "com/example/indie_lease/indielease/model/LicenseStatusOfCodePinLaw" "law" code maxLocals ret) (X0 : St p l e room_1 (s.setVm vm0) m A below meth c Z T0 h 2 36) (I0 : Lits Z consts_1 s vm0 h) (S_3 : Sta Z Z.heap "com/example/indie_lease/indielease/model/LicenseStatus" "$VALUES" "[Lcom/example/indie_lease/indielease/model/LicenseStatus;" (.ref p_1)) (E_6 : Exa Z Z.heap p_1 "[Lcom/example/indie_lease/indielease/model/LicenseStatus;") (S_9 : Sta Z Z.heap "com/example/indie_lease/indielease/model/LicenseStatus" "ACTIVE" "Lcom/example/indie_lease/indielease/model/LicenseStatus;" (.ref p_7)) (E_10 : Exa Z Z.heap p_7 "com/example/indie_lease/indielease/model/LicenseStatus") (S_13 : Sta Z Z.heap "com/example/indie_lease/indielease/model/LicenseStatus" "FALLBACK" "Lcom/example/indie_lease/indielease/model/LicenseStatus;" (.ref p_11)) (E_14 : Exa Z Z.heap p_11 "com/example/indie_lease/indielease/model/LicenseStatus") (S_17 : Sta Z Z.heap "com/example/indie_lease/indielease/model/LicenseStatus" "EXPIRED" "Lcom/example/indie_lease/indielease/model/LicenseStatus;" (.ref p_15)) (E_18 : Exa Z Z.heap p_15 "com/example/indie_lease/indielease/model/LicenseStatus") (S_21 : Sta Z Z.heap "com/example/indie_lease/indielease/model/LicenseStatus" "REVOKED" "Lcom/example/indie_lease/indielease/model/LicenseStatus;" (.ref p_19)) (E_22 : Exa Z Z.heap p_19 "com/example/indie_lease/indielease/model/LicenseStatus") (F_25 : Fld Z Z.heap p_7 "com/example/indie_lease/indielease/model/LicenseStatus" "code" "Ljava/lang/String;" (.ref p_23)) (E_26 : Exa Z Z.heap p_23 "java/lang/String") (F_29 : Fld Z Z.heap p_11 "com/example/indie_lease/indielease/model/LicenseStatus" "code" "Ljava/lang/String;" (.ref p_27)) (E_30 : Exa Z Z.heap p_27 "java/lang/String") (F_33 : Fld Z Z.heap p_15 "com/example/indie_lease/indielease/model/LicenseStatus" "code" "Ljava/lang/String;" (.ref p_31)) (E_34 : Exa Z Z.heap p_31 "java/lang/String") (F_37 : Fld Z Z.heap p_19 "com/example/indie_lease/indielease/model/LicenseStatus" "code" "Ljava/lang/String;" (.ref p_35)) (E_38 : Exa Z Z.heap p_35 "java/lang/String") (F_39 : Fld Z Z.heap p_23 "java/lang/String" "coder" "B" (.int 0)) (F_42 : Fld Z Z.heap p_23 "java/lang/String" "value" "[B" (.ref p_40)) (F_45 : Fld Z Z.heap p_27 "java/lang/String" "coder" "B" (.int 0)) (F_48 : Fld Z Z.heap p_27 "java/lang/String" "value" "[B" (.ref p_46)) (F_51 : Fld Z Z.heap p_31 "java/lang/String" "coder" "B" (.int 0)) (F_54 : Fld Z Z.heap p_31 "java/lang/String" "value" "[B" (.ref p_52)) (F_57 : Fld Z Z.heap p_35 "java/lang/String" "coder" "B" (.int 0)) (F_60 : Fld Z Z.heap p_35 "java/lang/String" "value" "[B" (.ref p_58)) (V_63 : Arv Z Z.heap p_1 k_64 (.object "com/example/indie_lease/indielease/model/LicenseStatus") 4 [(.ref p_7), (.ref p_11), (.ref p_15), (.ref p_19)] .null) (V_65 : Arv Z Z.heap p_40 k_66 .byte 6 [(.int 97), (.int 99), (.int 116), (.int 105), (.int 118), (.int 101)] (.int 0)) (V_67 : Arv Z Z.heap p_46 k_68 .byte 8 [(.int 102), (.int 97), (.int 108), (.int 108), (.int 98), (.int 97), (.int 99), (.int 107)] (.int 0)) (V_69 : Arv Z Z.heap p_52 k_70 .byte 7 [(.int 101), (.int 120), (.int 112), (.int 105), (.int 114), (.int 101), (.int 100)] (.int 0)) (V_71 : Arv Z Z.heap p_58 k_72 .byte 7 [(.int 114), (.int 101), (.int 118), (.int 111), (.int 107), (.int 101), (.int 100)] (.int 0)) (bEX : Exa Z h bs "java/lang/String") (bFC : Fld Z h bs "java/lang/String" "coder" "B" (.int (0 : Int32))) (bFV : Fld Z h bs "java/lang/String" "value" "[B" (.ref bt)) (bVT : Arv Z h bt bk .byte bN bv (.int (0 : Int32))) (bhc : StrChars.Road.CodA bc 0 bN bv) (bhs : ∀ c ∈ bc, ¬ c < 0 ∧ ¬ (255 : Int32) < c) (bhl : bc.length ≤ 4000) (hn : Int32.ofNat bc.length = n) (hc : ¬ ch < 0 ∧ ¬ (255 : Int32) < ch) :
    Goes p e below (EndL Z consts_1 s 32 5312 (fun v' h' => v' = some (.int 1))) T0 (mkF m 109 #[.val (.int p0), .val (.int p1), .val (.int p2), .val (.int p3), .val (.int p4), s5, .val (.ref bs), .val (.int n), .val (.int kd), .val (.int rp), .val (.int pp), .val (.int ch), .val (.int 6), .unset, .unset, .unset, .unset] []) := by
  refine g_iload C X0 d0_109 rfl (g_newarray C X0 (wd hw 22 rfl) d0_111 (by decide) 6 6 (by decide) (by decide) (by decide) (by decide) (fun T501 h501 b501 k_b501 g_b501 n_b501 X501 E501 V501 => ?_))
  have lt502 : bs < b501 := by rw [g_b501]; exact Exa.lt bEX
  have lt503 : bt < b501 := by rw [g_b501]; exact Arv.lt bVT
  have V_b501 : Arv Z h501 b501 k_b501 .char (6 : Int32) [(.int 0), (.int 0), (.int 0), (.int 0), (.int 0), (.int 0)] (.int 0) := V501
  refine g_astore C X501 d0_113 rfl (l' := #[.val (.int p0), .val (.int p1), .val (.int p2), .val (.int p3), .val (.int p4), s5, .val (.ref bs), .val (.int n), .val (.int kd), .val (.int rp), .val (.int pp), .val (.int ch), .val (.int 6), .val (.ref b501), .unset, .unset, .unset]) rfl (g_iload C X501 d0_115 rfl (g_ifn (h0_le _) C X501 d0_117 (fun q => absurd (by decide) q) (fun _ => ?_)))
  refine g_aload C X501 d0_120 rfl rfl (g_iconst 0 C X501 d0_122 rfl (g_aload C X501 d0_123 rfl rfl (g_iload C X501 d0_125 rfl (g_iconst 0 C X501 d0_127 rfl (g_iload C X501 d0_128 rfl (g_iload C X501 d0_130 rfl (g_iload C X501 d0_132 rfl ?_)))))))
  have f504 := (Exa.ext E501 bEX)
  have f505 := (Fld.ext E501 bFV)
  have f506 := (Fld.ext E501 bFC)
  have f507 := (Arv.ext bVT E501)
  refine g_static (argsL := [(.ref bs), (.int n), (.int 0), (.int rp), (.int pp), (.int ch)]) (st := [(.int 0), (.ref b501)]) C X501 (wd hw 23 rfl) (wd hw 24 rfl) (wd hw 25 rfl) (wd hw 26 rfl) (by decide) (pay_of (W' := 2) (rpk0 l hw X501.ext bs n rp pp ch z_ SZ hz fm_ SF rf_ bt _ _ _ bc f504 f506 f505 f507 bhc bhs bhl hn hc) C.hZ (wd hw 26 rfl) (wd hw 25 rfl) (by decide) (by decide)) pd_6 rfl rfl _ rfl (Nat.le_of_eq rfl) d0_134 (by decide) (by decide) (fun T508 h508 v508 q508 X508 => ?_)
  obtain ⟨x508_, rfl, lx508, e508⟩ := q508
  subst e508
  show Goes p e below _ T508 (mkF m 137 #[.val (.int p0), .val (.int p1), .val (.int p2), .val (.int p3), .val (.int p4), s5, .val (.ref bs), .val (.int n), .val (.int kd), .val (.int rp), .val (.int pp), .val (.int ch), .val (.int 6), .val (.ref b501), .unset, .unset, .unset] [(.int x508_), (.int 0), (.ref b501)])
  refine g_castore C X508 V_b501 n_b501 d0_137 (by decide) (by decide) (Nat.le_of_ble_eq_true rfl) (.int x508_) (own_nar lx508) (fun T509 h509 X509 W509 V509 => ?_)
  have V509_b501 : Arv Z h509 b501 k_b501 .char (6 : Int32) [(.int x508_), (.int 0), (.int 0), (.int 0), (.int 0), (.int 0)] (.int 0) := V509
  refine g_iload C X509 d0_138 rfl (g_iconst 1 C X509 d0_140 rfl (g_icmpn (hI_le _ _) C X509 d0_141 (fun q => absurd (by decide) q) (fun _ => ?_)))
  refine g_aload C X509 d0_144 rfl rfl (g_iconst 1 C X509 d0_146 rfl (g_aload C X509 d0_147 rfl rfl (g_iload C X509 d0_149 rfl (g_iconst 1 C X509 d0_151 rfl (g_iload C X509 d0_152 rfl (g_iload C X509 d0_154 rfl (g_iload C X509 d0_156 rfl ?_)))))))
  have f510 := (Exa.wr W509 f504)
  have f511 := (Fld.other W509 f505 (Or.inl (Nat.ne_of_lt lt502)))
  have f512 := (Fld.other W509 f506 (Or.inl (Nat.ne_of_lt lt502)))
  have f513 := (Arv.other f507 W509 (Nat.ne_of_lt lt503))
  refine g_static (argsL := [(.ref bs), (.int n), (.int 1), (.int rp), (.int pp), (.int ch)]) (st := [(.int 1), (.ref b501)]) C X509 (wd hw 23 rfl) (wd hw 24 rfl) (wd hw 25 rfl) (wd hw 26 rfl) (by decide) (pay_of (W' := 2) (rpk1 l hw X509.ext bs n rp pp ch z_ SZ hz fm_ SF rf_ bt _ _ _ bc f510 f512 f511 f513 bhc bhs bhl hn hc) C.hZ (wd hw 26 rfl) (wd hw 25 rfl) (by decide) (by decide)) pd_6 rfl rfl _ rfl (Nat.le_of_eq rfl) d0_158 (by decide) (by decide) (fun T514 h514 v514 q514 X514 => ?_)
  obtain ⟨x514_, rfl, lx514, e514⟩ := q514
  subst e514
  show Goes p e below _ T514 (mkF m 161 #[.val (.int p0), .val (.int p1), .val (.int p2), .val (.int p3), .val (.int p4), s5, .val (.ref bs), .val (.int n), .val (.int kd), .val (.int rp), .val (.int pp), .val (.int ch), .val (.int 6), .val (.ref b501), .unset, .unset, .unset] [(.int x514_), (.int 1), (.ref b501)])
  refine g_castore C X514 V509_b501 n_b501 d0_161 (by decide) (by decide) (Nat.le_of_ble_eq_true rfl) (.int x514_) (own_nar lx514) (fun T515 h515 X515 W515 V515 => ?_)
  have V515_b501 : Arv Z h515 b501 k_b501 .char (6 : Int32) [(.int x508_), (.int x514_), (.int 0), (.int 0), (.int 0), (.int 0)] (.int 0) := V515
  refine g_iload C X515 d0_162 rfl (g_iconst 2 C X515 d0_164 rfl (g_icmpn (hI_le _ _) C X515 d0_165 (fun q => absurd (by decide) q) (fun _ => ?_)))
  refine g_aload C X515 d0_168 rfl rfl (g_iconst 2 C X515 d0_170 rfl (g_aload C X515 d0_171 rfl rfl (g_iload C X515 d0_173 rfl (g_iconst 2 C X515 d0_175 rfl (g_iload C X515 d0_176 rfl (g_iload C X515 d0_178 rfl (g_iload C X515 d0_180 rfl ?_)))))))
  have f516 := (Exa.wr W515 f510)
  have f517 := (Fld.other W515 f511 (Or.inl (Nat.ne_of_lt lt502)))
  have f518 := (Fld.other W515 f512 (Or.inl (Nat.ne_of_lt lt502)))
  have f519 := (Arv.other f513 W515 (Nat.ne_of_lt lt503))
  refine g_static (argsL := [(.ref bs), (.int n), (.int 2), (.int rp), (.int pp), (.int ch)]) (st := [(.int 2), (.ref b501)]) C X515 (wd hw 23 rfl) (wd hw 24 rfl) (wd hw 25 rfl) (wd hw 26 rfl) (by decide) (pay_of (W' := 2) (rpk2 l hw X515.ext bs n rp pp ch z_ SZ hz fm_ SF rf_ bt _ _ _ bc f516 f518 f517 f519 bhc bhs bhl hn hc) C.hZ (wd hw 26 rfl) (wd hw 25 rfl) (by decide) (by decide)) pd_6 rfl rfl _ rfl (Nat.le_of_eq rfl) d0_182 (by decide) (by decide) (fun T520 h520 v520 q520 X520 => ?_)
  obtain ⟨x520_, rfl, lx520, e520⟩ := q520
  subst e520
  show Goes p e below _ T520 (mkF m 185 #[.val (.int p0), .val (.int p1), .val (.int p2), .val (.int p3), .val (.int p4), s5, .val (.ref bs), .val (.int n), .val (.int kd), .val (.int rp), .val (.int pp), .val (.int ch), .val (.int 6), .val (.ref b501), .unset, .unset, .unset] [(.int x520_), (.int 2), (.ref b501)])
  refine g_castore C X520 V515_b501 n_b501 d0_185 (by decide) (by decide) (Nat.le_of_ble_eq_true rfl) (.int x520_) (own_nar lx520) (fun T521 h521 X521 W521 V521 => ?_)
  have V521_b501 : Arv Z h521 b501 k_b501 .char (6 : Int32) [(.int x508_), (.int x514_), (.int x520_), (.int 0), (.int 0), (.int 0)] (.int 0) := V521
  refine g_iload C X521 d0_186 rfl (g_iconst 3 C X521 d0_188 rfl (g_icmpn (hI_le _ _) C X521 d0_189 (fun q => absurd (by decide) q) (fun _ => ?_)))
  refine g_aload C X521 d0_192 rfl rfl (g_iconst 3 C X521 d0_194 rfl (g_aload C X521 d0_195 rfl rfl (g_iload C X521 d0_197 rfl (g_iconst 3 C X521 d0_199 rfl (g_iload C X521 d0_200 rfl (g_iload C X521 d0_202 rfl (g_iload C X521 d0_204 rfl ?_)))))))
  have f522 := (Exa.wr W521 f516)
  have f523 := (Fld.other W521 f517 (Or.inl (Nat.ne_of_lt lt502)))
  have f524 := (Fld.other W521 f518 (Or.inl (Nat.ne_of_lt lt502)))
  have f525 := (Arv.other f519 W521 (Nat.ne_of_lt lt503))
  refine g_static (argsL := [(.ref bs), (.int n), (.int 3), (.int rp), (.int pp), (.int ch)]) (st := [(.int 3), (.ref b501)]) C X521 (wd hw 23 rfl) (wd hw 24 rfl) (wd hw 25 rfl) (wd hw 26 rfl) (by decide) (pay_of (W' := 2) (rpk3 l hw X521.ext bs n rp pp ch z_ SZ hz fm_ SF rf_ bt _ _ _ bc f522 f524 f523 f525 bhc bhs bhl hn hc) C.hZ (wd hw 26 rfl) (wd hw 25 rfl) (by decide) (by decide)) pd_6 rfl rfl _ rfl (Nat.le_of_eq rfl) d0_206 (by decide) (by decide) (fun T526 h526 v526 q526 X526 => ?_)
  obtain ⟨x526_, rfl, lx526, e526⟩ := q526
  subst e526
  show Goes p e below _ T526 (mkF m 209 #[.val (.int p0), .val (.int p1), .val (.int p2), .val (.int p3), .val (.int p4), s5, .val (.ref bs), .val (.int n), .val (.int kd), .val (.int rp), .val (.int pp), .val (.int ch), .val (.int 6), .val (.ref b501), .unset, .unset, .unset] [(.int x526_), (.int 3), (.ref b501)])
  refine g_castore C X526 V521_b501 n_b501 d0_209 (by decide) (by decide) (Nat.le_of_ble_eq_true rfl) (.int x526_) (own_nar lx526) (fun T527 h527 X527 W527 V527 => ?_)
  have V527_b501 : Arv Z h527 b501 k_b501 .char (6 : Int32) [(.int x508_), (.int x514_), (.int x520_), (.int x526_), (.int 0), (.int 0)] (.int 0) := V527
  refine g_iload C X527 d0_210 rfl (g_iconst 4 C X527 d0_212 rfl (g_icmpn (hI_le _ _) C X527 d0_213 (fun q => absurd (by decide) q) (fun _ => ?_)))
  refine g_aload C X527 d0_216 rfl rfl (g_iconst 4 C X527 d0_218 rfl (g_aload C X527 d0_219 rfl rfl (g_iload C X527 d0_221 rfl (g_iconst 4 C X527 d0_223 rfl (g_iload C X527 d0_224 rfl (g_iload C X527 d0_226 rfl (g_iload C X527 d0_228 rfl ?_)))))))
  have f528 := (Exa.wr W527 f522)
  have f529 := (Fld.other W527 f523 (Or.inl (Nat.ne_of_lt lt502)))
  have f530 := (Fld.other W527 f524 (Or.inl (Nat.ne_of_lt lt502)))
  have f531 := (Arv.other f525 W527 (Nat.ne_of_lt lt503))
  refine g_static (argsL := [(.ref bs), (.int n), (.int 4), (.int rp), (.int pp), (.int ch)]) (st := [(.int 4), (.ref b501)]) C X527 (wd hw 23 rfl) (wd hw 24 rfl) (wd hw 25 rfl) (wd hw 26 rfl) (by decide) (pay_of (W' := 2) (rpk4 l hw X527.ext bs n rp pp ch z_ SZ hz fm_ SF rf_ bt _ _ _ bc f528 f530 f529 f531 bhc bhs bhl hn hc) C.hZ (wd hw 26 rfl) (wd hw 25 rfl) (by decide) (by decide)) pd_6 rfl rfl _ rfl (Nat.le_of_eq rfl) d0_230 (by decide) (by decide) (fun T532 h532 v532 q532 X532 => ?_)
  obtain ⟨x532_, rfl, lx532, e532⟩ := q532
  subst e532
  show Goes p e below _ T532 (mkF m 233 #[.val (.int p0), .val (.int p1), .val (.int p2), .val (.int p3), .val (.int p4), s5, .val (.ref bs), .val (.int n), .val (.int kd), .val (.int rp), .val (.int pp), .val (.int ch), .val (.int 6), .val (.ref b501), .unset, .unset, .unset] [(.int x532_), (.int 4), (.ref b501)])
  refine g_castore C X532 V527_b501 n_b501 d0_233 (by decide) (by decide) (Nat.le_of_ble_eq_true rfl) (.int x532_) (own_nar lx532) (fun T533 h533 X533 W533 V533 => ?_)
  have V533_b501 : Arv Z h533 b501 k_b501 .char (6 : Int32) [(.int x508_), (.int x514_), (.int x520_), (.int x526_), (.int x532_), (.int 0)] (.int 0) := V533
  refine g_iload C X533 d0_234 rfl (g_iconst 5 C X533 d0_236 rfl (g_icmpn (hI_le _ _) C X533 d0_237 (fun q => absurd (by decide) q) (fun _ => ?_)))
  refine g_aload C X533 d0_240 rfl rfl (g_iconst 5 C X533 d0_242 rfl (g_aload C X533 d0_243 rfl rfl (g_iload C X533 d0_245 rfl (g_iconst 5 C X533 d0_247 rfl (g_iload C X533 d0_248 rfl (g_iload C X533 d0_250 rfl (g_iload C X533 d0_252 rfl ?_)))))))
  have f534 := (Exa.wr W533 f528)
  have f535 := (Fld.other W533 f529 (Or.inl (Nat.ne_of_lt lt502)))
  have f536 := (Fld.other W533 f530 (Or.inl (Nat.ne_of_lt lt502)))
  have f537 := (Arv.other f531 W533 (Nat.ne_of_lt lt503))
  refine g_static (argsL := [(.ref bs), (.int n), (.int 5), (.int rp), (.int pp), (.int ch)]) (st := [(.int 5), (.ref b501)]) C X533 (wd hw 23 rfl) (wd hw 24 rfl) (wd hw 25 rfl) (wd hw 26 rfl) (by decide) (pay_of (W' := 2) (rpk5 l hw X533.ext bs n rp pp ch z_ SZ hz fm_ SF rf_ bt _ _ _ bc f534 f536 f535 f537 bhc bhs bhl hn hc) C.hZ (wd hw 26 rfl) (wd hw 25 rfl) (by decide) (by decide)) pd_6 rfl rfl _ rfl (Nat.le_of_eq rfl) d0_254 (by decide) (by decide) (fun T538 h538 v538 q538 X538 => ?_)
  obtain ⟨x538_, rfl, lx538, e538⟩ := q538
  subst e538
  show Goes p e below _ T538 (mkF m 257 #[.val (.int p0), .val (.int p1), .val (.int p2), .val (.int p3), .val (.int p4), s5, .val (.ref bs), .val (.int n), .val (.int kd), .val (.int rp), .val (.int pp), .val (.int ch), .val (.int 6), .val (.ref b501), .unset, .unset, .unset] [(.int x538_), (.int 5), (.ref b501)])
  refine g_castore C X538 V533_b501 n_b501 d0_257 (by decide) (by decide) (Nat.le_of_ble_eq_true rfl) (.int x538_) (own_nar lx538) (fun T539 h539 X539 W539 V539 => ?_)
  have V539_b501 : Arv Z h539 b501 k_b501 .char (6 : Int32) [(.int x508_), (.int x514_), (.int x520_), (.int x526_), (.int x532_), (.int x538_)] (.int 0) := V539
  refine g_iload C X539 d0_258 rfl (g_bipush 6 C X539 d0_260 rfl (g_icmpn (hI_le _ _) C X539 d0_262 (fun _ => ?_) (fun q => absurd q (by decide))))
  refine g_iload C X539 d0_285 rfl (g_bipush 7 C X539 d0_287 rfl (g_icmpn (hI_le _ _) C X539 d0_289 (fun _ => ?_) (fun q => absurd q (by decide))))
  refine g_iload C X539 d0_312 rfl (g_bipush 8 C X539 d0_314 rfl (g_icmpn (hI_le _ _) C X539 d0_316 (fun _ => ?_) (fun q => absurd q (by decide))))
  refine g_iload C X539 d0_339 rfl (g_iconst 3 C X539 d0_341 rfl (g_icmpn (hI_ne _ _) C X539 d0_342 (fun c342_540 => ?_) (fun c342_540 => ?_)))
  · refine g_new C X539 (wd hw 80 rfl) (wd hw 2 rfl) (wd hw 1 rfl) d0_349 (by decide) (by decide) (fun T541 h541 b541 g_b541 n_b541 X541 E541 A541 D541 M541 => ?_)
    have f542 := (Exa.wr W539 f534)
    have lt543 : bs < b541 := by rw [g_b541]; exact Exa.lt f542
    have f544 := (Arv.other f537 W539 (Nat.ne_of_lt lt503))
    have lt545 : bt < b541 := by rw [g_b541]; exact Arv.lt f544
    have lt546 : b501 < b541 := by rw [g_b541]; exact Arv.lt V539_b501
    have F_value_b541 : Fld Z h541 b541 "java/lang/String" "value" "[B" .null := D541 (Or.inr (wd hw 4 rfl)) (ty := (.array .byte)) (by decide)
    have F_coder_b541 : Fld Z h541 b541 "java/lang/String" "coder" "B" (.int 0) := D541 (Or.inr (wd hw 5 rfl)) (ty := .byte) (by decide)
    refine g_dup C X541 d0_352 rfl (g_aload C X541 d0_353 rfl rfl ?_)
    have hp547 : ∀ c ∈ [x508_, x514_, x520_, x526_, x532_, x538_], ¬ c < 0 ∧ ¬ (255 : Int32) < c := (List.forall_mem_cons.mpr ⟨lx508, (List.forall_mem_cons.mpr ⟨lx514, (List.forall_mem_cons.mpr ⟨lx520, (List.forall_mem_cons.mpr ⟨lx526, (List.forall_mem_cons.mpr ⟨lx532, (List.forall_mem_cons.mpr ⟨lx538, (fun _ q => nomatch q)⟩)⟩)⟩)⟩)⟩)⟩)
    have f549 := (Arv.ext V539_b501 E541)
    refine g_special (argsL := [(.ref b501)]) (st := [(.ref b541)]) C X541 rfl (wd hw 81 rfl) (wd hw 82 rfl) (wd hw 83 rfl) (by decide) (payV (W' := 1) (cs := [x508_, x514_, x520_, x526_, x532_, x538_]) (n := 6) C.hZ X541.ext (own_words hw) (kI := 4) (wd hw 2 rfl) n_b541 A541 F_value_b541 F_coder_b541 f549 SZ hz rfl rfl (by decide) (by decide) hp547 (by decide) (by decide)) pd_5 rfl rfl _ rfl (Nat.le_of_eq rfl) d0_355 (by decide) (by decide) (fun T548 h548 v548 q548 X548 => ?_)
    obtain ⟨rfl, K548, EX548, FC548, t548, k_t548, nt0_548, gt548, nt548, FV548, VT548⟩ := q548
    have f551 := (Exa.ext E541 f542)
    have lt550 : bs < t548 := Nat.lt_of_lt_of_le (Exa.lt f551) gt548
    have f553 := (Arv.ext f544 E541)
    have lt552 : bt < t548 := Nat.lt_of_lt_of_le (Arv.lt f553) gt548
    have lt554 : b501 < t548 := Nat.lt_of_lt_of_le (Arv.lt f549) gt548
    have lt555 : b541 < t548 := Nat.lt_of_lt_of_le (Exa.lt A541) gt548
    show Goes p e below _ T548 (mkF m 358 #[.val (.int p0), .val (.int p1), .val (.int p2), .val (.int p3), .val (.int p4), s5, .val (.ref bs), .val (.int n), .val (.int kd), .val (.int rp), .val (.int pp), .val (.int ch), .val (.int 6), .val (.ref b501), .unset, .unset, .unset] [(.ref b541)])
    refine g_astore C X548 d0_358 rfl (l' := #[.val (.int p0), .val (.int p1), .val (.int p2), .val (.int p3), .val (.int p4), s5, .val (.ref bs), .val (.int n), .val (.int kd), .val (.int rp), .val (.int pp), .val (.int ch), .val (.int 6), .val (.ref b501), .val (.ref b541), .unset, .unset]) rfl ?_
    have sz556 : h.size ≤ b501 := by rw [g_b501]; exact (Keep.refl h []).1
    have kp557 := (Keep.refl h []).ext E501
    have kp558 := kp557.wr W509 (Or.inr sz556)
    have kp559 := kp558.wr W515 (Or.inr sz556)
    have kp560 := kp559.wr W521 (Or.inr sz556)
    have kp561 := kp560.wr W527 (Or.inr sz556)
    have kp562 := kp561.wr W533 (Or.inr sz556)
    have kp563 := kp562.wr W539 (Or.inr sz556)
    have sz564 : h.size ≤ b541 := by rw [g_b541]; exact kp563.1
    have kp565 := kp563.ext E541
    have kp566 := kp565.trans K548 (allS (Or.inr sz564) all0)
    have I567 := Lits.keep I0 kp566 sf0
    have f568 := (Arv.keep f549 K548 (ninS (Nat.ne_of_lt lt546) nin0))
    have Y569 := X548.more (cells' := 12) (slots' := 200) (by decide) (by decide)
    exact segS hw (.val (.int p0)) (.val (.int p1)) (.val (.int p2)) (.val (.int p3)) (.val (.int p4)) (s5) (.val (.ref bs)) (.val (.int n)) (.val (.int kd)) (.val (.int rp)) (.val (.int pp)) (.val (.int ch)) (.val (.int 6)) (.val (.ref b501)) p_1 p_7 p_11 p_15 p_19 p_23 p_27 p_31 p_35 p_40 p_46 p_52 p_58 k_64 k_66 k_68 k_70 k_72 z_ SZ hz b541 t548 _ _ _ [x508_, x514_, x520_, x526_, x532_, x538_] C Y569 I567 S_3 E_6 S_9 E_10 S_13 E_14 S_17 E_18 S_21 E_22 F_25 E_26 F_29 E_30 F_33 E_34 F_37 E_38 F_39 F_42 F_45 F_48 F_51 F_54 F_57 F_60 V_63 V_65 V_67 V_69 V_71 EX548 FC548 FV548 VT548 (own_cod rfl rfl hp547) hp547 (Nat.le_of_ble_eq_true rfl)
  · refine g_aconst_null C X539 d0_345 (g_goto C X539 d0_346 (g_astore C X539 d0_358 rfl (l' := #[.val (.int p0), .val (.int p1), .val (.int p2), .val (.int p3), .val (.int p4), s5, .val (.ref bs), .val (.int n), .val (.int kd), .val (.int rp), .val (.int pp), .val (.int ch), .val (.int 6), .val (.ref b501), .val .null, .unset, .unset]) rfl ?_))
    have sz570 : h.size ≤ b501 := by rw [g_b501]; exact (Keep.refl h []).1
    have kp571 := (Keep.refl h []).ext E501
    have kp572 := kp571.wr W509 (Or.inr sz570)
    have kp573 := kp572.wr W515 (Or.inr sz570)
    have kp574 := kp573.wr W521 (Or.inr sz570)
    have kp575 := kp574.wr W527 (Or.inr sz570)
    have kp576 := kp575.wr W533 (Or.inr sz570)
    have kp577 := kp576.wr W539 (Or.inr sz570)
    have I578 := Lits.keep I0 kp577 sf0
    have Y579 := X539.more (cells' := 12) (slots' := 200) (by decide) (by decide)
    exact segN hw (.val (.int p0)) (.val (.int p1)) (.val (.int p2)) (.val (.int p3)) (.val (.int p4)) (s5) (.val (.ref bs)) (.val (.int n)) (.val (.int kd)) (.val (.int rp)) (.val (.int pp)) (.val (.int ch)) (.val (.int 6)) (.val (.ref b501)) p_1 p_7 p_11 p_15 p_19 p_23 p_27 p_31 p_35 p_40 p_46 p_52 p_58 k_64 k_66 k_68 k_70 k_72 z_ SZ hz C Y579 I578 S_3 E_6 S_9 E_10 S_13 E_14 S_17 E_18 S_21 E_22 F_25 E_26 F_29 E_30 F_33 E_34 F_37 E_38 F_39 F_42 F_45 F_48 F_51 F_54 F_57 F_60 V_63 V_65 V_67 V_69 V_71
theorem d0_265 : Dc code 265 (.aload 13) 2 267 := ⟨at_265, rfl⟩
theorem d0_267 : Dc code 267 (.bipush 6) 2 269 := ⟨at_267, rfl⟩
theorem d0_269 : Dc code 269 (.aload 6) 2 271 := ⟨at_269, rfl⟩
theorem d0_271 : Dc code 271 (.iload 7) 2 273 := ⟨at_271, rfl⟩
theorem d0_273 : Dc code 273 (.bipush 6) 2 275 := ⟨at_273, rfl⟩
theorem d0_275 : Dc code 275 (.iload 9) 2 277 := ⟨at_275, rfl⟩
theorem d0_277 : Dc code 277 (.iload 10) 2 279 := ⟨at_277, rfl⟩
theorem d0_279 : Dc code 279 (.iload 11) 2 281 := ⟨at_279, rfl⟩
theorem d0_281 : Dc code 281 (.invokestatic 26) 3 284 := ⟨at_281, rfl⟩
theorem d0_284 : Dc code 284 (.castore) 1 285 := ⟨at_284, rfl⟩
theorem segL7 {p : Program} {l : Launch} {e : Env} {s : State} {m : MethodId} {A : Array Value} {below : List Frame} {meth : Method} {c : Code} {Z : State} {a0 : Array Value} (hw : ∀ d ∈ tables_1, d.before a0 Z = true) {T0 : State} {h : Heap} {vm0 : Vm} (p0 p1 p2 p3 p4 : Int32) (s5 : Slot) (n kd rp pp ch : Int32) (p_1 p_7 p_11 p_15 p_19 p_23 p_27 p_31 p_35 p_40 p_46 p_52 p_58 : Addr) (k_64 k_66 k_68 k_70 k_72 : ClassId) (z_ : Int32) (SZ : Sta Z Z.heap "java/lang/String" "COMPACT_STRINGS" "Z" (.int z_)) (hz : ¬ z_ = 0) (fm_ : Value) (SF : Sta Z Z.heap "jdk/internal/util/Preconditions" "SIOOBE_FORMATTER" "Ljava/util/function/BiFunction;" fm_) (rf_ : fm_.isRef = true) (bs : Addr) (bt : Addr) (bk : ClassId) (bN : Int32) (bv : List Value) (bc : List Int32) (C : Cx p (s.setVm vm0) m meth c Z "com/example/indie_lease/indielease/model/LicenseStatusOfCodePinLaw" "law" code maxLocals ret) (X0 : St p l e room_1 (s.setVm vm0) m A below meth c Z T0 h 2 36) (I0 : Lits Z consts_1 s vm0 h) (S_3 : Sta Z Z.heap "com/example/indie_lease/indielease/model/LicenseStatus" "$VALUES" "[Lcom/example/indie_lease/indielease/model/LicenseStatus;" (.ref p_1)) (E_6 : Exa Z Z.heap p_1 "[Lcom/example/indie_lease/indielease/model/LicenseStatus;") (S_9 : Sta Z Z.heap "com/example/indie_lease/indielease/model/LicenseStatus" "ACTIVE" "Lcom/example/indie_lease/indielease/model/LicenseStatus;" (.ref p_7)) (E_10 : Exa Z Z.heap p_7 "com/example/indie_lease/indielease/model/LicenseStatus") (S_13 : Sta Z Z.heap "com/example/indie_lease/indielease/model/LicenseStatus" "FALLBACK" "Lcom/example/indie_lease/indielease/model/LicenseStatus;" (.ref p_11)) (E_14 : Exa Z Z.heap p_11 "com/example/indie_lease/indielease/model/LicenseStatus") (S_17 : Sta Z Z.heap "com/example/indie_lease/indielease/model/LicenseStatus" "EXPIRED" "Lcom/example/indie_lease/indielease/model/LicenseStatus;" (.ref p_15)) (E_18 : Exa Z Z.heap p_15 "com/example/indie_lease/indielease/model/LicenseStatus") (S_21 : Sta Z Z.heap "com/example/indie_lease/indielease/model/LicenseStatus" "REVOKED" "Lcom/example/indie_lease/indielease/model/LicenseStatus;" (.ref p_19)) (E_22 : Exa Z Z.heap p_19 "com/example/indie_lease/indielease/model/LicenseStatus") (F_25 : Fld Z Z.heap p_7 "com/example/indie_lease/indielease/model/LicenseStatus" "code" "Ljava/lang/String;" (.ref p_23)) (E_26 : Exa Z Z.heap p_23 "java/lang/String") (F_29 : Fld Z Z.heap p_11 "com/example/indie_lease/indielease/model/LicenseStatus" "code" "Ljava/lang/String;" (.ref p_27)) (E_30 : Exa Z Z.heap p_27 "java/lang/String") (F_33 : Fld Z Z.heap p_15 "com/example/indie_lease/indielease/model/LicenseStatus" "code" "Ljava/lang/String;" (.ref p_31)) (E_34 : Exa Z Z.heap p_31 "java/lang/String") (F_37 : Fld Z Z.heap p_19 "com/example/indie_lease/indielease/model/LicenseStatus" "code" "Ljava/lang/String;" (.ref p_35)) (E_38 : Exa Z Z.heap p_35 "java/lang/String") (F_39 : Fld Z Z.heap p_23 "java/lang/String" "coder" "B" (.int 0)) (F_42 : Fld Z Z.heap p_23 "java/lang/String" "value" "[B" (.ref p_40)) (F_45 : Fld Z Z.heap p_27 "java/lang/String" "coder" "B" (.int 0)) (F_48 : Fld Z Z.heap p_27 "java/lang/String" "value" "[B" (.ref p_46)) (F_51 : Fld Z Z.heap p_31 "java/lang/String" "coder" "B" (.int 0)) (F_54 : Fld Z Z.heap p_31 "java/lang/String" "value" "[B" (.ref p_52)) (F_57 : Fld Z Z.heap p_35 "java/lang/String" "coder" "B" (.int 0)) (F_60 : Fld Z Z.heap p_35 "java/lang/String" "value" "[B" (.ref p_58)) (V_63 : Arv Z Z.heap p_1 k_64 (.object "com/example/indie_lease/indielease/model/LicenseStatus") 4 [(.ref p_7), (.ref p_11), (.ref p_15), (.ref p_19)] .null) (V_65 : Arv Z Z.heap p_40 k_66 .byte 6 [(.int 97), (.int 99), (.int 116), (.int 105), (.int 118), (.int 101)] (.int 0)) (V_67 : Arv Z Z.heap p_46 k_68 .byte 8 [(.int 102), (.int 97), (.int 108), (.int 108), (.int 98), (.int 97), (.int 99), (.int 107)] (.int 0)) (V_69 : Arv Z Z.heap p_52 k_70 .byte 7 [(.int 101), (.int 120), (.int 112), (.int 105), (.int 114), (.int 101), (.int 100)] (.int 0)) (V_71 : Arv Z Z.heap p_58 k_72 .byte 7 [(.int 114), (.int 101), (.int 118), (.int 111), (.int 107), (.int 101), (.int 100)] (.int 0)) (bEX : Exa Z h bs "java/lang/String") (bFC : Fld Z h bs "java/lang/String" "coder" "B" (.int (0 : Int32))) (bFV : Fld Z h bs "java/lang/String" "value" "[B" (.ref bt)) (bVT : Arv Z h bt bk .byte bN bv (.int (0 : Int32))) (bhc : StrChars.Road.CodA bc 0 bN bv) (bhs : ∀ c ∈ bc, ¬ c < 0 ∧ ¬ (255 : Int32) < c) (bhl : bc.length ≤ 4000) (hn : Int32.ofNat bc.length = n) (hc : ¬ ch < 0 ∧ ¬ (255 : Int32) < ch) :
    Goes p e below (EndL Z consts_1 s 32 5312 (fun v' h' => v' = some (.int 1))) T0 (mkF m 109 #[.val (.int p0), .val (.int p1), .val (.int p2), .val (.int p3), .val (.int p4), s5, .val (.ref bs), .val (.int n), .val (.int kd), .val (.int rp), .val (.int pp), .val (.int ch), .val (.int 7), .unset, .unset, .unset, .unset] []) := by
  refine g_iload C X0 d0_109 rfl (g_newarray C X0 (wd hw 22 rfl) d0_111 (by decide) 7 7 (by decide) (by decide) (by decide) (by decide) (fun T580 h580 b580 k_b580 g_b580 n_b580 X580 E580 V580 => ?_))
  have lt581 : bs < b580 := by rw [g_b580]; exact Exa.lt bEX
  have lt582 : bt < b580 := by rw [g_b580]; exact Arv.lt bVT
  have V_b580 : Arv Z h580 b580 k_b580 .char (7 : Int32) [(.int 0), (.int 0), (.int 0), (.int 0), (.int 0), (.int 0), (.int 0)] (.int 0) := V580
  refine g_astore C X580 d0_113 rfl (l' := #[.val (.int p0), .val (.int p1), .val (.int p2), .val (.int p3), .val (.int p4), s5, .val (.ref bs), .val (.int n), .val (.int kd), .val (.int rp), .val (.int pp), .val (.int ch), .val (.int 7), .val (.ref b580), .unset, .unset, .unset]) rfl (g_iload C X580 d0_115 rfl (g_ifn (h0_le _) C X580 d0_117 (fun q => absurd (by decide) q) (fun _ => ?_)))
  refine g_aload C X580 d0_120 rfl rfl (g_iconst 0 C X580 d0_122 rfl (g_aload C X580 d0_123 rfl rfl (g_iload C X580 d0_125 rfl (g_iconst 0 C X580 d0_127 rfl (g_iload C X580 d0_128 rfl (g_iload C X580 d0_130 rfl (g_iload C X580 d0_132 rfl ?_)))))))
  have f583 := (Exa.ext E580 bEX)
  have f584 := (Fld.ext E580 bFV)
  have f585 := (Fld.ext E580 bFC)
  have f586 := (Arv.ext bVT E580)
  refine g_static (argsL := [(.ref bs), (.int n), (.int 0), (.int rp), (.int pp), (.int ch)]) (st := [(.int 0), (.ref b580)]) C X580 (wd hw 23 rfl) (wd hw 24 rfl) (wd hw 25 rfl) (wd hw 26 rfl) (by decide) (pay_of (W' := 2) (rpk0 l hw X580.ext bs n rp pp ch z_ SZ hz fm_ SF rf_ bt _ _ _ bc f583 f585 f584 f586 bhc bhs bhl hn hc) C.hZ (wd hw 26 rfl) (wd hw 25 rfl) (by decide) (by decide)) pd_6 rfl rfl _ rfl (Nat.le_of_eq rfl) d0_134 (by decide) (by decide) (fun T587 h587 v587 q587 X587 => ?_)
  obtain ⟨x587_, rfl, lx587, e587⟩ := q587
  subst e587
  show Goes p e below _ T587 (mkF m 137 #[.val (.int p0), .val (.int p1), .val (.int p2), .val (.int p3), .val (.int p4), s5, .val (.ref bs), .val (.int n), .val (.int kd), .val (.int rp), .val (.int pp), .val (.int ch), .val (.int 7), .val (.ref b580), .unset, .unset, .unset] [(.int x587_), (.int 0), (.ref b580)])
  refine g_castore C X587 V_b580 n_b580 d0_137 (by decide) (by decide) (Nat.le_of_ble_eq_true rfl) (.int x587_) (own_nar lx587) (fun T588 h588 X588 W588 V588 => ?_)
  have V588_b580 : Arv Z h588 b580 k_b580 .char (7 : Int32) [(.int x587_), (.int 0), (.int 0), (.int 0), (.int 0), (.int 0), (.int 0)] (.int 0) := V588
  refine g_iload C X588 d0_138 rfl (g_iconst 1 C X588 d0_140 rfl (g_icmpn (hI_le _ _) C X588 d0_141 (fun q => absurd (by decide) q) (fun _ => ?_)))
  refine g_aload C X588 d0_144 rfl rfl (g_iconst 1 C X588 d0_146 rfl (g_aload C X588 d0_147 rfl rfl (g_iload C X588 d0_149 rfl (g_iconst 1 C X588 d0_151 rfl (g_iload C X588 d0_152 rfl (g_iload C X588 d0_154 rfl (g_iload C X588 d0_156 rfl ?_)))))))
  have f589 := (Exa.wr W588 f583)
  have f590 := (Fld.other W588 f584 (Or.inl (Nat.ne_of_lt lt581)))
  have f591 := (Fld.other W588 f585 (Or.inl (Nat.ne_of_lt lt581)))
  have f592 := (Arv.other f586 W588 (Nat.ne_of_lt lt582))
  refine g_static (argsL := [(.ref bs), (.int n), (.int 1), (.int rp), (.int pp), (.int ch)]) (st := [(.int 1), (.ref b580)]) C X588 (wd hw 23 rfl) (wd hw 24 rfl) (wd hw 25 rfl) (wd hw 26 rfl) (by decide) (pay_of (W' := 2) (rpk1 l hw X588.ext bs n rp pp ch z_ SZ hz fm_ SF rf_ bt _ _ _ bc f589 f591 f590 f592 bhc bhs bhl hn hc) C.hZ (wd hw 26 rfl) (wd hw 25 rfl) (by decide) (by decide)) pd_6 rfl rfl _ rfl (Nat.le_of_eq rfl) d0_158 (by decide) (by decide) (fun T593 h593 v593 q593 X593 => ?_)
  obtain ⟨x593_, rfl, lx593, e593⟩ := q593
  subst e593
  show Goes p e below _ T593 (mkF m 161 #[.val (.int p0), .val (.int p1), .val (.int p2), .val (.int p3), .val (.int p4), s5, .val (.ref bs), .val (.int n), .val (.int kd), .val (.int rp), .val (.int pp), .val (.int ch), .val (.int 7), .val (.ref b580), .unset, .unset, .unset] [(.int x593_), (.int 1), (.ref b580)])
  refine g_castore C X593 V588_b580 n_b580 d0_161 (by decide) (by decide) (Nat.le_of_ble_eq_true rfl) (.int x593_) (own_nar lx593) (fun T594 h594 X594 W594 V594 => ?_)
  have V594_b580 : Arv Z h594 b580 k_b580 .char (7 : Int32) [(.int x587_), (.int x593_), (.int 0), (.int 0), (.int 0), (.int 0), (.int 0)] (.int 0) := V594
  refine g_iload C X594 d0_162 rfl (g_iconst 2 C X594 d0_164 rfl (g_icmpn (hI_le _ _) C X594 d0_165 (fun q => absurd (by decide) q) (fun _ => ?_)))
  refine g_aload C X594 d0_168 rfl rfl (g_iconst 2 C X594 d0_170 rfl (g_aload C X594 d0_171 rfl rfl (g_iload C X594 d0_173 rfl (g_iconst 2 C X594 d0_175 rfl (g_iload C X594 d0_176 rfl (g_iload C X594 d0_178 rfl (g_iload C X594 d0_180 rfl ?_)))))))
  have f595 := (Exa.wr W594 f589)
  have f596 := (Fld.other W594 f590 (Or.inl (Nat.ne_of_lt lt581)))
  have f597 := (Fld.other W594 f591 (Or.inl (Nat.ne_of_lt lt581)))
  have f598 := (Arv.other f592 W594 (Nat.ne_of_lt lt582))
  refine g_static (argsL := [(.ref bs), (.int n), (.int 2), (.int rp), (.int pp), (.int ch)]) (st := [(.int 2), (.ref b580)]) C X594 (wd hw 23 rfl) (wd hw 24 rfl) (wd hw 25 rfl) (wd hw 26 rfl) (by decide) (pay_of (W' := 2) (rpk2 l hw X594.ext bs n rp pp ch z_ SZ hz fm_ SF rf_ bt _ _ _ bc f595 f597 f596 f598 bhc bhs bhl hn hc) C.hZ (wd hw 26 rfl) (wd hw 25 rfl) (by decide) (by decide)) pd_6 rfl rfl _ rfl (Nat.le_of_eq rfl) d0_182 (by decide) (by decide) (fun T599 h599 v599 q599 X599 => ?_)
  obtain ⟨x599_, rfl, lx599, e599⟩ := q599
  subst e599
  show Goes p e below _ T599 (mkF m 185 #[.val (.int p0), .val (.int p1), .val (.int p2), .val (.int p3), .val (.int p4), s5, .val (.ref bs), .val (.int n), .val (.int kd), .val (.int rp), .val (.int pp), .val (.int ch), .val (.int 7), .val (.ref b580), .unset, .unset, .unset] [(.int x599_), (.int 2), (.ref b580)])
  refine g_castore C X599 V594_b580 n_b580 d0_185 (by decide) (by decide) (Nat.le_of_ble_eq_true rfl) (.int x599_) (own_nar lx599) (fun T600 h600 X600 W600 V600 => ?_)
  have V600_b580 : Arv Z h600 b580 k_b580 .char (7 : Int32) [(.int x587_), (.int x593_), (.int x599_), (.int 0), (.int 0), (.int 0), (.int 0)] (.int 0) := V600
  refine g_iload C X600 d0_186 rfl (g_iconst 3 C X600 d0_188 rfl (g_icmpn (hI_le _ _) C X600 d0_189 (fun q => absurd (by decide) q) (fun _ => ?_)))
  refine g_aload C X600 d0_192 rfl rfl (g_iconst 3 C X600 d0_194 rfl (g_aload C X600 d0_195 rfl rfl (g_iload C X600 d0_197 rfl (g_iconst 3 C X600 d0_199 rfl (g_iload C X600 d0_200 rfl (g_iload C X600 d0_202 rfl (g_iload C X600 d0_204 rfl ?_)))))))
  have f601 := (Exa.wr W600 f595)
  have f602 := (Fld.other W600 f596 (Or.inl (Nat.ne_of_lt lt581)))
  have f603 := (Fld.other W600 f597 (Or.inl (Nat.ne_of_lt lt581)))
  have f604 := (Arv.other f598 W600 (Nat.ne_of_lt lt582))
  refine g_static (argsL := [(.ref bs), (.int n), (.int 3), (.int rp), (.int pp), (.int ch)]) (st := [(.int 3), (.ref b580)]) C X600 (wd hw 23 rfl) (wd hw 24 rfl) (wd hw 25 rfl) (wd hw 26 rfl) (by decide) (pay_of (W' := 2) (rpk3 l hw X600.ext bs n rp pp ch z_ SZ hz fm_ SF rf_ bt _ _ _ bc f601 f603 f602 f604 bhc bhs bhl hn hc) C.hZ (wd hw 26 rfl) (wd hw 25 rfl) (by decide) (by decide)) pd_6 rfl rfl _ rfl (Nat.le_of_eq rfl) d0_206 (by decide) (by decide) (fun T605 h605 v605 q605 X605 => ?_)
  obtain ⟨x605_, rfl, lx605, e605⟩ := q605
  subst e605
  show Goes p e below _ T605 (mkF m 209 #[.val (.int p0), .val (.int p1), .val (.int p2), .val (.int p3), .val (.int p4), s5, .val (.ref bs), .val (.int n), .val (.int kd), .val (.int rp), .val (.int pp), .val (.int ch), .val (.int 7), .val (.ref b580), .unset, .unset, .unset] [(.int x605_), (.int 3), (.ref b580)])
  refine g_castore C X605 V600_b580 n_b580 d0_209 (by decide) (by decide) (Nat.le_of_ble_eq_true rfl) (.int x605_) (own_nar lx605) (fun T606 h606 X606 W606 V606 => ?_)
  have V606_b580 : Arv Z h606 b580 k_b580 .char (7 : Int32) [(.int x587_), (.int x593_), (.int x599_), (.int x605_), (.int 0), (.int 0), (.int 0)] (.int 0) := V606
  refine g_iload C X606 d0_210 rfl (g_iconst 4 C X606 d0_212 rfl (g_icmpn (hI_le _ _) C X606 d0_213 (fun q => absurd (by decide) q) (fun _ => ?_)))
  refine g_aload C X606 d0_216 rfl rfl (g_iconst 4 C X606 d0_218 rfl (g_aload C X606 d0_219 rfl rfl (g_iload C X606 d0_221 rfl (g_iconst 4 C X606 d0_223 rfl (g_iload C X606 d0_224 rfl (g_iload C X606 d0_226 rfl (g_iload C X606 d0_228 rfl ?_)))))))
  have f607 := (Exa.wr W606 f601)
  have f608 := (Fld.other W606 f602 (Or.inl (Nat.ne_of_lt lt581)))
  have f609 := (Fld.other W606 f603 (Or.inl (Nat.ne_of_lt lt581)))
  have f610 := (Arv.other f604 W606 (Nat.ne_of_lt lt582))
  refine g_static (argsL := [(.ref bs), (.int n), (.int 4), (.int rp), (.int pp), (.int ch)]) (st := [(.int 4), (.ref b580)]) C X606 (wd hw 23 rfl) (wd hw 24 rfl) (wd hw 25 rfl) (wd hw 26 rfl) (by decide) (pay_of (W' := 2) (rpk4 l hw X606.ext bs n rp pp ch z_ SZ hz fm_ SF rf_ bt _ _ _ bc f607 f609 f608 f610 bhc bhs bhl hn hc) C.hZ (wd hw 26 rfl) (wd hw 25 rfl) (by decide) (by decide)) pd_6 rfl rfl _ rfl (Nat.le_of_eq rfl) d0_230 (by decide) (by decide) (fun T611 h611 v611 q611 X611 => ?_)
  obtain ⟨x611_, rfl, lx611, e611⟩ := q611
  subst e611
  show Goes p e below _ T611 (mkF m 233 #[.val (.int p0), .val (.int p1), .val (.int p2), .val (.int p3), .val (.int p4), s5, .val (.ref bs), .val (.int n), .val (.int kd), .val (.int rp), .val (.int pp), .val (.int ch), .val (.int 7), .val (.ref b580), .unset, .unset, .unset] [(.int x611_), (.int 4), (.ref b580)])
  refine g_castore C X611 V606_b580 n_b580 d0_233 (by decide) (by decide) (Nat.le_of_ble_eq_true rfl) (.int x611_) (own_nar lx611) (fun T612 h612 X612 W612 V612 => ?_)
  have V612_b580 : Arv Z h612 b580 k_b580 .char (7 : Int32) [(.int x587_), (.int x593_), (.int x599_), (.int x605_), (.int x611_), (.int 0), (.int 0)] (.int 0) := V612
  refine g_iload C X612 d0_234 rfl (g_iconst 5 C X612 d0_236 rfl (g_icmpn (hI_le _ _) C X612 d0_237 (fun q => absurd (by decide) q) (fun _ => ?_)))
  refine g_aload C X612 d0_240 rfl rfl (g_iconst 5 C X612 d0_242 rfl (g_aload C X612 d0_243 rfl rfl (g_iload C X612 d0_245 rfl (g_iconst 5 C X612 d0_247 rfl (g_iload C X612 d0_248 rfl (g_iload C X612 d0_250 rfl (g_iload C X612 d0_252 rfl ?_)))))))
  have f613 := (Exa.wr W612 f607)
  have f614 := (Fld.other W612 f608 (Or.inl (Nat.ne_of_lt lt581)))
  have f615 := (Fld.other W612 f609 (Or.inl (Nat.ne_of_lt lt581)))
  have f616 := (Arv.other f610 W612 (Nat.ne_of_lt lt582))
  refine g_static (argsL := [(.ref bs), (.int n), (.int 5), (.int rp), (.int pp), (.int ch)]) (st := [(.int 5), (.ref b580)]) C X612 (wd hw 23 rfl) (wd hw 24 rfl) (wd hw 25 rfl) (wd hw 26 rfl) (by decide) (pay_of (W' := 2) (rpk5 l hw X612.ext bs n rp pp ch z_ SZ hz fm_ SF rf_ bt _ _ _ bc f613 f615 f614 f616 bhc bhs bhl hn hc) C.hZ (wd hw 26 rfl) (wd hw 25 rfl) (by decide) (by decide)) pd_6 rfl rfl _ rfl (Nat.le_of_eq rfl) d0_254 (by decide) (by decide) (fun T617 h617 v617 q617 X617 => ?_)
  obtain ⟨x617_, rfl, lx617, e617⟩ := q617
  subst e617
  show Goes p e below _ T617 (mkF m 257 #[.val (.int p0), .val (.int p1), .val (.int p2), .val (.int p3), .val (.int p4), s5, .val (.ref bs), .val (.int n), .val (.int kd), .val (.int rp), .val (.int pp), .val (.int ch), .val (.int 7), .val (.ref b580), .unset, .unset, .unset] [(.int x617_), (.int 5), (.ref b580)])
  refine g_castore C X617 V612_b580 n_b580 d0_257 (by decide) (by decide) (Nat.le_of_ble_eq_true rfl) (.int x617_) (own_nar lx617) (fun T618 h618 X618 W618 V618 => ?_)
  have V618_b580 : Arv Z h618 b580 k_b580 .char (7 : Int32) [(.int x587_), (.int x593_), (.int x599_), (.int x605_), (.int x611_), (.int x617_), (.int 0)] (.int 0) := V618
  refine g_iload C X618 d0_258 rfl (g_bipush 6 C X618 d0_260 rfl (g_icmpn (hI_le _ _) C X618 d0_262 (fun q => absurd (by decide) q) (fun _ => ?_)))
  refine g_aload C X618 d0_265 rfl rfl (g_bipush 6 C X618 d0_267 rfl (g_aload C X618 d0_269 rfl rfl (g_iload C X618 d0_271 rfl (g_bipush 6 C X618 d0_273 rfl (g_iload C X618 d0_275 rfl (g_iload C X618 d0_277 rfl (g_iload C X618 d0_279 rfl ?_)))))))
  have f619 := (Exa.wr W618 f613)
  have f620 := (Fld.other W618 f614 (Or.inl (Nat.ne_of_lt lt581)))
  have f621 := (Fld.other W618 f615 (Or.inl (Nat.ne_of_lt lt581)))
  have f622 := (Arv.other f616 W618 (Nat.ne_of_lt lt582))
  refine g_static (argsL := [(.ref bs), (.int n), (.int 6), (.int rp), (.int pp), (.int ch)]) (st := [(.int 6), (.ref b580)]) C X618 (wd hw 23 rfl) (wd hw 24 rfl) (wd hw 25 rfl) (wd hw 26 rfl) (by decide) (pay_of (W' := 2) (rpk6 l hw X618.ext bs n rp pp ch z_ SZ hz fm_ SF rf_ bt _ _ _ bc f619 f621 f620 f622 bhc bhs bhl hn hc) C.hZ (wd hw 26 rfl) (wd hw 25 rfl) (by decide) (by decide)) pd_6 rfl rfl _ rfl (Nat.le_of_eq rfl) d0_281 (by decide) (by decide) (fun T623 h623 v623 q623 X623 => ?_)
  obtain ⟨x623_, rfl, lx623, e623⟩ := q623
  subst e623
  show Goes p e below _ T623 (mkF m 284 #[.val (.int p0), .val (.int p1), .val (.int p2), .val (.int p3), .val (.int p4), s5, .val (.ref bs), .val (.int n), .val (.int kd), .val (.int rp), .val (.int pp), .val (.int ch), .val (.int 7), .val (.ref b580), .unset, .unset, .unset] [(.int x623_), (.int 6), (.ref b580)])
  refine g_castore C X623 V618_b580 n_b580 d0_284 (by decide) (by decide) (Nat.le_of_ble_eq_true rfl) (.int x623_) (own_nar lx623) (fun T624 h624 X624 W624 V624 => ?_)
  have V624_b580 : Arv Z h624 b580 k_b580 .char (7 : Int32) [(.int x587_), (.int x593_), (.int x599_), (.int x605_), (.int x611_), (.int x617_), (.int x623_)] (.int 0) := V624
  refine g_iload C X624 d0_285 rfl (g_bipush 7 C X624 d0_287 rfl (g_icmpn (hI_le _ _) C X624 d0_289 (fun _ => ?_) (fun q => absurd q (by decide))))
  refine g_iload C X624 d0_312 rfl (g_bipush 8 C X624 d0_314 rfl (g_icmpn (hI_le _ _) C X624 d0_316 (fun _ => ?_) (fun q => absurd q (by decide))))
  refine g_iload C X624 d0_339 rfl (g_iconst 3 C X624 d0_341 rfl (g_icmpn (hI_ne _ _) C X624 d0_342 (fun c342_625 => ?_) (fun c342_625 => ?_)))
  · refine g_new C X624 (wd hw 80 rfl) (wd hw 2 rfl) (wd hw 1 rfl) d0_349 (by decide) (by decide) (fun T626 h626 b626 g_b626 n_b626 X626 E626 A626 D626 M626 => ?_)
    have f627 := (Exa.wr W624 f619)
    have lt628 : bs < b626 := by rw [g_b626]; exact Exa.lt f627
    have f629 := (Arv.other f622 W624 (Nat.ne_of_lt lt582))
    have lt630 : bt < b626 := by rw [g_b626]; exact Arv.lt f629
    have lt631 : b580 < b626 := by rw [g_b626]; exact Arv.lt V624_b580
    have F_value_b626 : Fld Z h626 b626 "java/lang/String" "value" "[B" .null := D626 (Or.inr (wd hw 4 rfl)) (ty := (.array .byte)) (by decide)
    have F_coder_b626 : Fld Z h626 b626 "java/lang/String" "coder" "B" (.int 0) := D626 (Or.inr (wd hw 5 rfl)) (ty := .byte) (by decide)
    refine g_dup C X626 d0_352 rfl (g_aload C X626 d0_353 rfl rfl ?_)
    have hp632 : ∀ c ∈ [x587_, x593_, x599_, x605_, x611_, x617_, x623_], ¬ c < 0 ∧ ¬ (255 : Int32) < c := (List.forall_mem_cons.mpr ⟨lx587, (List.forall_mem_cons.mpr ⟨lx593, (List.forall_mem_cons.mpr ⟨lx599, (List.forall_mem_cons.mpr ⟨lx605, (List.forall_mem_cons.mpr ⟨lx611, (List.forall_mem_cons.mpr ⟨lx617, (List.forall_mem_cons.mpr ⟨lx623, (fun _ q => nomatch q)⟩)⟩)⟩)⟩)⟩)⟩)⟩)
    have f634 := (Arv.ext V624_b580 E626)
    refine g_special (argsL := [(.ref b580)]) (st := [(.ref b626)]) C X626 rfl (wd hw 81 rfl) (wd hw 82 rfl) (wd hw 83 rfl) (by decide) (payV (W' := 1) (cs := [x587_, x593_, x599_, x605_, x611_, x617_, x623_]) (n := 7) C.hZ X626.ext (own_words hw) (kI := 4) (wd hw 2 rfl) n_b626 A626 F_value_b626 F_coder_b626 f634 SZ hz rfl rfl (by decide) (by decide) hp632 (by decide) (by decide)) pd_5 rfl rfl _ rfl (Nat.le_of_eq rfl) d0_355 (by decide) (by decide) (fun T633 h633 v633 q633 X633 => ?_)
    obtain ⟨rfl, K633, EX633, FC633, t633, k_t633, nt0_633, gt633, nt633, FV633, VT633⟩ := q633
    have f636 := (Exa.ext E626 f627)
    have lt635 : bs < t633 := Nat.lt_of_lt_of_le (Exa.lt f636) gt633
    have f638 := (Arv.ext f629 E626)
    have lt637 : bt < t633 := Nat.lt_of_lt_of_le (Arv.lt f638) gt633
    have lt639 : b580 < t633 := Nat.lt_of_lt_of_le (Arv.lt f634) gt633
    have lt640 : b626 < t633 := Nat.lt_of_lt_of_le (Exa.lt A626) gt633
    show Goes p e below _ T633 (mkF m 358 #[.val (.int p0), .val (.int p1), .val (.int p2), .val (.int p3), .val (.int p4), s5, .val (.ref bs), .val (.int n), .val (.int kd), .val (.int rp), .val (.int pp), .val (.int ch), .val (.int 7), .val (.ref b580), .unset, .unset, .unset] [(.ref b626)])
    refine g_astore C X633 d0_358 rfl (l' := #[.val (.int p0), .val (.int p1), .val (.int p2), .val (.int p3), .val (.int p4), s5, .val (.ref bs), .val (.int n), .val (.int kd), .val (.int rp), .val (.int pp), .val (.int ch), .val (.int 7), .val (.ref b580), .val (.ref b626), .unset, .unset]) rfl ?_
    have sz641 : h.size ≤ b580 := by rw [g_b580]; exact (Keep.refl h []).1
    have kp642 := (Keep.refl h []).ext E580
    have kp643 := kp642.wr W588 (Or.inr sz641)
    have kp644 := kp643.wr W594 (Or.inr sz641)
    have kp645 := kp644.wr W600 (Or.inr sz641)
    have kp646 := kp645.wr W606 (Or.inr sz641)
    have kp647 := kp646.wr W612 (Or.inr sz641)
    have kp648 := kp647.wr W618 (Or.inr sz641)
    have kp649 := kp648.wr W624 (Or.inr sz641)
    have sz650 : h.size ≤ b626 := by rw [g_b626]; exact kp649.1
    have kp651 := kp649.ext E626
    have kp652 := kp651.trans K633 (allS (Or.inr sz650) all0)
    have I653 := Lits.keep I0 kp652 sf0
    have f654 := (Arv.keep f634 K633 (ninS (Nat.ne_of_lt lt631) nin0))
    have Y655 := X633.more (cells' := 12) (slots' := 200) (by decide) (by decide)
    exact segS hw (.val (.int p0)) (.val (.int p1)) (.val (.int p2)) (.val (.int p3)) (.val (.int p4)) (s5) (.val (.ref bs)) (.val (.int n)) (.val (.int kd)) (.val (.int rp)) (.val (.int pp)) (.val (.int ch)) (.val (.int 7)) (.val (.ref b580)) p_1 p_7 p_11 p_15 p_19 p_23 p_27 p_31 p_35 p_40 p_46 p_52 p_58 k_64 k_66 k_68 k_70 k_72 z_ SZ hz b626 t633 _ _ _ [x587_, x593_, x599_, x605_, x611_, x617_, x623_] C Y655 I653 S_3 E_6 S_9 E_10 S_13 E_14 S_17 E_18 S_21 E_22 F_25 E_26 F_29 E_30 F_33 E_34 F_37 E_38 F_39 F_42 F_45 F_48 F_51 F_54 F_57 F_60 V_63 V_65 V_67 V_69 V_71 EX633 FC633 FV633 VT633 (own_cod rfl rfl hp632) hp632 (Nat.le_of_ble_eq_true rfl)
  · refine g_aconst_null C X624 d0_345 (g_goto C X624 d0_346 (g_astore C X624 d0_358 rfl (l' := #[.val (.int p0), .val (.int p1), .val (.int p2), .val (.int p3), .val (.int p4), s5, .val (.ref bs), .val (.int n), .val (.int kd), .val (.int rp), .val (.int pp), .val (.int ch), .val (.int 7), .val (.ref b580), .val .null, .unset, .unset]) rfl ?_))
    have sz656 : h.size ≤ b580 := by rw [g_b580]; exact (Keep.refl h []).1
    have kp657 := (Keep.refl h []).ext E580
    have kp658 := kp657.wr W588 (Or.inr sz656)
    have kp659 := kp658.wr W594 (Or.inr sz656)
    have kp660 := kp659.wr W600 (Or.inr sz656)
    have kp661 := kp660.wr W606 (Or.inr sz656)
    have kp662 := kp661.wr W612 (Or.inr sz656)
    have kp663 := kp662.wr W618 (Or.inr sz656)
    have kp664 := kp663.wr W624 (Or.inr sz656)
    have I665 := Lits.keep I0 kp664 sf0
    have Y666 := X624.more (cells' := 12) (slots' := 200) (by decide) (by decide)
    exact segN hw (.val (.int p0)) (.val (.int p1)) (.val (.int p2)) (.val (.int p3)) (.val (.int p4)) (s5) (.val (.ref bs)) (.val (.int n)) (.val (.int kd)) (.val (.int rp)) (.val (.int pp)) (.val (.int ch)) (.val (.int 7)) (.val (.ref b580)) p_1 p_7 p_11 p_15 p_19 p_23 p_27 p_31 p_35 p_40 p_46 p_52 p_58 k_64 k_66 k_68 k_70 k_72 z_ SZ hz C Y666 I665 S_3 E_6 S_9 E_10 S_13 E_14 S_17 E_18 S_21 E_22 F_25 E_26 F_29 E_30 F_33 E_34 F_37 E_38 F_39 F_42 F_45 F_48 F_51 F_54 F_57 F_60 V_63 V_65 V_67 V_69 V_71
theorem d0_292 : Dc code 292 (.aload 13) 2 294 := ⟨at_292, rfl⟩
theorem d0_294 : Dc code 294 (.bipush 7) 2 296 := ⟨at_294, rfl⟩
theorem d0_296 : Dc code 296 (.aload 6) 2 298 := ⟨at_296, rfl⟩
theorem d0_298 : Dc code 298 (.iload 7) 2 300 := ⟨at_298, rfl⟩
theorem d0_300 : Dc code 300 (.bipush 7) 2 302 := ⟨at_300, rfl⟩
theorem d0_302 : Dc code 302 (.iload 9) 2 304 := ⟨at_302, rfl⟩
theorem d0_304 : Dc code 304 (.iload 10) 2 306 := ⟨at_304, rfl⟩
theorem d0_306 : Dc code 306 (.iload 11) 2 308 := ⟨at_306, rfl⟩
theorem d0_308 : Dc code 308 (.invokestatic 26) 3 311 := ⟨at_308, rfl⟩
theorem d0_311 : Dc code 311 (.castore) 1 312 := ⟨at_311, rfl⟩
theorem segL8 {p : Program} {l : Launch} {e : Env} {s : State} {m : MethodId} {A : Array Value} {below : List Frame} {meth : Method} {c : Code} {Z : State} {a0 : Array Value} (hw : ∀ d ∈ tables_1, d.before a0 Z = true) {T0 : State} {h : Heap} {vm0 : Vm} (p0 p1 p2 p3 p4 : Int32) (s5 : Slot) (n kd rp pp ch : Int32) (p_1 p_7 p_11 p_15 p_19 p_23 p_27 p_31 p_35 p_40 p_46 p_52 p_58 : Addr) (k_64 k_66 k_68 k_70 k_72 : ClassId) (z_ : Int32) (SZ : Sta Z Z.heap "java/lang/String" "COMPACT_STRINGS" "Z" (.int z_)) (hz : ¬ z_ = 0) (fm_ : Value) (SF : Sta Z Z.heap "jdk/internal/util/Preconditions" "SIOOBE_FORMATTER" "Ljava/util/function/BiFunction;" fm_) (rf_ : fm_.isRef = true) (bs : Addr) (bt : Addr) (bk : ClassId) (bN : Int32) (bv : List Value) (bc : List Int32) (C : Cx p (s.setVm vm0) m meth c Z "com/example/indie_lease/indielease/model/LicenseStatusOfCodePinLaw" "law" code maxLocals ret) (X0 : St p l e room_1 (s.setVm vm0) m A below meth c Z T0 h 2 36) (I0 : Lits Z consts_1 s vm0 h) (S_3 : Sta Z Z.heap "com/example/indie_lease/indielease/model/LicenseStatus" "$VALUES" "[Lcom/example/indie_lease/indielease/model/LicenseStatus;" (.ref p_1)) (E_6 : Exa Z Z.heap p_1 "[Lcom/example/indie_lease/indielease/model/LicenseStatus;") (S_9 : Sta Z Z.heap "com/example/indie_lease/indielease/model/LicenseStatus" "ACTIVE" "Lcom/example/indie_lease/indielease/model/LicenseStatus;" (.ref p_7)) (E_10 : Exa Z Z.heap p_7 "com/example/indie_lease/indielease/model/LicenseStatus") (S_13 : Sta Z Z.heap "com/example/indie_lease/indielease/model/LicenseStatus" "FALLBACK" "Lcom/example/indie_lease/indielease/model/LicenseStatus;" (.ref p_11)) (E_14 : Exa Z Z.heap p_11 "com/example/indie_lease/indielease/model/LicenseStatus") (S_17 : Sta Z Z.heap "com/example/indie_lease/indielease/model/LicenseStatus" "EXPIRED" "Lcom/example/indie_lease/indielease/model/LicenseStatus;" (.ref p_15)) (E_18 : Exa Z Z.heap p_15 "com/example/indie_lease/indielease/model/LicenseStatus") (S_21 : Sta Z Z.heap "com/example/indie_lease/indielease/model/LicenseStatus" "REVOKED" "Lcom/example/indie_lease/indielease/model/LicenseStatus;" (.ref p_19)) (E_22 : Exa Z Z.heap p_19 "com/example/indie_lease/indielease/model/LicenseStatus") (F_25 : Fld Z Z.heap p_7 "com/example/indie_lease/indielease/model/LicenseStatus" "code" "Ljava/lang/String;" (.ref p_23)) (E_26 : Exa Z Z.heap p_23 "java/lang/String") (F_29 : Fld Z Z.heap p_11 "com/example/indie_lease/indielease/model/LicenseStatus" "code" "Ljava/lang/String;" (.ref p_27)) (E_30 : Exa Z Z.heap p_27 "java/lang/String") (F_33 : Fld Z Z.heap p_15 "com/example/indie_lease/indielease/model/LicenseStatus" "code" "Ljava/lang/String;" (.ref p_31)) (E_34 : Exa Z Z.heap p_31 "java/lang/String") (F_37 : Fld Z Z.heap p_19 "com/example/indie_lease/indielease/model/LicenseStatus" "code" "Ljava/lang/String;" (.ref p_35)) (E_38 : Exa Z Z.heap p_35 "java/lang/String") (F_39 : Fld Z Z.heap p_23 "java/lang/String" "coder" "B" (.int 0)) (F_42 : Fld Z Z.heap p_23 "java/lang/String" "value" "[B" (.ref p_40)) (F_45 : Fld Z Z.heap p_27 "java/lang/String" "coder" "B" (.int 0)) (F_48 : Fld Z Z.heap p_27 "java/lang/String" "value" "[B" (.ref p_46)) (F_51 : Fld Z Z.heap p_31 "java/lang/String" "coder" "B" (.int 0)) (F_54 : Fld Z Z.heap p_31 "java/lang/String" "value" "[B" (.ref p_52)) (F_57 : Fld Z Z.heap p_35 "java/lang/String" "coder" "B" (.int 0)) (F_60 : Fld Z Z.heap p_35 "java/lang/String" "value" "[B" (.ref p_58)) (V_63 : Arv Z Z.heap p_1 k_64 (.object "com/example/indie_lease/indielease/model/LicenseStatus") 4 [(.ref p_7), (.ref p_11), (.ref p_15), (.ref p_19)] .null) (V_65 : Arv Z Z.heap p_40 k_66 .byte 6 [(.int 97), (.int 99), (.int 116), (.int 105), (.int 118), (.int 101)] (.int 0)) (V_67 : Arv Z Z.heap p_46 k_68 .byte 8 [(.int 102), (.int 97), (.int 108), (.int 108), (.int 98), (.int 97), (.int 99), (.int 107)] (.int 0)) (V_69 : Arv Z Z.heap p_52 k_70 .byte 7 [(.int 101), (.int 120), (.int 112), (.int 105), (.int 114), (.int 101), (.int 100)] (.int 0)) (V_71 : Arv Z Z.heap p_58 k_72 .byte 7 [(.int 114), (.int 101), (.int 118), (.int 111), (.int 107), (.int 101), (.int 100)] (.int 0)) (bEX : Exa Z h bs "java/lang/String") (bFC : Fld Z h bs "java/lang/String" "coder" "B" (.int (0 : Int32))) (bFV : Fld Z h bs "java/lang/String" "value" "[B" (.ref bt)) (bVT : Arv Z h bt bk .byte bN bv (.int (0 : Int32))) (bhc : StrChars.Road.CodA bc 0 bN bv) (bhs : ∀ c ∈ bc, ¬ c < 0 ∧ ¬ (255 : Int32) < c) (bhl : bc.length ≤ 4000) (hn : Int32.ofNat bc.length = n) (hc : ¬ ch < 0 ∧ ¬ (255 : Int32) < ch) :
    Goes p e below (EndL Z consts_1 s 32 5312 (fun v' h' => v' = some (.int 1))) T0 (mkF m 109 #[.val (.int p0), .val (.int p1), .val (.int p2), .val (.int p3), .val (.int p4), s5, .val (.ref bs), .val (.int n), .val (.int kd), .val (.int rp), .val (.int pp), .val (.int ch), .val (.int 8), .unset, .unset, .unset, .unset] []) := by
  refine g_iload C X0 d0_109 rfl (g_newarray C X0 (wd hw 22 rfl) d0_111 (by decide) 8 8 (by decide) (by decide) (by decide) (by decide) (fun T667 h667 b667 k_b667 g_b667 n_b667 X667 E667 V667 => ?_))
  have lt668 : bs < b667 := by rw [g_b667]; exact Exa.lt bEX
  have lt669 : bt < b667 := by rw [g_b667]; exact Arv.lt bVT
  have V_b667 : Arv Z h667 b667 k_b667 .char (8 : Int32) [(.int 0), (.int 0), (.int 0), (.int 0), (.int 0), (.int 0), (.int 0), (.int 0)] (.int 0) := V667
  refine g_astore C X667 d0_113 rfl (l' := #[.val (.int p0), .val (.int p1), .val (.int p2), .val (.int p3), .val (.int p4), s5, .val (.ref bs), .val (.int n), .val (.int kd), .val (.int rp), .val (.int pp), .val (.int ch), .val (.int 8), .val (.ref b667), .unset, .unset, .unset]) rfl (g_iload C X667 d0_115 rfl (g_ifn (h0_le _) C X667 d0_117 (fun q => absurd (by decide) q) (fun _ => ?_)))
  refine g_aload C X667 d0_120 rfl rfl (g_iconst 0 C X667 d0_122 rfl (g_aload C X667 d0_123 rfl rfl (g_iload C X667 d0_125 rfl (g_iconst 0 C X667 d0_127 rfl (g_iload C X667 d0_128 rfl (g_iload C X667 d0_130 rfl (g_iload C X667 d0_132 rfl ?_)))))))
  have f670 := (Exa.ext E667 bEX)
  have f671 := (Fld.ext E667 bFV)
  have f672 := (Fld.ext E667 bFC)
  have f673 := (Arv.ext bVT E667)
  refine g_static (argsL := [(.ref bs), (.int n), (.int 0), (.int rp), (.int pp), (.int ch)]) (st := [(.int 0), (.ref b667)]) C X667 (wd hw 23 rfl) (wd hw 24 rfl) (wd hw 25 rfl) (wd hw 26 rfl) (by decide) (pay_of (W' := 2) (rpk0 l hw X667.ext bs n rp pp ch z_ SZ hz fm_ SF rf_ bt _ _ _ bc f670 f672 f671 f673 bhc bhs bhl hn hc) C.hZ (wd hw 26 rfl) (wd hw 25 rfl) (by decide) (by decide)) pd_6 rfl rfl _ rfl (Nat.le_of_eq rfl) d0_134 (by decide) (by decide) (fun T674 h674 v674 q674 X674 => ?_)
  obtain ⟨x674_, rfl, lx674, e674⟩ := q674
  subst e674
  show Goes p e below _ T674 (mkF m 137 #[.val (.int p0), .val (.int p1), .val (.int p2), .val (.int p3), .val (.int p4), s5, .val (.ref bs), .val (.int n), .val (.int kd), .val (.int rp), .val (.int pp), .val (.int ch), .val (.int 8), .val (.ref b667), .unset, .unset, .unset] [(.int x674_), (.int 0), (.ref b667)])
  refine g_castore C X674 V_b667 n_b667 d0_137 (by decide) (by decide) (Nat.le_of_ble_eq_true rfl) (.int x674_) (own_nar lx674) (fun T675 h675 X675 W675 V675 => ?_)
  have V675_b667 : Arv Z h675 b667 k_b667 .char (8 : Int32) [(.int x674_), (.int 0), (.int 0), (.int 0), (.int 0), (.int 0), (.int 0), (.int 0)] (.int 0) := V675
  refine g_iload C X675 d0_138 rfl (g_iconst 1 C X675 d0_140 rfl (g_icmpn (hI_le _ _) C X675 d0_141 (fun q => absurd (by decide) q) (fun _ => ?_)))
  refine g_aload C X675 d0_144 rfl rfl (g_iconst 1 C X675 d0_146 rfl (g_aload C X675 d0_147 rfl rfl (g_iload C X675 d0_149 rfl (g_iconst 1 C X675 d0_151 rfl (g_iload C X675 d0_152 rfl (g_iload C X675 d0_154 rfl (g_iload C X675 d0_156 rfl ?_)))))))
  have f676 := (Exa.wr W675 f670)
  have f677 := (Fld.other W675 f671 (Or.inl (Nat.ne_of_lt lt668)))
  have f678 := (Fld.other W675 f672 (Or.inl (Nat.ne_of_lt lt668)))
  have f679 := (Arv.other f673 W675 (Nat.ne_of_lt lt669))
  refine g_static (argsL := [(.ref bs), (.int n), (.int 1), (.int rp), (.int pp), (.int ch)]) (st := [(.int 1), (.ref b667)]) C X675 (wd hw 23 rfl) (wd hw 24 rfl) (wd hw 25 rfl) (wd hw 26 rfl) (by decide) (pay_of (W' := 2) (rpk1 l hw X675.ext bs n rp pp ch z_ SZ hz fm_ SF rf_ bt _ _ _ bc f676 f678 f677 f679 bhc bhs bhl hn hc) C.hZ (wd hw 26 rfl) (wd hw 25 rfl) (by decide) (by decide)) pd_6 rfl rfl _ rfl (Nat.le_of_eq rfl) d0_158 (by decide) (by decide) (fun T680 h680 v680 q680 X680 => ?_)
  obtain ⟨x680_, rfl, lx680, e680⟩ := q680
  subst e680
  show Goes p e below _ T680 (mkF m 161 #[.val (.int p0), .val (.int p1), .val (.int p2), .val (.int p3), .val (.int p4), s5, .val (.ref bs), .val (.int n), .val (.int kd), .val (.int rp), .val (.int pp), .val (.int ch), .val (.int 8), .val (.ref b667), .unset, .unset, .unset] [(.int x680_), (.int 1), (.ref b667)])
  refine g_castore C X680 V675_b667 n_b667 d0_161 (by decide) (by decide) (Nat.le_of_ble_eq_true rfl) (.int x680_) (own_nar lx680) (fun T681 h681 X681 W681 V681 => ?_)
  have V681_b667 : Arv Z h681 b667 k_b667 .char (8 : Int32) [(.int x674_), (.int x680_), (.int 0), (.int 0), (.int 0), (.int 0), (.int 0), (.int 0)] (.int 0) := V681
  refine g_iload C X681 d0_162 rfl (g_iconst 2 C X681 d0_164 rfl (g_icmpn (hI_le _ _) C X681 d0_165 (fun q => absurd (by decide) q) (fun _ => ?_)))
  refine g_aload C X681 d0_168 rfl rfl (g_iconst 2 C X681 d0_170 rfl (g_aload C X681 d0_171 rfl rfl (g_iload C X681 d0_173 rfl (g_iconst 2 C X681 d0_175 rfl (g_iload C X681 d0_176 rfl (g_iload C X681 d0_178 rfl (g_iload C X681 d0_180 rfl ?_)))))))
  have f682 := (Exa.wr W681 f676)
  have f683 := (Fld.other W681 f677 (Or.inl (Nat.ne_of_lt lt668)))
  have f684 := (Fld.other W681 f678 (Or.inl (Nat.ne_of_lt lt668)))
  have f685 := (Arv.other f679 W681 (Nat.ne_of_lt lt669))
  refine g_static (argsL := [(.ref bs), (.int n), (.int 2), (.int rp), (.int pp), (.int ch)]) (st := [(.int 2), (.ref b667)]) C X681 (wd hw 23 rfl) (wd hw 24 rfl) (wd hw 25 rfl) (wd hw 26 rfl) (by decide) (pay_of (W' := 2) (rpk2 l hw X681.ext bs n rp pp ch z_ SZ hz fm_ SF rf_ bt _ _ _ bc f682 f684 f683 f685 bhc bhs bhl hn hc) C.hZ (wd hw 26 rfl) (wd hw 25 rfl) (by decide) (by decide)) pd_6 rfl rfl _ rfl (Nat.le_of_eq rfl) d0_182 (by decide) (by decide) (fun T686 h686 v686 q686 X686 => ?_)
  obtain ⟨x686_, rfl, lx686, e686⟩ := q686
  subst e686
  show Goes p e below _ T686 (mkF m 185 #[.val (.int p0), .val (.int p1), .val (.int p2), .val (.int p3), .val (.int p4), s5, .val (.ref bs), .val (.int n), .val (.int kd), .val (.int rp), .val (.int pp), .val (.int ch), .val (.int 8), .val (.ref b667), .unset, .unset, .unset] [(.int x686_), (.int 2), (.ref b667)])
  refine g_castore C X686 V681_b667 n_b667 d0_185 (by decide) (by decide) (Nat.le_of_ble_eq_true rfl) (.int x686_) (own_nar lx686) (fun T687 h687 X687 W687 V687 => ?_)
  have V687_b667 : Arv Z h687 b667 k_b667 .char (8 : Int32) [(.int x674_), (.int x680_), (.int x686_), (.int 0), (.int 0), (.int 0), (.int 0), (.int 0)] (.int 0) := V687
  refine g_iload C X687 d0_186 rfl (g_iconst 3 C X687 d0_188 rfl (g_icmpn (hI_le _ _) C X687 d0_189 (fun q => absurd (by decide) q) (fun _ => ?_)))
  refine g_aload C X687 d0_192 rfl rfl (g_iconst 3 C X687 d0_194 rfl (g_aload C X687 d0_195 rfl rfl (g_iload C X687 d0_197 rfl (g_iconst 3 C X687 d0_199 rfl (g_iload C X687 d0_200 rfl (g_iload C X687 d0_202 rfl (g_iload C X687 d0_204 rfl ?_)))))))
  have f688 := (Exa.wr W687 f682)
  have f689 := (Fld.other W687 f683 (Or.inl (Nat.ne_of_lt lt668)))
  have f690 := (Fld.other W687 f684 (Or.inl (Nat.ne_of_lt lt668)))
  have f691 := (Arv.other f685 W687 (Nat.ne_of_lt lt669))
  refine g_static (argsL := [(.ref bs), (.int n), (.int 3), (.int rp), (.int pp), (.int ch)]) (st := [(.int 3), (.ref b667)]) C X687 (wd hw 23 rfl) (wd hw 24 rfl) (wd hw 25 rfl) (wd hw 26 rfl) (by decide) (pay_of (W' := 2) (rpk3 l hw X687.ext bs n rp pp ch z_ SZ hz fm_ SF rf_ bt _ _ _ bc f688 f690 f689 f691 bhc bhs bhl hn hc) C.hZ (wd hw 26 rfl) (wd hw 25 rfl) (by decide) (by decide)) pd_6 rfl rfl _ rfl (Nat.le_of_eq rfl) d0_206 (by decide) (by decide) (fun T692 h692 v692 q692 X692 => ?_)
  obtain ⟨x692_, rfl, lx692, e692⟩ := q692
  subst e692
  show Goes p e below _ T692 (mkF m 209 #[.val (.int p0), .val (.int p1), .val (.int p2), .val (.int p3), .val (.int p4), s5, .val (.ref bs), .val (.int n), .val (.int kd), .val (.int rp), .val (.int pp), .val (.int ch), .val (.int 8), .val (.ref b667), .unset, .unset, .unset] [(.int x692_), (.int 3), (.ref b667)])
  refine g_castore C X692 V687_b667 n_b667 d0_209 (by decide) (by decide) (Nat.le_of_ble_eq_true rfl) (.int x692_) (own_nar lx692) (fun T693 h693 X693 W693 V693 => ?_)
  have V693_b667 : Arv Z h693 b667 k_b667 .char (8 : Int32) [(.int x674_), (.int x680_), (.int x686_), (.int x692_), (.int 0), (.int 0), (.int 0), (.int 0)] (.int 0) := V693
  refine g_iload C X693 d0_210 rfl (g_iconst 4 C X693 d0_212 rfl (g_icmpn (hI_le _ _) C X693 d0_213 (fun q => absurd (by decide) q) (fun _ => ?_)))
  refine g_aload C X693 d0_216 rfl rfl (g_iconst 4 C X693 d0_218 rfl (g_aload C X693 d0_219 rfl rfl (g_iload C X693 d0_221 rfl (g_iconst 4 C X693 d0_223 rfl (g_iload C X693 d0_224 rfl (g_iload C X693 d0_226 rfl (g_iload C X693 d0_228 rfl ?_)))))))
  have f694 := (Exa.wr W693 f688)
  have f695 := (Fld.other W693 f689 (Or.inl (Nat.ne_of_lt lt668)))
  have f696 := (Fld.other W693 f690 (Or.inl (Nat.ne_of_lt lt668)))
  have f697 := (Arv.other f691 W693 (Nat.ne_of_lt lt669))
  refine g_static (argsL := [(.ref bs), (.int n), (.int 4), (.int rp), (.int pp), (.int ch)]) (st := [(.int 4), (.ref b667)]) C X693 (wd hw 23 rfl) (wd hw 24 rfl) (wd hw 25 rfl) (wd hw 26 rfl) (by decide) (pay_of (W' := 2) (rpk4 l hw X693.ext bs n rp pp ch z_ SZ hz fm_ SF rf_ bt _ _ _ bc f694 f696 f695 f697 bhc bhs bhl hn hc) C.hZ (wd hw 26 rfl) (wd hw 25 rfl) (by decide) (by decide)) pd_6 rfl rfl _ rfl (Nat.le_of_eq rfl) d0_230 (by decide) (by decide) (fun T698 h698 v698 q698 X698 => ?_)
  obtain ⟨x698_, rfl, lx698, e698⟩ := q698
  subst e698
  show Goes p e below _ T698 (mkF m 233 #[.val (.int p0), .val (.int p1), .val (.int p2), .val (.int p3), .val (.int p4), s5, .val (.ref bs), .val (.int n), .val (.int kd), .val (.int rp), .val (.int pp), .val (.int ch), .val (.int 8), .val (.ref b667), .unset, .unset, .unset] [(.int x698_), (.int 4), (.ref b667)])
  refine g_castore C X698 V693_b667 n_b667 d0_233 (by decide) (by decide) (Nat.le_of_ble_eq_true rfl) (.int x698_) (own_nar lx698) (fun T699 h699 X699 W699 V699 => ?_)
  have V699_b667 : Arv Z h699 b667 k_b667 .char (8 : Int32) [(.int x674_), (.int x680_), (.int x686_), (.int x692_), (.int x698_), (.int 0), (.int 0), (.int 0)] (.int 0) := V699
  refine g_iload C X699 d0_234 rfl (g_iconst 5 C X699 d0_236 rfl (g_icmpn (hI_le _ _) C X699 d0_237 (fun q => absurd (by decide) q) (fun _ => ?_)))
  refine g_aload C X699 d0_240 rfl rfl (g_iconst 5 C X699 d0_242 rfl (g_aload C X699 d0_243 rfl rfl (g_iload C X699 d0_245 rfl (g_iconst 5 C X699 d0_247 rfl (g_iload C X699 d0_248 rfl (g_iload C X699 d0_250 rfl (g_iload C X699 d0_252 rfl ?_)))))))
  have f700 := (Exa.wr W699 f694)
  have f701 := (Fld.other W699 f695 (Or.inl (Nat.ne_of_lt lt668)))
  have f702 := (Fld.other W699 f696 (Or.inl (Nat.ne_of_lt lt668)))
  have f703 := (Arv.other f697 W699 (Nat.ne_of_lt lt669))
  refine g_static (argsL := [(.ref bs), (.int n), (.int 5), (.int rp), (.int pp), (.int ch)]) (st := [(.int 5), (.ref b667)]) C X699 (wd hw 23 rfl) (wd hw 24 rfl) (wd hw 25 rfl) (wd hw 26 rfl) (by decide) (pay_of (W' := 2) (rpk5 l hw X699.ext bs n rp pp ch z_ SZ hz fm_ SF rf_ bt _ _ _ bc f700 f702 f701 f703 bhc bhs bhl hn hc) C.hZ (wd hw 26 rfl) (wd hw 25 rfl) (by decide) (by decide)) pd_6 rfl rfl _ rfl (Nat.le_of_eq rfl) d0_254 (by decide) (by decide) (fun T704 h704 v704 q704 X704 => ?_)
  obtain ⟨x704_, rfl, lx704, e704⟩ := q704
  subst e704
  show Goes p e below _ T704 (mkF m 257 #[.val (.int p0), .val (.int p1), .val (.int p2), .val (.int p3), .val (.int p4), s5, .val (.ref bs), .val (.int n), .val (.int kd), .val (.int rp), .val (.int pp), .val (.int ch), .val (.int 8), .val (.ref b667), .unset, .unset, .unset] [(.int x704_), (.int 5), (.ref b667)])
  refine g_castore C X704 V699_b667 n_b667 d0_257 (by decide) (by decide) (Nat.le_of_ble_eq_true rfl) (.int x704_) (own_nar lx704) (fun T705 h705 X705 W705 V705 => ?_)
  have V705_b667 : Arv Z h705 b667 k_b667 .char (8 : Int32) [(.int x674_), (.int x680_), (.int x686_), (.int x692_), (.int x698_), (.int x704_), (.int 0), (.int 0)] (.int 0) := V705
  refine g_iload C X705 d0_258 rfl (g_bipush 6 C X705 d0_260 rfl (g_icmpn (hI_le _ _) C X705 d0_262 (fun q => absurd (by decide) q) (fun _ => ?_)))
  refine g_aload C X705 d0_265 rfl rfl (g_bipush 6 C X705 d0_267 rfl (g_aload C X705 d0_269 rfl rfl (g_iload C X705 d0_271 rfl (g_bipush 6 C X705 d0_273 rfl (g_iload C X705 d0_275 rfl (g_iload C X705 d0_277 rfl (g_iload C X705 d0_279 rfl ?_)))))))
  have f706 := (Exa.wr W705 f700)
  have f707 := (Fld.other W705 f701 (Or.inl (Nat.ne_of_lt lt668)))
  have f708 := (Fld.other W705 f702 (Or.inl (Nat.ne_of_lt lt668)))
  have f709 := (Arv.other f703 W705 (Nat.ne_of_lt lt669))
  refine g_static (argsL := [(.ref bs), (.int n), (.int 6), (.int rp), (.int pp), (.int ch)]) (st := [(.int 6), (.ref b667)]) C X705 (wd hw 23 rfl) (wd hw 24 rfl) (wd hw 25 rfl) (wd hw 26 rfl) (by decide) (pay_of (W' := 2) (rpk6 l hw X705.ext bs n rp pp ch z_ SZ hz fm_ SF rf_ bt _ _ _ bc f706 f708 f707 f709 bhc bhs bhl hn hc) C.hZ (wd hw 26 rfl) (wd hw 25 rfl) (by decide) (by decide)) pd_6 rfl rfl _ rfl (Nat.le_of_eq rfl) d0_281 (by decide) (by decide) (fun T710 h710 v710 q710 X710 => ?_)
  obtain ⟨x710_, rfl, lx710, e710⟩ := q710
  subst e710
  show Goes p e below _ T710 (mkF m 284 #[.val (.int p0), .val (.int p1), .val (.int p2), .val (.int p3), .val (.int p4), s5, .val (.ref bs), .val (.int n), .val (.int kd), .val (.int rp), .val (.int pp), .val (.int ch), .val (.int 8), .val (.ref b667), .unset, .unset, .unset] [(.int x710_), (.int 6), (.ref b667)])
  refine g_castore C X710 V705_b667 n_b667 d0_284 (by decide) (by decide) (Nat.le_of_ble_eq_true rfl) (.int x710_) (own_nar lx710) (fun T711 h711 X711 W711 V711 => ?_)
  have V711_b667 : Arv Z h711 b667 k_b667 .char (8 : Int32) [(.int x674_), (.int x680_), (.int x686_), (.int x692_), (.int x698_), (.int x704_), (.int x710_), (.int 0)] (.int 0) := V711
  refine g_iload C X711 d0_285 rfl (g_bipush 7 C X711 d0_287 rfl (g_icmpn (hI_le _ _) C X711 d0_289 (fun q => absurd (by decide) q) (fun _ => ?_)))
  refine g_aload C X711 d0_292 rfl rfl (g_bipush 7 C X711 d0_294 rfl (g_aload C X711 d0_296 rfl rfl (g_iload C X711 d0_298 rfl (g_bipush 7 C X711 d0_300 rfl (g_iload C X711 d0_302 rfl (g_iload C X711 d0_304 rfl (g_iload C X711 d0_306 rfl ?_)))))))
  have f712 := (Exa.wr W711 f706)
  have f713 := (Fld.other W711 f707 (Or.inl (Nat.ne_of_lt lt668)))
  have f714 := (Fld.other W711 f708 (Or.inl (Nat.ne_of_lt lt668)))
  have f715 := (Arv.other f709 W711 (Nat.ne_of_lt lt669))
  refine g_static (argsL := [(.ref bs), (.int n), (.int 7), (.int rp), (.int pp), (.int ch)]) (st := [(.int 7), (.ref b667)]) C X711 (wd hw 23 rfl) (wd hw 24 rfl) (wd hw 25 rfl) (wd hw 26 rfl) (by decide) (pay_of (W' := 2) (rpk7 l hw X711.ext bs n rp pp ch z_ SZ hz fm_ SF rf_ bt _ _ _ bc f712 f714 f713 f715 bhc bhs bhl hn hc) C.hZ (wd hw 26 rfl) (wd hw 25 rfl) (by decide) (by decide)) pd_6 rfl rfl _ rfl (Nat.le_of_eq rfl) d0_308 (by decide) (by decide) (fun T716 h716 v716 q716 X716 => ?_)
  obtain ⟨x716_, rfl, lx716, e716⟩ := q716
  subst e716
  show Goes p e below _ T716 (mkF m 311 #[.val (.int p0), .val (.int p1), .val (.int p2), .val (.int p3), .val (.int p4), s5, .val (.ref bs), .val (.int n), .val (.int kd), .val (.int rp), .val (.int pp), .val (.int ch), .val (.int 8), .val (.ref b667), .unset, .unset, .unset] [(.int x716_), (.int 7), (.ref b667)])
  refine g_castore C X716 V711_b667 n_b667 d0_311 (by decide) (by decide) (Nat.le_of_ble_eq_true rfl) (.int x716_) (own_nar lx716) (fun T717 h717 X717 W717 V717 => ?_)
  have V717_b667 : Arv Z h717 b667 k_b667 .char (8 : Int32) [(.int x674_), (.int x680_), (.int x686_), (.int x692_), (.int x698_), (.int x704_), (.int x710_), (.int x716_)] (.int 0) := V717
  refine g_iload C X717 d0_312 rfl (g_bipush 8 C X717 d0_314 rfl (g_icmpn (hI_le _ _) C X717 d0_316 (fun _ => ?_) (fun q => absurd q (by decide))))
  refine g_iload C X717 d0_339 rfl (g_iconst 3 C X717 d0_341 rfl (g_icmpn (hI_ne _ _) C X717 d0_342 (fun c342_718 => ?_) (fun c342_718 => ?_)))
  · refine g_new C X717 (wd hw 80 rfl) (wd hw 2 rfl) (wd hw 1 rfl) d0_349 (by decide) (by decide) (fun T719 h719 b719 g_b719 n_b719 X719 E719 A719 D719 M719 => ?_)
    have f720 := (Exa.wr W717 f712)
    have lt721 : bs < b719 := by rw [g_b719]; exact Exa.lt f720
    have f722 := (Arv.other f715 W717 (Nat.ne_of_lt lt669))
    have lt723 : bt < b719 := by rw [g_b719]; exact Arv.lt f722
    have lt724 : b667 < b719 := by rw [g_b719]; exact Arv.lt V717_b667
    have F_value_b719 : Fld Z h719 b719 "java/lang/String" "value" "[B" .null := D719 (Or.inr (wd hw 4 rfl)) (ty := (.array .byte)) (by decide)
    have F_coder_b719 : Fld Z h719 b719 "java/lang/String" "coder" "B" (.int 0) := D719 (Or.inr (wd hw 5 rfl)) (ty := .byte) (by decide)
    refine g_dup C X719 d0_352 rfl (g_aload C X719 d0_353 rfl rfl ?_)
    have hp725 : ∀ c ∈ [x674_, x680_, x686_, x692_, x698_, x704_, x710_, x716_], ¬ c < 0 ∧ ¬ (255 : Int32) < c := (List.forall_mem_cons.mpr ⟨lx674, (List.forall_mem_cons.mpr ⟨lx680, (List.forall_mem_cons.mpr ⟨lx686, (List.forall_mem_cons.mpr ⟨lx692, (List.forall_mem_cons.mpr ⟨lx698, (List.forall_mem_cons.mpr ⟨lx704, (List.forall_mem_cons.mpr ⟨lx710, (List.forall_mem_cons.mpr ⟨lx716, (fun _ q => nomatch q)⟩)⟩)⟩)⟩)⟩)⟩)⟩)⟩)
    have f727 := (Arv.ext V717_b667 E719)
    refine g_special (argsL := [(.ref b667)]) (st := [(.ref b719)]) C X719 rfl (wd hw 81 rfl) (wd hw 82 rfl) (wd hw 83 rfl) (by decide) (payV (W' := 1) (cs := [x674_, x680_, x686_, x692_, x698_, x704_, x710_, x716_]) (n := 8) C.hZ X719.ext (own_words hw) (kI := 4) (wd hw 2 rfl) n_b719 A719 F_value_b719 F_coder_b719 f727 SZ hz rfl rfl (by decide) (by decide) hp725 (by decide) (by decide)) pd_5 rfl rfl _ rfl (Nat.le_of_eq rfl) d0_355 (by decide) (by decide) (fun T726 h726 v726 q726 X726 => ?_)
    obtain ⟨rfl, K726, EX726, FC726, t726, k_t726, nt0_726, gt726, nt726, FV726, VT726⟩ := q726
    have f729 := (Exa.ext E719 f720)
    have lt728 : bs < t726 := Nat.lt_of_lt_of_le (Exa.lt f729) gt726
    have f731 := (Arv.ext f722 E719)
    have lt730 : bt < t726 := Nat.lt_of_lt_of_le (Arv.lt f731) gt726
    have lt732 : b667 < t726 := Nat.lt_of_lt_of_le (Arv.lt f727) gt726
    have lt733 : b719 < t726 := Nat.lt_of_lt_of_le (Exa.lt A719) gt726
    show Goes p e below _ T726 (mkF m 358 #[.val (.int p0), .val (.int p1), .val (.int p2), .val (.int p3), .val (.int p4), s5, .val (.ref bs), .val (.int n), .val (.int kd), .val (.int rp), .val (.int pp), .val (.int ch), .val (.int 8), .val (.ref b667), .unset, .unset, .unset] [(.ref b719)])
    refine g_astore C X726 d0_358 rfl (l' := #[.val (.int p0), .val (.int p1), .val (.int p2), .val (.int p3), .val (.int p4), s5, .val (.ref bs), .val (.int n), .val (.int kd), .val (.int rp), .val (.int pp), .val (.int ch), .val (.int 8), .val (.ref b667), .val (.ref b719), .unset, .unset]) rfl ?_
    have sz734 : h.size ≤ b667 := by rw [g_b667]; exact (Keep.refl h []).1
    have kp735 := (Keep.refl h []).ext E667
    have kp736 := kp735.wr W675 (Or.inr sz734)
    have kp737 := kp736.wr W681 (Or.inr sz734)
    have kp738 := kp737.wr W687 (Or.inr sz734)
    have kp739 := kp738.wr W693 (Or.inr sz734)
    have kp740 := kp739.wr W699 (Or.inr sz734)
    have kp741 := kp740.wr W705 (Or.inr sz734)
    have kp742 := kp741.wr W711 (Or.inr sz734)
    have kp743 := kp742.wr W717 (Or.inr sz734)
    have sz744 : h.size ≤ b719 := by rw [g_b719]; exact kp743.1
    have kp745 := kp743.ext E719
    have kp746 := kp745.trans K726 (allS (Or.inr sz744) all0)
    have I747 := Lits.keep I0 kp746 sf0
    have f748 := (Arv.keep f727 K726 (ninS (Nat.ne_of_lt lt724) nin0))
    have Y749 := X726.more (cells' := 12) (slots' := 200) (by decide) (by decide)
    exact segS hw (.val (.int p0)) (.val (.int p1)) (.val (.int p2)) (.val (.int p3)) (.val (.int p4)) (s5) (.val (.ref bs)) (.val (.int n)) (.val (.int kd)) (.val (.int rp)) (.val (.int pp)) (.val (.int ch)) (.val (.int 8)) (.val (.ref b667)) p_1 p_7 p_11 p_15 p_19 p_23 p_27 p_31 p_35 p_40 p_46 p_52 p_58 k_64 k_66 k_68 k_70 k_72 z_ SZ hz b719 t726 _ _ _ [x674_, x680_, x686_, x692_, x698_, x704_, x710_, x716_] C Y749 I747 S_3 E_6 S_9 E_10 S_13 E_14 S_17 E_18 S_21 E_22 F_25 E_26 F_29 E_30 F_33 E_34 F_37 E_38 F_39 F_42 F_45 F_48 F_51 F_54 F_57 F_60 V_63 V_65 V_67 V_69 V_71 EX726 FC726 FV726 VT726 (own_cod rfl rfl hp725) hp725 (Nat.le_of_ble_eq_true rfl)
  · refine g_aconst_null C X717 d0_345 (g_goto C X717 d0_346 (g_astore C X717 d0_358 rfl (l' := #[.val (.int p0), .val (.int p1), .val (.int p2), .val (.int p3), .val (.int p4), s5, .val (.ref bs), .val (.int n), .val (.int kd), .val (.int rp), .val (.int pp), .val (.int ch), .val (.int 8), .val (.ref b667), .val .null, .unset, .unset]) rfl ?_))
    have sz750 : h.size ≤ b667 := by rw [g_b667]; exact (Keep.refl h []).1
    have kp751 := (Keep.refl h []).ext E667
    have kp752 := kp751.wr W675 (Or.inr sz750)
    have kp753 := kp752.wr W681 (Or.inr sz750)
    have kp754 := kp753.wr W687 (Or.inr sz750)
    have kp755 := kp754.wr W693 (Or.inr sz750)
    have kp756 := kp755.wr W699 (Or.inr sz750)
    have kp757 := kp756.wr W705 (Or.inr sz750)
    have kp758 := kp757.wr W711 (Or.inr sz750)
    have kp759 := kp758.wr W717 (Or.inr sz750)
    have I760 := Lits.keep I0 kp759 sf0
    have Y761 := X717.more (cells' := 12) (slots' := 200) (by decide) (by decide)
    exact segN hw (.val (.int p0)) (.val (.int p1)) (.val (.int p2)) (.val (.int p3)) (.val (.int p4)) (s5) (.val (.ref bs)) (.val (.int n)) (.val (.int kd)) (.val (.int rp)) (.val (.int pp)) (.val (.int ch)) (.val (.int 8)) (.val (.ref b667)) p_1 p_7 p_11 p_15 p_19 p_23 p_27 p_31 p_35 p_40 p_46 p_52 p_58 k_64 k_66 k_68 k_70 k_72 z_ SZ hz C Y761 I760 S_3 E_6 S_9 E_10 S_13 E_14 S_17 E_18 S_21 E_22 F_25 E_26 F_29 E_30 F_33 E_34 F_37 E_38 F_39 F_42 F_45 F_48 F_51 F_54 F_57 F_60 V_63 V_65 V_67 V_69 V_71
theorem d0_319 : Dc code 319 (.aload 13) 2 321 := ⟨at_319, rfl⟩
theorem d0_321 : Dc code 321 (.bipush 8) 2 323 := ⟨at_321, rfl⟩
theorem d0_323 : Dc code 323 (.aload 6) 2 325 := ⟨at_323, rfl⟩
theorem d0_325 : Dc code 325 (.iload 7) 2 327 := ⟨at_325, rfl⟩
theorem d0_327 : Dc code 327 (.bipush 8) 2 329 := ⟨at_327, rfl⟩
theorem d0_329 : Dc code 329 (.iload 9) 2 331 := ⟨at_329, rfl⟩
theorem d0_331 : Dc code 331 (.iload 10) 2 333 := ⟨at_331, rfl⟩
theorem d0_333 : Dc code 333 (.iload 11) 2 335 := ⟨at_333, rfl⟩
theorem d0_335 : Dc code 335 (.invokestatic 26) 3 338 := ⟨at_335, rfl⟩
theorem d0_338 : Dc code 338 (.castore) 1 339 := ⟨at_338, rfl⟩
theorem segL9 {p : Program} {l : Launch} {e : Env} {s : State} {m : MethodId} {A : Array Value} {below : List Frame} {meth : Method} {c : Code} {Z : State} {a0 : Array Value} (hw : ∀ d ∈ tables_1, d.before a0 Z = true) {T0 : State} {h : Heap} {vm0 : Vm} (p0 p1 p2 p3 p4 : Int32) (s5 : Slot) (n kd rp pp ch : Int32) (p_1 p_7 p_11 p_15 p_19 p_23 p_27 p_31 p_35 p_40 p_46 p_52 p_58 : Addr) (k_64 k_66 k_68 k_70 k_72 : ClassId) (z_ : Int32) (SZ : Sta Z Z.heap "java/lang/String" "COMPACT_STRINGS" "Z" (.int z_)) (hz : ¬ z_ = 0) (fm_ : Value) (SF : Sta Z Z.heap "jdk/internal/util/Preconditions" "SIOOBE_FORMATTER" "Ljava/util/function/BiFunction;" fm_) (rf_ : fm_.isRef = true) (bs : Addr) (bt : Addr) (bk : ClassId) (bN : Int32) (bv : List Value) (bc : List Int32) (C : Cx p (s.setVm vm0) m meth c Z "com/example/indie_lease/indielease/model/LicenseStatusOfCodePinLaw" "law" code maxLocals ret) (X0 : St p l e room_1 (s.setVm vm0) m A below meth c Z T0 h 2 36) (I0 : Lits Z consts_1 s vm0 h) (S_3 : Sta Z Z.heap "com/example/indie_lease/indielease/model/LicenseStatus" "$VALUES" "[Lcom/example/indie_lease/indielease/model/LicenseStatus;" (.ref p_1)) (E_6 : Exa Z Z.heap p_1 "[Lcom/example/indie_lease/indielease/model/LicenseStatus;") (S_9 : Sta Z Z.heap "com/example/indie_lease/indielease/model/LicenseStatus" "ACTIVE" "Lcom/example/indie_lease/indielease/model/LicenseStatus;" (.ref p_7)) (E_10 : Exa Z Z.heap p_7 "com/example/indie_lease/indielease/model/LicenseStatus") (S_13 : Sta Z Z.heap "com/example/indie_lease/indielease/model/LicenseStatus" "FALLBACK" "Lcom/example/indie_lease/indielease/model/LicenseStatus;" (.ref p_11)) (E_14 : Exa Z Z.heap p_11 "com/example/indie_lease/indielease/model/LicenseStatus") (S_17 : Sta Z Z.heap "com/example/indie_lease/indielease/model/LicenseStatus" "EXPIRED" "Lcom/example/indie_lease/indielease/model/LicenseStatus;" (.ref p_15)) (E_18 : Exa Z Z.heap p_15 "com/example/indie_lease/indielease/model/LicenseStatus") (S_21 : Sta Z Z.heap "com/example/indie_lease/indielease/model/LicenseStatus" "REVOKED" "Lcom/example/indie_lease/indielease/model/LicenseStatus;" (.ref p_19)) (E_22 : Exa Z Z.heap p_19 "com/example/indie_lease/indielease/model/LicenseStatus") (F_25 : Fld Z Z.heap p_7 "com/example/indie_lease/indielease/model/LicenseStatus" "code" "Ljava/lang/String;" (.ref p_23)) (E_26 : Exa Z Z.heap p_23 "java/lang/String") (F_29 : Fld Z Z.heap p_11 "com/example/indie_lease/indielease/model/LicenseStatus" "code" "Ljava/lang/String;" (.ref p_27)) (E_30 : Exa Z Z.heap p_27 "java/lang/String") (F_33 : Fld Z Z.heap p_15 "com/example/indie_lease/indielease/model/LicenseStatus" "code" "Ljava/lang/String;" (.ref p_31)) (E_34 : Exa Z Z.heap p_31 "java/lang/String") (F_37 : Fld Z Z.heap p_19 "com/example/indie_lease/indielease/model/LicenseStatus" "code" "Ljava/lang/String;" (.ref p_35)) (E_38 : Exa Z Z.heap p_35 "java/lang/String") (F_39 : Fld Z Z.heap p_23 "java/lang/String" "coder" "B" (.int 0)) (F_42 : Fld Z Z.heap p_23 "java/lang/String" "value" "[B" (.ref p_40)) (F_45 : Fld Z Z.heap p_27 "java/lang/String" "coder" "B" (.int 0)) (F_48 : Fld Z Z.heap p_27 "java/lang/String" "value" "[B" (.ref p_46)) (F_51 : Fld Z Z.heap p_31 "java/lang/String" "coder" "B" (.int 0)) (F_54 : Fld Z Z.heap p_31 "java/lang/String" "value" "[B" (.ref p_52)) (F_57 : Fld Z Z.heap p_35 "java/lang/String" "coder" "B" (.int 0)) (F_60 : Fld Z Z.heap p_35 "java/lang/String" "value" "[B" (.ref p_58)) (V_63 : Arv Z Z.heap p_1 k_64 (.object "com/example/indie_lease/indielease/model/LicenseStatus") 4 [(.ref p_7), (.ref p_11), (.ref p_15), (.ref p_19)] .null) (V_65 : Arv Z Z.heap p_40 k_66 .byte 6 [(.int 97), (.int 99), (.int 116), (.int 105), (.int 118), (.int 101)] (.int 0)) (V_67 : Arv Z Z.heap p_46 k_68 .byte 8 [(.int 102), (.int 97), (.int 108), (.int 108), (.int 98), (.int 97), (.int 99), (.int 107)] (.int 0)) (V_69 : Arv Z Z.heap p_52 k_70 .byte 7 [(.int 101), (.int 120), (.int 112), (.int 105), (.int 114), (.int 101), (.int 100)] (.int 0)) (V_71 : Arv Z Z.heap p_58 k_72 .byte 7 [(.int 114), (.int 101), (.int 118), (.int 111), (.int 107), (.int 101), (.int 100)] (.int 0)) (bEX : Exa Z h bs "java/lang/String") (bFC : Fld Z h bs "java/lang/String" "coder" "B" (.int (0 : Int32))) (bFV : Fld Z h bs "java/lang/String" "value" "[B" (.ref bt)) (bVT : Arv Z h bt bk .byte bN bv (.int (0 : Int32))) (bhc : StrChars.Road.CodA bc 0 bN bv) (bhs : ∀ c ∈ bc, ¬ c < 0 ∧ ¬ (255 : Int32) < c) (bhl : bc.length ≤ 4000) (hn : Int32.ofNat bc.length = n) (hc : ¬ ch < 0 ∧ ¬ (255 : Int32) < ch) :
    Goes p e below (EndL Z consts_1 s 32 5312 (fun v' h' => v' = some (.int 1))) T0 (mkF m 109 #[.val (.int p0), .val (.int p1), .val (.int p2), .val (.int p3), .val (.int p4), s5, .val (.ref bs), .val (.int n), .val (.int kd), .val (.int rp), .val (.int pp), .val (.int ch), .val (.int 9), .unset, .unset, .unset, .unset] []) := by
  refine g_iload C X0 d0_109 rfl (g_newarray C X0 (wd hw 22 rfl) d0_111 (by decide) 9 9 (by decide) (by decide) (by decide) (by decide) (fun T762 h762 b762 k_b762 g_b762 n_b762 X762 E762 V762 => ?_))
  have lt763 : bs < b762 := by rw [g_b762]; exact Exa.lt bEX
  have lt764 : bt < b762 := by rw [g_b762]; exact Arv.lt bVT
  have V_b762 : Arv Z h762 b762 k_b762 .char (9 : Int32) [(.int 0), (.int 0), (.int 0), (.int 0), (.int 0), (.int 0), (.int 0), (.int 0), (.int 0)] (.int 0) := V762
  refine g_astore C X762 d0_113 rfl (l' := #[.val (.int p0), .val (.int p1), .val (.int p2), .val (.int p3), .val (.int p4), s5, .val (.ref bs), .val (.int n), .val (.int kd), .val (.int rp), .val (.int pp), .val (.int ch), .val (.int 9), .val (.ref b762), .unset, .unset, .unset]) rfl (g_iload C X762 d0_115 rfl (g_ifn (h0_le _) C X762 d0_117 (fun q => absurd (by decide) q) (fun _ => ?_)))
  refine g_aload C X762 d0_120 rfl rfl (g_iconst 0 C X762 d0_122 rfl (g_aload C X762 d0_123 rfl rfl (g_iload C X762 d0_125 rfl (g_iconst 0 C X762 d0_127 rfl (g_iload C X762 d0_128 rfl (g_iload C X762 d0_130 rfl (g_iload C X762 d0_132 rfl ?_)))))))
  have f765 := (Exa.ext E762 bEX)
  have f766 := (Fld.ext E762 bFV)
  have f767 := (Fld.ext E762 bFC)
  have f768 := (Arv.ext bVT E762)
  refine g_static (argsL := [(.ref bs), (.int n), (.int 0), (.int rp), (.int pp), (.int ch)]) (st := [(.int 0), (.ref b762)]) C X762 (wd hw 23 rfl) (wd hw 24 rfl) (wd hw 25 rfl) (wd hw 26 rfl) (by decide) (pay_of (W' := 2) (rpk0 l hw X762.ext bs n rp pp ch z_ SZ hz fm_ SF rf_ bt _ _ _ bc f765 f767 f766 f768 bhc bhs bhl hn hc) C.hZ (wd hw 26 rfl) (wd hw 25 rfl) (by decide) (by decide)) pd_6 rfl rfl _ rfl (Nat.le_of_eq rfl) d0_134 (by decide) (by decide) (fun T769 h769 v769 q769 X769 => ?_)
  obtain ⟨x769_, rfl, lx769, e769⟩ := q769
  subst e769
  show Goes p e below _ T769 (mkF m 137 #[.val (.int p0), .val (.int p1), .val (.int p2), .val (.int p3), .val (.int p4), s5, .val (.ref bs), .val (.int n), .val (.int kd), .val (.int rp), .val (.int pp), .val (.int ch), .val (.int 9), .val (.ref b762), .unset, .unset, .unset] [(.int x769_), (.int 0), (.ref b762)])
  refine g_castore C X769 V_b762 n_b762 d0_137 (by decide) (by decide) (Nat.le_of_ble_eq_true rfl) (.int x769_) (own_nar lx769) (fun T770 h770 X770 W770 V770 => ?_)
  have V770_b762 : Arv Z h770 b762 k_b762 .char (9 : Int32) [(.int x769_), (.int 0), (.int 0), (.int 0), (.int 0), (.int 0), (.int 0), (.int 0), (.int 0)] (.int 0) := V770
  refine g_iload C X770 d0_138 rfl (g_iconst 1 C X770 d0_140 rfl (g_icmpn (hI_le _ _) C X770 d0_141 (fun q => absurd (by decide) q) (fun _ => ?_)))
  refine g_aload C X770 d0_144 rfl rfl (g_iconst 1 C X770 d0_146 rfl (g_aload C X770 d0_147 rfl rfl (g_iload C X770 d0_149 rfl (g_iconst 1 C X770 d0_151 rfl (g_iload C X770 d0_152 rfl (g_iload C X770 d0_154 rfl (g_iload C X770 d0_156 rfl ?_)))))))
  have f771 := (Exa.wr W770 f765)
  have f772 := (Fld.other W770 f766 (Or.inl (Nat.ne_of_lt lt763)))
  have f773 := (Fld.other W770 f767 (Or.inl (Nat.ne_of_lt lt763)))
  have f774 := (Arv.other f768 W770 (Nat.ne_of_lt lt764))
  refine g_static (argsL := [(.ref bs), (.int n), (.int 1), (.int rp), (.int pp), (.int ch)]) (st := [(.int 1), (.ref b762)]) C X770 (wd hw 23 rfl) (wd hw 24 rfl) (wd hw 25 rfl) (wd hw 26 rfl) (by decide) (pay_of (W' := 2) (rpk1 l hw X770.ext bs n rp pp ch z_ SZ hz fm_ SF rf_ bt _ _ _ bc f771 f773 f772 f774 bhc bhs bhl hn hc) C.hZ (wd hw 26 rfl) (wd hw 25 rfl) (by decide) (by decide)) pd_6 rfl rfl _ rfl (Nat.le_of_eq rfl) d0_158 (by decide) (by decide) (fun T775 h775 v775 q775 X775 => ?_)
  obtain ⟨x775_, rfl, lx775, e775⟩ := q775
  subst e775
  show Goes p e below _ T775 (mkF m 161 #[.val (.int p0), .val (.int p1), .val (.int p2), .val (.int p3), .val (.int p4), s5, .val (.ref bs), .val (.int n), .val (.int kd), .val (.int rp), .val (.int pp), .val (.int ch), .val (.int 9), .val (.ref b762), .unset, .unset, .unset] [(.int x775_), (.int 1), (.ref b762)])
  refine g_castore C X775 V770_b762 n_b762 d0_161 (by decide) (by decide) (Nat.le_of_ble_eq_true rfl) (.int x775_) (own_nar lx775) (fun T776 h776 X776 W776 V776 => ?_)
  have V776_b762 : Arv Z h776 b762 k_b762 .char (9 : Int32) [(.int x769_), (.int x775_), (.int 0), (.int 0), (.int 0), (.int 0), (.int 0), (.int 0), (.int 0)] (.int 0) := V776
  refine g_iload C X776 d0_162 rfl (g_iconst 2 C X776 d0_164 rfl (g_icmpn (hI_le _ _) C X776 d0_165 (fun q => absurd (by decide) q) (fun _ => ?_)))
  refine g_aload C X776 d0_168 rfl rfl (g_iconst 2 C X776 d0_170 rfl (g_aload C X776 d0_171 rfl rfl (g_iload C X776 d0_173 rfl (g_iconst 2 C X776 d0_175 rfl (g_iload C X776 d0_176 rfl (g_iload C X776 d0_178 rfl (g_iload C X776 d0_180 rfl ?_)))))))
  have f777 := (Exa.wr W776 f771)
  have f778 := (Fld.other W776 f772 (Or.inl (Nat.ne_of_lt lt763)))
  have f779 := (Fld.other W776 f773 (Or.inl (Nat.ne_of_lt lt763)))
  have f780 := (Arv.other f774 W776 (Nat.ne_of_lt lt764))
  refine g_static (argsL := [(.ref bs), (.int n), (.int 2), (.int rp), (.int pp), (.int ch)]) (st := [(.int 2), (.ref b762)]) C X776 (wd hw 23 rfl) (wd hw 24 rfl) (wd hw 25 rfl) (wd hw 26 rfl) (by decide) (pay_of (W' := 2) (rpk2 l hw X776.ext bs n rp pp ch z_ SZ hz fm_ SF rf_ bt _ _ _ bc f777 f779 f778 f780 bhc bhs bhl hn hc) C.hZ (wd hw 26 rfl) (wd hw 25 rfl) (by decide) (by decide)) pd_6 rfl rfl _ rfl (Nat.le_of_eq rfl) d0_182 (by decide) (by decide) (fun T781 h781 v781 q781 X781 => ?_)
  obtain ⟨x781_, rfl, lx781, e781⟩ := q781
  subst e781
  show Goes p e below _ T781 (mkF m 185 #[.val (.int p0), .val (.int p1), .val (.int p2), .val (.int p3), .val (.int p4), s5, .val (.ref bs), .val (.int n), .val (.int kd), .val (.int rp), .val (.int pp), .val (.int ch), .val (.int 9), .val (.ref b762), .unset, .unset, .unset] [(.int x781_), (.int 2), (.ref b762)])
  refine g_castore C X781 V776_b762 n_b762 d0_185 (by decide) (by decide) (Nat.le_of_ble_eq_true rfl) (.int x781_) (own_nar lx781) (fun T782 h782 X782 W782 V782 => ?_)
  have V782_b762 : Arv Z h782 b762 k_b762 .char (9 : Int32) [(.int x769_), (.int x775_), (.int x781_), (.int 0), (.int 0), (.int 0), (.int 0), (.int 0), (.int 0)] (.int 0) := V782
  refine g_iload C X782 d0_186 rfl (g_iconst 3 C X782 d0_188 rfl (g_icmpn (hI_le _ _) C X782 d0_189 (fun q => absurd (by decide) q) (fun _ => ?_)))
  refine g_aload C X782 d0_192 rfl rfl (g_iconst 3 C X782 d0_194 rfl (g_aload C X782 d0_195 rfl rfl (g_iload C X782 d0_197 rfl (g_iconst 3 C X782 d0_199 rfl (g_iload C X782 d0_200 rfl (g_iload C X782 d0_202 rfl (g_iload C X782 d0_204 rfl ?_)))))))
  have f783 := (Exa.wr W782 f777)
  have f784 := (Fld.other W782 f778 (Or.inl (Nat.ne_of_lt lt763)))
  have f785 := (Fld.other W782 f779 (Or.inl (Nat.ne_of_lt lt763)))
  have f786 := (Arv.other f780 W782 (Nat.ne_of_lt lt764))
  refine g_static (argsL := [(.ref bs), (.int n), (.int 3), (.int rp), (.int pp), (.int ch)]) (st := [(.int 3), (.ref b762)]) C X782 (wd hw 23 rfl) (wd hw 24 rfl) (wd hw 25 rfl) (wd hw 26 rfl) (by decide) (pay_of (W' := 2) (rpk3 l hw X782.ext bs n rp pp ch z_ SZ hz fm_ SF rf_ bt _ _ _ bc f783 f785 f784 f786 bhc bhs bhl hn hc) C.hZ (wd hw 26 rfl) (wd hw 25 rfl) (by decide) (by decide)) pd_6 rfl rfl _ rfl (Nat.le_of_eq rfl) d0_206 (by decide) (by decide) (fun T787 h787 v787 q787 X787 => ?_)
  obtain ⟨x787_, rfl, lx787, e787⟩ := q787
  subst e787
  show Goes p e below _ T787 (mkF m 209 #[.val (.int p0), .val (.int p1), .val (.int p2), .val (.int p3), .val (.int p4), s5, .val (.ref bs), .val (.int n), .val (.int kd), .val (.int rp), .val (.int pp), .val (.int ch), .val (.int 9), .val (.ref b762), .unset, .unset, .unset] [(.int x787_), (.int 3), (.ref b762)])
  refine g_castore C X787 V782_b762 n_b762 d0_209 (by decide) (by decide) (Nat.le_of_ble_eq_true rfl) (.int x787_) (own_nar lx787) (fun T788 h788 X788 W788 V788 => ?_)
  have V788_b762 : Arv Z h788 b762 k_b762 .char (9 : Int32) [(.int x769_), (.int x775_), (.int x781_), (.int x787_), (.int 0), (.int 0), (.int 0), (.int 0), (.int 0)] (.int 0) := V788
  refine g_iload C X788 d0_210 rfl (g_iconst 4 C X788 d0_212 rfl (g_icmpn (hI_le _ _) C X788 d0_213 (fun q => absurd (by decide) q) (fun _ => ?_)))
  refine g_aload C X788 d0_216 rfl rfl (g_iconst 4 C X788 d0_218 rfl (g_aload C X788 d0_219 rfl rfl (g_iload C X788 d0_221 rfl (g_iconst 4 C X788 d0_223 rfl (g_iload C X788 d0_224 rfl (g_iload C X788 d0_226 rfl (g_iload C X788 d0_228 rfl ?_)))))))
  have f789 := (Exa.wr W788 f783)
  have f790 := (Fld.other W788 f784 (Or.inl (Nat.ne_of_lt lt763)))
  have f791 := (Fld.other W788 f785 (Or.inl (Nat.ne_of_lt lt763)))
  have f792 := (Arv.other f786 W788 (Nat.ne_of_lt lt764))
  refine g_static (argsL := [(.ref bs), (.int n), (.int 4), (.int rp), (.int pp), (.int ch)]) (st := [(.int 4), (.ref b762)]) C X788 (wd hw 23 rfl) (wd hw 24 rfl) (wd hw 25 rfl) (wd hw 26 rfl) (by decide) (pay_of (W' := 2) (rpk4 l hw X788.ext bs n rp pp ch z_ SZ hz fm_ SF rf_ bt _ _ _ bc f789 f791 f790 f792 bhc bhs bhl hn hc) C.hZ (wd hw 26 rfl) (wd hw 25 rfl) (by decide) (by decide)) pd_6 rfl rfl _ rfl (Nat.le_of_eq rfl) d0_230 (by decide) (by decide) (fun T793 h793 v793 q793 X793 => ?_)
  obtain ⟨x793_, rfl, lx793, e793⟩ := q793
  subst e793
  show Goes p e below _ T793 (mkF m 233 #[.val (.int p0), .val (.int p1), .val (.int p2), .val (.int p3), .val (.int p4), s5, .val (.ref bs), .val (.int n), .val (.int kd), .val (.int rp), .val (.int pp), .val (.int ch), .val (.int 9), .val (.ref b762), .unset, .unset, .unset] [(.int x793_), (.int 4), (.ref b762)])
  refine g_castore C X793 V788_b762 n_b762 d0_233 (by decide) (by decide) (Nat.le_of_ble_eq_true rfl) (.int x793_) (own_nar lx793) (fun T794 h794 X794 W794 V794 => ?_)
  have V794_b762 : Arv Z h794 b762 k_b762 .char (9 : Int32) [(.int x769_), (.int x775_), (.int x781_), (.int x787_), (.int x793_), (.int 0), (.int 0), (.int 0), (.int 0)] (.int 0) := V794
  refine g_iload C X794 d0_234 rfl (g_iconst 5 C X794 d0_236 rfl (g_icmpn (hI_le _ _) C X794 d0_237 (fun q => absurd (by decide) q) (fun _ => ?_)))
  refine g_aload C X794 d0_240 rfl rfl (g_iconst 5 C X794 d0_242 rfl (g_aload C X794 d0_243 rfl rfl (g_iload C X794 d0_245 rfl (g_iconst 5 C X794 d0_247 rfl (g_iload C X794 d0_248 rfl (g_iload C X794 d0_250 rfl (g_iload C X794 d0_252 rfl ?_)))))))
  have f795 := (Exa.wr W794 f789)
  have f796 := (Fld.other W794 f790 (Or.inl (Nat.ne_of_lt lt763)))
  have f797 := (Fld.other W794 f791 (Or.inl (Nat.ne_of_lt lt763)))
  have f798 := (Arv.other f792 W794 (Nat.ne_of_lt lt764))
  refine g_static (argsL := [(.ref bs), (.int n), (.int 5), (.int rp), (.int pp), (.int ch)]) (st := [(.int 5), (.ref b762)]) C X794 (wd hw 23 rfl) (wd hw 24 rfl) (wd hw 25 rfl) (wd hw 26 rfl) (by decide) (pay_of (W' := 2) (rpk5 l hw X794.ext bs n rp pp ch z_ SZ hz fm_ SF rf_ bt _ _ _ bc f795 f797 f796 f798 bhc bhs bhl hn hc) C.hZ (wd hw 26 rfl) (wd hw 25 rfl) (by decide) (by decide)) pd_6 rfl rfl _ rfl (Nat.le_of_eq rfl) d0_254 (by decide) (by decide) (fun T799 h799 v799 q799 X799 => ?_)
  obtain ⟨x799_, rfl, lx799, e799⟩ := q799
  subst e799
  show Goes p e below _ T799 (mkF m 257 #[.val (.int p0), .val (.int p1), .val (.int p2), .val (.int p3), .val (.int p4), s5, .val (.ref bs), .val (.int n), .val (.int kd), .val (.int rp), .val (.int pp), .val (.int ch), .val (.int 9), .val (.ref b762), .unset, .unset, .unset] [(.int x799_), (.int 5), (.ref b762)])
  refine g_castore C X799 V794_b762 n_b762 d0_257 (by decide) (by decide) (Nat.le_of_ble_eq_true rfl) (.int x799_) (own_nar lx799) (fun T800 h800 X800 W800 V800 => ?_)
  have V800_b762 : Arv Z h800 b762 k_b762 .char (9 : Int32) [(.int x769_), (.int x775_), (.int x781_), (.int x787_), (.int x793_), (.int x799_), (.int 0), (.int 0), (.int 0)] (.int 0) := V800
  refine g_iload C X800 d0_258 rfl (g_bipush 6 C X800 d0_260 rfl (g_icmpn (hI_le _ _) C X800 d0_262 (fun q => absurd (by decide) q) (fun _ => ?_)))
  refine g_aload C X800 d0_265 rfl rfl (g_bipush 6 C X800 d0_267 rfl (g_aload C X800 d0_269 rfl rfl (g_iload C X800 d0_271 rfl (g_bipush 6 C X800 d0_273 rfl (g_iload C X800 d0_275 rfl (g_iload C X800 d0_277 rfl (g_iload C X800 d0_279 rfl ?_)))))))
  have f801 := (Exa.wr W800 f795)
  have f802 := (Fld.other W800 f796 (Or.inl (Nat.ne_of_lt lt763)))
  have f803 := (Fld.other W800 f797 (Or.inl (Nat.ne_of_lt lt763)))
  have f804 := (Arv.other f798 W800 (Nat.ne_of_lt lt764))
  refine g_static (argsL := [(.ref bs), (.int n), (.int 6), (.int rp), (.int pp), (.int ch)]) (st := [(.int 6), (.ref b762)]) C X800 (wd hw 23 rfl) (wd hw 24 rfl) (wd hw 25 rfl) (wd hw 26 rfl) (by decide) (pay_of (W' := 2) (rpk6 l hw X800.ext bs n rp pp ch z_ SZ hz fm_ SF rf_ bt _ _ _ bc f801 f803 f802 f804 bhc bhs bhl hn hc) C.hZ (wd hw 26 rfl) (wd hw 25 rfl) (by decide) (by decide)) pd_6 rfl rfl _ rfl (Nat.le_of_eq rfl) d0_281 (by decide) (by decide) (fun T805 h805 v805 q805 X805 => ?_)
  obtain ⟨x805_, rfl, lx805, e805⟩ := q805
  subst e805
  show Goes p e below _ T805 (mkF m 284 #[.val (.int p0), .val (.int p1), .val (.int p2), .val (.int p3), .val (.int p4), s5, .val (.ref bs), .val (.int n), .val (.int kd), .val (.int rp), .val (.int pp), .val (.int ch), .val (.int 9), .val (.ref b762), .unset, .unset, .unset] [(.int x805_), (.int 6), (.ref b762)])
  refine g_castore C X805 V800_b762 n_b762 d0_284 (by decide) (by decide) (Nat.le_of_ble_eq_true rfl) (.int x805_) (own_nar lx805) (fun T806 h806 X806 W806 V806 => ?_)
  have V806_b762 : Arv Z h806 b762 k_b762 .char (9 : Int32) [(.int x769_), (.int x775_), (.int x781_), (.int x787_), (.int x793_), (.int x799_), (.int x805_), (.int 0), (.int 0)] (.int 0) := V806
  refine g_iload C X806 d0_285 rfl (g_bipush 7 C X806 d0_287 rfl (g_icmpn (hI_le _ _) C X806 d0_289 (fun q => absurd (by decide) q) (fun _ => ?_)))
  refine g_aload C X806 d0_292 rfl rfl (g_bipush 7 C X806 d0_294 rfl (g_aload C X806 d0_296 rfl rfl (g_iload C X806 d0_298 rfl (g_bipush 7 C X806 d0_300 rfl (g_iload C X806 d0_302 rfl (g_iload C X806 d0_304 rfl (g_iload C X806 d0_306 rfl ?_)))))))
  have f807 := (Exa.wr W806 f801)
  have f808 := (Fld.other W806 f802 (Or.inl (Nat.ne_of_lt lt763)))
  have f809 := (Fld.other W806 f803 (Or.inl (Nat.ne_of_lt lt763)))
  have f810 := (Arv.other f804 W806 (Nat.ne_of_lt lt764))
  refine g_static (argsL := [(.ref bs), (.int n), (.int 7), (.int rp), (.int pp), (.int ch)]) (st := [(.int 7), (.ref b762)]) C X806 (wd hw 23 rfl) (wd hw 24 rfl) (wd hw 25 rfl) (wd hw 26 rfl) (by decide) (pay_of (W' := 2) (rpk7 l hw X806.ext bs n rp pp ch z_ SZ hz fm_ SF rf_ bt _ _ _ bc f807 f809 f808 f810 bhc bhs bhl hn hc) C.hZ (wd hw 26 rfl) (wd hw 25 rfl) (by decide) (by decide)) pd_6 rfl rfl _ rfl (Nat.le_of_eq rfl) d0_308 (by decide) (by decide) (fun T811 h811 v811 q811 X811 => ?_)
  obtain ⟨x811_, rfl, lx811, e811⟩ := q811
  subst e811
  show Goes p e below _ T811 (mkF m 311 #[.val (.int p0), .val (.int p1), .val (.int p2), .val (.int p3), .val (.int p4), s5, .val (.ref bs), .val (.int n), .val (.int kd), .val (.int rp), .val (.int pp), .val (.int ch), .val (.int 9), .val (.ref b762), .unset, .unset, .unset] [(.int x811_), (.int 7), (.ref b762)])
  refine g_castore C X811 V806_b762 n_b762 d0_311 (by decide) (by decide) (Nat.le_of_ble_eq_true rfl) (.int x811_) (own_nar lx811) (fun T812 h812 X812 W812 V812 => ?_)
  have V812_b762 : Arv Z h812 b762 k_b762 .char (9 : Int32) [(.int x769_), (.int x775_), (.int x781_), (.int x787_), (.int x793_), (.int x799_), (.int x805_), (.int x811_), (.int 0)] (.int 0) := V812
  refine g_iload C X812 d0_312 rfl (g_bipush 8 C X812 d0_314 rfl (g_icmpn (hI_le _ _) C X812 d0_316 (fun q => absurd (by decide) q) (fun _ => ?_)))
  refine g_aload C X812 d0_319 rfl rfl (g_bipush 8 C X812 d0_321 rfl (g_aload C X812 d0_323 rfl rfl (g_iload C X812 d0_325 rfl (g_bipush 8 C X812 d0_327 rfl (g_iload C X812 d0_329 rfl (g_iload C X812 d0_331 rfl (g_iload C X812 d0_333 rfl ?_)))))))
  have f813 := (Exa.wr W812 f807)
  have f814 := (Fld.other W812 f808 (Or.inl (Nat.ne_of_lt lt763)))
  have f815 := (Fld.other W812 f809 (Or.inl (Nat.ne_of_lt lt763)))
  have f816 := (Arv.other f810 W812 (Nat.ne_of_lt lt764))
  refine g_static (argsL := [(.ref bs), (.int n), (.int 8), (.int rp), (.int pp), (.int ch)]) (st := [(.int 8), (.ref b762)]) C X812 (wd hw 23 rfl) (wd hw 24 rfl) (wd hw 25 rfl) (wd hw 26 rfl) (by decide) (pay_of (W' := 2) (rpk8 l hw X812.ext bs n rp pp ch z_ SZ hz fm_ SF rf_ bt _ _ _ bc f813 f815 f814 f816 bhc bhs bhl hn hc) C.hZ (wd hw 26 rfl) (wd hw 25 rfl) (by decide) (by decide)) pd_6 rfl rfl _ rfl (Nat.le_of_eq rfl) d0_335 (by decide) (by decide) (fun T817 h817 v817 q817 X817 => ?_)
  obtain ⟨x817_, rfl, lx817, e817⟩ := q817
  subst e817
  show Goes p e below _ T817 (mkF m 338 #[.val (.int p0), .val (.int p1), .val (.int p2), .val (.int p3), .val (.int p4), s5, .val (.ref bs), .val (.int n), .val (.int kd), .val (.int rp), .val (.int pp), .val (.int ch), .val (.int 9), .val (.ref b762), .unset, .unset, .unset] [(.int x817_), (.int 8), (.ref b762)])
  refine g_castore C X817 V812_b762 n_b762 d0_338 (by decide) (by decide) (Nat.le_of_ble_eq_true rfl) (.int x817_) (own_nar lx817) (fun T818 h818 X818 W818 V818 => ?_)
  have V818_b762 : Arv Z h818 b762 k_b762 .char (9 : Int32) [(.int x769_), (.int x775_), (.int x781_), (.int x787_), (.int x793_), (.int x799_), (.int x805_), (.int x811_), (.int x817_)] (.int 0) := V818
  refine g_iload C X818 d0_339 rfl (g_iconst 3 C X818 d0_341 rfl (g_icmpn (hI_ne _ _) C X818 d0_342 (fun c342_819 => ?_) (fun c342_819 => ?_)))
  · refine g_new C X818 (wd hw 80 rfl) (wd hw 2 rfl) (wd hw 1 rfl) d0_349 (by decide) (by decide) (fun T820 h820 b820 g_b820 n_b820 X820 E820 A820 D820 M820 => ?_)
    have f821 := (Exa.wr W818 f813)
    have lt822 : bs < b820 := by rw [g_b820]; exact Exa.lt f821
    have f823 := (Arv.other f816 W818 (Nat.ne_of_lt lt764))
    have lt824 : bt < b820 := by rw [g_b820]; exact Arv.lt f823
    have lt825 : b762 < b820 := by rw [g_b820]; exact Arv.lt V818_b762
    have F_value_b820 : Fld Z h820 b820 "java/lang/String" "value" "[B" .null := D820 (Or.inr (wd hw 4 rfl)) (ty := (.array .byte)) (by decide)
    have F_coder_b820 : Fld Z h820 b820 "java/lang/String" "coder" "B" (.int 0) := D820 (Or.inr (wd hw 5 rfl)) (ty := .byte) (by decide)
    refine g_dup C X820 d0_352 rfl (g_aload C X820 d0_353 rfl rfl ?_)
    have hp826 : ∀ c ∈ [x769_, x775_, x781_, x787_, x793_, x799_, x805_, x811_, x817_], ¬ c < 0 ∧ ¬ (255 : Int32) < c := (List.forall_mem_cons.mpr ⟨lx769, (List.forall_mem_cons.mpr ⟨lx775, (List.forall_mem_cons.mpr ⟨lx781, (List.forall_mem_cons.mpr ⟨lx787, (List.forall_mem_cons.mpr ⟨lx793, (List.forall_mem_cons.mpr ⟨lx799, (List.forall_mem_cons.mpr ⟨lx805, (List.forall_mem_cons.mpr ⟨lx811, (List.forall_mem_cons.mpr ⟨lx817, (fun _ q => nomatch q)⟩)⟩)⟩)⟩)⟩)⟩)⟩)⟩)⟩)
    have f828 := (Arv.ext V818_b762 E820)
    refine g_special (argsL := [(.ref b762)]) (st := [(.ref b820)]) C X820 rfl (wd hw 81 rfl) (wd hw 82 rfl) (wd hw 83 rfl) (by decide) (payV (W' := 1) (cs := [x769_, x775_, x781_, x787_, x793_, x799_, x805_, x811_, x817_]) (n := 9) C.hZ X820.ext (own_words hw) (kI := 4) (wd hw 2 rfl) n_b820 A820 F_value_b820 F_coder_b820 f828 SZ hz rfl rfl (by decide) (by decide) hp826 (by decide) (by decide)) pd_5 rfl rfl _ rfl (Nat.le_of_eq rfl) d0_355 (by decide) (by decide) (fun T827 h827 v827 q827 X827 => ?_)
    obtain ⟨rfl, K827, EX827, FC827, t827, k_t827, nt0_827, gt827, nt827, FV827, VT827⟩ := q827
    have f830 := (Exa.ext E820 f821)
    have lt829 : bs < t827 := Nat.lt_of_lt_of_le (Exa.lt f830) gt827
    have f832 := (Arv.ext f823 E820)
    have lt831 : bt < t827 := Nat.lt_of_lt_of_le (Arv.lt f832) gt827
    have lt833 : b762 < t827 := Nat.lt_of_lt_of_le (Arv.lt f828) gt827
    have lt834 : b820 < t827 := Nat.lt_of_lt_of_le (Exa.lt A820) gt827
    show Goes p e below _ T827 (mkF m 358 #[.val (.int p0), .val (.int p1), .val (.int p2), .val (.int p3), .val (.int p4), s5, .val (.ref bs), .val (.int n), .val (.int kd), .val (.int rp), .val (.int pp), .val (.int ch), .val (.int 9), .val (.ref b762), .unset, .unset, .unset] [(.ref b820)])
    refine g_astore C X827 d0_358 rfl (l' := #[.val (.int p0), .val (.int p1), .val (.int p2), .val (.int p3), .val (.int p4), s5, .val (.ref bs), .val (.int n), .val (.int kd), .val (.int rp), .val (.int pp), .val (.int ch), .val (.int 9), .val (.ref b762), .val (.ref b820), .unset, .unset]) rfl ?_
    have sz835 : h.size ≤ b762 := by rw [g_b762]; exact (Keep.refl h []).1
    have kp836 := (Keep.refl h []).ext E762
    have kp837 := kp836.wr W770 (Or.inr sz835)
    have kp838 := kp837.wr W776 (Or.inr sz835)
    have kp839 := kp838.wr W782 (Or.inr sz835)
    have kp840 := kp839.wr W788 (Or.inr sz835)
    have kp841 := kp840.wr W794 (Or.inr sz835)
    have kp842 := kp841.wr W800 (Or.inr sz835)
    have kp843 := kp842.wr W806 (Or.inr sz835)
    have kp844 := kp843.wr W812 (Or.inr sz835)
    have kp845 := kp844.wr W818 (Or.inr sz835)
    have sz846 : h.size ≤ b820 := by rw [g_b820]; exact kp845.1
    have kp847 := kp845.ext E820
    have kp848 := kp847.trans K827 (allS (Or.inr sz846) all0)
    have I849 := Lits.keep I0 kp848 sf0
    have f850 := (Arv.keep f828 K827 (ninS (Nat.ne_of_lt lt825) nin0))
    have Y851 := X827.more (cells' := 12) (slots' := 200) (by decide) (by decide)
    exact segS hw (.val (.int p0)) (.val (.int p1)) (.val (.int p2)) (.val (.int p3)) (.val (.int p4)) (s5) (.val (.ref bs)) (.val (.int n)) (.val (.int kd)) (.val (.int rp)) (.val (.int pp)) (.val (.int ch)) (.val (.int 9)) (.val (.ref b762)) p_1 p_7 p_11 p_15 p_19 p_23 p_27 p_31 p_35 p_40 p_46 p_52 p_58 k_64 k_66 k_68 k_70 k_72 z_ SZ hz b820 t827 _ _ _ [x769_, x775_, x781_, x787_, x793_, x799_, x805_, x811_, x817_] C Y851 I849 S_3 E_6 S_9 E_10 S_13 E_14 S_17 E_18 S_21 E_22 F_25 E_26 F_29 E_30 F_33 E_34 F_37 E_38 F_39 F_42 F_45 F_48 F_51 F_54 F_57 F_60 V_63 V_65 V_67 V_69 V_71 EX827 FC827 FV827 VT827 (own_cod rfl rfl hp826) hp826 (Nat.le_of_ble_eq_true rfl)
  · refine g_aconst_null C X818 d0_345 (g_goto C X818 d0_346 (g_astore C X818 d0_358 rfl (l' := #[.val (.int p0), .val (.int p1), .val (.int p2), .val (.int p3), .val (.int p4), s5, .val (.ref bs), .val (.int n), .val (.int kd), .val (.int rp), .val (.int pp), .val (.int ch), .val (.int 9), .val (.ref b762), .val .null, .unset, .unset]) rfl ?_))
    have sz852 : h.size ≤ b762 := by rw [g_b762]; exact (Keep.refl h []).1
    have kp853 := (Keep.refl h []).ext E762
    have kp854 := kp853.wr W770 (Or.inr sz852)
    have kp855 := kp854.wr W776 (Or.inr sz852)
    have kp856 := kp855.wr W782 (Or.inr sz852)
    have kp857 := kp856.wr W788 (Or.inr sz852)
    have kp858 := kp857.wr W794 (Or.inr sz852)
    have kp859 := kp858.wr W800 (Or.inr sz852)
    have kp860 := kp859.wr W806 (Or.inr sz852)
    have kp861 := kp860.wr W812 (Or.inr sz852)
    have kp862 := kp861.wr W818 (Or.inr sz852)
    have I863 := Lits.keep I0 kp862 sf0
    have Y864 := X818.more (cells' := 12) (slots' := 200) (by decide) (by decide)
    exact segN hw (.val (.int p0)) (.val (.int p1)) (.val (.int p2)) (.val (.int p3)) (.val (.int p4)) (s5) (.val (.ref bs)) (.val (.int n)) (.val (.int kd)) (.val (.int rp)) (.val (.int pp)) (.val (.int ch)) (.val (.int 9)) (.val (.ref b762)) p_1 p_7 p_11 p_15 p_19 p_23 p_27 p_31 p_35 p_40 p_46 p_52 p_58 k_64 k_66 k_68 k_70 k_72 z_ SZ hz C Y864 I863 S_3 E_6 S_9 E_10 S_13 E_14 S_17 E_18 S_21 E_22 F_25 E_26 F_29 E_30 F_33 E_34 F_37 E_38 F_39 F_42 F_45 F_48 F_51 F_54 F_57 F_60 V_63 V_65 V_67 V_69 V_71
theorem d0_47 : Dc code 47 (.aload 6) 2 49 := ⟨at_47, rfl⟩
theorem d0_49 : Dc code 49 (.invokevirtual 21) 3 52 := ⟨at_49, rfl⟩
theorem pd_7 : parseMethodDescriptor "()I" = some ⟨[], some .int⟩ := by decide +kernel
theorem d0_52 : Dc code 52 (.istore 7) 2 54 := ⟨at_52, rfl⟩
theorem d0_54 : Dc code 54 (.iload_n 1) 1 55 := ⟨at_54, rfl⟩
theorem d0_55 : Dc code 55 (.iconst 3) 1 56 := ⟨at_55, rfl⟩
theorem d0_56 : Dc code 56 (.iand) 1 57 := ⟨at_56, rfl⟩
theorem d0_57 : Dc code 57 (.istore 8) 2 59 := ⟨at_57, rfl⟩
theorem d0_59 : Dc code 59 (.iload 8) 2 61 := ⟨at_59, rfl⟩
theorem d0_61 : Dc code 61 (.iconst 1) 1 62 := ⟨at_61, rfl⟩
theorem d0_62 : Dj code 62 (.if_icmp .ne 7) 7 3 65 69 := ⟨at_62, rfl, by decide, by decide⟩
theorem d0_69 : Dc code 69 (.iconst 0) 1 70 := ⟨at_69, rfl⟩
theorem d0_70 : Dc code 70 (.istore 9) 2 72 := ⟨at_70, rfl⟩
theorem d0_72 : Dc code 72 (.iload_n 2) 1 73 := ⟨at_72, rfl⟩
theorem d0_73 : Dc code 73 (.ldc 25) 2 75 := ⟨at_73, rfl⟩
theorem d0_75 : Dc code 75 (.iand) 1 76 := ⟨at_75, rfl⟩
theorem d0_76 : Dc code 76 (.iload 7) 2 78 := ⟨at_76, rfl⟩
theorem d0_78 : Dc code 78 (.irem) 1 79 := ⟨at_78, rfl⟩
theorem d0_79 : Dc code 79 (.istore 10) 2 81 := ⟨at_79, rfl⟩
theorem d0_81 : Dc code 81 (.iload_n 3) 1 82 := ⟨at_81, rfl⟩
theorem d0_82 : Dc code 82 (.sipush 255) 3 85 := ⟨at_82, rfl⟩
theorem d0_85 : Dc code 85 (.iand) 1 86 := ⟨at_85, rfl⟩
theorem d0_86 : Dc code 86 (.i2c) 1 87 := ⟨at_86, rfl⟩
theorem d0_87 : Dc code 87 (.istore 11) 2 89 := ⟨at_87, rfl⟩
theorem d0_89 : Dc code 89 (.iload 7) 2 91 := ⟨at_89, rfl⟩
theorem d0_91 : Dc code 91 (.istore 12) 2 93 := ⟨at_91, rfl⟩
theorem d0_93 : Dc code 93 (.iload 8) 2 95 := ⟨at_93, rfl⟩
theorem d0_95 : Dc code 95 (.iconst 2) 1 96 := ⟨at_95, rfl⟩
theorem d0_96 : Dj code 96 (.if_icmp .ne 13) 13 3 99 109 := ⟨at_96, rfl, by decide, by decide⟩
theorem d0_99 : Dc code 99 (.iload 4) 2 101 := ⟨at_99, rfl⟩
theorem d0_101 : Dc code 101 (.ldc 25) 2 103 := ⟨at_101, rfl⟩
theorem d0_103 : Dc code 103 (.iand) 1 104 := ⟨at_103, rfl⟩
theorem d0_104 : Dc code 104 (.bipush 10) 2 106 := ⟨at_104, rfl⟩
theorem d0_106 : Dc code 106 (.irem) 1 107 := ⟨at_106, rfl⟩
theorem d0_107 : Dc code 107 (.istore 12) 2 109 := ⟨at_107, rfl⟩
theorem d0_65 : Dc code 65 (.iconst 1) 1 66 := ⟨at_65, rfl⟩
theorem d0_66 : Dj code 66 (.goto 4) 4 3 69 70 := ⟨at_66, rfl, by decide, by decide⟩
theorem seg47 {p : Program} {l : Launch} {e : Env} {s : State} {m : MethodId} {A : Array Value} {below : List Frame} {meth : Method} {c : Code} {Z : State} {a0 : Array Value} (hw : ∀ d ∈ tables_1, d.before a0 Z = true) {T0 : State} {h : Heap} {vm0 : Vm} (p0 p1 p2 p3 p4 : Int32) (s5 : Slot) (n : Int32) (p_1 p_7 p_11 p_15 p_19 p_23 p_27 p_31 p_35 p_40 p_46 p_52 p_58 : Addr) (k_64 k_66 k_68 k_70 k_72 : ClassId) (z_ : Int32) (SZ : Sta Z Z.heap "java/lang/String" "COMPACT_STRINGS" "Z" (.int z_)) (hz : ¬ z_ = 0) (fm_ : Value) (SF : Sta Z Z.heap "jdk/internal/util/Preconditions" "SIOOBE_FORMATTER" "Ljava/util/function/BiFunction;" fm_) (rf_ : fm_.isRef = true) (bs : Addr) (bt : Addr) (bk : ClassId) (bN : Int32) (bv : List Value) (bc : List Int32) (C : Cx p (s.setVm vm0) m meth c Z "com/example/indie_lease/indielease/model/LicenseStatusOfCodePinLaw" "law" code maxLocals ret) (X0 : St p l e room_1 (s.setVm vm0) m A below meth c Z T0 h 2 36) (I0 : Lits Z consts_1 s vm0 h) (S_3 : Sta Z Z.heap "com/example/indie_lease/indielease/model/LicenseStatus" "$VALUES" "[Lcom/example/indie_lease/indielease/model/LicenseStatus;" (.ref p_1)) (E_6 : Exa Z Z.heap p_1 "[Lcom/example/indie_lease/indielease/model/LicenseStatus;") (S_9 : Sta Z Z.heap "com/example/indie_lease/indielease/model/LicenseStatus" "ACTIVE" "Lcom/example/indie_lease/indielease/model/LicenseStatus;" (.ref p_7)) (E_10 : Exa Z Z.heap p_7 "com/example/indie_lease/indielease/model/LicenseStatus") (S_13 : Sta Z Z.heap "com/example/indie_lease/indielease/model/LicenseStatus" "FALLBACK" "Lcom/example/indie_lease/indielease/model/LicenseStatus;" (.ref p_11)) (E_14 : Exa Z Z.heap p_11 "com/example/indie_lease/indielease/model/LicenseStatus") (S_17 : Sta Z Z.heap "com/example/indie_lease/indielease/model/LicenseStatus" "EXPIRED" "Lcom/example/indie_lease/indielease/model/LicenseStatus;" (.ref p_15)) (E_18 : Exa Z Z.heap p_15 "com/example/indie_lease/indielease/model/LicenseStatus") (S_21 : Sta Z Z.heap "com/example/indie_lease/indielease/model/LicenseStatus" "REVOKED" "Lcom/example/indie_lease/indielease/model/LicenseStatus;" (.ref p_19)) (E_22 : Exa Z Z.heap p_19 "com/example/indie_lease/indielease/model/LicenseStatus") (F_25 : Fld Z Z.heap p_7 "com/example/indie_lease/indielease/model/LicenseStatus" "code" "Ljava/lang/String;" (.ref p_23)) (E_26 : Exa Z Z.heap p_23 "java/lang/String") (F_29 : Fld Z Z.heap p_11 "com/example/indie_lease/indielease/model/LicenseStatus" "code" "Ljava/lang/String;" (.ref p_27)) (E_30 : Exa Z Z.heap p_27 "java/lang/String") (F_33 : Fld Z Z.heap p_15 "com/example/indie_lease/indielease/model/LicenseStatus" "code" "Ljava/lang/String;" (.ref p_31)) (E_34 : Exa Z Z.heap p_31 "java/lang/String") (F_37 : Fld Z Z.heap p_19 "com/example/indie_lease/indielease/model/LicenseStatus" "code" "Ljava/lang/String;" (.ref p_35)) (E_38 : Exa Z Z.heap p_35 "java/lang/String") (F_39 : Fld Z Z.heap p_23 "java/lang/String" "coder" "B" (.int 0)) (F_42 : Fld Z Z.heap p_23 "java/lang/String" "value" "[B" (.ref p_40)) (F_45 : Fld Z Z.heap p_27 "java/lang/String" "coder" "B" (.int 0)) (F_48 : Fld Z Z.heap p_27 "java/lang/String" "value" "[B" (.ref p_46)) (F_51 : Fld Z Z.heap p_31 "java/lang/String" "coder" "B" (.int 0)) (F_54 : Fld Z Z.heap p_31 "java/lang/String" "value" "[B" (.ref p_52)) (F_57 : Fld Z Z.heap p_35 "java/lang/String" "coder" "B" (.int 0)) (F_60 : Fld Z Z.heap p_35 "java/lang/String" "value" "[B" (.ref p_58)) (V_63 : Arv Z Z.heap p_1 k_64 (.object "com/example/indie_lease/indielease/model/LicenseStatus") 4 [(.ref p_7), (.ref p_11), (.ref p_15), (.ref p_19)] .null) (V_65 : Arv Z Z.heap p_40 k_66 .byte 6 [(.int 97), (.int 99), (.int 116), (.int 105), (.int 118), (.int 101)] (.int 0)) (V_67 : Arv Z Z.heap p_46 k_68 .byte 8 [(.int 102), (.int 97), (.int 108), (.int 108), (.int 98), (.int 97), (.int 99), (.int 107)] (.int 0)) (V_69 : Arv Z Z.heap p_52 k_70 .byte 7 [(.int 101), (.int 120), (.int 112), (.int 105), (.int 114), (.int 101), (.int 100)] (.int 0)) (V_71 : Arv Z Z.heap p_58 k_72 .byte 7 [(.int 114), (.int 101), (.int 118), (.int 111), (.int 107), (.int 101), (.int 100)] (.int 0)) (bEX : Exa Z h bs "java/lang/String") (bFC : Fld Z h bs "java/lang/String" "coder" "B" (.int (0 : Int32))) (bFV : Fld Z h bs "java/lang/String" "value" "[B" (.ref bt)) (bVT : Arv Z h bt bk .byte bN bv (.int (0 : Int32))) (bhc : StrChars.Road.CodA bc 0 bN bv) (bhs : ∀ c ∈ bc, ¬ c < 0 ∧ ¬ (255 : Int32) < c) (bhl : bc.length ≤ 4000) (hn : Int32.ofNat bc.length = n) (hn3 : n = 6 ∨ n = 7 ∨ n = 8) :
    Goes p e below (EndL Z consts_1 s 32 5312 (fun v' h' => v' = some (.int 1))) T0 (mkF m 47 #[.val (.int p0), .val (.int p1), .val (.int p2), .val (.int p3), .val (.int p4), s5, .val (.ref bs), .unset, .unset, .unset, .unset, .unset, .unset, .unset, .unset, .unset, .unset] []) := by
  refine g_aload C X0 d0_47 rfl rfl (g_virtualP (argsL := []) (st := []) C X0 (wd hw 8 rfl) (wd hw 9 rfl) (nf_of C (wd hw 11 rfl) rfl rfl) (wd hw 11 rfl) (wd hw 10 rfl) (by decide) bEX (payLen (W' := 0) C.hZ X0.ext (own_wordsLen hw) (kI := 4) (wd hw 2 rfl) (cs := bc) bEX bFV bFC bVT bhc bhs bhl SZ hz (by decide) (by decide) n hn) pd_7 rfl rfl _ rfl (Nat.le_of_eq rfl) d0_49 (by decide) (by decide) (fun T865 X865 => ?_))
  refine g_istore C X865 d0_52 (l' := #[.val (.int p0), .val (.int p1), .val (.int p2), .val (.int p3), .val (.int p4), s5, .val (.ref bs), .val (.int n), .unset, .unset, .unset, .unset, .unset, .unset, .unset, .unset, .unset]) rfl (g_iloadN C X865 d0_54 rfl (g_iconst 3 C X865 d0_55 rfl (g_iand C X865 d0_56 (g_istore C X865 d0_57 (l' := #[.val (.int p0), .val (.int p1), .val (.int p2), .val (.int p3), .val (.int p4), s5, .val (.ref bs), .val (.int n), .val (.int (p1 &&& (3 : Int32))), .unset, .unset, .unset, .unset, .unset, .unset, .unset, .unset]) rfl (g_iload C X865 d0_59 rfl (g_iconst 1 C X865 d0_61 rfl (g_icmpn (hI_ne _ _) C X865 d0_62 (fun c62_866 => ?_) (fun c62_866 => ?_))))))))
  · refine g_iconst 0 C X865 d0_69 rfl (g_istore C X865 d0_70 (l' := #[.val (.int p0), .val (.int p1), .val (.int p2), .val (.int p3), .val (.int p4), s5, .val (.ref bs), .val (.int n), .val (.int (p1 &&& (3 : Int32))), .val (.int 0), .unset, .unset, .unset, .unset, .unset, .unset, .unset]) rfl (g_iloadN C X865 d0_72 rfl (g_ldcI C X865 (wd hw 21 rfl) d0_73 (g_iand C X865 d0_75 (g_iload C X865 d0_76 rfl (g_irem C X865 d0_78 (by rcases hn3 with e | e | e <;> subst e <;> decide) (g_istore C X865 d0_79 (l' := #[.val (.int p0), .val (.int p1), .val (.int p2), .val (.int p3), .val (.int p4), s5, .val (.ref bs), .val (.int n), .val (.int (p1 &&& (3 : Int32))), .val (.int 0), .val (.int ((p2 &&& (2147483647 : Int32)) % n)), .unset, .unset, .unset, .unset, .unset, .unset]) rfl (g_iloadN C X865 d0_81 rfl (g_sipush 255 C X865 d0_82 rfl (g_iand C X865 d0_85 (g_i2c C X865 d0_86 ?_)))))))))))
    refine g_istore C X865 d0_87 (l' := #[.val (.int p0), .val (.int p1), .val (.int p2), .val (.int p3), .val (.int p4), s5, .val (.ref bs), .val (.int n), .val (.int (p1 &&& (3 : Int32))), .val (.int 0), .val (.int ((p2 &&& (2147483647 : Int32)) % n)), .val (.int ((p3 &&& (255 : Int32)).toUInt32.toUInt16.toUInt32.toInt32)), .unset, .unset, .unset, .unset, .unset]) rfl (g_iload C X865 d0_89 rfl (g_istore C X865 d0_91 (l' := #[.val (.int p0), .val (.int p1), .val (.int p2), .val (.int p3), .val (.int p4), s5, .val (.ref bs), .val (.int n), .val (.int (p1 &&& (3 : Int32))), .val (.int 0), .val (.int ((p2 &&& (2147483647 : Int32)) % n)), .val (.int ((p3 &&& (255 : Int32)).toUInt32.toUInt16.toUInt32.toInt32)), .val (.int n), .unset, .unset, .unset, .unset]) rfl (g_iload C X865 d0_93 rfl (g_iconst 2 C X865 d0_95 rfl (g_icmpn (hI_ne _ _) C X865 d0_96 (fun c96_867 => ?_) (fun c96_867 => ?_))))))
    · have Y868 := X865.more (cells' := 2) (slots' := 36) (by decide) (by decide)
      rcases hn3 with e | e | e <;> subst e
      · exact segL6 hw p0 p1 p2 p3 p4 (s5) ((6 : Int32)) ((p1 &&& (3 : Int32))) ((0 : Int32)) (((p2 &&& (2147483647 : Int32)) % (6 : Int32))) (((p3 &&& (255 : Int32)).toUInt32.toUInt16.toUInt32.toInt32)) p_1 p_7 p_11 p_15 p_19 p_23 p_27 p_31 p_35 p_40 p_46 p_52 p_58 k_64 k_66 k_68 k_70 k_72 z_ SZ hz fm_ SF rf_ bs bt _ _ _ bc C Y868 I0 S_3 E_6 S_9 E_10 S_13 E_14 S_17 E_18 S_21 E_22 F_25 E_26 F_29 E_30 F_33 E_34 F_37 E_38 F_39 F_42 F_45 F_48 F_51 F_54 F_57 F_60 V_63 V_65 V_67 V_69 V_71 bEX bFC bFV bVT bhc bhs bhl hn (own_latc _)
      · exact segL7 hw p0 p1 p2 p3 p4 (s5) ((7 : Int32)) ((p1 &&& (3 : Int32))) ((0 : Int32)) (((p2 &&& (2147483647 : Int32)) % (7 : Int32))) (((p3 &&& (255 : Int32)).toUInt32.toUInt16.toUInt32.toInt32)) p_1 p_7 p_11 p_15 p_19 p_23 p_27 p_31 p_35 p_40 p_46 p_52 p_58 k_64 k_66 k_68 k_70 k_72 z_ SZ hz fm_ SF rf_ bs bt _ _ _ bc C Y868 I0 S_3 E_6 S_9 E_10 S_13 E_14 S_17 E_18 S_21 E_22 F_25 E_26 F_29 E_30 F_33 E_34 F_37 E_38 F_39 F_42 F_45 F_48 F_51 F_54 F_57 F_60 V_63 V_65 V_67 V_69 V_71 bEX bFC bFV bVT bhc bhs bhl hn (own_latc _)
      · exact segL8 hw p0 p1 p2 p3 p4 (s5) ((8 : Int32)) ((p1 &&& (3 : Int32))) ((0 : Int32)) (((p2 &&& (2147483647 : Int32)) % (8 : Int32))) (((p3 &&& (255 : Int32)).toUInt32.toUInt16.toUInt32.toInt32)) p_1 p_7 p_11 p_15 p_19 p_23 p_27 p_31 p_35 p_40 p_46 p_52 p_58 k_64 k_66 k_68 k_70 k_72 z_ SZ hz fm_ SF rf_ bs bt _ _ _ bc C Y868 I0 S_3 E_6 S_9 E_10 S_13 E_14 S_17 E_18 S_21 E_22 F_25 E_26 F_29 E_30 F_33 E_34 F_37 E_38 F_39 F_42 F_45 F_48 F_51 F_54 F_57 F_60 V_63 V_65 V_67 V_69 V_71 bEX bFC bFV bVT bhc bhs bhl hn (own_latc _)
    · refine g_iload C X865 d0_99 rfl (g_ldcI C X865 (wd hw 21 rfl) d0_101 (g_iand C X865 d0_103 (g_bipush 10 C X865 d0_104 rfl (g_irem C X865 d0_106 (by decide) (g_istore C X865 d0_107 (l' := #[.val (.int p0), .val (.int p1), .val (.int p2), .val (.int p3), .val (.int p4), s5, .val (.ref bs), .val (.int n), .val (.int (p1 &&& (3 : Int32))), .val (.int 0), .val (.int ((p2 &&& (2147483647 : Int32)) % n)), .val (.int ((p3 &&& (255 : Int32)).toUInt32.toUInt16.toUInt32.toInt32)), .val (.int ((p4 &&& (2147483647 : Int32)) % (10 : Int32))), .unset, .unset, .unset, .unset]) rfl ?_)))))
      have Y869 := X865.more (cells' := 2) (slots' := 36) (by decide) (by decide)
      rcases own_n10 p4 with e10 | e10 | e10 | e10 | e10 | e10 | e10 | e10 | e10 | e10
      · rw [e10]
        exact segL0 hw p0 p1 p2 p3 p4 (s5) (n) ((p1 &&& (3 : Int32))) ((0 : Int32)) (((p2 &&& (2147483647 : Int32)) % n)) (((p3 &&& (255 : Int32)).toUInt32.toUInt16.toUInt32.toInt32)) p_1 p_7 p_11 p_15 p_19 p_23 p_27 p_31 p_35 p_40 p_46 p_52 p_58 k_64 k_66 k_68 k_70 k_72 z_ SZ hz fm_ SF rf_ bs bt _ _ _ bc C Y869 I0 S_3 E_6 S_9 E_10 S_13 E_14 S_17 E_18 S_21 E_22 F_25 E_26 F_29 E_30 F_33 E_34 F_37 E_38 F_39 F_42 F_45 F_48 F_51 F_54 F_57 F_60 V_63 V_65 V_67 V_69 V_71 bEX bFC bFV bVT bhc bhs bhl hn (own_latc _)
      · rw [e10]
        exact segL1 hw p0 p1 p2 p3 p4 (s5) (n) ((p1 &&& (3 : Int32))) ((0 : Int32)) (((p2 &&& (2147483647 : Int32)) % n)) (((p3 &&& (255 : Int32)).toUInt32.toUInt16.toUInt32.toInt32)) p_1 p_7 p_11 p_15 p_19 p_23 p_27 p_31 p_35 p_40 p_46 p_52 p_58 k_64 k_66 k_68 k_70 k_72 z_ SZ hz fm_ SF rf_ bs bt _ _ _ bc C Y869 I0 S_3 E_6 S_9 E_10 S_13 E_14 S_17 E_18 S_21 E_22 F_25 E_26 F_29 E_30 F_33 E_34 F_37 E_38 F_39 F_42 F_45 F_48 F_51 F_54 F_57 F_60 V_63 V_65 V_67 V_69 V_71 bEX bFC bFV bVT bhc bhs bhl hn (own_latc _)
      · rw [e10]
        exact segL2 hw p0 p1 p2 p3 p4 (s5) (n) ((p1 &&& (3 : Int32))) ((0 : Int32)) (((p2 &&& (2147483647 : Int32)) % n)) (((p3 &&& (255 : Int32)).toUInt32.toUInt16.toUInt32.toInt32)) p_1 p_7 p_11 p_15 p_19 p_23 p_27 p_31 p_35 p_40 p_46 p_52 p_58 k_64 k_66 k_68 k_70 k_72 z_ SZ hz fm_ SF rf_ bs bt _ _ _ bc C Y869 I0 S_3 E_6 S_9 E_10 S_13 E_14 S_17 E_18 S_21 E_22 F_25 E_26 F_29 E_30 F_33 E_34 F_37 E_38 F_39 F_42 F_45 F_48 F_51 F_54 F_57 F_60 V_63 V_65 V_67 V_69 V_71 bEX bFC bFV bVT bhc bhs bhl hn (own_latc _)
      · rw [e10]
        exact segL3 hw p0 p1 p2 p3 p4 (s5) (n) ((p1 &&& (3 : Int32))) ((0 : Int32)) (((p2 &&& (2147483647 : Int32)) % n)) (((p3 &&& (255 : Int32)).toUInt32.toUInt16.toUInt32.toInt32)) p_1 p_7 p_11 p_15 p_19 p_23 p_27 p_31 p_35 p_40 p_46 p_52 p_58 k_64 k_66 k_68 k_70 k_72 z_ SZ hz fm_ SF rf_ bs bt _ _ _ bc C Y869 I0 S_3 E_6 S_9 E_10 S_13 E_14 S_17 E_18 S_21 E_22 F_25 E_26 F_29 E_30 F_33 E_34 F_37 E_38 F_39 F_42 F_45 F_48 F_51 F_54 F_57 F_60 V_63 V_65 V_67 V_69 V_71 bEX bFC bFV bVT bhc bhs bhl hn (own_latc _)
      · rw [e10]
        exact segL4 hw p0 p1 p2 p3 p4 (s5) (n) ((p1 &&& (3 : Int32))) ((0 : Int32)) (((p2 &&& (2147483647 : Int32)) % n)) (((p3 &&& (255 : Int32)).toUInt32.toUInt16.toUInt32.toInt32)) p_1 p_7 p_11 p_15 p_19 p_23 p_27 p_31 p_35 p_40 p_46 p_52 p_58 k_64 k_66 k_68 k_70 k_72 z_ SZ hz fm_ SF rf_ bs bt _ _ _ bc C Y869 I0 S_3 E_6 S_9 E_10 S_13 E_14 S_17 E_18 S_21 E_22 F_25 E_26 F_29 E_30 F_33 E_34 F_37 E_38 F_39 F_42 F_45 F_48 F_51 F_54 F_57 F_60 V_63 V_65 V_67 V_69 V_71 bEX bFC bFV bVT bhc bhs bhl hn (own_latc _)
      · rw [e10]
        exact segL5 hw p0 p1 p2 p3 p4 (s5) (n) ((p1 &&& (3 : Int32))) ((0 : Int32)) (((p2 &&& (2147483647 : Int32)) % n)) (((p3 &&& (255 : Int32)).toUInt32.toUInt16.toUInt32.toInt32)) p_1 p_7 p_11 p_15 p_19 p_23 p_27 p_31 p_35 p_40 p_46 p_52 p_58 k_64 k_66 k_68 k_70 k_72 z_ SZ hz fm_ SF rf_ bs bt _ _ _ bc C Y869 I0 S_3 E_6 S_9 E_10 S_13 E_14 S_17 E_18 S_21 E_22 F_25 E_26 F_29 E_30 F_33 E_34 F_37 E_38 F_39 F_42 F_45 F_48 F_51 F_54 F_57 F_60 V_63 V_65 V_67 V_69 V_71 bEX bFC bFV bVT bhc bhs bhl hn (own_latc _)
      · rw [e10]
        exact segL6 hw p0 p1 p2 p3 p4 (s5) (n) ((p1 &&& (3 : Int32))) ((0 : Int32)) (((p2 &&& (2147483647 : Int32)) % n)) (((p3 &&& (255 : Int32)).toUInt32.toUInt16.toUInt32.toInt32)) p_1 p_7 p_11 p_15 p_19 p_23 p_27 p_31 p_35 p_40 p_46 p_52 p_58 k_64 k_66 k_68 k_70 k_72 z_ SZ hz fm_ SF rf_ bs bt _ _ _ bc C Y869 I0 S_3 E_6 S_9 E_10 S_13 E_14 S_17 E_18 S_21 E_22 F_25 E_26 F_29 E_30 F_33 E_34 F_37 E_38 F_39 F_42 F_45 F_48 F_51 F_54 F_57 F_60 V_63 V_65 V_67 V_69 V_71 bEX bFC bFV bVT bhc bhs bhl hn (own_latc _)
      · rw [e10]
        exact segL7 hw p0 p1 p2 p3 p4 (s5) (n) ((p1 &&& (3 : Int32))) ((0 : Int32)) (((p2 &&& (2147483647 : Int32)) % n)) (((p3 &&& (255 : Int32)).toUInt32.toUInt16.toUInt32.toInt32)) p_1 p_7 p_11 p_15 p_19 p_23 p_27 p_31 p_35 p_40 p_46 p_52 p_58 k_64 k_66 k_68 k_70 k_72 z_ SZ hz fm_ SF rf_ bs bt _ _ _ bc C Y869 I0 S_3 E_6 S_9 E_10 S_13 E_14 S_17 E_18 S_21 E_22 F_25 E_26 F_29 E_30 F_33 E_34 F_37 E_38 F_39 F_42 F_45 F_48 F_51 F_54 F_57 F_60 V_63 V_65 V_67 V_69 V_71 bEX bFC bFV bVT bhc bhs bhl hn (own_latc _)
      · rw [e10]
        exact segL8 hw p0 p1 p2 p3 p4 (s5) (n) ((p1 &&& (3 : Int32))) ((0 : Int32)) (((p2 &&& (2147483647 : Int32)) % n)) (((p3 &&& (255 : Int32)).toUInt32.toUInt16.toUInt32.toInt32)) p_1 p_7 p_11 p_15 p_19 p_23 p_27 p_31 p_35 p_40 p_46 p_52 p_58 k_64 k_66 k_68 k_70 k_72 z_ SZ hz fm_ SF rf_ bs bt _ _ _ bc C Y869 I0 S_3 E_6 S_9 E_10 S_13 E_14 S_17 E_18 S_21 E_22 F_25 E_26 F_29 E_30 F_33 E_34 F_37 E_38 F_39 F_42 F_45 F_48 F_51 F_54 F_57 F_60 V_63 V_65 V_67 V_69 V_71 bEX bFC bFV bVT bhc bhs bhl hn (own_latc _)
      · rw [e10]
        exact segL9 hw p0 p1 p2 p3 p4 (s5) (n) ((p1 &&& (3 : Int32))) ((0 : Int32)) (((p2 &&& (2147483647 : Int32)) % n)) (((p3 &&& (255 : Int32)).toUInt32.toUInt16.toUInt32.toInt32)) p_1 p_7 p_11 p_15 p_19 p_23 p_27 p_31 p_35 p_40 p_46 p_52 p_58 k_64 k_66 k_68 k_70 k_72 z_ SZ hz fm_ SF rf_ bs bt _ _ _ bc C Y869 I0 S_3 E_6 S_9 E_10 S_13 E_14 S_17 E_18 S_21 E_22 F_25 E_26 F_29 E_30 F_33 E_34 F_37 E_38 F_39 F_42 F_45 F_48 F_51 F_54 F_57 F_60 V_63 V_65 V_67 V_69 V_71 bEX bFC bFV bVT bhc bhs bhl hn (own_latc _)
  · refine g_iconst 1 C X865 d0_65 rfl (g_goto C X865 d0_66 (g_istore C X865 d0_70 (l' := #[.val (.int p0), .val (.int p1), .val (.int p2), .val (.int p3), .val (.int p4), s5, .val (.ref bs), .val (.int n), .val (.int (p1 &&& (3 : Int32))), .val (.int 1), .unset, .unset, .unset, .unset, .unset, .unset, .unset]) rfl (g_iloadN C X865 d0_72 rfl (g_ldcI C X865 (wd hw 21 rfl) d0_73 (g_iand C X865 d0_75 (g_iload C X865 d0_76 rfl (g_irem C X865 d0_78 (by rcases hn3 with e | e | e <;> subst e <;> decide) (g_istore C X865 d0_79 (l' := #[.val (.int p0), .val (.int p1), .val (.int p2), .val (.int p3), .val (.int p4), s5, .val (.ref bs), .val (.int n), .val (.int (p1 &&& (3 : Int32))), .val (.int 1), .val (.int ((p2 &&& (2147483647 : Int32)) % n)), .unset, .unset, .unset, .unset, .unset, .unset]) rfl (g_iloadN C X865 d0_81 rfl (g_sipush 255 C X865 d0_82 rfl (g_iand C X865 d0_85 ?_)))))))))))
    refine g_i2c C X865 d0_86 (g_istore C X865 d0_87 (l' := #[.val (.int p0), .val (.int p1), .val (.int p2), .val (.int p3), .val (.int p4), s5, .val (.ref bs), .val (.int n), .val (.int (p1 &&& (3 : Int32))), .val (.int 1), .val (.int ((p2 &&& (2147483647 : Int32)) % n)), .val (.int ((p3 &&& (255 : Int32)).toUInt32.toUInt16.toUInt32.toInt32)), .unset, .unset, .unset, .unset, .unset]) rfl (g_iload C X865 d0_89 rfl (g_istore C X865 d0_91 (l' := #[.val (.int p0), .val (.int p1), .val (.int p2), .val (.int p3), .val (.int p4), s5, .val (.ref bs), .val (.int n), .val (.int (p1 &&& (3 : Int32))), .val (.int 1), .val (.int ((p2 &&& (2147483647 : Int32)) % n)), .val (.int ((p3 &&& (255 : Int32)).toUInt32.toUInt16.toUInt32.toInt32)), .val (.int n), .unset, .unset, .unset, .unset]) rfl (g_iload C X865 d0_93 rfl (g_iconst 2 C X865 d0_95 rfl (g_icmpn (hI_ne _ _) C X865 d0_96 (fun c96_870 => ?_) (fun c96_870 => ?_)))))))
    · have Y871 := X865.more (cells' := 2) (slots' := 36) (by decide) (by decide)
      rcases hn3 with e | e | e <;> subst e
      · exact segL6 hw p0 p1 p2 p3 p4 (s5) ((6 : Int32)) ((p1 &&& (3 : Int32))) ((1 : Int32)) (((p2 &&& (2147483647 : Int32)) % (6 : Int32))) (((p3 &&& (255 : Int32)).toUInt32.toUInt16.toUInt32.toInt32)) p_1 p_7 p_11 p_15 p_19 p_23 p_27 p_31 p_35 p_40 p_46 p_52 p_58 k_64 k_66 k_68 k_70 k_72 z_ SZ hz fm_ SF rf_ bs bt _ _ _ bc C Y871 I0 S_3 E_6 S_9 E_10 S_13 E_14 S_17 E_18 S_21 E_22 F_25 E_26 F_29 E_30 F_33 E_34 F_37 E_38 F_39 F_42 F_45 F_48 F_51 F_54 F_57 F_60 V_63 V_65 V_67 V_69 V_71 bEX bFC bFV bVT bhc bhs bhl hn (own_latc _)
      · exact segL7 hw p0 p1 p2 p3 p4 (s5) ((7 : Int32)) ((p1 &&& (3 : Int32))) ((1 : Int32)) (((p2 &&& (2147483647 : Int32)) % (7 : Int32))) (((p3 &&& (255 : Int32)).toUInt32.toUInt16.toUInt32.toInt32)) p_1 p_7 p_11 p_15 p_19 p_23 p_27 p_31 p_35 p_40 p_46 p_52 p_58 k_64 k_66 k_68 k_70 k_72 z_ SZ hz fm_ SF rf_ bs bt _ _ _ bc C Y871 I0 S_3 E_6 S_9 E_10 S_13 E_14 S_17 E_18 S_21 E_22 F_25 E_26 F_29 E_30 F_33 E_34 F_37 E_38 F_39 F_42 F_45 F_48 F_51 F_54 F_57 F_60 V_63 V_65 V_67 V_69 V_71 bEX bFC bFV bVT bhc bhs bhl hn (own_latc _)
      · exact segL8 hw p0 p1 p2 p3 p4 (s5) ((8 : Int32)) ((p1 &&& (3 : Int32))) ((1 : Int32)) (((p2 &&& (2147483647 : Int32)) % (8 : Int32))) (((p3 &&& (255 : Int32)).toUInt32.toUInt16.toUInt32.toInt32)) p_1 p_7 p_11 p_15 p_19 p_23 p_27 p_31 p_35 p_40 p_46 p_52 p_58 k_64 k_66 k_68 k_70 k_72 z_ SZ hz fm_ SF rf_ bs bt _ _ _ bc C Y871 I0 S_3 E_6 S_9 E_10 S_13 E_14 S_17 E_18 S_21 E_22 F_25 E_26 F_29 E_30 F_33 E_34 F_37 E_38 F_39 F_42 F_45 F_48 F_51 F_54 F_57 F_60 V_63 V_65 V_67 V_69 V_71 bEX bFC bFV bVT bhc bhs bhl hn (own_latc _)
    · refine g_iload C X865 d0_99 rfl (g_ldcI C X865 (wd hw 21 rfl) d0_101 (g_iand C X865 d0_103 (g_bipush 10 C X865 d0_104 rfl (g_irem C X865 d0_106 (by decide) (g_istore C X865 d0_107 (l' := #[.val (.int p0), .val (.int p1), .val (.int p2), .val (.int p3), .val (.int p4), s5, .val (.ref bs), .val (.int n), .val (.int (p1 &&& (3 : Int32))), .val (.int 1), .val (.int ((p2 &&& (2147483647 : Int32)) % n)), .val (.int ((p3 &&& (255 : Int32)).toUInt32.toUInt16.toUInt32.toInt32)), .val (.int ((p4 &&& (2147483647 : Int32)) % (10 : Int32))), .unset, .unset, .unset, .unset]) rfl ?_)))))
      have Y872 := X865.more (cells' := 2) (slots' := 36) (by decide) (by decide)
      rcases own_n10 p4 with e10 | e10 | e10 | e10 | e10 | e10 | e10 | e10 | e10 | e10
      · rw [e10]
        exact segL0 hw p0 p1 p2 p3 p4 (s5) (n) ((p1 &&& (3 : Int32))) ((1 : Int32)) (((p2 &&& (2147483647 : Int32)) % n)) (((p3 &&& (255 : Int32)).toUInt32.toUInt16.toUInt32.toInt32)) p_1 p_7 p_11 p_15 p_19 p_23 p_27 p_31 p_35 p_40 p_46 p_52 p_58 k_64 k_66 k_68 k_70 k_72 z_ SZ hz fm_ SF rf_ bs bt _ _ _ bc C Y872 I0 S_3 E_6 S_9 E_10 S_13 E_14 S_17 E_18 S_21 E_22 F_25 E_26 F_29 E_30 F_33 E_34 F_37 E_38 F_39 F_42 F_45 F_48 F_51 F_54 F_57 F_60 V_63 V_65 V_67 V_69 V_71 bEX bFC bFV bVT bhc bhs bhl hn (own_latc _)
      · rw [e10]
        exact segL1 hw p0 p1 p2 p3 p4 (s5) (n) ((p1 &&& (3 : Int32))) ((1 : Int32)) (((p2 &&& (2147483647 : Int32)) % n)) (((p3 &&& (255 : Int32)).toUInt32.toUInt16.toUInt32.toInt32)) p_1 p_7 p_11 p_15 p_19 p_23 p_27 p_31 p_35 p_40 p_46 p_52 p_58 k_64 k_66 k_68 k_70 k_72 z_ SZ hz fm_ SF rf_ bs bt _ _ _ bc C Y872 I0 S_3 E_6 S_9 E_10 S_13 E_14 S_17 E_18 S_21 E_22 F_25 E_26 F_29 E_30 F_33 E_34 F_37 E_38 F_39 F_42 F_45 F_48 F_51 F_54 F_57 F_60 V_63 V_65 V_67 V_69 V_71 bEX bFC bFV bVT bhc bhs bhl hn (own_latc _)
      · rw [e10]
        exact segL2 hw p0 p1 p2 p3 p4 (s5) (n) ((p1 &&& (3 : Int32))) ((1 : Int32)) (((p2 &&& (2147483647 : Int32)) % n)) (((p3 &&& (255 : Int32)).toUInt32.toUInt16.toUInt32.toInt32)) p_1 p_7 p_11 p_15 p_19 p_23 p_27 p_31 p_35 p_40 p_46 p_52 p_58 k_64 k_66 k_68 k_70 k_72 z_ SZ hz fm_ SF rf_ bs bt _ _ _ bc C Y872 I0 S_3 E_6 S_9 E_10 S_13 E_14 S_17 E_18 S_21 E_22 F_25 E_26 F_29 E_30 F_33 E_34 F_37 E_38 F_39 F_42 F_45 F_48 F_51 F_54 F_57 F_60 V_63 V_65 V_67 V_69 V_71 bEX bFC bFV bVT bhc bhs bhl hn (own_latc _)
      · rw [e10]
        exact segL3 hw p0 p1 p2 p3 p4 (s5) (n) ((p1 &&& (3 : Int32))) ((1 : Int32)) (((p2 &&& (2147483647 : Int32)) % n)) (((p3 &&& (255 : Int32)).toUInt32.toUInt16.toUInt32.toInt32)) p_1 p_7 p_11 p_15 p_19 p_23 p_27 p_31 p_35 p_40 p_46 p_52 p_58 k_64 k_66 k_68 k_70 k_72 z_ SZ hz fm_ SF rf_ bs bt _ _ _ bc C Y872 I0 S_3 E_6 S_9 E_10 S_13 E_14 S_17 E_18 S_21 E_22 F_25 E_26 F_29 E_30 F_33 E_34 F_37 E_38 F_39 F_42 F_45 F_48 F_51 F_54 F_57 F_60 V_63 V_65 V_67 V_69 V_71 bEX bFC bFV bVT bhc bhs bhl hn (own_latc _)
      · rw [e10]
        exact segL4 hw p0 p1 p2 p3 p4 (s5) (n) ((p1 &&& (3 : Int32))) ((1 : Int32)) (((p2 &&& (2147483647 : Int32)) % n)) (((p3 &&& (255 : Int32)).toUInt32.toUInt16.toUInt32.toInt32)) p_1 p_7 p_11 p_15 p_19 p_23 p_27 p_31 p_35 p_40 p_46 p_52 p_58 k_64 k_66 k_68 k_70 k_72 z_ SZ hz fm_ SF rf_ bs bt _ _ _ bc C Y872 I0 S_3 E_6 S_9 E_10 S_13 E_14 S_17 E_18 S_21 E_22 F_25 E_26 F_29 E_30 F_33 E_34 F_37 E_38 F_39 F_42 F_45 F_48 F_51 F_54 F_57 F_60 V_63 V_65 V_67 V_69 V_71 bEX bFC bFV bVT bhc bhs bhl hn (own_latc _)
      · rw [e10]
        exact segL5 hw p0 p1 p2 p3 p4 (s5) (n) ((p1 &&& (3 : Int32))) ((1 : Int32)) (((p2 &&& (2147483647 : Int32)) % n)) (((p3 &&& (255 : Int32)).toUInt32.toUInt16.toUInt32.toInt32)) p_1 p_7 p_11 p_15 p_19 p_23 p_27 p_31 p_35 p_40 p_46 p_52 p_58 k_64 k_66 k_68 k_70 k_72 z_ SZ hz fm_ SF rf_ bs bt _ _ _ bc C Y872 I0 S_3 E_6 S_9 E_10 S_13 E_14 S_17 E_18 S_21 E_22 F_25 E_26 F_29 E_30 F_33 E_34 F_37 E_38 F_39 F_42 F_45 F_48 F_51 F_54 F_57 F_60 V_63 V_65 V_67 V_69 V_71 bEX bFC bFV bVT bhc bhs bhl hn (own_latc _)
      · rw [e10]
        exact segL6 hw p0 p1 p2 p3 p4 (s5) (n) ((p1 &&& (3 : Int32))) ((1 : Int32)) (((p2 &&& (2147483647 : Int32)) % n)) (((p3 &&& (255 : Int32)).toUInt32.toUInt16.toUInt32.toInt32)) p_1 p_7 p_11 p_15 p_19 p_23 p_27 p_31 p_35 p_40 p_46 p_52 p_58 k_64 k_66 k_68 k_70 k_72 z_ SZ hz fm_ SF rf_ bs bt _ _ _ bc C Y872 I0 S_3 E_6 S_9 E_10 S_13 E_14 S_17 E_18 S_21 E_22 F_25 E_26 F_29 E_30 F_33 E_34 F_37 E_38 F_39 F_42 F_45 F_48 F_51 F_54 F_57 F_60 V_63 V_65 V_67 V_69 V_71 bEX bFC bFV bVT bhc bhs bhl hn (own_latc _)
      · rw [e10]
        exact segL7 hw p0 p1 p2 p3 p4 (s5) (n) ((p1 &&& (3 : Int32))) ((1 : Int32)) (((p2 &&& (2147483647 : Int32)) % n)) (((p3 &&& (255 : Int32)).toUInt32.toUInt16.toUInt32.toInt32)) p_1 p_7 p_11 p_15 p_19 p_23 p_27 p_31 p_35 p_40 p_46 p_52 p_58 k_64 k_66 k_68 k_70 k_72 z_ SZ hz fm_ SF rf_ bs bt _ _ _ bc C Y872 I0 S_3 E_6 S_9 E_10 S_13 E_14 S_17 E_18 S_21 E_22 F_25 E_26 F_29 E_30 F_33 E_34 F_37 E_38 F_39 F_42 F_45 F_48 F_51 F_54 F_57 F_60 V_63 V_65 V_67 V_69 V_71 bEX bFC bFV bVT bhc bhs bhl hn (own_latc _)
      · rw [e10]
        exact segL8 hw p0 p1 p2 p3 p4 (s5) (n) ((p1 &&& (3 : Int32))) ((1 : Int32)) (((p2 &&& (2147483647 : Int32)) % n)) (((p3 &&& (255 : Int32)).toUInt32.toUInt16.toUInt32.toInt32)) p_1 p_7 p_11 p_15 p_19 p_23 p_27 p_31 p_35 p_40 p_46 p_52 p_58 k_64 k_66 k_68 k_70 k_72 z_ SZ hz fm_ SF rf_ bs bt _ _ _ bc C Y872 I0 S_3 E_6 S_9 E_10 S_13 E_14 S_17 E_18 S_21 E_22 F_25 E_26 F_29 E_30 F_33 E_34 F_37 E_38 F_39 F_42 F_45 F_48 F_51 F_54 F_57 F_60 V_63 V_65 V_67 V_69 V_71 bEX bFC bFV bVT bhc bhs bhl hn (own_latc _)
      · rw [e10]
        exact segL9 hw p0 p1 p2 p3 p4 (s5) (n) ((p1 &&& (3 : Int32))) ((1 : Int32)) (((p2 &&& (2147483647 : Int32)) % n)) (((p3 &&& (255 : Int32)).toUInt32.toUInt16.toUInt32.toInt32)) p_1 p_7 p_11 p_15 p_19 p_23 p_27 p_31 p_35 p_40 p_46 p_52 p_58 k_64 k_66 k_68 k_70 k_72 z_ SZ hz fm_ SF rf_ bs bt _ _ _ bc C Y872 I0 S_3 E_6 S_9 E_10 S_13 E_14 S_17 E_18 S_21 E_22 F_25 E_26 F_29 E_30 F_33 E_34 F_37 E_38 F_39 F_42 F_45 F_48 F_51 F_54 F_57 F_60 V_63 V_65 V_67 V_69 V_71 bEX bFC bFV bVT bhc bhs bhl hn (own_latc _)
theorem ef_rm0 (m : MethodId) (p0 : Int32) (p1 : Int32) (p2 : Int32) (p3 : Int32) (p4 : Int32) : entryFrame m #[(.int p0), (.int p1), (.int p2), (.int p3), (.int p4)] maxLocals = mkF m 0 #[.val (.int p0), .val (.int p1), .val (.int p2), .val (.int p3), .val (.int p4), .unset, .unset, .unset, .unset, .unset, .unset, .unset, .unset, .unset, .unset, .unset, .unset] [] := by first | (simp [entryFrame, mkF, argsToLocals, Value.category, maxLocals]; done) | rfl
theorem d0_0 : Dc code 0 (.iload_n 0) 1 1 := ⟨at_0, rfl⟩
theorem d0_1 : Dc code 1 (.iconst 3) 1 2 := ⟨at_1, rfl⟩
theorem d0_2 : Dc code 2 (.iand) 1 3 := ⟨at_2, rfl⟩
theorem d0_3 : Dc code 3 (.istore 5) 2 5 := ⟨at_3, rfl⟩
theorem d0_5 : Dc code 5 (.iload 5) 2 7 := ⟨at_5, rfl⟩
theorem d0_7 : Dj code 7 (.ifCond .ne 10) 10 3 10 17 := ⟨at_7, rfl, by decide, by decide⟩
theorem d0_17 : Dc code 17 (.iload 5) 2 19 := ⟨at_17, rfl⟩
theorem d0_19 : Dc code 19 (.iconst 1) 1 20 := ⟨at_19, rfl⟩
theorem d0_20 : Dj code 20 (.if_icmp .ne 10) 10 3 23 30 := ⟨at_20, rfl, by decide, by decide⟩
theorem d0_30 : Dc code 30 (.iload 5) 2 32 := ⟨at_30, rfl⟩
theorem d0_32 : Dc code 32 (.iconst 2) 1 33 := ⟨at_32, rfl⟩
theorem d0_33 : Dj code 33 (.if_icmp .ne 10) 10 3 36 43 := ⟨at_33, rfl, by decide, by decide⟩
theorem d0_43 : Dc code 43 (.ldc 19) 2 45 := ⟨at_43, rfl⟩
theorem d0_45 : Dc code 45 (.astore 6) 2 47 := ⟨at_45, rfl⟩
theorem d0_36 : Dc code 36 (.ldc 17) 2 38 := ⟨at_36, rfl⟩
theorem d0_38 : Dc code 38 (.astore 6) 2 40 := ⟨at_38, rfl⟩
theorem d0_40 : Dj code 40 (.goto 7) 7 3 43 47 := ⟨at_40, rfl, by decide, by decide⟩
theorem d0_23 : Dc code 23 (.ldc 15) 2 25 := ⟨at_23, rfl⟩
theorem d0_25 : Dc code 25 (.astore 6) 2 27 := ⟨at_25, rfl⟩
theorem d0_27 : Dj code 27 (.goto 20) 20 3 30 47 := ⟨at_27, rfl, by decide, by decide⟩
theorem d0_10 : Dc code 10 (.ldc 13) 2 12 := ⟨at_10, rfl⟩
theorem d0_12 : Dc code 12 (.astore 6) 2 14 := ⟨at_12, rfl⟩
theorem d0_14 : Dj code 14 (.goto 33) 33 3 17 47 := ⟨at_14, rfl, by decide, by decide⟩
theorem rm0 (l : Launch) {Z : State} {a0 : Array Value} (hw : ∀ d ∈ tables_1, d.before a0 Z = true) {h : Heap} (hE : Ext Z.heap h) (p0 : Int32) (p1 : Int32) (p2 : Int32) (p3 : Int32) (p4 : Int32) (p_1 p_7 p_11 p_15 p_19 p_23 p_27 p_31 p_35 p_40 p_46 p_52 p_58 : Addr) (k_64 k_66 k_68 k_70 k_72 : ClassId) (z_ : Int32) (SZ : Sta Z Z.heap "java/lang/String" "COMPACT_STRINGS" "Z" (.int z_)) (hz : ¬ z_ = 0) (fm_ : Value) (SF : Sta Z Z.heap "jdk/internal/util/Preconditions" "SIOOBE_FORMATTER" "Ljava/util/function/BiFunction;" fm_) (rf_ : fm_.isRef = true) (S_3 : Sta Z Z.heap "com/example/indie_lease/indielease/model/LicenseStatus" "$VALUES" "[Lcom/example/indie_lease/indielease/model/LicenseStatus;" (.ref p_1)) (E_6 : Exa Z Z.heap p_1 "[Lcom/example/indie_lease/indielease/model/LicenseStatus;") (S_9 : Sta Z Z.heap "com/example/indie_lease/indielease/model/LicenseStatus" "ACTIVE" "Lcom/example/indie_lease/indielease/model/LicenseStatus;" (.ref p_7)) (E_10 : Exa Z Z.heap p_7 "com/example/indie_lease/indielease/model/LicenseStatus") (S_13 : Sta Z Z.heap "com/example/indie_lease/indielease/model/LicenseStatus" "FALLBACK" "Lcom/example/indie_lease/indielease/model/LicenseStatus;" (.ref p_11)) (E_14 : Exa Z Z.heap p_11 "com/example/indie_lease/indielease/model/LicenseStatus") (S_17 : Sta Z Z.heap "com/example/indie_lease/indielease/model/LicenseStatus" "EXPIRED" "Lcom/example/indie_lease/indielease/model/LicenseStatus;" (.ref p_15)) (E_18 : Exa Z Z.heap p_15 "com/example/indie_lease/indielease/model/LicenseStatus") (S_21 : Sta Z Z.heap "com/example/indie_lease/indielease/model/LicenseStatus" "REVOKED" "Lcom/example/indie_lease/indielease/model/LicenseStatus;" (.ref p_19)) (E_22 : Exa Z Z.heap p_19 "com/example/indie_lease/indielease/model/LicenseStatus") (F_25 : Fld Z Z.heap p_7 "com/example/indie_lease/indielease/model/LicenseStatus" "code" "Ljava/lang/String;" (.ref p_23)) (E_26 : Exa Z Z.heap p_23 "java/lang/String") (F_29 : Fld Z Z.heap p_11 "com/example/indie_lease/indielease/model/LicenseStatus" "code" "Ljava/lang/String;" (.ref p_27)) (E_30 : Exa Z Z.heap p_27 "java/lang/String") (F_33 : Fld Z Z.heap p_15 "com/example/indie_lease/indielease/model/LicenseStatus" "code" "Ljava/lang/String;" (.ref p_31)) (E_34 : Exa Z Z.heap p_31 "java/lang/String") (F_37 : Fld Z Z.heap p_19 "com/example/indie_lease/indielease/model/LicenseStatus" "code" "Ljava/lang/String;" (.ref p_35)) (E_38 : Exa Z Z.heap p_35 "java/lang/String") (F_39 : Fld Z Z.heap p_23 "java/lang/String" "coder" "B" (.int 0)) (F_42 : Fld Z Z.heap p_23 "java/lang/String" "value" "[B" (.ref p_40)) (F_45 : Fld Z Z.heap p_27 "java/lang/String" "coder" "B" (.int 0)) (F_48 : Fld Z Z.heap p_27 "java/lang/String" "value" "[B" (.ref p_46)) (F_51 : Fld Z Z.heap p_31 "java/lang/String" "coder" "B" (.int 0)) (F_54 : Fld Z Z.heap p_31 "java/lang/String" "value" "[B" (.ref p_52)) (F_57 : Fld Z Z.heap p_35 "java/lang/String" "coder" "B" (.int 0)) (F_60 : Fld Z Z.heap p_35 "java/lang/String" "value" "[B" (.ref p_58)) (V_63 : Arv Z Z.heap p_1 k_64 (.object "com/example/indie_lease/indielease/model/LicenseStatus") 4 [(.ref p_7), (.ref p_11), (.ref p_15), (.ref p_19)] .null) (V_65 : Arv Z Z.heap p_40 k_66 .byte 6 [(.int 97), (.int 99), (.int 116), (.int 105), (.int 118), (.int 101)] (.int 0)) (V_67 : Arv Z Z.heap p_46 k_68 .byte 8 [(.int 102), (.int 97), (.int 108), (.int 108), (.int 98), (.int 97), (.int 99), (.int 107)] (.int 0)) (V_69 : Arv Z Z.heap p_52 k_70 .byte 7 [(.int 101), (.int 120), (.int 112), (.int 105), (.int 114), (.int 101), (.int 100)] (.int 0)) (V_71 : Arv Z Z.heap p_58 k_72 .byte 7 [(.int 114), (.int 101), (.int 118), (.int 111), (.int 107), (.int 101), (.int 100)] (.int 0)) :
    ConL l x code maxLocals ret tables_1 room_1 Z consts_1 [] #[(.int p0), (.int p1), (.int p2), (.int p3), (.int p4)] h (fun v' h' => v' = some (.int 1)) := by
  refine con_ofL (plainFor_of_name pn_1) hE (fun m => ef_rm0 m p0 p1 p2 p3 p4) ?_
  intro p e s m below meth c T0 C X0 I0 hsf
  have C : Cx p (s.setVm s.vm) m meth c Z "com/example/indie_lease/indielease/model/LicenseStatusOfCodePinLaw" "law" code maxLocals ret := C
  show Goes p e below _ T0 (mkF m 0 #[.val (.int p0), .val (.int p1), .val (.int p2), .val (.int p3), .val (.int p4), .unset, .unset, .unset, .unset, .unset, .unset, .unset, .unset, .unset, .unset, .unset, .unset] [])
  refine g_iloadN C X0 d0_0 rfl (g_iconst 3 C X0 d0_1 rfl (g_iand C X0 d0_2 (g_istore C X0 d0_3 (l' := #[.val (.int p0), .val (.int p1), .val (.int p2), .val (.int p3), .val (.int p4), .val (.int (p0 &&& (3 : Int32))), .unset, .unset, .unset, .unset, .unset, .unset, .unset, .unset, .unset, .unset, .unset]) rfl (g_iload C X0 d0_5 rfl (g_ifn (h0_ne _) C X0 d0_7 (fun c7_873 => ?_) (fun c7_873 => ?_))))))
  · refine g_iload C X0 d0_17 rfl (g_iconst 1 C X0 d0_19 rfl (g_icmpn (hI_ne _ _) C X0 d0_20 (fun c20_874 => ?_) (fun c20_874 => ?_)))
    · refine g_iload C X0 d0_30 rfl (g_iconst 2 C X0 d0_32 rfl (g_icmpn (hI_ne _ _) C X0 d0_33 (fun c33_875 => ?_) (fun c33_875 => ?_)))
      · refine g_ldcs 28 C X0 I0 (own_wS hw) (own_EW hw) (by decide +kernel) (wd hw 79 rfl) (vs := [(.int 114), (.int 101), (.int 118), (.int 111), (.int 107), (.int 101), (.int 100)]) (z := 7) ⟨by decide +kernel, by decide +kernel⟩ (by decide) rfl (by decide) (by decide) d0_43 (by decide) (by decide) (fun a876 T876 h876 t876 k_t876 C X876 I876 R876 E876 EA876 FC876 FV876 VA876 N876 => ?_)
        show Goes p e below _ T876 (mkF m 45 #[.val (.int p0), .val (.int p1), .val (.int p2), .val (.int p3), .val (.int p4), .val (.int (p0 &&& (3 : Int32))), .unset, .unset, .unset, .unset, .unset, .unset, .unset, .unset, .unset, .unset, .unset] [(.ref a876)])
        refine g_astore C X876 d0_45 rfl (l' := #[.val (.int p0), .val (.int p1), .val (.int p2), .val (.int p3), .val (.int p4), .val (.int (p0 &&& (3 : Int32))), .val (.ref a876), .unset, .unset, .unset, .unset, .unset, .unset, .unset, .unset, .unset, .unset]) rfl ?_
        have Y877 := X876.more (cells' := 2) (slots' := 36) (by decide) (by decide)
        exact seg47 hw p0 p1 p2 p3 p4 (.val (.int (p0 &&& (3 : Int32)))) 7 p_1 p_7 p_11 p_15 p_19 p_23 p_27 p_31 p_35 p_40 p_46 p_52 p_58 k_64 k_66 k_68 k_70 k_72 z_ SZ hz fm_ SF rf_ a876 t876 _ _ _ [(114 : Int32), (101 : Int32), (118 : Int32), (111 : Int32), (107 : Int32), (101 : Int32), (100 : Int32)] C Y877 I876 S_3 E_6 S_9 E_10 S_13 E_14 S_17 E_18 S_21 E_22 F_25 E_26 F_29 E_30 F_33 E_34 F_37 E_38 F_39 F_42 F_45 F_48 F_51 F_54 F_57 F_60 V_63 V_65 V_67 V_69 V_71 EA876 FC876 FV876 VA876 (own_cod rfl rfl (by decide)) (by decide) (by decide) rfl (by decide)
      · refine g_ldcs 28 C X0 I0 (own_wS hw) (own_EW hw) (by decide +kernel) (wd hw 107 rfl) (vs := [(.int 101), (.int 120), (.int 112), (.int 105), (.int 114), (.int 101), (.int 100)]) (z := 7) ⟨by decide +kernel, by decide +kernel⟩ (by decide) rfl (by decide) (by decide) d0_36 (by decide) (by decide) (fun a878 T878 h878 t878 k_t878 C X878 I878 R878 E878 EA878 FC878 FV878 VA878 N878 => ?_)
        show Goes p e below _ T878 (mkF m 38 #[.val (.int p0), .val (.int p1), .val (.int p2), .val (.int p3), .val (.int p4), .val (.int (p0 &&& (3 : Int32))), .unset, .unset, .unset, .unset, .unset, .unset, .unset, .unset, .unset, .unset, .unset] [(.ref a878)])
        refine g_astore C X878 d0_38 rfl (l' := #[.val (.int p0), .val (.int p1), .val (.int p2), .val (.int p3), .val (.int p4), .val (.int (p0 &&& (3 : Int32))), .val (.ref a878), .unset, .unset, .unset, .unset, .unset, .unset, .unset, .unset, .unset, .unset]) rfl (g_goto C X878 d0_40 ?_)
        have Y879 := X878.more (cells' := 2) (slots' := 36) (by decide) (by decide)
        exact seg47 hw p0 p1 p2 p3 p4 (.val (.int (p0 &&& (3 : Int32)))) 7 p_1 p_7 p_11 p_15 p_19 p_23 p_27 p_31 p_35 p_40 p_46 p_52 p_58 k_64 k_66 k_68 k_70 k_72 z_ SZ hz fm_ SF rf_ a878 t878 _ _ _ [(101 : Int32), (120 : Int32), (112 : Int32), (105 : Int32), (114 : Int32), (101 : Int32), (100 : Int32)] C Y879 I878 S_3 E_6 S_9 E_10 S_13 E_14 S_17 E_18 S_21 E_22 F_25 E_26 F_29 E_30 F_33 E_34 F_37 E_38 F_39 F_42 F_45 F_48 F_51 F_54 F_57 F_60 V_63 V_65 V_67 V_69 V_71 EA878 FC878 FV878 VA878 (own_cod rfl rfl (by decide)) (by decide) (by decide) rfl (by decide)
    · refine g_ldcs 32 C X0 I0 (own_wS hw) (own_EW hw) (by decide +kernel) (wd hw 106 rfl) (vs := [(.int 102), (.int 97), (.int 108), (.int 108), (.int 98), (.int 97), (.int 99), (.int 107)]) (z := 8) ⟨by decide +kernel, by decide +kernel⟩ (by decide) rfl (by decide) (by decide) d0_23 (by decide) (by decide) (fun a880 T880 h880 t880 k_t880 C X880 I880 R880 E880 EA880 FC880 FV880 VA880 N880 => ?_)
      show Goes p e below _ T880 (mkF m 25 #[.val (.int p0), .val (.int p1), .val (.int p2), .val (.int p3), .val (.int p4), .val (.int (p0 &&& (3 : Int32))), .unset, .unset, .unset, .unset, .unset, .unset, .unset, .unset, .unset, .unset, .unset] [(.ref a880)])
      refine g_astore C X880 d0_25 rfl (l' := #[.val (.int p0), .val (.int p1), .val (.int p2), .val (.int p3), .val (.int p4), .val (.int (p0 &&& (3 : Int32))), .val (.ref a880), .unset, .unset, .unset, .unset, .unset, .unset, .unset, .unset, .unset, .unset]) rfl (g_goto C X880 d0_27 ?_)
      have Y881 := X880.more (cells' := 2) (slots' := 36) (by decide) (by decide)
      exact seg47 hw p0 p1 p2 p3 p4 (.val (.int (p0 &&& (3 : Int32)))) 8 p_1 p_7 p_11 p_15 p_19 p_23 p_27 p_31 p_35 p_40 p_46 p_52 p_58 k_64 k_66 k_68 k_70 k_72 z_ SZ hz fm_ SF rf_ a880 t880 _ _ _ [(102 : Int32), (97 : Int32), (108 : Int32), (108 : Int32), (98 : Int32), (97 : Int32), (99 : Int32), (107 : Int32)] C Y881 I880 S_3 E_6 S_9 E_10 S_13 E_14 S_17 E_18 S_21 E_22 F_25 E_26 F_29 E_30 F_33 E_34 F_37 E_38 F_39 F_42 F_45 F_48 F_51 F_54 F_57 F_60 V_63 V_65 V_67 V_69 V_71 EA880 FC880 FV880 VA880 (own_cod rfl rfl (by decide)) (by decide) (by decide) rfl (by decide)
  · refine g_ldcs 24 C X0 I0 (own_wS hw) (own_EW hw) (by decide +kernel) (wd hw 0 rfl) (vs := [(.int 97), (.int 99), (.int 116), (.int 105), (.int 118), (.int 101)]) (z := 6) ⟨by decide +kernel, by decide +kernel⟩ (by decide) rfl (by decide) (by decide) d0_10 (by decide) (by decide) (fun a882 T882 h882 t882 k_t882 C X882 I882 R882 E882 EA882 FC882 FV882 VA882 N882 => ?_)
    show Goes p e below _ T882 (mkF m 12 #[.val (.int p0), .val (.int p1), .val (.int p2), .val (.int p3), .val (.int p4), .val (.int (p0 &&& (3 : Int32))), .unset, .unset, .unset, .unset, .unset, .unset, .unset, .unset, .unset, .unset, .unset] [(.ref a882)])
    refine g_astore C X882 d0_12 rfl (l' := #[.val (.int p0), .val (.int p1), .val (.int p2), .val (.int p3), .val (.int p4), .val (.int (p0 &&& (3 : Int32))), .val (.ref a882), .unset, .unset, .unset, .unset, .unset, .unset, .unset, .unset, .unset, .unset]) rfl (g_goto C X882 d0_14 ?_)
    have Y883 := X882.more (cells' := 2) (slots' := 36) (by decide) (by decide)
    exact seg47 hw p0 p1 p2 p3 p4 (.val (.int (p0 &&& (3 : Int32)))) 6 p_1 p_7 p_11 p_15 p_19 p_23 p_27 p_31 p_35 p_40 p_46 p_52 p_58 k_64 k_66 k_68 k_70 k_72 z_ SZ hz fm_ SF rf_ a882 t882 _ _ _ [(97 : Int32), (99 : Int32), (116 : Int32), (105 : Int32), (118 : Int32), (101 : Int32)] C Y883 I882 S_3 E_6 S_9 E_10 S_13 E_14 S_17 E_18 S_21 E_22 F_25 E_26 F_29 E_30 F_33 E_34 F_37 E_38 F_39 F_42 F_45 F_48 F_51 F_54 F_57 F_60 V_63 V_65 V_67 V_69 V_71 EA882 FC882 FV882 VA882 (own_cod rfl rfl (by decide)) (by decide) (by decide) rfl (by decide)
theorem comes_1 {Post : Tables → Env → Array Value → State → Outcome → State → Prop} (hpost : ∀ tb e args s v u, (limb_1_1.after args s (.returned v) u = true ∧ limb_1_2.after args s (.returned v) u = true ∧ True) → ReturnedEndW s (.returned v) u (Jvm.fieldLocs frame_1_writes args s ++ Jvm.arrayLocs frame_1_arrays args s ++ Jvm.staticLocs frame_1_statics s) 32 5312 → Post tb e args s (.returned v) u) :
    ArmFor flags0 classFile x code maxLocals ret World_1 tables_1 room_1 Calls_1 rest_1 Pre_1 Post := by
  intro l hfl _ _ p e ha hc hk s m args below hf hA hF happ hP
  obtain ⟨hcalls, hrest, hpre⟩ := hP
  obtain ⟨-, -, -, hnamed, -, -, -, hat⟩ := (Spec.applies_iff hf).mp happ
  obtain ⟨hg, hn⟩ := and_e (Cond.before_iff.mp (show (Jvm.Cond.and given_1 narrow_1).before args s = true from hpre))
  obtain ⟨hcount, hg⟩ := and_e hg
  obtain ⟨ha0, hg⟩ := and_e hg
  obtain ⟨ha1, hg⟩ := and_e hg
  obtain ⟨ha2, hg⟩ := and_e hg
  obtain ⟨ha3, hg⟩ := and_e hg
  have ha4 := hg
  obtain ⟨w0, w1, w2, w3, w4, rfl⟩ : ∃ w0 w1 w2 w3 w4 : Value, args = #[w0, w1, w2, w3, w4] := by
    have hs : args.size = 5 := by simpa [Cond.value, given_1] using hcount
    obtain ⟨L⟩ := args
    match L, hs with
    | [w0, w1, w2, w3, w4], _ => exact ⟨w0, w1, w2, w3, w4, rfl⟩
  have hw := fun d (hd : d ∈ tables_1) => atoms_spec (ws := Jvm.Cond.code x code maxLocals ret :: tables_1) hat d (List.mem_cons_of_mem _ hd)
  have hfit : Fit s := fun {y c} hc i hi => by
    obtain ⟨ha, rfl⟩ := Array.getElem?_eq_some_iff.mp hc
    have q := List.all_eq_true.mp ((Array.all_eq_true_iff_forall_mem.mp hF) _ (Array.getElem_mem ha)) i (List.mem_range.mpr hi)
    simpa [Array.getElem?_eq_getElem hi] using q
  obtain ⟨hsets, hown0⟩ := atoms_of _ (rest_1_c_eq ▸ (show rest_1_c.before _ s = true from hrest))
  have hr0 := Cond.before_iff.mp hown0
  obtain ⟨i0, ei0⟩ := is_v ha0
  obtain rfl : w0 = (.int i0) := Option.some.inj ei0
  obtain ⟨i1, ei1⟩ := is_v ha1
  obtain rfl : w1 = (.int i1) := Option.some.inj ei1
  obtain ⟨i2, ei2⟩ := is_v ha2
  obtain rfl : w2 = (.int i2) := Option.some.inj ei2
  obtain ⟨i3, ei3⟩ := is_v ha3
  obtain rfl : w3 = (.int i3) := Option.some.inj ei3
  obtain ⟨i4, ei4⟩ := is_v ha4
  obtain rfl : w4 = (.int i4) := Option.some.inj ei4
  obtain ⟨z_, vz⟩ := is_v (Cond.before_iff.mp (hsets _ (List.mem_of_getElem? (i := 1) rfl)))
  have SZ := Sta.start vz (Or.inl (hsets _ (List.mem_of_getElem? (i := 0) rfl)))
  have hz := nz_v vz (Cond.before_iff.mp (hsets _ (List.mem_of_getElem? (i := 2) rfl)))
  obtain ⟨fm_, vf, rf_⟩ := isR_v (Cond.before_iff.mp (hsets _ (List.mem_of_getElem? (i := 8) rfl)))
  have SF := Sta.start vf (Or.inl (hsets _ (List.mem_of_getElem? (i := 7) rfl)))
  obtain ⟨n0, hn⟩ := and_e hn
  obtain ⟨n1, hn⟩ := and_e hn
  obtain ⟨n2, hn⟩ := and_e hn
  obtain ⟨n3, hn⟩ := and_e hn
  obtain ⟨n4, hn⟩ := and_e hn
  obtain ⟨n5, hn⟩ := and_e hn
  obtain ⟨n6, hn⟩ := and_e hn
  obtain ⟨n7, hn⟩ := and_e hn
  obtain ⟨n8, hn⟩ := and_e hn
  obtain ⟨n9, hn⟩ := and_e hn
  obtain ⟨n10, hn⟩ := and_e hn
  obtain ⟨n11, hn⟩ := and_e hn
  obtain ⟨n12, hn⟩ := and_e hn
  obtain ⟨n13, hn⟩ := and_e hn
  obtain ⟨n14, hn⟩ := and_e hn
  obtain ⟨n15, hn⟩ := and_e hn
  obtain ⟨n16, hn⟩ := and_e hn
  obtain ⟨n17, hn⟩ := and_e hn
  obtain ⟨n18, hn⟩ := and_e hn
  obtain ⟨n19, hn⟩ := and_e hn
  obtain ⟨n20, hn⟩ := and_e hn
  obtain ⟨n21, hn⟩ := and_e hn
  obtain ⟨n22, hn⟩ := and_e hn
  obtain ⟨n23, hn⟩ := and_e hn
  obtain ⟨n24, hn⟩ := and_e hn
  obtain ⟨n25, hn⟩ := and_e hn
  obtain ⟨n26, hn⟩ := and_e hn
  obtain ⟨n27, hn⟩ := and_e hn
  obtain ⟨n28, hn⟩ := and_e hn
  obtain ⟨n29, hn⟩ := and_e hn
  obtain ⟨n30, hn⟩ := and_e hn
  obtain ⟨n31, hn⟩ := and_e hn
  obtain ⟨n32, hn⟩ := and_e hn
  obtain ⟨n33, hn⟩ := and_e hn
  obtain ⟨n34, hn⟩ := and_e hn
  obtain ⟨n35, hn⟩ := and_e hn
  obtain ⟨n36, hn⟩ := and_e hn
  obtain ⟨n37, hn⟩ := and_e hn
  obtain ⟨n38, hn⟩ := and_e hn
  obtain ⟨n39, hn⟩ := and_e hn
  obtain ⟨n40, hn⟩ := and_e hn
  obtain ⟨n41, hn⟩ := and_e hn
  obtain ⟨n42, hn⟩ := and_e hn
  obtain ⟨n43, hn⟩ := and_e hn
  obtain ⟨n44, hn⟩ := and_e hn
  obtain ⟨n45, hn⟩ := and_e hn
  obtain ⟨n46, hn⟩ := and_e hn
  obtain ⟨n47, hn⟩ := and_e hn
  obtain ⟨n48, hn⟩ := and_e hn
  obtain ⟨n49, hn⟩ := and_e hn
  obtain ⟨n50, hn⟩ := and_e hn
  obtain ⟨n51, hn⟩ := and_e hn
  obtain ⟨n52, hn⟩ := and_e hn
  obtain ⟨n53, hn⟩ := and_e hn
  have n54 := hn
  obtain ⟨p_1, v_2⟩ := arr_v n0
  have S_3 := Sta.start v_2 (Or.inl (wd hw 69 rfl))
  obtain ⟨c_4, A_5⟩ := Arr.start v_2 n0
  have E_6 := Exa.start v_2 n1
  obtain ⟨p_7, v_8⟩ := exa_v n3
  have S_9 := Sta.start v_8 (Or.inr ⟨(wd hw 51 rfl), (wd hw 65 rfl)⟩)
  have E_10 := Exa.start v_8 n3
  obtain ⟨p_11, v_12⟩ := exa_v n5
  have S_13 := Sta.start v_12 (Or.inr ⟨(wd hw 51 rfl), (wd hw 66 rfl)⟩)
  have E_14 := Exa.start v_12 n5
  obtain ⟨p_15, v_16⟩ := exa_v n7
  have S_17 := Sta.start v_16 (Or.inr ⟨(wd hw 51 rfl), (wd hw 67 rfl)⟩)
  have E_18 := Exa.start v_16 n7
  obtain ⟨p_19, v_20⟩ := exa_v n9
  have S_21 := Sta.start v_20 (Or.inr ⟨(wd hw 51 rfl), (wd hw 68 rfl)⟩)
  have E_22 := Exa.start v_20 n9
  obtain ⟨p_23, v_24⟩ := exa_v n11
  have F_25 := fld_of v_8 v_24
  have E_26 := Exa.start v_24 n11
  obtain ⟨p_27, v_28⟩ := exa_v n12
  have F_29 := fld_of v_12 v_28
  have E_30 := Exa.start v_28 n12
  obtain ⟨p_31, v_32⟩ := exa_v n13
  have F_33 := fld_of v_16 v_32
  have E_34 := Exa.start v_32 n13
  obtain ⟨p_35, v_36⟩ := exa_v n14
  have F_37 := fld_of v_20 v_36
  have E_38 := Exa.start v_36 n14
  have F_39 := fld_of v_24 (eqI_v n15)
  obtain ⟨p_40, v_41⟩ := arr_v n16
  have F_42 := fld_of v_24 v_41
  obtain ⟨c_43, A_44⟩ := Arr.start v_41 n16
  have F_45 := fld_of v_28 (eqI_v n18)
  obtain ⟨p_46, v_47⟩ := arr_v n19
  have F_48 := fld_of v_28 v_47
  obtain ⟨c_49, A_50⟩ := Arr.start v_47 n19
  have F_51 := fld_of v_32 (eqI_v n21)
  obtain ⟨p_52, v_53⟩ := arr_v n22
  have F_54 := fld_of v_32 v_53
  obtain ⟨c_55, A_56⟩ := Arr.start v_53 n22
  have F_57 := fld_of v_36 (eqI_v n24)
  obtain ⟨p_58, v_59⟩ := arr_v n25
  have F_60 := fld_of v_36 v_59
  obtain ⟨c_61, A_62⟩ := Arr.start v_59 n25
  have V_63 := arr_start (vs := [(.ref p_7), (.ref p_11), (.ref p_15), (.ref p_19)]) .null hfit A_5 v_2 (eqI_v n2) (by decide) rfl ⟨elem_start A_5 v_2 (eqR_v n4 v_8), elem_start A_5 v_2 (eqR_v n6 v_12), elem_start A_5 v_2 (eqR_v n8 v_16), elem_start A_5 v_2 (eqR_v n10 v_20), trivial⟩
  have V_65 := arr_start (vs := [(.int 97), (.int 99), (.int 116), (.int 105), (.int 118), (.int 101)]) (.int 0) hfit A_44 v_41 (eqI_v n17) (by decide) rfl ⟨elem_start A_44 v_41 (eqI_v n27), elem_start A_44 v_41 (eqI_v n28), elem_start A_44 v_41 (eqI_v n29), elem_start A_44 v_41 (eqI_v n30), elem_start A_44 v_41 (eqI_v n31), elem_start A_44 v_41 (eqI_v n32), trivial⟩
  have V_67 := arr_start (vs := [(.int 102), (.int 97), (.int 108), (.int 108), (.int 98), (.int 97), (.int 99), (.int 107)]) (.int 0) hfit A_50 v_47 (eqI_v n20) (by decide) rfl ⟨elem_start A_50 v_47 (eqI_v n33), elem_start A_50 v_47 (eqI_v n34), elem_start A_50 v_47 (eqI_v n35), elem_start A_50 v_47 (eqI_v n36), elem_start A_50 v_47 (eqI_v n37), elem_start A_50 v_47 (eqI_v n38), elem_start A_50 v_47 (eqI_v n39), elem_start A_50 v_47 (eqI_v n40), trivial⟩
  have V_69 := arr_start (vs := [(.int 101), (.int 120), (.int 112), (.int 105), (.int 114), (.int 101), (.int 100)]) (.int 0) hfit A_56 v_53 (eqI_v n23) (by decide) rfl ⟨elem_start A_56 v_53 (eqI_v n41), elem_start A_56 v_53 (eqI_v n42), elem_start A_56 v_53 (eqI_v n43), elem_start A_56 v_53 (eqI_v n44), elem_start A_56 v_53 (eqI_v n45), elem_start A_56 v_53 (eqI_v n46), elem_start A_56 v_53 (eqI_v n47), trivial⟩
  have V_71 := arr_start (vs := [(.int 114), (.int 101), (.int 118), (.int 111), (.int 107), (.int 101), (.int 100)]) (.int 0) hfit A_62 v_59 (eqI_v n26) (by decide) rfl ⟨elem_start A_62 v_59 (eqI_v n48), elem_start A_62 v_59 (eqI_v n49), elem_start A_62 v_59 (eqI_v n50), elem_start A_62 v_59 (eqI_v n51), elem_start A_62 v_59 (eqI_v n52), elem_start A_62 v_59 (eqI_v n53), elem_start A_62 v_59 (eqI_v n54), trivial⟩
  have hCH : CHv s consts_1 s.vm s.heap := CHv.start (own_EW hw) (fun q hq => hcalls.1 q hq) (hsets _ (List.mem_of_getElem? (i := 2) rfl)) (wd hw 3 rfl) (wd hw 2 rfl)
  obtain ⟨n, o, h1, h2, h3, _, L, rfl, ⟨N, _, rfl⟩, -, hq⟩ := rm0 l (Z := s) hw ⟨Nat.le_refl _, fun _ _ q => q⟩ i0 i1 i2 i3 i4 p_1 p_7 p_11 p_15 p_19 p_23 p_27 p_31 p_35 p_40 p_46 p_52 p_58 _ _ _ _ _ z_ SZ hz fm_ SF rf_ S_3 E_6 S_9 E_10 S_13 E_14 S_17 E_18 S_21 E_22 F_25 E_26 F_29 E_30 F_33 E_34 F_37 E_38 F_39 F_42 F_45 F_48 F_51 F_54 F_57 F_60 V_63 V_65 V_67 V_69 V_71 p e ha hc hk s m _ below hf ((Spec.applies_iff_loose hf).mp happ).1 ⟨rfl, State.Warmed39.refl s, rfl, hCH, sf0⟩ trivial
  exact ⟨n, _, h1, h2, h3, hpost _ _ _ _ _ _ ⟨Cond.after_iff.mpr rfl, Cond.after_iff.mpr (eq_i res_at (Term.int_eval (1)) rfl), trivial⟩ ⟨hq.1, hq.2.1, hq.2.2.1, (hq.2.2.2.sift fun y hy => Or.inr (N y hy)).mono (by decide) (by decide)⟩⟩
theorem main_1_1 : Claimed_1_1 := comes_1 fun _ _ _ _ _ _ h hF => ⟨h.1, hF⟩
theorem main_1_2 : Claimed_1_2 := comes_1 fun _ _ _ _ _ _ h hF => ⟨h.2.1, hF⟩
end Jvm.Pilot.@@N@@
namespace Jvm.Pilot.@@N@@
open Jvm Jvm.ClassFile Sem Op Lib Jvm.Free Jvm.Stand Jvm.Pilot.@@N@@.Jvm.D
/-! MADE BY PROGRAM (witnessworld.py) out of the Statement's table words and the real class files: 22 classes; the members and pool entries that the words name. The judged class is class 1, her method 2. -/
namespace start1
open Jvm.ClassFile
def u (s : String) : CpInfo := .utf8 (stringToUtf16 s)
/-- a pool by its gaps: so many unusable entries, then the entry; so many at the end -/
def gap : Nat → List CpInfo → List CpInfo
  | 0, r => r
  | n + 1, r => .unusable :: gap n r
def poolList (es : List (Nat × CpInfo)) (last : Nat) : List CpInfo := es.foldr (fun e r => gap e.1 (e.2 :: r)) (gap last [])
def pool (es : List (Nat × CpInfo)) (last : Nat) : Array CpInfo := ⟨poolList es last⟩
def fileOf (pool : Array CpInfo) (this : Nat) (attrs : Array Attribute := #[]) (ms : Array MethodInfo := #[]) (fl : Nat := 33) (sup : Nat := 0) (ifs : Array Nat := #[]) (fds : Array FieldInfo := #[]) : ClassFile where
  minorVersion := 0
  majorVersion := 65
  constantPool := pool
  accessFlags := fl
  thisClass := this
  superClass := sup
  interfaces := ifs
  fields := fds
  methods := ms
  attributes := attrs
def plain (name : String) (sup : Option ClassId) : Class where
  name := name
  kind := .ordinary
  loader := none
  accessFlags := 33
  super := sup
  interfaces := #[]
  cf := none
  fields := #[]
  methods := #[]
  instanceTypes := #[]
  staticTypes := #[]
  resolved := #[]
  callSites := []
  init := .initialized
  statics := none
  mirror := none

def pool0 : Array CpInfo := pool [(5, u "<init>"), (0, u "()V"), (1, .class_ 10), (1, u "java/lang/Object"), (85, u "clone"), (0, u "()Ljava/lang/Object;")] 26

def k0c0 : Code := { maxStack := 0, maxLocals := 1, code := object_method_1_code, exceptionTable := #[], attributes := #[] }
def k0m0 : Method := { name := "<init>", desc := "()V", sig := { parameters := [], returnType := none }, accessFlags := 1, code := some k0c0 }
def k0m1 : Method := { name := "clone", desc := "()Ljava/lang/Object;", sig := { parameters := [], returnType := some (.object "java/lang/Object") }, accessFlags := 260, code := none }
/-- java/lang/Object -/
def k0 : Class := { plain "java/lang/Object" none with
  accessFlags := 33
  interfaces := #[]
  cf := some (fileOf pool0 8 #[] #[{ accessFlags := 1, nameIndex := 5, descriptorIndex := 6, attributes := #[] }, { accessFlags := 260, nameIndex := 96, descriptorIndex := 97, attributes := #[] }] 33 0 #[] #[])
  fields := #[]
  methods := #[k0m0, k0m1]
  instanceTypes := #[]
  staticTypes := #[]
  resolved := Array.replicate 124 none
  statics := none }

def pool1 : Array CpInfo := pool [(2, .class_ 4), (1, u "java/lang/Object"), (0, u "<init>"), (0, u "()V"), (0, .methodref 8 9), (0, .class_ 10), (0, .nameAndType 11 12), (0, u "java/lang/String"), (0, u "charAt"), (0, u "(I)C"), (0, .string 14), (0, u "active"), (0, .string 16), (0, u "fallback"), (0, .string 18), (0, u "expired"), (0, .string 20), (0, u "revoked"), (0, .methodref 8 22), (0, .nameAndType 23 24), (0, u "length"), (0, u "()I"), (0, .integer 2147483647), (0, .methodref 27 28), (0, .class_ 29), (0, .nameAndType 30 31), (0, u "com/example/indie_lease/indielease/model/LicenseStatusOfCodePinLaw"), (0, u "pick"), (0, u "(Ljava/lang/String;IIZIC)C"), (0, .methodref 8 33), (0, .nameAndType 5 34), (0, u "([C)V"), (0, .methodref 8 36), (0, .nameAndType 37 38), (0, u "equals"), (0, u "(Ljava/lang/Object;)Z"), (0, .fieldref 40 41), (0, .class_ 42), (0, .nameAndType 43 44), (0, u "com/example/indie_lease/indielease/model/LicenseStatus"), (0, u "ACTIVE"), (0, u "Lcom/example/indie_lease/indielease/model/LicenseStatus;"), (0, .fieldref 40 46), (0, .nameAndType 47 44), (0, u "FALLBACK"), (0, .fieldref 40 49), (0, .nameAndType 50 44), (0, u "EXPIRED"), (0, .fieldref 40 52), (0, .nameAndType 53 44), (0, u "REVOKED"), (0, .methodref 40 55), (0, .nameAndType 56 57), (0, u "ofCode"), (0, u "(Ljava/lang/String;)Lcom/example/indie_lease/indielease/model/LicenseStatus;"), (3, u "law"), (0, u "(IIIII)Z")] 4

def k1m0 : Method := { name := "<init>", desc := "()V", sig := { parameters := [], returnType := none }, accessFlags := 2, code := none }
def k1c1 : Code := { maxStack := 2, maxLocals := 6, code := method_2_code, exceptionTable := #[], attributes := #[] }
def k1m1 : Method := { name := "pick", desc := "(Ljava/lang/String;IIZIC)C", sig := { parameters := [(.object "java/lang/String"), .int, .int, .boolean, .int, .char], returnType := some .char }, accessFlags := 10, code := some k1c1 }
def k1c2 : Code := { maxStack := 8, maxLocals := 17, code := code, exceptionTable := #[], attributes := #[] }
def k1m2 : Method := { name := "law", desc := "(IIIII)Z", sig := { parameters := [.int, .int, .int, .int, .int], returnType := some .boolean }, accessFlags := 9, code := some k1c2 }
/-- com/example/indie_lease/indielease/model/LicenseStatusOfCodePinLaw -/
def k1 : Class := { plain "com/example/indie_lease/indielease/model/LicenseStatusOfCodePinLaw" (some 0) with
  accessFlags := 49
  interfaces := #[]
  cf := some (fileOf pool1 27 #[] #[{ accessFlags := 2, nameIndex := 5, descriptorIndex := 6, attributes := #[] }, { accessFlags := 10, nameIndex := 30, descriptorIndex := 31, attributes := #[] }, { accessFlags := 9, nameIndex := 61, descriptorIndex := 62, attributes := #[] }] 49 2 #[] #[])
  fields := #[]
  methods := #[k1m0, k1m1, k1m2]
  instanceTypes := #[]
  staticTypes := #[]
  resolved := Array.replicate 67 none
  statics := none }

def pool2 : Array CpInfo := pool [(1, .class_ 2), (0, u "java/io/Serializable"), (0, .class_ 4), (0, u "java/lang/Object")] 2

/-- java/io/Serializable -/
def k2 : Class := { plain "java/io/Serializable" (some 0) with
  accessFlags := 1537
  interfaces := #[]
  cf := some (fileOf pool2 1 #[] #[] 1537 3 #[] #[])
  fields := #[]
  methods := #[]
  instanceTypes := #[]
  staticTypes := #[]
  resolved := Array.replicate 7 none
  statics := none }

def pool3 : Array CpInfo := pool [(1, .class_ 2), (0, u "java/lang/Comparable"), (0, .class_ 4), (0, u "java/lang/Object")] 7

/-- java/lang/Comparable -/
def k3 : Class := { plain "java/lang/Comparable" (some 0) with
  accessFlags := 1537
  interfaces := #[]
  cf := some (fileOf pool3 1 #[] #[] 1537 3 #[] #[])
  fields := #[]
  methods := #[]
  instanceTypes := #[]
  staticTypes := #[]
  resolved := Array.replicate 12 none
  statics := none }

def pool4 : Array CpInfo := pool [(2, .class_ 4), (1, u "java/lang/CharSequence"), (42, .class_ 48), (0, u "java/lang/CharSequence$1CodePointIterator"), (10, .class_ 60), (0, u "java/lang/CharSequence$1CharIterator"), (5, .class_ 67), (0, u "java/lang/Object")] 63

/-- java/lang/CharSequence -/
def k4 : Class := { plain "java/lang/CharSequence" (some 0) with
  accessFlags := 1537
  interfaces := #[]
  cf := some (fileOf pool4 2 #[.nestMembers #[47, 59]] #[] 1537 66 #[] #[])
  fields := #[]
  methods := #[]
  instanceTypes := #[]
  staticTypes := #[]
  resolved := Array.replicate 131 none
  statics := none }

def pool5 : Array CpInfo := pool [(1, .class_ 2), (0, u "java/lang/constant/Constable"), (0, .class_ 4), (0, u "java/lang/Object")] 6

/-- java/lang/constant/Constable -/
def k5 : Class := { plain "java/lang/constant/Constable" (some 0) with
  accessFlags := 1537
  interfaces := #[]
  cf := some (fileOf pool5 1 #[] #[] 1537 3 #[] #[])
  fields := #[]
  methods := #[]
  instanceTypes := #[]
  staticTypes := #[]
  resolved := Array.replicate 11 none
  statics := none }

def pool6 : Array CpInfo := pool [(1, .class_ 2), (0, u "java/lang/constant/ConstantDesc"), (0, .class_ 4), (0, u "java/lang/Object")] 32

/-- java/lang/constant/ConstantDesc -/
def k6 : Class := { plain "java/lang/constant/ConstantDesc" (some 0) with
  accessFlags := 1537
  interfaces := #[]
  cf := some (fileOf pool6 1 #[] #[] 1537 3 #[] #[])
  fields := #[]
  methods := #[]
  instanceTypes := #[]
  staticTypes := #[]
  resolved := Array.replicate 37 none
  statics := none }

def pool7 : Array CpInfo := pool [(1, .methodref 2 3), (0, .class_ 4), (0, .nameAndType 5 6), (0, u "java/lang/Object"), (0, u "<init>"), (0, u "()V"), (0, .string 8), (0, u ""), (0, .fieldref 10 11), (0, .class_ 12), (0, .nameAndType 13 14), (0, u "java/lang/String"), (0, u "value"), (0, u "[B"), (0, .fieldref 10 16), (0, .nameAndType 17 18), (0, u "coder"), (0, u "B"), (2, u "hash"), (0, u "I"), (2, u "hashIsZero"), (0, u "Z"), (0, .methodref 10 28), (0, .nameAndType 5 29), (0, u "([CIILjava/lang/Void;)V"), (8, .fieldref 10 39), (0, .nameAndType 40 26), (0, u "COMPACT_STRINGS"), (1, .class_ 44), (1, u "java/lang/StringUTF16"), (0, u "compress"), (1, .methodref 42 48), (0, .nameAndType 49 50), (0, u "coderFromArrayLen"), (0, u "([BI)B"), (56, .class_ 109), (1, u "java/lang/StringLatin1"), (32, u "()Z"), (34, .methodref 42 178), (0, .nameAndType 45 179), (0, u "([CII)[B"), (154, u "()I"), (0, .methodref 10 336), (0, .nameAndType 17 337), (0, u "()B"), (25, u "([BI)C"), (27, u "(II)V"), (35, u "(I)C"), (64, .methodref 10 493), (0, .nameAndType 494 142), (0, u "isLatin1"), (0, .methodref 107 496), (0, .nameAndType 497 363), (0, u "charAt"), (3, u "checkIndex"), (5, u "length"), (33, .methodref 107 542), (0, .nameAndType 543 544), (0, u "equals"), (0, u "([B[B)Z"), (28, u "(Ljava/lang/Object;)Z"), (1, .class_ 576), (0, u "java/lang/CharSequence"), (22, u "CASE_INSENSITIVE_ORDER"), (0, u "Ljava/util/Comparator;"), (409, u "([C)V"), (42, .fieldref 1054 1055), (0, .class_ 1056), (0, .nameAndType 1057 1058), (0, u "jdk/internal/util/Preconditions"), (0, u "SIOOBE_FORMATTER"), (0, u "Ljava/util/function/BiFunction;"), (0, .methodref 1054 1060), (0, .nameAndType 501 1061), (0, u "(IILjava/util/function/BiFunction;)I"), (39, u "serialPersistentFields"), (0, u "[Ljava/io/ObjectStreamField;"), (0, .class_ 1104), (0, u "java/lang/String$CaseInsensitiveComparator"), (1, .class_ 1107), (0, u "java/io/Serializable"), (0, .class_ 1109), (0, u "java/lang/Comparable"), (0, .class_ 1111), (0, u "java/lang/constant/Constable"), (0, .class_ 1113), (0, u "java/lang/constant/ConstantDesc"), (2, u "serialVersionUID"), (0, u "J"), (3, u "REPL"), (0, u "C"), (2, u "LATIN1"), (1, u "UTF16")] 323

def k7m0 : Method := { name := "<init>", desc := "()V", sig := { parameters := [], returnType := none }, accessFlags := 1, code := none }
def k7c1 : Code := { maxStack := 5, maxLocals := 2, code := jdk_42_method_3_code, exceptionTable := #[], attributes := #[] }
def k7m1 : Method := { name := "<init>", desc := "([C)V", sig := { parameters := [(.array .char)], returnType := none }, accessFlags := 1, code := some k7c1 }
def k7c2 : Code := { maxStack := 2, maxLocals := 1, code := jdk_42_method_54_code, exceptionTable := #[], attributes := #[] }
def k7m2 : Method := { name := "length", desc := "()I", sig := { parameters := [], returnType := some .int }, accessFlags := 1, code := some k7c2 }
def k7c3 : Code := { maxStack := 2, maxLocals := 2, code := jdk_42_method_56_code, exceptionTable := #[], attributes := #[] }
def k7m3 : Method := { name := "charAt", desc := "(I)C", sig := { parameters := [.int], returnType := some .char }, accessFlags := 1, code := some k7c3 }
def k7c4 : Code := { maxStack := 2, maxLocals := 3, code := jdk_42_method_66_code, exceptionTable := #[], attributes := #[] }
def k7m4 : Method := { name := "equals", desc := "(Ljava/lang/Object;)Z", sig := { parameters := [(.object "java/lang/Object")], returnType := some .boolean }, accessFlags := 1, code := some k7c4 }
def k7c5 : Code := { maxStack := 4, maxLocals := 6, code := jdk_42_method_149_code, exceptionTable := #[], attributes := #[] }
def k7m5 : Method := { name := "<init>", desc := "([CIILjava/lang/Void;)V", sig := { parameters := [(.array .char), .int, .int, (.object "java/lang/Void")], returnType := none }, accessFlags := 2, code := some k7c5 }
def k7c6 : Code := { maxStack := 1, maxLocals := 1, code := jdk_42_method_152_code, exceptionTable := #[], attributes := #[] }
def k7m6 : Method := { name := "coder", desc := "()B", sig := { parameters := [], returnType := some .byte }, accessFlags := 0, code := some k7c6 }
def k7c7 : Code := { maxStack := 1, maxLocals := 1, code := jdk_42_method_154_code, exceptionTable := #[], attributes := #[] }
def k7m7 : Method := { name := "isLatin1", desc := "()Z", sig := { parameters := [], returnType := some .boolean }, accessFlags := 0, code := some k7c7 }
def k7c8 : Code := { maxStack := 3, maxLocals := 2, code := jdk_42_method_155_code, exceptionTable := #[], attributes := #[] }
def k7m8 : Method := { name := "checkIndex", desc := "(II)V", sig := { parameters := [.int, .int], returnType := none }, accessFlags := 8, code := some k7c8 }
/-- java/lang/String -/
def k7 : Class := { plain "java/lang/String" (some 0) with
  accessFlags := 49
  interfaces := #[2, 3, 4, 5, 6]
  cf := some (fileOf pool7 10 #[.nestMembers #[1103]] #[{ accessFlags := 1, nameIndex := 5, descriptorIndex := 6, attributes := #[] }, { accessFlags := 1, nameIndex := 5, descriptorIndex := 1010, attributes := #[] }, { accessFlags := 1, nameIndex := 507, descriptorIndex := 334, attributes := #[] }, { accessFlags := 1, nameIndex := 497, descriptorIndex := 427, attributes := #[] }, { accessFlags := 1, nameIndex := 543, descriptorIndex := 573, attributes := #[] }, { accessFlags := 2, nameIndex := 5, descriptorIndex := 29, attributes := #[] }, { accessFlags := 0, nameIndex := 17, descriptorIndex := 337, attributes := #[] }, { accessFlags := 0, nameIndex := 494, descriptorIndex := 142, attributes := #[] }, { accessFlags := 8, nameIndex := 501, descriptorIndex := 391, attributes := #[] }] 49 2 #[1106, 1108, 575, 1110, 1112] #[{ accessFlags := 18, nameIndex := 13, descriptorIndex := 14, attributes := #[] }, { accessFlags := 18, nameIndex := 17, descriptorIndex := 18, attributes := #[] }, { accessFlags := 2, nameIndex := 21, descriptorIndex := 22, attributes := #[] }, { accessFlags := 2, nameIndex := 25, descriptorIndex := 26, attributes := #[] }, { accessFlags := 26, nameIndex := 1116, descriptorIndex := 1117, attributes := #[] }, { accessFlags := 24, nameIndex := 40, descriptorIndex := 26, attributes := #[] }, { accessFlags := 26, nameIndex := 1101, descriptorIndex := 1102, attributes := #[] }, { accessFlags := 26, nameIndex := 1121, descriptorIndex := 1122, attributes := #[] }, { accessFlags := 25, nameIndex := 599, descriptorIndex := 600, attributes := #[] }, { accessFlags := 24, nameIndex := 1125, descriptorIndex := 18, attributes := #[] }, { accessFlags := 24, nameIndex := 1127, descriptorIndex := 18, attributes := #[] }])
  fields := #[{ name := "value", type := (.array .byte), accessFlags := 18, slot := 0, constantValue := 0 }, { name := "coder", type := .byte, accessFlags := 18, slot := 1, constantValue := 0 }, { name := "hash", type := .int, accessFlags := 2, slot := 2, constantValue := 0 }, { name := "hashIsZero", type := .boolean, accessFlags := 2, slot := 3, constantValue := 0 }, { name := "serialVersionUID", type := .long, accessFlags := 26, slot := 0, constantValue := 0 }, { name := "COMPACT_STRINGS", type := .boolean, accessFlags := 24, slot := 1, constantValue := 0 }, { name := "serialPersistentFields", type := (.array (.object "java/io/ObjectStreamField")), accessFlags := 26, slot := 2, constantValue := 0 }, { name := "REPL", type := .char, accessFlags := 26, slot := 3, constantValue := 0 }, { name := "CASE_INSENSITIVE_ORDER", type := (.object "java/util/Comparator"), accessFlags := 25, slot := 4, constantValue := 0 }, { name := "LATIN1", type := .byte, accessFlags := 24, slot := 5, constantValue := 0 }, { name := "UTF16", type := .byte, accessFlags := 24, slot := 6, constantValue := 0 }]
  methods := #[k7m0, k7m1, k7m2, k7m3, k7m4, k7m5, k7m6, k7m7, k7m8]
  instanceTypes := #[(.array .byte), .byte, .int, .boolean]
  staticTypes := #[.long, .boolean, (.array (.object "java/io/ObjectStreamField")), .char, (.object "java/util/Comparator"), .byte, .byte]
  resolved := Array.replicate 1451 none
  statics := some 0 }

def pool8 : Array CpInfo := pool [(1, .class_ 2), (0, u "java/lang/String"), (1, .class_ 6), (1, u "java/lang/Object"), (0, u "<init>"), (0, u "()V"), (0, .methodref 1 10), (0, .nameAndType 11 12), (0, u "checkIndex"), (0, u "(II)V"), (1, .class_ 16), (1, u "java/lang/StringLatin1"), (36, u "([BI)C"), (67, u "$assertionsDisabled"), (0, u "Z"), (98, .class_ 223), (1, u "java/lang/StringLatin1$LinesSpliterator"), (28, u "charAt"), (28, u "equals"), (0, u "([B[B)Z"), (107, .class_ 391), (0, u "java/lang/StringLatin1$CharsSpliterator")] 3

def k8m0 : Method := { name := "<init>", desc := "()V", sig := { parameters := [], returnType := none }, accessFlags := 0, code := none }
def k8c1 : Code := { maxStack := 2, maxLocals := 2, code := jdk_43_method_2_code, exceptionTable := #[], attributes := #[] }
def k8m1 : Method := { name := "charAt", desc := "([BI)C", sig := { parameters := [(.array .byte), .int], returnType := some .char }, accessFlags := 9, code := some k8c1 }
def k8c2 : Code := { maxStack := 3, maxLocals := 3, code := jdk_43_method_13_code, exceptionTable := #[], attributes := #[] }
def k8m2 : Method := { name := "equals", desc := "([B[B)Z", sig := { parameters := [(.array .byte), (.array .byte)], returnType := some .boolean }, accessFlags := 9, code := some k8c2 }
/-- java/lang/StringLatin1 -/
def k8 : Class := { plain "java/lang/StringLatin1" (some 0) with
  accessFlags := 48
  interfaces := #[]
  cf := some (fileOf pool8 14 #[.nestMembers #[390, 221]] #[{ accessFlags := 0, nameIndex := 7, descriptorIndex := 8, attributes := #[] }, { accessFlags := 9, nameIndex := 252, descriptorIndex := 53, attributes := #[] }, { accessFlags := 9, nameIndex := 281, descriptorIndex := 282, attributes := #[] }] 48 4 #[] #[{ accessFlags := 4120, nameIndex := 121, descriptorIndex := 122, attributes := #[] }])
  fields := #[{ name := "$assertionsDisabled", type := .boolean, accessFlags := 4120, slot := 0, constantValue := 0 }]
  methods := #[k8m0, k8m1, k8m2]
  instanceTypes := #[]
  staticTypes := #[.boolean]
  resolved := Array.replicate 395 none
  statics := none }

def pool9 : Array CpInfo := pool [(2, .class_ 4), (1, u "java/lang/Object"), (0, u "<init>"), (0, u "()V"), (17, .class_ 26), (1, u "jdk/internal/util/Preconditions"), (6, u "checkIndex"), (21, .class_ 56), (0, u "jdk/internal/util/Preconditions$4"), (57, .class_ 115), (0, u "jdk/internal/util/Preconditions$1"), (7, u "SIOOBE_FORMATTER"), (0, u "Ljava/util/function/BiFunction;"), (0, .class_ 126), (0, u "jdk/internal/util/Preconditions$2"), (3, u "AIOOBE_FORMATTER"), (0, .class_ 132), (0, u "jdk/internal/util/Preconditions$3"), (3, u "IOOBE_FORMATTER"), (41, u "(IILjava/util/function/BiFunction;)I")] 15

def k9m0 : Method := { name := "<init>", desc := "()V", sig := { parameters := [], returnType := none }, accessFlags := 1, code := none }
def k9c1 : Code := { maxStack := 3, maxLocals := 3, code := jdk_41_method_11_code, exceptionTable := #[], attributes := #[] }
def k9m1 : Method := { name := "checkIndex", desc := "(IILjava/util/function/BiFunction;)I", sig := { parameters := [.int, .int, (.object "java/util/function/BiFunction")], returnType := some .int }, accessFlags := 9, code := some k9c1 }
/-- jdk/internal/util/Preconditions -/
def k9 : Class := { plain "jdk/internal/util/Preconditions" (some 0) with
  accessFlags := 33
  interfaces := #[]
  cf := some (fileOf pool9 24 #[.nestMembers #[55, 131, 125, 114]] #[{ accessFlags := 1, nameIndex := 5, descriptorIndex := 6, attributes := #[] }, { accessFlags := 9, nameIndex := 33, descriptorIndex := 178, attributes := #[] }] 33 2 #[] #[{ accessFlags := 25, nameIndex := 123, descriptorIndex := 124, attributes := #[] }, { accessFlags := 25, nameIndex := 130, descriptorIndex := 124, attributes := #[] }, { accessFlags := 25, nameIndex := 136, descriptorIndex := 124, attributes := #[] }])
  fields := #[{ name := "SIOOBE_FORMATTER", type := (.object "java/util/function/BiFunction"), accessFlags := 25, slot := 0, constantValue := 0 }, { name := "AIOOBE_FORMATTER", type := (.object "java/util/function/BiFunction"), accessFlags := 25, slot := 1, constantValue := 0 }, { name := "IOOBE_FORMATTER", type := (.object "java/util/function/BiFunction"), accessFlags := 25, slot := 2, constantValue := 0 }]
  methods := #[k9m0, k9m1]
  instanceTypes := #[]
  staticTypes := #[(.object "java/util/function/BiFunction"), (.object "java/util/function/BiFunction"), (.object "java/util/function/BiFunction")]
  resolved := Array.replicate 194 none
  statics := some 1 }

def pool10 : Array CpInfo := pool [(2, .class_ 4), (1, u "java/lang/Enum"), (0, u "name"), (0, u "Ljava/lang/String;"), (2, u "ordinal"), (0, u "I"), (1, .class_ 14), (1, u "java/lang/Object"), (4, u "hash"), (86, .class_ 108), (1, u "java/lang/Enum$EnumDesc"), (2, .class_ 112), (0, u "java/lang/constant/Constable"), (0, .class_ 114), (0, u "java/lang/Comparable"), (0, .class_ 116), (0, u "java/io/Serializable")] 87

/-- java/lang/Enum -/
def k10 : Class := { plain "java/lang/Enum" (some 0) with
  accessFlags := 1057
  interfaces := #[5, 3, 2]
  cf := some (fileOf pool10 2 #[.nestMembers #[106]] #[] 1057 12 #[111, 113, 115] #[{ accessFlags := 18, nameIndex := 5, descriptorIndex := 6, attributes := #[] }, { accessFlags := 18, nameIndex := 9, descriptorIndex := 10, attributes := #[] }, { accessFlags := 2, nameIndex := 19, descriptorIndex := 10, attributes := #[] }])
  fields := #[{ name := "name", type := (.object "java/lang/String"), accessFlags := 18, slot := 0, constantValue := 0 }, { name := "ordinal", type := .int, accessFlags := 18, slot := 1, constantValue := 0 }, { name := "hash", type := .int, accessFlags := 2, slot := 2, constantValue := 0 }]
  methods := #[]
  instanceTypes := #[(.object "java/lang/String"), .int, .int]
  staticTypes := #[]
  resolved := Array.replicate 204 none
  statics := none }

def pool11 : Array CpInfo := pool [(1, .class_ 2), (0, u "com/example/indie_lease/indielease/model/LicenseStatus"), (2, u "ACTIVE"), (0, u "Lcom/example/indie_lease/indielease/model/LicenseStatus;"), (2, u "FALLBACK"), (2, u "EXPIRED"), (2, u "REVOKED"), (0, .fieldref 1 17), (0, .nameAndType 18 19), (0, u "$VALUES"), (0, u "[Lcom/example/indie_lease/indielease/model/LicenseStatus;"), (0, .methodref 21 22), (0, .class_ 19), (0, .nameAndType 23 24), (0, u "clone"), (0, u "()Ljava/lang/Object;"), (1, .class_ 28), (1, u "java/lang/Enum"), (6, .fieldref 1 36), (0, .nameAndType 37 38), (0, u "code"), (0, u "Ljava/lang/String;"), (2, u "admitsDevices"), (0, u "Z"), (0, .methodref 1 44), (0, .nameAndType 45 46), (0, u "values"), (0, u "()[Lcom/example/indie_lease/indielease/model/LicenseStatus;"), (0, .methodref 48 49), (0, .class_ 50), (0, .nameAndType 51 52), (0, u "java/lang/String"), (0, u "equals"), (0, u "(Ljava/lang/Object;)Z"), (20, u "(Ljava/lang/String;)Lcom/example/indie_lease/indielease/model/LicenseStatus;"), (3, u "ofCode")] 8

def k11c0 : Code := { maxStack := 1, maxLocals := 0, code := prog_18_method_1_code, exceptionTable := #[], attributes := #[] }
def k11m0 : Method := { name := "values", desc := "()[Lcom/example/indie_lease/indielease/model/LicenseStatus;", sig := { parameters := [], returnType := some (.array (.object "com/example/indie_lease/indielease/model/LicenseStatus")) }, accessFlags := 9, code := some k11c0 }
def k11c1 : Code := { maxStack := 2, maxLocals := 5, code := prog_18_method_4_code, exceptionTable := #[], attributes := #[] }
def k11m1 : Method := { name := "ofCode", desc := "(Ljava/lang/String;)Lcom/example/indie_lease/indielease/model/LicenseStatus;", sig := { parameters := [(.object "java/lang/String")], returnType := some (.object "com/example/indie_lease/indielease/model/LicenseStatus") }, accessFlags := 9, code := some k11c1 }
/-- com/example/indie_lease/indielease/model/LicenseStatus -/
def k11 : Class := { plain "com/example/indie_lease/indielease/model/LicenseStatus" (some 10) with
  accessFlags := 16433
  interfaces := #[]
  cf := some (fileOf pool11 1 #[] #[{ accessFlags := 9, nameIndex := 45, descriptorIndex := 46, attributes := #[] }, { accessFlags := 9, nameIndex := 77, descriptorIndex := 73, attributes := #[] }] 16433 26 #[] #[{ accessFlags := 16409, nameIndex := 5, descriptorIndex := 6, attributes := #[] }, { accessFlags := 16409, nameIndex := 9, descriptorIndex := 6, attributes := #[] }, { accessFlags := 16409, nameIndex := 12, descriptorIndex := 6, attributes := #[] }, { accessFlags := 16409, nameIndex := 15, descriptorIndex := 6, attributes := #[] }, { accessFlags := 18, nameIndex := 37, descriptorIndex := 38, attributes := #[] }, { accessFlags := 18, nameIndex := 41, descriptorIndex := 42, attributes := #[] }, { accessFlags := 4122, nameIndex := 18, descriptorIndex := 19, attributes := #[] }])
  fields := #[{ name := "ACTIVE", type := (.object "com/example/indie_lease/indielease/model/LicenseStatus"), accessFlags := 16409, slot := 0, constantValue := 0 }, { name := "FALLBACK", type := (.object "com/example/indie_lease/indielease/model/LicenseStatus"), accessFlags := 16409, slot := 1, constantValue := 0 }, { name := "EXPIRED", type := (.object "com/example/indie_lease/indielease/model/LicenseStatus"), accessFlags := 16409, slot := 2, constantValue := 0 }, { name := "REVOKED", type := (.object "com/example/indie_lease/indielease/model/LicenseStatus"), accessFlags := 16409, slot := 3, constantValue := 0 }, { name := "code", type := (.object "java/lang/String"), accessFlags := 18, slot := 3, constantValue := 0 }, { name := "admitsDevices", type := .boolean, accessFlags := 18, slot := 4, constantValue := 0 }, { name := "$VALUES", type := (.array (.object "com/example/indie_lease/indielease/model/LicenseStatus")), accessFlags := 4122, slot := 4, constantValue := 0 }]
  methods := #[k11m0, k11m1]
  instanceTypes := #[(.object "java/lang/String"), .int, .int, (.object "java/lang/String"), .boolean]
  staticTypes := #[(.object "com/example/indie_lease/indielease/model/LicenseStatus"), (.object "com/example/indie_lease/indielease/model/LicenseStatus"), (.object "com/example/indie_lease/indielease/model/LicenseStatus"), (.object "com/example/indie_lease/indielease/model/LicenseStatus"), (.array (.object "com/example/indie_lease/indielease/model/LicenseStatus"))]
  resolved := Array.replicate 86 none
  statics := some 2 }

def pool12 : Array CpInfo := pool [(1, .class_ 2), (0, u "java/lang/Cloneable"), (0, .class_ 4), (0, u "java/lang/Object")] 2

/-- java/lang/Cloneable -/
def k12 : Class := { plain "java/lang/Cloneable" (some 0) with
  accessFlags := 1537
  interfaces := #[]
  cf := some (fileOf pool12 1 #[] #[] 1537 3 #[] #[])
  fields := #[]
  methods := #[]
  instanceTypes := #[]
  staticTypes := #[]
  resolved := Array.replicate 7 none
  statics := none }

def pool13 : Array CpInfo := pool [(6, .class_ 8), (1, u "java/lang/Object"), (0, u "<init>"), (0, u "()V"), (1, .class_ 14), (1, u "java/lang/StringUTF16"), (31, u "$assertionsDisabled"), (0, u "Z"), (13, u "HI_BYTE_SHIFT"), (0, u "I"), (2, u "LO_BYTE_SHIFT"), (49, .methodref 12 116), (0, .nameAndType 117 118), (0, u "compress"), (0, u "([CI[BII)I"), (3, u "([CII)[B"), (138, u "coderFromArrayLen"), (0, u "([BI)B"), (106, .class_ 371), (1, u "java/lang/StringUTF16$LinesSpliterator"), (58, u "MAX_LENGTH"), (196, .class_ 628), (0, u "java/lang/StringUTF16$CodePointsSpliterator"), (0, .class_ 630), (0, u "java/lang/StringUTF16$CharsSpliterator")] 4

def k13m0 : Method := { name := "<init>", desc := "()V", sig := { parameters := [], returnType := none }, accessFlags := 0, code := none }
def k13c1 : Code := { maxStack := 2, maxLocals := 2, code := jdk_52_method_15_code, exceptionTable := #[], attributes := #[] }
def k13m1 : Method := { name := "coderFromArrayLen", desc := "([BI)B", sig := { parameters := [(.array .byte), .int], returnType := some .byte }, accessFlags := 8, code := some k13c1 }
def k13c2 : Code := { maxStack := 5, maxLocals := 6, code := jdk_52_method_16_code, exceptionTable := #[], attributes := #[] }
def k13m2 : Method := { name := "compress", desc := "([CII)[B", sig := { parameters := [(.array .char), .int, .int], returnType := some (.array .byte) }, accessFlags := 9, code := some k13c2 }
def k13c3 : Code := { maxStack := 3, maxLocals := 7, code := jdk_52_method_21_code, exceptionTable := #[], attributes := #[] }
def k13m3 : Method := { name := "compress", desc := "([CI[BII)I", sig := { parameters := [(.array .char), .int, (.array .byte), .int, .int], returnType := some .int }, accessFlags := 9, code := some k13c3 }
/-- java/lang/StringUTF16 -/
def k13 : Class := { plain "java/lang/StringUTF16" (some 0) with
  accessFlags := 48
  interfaces := #[]
  cf := some (fileOf pool13 12 #[.nestMembers #[627, 629, 369]] #[{ accessFlags := 0, nameIndex := 9, descriptorIndex := 10, attributes := #[] }, { accessFlags := 8, nameIndex := 261, descriptorIndex := 262, attributes := #[] }, { accessFlags := 9, nameIndex := 117, descriptorIndex := 122, attributes := #[] }, { accessFlags := 9, nameIndex := 117, descriptorIndex := 118, attributes := #[] }] 48 6 #[] #[{ accessFlags := 26, nameIndex := 61, descriptorIndex := 62, attributes := #[] }, { accessFlags := 26, nameIndex := 65, descriptorIndex := 62, attributes := #[] }, { accessFlags := 24, nameIndex := 430, descriptorIndex := 62, attributes := #[] }, { accessFlags := 4120, nameIndex := 46, descriptorIndex := 47, attributes := #[] }])
  fields := #[{ name := "HI_BYTE_SHIFT", type := .int, accessFlags := 26, slot := 0, constantValue := 0 }, { name := "LO_BYTE_SHIFT", type := .int, accessFlags := 26, slot := 1, constantValue := 0 }, { name := "MAX_LENGTH", type := .int, accessFlags := 24, slot := 2, constantValue := 0 }, { name := "$assertionsDisabled", type := .boolean, accessFlags := 4120, slot := 3, constantValue := 0 }]
  methods := #[k13m0, k13m1, k13m2, k13m3]
  instanceTypes := #[]
  staticTypes := #[.int, .int, .int, .boolean]
  resolved := Array.replicate 635 none
  statics := none }

def pool14 : Array CpInfo := pool [(9, u "<init>"), (6, .class_ 18), (1, u "java/lang/Object"), (0, u "()V"), (1, .class_ 23), (1, u "jdk/internal/util/ArraysSupport"), (0, u "LOG2_ARRAY_LONG_INDEX_SCALE"), (0, u "I"), (2, u "U"), (0, u "Ljdk/internal/misc/Unsafe;"), (8, u "BIG_ENDIAN"), (0, u "Z"), (8, u "LOG2_BYTE_BIT_SIZE"), (4, u "LOG2_ARRAY_INT_INDEX_SCALE"), (54, u "JLA"), (0, u "Ljdk/internal/access/JavaLangAccess;"), (11, u "LOG2_ARRAY_BOOLEAN_INDEX_SCALE"), (9, u "LOG2_ARRAY_BYTE_INDEX_SCALE"), (5, u "LOG2_ARRAY_CHAR_INDEX_SCALE"), (5, u "LOG2_ARRAY_SHORT_INDEX_SCALE"), (18, u "LOG2_ARRAY_FLOAT_INDEX_SCALE"), (24, u "LOG2_ARRAY_DOUBLE_INDEX_SCALE"), (89, u "T_BOOLEAN"), (2, u "T_CHAR"), (1, u "T_FLOAT"), (1, u "T_DOUBLE"), (1, u "T_BYTE"), (1, u "T_SHORT"), (1, u "T_INT"), (1, u "T_LONG"), (1, u "SOFT_MAX_ARRAY_LENGTH")] 83

def k14m0 : Method := { name := "<init>", desc := "()V", sig := { parameters := [], returnType := none }, accessFlags := 2, code := none }
/-- jdk/internal/util/ArraysSupport -/
def k14 : Class := { plain "jdk/internal/util/ArraysSupport" (some 0) with
  accessFlags := 33
  interfaces := #[]
  cf := some (fileOf pool14 21 #[] #[{ accessFlags := 2, nameIndex := 9, descriptorIndex := 19, attributes := #[] }] 33 16 #[] #[{ accessFlags := 24, nameIndex := 28, descriptorIndex := 29, attributes := #[] }, { accessFlags := 26, nameIndex := 38, descriptorIndex := 39, attributes := #[] }, { accessFlags := 25, nameIndex := 121, descriptorIndex := 25, attributes := #[] }, { accessFlags := 25, nameIndex := 131, descriptorIndex := 25, attributes := #[] }, { accessFlags := 25, nameIndex := 137, descriptorIndex := 25, attributes := #[] }, { accessFlags := 25, nameIndex := 143, descriptorIndex := 25, attributes := #[] }, { accessFlags := 25, nameIndex := 53, descriptorIndex := 25, attributes := #[] }, { accessFlags := 25, nameIndex := 24, descriptorIndex := 25, attributes := #[] }, { accessFlags := 25, nameIndex := 162, descriptorIndex := 25, attributes := #[] }, { accessFlags := 25, nameIndex := 187, descriptorIndex := 25, attributes := #[] }, { accessFlags := 26, nameIndex := 48, descriptorIndex := 25, attributes := #[] }, { accessFlags := 25, nameIndex := 277, descriptorIndex := 25, attributes := #[] }, { accessFlags := 25, nameIndex := 280, descriptorIndex := 25, attributes := #[] }, { accessFlags := 25, nameIndex := 282, descriptorIndex := 25, attributes := #[] }, { accessFlags := 25, nameIndex := 284, descriptorIndex := 25, attributes := #[] }, { accessFlags := 25, nameIndex := 286, descriptorIndex := 25, attributes := #[] }, { accessFlags := 25, nameIndex := 288, descriptorIndex := 25, attributes := #[] }, { accessFlags := 25, nameIndex := 290, descriptorIndex := 25, attributes := #[] }, { accessFlags := 25, nameIndex := 292, descriptorIndex := 25, attributes := #[] }, { accessFlags := 26, nameIndex := 108, descriptorIndex := 109, attributes := #[] }, { accessFlags := 25, nameIndex := 294, descriptorIndex := 25, attributes := #[] }])
  fields := #[{ name := "U", type := (.object "jdk/internal/misc/Unsafe"), accessFlags := 24, slot := 0, constantValue := 0 }, { name := "BIG_ENDIAN", type := .boolean, accessFlags := 26, slot := 1, constantValue := 0 }, { name := "LOG2_ARRAY_BOOLEAN_INDEX_SCALE", type := .int, accessFlags := 25, slot := 2, constantValue := 0 }, { name := "LOG2_ARRAY_BYTE_INDEX_SCALE", type := .int, accessFlags := 25, slot := 3, constantValue := 0 }, { name := "LOG2_ARRAY_CHAR_INDEX_SCALE", type := .int, accessFlags := 25, slot := 4, constantValue := 0 }, { name := "LOG2_ARRAY_SHORT_INDEX_SCALE", type := .int, accessFlags := 25, slot := 5, constantValue := 0 }, { name := "LOG2_ARRAY_INT_INDEX_SCALE", type := .int, accessFlags := 25, slot := 6, constantValue := 0 }, { name := "LOG2_ARRAY_LONG_INDEX_SCALE", type := .int, accessFlags := 25, slot := 7, constantValue := 0 }, { name := "LOG2_ARRAY_FLOAT_INDEX_SCALE", type := .int, accessFlags := 25, slot := 8, constantValue := 0 }, { name := "LOG2_ARRAY_DOUBLE_INDEX_SCALE", type := .int, accessFlags := 25, slot := 9, constantValue := 0 }, { name := "LOG2_BYTE_BIT_SIZE", type := .int, accessFlags := 26, slot := 10, constantValue := 0 }, { name := "T_BOOLEAN", type := .int, accessFlags := 25, slot := 11, constantValue := 0 }, { name := "T_CHAR", type := .int, accessFlags := 25, slot := 12, constantValue := 0 }, { name := "T_FLOAT", type := .int, accessFlags := 25, slot := 13, constantValue := 0 }, { name := "T_DOUBLE", type := .int, accessFlags := 25, slot := 14, constantValue := 0 }, { name := "T_BYTE", type := .int, accessFlags := 25, slot := 15, constantValue := 0 }, { name := "T_SHORT", type := .int, accessFlags := 25, slot := 16, constantValue := 0 }, { name := "T_INT", type := .int, accessFlags := 25, slot := 17, constantValue := 0 }, { name := "T_LONG", type := .int, accessFlags := 25, slot := 18, constantValue := 0 }, { name := "JLA", type := (.object "jdk/internal/access/JavaLangAccess"), accessFlags := 26, slot := 19, constantValue := 0 }, { name := "SOFT_MAX_ARRAY_LENGTH", type := .int, accessFlags := 25, slot := 20, constantValue := 0 }]
  methods := #[k14m0]
  instanceTypes := #[]
  staticTypes := #[(.object "jdk/internal/misc/Unsafe"), .boolean, .int, .int, .int, .int, .int, .int, .int, .int, .int, .int, .int, .int, .int, .int, .int, .int, .int, (.object "jdk/internal/access/JavaLangAccess"), .int]
  resolved := Array.replicate 378 none
  statics := none }

/-- the primitive byte -/
def k15 : Class := { plain "byte" none with kind := .primitive 'B', accessFlags := 0x411 }
/-- [B -/
def k16 : Class := { plain "[B" (some 0) with kind := .array 15 .byte, interfaces := #[12, 2], accessFlags := 1041 }

/-- the primitive char -/
def k17 : Class := { plain "char" none with kind := .primitive 'C', accessFlags := 0x411 }
/-- [C -/
def k18 : Class := { plain "[C" (some 0) with kind := .array 17 .char, interfaces := #[12, 2], accessFlags := 1041 }

/-- the primitive int -/
def k19 : Class := { plain "int" none with kind := .primitive 'I', accessFlags := 0x411 }
/-- [I -/
def k20 : Class := { plain "[I" (some 0) with kind := .array 19 .int, interfaces := #[12, 2], accessFlags := 1041 }

/-- [Lcom/example/indie_lease/indielease/model/LicenseStatus; -/
def k21 : Class := { plain "[Lcom/example/indie_lease/indielease/model/LicenseStatus;" (some 0) with kind := .array 11 (.object "com/example/indie_lease/indielease/model/LicenseStatus"), interfaces := #[12, 2], accessFlags := 1041 }

def heap : Heap := #[{ cls := 7, slots := #[.long 0, .int 1, .null, .int 0, .null, .int 0, .int 0], vm := .statics 7 },
  { cls := 9, slots := #[.null, .null, .null], vm := .statics 9 },
  { cls := 11, slots := #[.ref 11, .ref 12, .ref 13, .ref 14, .ref 15], vm := .statics 11 },
  { cls := 16, slots := #[.int 97, .int 99, .int 116, .int 105, .int 118, .int 101], vm := .none },
  { cls := 16, slots := #[.int 102, .int 97, .int 108, .int 108, .int 98, .int 97, .int 99, .int 107], vm := .none },
  { cls := 16, slots := #[.int 101, .int 120, .int 112, .int 105, .int 114, .int 101, .int 100], vm := .none },
  { cls := 16, slots := #[.int 114, .int 101, .int 118, .int 111, .int 107, .int 101, .int 100], vm := .none },
  { cls := 7, slots := #[.ref 3, .int 0, .int 0, .int 0], vm := .none },
  { cls := 7, slots := #[.ref 4, .int 0, .int 0, .int 0], vm := .none },
  { cls := 7, slots := #[.ref 5, .int 0, .int 0, .int 0], vm := .none },
  { cls := 7, slots := #[.ref 6, .int 0, .int 0, .int 0], vm := .none },
  { cls := 11, slots := #[.null, .int 0, .int 0, .ref 7, .int 0], vm := .none },
  { cls := 11, slots := #[.null, .int 1, .int 0, .ref 8, .int 0], vm := .none },
  { cls := 11, slots := #[.null, .int 2, .int 0, .ref 9, .int 0], vm := .none },
  { cls := 11, slots := #[.null, .int 3, .int 0, .ref 10, .int 0], vm := .none },
  { cls := 21, slots := #[.ref 11, .ref 12, .ref 13, .ref 14], vm := .none }]
def classes : Array Class := #[k0, k1, k2, k3, k4, k5, k6, k7, k8, k9, k10, k11, k12, k13, k14, k15, k16, k17, k18, k19, k20, k21]
def interned : List (Array UInt16 × Addr) := []
def slotsUsed : Nat := 83
def theMethod : MethodId := ⟨1, 2⟩
def args0 : Array Value := #[.int 5, .int 6, .int 7, .int 8, .int 9]
def aboutOver (below : List Frame) : State where
  vm := { classes := classes, interned := interned.toArray }
  heap := heap
  slotsUsed := slotsUsed
  threads := #[{ frames := .invoking theMethod args0 :: below }]
def below0 : List Frame := [.native { method := ⟨0, 0⟩, args := #[] }]
def about1 : State := aboutOver below0
def p0 : Program := .bare "" "" ""
def e0 : Env := launch0.env 0 0 0
theorem w_frames : about1.frames = Frame.invoking theMethod args0 :: below0 := rfl
set_option maxRecDepth 65536 in
theorem w_args : argsFit about1.vm theMethod args0 = true := by decide +kernel
set_option maxRecDepth 65536 in
theorem w_heap : heapFits about1 = true := by decide +kernel
set_option maxRecDepth 65536 in
theorem w_runnable : about1.curStatus? = some .runnable := by decide +kernel
set_option maxRecDepth 65536 in
theorem w_alone : about1.alone = true := by decide +kernel
set_option maxRecDepth 65536 in
theorem w_named : about1.methodNamed? x = some theMethod := by decide +kernel
set_option maxRecDepth 65536 in
theorem w_hears : about1.hears theMethod below0 = true := by decide +kernel
set_option maxRecDepth 65536 in
theorem w_ripe : about1.ripe theMethod args0 below0 = true := by decide +kernel
theorem w_running : about1.status = .running := rfl
set_option maxRecDepth 65536 in
theorem w_room : about1.hasRoom e0.platform room_1 = true :=
  launch0.hasRoom_least _ room_1 (by decide +kernel) (by decide +kernel) (by decide +kernel) (by decide +kernel) (by decide +kernel) (by decide +kernel)
theorem allAtoms_all (ts : List Jvm.Cond) (a : Array Jvm.Value) (st : Jvm.State) : (allAtoms ts).before a st = ts.all (fun c => c.before a st) := by
  induction ts with
  | nil => rfl
  | cons c t ih =>
    show (Jvm.Cond.and c (allAtoms t)).before a st = _
    rw [Jvm.Cond.before_and, ih, List.all_cons]
def words1 : List Jvm.Cond := Jvm.Cond.code x code maxLocals ret :: tables_1
/-- a 'code' word, met by the world's own term for the bytes: nothing is compared byte by byte -/
theorem code_word {y : MethodName} {bytes : ByteArray} {mx : Nat} {rt : Option FieldType} {a : Array Value} {s : State} {m : MethodId} {meth : Method} {c : Code} (h1 : s.methodNamed? y = some m) (h2 : s.vm.method? m = some meth) (h3 : meth.code = some c) (h4 : c.code = bytes)
    (h5 : (c.maxLocals == mx && c.exceptionTable.isEmpty && decide (c.maxStack ≤ mostOperands) && decide (meth.sig.returnType = rt) && !meth.locks && decide (parseMethodDescriptor y.desc = some meth.sig)) = true) : (Jvm.Cond.code y bytes mx rt).before a s = true := by
  simp only [Bool.and_eq_true, beq_iff_eq, Bool.not_eq_true', decide_eq_true_eq] at h5
  obtain ⟨⟨⟨⟨⟨g1, g2⟩, g3⟩, g4⟩, g5⟩, g6⟩ := h5
  simp [Cond.before, Cond.holds, Cond.value, h1, h2, h3, h4, g1, g2, g3, g4, g5, g6]
def isCode : Jvm.Cond → Bool
  | .code _ _ _ _ => true
  | _ => false
theorem all_split {L : List Jvm.Cond} {P : Jvm.Cond → Bool} (h1 : L.all (fun c => isCode c || P c) = true) (h2 : ∀ c ∈ L.filter isCode, P c = true) : L.all P = true := by
  refine List.all_eq_true.mpr fun c hc => ?_
  have h := List.all_eq_true.mp h1 c hc
  rcases Bool.eq_false_or_eq_true (isCode c) with hi | hi
  · exact h2 c (List.mem_filter.mpr ⟨hc, hi⟩)
  · simpa [hi] using h
set_option maxRecDepth 65536 in
theorem w_c0 : (Jvm.Cond.code x code maxLocals ret).before args0 about1 = true := code_word (m := ⟨1, 2⟩) (meth := k1m2) (c := k1c2) (by decide +kernel) rfl rfl rfl (by decide +kernel)
set_option maxRecDepth 65536 in
theorem w_c1 : (Jvm.Cond.code ({ cls := "java/lang/String", name := "length", desc := "()I" } : Jvm.MethodName) jdk_42_method_54_code (1 : Nat) (Option.some Jvm.ClassFile.FieldType.int)).before args0 about1 = true := code_word (m := ⟨7, 2⟩) (meth := k7m2) (c := k7c2) (by decide +kernel) rfl rfl rfl (by decide +kernel)
set_option maxRecDepth 65536 in
theorem w_c2 : (Jvm.Cond.code ({ cls := "java/lang/String", name := "coder", desc := "()B" } : Jvm.MethodName) jdk_42_method_152_code (1 : Nat) (Option.some Jvm.ClassFile.FieldType.byte)).before args0 about1 = true := code_word (m := ⟨7, 6⟩) (meth := k7m6) (c := k7c6) (by decide +kernel) rfl rfl rfl (by decide +kernel)
set_option maxRecDepth 65536 in
theorem w_c3 : (Jvm.Cond.code ({ cls := "com/example/indie_lease/indielease/model/LicenseStatusOfCodePinLaw", name := "pick", desc := "(Ljava/lang/String;IIZIC)C" } : Jvm.MethodName) method_2_code (6 : Nat) (Option.some Jvm.ClassFile.FieldType.char)).before args0 about1 = true := code_word (m := ⟨1, 1⟩) (meth := k1m1) (c := k1c1) (by decide +kernel) rfl rfl rfl (by decide +kernel)
set_option maxRecDepth 65536 in
theorem w_c4 : (Jvm.Cond.code ({ cls := "java/lang/String", name := "charAt", desc := "(I)C" } : Jvm.MethodName) jdk_42_method_56_code (2 : Nat) (Option.some Jvm.ClassFile.FieldType.char)).before args0 about1 = true := code_word (m := ⟨7, 3⟩) (meth := k7m3) (c := k7c3) (by decide +kernel) rfl rfl rfl (by decide +kernel)
set_option maxRecDepth 65536 in
theorem w_c5 : (Jvm.Cond.code ({ cls := "java/lang/String", name := "isLatin1", desc := "()Z" } : Jvm.MethodName) jdk_42_method_154_code (1 : Nat) (Option.some Jvm.ClassFile.FieldType.boolean)).before args0 about1 = true := code_word (m := ⟨7, 7⟩) (meth := k7m7) (c := k7c7) (by decide +kernel) rfl rfl rfl (by decide +kernel)
set_option maxRecDepth 65536 in
theorem w_c6 : (Jvm.Cond.code ({ cls := "java/lang/StringLatin1", name := "charAt", desc := "([BI)C" } : Jvm.MethodName) jdk_43_method_2_code (2 : Nat) (Option.some Jvm.ClassFile.FieldType.char)).before args0 about1 = true := code_word (m := ⟨8, 1⟩) (meth := k8m1) (c := k8c1) (by decide +kernel) rfl rfl rfl (by decide +kernel)
set_option maxRecDepth 65536 in
theorem w_c7 : (Jvm.Cond.code ({ cls := "java/lang/String", name := "checkIndex", desc := "(II)V" } : Jvm.MethodName) jdk_42_method_155_code (2 : Nat) (Option.none : Option Jvm.ClassFile.FieldType)).before args0 about1 = true := code_word (m := ⟨7, 8⟩) (meth := k7m8) (c := k7c8) (by decide +kernel) rfl rfl rfl (by decide +kernel)
set_option maxRecDepth 65536 in
theorem w_c8 : (Jvm.Cond.code ({ cls := "jdk/internal/util/Preconditions", name := "checkIndex", desc := "(IILjava/util/function/BiFunction;)I" } : Jvm.MethodName) jdk_41_method_11_code (3 : Nat) (Option.some Jvm.ClassFile.FieldType.int)).before args0 about1 = true := code_word (m := ⟨9, 1⟩) (meth := k9m1) (c := k9c1) (by decide +kernel) rfl rfl rfl (by decide +kernel)
set_option maxRecDepth 65536 in
theorem w_c9 : (Jvm.Cond.code ({ cls := "com/example/indie_lease/indielease/model/LicenseStatus", name := "ofCode", desc := "(Ljava/lang/String;)Lcom/example/indie_lease/indielease/model/LicenseStatus;" } : Jvm.MethodName) prog_18_method_4_code (5 : Nat) (Option.some (Jvm.ClassFile.FieldType.object "com/example/indie_lease/indielease/model/LicenseStatus"))).before args0 about1 = true := code_word (m := ⟨11, 1⟩) (meth := k11m1) (c := k11c1) (by decide +kernel) rfl rfl rfl (by decide +kernel)
set_option maxRecDepth 65536 in
theorem w_c10 : (Jvm.Cond.code ({ cls := "com/example/indie_lease/indielease/model/LicenseStatus", name := "values", desc := "()[Lcom/example/indie_lease/indielease/model/LicenseStatus;" } : Jvm.MethodName) prog_18_method_1_code (0 : Nat) (Option.some (Jvm.ClassFile.FieldType.array (Jvm.ClassFile.FieldType.object "com/example/indie_lease/indielease/model/LicenseStatus")))).before args0 about1 = true := code_word (m := ⟨11, 0⟩) (meth := k11m0) (c := k11c0) (by decide +kernel) rfl rfl rfl (by decide +kernel)
set_option maxRecDepth 65536 in
theorem w_c11 : (Jvm.Cond.code ({ cls := "java/lang/String", name := "equals", desc := "(Ljava/lang/Object;)Z" } : Jvm.MethodName) jdk_42_method_66_code (3 : Nat) (Option.some Jvm.ClassFile.FieldType.boolean)).before args0 about1 = true := code_word (m := ⟨7, 4⟩) (meth := k7m4) (c := k7c4) (by decide +kernel) rfl rfl rfl (by decide +kernel)
set_option maxRecDepth 65536 in
theorem w_c12 : (Jvm.Cond.code ({ cls := "java/lang/String", name := "<init>", desc := "([C)V" } : Jvm.MethodName) jdk_42_method_3_code (2 : Nat) (Option.none : Option Jvm.ClassFile.FieldType)).before args0 about1 = true := code_word (m := ⟨7, 1⟩) (meth := k7m1) (c := k7c1) (by decide +kernel) rfl rfl rfl (by decide +kernel)
set_option maxRecDepth 65536 in
theorem w_c13 : (Jvm.Cond.code ({ cls := "java/lang/String", name := "<init>", desc := "([CIILjava/lang/Void;)V" } : Jvm.MethodName) jdk_42_method_149_code (6 : Nat) (Option.none : Option Jvm.ClassFile.FieldType)).before args0 about1 = true := code_word (m := ⟨7, 5⟩) (meth := k7m5) (c := k7c5) (by decide +kernel) rfl rfl rfl (by decide +kernel)
set_option maxRecDepth 65536 in
theorem w_c14 : (Jvm.Cond.code ({ cls := "java/lang/Object", name := "<init>", desc := "()V" } : Jvm.MethodName) object_method_1_code (1 : Nat) (Option.none : Option Jvm.ClassFile.FieldType)).before args0 about1 = true := code_word (m := ⟨0, 0⟩) (meth := k0m0) (c := k0c0) (by decide +kernel) rfl rfl rfl (by decide +kernel)
set_option maxRecDepth 65536 in
theorem w_c15 : (Jvm.Cond.code ({ cls := "java/lang/StringUTF16", name := "compress", desc := "([CII)[B" } : Jvm.MethodName) jdk_52_method_16_code (6 : Nat) (Option.some (Jvm.ClassFile.FieldType.array Jvm.ClassFile.FieldType.byte))).before args0 about1 = true := code_word (m := ⟨13, 2⟩) (meth := k13m2) (c := k13c2) (by decide +kernel) rfl rfl rfl (by decide +kernel)
set_option maxRecDepth 65536 in
theorem w_c16 : (Jvm.Cond.code ({ cls := "java/lang/StringUTF16", name := "compress", desc := "([CI[BII)I" } : Jvm.MethodName) jdk_52_method_21_code (7 : Nat) (Option.some Jvm.ClassFile.FieldType.int)).before args0 about1 = true := code_word (m := ⟨13, 3⟩) (meth := k13m3) (c := k13c3) (by decide +kernel) rfl rfl rfl (by decide +kernel)
set_option maxRecDepth 65536 in
theorem w_c17 : (Jvm.Cond.code ({ cls := "java/lang/StringUTF16", name := "coderFromArrayLen", desc := "([BI)B" } : Jvm.MethodName) jdk_52_method_15_code (2 : Nat) (Option.some Jvm.ClassFile.FieldType.byte)).before args0 about1 = true := code_word (m := ⟨13, 1⟩) (meth := k13m1) (c := k13c1) (by decide +kernel) rfl rfl rfl (by decide +kernel)
set_option maxRecDepth 65536 in
theorem w_c18 : (Jvm.Cond.code ({ cls := "java/lang/StringLatin1", name := "equals", desc := "([B[B)Z" } : Jvm.MethodName) jdk_43_method_13_code (3 : Nat) (Option.some Jvm.ClassFile.FieldType.boolean)).before args0 about1 = true := code_word (m := ⟨8, 2⟩) (meth := k8m2) (c := k8c2) (by decide +kernel) rfl rfl rfl (by decide +kernel)
def codes1 : List Jvm.Cond := [Jvm.Cond.code x code maxLocals ret, Jvm.Cond.code ({ cls := "java/lang/String", name := "length", desc := "()I" } : Jvm.MethodName) jdk_42_method_54_code (1 : Nat) (Option.some Jvm.ClassFile.FieldType.int), Jvm.Cond.code ({ cls := "java/lang/String", name := "coder", desc := "()B" } : Jvm.MethodName) jdk_42_method_152_code (1 : Nat) (Option.some Jvm.ClassFile.FieldType.byte), Jvm.Cond.code ({ cls := "com/example/indie_lease/indielease/model/LicenseStatusOfCodePinLaw", name := "pick", desc := "(Ljava/lang/String;IIZIC)C" } : Jvm.MethodName) method_2_code (6 : Nat) (Option.some Jvm.ClassFile.FieldType.char), Jvm.Cond.code ({ cls := "java/lang/String", name := "charAt", desc := "(I)C" } : Jvm.MethodName) jdk_42_method_56_code (2 : Nat) (Option.some Jvm.ClassFile.FieldType.char), Jvm.Cond.code ({ cls := "java/lang/String", name := "isLatin1", desc := "()Z" } : Jvm.MethodName) jdk_42_method_154_code (1 : Nat) (Option.some Jvm.ClassFile.FieldType.boolean), Jvm.Cond.code ({ cls := "java/lang/StringLatin1", name := "charAt", desc := "([BI)C" } : Jvm.MethodName) jdk_43_method_2_code (2 : Nat) (Option.some Jvm.ClassFile.FieldType.char), Jvm.Cond.code ({ cls := "java/lang/String", name := "checkIndex", desc := "(II)V" } : Jvm.MethodName) jdk_42_method_155_code (2 : Nat) (Option.none : Option Jvm.ClassFile.FieldType), Jvm.Cond.code ({ cls := "jdk/internal/util/Preconditions", name := "checkIndex", desc := "(IILjava/util/function/BiFunction;)I" } : Jvm.MethodName) jdk_41_method_11_code (3 : Nat) (Option.some Jvm.ClassFile.FieldType.int), Jvm.Cond.code ({ cls := "com/example/indie_lease/indielease/model/LicenseStatus", name := "ofCode", desc := "(Ljava/lang/String;)Lcom/example/indie_lease/indielease/model/LicenseStatus;" } : Jvm.MethodName) prog_18_method_4_code (5 : Nat) (Option.some (Jvm.ClassFile.FieldType.object "com/example/indie_lease/indielease/model/LicenseStatus")), Jvm.Cond.code ({ cls := "com/example/indie_lease/indielease/model/LicenseStatus", name := "values", desc := "()[Lcom/example/indie_lease/indielease/model/LicenseStatus;" } : Jvm.MethodName) prog_18_method_1_code (0 : Nat) (Option.some (Jvm.ClassFile.FieldType.array (Jvm.ClassFile.FieldType.object "com/example/indie_lease/indielease/model/LicenseStatus"))), Jvm.Cond.code ({ cls := "java/lang/String", name := "equals", desc := "(Ljava/lang/Object;)Z" } : Jvm.MethodName) jdk_42_method_66_code (3 : Nat) (Option.some Jvm.ClassFile.FieldType.boolean), Jvm.Cond.code ({ cls := "java/lang/String", name := "<init>", desc := "([C)V" } : Jvm.MethodName) jdk_42_method_3_code (2 : Nat) (Option.none : Option Jvm.ClassFile.FieldType), Jvm.Cond.code ({ cls := "java/lang/String", name := "<init>", desc := "([CIILjava/lang/Void;)V" } : Jvm.MethodName) jdk_42_method_149_code (6 : Nat) (Option.none : Option Jvm.ClassFile.FieldType), Jvm.Cond.code ({ cls := "java/lang/Object", name := "<init>", desc := "()V" } : Jvm.MethodName) object_method_1_code (1 : Nat) (Option.none : Option Jvm.ClassFile.FieldType), Jvm.Cond.code ({ cls := "java/lang/StringUTF16", name := "compress", desc := "([CII)[B" } : Jvm.MethodName) jdk_52_method_16_code (6 : Nat) (Option.some (Jvm.ClassFile.FieldType.array Jvm.ClassFile.FieldType.byte)), Jvm.Cond.code ({ cls := "java/lang/StringUTF16", name := "compress", desc := "([CI[BII)I" } : Jvm.MethodName) jdk_52_method_21_code (7 : Nat) (Option.some Jvm.ClassFile.FieldType.int), Jvm.Cond.code ({ cls := "java/lang/StringUTF16", name := "coderFromArrayLen", desc := "([BI)B" } : Jvm.MethodName) jdk_52_method_15_code (2 : Nat) (Option.some Jvm.ClassFile.FieldType.byte), Jvm.Cond.code ({ cls := "java/lang/StringLatin1", name := "equals", desc := "([B[B)Z" } : Jvm.MethodName) jdk_43_method_13_code (3 : Nat) (Option.some Jvm.ClassFile.FieldType.boolean)]
set_option maxRecDepth 65536 in
theorem codes_eq : words1.filter isCode = codes1 := rfl
theorem w_codes : ∀ c ∈ words1.filter isCode, c.before args0 about1 = true := by
  rw [codes_eq]
  intro c hc
  simp only [codes1, List.mem_cons, List.not_mem_nil, or_false] at hc
  rcases hc with rfl | rfl | rfl | rfl | rfl | rfl | rfl | rfl | rfl | rfl | rfl | rfl | rfl | rfl | rfl | rfl | rfl | rfl | rfl
  · exact w_c0
  · exact w_c1
  · exact w_c2
  · exact w_c3
  · exact w_c4
  · exact w_c5
  · exact w_c6
  · exact w_c7
  · exact w_c8
  · exact w_c9
  · exact w_c10
  · exact w_c11
  · exact w_c12
  · exact w_c13
  · exact w_c14
  · exact w_c15
  · exact w_c16
  · exact w_c17
  · exact w_c18
set_option maxRecDepth 65536 in
theorem w_t1 : (words1.take 24).all (fun c => isCode c || c.before args0 about1) = true := by decide +kernel
set_option maxRecDepth 65536 in
theorem w_t2 : ((words1.drop 24).take 24).all (fun c => isCode c || c.before args0 about1) = true := by decide +kernel
set_option maxRecDepth 65536 in
theorem w_t3 : (((words1.drop 24).drop 24).take 24).all (fun c => isCode c || c.before args0 about1) = true := by decide +kernel
set_option maxRecDepth 65536 in
theorem w_t4 : ((((words1.drop 24).drop 24).drop 24).take 24).all (fun c => isCode c || c.before args0 about1) = true := by decide +kernel
set_option maxRecDepth 65536 in
theorem w_t5 : ((((words1.drop 24).drop 24).drop 24).drop 24).all (fun c => isCode c || c.before args0 about1) = true := by decide +kernel
theorem w_tables : (allAtoms (Jvm.Cond.code x code maxLocals ret :: tables_1)).before args0 about1 = true := by
  rw [allAtoms_all]
  show words1.all (fun c => c.before args0 about1) = true
  refine all_split ?_ w_codes
  rw [← List.take_append_drop 24 words1, List.all_append, w_t1, ← List.take_append_drop 24 (words1.drop 24), List.all_append, w_t2, ← List.take_append_drop 24 ((words1.drop 24).drop 24), List.all_append, w_t3, ← List.take_append_drop 24 (((words1.drop 24).drop 24).drop 24), List.all_append, w_t4, w_t5]
  rfl
set_option maxRecDepth 65536 in
theorem w_rest : rest_1_c.before args0 about1 = true := by decide +kernel
set_option maxRecDepth 65536 in
theorem w_case : (Jvm.Cond.and given_1 narrow_1).before args0 about1 = true := by decide +kernel
set_option maxRecDepth 65536 in
theorem w_consts : constsHeld consts_1 about1 := Jvm.Lit.constsHeldB_iff.mp (by decide +kernel)
theorem w_applies : (headSpec (Jvm.Cond.code x code maxLocals ret :: tables_1) room_1).applies x e0.platform about1 = true :=
  (Spec.applies_iff w_frames).mpr ⟨w_running, w_runnable, w_alone, w_named, w_hears, w_ripe, w_room, w_tables⟩
theorem atStart : AtStart classFile x code maxLocals ret World_1 tables_1 room_1 Calls_1 rest_1 Pre_1 launch0 p0 e0 about1 theMethod args0 below0 :=
  ⟨lists_1, trivial, launch0.admits_env _ _ _, launch0.least_env, fairChoices_fair.cas, fairChoices_fair.clock, w_frames, w_args, w_heap, w_applies, ⟨w_consts, trivial⟩, w_rest, w_case⟩
end start1
theorem witness_1 : WitnessClaimed_1 := ⟨start1.p0, start1.e0, start1.about1, start1.theMethod, start1.args0, start1.below0, start1.atStart⟩
end Jvm.Pilot.@@N@@
