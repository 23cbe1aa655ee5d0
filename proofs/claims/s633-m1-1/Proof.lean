import JvmDerived
import JvmDerived.Pilot.@@N@@Statement
import JvmDerived.Pilot.@@N@@Code
set_option linter.unusedVariables false
set_option linter.unusedSimpArgs false
namespace Jvm.Pilot.@@N@@
open Jvm Jvm.ClassFile Sem Op Lib Jvm.Free Jvm.Stand Jvm.LawKit Jvm.RoadKit Bundle Jvm.Pilot.@@N@@.Jvm.D
section OwnKit
variable {p : Program} {l : Launch} {e : Env} {R : Room} {s : State} {m : MethodId} {A : Array Value} {below : List Frame} {meth : Method} {c : Code} {T : State} {cells slots : Nat} {Z : State} {a0 : Array Value} {h : Heap} {own nm : String} {bytes : ByteArray} {maxL : Nat} {ret : Option FieldType} {W : Outcome → State → Prop} {pc pc' tgt : Nat} {Ls : Array Slot} {st : List Value}
/-- the run from the frame g over T comes to an end at which W holds -/
def Goes (p : Program) (e : Env) (below : List Frame) (W : Outcome → State → Prop) (T : State) (g : JFrame) : Prop :=
  ∃ s₂ o, Steps p.tables e below (T.setTop g) s₂ ∧ s₂.status = .running ∧ Ended s₂ below o ∧ W o s₂
theorem Goes.via {T' : State} {g g' : JFrame} (h : ∀ t, Steps p.tables e below (T'.setTop g') t → Steps p.tables e below (T.setTop g) t) (k : Goes p e below W T' g') : Goes p e below W T g := by
  obtain ⟨s₂, o, h1, h2⟩ := k; exact ⟨s₂, o, h _ h1, h2⟩
/-- what stays the same through a body -/
def Cx (p : Program) (s : State) (m : MethodId) (meth : Method) (c : Code) (Z : State) (own nm : String) (bytes : ByteArray) (maxL : Nat) (ret : Option FieldType) : Prop :=
  p.tables.exec = Jvm.exec ∧ Z.Warmed39 s.vm ∧ s.vm.findClass own = some m.cls ∧ c.code = bytes ∧ c.maxLocals = maxL ∧ meth.sig.returnType = ret ∧ meth.locks = false ∧ meth.name = nm
theorem Cx.hx (C : Cx p s m meth c Z own nm bytes maxL ret) : p.tables.exec = Jvm.exec := C.1
theorem Cx.hZ (C : Cx p s m meth c Z own nm bytes maxL ret) : Z.Warmed39 s.vm := C.2.1
theorem Cx.hown (C : Cx p s m meth c Z own nm bytes maxL ret) : s.vm.findClass own = some m.cls := C.2.2.1
theorem Cx.hby (C : Cx p s m meth c Z own nm bytes maxL ret) : c.code = bytes := C.2.2.2.1
theorem Cx.hml (C : Cx p s m meth c Z own nm bytes maxL ret) : c.maxLocals = maxL := C.2.2.2.2.1
theorem Cx.hret (C : Cx p s m meth c Z own nm bytes maxL ret) : meth.sig.returnType = ret := C.2.2.2.2.2.1
theorem Cx.hlk (C : Cx p s m meth c Z own nm bytes maxL ret) : meth.locks = false := C.2.2.2.2.2.2.1
theorem Cx.hnm (C : Cx p s m meth c Z own nm bytes maxL ret) : meth.name = nm := C.2.2.2.2.2.2.2
/-- where the walk stands: the heap is h; nothing that stood at Z was written; at most so many cells and slots were made -/
def St (p : Program) (l : Launch) (e : Env) (R : Room) (s : State) (m : MethodId) (A : Array Value) (below : List Frame) (meth : Method) (c : Code) (Z : State) (T : State) (h : Heap) (cells slots : Nat) : Prop :=
  ∃ locs, Stand p l e R s m A below meth c T locs cells slots ∧ T.heap = h ∧ Fr Z.heap.size locs ∧ Ext Z.heap h
theorem St.here (X : St p l e R s m A below meth c Z T h cells slots) : At T m c below := by obtain ⟨_, Y, _⟩ := X; exact Y.here
theorem St.ext (X : St p l e R s m A below meth c Z T h cells slots) : Ext Z.heap h := by obtain ⟨_, _, _, _, E⟩ := X; exact E
theorem St.more {cells' slots' : Nat} (X : St p l e R s m A below meth c Z T h cells slots) (h1 : cells ≤ cells') (h2 : slots ≤ slots') : St p l e R s m A below meth c Z T h cells' slots' := by
  obtain ⟨L, Y, r⟩ := X; exact ⟨L, Y.more h1 h2, r⟩
/-- the end of a body: Q of what it returned and of the heap -/
def EndW (Z s : State) (k n : Nat) (Q : Option Value → Heap → Prop) (o : Outcome) (u : State) : Prop :=
  ∃ v L, o = .returned v ∧ (Fr Z.heap.size L ∧ Ext Z.heap u.heap ∧ Q v u.heap) ∧ FrameEnd s o u L k n
/-- a body's contract: called with A at the heap h0, over tables warmer than Z's, it returns and leaves Q -/
def Con (l : Launch) (y : MethodName) (bytes : ByteArray) (maxL : Nat) (ret : Option FieldType) (ws : List Jvm.Cond) (rm : Room) (Z : State) (A : Array Value) (h0 : Heap) (Q : Option Value → Heap → Prop) : Prop :=
  MetFree l y (head1 (Jvm.Cond.code y bytes maxL ret :: ws) rm) (fun a U => a = A ∧ Z.Warmed39 U.vm ∧ U.heap = h0) (fun _ _ _ _ _ => True) (fun _ U o U' => EndW Z U rm.cells rm.slots Q o U')
theorem con_of {y : MethodName} {ws : List Jvm.Cond} {rm : Room} {h0 : Heap} {Q : Option Value → Heap → Prop} {Ls : Array Slot} (hp : plainFor y = true) (hE : Ext Z.heap h0) (hef : ∀ m, entryFrame m A maxL = mkF m 0 Ls [])
    (body : ∀ p e s m below meth c s₁, Cx p s m meth c Z y.cls y.name bytes maxL ret → St p l e rm s m A below meth c Z s₁ h0 0 0 → Goes p e below (EndW Z s rm.cells rm.slots Q) s₁ (mkF m 0 Ls [])) :
    Con l y bytes maxL ret ws rm Z A h0 Q := by
  refine MetFree.of_bodySF hp hisR ?_
  intro p e s m args below meth c s₁ Bd hml0 hP hK
  obtain ⟨rfl, hZ, hh⟩ := hP
  have X0 := Stand.of_body Bd
  have e0 : s₁.heap = h0 := by rw [← hh, Bd.state]; rfl
  have := body p e s m below meth c s₁ ⟨Bd.exec, hZ, findClass_of_methodNamed Bd.named, Bd.bytes, hml0, Bd.returns, Bd.notSynchronized, (name_of_methodNamed Bd.named Bd.method).1⟩ ⟨[], X0, e0, Fr.nil _, hE⟩
  rw [← hef m] at this
  exact this
/-- the instruction at pc, its length, the pc behind it -/
def Dc (b : ByteArray) (pc : Nat) (i : Instr) (n pc' : Nat) : Prop := decode b pc = .ok (i, n) ∧ pc + n = pc'
/-- a jump: besides, its target -/
def Dj (b : ByteArray) (pc : Nat) (i : Instr) (o : Int) (n pc' tgt : Nat) : Prop := decode b pc = .ok (i, n) ∧ pc + n = pc' ∧ 0 ≤ (pc : Int) + o ∧ ((pc : Int) + o).toNat = tgt
theorem g_goto {o : Int} (C : Cx p s m meth c Z own nm bytes maxL ret) (X : St p l e R s m A below meth c Z T h cells slots) (d : Dj bytes pc (.goto o) o 3 pc' tgt) (K : Goes p e below W T (mkF m tgt Ls st)) : Goes p e below W T (mkF m pc Ls st) :=
  Goes.via (fun _ k => XS.goto X.here C.hx rfl rfl (hb C.hby d.1) d.2.2.1 d.2.2.2 k) K
theorem g_if {cd : ClassFile.Cond} {o : Int} {x : Int32} {P : Prop} [Decidable P] (hP : ifCond.holds cd x = decide P) (C : Cx p s m meth c Z own nm bytes maxL ret) (X : St p l e R s m A below meth c Z T h cells slots) (d : Dj bytes pc (.ifCond cd o) o 3 pc' tgt) (K1 : P → Goes p e below W T (mkF m tgt Ls st)) (K2 : ¬ P → Goes p e below W T (mkF m pc' Ls st)) : Goes p e below W T (mkF m pc Ls (.int x :: st)) := by
  obtain ⟨d1, rfl, d3, d4⟩ := d
  by_cases q : P
  · exact Goes.via (fun _ k => XS.ifYes X.here C.hx rfl rfl (hb C.hby d1) rfl (hP.trans (decide_eq_true q)) d3 d4 k) (K1 q)
  · exact Goes.via (fun _ k => XS.ifNo X.here C.hx rfl (hb C.hby d1) rfl (hP.trans (decide_eq_false q)) k) (K2 q)
theorem g_icmp {cd : ClassFile.Cond} {o : Int} {x y : Int32} {P : Prop} [Decidable P] (hP : if_icmp.holds cd x y = decide P) (C : Cx p s m meth c Z own nm bytes maxL ret) (X : St p l e R s m A below meth c Z T h cells slots) (d : Dj bytes pc (.if_icmp cd o) o 3 pc' tgt) (K1 : P → Goes p e below W T (mkF m tgt Ls st)) (K2 : ¬ P → Goes p e below W T (mkF m pc' Ls st)) : Goes p e below W T (mkF m pc Ls (.int y :: .int x :: st)) := by
  obtain ⟨d1, rfl, d3, d4⟩ := d
  by_cases q : P
  · exact Goes.via (fun _ k => XS.icmpYes X.here C.hx rfl rfl (hb C.hby d1) rfl (hP.trans (decide_eq_true q)) d3 d4 k) (K1 q)
  · exact Goes.via (fun _ k => XS.icmpNo X.here C.hx rfl (hb C.hby d1) rfl (hP.trans (decide_eq_false q)) k) (K2 q)
theorem g_ifn {cd : ClassFile.Cond} {o : Int} {x : Int32} {P : Prop} [Decidable P] (hP : ifCond.holds cd x = !decide P) (C : Cx p s m meth c Z own nm bytes maxL ret) (X : St p l e R s m A below meth c Z T h cells slots) (d : Dj bytes pc (.ifCond cd o) o 3 pc' tgt) (K1 : ¬ P → Goes p e below W T (mkF m tgt Ls st)) (K2 : P → Goes p e below W T (mkF m pc' Ls st)) : Goes p e below W T (mkF m pc Ls (.int x :: st)) := by
  obtain ⟨d1, rfl, d3, d4⟩ := d
  by_cases q : P
  · exact Goes.via (fun _ k => XS.ifNo X.here C.hx rfl (hb C.hby d1) rfl (hP.trans (by simp [q])) k) (K2 q)
  · exact Goes.via (fun _ k => XS.ifYes X.here C.hx rfl rfl (hb C.hby d1) rfl (hP.trans (by simp [q])) d3 d4 k) (K1 q)
theorem g_icmpn {cd : ClassFile.Cond} {o : Int} {x y : Int32} {P : Prop} [Decidable P] (hP : if_icmp.holds cd x y = !decide P) (C : Cx p s m meth c Z own nm bytes maxL ret) (X : St p l e R s m A below meth c Z T h cells slots) (d : Dj bytes pc (.if_icmp cd o) o 3 pc' tgt) (K1 : ¬ P → Goes p e below W T (mkF m tgt Ls st)) (K2 : P → Goes p e below W T (mkF m pc' Ls st)) : Goes p e below W T (mkF m pc Ls (.int y :: .int x :: st)) := by
  obtain ⟨d1, rfl, d3, d4⟩ := d
  by_cases q : P
  · exact Goes.via (fun _ k => XS.icmpNo X.here C.hx rfl (hb C.hby d1) rfl (hP.trans (by simp [q])) k) (K2 q)
  · exact Goes.via (fun _ k => XS.icmpYes X.here C.hx rfl rfl (hb C.hby d1) rfl (hP.trans (by simp [q])) d3 d4 k) (K1 q)
theorem hI_eq (x y : Int32) : if_icmp.holds .eq x y = decide (x = y) := by
  by_cases q : x = y
  · rw [(teq q).1]; simp [q]
  · rw [(feq q).1]; simp [q]
theorem hI_ne (x y : Int32) : if_icmp.holds .ne x y = !decide (x = y) := by
  by_cases q : x = y
  · rw [(teq q).2]; simp [q]
  · rw [(feq q).2]; simp [q]
theorem hI_lt (x y : Int32) : if_icmp.holds .lt x y = decide (x < y) := by
  by_cases q : x < y
  · rw [(tlt q).1]; simp [q]
  · rw [(flt q).1]; simp [q]
theorem hI_ge (x y : Int32) : if_icmp.holds .ge x y = !decide (x < y) := by
  by_cases q : x < y
  · rw [(tlt q).2.1]; simp [q]
  · rw [(flt q).2.1]; simp [q]
theorem hI_gt (x y : Int32) : if_icmp.holds .gt x y = decide (y < x) := by
  by_cases q : y < x
  · rw [(tlt q).2.2.1]; simp [q]
  · rw [(flt q).2.2.1]; simp [q]
theorem hI_le (x y : Int32) : if_icmp.holds .le x y = !decide (y < x) := by
  by_cases q : y < x
  · rw [(tlt q).2.2.2]; simp [q]
  · rw [(flt q).2.2.2]; simp [q]
theorem h0_eq (x : Int32) : ifCond.holds .eq x = decide (x = 0) := (if0 _ _).trans (hI_eq x 0)
theorem h0_ne (x : Int32) : ifCond.holds .ne x = !decide (x = 0) := (if0 _ _).trans (hI_ne x 0)
theorem h0_lt (x : Int32) : ifCond.holds .lt x = decide (x < 0) := (if0 _ _).trans (hI_lt x 0)
theorem h0_ge (x : Int32) : ifCond.holds .ge x = !decide (x < 0) := (if0 _ _).trans (hI_ge x 0)
theorem h0_gt (x : Int32) : ifCond.holds .gt x = decide (0 < x) := (if0 _ _).trans (hI_gt x 0)
theorem h0_le (x : Int32) : ifCond.holds .le x = !decide (0 < x) := (if0 _ _).trans (hI_le x 0)
/-- a comparison of longs, then a branch on it: 'lcmp; if..' -/
theorem hL_eq (x y : Int64) : ifCond.holds .eq (lcmpW x y) = decide (x = y) := by rw [h0_eq]; exact decide_eq_decide.mpr (lw_eq x y)
theorem hL_ne (x y : Int64) : ifCond.holds .ne (lcmpW x y) = !decide (x = y) := by rw [h0_ne]; exact congrArg _ (decide_eq_decide.mpr (lw_eq x y))
theorem hL_lt (x y : Int64) : ifCond.holds .lt (lcmpW x y) = decide (x < y) := by rw [h0_lt]; exact decide_eq_decide.mpr (lw_lt x y)
theorem hL_ge (x y : Int64) : ifCond.holds .ge (lcmpW x y) = !decide (x < y) := by rw [h0_ge]; exact congrArg _ (decide_eq_decide.mpr (lw_lt x y))
theorem hL_gt (x y : Int64) : ifCond.holds .gt (lcmpW x y) = decide (y < x) := by rw [h0_gt]; exact decide_eq_decide.mpr (lw_gt x y)
theorem hL_le (x y : Int64) : ifCond.holds .le (lcmpW x y) = !decide (y < x) := by rw [h0_le]; exact congrArg _ (decide_eq_decide.mpr (lw_gt x y))
/-- two references compared; the values are references or null -/
theorem g_acmpeq {o : Int} {x y : Value} (C : Cx p s m meth c Z own nm bytes maxL ret) (X : St p l e R s m A below meth c Z T h cells slots) (d : Dj bytes pc (.if_acmp .eq o) o 3 pc' tgt) (h1 : x.isRef = true) (h2 : y.isRef = true) (K1 : x = y → Goes p e below W T (mkF m tgt Ls st)) (K2 : ¬ x = y → Goes p e below W T (mkF m pc' Ls st)) : Goes p e below W T (mkF m pc Ls (y :: x :: st)) := by
  obtain ⟨d1, rfl, d3, d4⟩ := d
  by_cases q : x = y
  · exact Goes.via (fun _ k => XT.acmpYes X.here C.hx rfl rfl (hb C.hby d1) rfl h1 h2 (XT.aa_eq_t q) d3 d4 k) (K1 q)
  · exact Goes.via (fun _ k => XT.acmpNo X.here C.hx rfl (hb C.hby d1) rfl h1 h2 (XT.aa_eq_f q) k) (K2 q)
theorem g_acmpne {o : Int} {x y : Value} (C : Cx p s m meth c Z own nm bytes maxL ret) (X : St p l e R s m A below meth c Z T h cells slots) (d : Dj bytes pc (.if_acmp .ne o) o 3 pc' tgt) (h1 : x.isRef = true) (h2 : y.isRef = true) (K1 : ¬ x = y → Goes p e below W T (mkF m tgt Ls st)) (K2 : x = y → Goes p e below W T (mkF m pc' Ls st)) : Goes p e below W T (mkF m pc Ls (y :: x :: st)) := by
  obtain ⟨d1, rfl, d3, d4⟩ := d
  by_cases q : x = y
  · exact Goes.via (fun _ k => XT.acmpNo X.here C.hx rfl (hb C.hby d1) rfl h1 h2 (XT.aa_ne_f q) k) (K2 q)
  · exact Goes.via (fun _ k => XT.acmpYes X.here C.hx rfl rfl (hb C.hby d1) rfl h1 h2 (XT.aa_ne_t q) d3 d4 k) (K1 q)
theorem g_ifnull {o : Int} {v : Value} (C : Cx p s m meth c Z own nm bytes maxL ret) (X : St p l e R s m A below meth c Z T h cells slots) (d : Dj bytes pc (.ifnull o) o 3 pc' tgt) (h1 : v.isRef = true) (K1 : v = .null → Goes p e below W T (mkF m tgt Ls st)) (K2 : ¬ v = .null → Goes p e below W T (mkF m pc' Ls st)) : Goes p e below W T (mkF m pc Ls (v :: st)) := by
  obtain ⟨d1, rfl, d3, d4⟩ := d
  by_cases q : v = .null
  · exact Goes.via (fun _ k => XT.nullYes X.here C.hx rfl rfl (hb C.hby d1) rfl q d3 d4 k) (K1 q)
  · exact Goes.via (fun _ k => XT.nullNo X.here C.hx rfl (hb C.hby d1) rfl h1 q k) (K2 q)
theorem g_ifnonnull {o : Int} {v : Value} (C : Cx p s m meth c Z own nm bytes maxL ret) (X : St p l e R s m A below meth c Z T h cells slots) (d : Dj bytes pc (.ifnonnull o) o 3 pc' tgt) (h1 : v.isRef = true) (K1 : ¬ v = .null → Goes p e below W T (mkF m tgt Ls st)) (K2 : v = .null → Goes p e below W T (mkF m pc' Ls st)) : Goes p e below W T (mkF m pc Ls (v :: st)) := by
  obtain ⟨d1, rfl, d3, d4⟩ := d
  by_cases q : v = .null
  · exact Goes.via (fun _ k => XT.nonnullNo X.here C.hx rfl (hb C.hby d1) rfl q k) (K2 q)
  · exact Goes.via (fun _ k => XT.nonnullYes X.here C.hx rfl rfl (hb C.hby d1) rfl h1 q d3 d4 k) (K1 q)
theorem g_iload {k : Nat} {v : Int32} (C : Cx p s m meth c Z own nm bytes maxL ret) (X : St p l e R s m A below meth c Z T h cells slots) (d : Dc bytes pc (.iload k) 2 pc') (hl : Ls[k]? = some (.val (.int v))) (K : Goes p e below W T (mkF m pc' Ls (.int v :: st))) : Goes p e below W T (mkF m pc Ls st) := by
  obtain ⟨d, rfl⟩ := d
  exact Goes.via (fun _ k => XS.iload X.here C.hx rfl (hb C.hby d) hl k) K
theorem g_iloadN {k : Fin 4} {v : Int32} (C : Cx p s m meth c Z own nm bytes maxL ret) (X : St p l e R s m A below meth c Z T h cells slots) (d : Dc bytes pc (.iload_n k) 1 pc') (hl : Ls[k.val]? = some (.val (.int v))) (K : Goes p e below W T (mkF m pc' Ls (.int v :: st))) : Goes p e below W T (mkF m pc Ls st) := by
  obtain ⟨d, rfl⟩ := d
  exact Goes.via (fun _ k => XS.iloadN X.here C.hx rfl (hb C.hby d) hl k) K
theorem g_lload {k : Nat} {v : Int64} (C : Cx p s m meth c Z own nm bytes maxL ret) (X : St p l e R s m A below meth c Z T h cells slots) (d : Dc bytes pc (.lload k) 2 pc') (hl : Ls[k]? = some (.val (.long v))) (K : Goes p e below W T (mkF m pc' Ls (.long v :: st))) : Goes p e below W T (mkF m pc Ls st) := by
  obtain ⟨d, rfl⟩ := d
  exact Goes.via (fun _ k => XT.lload X.here C.hx rfl (hb C.hby d) hl k) K
theorem g_lloadN {k : Fin 4} {v : Int64} (C : Cx p s m meth c Z own nm bytes maxL ret) (X : St p l e R s m A below meth c Z T h cells slots) (d : Dc bytes pc (.lload_n k) 1 pc') (hl : Ls[k.val]? = some (.val (.long v))) (K : Goes p e below W T (mkF m pc' Ls (.long v :: st))) : Goes p e below W T (mkF m pc Ls st) := by
  obtain ⟨d, rfl⟩ := d
  exact Goes.via (fun _ k => XT.lloadN X.here C.hx rfl (hb C.hby d) hl k) K
theorem g_aload {k : Nat} {v : Value} (C : Cx p s m meth c Z own nm bytes maxL ret) (X : St p l e R s m A below meth c Z T h cells slots) (d : Dc bytes pc (.aload k) 2 pc') (hl : Ls[k]? = some (.val v)) (hv : v.isRef = true) (K : Goes p e below W T (mkF m pc' Ls (v :: st))) : Goes p e below W T (mkF m pc Ls st) := by
  obtain ⟨d, rfl⟩ := d
  exact Goes.via (fun _ k => XS.aload X.here C.hx rfl (hb C.hby d) hl hv k) K
theorem g_aloadN {k : Fin 4} {v : Value} (C : Cx p s m meth c Z own nm bytes maxL ret) (X : St p l e R s m A below meth c Z T h cells slots) (d : Dc bytes pc (.aload_n k) 1 pc') (hl : Ls[k.val]? = some (.val v)) (hv : v.isRef = true) (K : Goes p e below W T (mkF m pc' Ls (v :: st))) : Goes p e below W T (mkF m pc Ls st) := by
  obtain ⟨d, rfl⟩ := d
  exact Goes.via (fun _ k => XS.aloadN X.here C.hx rfl (hb C.hby d) hl hv k) K
theorem g_istore {k : Nat} {x : Int32} {l' : Array Slot} (C : Cx p s m meth c Z own nm bytes maxL ret) (X : St p l e R s m A below meth c Z T h cells slots) (d : Dc bytes pc (.istore k) 2 pc') (hl : storeLocals Ls k (.int x) = some l') (K : Goes p e below W T (mkF m pc' l' st)) : Goes p e below W T (mkF m pc Ls (.int x :: st)) := by
  obtain ⟨d, rfl⟩ := d
  exact Goes.via (fun _ k => XS.istore X.here C.hx rfl (hb C.hby d) rfl hl k) K
theorem g_istoreN {k : Fin 4} {x : Int32} {l' : Array Slot} (C : Cx p s m meth c Z own nm bytes maxL ret) (X : St p l e R s m A below meth c Z T h cells slots) (d : Dc bytes pc (.istore_n k) 1 pc') (hl : storeLocals Ls k.val (.int x) = some l') (K : Goes p e below W T (mkF m pc' l' st)) : Goes p e below W T (mkF m pc Ls (.int x :: st)) := by
  obtain ⟨d, rfl⟩ := d
  exact Goes.via (fun _ k => XS.istoreN X.here C.hx rfl (hb C.hby d) rfl hl k) K
theorem g_lstore {k : Nat} {x : Int64} {l' : Array Slot} (C : Cx p s m meth c Z own nm bytes maxL ret) (X : St p l e R s m A below meth c Z T h cells slots) (d : Dc bytes pc (.lstore k) 2 pc') (hl : storeLocals Ls k (.long x) = some l') (K : Goes p e below W T (mkF m pc' l' st)) : Goes p e below W T (mkF m pc Ls (.long x :: st)) := by
  obtain ⟨d, rfl⟩ := d
  exact Goes.via (fun _ k => XT.lstore X.here C.hx rfl (hb C.hby d) rfl hl k) K
theorem g_lstoreN {k : Fin 4} {x : Int64} {l' : Array Slot} (C : Cx p s m meth c Z own nm bytes maxL ret) (X : St p l e R s m A below meth c Z T h cells slots) (d : Dc bytes pc (.lstore_n k) 1 pc') (hl : storeLocals Ls k.val (.long x) = some l') (K : Goes p e below W T (mkF m pc' l' st)) : Goes p e below W T (mkF m pc Ls (.long x :: st)) := by
  obtain ⟨d, rfl⟩ := d
  exact Goes.via (fun _ k => XT.lstoreN X.here C.hx rfl (hb C.hby d) rfl hl k) K
theorem g_astore {k : Nat} {x : Value} {l' : Array Slot} (C : Cx p s m meth c Z own nm bytes maxL ret) (X : St p l e R s m A below meth c Z T h cells slots) (d : Dc bytes pc (.astore k) 2 pc') (hv : x.isRef = true) (hl : storeLocals Ls k x = some l') (K : Goes p e below W T (mkF m pc' l' st)) : Goes p e below W T (mkF m pc Ls (x :: st)) := by
  obtain ⟨d, rfl⟩ := d
  exact Goes.via (fun _ k => XS.astore X.here C.hx rfl (hb C.hby d) rfl hv hl k) K
theorem g_astoreN {k : Fin 4} {x : Value} {l' : Array Slot} (C : Cx p s m meth c Z own nm bytes maxL ret) (X : St p l e R s m A below meth c Z T h cells slots) (d : Dc bytes pc (.astore_n k) 1 pc') (hv : x.isRef = true) (hl : storeLocals Ls k.val x = some l') (K : Goes p e below W T (mkF m pc' l' st)) : Goes p e below W T (mkF m pc Ls (x :: st)) := by
  obtain ⟨d, rfl⟩ := d
  exact Goes.via (fun _ k => XS.astoreN X.here C.hx rfl (hb C.hby d) rfl hv hl k) K
theorem g_iconst {i : Int} (v : Int32) (C : Cx p s m meth c Z own nm bytes maxL ret) (X : St p l e R s m A below meth c Z T h cells slots) (d : Dc bytes pc (.iconst i) 1 pc') (hv : Int32.ofInt i = v) (K : Goes p e below W T (mkF m pc' Ls (.int v :: st))) : Goes p e below W T (mkF m pc Ls st) := by
  obtain ⟨d, rfl⟩ := d
  exact Goes.via (fun _ k => XT.iconstV X.here C.hx rfl v (hb C.hby d) hv k) K
theorem g_bipush {i : Int} (v : Int32) (C : Cx p s m meth c Z own nm bytes maxL ret) (X : St p l e R s m A below meth c Z T h cells slots) (d : Dc bytes pc (.bipush i) 2 pc') (hv : (Int8.ofInt i).toInt32 = v) (K : Goes p e below W T (mkF m pc' Ls (.int v :: st))) : Goes p e below W T (mkF m pc Ls st) := by
  obtain ⟨d, rfl⟩ := d
  exact Goes.via (fun _ k => XT.bipushV X.here C.hx rfl v (hb C.hby d) hv k) K
theorem g_sipush {i : Int} (v : Int32) (C : Cx p s m meth c Z own nm bytes maxL ret) (X : St p l e R s m A below meth c Z T h cells slots) (d : Dc bytes pc (.sipush i) 3 pc') (hv : (Int16.ofInt i).toInt32 = v) (K : Goes p e below W T (mkF m pc' Ls (.int v :: st))) : Goes p e below W T (mkF m pc Ls st) := by
  obtain ⟨d, rfl⟩ := d
  exact Goes.via (fun _ k => XT.sipushV X.here C.hx rfl v (hb C.hby d) hv k) K
theorem g_lconst {k : Fin 2} (v : Int64) (C : Cx p s m meth c Z own nm bytes maxL ret) (X : St p l e R s m A below meth c Z T h cells slots) (d : Dc bytes pc (.lconst k) 1 pc') (hv : Int64.ofNat k = v) (K : Goes p e below W T (mkF m pc' Ls (.long v :: st))) : Goes p e below W T (mkF m pc Ls st) := by
  obtain ⟨d, rfl⟩ := d
  exact Goes.via (fun _ k => XT.lconstV X.here C.hx rfl v (hb C.hby d) hv k) K
theorem g_iinc {k : Nat} {i : Int} {x : Int32} {l' : Array Slot} (v : Int32) (C : Cx p s m meth c Z own nm bytes maxL ret) (X : St p l e R s m A below meth c Z T h cells slots) (d : Dc bytes pc (.iinc k i) 3 pc') (hv : Int32.ofInt i = v) (hl : Ls[k]? = some (.val (.int x))) (hl' : storeLocals Ls k (.int (x + v)) = some l') (K : Goes p e below W T (mkF m pc' l' st)) : Goes p e below W T (mkF m pc Ls st) := by
  obtain ⟨d, rfl⟩ := d
  exact Goes.via (fun _ k => XT.iincV X.here C.hx rfl v (hb C.hby d) hv hl hl' k) K
theorem g_aconst_null  (C : Cx p s m meth c Z own nm bytes maxL ret) (X : St p l e R s m A below meth c Z T h cells slots) (d : Dc bytes pc (.aconst_null) 1 pc')  (K : Goes p e below W T (mkF m pc' Ls (.null :: st))) : Goes p e below W T (mkF m pc Ls st) := by
  obtain ⟨d, rfl⟩ := d
  exact Goes.via (fun _ k => XS.aconstNull X.here C.hx rfl (hb C.hby d)  k) K
theorem g_iadd {x y : Int32} (C : Cx p s m meth c Z own nm bytes maxL ret) (X : St p l e R s m A below meth c Z T h cells slots) (d : Dc bytes pc (.iadd) 1 pc')  (K : Goes p e below W T (mkF m pc' Ls (.int (x + y) :: st))) : Goes p e below W T (mkF m pc Ls (.int y :: .int x :: st)) := by
  obtain ⟨d, rfl⟩ := d
  exact Goes.via (fun _ k => XS.iadd X.here C.hx rfl (hb C.hby d) rfl k) K
theorem g_ladd {x y : Int64} (C : Cx p s m meth c Z own nm bytes maxL ret) (X : St p l e R s m A below meth c Z T h cells slots) (d : Dc bytes pc (.ladd) 1 pc')  (K : Goes p e below W T (mkF m pc' Ls (.long (x + y) :: st))) : Goes p e below W T (mkF m pc Ls (.long y :: .long x :: st)) := by
  obtain ⟨d, rfl⟩ := d
  exact Goes.via (fun _ k => XT.ladd X.here C.hx rfl (hb C.hby d) rfl k) K
theorem g_isub {x y : Int32} (C : Cx p s m meth c Z own nm bytes maxL ret) (X : St p l e R s m A below meth c Z T h cells slots) (d : Dc bytes pc (.isub) 1 pc')  (K : Goes p e below W T (mkF m pc' Ls (.int (x - y) :: st))) : Goes p e below W T (mkF m pc Ls (.int y :: .int x :: st)) := by
  obtain ⟨d, rfl⟩ := d
  exact Goes.via (fun _ k => XS.isub X.here C.hx rfl (hb C.hby d) rfl k) K
theorem g_lsub {x y : Int64} (C : Cx p s m meth c Z own nm bytes maxL ret) (X : St p l e R s m A below meth c Z T h cells slots) (d : Dc bytes pc (.lsub) 1 pc')  (K : Goes p e below W T (mkF m pc' Ls (.long (x - y) :: st))) : Goes p e below W T (mkF m pc Ls (.long y :: .long x :: st)) := by
  obtain ⟨d, rfl⟩ := d
  exact Goes.via (fun _ k => XT.lsub X.here C.hx rfl (hb C.hby d) rfl k) K
theorem g_imul {x y : Int32} (C : Cx p s m meth c Z own nm bytes maxL ret) (X : St p l e R s m A below meth c Z T h cells slots) (d : Dc bytes pc (.imul) 1 pc')  (K : Goes p e below W T (mkF m pc' Ls (.int (x * y) :: st))) : Goes p e below W T (mkF m pc Ls (.int y :: .int x :: st)) := by
  obtain ⟨d, rfl⟩ := d
  exact Goes.via (fun _ k => XS.imul X.here C.hx rfl (hb C.hby d) rfl k) K
theorem g_lmul {x y : Int64} (C : Cx p s m meth c Z own nm bytes maxL ret) (X : St p l e R s m A below meth c Z T h cells slots) (d : Dc bytes pc (.lmul) 1 pc')  (K : Goes p e below W T (mkF m pc' Ls (.long (x * y) :: st))) : Goes p e below W T (mkF m pc Ls (.long y :: .long x :: st)) := by
  obtain ⟨d, rfl⟩ := d
  exact Goes.via (fun _ k => XT.lmul X.here C.hx rfl (hb C.hby d) rfl k) K
theorem g_iand {x y : Int32} (C : Cx p s m meth c Z own nm bytes maxL ret) (X : St p l e R s m A below meth c Z T h cells slots) (d : Dc bytes pc (.iand) 1 pc')  (K : Goes p e below W T (mkF m pc' Ls (.int (x &&& y) :: st))) : Goes p e below W T (mkF m pc Ls (.int y :: .int x :: st)) := by
  obtain ⟨d, rfl⟩ := d
  exact Goes.via (fun _ k => XS.iand X.here C.hx rfl (hb C.hby d) rfl k) K
theorem g_land {x y : Int64} (C : Cx p s m meth c Z own nm bytes maxL ret) (X : St p l e R s m A below meth c Z T h cells slots) (d : Dc bytes pc (.land) 1 pc')  (K : Goes p e below W T (mkF m pc' Ls (.long (x &&& y) :: st))) : Goes p e below W T (mkF m pc Ls (.long y :: .long x :: st)) := by
  obtain ⟨d, rfl⟩ := d
  exact Goes.via (fun _ k => XT.land X.here C.hx rfl (hb C.hby d) rfl k) K
theorem g_ior {x y : Int32} (C : Cx p s m meth c Z own nm bytes maxL ret) (X : St p l e R s m A below meth c Z T h cells slots) (d : Dc bytes pc (.ior) 1 pc')  (K : Goes p e below W T (mkF m pc' Ls (.int (x ||| y) :: st))) : Goes p e below W T (mkF m pc Ls (.int y :: .int x :: st)) := by
  obtain ⟨d, rfl⟩ := d
  exact Goes.via (fun _ k => XT.ior X.here C.hx rfl (hb C.hby d) rfl k) K
theorem g_lor {x y : Int64} (C : Cx p s m meth c Z own nm bytes maxL ret) (X : St p l e R s m A below meth c Z T h cells slots) (d : Dc bytes pc (.lor) 1 pc')  (K : Goes p e below W T (mkF m pc' Ls (.long (x ||| y) :: st))) : Goes p e below W T (mkF m pc Ls (.long y :: .long x :: st)) := by
  obtain ⟨d, rfl⟩ := d
  exact Goes.via (fun _ k => XT.lor X.here C.hx rfl (hb C.hby d) rfl k) K
theorem g_ixor {x y : Int32} (C : Cx p s m meth c Z own nm bytes maxL ret) (X : St p l e R s m A below meth c Z T h cells slots) (d : Dc bytes pc (.ixor) 1 pc')  (K : Goes p e below W T (mkF m pc' Ls (.int (x ^^^ y) :: st))) : Goes p e below W T (mkF m pc Ls (.int y :: .int x :: st)) := by
  obtain ⟨d, rfl⟩ := d
  exact Goes.via (fun _ k => XT.ixor X.here C.hx rfl (hb C.hby d) rfl k) K
theorem g_lxor {x y : Int64} (C : Cx p s m meth c Z own nm bytes maxL ret) (X : St p l e R s m A below meth c Z T h cells slots) (d : Dc bytes pc (.lxor) 1 pc')  (K : Goes p e below W T (mkF m pc' Ls (.long (x ^^^ y) :: st))) : Goes p e below W T (mkF m pc Ls (.long y :: .long x :: st)) := by
  obtain ⟨d, rfl⟩ := d
  exact Goes.via (fun _ k => XT.lxor X.here C.hx rfl (hb C.hby d) rfl k) K
theorem g_idiv {x y : Int32} (C : Cx p s m meth c Z own nm bytes maxL ret) (X : St p l e R s m A below meth c Z T h cells slots) (d : Dc bytes pc (.idiv) 1 pc') (hy : y ≠ 0) (K : Goes p e below W T (mkF m pc' Ls (.int (x / y) :: st))) : Goes p e below W T (mkF m pc Ls (.int y :: .int x :: st)) := by
  obtain ⟨d, rfl⟩ := d
  exact Goes.via (fun _ k => XS.idiv X.here C.hx rfl (hb C.hby d) rfl hy k) K
theorem g_ldiv {x y : Int64} (C : Cx p s m meth c Z own nm bytes maxL ret) (X : St p l e R s m A below meth c Z T h cells slots) (d : Dc bytes pc (.ldiv) 1 pc') (hy : y ≠ 0) (K : Goes p e below W T (mkF m pc' Ls (.long (x / y) :: st))) : Goes p e below W T (mkF m pc Ls (.long y :: .long x :: st)) := by
  obtain ⟨d, rfl⟩ := d
  exact Goes.via (fun _ k => XT.ldiv X.here C.hx rfl (hb C.hby d) rfl hy k) K
theorem g_ineg {x : Int32} (C : Cx p s m meth c Z own nm bytes maxL ret) (X : St p l e R s m A below meth c Z T h cells slots) (d : Dc bytes pc (.ineg) 1 pc')  (K : Goes p e below W T (mkF m pc' Ls (.int (-x) :: st))) : Goes p e below W T (mkF m pc Ls (.int x :: st)) := by
  obtain ⟨d, rfl⟩ := d
  exact Goes.via (fun _ k => XS.ineg X.here C.hx rfl (hb C.hby d) rfl k) K
theorem g_lneg {x : Int64} (C : Cx p s m meth c Z own nm bytes maxL ret) (X : St p l e R s m A below meth c Z T h cells slots) (d : Dc bytes pc (.lneg) 1 pc')  (K : Goes p e below W T (mkF m pc' Ls (.long (-x) :: st))) : Goes p e below W T (mkF m pc Ls (.long x :: st)) := by
  obtain ⟨d, rfl⟩ := d
  exact Goes.via (fun _ k => XT.lneg X.here C.hx rfl (hb C.hby d) rfl k) K
theorem g_ishl {x y : Int32} (C : Cx p s m meth c Z own nm bytes maxL ret) (X : St p l e R s m A below meth c Z T h cells slots) (d : Dc bytes pc (.ishl) 1 pc')  (K : Goes p e below W T (mkF m pc' Ls (.int (x <<< (y &&& 31)) :: st))) : Goes p e below W T (mkF m pc Ls (.int y :: .int x :: st)) := by
  obtain ⟨d, rfl⟩ := d
  exact Goes.via (fun _ k => XT.ishl X.here C.hx rfl (hb C.hby d) rfl k) K
theorem g_ishr {x y : Int32} (C : Cx p s m meth c Z own nm bytes maxL ret) (X : St p l e R s m A below meth c Z T h cells slots) (d : Dc bytes pc (.ishr) 1 pc')  (K : Goes p e below W T (mkF m pc' Ls (.int (x >>> (y &&& 31)) :: st))) : Goes p e below W T (mkF m pc Ls (.int y :: .int x :: st)) := by
  obtain ⟨d, rfl⟩ := d
  exact Goes.via (fun _ k => XT.ishr X.here C.hx rfl (hb C.hby d) rfl k) K
theorem g_iushr {x y : Int32} (C : Cx p s m meth c Z own nm bytes maxL ret) (X : St p l e R s m A below meth c Z T h cells slots) (d : Dc bytes pc (.iushr) 1 pc')  (K : Goes p e below W T (mkF m pc' Ls (.int ((x.toUInt32 >>> (y &&& 31).toUInt32).toInt32) :: st))) : Goes p e below W T (mkF m pc Ls (.int y :: .int x :: st)) := by
  obtain ⟨d, rfl⟩ := d
  exact Goes.via (fun _ k => XT.iushr X.here C.hx rfl (hb C.hby d) rfl k) K
theorem g_lshl {x : Int64} {y : Int32} (C : Cx p s m meth c Z own nm bytes maxL ret) (X : St p l e R s m A below meth c Z T h cells slots) (d : Dc bytes pc (.lshl) 1 pc')  (K : Goes p e below W T (mkF m pc' Ls (.long (x <<< (y &&& 0x3f).toInt64) :: st))) : Goes p e below W T (mkF m pc Ls (.int y :: .long x :: st)) := by
  obtain ⟨d, rfl⟩ := d
  exact Goes.via (fun _ k => XS.lshl X.here C.hx rfl (hb C.hby d) rfl k) K
theorem g_lshr {x : Int64} {y : Int32} (C : Cx p s m meth c Z own nm bytes maxL ret) (X : St p l e R s m A below meth c Z T h cells slots) (d : Dc bytes pc (.lshr) 1 pc')  (K : Goes p e below W T (mkF m pc' Ls (.long (x >>> (y &&& 0x3f).toInt64) :: st))) : Goes p e below W T (mkF m pc Ls (.int y :: .long x :: st)) := by
  obtain ⟨d, rfl⟩ := d
  exact Goes.via (fun _ k => XS.lshr X.here C.hx rfl (hb C.hby d) rfl k) K
theorem g_lushr {x : Int64} {y : Int32} (C : Cx p s m meth c Z own nm bytes maxL ret) (X : St p l e R s m A below meth c Z T h cells slots) (d : Dc bytes pc (.lushr) 1 pc')  (K : Goes p e below W T (mkF m pc' Ls (.long ((x.toUInt64 >>> (y &&& 0x3f).toInt64.toUInt64).toInt64) :: st))) : Goes p e below W T (mkF m pc Ls (.int y :: .long x :: st)) := by
  obtain ⟨d, rfl⟩ := d
  exact Goes.via (fun _ k => XS.lushr X.here C.hx rfl (hb C.hby d) rfl k) K
theorem g_i2l {x : Int32} (C : Cx p s m meth c Z own nm bytes maxL ret) (X : St p l e R s m A below meth c Z T h cells slots) (d : Dc bytes pc (.i2l) 1 pc')  (K : Goes p e below W T (mkF m pc' Ls (.long x.toInt64 :: st))) : Goes p e below W T (mkF m pc Ls (.int x :: st)) := by
  obtain ⟨d, rfl⟩ := d
  exact Goes.via (fun _ k => XT.i2l X.here C.hx rfl (hb C.hby d) rfl k) K
theorem g_l2i {x : Int64} (C : Cx p s m meth c Z own nm bytes maxL ret) (X : St p l e R s m A below meth c Z T h cells slots) (d : Dc bytes pc (.l2i) 1 pc')  (K : Goes p e below W T (mkF m pc' Ls (.int x.toInt32 :: st))) : Goes p e below W T (mkF m pc Ls (.long x :: st)) := by
  obtain ⟨d, rfl⟩ := d
  exact Goes.via (fun _ k => XT.l2i X.here C.hx rfl (hb C.hby d) rfl k) K
theorem g_i2b {x : Int32} (C : Cx p s m meth c Z own nm bytes maxL ret) (X : St p l e R s m A below meth c Z T h cells slots) (d : Dc bytes pc (.i2b) 1 pc')  (K : Goes p e below W T (mkF m pc' Ls (.int x.toInt8.toInt32 :: st))) : Goes p e below W T (mkF m pc Ls (.int x :: st)) := by
  obtain ⟨d, rfl⟩ := d
  exact Goes.via (fun _ k => XT.i2b X.here C.hx rfl (hb C.hby d) rfl k) K
theorem g_i2s {x : Int32} (C : Cx p s m meth c Z own nm bytes maxL ret) (X : St p l e R s m A below meth c Z T h cells slots) (d : Dc bytes pc (.i2s) 1 pc')  (K : Goes p e below W T (mkF m pc' Ls (.int x.toInt16.toInt32 :: st))) : Goes p e below W T (mkF m pc Ls (.int x :: st)) := by
  obtain ⟨d, rfl⟩ := d
  exact Goes.via (fun _ k => XT.i2s X.here C.hx rfl (hb C.hby d) rfl k) K
theorem g_i2c {x : Int32} (C : Cx p s m meth c Z own nm bytes maxL ret) (X : St p l e R s m A below meth c Z T h cells slots) (d : Dc bytes pc (.i2c) 1 pc')  (K : Goes p e below W T (mkF m pc' Ls (.int x.toUInt32.toUInt16.toUInt32.toInt32 :: st))) : Goes p e below W T (mkF m pc Ls (.int x :: st)) := by
  obtain ⟨d, rfl⟩ := d
  exact Goes.via (fun _ k => XT.i2c X.here C.hx rfl (hb C.hby d) rfl k) K
theorem g_lcmp {x y : Int64} (C : Cx p s m meth c Z own nm bytes maxL ret) (X : St p l e R s m A below meth c Z T h cells slots) (d : Dc bytes pc (.lcmp) 1 pc')  (K : Goes p e below W T (mkF m pc' Ls (.int (lcmpW x y) :: st))) : Goes p e below W T (mkF m pc Ls (.long y :: .long x :: st)) := by
  obtain ⟨d, rfl⟩ := d
  exact Goes.via (fun _ k => XT.lcmp X.here C.hx rfl (hb C.hby d) rfl k) K
theorem g_pop {x : Value} (C : Cx p s m meth c Z own nm bytes maxL ret) (X : St p l e R s m A below meth c Z T h cells slots) (d : Dc bytes pc (.pop) 1 pc') (hc : x.category = 1) (K : Goes p e below W T (mkF m pc' Ls st)) : Goes p e below W T (mkF m pc Ls (x :: st)) := by
  obtain ⟨d, rfl⟩ := d
  exact Goes.via (fun _ k => XT.pop X.here C.hx rfl (hb C.hby d) rfl hc k) K
theorem g_dup {x : Value} (C : Cx p s m meth c Z own nm bytes maxL ret) (X : St p l e R s m A below meth c Z T h cells slots) (d : Dc bytes pc (.dup) 1 pc') (hc : x.category = 1) (K : Goes p e below W T (mkF m pc' Ls (x :: x :: st))) : Goes p e below W T (mkF m pc Ls (x :: st)) := by
  obtain ⟨d, rfl⟩ := d
  exact Goes.via (fun _ k => XS.dup X.here C.hx rfl (hb C.hby d) rfl hc k) K
theorem g_dup_x1 {x y : Value} (C : Cx p s m meth c Z own nm bytes maxL ret) (X : St p l e R s m A below meth c Z T h cells slots) (d : Dc bytes pc (.dup_x1) 1 pc') (hc : x.category = 1) (hc' : y.category = 1) (K : Goes p e below W T (mkF m pc' Ls (x :: y :: x :: st))) : Goes p e below W T (mkF m pc Ls (x :: y :: st)) := by
  obtain ⟨d, rfl⟩ := d
  exact Goes.via (fun _ k => XT.dupX1 X.here C.hx rfl (hb C.hby d) rfl hc hc' k) K
theorem g_dup2 {x y : Value} (C : Cx p s m meth c Z own nm bytes maxL ret) (X : St p l e R s m A below meth c Z T h cells slots) (d : Dc bytes pc (.dup2) 1 pc') (hc : x.category = 1) (hc' : y.category = 1) (K : Goes p e below W T (mkF m pc' Ls (x :: y :: x :: y :: st))) : Goes p e below W T (mkF m pc Ls (x :: y :: st)) := by
  obtain ⟨d, rfl⟩ := d
  exact Goes.via (fun _ k => XT.dup2 X.here C.hx rfl (hb C.hby d) rfl hc hc' k) K
theorem g_dup2L {x : Int64} (C : Cx p s m meth c Z own nm bytes maxL ret) (X : St p l e R s m A below meth c Z T h cells slots) (d : Dc bytes pc (.dup2) 1 pc')  (K : Goes p e below W T (mkF m pc' Ls (.long x :: .long x :: st))) : Goes p e below W T (mkF m pc Ls (.long x :: st)) := by
  obtain ⟨d, rfl⟩ := d
  exact Goes.via (fun _ k => XT.dup2L X.here C.hx rfl (hb C.hby d) rfl k) K
theorem g_irem {x y : Int32} (C : Cx p s m meth c Z own nm bytes maxL ret) (X : St p l e R s m A below meth c Z T h cells slots) (d : Dc bytes pc .irem 1 pc') (hy : y ≠ 0) (K : Goes p e below W T (mkF m pc' Ls (.int (x % y) :: st))) : Goes p e below W T (mkF m pc Ls (.int y :: .int x :: st)) := by
  obtain ⟨d, rfl⟩ := d
  obtain ⟨_, Y, _⟩ := X
  exact Goes.via (fun _ k => iremM Y C.hx rfl (hb C.hby d) rfl hy k) K
theorem g_lrem {x y : Int64} (C : Cx p s m meth c Z own nm bytes maxL ret) (X : St p l e R s m A below meth c Z T h cells slots) (d : Dc bytes pc .lrem 1 pc') (hy : y ≠ 0) (K : Goes p e below W T (mkF m pc' Ls (.long (x % y) :: st))) : Goes p e below W T (mkF m pc Ls (.long y :: .long x :: st)) := by
  obtain ⟨d, rfl⟩ := d
  rw [← lrem_mod] at K
  exact Goes.via (fun _ k => XT.lrem X.here C.hx rfl (hb C.hby d) rfl hy k) K
theorem g_ldcI {index : Nat} {v : Int32} (C : Cx p s m meth c Z own nm bytes maxL ret) (X : St p l e R s m A below meth c Z T h cells slots) (w : (Jvm.Cond.constant own index v).before a0 Z = true) (d : Dc bytes pc (.ldc index) 2 pc') (K : Goes p e below W T (mkF m pc' Ls (.int v :: st))) : Goes p e below W T (mkF m pc Ls st) := by
  obtain ⟨d, rfl⟩ := d
  obtain ⟨_, Y, _⟩ := X
  exact Goes.via (fun t k => Y.ldcInt C.hx C.hown (mvT C.hZ w) (g := mkF m pc Ls st) rfl (hb C.hby d) t k) K
theorem g_ldcwI {index : Nat} {v : Int32} (C : Cx p s m meth c Z own nm bytes maxL ret) (X : St p l e R s m A below meth c Z T h cells slots) (w : (Jvm.Cond.constant own index v).before a0 Z = true) (d : Dc bytes pc (.ldc_w index) 3 pc') (K : Goes p e below W T (mkF m pc' Ls (.int v :: st))) : Goes p e below W T (mkF m pc Ls st) := by
  obtain ⟨d, rfl⟩ := d
  obtain ⟨_, Y, _⟩ := X
  exact Goes.via (fun t k => Y.ldcWI C.hx C.hown (mvT C.hZ w) (g := mkF m pc Ls st) rfl (hb C.hby d) k) K
theorem g_ldcJ {index : Nat} {v : Int64} (C : Cx p s m meth c Z own nm bytes maxL ret) (X : St p l e R s m A below meth c Z T h cells slots) (w : (Jvm.Cond.constantLong own index v).before a0 Z = true) (d : Dc bytes pc (.ldc2_w index) 3 pc') (K : Goes p e below W T (mkF m pc' Ls (.long v :: st))) : Goes p e below W T (mkF m pc Ls st) := by
  obtain ⟨d, rfl⟩ := d
  obtain ⟨_, Y, _⟩ := X
  exact Goes.via (fun t k => Y.ldc2Long C.hx C.hown (mvT C.hZ w) (g := mkF m pc Ls st) rfl (hb C.hby d) t k) K
theorem g_getstatic {R0 O n dd host : String} {index : Nat} {v : Value} (C : Cx p s m meth c Z own nm bytes maxL ret) (X : St p l e R s m A below meth c Z T h cells slots) (w : (Jvm.Cond.fieldLink own index R0 n dd).before a0 Z = true ∨ (Jvm.Cond.fieldLinkNest own index R0 n dd host).before a0 Z = true) (via : Via Z R0 O n dd) (F : Sta Z Z.heap O n dd v) (d : Dc bytes pc (.getstatic index) 3 pc')
    (K : ∀ T', St p l e R s m A below meth c Z T' h cells slots → Goes p e below W T' (mkF m pc' Ls (v :: st))) : Goes p e below W T (mkF m pc Ls st) := by
  obtain ⟨d, rfl⟩ := d
  obtain ⟨L, Y, eT, N, E⟩ := X
  obtain ⟨T', Y', e', q⟩ := getS2 Y C.hx C.hZ C.hown w via eT (F.ext E) (g := mkF m pc Ls st) rfl (hb C.hby d)
  exact Goes.via q (K T' ⟨L, Y', e', N, E⟩)
theorem g_getfield {R0 O n dd host : String} {index : Nat} {a : Addr} {v : Value} (C : Cx p s m meth c Z own nm bytes maxL ret) (X : St p l e R s m A below meth c Z T h cells slots) (w : (Jvm.Cond.fieldLink own index R0 n dd).before a0 Z = true ∨ (Jvm.Cond.fieldLinkNest own index R0 n dd host).before a0 Z = true) (via : Via Z R0 O n dd) (F : Fld Z h a O n dd v) (d : Dc bytes pc (.getfield index) 3 pc')
    (K : ∀ T', St p l e R s m A below meth c Z T' h cells slots → Goes p e below W T' (mkF m pc' Ls (v :: st))) : Goes p e below W T (mkF m pc Ls (.ref a :: st)) := by
  obtain ⟨d, rfl⟩ := d
  obtain ⟨L, Y, eT, N, E⟩ := X
  obtain ⟨T', Y', e', q⟩ := getF Y C.hx C.hZ C.hown w via eT F (g := mkF m pc Ls (.ref a :: st)) rfl rfl (hb C.hby d)
  exact Goes.via q (K T' ⟨L, Y', e', N, E⟩)
theorem ext_wr {h h' : Heap} {a : Addr} {sl : Nat} {v : Value} (E : Ext Z.heap h) (w : Wr h h' a sl v) (q : Z.heap.size ≤ a) : Ext Z.heap h' := (Old.wr (Z := Z) (n0 := Z.heap.size) (h := h) ⟨rfl, E⟩ w q).2
theorem ext_keep {h h' : Heap} {ws : List Addr} (E : Ext Z.heap h) (w : Keep h h' ws) (q : ∀ x ∈ ws, Z.heap.size ≤ x) : Ext Z.heap h' := (Old.keep (Z := Z) (n0 := Z.heap.size) (h := h) ⟨rfl, E⟩ w q).2
theorem ext_trans {h h' : Heap} (E : Ext Z.heap h) (E' : Ext h h') : Ext Z.heap h' := ⟨Nat.le_trans E.1 E'.1, fun x c q => E'.2 x c (E.2 x c q)⟩
theorem g_putfield {R0 O n dd host K0 : String} {index kk : Nat} {ty : FieldType} {a : Addr} {v old : Value} (C : Cx p s m meth c Z own nm bytes maxL ret) (X : St p l e R s m A below meth c Z T h cells slots) (w : (Jvm.Cond.fieldLink own index R0 n dd).before a0 Z = true ∨ (Jvm.Cond.fieldLinkNest own index R0 n dd host).before a0 Z = true) (via : Via Z R0 O n dd)
    (F : Fld Z h a O n dd old) (Ex : Exa Z h a K0) (L : (Jvm.Cond.lays K0 O n dd).before a0 Z = true ∨ ((Jvm.Cond.laysFinal K0 O n dd).before a0 Z = true ∧ own = O ∧ nm = "<init>")) (wi : (Jvm.Cond.instantiable K0 kk).before a0 Z = true) (hty : parseFieldDescriptor dd = some ty) (hn : narrow ty v = v) (hf : fits ty v = true) (hnew : Z.heap.size ≤ a) (d : Dc bytes pc (.putfield index) 3 pc')
    (K : ∀ T' h', St p l e R s m A below meth c Z T' h' cells slots → Wr h h' a (RoadKit.slotOf Z O n dd) v → Goes p e below W T' (mkF m pc' Ls st)) : Goes p e below W T (mkF m pc Ls (v :: .ref a :: st)) := by
  obtain ⟨d, rfl⟩ := d
  obtain ⟨L0, Y, eT, N, E⟩ := X
  obtain ⟨T', h', Y', e', W', q⟩ := putF Y C.hx C.hZ C.hown w via eT F Ex (L.imp id fun z => ⟨z.1, z.2.1, C.hnm.trans z.2.2⟩) wi hty hn hf (g := mkF m pc Ls (v :: .ref a :: st)) rfl rfl (hb C.hby d)
  exact Goes.via q (K T' h' ⟨_, Y', e', Fr.snoc Y' N hnew, ext_wr E W' hnew⟩ W')
theorem g_new {K0 : String} {index n : Nat} (C : Cx p s m meth c Z own nm bytes maxL ret) (X : St p l e R s m A below meth c Z T h cells slots) (w : (Jvm.Cond.classLink own index K0).before a0 Z = true) (wi : (Jvm.Cond.instantiable K0 n).before a0 Z = true) (wz : (Jvm.Cond.initialized K0).before a0 Z = true) (d : Dc bytes pc (.new index) 3 pc') (hc : cells + 1 ≤ R.cells) (hl : slots + n ≤ R.slots)
    (K : ∀ T' h' b, b = h.size → Z.heap.size ≤ b → St p l e R s m A below meth c Z T' h' (cells + 1) (slots + n) → Ext h h' → Exa Z h' b K0 → (∀ {O f dd : String} {ty : FieldType}, Laid Z a0 K0 O f dd → parseFieldDescriptor dd = some ty → Fld Z h' b O f dd (defaultValue ty)) → (∃ cell : Cell, h'[b]? = some cell ∧ cell.vm = .none ∧ cell.monitor = {}) → Goes p e below W T' (mkF m pc' Ls (.ref b :: st))) : Goes p e below W T (mkF m pc Ls st) := by
  obtain ⟨d, rfl⟩ := d
  obtain ⟨L0, Y, eT, N, E⟩ := X
  obtain ⟨T', h', Y', e', E', A', D', M', q⟩ := newO Y C.hx C.hZ C.hown w wi wz eT (g := mkF m pc Ls st) rfl (hb C.hby d) hc hl
  exact Goes.via q (K T' h' _ rfl E.1 ⟨_, Y', e', N, ext_trans E E'⟩ E' A' D' M')
theorem g_newarray {aty : ArrayType} {n : Int32} (C : Cx p s m meth c Z own nm bytes maxL ret) (X : St p l e R s m A below meth c Z T h cells slots) (w : (Jvm.Cond.arrayClass (newarray.typeOf aty)).before a0 Z = true) (d : Dc bytes pc (.newarray aty) 2 pc') (hn : ¬ n < 0) (cap : Nat) (hcap : n.toNatClampNeg ≤ cap) (hb' : cap * 8 ≤ 536870912) (hc : cells + 1 ≤ R.cells) (hl : slots + cap ≤ R.slots)
    (K : ∀ T' h' b k, b = h.size → Z.heap.size ≤ b → St p l e R s m A below meth c Z T' h' (cells + 1) (slots + cap) → Ext h h' → Arv Z h' b k (newarray.typeOf aty) n (List.replicate cap (defaultValue (newarray.typeOf aty))) (defaultValue (newarray.typeOf aty)) → Goes p e below W T' (mkF m pc' Ls (.ref b :: st))) : Goes p e below W T (mkF m pc Ls (.int n :: st)) := by
  obtain ⟨d, rfl⟩ := d
  obtain ⟨L0, Y, eT, N, E⟩ := X
  obtain ⟨T', h', k, Y', e', E', A', q⟩ := newP Y C.hx C.hZ w eT (g := mkF m pc Ls (.int n :: st)) rfl (hb C.hby d) rfl hn hcap hb' hc hl
  exact Goes.via q (K T' h' _ k rfl E.1 ⟨_, Y', e', N, ext_trans E E'⟩ E' ((Arv.new A' hn).pad (pad_rep [] _ cap)))
theorem g_checkcast {K0 : String} {index : Nat} {a : Addr} (C : Cx p s m meth c Z own nm bytes maxL ret) (X : St p l e R s m A below meth c Z T h cells slots) (w : (Jvm.Cond.classLink own index K0).before a0 Z = true) (F : Ins Z h a K0 true) (d : Dc bytes pc (.checkcast index) 3 pc')
    (K : ∀ T', St p l e R s m A below meth c Z T' h cells slots → Goes p e below W T' (mkF m pc' Ls (.ref a :: st))) : Goes p e below W T (mkF m pc Ls (.ref a :: st)) := by
  obtain ⟨d, rfl⟩ := d
  obtain ⟨L, Y, eT, N, E⟩ := X
  obtain ⟨T', Y', e', q⟩ := castY Y C.hx C.hZ C.hown w eT F (g := mkF m pc Ls (.ref a :: st)) rfl rfl (hb C.hby d)
  exact Goes.via q (K T' ⟨L, Y', e', N, E⟩)
theorem g_checkcastN {index : Nat} (C : Cx p s m meth c Z own nm bytes maxL ret) (X : St p l e R s m A below meth c Z T h cells slots) (d : Dc bytes pc (.checkcast index) 3 pc') (K : Goes p e below W T (mkF m pc' Ls (.null :: st))) : Goes p e below W T (mkF m pc Ls (.null :: st)) := by
  obtain ⟨d, rfl⟩ := d
  obtain ⟨L, Y, eT, N, E⟩ := X
  exact Goes.via (Y.checkcastNull C.hx (g := mkF m pc Ls (.null :: st)) rfl rfl (hb C.hby d)) K
theorem g_instanceY {K0 : String} {index : Nat} {a : Addr} (C : Cx p s m meth c Z own nm bytes maxL ret) (X : St p l e R s m A below meth c Z T h cells slots) (w : (Jvm.Cond.classLink own index K0).before a0 Z = true) (F : Ins Z h a K0 true) (d : Dc bytes pc (.instanceof index) 3 pc')
    (K : ∀ T', St p l e R s m A below meth c Z T' h cells slots → Goes p e below W T' (mkF m pc' Ls (.int 1 :: st))) : Goes p e below W T (mkF m pc Ls (.ref a :: st)) := by
  obtain ⟨d, rfl⟩ := d
  obtain ⟨L, Y, eT, N, E⟩ := X
  obtain ⟨T', Y', e', q⟩ := instY Y C.hx C.hZ C.hown w eT F (g := mkF m pc Ls (.ref a :: st)) rfl rfl (hb C.hby d)
  exact Goes.via q (K T' ⟨L, Y', e', N, E⟩)
theorem g_instanceN {index : Nat} (C : Cx p s m meth c Z own nm bytes maxL ret) (X : St p l e R s m A below meth c Z T h cells slots) (d : Dc bytes pc (.instanceof index) 3 pc') (K : Goes p e below W T (mkF m pc' Ls (.int 0 :: st))) : Goes p e below W T (mkF m pc Ls (.null :: st)) := by
  obtain ⟨d, rfl⟩ := d
  obtain ⟨L, Y, eT, N, E⟩ := X
  exact Goes.via (Y.instanceofNull C.hx (g := mkF m pc Ls (.null :: st)) rfl rfl (hb C.hby d)) K
theorem keep_ext {h h' : Heap} (K : Keep h h' []) : Ext h h' := ⟨K.1, fun x c q => K.2.1 x c q nin0⟩
theorem ext_keep0 {h h' : Heap} (E : Ext h h') (ws : List Addr) : Keep h h' ws := (Keep.refl h ws).ext E
/-- a place of an array -/
theorem in_of {n j : Int32} {c : Cell} (S : c.slots.size = n.toNatClampNeg) (hj : ¬ j < 0) (hj' : j < n) : ¬ (j < 0 ∨ c.slots.size ≤ j.toNatClampNeg) := inb_of S ⟨hj, hj'⟩
theorem g_arraylength {a : Addr} {k : ClassId} {ty : FieldType} {n : Int32} {vs : List Value} {dv : Value} (C : Cx p s m meth c Z own nm bytes maxL ret) (X : St p l e R s m A below meth c Z T h cells slots) (F : Arv Z h a k ty n vs dv) (d : Dc bytes pc .arraylength 1 pc') (K : Goes p e below W T (mkF m pc' Ls (.int n :: st))) : Goes p e below W T (mkF m pc Ls (.ref a :: st)) := by
  obtain ⟨d, rfl⟩ := d
  obtain ⟨L0, Y, eT, N, E⟩ := X
  obtain ⟨cl, Ar, -, hS, hN, -, -⟩ := F
  rw [← len_of hS hN] at K
  exact Goes.via (Y.arraylength C.hx (by rw [eT]; exact Ar.1) (State.isArrayOf_alike C.hZ.alike Ar.2.1) (g := mkF m pc Ls (.ref a :: st)) rfl rfl (hb C.hby d)) K
theorem g_iaload {a : Addr} {k : ClassId} {n j : Int32} {vs : List Value} {dv : Value} {v : Int32} (C : Cx p s m meth c Z own nm bytes maxL ret) (X : St p l e R s m A below meth c Z T h cells slots) (F : Arv Z h a k .int n vs dv) (d : Dc bytes pc .iaload 1 pc') (hj : ¬ j < 0) (hj' : j < n) (hv : vs.getD j.toNatClampNeg dv = .int v) (K : Goes p e below W T (mkF m pc' Ls (.int v :: st))) : Goes p e below W T (mkF m pc Ls (.int j :: .ref a :: st)) := by
  obtain ⟨d, rfl⟩ := d
  obtain ⟨L0, Y, eT, N, E⟩ := X
  obtain ⟨cl, Ar, -, hS, hN, hH, -⟩ := F
  have hin := in_of hS hj hj'
  exact Goes.via (Y.iaload C.hx (j := j) (v := .int v) (by rw [eT]; exact Ar.1) (State.isArrayOf_alike C.hZ.alike Ar.2.1) Ar.2.2 hin (hH.at hin hv) (g := mkF m pc Ls (.int j :: .ref a :: st)) rfl rfl (hb C.hby d)) K
theorem g_caload {a : Addr} {k : ClassId} {n j : Int32} {vs : List Value} {dv : Value} {v : Int32} (C : Cx p s m meth c Z own nm bytes maxL ret) (X : St p l e R s m A below meth c Z T h cells slots) (F : Arv Z h a k .char n vs dv) (d : Dc bytes pc .caload 1 pc') (hj : ¬ j < 0) (hj' : j < n) (hv : vs.getD j.toNatClampNeg dv = .int v) (K : Goes p e below W T (mkF m pc' Ls (.int v :: st))) : Goes p e below W T (mkF m pc Ls (.int j :: .ref a :: st)) := by
  obtain ⟨d, rfl⟩ := d
  obtain ⟨L0, Y, eT, N, E⟩ := X
  obtain ⟨cl, Ar, -, hS, hN, hH, -⟩ := F
  have hin := in_of hS hj hj'
  exact Goes.via (Y.caload C.hx (j := j) (v := .int v) (by rw [eT]; exact Ar.1) (State.isArrayOf_alike C.hZ.alike Ar.2.1) Ar.2.2 hin (hH.at hin hv) (g := mkF m pc Ls (.int j :: .ref a :: st)) rfl rfl (hb C.hby d)) K
theorem g_saload {a : Addr} {k : ClassId} {n j : Int32} {vs : List Value} {dv : Value} {v : Int32} (C : Cx p s m meth c Z own nm bytes maxL ret) (X : St p l e R s m A below meth c Z T h cells slots) (F : Arv Z h a k .short n vs dv) (d : Dc bytes pc .saload 1 pc') (hj : ¬ j < 0) (hj' : j < n) (hv : vs.getD j.toNatClampNeg dv = .int v) (K : Goes p e below W T (mkF m pc' Ls (.int v :: st))) : Goes p e below W T (mkF m pc Ls (.int j :: .ref a :: st)) := by
  obtain ⟨d, rfl⟩ := d
  obtain ⟨L0, Y, eT, N, E⟩ := X
  obtain ⟨cl, Ar, -, hS, hN, hH, -⟩ := F
  have hin := in_of hS hj hj'
  exact Goes.via (Y.saload C.hx (j := j) (v := .int v) (by rw [eT]; exact Ar.1) (State.isArrayOf_alike C.hZ.alike Ar.2.1) Ar.2.2 hin (hH.at hin hv) (g := mkF m pc Ls (.int j :: .ref a :: st)) rfl rfl (hb C.hby d)) K
theorem g_baload {a : Addr} {k : ClassId} {n j : Int32} {vs : List Value} {dv : Value} {v : Int32} (C : Cx p s m meth c Z own nm bytes maxL ret) (X : St p l e R s m A below meth c Z T h cells slots) (F : Arv Z h a k .byte n vs dv) (d : Dc bytes pc .baload 1 pc') (hj : ¬ j < 0) (hj' : j < n) (hv : vs.getD j.toNatClampNeg dv = .int v) (K : Goes p e below W T (mkF m pc' Ls (.int v :: st))) : Goes p e below W T (mkF m pc Ls (.int j :: .ref a :: st)) := by
  obtain ⟨d, rfl⟩ := d
  obtain ⟨L0, Y, eT, N, E⟩ := X
  obtain ⟨cl, Ar, -, hS, hN, hH, -⟩ := F
  have hin := in_of hS hj hj'
  exact Goes.via (Y.baloadBytes C.hx (j := j) (v := .int v) (by rw [eT]; exact Ar.1) (State.isArrayOf_alike C.hZ.alike Ar.2.1) Ar.2.2 hin (hH.at hin hv) (g := mkF m pc Ls (.int j :: .ref a :: st)) rfl rfl (hb C.hby d)) K
theorem g_laload {a : Addr} {k : ClassId} {n j : Int32} {vs : List Value} {dv : Value} {v : Int64} (C : Cx p s m meth c Z own nm bytes maxL ret) (X : St p l e R s m A below meth c Z T h cells slots) (F : Arv Z h a k .long n vs dv) (d : Dc bytes pc .laload 1 pc') (hj : ¬ j < 0) (hj' : j < n) (hv : vs.getD j.toNatClampNeg dv = .long v) (K : Goes p e below W T (mkF m pc' Ls (.long v :: st))) : Goes p e below W T (mkF m pc Ls (.int j :: .ref a :: st)) := by
  obtain ⟨d, rfl⟩ := d
  obtain ⟨L0, Y, eT, N, E⟩ := X
  obtain ⟨cl, Ar, -, hS, hN, hH, -⟩ := F
  have hin := in_of hS hj hj'
  exact Goes.via (Y.laload C.hx (j := j) (v := .long v) (by rw [eT]; exact Ar.1) (State.isArrayOf_alike C.hZ.alike Ar.2.1) Ar.2.2 hin (hH.at hin hv) (g := mkF m pc Ls (.int j :: .ref a :: st)) rfl rfl (hb C.hby d)) K
theorem g_aaload {a : Addr} {k : ClassId} {ty : FieldType} {n j : Int32} {vs : List Value} {dv v : Value} (C : Cx p s m meth c Z own nm bytes maxL ret) (X : St p l e R s m A below meth c Z T h cells slots) (F : Arv Z h a k ty n vs dv) (hty : ty.isReference = true) (d : Dc bytes pc .aaload 1 pc') (hj : ¬ j < 0) (hj' : j < n) (hv : vs.getD j.toNatClampNeg dv = v) (K : Goes p e below W T (mkF m pc' Ls (v :: st))) : Goes p e below W T (mkF m pc Ls (.int j :: .ref a :: st)) := by
  obtain ⟨d, rfl⟩ := d
  obtain ⟨L0, Y, eT, N, E⟩ := X
  obtain ⟨cl, Ar, -, hS, hN, hH, -⟩ := F
  have hin := in_of hS hj hj'
  exact Goes.via (Y.aaload C.hx (j := j) (v := v) (by rw [eT]; exact Ar.1) (State.isArrayOf_alike C.hZ.alike Ar.2.1) hty Ar.2.2 hin (hH.at hin hv) (g := mkF m pc Ls (.int j :: .ref a :: st)) rfl rfl (hb C.hby d)) K
theorem g_iastore {a : Addr} {k : ClassId} {n j : Int32} {vs : List Value} {dv : Value} {x : Int32} (C : Cx p s m meth c Z own nm bytes maxL ret) (X : St p l e R s m A below meth c Z T h cells slots) (F : Arv Z h a k .int n vs dv) (hnew : Z.heap.size ≤ a) (d : Dc bytes pc .iastore 1 pc') (hj : ¬ j < 0) (hj' : j < n) (hi : j.toNatClampNeg < vs.length) (y : Value) (hy : .int x = y)
    (K : ∀ T' h', St p l e R s m A below meth c Z T' h' cells slots → Wr h h' a j.toNatClampNeg y → Arv Z h' a k .int n (vs.set j.toNatClampNeg y) dv → Goes p e below W T' (mkF m pc' Ls st)) : Goes p e below W T (mkF m pc Ls (.int x :: .int j :: .ref a :: st)) := by
  subst hy
  obtain ⟨d, rfl⟩ := d
  obtain ⟨L0, Y, eT, N, E⟩ := X
  obtain ⟨cl, Ar, q1, hS, hN, hH, hG⟩ := F
  have hin := in_of hS hj hj'
  obtain ⟨T', h', Y', e', W', q⟩ := stI Y C.hx C.hZ eT Ar hin (g := mkF m pc Ls (.int x :: .int j :: .ref a :: st)) rfl rfl (hb C.hby d)
  exact Goes.via q (K T' h' ⟨_, Y', e', Fr.snoc Y' N hnew, ext_wr E W' hnew⟩ W' (Arv.set Ar q1 hS hN hH hG rfl W' _ rfl hi))
theorem g_castore {a : Addr} {k : ClassId} {n j : Int32} {vs : List Value} {dv : Value} {x : Int32} (C : Cx p s m meth c Z own nm bytes maxL ret) (X : St p l e R s m A below meth c Z T h cells slots) (F : Arv Z h a k .char n vs dv) (hnew : Z.heap.size ≤ a) (d : Dc bytes pc .castore 1 pc') (hj : ¬ j < 0) (hj' : j < n) (hi : j.toNatClampNeg < vs.length) (y : Value) (hy : .int (nar .char x) = y)
    (K : ∀ T' h', St p l e R s m A below meth c Z T' h' cells slots → Wr h h' a j.toNatClampNeg y → Arv Z h' a k .char n (vs.set j.toNatClampNeg y) dv → Goes p e below W T' (mkF m pc' Ls st)) : Goes p e below W T (mkF m pc Ls (.int x :: .int j :: .ref a :: st)) := by
  subst hy
  obtain ⟨d, rfl⟩ := d
  obtain ⟨L0, Y, eT, N, E⟩ := X
  obtain ⟨cl, Ar, q1, hS, hN, hH, hG⟩ := F
  have hin := in_of hS hj hj'
  obtain ⟨T', h', Y', e', W', q⟩ := stC Y C.hx C.hZ eT Ar hin (g := mkF m pc Ls (.int x :: .int j :: .ref a :: st)) rfl rfl (hb C.hby d)
  exact Goes.via q (K T' h' ⟨_, Y', e', Fr.snoc Y' N hnew, ext_wr E W' hnew⟩ W' (Arv.set Ar q1 hS hN hH hG (fits_nar_char _) W' _ rfl hi))
theorem g_sastore {a : Addr} {k : ClassId} {n j : Int32} {vs : List Value} {dv : Value} {x : Int32} (C : Cx p s m meth c Z own nm bytes maxL ret) (X : St p l e R s m A below meth c Z T h cells slots) (F : Arv Z h a k .short n vs dv) (hnew : Z.heap.size ≤ a) (d : Dc bytes pc .sastore 1 pc') (hj : ¬ j < 0) (hj' : j < n) (hi : j.toNatClampNeg < vs.length) (y : Value) (hy : .int (nar .short x) = y)
    (K : ∀ T' h', St p l e R s m A below meth c Z T' h' cells slots → Wr h h' a j.toNatClampNeg y → Arv Z h' a k .short n (vs.set j.toNatClampNeg y) dv → Goes p e below W T' (mkF m pc' Ls st)) : Goes p e below W T (mkF m pc Ls (.int x :: .int j :: .ref a :: st)) := by
  subst hy
  obtain ⟨d, rfl⟩ := d
  obtain ⟨L0, Y, eT, N, E⟩ := X
  obtain ⟨cl, Ar, q1, hS, hN, hH, hG⟩ := F
  have hin := in_of hS hj hj'
  obtain ⟨T', h', Y', e', W', q⟩ := stS Y C.hx C.hZ eT Ar hin (g := mkF m pc Ls (.int x :: .int j :: .ref a :: st)) rfl rfl (hb C.hby d)
  exact Goes.via q (K T' h' ⟨_, Y', e', Fr.snoc Y' N hnew, ext_wr E W' hnew⟩ W' (Arv.set Ar q1 hS hN hH hG (fits_nar_short _) W' _ rfl hi))
theorem g_bastore {a : Addr} {k : ClassId} {n j : Int32} {vs : List Value} {dv : Value} {x : Int32} (C : Cx p s m meth c Z own nm bytes maxL ret) (X : St p l e R s m A below meth c Z T h cells slots) (F : Arv Z h a k .byte n vs dv) (hnew : Z.heap.size ≤ a) (d : Dc bytes pc .bastore 1 pc') (hj : ¬ j < 0) (hj' : j < n) (hi : j.toNatClampNeg < vs.length) (y : Value) (hy : .int (nar .byte x) = y)
    (K : ∀ T' h', St p l e R s m A below meth c Z T' h' cells slots → Wr h h' a j.toNatClampNeg y → Arv Z h' a k .byte n (vs.set j.toNatClampNeg y) dv → Goes p e below W T' (mkF m pc' Ls st)) : Goes p e below W T (mkF m pc Ls (.int x :: .int j :: .ref a :: st)) := by
  subst hy
  obtain ⟨d, rfl⟩ := d
  obtain ⟨L0, Y, eT, N, E⟩ := X
  obtain ⟨cl, Ar, q1, hS, hN, hH, hG⟩ := F
  have hin := in_of hS hj hj'
  obtain ⟨T', h', Y', e', W', q⟩ := stB Y C.hx C.hZ eT Ar hin (g := mkF m pc Ls (.int x :: .int j :: .ref a :: st)) rfl rfl (hb C.hby d)
  exact Goes.via q (K T' h' ⟨_, Y', e', Fr.snoc Y' N hnew, ext_wr E W' hnew⟩ W' (Arv.set Ar q1 hS hN hH hG (fits_nar_byte _) W' _ rfl hi))
theorem g_lastore {a : Addr} {k : ClassId} {n j : Int32} {vs : List Value} {dv : Value} {x : Int64} (C : Cx p s m meth c Z own nm bytes maxL ret) (X : St p l e R s m A below meth c Z T h cells slots) (F : Arv Z h a k .long n vs dv) (hnew : Z.heap.size ≤ a) (d : Dc bytes pc .lastore 1 pc') (hj : ¬ j < 0) (hj' : j < n) (hi : j.toNatClampNeg < vs.length) (y : Value) (hy : .long x = y)
    (K : ∀ T' h', St p l e R s m A below meth c Z T' h' cells slots → Wr h h' a j.toNatClampNeg y → Arv Z h' a k .long n (vs.set j.toNatClampNeg y) dv → Goes p e below W T' (mkF m pc' Ls st)) : Goes p e below W T (mkF m pc Ls (.long x :: .int j :: .ref a :: st)) := by
  subst hy
  obtain ⟨d, rfl⟩ := d
  obtain ⟨L0, Y, eT, N, E⟩ := X
  obtain ⟨cl, Ar, q1, hS, hN, hH, hG⟩ := F
  have hin := in_of hS hj hj'
  obtain ⟨T', h', Y', e', W', q⟩ := stJ Y C.hx C.hZ eT Ar hin (g := mkF m pc Ls (.long x :: .int j :: .ref a :: st)) rfl rfl (hb C.hby d)
  exact Goes.via q (K T' h' ⟨_, Y', e', Fr.snoc Y' N hnew, ext_wr E W' hnew⟩ W' (Arv.set Ar q1 hS hN hH hG rfl W' _ rfl hi))
theorem st_back {T' : State} {h' : Heap} {k n : Nat} {B : Pt} {locs L : List Loc} (Y' : Stand p l e R s m A below meth c B.U B.locs B.cells B.slots) (hB : B.locs = locs ++ L ∧ B.cells = cells + k ∧ B.slots = slots + n) (N : Fr Z.heap.size locs) (N' : Fr Z.heap.size L) (E : Ext Z.heap B.U.heap) : St p l e R s m A below meth c Z B.U B.U.heap (cells + k) (slots + n) := by
  obtain ⟨b1, b2, b3⟩ := hB
  rw [b1, b2, b3] at Y'
  exact ⟨_, Y', rfl, N.app N', E⟩
/-- a Back that serves a call: what a contract pays -/
def Pay (l : Launch) (R : Room) (p : Program) (e : Env) (below : List Frame) (s : State) (A : Array Value) (y : MethodName) (len W k n : Nat) (Z : State) (as' : Array Value) (h : Heap) (Q : Option Value → Heap → Prop) : Prop :=
  Back l R p e below s A y len W (fun P a => a = as' ∧ P.U.heap = h ∧ P.cells + k ≤ R.cells ∧ P.slots + n ≤ R.slots)
    (fun P _ v B => ∃ L, (Fr Z.heap.size L ∧ Ext Z.heap B.U.heap ∧ Q v B.U.heap) ∧ B.locs = P.locs ++ L ∧ B.cells = P.cells + k ∧ B.slots = P.slots + n)
theorem pay_of {y : MethodName} {bytes' : ByteArray} {maxL' len W' : Nat} {ret' : Option FieldType} {rm : Room} {as' : Array Value} {Q : Option Value → Heap → Prop} (hM : Con l y bytes' maxL' ret' [] rm Z as' h Q) (hZ : Z.Warmed39 s.vm) (wc : (Jvm.Cond.code y bytes' maxL' ret').before a0 Z = true) (wz : (Jvm.Cond.initialized y.cls).before a0 Z = true) (hf : rm.frames + 1 ≤ R.frames) (hl : W' + (maxL' + 11) + rm.locals ≤ R.locals) :
    Pay l R p e below s A y len W' rm.cells rm.slots Z as' h Q := backOf (Q := fun v h' L => Fr Z.heap.size L ∧ Ext Z.heap h' ∧ Q v h') hM hZ wc wz hf hl
theorem g_static {index k n : Nat} {y : MethodName} {bytes' : ByteArray} {maxL' W' : Nat} {ret' : Option FieldType} {argsL : List Value} {Q : Option Value → Heap → Prop} {ps : List FieldType} {rt : Option FieldType} (C : Cx p s m meth c Z own nm bytes maxL ret) (X : St p l e R s m A below meth c Z T h cells slots)
    (w1 : (Jvm.Cond.methodLink own index y).before a0 Z = true) (w2 : (Jvm.Cond.static y).before a0 Z = true) (w3 : (Jvm.Cond.initialized y.cls).before a0 Z = true) (w4 : (Jvm.Cond.code y bytes' maxL' ret').before a0 Z = true) (hy : y.cls ≠ "java/lang/invoke/MethodHandle" ∧ y.cls ≠ "java/lang/invoke/VarHandle")
    (hK : Pay l R p e below s A y 3 W' k n Z argsL.toArray h Q) (pd : parseMethodDescriptor y.desc = some ⟨ps, rt⟩) (hlen : argsL.length = ps.length) (hsz : Ls.size = maxL) (stk : List Value) (hst : stk = argsL.reverse ++ st) (hW : (st.map fun v => v.category).sum ≤ W') (d : Dc bytes pc (.invokestatic index) 3 pc') (hc : cells + k ≤ R.cells) (hs : slots + n ≤ R.slots)
    (K : ∀ T' h' v, Q v h' → St p l e R s m A below meth c Z T' h' (cells + k) (slots + n) → Goes p e below W T' (mkF m pc' Ls (v.toList ++ st))) : Goes p e below W T (mkF m pc Ls stk) := by
  obtain ⟨d, rfl⟩ := d
  obtain ⟨L0, Y, eT, N, E⟩ := X
  obtain ⟨v, vm₁, B, -, Y', ⟨L, ⟨N', E', hQ⟩, hB⟩, q⟩ := Jvm.LawKit.callS Y C.hx C.hown (mvT C.hZ w1) (mvT C.hZ w2) (mvT C.hZ w3) (mvT C.hZ w4) hy hK (g := mkF m pc Ls stk) rfl (hsz.trans C.hml.symm) (argsL := argsL) (rest := st) (lenOf pd hlen) hst (by show 2 * 0 + _ ≤ _; omega) (hb C.hby d) (fun _ _ => ⟨rfl, eT, hc, hs⟩)
  exact Goes.via q (K _ _ v hQ (st_back (T' := T) (h' := h) Y' hB N N' E'))
theorem g_special {index k n : Nat} {y : MethodName} {bytes' : ByteArray} {maxL' W' : Nat} {argsL : List Value} {Q : Option Value → Heap → Prop} {ps : List FieldType} {rt : Option FieldType} {a : Addr} (C : Cx p s m meth c Z own nm bytes maxL ret) (X : St p l e R s m A below meth c Z T h cells slots) (hi : y.name = "<init>")
    (w1 : (Jvm.Cond.methodLink own index y).before a0 Z = true) (w2 : (Jvm.Cond.instanceMethod y).before a0 Z = true) (w4 : (Jvm.Cond.code y bytes' maxL' none).before a0 Z = true) (hy : y.cls ≠ "java/lang/invoke/MethodHandle" ∧ y.cls ≠ "java/lang/invoke/VarHandle")
    (hK : Pay l R p e below s A y 3 W' k n Z (.ref a :: argsL).toArray h Q) (pd : parseMethodDescriptor y.desc = some ⟨ps, rt⟩) (hlen : argsL.length = ps.length) (hsz : Ls.size = maxL) (stk : List Value) (hst : stk = argsL.reverse ++ .ref a :: st) (hW : (st.map fun v => v.category).sum ≤ W') (d : Dc bytes pc (.invokespecial index) 3 pc') (hc : cells + k ≤ R.cells) (hs : slots + n ≤ R.slots)
    (K : ∀ T' h' v, Q v h' → St p l e R s m A below meth c Z T' h' (cells + k) (slots + n) → Goes p e below W T' (mkF m pc' Ls (v.toList ++ st))) : Goes p e below W T (mkF m pc Ls stk) := by
  obtain ⟨d, rfl⟩ := d
  obtain ⟨L0, Y, eT, N, E⟩ := X
  obtain ⟨v, vm₁, B, -, Y', ⟨L, ⟨N', E', hQ⟩, hB⟩, q⟩ := Y.specialBack C.hx (y := y) hi C.hown (mvT C.hZ w1) (mvT C.hZ w2) (mvT C.hZ w4) hy hK (g := mkF m pc Ls stk) rfl (hsz.trans C.hml.symm) (Steps.refl _) (a := a) (argsL := argsL) (rest := st) (lenOf pd hlen) hst (by show 2 * 0 + _ ≤ _; omega) (hb C.hby d) (fun _ _ => ⟨rfl, eT, hc, hs⟩)
  exact Goes.via (fun _ k => q.trans k) (K _ _ v hQ (st_back (T' := T) (h' := h) Y' hB N N' E'))
theorem g_virtual {index k n : Nat} {y z : MethodName} {K0 : String} {W' : Nat} {argsL : List Value} {Q : Option Value → Heap → Prop} {ps : List FieldType} {rt : Option FieldType} {a : Addr} (C : Cx p s m meth c Z own nm bytes maxL ret) (X : St p l e R s m A below meth c Z T h cells slots)
    (w1 : (Jvm.Cond.methodLink own index y).before a0 Z = true) (w2 : (Jvm.Cond.declares y).before a0 Z = true) (nf : NotFace s y) (w3 : (Jvm.Cond.selects K0 y z).before a0 Z = true) (w4 : (Jvm.Cond.instanceMethod z).before a0 Z = true) (hy : y.cls ≠ "java/lang/invoke/MethodHandle" ∧ y.cls ≠ "java/lang/invoke/VarHandle") (Ex : Exa Z h a K0)
    (hK : Pay l R p e below s A z 3 W' k n Z (.ref a :: argsL).toArray h Q) (pd : parseMethodDescriptor y.desc = some ⟨ps, rt⟩) (hlen : argsL.length = ps.length) (hsz : Ls.size = maxL) (stk : List Value) (hst : stk = argsL.reverse ++ .ref a :: st) (hW : (st.map fun v => v.category).sum ≤ W') (d : Dc bytes pc (.invokevirtual index) 3 pc') (hc : cells + k ≤ R.cells) (hs : slots + n ≤ R.slots)
    (K : ∀ T' h' v, Q v h' → St p l e R s m A below meth c Z T' h' (cells + k) (slots + n) → Goes p e below W T' (mkF m pc' Ls (v.toList ++ st))) : Goes p e below W T (mkF m pc Ls stk) := by
  obtain ⟨d, rfl⟩ := d
  obtain ⟨L0, Y, eT, N, E⟩ := X
  obtain ⟨cq, kq, qa, qb, qc⟩ := isOf C.hZ eT Ex
  obtain ⟨v, vm₁, B, -, Y', ⟨L, ⟨N', E', hQ⟩, hB⟩, q⟩ := Y.virtualBack C.hx (y := y) (z := z) C.hown (mvT C.hZ w1) (mvT C.hZ w2) nf (mvT C.hZ w3) (mvT C.hZ w4) hy hK qa qc (g := mkF m pc Ls stk) rfl (hsz.trans C.hml.symm) (Steps.refl _) (argsL := argsL) (rest := st) (lenOf pd hlen) hst (by show 2 * 0 + _ ≤ _; omega) (hb C.hby d) (fun _ _ => ⟨rfl, eT, hc, hs⟩)
  exact Goes.via (fun _ k => q.trans k) (K _ _ v hQ (st_back (T' := T) (h' := h) Y' hB N N' E'))
theorem nf_of {K0 : String} {y z : MethodName} (C : Cx p s m meth c Z own nm bytes maxL ret) (w3 : (Jvm.Cond.selects K0 y z).before a0 Z = true) (e : K0 = y.cls) (e' : z = y) : NotFace s y := by
  subst e e'; exact notFace_of_selects (args := #[]) (mvT C.hZ w3)
theorem g_interface {index count k n : Nat} {y z : MethodName} {K0 : String} {W' : Nat} {argsL : List Value} {Q : Option Value → Heap → Prop} {ps : List FieldType} {rt : Option FieldType} {a : Addr} (C : Cx p s m meth c Z own nm bytes maxL ret) (X : St p l e R s m A below meth c Z T h cells slots)
    (w1 : (Jvm.Cond.methodLink own index y).before a0 Z = true) (w2 : (Jvm.Cond.declares y).before a0 Z = true) (w5 : (Jvm.Cond.interfaceMethod y.cls y.cls y.name y.desc).before A s = true) (w3 : (Jvm.Cond.selects K0 y z).before a0 Z = true) (w4 : (Jvm.Cond.instanceMethod z).before a0 Z = true) (w6 : (Jvm.Cond.publicMethod z).before a0 Z = true) (w7 : (Jvm.Cond.unhidden K0 y.name y.desc).before A s = true) (w8 : (Jvm.Cond.castable K0 y.cls).before a0 Z = true)
    (hy : y.cls ≠ "java/lang/invoke/MethodHandle" ∧ y.cls ≠ "java/lang/invoke/VarHandle") (Ex : Exa Z h a K0)
    (hK : Pay l R p e below s A z 5 W' k n Z (.ref a :: argsL).toArray h Q) (pd : parseMethodDescriptor y.desc = some ⟨ps, rt⟩) (hlen : argsL.length = ps.length) (hsz : Ls.size = maxL) (stk : List Value) (hst : stk = argsL.reverse ++ .ref a :: st) (hW : (st.map fun v => v.category).sum ≤ W') (d : Dc bytes pc (.invokeinterface index count) 5 pc') (hc : cells + k ≤ R.cells) (hs : slots + n ≤ R.slots)
    (K : ∀ T' h' v, Q v h' → St p l e R s m A below meth c Z T' h' (cells + k) (slots + n) → Goes p e below W T' (mkF m pc' Ls (v.toList ++ st))) : Goes p e below W T (mkF m pc Ls stk) := by
  obtain ⟨d, rfl⟩ := d
  obtain ⟨L0, Y, eT, N, E⟩ := X
  obtain ⟨cq, kq, qa, qb, qc⟩ := isOf C.hZ eT Ex
  obtain ⟨v, vm₁, B, -, Y', ⟨L, ⟨N', E', hQ⟩, hB⟩, q⟩ := Y.interfaceBack C.hx (xi := y) (y := z) C.hown (mvT C.hZ w1) (mvT C.hZ w2) w5 (mvT C.hZ w3) (mvT C.hZ w4) (mvT C.hZ w6) w7 (mvT C.hZ w8) hy hK qa qb qc (g := mkF m pc Ls stk) rfl (hsz.trans C.hml.symm) (Steps.refl _) (argsL := argsL) (rest := st) (lenOf pd hlen) hst (by show 2 * 0 + _ ≤ _; omega) (hb C.hby d) (fun _ _ => ⟨rfl, eT, hc, hs⟩)
  exact Goes.via (fun _ k => q.trans k) (K _ _ v hQ (st_back (T' := T) (h' := h) Y' hB N N' E'))
theorem g_staticP {index : Nat} {y : MethodName} {bytes' : ByteArray} {maxL' W' : Nat} {ret' : Option FieldType} {argsL : List Value} {v : Option Value} {ps : List FieldType} {rt : Option FieldType} (C : Cx p s m meth c Z own nm bytes maxL ret) (X : St p l e R s m A below meth c Z T h cells slots)
    (w1 : (Jvm.Cond.methodLink own index y).before a0 Z = true) (w2 : (Jvm.Cond.static y).before a0 Z = true) (w3 : (Jvm.Cond.initialized y.cls).before a0 Z = true) (w4 : (Jvm.Cond.code y bytes' maxL' ret').before a0 Z = true) (hy : y.cls ≠ "java/lang/invoke/MethodHandle" ∧ y.cls ≠ "java/lang/invoke/VarHandle")
    (hK : Pay l R p e below s A y 3 W' 0 0 Z argsL.toArray h (fun v' h' => v' = v ∧ h' = h)) (pd : parseMethodDescriptor y.desc = some ⟨ps, rt⟩) (hlen : argsL.length = ps.length) (hsz : Ls.size = maxL) (stk : List Value) (hst : stk = argsL.reverse ++ st) (hW : (st.map fun v => v.category).sum ≤ W') (d : Dc bytes pc (.invokestatic index) 3 pc') (hc : cells ≤ R.cells) (hs : slots ≤ R.slots)
    (K : ∀ T', St p l e R s m A below meth c Z T' h cells slots → Goes p e below W T' (mkF m pc' Ls (v.toList ++ st))) : Goes p e below W T (mkF m pc Ls stk) :=
  g_static C X w1 w2 w3 w4 hy hK pd hlen hsz stk hst hW d hc hs fun T' h' v' hQ X' => by obtain ⟨rfl, rfl⟩ := hQ; exact K T' X'
theorem g_specialP {index : Nat} {y : MethodName} {bytes' : ByteArray} {maxL' W' : Nat} {argsL : List Value} {v : Option Value} {ps : List FieldType} {rt : Option FieldType} {a : Addr} (C : Cx p s m meth c Z own nm bytes maxL ret) (X : St p l e R s m A below meth c Z T h cells slots) (hi : y.name = "<init>")
    (w1 : (Jvm.Cond.methodLink own index y).before a0 Z = true) (w2 : (Jvm.Cond.instanceMethod y).before a0 Z = true) (w4 : (Jvm.Cond.code y bytes' maxL' none).before a0 Z = true) (hy : y.cls ≠ "java/lang/invoke/MethodHandle" ∧ y.cls ≠ "java/lang/invoke/VarHandle")
    (hK : Pay l R p e below s A y 3 W' 0 0 Z (.ref a :: argsL).toArray h (fun v' h' => v' = v ∧ h' = h)) (pd : parseMethodDescriptor y.desc = some ⟨ps, rt⟩) (hlen : argsL.length = ps.length) (hsz : Ls.size = maxL) (stk : List Value) (hst : stk = argsL.reverse ++ .ref a :: st) (hW : (st.map fun v => v.category).sum ≤ W') (d : Dc bytes pc (.invokespecial index) 3 pc') (hc : cells ≤ R.cells) (hs : slots ≤ R.slots)
    (K : ∀ T', St p l e R s m A below meth c Z T' h cells slots → Goes p e below W T' (mkF m pc' Ls (v.toList ++ st))) : Goes p e below W T (mkF m pc Ls stk) :=
  g_special C X hi w1 w2 w4 hy hK pd hlen hsz stk hst hW d hc hs fun T' h' v' hQ X' => by obtain ⟨rfl, rfl⟩ := hQ; exact K T' X'
theorem g_virtualP {index : Nat} {y z : MethodName} {K0 : String} {W' : Nat} {argsL : List Value} {v : Option Value} {ps : List FieldType} {rt : Option FieldType} {a : Addr} (C : Cx p s m meth c Z own nm bytes maxL ret) (X : St p l e R s m A below meth c Z T h cells slots)
    (w1 : (Jvm.Cond.methodLink own index y).before a0 Z = true) (w2 : (Jvm.Cond.declares y).before a0 Z = true) (nf : NotFace s y) (w3 : (Jvm.Cond.selects K0 y z).before a0 Z = true) (w4 : (Jvm.Cond.instanceMethod z).before a0 Z = true) (hy : y.cls ≠ "java/lang/invoke/MethodHandle" ∧ y.cls ≠ "java/lang/invoke/VarHandle") (Ex : Exa Z h a K0)
    (hK : Pay l R p e below s A z 3 W' 0 0 Z (.ref a :: argsL).toArray h (fun v' h' => v' = v ∧ h' = h)) (pd : parseMethodDescriptor y.desc = some ⟨ps, rt⟩) (hlen : argsL.length = ps.length) (hsz : Ls.size = maxL) (stk : List Value) (hst : stk = argsL.reverse ++ .ref a :: st) (hW : (st.map fun v => v.category).sum ≤ W') (d : Dc bytes pc (.invokevirtual index) 3 pc') (hc : cells ≤ R.cells) (hs : slots ≤ R.slots)
    (K : ∀ T', St p l e R s m A below meth c Z T' h cells slots → Goes p e below W T' (mkF m pc' Ls (v.toList ++ st))) : Goes p e below W T (mkF m pc Ls stk) :=
  g_virtual C X w1 w2 nf w3 w4 hy Ex hK pd hlen hsz stk hst hW d hc hs fun T' h' v' hQ X' => by obtain ⟨rfl, rfl⟩ := hQ; exact K T' X'
theorem g_interfaceP {index count : Nat} {y z : MethodName} {K0 : String} {W' : Nat} {argsL : List Value} {v : Option Value} {ps : List FieldType} {rt : Option FieldType} {a : Addr} (C : Cx p s m meth c Z own nm bytes maxL ret) (X : St p l e R s m A below meth c Z T h cells slots)
    (w1 : (Jvm.Cond.methodLink own index y).before a0 Z = true) (w2 : (Jvm.Cond.declares y).before a0 Z = true) (w5 : (Jvm.Cond.interfaceMethod y.cls y.cls y.name y.desc).before A s = true) (w3 : (Jvm.Cond.selects K0 y z).before a0 Z = true) (w4 : (Jvm.Cond.instanceMethod z).before a0 Z = true) (w6 : (Jvm.Cond.publicMethod z).before a0 Z = true) (w7 : (Jvm.Cond.unhidden K0 y.name y.desc).before A s = true) (w8 : (Jvm.Cond.castable K0 y.cls).before a0 Z = true)
    (hy : y.cls ≠ "java/lang/invoke/MethodHandle" ∧ y.cls ≠ "java/lang/invoke/VarHandle") (Ex : Exa Z h a K0)
    (hK : Pay l R p e below s A z 5 W' 0 0 Z (.ref a :: argsL).toArray h (fun v' h' => v' = v ∧ h' = h)) (pd : parseMethodDescriptor y.desc = some ⟨ps, rt⟩) (hlen : argsL.length = ps.length) (hsz : Ls.size = maxL) (stk : List Value) (hst : stk = argsL.reverse ++ .ref a :: st) (hW : (st.map fun v => v.category).sum ≤ W') (d : Dc bytes pc (.invokeinterface index count) 5 pc') (hc : cells ≤ R.cells) (hs : slots ≤ R.slots)
    (K : ∀ T', St p l e R s m A below meth c Z T' h cells slots → Goes p e below W T' (mkF m pc' Ls (v.toList ++ st))) : Goes p e below W T (mkF m pc Ls stk) :=
  g_interface C X w1 w2 w5 w3 w4 w6 w7 w8 hy Ex hK pd hlen hsz stk hst hW d hc hs fun T' h' v' hQ X' => by obtain ⟨rfl, rfl⟩ := hQ; exact K T' X'
theorem g_initO {index : Nat} {a : Addr} (C : Cx p s m meth c Z own nm bytes maxL ret) (X : St p l e R s m A below meth c Z T h cells slots) (w1 : (Jvm.Cond.methodLink own index Lib.objectInit).before a0 Z = true) (w2 : (Jvm.Cond.instanceMethod Lib.objectInit).before a0 Z = true) (w3 : (Jvm.Cond.code Lib.objectInit ⟨#[0xb1]⟩ 1 none).before a0 Z = true) (hsz : Ls.size = maxL) (d : Dc bytes pc (.invokespecial index) 3 pc') (hf : 1 ≤ R.frames) (W' : Nat) (hW : (st.map fun v => v.category).sum ≤ W') (hl : W' + 12 ≤ R.locals)
    (K : ∀ T', St p l e R s m A below meth c Z T' h cells slots → Goes p e below W T' (mkF m pc' Ls st)) : Goes p e below W T (mkF m pc Ls (.ref a :: st)) := by
  obtain ⟨d, rfl⟩ := d
  obtain ⟨L0, Y, eT, N, E⟩ := X
  obtain ⟨T', Y', e', q⟩ := initO Y C.hx C.hZ C.hown w1 w2 w3 eT (g := mkF m pc Ls (.ref a :: st)) rfl (hsz.trans C.hml.symm) rfl (hb C.hby d) hf (W := W') (by show 2 * 0 + _ ≤ _; omega) hl
  exact Goes.via q (K T' ⟨L0, Y', e', N, E⟩)
theorem end_of {k n : Nat} {Q : Option Value → Heap → Prop} {v : Option Value} {L : List Loc} {fs : List Frame} (N : Fr Z.heap.size L) (E : Ext Z.heap T.heap) (hW : s.WarmedH (T.setFrames fs).vm) (hS : s.sameButNew ({ T.setFrames fs with vm := s.vm } : State) L cells slots) (hc : cells ≤ k) (hs : slots ≤ n) (hQ : Q v T.heap) : EndW Z s k n Q (.returned v) (T.setFrames fs) :=
  ⟨v, L, rfl, ⟨N, E, hQ⟩, ⟨_, rfl⟩, hW, hS.mono hc hs⟩
theorem g_retI {k n : Nat} {Q : Option Value → Heap → Prop} {z : Int32} (C : Cx p s m meth c Z own nm bytes maxL (some .int)) (X : St p l e R s m A below meth c Z T h cells slots) (d : Dc bytes pc .ireturn 1 pc') (hc : cells ≤ k) (hs : slots ≤ n) (hQ : Q (some (.int z)) h) : Goes p e below (EndW Z s k n Q) T (mkF m pc Ls (.int z :: st)) := by
  obtain ⟨L0, Y, rfl, N, E⟩ := X
  have hlk := C.hlk
  obtain ⟨fs, hr, hrun, hended, hW, hS⟩ := Y.leave (v := some (.int z)) (fun h => by rw [C.hret] at h; cases h) hlk
  exact ⟨_, _, retOut Y C.hx C.hret rfl (Or.inl ⟨rfl, Or.inl rfl, z, rfl⟩) (hb C.hby d.1) hr, hrun, hended, end_of N E hW hS hc hs hQ⟩
theorem g_retN {k n : Nat} {Q : Option Value → Heap → Prop} {z : Int32} {t : FieldType} (C : Cx p s m meth c Z own nm bytes maxL (some t)) (X : St p l e R s m A below meth c Z T h cells slots) (ht : t = .boolean ∨ t = .byte ∨ t = .char ∨ t = .short) (d : Dc bytes pc .ireturn 1 pc') (z' : Int32) (hz : nar t z = z') (hc : cells ≤ k) (hs : slots ≤ n) (hQ : Q (some (.int z')) h) : Goes p e below (EndW Z s k n Q) T (mkF m pc Ls (.int z :: st)) := by
  obtain ⟨L0, Y, rfl, N, E⟩ := X
  have hlk := C.hlk
  obtain ⟨fs, hr, hrun, hended, hW, hS⟩ := Y.leave (v := some (.int z')) (fun h => by rw [C.hret] at h; cases h) hlk
  rw [← hz] at hr
  exact ⟨_, _, retN Y C.hx C.hret ht (hb C.hby d.1) hr, hrun, hended, end_of N E hW hS hc hs hQ⟩
theorem g_retJ {k n : Nat} {Q : Option Value → Heap → Prop} {z : Int64} (C : Cx p s m meth c Z own nm bytes maxL (some .long)) (X : St p l e R s m A below meth c Z T h cells slots) (d : Dc bytes pc .lreturn 1 pc') (hc : cells ≤ k) (hs : slots ≤ n) (hQ : Q (some (.long z)) h) : Goes p e below (EndW Z s k n Q) T (mkF m pc Ls (.long z :: st)) := by
  obtain ⟨L0, Y, rfl, N, E⟩ := X
  have hlk := C.hlk
  obtain ⟨fs, hr, hrun, hended, hW, hS⟩ := Y.leave (v := some (.long z)) (fun h => by rw [C.hret] at h; cases h) hlk
  exact ⟨_, _, retOut Y C.hx C.hret rfl (Or.inr (Or.inl ⟨rfl, rfl, z, rfl⟩)) (hb C.hby d.1) hr, hrun, hended, end_of N E hW hS hc hs hQ⟩
theorem g_retA {k n : Nat} {Q : Option Value → Heap → Prop} {z : Value} {t : FieldType} (C : Cx p s m meth c Z own nm bytes maxL (some t)) (X : St p l e R s m A below meth c Z T h cells slots) (ht : t.isReference = true) (hz : z.isRef = true) (d : Dc bytes pc .areturn 1 pc') (hc : cells ≤ k) (hs : slots ≤ n) (hQ : Q (some z) h) : Goes p e below (EndW Z s k n Q) T (mkF m pc Ls (z :: st)) := by
  obtain ⟨L0, Y, rfl, N, E⟩ := X
  have hlk := C.hlk
  have hn : narrow t z = z := by cases t <;> first | rfl | (simp [FieldType.isReference] at ht; done) | (cases z <;> simp [Value.isRef] at hz <;> rfl)
  obtain ⟨fs, hr, hrun, hended, hW, hS⟩ := Y.leave (v := some z) (fun h => by rw [C.hret] at h; cases h) hlk
  exact ⟨_, _, retOut Y C.hx C.hret hn (Or.inr (Or.inr (Or.inr (Or.inr ⟨rfl, ht, hz⟩)))) (hb C.hby d.1) hr, hrun, hended, end_of N E hW hS hc hs hQ⟩
theorem g_retV {k n : Nat} {Q : Option Value → Heap → Prop} (C : Cx p s m meth c Z own nm bytes maxL none) (X : St p l e R s m A below meth c Z T h cells slots) (d : Dc bytes pc .return_ 1 pc') (hc : cells ≤ k) (hs : slots ≤ n) (hQ : Q none h) : Goes p e below (EndW Z s k n Q) T (mkF m pc Ls []) := by
  obtain ⟨L0, Y, rfl, N, E⟩ := X
  have hlk := C.hlk
  obtain ⟨fs, hr, hrun, hended, hW, hS⟩ := Y.leave (v := none) (fun _ => rfl) hlk
  exact ⟨_, _, Y.returnOut C.hx C.hret (hb C.hby d.1) hr, hrun, hended, end_of N E hW hS hc hs hQ⟩
end OwnKit
/-! from the case's words -/
theorem wd {a0 : Array Value} {Z : State} (hw : ∀ d ∈ tables_1, d.before a0 Z = true) (i : Nat) {d : Jvm.Cond} (h : tables_1[i]? = some d) : d.before a0 Z = true := hw d (List.mem_of_getElem? h)
theorem eqI_v {args : Array Value} {first s : State} {o : Option Outcome} {idx : List Nat} {t : Term} {k : Int32} (h : (Jvm.Cond.eq t (.int k)).value args first o s idx = some true) : t.eval args first o idx s = some (.int k) := by
  simp only [Cond.value, Term.eval] at h
  cases ht : t.eval args first o idx s with
  | none => simp [ht] at h
  | some x => cases x <;> simp [ht] at h ⊢; exact h
theorem eqJ_v {args : Array Value} {first s : State} {o : Option Outcome} {idx : List Nat} {t : Term} {k : Int64} (h : (Jvm.Cond.eq t (.long k)).value args first o s idx = some true) : t.eval args first o idx s = some (.long k) := by
  simp only [Cond.value, Term.eval] at h
  cases ht : t.eval args first o idx s with
  | none => simp [ht] at h
  | some x => cases x <;> simp [ht] at h ⊢; exact h
theorem eqR_v {args : Array Value} {first s : State} {o : Option Outcome} {idx : List Nat} {t u : Term} {a : Addr} (h : (Jvm.Cond.eq t u).value args first o s idx = some true) (hu : u.eval args first o idx s = some (.ref a)) : t.eval args first o idx s = some (.ref a) := by
  simp only [Cond.value, hu] at h
  cases ht : t.eval args first o idx s with
  | none => simp [ht] at h
  | some x => cases x <;> simp [ht] at h ⊢; exact h
theorem arr_start {args : Array Value} {Z : State} {t : Term} {a : Addr} {cl : Cell} {ty : FieldType} {n : Int32} {vs : List Value} (dv : Value) (hf : Fit Z) (A : Arr Z Z.heap a cl ty) (ev : t.eval args Z none [] Z = some (.ref a)) (hl : (Term.length t).eval args Z none [] Z = some (.int n)) (hn : ¬ n < 0) (hv : n.toNatClampNeg = vs.length)
    (H : HasL cl 0 vs) : Arv Z Z.heap a cl.cls ty n vs dv := by
  obtain ⟨a', c', e1, e2, e4⟩ := Term.length_spec hl
  cases ev.symm.trans e1
  cases A.1.symm.trans (State.arrayAt?_spec e2).1
  have e3 : cl.slots.size < 2 ^ 31 := by
    by_cases q : cl.slots.size < 2147483648
    · exact q
    · exfalso; simp [Term.eval, ev, e2, q] at hl
  exact Arv.start hf A e3 (Value.int.inj e4.symm) hn hv H
theorem elem_start {args : Array Value} {Z : State} {t : Term} {a : Addr} {cl : Cell} {ty : FieldType} {j : Int32} {v : Value} (A : Arr Z Z.heap a cl ty) (ev : t.eval args Z none [] Z = some (.ref a)) (h : (Term.elem t (.int j)).eval args Z none [] Z = some v) : cl.slots[j.toNatClampNeg]? = some v := (elem_in h ev (Term.int_eval j) A.1).2
theorem own_ch (x : Int32) : Value.int (nar .char ((x &&& (255 : Int32)).toUInt32.toUInt16.toUInt32.toInt32)) = .int (x &&& (255 : Int32)) := by
  show Value.int (((x &&& (255 : Int32)).toUInt32.toUInt16.toUInt32.toInt32).toUInt32.toUInt16.toUInt32.toInt32) = _
  rw [i2c_mask, i2c_mask]
theorem nz_v {args : Array Value} {Z : State} {t : Term} {z : Int32} (ev : t.eval args Z none [] Z = some (.int z)) (h : (Jvm.Cond.not (.eq t (.int 0))).value args Z none Z [] = some true) : ¬ z = 0 := by
  intro e; subst e
  have q := not_v h
  simp [Cond.value, ev, Term.eval] at q
theorem fld_of {args : Array Value} {Z : State} {t : Term} {a : Addr} {C n d : String} {v : Value} (ht : t.eval args Z none [] Z = some (.ref a)) (h : (Term.field t C n d).eval args Z none [] Z = some v) : Fld Z Z.heap a C n d v := Fld.start (by rw [← fld_at (args := args) (first := Z) (o := none) (idx := []) ht]; exact h)
theorem own_get (bs : List Int32) (j : Nat) : (bs.map Value.int).getD j (.int 0) = .int (bs.getD j 0) := by
  induction bs generalizing j with
  | nil => rfl
  | cons b t ih => cases j with
    | zero => rfl
    | succ j => exact ih j
def tagF (m : Int32) : Int32 := ([49, 48, 61] : List Int32).getD m.toNatClampNeg 0
def mtF (m b : Int32) : Int32 := if b = 1 then 0 else if m < 0 then m else if m < 3 then (if b = tagF m then m + 1 else -1) else m
theorem own_tag (m : Int32) : ([.int 49, .int 48, .int 61] : List Value).getD m.toNatClampNeg (.int 0) = .int (tagF m) := own_get [49, 48, 61] _
def e138 (len ok : Int32) : Int32 := if ok = 0 then -1 else if 3 < len then 3 else len
def e119 (bs : List Int32) (f len ok : Int32) : Int32 := e138 len (if len < 3 then ok else if bs.getD (f + 2).toNatClampNeg 0 = 61 then ok else 0)
def e100 (bs : List Int32) (f len ok : Int32) : Int32 := e119 bs f len (if len < 2 then ok else if bs.getD (f + 1).toNatClampNeg 0 = 48 then ok else 0)
def e71 (n : Int32) (bs : List Int32) (l : Int32) : Int32 := e100 bs (l + 1) (n - (l + 1)) (if n - (l + 1) < 1 then 1 else if bs.getD (l + 1).toNatClampNeg 0 = 49 then 1 else 0)
def e57 (n : Int32) (bs : List Int32) (l : Int32) : Int32 := e71 n bs (if 4 < n then (if bs.getD 4 0 = 1 then 4 else l) else l)
def e43 (n : Int32) (bs : List Int32) (l : Int32) : Int32 := e57 n bs (if 3 < n then (if bs.getD 3 0 = 1 then 3 else l) else l)
def e29 (n : Int32) (bs : List Int32) (l : Int32) : Int32 := e43 n bs (if 2 < n then (if bs.getD 2 0 = 1 then 2 else l) else l)
def e15 (n : Int32) (bs : List Int32) (l : Int32) : Int32 := e29 n bs (if 1 < n then (if bs.getD 1 0 = 1 then 1 else l) else l)
def eF (n : Int32) (bs : List Int32) : Int32 := e15 n bs (if 0 < n then (if bs.getD 0 0 = 1 then 0 else -1) else -1)
theorem pn_0 : plainName "com/example/halyard/halyard/fix/FixMessageMatchCheckSumTagPinLaw" = true := by first | (simp [plainName, overriddenIn]; done) | decide +kernel
theorem ef_rm1 (m : MethodId) (p0 : Int32) : entryFrame m #[(.int p0)] 2 = mkF m 0 #[.val (.int p0), .unset] [] := by first | (simp [entryFrame, mkF, argsToLocals, Value.category]; done) | rfl
theorem d1_0 : Dc method_2_code 0 (.iload_n 0) 1 1 := ⟨by decide +kernel, rfl⟩
theorem d1_1 : Dc method_2_code 1 (.bipush 7) 2 3 := ⟨by decide +kernel, rfl⟩
theorem d1_3 : Dc method_2_code 3 (.iand) 1 4 := ⟨by decide +kernel, rfl⟩
theorem d1_4 : Dc method_2_code 4 (.istore_n 1) 1 5 := ⟨by decide +kernel, rfl⟩
theorem d1_5 : Dc method_2_code 5 (.iload_n 1) 1 6 := ⟨by decide +kernel, rfl⟩
theorem d1_6 : Dj method_2_code 6 (.ifCond .ne 5) 5 3 9 11 := ⟨by decide +kernel, rfl, by decide, by decide⟩
theorem d1_11 : Dc method_2_code 11 (.iload_n 1) 1 12 := ⟨by decide +kernel, rfl⟩
theorem d1_12 : Dc method_2_code 12 (.iconst 1) 1 13 := ⟨by decide +kernel, rfl⟩
theorem d1_13 : Dj method_2_code 13 (.if_icmp .ne 6) 6 3 16 19 := ⟨by decide +kernel, rfl, by decide, by decide⟩
theorem d1_19 : Dc method_2_code 19 (.iload_n 1) 1 20 := ⟨by decide +kernel, rfl⟩
theorem d1_20 : Dc method_2_code 20 (.iconst 2) 1 21 := ⟨by decide +kernel, rfl⟩
theorem d1_21 : Dj method_2_code 21 (.if_icmp .ne 6) 6 3 24 27 := ⟨by decide +kernel, rfl, by decide, by decide⟩
theorem d1_27 : Dc method_2_code 27 (.iload_n 1) 1 28 := ⟨by decide +kernel, rfl⟩
theorem d1_28 : Dc method_2_code 28 (.iconst 3) 1 29 := ⟨by decide +kernel, rfl⟩
theorem d1_29 : Dj method_2_code 29 (.if_icmp .ne 6) 6 3 32 35 := ⟨by decide +kernel, rfl, by decide, by decide⟩
theorem d1_35 : Dc method_2_code 35 (.iload_n 0) 1 36 := ⟨by decide +kernel, rfl⟩
theorem d1_36 : Dc method_2_code 36 (.iconst 3) 1 37 := ⟨by decide +kernel, rfl⟩
theorem d1_37 : Dc method_2_code 37 (.ishr) 1 38 := ⟨by decide +kernel, rfl⟩
theorem d1_38 : Dc method_2_code 38 (.i2b) 1 39 := ⟨by decide +kernel, rfl⟩
theorem d1_39 : Dc method_2_code 39 (.ireturn) 1 40 := ⟨by decide +kernel, rfl⟩
theorem d1_32 : Dc method_2_code 32 (.bipush 61) 2 34 := ⟨by decide +kernel, rfl⟩
theorem d1_34 : Dc method_2_code 34 (.ireturn) 1 35 := ⟨by decide +kernel, rfl⟩
theorem d1_24 : Dc method_2_code 24 (.bipush 48) 2 26 := ⟨by decide +kernel, rfl⟩
theorem d1_26 : Dc method_2_code 26 (.ireturn) 1 27 := ⟨by decide +kernel, rfl⟩
theorem d1_16 : Dc method_2_code 16 (.bipush 49) 2 18 := ⟨by decide +kernel, rfl⟩
theorem d1_18 : Dc method_2_code 18 (.ireturn) 1 19 := ⟨by decide +kernel, rfl⟩
theorem d1_9 : Dc method_2_code 9 (.iconst 1) 1 10 := ⟨by decide +kernel, rfl⟩
theorem d1_10 : Dc method_2_code 10 (.ireturn) 1 11 := ⟨by decide +kernel, rfl⟩
set_option maxRecDepth 65536 in
set_option maxHeartbeats 40000000 in
theorem rm1 (l : Launch) {Z : State} {a0 : Array Value} (hw : ∀ d ∈ tables_1, d.before a0 Z = true) {h : Heap} (hE : Ext Z.heap h) (p0 : Int32)   :
    Con l (⟨"com/example/halyard/halyard/fix/FixMessageMatchCheckSumTagPinLaw", "pick", "(I)B"⟩ : MethodName) method_2_code 2 (some .byte) [] ({ frames := 0, cells := 0, slots := 0, locals := 0 } : Room) Z #[(.int p0)] h (fun v' h' => ∃ b : Int32, v' = some (.int b) ∧ h' = h) := by
  refine con_of (plainFor_of_name pn_0) hE (fun m => ef_rm1 m p0) ?_
  intro p e s m below meth c T0 C X0
  have C : Cx p s m meth c Z "com/example/halyard/halyard/fix/FixMessageMatchCheckSumTagPinLaw" "pick" method_2_code 2 (some .byte) := C
  show Goes p e below _ T0 (mkF m 0 #[.val (.int p0), .unset] [])
  refine g_iloadN C X0 d1_0 rfl ?_
  refine g_bipush (7 : Int32) C X0 d1_1 rfl ?_
  refine g_iand C X0 d1_3 ?_
  refine g_istoreN C X0 d1_4 (l' := #[.val (.int p0), .val (.int (p0 &&& (7 : Int32)))]) rfl ?_
  refine g_iloadN C X0 d1_5 rfl ?_
  refine g_ifn (h0_ne _) C X0 d1_6 (fun c6_1 => ?_) (fun c6_1 => ?_)
  · refine g_iloadN C X0 d1_11 rfl ?_
    refine g_iconst (1 : Int32) C X0 d1_12 rfl ?_
    refine g_icmpn (hI_ne _ _) C X0 d1_13 (fun c13_2 => ?_) (fun c13_2 => ?_)
    · refine g_iloadN C X0 d1_19 rfl ?_
      refine g_iconst (2 : Int32) C X0 d1_20 rfl ?_
      refine g_icmpn (hI_ne _ _) C X0 d1_21 (fun c21_3 => ?_) (fun c21_3 => ?_)
      · refine g_iloadN C X0 d1_27 rfl ?_
        refine g_iconst (3 : Int32) C X0 d1_28 rfl ?_
        refine g_icmpn (hI_ne _ _) C X0 d1_29 (fun c29_4 => ?_) (fun c29_4 => ?_)
        · refine g_iloadN C X0 d1_35 rfl ?_
          refine g_iconst (3 : Int32) C X0 d1_36 rfl ?_
          refine g_ishr C X0 d1_37 ?_
          refine g_i2b C X0 d1_38 ?_
          exact g_retN C X0 (by simp) d1_39 _ rfl (by decide) (by decide) ⟨_, rfl, rfl⟩
        · refine g_bipush (61 : Int32) C X0 d1_32 rfl ?_
          exact g_retN C X0 (by simp) d1_34 (61 : Int32) rfl (by decide) (by decide) ⟨_, rfl, rfl⟩
      · refine g_bipush (48 : Int32) C X0 d1_24 rfl ?_
        exact g_retN C X0 (by simp) d1_26 (48 : Int32) rfl (by decide) (by decide) ⟨_, rfl, rfl⟩
    · refine g_bipush (49 : Int32) C X0 d1_16 rfl ?_
      exact g_retN C X0 (by simp) d1_18 (49 : Int32) rfl (by decide) (by decide) ⟨_, rfl, rfl⟩
  · refine g_iconst (1 : Int32) C X0 d1_9 rfl ?_
    exact g_retN C X0 (by simp) d1_10 (1 : Int32) rfl (by decide) (by decide) ⟨_, rfl, rfl⟩
theorem pn_1 : plainName "com/example/halyard/halyard/fix/FixMessage" = true := by first | (simp [plainName, overriddenIn]; done) | decide +kernel
theorem ef_rm2 (m : MethodId) (mm : Int32) (bb : Int32) : entryFrame m #[(.int mm), (.int bb)] 3 = mkF m 0 #[.val (.int mm), .val (.int bb), .unset] [] := by first | (simp [entryFrame, mkF, argsToLocals, Value.category]; done) | rfl
theorem d2_0 : Dc prog_27_method_8_code 0 (.iload_n 0) 1 1 := ⟨by decide +kernel, rfl⟩
theorem d2_1 : Dc prog_27_method_8_code 1 (.istore_n 2) 1 2 := ⟨by decide +kernel, rfl⟩
theorem d2_2 : Dc prog_27_method_8_code 2 (.iload_n 1) 1 3 := ⟨by decide +kernel, rfl⟩
theorem d2_3 : Dc prog_27_method_8_code 3 (.iconst 1) 1 4 := ⟨by decide +kernel, rfl⟩
theorem d2_4 : Dj prog_27_method_8_code 4 (.if_icmp .ne 8) 8 3 7 12 := ⟨by decide +kernel, rfl, by decide, by decide⟩
theorem d2_12 : Dc prog_27_method_8_code 12 (.iload_n 0) 1 13 := ⟨by decide +kernel, rfl⟩
theorem d2_13 : Dj prog_27_method_8_code 13 (.ifCond .lt 28) 28 3 16 41 := ⟨by decide +kernel, rfl, by decide, by decide⟩
theorem d2_41 : Dc prog_27_method_8_code 41 (.iload_n 2) 1 42 := ⟨by decide +kernel, rfl⟩
theorem d2_42 : Dc prog_27_method_8_code 42 (.ireturn) 1 43 := ⟨by decide +kernel, rfl⟩
theorem d2_16 : Dc prog_27_method_8_code 16 (.iload_n 0) 1 17 := ⟨by decide +kernel, rfl⟩
theorem d2_17 : Dc prog_27_method_8_code 17 (.getstatic 90) 3 20 := ⟨by decide +kernel, rfl⟩
theorem d2_20 : Dc prog_27_method_8_code 20 (.arraylength) 1 21 := ⟨by decide +kernel, rfl⟩
theorem d2_21 : Dj prog_27_method_8_code 21 (.if_icmp .ge 20) 20 3 24 41 := ⟨by decide +kernel, rfl, by decide, by decide⟩
theorem d2_24 : Dc prog_27_method_8_code 24 (.iload_n 1) 1 25 := ⟨by decide +kernel, rfl⟩
theorem d2_25 : Dc prog_27_method_8_code 25 (.getstatic 90) 3 28 := ⟨by decide +kernel, rfl⟩
theorem d2_28 : Dc prog_27_method_8_code 28 (.iload_n 0) 1 29 := ⟨by decide +kernel, rfl⟩
theorem d2_29 : Dc prog_27_method_8_code 29 (.baload) 1 30 := ⟨by decide +kernel, rfl⟩
theorem d2_30 : Dj prog_27_method_8_code 30 (.if_icmp .ne 9) 9 3 33 39 := ⟨by decide +kernel, rfl, by decide, by decide⟩
theorem d2_39 : Dc prog_27_method_8_code 39 (.iconst (-1)) 1 40 := ⟨by decide +kernel, rfl⟩
theorem d2_40 : Dc prog_27_method_8_code 40 (.istore_n 2) 1 41 := ⟨by decide +kernel, rfl⟩
theorem d2_33 : Dc prog_27_method_8_code 33 (.iload_n 0) 1 34 := ⟨by decide +kernel, rfl⟩
theorem d2_34 : Dc prog_27_method_8_code 34 (.iconst 1) 1 35 := ⟨by decide +kernel, rfl⟩
theorem d2_35 : Dc prog_27_method_8_code 35 (.iadd) 1 36 := ⟨by decide +kernel, rfl⟩
theorem d2_36 : Dj prog_27_method_8_code 36 (.goto 4) 4 3 39 40 := ⟨by decide +kernel, rfl, by decide, by decide⟩
theorem d2_7 : Dc prog_27_method_8_code 7 (.iconst 0) 1 8 := ⟨by decide +kernel, rfl⟩
theorem d2_8 : Dc prog_27_method_8_code 8 (.istore_n 2) 1 9 := ⟨by decide +kernel, rfl⟩
theorem d2_9 : Dj prog_27_method_8_code 9 (.goto 32) 32 3 12 41 := ⟨by decide +kernel, rfl, by decide, by decide⟩
set_option maxRecDepth 65536 in
set_option maxHeartbeats 40000000 in
theorem rm2 (l : Launch) {Z : State} {a0 : Array Value} (hw : ∀ d ∈ tables_1, d.before a0 Z = true) {h : Heap} (hE : Ext Z.heap h) (mm : Int32) (bb : Int32) (tg : Addr) (kt : ClassId) (hS : Sta Z Z.heap "com/example/halyard/halyard/fix/FixMessage" "CHECK_SUM_TAG" "[B" (.ref tg)) (hV : Arv Z Z.heap tg kt .byte 3 [.int 49, .int 48, .int 61] (.int 0)) :
    Con l (⟨"com/example/halyard/halyard/fix/FixMessage", "matchCheckSumTag", "(IB)I"⟩ : MethodName) prog_27_method_8_code 3 (some .int) [] ({ frames := 0, cells := 0, slots := 0, locals := 0 } : Room) Z #[(.int mm), (.int bb)] h (fun v' h' => v' = some (.int (mtF mm bb)) ∧ h' = h) := by
  refine con_of (plainFor_of_name pn_1) hE (fun m => ef_rm2 m mm bb) ?_
  intro p e s m below meth c T0 C X0
  have C : Cx p s m meth c Z "com/example/halyard/halyard/fix/FixMessage" "matchCheckSumTag" prog_27_method_8_code 3 (some .int) := C
  show Goes p e below _ T0 (mkF m 0 #[.val (.int mm), .val (.int bb), .unset] [])
  refine g_iloadN C X0 d2_0 rfl ?_
  refine g_istoreN C X0 d2_1 (l' := #[.val (.int mm), .val (.int bb), .val (.int mm)]) rfl ?_
  refine g_iloadN C X0 d2_2 rfl ?_
  refine g_iconst (1 : Int32) C X0 d2_3 rfl ?_
  refine g_icmpn (hI_ne _ _) C X0 d2_4 (fun c4_5 => ?_) (fun c4_5 => ?_)
  · refine g_iloadN C X0 d2_12 rfl ?_
    refine g_if (h0_lt _) C X0 d2_13 (fun c13_6 => ?_) (fun c13_6 => ?_)
    · refine g_iloadN C X0 d2_41 rfl ?_
      exact g_retI C X0 d2_42 (by decide) (by decide) ⟨by unfold mtF; rw [if_neg c4_5, if_pos c13_6], rfl⟩
    · refine g_iloadN C X0 d2_16 rfl ?_
      refine g_getstatic (host := "") C X0 (Or.inl (wd hw 16 rfl)) Via.refl hS d2_17 (fun T7 X7 => ?_)
      refine g_arraylength C X7 (Arv.ext hV X7.ext) d2_20 ?_
      refine g_icmpn (hI_ge _ _) C X7 d2_21 (fun c21_8 => ?_) (fun c21_8 => ?_)
      · refine g_iloadN C X7 d2_41 rfl ?_
        exact g_retI C X7 d2_42 (by decide) (by decide) ⟨by unfold mtF; rw [if_neg c4_5, if_neg c13_6, if_neg c21_8], rfl⟩
      · refine g_iloadN C X7 d2_24 rfl ?_
        refine g_getstatic (host := "") C X7 (Or.inl (wd hw 16 rfl)) Via.refl hS d2_25 (fun T9 X9 => ?_)
        refine g_iloadN C X9 d2_28 rfl ?_
        refine g_baload C X9 (Arv.ext hV X9.ext) d2_29 c13_6 c21_8 (own_tag mm) ?_
        refine g_icmpn (hI_ne _ _) C X9 d2_30 (fun c30_10 => ?_) (fun c30_10 => ?_)
        · refine g_iconst (-1 : Int32) C X9 d2_39 rfl ?_
          refine g_istoreN C X9 d2_40 (l' := #[.val (.int mm), .val (.int bb), .val (.int (-1 : Int32))]) rfl ?_
          refine g_iloadN C X9 d2_41 rfl ?_
          exact g_retI C X9 d2_42 (by decide) (by decide) ⟨by unfold mtF; rw [if_neg c4_5, if_neg c13_6, if_pos c21_8, if_neg c30_10], rfl⟩
        · refine g_iloadN C X9 d2_33 rfl ?_
          refine g_iconst (1 : Int32) C X9 d2_34 rfl ?_
          refine g_iadd C X9 d2_35 ?_
          refine g_goto C X9 d2_36 ?_
          refine g_istoreN C X9 d2_40 (l' := #[.val (.int mm), .val (.int bb), .val (.int (mm + (1 : Int32)))]) rfl ?_
          refine g_iloadN C X9 d2_41 rfl ?_
          exact g_retI C X9 d2_42 (by decide) (by decide) ⟨by unfold mtF; rw [if_neg c4_5, if_neg c13_6, if_pos c21_8, if_pos c30_10], rfl⟩
  · refine g_iconst (0 : Int32) C X0 d2_7 rfl ?_
    refine g_istoreN C X0 d2_8 (l' := #[.val (.int mm), .val (.int bb), .val (.int (0 : Int32))]) rfl ?_
    refine g_goto C X0 d2_9 ?_
    refine g_iloadN C X0 d2_41 rfl ?_
    exact g_retI C X0 d2_42 (by decide) (by decide) ⟨by unfold mtF; rw [if_pos c4_5], rfl⟩
theorem ef_rm4 (m : MethodId) (x : Int32) (y : Int32) : entryFrame m #[(.int x), (.int y)] 2 = mkF m 0 #[.val (.int x), .val (.int y)] [] := by first | (simp [entryFrame, mkF, argsToLocals, Value.category]; done) | rfl
theorem d4_0 : Dc jdk_29_method_69_code 0 (.iload_n 0) 1 1 := ⟨by decide +kernel, rfl⟩
theorem d4_1 : Dc jdk_29_method_69_code 1 (.iload_n 1) 1 2 := ⟨by decide +kernel, rfl⟩
theorem d4_2 : Dj jdk_29_method_69_code 2 (.if_icmp .gt 7) 7 3 5 9 := ⟨by decide +kernel, rfl, by decide, by decide⟩
theorem d4_9 : Dc jdk_29_method_69_code 9 (.iload_n 1) 1 10 := ⟨by decide +kernel, rfl⟩
theorem d4_10 : Dc jdk_29_method_69_code 10 (.ireturn) 1 11 := ⟨by decide +kernel, rfl⟩
theorem d4_5 : Dc jdk_29_method_69_code 5 (.iload_n 0) 1 6 := ⟨by decide +kernel, rfl⟩
theorem d4_6 : Dj jdk_29_method_69_code 6 (.goto 4) 4 3 9 10 := ⟨by decide +kernel, rfl, by decide, by decide⟩
set_option maxRecDepth 65536 in
set_option maxHeartbeats 40000000 in
theorem rm4 (l : Launch) {Z : State} {a0 : Array Value} (hw : ∀ d ∈ tables_1, d.before a0 Z = true) {h : Heap} (hE : Ext Z.heap h) (x : Int32) (y : Int32)   :
    Con l (⟨"java/lang/Math", "min", "(II)I"⟩ : MethodName) jdk_29_method_69_code 2 (some .int) [] ({ frames := 0, cells := 0, slots := 0, locals := 0 } : Room) Z #[(.int x), (.int y)] h (fun v' h' => v' = some (.int (if y < x then y else x)) ∧ h' = h) := by
  refine con_of (Jvm.Free.JP.mathPlain rfl (by decide +kernel)) hE (fun m => ef_rm4 m x y) ?_
  intro p e s m below meth c T0 C X0
  have C : Cx p s m meth c Z "java/lang/Math" "min" jdk_29_method_69_code 2 (some .int) := C
  show Goes p e below _ T0 (mkF m 0 #[.val (.int x), .val (.int y)] [])
  refine g_iloadN C X0 d4_0 rfl ?_
  refine g_iloadN C X0 d4_1 rfl ?_
  refine g_icmp (hI_gt _ _) C X0 d4_2 (fun c2_11 => ?_) (fun c2_11 => ?_)
  · refine g_iloadN C X0 d4_9 rfl ?_
    exact g_retI C X0 d4_10 (by decide) (by decide) ⟨by simp [*], rfl⟩
  · refine g_iloadN C X0 d4_5 rfl ?_
    refine g_goto C X0 d4_6 ?_
    exact g_retI C X0 d4_10 (by decide) (by decide) ⟨by simp [*], rfl⟩
theorem d3_138 : Dc method_3_code 138 (.iload 5) 2 140 := ⟨by decide +kernel, rfl⟩
theorem d3_140 : Dj method_3_code 140 (.ifCond .eq 12) 12 3 143 152 := ⟨by decide +kernel, rfl, by decide, by decide⟩
theorem d3_152 : Dc method_3_code 152 (.iconst (-1)) 1 153 := ⟨by decide +kernel, rfl⟩
theorem d3_153 : Dc method_3_code 153 (.ireturn) 1 154 := ⟨by decide +kernel, rfl⟩
theorem d3_143 : Dc method_3_code 143 (.iload 4) 2 145 := ⟨by decide +kernel, rfl⟩
theorem d3_145 : Dc method_3_code 145 (.iconst 3) 1 146 := ⟨by decide +kernel, rfl⟩
theorem d3_146 : Dc method_3_code 146 (.invokestatic 7) 3 149 := ⟨by decide +kernel, rfl⟩
theorem pd_0 : parseMethodDescriptor "(II)I" = some ⟨[.int, .int], some .int⟩ := by decide +kernel
theorem d3_149 : Dj method_3_code 149 (.goto 4) 4 3 152 153 := ⟨by decide +kernel, rfl, by decide, by decide⟩
set_option maxRecDepth 65536 in
set_option maxHeartbeats 40000000 in
theorem s138 {p : Program} {l : Launch} {e : Env} {s : State} {m : MethodId} {A : Array Value} {below : List Frame} {meth : Method} {c : Code} {Z : State} {a0 : Array Value} (hw : ∀ d ∈ tables_1, d.before a0 Z = true) {T0 : State} {h : Heap} (a : Addr) (n la f le ok : Int32) (C : Cx p s m meth c Z "com/example/halyard/halyard/fix/FixMessageMatchCheckSumTagPinLaw" "expected" method_3_code 6 (some .int)) (X0 : St p l e ({ frames := 1, cells := 0, slots := 0, locals := 13 } : Room) s m A below meth c Z T0 h 0 0)  :
    Goes p e below (EndW Z s 0 0 (fun v' h' => v' = some (.int (e138 le ok)) ∧ h' = h)) T0 (mkF m 138 #[.val (.ref a), .val (.int n), .val (.int la), .val (.int f), .val (.int le), .val (.int ok)] []) := by
  refine g_iload C X0 d3_138 rfl ?_
  refine g_if (h0_eq _) C X0 d3_140 (fun c140_12 => ?_) (fun c140_12 => ?_)
  · refine g_iconst (-1 : Int32) C X0 d3_152 rfl ?_
    exact g_retI C X0 d3_153 (by decide) (by decide) ⟨by unfold e138; rw [if_pos c140_12], rfl⟩
  · refine g_iload C X0 d3_143 rfl ?_
    refine g_iconst (3 : Int32) C X0 d3_145 rfl ?_
    refine g_staticP (argsL := [(.int le), (.int (3 : Int32))]) (st := []) C X0 (wd hw 12 rfl) (wd hw 13 rfl) (wd hw 14 rfl) (wd hw 15 rfl) (by decide) (pay_of (W' := 0) (rm4 l hw X0.ext le (3 : Int32)) C.hZ (wd hw 15 rfl) (wd hw 14 rfl) (by decide) (by decide)) pd_0 rfl rfl _ rfl (Nat.le_of_eq rfl) d3_146 (by decide) (by decide) (fun T13 X13 => ?_)
    show Goes p e below _ T13 (mkF m 149 #[.val (.ref a), .val (.int n), .val (.int la), .val (.int f), .val (.int le), .val (.int ok)] [(.int (if (3 : Int32) < le then (3 : Int32) else le))])
    refine g_goto C X13 d3_149 ?_
    exact g_retI C X13 d3_153 (by decide) (by decide) ⟨by unfold e138; rw [if_neg c140_12], rfl⟩
theorem d3_119 : Dc method_3_code 119 (.iload 4) 2 121 := ⟨by decide +kernel, rfl⟩
theorem d3_121 : Dc method_3_code 121 (.iconst 3) 1 122 := ⟨by decide +kernel, rfl⟩
theorem d3_122 : Dj method_3_code 122 (.if_icmp .lt 16) 16 3 125 138 := ⟨by decide +kernel, rfl, by decide, by decide⟩
theorem d3_125 : Dc method_3_code 125 (.aload_n 0) 1 126 := ⟨by decide +kernel, rfl⟩
theorem d3_126 : Dc method_3_code 126 (.iload_n 3) 1 127 := ⟨by decide +kernel, rfl⟩
theorem d3_127 : Dc method_3_code 127 (.iconst 2) 1 128 := ⟨by decide +kernel, rfl⟩
theorem d3_128 : Dc method_3_code 128 (.iadd) 1 129 := ⟨by decide +kernel, rfl⟩
theorem d3_129 : Dc method_3_code 129 (.baload) 1 130 := ⟨by decide +kernel, rfl⟩
theorem d3_130 : Dc method_3_code 130 (.bipush 61) 2 132 := ⟨by decide +kernel, rfl⟩
theorem d3_132 : Dj method_3_code 132 (.if_icmp .eq 6) 6 3 135 138 := ⟨by decide +kernel, rfl, by decide, by decide⟩
theorem d3_135 : Dc method_3_code 135 (.iconst 0) 1 136 := ⟨by decide +kernel, rfl⟩
theorem d3_136 : Dc method_3_code 136 (.istore 5) 2 138 := ⟨by decide +kernel, rfl⟩
set_option maxRecDepth 65536 in
set_option maxHeartbeats 40000000 in
theorem s119 {p : Program} {l : Launch} {e : Env} {s : State} {m : MethodId} {A : Array Value} {below : List Frame} {meth : Method} {c : Code} {Z : State} {a0 : Array Value} (hw : ∀ d ∈ tables_1, d.before a0 Z = true) {T0 : State} {h : Heap} (a : Addr) (ka : ClassId) (n la f le ok : Int32) (bs : List Int32) (C : Cx p s m meth c Z "com/example/halyard/halyard/fix/FixMessageMatchCheckSumTagPinLaw" "expected" method_3_code 6 (some .int)) (X0 : St p l e ({ frames := 1, cells := 0, slots := 0, locals := 13 } : Room) s m A below meth c Z T0 h 0 0) (hV : Arv Z h a ka .byte 5 (bs.map Value.int) (.int 0))(hlf : le.toInt = n.toInt - f.toInt ∧ 0 ≤ f.toInt ∧ n.toInt ≤ 5) :
    Goes p e below (EndW Z s 0 0 (fun v' h' => v' = some (.int (e119 bs f le ok)) ∧ h' = h)) T0 (mkF m 119 #[.val (.ref a), .val (.int n), .val (.int la), .val (.int f), .val (.int le), .val (.int ok)] []) := by
  refine g_iload C X0 d3_119 rfl ?_
  refine g_iconst (3 : Int32) C X0 d3_121 rfl ?_
  refine g_icmp (hI_lt _ _) C X0 d3_122 (fun c122_14 => ?_) (fun c122_14 => ?_)
  · rw [show e119 bs f le ok = e138 le ok from by unfold e119; rw [if_pos c122_14]]
    exact s138 hw a n la f le ok C X0
  · have hj2 : ¬ (f + (2 : Int32)) < 0 ∧ (f + (2 : Int32)) < 5 := by
      have := c_iadd f (2 : Int32)
      have := rng32 (f + (2 : Int32))
      simp only [Int32.lt_iff_toInt_lt, Int32.reduceToInt] at *; omega
    obtain ⟨hj2_0, hj2_1⟩ := hj2
    refine g_aloadN C X0 d3_125 rfl rfl ?_
    refine g_iloadN C X0 d3_126 rfl ?_
    refine g_iconst (2 : Int32) C X0 d3_127 rfl ?_
    refine g_iadd C X0 d3_128 ?_
    refine g_baload C X0 hV d3_129 hj2_0 hj2_1 (own_get bs _) ?_
    refine g_bipush (61 : Int32) C X0 d3_130 rfl ?_
    refine g_icmp (hI_eq _ _) C X0 d3_132 (fun c132_15 => ?_) (fun c132_15 => ?_)
    · rw [show e119 bs f le ok = e138 le ok from by unfold e119; rw [if_neg c122_14, if_pos c132_15]]
      exact s138 hw a n la f le ok C X0
    · refine g_iconst (0 : Int32) C X0 d3_135 rfl ?_
      refine g_istore C X0 d3_136 (l' := #[.val (.ref a), .val (.int n), .val (.int la), .val (.int f), .val (.int le), .val (.int (0 : Int32))]) rfl ?_
      rw [show e119 bs f le ok = e138 le (0 : Int32) from by unfold e119; rw [if_neg c122_14, if_neg c132_15]]
      exact s138 hw a n la f le (0 : Int32) C X0
theorem d3_100 : Dc method_3_code 100 (.iload 4) 2 102 := ⟨by decide +kernel, rfl⟩
theorem d3_102 : Dc method_3_code 102 (.iconst 2) 1 103 := ⟨by decide +kernel, rfl⟩
theorem d3_103 : Dj method_3_code 103 (.if_icmp .lt 16) 16 3 106 119 := ⟨by decide +kernel, rfl, by decide, by decide⟩
theorem d3_106 : Dc method_3_code 106 (.aload_n 0) 1 107 := ⟨by decide +kernel, rfl⟩
theorem d3_107 : Dc method_3_code 107 (.iload_n 3) 1 108 := ⟨by decide +kernel, rfl⟩
theorem d3_108 : Dc method_3_code 108 (.iconst 1) 1 109 := ⟨by decide +kernel, rfl⟩
theorem d3_109 : Dc method_3_code 109 (.iadd) 1 110 := ⟨by decide +kernel, rfl⟩
theorem d3_110 : Dc method_3_code 110 (.baload) 1 111 := ⟨by decide +kernel, rfl⟩
theorem d3_111 : Dc method_3_code 111 (.bipush 48) 2 113 := ⟨by decide +kernel, rfl⟩
theorem d3_113 : Dj method_3_code 113 (.if_icmp .eq 6) 6 3 116 119 := ⟨by decide +kernel, rfl, by decide, by decide⟩
theorem d3_116 : Dc method_3_code 116 (.iconst 0) 1 117 := ⟨by decide +kernel, rfl⟩
theorem d3_117 : Dc method_3_code 117 (.istore 5) 2 119 := ⟨by decide +kernel, rfl⟩
set_option maxRecDepth 65536 in
set_option maxHeartbeats 40000000 in
theorem s100 {p : Program} {l : Launch} {e : Env} {s : State} {m : MethodId} {A : Array Value} {below : List Frame} {meth : Method} {c : Code} {Z : State} {a0 : Array Value} (hw : ∀ d ∈ tables_1, d.before a0 Z = true) {T0 : State} {h : Heap} (a : Addr) (ka : ClassId) (n la f le ok : Int32) (bs : List Int32) (C : Cx p s m meth c Z "com/example/halyard/halyard/fix/FixMessageMatchCheckSumTagPinLaw" "expected" method_3_code 6 (some .int)) (X0 : St p l e ({ frames := 1, cells := 0, slots := 0, locals := 13 } : Room) s m A below meth c Z T0 h 0 0) (hV : Arv Z h a ka .byte 5 (bs.map Value.int) (.int 0))(hlf : le.toInt = n.toInt - f.toInt ∧ 0 ≤ f.toInt ∧ n.toInt ≤ 5) :
    Goes p e below (EndW Z s 0 0 (fun v' h' => v' = some (.int (e100 bs f le ok)) ∧ h' = h)) T0 (mkF m 100 #[.val (.ref a), .val (.int n), .val (.int la), .val (.int f), .val (.int le), .val (.int ok)] []) := by
  refine g_iload C X0 d3_100 rfl ?_
  refine g_iconst (2 : Int32) C X0 d3_102 rfl ?_
  refine g_icmp (hI_lt _ _) C X0 d3_103 (fun c103_16 => ?_) (fun c103_16 => ?_)
  · rw [show e100 bs f le ok = e119 bs f le ok from by unfold e100; rw [if_pos c103_16]]
    exact s119 hw a ka n la f le ok bs C X0 hV hlf
  · have hj1 : ¬ (f + (1 : Int32)) < 0 ∧ (f + (1 : Int32)) < 5 := by
      have := c_iadd f (1 : Int32)
      have := rng32 (f + (1 : Int32))
      simp only [Int32.lt_iff_toInt_lt, Int32.reduceToInt] at *; omega
    obtain ⟨hj1_0, hj1_1⟩ := hj1
    refine g_aloadN C X0 d3_106 rfl rfl ?_
    refine g_iloadN C X0 d3_107 rfl ?_
    refine g_iconst (1 : Int32) C X0 d3_108 rfl ?_
    refine g_iadd C X0 d3_109 ?_
    refine g_baload C X0 hV d3_110 hj1_0 hj1_1 (own_get bs _) ?_
    refine g_bipush (48 : Int32) C X0 d3_111 rfl ?_
    refine g_icmp (hI_eq _ _) C X0 d3_113 (fun c113_17 => ?_) (fun c113_17 => ?_)
    · rw [show e100 bs f le ok = e119 bs f le ok from by unfold e100; rw [if_neg c103_16, if_pos c113_17]]
      exact s119 hw a ka n la f le ok bs C X0 hV hlf
    · refine g_iconst (0 : Int32) C X0 d3_116 rfl ?_
      refine g_istore C X0 d3_117 (l' := #[.val (.ref a), .val (.int n), .val (.int la), .val (.int f), .val (.int le), .val (.int (0 : Int32))]) rfl ?_
      rw [show e100 bs f le ok = e119 bs f le (0 : Int32) from by unfold e100; rw [if_neg c103_16, if_neg c113_17]]
      exact s119 hw a ka n la f le (0 : Int32) bs C X0 hV hlf
theorem d3_71 : Dc method_3_code 71 (.iload_n 2) 1 72 := ⟨by decide +kernel, rfl⟩
theorem d3_72 : Dc method_3_code 72 (.iconst 1) 1 73 := ⟨by decide +kernel, rfl⟩
theorem d3_73 : Dc method_3_code 73 (.iadd) 1 74 := ⟨by decide +kernel, rfl⟩
theorem d3_74 : Dc method_3_code 74 (.istore_n 3) 1 75 := ⟨by decide +kernel, rfl⟩
theorem d3_75 : Dc method_3_code 75 (.iload_n 1) 1 76 := ⟨by decide +kernel, rfl⟩
theorem d3_76 : Dc method_3_code 76 (.iload_n 3) 1 77 := ⟨by decide +kernel, rfl⟩
theorem d3_77 : Dc method_3_code 77 (.isub) 1 78 := ⟨by decide +kernel, rfl⟩
theorem d3_78 : Dc method_3_code 78 (.istore 4) 2 80 := ⟨by decide +kernel, rfl⟩
theorem d3_80 : Dc method_3_code 80 (.iconst 1) 1 81 := ⟨by decide +kernel, rfl⟩
theorem d3_81 : Dc method_3_code 81 (.istore 5) 2 83 := ⟨by decide +kernel, rfl⟩
theorem d3_83 : Dc method_3_code 83 (.iload 4) 2 85 := ⟨by decide +kernel, rfl⟩
theorem d3_85 : Dc method_3_code 85 (.iconst 1) 1 86 := ⟨by decide +kernel, rfl⟩
theorem d3_86 : Dj method_3_code 86 (.if_icmp .lt 14) 14 3 89 100 := ⟨by decide +kernel, rfl, by decide, by decide⟩
theorem d3_89 : Dc method_3_code 89 (.aload_n 0) 1 90 := ⟨by decide +kernel, rfl⟩
theorem d3_90 : Dc method_3_code 90 (.iload_n 3) 1 91 := ⟨by decide +kernel, rfl⟩
theorem d3_91 : Dc method_3_code 91 (.baload) 1 92 := ⟨by decide +kernel, rfl⟩
theorem d3_92 : Dc method_3_code 92 (.bipush 49) 2 94 := ⟨by decide +kernel, rfl⟩
theorem d3_94 : Dj method_3_code 94 (.if_icmp .eq 6) 6 3 97 100 := ⟨by decide +kernel, rfl, by decide, by decide⟩
theorem d3_97 : Dc method_3_code 97 (.iconst 0) 1 98 := ⟨by decide +kernel, rfl⟩
theorem d3_98 : Dc method_3_code 98 (.istore 5) 2 100 := ⟨by decide +kernel, rfl⟩
set_option maxRecDepth 65536 in
set_option maxHeartbeats 40000000 in
theorem s71 {p : Program} {l : Launch} {e : Env} {s : State} {m : MethodId} {A : Array Value} {below : List Frame} {meth : Method} {c : Code} {Z : State} {a0 : Array Value} (hw : ∀ d ∈ tables_1, d.before a0 Z = true) {T0 : State} {h : Heap} (a : Addr) (ka : ClassId) (n la : Int32) (bs : List Int32) (C : Cx p s m meth c Z "com/example/halyard/halyard/fix/FixMessageMatchCheckSumTagPinLaw" "expected" method_3_code 6 (some .int)) (X0 : St p l e ({ frames := 1, cells := 0, slots := 0, locals := 13 } : Room) s m A below meth c Z T0 h 0 0) (hV : Arv Z h a ka .byte 5 (bs.map Value.int) (.int 0))(hn : 1 ≤ n.toInt ∧ n.toInt ≤ 5)(hl : -1 ≤ la.toInt ∧ la.toInt < n.toInt) :
    Goes p e below (EndW Z s 0 0 (fun v' h' => v' = some (.int (e71 n bs la)) ∧ h' = h)) T0 (mkF m 71 #[.val (.ref a), .val (.int n), .val (.int la), .unset, .unset, .unset] []) := by
  have hf : (n - (la + (1 : Int32))).toInt = n.toInt - (la + (1 : Int32)).toInt ∧ 0 ≤ (la + (1 : Int32)).toInt ∧ n.toInt ≤ 5 := by
    have h1 := c_iadd la (1 : Int32)
    have h2 := rng32 (la + (1 : Int32))
    have h3 := c_isub n (la + (1 : Int32))
    have h4 := rng32 (n - (la + (1 : Int32)))
    simp only [Int32.reduceToInt] at *; omega
  refine g_iloadN C X0 d3_71 rfl ?_
  refine g_iconst (1 : Int32) C X0 d3_72 rfl ?_
  refine g_iadd C X0 d3_73 ?_
  refine g_istoreN C X0 d3_74 (l' := #[.val (.ref a), .val (.int n), .val (.int la), .val (.int (la + (1 : Int32))), .unset, .unset]) rfl ?_
  refine g_iloadN C X0 d3_75 rfl ?_
  refine g_iloadN C X0 d3_76 rfl ?_
  refine g_isub C X0 d3_77 ?_
  refine g_istore C X0 d3_78 (l' := #[.val (.ref a), .val (.int n), .val (.int la), .val (.int (la + (1 : Int32))), .val (.int (n - (la + (1 : Int32)))), .unset]) rfl ?_
  refine g_iconst (1 : Int32) C X0 d3_80 rfl ?_
  refine g_istore C X0 d3_81 (l' := #[.val (.ref a), .val (.int n), .val (.int la), .val (.int (la + (1 : Int32))), .val (.int (n - (la + (1 : Int32)))), .val (.int (1 : Int32))]) rfl ?_
  refine g_iload C X0 d3_83 rfl ?_
  refine g_iconst (1 : Int32) C X0 d3_85 rfl ?_
  refine g_icmp (hI_lt _ _) C X0 d3_86 (fun c86_18 => ?_) (fun c86_18 => ?_)
  · rw [show e71 n bs la = e100 bs (la + 1) (n - (la + 1)) (1 : Int32) from by unfold e71; rw [if_pos c86_18]]
    exact s100 hw a ka n la (la + 1) (n - (la + 1)) (1 : Int32) bs C X0 hV hf
  · have hj0 : ¬ (la + (1 : Int32)) < 0 ∧ (la + (1 : Int32)) < 5 := by simp only [Int32.lt_iff_toInt_lt, Int32.reduceToInt] at *; omega
    obtain ⟨hj0_0, hj0_1⟩ := hj0
    refine g_aloadN C X0 d3_89 rfl rfl ?_
    refine g_iloadN C X0 d3_90 rfl ?_
    refine g_baload C X0 hV d3_91 hj0_0 hj0_1 (own_get bs _) ?_
    refine g_bipush (49 : Int32) C X0 d3_92 rfl ?_
    refine g_icmp (hI_eq _ _) C X0 d3_94 (fun c94_19 => ?_) (fun c94_19 => ?_)
    · rw [show e71 n bs la = e100 bs (la + 1) (n - (la + 1)) (1 : Int32) from by unfold e71; rw [if_neg c86_18, if_pos c94_19]]
      exact s100 hw a ka n la (la + 1) (n - (la + 1)) (1 : Int32) bs C X0 hV hf
    · refine g_iconst (0 : Int32) C X0 d3_97 rfl ?_
      refine g_istore C X0 d3_98 (l' := #[.val (.ref a), .val (.int n), .val (.int la), .val (.int (la + (1 : Int32))), .val (.int (n - (la + (1 : Int32)))), .val (.int (0 : Int32))]) rfl ?_
      rw [show e71 n bs la = e100 bs (la + 1) (n - (la + 1)) (0 : Int32) from by unfold e71; rw [if_neg c86_18, if_neg c94_19]]
      exact s100 hw a ka n la (la + 1) (n - (la + 1)) (0 : Int32) bs C X0 hV hf
theorem d3_57 : Dc method_3_code 57 (.iload_n 1) 1 58 := ⟨by decide +kernel, rfl⟩
theorem d3_58 : Dc method_3_code 58 (.iconst 4) 1 59 := ⟨by decide +kernel, rfl⟩
theorem d3_59 : Dj method_3_code 59 (.if_icmp .le 12) 12 3 62 71 := ⟨by decide +kernel, rfl, by decide, by decide⟩
theorem d3_62 : Dc method_3_code 62 (.aload_n 0) 1 63 := ⟨by decide +kernel, rfl⟩
theorem d3_63 : Dc method_3_code 63 (.iconst 4) 1 64 := ⟨by decide +kernel, rfl⟩
theorem d3_64 : Dc method_3_code 64 (.baload) 1 65 := ⟨by decide +kernel, rfl⟩
theorem d3_65 : Dc method_3_code 65 (.iconst 1) 1 66 := ⟨by decide +kernel, rfl⟩
theorem d3_66 : Dj method_3_code 66 (.if_icmp .ne 5) 5 3 69 71 := ⟨by decide +kernel, rfl, by decide, by decide⟩
theorem d3_69 : Dc method_3_code 69 (.iconst 4) 1 70 := ⟨by decide +kernel, rfl⟩
theorem d3_70 : Dc method_3_code 70 (.istore_n 2) 1 71 := ⟨by decide +kernel, rfl⟩
set_option maxRecDepth 65536 in
set_option maxHeartbeats 40000000 in
theorem s57 {p : Program} {l : Launch} {e : Env} {s : State} {m : MethodId} {A : Array Value} {below : List Frame} {meth : Method} {c : Code} {Z : State} {a0 : Array Value} (hw : ∀ d ∈ tables_1, d.before a0 Z = true) {T0 : State} {h : Heap} (a : Addr) (ka : ClassId) (n la : Int32) (bs : List Int32) (C : Cx p s m meth c Z "com/example/halyard/halyard/fix/FixMessageMatchCheckSumTagPinLaw" "expected" method_3_code 6 (some .int)) (X0 : St p l e ({ frames := 1, cells := 0, slots := 0, locals := 13 } : Room) s m A below meth c Z T0 h 0 0) (hV : Arv Z h a ka .byte 5 (bs.map Value.int) (.int 0))(hn : 1 ≤ n.toInt ∧ n.toInt ≤ 5)(hl : -1 ≤ la.toInt ∧ la.toInt < n.toInt) :
    Goes p e below (EndW Z s 0 0 (fun v' h' => v' = some (.int (e57 n bs la)) ∧ h' = h)) T0 (mkF m 57 #[.val (.ref a), .val (.int n), .val (.int la), .unset, .unset, .unset] []) := by
  refine g_iloadN C X0 d3_57 rfl ?_
  refine g_iconst (4 : Int32) C X0 d3_58 rfl ?_
  refine g_icmpn (hI_le _ _) C X0 d3_59 (fun c59_20 => ?_) (fun c59_20 => ?_)
  · rw [show e57 n bs la = e71 n bs la from by unfold e57; rw [if_neg c59_20]]
    exact s71 hw a ka n la bs C X0 hV hn (by simp only [Int32.lt_iff_toInt_lt, Int32.reduceToInt] at *; omega)
  · refine g_aloadN C X0 d3_62 rfl rfl ?_
    refine g_iconst (4 : Int32) C X0 d3_63 rfl ?_
    refine g_baload C X0 hV d3_64 (by decide) (by decide) (own_get bs 4) ?_
    refine g_iconst (1 : Int32) C X0 d3_65 rfl ?_
    refine g_icmpn (hI_ne _ _) C X0 d3_66 (fun c66_21 => ?_) (fun c66_21 => ?_)
    · rw [show e57 n bs la = e71 n bs la from by unfold e57; rw [if_pos c59_20, if_neg c66_21]]
      exact s71 hw a ka n la bs C X0 hV hn (by simp only [Int32.lt_iff_toInt_lt, Int32.reduceToInt] at *; omega)
    · refine g_iconst (4 : Int32) C X0 d3_69 rfl ?_
      refine g_istoreN C X0 d3_70 (l' := #[.val (.ref a), .val (.int n), .val (.int (4 : Int32)), .unset, .unset, .unset]) rfl ?_
      rw [show e57 n bs la = e71 n bs (4 : Int32) from by unfold e57; rw [if_pos c59_20, if_pos c66_21]]
      exact s71 hw a ka n (4 : Int32) bs C X0 hV hn (by simp only [Int32.lt_iff_toInt_lt, Int32.reduceToInt] at *; omega)
theorem d3_43 : Dc method_3_code 43 (.iload_n 1) 1 44 := ⟨by decide +kernel, rfl⟩
theorem d3_44 : Dc method_3_code 44 (.iconst 3) 1 45 := ⟨by decide +kernel, rfl⟩
theorem d3_45 : Dj method_3_code 45 (.if_icmp .le 12) 12 3 48 57 := ⟨by decide +kernel, rfl, by decide, by decide⟩
theorem d3_48 : Dc method_3_code 48 (.aload_n 0) 1 49 := ⟨by decide +kernel, rfl⟩
theorem d3_49 : Dc method_3_code 49 (.iconst 3) 1 50 := ⟨by decide +kernel, rfl⟩
theorem d3_50 : Dc method_3_code 50 (.baload) 1 51 := ⟨by decide +kernel, rfl⟩
theorem d3_51 : Dc method_3_code 51 (.iconst 1) 1 52 := ⟨by decide +kernel, rfl⟩
theorem d3_52 : Dj method_3_code 52 (.if_icmp .ne 5) 5 3 55 57 := ⟨by decide +kernel, rfl, by decide, by decide⟩
theorem d3_55 : Dc method_3_code 55 (.iconst 3) 1 56 := ⟨by decide +kernel, rfl⟩
theorem d3_56 : Dc method_3_code 56 (.istore_n 2) 1 57 := ⟨by decide +kernel, rfl⟩
set_option maxRecDepth 65536 in
set_option maxHeartbeats 40000000 in
theorem s43 {p : Program} {l : Launch} {e : Env} {s : State} {m : MethodId} {A : Array Value} {below : List Frame} {meth : Method} {c : Code} {Z : State} {a0 : Array Value} (hw : ∀ d ∈ tables_1, d.before a0 Z = true) {T0 : State} {h : Heap} (a : Addr) (ka : ClassId) (n la : Int32) (bs : List Int32) (C : Cx p s m meth c Z "com/example/halyard/halyard/fix/FixMessageMatchCheckSumTagPinLaw" "expected" method_3_code 6 (some .int)) (X0 : St p l e ({ frames := 1, cells := 0, slots := 0, locals := 13 } : Room) s m A below meth c Z T0 h 0 0) (hV : Arv Z h a ka .byte 5 (bs.map Value.int) (.int 0))(hn : 1 ≤ n.toInt ∧ n.toInt ≤ 5)(hl : -1 ≤ la.toInt ∧ la.toInt < n.toInt) :
    Goes p e below (EndW Z s 0 0 (fun v' h' => v' = some (.int (e43 n bs la)) ∧ h' = h)) T0 (mkF m 43 #[.val (.ref a), .val (.int n), .val (.int la), .unset, .unset, .unset] []) := by
  refine g_iloadN C X0 d3_43 rfl ?_
  refine g_iconst (3 : Int32) C X0 d3_44 rfl ?_
  refine g_icmpn (hI_le _ _) C X0 d3_45 (fun c45_22 => ?_) (fun c45_22 => ?_)
  · rw [show e43 n bs la = e57 n bs la from by unfold e43; rw [if_neg c45_22]]
    exact s57 hw a ka n la bs C X0 hV hn (by simp only [Int32.lt_iff_toInt_lt, Int32.reduceToInt] at *; omega)
  · refine g_aloadN C X0 d3_48 rfl rfl ?_
    refine g_iconst (3 : Int32) C X0 d3_49 rfl ?_
    refine g_baload C X0 hV d3_50 (by decide) (by decide) (own_get bs 3) ?_
    refine g_iconst (1 : Int32) C X0 d3_51 rfl ?_
    refine g_icmpn (hI_ne _ _) C X0 d3_52 (fun c52_23 => ?_) (fun c52_23 => ?_)
    · rw [show e43 n bs la = e57 n bs la from by unfold e43; rw [if_pos c45_22, if_neg c52_23]]
      exact s57 hw a ka n la bs C X0 hV hn (by simp only [Int32.lt_iff_toInt_lt, Int32.reduceToInt] at *; omega)
    · refine g_iconst (3 : Int32) C X0 d3_55 rfl ?_
      refine g_istoreN C X0 d3_56 (l' := #[.val (.ref a), .val (.int n), .val (.int (3 : Int32)), .unset, .unset, .unset]) rfl ?_
      rw [show e43 n bs la = e57 n bs (3 : Int32) from by unfold e43; rw [if_pos c45_22, if_pos c52_23]]
      exact s57 hw a ka n (3 : Int32) bs C X0 hV hn (by simp only [Int32.lt_iff_toInt_lt, Int32.reduceToInt] at *; omega)
theorem d3_29 : Dc method_3_code 29 (.iload_n 1) 1 30 := ⟨by decide +kernel, rfl⟩
theorem d3_30 : Dc method_3_code 30 (.iconst 2) 1 31 := ⟨by decide +kernel, rfl⟩
theorem d3_31 : Dj method_3_code 31 (.if_icmp .le 12) 12 3 34 43 := ⟨by decide +kernel, rfl, by decide, by decide⟩
theorem d3_34 : Dc method_3_code 34 (.aload_n 0) 1 35 := ⟨by decide +kernel, rfl⟩
theorem d3_35 : Dc method_3_code 35 (.iconst 2) 1 36 := ⟨by decide +kernel, rfl⟩
theorem d3_36 : Dc method_3_code 36 (.baload) 1 37 := ⟨by decide +kernel, rfl⟩
theorem d3_37 : Dc method_3_code 37 (.iconst 1) 1 38 := ⟨by decide +kernel, rfl⟩
theorem d3_38 : Dj method_3_code 38 (.if_icmp .ne 5) 5 3 41 43 := ⟨by decide +kernel, rfl, by decide, by decide⟩
theorem d3_41 : Dc method_3_code 41 (.iconst 2) 1 42 := ⟨by decide +kernel, rfl⟩
theorem d3_42 : Dc method_3_code 42 (.istore_n 2) 1 43 := ⟨by decide +kernel, rfl⟩
set_option maxRecDepth 65536 in
set_option maxHeartbeats 40000000 in
theorem s29 {p : Program} {l : Launch} {e : Env} {s : State} {m : MethodId} {A : Array Value} {below : List Frame} {meth : Method} {c : Code} {Z : State} {a0 : Array Value} (hw : ∀ d ∈ tables_1, d.before a0 Z = true) {T0 : State} {h : Heap} (a : Addr) (ka : ClassId) (n la : Int32) (bs : List Int32) (C : Cx p s m meth c Z "com/example/halyard/halyard/fix/FixMessageMatchCheckSumTagPinLaw" "expected" method_3_code 6 (some .int)) (X0 : St p l e ({ frames := 1, cells := 0, slots := 0, locals := 13 } : Room) s m A below meth c Z T0 h 0 0) (hV : Arv Z h a ka .byte 5 (bs.map Value.int) (.int 0))(hn : 1 ≤ n.toInt ∧ n.toInt ≤ 5)(hl : -1 ≤ la.toInt ∧ la.toInt < n.toInt) :
    Goes p e below (EndW Z s 0 0 (fun v' h' => v' = some (.int (e29 n bs la)) ∧ h' = h)) T0 (mkF m 29 #[.val (.ref a), .val (.int n), .val (.int la), .unset, .unset, .unset] []) := by
  refine g_iloadN C X0 d3_29 rfl ?_
  refine g_iconst (2 : Int32) C X0 d3_30 rfl ?_
  refine g_icmpn (hI_le _ _) C X0 d3_31 (fun c31_24 => ?_) (fun c31_24 => ?_)
  · rw [show e29 n bs la = e43 n bs la from by unfold e29; rw [if_neg c31_24]]
    exact s43 hw a ka n la bs C X0 hV hn (by simp only [Int32.lt_iff_toInt_lt, Int32.reduceToInt] at *; omega)
  · refine g_aloadN C X0 d3_34 rfl rfl ?_
    refine g_iconst (2 : Int32) C X0 d3_35 rfl ?_
    refine g_baload C X0 hV d3_36 (by decide) (by decide) (own_get bs 2) ?_
    refine g_iconst (1 : Int32) C X0 d3_37 rfl ?_
    refine g_icmpn (hI_ne _ _) C X0 d3_38 (fun c38_25 => ?_) (fun c38_25 => ?_)
    · rw [show e29 n bs la = e43 n bs la from by unfold e29; rw [if_pos c31_24, if_neg c38_25]]
      exact s43 hw a ka n la bs C X0 hV hn (by simp only [Int32.lt_iff_toInt_lt, Int32.reduceToInt] at *; omega)
    · refine g_iconst (2 : Int32) C X0 d3_41 rfl ?_
      refine g_istoreN C X0 d3_42 (l' := #[.val (.ref a), .val (.int n), .val (.int (2 : Int32)), .unset, .unset, .unset]) rfl ?_
      rw [show e29 n bs la = e43 n bs (2 : Int32) from by unfold e29; rw [if_pos c31_24, if_pos c38_25]]
      exact s43 hw a ka n (2 : Int32) bs C X0 hV hn (by simp only [Int32.lt_iff_toInt_lt, Int32.reduceToInt] at *; omega)
theorem d3_15 : Dc method_3_code 15 (.iload_n 1) 1 16 := ⟨by decide +kernel, rfl⟩
theorem d3_16 : Dc method_3_code 16 (.iconst 1) 1 17 := ⟨by decide +kernel, rfl⟩
theorem d3_17 : Dj method_3_code 17 (.if_icmp .le 12) 12 3 20 29 := ⟨by decide +kernel, rfl, by decide, by decide⟩
theorem d3_20 : Dc method_3_code 20 (.aload_n 0) 1 21 := ⟨by decide +kernel, rfl⟩
theorem d3_21 : Dc method_3_code 21 (.iconst 1) 1 22 := ⟨by decide +kernel, rfl⟩
theorem d3_22 : Dc method_3_code 22 (.baload) 1 23 := ⟨by decide +kernel, rfl⟩
theorem d3_23 : Dc method_3_code 23 (.iconst 1) 1 24 := ⟨by decide +kernel, rfl⟩
theorem d3_24 : Dj method_3_code 24 (.if_icmp .ne 5) 5 3 27 29 := ⟨by decide +kernel, rfl, by decide, by decide⟩
theorem d3_27 : Dc method_3_code 27 (.iconst 1) 1 28 := ⟨by decide +kernel, rfl⟩
theorem d3_28 : Dc method_3_code 28 (.istore_n 2) 1 29 := ⟨by decide +kernel, rfl⟩
set_option maxRecDepth 65536 in
set_option maxHeartbeats 40000000 in
theorem s15 {p : Program} {l : Launch} {e : Env} {s : State} {m : MethodId} {A : Array Value} {below : List Frame} {meth : Method} {c : Code} {Z : State} {a0 : Array Value} (hw : ∀ d ∈ tables_1, d.before a0 Z = true) {T0 : State} {h : Heap} (a : Addr) (ka : ClassId) (n la : Int32) (bs : List Int32) (C : Cx p s m meth c Z "com/example/halyard/halyard/fix/FixMessageMatchCheckSumTagPinLaw" "expected" method_3_code 6 (some .int)) (X0 : St p l e ({ frames := 1, cells := 0, slots := 0, locals := 13 } : Room) s m A below meth c Z T0 h 0 0) (hV : Arv Z h a ka .byte 5 (bs.map Value.int) (.int 0))(hn : 1 ≤ n.toInt ∧ n.toInt ≤ 5)(hl : -1 ≤ la.toInt ∧ la.toInt < n.toInt) :
    Goes p e below (EndW Z s 0 0 (fun v' h' => v' = some (.int (e15 n bs la)) ∧ h' = h)) T0 (mkF m 15 #[.val (.ref a), .val (.int n), .val (.int la), .unset, .unset, .unset] []) := by
  refine g_iloadN C X0 d3_15 rfl ?_
  refine g_iconst (1 : Int32) C X0 d3_16 rfl ?_
  refine g_icmpn (hI_le _ _) C X0 d3_17 (fun c17_26 => ?_) (fun c17_26 => ?_)
  · rw [show e15 n bs la = e29 n bs la from by unfold e15; rw [if_neg c17_26]]
    exact s29 hw a ka n la bs C X0 hV hn (by simp only [Int32.lt_iff_toInt_lt, Int32.reduceToInt] at *; omega)
  · refine g_aloadN C X0 d3_20 rfl rfl ?_
    refine g_iconst (1 : Int32) C X0 d3_21 rfl ?_
    refine g_baload C X0 hV d3_22 (by decide) (by decide) (own_get bs 1) ?_
    refine g_iconst (1 : Int32) C X0 d3_23 rfl ?_
    refine g_icmpn (hI_ne _ _) C X0 d3_24 (fun c24_27 => ?_) (fun c24_27 => ?_)
    · rw [show e15 n bs la = e29 n bs la from by unfold e15; rw [if_pos c17_26, if_neg c24_27]]
      exact s29 hw a ka n la bs C X0 hV hn (by simp only [Int32.lt_iff_toInt_lt, Int32.reduceToInt] at *; omega)
    · refine g_iconst (1 : Int32) C X0 d3_27 rfl ?_
      refine g_istoreN C X0 d3_28 (l' := #[.val (.ref a), .val (.int n), .val (.int (1 : Int32)), .unset, .unset, .unset]) rfl ?_
      rw [show e15 n bs la = e29 n bs (1 : Int32) from by unfold e15; rw [if_pos c17_26, if_pos c24_27]]
      exact s29 hw a ka n (1 : Int32) bs C X0 hV hn (by simp only [Int32.lt_iff_toInt_lt, Int32.reduceToInt] at *; omega)
theorem ef_rm3 (m : MethodId) (a : Addr) (n : Int32) : entryFrame m #[(.ref a), (.int n)] 6 = mkF m 0 #[.val (.ref a), .val (.int n), .unset, .unset, .unset, .unset] [] := by first | (simp [entryFrame, mkF, argsToLocals, Value.category]; done) | rfl
theorem d3_0 : Dc method_3_code 0 (.iconst (-1)) 1 1 := ⟨by decide +kernel, rfl⟩
theorem d3_1 : Dc method_3_code 1 (.istore_n 2) 1 2 := ⟨by decide +kernel, rfl⟩
theorem d3_2 : Dc method_3_code 2 (.iload_n 1) 1 3 := ⟨by decide +kernel, rfl⟩
theorem d3_3 : Dj method_3_code 3 (.ifCond .le 12) 12 3 6 15 := ⟨by decide +kernel, rfl, by decide, by decide⟩
theorem d3_6 : Dc method_3_code 6 (.aload_n 0) 1 7 := ⟨by decide +kernel, rfl⟩
theorem d3_7 : Dc method_3_code 7 (.iconst 0) 1 8 := ⟨by decide +kernel, rfl⟩
theorem d3_8 : Dc method_3_code 8 (.baload) 1 9 := ⟨by decide +kernel, rfl⟩
theorem d3_9 : Dc method_3_code 9 (.iconst 1) 1 10 := ⟨by decide +kernel, rfl⟩
theorem d3_10 : Dj method_3_code 10 (.if_icmp .ne 5) 5 3 13 15 := ⟨by decide +kernel, rfl, by decide, by decide⟩
theorem d3_13 : Dc method_3_code 13 (.iconst 0) 1 14 := ⟨by decide +kernel, rfl⟩
theorem d3_14 : Dc method_3_code 14 (.istore_n 2) 1 15 := ⟨by decide +kernel, rfl⟩
set_option maxRecDepth 65536 in
set_option maxHeartbeats 40000000 in
theorem rm3 (l : Launch) {Z : State} {a0 : Array Value} (hw : ∀ d ∈ tables_1, d.before a0 Z = true) {h : Heap} (hE : Ext Z.heap h) (a : Addr) (n : Int32) (ka : ClassId) (bs : List Int32) (hV : Arv Z h a ka .byte 5 (bs.map Value.int) (.int 0))(hn : 1 ≤ n.toInt ∧ n.toInt ≤ 5) :
    Con l (⟨"com/example/halyard/halyard/fix/FixMessageMatchCheckSumTagPinLaw", "expected", "([BI)I"⟩ : MethodName) method_3_code 6 (some .int) [] ({ frames := 1, cells := 0, slots := 0, locals := 13 } : Room) Z #[(.ref a), (.int n)] h (fun v' h' => v' = some (.int (eF n bs)) ∧ h' = h) := by
  refine con_of (plainFor_of_name pn_0) hE (fun m => ef_rm3 m a n) ?_
  intro p e s m below meth c T0 C X0
  have C : Cx p s m meth c Z "com/example/halyard/halyard/fix/FixMessageMatchCheckSumTagPinLaw" "expected" method_3_code 6 (some .int) := C
  show Goes p e below _ T0 (mkF m 0 #[.val (.ref a), .val (.int n), .unset, .unset, .unset, .unset] [])
  refine g_iconst (-1 : Int32) C X0 d3_0 rfl ?_
  refine g_istoreN C X0 d3_1 (l' := #[.val (.ref a), .val (.int n), .val (.int (-1 : Int32)), .unset, .unset, .unset]) rfl ?_
  refine g_iloadN C X0 d3_2 rfl ?_
  refine g_ifn (h0_le _) C X0 d3_3 (fun c3_28 => ?_) (fun c3_28 => ?_)
  · rw [show eF n bs = e15 n bs (-1 : Int32) from by unfold eF; rw [if_neg c3_28]]
    exact s15 hw a ka n (-1 : Int32) bs C X0 hV hn (by simp only [Int32.lt_iff_toInt_lt, Int32.reduceToInt] at *; omega)
  · refine g_aloadN C X0 d3_6 rfl rfl ?_
    refine g_iconst (0 : Int32) C X0 d3_7 rfl ?_
    refine g_baload C X0 hV d3_8 (by decide) (by decide) (own_get bs 0) ?_
    refine g_iconst (1 : Int32) C X0 d3_9 rfl ?_
    refine g_icmpn (hI_ne _ _) C X0 d3_10 (fun c10_29 => ?_) (fun c10_29 => ?_)
    · rw [show eF n bs = e15 n bs (-1 : Int32) from by unfold eF; rw [if_pos c3_28, if_neg c10_29]]
      exact s15 hw a ka n (-1 : Int32) bs C X0 hV hn (by simp only [Int32.lt_iff_toInt_lt, Int32.reduceToInt] at *; omega)
    · refine g_iconst (0 : Int32) C X0 d3_13 rfl ?_
      refine g_istoreN C X0 d3_14 (l' := #[.val (.ref a), .val (.int n), .val (.int (0 : Int32)), .unset, .unset, .unset]) rfl ?_
      rw [show eF n bs = e15 n bs (0 : Int32) from by unfold eF; rw [if_pos c3_28, if_pos c10_29]]
      exact s15 hw a ka n (0 : Int32) bs C X0 hV hn (by simp only [Int32.lt_iff_toInt_lt, Int32.reduceToInt] at *; omega)
def own_ix (b : Int32) : Fin 5 := if b = 1 then 0 else if b = 49 then 1 else if b = 48 then 2 else if b = 61 then 3 else 4
def own_rep (c : Fin 5) : Int32 := match c with | 0 => 1 | 1 => 49 | 2 => 48 | 3 => 61 | 4 => 7
theorem own_rep_eq (b k : Int32) (hk : k = 1 ∨ k = 49 ∨ k = 48 ∨ k = 61) : (b = k) = (own_rep (own_ix b) = k) := by
  apply propext
  unfold own_ix
  by_cases h1 : b = 1
  · rw [if_pos h1]; subst h1; exact Iff.rfl
  · rw [if_neg h1]
    by_cases h2 : b = 49
    · rw [if_pos h2]; subst h2; exact Iff.rfl
    · rw [if_neg h2]
      by_cases h3 : b = 48
      · rw [if_pos h3]; subst h3; exact Iff.rfl
      · rw [if_neg h3]
        by_cases h4 : b = 61
        · rw [if_pos h4]; subst h4; exact Iff.rfl
        · rw [if_neg h4]
          rcases hk with rfl | rfl | rfl | rfl
          · exact ⟨fun q => absurd q h1, fun q => absurd (show (7 : Int32) = 1 from q) (by decide)⟩
          · exact ⟨fun q => absurd q h2, fun q => absurd (show (7 : Int32) = 49 from q) (by decide)⟩
          · exact ⟨fun q => absurd q h3, fun q => absurd (show (7 : Int32) = 48 from q) (by decide)⟩
          · exact ⟨fun q => absurd q h4, fun q => absurd (show (7 : Int32) = 61 from q) (by decide)⟩
theorem own_tagk (m : Int32) (h0 : ¬ m < 0) (h3 : m < 3) : tagF m = 1 ∨ tagF m = 49 ∨ tagF m = 48 ∨ tagF m = 61 := by
  have h : m = 0 ∨ m = 1 ∨ m = 2 := by
    simp only [Int32.lt_iff_toInt_lt, Int32.reduceToInt, ← Int32.toInt_inj] at *
    omega
  rcases h with rfl | rfl | rfl <;> decide
theorem own_mt (m b : Int32) : mtF m b = mtF m (own_rep (own_ix b)) := by
  unfold mtF
  have e1 := own_rep_eq b 1 (Or.inl rfl)
  by_cases h1 : b = 1
  · rw [if_pos h1, if_pos (show own_rep (own_ix b) = 1 from e1 ▸ h1)]
  · rw [if_neg h1, if_neg (show ¬ own_rep (own_ix b) = 1 from e1 ▸ h1)]
    by_cases h0 : m < 0
    · rw [if_pos h0, if_pos h0]
    · rw [if_neg h0, if_neg h0]
      by_cases h3 : m < 3
      · rw [if_pos h3, if_pos h3]
        have e2 := own_rep_eq b (tagF m) (own_tagk m h0 h3)
        by_cases h4 : b = tagF m
        · rw [if_pos h4, if_pos (show own_rep (own_ix b) = tagF m from e2 ▸ h4)]
        · rw [if_neg h4, if_neg (show ¬ own_rep (own_ix b) = tagF m from e2 ▸ h4)]
      · rw [if_neg h3, if_neg h3]
theorem own_getk (bs : List Int32) (j : Nat) (k : Int32) (hk : k = 1 ∨ k = 49 ∨ k = 48 ∨ k = 61) : (bs.getD j 0 = k) = ((bs.map fun b => own_rep (own_ix b)).getD j 0 = k) := by
  induction bs generalizing j with
  | nil => rfl
  | cons b t ih => cases j with
    | zero => exact own_rep_eq b k hk
    | succ j => exact ih j
theorem own_eF (n : Int32) (bs : List Int32) : eF n bs = eF n (bs.map fun b => own_rep (own_ix b)) := by
  simp only [eF, e15, e29, e43, e57, e71, e100, e119, own_getk bs _ 1 (Or.inl rfl), own_getk bs _ 49 (Or.inr (Or.inl rfl)), own_getk bs _ 48 (Or.inr (Or.inr (Or.inl rfl))), own_getk bs _ 61 (Or.inr (Or.inr (Or.inr rfl)))]
theorem ef_rm0 (m : MethodId) (p0 : Int32) (p1 : Int32) (p2 : Int32) (p3 : Int32) (p4 : Int32) : entryFrame m #[(.int p0), (.int p1), (.int p2), (.int p3), (.int p4)] maxLocals = mkF m 0 #[.val (.int p0), .val (.int p1), .val (.int p2), .val (.int p3), .val (.int p4), .unset, .unset, .unset] [] := by first | (simp [entryFrame, mkF, argsToLocals, Value.category, maxLocals]; done) | rfl
theorem d0_0 : Dc code 0 (.iconst 5) 1 1 := ⟨at_0, rfl⟩
theorem d0_1 : Dc code 1 (.newarray .byte) 2 3 := ⟨at_1, rfl⟩
theorem d0_3 : Dc code 3 (.astore 5) 2 5 := ⟨at_3, rfl⟩
theorem d0_5 : Dc code 5 (.aload 5) 2 7 := ⟨at_5, rfl⟩
theorem d0_7 : Dc code 7 (.iconst 0) 1 8 := ⟨at_7, rfl⟩
theorem d0_8 : Dc code 8 (.iload_n 0) 1 9 := ⟨at_8, rfl⟩
theorem d0_9 : Dc code 9 (.invokestatic 13) 3 12 := ⟨at_9, rfl⟩
theorem pd_1 : parseMethodDescriptor "(I)B" = some ⟨[.int], some .byte⟩ := by decide +kernel
theorem d0_12 : Dc code 12 (.bastore) 1 13 := ⟨at_12, rfl⟩
theorem d0_13 : Dc code 13 (.aload 5) 2 15 := ⟨at_13, rfl⟩
theorem d0_15 : Dc code 15 (.iconst 1) 1 16 := ⟨at_15, rfl⟩
theorem d0_16 : Dc code 16 (.iload_n 1) 1 17 := ⟨at_16, rfl⟩
theorem d0_17 : Dc code 17 (.invokestatic 13) 3 20 := ⟨at_17, rfl⟩
theorem d0_20 : Dc code 20 (.bastore) 1 21 := ⟨at_20, rfl⟩
theorem d0_21 : Dc code 21 (.aload 5) 2 23 := ⟨at_21, rfl⟩
theorem d0_23 : Dc code 23 (.iconst 2) 1 24 := ⟨at_23, rfl⟩
theorem d0_24 : Dc code 24 (.iload_n 2) 1 25 := ⟨at_24, rfl⟩
theorem d0_25 : Dc code 25 (.invokestatic 13) 3 28 := ⟨at_25, rfl⟩
theorem d0_28 : Dc code 28 (.bastore) 1 29 := ⟨at_28, rfl⟩
theorem d0_29 : Dc code 29 (.aload 5) 2 31 := ⟨at_29, rfl⟩
theorem d0_31 : Dc code 31 (.iconst 3) 1 32 := ⟨at_31, rfl⟩
theorem d0_32 : Dc code 32 (.iload_n 3) 1 33 := ⟨at_32, rfl⟩
theorem d0_33 : Dc code 33 (.invokestatic 13) 3 36 := ⟨at_33, rfl⟩
theorem d0_36 : Dc code 36 (.bastore) 1 37 := ⟨at_36, rfl⟩
theorem d0_37 : Dc code 37 (.aload 5) 2 39 := ⟨at_37, rfl⟩
theorem d0_39 : Dc code 39 (.iconst 4) 1 40 := ⟨at_39, rfl⟩
theorem d0_40 : Dc code 40 (.iload 4) 2 42 := ⟨at_40, rfl⟩
theorem d0_42 : Dc code 42 (.invokestatic 13) 3 45 := ⟨at_42, rfl⟩
theorem d0_45 : Dc code 45 (.bastore) 1 46 := ⟨at_45, rfl⟩
theorem d0_46 : Dc code 46 (.iconst 1) 1 47 := ⟨at_46, rfl⟩
theorem d0_47 : Dc code 47 (.istore 6) 2 49 := ⟨at_47, rfl⟩
theorem d0_49 : Dc code 49 (.iconst 0) 1 50 := ⟨at_49, rfl⟩
theorem d0_50 : Dc code 50 (.istore 7) 2 52 := ⟨at_50, rfl⟩
theorem d0_52 : Dc code 52 (.iload 7) 2 54 := ⟨at_52, rfl⟩
theorem d0_54 : Dc code 54 (.aload 5) 2 56 := ⟨at_54, rfl⟩
theorem d0_56 : Dc code 56 (.iconst 0) 1 57 := ⟨at_56, rfl⟩
theorem d0_57 : Dc code 57 (.baload) 1 58 := ⟨at_57, rfl⟩
theorem d0_58 : Dc code 58 (.invokestatic 19) 3 61 := ⟨at_58, rfl⟩
theorem pd_2 : parseMethodDescriptor "(IB)I" = some ⟨[.int, .byte], some .int⟩ := by decide +kernel
theorem d0_61 : Dc code 61 (.istore 7) 2 63 := ⟨at_61, rfl⟩
theorem d0_63 : Dc code 63 (.iload 6) 2 65 := ⟨at_63, rfl⟩
theorem d0_65 : Dj code 65 (.ifCond .eq 18) 18 3 68 83 := ⟨at_65, rfl, by decide, by decide⟩
theorem d0_68 : Dc code 68 (.iload 7) 2 70 := ⟨at_68, rfl⟩
theorem d0_70 : Dc code 70 (.aload 5) 2 72 := ⟨at_70, rfl⟩
theorem d0_72 : Dc code 72 (.iconst 1) 1 73 := ⟨at_72, rfl⟩
theorem d0_73 : Dc code 73 (.invokestatic 25) 3 76 := ⟨at_73, rfl⟩
theorem pd_3 : parseMethodDescriptor "([BI)I" = some ⟨[(.array .byte), .int], some .int⟩ := by decide +kernel
theorem d0_76 : Dj code 76 (.if_icmp .ne 7) 7 3 79 83 := ⟨at_76, rfl, by decide, by decide⟩
theorem d0_79 : Dc code 79 (.iconst 1) 1 80 := ⟨at_79, rfl⟩
theorem d0_80 : Dj code 80 (.goto 4) 4 3 83 84 := ⟨at_80, rfl, by decide, by decide⟩
theorem d0_84 : Dc code 84 (.istore 6) 2 86 := ⟨at_84, rfl⟩
theorem d0_86 : Dc code 86 (.iload 7) 2 88 := ⟨at_86, rfl⟩
theorem d0_88 : Dc code 88 (.aload 5) 2 90 := ⟨at_88, rfl⟩
theorem d0_90 : Dc code 90 (.iconst 1) 1 91 := ⟨at_90, rfl⟩
theorem d0_91 : Dc code 91 (.baload) 1 92 := ⟨at_91, rfl⟩
theorem d0_92 : Dc code 92 (.invokestatic 19) 3 95 := ⟨at_92, rfl⟩
theorem d0_95 : Dc code 95 (.istore 7) 2 97 := ⟨at_95, rfl⟩
theorem d0_97 : Dc code 97 (.iload 6) 2 99 := ⟨at_97, rfl⟩
theorem d0_99 : Dj code 99 (.ifCond .eq 18) 18 3 102 117 := ⟨at_99, rfl, by decide, by decide⟩
theorem d0_102 : Dc code 102 (.iload 7) 2 104 := ⟨at_102, rfl⟩
theorem d0_104 : Dc code 104 (.aload 5) 2 106 := ⟨at_104, rfl⟩
theorem d0_106 : Dc code 106 (.iconst 2) 1 107 := ⟨at_106, rfl⟩
theorem d0_107 : Dc code 107 (.invokestatic 25) 3 110 := ⟨at_107, rfl⟩
theorem d0_110 : Dj code 110 (.if_icmp .ne 7) 7 3 113 117 := ⟨at_110, rfl, by decide, by decide⟩
theorem d0_113 : Dc code 113 (.iconst 1) 1 114 := ⟨at_113, rfl⟩
theorem d0_114 : Dj code 114 (.goto 4) 4 3 117 118 := ⟨at_114, rfl, by decide, by decide⟩
theorem d0_118 : Dc code 118 (.istore 6) 2 120 := ⟨at_118, rfl⟩
theorem d0_120 : Dc code 120 (.iload 7) 2 122 := ⟨at_120, rfl⟩
theorem d0_122 : Dc code 122 (.aload 5) 2 124 := ⟨at_122, rfl⟩
theorem d0_124 : Dc code 124 (.iconst 2) 1 125 := ⟨at_124, rfl⟩
theorem d0_125 : Dc code 125 (.baload) 1 126 := ⟨at_125, rfl⟩
theorem d0_126 : Dc code 126 (.invokestatic 19) 3 129 := ⟨at_126, rfl⟩
theorem d0_129 : Dc code 129 (.istore 7) 2 131 := ⟨at_129, rfl⟩
theorem d0_131 : Dc code 131 (.iload 6) 2 133 := ⟨at_131, rfl⟩
theorem d0_133 : Dj code 133 (.ifCond .eq 18) 18 3 136 151 := ⟨at_133, rfl, by decide, by decide⟩
theorem d0_136 : Dc code 136 (.iload 7) 2 138 := ⟨at_136, rfl⟩
theorem d0_138 : Dc code 138 (.aload 5) 2 140 := ⟨at_138, rfl⟩
theorem d0_140 : Dc code 140 (.iconst 3) 1 141 := ⟨at_140, rfl⟩
theorem d0_141 : Dc code 141 (.invokestatic 25) 3 144 := ⟨at_141, rfl⟩
theorem d0_144 : Dj code 144 (.if_icmp .ne 7) 7 3 147 151 := ⟨at_144, rfl, by decide, by decide⟩
theorem d0_147 : Dc code 147 (.iconst 1) 1 148 := ⟨at_147, rfl⟩
theorem d0_148 : Dj code 148 (.goto 4) 4 3 151 152 := ⟨at_148, rfl, by decide, by decide⟩
theorem d0_152 : Dc code 152 (.istore 6) 2 154 := ⟨at_152, rfl⟩
theorem d0_154 : Dc code 154 (.iload 7) 2 156 := ⟨at_154, rfl⟩
theorem d0_156 : Dc code 156 (.aload 5) 2 158 := ⟨at_156, rfl⟩
theorem d0_158 : Dc code 158 (.iconst 3) 1 159 := ⟨at_158, rfl⟩
theorem d0_159 : Dc code 159 (.baload) 1 160 := ⟨at_159, rfl⟩
theorem d0_160 : Dc code 160 (.invokestatic 19) 3 163 := ⟨at_160, rfl⟩
theorem d0_163 : Dc code 163 (.istore 7) 2 165 := ⟨at_163, rfl⟩
theorem d0_165 : Dc code 165 (.iload 6) 2 167 := ⟨at_165, rfl⟩
theorem d0_167 : Dj code 167 (.ifCond .eq 18) 18 3 170 185 := ⟨at_167, rfl, by decide, by decide⟩
theorem d0_170 : Dc code 170 (.iload 7) 2 172 := ⟨at_170, rfl⟩
theorem d0_172 : Dc code 172 (.aload 5) 2 174 := ⟨at_172, rfl⟩
theorem d0_174 : Dc code 174 (.iconst 4) 1 175 := ⟨at_174, rfl⟩
theorem d0_175 : Dc code 175 (.invokestatic 25) 3 178 := ⟨at_175, rfl⟩
theorem d0_178 : Dj code 178 (.if_icmp .ne 7) 7 3 181 185 := ⟨at_178, rfl, by decide, by decide⟩
theorem d0_181 : Dc code 181 (.iconst 1) 1 182 := ⟨at_181, rfl⟩
theorem d0_182 : Dj code 182 (.goto 4) 4 3 185 186 := ⟨at_182, rfl, by decide, by decide⟩
theorem d0_186 : Dc code 186 (.istore 6) 2 188 := ⟨at_186, rfl⟩
theorem d0_188 : Dc code 188 (.iload 7) 2 190 := ⟨at_188, rfl⟩
theorem d0_190 : Dc code 190 (.aload 5) 2 192 := ⟨at_190, rfl⟩
theorem d0_192 : Dc code 192 (.iconst 4) 1 193 := ⟨at_192, rfl⟩
theorem d0_193 : Dc code 193 (.baload) 1 194 := ⟨at_193, rfl⟩
theorem d0_194 : Dc code 194 (.invokestatic 19) 3 197 := ⟨at_194, rfl⟩
theorem d0_197 : Dc code 197 (.istore 7) 2 199 := ⟨at_197, rfl⟩
theorem d0_199 : Dc code 199 (.iload 6) 2 201 := ⟨at_199, rfl⟩
theorem d0_201 : Dj code 201 (.ifCond .eq 18) 18 3 204 219 := ⟨at_201, rfl, by decide, by decide⟩
theorem d0_204 : Dc code 204 (.iload 7) 2 206 := ⟨at_204, rfl⟩
theorem d0_206 : Dc code 206 (.aload 5) 2 208 := ⟨at_206, rfl⟩
theorem d0_208 : Dc code 208 (.iconst 5) 1 209 := ⟨at_208, rfl⟩
theorem d0_209 : Dc code 209 (.invokestatic 25) 3 212 := ⟨at_209, rfl⟩
theorem d0_212 : Dj code 212 (.if_icmp .ne 7) 7 3 215 219 := ⟨at_212, rfl, by decide, by decide⟩
theorem d0_215 : Dc code 215 (.iconst 1) 1 216 := ⟨at_215, rfl⟩
theorem d0_216 : Dj code 216 (.goto 4) 4 3 219 220 := ⟨at_216, rfl, by decide, by decide⟩
theorem d0_220 : Dc code 220 (.istore 6) 2 222 := ⟨at_220, rfl⟩
theorem d0_222 : Dc code 222 (.iload 6) 2 224 := ⟨at_222, rfl⟩
theorem d0_224 : Dc code 224 (.ireturn) 1 225 := ⟨at_224, rfl⟩
theorem own_arr3 {Z : State} {args : Array Value} {t : Term} {a : Addr} {cl : Cell} {x y z : Int32} (hf : Fit Z) (A : Arr Z Z.heap a cl .byte) (ev : t.eval args Z none [] Z = some (.ref a)) (hl : (Term.length t).eval args Z none [] Z = some (.int 3))
    (h0 : (Term.elem t (.int 0)).eval args Z none [] Z = some (.int x)) (h1 : (Term.elem t (.int 1)).eval args Z none [] Z = some (.int y)) (h2 : (Term.elem t (.int 2)).eval args Z none [] Z = some (.int z)) : Arv Z Z.heap a cl.cls .byte 3 [.int x, .int y, .int z] (.int 0) :=
  arr_start (vs := [.int x, .int y, .int z]) (.int 0) hf A ev hl (by decide) rfl ⟨elem_start A ev h0, elem_start A ev h1, elem_start A ev h2, trivial⟩
set_option maxRecDepth 100000 in
theorem own_fin1 : ∀ c0 c1 c2 c3 c4 : Fin 5, (mtF 0 (own_rep c0)) = eF 1 [own_rep c0, own_rep c1, own_rep c2, own_rep c3, own_rep c4] := by decide +kernel
theorem own_law1 (b0 b1 b2 b3 b4 : Int32) : (mtF 0 b0) = eF 1 [b0, b1, b2, b3, b4] := by
  rw [own_eF]
  have h := own_fin1 (own_ix b0) (own_ix b1) (own_ix b2) (own_ix b3) (own_ix b4)
  rw [own_mt _ b0]
  exact h
set_option maxRecDepth 100000 in
theorem own_fin2 : ∀ c0 c1 c2 c3 c4 : Fin 5, (mtF (mtF 0 (own_rep c0)) (own_rep c1)) = eF 2 [own_rep c0, own_rep c1, own_rep c2, own_rep c3, own_rep c4] := by decide +kernel
theorem own_law2 (b0 b1 b2 b3 b4 : Int32) : (mtF (mtF 0 b0) b1) = eF 2 [b0, b1, b2, b3, b4] := by
  rw [own_eF]
  have h := own_fin2 (own_ix b0) (own_ix b1) (own_ix b2) (own_ix b3) (own_ix b4)
  rw [own_mt _ b0, own_mt _ b1]
  exact h
set_option maxRecDepth 100000 in
theorem own_fin3 : ∀ c0 c1 c2 c3 c4 : Fin 5, (mtF (mtF (mtF 0 (own_rep c0)) (own_rep c1)) (own_rep c2)) = eF 3 [own_rep c0, own_rep c1, own_rep c2, own_rep c3, own_rep c4] := by decide +kernel
theorem own_law3 (b0 b1 b2 b3 b4 : Int32) : (mtF (mtF (mtF 0 b0) b1) b2) = eF 3 [b0, b1, b2, b3, b4] := by
  rw [own_eF]
  have h := own_fin3 (own_ix b0) (own_ix b1) (own_ix b2) (own_ix b3) (own_ix b4)
  rw [own_mt _ b0, own_mt _ b1, own_mt _ b2]
  exact h
set_option maxRecDepth 100000 in
theorem own_fin4 : ∀ c0 c1 c2 c3 c4 : Fin 5, (mtF (mtF (mtF (mtF 0 (own_rep c0)) (own_rep c1)) (own_rep c2)) (own_rep c3)) = eF 4 [own_rep c0, own_rep c1, own_rep c2, own_rep c3, own_rep c4] := by decide +kernel
theorem own_law4 (b0 b1 b2 b3 b4 : Int32) : (mtF (mtF (mtF (mtF 0 b0) b1) b2) b3) = eF 4 [b0, b1, b2, b3, b4] := by
  rw [own_eF]
  have h := own_fin4 (own_ix b0) (own_ix b1) (own_ix b2) (own_ix b3) (own_ix b4)
  rw [own_mt _ b0, own_mt _ b1, own_mt _ b2, own_mt _ b3]
  exact h
set_option maxRecDepth 100000 in
theorem own_fin5 : ∀ c0 c1 c2 c3 c4 : Fin 5, (mtF (mtF (mtF (mtF (mtF 0 (own_rep c0)) (own_rep c1)) (own_rep c2)) (own_rep c3)) (own_rep c4)) = eF 5 [own_rep c0, own_rep c1, own_rep c2, own_rep c3, own_rep c4] := by decide +kernel
theorem own_law5 (b0 b1 b2 b3 b4 : Int32) : (mtF (mtF (mtF (mtF (mtF 0 b0) b1) b2) b3) b4) = eF 5 [b0, b1, b2, b3, b4] := by
  rw [own_eF]
  have h := own_fin5 (own_ix b0) (own_ix b1) (own_ix b2) (own_ix b3) (own_ix b4)
  rw [own_mt _ b0, own_mt _ b1, own_mt _ b2, own_mt _ b3, own_mt _ b4]
  exact h
set_option maxRecDepth 65536 in
set_option maxHeartbeats 40000000 in
theorem rm0 (l : Launch) {Z : State} {a0 : Array Value} (hw : ∀ d ∈ tables_1, d.before a0 Z = true) {h : Heap} (hE : Ext Z.heap h) (p0 : Int32) (p1 : Int32) (p2 : Int32) (p3 : Int32) (p4 : Int32) (tg : Addr) (kt : ClassId) (hS : Sta Z Z.heap "com/example/halyard/halyard/fix/FixMessage" "CHECK_SUM_TAG" "[B" (.ref tg)) (hV : Arv Z Z.heap tg kt .byte 3 [.int 49, .int 48, .int 61] (.int 0)) :
    Con l x code maxLocals ret tables_1 room_1 Z #[(.int p0), (.int p1), (.int p2), (.int p3), (.int p4)] h (fun v' h' => v' = some (.int 1)) := by
  refine con_of (plainFor_of_name pn_0) hE (fun m => ef_rm0 m p0 p1 p2 p3 p4) ?_
  intro p e s m below meth c T0 C X0
  have C : Cx p s m meth c Z "com/example/halyard/halyard/fix/FixMessageMatchCheckSumTagPinLaw" "law" code maxLocals ret := C
  show Goes p e below _ T0 (mkF m 0 #[.val (.int p0), .val (.int p1), .val (.int p2), .val (.int p3), .val (.int p4), .unset, .unset, .unset] [])
  refine g_iconst (5 : Int32) C X0 d0_0 rfl ?_
  refine g_newarray C X0 (wd hw 0 rfl) d0_1 (by decide) 5 (by decide) (by decide) (by decide) (by decide) (fun T1001 h1001 b1001 k_b1001 g_b1001 n_b1001 X1001 E1001 V1001 => ?_)
  have V_b1001 : Arv Z h1001 b1001 k_b1001 .byte (5 : Int32) [(.int (0 : Int32)), (.int (0 : Int32)), (.int (0 : Int32)), (.int (0 : Int32)), (.int (0 : Int32))] (.int (0 : Int32)) := V1001
  refine g_astore C X1001 d0_3 rfl (l' := #[.val (.int p0), .val (.int p1), .val (.int p2), .val (.int p3), .val (.int p4), .val (.ref b1001), .unset, .unset]) rfl ?_
  refine g_aload C X1001 d0_5 rfl rfl ?_
  refine g_iconst (0 : Int32) C X1001 d0_7 rfl ?_
  refine g_iloadN C X1001 d0_8 rfl ?_
  refine g_static (argsL := [(.int p0)]) (st := [(.int (0 : Int32)), (.ref b1001)]) C X1001 (wd hw 1 rfl) (wd hw 2 rfl) (wd hw 3 rfl) (wd hw 4 rfl) (by decide) (pay_of (W' := 2) (rm1 l hw X1001.ext p0) C.hZ (wd hw 4 rfl) (wd hw 3 rfl) (by decide) (by decide)) pd_1 rfl rfl _ rfl (Nat.le_of_eq rfl) d0_9 (by decide) (by decide) (fun T1002 h1002 v1002 q1002 X1002 => ?_)
  obtain ⟨b0_, rfl, e1002⟩ := q1002
  subst e1002
  show Goes p e below _ T1002 (mkF m 12 #[.val (.int p0), .val (.int p1), .val (.int p2), .val (.int p3), .val (.int p4), .val (.ref b1001), .unset, .unset] [(.int b0_), (.int (0 : Int32)), (.ref b1001)])
  refine g_bastore C X1002 V_b1001 n_b1001 d0_12 (by decide) (by decide) (Nat.le_of_ble_eq_true rfl) (.int (nar .byte b0_)) rfl (fun T1003 h1003 X1003 W1003 V1003 => ?_)
  have V1003_b1001 : Arv Z h1003 b1001 k_b1001 .byte (5 : Int32) [(.int (nar .byte b0_)), (.int (0 : Int32)), (.int (0 : Int32)), (.int (0 : Int32)), (.int (0 : Int32))] (.int (0 : Int32)) := V1003
  refine g_aload C X1003 d0_13 rfl rfl ?_
  refine g_iconst (1 : Int32) C X1003 d0_15 rfl ?_
  refine g_iloadN C X1003 d0_16 rfl ?_
  refine g_static (argsL := [(.int p1)]) (st := [(.int (1 : Int32)), (.ref b1001)]) C X1003 (wd hw 1 rfl) (wd hw 2 rfl) (wd hw 3 rfl) (wd hw 4 rfl) (by decide) (pay_of (W' := 2) (rm1 l hw X1003.ext p1) C.hZ (wd hw 4 rfl) (wd hw 3 rfl) (by decide) (by decide)) pd_1 rfl rfl _ rfl (Nat.le_of_eq rfl) d0_17 (by decide) (by decide) (fun T1004 h1004 v1004 q1004 X1004 => ?_)
  obtain ⟨b1_, rfl, e1004⟩ := q1004
  subst e1004
  show Goes p e below _ T1004 (mkF m 20 #[.val (.int p0), .val (.int p1), .val (.int p2), .val (.int p3), .val (.int p4), .val (.ref b1001), .unset, .unset] [(.int b1_), (.int (1 : Int32)), (.ref b1001)])
  refine g_bastore C X1004 V1003_b1001 n_b1001 d0_20 (by decide) (by decide) (Nat.le_of_ble_eq_true rfl) (.int (nar .byte b1_)) rfl (fun T1005 h1005 X1005 W1005 V1005 => ?_)
  have V1005_b1001 : Arv Z h1005 b1001 k_b1001 .byte (5 : Int32) [(.int (nar .byte b0_)), (.int (nar .byte b1_)), (.int (0 : Int32)), (.int (0 : Int32)), (.int (0 : Int32))] (.int (0 : Int32)) := V1005
  refine g_aload C X1005 d0_21 rfl rfl ?_
  refine g_iconst (2 : Int32) C X1005 d0_23 rfl ?_
  refine g_iloadN C X1005 d0_24 rfl ?_
  refine g_static (argsL := [(.int p2)]) (st := [(.int (2 : Int32)), (.ref b1001)]) C X1005 (wd hw 1 rfl) (wd hw 2 rfl) (wd hw 3 rfl) (wd hw 4 rfl) (by decide) (pay_of (W' := 2) (rm1 l hw X1005.ext p2) C.hZ (wd hw 4 rfl) (wd hw 3 rfl) (by decide) (by decide)) pd_1 rfl rfl _ rfl (Nat.le_of_eq rfl) d0_25 (by decide) (by decide) (fun T1006 h1006 v1006 q1006 X1006 => ?_)
  obtain ⟨b2_, rfl, e1006⟩ := q1006
  subst e1006
  show Goes p e below _ T1006 (mkF m 28 #[.val (.int p0), .val (.int p1), .val (.int p2), .val (.int p3), .val (.int p4), .val (.ref b1001), .unset, .unset] [(.int b2_), (.int (2 : Int32)), (.ref b1001)])
  refine g_bastore C X1006 V1005_b1001 n_b1001 d0_28 (by decide) (by decide) (Nat.le_of_ble_eq_true rfl) (.int (nar .byte b2_)) rfl (fun T1007 h1007 X1007 W1007 V1007 => ?_)
  have V1007_b1001 : Arv Z h1007 b1001 k_b1001 .byte (5 : Int32) [(.int (nar .byte b0_)), (.int (nar .byte b1_)), (.int (nar .byte b2_)), (.int (0 : Int32)), (.int (0 : Int32))] (.int (0 : Int32)) := V1007
  refine g_aload C X1007 d0_29 rfl rfl ?_
  refine g_iconst (3 : Int32) C X1007 d0_31 rfl ?_
  refine g_iloadN C X1007 d0_32 rfl ?_
  refine g_static (argsL := [(.int p3)]) (st := [(.int (3 : Int32)), (.ref b1001)]) C X1007 (wd hw 1 rfl) (wd hw 2 rfl) (wd hw 3 rfl) (wd hw 4 rfl) (by decide) (pay_of (W' := 2) (rm1 l hw X1007.ext p3) C.hZ (wd hw 4 rfl) (wd hw 3 rfl) (by decide) (by decide)) pd_1 rfl rfl _ rfl (Nat.le_of_eq rfl) d0_33 (by decide) (by decide) (fun T1008 h1008 v1008 q1008 X1008 => ?_)
  obtain ⟨b3_, rfl, e1008⟩ := q1008
  subst e1008
  show Goes p e below _ T1008 (mkF m 36 #[.val (.int p0), .val (.int p1), .val (.int p2), .val (.int p3), .val (.int p4), .val (.ref b1001), .unset, .unset] [(.int b3_), (.int (3 : Int32)), (.ref b1001)])
  refine g_bastore C X1008 V1007_b1001 n_b1001 d0_36 (by decide) (by decide) (Nat.le_of_ble_eq_true rfl) (.int (nar .byte b3_)) rfl (fun T1009 h1009 X1009 W1009 V1009 => ?_)
  have V1009_b1001 : Arv Z h1009 b1001 k_b1001 .byte (5 : Int32) [(.int (nar .byte b0_)), (.int (nar .byte b1_)), (.int (nar .byte b2_)), (.int (nar .byte b3_)), (.int (0 : Int32))] (.int (0 : Int32)) := V1009
  refine g_aload C X1009 d0_37 rfl rfl ?_
  refine g_iconst (4 : Int32) C X1009 d0_39 rfl ?_
  refine g_iload C X1009 d0_40 rfl ?_
  refine g_static (argsL := [(.int p4)]) (st := [(.int (4 : Int32)), (.ref b1001)]) C X1009 (wd hw 1 rfl) (wd hw 2 rfl) (wd hw 3 rfl) (wd hw 4 rfl) (by decide) (pay_of (W' := 2) (rm1 l hw X1009.ext p4) C.hZ (wd hw 4 rfl) (wd hw 3 rfl) (by decide) (by decide)) pd_1 rfl rfl _ rfl (Nat.le_of_eq rfl) d0_42 (by decide) (by decide) (fun T1010 h1010 v1010 q1010 X1010 => ?_)
  obtain ⟨b4_, rfl, e1010⟩ := q1010
  subst e1010
  show Goes p e below _ T1010 (mkF m 45 #[.val (.int p0), .val (.int p1), .val (.int p2), .val (.int p3), .val (.int p4), .val (.ref b1001), .unset, .unset] [(.int b4_), (.int (4 : Int32)), (.ref b1001)])
  refine g_bastore C X1010 V1009_b1001 n_b1001 d0_45 (by decide) (by decide) (Nat.le_of_ble_eq_true rfl) (.int (nar .byte b4_)) rfl (fun T1011 h1011 X1011 W1011 V1011 => ?_)
  have V1011_b1001 : Arv Z h1011 b1001 k_b1001 .byte (5 : Int32) [(.int (nar .byte b0_)), (.int (nar .byte b1_)), (.int (nar .byte b2_)), (.int (nar .byte b3_)), (.int (nar .byte b4_))] (.int (0 : Int32)) := V1011
  refine g_iconst (1 : Int32) C X1011 d0_46 rfl ?_
  refine g_istore C X1011 d0_47 (l' := #[.val (.int p0), .val (.int p1), .val (.int p2), .val (.int p3), .val (.int p4), .val (.ref b1001), .val (.int (1 : Int32)), .unset]) rfl ?_
  refine g_iconst (0 : Int32) C X1011 d0_49 rfl ?_
  refine g_istore C X1011 d0_50 (l' := #[.val (.int p0), .val (.int p1), .val (.int p2), .val (.int p3), .val (.int p4), .val (.ref b1001), .val (.int (1 : Int32)), .val (.int (0 : Int32))]) rfl ?_
  refine g_iload C X1011 d0_52 rfl ?_
  refine g_aload C X1011 d0_54 rfl rfl ?_
  refine g_iconst (0 : Int32) C X1011 d0_56 rfl ?_
  refine g_baload C X1011 V1011_b1001 d0_57 (by decide) (by decide) rfl ?_
  refine g_staticP (argsL := [(.int (0 : Int32)), (.int (nar .byte b0_))]) (st := []) C X1011 (wd hw 5 rfl) (wd hw 6 rfl) (wd hw 7 rfl) (wd hw 8 rfl) (by decide) (pay_of (W' := 0) (rm2 l hw X1011.ext (0 : Int32) (nar .byte b0_) tg kt hS hV) C.hZ (wd hw 8 rfl) (wd hw 7 rfl) (by decide) (by decide)) pd_2 rfl rfl _ rfl (Nat.le_of_eq rfl) d0_58 (by decide) (by decide) (fun T1012 X1012 => ?_)
  show Goes p e below _ T1012 (mkF m 61 #[.val (.int p0), .val (.int p1), .val (.int p2), .val (.int p3), .val (.int p4), .val (.ref b1001), .val (.int (1 : Int32)), .val (.int (0 : Int32))] [(.int (mtF (0 : Int32) (nar .byte b0_)))])
  refine g_istore C X1012 d0_61 (l' := #[.val (.int p0), .val (.int p1), .val (.int p2), .val (.int p3), .val (.int p4), .val (.ref b1001), .val (.int (1 : Int32)), .val (.int (mtF (0 : Int32) (nar .byte b0_)))]) rfl ?_
  refine g_iload C X1012 d0_63 rfl ?_
  refine g_if (h0_eq _) C X1012 d0_65 (fun q => absurd q (by decide)) (fun _ => ?_)
  refine g_iload C X1012 d0_68 rfl ?_
  refine g_aload C X1012 d0_70 rfl rfl ?_
  refine g_iconst (1 : Int32) C X1012 d0_72 rfl ?_
  refine g_staticP (argsL := [(.ref b1001), (.int (1 : Int32))]) (st := [(.int (mtF (0 : Int32) (nar .byte b0_)))]) C X1012 (wd hw 9 rfl) (wd hw 10 rfl) (wd hw 3 rfl) (wd hw 11 rfl) (by decide) (pay_of (W' := 1) (rm3 l hw X1012.ext b1001 (1 : Int32) k_b1001 [(nar .byte b0_), (nar .byte b1_), (nar .byte b2_), (nar .byte b3_), (nar .byte b4_)] V1011_b1001 (by decide)) C.hZ (wd hw 11 rfl) (wd hw 3 rfl) (by decide) (by decide)) pd_3 rfl rfl _ rfl (Nat.le_of_eq rfl) d0_73 (by decide) (by decide) (fun T1013 X1013 => ?_)
  show Goes p e below _ T1013 (mkF m 76 #[.val (.int p0), .val (.int p1), .val (.int p2), .val (.int p3), .val (.int p4), .val (.ref b1001), .val (.int (1 : Int32)), .val (.int (mtF (0 : Int32) (nar .byte b0_)))] [(.int (eF (1 : Int32) [(nar .byte b0_), (nar .byte b1_), (nar .byte b2_), (nar .byte b3_), (nar .byte b4_)])), (.int (mtF (0 : Int32) (nar .byte b0_)))])
  refine g_icmpn (hI_ne _ _) C X1013 d0_76 (fun q => absurd (own_law1 (nar .byte b0_) (nar .byte b1_) (nar .byte b2_) (nar .byte b3_) (nar .byte b4_)) q) (fun _ => ?_)
  refine g_iconst (1 : Int32) C X1013 d0_79 rfl ?_
  refine g_goto C X1013 d0_80 ?_
  refine g_istore C X1013 d0_84 (l' := #[.val (.int p0), .val (.int p1), .val (.int p2), .val (.int p3), .val (.int p4), .val (.ref b1001), .val (.int (1 : Int32)), .val (.int (mtF (0 : Int32) (nar .byte b0_)))]) rfl ?_
  refine g_iload C X1013 d0_86 rfl ?_
  refine g_aload C X1013 d0_88 rfl rfl ?_
  refine g_iconst (1 : Int32) C X1013 d0_90 rfl ?_
  refine g_baload C X1013 V1011_b1001 d0_91 (by decide) (by decide) rfl ?_
  refine g_staticP (argsL := [(.int (mtF (0 : Int32) (nar .byte b0_))), (.int (nar .byte b1_))]) (st := []) C X1013 (wd hw 5 rfl) (wd hw 6 rfl) (wd hw 7 rfl) (wd hw 8 rfl) (by decide) (pay_of (W' := 0) (rm2 l hw X1013.ext (mtF (0 : Int32) (nar .byte b0_)) (nar .byte b1_) tg kt hS hV) C.hZ (wd hw 8 rfl) (wd hw 7 rfl) (by decide) (by decide)) pd_2 rfl rfl _ rfl (Nat.le_of_eq rfl) d0_92 (by decide) (by decide) (fun T1014 X1014 => ?_)
  show Goes p e below _ T1014 (mkF m 95 #[.val (.int p0), .val (.int p1), .val (.int p2), .val (.int p3), .val (.int p4), .val (.ref b1001), .val (.int (1 : Int32)), .val (.int (mtF (0 : Int32) (nar .byte b0_)))] [(.int (mtF (mtF (0 : Int32) (nar .byte b0_)) (nar .byte b1_)))])
  refine g_istore C X1014 d0_95 (l' := #[.val (.int p0), .val (.int p1), .val (.int p2), .val (.int p3), .val (.int p4), .val (.ref b1001), .val (.int (1 : Int32)), .val (.int (mtF (mtF (0 : Int32) (nar .byte b0_)) (nar .byte b1_)))]) rfl ?_
  refine g_iload C X1014 d0_97 rfl ?_
  refine g_if (h0_eq _) C X1014 d0_99 (fun q => absurd q (by decide)) (fun _ => ?_)
  refine g_iload C X1014 d0_102 rfl ?_
  refine g_aload C X1014 d0_104 rfl rfl ?_
  refine g_iconst (2 : Int32) C X1014 d0_106 rfl ?_
  refine g_staticP (argsL := [(.ref b1001), (.int (2 : Int32))]) (st := [(.int (mtF (mtF (0 : Int32) (nar .byte b0_)) (nar .byte b1_)))]) C X1014 (wd hw 9 rfl) (wd hw 10 rfl) (wd hw 3 rfl) (wd hw 11 rfl) (by decide) (pay_of (W' := 1) (rm3 l hw X1014.ext b1001 (2 : Int32) k_b1001 [(nar .byte b0_), (nar .byte b1_), (nar .byte b2_), (nar .byte b3_), (nar .byte b4_)] V1011_b1001 (by decide)) C.hZ (wd hw 11 rfl) (wd hw 3 rfl) (by decide) (by decide)) pd_3 rfl rfl _ rfl (Nat.le_of_eq rfl) d0_107 (by decide) (by decide) (fun T1015 X1015 => ?_)
  show Goes p e below _ T1015 (mkF m 110 #[.val (.int p0), .val (.int p1), .val (.int p2), .val (.int p3), .val (.int p4), .val (.ref b1001), .val (.int (1 : Int32)), .val (.int (mtF (mtF (0 : Int32) (nar .byte b0_)) (nar .byte b1_)))] [(.int (eF (2 : Int32) [(nar .byte b0_), (nar .byte b1_), (nar .byte b2_), (nar .byte b3_), (nar .byte b4_)])), (.int (mtF (mtF (0 : Int32) (nar .byte b0_)) (nar .byte b1_)))])
  refine g_icmpn (hI_ne _ _) C X1015 d0_110 (fun q => absurd (own_law2 (nar .byte b0_) (nar .byte b1_) (nar .byte b2_) (nar .byte b3_) (nar .byte b4_)) q) (fun _ => ?_)
  refine g_iconst (1 : Int32) C X1015 d0_113 rfl ?_
  refine g_goto C X1015 d0_114 ?_
  refine g_istore C X1015 d0_118 (l' := #[.val (.int p0), .val (.int p1), .val (.int p2), .val (.int p3), .val (.int p4), .val (.ref b1001), .val (.int (1 : Int32)), .val (.int (mtF (mtF (0 : Int32) (nar .byte b0_)) (nar .byte b1_)))]) rfl ?_
  refine g_iload C X1015 d0_120 rfl ?_
  refine g_aload C X1015 d0_122 rfl rfl ?_
  refine g_iconst (2 : Int32) C X1015 d0_124 rfl ?_
  refine g_baload C X1015 V1011_b1001 d0_125 (by decide) (by decide) rfl ?_
  refine g_staticP (argsL := [(.int (mtF (mtF (0 : Int32) (nar .byte b0_)) (nar .byte b1_))), (.int (nar .byte b2_))]) (st := []) C X1015 (wd hw 5 rfl) (wd hw 6 rfl) (wd hw 7 rfl) (wd hw 8 rfl) (by decide) (pay_of (W' := 0) (rm2 l hw X1015.ext (mtF (mtF (0 : Int32) (nar .byte b0_)) (nar .byte b1_)) (nar .byte b2_) tg kt hS hV) C.hZ (wd hw 8 rfl) (wd hw 7 rfl) (by decide) (by decide)) pd_2 rfl rfl _ rfl (Nat.le_of_eq rfl) d0_126 (by decide) (by decide) (fun T1016 X1016 => ?_)
  show Goes p e below _ T1016 (mkF m 129 #[.val (.int p0), .val (.int p1), .val (.int p2), .val (.int p3), .val (.int p4), .val (.ref b1001), .val (.int (1 : Int32)), .val (.int (mtF (mtF (0 : Int32) (nar .byte b0_)) (nar .byte b1_)))] [(.int (mtF (mtF (mtF (0 : Int32) (nar .byte b0_)) (nar .byte b1_)) (nar .byte b2_)))])
  refine g_istore C X1016 d0_129 (l' := #[.val (.int p0), .val (.int p1), .val (.int p2), .val (.int p3), .val (.int p4), .val (.ref b1001), .val (.int (1 : Int32)), .val (.int (mtF (mtF (mtF (0 : Int32) (nar .byte b0_)) (nar .byte b1_)) (nar .byte b2_)))]) rfl ?_
  refine g_iload C X1016 d0_131 rfl ?_
  refine g_if (h0_eq _) C X1016 d0_133 (fun q => absurd q (by decide)) (fun _ => ?_)
  refine g_iload C X1016 d0_136 rfl ?_
  refine g_aload C X1016 d0_138 rfl rfl ?_
  refine g_iconst (3 : Int32) C X1016 d0_140 rfl ?_
  refine g_staticP (argsL := [(.ref b1001), (.int (3 : Int32))]) (st := [(.int (mtF (mtF (mtF (0 : Int32) (nar .byte b0_)) (nar .byte b1_)) (nar .byte b2_)))]) C X1016 (wd hw 9 rfl) (wd hw 10 rfl) (wd hw 3 rfl) (wd hw 11 rfl) (by decide) (pay_of (W' := 1) (rm3 l hw X1016.ext b1001 (3 : Int32) k_b1001 [(nar .byte b0_), (nar .byte b1_), (nar .byte b2_), (nar .byte b3_), (nar .byte b4_)] V1011_b1001 (by decide)) C.hZ (wd hw 11 rfl) (wd hw 3 rfl) (by decide) (by decide)) pd_3 rfl rfl _ rfl (Nat.le_of_eq rfl) d0_141 (by decide) (by decide) (fun T1017 X1017 => ?_)
  show Goes p e below _ T1017 (mkF m 144 #[.val (.int p0), .val (.int p1), .val (.int p2), .val (.int p3), .val (.int p4), .val (.ref b1001), .val (.int (1 : Int32)), .val (.int (mtF (mtF (mtF (0 : Int32) (nar .byte b0_)) (nar .byte b1_)) (nar .byte b2_)))] [(.int (eF (3 : Int32) [(nar .byte b0_), (nar .byte b1_), (nar .byte b2_), (nar .byte b3_), (nar .byte b4_)])), (.int (mtF (mtF (mtF (0 : Int32) (nar .byte b0_)) (nar .byte b1_)) (nar .byte b2_)))])
  refine g_icmpn (hI_ne _ _) C X1017 d0_144 (fun q => absurd (own_law3 (nar .byte b0_) (nar .byte b1_) (nar .byte b2_) (nar .byte b3_) (nar .byte b4_)) q) (fun _ => ?_)
  refine g_iconst (1 : Int32) C X1017 d0_147 rfl ?_
  refine g_goto C X1017 d0_148 ?_
  refine g_istore C X1017 d0_152 (l' := #[.val (.int p0), .val (.int p1), .val (.int p2), .val (.int p3), .val (.int p4), .val (.ref b1001), .val (.int (1 : Int32)), .val (.int (mtF (mtF (mtF (0 : Int32) (nar .byte b0_)) (nar .byte b1_)) (nar .byte b2_)))]) rfl ?_
  refine g_iload C X1017 d0_154 rfl ?_
  refine g_aload C X1017 d0_156 rfl rfl ?_
  refine g_iconst (3 : Int32) C X1017 d0_158 rfl ?_
  refine g_baload C X1017 V1011_b1001 d0_159 (by decide) (by decide) rfl ?_
  refine g_staticP (argsL := [(.int (mtF (mtF (mtF (0 : Int32) (nar .byte b0_)) (nar .byte b1_)) (nar .byte b2_))), (.int (nar .byte b3_))]) (st := []) C X1017 (wd hw 5 rfl) (wd hw 6 rfl) (wd hw 7 rfl) (wd hw 8 rfl) (by decide) (pay_of (W' := 0) (rm2 l hw X1017.ext (mtF (mtF (mtF (0 : Int32) (nar .byte b0_)) (nar .byte b1_)) (nar .byte b2_)) (nar .byte b3_) tg kt hS hV) C.hZ (wd hw 8 rfl) (wd hw 7 rfl) (by decide) (by decide)) pd_2 rfl rfl _ rfl (Nat.le_of_eq rfl) d0_160 (by decide) (by decide) (fun T1018 X1018 => ?_)
  show Goes p e below _ T1018 (mkF m 163 #[.val (.int p0), .val (.int p1), .val (.int p2), .val (.int p3), .val (.int p4), .val (.ref b1001), .val (.int (1 : Int32)), .val (.int (mtF (mtF (mtF (0 : Int32) (nar .byte b0_)) (nar .byte b1_)) (nar .byte b2_)))] [(.int (mtF (mtF (mtF (mtF (0 : Int32) (nar .byte b0_)) (nar .byte b1_)) (nar .byte b2_)) (nar .byte b3_)))])
  refine g_istore C X1018 d0_163 (l' := #[.val (.int p0), .val (.int p1), .val (.int p2), .val (.int p3), .val (.int p4), .val (.ref b1001), .val (.int (1 : Int32)), .val (.int (mtF (mtF (mtF (mtF (0 : Int32) (nar .byte b0_)) (nar .byte b1_)) (nar .byte b2_)) (nar .byte b3_)))]) rfl ?_
  refine g_iload C X1018 d0_165 rfl ?_
  refine g_if (h0_eq _) C X1018 d0_167 (fun q => absurd q (by decide)) (fun _ => ?_)
  refine g_iload C X1018 d0_170 rfl ?_
  refine g_aload C X1018 d0_172 rfl rfl ?_
  refine g_iconst (4 : Int32) C X1018 d0_174 rfl ?_
  refine g_staticP (argsL := [(.ref b1001), (.int (4 : Int32))]) (st := [(.int (mtF (mtF (mtF (mtF (0 : Int32) (nar .byte b0_)) (nar .byte b1_)) (nar .byte b2_)) (nar .byte b3_)))]) C X1018 (wd hw 9 rfl) (wd hw 10 rfl) (wd hw 3 rfl) (wd hw 11 rfl) (by decide) (pay_of (W' := 1) (rm3 l hw X1018.ext b1001 (4 : Int32) k_b1001 [(nar .byte b0_), (nar .byte b1_), (nar .byte b2_), (nar .byte b3_), (nar .byte b4_)] V1011_b1001 (by decide)) C.hZ (wd hw 11 rfl) (wd hw 3 rfl) (by decide) (by decide)) pd_3 rfl rfl _ rfl (Nat.le_of_eq rfl) d0_175 (by decide) (by decide) (fun T1019 X1019 => ?_)
  show Goes p e below _ T1019 (mkF m 178 #[.val (.int p0), .val (.int p1), .val (.int p2), .val (.int p3), .val (.int p4), .val (.ref b1001), .val (.int (1 : Int32)), .val (.int (mtF (mtF (mtF (mtF (0 : Int32) (nar .byte b0_)) (nar .byte b1_)) (nar .byte b2_)) (nar .byte b3_)))] [(.int (eF (4 : Int32) [(nar .byte b0_), (nar .byte b1_), (nar .byte b2_), (nar .byte b3_), (nar .byte b4_)])), (.int (mtF (mtF (mtF (mtF (0 : Int32) (nar .byte b0_)) (nar .byte b1_)) (nar .byte b2_)) (nar .byte b3_)))])
  refine g_icmpn (hI_ne _ _) C X1019 d0_178 (fun q => absurd (own_law4 (nar .byte b0_) (nar .byte b1_) (nar .byte b2_) (nar .byte b3_) (nar .byte b4_)) q) (fun _ => ?_)
  refine g_iconst (1 : Int32) C X1019 d0_181 rfl ?_
  refine g_goto C X1019 d0_182 ?_
  refine g_istore C X1019 d0_186 (l' := #[.val (.int p0), .val (.int p1), .val (.int p2), .val (.int p3), .val (.int p4), .val (.ref b1001), .val (.int (1 : Int32)), .val (.int (mtF (mtF (mtF (mtF (0 : Int32) (nar .byte b0_)) (nar .byte b1_)) (nar .byte b2_)) (nar .byte b3_)))]) rfl ?_
  refine g_iload C X1019 d0_188 rfl ?_
  refine g_aload C X1019 d0_190 rfl rfl ?_
  refine g_iconst (4 : Int32) C X1019 d0_192 rfl ?_
  refine g_baload C X1019 V1011_b1001 d0_193 (by decide) (by decide) rfl ?_
  refine g_staticP (argsL := [(.int (mtF (mtF (mtF (mtF (0 : Int32) (nar .byte b0_)) (nar .byte b1_)) (nar .byte b2_)) (nar .byte b3_))), (.int (nar .byte b4_))]) (st := []) C X1019 (wd hw 5 rfl) (wd hw 6 rfl) (wd hw 7 rfl) (wd hw 8 rfl) (by decide) (pay_of (W' := 0) (rm2 l hw X1019.ext (mtF (mtF (mtF (mtF (0 : Int32) (nar .byte b0_)) (nar .byte b1_)) (nar .byte b2_)) (nar .byte b3_)) (nar .byte b4_) tg kt hS hV) C.hZ (wd hw 8 rfl) (wd hw 7 rfl) (by decide) (by decide)) pd_2 rfl rfl _ rfl (Nat.le_of_eq rfl) d0_194 (by decide) (by decide) (fun T1020 X1020 => ?_)
  show Goes p e below _ T1020 (mkF m 197 #[.val (.int p0), .val (.int p1), .val (.int p2), .val (.int p3), .val (.int p4), .val (.ref b1001), .val (.int (1 : Int32)), .val (.int (mtF (mtF (mtF (mtF (0 : Int32) (nar .byte b0_)) (nar .byte b1_)) (nar .byte b2_)) (nar .byte b3_)))] [(.int (mtF (mtF (mtF (mtF (mtF (0 : Int32) (nar .byte b0_)) (nar .byte b1_)) (nar .byte b2_)) (nar .byte b3_)) (nar .byte b4_)))])
  refine g_istore C X1020 d0_197 (l' := #[.val (.int p0), .val (.int p1), .val (.int p2), .val (.int p3), .val (.int p4), .val (.ref b1001), .val (.int (1 : Int32)), .val (.int (mtF (mtF (mtF (mtF (mtF (0 : Int32) (nar .byte b0_)) (nar .byte b1_)) (nar .byte b2_)) (nar .byte b3_)) (nar .byte b4_)))]) rfl ?_
  refine g_iload C X1020 d0_199 rfl ?_
  refine g_if (h0_eq _) C X1020 d0_201 (fun q => absurd q (by decide)) (fun _ => ?_)
  refine g_iload C X1020 d0_204 rfl ?_
  refine g_aload C X1020 d0_206 rfl rfl ?_
  refine g_iconst (5 : Int32) C X1020 d0_208 rfl ?_
  refine g_staticP (argsL := [(.ref b1001), (.int (5 : Int32))]) (st := [(.int (mtF (mtF (mtF (mtF (mtF (0 : Int32) (nar .byte b0_)) (nar .byte b1_)) (nar .byte b2_)) (nar .byte b3_)) (nar .byte b4_)))]) C X1020 (wd hw 9 rfl) (wd hw 10 rfl) (wd hw 3 rfl) (wd hw 11 rfl) (by decide) (pay_of (W' := 1) (rm3 l hw X1020.ext b1001 (5 : Int32) k_b1001 [(nar .byte b0_), (nar .byte b1_), (nar .byte b2_), (nar .byte b3_), (nar .byte b4_)] V1011_b1001 (by decide)) C.hZ (wd hw 11 rfl) (wd hw 3 rfl) (by decide) (by decide)) pd_3 rfl rfl _ rfl (Nat.le_of_eq rfl) d0_209 (by decide) (by decide) (fun T1021 X1021 => ?_)
  show Goes p e below _ T1021 (mkF m 212 #[.val (.int p0), .val (.int p1), .val (.int p2), .val (.int p3), .val (.int p4), .val (.ref b1001), .val (.int (1 : Int32)), .val (.int (mtF (mtF (mtF (mtF (mtF (0 : Int32) (nar .byte b0_)) (nar .byte b1_)) (nar .byte b2_)) (nar .byte b3_)) (nar .byte b4_)))] [(.int (eF (5 : Int32) [(nar .byte b0_), (nar .byte b1_), (nar .byte b2_), (nar .byte b3_), (nar .byte b4_)])), (.int (mtF (mtF (mtF (mtF (mtF (0 : Int32) (nar .byte b0_)) (nar .byte b1_)) (nar .byte b2_)) (nar .byte b3_)) (nar .byte b4_)))])
  refine g_icmpn (hI_ne _ _) C X1021 d0_212 (fun q => absurd (own_law5 (nar .byte b0_) (nar .byte b1_) (nar .byte b2_) (nar .byte b3_) (nar .byte b4_)) q) (fun _ => ?_)
  refine g_iconst (1 : Int32) C X1021 d0_215 rfl ?_
  refine g_goto C X1021 d0_216 ?_
  refine g_istore C X1021 d0_220 (l' := #[.val (.int p0), .val (.int p1), .val (.int p2), .val (.int p3), .val (.int p4), .val (.ref b1001), .val (.int (1 : Int32)), .val (.int (mtF (mtF (mtF (mtF (mtF (0 : Int32) (nar .byte b0_)) (nar .byte b1_)) (nar .byte b2_)) (nar .byte b3_)) (nar .byte b4_)))]) rfl ?_
  refine g_iload C X1021 d0_222 rfl ?_
  exact g_retN C X1021 (by simp) d0_224 (1 : Int32) rfl (by decide) (by decide) rfl
set_option maxRecDepth 65536 in
set_option maxHeartbeats 40000000 in
theorem comes_1 {Post : Tables → Env → Array Value → State → Outcome → State → Prop} (hpost : ∀ tb e args s v u, (limb_1_1.after args s (.returned v) u = true ∧ limb_1_2.after args s (.returned v) u = true ∧ True) → FrameEnd s (.returned v) u (Jvm.fieldLocs frame_1_writes args s ++ Jvm.arrayLocs frame_1_arrays args s ++ Jvm.staticLocs frame_1_statics s) 16 128 → Post tb e args s (.returned v) u) :
    ArmFor flags0 classFile x code maxLocals ret World_1 tables_1 room_1 Calls_1 rest_1 Pre_1 Post := by
  intro l hfl _ _ p e ha hc hk s m args below hf hA hF happ hP
  obtain ⟨hcalls, hrest, hpre⟩ := hP
  obtain ⟨-, -, -, hnamed, -, -, -, hat⟩ := (Spec.applies_iff hf).mp happ
  obtain ⟨hg, hn⟩ := and_e (Cond.before_iff.mp (show (Jvm.Cond.and given_1 narrow_1).before args s = true from hpre))
  obtain ⟨hcount, hg⟩ := and_e hg
  obtain ⟨ha0, hg⟩ := and_e hg
  obtain ⟨ha1, hg⟩ := and_e hg
  obtain ⟨ha2, hg⟩ := and_e hg
  obtain ⟨ha3, hg⟩ := and_e hg
  have ha4 := hg
  obtain ⟨w0, w1, w2, w3, w4, rfl⟩ : ∃ w0 w1 w2 w3 w4 : Value, args = #[w0, w1, w2, w3, w4] := by
    have hs : args.size = 5 := by simpa [Cond.value, given_1] using hcount
    obtain ⟨L⟩ := args
    match L, hs with
    | [w0, w1, w2, w3, w4], _ => exact ⟨w0, w1, w2, w3, w4, rfl⟩
  have hw := fun d (hd : d ∈ tables_1) => atoms_spec (ws := Jvm.Cond.code x code maxLocals ret :: tables_1) hat d (List.mem_cons_of_mem _ hd)
  have hfit : Fit s := fun {y c} hc i hi => by
    obtain ⟨ha, rfl⟩ := Array.getElem?_eq_some_iff.mp hc
    have q := List.all_eq_true.mp ((Array.all_eq_true_iff_forall_mem.mp hF) _ (Array.getElem_mem ha)) i (List.mem_range.mpr hi)
    simpa [Array.getElem?_eq_getElem hi] using q
  obtain ⟨i0, ei0⟩ := is_v ha0
  obtain rfl : w0 = (.int i0) := Option.some.inj ei0
  obtain ⟨i1, ei1⟩ := is_v ha1
  obtain rfl : w1 = (.int i1) := Option.some.inj ei1
  obtain ⟨i2, ei2⟩ := is_v ha2
  obtain rfl : w2 = (.int i2) := Option.some.inj ei2
  obtain ⟨i3, ei3⟩ := is_v ha3
  obtain rfl : w3 = (.int i3) := Option.some.inj ei3
  obtain ⟨i4, ei4⟩ := is_v ha4
  obtain rfl : w4 = (.int i4) := Option.some.inj ei4
  obtain ⟨n1, hn⟩ := and_e hn
  obtain ⟨n2, hn⟩ := and_e hn
  obtain ⟨n3, hn⟩ := and_e hn
  obtain ⟨n4, n5⟩ := and_e hn
  obtain ⟨tg, vt⟩ := arr_v n1
  have S1 := Sta.start vt (Or.inr ⟨(wd hw 7 rfl), (wd hw 17 rfl)⟩)
  obtain ⟨ct, A1⟩ := Arr.start vt n1
  have V1 := own_arr3 hfit A1 vt (eqI_v n2) (eqI_v n3) (eqI_v n4) (eqI_v n5)
  obtain ⟨n, o, h1, h2, h3, _, L, rfl, ⟨N, _, rfl⟩, hq⟩ := rm0 l (Z := s) hw ⟨Nat.le_refl _, fun _ _ q => q⟩ i0 i1 i2 i3 i4 tg _ S1 V1 p e ha hc hk s m _ below hf ((Spec.applies_iff_loose hf).mp happ).1 ⟨rfl, State.Warmed39.refl s, rfl⟩ trivial
  exact ⟨n, _, h1, h2, h3, hpost _ _ _ _ _ _ ⟨Cond.after_iff.mpr rfl, Cond.after_iff.mpr (eq_i res_at (Term.int_eval (1)) rfl), trivial⟩ ⟨hq.1, hq.2.1, (hq.2.2.sift fun y hy => Or.inr (N y hy)).mono (by decide) (by decide)⟩⟩
theorem main_1_1 : Claimed_1_1 := comes_1 fun _ _ _ _ _ _ h hF => ⟨h.1, hF⟩
theorem main_1_2 : Claimed_1_2 := comes_1 fun _ _ _ _ _ _ h hF => ⟨h.2.1, hF⟩
end Jvm.Pilot.@@N@@
namespace Jvm.Pilot.@@N@@
open Jvm Jvm.ClassFile Sem Op Lib Jvm.Free Jvm.Stand Jvm.Pilot.@@N@@.Jvm.D
/-! MADE BY PROGRAM (witnessworld.py) out of the Statement's table words and the real class files: 10 classes; the members and pool entries that the words name. The judged class is class 1, her method 3. -/
namespace start1
open Jvm.ClassFile
def u (s : String) : CpInfo := .utf8 (stringToUtf16 s)
/-- a pool by its gaps: so many unusable entries, then the entry; so many at the end -/
def gap : Nat → List CpInfo → List CpInfo
  | 0, r => r
  | n + 1, r => .unusable :: gap n r
def poolList (es : List (Nat × CpInfo)) (last : Nat) : List CpInfo := es.foldr (fun e r => gap e.1 (e.2 :: r)) (gap last [])
def pool (es : List (Nat × CpInfo)) (last : Nat) : Array CpInfo := ⟨poolList es last⟩
def fileOf (pool : Array CpInfo) (this : Nat) (attrs : Array Attribute := #[]) (ms : Array MethodInfo := #[]) (fl : Nat := 33) (sup : Nat := 0) (ifs : Array Nat := #[]) (fds : Array FieldInfo := #[]) : ClassFile where
  minorVersion := 0
  majorVersion := 65
  constantPool := pool
  accessFlags := fl
  thisClass := this
  superClass := sup
  interfaces := ifs
  fields := fds
  methods := ms
  attributes := attrs
def plain (name : String) (sup : Option ClassId) : Class where
  name := name
  kind := .ordinary
  loader := none
  accessFlags := 33
  super := sup
  interfaces := #[]
  cf := none
  fields := #[]
  methods := #[]
  instanceTypes := #[]
  staticTypes := #[]
  resolved := #[]
  callSites := []
  init := .initialized
  statics := none
  mirror := none

def pool0 : Array CpInfo := pool [(5, u "<init>"), (0, u "()V"), (1, .class_ 10), (1, u "java/lang/Object")] 113

def k0m0 : Method := { name := "<init>", desc := "()V", sig := { parameters := [], returnType := none }, accessFlags := 1, code := none }
/-- java/lang/Object -/
def k0 : Class := { plain "java/lang/Object" none with
  accessFlags := 33
  interfaces := #[]
  cf := some (fileOf pool0 8 #[] #[{ accessFlags := 1, nameIndex := 5, descriptorIndex := 6, attributes := #[] }] 33 0 #[] #[])
  fields := #[]
  methods := #[k0m0]
  instanceTypes := #[]
  staticTypes := #[]
  resolved := Array.replicate 124 none
  statics := none }

def pool1 : Array CpInfo := pool [(2, .class_ 4), (1, u "java/lang/Object"), (0, u "<init>"), (0, u "()V"), (0, .methodref 8 9), (0, .class_ 10), (0, .nameAndType 11 12), (0, u "java/lang/Math"), (0, u "min"), (0, u "(II)I"), (0, .methodref 14 15), (0, .class_ 16), (0, .nameAndType 17 18), (0, u "com/example/halyard/halyard/fix/FixMessageMatchCheckSumTagPinLaw"), (0, u "pick"), (0, u "(I)B"), (0, .methodref 20 21), (0, .class_ 22), (0, .nameAndType 23 24), (0, u "com/example/halyard/halyard/fix/FixMessage"), (0, u "matchCheckSumTag"), (0, u "(IB)I"), (0, .methodref 14 26), (0, .nameAndType 27 28), (0, u "expected"), (0, u "([BI)I"), (3, u "law"), (0, u "(IIIII)Z")] 4

def k1m0 : Method := { name := "<init>", desc := "()V", sig := { parameters := [], returnType := none }, accessFlags := 1, code := none }
def k1c1 : Code := { maxStack := 2, maxLocals := 2, code := method_2_code, exceptionTable := #[], attributes := #[] }
def k1m1 : Method := { name := "pick", desc := "(I)B", sig := { parameters := [.int], returnType := some .byte }, accessFlags := 10, code := some k1c1 }
def k1c2 : Code := { maxStack := 3, maxLocals := 6, code := method_3_code, exceptionTable := #[], attributes := #[] }
def k1m2 : Method := { name := "expected", desc := "([BI)I", sig := { parameters := [(.array .byte), .int], returnType := some .int }, accessFlags := 10, code := some k1c2 }
def k1c3 : Code := { maxStack := 3, maxLocals := 8, code := code, exceptionTable := #[], attributes := #[] }
def k1m3 : Method := { name := "law", desc := "(IIIII)Z", sig := { parameters := [.int, .int, .int, .int, .int], returnType := some .boolean }, accessFlags := 9, code := some k1c3 }
/-- com/example/halyard/halyard/fix/FixMessageMatchCheckSumTagPinLaw -/
def k1 : Class := { plain "com/example/halyard/halyard/fix/FixMessageMatchCheckSumTagPinLaw" (some 0) with
  accessFlags := 49
  interfaces := #[]
  cf := some (fileOf pool1 14 #[] #[{ accessFlags := 1, nameIndex := 5, descriptorIndex := 6, attributes := #[] }, { accessFlags := 10, nameIndex := 17, descriptorIndex := 18, attributes := #[] }, { accessFlags := 10, nameIndex := 27, descriptorIndex := 28, attributes := #[] }, { accessFlags := 9, nameIndex := 32, descriptorIndex := 33, attributes := #[] }] 49 2 #[] #[])
  fields := #[]
  methods := #[k1m0, k1m1, k1m2, k1m3]
  instanceTypes := #[]
  staticTypes := #[]
  resolved := Array.replicate 38 none
  statics := none }

def pool2 : Array CpInfo := pool [(2, .class_ 4), (1, u "java/lang/Object"), (3, .class_ 10), (1, u "com/example/halyard/halyard/fix/FixMessage"), (0, u "bytes"), (0, u "[B"), (2, u "count"), (0, u "I"), (2, u "tags"), (0, u "[I"), (2, u "valueStarts"), (2, u "valueEnds"), (6, u "version"), (0, u "Lcom/example/halyard/halyard/fix/FixVersion;"), (8, u "msgTypeAt"), (46, .fieldref 8 91), (0, .nameAndType 92 12), (0, u "CHECK_SUM_TAG"), (150, u "MAX_SIZE"), (2, u "SOH"), (0, u "B"), (1, u "MASK"), (0, u "Ljava/lang/String;"), (0, u "CHECK_SUM_DIGITS"), (1, u "MAX_TAG_DIGITS"), (8, u "matchCheckSumTag"), (0, u "(IB)I")] 63

def k2c0 : Code := { maxStack := 3, maxLocals := 3, code := prog_27_method_8_code, exceptionTable := #[], attributes := #[] }
def k2m0 : Method := { name := "matchCheckSumTag", desc := "(IB)I", sig := { parameters := [.int, .byte], returnType := some .int }, accessFlags := 8, code := some k2c0 }
/-- com/example/halyard/halyard/fix/FixMessage -/
def k2 : Class := { plain "com/example/halyard/halyard/fix/FixMessage" (some 0) with
  accessFlags := 49
  interfaces := #[]
  cf := some (fileOf pool2 8 #[] #[{ accessFlags := 8, nameIndex := 262, descriptorIndex := 263, attributes := #[] }] 49 2 #[] #[{ accessFlags := 25, nameIndex := 243, descriptorIndex := 16, attributes := #[] }, { accessFlags := 25, nameIndex := 246, descriptorIndex := 247, attributes := #[] }, { accessFlags := 25, nameIndex := 249, descriptorIndex := 250, attributes := #[] }, { accessFlags := 24, nameIndex := 92, descriptorIndex := 12, attributes := #[] }, { accessFlags := 24, nameIndex := 251, descriptorIndex := 16, attributes := #[] }, { accessFlags := 26, nameIndex := 253, descriptorIndex := 16, attributes := #[] }, { accessFlags := 18, nameIndex := 11, descriptorIndex := 12, attributes := #[] }, { accessFlags := 18, nameIndex := 33, descriptorIndex := 34, attributes := #[] }, { accessFlags := 18, nameIndex := 15, descriptorIndex := 16, attributes := #[] }, { accessFlags := 18, nameIndex := 19, descriptorIndex := 20, attributes := #[] }, { accessFlags := 18, nameIndex := 23, descriptorIndex := 20, attributes := #[] }, { accessFlags := 18, nameIndex := 26, descriptorIndex := 20, attributes := #[] }, { accessFlags := 18, nameIndex := 43, descriptorIndex := 16, attributes := #[] }])
  fields := #[{ name := "MAX_SIZE", type := .int, accessFlags := 25, slot := 0, constantValue := 0 }, { name := "SOH", type := .byte, accessFlags := 25, slot := 1, constantValue := 0 }, { name := "MASK", type := (.object "java/lang/String"), accessFlags := 25, slot := 2, constantValue := 0 }, { name := "CHECK_SUM_TAG", type := (.array .byte), accessFlags := 24, slot := 3, constantValue := 0 }, { name := "CHECK_SUM_DIGITS", type := .int, accessFlags := 24, slot := 4, constantValue := 0 }, { name := "MAX_TAG_DIGITS", type := .int, accessFlags := 26, slot := 5, constantValue := 0 }, { name := "bytes", type := (.array .byte), accessFlags := 18, slot := 0, constantValue := 0 }, { name := "version", type := (.object "com/example/halyard/halyard/fix/FixVersion"), accessFlags := 18, slot := 1, constantValue := 0 }, { name := "count", type := .int, accessFlags := 18, slot := 2, constantValue := 0 }, { name := "tags", type := (.array .int), accessFlags := 18, slot := 3, constantValue := 0 }, { name := "valueStarts", type := (.array .int), accessFlags := 18, slot := 4, constantValue := 0 }, { name := "valueEnds", type := (.array .int), accessFlags := 18, slot := 5, constantValue := 0 }, { name := "msgTypeAt", type := .int, accessFlags := 18, slot := 6, constantValue := 0 }]
  methods := #[k2m0]
  instanceTypes := #[(.array .byte), (.object "com/example/halyard/halyard/fix/FixVersion"), .int, (.array .int), (.array .int), (.array .int), .int]
  staticTypes := #[.int, .byte, (.object "java/lang/String"), (.array .byte), .int, .int]
  resolved := Array.replicate 327 none
  statics := some 0 }

def pool3 : Array CpInfo := pool [(1, .class_ 2), (0, u "java/lang/Math"), (1, .class_ 6), (1, u "java/lang/Object"), (0, u "<init>"), (0, u "()V"), (89, .class_ 100), (1, u "java/lang/Math$RandomNumberGeneratorHolder"), (71, u "negativeZeroFloatBits"), (0, u "J"), (2, u "negativeZeroDoubleBits"), (24, u "min"), (43, u "$assertionsDisabled"), (0, u "Z"), (88, u "(II)I"), (2, u "twoToTheDoubleScaleDown"), (0, u "D"), (4, u "twoToTheDoubleScaleUp"), (9, u "E"), (3, u "PI"), (2, u "TAU"), (2, u "DEGREES_TO_RADIANS"), (0, u "RADIANS_TO_DEGREES")] 94

def k3m0 : Method := { name := "<init>", desc := "()V", sig := { parameters := [], returnType := none }, accessFlags := 2, code := none }
def k3c1 : Code := { maxStack := 2, maxLocals := 2, code := jdk_29_method_69_code, exceptionTable := #[], attributes := #[] }
def k3m1 : Method := { name := "min", desc := "(II)I", sig := { parameters := [.int, .int], returnType := some .int }, accessFlags := 9, code := some k3c1 }
/-- java/lang/Math -/
def k3 : Class := { plain "java/lang/Math" (some 0) with
  accessFlags := 49
  interfaces := #[]
  cf := some (fileOf pool3 1 #[.nestMembers #[98]] #[{ accessFlags := 2, nameIndex := 7, descriptorIndex := 8, attributes := #[] }, { accessFlags := 9, nameIndex := 201, descriptorIndex := 335, attributes := #[] }] 49 4 #[] #[{ accessFlags := 25, nameIndex := 354, descriptorIndex := 339, attributes := #[] }, { accessFlags := 25, nameIndex := 358, descriptorIndex := 339, attributes := #[] }, { accessFlags := 25, nameIndex := 361, descriptorIndex := 339, attributes := #[] }, { accessFlags := 26, nameIndex := 364, descriptorIndex := 339, attributes := #[] }, { accessFlags := 26, nameIndex := 365, descriptorIndex := 339, attributes := #[] }, { accessFlags := 26, nameIndex := 172, descriptorIndex := 173, attributes := #[] }, { accessFlags := 26, nameIndex := 176, descriptorIndex := 173, attributes := #[] }, { accessFlags := 8, nameIndex := 344, descriptorIndex := 339, attributes := #[] }, { accessFlags := 8, nameIndex := 338, descriptorIndex := 339, attributes := #[] }, { accessFlags := 4120, nameIndex := 245, descriptorIndex := 246, attributes := #[] }])
  fields := #[{ name := "E", type := .double, accessFlags := 25, slot := 0, constantValue := 0 }, { name := "PI", type := .double, accessFlags := 25, slot := 1, constantValue := 0 }, { name := "TAU", type := .double, accessFlags := 25, slot := 2, constantValue := 0 }, { name := "DEGREES_TO_RADIANS", type := .double, accessFlags := 26, slot := 3, constantValue := 0 }, { name := "RADIANS_TO_DEGREES", type := .double, accessFlags := 26, slot := 4, constantValue := 0 }, { name := "negativeZeroFloatBits", type := .long, accessFlags := 26, slot := 5, constantValue := 0 }, { name := "negativeZeroDoubleBits", type := .long, accessFlags := 26, slot := 6, constantValue := 0 }, { name := "twoToTheDoubleScaleUp", type := .double, accessFlags := 8, slot := 7, constantValue := 0 }, { name := "twoToTheDoubleScaleDown", type := .double, accessFlags := 8, slot := 8, constantValue := 0 }, { name := "$assertionsDisabled", type := .boolean, accessFlags := 4120, slot := 9, constantValue := 0 }]
  methods := #[k3m0, k3m1]
  instanceTypes := #[]
  staticTypes := #[.double, .double, .double, .double, .double, .long, .long, .double, .double, .boolean]
  resolved := Array.replicate 460 none
  statics := none }

def pool4 : Array CpInfo := pool [(1, u "java/lang/Cloneable"), (0, .class_ 1), (0, u "java/lang/Object"), (0, .class_ 3)] 3

/-- java/lang/Cloneable -/
def k4 : Class := { plain "java/lang/Cloneable" (some 0) with
  accessFlags := 1537
  interfaces := #[]
  cf := some (fileOf pool4 2 #[] #[] 1537 4 #[] #[])
  fields := #[]
  methods := #[]
  instanceTypes := #[]
  staticTypes := #[]
  resolved := Array.replicate 8 none
  statics := none }

def pool5 : Array CpInfo := pool [(1, u "java/io/Serializable"), (0, .class_ 1), (0, u "java/lang/Object"), (0, .class_ 3)] 3

/-- java/io/Serializable -/
def k5 : Class := { plain "java/io/Serializable" (some 0) with
  accessFlags := 1537
  interfaces := #[]
  cf := some (fileOf pool5 2 #[] #[] 1537 4 #[] #[])
  fields := #[]
  methods := #[]
  instanceTypes := #[]
  staticTypes := #[]
  resolved := Array.replicate 8 none
  statics := none }

/-- the primitive byte -/
def k6 : Class := { plain "byte" none with kind := .primitive 'B', accessFlags := 0x411 }
/-- [B -/
def k7 : Class := { plain "[B" (some 0) with kind := .array 6 .byte, interfaces := #[4, 5], accessFlags := 1041 }

/-- the primitive int -/
def k8 : Class := { plain "int" none with kind := .primitive 'I', accessFlags := 0x411 }
/-- [I -/
def k9 : Class := { plain "[I" (some 0) with kind := .array 8 .int, interfaces := #[4, 5], accessFlags := 1041 }

def heap : Heap := #[{ cls := 2, slots := #[.int 0, .int 0, .null, .ref 1, .int 0, .int 0], vm := .statics 2 },
  { cls := 7, slots := #[.int 49, .int 48, .int 61], vm := .none }]
def classes : Array Class := #[k0, k1, k2, k3, k4, k5, k6, k7, k8, k9]
def interned : List (Array UInt16 × Addr) := []
def slotsUsed : Nat := 9
def theMethod : MethodId := ⟨1, 3⟩
def args0 : Array Value := #[.int 5, .int 6, .int 7, .int 8, .int 9]
def aboutOver (below : List Frame) : State where
  vm := { classes := classes, interned := interned.toArray }
  heap := heap
  slotsUsed := slotsUsed
  threads := #[{ frames := .invoking theMethod args0 :: below }]
def below0 : List Frame := [.native { method := ⟨0, 0⟩, args := #[] }]
def about1 : State := aboutOver below0
def p0 : Program := .bare "" "" ""
def e0 : Env := launch0.env 0 0 0
theorem w_frames : about1.frames = Frame.invoking theMethod args0 :: below0 := rfl
set_option maxRecDepth 65536 in
theorem w_args : argsFit about1.vm theMethod args0 = true := by decide +kernel
set_option maxRecDepth 65536 in
theorem w_heap : heapFits about1 = true := by decide +kernel
set_option maxRecDepth 65536 in
theorem w_runnable : about1.curStatus? = some .runnable := by decide +kernel
set_option maxRecDepth 65536 in
theorem w_alone : about1.alone = true := by decide +kernel
set_option maxRecDepth 65536 in
theorem w_named : about1.methodNamed? x = some theMethod := by decide +kernel
set_option maxRecDepth 65536 in
theorem w_hears : about1.hears theMethod below0 = true := by decide +kernel
set_option maxRecDepth 65536 in
theorem w_ripe : about1.ripe theMethod args0 below0 = true := by decide +kernel
theorem w_running : about1.status = .running := rfl
set_option maxRecDepth 65536 in
theorem w_room : about1.hasRoom e0.platform room_1 = true :=
  launch0.hasRoom_least _ room_1 (by decide +kernel) (by decide +kernel) (by decide +kernel) (by decide +kernel) (by decide +kernel) (by decide +kernel)
theorem allAtoms_all (ts : List Jvm.Cond) (a : Array Jvm.Value) (st : Jvm.State) : (allAtoms ts).before a st = ts.all (fun c => c.before a st) := by
  induction ts with
  | nil => rfl
  | cons c t ih =>
    show (Jvm.Cond.and c (allAtoms t)).before a st = _
    rw [Jvm.Cond.before_and, ih, List.all_cons]
def words1 : List Jvm.Cond := Jvm.Cond.code x code maxLocals ret :: tables_1
/-- a 'code' word, met by the world's own term for the bytes: nothing is compared byte by byte -/
theorem code_word {y : MethodName} {bytes : ByteArray} {mx : Nat} {rt : Option FieldType} {a : Array Value} {s : State} {m : MethodId} {meth : Method} {c : Code} (h1 : s.methodNamed? y = some m) (h2 : s.vm.method? m = some meth) (h3 : meth.code = some c) (h4 : c.code = bytes)
    (h5 : (c.maxLocals == mx && c.exceptionTable.isEmpty && decide (c.maxStack ≤ mostOperands) && decide (meth.sig.returnType = rt) && !meth.locks && decide (parseMethodDescriptor y.desc = some meth.sig)) = true) : (Jvm.Cond.code y bytes mx rt).before a s = true := by
  simp only [Bool.and_eq_true, beq_iff_eq, Bool.not_eq_true', decide_eq_true_eq] at h5
  obtain ⟨⟨⟨⟨⟨g1, g2⟩, g3⟩, g4⟩, g5⟩, g6⟩ := h5
  simp [Cond.before, Cond.holds, Cond.value, h1, h2, h3, h4, g1, g2, g3, g4, g5, g6]
def isCode : Jvm.Cond → Bool
  | .code _ _ _ _ => true
  | _ => false
theorem all_split {L : List Jvm.Cond} {P : Jvm.Cond → Bool} (h1 : L.all (fun c => isCode c || P c) = true) (h2 : ∀ c ∈ L.filter isCode, P c = true) : L.all P = true := by
  refine List.all_eq_true.mpr fun c hc => ?_
  have h := List.all_eq_true.mp h1 c hc
  rcases Bool.eq_false_or_eq_true (isCode c) with hi | hi
  · exact h2 c (List.mem_filter.mpr ⟨hc, hi⟩)
  · simpa [hi] using h
set_option maxRecDepth 65536 in
theorem w_c0 : (Jvm.Cond.code x code maxLocals ret).before args0 about1 = true := code_word (m := ⟨1, 3⟩) (meth := k1m3) (c := k1c3) (by decide +kernel) rfl rfl rfl (by decide +kernel)
set_option maxRecDepth 65536 in
theorem w_c1 : (Jvm.Cond.code ({ cls := "com/example/halyard/halyard/fix/FixMessageMatchCheckSumTagPinLaw", name := "pick", desc := "(I)B" } : Jvm.MethodName) method_2_code (2 : Nat) (Option.some Jvm.ClassFile.FieldType.byte)).before args0 about1 = true := code_word (m := ⟨1, 1⟩) (meth := k1m1) (c := k1c1) (by decide +kernel) rfl rfl rfl (by decide +kernel)
set_option maxRecDepth 65536 in
theorem w_c2 : (Jvm.Cond.code ({ cls := "com/example/halyard/halyard/fix/FixMessage", name := "matchCheckSumTag", desc := "(IB)I" } : Jvm.MethodName) prog_27_method_8_code (3 : Nat) (Option.some Jvm.ClassFile.FieldType.int)).before args0 about1 = true := code_word (m := ⟨2, 0⟩) (meth := k2m0) (c := k2c0) (by decide +kernel) rfl rfl rfl (by decide +kernel)
set_option maxRecDepth 65536 in
theorem w_c3 : (Jvm.Cond.code ({ cls := "com/example/halyard/halyard/fix/FixMessageMatchCheckSumTagPinLaw", name := "expected", desc := "([BI)I" } : Jvm.MethodName) method_3_code (6 : Nat) (Option.some Jvm.ClassFile.FieldType.int)).before args0 about1 = true := code_word (m := ⟨1, 2⟩) (meth := k1m2) (c := k1c2) (by decide +kernel) rfl rfl rfl (by decide +kernel)
set_option maxRecDepth 65536 in
theorem w_c4 : (Jvm.Cond.code ({ cls := "java/lang/Math", name := "min", desc := "(II)I" } : Jvm.MethodName) jdk_29_method_69_code (2 : Nat) (Option.some Jvm.ClassFile.FieldType.int)).before args0 about1 = true := code_word (m := ⟨3, 1⟩) (meth := k3m1) (c := k3c1) (by decide +kernel) rfl rfl rfl (by decide +kernel)
def codes1 : List Jvm.Cond := [Jvm.Cond.code x code maxLocals ret, Jvm.Cond.code ({ cls := "com/example/halyard/halyard/fix/FixMessageMatchCheckSumTagPinLaw", name := "pick", desc := "(I)B" } : Jvm.MethodName) method_2_code (2 : Nat) (Option.some Jvm.ClassFile.FieldType.byte), Jvm.Cond.code ({ cls := "com/example/halyard/halyard/fix/FixMessage", name := "matchCheckSumTag", desc := "(IB)I" } : Jvm.MethodName) prog_27_method_8_code (3 : Nat) (Option.some Jvm.ClassFile.FieldType.int), Jvm.Cond.code ({ cls := "com/example/halyard/halyard/fix/FixMessageMatchCheckSumTagPinLaw", name := "expected", desc := "([BI)I" } : Jvm.MethodName) method_3_code (6 : Nat) (Option.some Jvm.ClassFile.FieldType.int), Jvm.Cond.code ({ cls := "java/lang/Math", name := "min", desc := "(II)I" } : Jvm.MethodName) jdk_29_method_69_code (2 : Nat) (Option.some Jvm.ClassFile.FieldType.int)]
set_option maxRecDepth 65536 in
theorem codes_eq : words1.filter isCode = codes1 := rfl
theorem w_codes : ∀ c ∈ words1.filter isCode, c.before args0 about1 = true := by
  rw [codes_eq]
  intro c hc
  simp only [codes1, List.mem_cons, List.not_mem_nil, or_false] at hc
  rcases hc with rfl | rfl | rfl | rfl | rfl
  · exact w_c0
  · exact w_c1
  · exact w_c2
  · exact w_c3
  · exact w_c4
set_option maxRecDepth 65536 in
theorem w_t1 : words1.all (fun c => isCode c || c.before args0 about1) = true := by decide +kernel
theorem w_tables : (allAtoms (Jvm.Cond.code x code maxLocals ret :: tables_1)).before args0 about1 = true := by
  rw [allAtoms_all]
  show words1.all (fun c => c.before args0 about1) = true
  refine all_split ?_ w_codes
  rw [w_t1]
set_option maxRecDepth 65536 in
theorem w_case : (Jvm.Cond.and given_1 narrow_1).before args0 about1 = true := by decide +kernel
theorem w_applies : (headSpec (Jvm.Cond.code x code maxLocals ret :: tables_1) room_1).applies x e0.platform about1 = true :=
  (Spec.applies_iff w_frames).mpr ⟨w_running, w_runnable, w_alone, w_named, w_hears, w_ripe, w_room, w_tables⟩
theorem atStart : AtStart classFile x code maxLocals ret World_1 tables_1 room_1 Calls_1 rest_1 Pre_1 launch0 p0 e0 about1 theMethod args0 below0 :=
  ⟨lists_1, trivial, launch0.admits_env _ _ _, launch0.least_env, fairChoices_fair.cas, fairChoices_fair.clock, w_frames, w_args, w_heap, w_applies, trivial, trivial, w_case⟩
end start1
theorem witness_1 : WitnessClaimed_1 := ⟨start1.p0, start1.e0, start1.about1, start1.theMethod, start1.args0, start1.below0, start1.atStart⟩
end Jvm.Pilot.@@N@@
