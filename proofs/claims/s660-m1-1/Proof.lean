import JvmDerived
import JvmDerived.Pilot.@@N@@Statement
import JvmDerived.Pilot.@@N@@Code
set_option linter.unusedVariables false
set_option linter.unusedSimpArgs false
namespace Jvm.Pilot.@@N@@
open Jvm Jvm.ClassFile Sem Op Lib Jvm.Free Jvm.Stand Jvm.LawKit Jvm.RoadKit Bundle Jvm.Pilot.@@N@@.Jvm.D
section OwnKit
variable {p : Program} {l : Launch} {e : Env} {R : Room} {s : State} {m : MethodId} {A : Array Value} {below : List Frame} {meth : Method} {c : Code} {T : State} {cells slots : Nat} {Z : State} {a0 : Array Value} {h : Heap} {own nm : String} {bytes : ByteArray} {maxL : Nat} {ret : Option FieldType} {W : Outcome → State → Prop} {pc pc' tgt : Nat} {Ls : Array Slot} {st : List Value}
/-- the run from the frame g over T comes to an end at which W holds -/
def Goes (p : Program) (e : Env) (below : List Frame) (W : Outcome → State → Prop) (T : State) (g : JFrame) : Prop :=
  ∃ s₂ o, Steps p.tables e below (T.setTop g) s₂ ∧ s₂.status = .running ∧ Ended s₂ below o ∧ W o s₂
theorem Goes.via {T' : State} {g g' : JFrame} (h : ∀ t, Steps p.tables e below (T'.setTop g') t → Steps p.tables e below (T.setTop g) t) (k : Goes p e below W T' g') : Goes p e below W T g := by
  obtain ⟨s₂, o, h1, h2⟩ := k; exact ⟨s₂, o, h _ h1, h2⟩
/-- what stays the same through a body -/
def Cx (p : Program) (s : State) (m : MethodId) (meth : Method) (c : Code) (Z : State) (own nm : String) (bytes : ByteArray) (maxL : Nat) (ret : Option FieldType) : Prop :=
  p.tables.exec = Jvm.exec ∧ Z.Warmed39 s.vm ∧ s.vm.findClass own = some m.cls ∧ c.code = bytes ∧ c.maxLocals = maxL ∧ meth.sig.returnType = ret ∧ meth.locks = false ∧ meth.name = nm
theorem Cx.hx (C : Cx p s m meth c Z own nm bytes maxL ret) : p.tables.exec = Jvm.exec := C.1
theorem Cx.hZ (C : Cx p s m meth c Z own nm bytes maxL ret) : Z.Warmed39 s.vm := C.2.1
theorem Cx.hown (C : Cx p s m meth c Z own nm bytes maxL ret) : s.vm.findClass own = some m.cls := C.2.2.1
theorem Cx.hby (C : Cx p s m meth c Z own nm bytes maxL ret) : c.code = bytes := C.2.2.2.1
theorem Cx.hml (C : Cx p s m meth c Z own nm bytes maxL ret) : c.maxLocals = maxL := C.2.2.2.2.1
theorem Cx.hret (C : Cx p s m meth c Z own nm bytes maxL ret) : meth.sig.returnType = ret := C.2.2.2.2.2.1
theorem Cx.hlk (C : Cx p s m meth c Z own nm bytes maxL ret) : meth.locks = false := C.2.2.2.2.2.2.1
theorem Cx.hnm (C : Cx p s m meth c Z own nm bytes maxL ret) : meth.name = nm := C.2.2.2.2.2.2.2
/-- where the walk stands: the heap is h; nothing that stood at Z was written; at most so many cells and slots were made -/
def St (p : Program) (l : Launch) (e : Env) (R : Room) (s : State) (m : MethodId) (A : Array Value) (below : List Frame) (meth : Method) (c : Code) (Z : State) (T : State) (h : Heap) (cells slots : Nat) : Prop :=
  ∃ locs, Stand p l e R s m A below meth c T locs cells slots ∧ T.heap = h ∧ Fr Z.heap.size locs ∧ Ext Z.heap h
theorem St.here (X : St p l e R s m A below meth c Z T h cells slots) : At T m c below := by obtain ⟨_, Y, _⟩ := X; exact Y.here
theorem St.ext (X : St p l e R s m A below meth c Z T h cells slots) : Ext Z.heap h := by obtain ⟨_, _, _, _, E⟩ := X; exact E
theorem St.more {cells' slots' : Nat} (X : St p l e R s m A below meth c Z T h cells slots) (h1 : cells ≤ cells') (h2 : slots ≤ slots') : St p l e R s m A below meth c Z T h cells' slots' := by
  obtain ⟨L, Y, r⟩ := X; exact ⟨L, Y.more h1 h2, r⟩
/-- the end of a body: Q of what it returned and of the heap -/
def EndW (Z s : State) (k n : Nat) (Q : Option Value → Heap → Prop) (o : Outcome) (u : State) : Prop :=
  ∃ v L, o = .returned v ∧ (Fr Z.heap.size L ∧ Ext Z.heap u.heap ∧ Q v u.heap) ∧ FrameEnd s o u L k n
/-- a body's contract: called with A at the heap h0, over tables warmer than Z's, it returns and leaves Q -/
def Con (l : Launch) (y : MethodName) (bytes : ByteArray) (maxL : Nat) (ret : Option FieldType) (ws : List Jvm.Cond) (rm : Room) (Z : State) (A : Array Value) (h0 : Heap) (Q : Option Value → Heap → Prop) : Prop :=
  MetFree l y (head1 (Jvm.Cond.code y bytes maxL ret :: ws) rm) (fun a U => a = A ∧ Z.Warmed39 U.vm ∧ U.heap = h0) (fun _ _ _ _ _ => True) (fun _ U o U' => EndW Z U rm.cells rm.slots Q o U')
theorem con_of {y : MethodName} {ws : List Jvm.Cond} {rm : Room} {h0 : Heap} {Q : Option Value → Heap → Prop} {Ls : Array Slot} (hp : plainFor y = true) (hE : Ext Z.heap h0) (hef : ∀ m, entryFrame m A maxL = mkF m 0 Ls [])
    (body : ∀ p e s m below meth c s₁, Cx p s m meth c Z y.cls y.name bytes maxL ret → St p l e rm s m A below meth c Z s₁ h0 0 0 → Goes p e below (EndW Z s rm.cells rm.slots Q) s₁ (mkF m 0 Ls [])) :
    Con l y bytes maxL ret ws rm Z A h0 Q := by
  refine MetFree.of_bodySF hp hisR ?_
  intro p e s m args below meth c s₁ Bd hml0 hP hK
  obtain ⟨rfl, hZ, hh⟩ := hP
  have X0 := Stand.of_body Bd
  have e0 : s₁.heap = h0 := by rw [← hh, Bd.state]; rfl
  have := body p e s m below meth c s₁ ⟨Bd.exec, hZ, findClass_of_methodNamed Bd.named, Bd.bytes, hml0, Bd.returns, Bd.notSynchronized, (name_of_methodNamed Bd.named Bd.method).1⟩ ⟨[], X0, e0, Fr.nil _, hE⟩
  rw [← hef m] at this
  exact this
/-- the instruction at pc, its length, the pc behind it -/
def Dc (b : ByteArray) (pc : Nat) (i : Instr) (n pc' : Nat) : Prop := decode b pc = .ok (i, n) ∧ pc + n = pc'
/-- a jump: besides, its target -/
def Dj (b : ByteArray) (pc : Nat) (i : Instr) (o : Int) (n pc' tgt : Nat) : Prop := decode b pc = .ok (i, n) ∧ pc + n = pc' ∧ 0 ≤ (pc : Int) + o ∧ ((pc : Int) + o).toNat = tgt
theorem g_goto {o : Int} (C : Cx p s m meth c Z own nm bytes maxL ret) (X : St p l e R s m A below meth c Z T h cells slots) (d : Dj bytes pc (.goto o) o 3 pc' tgt) (K : Goes p e below W T (mkF m tgt Ls st)) : Goes p e below W T (mkF m pc Ls st) :=
  Goes.via (fun _ k => XS.goto X.here C.hx rfl rfl (hb C.hby d.1) d.2.2.1 d.2.2.2 k) K
theorem g_if {cd : ClassFile.Cond} {o : Int} {x : Int32} {P : Prop} [Decidable P] (hP : ifCond.holds cd x = decide P) (C : Cx p s m meth c Z own nm bytes maxL ret) (X : St p l e R s m A below meth c Z T h cells slots) (d : Dj bytes pc (.ifCond cd o) o 3 pc' tgt) (K1 : P → Goes p e below W T (mkF m tgt Ls st)) (K2 : ¬ P → Goes p e below W T (mkF m pc' Ls st)) : Goes p e below W T (mkF m pc Ls (.int x :: st)) := by
  obtain ⟨d1, rfl, d3, d4⟩ := d
  by_cases q : P
  · exact Goes.via (fun _ k => XS.ifYes X.here C.hx rfl rfl (hb C.hby d1) rfl (hP.trans (decide_eq_true q)) d3 d4 k) (K1 q)
  · exact Goes.via (fun _ k => XS.ifNo X.here C.hx rfl (hb C.hby d1) rfl (hP.trans (decide_eq_false q)) k) (K2 q)
theorem g_icmp {cd : ClassFile.Cond} {o : Int} {x y : Int32} {P : Prop} [Decidable P] (hP : if_icmp.holds cd x y = decide P) (C : Cx p s m meth c Z own nm bytes maxL ret) (X : St p l e R s m A below meth c Z T h cells slots) (d : Dj bytes pc (.if_icmp cd o) o 3 pc' tgt) (K1 : P → Goes p e below W T (mkF m tgt Ls st)) (K2 : ¬ P → Goes p e below W T (mkF m pc' Ls st)) : Goes p e below W T (mkF m pc Ls (.int y :: .int x :: st)) := by
  obtain ⟨d1, rfl, d3, d4⟩ := d
  by_cases q : P
  · exact Goes.via (fun _ k => XS.icmpYes X.here C.hx rfl rfl (hb C.hby d1) rfl (hP.trans (decide_eq_true q)) d3 d4 k) (K1 q)
  · exact Goes.via (fun _ k => XS.icmpNo X.here C.hx rfl (hb C.hby d1) rfl (hP.trans (decide_eq_false q)) k) (K2 q)
theorem g_ifn {cd : ClassFile.Cond} {o : Int} {x : Int32} {P : Prop} [Decidable P] (hP : ifCond.holds cd x = !decide P) (C : Cx p s m meth c Z own nm bytes maxL ret) (X : St p l e R s m A below meth c Z T h cells slots) (d : Dj bytes pc (.ifCond cd o) o 3 pc' tgt) (K1 : ¬ P → Goes p e below W T (mkF m tgt Ls st)) (K2 : P → Goes p e below W T (mkF m pc' Ls st)) : Goes p e below W T (mkF m pc Ls (.int x :: st)) := by
  obtain ⟨d1, rfl, d3, d4⟩ := d
  by_cases q : P
  · exact Goes.via (fun _ k => XS.ifNo X.here C.hx rfl (hb C.hby d1) rfl (hP.trans (by simp [q])) k) (K2 q)
  · exact Goes.via (fun _ k => XS.ifYes X.here C.hx rfl rfl (hb C.hby d1) rfl (hP.trans (by simp [q])) d3 d4 k) (K1 q)
theorem g_icmpn {cd : ClassFile.Cond} {o : Int} {x y : Int32} {P : Prop} [Decidable P] (hP : if_icmp.holds cd x y = !decide P) (C : Cx p s m meth c Z own nm bytes maxL ret) (X : St p l e R s m A below meth c Z T h cells slots) (d : Dj bytes pc (.if_icmp cd o) o 3 pc' tgt) (K1 : ¬ P → Goes p e below W T (mkF m tgt Ls st)) (K2 : P → Goes p e below W T (mkF m pc' Ls st)) : Goes p e below W T (mkF m pc Ls (.int y :: .int x :: st)) := by
  obtain ⟨d1, rfl, d3, d4⟩ := d
  by_cases q : P
  · exact Goes.via (fun _ k => XS.icmpNo X.here C.hx rfl (hb C.hby d1) rfl (hP.trans (by simp [q])) k) (K2 q)
  · exact Goes.via (fun _ k => XS.icmpYes X.here C.hx rfl rfl (hb C.hby d1) rfl (hP.trans (by simp [q])) d3 d4 k) (K1 q)
theorem hI_eq (x y : Int32) : if_icmp.holds .eq x y = decide (x = y) := by
  by_cases q : x = y
  · rw [(teq q).1]; simp [q]
  · rw [(feq q).1]; simp [q]
theorem hI_ne (x y : Int32) : if_icmp.holds .ne x y = !decide (x = y) := by
  by_cases q : x = y
  · rw [(teq q).2]; simp [q]
  · rw [(feq q).2]; simp [q]
theorem hI_lt (x y : Int32) : if_icmp.holds .lt x y = decide (x < y) := by
  by_cases q : x < y
  · rw [(tlt q).1]; simp [q]
  · rw [(flt q).1]; simp [q]
theorem hI_ge (x y : Int32) : if_icmp.holds .ge x y = !decide (x < y) := by
  by_cases q : x < y
  · rw [(tlt q).2.1]; simp [q]
  · rw [(flt q).2.1]; simp [q]
theorem hI_gt (x y : Int32) : if_icmp.holds .gt x y = decide (y < x) := by
  by_cases q : y < x
  · rw [(tlt q).2.2.1]; simp [q]
  · rw [(flt q).2.2.1]; simp [q]
theorem hI_le (x y : Int32) : if_icmp.holds .le x y = !decide (y < x) := by
  by_cases q : y < x
  · rw [(tlt q).2.2.2]; simp [q]
  · rw [(flt q).2.2.2]; simp [q]
theorem h0_eq (x : Int32) : ifCond.holds .eq x = decide (x = 0) := (if0 _ _).trans (hI_eq x 0)
theorem h0_ne (x : Int32) : ifCond.holds .ne x = !decide (x = 0) := (if0 _ _).trans (hI_ne x 0)
theorem h0_lt (x : Int32) : ifCond.holds .lt x = decide (x < 0) := (if0 _ _).trans (hI_lt x 0)
theorem h0_ge (x : Int32) : ifCond.holds .ge x = !decide (x < 0) := (if0 _ _).trans (hI_ge x 0)
theorem h0_gt (x : Int32) : ifCond.holds .gt x = decide (0 < x) := (if0 _ _).trans (hI_gt x 0)
theorem h0_le (x : Int32) : ifCond.holds .le x = !decide (0 < x) := (if0 _ _).trans (hI_le x 0)
/-- a comparison of longs, then a branch on it: 'lcmp; if..' -/
theorem hL_eq (x y : Int64) : ifCond.holds .eq (lcmpW x y) = decide (x = y) := by rw [h0_eq]; exact decide_eq_decide.mpr (lw_eq x y)
theorem hL_ne (x y : Int64) : ifCond.holds .ne (lcmpW x y) = !decide (x = y) := by rw [h0_ne]; exact congrArg _ (decide_eq_decide.mpr (lw_eq x y))
theorem hL_lt (x y : Int64) : ifCond.holds .lt (lcmpW x y) = decide (x < y) := by rw [h0_lt]; exact decide_eq_decide.mpr (lw_lt x y)
theorem hL_ge (x y : Int64) : ifCond.holds .ge (lcmpW x y) = !decide (x < y) := by rw [h0_ge]; exact congrArg _ (decide_eq_decide.mpr (lw_lt x y))
theorem hL_gt (x y : Int64) : ifCond.holds .gt (lcmpW x y) = decide (y < x) := by rw [h0_gt]; exact decide_eq_decide.mpr (lw_gt x y)
theorem hL_le (x y : Int64) : ifCond.holds .le (lcmpW x y) = !decide (y < x) := by rw [h0_le]; exact congrArg _ (decide_eq_decide.mpr (lw_gt x y))
/-- two references compared; the values are references or null -/
theorem g_acmpeq {o : Int} {x y : Value} (C : Cx p s m meth c Z own nm bytes maxL ret) (X : St p l e R s m A below meth c Z T h cells slots) (d : Dj bytes pc (.if_acmp .eq o) o 3 pc' tgt) (h1 : x.isRef = true) (h2 : y.isRef = true) (K1 : x = y → Goes p e below W T (mkF m tgt Ls st)) (K2 : ¬ x = y → Goes p e below W T (mkF m pc' Ls st)) : Goes p e below W T (mkF m pc Ls (y :: x :: st)) := by
  obtain ⟨d1, rfl, d3, d4⟩ := d
  by_cases q : x = y
  · exact Goes.via (fun _ k => XT.acmpYes X.here C.hx rfl rfl (hb C.hby d1) rfl h1 h2 (XT.aa_eq_t q) d3 d4 k) (K1 q)
  · exact Goes.via (fun _ k => XT.acmpNo X.here C.hx rfl (hb C.hby d1) rfl h1 h2 (XT.aa_eq_f q) k) (K2 q)
theorem g_acmpne {o : Int} {x y : Value} (C : Cx p s m meth c Z own nm bytes maxL ret) (X : St p l e R s m A below meth c Z T h cells slots) (d : Dj bytes pc (.if_acmp .ne o) o 3 pc' tgt) (h1 : x.isRef = true) (h2 : y.isRef = true) (K1 : ¬ x = y → Goes p e below W T (mkF m tgt Ls st)) (K2 : x = y → Goes p e below W T (mkF m pc' Ls st)) : Goes p e below W T (mkF m pc Ls (y :: x :: st)) := by
  obtain ⟨d1, rfl, d3, d4⟩ := d
  by_cases q : x = y
  · exact Goes.via (fun _ k => XT.acmpNo X.here C.hx rfl (hb C.hby d1) rfl h1 h2 (XT.aa_ne_f q) k) (K2 q)
  · exact Goes.via (fun _ k => XT.acmpYes X.here C.hx rfl rfl (hb C.hby d1) rfl h1 h2 (XT.aa_ne_t q) d3 d4 k) (K1 q)
theorem g_ifnull {o : Int} {v : Value} (C : Cx p s m meth c Z own nm bytes maxL ret) (X : St p l e R s m A below meth c Z T h cells slots) (d : Dj bytes pc (.ifnull o) o 3 pc' tgt) (h1 : v.isRef = true) (K1 : v = .null → Goes p e below W T (mkF m tgt Ls st)) (K2 : ¬ v = .null → Goes p e below W T (mkF m pc' Ls st)) : Goes p e below W T (mkF m pc Ls (v :: st)) := by
  obtain ⟨d1, rfl, d3, d4⟩ := d
  by_cases q : v = .null
  · exact Goes.via (fun _ k => XT.nullYes X.here C.hx rfl rfl (hb C.hby d1) rfl q d3 d4 k) (K1 q)
  · exact Goes.via (fun _ k => XT.nullNo X.here C.hx rfl (hb C.hby d1) rfl h1 q k) (K2 q)
theorem g_ifnonnull {o : Int} {v : Value} (C : Cx p s m meth c Z own nm bytes maxL ret) (X : St p l e R s m A below meth c Z T h cells slots) (d : Dj bytes pc (.ifnonnull o) o 3 pc' tgt) (h1 : v.isRef = true) (K1 : ¬ v = .null → Goes p e below W T (mkF m tgt Ls st)) (K2 : v = .null → Goes p e below W T (mkF m pc' Ls st)) : Goes p e below W T (mkF m pc Ls (v :: st)) := by
  obtain ⟨d1, rfl, d3, d4⟩ := d
  by_cases q : v = .null
  · exact Goes.via (fun _ k => XT.nonnullNo X.here C.hx rfl (hb C.hby d1) rfl q k) (K2 q)
  · exact Goes.via (fun _ k => XT.nonnullYes X.here C.hx rfl rfl (hb C.hby d1) rfl h1 q d3 d4 k) (K1 q)
theorem g_iload {k : Nat} {v : Int32} (C : Cx p s m meth c Z own nm bytes maxL ret) (X : St p l e R s m A below meth c Z T h cells slots) (d : Dc bytes pc (.iload k) 2 pc') (hl : Ls[k]? = some (.val (.int v))) (K : Goes p e below W T (mkF m pc' Ls (.int v :: st))) : Goes p e below W T (mkF m pc Ls st) := by
  obtain ⟨d, rfl⟩ := d
  exact Goes.via (fun _ k => XS.iload X.here C.hx rfl (hb C.hby d) hl k) K
theorem g_iloadN {k : Fin 4} {v : Int32} (C : Cx p s m meth c Z own nm bytes maxL ret) (X : St p l e R s m A below meth c Z T h cells slots) (d : Dc bytes pc (.iload_n k) 1 pc') (hl : Ls[k.val]? = some (.val (.int v))) (K : Goes p e below W T (mkF m pc' Ls (.int v :: st))) : Goes p e below W T (mkF m pc Ls st) := by
  obtain ⟨d, rfl⟩ := d
  exact Goes.via (fun _ k => XS.iloadN X.here C.hx rfl (hb C.hby d) hl k) K
theorem g_lload {k : Nat} {v : Int64} (C : Cx p s m meth c Z own nm bytes maxL ret) (X : St p l e R s m A below meth c Z T h cells slots) (d : Dc bytes pc (.lload k) 2 pc') (hl : Ls[k]? = some (.val (.long v))) (K : Goes p e below W T (mkF m pc' Ls (.long v :: st))) : Goes p e below W T (mkF m pc Ls st) := by
  obtain ⟨d, rfl⟩ := d
  exact Goes.via (fun _ k => XT.lload X.here C.hx rfl (hb C.hby d) hl k) K
theorem g_lloadN {k : Fin 4} {v : Int64} (C : Cx p s m meth c Z own nm bytes maxL ret) (X : St p l e R s m A below meth c Z T h cells slots) (d : Dc bytes pc (.lload_n k) 1 pc') (hl : Ls[k.val]? = some (.val (.long v))) (K : Goes p e below W T (mkF m pc' Ls (.long v :: st))) : Goes p e below W T (mkF m pc Ls st) := by
  obtain ⟨d, rfl⟩ := d
  exact Goes.via (fun _ k => XT.lloadN X.here C.hx rfl (hb C.hby d) hl k) K
theorem g_aload {k : Nat} {v : Value} (C : Cx p s m meth c Z own nm bytes maxL ret) (X : St p l e R s m A below meth c Z T h cells slots) (d : Dc bytes pc (.aload k) 2 pc') (hl : Ls[k]? = some (.val v)) (hv : v.isRef = true) (K : Goes p e below W T (mkF m pc' Ls (v :: st))) : Goes p e below W T (mkF m pc Ls st) := by
  obtain ⟨d, rfl⟩ := d
  exact Goes.via (fun _ k => XS.aload X.here C.hx rfl (hb C.hby d) hl hv k) K
theorem g_aloadN {k : Fin 4} {v : Value} (C : Cx p s m meth c Z own nm bytes maxL ret) (X : St p l e R s m A below meth c Z T h cells slots) (d : Dc bytes pc (.aload_n k) 1 pc') (hl : Ls[k.val]? = some (.val v)) (hv : v.isRef = true) (K : Goes p e below W T (mkF m pc' Ls (v :: st))) : Goes p e below W T (mkF m pc Ls st) := by
  obtain ⟨d, rfl⟩ := d
  exact Goes.via (fun _ k => XS.aloadN X.here C.hx rfl (hb C.hby d) hl hv k) K
theorem g_istore {k : Nat} {x : Int32} {l' : Array Slot} (C : Cx p s m meth c Z own nm bytes maxL ret) (X : St p l e R s m A below meth c Z T h cells slots) (d : Dc bytes pc (.istore k) 2 pc') (hl : storeLocals Ls k (.int x) = some l') (K : Goes p e below W T (mkF m pc' l' st)) : Goes p e below W T (mkF m pc Ls (.int x :: st)) := by
  obtain ⟨d, rfl⟩ := d
  exact Goes.via (fun _ k => XS.istore X.here C.hx rfl (hb C.hby d) rfl hl k) K
theorem g_istoreN {k : Fin 4} {x : Int32} {l' : Array Slot} (C : Cx p s m meth c Z own nm bytes maxL ret) (X : St p l e R s m A below meth c Z T h cells slots) (d : Dc bytes pc (.istore_n k) 1 pc') (hl : storeLocals Ls k.val (.int x) = some l') (K : Goes p e below W T (mkF m pc' l' st)) : Goes p e below W T (mkF m pc Ls (.int x :: st)) := by
  obtain ⟨d, rfl⟩ := d
  exact Goes.via (fun _ k => XS.istoreN X.here C.hx rfl (hb C.hby d) rfl hl k) K
theorem g_lstore {k : Nat} {x : Int64} {l' : Array Slot} (C : Cx p s m meth c Z own nm bytes maxL ret) (X : St p l e R s m A below meth c Z T h cells slots) (d : Dc bytes pc (.lstore k) 2 pc') (hl : storeLocals Ls k (.long x) = some l') (K : Goes p e below W T (mkF m pc' l' st)) : Goes p e below W T (mkF m pc Ls (.long x :: st)) := by
  obtain ⟨d, rfl⟩ := d
  exact Goes.via (fun _ k => XT.lstore X.here C.hx rfl (hb C.hby d) rfl hl k) K
theorem g_lstoreN {k : Fin 4} {x : Int64} {l' : Array Slot} (C : Cx p s m meth c Z own nm bytes maxL ret) (X : St p l e R s m A below meth c Z T h cells slots) (d : Dc bytes pc (.lstore_n k) 1 pc') (hl : storeLocals Ls k.val (.long x) = some l') (K : Goes p e below W T (mkF m pc' l' st)) : Goes p e below W T (mkF m pc Ls (.long x :: st)) := by
  obtain ⟨d, rfl⟩ := d
  exact Goes.via (fun _ k => XT.lstoreN X.here C.hx rfl (hb C.hby d) rfl hl k) K
theorem g_astore {k : Nat} {x : Value} {l' : Array Slot} (C : Cx p s m meth c Z own nm bytes maxL ret) (X : St p l e R s m A below meth c Z T h cells slots) (d : Dc bytes pc (.astore k) 2 pc') (hv : x.isRef = true) (hl : storeLocals Ls k x = some l') (K : Goes p e below W T (mkF m pc' l' st)) : Goes p e below W T (mkF m pc Ls (x :: st)) := by
  obtain ⟨d, rfl⟩ := d
  exact Goes.via (fun _ k => XS.astore X.here C.hx rfl (hb C.hby d) rfl hv hl k) K
theorem g_astoreN {k : Fin 4} {x : Value} {l' : Array Slot} (C : Cx p s m meth c Z own nm bytes maxL ret) (X : St p l e R s m A below meth c Z T h cells slots) (d : Dc bytes pc (.astore_n k) 1 pc') (hv : x.isRef = true) (hl : storeLocals Ls k.val x = some l') (K : Goes p e below W T (mkF m pc' l' st)) : Goes p e below W T (mkF m pc Ls (x :: st)) := by
  obtain ⟨d, rfl⟩ := d
  exact Goes.via (fun _ k => XS.astoreN X.here C.hx rfl (hb C.hby d) rfl hv hl k) K
theorem g_iconst {i : Int} (v : Int32) (C : Cx p s m meth c Z own nm bytes maxL ret) (X : St p l e R s m A below meth c Z T h cells slots) (d : Dc bytes pc (.iconst i) 1 pc') (hv : Int32.ofInt i = v) (K : Goes p e below W T (mkF m pc' Ls (.int v :: st))) : Goes p e below W T (mkF m pc Ls st) := by
  obtain ⟨d, rfl⟩ := d
  exact Goes.via (fun _ k => XT.iconstV X.here C.hx rfl v (hb C.hby d) hv k) K
theorem g_bipush {i : Int} (v : Int32) (C : Cx p s m meth c Z own nm bytes maxL ret) (X : St p l e R s m A below meth c Z T h cells slots) (d : Dc bytes pc (.bipush i) 2 pc') (hv : (Int8.ofInt i).toInt32 = v) (K : Goes p e below W T (mkF m pc' Ls (.int v :: st))) : Goes p e below W T (mkF m pc Ls st) := by
  obtain ⟨d, rfl⟩ := d
  exact Goes.via (fun _ k => XT.bipushV X.here C.hx rfl v (hb C.hby d) hv k) K
theorem g_sipush {i : Int} (v : Int32) (C : Cx p s m meth c Z own nm bytes maxL ret) (X : St p l e R s m A below meth c Z T h cells slots) (d : Dc bytes pc (.sipush i) 3 pc') (hv : (Int16.ofInt i).toInt32 = v) (K : Goes p e below W T (mkF m pc' Ls (.int v :: st))) : Goes p e below W T (mkF m pc Ls st) := by
  obtain ⟨d, rfl⟩ := d
  exact Goes.via (fun _ k => XT.sipushV X.here C.hx rfl v (hb C.hby d) hv k) K
theorem g_lconst {k : Fin 2} (v : Int64) (C : Cx p s m meth c Z own nm bytes maxL ret) (X : St p l e R s m A below meth c Z T h cells slots) (d : Dc bytes pc (.lconst k) 1 pc') (hv : Int64.ofNat k = v) (K : Goes p e below W T (mkF m pc' Ls (.long v :: st))) : Goes p e below W T (mkF m pc Ls st) := by
  obtain ⟨d, rfl⟩ := d
  exact Goes.via (fun _ k => XT.lconstV X.here C.hx rfl v (hb C.hby d) hv k) K
theorem g_iinc {k : Nat} {i : Int} {x : Int32} {l' : Array Slot} (v : Int32) (C : Cx p s m meth c Z own nm bytes maxL ret) (X : St p l e R s m A below meth c Z T h cells slots) (d : Dc bytes pc (.iinc k i) 3 pc') (hv : Int32.ofInt i = v) (hl : Ls[k]? = some (.val (.int x))) (hl' : storeLocals Ls k (.int (x + v)) = some l') (K : Goes p e below W T (mkF m pc' l' st)) : Goes p e below W T (mkF m pc Ls st) := by
  obtain ⟨d, rfl⟩ := d
  exact Goes.via (fun _ k => XT.iincV X.here C.hx rfl v (hb C.hby d) hv hl hl' k) K
theorem g_aconst_null  (C : Cx p s m meth c Z own nm bytes maxL ret) (X : St p l e R s m A below meth c Z T h cells slots) (d : Dc bytes pc (.aconst_null) 1 pc')  (K : Goes p e below W T (mkF m pc' Ls (.null :: st))) : Goes p e below W T (mkF m pc Ls st) := by
  obtain ⟨d, rfl⟩ := d
  exact Goes.via (fun _ k => XS.aconstNull X.here C.hx rfl (hb C.hby d)  k) K
theorem g_iadd {x y : Int32} (C : Cx p s m meth c Z own nm bytes maxL ret) (X : St p l e R s m A below meth c Z T h cells slots) (d : Dc bytes pc (.iadd) 1 pc')  (K : Goes p e below W T (mkF m pc' Ls (.int (x + y) :: st))) : Goes p e below W T (mkF m pc Ls (.int y :: .int x :: st)) := by
  obtain ⟨d, rfl⟩ := d
  exact Goes.via (fun _ k => XS.iadd X.here C.hx rfl (hb C.hby d) rfl k) K
theorem g_ladd {x y : Int64} (C : Cx p s m meth c Z own nm bytes maxL ret) (X : St p l e R s m A below meth c Z T h cells slots) (d : Dc bytes pc (.ladd) 1 pc')  (K : Goes p e below W T (mkF m pc' Ls (.long (x + y) :: st))) : Goes p e below W T (mkF m pc Ls (.long y :: .long x :: st)) := by
  obtain ⟨d, rfl⟩ := d
  exact Goes.via (fun _ k => XT.ladd X.here C.hx rfl (hb C.hby d) rfl k) K
theorem g_isub {x y : Int32} (C : Cx p s m meth c Z own nm bytes maxL ret) (X : St p l e R s m A below meth c Z T h cells slots) (d : Dc bytes pc (.isub) 1 pc')  (K : Goes p e below W T (mkF m pc' Ls (.int (x - y) :: st))) : Goes p e below W T (mkF m pc Ls (.int y :: .int x :: st)) := by
  obtain ⟨d, rfl⟩ := d
  exact Goes.via (fun _ k => XS.isub X.here C.hx rfl (hb C.hby d) rfl k) K
theorem g_lsub {x y : Int64} (C : Cx p s m meth c Z own nm bytes maxL ret) (X : St p l e R s m A below meth c Z T h cells slots) (d : Dc bytes pc (.lsub) 1 pc')  (K : Goes p e below W T (mkF m pc' Ls (.long (x - y) :: st))) : Goes p e below W T (mkF m pc Ls (.long y :: .long x :: st)) := by
  obtain ⟨d, rfl⟩ := d
  exact Goes.via (fun _ k => XT.lsub X.here C.hx rfl (hb C.hby d) rfl k) K
theorem g_imul {x y : Int32} (C : Cx p s m meth c Z own nm bytes maxL ret) (X : St p l e R s m A below meth c Z T h cells slots) (d : Dc bytes pc (.imul) 1 pc')  (K : Goes p e below W T (mkF m pc' Ls (.int (x * y) :: st))) : Goes p e below W T (mkF m pc Ls (.int y :: .int x :: st)) := by
  obtain ⟨d, rfl⟩ := d
  exact Goes.via (fun _ k => XS.imul X.here C.hx rfl (hb C.hby d) rfl k) K
theorem g_lmul {x y : Int64} (C : Cx p s m meth c Z own nm bytes maxL ret) (X : St p l e R s m A below meth c Z T h cells slots) (d : Dc bytes pc (.lmul) 1 pc')  (K : Goes p e below W T (mkF m pc' Ls (.long (x * y) :: st))) : Goes p e below W T (mkF m pc Ls (.long y :: .long x :: st)) := by
  obtain ⟨d, rfl⟩ := d
  exact Goes.via (fun _ k => XT.lmul X.here C.hx rfl (hb C.hby d) rfl k) K
theorem g_iand {x y : Int32} (C : Cx p s m meth c Z own nm bytes maxL ret) (X : St p l e R s m A below meth c Z T h cells slots) (d : Dc bytes pc (.iand) 1 pc')  (K : Goes p e below W T (mkF m pc' Ls (.int (x &&& y) :: st))) : Goes p e below W T (mkF m pc Ls (.int y :: .int x :: st)) := by
  obtain ⟨d, rfl⟩ := d
  exact Goes.via (fun _ k => XS.iand X.here C.hx rfl (hb C.hby d) rfl k) K
theorem g_land {x y : Int64} (C : Cx p s m meth c Z own nm bytes maxL ret) (X : St p l e R s m A below meth c Z T h cells slots) (d : Dc bytes pc (.land) 1 pc')  (K : Goes p e below W T (mkF m pc' Ls (.long (x &&& y) :: st))) : Goes p e below W T (mkF m pc Ls (.long y :: .long x :: st)) := by
  obtain ⟨d, rfl⟩ := d
  exact Goes.via (fun _ k => XT.land X.here C.hx rfl (hb C.hby d) rfl k) K
theorem g_ior {x y : Int32} (C : Cx p s m meth c Z own nm bytes maxL ret) (X : St p l e R s m A below meth c Z T h cells slots) (d : Dc bytes pc (.ior) 1 pc')  (K : Goes p e below W T (mkF m pc' Ls (.int (x ||| y) :: st))) : Goes p e below W T (mkF m pc Ls (.int y :: .int x :: st)) := by
  obtain ⟨d, rfl⟩ := d
  exact Goes.via (fun _ k => XT.ior X.here C.hx rfl (hb C.hby d) rfl k) K
theorem g_lor {x y : Int64} (C : Cx p s m meth c Z own nm bytes maxL ret) (X : St p l e R s m A below meth c Z T h cells slots) (d : Dc bytes pc (.lor) 1 pc')  (K : Goes p e below W T (mkF m pc' Ls (.long (x ||| y) :: st))) : Goes p e below W T (mkF m pc Ls (.long y :: .long x :: st)) := by
  obtain ⟨d, rfl⟩ := d
  exact Goes.via (fun _ k => XT.lor X.here C.hx rfl (hb C.hby d) rfl k) K
theorem g_ixor {x y : Int32} (C : Cx p s m meth c Z own nm bytes maxL ret) (X : St p l e R s m A below meth c Z T h cells slots) (d : Dc bytes pc (.ixor) 1 pc')  (K : Goes p e below W T (mkF m pc' Ls (.int (x ^^^ y) :: st))) : Goes p e below W T (mkF m pc Ls (.int y :: .int x :: st)) := by
  obtain ⟨d, rfl⟩ := d
  exact Goes.via (fun _ k => XT.ixor X.here C.hx rfl (hb C.hby d) rfl k) K
theorem g_lxor {x y : Int64} (C : Cx p s m meth c Z own nm bytes maxL ret) (X : St p l e R s m A below meth c Z T h cells slots) (d : Dc bytes pc (.lxor) 1 pc')  (K : Goes p e below W T (mkF m pc' Ls (.long (x ^^^ y) :: st))) : Goes p e below W T (mkF m pc Ls (.long y :: .long x :: st)) := by
  obtain ⟨d, rfl⟩ := d
  exact Goes.via (fun _ k => XT.lxor X.here C.hx rfl (hb C.hby d) rfl k) K
theorem g_idiv {x y : Int32} (C : Cx p s m meth c Z own nm bytes maxL ret) (X : St p l e R s m A below meth c Z T h cells slots) (d : Dc bytes pc (.idiv) 1 pc') (hy : y ≠ 0) (K : Goes p e below W T (mkF m pc' Ls (.int (x / y) :: st))) : Goes p e below W T (mkF m pc Ls (.int y :: .int x :: st)) := by
  obtain ⟨d, rfl⟩ := d
  exact Goes.via (fun _ k => XS.idiv X.here C.hx rfl (hb C.hby d) rfl hy k) K
theorem g_ldiv {x y : Int64} (C : Cx p s m meth c Z own nm bytes maxL ret) (X : St p l e R s m A below meth c Z T h cells slots) (d : Dc bytes pc (.ldiv) 1 pc') (hy : y ≠ 0) (K : Goes p e below W T (mkF m pc' Ls (.long (x / y) :: st))) : Goes p e below W T (mkF m pc Ls (.long y :: .long x :: st)) := by
  obtain ⟨d, rfl⟩ := d
  exact Goes.via (fun _ k => XT.ldiv X.here C.hx rfl (hb C.hby d) rfl hy k) K
theorem g_ineg {x : Int32} (C : Cx p s m meth c Z own nm bytes maxL ret) (X : St p l e R s m A below meth c Z T h cells slots) (d : Dc bytes pc (.ineg) 1 pc')  (K : Goes p e below W T (mkF m pc' Ls (.int (-x) :: st))) : Goes p e below W T (mkF m pc Ls (.int x :: st)) := by
  obtain ⟨d, rfl⟩ := d
  exact Goes.via (fun _ k => XS.ineg X.here C.hx rfl (hb C.hby d) rfl k) K
theorem g_lneg {x : Int64} (C : Cx p s m meth c Z own nm bytes maxL ret) (X : St p l e R s m A below meth c Z T h cells slots) (d : Dc bytes pc (.lneg) 1 pc')  (K : Goes p e below W T (mkF m pc' Ls (.long (-x) :: st))) : Goes p e below W T (mkF m pc Ls (.long x :: st)) := by
  obtain ⟨d, rfl⟩ := d
  exact Goes.via (fun _ k => XT.lneg X.here C.hx rfl (hb C.hby d) rfl k) K
theorem g_ishl {x y : Int32} (C : Cx p s m meth c Z own nm bytes maxL ret) (X : St p l e R s m A below meth c Z T h cells slots) (d : Dc bytes pc (.ishl) 1 pc')  (K : Goes p e below W T (mkF m pc' Ls (.int (x <<< (y &&& 31)) :: st))) : Goes p e below W T (mkF m pc Ls (.int y :: .int x :: st)) := by
  obtain ⟨d, rfl⟩ := d
  exact Goes.via (fun _ k => XT.ishl X.here C.hx rfl (hb C.hby d) rfl k) K
theorem g_ishr {x y : Int32} (C : Cx p s m meth c Z own nm bytes maxL ret) (X : St p l e R s m A below meth c Z T h cells slots) (d : Dc bytes pc (.ishr) 1 pc')  (K : Goes p e below W T (mkF m pc' Ls (.int (x >>> (y &&& 31)) :: st))) : Goes p e below W T (mkF m pc Ls (.int y :: .int x :: st)) := by
  obtain ⟨d, rfl⟩ := d
  exact Goes.via (fun _ k => XT.ishr X.here C.hx rfl (hb C.hby d) rfl k) K
theorem g_iushr {x y : Int32} (C : Cx p s m meth c Z own nm bytes maxL ret) (X : St p l e R s m A below meth c Z T h cells slots) (d : Dc bytes pc (.iushr) 1 pc')  (K : Goes p e below W T (mkF m pc' Ls (.int ((x.toUInt32 >>> (y &&& 31).toUInt32).toInt32) :: st))) : Goes p e below W T (mkF m pc Ls (.int y :: .int x :: st)) := by
  obtain ⟨d, rfl⟩ := d
  exact Goes.via (fun _ k => XT.iushr X.here C.hx rfl (hb C.hby d) rfl k) K
theorem g_lshl {x : Int64} {y : Int32} (C : Cx p s m meth c Z own nm bytes maxL ret) (X : St p l e R s m A below meth c Z T h cells slots) (d : Dc bytes pc (.lshl) 1 pc')  (K : Goes p e below W T (mkF m pc' Ls (.long (x <<< (y &&& 0x3f).toInt64) :: st))) : Goes p e below W T (mkF m pc Ls (.int y :: .long x :: st)) := by
  obtain ⟨d, rfl⟩ := d
  exact Goes.via (fun _ k => XS.lshl X.here C.hx rfl (hb C.hby d) rfl k) K
theorem g_lshr {x : Int64} {y : Int32} (C : Cx p s m meth c Z own nm bytes maxL ret) (X : St p l e R s m A below meth c Z T h cells slots) (d : Dc bytes pc (.lshr) 1 pc')  (K : Goes p e below W T (mkF m pc' Ls (.long (x >>> (y &&& 0x3f).toInt64) :: st))) : Goes p e below W T (mkF m pc Ls (.int y :: .long x :: st)) := by
  obtain ⟨d, rfl⟩ := d
  exact Goes.via (fun _ k => XS.lshr X.here C.hx rfl (hb C.hby d) rfl k) K
theorem g_lushr {x : Int64} {y : Int32} (C : Cx p s m meth c Z own nm bytes maxL ret) (X : St p l e R s m A below meth c Z T h cells slots) (d : Dc bytes pc (.lushr) 1 pc')  (K : Goes p e below W T (mkF m pc' Ls (.long ((x.toUInt64 >>> (y &&& 0x3f).toInt64.toUInt64).toInt64) :: st))) : Goes p e below W T (mkF m pc Ls (.int y :: .long x :: st)) := by
  obtain ⟨d, rfl⟩ := d
  exact Goes.via (fun _ k => XS.lushr X.here C.hx rfl (hb C.hby d) rfl k) K
theorem g_i2l {x : Int32} (C : Cx p s m meth c Z own nm bytes maxL ret) (X : St p l e R s m A below meth c Z T h cells slots) (d : Dc bytes pc (.i2l) 1 pc')  (K : Goes p e below W T (mkF m pc' Ls (.long x.toInt64 :: st))) : Goes p e below W T (mkF m pc Ls (.int x :: st)) := by
  obtain ⟨d, rfl⟩ := d
  exact Goes.via (fun _ k => XT.i2l X.here C.hx rfl (hb C.hby d) rfl k) K
theorem g_l2i {x : Int64} (C : Cx p s m meth c Z own nm bytes maxL ret) (X : St p l e R s m A below meth c Z T h cells slots) (d : Dc bytes pc (.l2i) 1 pc')  (K : Goes p e below W T (mkF m pc' Ls (.int x.toInt32 :: st))) : Goes p e below W T (mkF m pc Ls (.long x :: st)) := by
  obtain ⟨d, rfl⟩ := d
  exact Goes.via (fun _ k => XT.l2i X.here C.hx rfl (hb C.hby d) rfl k) K
theorem g_i2b {x : Int32} (C : Cx p s m meth c Z own nm bytes maxL ret) (X : St p l e R s m A below meth c Z T h cells slots) (d : Dc bytes pc (.i2b) 1 pc')  (K : Goes p e below W T (mkF m pc' Ls (.int x.toInt8.toInt32 :: st))) : Goes p e below W T (mkF m pc Ls (.int x :: st)) := by
  obtain ⟨d, rfl⟩ := d
  exact Goes.via (fun _ k => XT.i2b X.here C.hx rfl (hb C.hby d) rfl k) K
theorem g_i2s {x : Int32} (C : Cx p s m meth c Z own nm bytes maxL ret) (X : St p l e R s m A below meth c Z T h cells slots) (d : Dc bytes pc (.i2s) 1 pc')  (K : Goes p e below W T (mkF m pc' Ls (.int x.toInt16.toInt32 :: st))) : Goes p e below W T (mkF m pc Ls (.int x :: st)) := by
  obtain ⟨d, rfl⟩ := d
  exact Goes.via (fun _ k => XT.i2s X.here C.hx rfl (hb C.hby d) rfl k) K
theorem g_i2c {x : Int32} (C : Cx p s m meth c Z own nm bytes maxL ret) (X : St p l e R s m A below meth c Z T h cells slots) (d : Dc bytes pc (.i2c) 1 pc')  (K : Goes p e below W T (mkF m pc' Ls (.int x.toUInt32.toUInt16.toUInt32.toInt32 :: st))) : Goes p e below W T (mkF m pc Ls (.int x :: st)) := by
  obtain ⟨d, rfl⟩ := d
  exact Goes.via (fun _ k => XT.i2c X.here C.hx rfl (hb C.hby d) rfl k) K
theorem g_lcmp {x y : Int64} (C : Cx p s m meth c Z own nm bytes maxL ret) (X : St p l e R s m A below meth c Z T h cells slots) (d : Dc bytes pc (.lcmp) 1 pc')  (K : Goes p e below W T (mkF m pc' Ls (.int (lcmpW x y) :: st))) : Goes p e below W T (mkF m pc Ls (.long y :: .long x :: st)) := by
  obtain ⟨d, rfl⟩ := d
  exact Goes.via (fun _ k => XT.lcmp X.here C.hx rfl (hb C.hby d) rfl k) K
theorem g_pop {x : Value} (C : Cx p s m meth c Z own nm bytes maxL ret) (X : St p l e R s m A below meth c Z T h cells slots) (d : Dc bytes pc (.pop) 1 pc') (hc : x.category = 1) (K : Goes p e below W T (mkF m pc' Ls st)) : Goes p e below W T (mkF m pc Ls (x :: st)) := by
  obtain ⟨d, rfl⟩ := d
  exact Goes.via (fun _ k => XT.pop X.here C.hx rfl (hb C.hby d) rfl hc k) K
theorem g_dup {x : Value} (C : Cx p s m meth c Z own nm bytes maxL ret) (X : St p l e R s m A below meth c Z T h cells slots) (d : Dc bytes pc (.dup) 1 pc') (hc : x.category = 1) (K : Goes p e below W T (mkF m pc' Ls (x :: x :: st))) : Goes p e below W T (mkF m pc Ls (x :: st)) := by
  obtain ⟨d, rfl⟩ := d
  exact Goes.via (fun _ k => XS.dup X.here C.hx rfl (hb C.hby d) rfl hc k) K
theorem g_dup_x1 {x y : Value} (C : Cx p s m meth c Z own nm bytes maxL ret) (X : St p l e R s m A below meth c Z T h cells slots) (d : Dc bytes pc (.dup_x1) 1 pc') (hc : x.category = 1) (hc' : y.category = 1) (K : Goes p e below W T (mkF m pc' Ls (x :: y :: x :: st))) : Goes p e below W T (mkF m pc Ls (x :: y :: st)) := by
  obtain ⟨d, rfl⟩ := d
  exact Goes.via (fun _ k => XT.dupX1 X.here C.hx rfl (hb C.hby d) rfl hc hc' k) K
theorem g_dup2 {x y : Value} (C : Cx p s m meth c Z own nm bytes maxL ret) (X : St p l e R s m A below meth c Z T h cells slots) (d : Dc bytes pc (.dup2) 1 pc') (hc : x.category = 1) (hc' : y.category = 1) (K : Goes p e below W T (mkF m pc' Ls (x :: y :: x :: y :: st))) : Goes p e below W T (mkF m pc Ls (x :: y :: st)) := by
  obtain ⟨d, rfl⟩ := d
  exact Goes.via (fun _ k => XT.dup2 X.here C.hx rfl (hb C.hby d) rfl hc hc' k) K
theorem g_dup2L {x : Int64} (C : Cx p s m meth c Z own nm bytes maxL ret) (X : St p l e R s m A below meth c Z T h cells slots) (d : Dc bytes pc (.dup2) 1 pc')  (K : Goes p e below W T (mkF m pc' Ls (.long x :: .long x :: st))) : Goes p e below W T (mkF m pc Ls (.long x :: st)) := by
  obtain ⟨d, rfl⟩ := d
  exact Goes.via (fun _ k => XT.dup2L X.here C.hx rfl (hb C.hby d) rfl k) K
theorem g_irem {x y : Int32} (C : Cx p s m meth c Z own nm bytes maxL ret) (X : St p l e R s m A below meth c Z T h cells slots) (d : Dc bytes pc .irem 1 pc') (hy : y ≠ 0) (K : Goes p e below W T (mkF m pc' Ls (.int (x % y) :: st))) : Goes p e below W T (mkF m pc Ls (.int y :: .int x :: st)) := by
  obtain ⟨d, rfl⟩ := d
  obtain ⟨_, Y, _⟩ := X
  exact Goes.via (fun _ k => iremM Y C.hx rfl (hb C.hby d) rfl hy k) K
theorem g_lrem {x y : Int64} (C : Cx p s m meth c Z own nm bytes maxL ret) (X : St p l e R s m A below meth c Z T h cells slots) (d : Dc bytes pc .lrem 1 pc') (hy : y ≠ 0) (K : Goes p e below W T (mkF m pc' Ls (.long (x % y) :: st))) : Goes p e below W T (mkF m pc Ls (.long y :: .long x :: st)) := by
  obtain ⟨d, rfl⟩ := d
  rw [← lrem_mod] at K
  exact Goes.via (fun _ k => XT.lrem X.here C.hx rfl (hb C.hby d) rfl hy k) K
theorem g_ldcI {index : Nat} {v : Int32} (C : Cx p s m meth c Z own nm bytes maxL ret) (X : St p l e R s m A below meth c Z T h cells slots) (w : (Jvm.Cond.constant own index v).before a0 Z = true) (d : Dc bytes pc (.ldc index) 2 pc') (K : Goes p e below W T (mkF m pc' Ls (.int v :: st))) : Goes p e below W T (mkF m pc Ls st) := by
  obtain ⟨d, rfl⟩ := d
  obtain ⟨_, Y, _⟩ := X
  exact Goes.via (fun t k => Y.ldcInt C.hx C.hown (mvT C.hZ w) (g := mkF m pc Ls st) rfl (hb C.hby d) t k) K
theorem g_ldcwI {index : Nat} {v : Int32} (C : Cx p s m meth c Z own nm bytes maxL ret) (X : St p l e R s m A below meth c Z T h cells slots) (w : (Jvm.Cond.constant own index v).before a0 Z = true) (d : Dc bytes pc (.ldc_w index) 3 pc') (K : Goes p e below W T (mkF m pc' Ls (.int v :: st))) : Goes p e below W T (mkF m pc Ls st) := by
  obtain ⟨d, rfl⟩ := d
  obtain ⟨_, Y, _⟩ := X
  exact Goes.via (fun t k => Y.ldcWI C.hx C.hown (mvT C.hZ w) (g := mkF m pc Ls st) rfl (hb C.hby d) k) K
theorem g_ldcJ {index : Nat} {v : Int64} (C : Cx p s m meth c Z own nm bytes maxL ret) (X : St p l e R s m A below meth c Z T h cells slots) (w : (Jvm.Cond.constantLong own index v).before a0 Z = true) (d : Dc bytes pc (.ldc2_w index) 3 pc') (K : Goes p e below W T (mkF m pc' Ls (.long v :: st))) : Goes p e below W T (mkF m pc Ls st) := by
  obtain ⟨d, rfl⟩ := d
  obtain ⟨_, Y, _⟩ := X
  exact Goes.via (fun t k => Y.ldc2Long C.hx C.hown (mvT C.hZ w) (g := mkF m pc Ls st) rfl (hb C.hby d) t k) K
theorem g_getstatic {R0 O n dd host : String} {index : Nat} {v : Value} (C : Cx p s m meth c Z own nm bytes maxL ret) (X : St p l e R s m A below meth c Z T h cells slots) (w : (Jvm.Cond.fieldLink own index R0 n dd).before a0 Z = true ∨ (Jvm.Cond.fieldLinkNest own index R0 n dd host).before a0 Z = true) (via : Via Z R0 O n dd) (F : Sta Z Z.heap O n dd v) (d : Dc bytes pc (.getstatic index) 3 pc')
    (K : ∀ T', St p l e R s m A below meth c Z T' h cells slots → Goes p e below W T' (mkF m pc' Ls (v :: st))) : Goes p e below W T (mkF m pc Ls st) := by
  obtain ⟨d, rfl⟩ := d
  obtain ⟨L, Y, eT, N, E⟩ := X
  obtain ⟨T', Y', e', q⟩ := getS2 Y C.hx C.hZ C.hown w via eT (F.ext E) (g := mkF m pc Ls st) rfl (hb C.hby d)
  exact Goes.via q (K T' ⟨L, Y', e', N, E⟩)
theorem g_getfield {R0 O n dd host : String} {index : Nat} {a : Addr} {v : Value} (C : Cx p s m meth c Z own nm bytes maxL ret) (X : St p l e R s m A below meth c Z T h cells slots) (w : (Jvm.Cond.fieldLink own index R0 n dd).before a0 Z = true ∨ (Jvm.Cond.fieldLinkNest own index R0 n dd host).before a0 Z = true) (via : Via Z R0 O n dd) (F : Fld Z h a O n dd v) (d : Dc bytes pc (.getfield index) 3 pc')
    (K : ∀ T', St p l e R s m A below meth c Z T' h cells slots → Goes p e below W T' (mkF m pc' Ls (v :: st))) : Goes p e below W T (mkF m pc Ls (.ref a :: st)) := by
  obtain ⟨d, rfl⟩ := d
  obtain ⟨L, Y, eT, N, E⟩ := X
  obtain ⟨T', Y', e', q⟩ := getF Y C.hx C.hZ C.hown w via eT F (g := mkF m pc Ls (.ref a :: st)) rfl rfl (hb C.hby d)
  exact Goes.via q (K T' ⟨L, Y', e', N, E⟩)
theorem ext_wr {h h' : Heap} {a : Addr} {sl : Nat} {v : Value} (E : Ext Z.heap h) (w : Wr h h' a sl v) (q : Z.heap.size ≤ a) : Ext Z.heap h' := (Old.wr (Z := Z) (n0 := Z.heap.size) (h := h) ⟨rfl, E⟩ w q).2
theorem ext_keep {h h' : Heap} {ws : List Addr} (E : Ext Z.heap h) (w : Keep h h' ws) (q : ∀ x ∈ ws, Z.heap.size ≤ x) : Ext Z.heap h' := (Old.keep (Z := Z) (n0 := Z.heap.size) (h := h) ⟨rfl, E⟩ w q).2
theorem ext_trans {h h' : Heap} (E : Ext Z.heap h) (E' : Ext h h') : Ext Z.heap h' := ⟨Nat.le_trans E.1 E'.1, fun x c q => E'.2 x c (E.2 x c q)⟩
theorem g_putfield {R0 O n dd host K0 : String} {index kk : Nat} {ty : FieldType} {a : Addr} {v old : Value} (C : Cx p s m meth c Z own nm bytes maxL ret) (X : St p l e R s m A below meth c Z T h cells slots) (w : (Jvm.Cond.fieldLink own index R0 n dd).before a0 Z = true ∨ (Jvm.Cond.fieldLinkNest own index R0 n dd host).before a0 Z = true) (via : Via Z R0 O n dd)
    (F : Fld Z h a O n dd old) (Ex : Exa Z h a K0) (L : (Jvm.Cond.lays K0 O n dd).before a0 Z = true ∨ ((Jvm.Cond.laysFinal K0 O n dd).before a0 Z = true ∧ own = O ∧ nm = "<init>")) (wi : (Jvm.Cond.instantiable K0 kk).before a0 Z = true) (hty : parseFieldDescriptor dd = some ty) (hn : narrow ty v = v) (hf : fits ty v = true) (hnew : Z.heap.size ≤ a) (d : Dc bytes pc (.putfield index) 3 pc')
    (K : ∀ T' h', St p l e R s m A below meth c Z T' h' cells slots → Wr h h' a (RoadKit.slotOf Z O n dd) v → Goes p e below W T' (mkF m pc' Ls st)) : Goes p e below W T (mkF m pc Ls (v :: .ref a :: st)) := by
  obtain ⟨d, rfl⟩ := d
  obtain ⟨L0, Y, eT, N, E⟩ := X
  obtain ⟨T', h', Y', e', W', q⟩ := putF Y C.hx C.hZ C.hown w via eT F Ex (L.imp id fun z => ⟨z.1, z.2.1, C.hnm.trans z.2.2⟩) wi hty hn hf (g := mkF m pc Ls (v :: .ref a :: st)) rfl rfl (hb C.hby d)
  exact Goes.via q (K T' h' ⟨_, Y', e', Fr.snoc Y' N hnew, ext_wr E W' hnew⟩ W')
theorem g_new {K0 : String} {index n : Nat} (C : Cx p s m meth c Z own nm bytes maxL ret) (X : St p l e R s m A below meth c Z T h cells slots) (w : (Jvm.Cond.classLink own index K0).before a0 Z = true) (wi : (Jvm.Cond.instantiable K0 n).before a0 Z = true) (wz : (Jvm.Cond.initialized K0).before a0 Z = true) (d : Dc bytes pc (.new index) 3 pc') (hc : cells + 1 ≤ R.cells) (hl : slots + n ≤ R.slots)
    (K : ∀ T' h' b, b = h.size → Z.heap.size ≤ b → St p l e R s m A below meth c Z T' h' (cells + 1) (slots + n) → Ext h h' → Exa Z h' b K0 → (∀ {O f dd : String} {ty : FieldType}, Laid Z a0 K0 O f dd → parseFieldDescriptor dd = some ty → Fld Z h' b O f dd (defaultValue ty)) → (∃ cell : Cell, h'[b]? = some cell ∧ cell.vm = .none ∧ cell.monitor = {}) → Goes p e below W T' (mkF m pc' Ls (.ref b :: st))) : Goes p e below W T (mkF m pc Ls st) := by
  obtain ⟨d, rfl⟩ := d
  obtain ⟨L0, Y, eT, N, E⟩ := X
  obtain ⟨T', h', Y', e', E', A', D', M', q⟩ := newO Y C.hx C.hZ C.hown w wi wz eT (g := mkF m pc Ls st) rfl (hb C.hby d) hc hl
  exact Goes.via q (K T' h' _ rfl E.1 ⟨_, Y', e', N, ext_trans E E'⟩ E' A' D' M')
theorem g_newarray {aty : ArrayType} {n : Int32} (C : Cx p s m meth c Z own nm bytes maxL ret) (X : St p l e R s m A below meth c Z T h cells slots) (w : (Jvm.Cond.arrayClass (newarray.typeOf aty)).before a0 Z = true) (d : Dc bytes pc (.newarray aty) 2 pc') (hn : ¬ n < 0) (cap : Nat) (hcap : n.toNatClampNeg ≤ cap) (hb' : cap * 8 ≤ 536870912) (hc : cells + 1 ≤ R.cells) (hl : slots + cap ≤ R.slots)
    (K : ∀ T' h' b k, b = h.size → Z.heap.size ≤ b → St p l e R s m A below meth c Z T' h' (cells + 1) (slots + cap) → Ext h h' → Arv Z h' b k (newarray.typeOf aty) n (List.replicate cap (defaultValue (newarray.typeOf aty))) (defaultValue (newarray.typeOf aty)) → Goes p e below W T' (mkF m pc' Ls (.ref b :: st))) : Goes p e below W T (mkF m pc Ls (.int n :: st)) := by
  obtain ⟨d, rfl⟩ := d
  obtain ⟨L0, Y, eT, N, E⟩ := X
  obtain ⟨T', h', k, Y', e', E', A', q⟩ := newP Y C.hx C.hZ w eT (g := mkF m pc Ls (.int n :: st)) rfl (hb C.hby d) rfl hn hcap hb' hc hl
  exact Goes.via q (K T' h' _ k rfl E.1 ⟨_, Y', e', N, ext_trans E E'⟩ E' ((Arv.new A' hn).pad (pad_rep [] _ cap)))
theorem g_checkcast {K0 : String} {index : Nat} {a : Addr} (C : Cx p s m meth c Z own nm bytes maxL ret) (X : St p l e R s m A below meth c Z T h cells slots) (w : (Jvm.Cond.classLink own index K0).before a0 Z = true) (F : Ins Z h a K0 true) (d : Dc bytes pc (.checkcast index) 3 pc')
    (K : ∀ T', St p l e R s m A below meth c Z T' h cells slots → Goes p e below W T' (mkF m pc' Ls (.ref a :: st))) : Goes p e below W T (mkF m pc Ls (.ref a :: st)) := by
  obtain ⟨d, rfl⟩ := d
  obtain ⟨L, Y, eT, N, E⟩ := X
  obtain ⟨T', Y', e', q⟩ := castY Y C.hx C.hZ C.hown w eT F (g := mkF m pc Ls (.ref a :: st)) rfl rfl (hb C.hby d)
  exact Goes.via q (K T' ⟨L, Y', e', N, E⟩)
theorem g_checkcastN {index : Nat} (C : Cx p s m meth c Z own nm bytes maxL ret) (X : St p l e R s m A below meth c Z T h cells slots) (d : Dc bytes pc (.checkcast index) 3 pc') (K : Goes p e below W T (mkF m pc' Ls (.null :: st))) : Goes p e below W T (mkF m pc Ls (.null :: st)) := by
  obtain ⟨d, rfl⟩ := d
  obtain ⟨L, Y, eT, N, E⟩ := X
  exact Goes.via (Y.checkcastNull C.hx (g := mkF m pc Ls (.null :: st)) rfl rfl (hb C.hby d)) K
theorem g_instanceY {K0 : String} {index : Nat} {a : Addr} (C : Cx p s m meth c Z own nm bytes maxL ret) (X : St p l e R s m A below meth c Z T h cells slots) (w : (Jvm.Cond.classLink own index K0).before a0 Z = true) (F : Ins Z h a K0 true) (d : Dc bytes pc (.instanceof index) 3 pc')
    (K : ∀ T', St p l e R s m A below meth c Z T' h cells slots → Goes p e below W T' (mkF m pc' Ls (.int 1 :: st))) : Goes p e below W T (mkF m pc Ls (.ref a :: st)) := by
  obtain ⟨d, rfl⟩ := d
  obtain ⟨L, Y, eT, N, E⟩ := X
  obtain ⟨T', Y', e', q⟩ := instY Y C.hx C.hZ C.hown w eT F (g := mkF m pc Ls (.ref a :: st)) rfl rfl (hb C.hby d)
  exact Goes.via q (K T' ⟨L, Y', e', N, E⟩)
theorem g_instanceN {index : Nat} (C : Cx p s m meth c Z own nm bytes maxL ret) (X : St p l e R s m A below meth c Z T h cells slots) (d : Dc bytes pc (.instanceof index) 3 pc') (K : Goes p e below W T (mkF m pc' Ls (.int 0 :: st))) : Goes p e below W T (mkF m pc Ls (.null :: st)) := by
  obtain ⟨d, rfl⟩ := d
  obtain ⟨L, Y, eT, N, E⟩ := X
  exact Goes.via (Y.instanceofNull C.hx (g := mkF m pc Ls (.null :: st)) rfl rfl (hb C.hby d)) K
theorem keep_ext {h h' : Heap} (K : Keep h h' []) : Ext h h' := ⟨K.1, fun x c q => K.2.1 x c q nin0⟩
theorem ext_keep0 {h h' : Heap} (E : Ext h h') (ws : List Addr) : Keep h h' ws := (Keep.refl h ws).ext E
/-- a place of an array -/
theorem in_of {n j : Int32} {c : Cell} (S : c.slots.size = n.toNatClampNeg) (hj : ¬ j < 0) (hj' : j < n) : ¬ (j < 0 ∨ c.slots.size ≤ j.toNatClampNeg) := inb_of S ⟨hj, hj'⟩
theorem g_arraylength {a : Addr} {k : ClassId} {ty : FieldType} {n : Int32} {vs : List Value} {dv : Value} (C : Cx p s m meth c Z own nm bytes maxL ret) (X : St p l e R s m A below meth c Z T h cells slots) (F : Arv Z h a k ty n vs dv) (d : Dc bytes pc .arraylength 1 pc') (K : Goes p e below W T (mkF m pc' Ls (.int n :: st))) : Goes p e below W T (mkF m pc Ls (.ref a :: st)) := by
  obtain ⟨d, rfl⟩ := d
  obtain ⟨L0, Y, eT, N, E⟩ := X
  obtain ⟨cl, Ar, -, hS, hN, -, -⟩ := F
  rw [← len_of hS hN] at K
  exact Goes.via (Y.arraylength C.hx (by rw [eT]; exact Ar.1) (State.isArrayOf_alike C.hZ.alike Ar.2.1) (g := mkF m pc Ls (.ref a :: st)) rfl rfl (hb C.hby d)) K
theorem g_iaload {a : Addr} {k : ClassId} {n j : Int32} {vs : List Value} {dv : Value} {v : Int32} (C : Cx p s m meth c Z own nm bytes maxL ret) (X : St p l e R s m A below meth c Z T h cells slots) (F : Arv Z h a k .int n vs dv) (d : Dc bytes pc .iaload 1 pc') (hj : ¬ j < 0) (hj' : j < n) (hv : vs.getD j.toNatClampNeg dv = .int v) (K : Goes p e below W T (mkF m pc' Ls (.int v :: st))) : Goes p e below W T (mkF m pc Ls (.int j :: .ref a :: st)) := by
  obtain ⟨d, rfl⟩ := d
  obtain ⟨L0, Y, eT, N, E⟩ := X
  obtain ⟨cl, Ar, -, hS, hN, hH, -⟩ := F
  have hin := in_of hS hj hj'
  exact Goes.via (Y.iaload C.hx (j := j) (v := .int v) (by rw [eT]; exact Ar.1) (State.isArrayOf_alike C.hZ.alike Ar.2.1) Ar.2.2 hin (hH.at hin hv) (g := mkF m pc Ls (.int j :: .ref a :: st)) rfl rfl (hb C.hby d)) K
theorem g_caload {a : Addr} {k : ClassId} {n j : Int32} {vs : List Value} {dv : Value} {v : Int32} (C : Cx p s m meth c Z own nm bytes maxL ret) (X : St p l e R s m A below meth c Z T h cells slots) (F : Arv Z h a k .char n vs dv) (d : Dc bytes pc .caload 1 pc') (hj : ¬ j < 0) (hj' : j < n) (hv : vs.getD j.toNatClampNeg dv = .int v) (K : Goes p e below W T (mkF m pc' Ls (.int v :: st))) : Goes p e below W T (mkF m pc Ls (.int j :: .ref a :: st)) := by
  obtain ⟨d, rfl⟩ := d
  obtain ⟨L0, Y, eT, N, E⟩ := X
  obtain ⟨cl, Ar, -, hS, hN, hH, -⟩ := F
  have hin := in_of hS hj hj'
  exact Goes.via (Y.caload C.hx (j := j) (v := .int v) (by rw [eT]; exact Ar.1) (State.isArrayOf_alike C.hZ.alike Ar.2.1) Ar.2.2 hin (hH.at hin hv) (g := mkF m pc Ls (.int j :: .ref a :: st)) rfl rfl (hb C.hby d)) K
theorem g_saload {a : Addr} {k : ClassId} {n j : Int32} {vs : List Value} {dv : Value} {v : Int32} (C : Cx p s m meth c Z own nm bytes maxL ret) (X : St p l e R s m A below meth c Z T h cells slots) (F : Arv Z h a k .short n vs dv) (d : Dc bytes pc .saload 1 pc') (hj : ¬ j < 0) (hj' : j < n) (hv : vs.getD j.toNatClampNeg dv = .int v) (K : Goes p e below W T (mkF m pc' Ls (.int v :: st))) : Goes p e below W T (mkF m pc Ls (.int j :: .ref a :: st)) := by
  obtain ⟨d, rfl⟩ := d
  obtain ⟨L0, Y, eT, N, E⟩ := X
  obtain ⟨cl, Ar, -, hS, hN, hH, -⟩ := F
  have hin := in_of hS hj hj'
  exact Goes.via (Y.saload C.hx (j := j) (v := .int v) (by rw [eT]; exact Ar.1) (State.isArrayOf_alike C.hZ.alike Ar.2.1) Ar.2.2 hin (hH.at hin hv) (g := mkF m pc Ls (.int j :: .ref a :: st)) rfl rfl (hb C.hby d)) K
theorem g_baload {a : Addr} {k : ClassId} {n j : Int32} {vs : List Value} {dv : Value} {v : Int32} (C : Cx p s m meth c Z own nm bytes maxL ret) (X : St p l e R s m A below meth c Z T h cells slots) (F : Arv Z h a k .byte n vs dv) (d : Dc bytes pc .baload 1 pc') (hj : ¬ j < 0) (hj' : j < n) (hv : vs.getD j.toNatClampNeg dv = .int v) (K : Goes p e below W T (mkF m pc' Ls (.int v :: st))) : Goes p e below W T (mkF m pc Ls (.int j :: .ref a :: st)) := by
  obtain ⟨d, rfl⟩ := d
  obtain ⟨L0, Y, eT, N, E⟩ := X
  obtain ⟨cl, Ar, -, hS, hN, hH, -⟩ := F
  have hin := in_of hS hj hj'
  exact Goes.via (Y.baloadBytes C.hx (j := j) (v := .int v) (by rw [eT]; exact Ar.1) (State.isArrayOf_alike C.hZ.alike Ar.2.1) Ar.2.2 hin (hH.at hin hv) (g := mkF m pc Ls (.int j :: .ref a :: st)) rfl rfl (hb C.hby d)) K
theorem g_laload {a : Addr} {k : ClassId} {n j : Int32} {vs : List Value} {dv : Value} {v : Int64} (C : Cx p s m meth c Z own nm bytes maxL ret) (X : St p l e R s m A below meth c Z T h cells slots) (F : Arv Z h a k .long n vs dv) (d : Dc bytes pc .laload 1 pc') (hj : ¬ j < 0) (hj' : j < n) (hv : vs.getD j.toNatClampNeg dv = .long v) (K : Goes p e below W T (mkF m pc' Ls (.long v :: st))) : Goes p e below W T (mkF m pc Ls (.int j :: .ref a :: st)) := by
  obtain ⟨d, rfl⟩ := d
  obtain ⟨L0, Y, eT, N, E⟩ := X
  obtain ⟨cl, Ar, -, hS, hN, hH, -⟩ := F
  have hin := in_of hS hj hj'
  exact Goes.via (Y.laload C.hx (j := j) (v := .long v) (by rw [eT]; exact Ar.1) (State.isArrayOf_alike C.hZ.alike Ar.2.1) Ar.2.2 hin (hH.at hin hv) (g := mkF m pc Ls (.int j :: .ref a :: st)) rfl rfl (hb C.hby d)) K
theorem g_aaload {a : Addr} {k : ClassId} {ty : FieldType} {n j : Int32} {vs : List Value} {dv v : Value} (C : Cx p s m meth c Z own nm bytes maxL ret) (X : St p l e R s m A below meth c Z T h cells slots) (F : Arv Z h a k ty n vs dv) (hty : ty.isReference = true) (d : Dc bytes pc .aaload 1 pc') (hj : ¬ j < 0) (hj' : j < n) (hv : vs.getD j.toNatClampNeg dv = v) (K : Goes p e below W T (mkF m pc' Ls (v :: st))) : Goes p e below W T (mkF m pc Ls (.int j :: .ref a :: st)) := by
  obtain ⟨d, rfl⟩ := d
  obtain ⟨L0, Y, eT, N, E⟩ := X
  obtain ⟨cl, Ar, -, hS, hN, hH, -⟩ := F
  have hin := in_of hS hj hj'
  exact Goes.via (Y.aaload C.hx (j := j) (v := v) (by rw [eT]; exact Ar.1) (State.isArrayOf_alike C.hZ.alike Ar.2.1) hty Ar.2.2 hin (hH.at hin hv) (g := mkF m pc Ls (.int j :: .ref a :: st)) rfl rfl (hb C.hby d)) K
theorem g_iastore {a : Addr} {k : ClassId} {n j : Int32} {vs : List Value} {dv : Value} {x : Int32} (C : Cx p s m meth c Z own nm bytes maxL ret) (X : St p l e R s m A below meth c Z T h cells slots) (F : Arv Z h a k .int n vs dv) (hnew : Z.heap.size ≤ a) (d : Dc bytes pc .iastore 1 pc') (hj : ¬ j < 0) (hj' : j < n) (hi : j.toNatClampNeg < vs.length) (y : Value) (hy : .int x = y)
    (K : ∀ T' h', St p l e R s m A below meth c Z T' h' cells slots → Wr h h' a j.toNatClampNeg y → Arv Z h' a k .int n (vs.set j.toNatClampNeg y) dv → Goes p e below W T' (mkF m pc' Ls st)) : Goes p e below W T (mkF m pc Ls (.int x :: .int j :: .ref a :: st)) := by
  subst hy
  obtain ⟨d, rfl⟩ := d
  obtain ⟨L0, Y, eT, N, E⟩ := X
  obtain ⟨cl, Ar, q1, hS, hN, hH, hG⟩ := F
  have hin := in_of hS hj hj'
  obtain ⟨T', h', Y', e', W', q⟩ := stI Y C.hx C.hZ eT Ar hin (g := mkF m pc Ls (.int x :: .int j :: .ref a :: st)) rfl rfl (hb C.hby d)
  exact Goes.via q (K T' h' ⟨_, Y', e', Fr.snoc Y' N hnew, ext_wr E W' hnew⟩ W' (Arv.set Ar q1 hS hN hH hG rfl W' _ rfl hi))
theorem g_castore {a : Addr} {k : ClassId} {n j : Int32} {vs : List Value} {dv : Value} {x : Int32} (C : Cx p s m meth c Z own nm bytes maxL ret) (X : St p l e R s m A below meth c Z T h cells slots) (F : Arv Z h a k .char n vs dv) (hnew : Z.heap.size ≤ a) (d : Dc bytes pc .castore 1 pc') (hj : ¬ j < 0) (hj' : j < n) (hi : j.toNatClampNeg < vs.length) (y : Value) (hy : .int (nar .char x) = y)
    (K : ∀ T' h', St p l e R s m A below meth c Z T' h' cells slots → Wr h h' a j.toNatClampNeg y → Arv Z h' a k .char n (vs.set j.toNatClampNeg y) dv → Goes p e below W T' (mkF m pc' Ls st)) : Goes p e below W T (mkF m pc Ls (.int x :: .int j :: .ref a :: st)) := by
  subst hy
  obtain ⟨d, rfl⟩ := d
  obtain ⟨L0, Y, eT, N, E⟩ := X
  obtain ⟨cl, Ar, q1, hS, hN, hH, hG⟩ := F
  have hin := in_of hS hj hj'
  obtain ⟨T', h', Y', e', W', q⟩ := stC Y C.hx C.hZ eT Ar hin (g := mkF m pc Ls (.int x :: .int j :: .ref a :: st)) rfl rfl (hb C.hby d)
  exact Goes.via q (K T' h' ⟨_, Y', e', Fr.snoc Y' N hnew, ext_wr E W' hnew⟩ W' (Arv.set Ar q1 hS hN hH hG (fits_nar_char _) W' _ rfl hi))
theorem g_sastore {a : Addr} {k : ClassId} {n j : Int32} {vs : List Value} {dv : Value} {x : Int32} (C : Cx p s m meth c Z own nm bytes maxL ret) (X : St p l e R s m A below meth c Z T h cells slots) (F : Arv Z h a k .short n vs dv) (hnew : Z.heap.size ≤ a) (d : Dc bytes pc .sastore 1 pc') (hj : ¬ j < 0) (hj' : j < n) (hi : j.toNatClampNeg < vs.length) (y : Value) (hy : .int (nar .short x) = y)
    (K : ∀ T' h', St p l e R s m A below meth c Z T' h' cells slots → Wr h h' a j.toNatClampNeg y → Arv Z h' a k .short n (vs.set j.toNatClampNeg y) dv → Goes p e below W T' (mkF m pc' Ls st)) : Goes p e below W T (mkF m pc Ls (.int x :: .int j :: .ref a :: st)) := by
  subst hy
  obtain ⟨d, rfl⟩ := d
  obtain ⟨L0, Y, eT, N, E⟩ := X
  obtain ⟨cl, Ar, q1, hS, hN, hH, hG⟩ := F
  have hin := in_of hS hj hj'
  obtain ⟨T', h', Y', e', W', q⟩ := stS Y C.hx C.hZ eT Ar hin (g := mkF m pc Ls (.int x :: .int j :: .ref a :: st)) rfl rfl (hb C.hby d)
  exact Goes.via q (K T' h' ⟨_, Y', e', Fr.snoc Y' N hnew, ext_wr E W' hnew⟩ W' (Arv.set Ar q1 hS hN hH hG (fits_nar_short _) W' _ rfl hi))
theorem g_bastore {a : Addr} {k : ClassId} {n j : Int32} {vs : List Value} {dv : Value} {x : Int32} (C : Cx p s m meth c Z own nm bytes maxL ret) (X : St p l e R s m A below meth c Z T h cells slots) (F : Arv Z h a k .byte n vs dv) (hnew : Z.heap.size ≤ a) (d : Dc bytes pc .bastore 1 pc') (hj : ¬ j < 0) (hj' : j < n) (hi : j.toNatClampNeg < vs.length) (y : Value) (hy : .int (nar .byte x) = y)
    (K : ∀ T' h', St p l e R s m A below meth c Z T' h' cells slots → Wr h h' a j.toNatClampNeg y → Arv Z h' a k .byte n (vs.set j.toNatClampNeg y) dv → Goes p e below W T' (mkF m pc' Ls st)) : Goes p e below W T (mkF m pc Ls (.int x :: .int j :: .ref a :: st)) := by
  subst hy
  obtain ⟨d, rfl⟩ := d
  obtain ⟨L0, Y, eT, N, E⟩ := X
  obtain ⟨cl, Ar, q1, hS, hN, hH, hG⟩ := F
  have hin := in_of hS hj hj'
  obtain ⟨T', h', Y', e', W', q⟩ := stB Y C.hx C.hZ eT Ar hin (g := mkF m pc Ls (.int x :: .int j :: .ref a :: st)) rfl rfl (hb C.hby d)
  exact Goes.via q (K T' h' ⟨_, Y', e', Fr.snoc Y' N hnew, ext_wr E W' hnew⟩ W' (Arv.set Ar q1 hS hN hH hG (fits_nar_byte _) W' _ rfl hi))
theorem g_lastore {a : Addr} {k : ClassId} {n j : Int32} {vs : List Value} {dv : Value} {x : Int64} (C : Cx p s m meth c Z own nm bytes maxL ret) (X : St p l e R s m A below meth c Z T h cells slots) (F : Arv Z h a k .long n vs dv) (hnew : Z.heap.size ≤ a) (d : Dc bytes pc .lastore 1 pc') (hj : ¬ j < 0) (hj' : j < n) (hi : j.toNatClampNeg < vs.length) (y : Value) (hy : .long x = y)
    (K : ∀ T' h', St p l e R s m A below meth c Z T' h' cells slots → Wr h h' a j.toNatClampNeg y → Arv Z h' a k .long n (vs.set j.toNatClampNeg y) dv → Goes p e below W T' (mkF m pc' Ls st)) : Goes p e below W T (mkF m pc Ls (.long x :: .int j :: .ref a :: st)) := by
  subst hy
  obtain ⟨d, rfl⟩ := d
  obtain ⟨L0, Y, eT, N, E⟩ := X
  obtain ⟨cl, Ar, q1, hS, hN, hH, hG⟩ := F
  have hin := in_of hS hj hj'
  obtain ⟨T', h', Y', e', W', q⟩ := stJ Y C.hx C.hZ eT Ar hin (g := mkF m pc Ls (.long x :: .int j :: .ref a :: st)) rfl rfl (hb C.hby d)
  exact Goes.via q (K T' h' ⟨_, Y', e', Fr.snoc Y' N hnew, ext_wr E W' hnew⟩ W' (Arv.set Ar q1 hS hN hH hG rfl W' _ rfl hi))
theorem st_back {T' : State} {h' : Heap} {k n : Nat} {B : Pt} {locs L : List Loc} (Y' : Stand p l e R s m A below meth c B.U B.locs B.cells B.slots) (hB : B.locs = locs ++ L ∧ B.cells = cells + k ∧ B.slots = slots + n) (N : Fr Z.heap.size locs) (N' : Fr Z.heap.size L) (E : Ext Z.heap B.U.heap) : St p l e R s m A below meth c Z B.U B.U.heap (cells + k) (slots + n) := by
  obtain ⟨b1, b2, b3⟩ := hB
  rw [b1, b2, b3] at Y'
  exact ⟨_, Y', rfl, N.app N', E⟩
/-- a Back that serves a call: what a contract pays -/
def Pay (l : Launch) (R : Room) (p : Program) (e : Env) (below : List Frame) (s : State) (A : Array Value) (y : MethodName) (len W k n : Nat) (Z : State) (as' : Array Value) (h : Heap) (Q : Option Value → Heap → Prop) : Prop :=
  Back l R p e below s A y len W (fun P a => a = as' ∧ P.U.heap = h ∧ P.cells + k ≤ R.cells ∧ P.slots + n ≤ R.slots)
    (fun P _ v B => ∃ L, (Fr Z.heap.size L ∧ Ext Z.heap B.U.heap ∧ Q v B.U.heap) ∧ B.locs = P.locs ++ L ∧ B.cells = P.cells + k ∧ B.slots = P.slots + n)
theorem pay_of {y : MethodName} {bytes' : ByteArray} {maxL' len W' : Nat} {ret' : Option FieldType} {rm : Room} {as' : Array Value} {Q : Option Value → Heap → Prop} (hM : Con l y bytes' maxL' ret' [] rm Z as' h Q) (hZ : Z.Warmed39 s.vm) (wc : (Jvm.Cond.code y bytes' maxL' ret').before a0 Z = true) (wz : (Jvm.Cond.initialized y.cls).before a0 Z = true) (hf : rm.frames + 1 ≤ R.frames) (hl : W' + (maxL' + 11) + rm.locals ≤ R.locals) :
    Pay l R p e below s A y len W' rm.cells rm.slots Z as' h Q := backOf (Q := fun v h' L => Fr Z.heap.size L ∧ Ext Z.heap h' ∧ Q v h') hM hZ wc wz hf hl
theorem g_static {index k n : Nat} {y : MethodName} {bytes' : ByteArray} {maxL' W' : Nat} {ret' : Option FieldType} {argsL : List Value} {Q : Option Value → Heap → Prop} {ps : List FieldType} {rt : Option FieldType} (C : Cx p s m meth c Z own nm bytes maxL ret) (X : St p l e R s m A below meth c Z T h cells slots)
    (w1 : (Jvm.Cond.methodLink own index y).before a0 Z = true) (w2 : (Jvm.Cond.static y).before a0 Z = true) (w3 : (Jvm.Cond.initialized y.cls).before a0 Z = true) (w4 : (Jvm.Cond.code y bytes' maxL' ret').before a0 Z = true) (hy : y.cls ≠ "java/lang/invoke/MethodHandle" ∧ y.cls ≠ "java/lang/invoke/VarHandle")
    (hK : Pay l R p e below s A y 3 W' k n Z argsL.toArray h Q) (pd : parseMethodDescriptor y.desc = some ⟨ps, rt⟩) (hlen : argsL.length = ps.length) (hsz : Ls.size = maxL) (stk : List Value) (hst : stk = argsL.reverse ++ st) (hW : (st.map fun v => v.category).sum ≤ W') (d : Dc bytes pc (.invokestatic index) 3 pc') (hc : cells + k ≤ R.cells) (hs : slots + n ≤ R.slots)
    (K : ∀ T' h' v, Q v h' → St p l e R s m A below meth c Z T' h' (cells + k) (slots + n) → Goes p e below W T' (mkF m pc' Ls (v.toList ++ st))) : Goes p e below W T (mkF m pc Ls stk) := by
  obtain ⟨d, rfl⟩ := d
  obtain ⟨L0, Y, eT, N, E⟩ := X
  obtain ⟨v, vm₁, B, -, Y', ⟨L, ⟨N', E', hQ⟩, hB⟩, q⟩ := Jvm.LawKit.callS Y C.hx C.hown (mvT C.hZ w1) (mvT C.hZ w2) (mvT C.hZ w3) (mvT C.hZ w4) hy hK (g := mkF m pc Ls stk) rfl (hsz.trans C.hml.symm) (argsL := argsL) (rest := st) (lenOf pd hlen) hst (by show 2 * 0 + _ ≤ _; omega) (hb C.hby d) (fun _ _ => ⟨rfl, eT, hc, hs⟩)
  exact Goes.via q (K _ _ v hQ (st_back (T' := T) (h' := h) Y' hB N N' E'))
theorem g_special {index k n : Nat} {y : MethodName} {bytes' : ByteArray} {maxL' W' : Nat} {argsL : List Value} {Q : Option Value → Heap → Prop} {ps : List FieldType} {rt : Option FieldType} {a : Addr} (C : Cx p s m meth c Z own nm bytes maxL ret) (X : St p l e R s m A below meth c Z T h cells slots) (hi : y.name = "<init>")
    (w1 : (Jvm.Cond.methodLink own index y).before a0 Z = true) (w2 : (Jvm.Cond.instanceMethod y).before a0 Z = true) (w4 : (Jvm.Cond.code y bytes' maxL' none).before a0 Z = true) (hy : y.cls ≠ "java/lang/invoke/MethodHandle" ∧ y.cls ≠ "java/lang/invoke/VarHandle")
    (hK : Pay l R p e below s A y 3 W' k n Z (.ref a :: argsL).toArray h Q) (pd : parseMethodDescriptor y.desc = some ⟨ps, rt⟩) (hlen : argsL.length = ps.length) (hsz : Ls.size = maxL) (stk : List Value) (hst : stk = argsL.reverse ++ .ref a :: st) (hW : (st.map fun v => v.category).sum ≤ W') (d : Dc bytes pc (.invokespecial index) 3 pc') (hc : cells + k ≤ R.cells) (hs : slots + n ≤ R.slots)
    (K : ∀ T' h' v, Q v h' → St p l e R s m A below meth c Z T' h' (cells + k) (slots + n) → Goes p e below W T' (mkF m pc' Ls (v.toList ++ st))) : Goes p e below W T (mkF m pc Ls stk) := by
  obtain ⟨d, rfl⟩ := d
  obtain ⟨L0, Y, eT, N, E⟩ := X
  obtain ⟨v, vm₁, B, -, Y', ⟨L, ⟨N', E', hQ⟩, hB⟩, q⟩ := Y.specialBack C.hx (y := y) hi C.hown (mvT C.hZ w1) (mvT C.hZ w2) (mvT C.hZ w4) hy hK (g := mkF m pc Ls stk) rfl (hsz.trans C.hml.symm) (Steps.refl _) (a := a) (argsL := argsL) (rest := st) (lenOf pd hlen) hst (by show 2 * 0 + _ ≤ _; omega) (hb C.hby d) (fun _ _ => ⟨rfl, eT, hc, hs⟩)
  exact Goes.via (fun _ k => q.trans k) (K _ _ v hQ (st_back (T' := T) (h' := h) Y' hB N N' E'))
theorem g_virtual {index k n : Nat} {y z : MethodName} {K0 : String} {W' : Nat} {argsL : List Value} {Q : Option Value → Heap → Prop} {ps : List FieldType} {rt : Option FieldType} {a : Addr} (C : Cx p s m meth c Z own nm bytes maxL ret) (X : St p l e R s m A below meth c Z T h cells slots)
    (w1 : (Jvm.Cond.methodLink own index y).before a0 Z = true) (w2 : (Jvm.Cond.declares y).before a0 Z = true) (nf : NotFace s y) (w3 : (Jvm.Cond.selects K0 y z).before a0 Z = true) (w4 : (Jvm.Cond.instanceMethod z).before a0 Z = true) (hy : y.cls ≠ "java/lang/invoke/MethodHandle" ∧ y.cls ≠ "java/lang/invoke/VarHandle") (Ex : Exa Z h a K0)
    (hK : Pay l R p e below s A z 3 W' k n Z (.ref a :: argsL).toArray h Q) (pd : parseMethodDescriptor y.desc = some ⟨ps, rt⟩) (hlen : argsL.length = ps.length) (hsz : Ls.size = maxL) (stk : List Value) (hst : stk = argsL.reverse ++ .ref a :: st) (hW : (st.map fun v => v.category).sum ≤ W') (d : Dc bytes pc (.invokevirtual index) 3 pc') (hc : cells + k ≤ R.cells) (hs : slots + n ≤ R.slots)
    (K : ∀ T' h' v, Q v h' → St p l e R s m A below meth c Z T' h' (cells + k) (slots + n) → Goes p e below W T' (mkF m pc' Ls (v.toList ++ st))) : Goes p e below W T (mkF m pc Ls stk) := by
  obtain ⟨d, rfl⟩ := d
  obtain ⟨L0, Y, eT, N, E⟩ := X
  obtain ⟨cq, kq, qa, qb, qc⟩ := isOf C.hZ eT Ex
  obtain ⟨v, vm₁, B, -, Y', ⟨L, ⟨N', E', hQ⟩, hB⟩, q⟩ := Y.virtualBack C.hx (y := y) (z := z) C.hown (mvT C.hZ w1) (mvT C.hZ w2) nf (mvT C.hZ w3) (mvT C.hZ w4) hy hK qa qc (g := mkF m pc Ls stk) rfl (hsz.trans C.hml.symm) (Steps.refl _) (argsL := argsL) (rest := st) (lenOf pd hlen) hst (by show 2 * 0 + _ ≤ _; omega) (hb C.hby d) (fun _ _ => ⟨rfl, eT, hc, hs⟩)
  exact Goes.via (fun _ k => q.trans k) (K _ _ v hQ (st_back (T' := T) (h' := h) Y' hB N N' E'))
theorem nf_of {K0 : String} {y z : MethodName} (C : Cx p s m meth c Z own nm bytes maxL ret) (w3 : (Jvm.Cond.selects K0 y z).before a0 Z = true) (e : K0 = y.cls) (e' : z = y) : NotFace s y := by
  subst e e'; exact notFace_of_selects (args := #[]) (mvT C.hZ w3)
theorem g_interface {index count k n : Nat} {y z : MethodName} {K0 : String} {W' : Nat} {argsL : List Value} {Q : Option Value → Heap → Prop} {ps : List FieldType} {rt : Option FieldType} {a : Addr} (C : Cx p s m meth c Z own nm bytes maxL ret) (X : St p l e R s m A below meth c Z T h cells slots)
    (w1 : (Jvm.Cond.methodLink own index y).before a0 Z = true) (w2 : (Jvm.Cond.declares y).before a0 Z = true) (w5 : (Jvm.Cond.interfaceMethod y.cls y.cls y.name y.desc).before A s = true) (w3 : (Jvm.Cond.selects K0 y z).before a0 Z = true) (w4 : (Jvm.Cond.instanceMethod z).before a0 Z = true) (w6 : (Jvm.Cond.publicMethod z).before a0 Z = true) (w7 : (Jvm.Cond.unhidden K0 y.name y.desc).before A s = true) (w8 : (Jvm.Cond.castable K0 y.cls).before a0 Z = true)
    (hy : y.cls ≠ "java/lang/invoke/MethodHandle" ∧ y.cls ≠ "java/lang/invoke/VarHandle") (Ex : Exa Z h a K0)
    (hK : Pay l R p e below s A z 5 W' k n Z (.ref a :: argsL).toArray h Q) (pd : parseMethodDescriptor y.desc = some ⟨ps, rt⟩) (hlen : argsL.length = ps.length) (hsz : Ls.size = maxL) (stk : List Value) (hst : stk = argsL.reverse ++ .ref a :: st) (hW : (st.map fun v => v.category).sum ≤ W') (d : Dc bytes pc (.invokeinterface index count) 5 pc') (hc : cells + k ≤ R.cells) (hs : slots + n ≤ R.slots)
    (K : ∀ T' h' v, Q v h' → St p l e R s m A below meth c Z T' h' (cells + k) (slots + n) → Goes p e below W T' (mkF m pc' Ls (v.toList ++ st))) : Goes p e below W T (mkF m pc Ls stk) := by
  obtain ⟨d, rfl⟩ := d
  obtain ⟨L0, Y, eT, N, E⟩ := X
  obtain ⟨cq, kq, qa, qb, qc⟩ := isOf C.hZ eT Ex
  obtain ⟨v, vm₁, B, -, Y', ⟨L, ⟨N', E', hQ⟩, hB⟩, q⟩ := Y.interfaceBack C.hx (xi := y) (y := z) C.hown (mvT C.hZ w1) (mvT C.hZ w2) w5 (mvT C.hZ w3) (mvT C.hZ w4) (mvT C.hZ w6) w7 (mvT C.hZ w8) hy hK qa qb qc (g := mkF m pc Ls stk) rfl (hsz.trans C.hml.symm) (Steps.refl _) (argsL := argsL) (rest := st) (lenOf pd hlen) hst (by show 2 * 0 + _ ≤ _; omega) (hb C.hby d) (fun _ _ => ⟨rfl, eT, hc, hs⟩)
  exact Goes.via (fun _ k => q.trans k) (K _ _ v hQ (st_back (T' := T) (h' := h) Y' hB N N' E'))
theorem g_staticP {index : Nat} {y : MethodName} {bytes' : ByteArray} {maxL' W' : Nat} {ret' : Option FieldType} {argsL : List Value} {v : Option Value} {ps : List FieldType} {rt : Option FieldType} (C : Cx p s m meth c Z own nm bytes maxL ret) (X : St p l e R s m A below meth c Z T h cells slots)
    (w1 : (Jvm.Cond.methodLink own index y).before a0 Z = true) (w2 : (Jvm.Cond.static y).before a0 Z = true) (w3 : (Jvm.Cond.initialized y.cls).before a0 Z = true) (w4 : (Jvm.Cond.code y bytes' maxL' ret').before a0 Z = true) (hy : y.cls ≠ "java/lang/invoke/MethodHandle" ∧ y.cls ≠ "java/lang/invoke/VarHandle")
    (hK : Pay l R p e below s A y 3 W' 0 0 Z argsL.toArray h (fun v' h' => v' = v ∧ h' = h)) (pd : parseMethodDescriptor y.desc = some ⟨ps, rt⟩) (hlen : argsL.length = ps.length) (hsz : Ls.size = maxL) (stk : List Value) (hst : stk = argsL.reverse ++ st) (hW : (st.map fun v => v.category).sum ≤ W') (d : Dc bytes pc (.invokestatic index) 3 pc') (hc : cells ≤ R.cells) (hs : slots ≤ R.slots)
    (K : ∀ T', St p l e R s m A below meth c Z T' h cells slots → Goes p e below W T' (mkF m pc' Ls (v.toList ++ st))) : Goes p e below W T (mkF m pc Ls stk) :=
  g_static C X w1 w2 w3 w4 hy hK pd hlen hsz stk hst hW d hc hs fun T' h' v' hQ X' => by obtain ⟨rfl, rfl⟩ := hQ; exact K T' X'
theorem g_specialP {index : Nat} {y : MethodName} {bytes' : ByteArray} {maxL' W' : Nat} {argsL : List Value} {v : Option Value} {ps : List FieldType} {rt : Option FieldType} {a : Addr} (C : Cx p s m meth c Z own nm bytes maxL ret) (X : St p l e R s m A below meth c Z T h cells slots) (hi : y.name = "<init>")
    (w1 : (Jvm.Cond.methodLink own index y).before a0 Z = true) (w2 : (Jvm.Cond.instanceMethod y).before a0 Z = true) (w4 : (Jvm.Cond.code y bytes' maxL' none).before a0 Z = true) (hy : y.cls ≠ "java/lang/invoke/MethodHandle" ∧ y.cls ≠ "java/lang/invoke/VarHandle")
    (hK : Pay l R p e below s A y 3 W' 0 0 Z (.ref a :: argsL).toArray h (fun v' h' => v' = v ∧ h' = h)) (pd : parseMethodDescriptor y.desc = some ⟨ps, rt⟩) (hlen : argsL.length = ps.length) (hsz : Ls.size = maxL) (stk : List Value) (hst : stk = argsL.reverse ++ .ref a :: st) (hW : (st.map fun v => v.category).sum ≤ W') (d : Dc bytes pc (.invokespecial index) 3 pc') (hc : cells ≤ R.cells) (hs : slots ≤ R.slots)
    (K : ∀ T', St p l e R s m A below meth c Z T' h cells slots → Goes p e below W T' (mkF m pc' Ls (v.toList ++ st))) : Goes p e below W T (mkF m pc Ls stk) :=
  g_special C X hi w1 w2 w4 hy hK pd hlen hsz stk hst hW d hc hs fun T' h' v' hQ X' => by obtain ⟨rfl, rfl⟩ := hQ; exact K T' X'
theorem g_virtualP {index : Nat} {y z : MethodName} {K0 : String} {W' : Nat} {argsL : List Value} {v : Option Value} {ps : List FieldType} {rt : Option FieldType} {a : Addr} (C : Cx p s m meth c Z own nm bytes maxL ret) (X : St p l e R s m A below meth c Z T h cells slots)
    (w1 : (Jvm.Cond.methodLink own index y).before a0 Z = true) (w2 : (Jvm.Cond.declares y).before a0 Z = true) (nf : NotFace s y) (w3 : (Jvm.Cond.selects K0 y z).before a0 Z = true) (w4 : (Jvm.Cond.instanceMethod z).before a0 Z = true) (hy : y.cls ≠ "java/lang/invoke/MethodHandle" ∧ y.cls ≠ "java/lang/invoke/VarHandle") (Ex : Exa Z h a K0)
    (hK : Pay l R p e below s A z 3 W' 0 0 Z (.ref a :: argsL).toArray h (fun v' h' => v' = v ∧ h' = h)) (pd : parseMethodDescriptor y.desc = some ⟨ps, rt⟩) (hlen : argsL.length = ps.length) (hsz : Ls.size = maxL) (stk : List Value) (hst : stk = argsL.reverse ++ .ref a :: st) (hW : (st.map fun v => v.category).sum ≤ W') (d : Dc bytes pc (.invokevirtual index) 3 pc') (hc : cells ≤ R.cells) (hs : slots ≤ R.slots)
    (K : ∀ T', St p l e R s m A below meth c Z T' h cells slots → Goes p e below W T' (mkF m pc' Ls (v.toList ++ st))) : Goes p e below W T (mkF m pc Ls stk) :=
  g_virtual C X w1 w2 nf w3 w4 hy Ex hK pd hlen hsz stk hst hW d hc hs fun T' h' v' hQ X' => by obtain ⟨rfl, rfl⟩ := hQ; exact K T' X'
theorem g_interfaceP {index count : Nat} {y z : MethodName} {K0 : String} {W' : Nat} {argsL : List Value} {v : Option Value} {ps : List FieldType} {rt : Option FieldType} {a : Addr} (C : Cx p s m meth c Z own nm bytes maxL ret) (X : St p l e R s m A below meth c Z T h cells slots)
    (w1 : (Jvm.Cond.methodLink own index y).before a0 Z = true) (w2 : (Jvm.Cond.declares y).before a0 Z = true) (w5 : (Jvm.Cond.interfaceMethod y.cls y.cls y.name y.desc).before A s = true) (w3 : (Jvm.Cond.selects K0 y z).before a0 Z = true) (w4 : (Jvm.Cond.instanceMethod z).before a0 Z = true) (w6 : (Jvm.Cond.publicMethod z).before a0 Z = true) (w7 : (Jvm.Cond.unhidden K0 y.name y.desc).before A s = true) (w8 : (Jvm.Cond.castable K0 y.cls).before a0 Z = true)
    (hy : y.cls ≠ "java/lang/invoke/MethodHandle" ∧ y.cls ≠ "java/lang/invoke/VarHandle") (Ex : Exa Z h a K0)
    (hK : Pay l R p e below s A z 5 W' 0 0 Z (.ref a :: argsL).toArray h (fun v' h' => v' = v ∧ h' = h)) (pd : parseMethodDescriptor y.desc = some ⟨ps, rt⟩) (hlen : argsL.length = ps.length) (hsz : Ls.size = maxL) (stk : List Value) (hst : stk = argsL.reverse ++ .ref a :: st) (hW : (st.map fun v => v.category).sum ≤ W') (d : Dc bytes pc (.invokeinterface index count) 5 pc') (hc : cells ≤ R.cells) (hs : slots ≤ R.slots)
    (K : ∀ T', St p l e R s m A below meth c Z T' h cells slots → Goes p e below W T' (mkF m pc' Ls (v.toList ++ st))) : Goes p e below W T (mkF m pc Ls stk) :=
  g_interface C X w1 w2 w5 w3 w4 w6 w7 w8 hy Ex hK pd hlen hsz stk hst hW d hc hs fun T' h' v' hQ X' => by obtain ⟨rfl, rfl⟩ := hQ; exact K T' X'
theorem g_initO {index : Nat} {a : Addr} (C : Cx p s m meth c Z own nm bytes maxL ret) (X : St p l e R s m A below meth c Z T h cells slots) (w1 : (Jvm.Cond.methodLink own index Lib.objectInit).before a0 Z = true) (w2 : (Jvm.Cond.instanceMethod Lib.objectInit).before a0 Z = true) (w3 : (Jvm.Cond.code Lib.objectInit ⟨#[0xb1]⟩ 1 none).before a0 Z = true) (hsz : Ls.size = maxL) (d : Dc bytes pc (.invokespecial index) 3 pc') (hf : 1 ≤ R.frames) (W' : Nat) (hW : (st.map fun v => v.category).sum ≤ W') (hl : W' + 12 ≤ R.locals)
    (K : ∀ T', St p l e R s m A below meth c Z T' h cells slots → Goes p e below W T' (mkF m pc' Ls st)) : Goes p e below W T (mkF m pc Ls (.ref a :: st)) := by
  obtain ⟨d, rfl⟩ := d
  obtain ⟨L0, Y, eT, N, E⟩ := X
  obtain ⟨T', Y', e', q⟩ := initO Y C.hx C.hZ C.hown w1 w2 w3 eT (g := mkF m pc Ls (.ref a :: st)) rfl (hsz.trans C.hml.symm) rfl (hb C.hby d) hf (W := W') (by show 2 * 0 + _ ≤ _; omega) hl
  exact Goes.via q (K T' ⟨L0, Y', e', N, E⟩)
theorem end_of {k n : Nat} {Q : Option Value → Heap → Prop} {v : Option Value} {L : List Loc} {fs : List Frame} (N : Fr Z.heap.size L) (E : Ext Z.heap T.heap) (hW : s.WarmedH (T.setFrames fs).vm) (hS : s.sameButNew ({ T.setFrames fs with vm := s.vm } : State) L cells slots) (hc : cells ≤ k) (hs : slots ≤ n) (hQ : Q v T.heap) : EndW Z s k n Q (.returned v) (T.setFrames fs) :=
  ⟨v, L, rfl, ⟨N, E, hQ⟩, ⟨_, rfl⟩, hW, hS.mono hc hs⟩
theorem g_retI {k n : Nat} {Q : Option Value → Heap → Prop} {z : Int32} (C : Cx p s m meth c Z own nm bytes maxL (some .int)) (X : St p l e R s m A below meth c Z T h cells slots) (d : Dc bytes pc .ireturn 1 pc') (hc : cells ≤ k) (hs : slots ≤ n) (hQ : Q (some (.int z)) h) : Goes p e below (EndW Z s k n Q) T (mkF m pc Ls (.int z :: st)) := by
  obtain ⟨L0, Y, rfl, N, E⟩ := X
  have hlk := C.hlk
  obtain ⟨fs, hr, hrun, hended, hW, hS⟩ := Y.leave (v := some (.int z)) (fun h => by rw [C.hret] at h; cases h) hlk
  exact ⟨_, _, retOut Y C.hx C.hret rfl (Or.inl ⟨rfl, Or.inl rfl, z, rfl⟩) (hb C.hby d.1) hr, hrun, hended, end_of N E hW hS hc hs hQ⟩
theorem g_retN {k n : Nat} {Q : Option Value → Heap → Prop} {z : Int32} {t : FieldType} (C : Cx p s m meth c Z own nm bytes maxL (some t)) (X : St p l e R s m A below meth c Z T h cells slots) (ht : t = .boolean ∨ t = .byte ∨ t = .char ∨ t = .short) (d : Dc bytes pc .ireturn 1 pc') (z' : Int32) (hz : nar t z = z') (hc : cells ≤ k) (hs : slots ≤ n) (hQ : Q (some (.int z')) h) : Goes p e below (EndW Z s k n Q) T (mkF m pc Ls (.int z :: st)) := by
  obtain ⟨L0, Y, rfl, N, E⟩ := X
  have hlk := C.hlk
  obtain ⟨fs, hr, hrun, hended, hW, hS⟩ := Y.leave (v := some (.int z')) (fun h => by rw [C.hret] at h; cases h) hlk
  rw [← hz] at hr
  exact ⟨_, _, retN Y C.hx C.hret ht (hb C.hby d.1) hr, hrun, hended, end_of N E hW hS hc hs hQ⟩
theorem g_retJ {k n : Nat} {Q : Option Value → Heap → Prop} {z : Int64} (C : Cx p s m meth c Z own nm bytes maxL (some .long)) (X : St p l e R s m A below meth c Z T h cells slots) (d : Dc bytes pc .lreturn 1 pc') (hc : cells ≤ k) (hs : slots ≤ n) (hQ : Q (some (.long z)) h) : Goes p e below (EndW Z s k n Q) T (mkF m pc Ls (.long z :: st)) := by
  obtain ⟨L0, Y, rfl, N, E⟩ := X
  have hlk := C.hlk
  obtain ⟨fs, hr, hrun, hended, hW, hS⟩ := Y.leave (v := some (.long z)) (fun h => by rw [C.hret] at h; cases h) hlk
  exact ⟨_, _, retOut Y C.hx C.hret rfl (Or.inr (Or.inl ⟨rfl, rfl, z, rfl⟩)) (hb C.hby d.1) hr, hrun, hended, end_of N E hW hS hc hs hQ⟩
theorem g_retA {k n : Nat} {Q : Option Value → Heap → Prop} {z : Value} {t : FieldType} (C : Cx p s m meth c Z own nm bytes maxL (some t)) (X : St p l e R s m A below meth c Z T h cells slots) (ht : t.isReference = true) (hz : z.isRef = true) (d : Dc bytes pc .areturn 1 pc') (hc : cells ≤ k) (hs : slots ≤ n) (hQ : Q (some z) h) : Goes p e below (EndW Z s k n Q) T (mkF m pc Ls (z :: st)) := by
  obtain ⟨L0, Y, rfl, N, E⟩ := X
  have hlk := C.hlk
  have hn : narrow t z = z := by cases t <;> first | rfl | (simp [FieldType.isReference] at ht; done) | (cases z <;> simp [Value.isRef] at hz <;> rfl)
  obtain ⟨fs, hr, hrun, hended, hW, hS⟩ := Y.leave (v := some z) (fun h => by rw [C.hret] at h; cases h) hlk
  exact ⟨_, _, retOut Y C.hx C.hret hn (Or.inr (Or.inr (Or.inr (Or.inr ⟨rfl, ht, hz⟩)))) (hb C.hby d.1) hr, hrun, hended, end_of N E hW hS hc hs hQ⟩
theorem g_retV {k n : Nat} {Q : Option Value → Heap → Prop} (C : Cx p s m meth c Z own nm bytes maxL none) (X : St p l e R s m A below meth c Z T h cells slots) (d : Dc bytes pc .return_ 1 pc') (hc : cells ≤ k) (hs : slots ≤ n) (hQ : Q none h) : Goes p e below (EndW Z s k n Q) T (mkF m pc Ls []) := by
  obtain ⟨L0, Y, rfl, N, E⟩ := X
  have hlk := C.hlk
  obtain ⟨fs, hr, hrun, hended, hW, hS⟩ := Y.leave (v := none) (fun _ => rfl) hlk
  exact ⟨_, _, Y.returnOut C.hx C.hret (hb C.hby d.1) hr, hrun, hended, end_of N E hW hS hc hs hQ⟩
end OwnKit
/-! from the case's words -/
theorem wd {a0 : Array Value} {Z : State} (hw : ∀ d ∈ tables_1, d.before a0 Z = true) (i : Nat) {d : Jvm.Cond} (h : tables_1[i]? = some d) : d.before a0 Z = true := hw d (List.mem_of_getElem? h)
theorem eqI_v {args : Array Value} {first s : State} {o : Option Outcome} {idx : List Nat} {t : Term} {k : Int32} (h : (Jvm.Cond.eq t (.int k)).value args first o s idx = some true) : t.eval args first o idx s = some (.int k) := by
  simp only [Cond.value, Term.eval] at h
  cases ht : t.eval args first o idx s with
  | none => simp [ht] at h
  | some x => cases x <;> simp [ht] at h ⊢; exact h
theorem eqJ_v {args : Array Value} {first s : State} {o : Option Outcome} {idx : List Nat} {t : Term} {k : Int64} (h : (Jvm.Cond.eq t (.long k)).value args first o s idx = some true) : t.eval args first o idx s = some (.long k) := by
  simp only [Cond.value, Term.eval] at h
  cases ht : t.eval args first o idx s with
  | none => simp [ht] at h
  | some x => cases x <;> simp [ht] at h ⊢; exact h
theorem eqR_v {args : Array Value} {first s : State} {o : Option Outcome} {idx : List Nat} {t u : Term} {a : Addr} (h : (Jvm.Cond.eq t u).value args first o s idx = some true) (hu : u.eval args first o idx s = some (.ref a)) : t.eval args first o idx s = some (.ref a) := by
  simp only [Cond.value, hu] at h
  cases ht : t.eval args first o idx s with
  | none => simp [ht] at h
  | some x => cases x <;> simp [ht] at h ⊢; exact h
theorem arr_start {args : Array Value} {Z : State} {t : Term} {a : Addr} {cl : Cell} {ty : FieldType} {n : Int32} {vs : List Value} (dv : Value) (hf : Fit Z) (A : Arr Z Z.heap a cl ty) (ev : t.eval args Z none [] Z = some (.ref a)) (hl : (Term.length t).eval args Z none [] Z = some (.int n)) (hn : ¬ n < 0) (hv : n.toNatClampNeg = vs.length)
    (H : HasL cl 0 vs) : Arv Z Z.heap a cl.cls ty n vs dv := by
  obtain ⟨a', c', e1, e2, e4⟩ := Term.length_spec hl
  cases ev.symm.trans e1
  cases A.1.symm.trans (State.arrayAt?_spec e2).1
  have e3 : cl.slots.size < 2 ^ 31 := by
    by_cases q : cl.slots.size < 2147483648
    · exact q
    · exfalso; simp [Term.eval, ev, e2, q] at hl
  exact Arv.start hf A e3 (Value.int.inj e4.symm) hn hv H
theorem elem_start {args : Array Value} {Z : State} {t : Term} {a : Addr} {cl : Cell} {ty : FieldType} {j : Int32} {v : Value} (A : Arr Z Z.heap a cl ty) (ev : t.eval args Z none [] Z = some (.ref a)) (h : (Term.elem t (.int j)).eval args Z none [] Z = some v) : cl.slots[j.toNatClampNeg]? = some v := (elem_in h ev (Term.int_eval j) A.1).2
theorem own_ch (x : Int32) : Value.int (nar .char ((x &&& (255 : Int32)).toUInt32.toUInt16.toUInt32.toInt32)) = .int (x &&& (255 : Int32)) := by
  show Value.int (((x &&& (255 : Int32)).toUInt32.toUInt16.toUInt32.toInt32).toUInt32.toUInt16.toUInt32.toInt32) = _
  rw [i2c_mask, i2c_mask]
theorem nz_v {args : Array Value} {Z : State} {t : Term} {z : Int32} (ev : t.eval args Z none [] Z = some (.int z)) (h : (Jvm.Cond.not (.eq t (.int 0))).value args Z none Z [] = some true) : ¬ z = 0 := by
  intro e; subst e
  have q := not_v h
  simp [Cond.value, ev, Term.eval] at q
theorem fld_of {args : Array Value} {Z : State} {t : Term} {a : Addr} {C n d : String} {v : Value} (ht : t.eval args Z none [] Z = some (.ref a)) (h : (Term.field t C n d).eval args Z none [] Z = some v) : Fld Z Z.heap a C n d v := Fld.start (by rw [← fld_at (args := args) (first := Z) (o := none) (idx := []) ht]; exact h)
theorem pn_0 : plainName "com/example/espera/espera/ErrorCode" = true := by first | (simp [plainName, overriddenIn]; done) | decide +kernel
theorem ef_rm1a (m : MethodId) (x : Int32) : entryFrame m #[(.int x)] 1 = mkF m 0 #[.val (.int x)] [] := by first | (simp [entryFrame, mkF, argsToLocals, Value.category]; done) | rfl
theorem d1_0 : Dc prog_3_method_6_code 0 (.iload_n 0) 1 1 := ⟨by decide +kernel, rfl⟩
theorem d1_1 : Dc prog_3_method_6_code 1 (.sipush 500) 3 4 := ⟨by decide +kernel, rfl⟩
theorem d1_4 : Dj prog_3_method_6_code 4 (.if_icmp .ge 9) 9 3 7 13 := ⟨by decide +kernel, rfl, by decide, by decide⟩
theorem d1_7 : Dc prog_3_method_6_code 7 (.getstatic 3) 3 10 := ⟨by decide +kernel, rfl⟩
theorem d1_10 : Dj prog_3_method_6_code 10 (.goto 6) 6 3 13 16 := ⟨by decide +kernel, rfl, by decide, by decide⟩
theorem d1_16 : Dc prog_3_method_6_code 16 (.areturn) 1 17 := ⟨by decide +kernel, rfl⟩
set_option maxRecDepth 65536 in
set_option maxHeartbeats 40000000 in
theorem rm1a (l : Launch) {Z : State} {a0 : Array Value} (hw : ∀ d ∈ tables_1, d.before a0 Z = true) {h : Heap} (hE : Ext Z.heap h) (x : Int32) (bd : Addr) (hB : Sta Z Z.heap "com/example/espera/espera/ErrorCode" "BAD_REQUEST" "Lcom/example/espera/espera/ErrorCode;" (.ref bd)) (hx : x < (500 : Int32)) :
    Con l (⟨"com/example/espera/espera/ErrorCode", "forHttpStatus", "(I)Lcom/example/espera/espera/ErrorCode;"⟩ : MethodName) prog_3_method_6_code 1 (some (.object "com/example/espera/espera/ErrorCode")) [] ({ frames := 0, cells := 0, slots := 0, locals := 0 } : Room) Z #[(.int x)] h (fun v' h' => v' = some (.ref bd) ∧ h' = h) := by
  refine con_of (plainFor_of_name pn_0) hE (fun m => ef_rm1a m x) ?_
  intro p e s m below meth c T0 C X0
  have C : Cx p s m meth c Z "com/example/espera/espera/ErrorCode" "forHttpStatus" prog_3_method_6_code 1 (some (.object "com/example/espera/espera/ErrorCode")) := C
  show Goes p e below _ T0 (mkF m 0 #[.val (.int x)] [])
  refine g_iloadN C X0 d1_0 rfl ?_
  refine g_sipush (500 : Int32) C X0 d1_1 rfl ?_
  refine g_icmpn (hI_ge _ _) C X0 d1_4 (fun q => absurd hx q) (fun _ => ?_)
  refine g_getstatic (host := "") C X0 (Or.inl (wd hw 6 rfl)) Via.refl hB d1_7 (fun T1 X1 => ?_)
  refine g_goto C X1 d1_10 ?_
  exact g_retA C X1 rfl rfl d1_16 (by decide) (by decide) ⟨rfl, rfl⟩
theorem ef_rm1b (m : MethodId) (x : Int32) : entryFrame m #[(.int x)] 1 = mkF m 0 #[.val (.int x)] [] := by first | (simp [entryFrame, mkF, argsToLocals, Value.category]; done) | rfl
theorem d1_13 : Dc prog_3_method_6_code 13 (.getstatic 28) 3 16 := ⟨by decide +kernel, rfl⟩
set_option maxRecDepth 65536 in
set_option maxHeartbeats 40000000 in
theorem rm1b (l : Launch) {Z : State} {a0 : Array Value} (hw : ∀ d ∈ tables_1, d.before a0 Z = true) {h : Heap} (hE : Ext Z.heap h) (x : Int32) (it : Addr) (hI : Sta Z Z.heap "com/example/espera/espera/ErrorCode" "INTERNAL" "Lcom/example/espera/espera/ErrorCode;" (.ref it)) (hx : ¬ x < (500 : Int32)) :
    Con l (⟨"com/example/espera/espera/ErrorCode", "forHttpStatus", "(I)Lcom/example/espera/espera/ErrorCode;"⟩ : MethodName) prog_3_method_6_code 1 (some (.object "com/example/espera/espera/ErrorCode")) [] ({ frames := 0, cells := 0, slots := 0, locals := 0 } : Room) Z #[(.int x)] h (fun v' h' => v' = some (.ref it) ∧ h' = h) := by
  refine con_of (plainFor_of_name pn_0) hE (fun m => ef_rm1b m x) ?_
  intro p e s m below meth c T0 C X0
  have C : Cx p s m meth c Z "com/example/espera/espera/ErrorCode" "forHttpStatus" prog_3_method_6_code 1 (some (.object "com/example/espera/espera/ErrorCode")) := C
  show Goes p e below _ T0 (mkF m 0 #[.val (.int x)] [])
  refine g_iloadN C X0 d1_0 rfl ?_
  refine g_sipush (500 : Int32) C X0 d1_1 rfl ?_
  refine g_icmpn (hI_ge _ _) C X0 d1_4 (fun _ => ?_) (fun q => absurd q hx)
  refine g_getstatic (host := "") C X0 (Or.inl (wd hw 8 rfl)) Via.refl hI d1_13 (fun T2 X2 => ?_)
  exact g_retA C X2 rfl rfl d1_16 (by decide) (by decide) ⟨rfl, rfl⟩
theorem pn_1 : plainName "com/example/espera/espera/ErrorCodeForHttpStatusPinLaw" = true := by first | (simp [plainName, overriddenIn]; done) | decide +kernel
theorem ef_rm2a (m : MethodId) (bd : Addr) : entryFrame m #[(.ref bd)] 1 = mkF m 0 #[.val (.ref bd)] [] := by first | (simp [entryFrame, mkF, argsToLocals, Value.category]; done) | rfl
theorem d2_0 : Dc method_2_code 0 (.aload_n 0) 1 1 := ⟨by decide +kernel, rfl⟩
theorem d2_1 : Dc method_2_code 1 (.getstatic 7) 3 4 := ⟨by decide +kernel, rfl⟩
theorem d2_4 : Dj method_2_code 4 (.if_acmp .eq 10) 10 3 7 14 := ⟨by decide +kernel, rfl, by decide, by decide⟩
theorem d2_14 : Dc method_2_code 14 (.iconst 1) 1 15 := ⟨by decide +kernel, rfl⟩
theorem d2_15 : Dj method_2_code 15 (.goto 4) 4 3 18 19 := ⟨by decide +kernel, rfl, by decide, by decide⟩
theorem d2_19 : Dc method_2_code 19 (.ireturn) 1 20 := ⟨by decide +kernel, rfl⟩
set_option maxRecDepth 65536 in
set_option maxHeartbeats 40000000 in
theorem rm2a (l : Launch) {Z : State} {a0 : Array Value} (hw : ∀ d ∈ tables_1, d.before a0 Z = true) {h : Heap} (hE : Ext Z.heap h) (bd : Addr)  (hB : Sta Z Z.heap "com/example/espera/espera/ErrorCode" "BAD_REQUEST" "Lcom/example/espera/espera/ErrorCode;" (.ref bd)) :
    Con l (⟨"com/example/espera/espera/ErrorCodeForHttpStatusPinLaw", "allowed", "(Lcom/example/espera/espera/ErrorCode;)Z"⟩ : MethodName) method_2_code 1 (some .boolean) [] ({ frames := 0, cells := 0, slots := 0, locals := 0 } : Room) Z #[(.ref bd)] h (fun v' h' => v' = some (.int 1) ∧ h' = h) := by
  refine con_of (plainFor_of_name pn_1) hE (fun m => ef_rm2a m bd) ?_
  intro p e s m below meth c T0 C X0
  have C : Cx p s m meth c Z "com/example/espera/espera/ErrorCodeForHttpStatusPinLaw" "allowed" method_2_code 1 (some .boolean) := C
  show Goes p e below _ T0 (mkF m 0 #[.val (.ref bd)] [])
  refine g_aloadN C X0 d2_0 rfl rfl ?_
  refine g_getstatic (host := "") C X0 (Or.inl (wd hw 14 rfl)) Via.refl hB d2_1 (fun T3 X3 => ?_)
  refine g_acmpeq C X3 d2_4 rfl rfl (fun _ => ?_) (fun q => absurd rfl q)
  refine g_iconst (1 : Int32) C X3 d2_14 rfl ?_
  refine g_goto C X3 d2_15 ?_
  exact g_retN C X3 (by simp) d2_19 (1 : Int32) rfl (by decide) (by decide) ⟨rfl, rfl⟩
theorem ef_rm2b (m : MethodId) (it : Addr) : entryFrame m #[(.ref it)] 1 = mkF m 0 #[.val (.ref it)] [] := by first | (simp [entryFrame, mkF, argsToLocals, Value.category]; done) | rfl
theorem d2_7 : Dc method_2_code 7 (.aload_n 0) 1 8 := ⟨by decide +kernel, rfl⟩
theorem d2_8 : Dc method_2_code 8 (.getstatic 13) 3 11 := ⟨by decide +kernel, rfl⟩
theorem d2_11 : Dj method_2_code 11 (.if_acmp .ne 7) 7 3 14 18 := ⟨by decide +kernel, rfl, by decide, by decide⟩
set_option maxRecDepth 65536 in
set_option maxHeartbeats 40000000 in
theorem rm2b (l : Launch) {Z : State} {a0 : Array Value} (hw : ∀ d ∈ tables_1, d.before a0 Z = true) {h : Heap} (hE : Ext Z.heap h) (it : Addr) (bd : Addr) (hB : Sta Z Z.heap "com/example/espera/espera/ErrorCode" "BAD_REQUEST" "Lcom/example/espera/espera/ErrorCode;" (.ref bd))(hI : Sta Z Z.heap "com/example/espera/espera/ErrorCode" "INTERNAL" "Lcom/example/espera/espera/ErrorCode;" (.ref it)) (hne : bd ≠ it) :
    Con l (⟨"com/example/espera/espera/ErrorCodeForHttpStatusPinLaw", "allowed", "(Lcom/example/espera/espera/ErrorCode;)Z"⟩ : MethodName) method_2_code 1 (some .boolean) [] ({ frames := 0, cells := 0, slots := 0, locals := 0 } : Room) Z #[(.ref it)] h (fun v' h' => v' = some (.int 1) ∧ h' = h) := by
  refine con_of (plainFor_of_name pn_1) hE (fun m => ef_rm2b m it) ?_
  intro p e s m below meth c T0 C X0
  have C : Cx p s m meth c Z "com/example/espera/espera/ErrorCodeForHttpStatusPinLaw" "allowed" method_2_code 1 (some .boolean) := C
  show Goes p e below _ T0 (mkF m 0 #[.val (.ref it)] [])
  refine g_aloadN C X0 d2_0 rfl rfl ?_
  refine g_getstatic (host := "") C X0 (Or.inl (wd hw 14 rfl)) Via.refl hB d2_1 (fun T4 X4 => ?_)
  refine g_acmpeq C X4 d2_4 rfl rfl (fun q => absurd q (fun q => (Ne.symm hne) (Value.ref.inj q))) (fun _ => ?_)
  refine g_aloadN C X4 d2_7 rfl rfl ?_
  refine g_getstatic (host := "") C X4 (Or.inl (wd hw 15 rfl)) Via.refl hI d2_8 (fun T5 X5 => ?_)
  refine g_acmpne C X5 d2_11 rfl rfl (fun q => absurd rfl q) (fun _ => ?_)
  refine g_iconst (1 : Int32) C X5 d2_14 rfl ?_
  refine g_goto C X5 d2_15 ?_
  exact g_retN C X5 (by simp) d2_19 (1 : Int32) rfl (by decide) (by decide) ⟨rfl, rfl⟩
theorem ef_rm3 (m : MethodId) (a : Addr) : entryFrame m #[(.ref a)] 1 = mkF m 0 #[.val (.ref a)] [] := by first | (simp [entryFrame, mkF, argsToLocals, Value.category]; done) | rfl
theorem d3_0 : Dc prog_3_method_5_code 0 (.aload_n 0) 1 1 := ⟨by decide +kernel, rfl⟩
theorem d3_1 : Dc prog_3_method_5_code 1 (.getfield 57) 3 4 := ⟨by decide +kernel, rfl⟩
theorem d3_4 : Dc prog_3_method_5_code 4 (.ireturn) 1 5 := ⟨by decide +kernel, rfl⟩
set_option maxRecDepth 65536 in
set_option maxHeartbeats 40000000 in
theorem rm3 (l : Launch) {Z : State} {a0 : Array Value} (hw : ∀ d ∈ tables_1, d.before a0 Z = true) {h : Heap} (hE : Ext Z.heap h) (a : Addr) (k : Int32) (F : Fld Z h a "com/example/espera/espera/ErrorCode" "httpStatus" "I" (.int k)) :
    Con l (⟨"com/example/espera/espera/ErrorCode", "getHttpStatus", "()I"⟩ : MethodName) prog_3_method_5_code 1 (some .int) [] ({ frames := 0, cells := 0, slots := 0, locals := 0 } : Room) Z #[(.ref a)] h (fun v' h' => v' = some (.int k) ∧ h' = h) := by
  refine con_of (plainFor_of_name pn_0) hE (fun m => ef_rm3 m a) ?_
  intro p e s m below meth c T0 C X0
  have C : Cx p s m meth c Z "com/example/espera/espera/ErrorCode" "getHttpStatus" prog_3_method_5_code 1 (some .int) := C
  show Goes p e below _ T0 (mkF m 0 #[.val (.ref a)] [])
  refine g_aloadN C X0 d3_0 rfl rfl ?_
  refine g_getfield (host := "") C X0 (Or.inl (wd hw 21 rfl)) Via.refl F d3_1 (fun T6 X6 => ?_)
  exact g_retI C X6 d3_4 (by decide) (by decide) ⟨rfl, rfl⟩
theorem ef_rm0 (m : MethodId) (p0 : Int32) (p1 : Int32) : entryFrame m #[(.int p0), (.int p1)] maxLocals = mkF m 0 #[.val (.int p0), .val (.int p1), .unset, .unset, .unset, .unset, .unset, .unset, .unset, .unset] [] := by first | (simp [entryFrame, mkF, argsToLocals, Value.category, maxLocals]; done) | rfl
theorem d0_0 : Dc code 0 (.sipush 400) 3 3 := ⟨at_0, rfl⟩
theorem d0_3 : Dc code 3 (.iload_n 0) 1 4 := ⟨at_3, rfl⟩
theorem d0_4 : Dc code 4 (.ldc 16) 2 6 := ⟨at_4, rfl⟩
theorem d0_6 : Dc code 6 (.iand) 1 7 := ⟨at_6, rfl⟩
theorem d0_7 : Dc code 7 (.bipush 100) 2 9 := ⟨at_7, rfl⟩
theorem d0_9 : Dc code 9 (.irem) 1 10 := ⟨at_9, rfl⟩
theorem d0_10 : Dc code 10 (.iadd) 1 11 := ⟨at_10, rfl⟩
theorem d0_11 : Dc code 11 (.istore_n 2) 1 12 := ⟨at_11, rfl⟩
theorem d0_12 : Dc code 12 (.sipush 500) 3 15 := ⟨at_12, rfl⟩
theorem d0_15 : Dc code 15 (.iload_n 1) 1 16 := ⟨at_15, rfl⟩
theorem d0_16 : Dc code 16 (.ldc 17) 2 18 := ⟨at_16, rfl⟩
theorem d0_18 : Dc code 18 (.iand) 1 19 := ⟨at_18, rfl⟩
theorem d0_19 : Dc code 19 (.iadd) 1 20 := ⟨at_19, rfl⟩
theorem d0_20 : Dc code 20 (.istore_n 3) 1 21 := ⟨at_20, rfl⟩
theorem d0_21 : Dc code 21 (.iload_n 0) 1 22 := ⟨at_21, rfl⟩
theorem d0_22 : Dc code 22 (.invokestatic 18) 3 25 := ⟨at_22, rfl⟩
theorem pd_0 : parseMethodDescriptor "(I)Lcom/example/espera/espera/ErrorCode;" = some ⟨[.int], some (.object "com/example/espera/espera/ErrorCode")⟩ := by decide +kernel
theorem d0_25 : Dc code 25 (.astore 4) 2 27 := ⟨at_25, rfl⟩
theorem d0_27 : Dc code 27 (.iload_n 1) 1 28 := ⟨at_27, rfl⟩
theorem d0_28 : Dc code 28 (.invokestatic 18) 3 31 := ⟨at_28, rfl⟩
theorem d0_31 : Dc code 31 (.astore 5) 2 33 := ⟨at_31, rfl⟩
theorem d0_33 : Dc code 33 (.iload_n 2) 1 34 := ⟨at_33, rfl⟩
theorem d0_34 : Dc code 34 (.invokestatic 18) 3 37 := ⟨at_34, rfl⟩
theorem d0_37 : Dc code 37 (.astore 6) 2 39 := ⟨at_37, rfl⟩
theorem d0_39 : Dc code 39 (.iload_n 3) 1 40 := ⟨at_39, rfl⟩
theorem d0_40 : Dc code 40 (.invokestatic 18) 3 43 := ⟨at_40, rfl⟩
theorem d0_43 : Dc code 43 (.astore 7) 2 45 := ⟨at_43, rfl⟩
theorem d0_45 : Dc code 45 (.aload 4) 2 47 := ⟨at_45, rfl⟩
theorem d0_47 : Dc code 47 (.invokestatic 22) 3 50 := ⟨at_47, rfl⟩
theorem pd_1 : parseMethodDescriptor "(Lcom/example/espera/espera/ErrorCode;)Z" = some ⟨[(.object "com/example/espera/espera/ErrorCode")], some .boolean⟩ := by decide +kernel
theorem d0_50 : Dj code 50 (.ifCond .eq 11) 11 3 53 61 := ⟨at_50, rfl, by decide, by decide⟩
theorem d0_53 : Dc code 53 (.aload 5) 2 55 := ⟨at_53, rfl⟩
theorem d0_55 : Dc code 55 (.invokestatic 22) 3 58 := ⟨at_55, rfl⟩
theorem d0_58 : Dj code 58 (.ifCond .ne 5) 5 3 61 63 := ⟨at_58, rfl, by decide, by decide⟩
theorem d0_63 : Dc code 63 (.aload 6) 2 65 := ⟨at_63, rfl⟩
theorem d0_65 : Dc code 65 (.getstatic 7) 3 68 := ⟨at_65, rfl⟩
theorem d0_68 : Dj code 68 (.if_acmp .eq 5) 5 3 71 73 := ⟨at_68, rfl, by decide, by decide⟩
theorem d0_73 : Dc code 73 (.aload 7) 2 75 := ⟨at_73, rfl⟩
theorem d0_75 : Dc code 75 (.getstatic 13) 3 78 := ⟨at_75, rfl⟩
theorem d0_78 : Dj code 78 (.if_acmp .eq 5) 5 3 81 83 := ⟨at_78, rfl, by decide, by decide⟩
theorem d0_83 : Dc code 83 (.iload_n 0) 1 84 := ⟨at_83, rfl⟩
theorem d0_84 : Dc code 84 (.sipush 400) 3 87 := ⟨at_84, rfl⟩
theorem d0_87 : Dj code 87 (.if_icmp .lt 20) 20 3 90 107 := ⟨at_87, rfl, by decide, by decide⟩
theorem d0_107 : Dc code 107 (.iload_n 0) 1 108 := ⟨at_107, rfl⟩
theorem d0_108 : Dc code 108 (.sipush 500) 3 111 := ⟨at_108, rfl⟩
theorem d0_111 : Dj code 111 (.if_icmp .lt 13) 13 3 114 124 := ⟨at_111, rfl, by decide, by decide⟩
theorem d0_124 : Dc code 124 (.iload_n 0) 1 125 := ⟨at_124, rfl⟩
theorem d0_125 : Dc code 125 (.iload_n 1) 1 126 := ⟨at_125, rfl⟩
theorem d0_126 : Dj code 126 (.if_icmp .gt 8) 8 3 129 134 := ⟨at_126, rfl, by decide, by decide⟩
theorem d0_134 : Dc code 134 (.aload 5) 2 136 := ⟨at_134, rfl⟩
theorem d0_136 : Dc code 136 (.astore 8) 2 138 := ⟨at_136, rfl⟩
theorem d0_138 : Dc code 138 (.iload_n 0) 1 139 := ⟨at_138, rfl⟩
theorem d0_139 : Dc code 139 (.iload_n 1) 1 140 := ⟨at_139, rfl⟩
theorem d0_140 : Dj code 140 (.if_icmp .gt 8) 8 3 143 148 := ⟨at_140, rfl, by decide, by decide⟩
theorem d0_148 : Dc code 148 (.aload 4) 2 150 := ⟨at_148, rfl⟩
theorem d0_150 : Dc code 150 (.astore 9) 2 152 := ⟨at_150, rfl⟩
theorem d0_152 : Dc code 152 (.aload 8) 2 154 := ⟨at_152, rfl⟩
theorem d0_154 : Dc code 154 (.invokevirtual 28) 3 157 := ⟨at_154, rfl⟩
theorem pd_2 : parseMethodDescriptor "()I" = some ⟨[], some .int⟩ := by decide +kernel
theorem d0_157 : Dc code 157 (.aload 9) 2 159 := ⟨at_157, rfl⟩
theorem d0_159 : Dc code 159 (.invokevirtual 28) 3 162 := ⟨at_159, rfl⟩
theorem d0_162 : Dj code 162 (.if_icmp .le 5) 5 3 165 167 := ⟨at_162, rfl, by decide, by decide⟩
theorem d0_167 : Dc code 167 (.iconst 1) 1 168 := ⟨at_167, rfl⟩
theorem d0_168 : Dc code 168 (.ireturn) 1 169 := ⟨at_168, rfl⟩
theorem d0_129 : Dc code 129 (.aload 4) 2 131 := ⟨at_129, rfl⟩
theorem d0_131 : Dj code 131 (.goto 5) 5 3 134 136 := ⟨at_131, rfl, by decide, by decide⟩
theorem d0_143 : Dc code 143 (.aload 5) 2 145 := ⟨at_143, rfl⟩
theorem d0_145 : Dj code 145 (.goto 5) 5 3 148 150 := ⟨at_145, rfl, by decide, by decide⟩
theorem d0_90 : Dc code 90 (.iload_n 0) 1 91 := ⟨at_90, rfl⟩
theorem d0_91 : Dc code 91 (.sipush 499) 3 94 := ⟨at_91, rfl⟩
theorem d0_94 : Dj code 94 (.if_icmp .gt 13) 13 3 97 107 := ⟨at_94, rfl, by decide, by decide⟩
theorem d0_97 : Dc code 97 (.aload 4) 2 99 := ⟨at_97, rfl⟩
theorem d0_99 : Dc code 99 (.getstatic 7) 3 102 := ⟨at_99, rfl⟩
theorem d0_102 : Dj code 102 (.if_acmp .eq 5) 5 3 105 107 := ⟨at_102, rfl, by decide, by decide⟩
theorem d0_114 : Dc code 114 (.aload 4) 2 116 := ⟨at_114, rfl⟩
theorem d0_116 : Dc code 116 (.getstatic 13) 3 119 := ⟨at_116, rfl⟩
theorem d0_119 : Dj code 119 (.if_acmp .eq 5) 5 3 122 124 := ⟨at_119, rfl, by decide, by decide⟩
set_option maxRecDepth 65536 in
set_option maxHeartbeats 40000000 in
theorem rm0 (l : Launch) {Z : State} {a0 : Array Value} (hw : ∀ d ∈ tables_1, d.before a0 Z = true) {h : Heap} (hE : Ext Z.heap h) (p0 : Int32) (p1 : Int32) (bd it : Addr) (hB : Sta Z Z.heap "com/example/espera/espera/ErrorCode" "BAD_REQUEST" "Lcom/example/espera/espera/ErrorCode;" (.ref bd))(hI : Sta Z Z.heap "com/example/espera/espera/ErrorCode" "INTERNAL" "Lcom/example/espera/espera/ErrorCode;" (.ref it)) (EB : Exa Z Z.heap bd "com/example/espera/espera/ErrorCode") (EI : Exa Z Z.heap it "com/example/espera/espera/ErrorCode") (FB : Fld Z Z.heap bd "com/example/espera/espera/ErrorCode" "httpStatus" "I" (.int (400 : Int32))) (FI : Fld Z Z.heap it "com/example/espera/espera/ErrorCode" "httpStatus" "I" (.int (500 : Int32))) (hne : bd ≠ it) (hc : (400 : Int32) + (p0 &&& (2147483647 : Int32)) % (100 : Int32) < (500 : Int32)) (hd : ¬ (500 : Int32) + (p1 &&& (1073741823 : Int32)) < (500 : Int32)) :
    Con l x code maxLocals ret tables_1 room_1 Z #[(.int p0), (.int p1)] h (fun v' h' => v' = some (.int 1)) := by
  refine con_of (plainFor_of_name pn_1) hE (fun m => ef_rm0 m p0 p1) ?_
  intro p e s m below meth c T0 C X0
  have C : Cx p s m meth c Z "com/example/espera/espera/ErrorCodeForHttpStatusPinLaw" "law" code maxLocals ret := C
  show Goes p e below _ T0 (mkF m 0 #[.val (.int p0), .val (.int p1), .unset, .unset, .unset, .unset, .unset, .unset, .unset, .unset] [])
  refine g_sipush (400 : Int32) C X0 d0_0 rfl ?_
  refine g_iloadN C X0 d0_3 rfl ?_
  refine g_ldcI C X0 (wd hw 0 rfl) d0_4 ?_
  refine g_iand C X0 d0_6 ?_
  refine g_bipush (100 : Int32) C X0 d0_7 rfl ?_
  refine g_irem C X0 d0_9 (by decide) ?_
  refine g_iadd C X0 d0_10 ?_
  refine g_istoreN C X0 d0_11 (l' := #[.val (.int p0), .val (.int p1), .val (.int ((400 : Int32) + ((p0 &&& (2147483647 : Int32)) % (100 : Int32)))), .unset, .unset, .unset, .unset, .unset, .unset, .unset]) rfl ?_
  refine g_sipush (500 : Int32) C X0 d0_12 rfl ?_
  refine g_iloadN C X0 d0_15 rfl ?_
  refine g_ldcI C X0 (wd hw 1 rfl) d0_16 ?_
  refine g_iand C X0 d0_18 ?_
  refine g_iadd C X0 d0_19 ?_
  refine g_istoreN C X0 d0_20 (l' := #[.val (.int p0), .val (.int p1), .val (.int ((400 : Int32) + ((p0 &&& (2147483647 : Int32)) % (100 : Int32)))), .val (.int ((500 : Int32) + (p1 &&& (1073741823 : Int32)))), .unset, .unset, .unset, .unset, .unset, .unset]) rfl ?_
  by_cases hp0 : p0 < (500 : Int32)
  · refine g_iloadN C X0 d0_21 rfl ?_
    refine g_staticP (argsL := [(.int p0)]) (st := []) C X0 (wd hw 2 rfl) (wd hw 3 rfl) (wd hw 4 rfl) (wd hw 5 rfl) (by decide) (pay_of (W' := 0) (rm1a l hw X0.ext p0 bd hB hp0) C.hZ (wd hw 5 rfl) (wd hw 4 rfl) (by decide) (by decide)) pd_0 rfl rfl _ rfl (Nat.le_of_eq rfl) d0_22 (by decide) (by decide) (fun T7 X7 => ?_)
    show Goes p e below _ T7 (mkF m 25 #[.val (.int p0), .val (.int p1), .val (.int ((400 : Int32) + ((p0 &&& (2147483647 : Int32)) % (100 : Int32)))), .val (.int ((500 : Int32) + (p1 &&& (1073741823 : Int32)))), .unset, .unset, .unset, .unset, .unset, .unset] [(.ref bd)])
    refine g_astore C X7 d0_25 rfl (l' := #[.val (.int p0), .val (.int p1), .val (.int ((400 : Int32) + ((p0 &&& (2147483647 : Int32)) % (100 : Int32)))), .val (.int ((500 : Int32) + (p1 &&& (1073741823 : Int32)))), .val (.ref bd), .unset, .unset, .unset, .unset, .unset]) rfl ?_
    by_cases hp1 : p1 < (500 : Int32)
    · refine g_iloadN C X7 d0_27 rfl ?_
      refine g_staticP (argsL := [(.int p1)]) (st := []) C X7 (wd hw 2 rfl) (wd hw 3 rfl) (wd hw 4 rfl) (wd hw 5 rfl) (by decide) (pay_of (W' := 0) (rm1a l hw X7.ext p1 bd hB hp1) C.hZ (wd hw 5 rfl) (wd hw 4 rfl) (by decide) (by decide)) pd_0 rfl rfl _ rfl (Nat.le_of_eq rfl) d0_28 (by decide) (by decide) (fun T8 X8 => ?_)
      show Goes p e below _ T8 (mkF m 31 #[.val (.int p0), .val (.int p1), .val (.int ((400 : Int32) + ((p0 &&& (2147483647 : Int32)) % (100 : Int32)))), .val (.int ((500 : Int32) + (p1 &&& (1073741823 : Int32)))), .val (.ref bd), .unset, .unset, .unset, .unset, .unset] [(.ref bd)])
      refine g_astore C X8 d0_31 rfl (l' := #[.val (.int p0), .val (.int p1), .val (.int ((400 : Int32) + ((p0 &&& (2147483647 : Int32)) % (100 : Int32)))), .val (.int ((500 : Int32) + (p1 &&& (1073741823 : Int32)))), .val (.ref bd), .val (.ref bd), .unset, .unset, .unset, .unset]) rfl ?_
      refine g_iloadN C X8 d0_33 rfl ?_
      refine g_staticP (argsL := [(.int ((400 : Int32) + ((p0 &&& (2147483647 : Int32)) % (100 : Int32))))]) (st := []) C X8 (wd hw 2 rfl) (wd hw 3 rfl) (wd hw 4 rfl) (wd hw 5 rfl) (by decide) (pay_of (W' := 0) (rm1a l hw X8.ext ((400 : Int32) + ((p0 &&& (2147483647 : Int32)) % (100 : Int32))) bd hB hc) C.hZ (wd hw 5 rfl) (wd hw 4 rfl) (by decide) (by decide)) pd_0 rfl rfl _ rfl (Nat.le_of_eq rfl) d0_34 (by decide) (by decide) (fun T9 X9 => ?_)
      show Goes p e below _ T9 (mkF m 37 #[.val (.int p0), .val (.int p1), .val (.int ((400 : Int32) + ((p0 &&& (2147483647 : Int32)) % (100 : Int32)))), .val (.int ((500 : Int32) + (p1 &&& (1073741823 : Int32)))), .val (.ref bd), .val (.ref bd), .unset, .unset, .unset, .unset] [(.ref bd)])
      refine g_astore C X9 d0_37 rfl (l' := #[.val (.int p0), .val (.int p1), .val (.int ((400 : Int32) + ((p0 &&& (2147483647 : Int32)) % (100 : Int32)))), .val (.int ((500 : Int32) + (p1 &&& (1073741823 : Int32)))), .val (.ref bd), .val (.ref bd), .val (.ref bd), .unset, .unset, .unset]) rfl ?_
      refine g_iloadN C X9 d0_39 rfl ?_
      refine g_staticP (argsL := [(.int ((500 : Int32) + (p1 &&& (1073741823 : Int32))))]) (st := []) C X9 (wd hw 2 rfl) (wd hw 3 rfl) (wd hw 4 rfl) (wd hw 5 rfl) (by decide) (pay_of (W' := 0) (rm1b l hw X9.ext ((500 : Int32) + (p1 &&& (1073741823 : Int32))) it hI hd) C.hZ (wd hw 5 rfl) (wd hw 4 rfl) (by decide) (by decide)) pd_0 rfl rfl _ rfl (Nat.le_of_eq rfl) d0_40 (by decide) (by decide) (fun T10 X10 => ?_)
      show Goes p e below _ T10 (mkF m 43 #[.val (.int p0), .val (.int p1), .val (.int ((400 : Int32) + ((p0 &&& (2147483647 : Int32)) % (100 : Int32)))), .val (.int ((500 : Int32) + (p1 &&& (1073741823 : Int32)))), .val (.ref bd), .val (.ref bd), .val (.ref bd), .unset, .unset, .unset] [(.ref it)])
      refine g_astore C X10 d0_43 rfl (l' := #[.val (.int p0), .val (.int p1), .val (.int ((400 : Int32) + ((p0 &&& (2147483647 : Int32)) % (100 : Int32)))), .val (.int ((500 : Int32) + (p1 &&& (1073741823 : Int32)))), .val (.ref bd), .val (.ref bd), .val (.ref bd), .val (.ref it), .unset, .unset]) rfl ?_
      refine g_aload C X10 d0_45 rfl rfl ?_
      refine g_staticP (argsL := [(.ref bd)]) (st := []) C X10 (wd hw 10 rfl) (wd hw 11 rfl) (wd hw 12 rfl) (wd hw 13 rfl) (by decide) (pay_of (W' := 0) (rm2a l hw X10.ext bd hB) C.hZ (wd hw 13 rfl) (wd hw 12 rfl) (by decide) (by decide)) pd_1 rfl rfl _ rfl (Nat.le_of_eq rfl) d0_47 (by decide) (by decide) (fun T11 X11 => ?_)
      show Goes p e below _ T11 (mkF m 50 #[.val (.int p0), .val (.int p1), .val (.int ((400 : Int32) + ((p0 &&& (2147483647 : Int32)) % (100 : Int32)))), .val (.int ((500 : Int32) + (p1 &&& (1073741823 : Int32)))), .val (.ref bd), .val (.ref bd), .val (.ref bd), .val (.ref it), .unset, .unset] [(.int (1 : Int32))])
      refine g_if (h0_eq _) C X11 d0_50 (fun q => absurd q (by decide)) (fun _ => ?_)
      refine g_aload C X11 d0_53 rfl rfl ?_
      refine g_staticP (argsL := [(.ref bd)]) (st := []) C X11 (wd hw 10 rfl) (wd hw 11 rfl) (wd hw 12 rfl) (wd hw 13 rfl) (by decide) (pay_of (W' := 0) (rm2a l hw X11.ext bd hB) C.hZ (wd hw 13 rfl) (wd hw 12 rfl) (by decide) (by decide)) pd_1 rfl rfl _ rfl (Nat.le_of_eq rfl) d0_55 (by decide) (by decide) (fun T12 X12 => ?_)
      show Goes p e below _ T12 (mkF m 58 #[.val (.int p0), .val (.int p1), .val (.int ((400 : Int32) + ((p0 &&& (2147483647 : Int32)) % (100 : Int32)))), .val (.int ((500 : Int32) + (p1 &&& (1073741823 : Int32)))), .val (.ref bd), .val (.ref bd), .val (.ref bd), .val (.ref it), .unset, .unset] [(.int (1 : Int32))])
      refine g_ifn (h0_ne _) C X12 d0_58 (fun _ => ?_) (fun q => absurd q (by decide))
      refine g_aload C X12 d0_63 rfl rfl ?_
      refine g_getstatic (host := "") C X12 (Or.inl (wd hw 14 rfl)) Via.refl hB d0_65 (fun T13 X13 => ?_)
      refine g_acmpeq C X13 d0_68 rfl rfl (fun _ => ?_) (fun q => absurd rfl q)
      refine g_aload C X13 d0_73 rfl rfl ?_
      refine g_getstatic (host := "") C X13 (Or.inl (wd hw 15 rfl)) Via.refl hI d0_75 (fun T14 X14 => ?_)
      refine g_acmpeq C X14 d0_78 rfl rfl (fun _ => ?_) (fun q => absurd rfl q)
      refine g_iloadN C X14 d0_83 rfl ?_
      refine g_sipush (400 : Int32) C X14 d0_84 rfl ?_
      refine g_icmp (hI_lt _ _) C X14 d0_87 (fun c87_15 => ?_) (fun c87_15 => ?_)
      · refine g_iloadN C X14 d0_107 rfl ?_
        refine g_sipush (500 : Int32) C X14 d0_108 rfl ?_
        refine g_icmp (hI_lt _ _) C X14 d0_111 (fun _ => ?_) (fun q => absurd hp0 q)
        refine g_iloadN C X14 d0_124 rfl ?_
        refine g_iloadN C X14 d0_125 rfl ?_
        refine g_icmp (hI_gt _ _) C X14 d0_126 (fun c126_16 => ?_) (fun c126_16 => ?_)
        · refine g_aload C X14 d0_134 rfl rfl ?_
          refine g_astore C X14 d0_136 rfl (l' := #[.val (.int p0), .val (.int p1), .val (.int ((400 : Int32) + ((p0 &&& (2147483647 : Int32)) % (100 : Int32)))), .val (.int ((500 : Int32) + (p1 &&& (1073741823 : Int32)))), .val (.ref bd), .val (.ref bd), .val (.ref bd), .val (.ref it), .val (.ref bd), .unset]) rfl ?_
          refine g_iloadN C X14 d0_138 rfl ?_
          refine g_iloadN C X14 d0_139 rfl ?_
          refine g_icmp (hI_gt _ _) C X14 d0_140 (fun _ => ?_) (fun q => absurd c126_16 q)
          refine g_aload C X14 d0_148 rfl rfl ?_
          refine g_astore C X14 d0_150 rfl (l' := #[.val (.int p0), .val (.int p1), .val (.int ((400 : Int32) + ((p0 &&& (2147483647 : Int32)) % (100 : Int32)))), .val (.int ((500 : Int32) + (p1 &&& (1073741823 : Int32)))), .val (.ref bd), .val (.ref bd), .val (.ref bd), .val (.ref it), .val (.ref bd), .val (.ref bd)]) rfl ?_
          refine g_aload C X14 d0_152 rfl rfl ?_
          refine g_virtualP (argsL := []) (st := []) C X14 (wd hw 16 rfl) (wd hw 17 rfl) (nf_of C (wd hw 19 rfl) rfl rfl) (wd hw 19 rfl) (wd hw 18 rfl) (by decide) (Exa.ext X14.ext EB) (pay_of (W' := 0) (rm3 l hw X14.ext bd (400 : Int32) (Fld.ext X14.ext FB)) C.hZ (wd hw 20 rfl) (wd hw 4 rfl) (by decide) (by decide)) pd_2 rfl rfl _ rfl (Nat.le_of_eq rfl) d0_154 (by decide) (by decide) (fun T17 X17 => ?_)
          show Goes p e below _ T17 (mkF m 157 #[.val (.int p0), .val (.int p1), .val (.int ((400 : Int32) + ((p0 &&& (2147483647 : Int32)) % (100 : Int32)))), .val (.int ((500 : Int32) + (p1 &&& (1073741823 : Int32)))), .val (.ref bd), .val (.ref bd), .val (.ref bd), .val (.ref it), .val (.ref bd), .val (.ref bd)] [(.int (400 : Int32))])
          refine g_aload C X17 d0_157 rfl rfl ?_
          refine g_virtualP (argsL := []) (st := [(.int (400 : Int32))]) C X17 (wd hw 16 rfl) (wd hw 17 rfl) (nf_of C (wd hw 19 rfl) rfl rfl) (wd hw 19 rfl) (wd hw 18 rfl) (by decide) (Exa.ext X17.ext EB) (pay_of (W' := 1) (rm3 l hw X17.ext bd (400 : Int32) (Fld.ext X17.ext FB)) C.hZ (wd hw 20 rfl) (wd hw 4 rfl) (by decide) (by decide)) pd_2 rfl rfl _ rfl (Nat.le_of_eq rfl) d0_159 (by decide) (by decide) (fun T18 X18 => ?_)
          show Goes p e below _ T18 (mkF m 162 #[.val (.int p0), .val (.int p1), .val (.int ((400 : Int32) + ((p0 &&& (2147483647 : Int32)) % (100 : Int32)))), .val (.int ((500 : Int32) + (p1 &&& (1073741823 : Int32)))), .val (.ref bd), .val (.ref bd), .val (.ref bd), .val (.ref it), .val (.ref bd), .val (.ref bd)] [(.int (400 : Int32)), (.int (400 : Int32))])
          refine g_icmpn (hI_le _ _) C X18 d0_162 (fun _ => ?_) (fun q => absurd q (by decide))
          refine g_iconst (1 : Int32) C X18 d0_167 rfl ?_
          exact g_retN C X18 (by simp) d0_168 (1 : Int32) rfl (by decide) (by decide) rfl
        · refine g_aload C X14 d0_129 rfl rfl ?_
          refine g_goto C X14 d0_131 ?_
          refine g_astore C X14 d0_136 rfl (l' := #[.val (.int p0), .val (.int p1), .val (.int ((400 : Int32) + ((p0 &&& (2147483647 : Int32)) % (100 : Int32)))), .val (.int ((500 : Int32) + (p1 &&& (1073741823 : Int32)))), .val (.ref bd), .val (.ref bd), .val (.ref bd), .val (.ref it), .val (.ref bd), .unset]) rfl ?_
          refine g_iloadN C X14 d0_138 rfl ?_
          refine g_iloadN C X14 d0_139 rfl ?_
          refine g_icmp (hI_gt _ _) C X14 d0_140 (fun q => absurd q c126_16) (fun _ => ?_)
          refine g_aload C X14 d0_143 rfl rfl ?_
          refine g_goto C X14 d0_145 ?_
          refine g_astore C X14 d0_150 rfl (l' := #[.val (.int p0), .val (.int p1), .val (.int ((400 : Int32) + ((p0 &&& (2147483647 : Int32)) % (100 : Int32)))), .val (.int ((500 : Int32) + (p1 &&& (1073741823 : Int32)))), .val (.ref bd), .val (.ref bd), .val (.ref bd), .val (.ref it), .val (.ref bd), .val (.ref bd)]) rfl ?_
          refine g_aload C X14 d0_152 rfl rfl ?_
          refine g_virtualP (argsL := []) (st := []) C X14 (wd hw 16 rfl) (wd hw 17 rfl) (nf_of C (wd hw 19 rfl) rfl rfl) (wd hw 19 rfl) (wd hw 18 rfl) (by decide) (Exa.ext X14.ext EB) (pay_of (W' := 0) (rm3 l hw X14.ext bd (400 : Int32) (Fld.ext X14.ext FB)) C.hZ (wd hw 20 rfl) (wd hw 4 rfl) (by decide) (by decide)) pd_2 rfl rfl _ rfl (Nat.le_of_eq rfl) d0_154 (by decide) (by decide) (fun T19 X19 => ?_)
          show Goes p e below _ T19 (mkF m 157 #[.val (.int p0), .val (.int p1), .val (.int ((400 : Int32) + ((p0 &&& (2147483647 : Int32)) % (100 : Int32)))), .val (.int ((500 : Int32) + (p1 &&& (1073741823 : Int32)))), .val (.ref bd), .val (.ref bd), .val (.ref bd), .val (.ref it), .val (.ref bd), .val (.ref bd)] [(.int (400 : Int32))])
          refine g_aload C X19 d0_157 rfl rfl ?_
          refine g_virtualP (argsL := []) (st := [(.int (400 : Int32))]) C X19 (wd hw 16 rfl) (wd hw 17 rfl) (nf_of C (wd hw 19 rfl) rfl rfl) (wd hw 19 rfl) (wd hw 18 rfl) (by decide) (Exa.ext X19.ext EB) (pay_of (W' := 1) (rm3 l hw X19.ext bd (400 : Int32) (Fld.ext X19.ext FB)) C.hZ (wd hw 20 rfl) (wd hw 4 rfl) (by decide) (by decide)) pd_2 rfl rfl _ rfl (Nat.le_of_eq rfl) d0_159 (by decide) (by decide) (fun T20 X20 => ?_)
          show Goes p e below _ T20 (mkF m 162 #[.val (.int p0), .val (.int p1), .val (.int ((400 : Int32) + ((p0 &&& (2147483647 : Int32)) % (100 : Int32)))), .val (.int ((500 : Int32) + (p1 &&& (1073741823 : Int32)))), .val (.ref bd), .val (.ref bd), .val (.ref bd), .val (.ref it), .val (.ref bd), .val (.ref bd)] [(.int (400 : Int32)), (.int (400 : Int32))])
          refine g_icmpn (hI_le _ _) C X20 d0_162 (fun _ => ?_) (fun q => absurd q (by decide))
          refine g_iconst (1 : Int32) C X20 d0_167 rfl ?_
          exact g_retN C X20 (by simp) d0_168 (1 : Int32) rfl (by decide) (by decide) rfl
      · refine g_iloadN C X14 d0_90 rfl ?_
        refine g_sipush (499 : Int32) C X14 d0_91 rfl ?_
        refine g_icmp (hI_gt _ _) C X14 d0_94 (fun q => absurd q (by simp only [Int32.lt_iff_toInt_lt, Int32.reduceToInt] at *; omega)) (fun _ => ?_)
        refine g_aload C X14 d0_97 rfl rfl ?_
        refine g_getstatic (host := "") C X14 (Or.inl (wd hw 14 rfl)) Via.refl hB d0_99 (fun T21 X21 => ?_)
        refine g_acmpeq C X21 d0_102 rfl rfl (fun _ => ?_) (fun q => absurd rfl q)
        refine g_iloadN C X21 d0_107 rfl ?_
        refine g_sipush (500 : Int32) C X21 d0_108 rfl ?_
        refine g_icmp (hI_lt _ _) C X21 d0_111 (fun _ => ?_) (fun q => absurd hp0 q)
        refine g_iloadN C X21 d0_124 rfl ?_
        refine g_iloadN C X21 d0_125 rfl ?_
        refine g_icmp (hI_gt _ _) C X21 d0_126 (fun c126_22 => ?_) (fun c126_22 => ?_)
        · refine g_aload C X21 d0_134 rfl rfl ?_
          refine g_astore C X21 d0_136 rfl (l' := #[.val (.int p0), .val (.int p1), .val (.int ((400 : Int32) + ((p0 &&& (2147483647 : Int32)) % (100 : Int32)))), .val (.int ((500 : Int32) + (p1 &&& (1073741823 : Int32)))), .val (.ref bd), .val (.ref bd), .val (.ref bd), .val (.ref it), .val (.ref bd), .unset]) rfl ?_
          refine g_iloadN C X21 d0_138 rfl ?_
          refine g_iloadN C X21 d0_139 rfl ?_
          refine g_icmp (hI_gt _ _) C X21 d0_140 (fun _ => ?_) (fun q => absurd c126_22 q)
          refine g_aload C X21 d0_148 rfl rfl ?_
          refine g_astore C X21 d0_150 rfl (l' := #[.val (.int p0), .val (.int p1), .val (.int ((400 : Int32) + ((p0 &&& (2147483647 : Int32)) % (100 : Int32)))), .val (.int ((500 : Int32) + (p1 &&& (1073741823 : Int32)))), .val (.ref bd), .val (.ref bd), .val (.ref bd), .val (.ref it), .val (.ref bd), .val (.ref bd)]) rfl ?_
          refine g_aload C X21 d0_152 rfl rfl ?_
          refine g_virtualP (argsL := []) (st := []) C X21 (wd hw 16 rfl) (wd hw 17 rfl) (nf_of C (wd hw 19 rfl) rfl rfl) (wd hw 19 rfl) (wd hw 18 rfl) (by decide) (Exa.ext X21.ext EB) (pay_of (W' := 0) (rm3 l hw X21.ext bd (400 : Int32) (Fld.ext X21.ext FB)) C.hZ (wd hw 20 rfl) (wd hw 4 rfl) (by decide) (by decide)) pd_2 rfl rfl _ rfl (Nat.le_of_eq rfl) d0_154 (by decide) (by decide) (fun T23 X23 => ?_)
          show Goes p e below _ T23 (mkF m 157 #[.val (.int p0), .val (.int p1), .val (.int ((400 : Int32) + ((p0 &&& (2147483647 : Int32)) % (100 : Int32)))), .val (.int ((500 : Int32) + (p1 &&& (1073741823 : Int32)))), .val (.ref bd), .val (.ref bd), .val (.ref bd), .val (.ref it), .val (.ref bd), .val (.ref bd)] [(.int (400 : Int32))])
          refine g_aload C X23 d0_157 rfl rfl ?_
          refine g_virtualP (argsL := []) (st := [(.int (400 : Int32))]) C X23 (wd hw 16 rfl) (wd hw 17 rfl) (nf_of C (wd hw 19 rfl) rfl rfl) (wd hw 19 rfl) (wd hw 18 rfl) (by decide) (Exa.ext X23.ext EB) (pay_of (W' := 1) (rm3 l hw X23.ext bd (400 : Int32) (Fld.ext X23.ext FB)) C.hZ (wd hw 20 rfl) (wd hw 4 rfl) (by decide) (by decide)) pd_2 rfl rfl _ rfl (Nat.le_of_eq rfl) d0_159 (by decide) (by decide) (fun T24 X24 => ?_)
          show Goes p e below _ T24 (mkF m 162 #[.val (.int p0), .val (.int p1), .val (.int ((400 : Int32) + ((p0 &&& (2147483647 : Int32)) % (100 : Int32)))), .val (.int ((500 : Int32) + (p1 &&& (1073741823 : Int32)))), .val (.ref bd), .val (.ref bd), .val (.ref bd), .val (.ref it), .val (.ref bd), .val (.ref bd)] [(.int (400 : Int32)), (.int (400 : Int32))])
          refine g_icmpn (hI_le _ _) C X24 d0_162 (fun _ => ?_) (fun q => absurd q (by decide))
          refine g_iconst (1 : Int32) C X24 d0_167 rfl ?_
          exact g_retN C X24 (by simp) d0_168 (1 : Int32) rfl (by decide) (by decide) rfl
        · refine g_aload C X21 d0_129 rfl rfl ?_
          refine g_goto C X21 d0_131 ?_
          refine g_astore C X21 d0_136 rfl (l' := #[.val (.int p0), .val (.int p1), .val (.int ((400 : Int32) + ((p0 &&& (2147483647 : Int32)) % (100 : Int32)))), .val (.int ((500 : Int32) + (p1 &&& (1073741823 : Int32)))), .val (.ref bd), .val (.ref bd), .val (.ref bd), .val (.ref it), .val (.ref bd), .unset]) rfl ?_
          refine g_iloadN C X21 d0_138 rfl ?_
          refine g_iloadN C X21 d0_139 rfl ?_
          refine g_icmp (hI_gt _ _) C X21 d0_140 (fun q => absurd q c126_22) (fun _ => ?_)
          refine g_aload C X21 d0_143 rfl rfl ?_
          refine g_goto C X21 d0_145 ?_
          refine g_astore C X21 d0_150 rfl (l' := #[.val (.int p0), .val (.int p1), .val (.int ((400 : Int32) + ((p0 &&& (2147483647 : Int32)) % (100 : Int32)))), .val (.int ((500 : Int32) + (p1 &&& (1073741823 : Int32)))), .val (.ref bd), .val (.ref bd), .val (.ref bd), .val (.ref it), .val (.ref bd), .val (.ref bd)]) rfl ?_
          refine g_aload C X21 d0_152 rfl rfl ?_
          refine g_virtualP (argsL := []) (st := []) C X21 (wd hw 16 rfl) (wd hw 17 rfl) (nf_of C (wd hw 19 rfl) rfl rfl) (wd hw 19 rfl) (wd hw 18 rfl) (by decide) (Exa.ext X21.ext EB) (pay_of (W' := 0) (rm3 l hw X21.ext bd (400 : Int32) (Fld.ext X21.ext FB)) C.hZ (wd hw 20 rfl) (wd hw 4 rfl) (by decide) (by decide)) pd_2 rfl rfl _ rfl (Nat.le_of_eq rfl) d0_154 (by decide) (by decide) (fun T25 X25 => ?_)
          show Goes p e below _ T25 (mkF m 157 #[.val (.int p0), .val (.int p1), .val (.int ((400 : Int32) + ((p0 &&& (2147483647 : Int32)) % (100 : Int32)))), .val (.int ((500 : Int32) + (p1 &&& (1073741823 : Int32)))), .val (.ref bd), .val (.ref bd), .val (.ref bd), .val (.ref it), .val (.ref bd), .val (.ref bd)] [(.int (400 : Int32))])
          refine g_aload C X25 d0_157 rfl rfl ?_
          refine g_virtualP (argsL := []) (st := [(.int (400 : Int32))]) C X25 (wd hw 16 rfl) (wd hw 17 rfl) (nf_of C (wd hw 19 rfl) rfl rfl) (wd hw 19 rfl) (wd hw 18 rfl) (by decide) (Exa.ext X25.ext EB) (pay_of (W' := 1) (rm3 l hw X25.ext bd (400 : Int32) (Fld.ext X25.ext FB)) C.hZ (wd hw 20 rfl) (wd hw 4 rfl) (by decide) (by decide)) pd_2 rfl rfl _ rfl (Nat.le_of_eq rfl) d0_159 (by decide) (by decide) (fun T26 X26 => ?_)
          show Goes p e below _ T26 (mkF m 162 #[.val (.int p0), .val (.int p1), .val (.int ((400 : Int32) + ((p0 &&& (2147483647 : Int32)) % (100 : Int32)))), .val (.int ((500 : Int32) + (p1 &&& (1073741823 : Int32)))), .val (.ref bd), .val (.ref bd), .val (.ref bd), .val (.ref it), .val (.ref bd), .val (.ref bd)] [(.int (400 : Int32)), (.int (400 : Int32))])
          refine g_icmpn (hI_le _ _) C X26 d0_162 (fun _ => ?_) (fun q => absurd q (by decide))
          refine g_iconst (1 : Int32) C X26 d0_167 rfl ?_
          exact g_retN C X26 (by simp) d0_168 (1 : Int32) rfl (by decide) (by decide) rfl
    · refine g_iloadN C X7 d0_27 rfl ?_
      refine g_staticP (argsL := [(.int p1)]) (st := []) C X7 (wd hw 2 rfl) (wd hw 3 rfl) (wd hw 4 rfl) (wd hw 5 rfl) (by decide) (pay_of (W' := 0) (rm1b l hw X7.ext p1 it hI hp1) C.hZ (wd hw 5 rfl) (wd hw 4 rfl) (by decide) (by decide)) pd_0 rfl rfl _ rfl (Nat.le_of_eq rfl) d0_28 (by decide) (by decide) (fun T27 X27 => ?_)
      show Goes p e below _ T27 (mkF m 31 #[.val (.int p0), .val (.int p1), .val (.int ((400 : Int32) + ((p0 &&& (2147483647 : Int32)) % (100 : Int32)))), .val (.int ((500 : Int32) + (p1 &&& (1073741823 : Int32)))), .val (.ref bd), .unset, .unset, .unset, .unset, .unset] [(.ref it)])
      refine g_astore C X27 d0_31 rfl (l' := #[.val (.int p0), .val (.int p1), .val (.int ((400 : Int32) + ((p0 &&& (2147483647 : Int32)) % (100 : Int32)))), .val (.int ((500 : Int32) + (p1 &&& (1073741823 : Int32)))), .val (.ref bd), .val (.ref it), .unset, .unset, .unset, .unset]) rfl ?_
      refine g_iloadN C X27 d0_33 rfl ?_
      refine g_staticP (argsL := [(.int ((400 : Int32) + ((p0 &&& (2147483647 : Int32)) % (100 : Int32))))]) (st := []) C X27 (wd hw 2 rfl) (wd hw 3 rfl) (wd hw 4 rfl) (wd hw 5 rfl) (by decide) (pay_of (W' := 0) (rm1a l hw X27.ext ((400 : Int32) + ((p0 &&& (2147483647 : Int32)) % (100 : Int32))) bd hB hc) C.hZ (wd hw 5 rfl) (wd hw 4 rfl) (by decide) (by decide)) pd_0 rfl rfl _ rfl (Nat.le_of_eq rfl) d0_34 (by decide) (by decide) (fun T28 X28 => ?_)
      show Goes p e below _ T28 (mkF m 37 #[.val (.int p0), .val (.int p1), .val (.int ((400 : Int32) + ((p0 &&& (2147483647 : Int32)) % (100 : Int32)))), .val (.int ((500 : Int32) + (p1 &&& (1073741823 : Int32)))), .val (.ref bd), .val (.ref it), .unset, .unset, .unset, .unset] [(.ref bd)])
      refine g_astore C X28 d0_37 rfl (l' := #[.val (.int p0), .val (.int p1), .val (.int ((400 : Int32) + ((p0 &&& (2147483647 : Int32)) % (100 : Int32)))), .val (.int ((500 : Int32) + (p1 &&& (1073741823 : Int32)))), .val (.ref bd), .val (.ref it), .val (.ref bd), .unset, .unset, .unset]) rfl ?_
      refine g_iloadN C X28 d0_39 rfl ?_
      refine g_staticP (argsL := [(.int ((500 : Int32) + (p1 &&& (1073741823 : Int32))))]) (st := []) C X28 (wd hw 2 rfl) (wd hw 3 rfl) (wd hw 4 rfl) (wd hw 5 rfl) (by decide) (pay_of (W' := 0) (rm1b l hw X28.ext ((500 : Int32) + (p1 &&& (1073741823 : Int32))) it hI hd) C.hZ (wd hw 5 rfl) (wd hw 4 rfl) (by decide) (by decide)) pd_0 rfl rfl _ rfl (Nat.le_of_eq rfl) d0_40 (by decide) (by decide) (fun T29 X29 => ?_)
      show Goes p e below _ T29 (mkF m 43 #[.val (.int p0), .val (.int p1), .val (.int ((400 : Int32) + ((p0 &&& (2147483647 : Int32)) % (100 : Int32)))), .val (.int ((500 : Int32) + (p1 &&& (1073741823 : Int32)))), .val (.ref bd), .val (.ref it), .val (.ref bd), .unset, .unset, .unset] [(.ref it)])
      refine g_astore C X29 d0_43 rfl (l' := #[.val (.int p0), .val (.int p1), .val (.int ((400 : Int32) + ((p0 &&& (2147483647 : Int32)) % (100 : Int32)))), .val (.int ((500 : Int32) + (p1 &&& (1073741823 : Int32)))), .val (.ref bd), .val (.ref it), .val (.ref bd), .val (.ref it), .unset, .unset]) rfl ?_
      refine g_aload C X29 d0_45 rfl rfl ?_
      refine g_staticP (argsL := [(.ref bd)]) (st := []) C X29 (wd hw 10 rfl) (wd hw 11 rfl) (wd hw 12 rfl) (wd hw 13 rfl) (by decide) (pay_of (W' := 0) (rm2a l hw X29.ext bd hB) C.hZ (wd hw 13 rfl) (wd hw 12 rfl) (by decide) (by decide)) pd_1 rfl rfl _ rfl (Nat.le_of_eq rfl) d0_47 (by decide) (by decide) (fun T30 X30 => ?_)
      show Goes p e below _ T30 (mkF m 50 #[.val (.int p0), .val (.int p1), .val (.int ((400 : Int32) + ((p0 &&& (2147483647 : Int32)) % (100 : Int32)))), .val (.int ((500 : Int32) + (p1 &&& (1073741823 : Int32)))), .val (.ref bd), .val (.ref it), .val (.ref bd), .val (.ref it), .unset, .unset] [(.int (1 : Int32))])
      refine g_if (h0_eq _) C X30 d0_50 (fun q => absurd q (by decide)) (fun _ => ?_)
      refine g_aload C X30 d0_53 rfl rfl ?_
      refine g_staticP (argsL := [(.ref it)]) (st := []) C X30 (wd hw 10 rfl) (wd hw 11 rfl) (wd hw 12 rfl) (wd hw 13 rfl) (by decide) (pay_of (W' := 0) (rm2b l hw X30.ext it bd hB hI hne) C.hZ (wd hw 13 rfl) (wd hw 12 rfl) (by decide) (by decide)) pd_1 rfl rfl _ rfl (Nat.le_of_eq rfl) d0_55 (by decide) (by decide) (fun T31 X31 => ?_)
      show Goes p e below _ T31 (mkF m 58 #[.val (.int p0), .val (.int p1), .val (.int ((400 : Int32) + ((p0 &&& (2147483647 : Int32)) % (100 : Int32)))), .val (.int ((500 : Int32) + (p1 &&& (1073741823 : Int32)))), .val (.ref bd), .val (.ref it), .val (.ref bd), .val (.ref it), .unset, .unset] [(.int (1 : Int32))])
      refine g_ifn (h0_ne _) C X31 d0_58 (fun _ => ?_) (fun q => absurd q (by decide))
      refine g_aload C X31 d0_63 rfl rfl ?_
      refine g_getstatic (host := "") C X31 (Or.inl (wd hw 14 rfl)) Via.refl hB d0_65 (fun T32 X32 => ?_)
      refine g_acmpeq C X32 d0_68 rfl rfl (fun _ => ?_) (fun q => absurd rfl q)
      refine g_aload C X32 d0_73 rfl rfl ?_
      refine g_getstatic (host := "") C X32 (Or.inl (wd hw 15 rfl)) Via.refl hI d0_75 (fun T33 X33 => ?_)
      refine g_acmpeq C X33 d0_78 rfl rfl (fun _ => ?_) (fun q => absurd rfl q)
      refine g_iloadN C X33 d0_83 rfl ?_
      refine g_sipush (400 : Int32) C X33 d0_84 rfl ?_
      refine g_icmp (hI_lt _ _) C X33 d0_87 (fun c87_34 => ?_) (fun c87_34 => ?_)
      · refine g_iloadN C X33 d0_107 rfl ?_
        refine g_sipush (500 : Int32) C X33 d0_108 rfl ?_
        refine g_icmp (hI_lt _ _) C X33 d0_111 (fun _ => ?_) (fun q => absurd hp0 q)
        refine g_iloadN C X33 d0_124 rfl ?_
        refine g_iloadN C X33 d0_125 rfl ?_
        refine g_icmp (hI_gt _ _) C X33 d0_126 (fun q => absurd q (by simp only [Int32.lt_iff_toInt_lt, Int32.reduceToInt] at *; omega)) (fun _ => ?_)
        refine g_aload C X33 d0_129 rfl rfl ?_
        refine g_goto C X33 d0_131 ?_
        refine g_astore C X33 d0_136 rfl (l' := #[.val (.int p0), .val (.int p1), .val (.int ((400 : Int32) + ((p0 &&& (2147483647 : Int32)) % (100 : Int32)))), .val (.int ((500 : Int32) + (p1 &&& (1073741823 : Int32)))), .val (.ref bd), .val (.ref it), .val (.ref bd), .val (.ref it), .val (.ref bd), .unset]) rfl ?_
        refine g_iloadN C X33 d0_138 rfl ?_
        refine g_iloadN C X33 d0_139 rfl ?_
        refine g_icmp (hI_gt _ _) C X33 d0_140 (fun c140_35 => ?_) (fun c140_35 => ?_)
        · refine g_aload C X33 d0_148 rfl rfl ?_
          refine g_astore C X33 d0_150 rfl (l' := #[.val (.int p0), .val (.int p1), .val (.int ((400 : Int32) + ((p0 &&& (2147483647 : Int32)) % (100 : Int32)))), .val (.int ((500 : Int32) + (p1 &&& (1073741823 : Int32)))), .val (.ref bd), .val (.ref it), .val (.ref bd), .val (.ref it), .val (.ref bd), .val (.ref bd)]) rfl ?_
          refine g_aload C X33 d0_152 rfl rfl ?_
          refine g_virtualP (argsL := []) (st := []) C X33 (wd hw 16 rfl) (wd hw 17 rfl) (nf_of C (wd hw 19 rfl) rfl rfl) (wd hw 19 rfl) (wd hw 18 rfl) (by decide) (Exa.ext X33.ext EB) (pay_of (W' := 0) (rm3 l hw X33.ext bd (400 : Int32) (Fld.ext X33.ext FB)) C.hZ (wd hw 20 rfl) (wd hw 4 rfl) (by decide) (by decide)) pd_2 rfl rfl _ rfl (Nat.le_of_eq rfl) d0_154 (by decide) (by decide) (fun T36 X36 => ?_)
          show Goes p e below _ T36 (mkF m 157 #[.val (.int p0), .val (.int p1), .val (.int ((400 : Int32) + ((p0 &&& (2147483647 : Int32)) % (100 : Int32)))), .val (.int ((500 : Int32) + (p1 &&& (1073741823 : Int32)))), .val (.ref bd), .val (.ref it), .val (.ref bd), .val (.ref it), .val (.ref bd), .val (.ref bd)] [(.int (400 : Int32))])
          refine g_aload C X36 d0_157 rfl rfl ?_
          refine g_virtualP (argsL := []) (st := [(.int (400 : Int32))]) C X36 (wd hw 16 rfl) (wd hw 17 rfl) (nf_of C (wd hw 19 rfl) rfl rfl) (wd hw 19 rfl) (wd hw 18 rfl) (by decide) (Exa.ext X36.ext EB) (pay_of (W' := 1) (rm3 l hw X36.ext bd (400 : Int32) (Fld.ext X36.ext FB)) C.hZ (wd hw 20 rfl) (wd hw 4 rfl) (by decide) (by decide)) pd_2 rfl rfl _ rfl (Nat.le_of_eq rfl) d0_159 (by decide) (by decide) (fun T37 X37 => ?_)
          show Goes p e below _ T37 (mkF m 162 #[.val (.int p0), .val (.int p1), .val (.int ((400 : Int32) + ((p0 &&& (2147483647 : Int32)) % (100 : Int32)))), .val (.int ((500 : Int32) + (p1 &&& (1073741823 : Int32)))), .val (.ref bd), .val (.ref it), .val (.ref bd), .val (.ref it), .val (.ref bd), .val (.ref bd)] [(.int (400 : Int32)), (.int (400 : Int32))])
          refine g_icmpn (hI_le _ _) C X37 d0_162 (fun _ => ?_) (fun q => absurd q (by decide))
          refine g_iconst (1 : Int32) C X37 d0_167 rfl ?_
          exact g_retN C X37 (by simp) d0_168 (1 : Int32) rfl (by decide) (by decide) rfl
        · refine g_aload C X33 d0_143 rfl rfl ?_
          refine g_goto C X33 d0_145 ?_
          refine g_astore C X33 d0_150 rfl (l' := #[.val (.int p0), .val (.int p1), .val (.int ((400 : Int32) + ((p0 &&& (2147483647 : Int32)) % (100 : Int32)))), .val (.int ((500 : Int32) + (p1 &&& (1073741823 : Int32)))), .val (.ref bd), .val (.ref it), .val (.ref bd), .val (.ref it), .val (.ref bd), .val (.ref it)]) rfl ?_
          refine g_aload C X33 d0_152 rfl rfl ?_
          refine g_virtualP (argsL := []) (st := []) C X33 (wd hw 16 rfl) (wd hw 17 rfl) (nf_of C (wd hw 19 rfl) rfl rfl) (wd hw 19 rfl) (wd hw 18 rfl) (by decide) (Exa.ext X33.ext EB) (pay_of (W' := 0) (rm3 l hw X33.ext bd (400 : Int32) (Fld.ext X33.ext FB)) C.hZ (wd hw 20 rfl) (wd hw 4 rfl) (by decide) (by decide)) pd_2 rfl rfl _ rfl (Nat.le_of_eq rfl) d0_154 (by decide) (by decide) (fun T38 X38 => ?_)
          show Goes p e below _ T38 (mkF m 157 #[.val (.int p0), .val (.int p1), .val (.int ((400 : Int32) + ((p0 &&& (2147483647 : Int32)) % (100 : Int32)))), .val (.int ((500 : Int32) + (p1 &&& (1073741823 : Int32)))), .val (.ref bd), .val (.ref it), .val (.ref bd), .val (.ref it), .val (.ref bd), .val (.ref it)] [(.int (400 : Int32))])
          refine g_aload C X38 d0_157 rfl rfl ?_
          refine g_virtualP (argsL := []) (st := [(.int (400 : Int32))]) C X38 (wd hw 16 rfl) (wd hw 17 rfl) (nf_of C (wd hw 19 rfl) rfl rfl) (wd hw 19 rfl) (wd hw 18 rfl) (by decide) (Exa.ext X38.ext EI) (pay_of (W' := 1) (rm3 l hw X38.ext it (500 : Int32) (Fld.ext X38.ext FI)) C.hZ (wd hw 20 rfl) (wd hw 4 rfl) (by decide) (by decide)) pd_2 rfl rfl _ rfl (Nat.le_of_eq rfl) d0_159 (by decide) (by decide) (fun T39 X39 => ?_)
          show Goes p e below _ T39 (mkF m 162 #[.val (.int p0), .val (.int p1), .val (.int ((400 : Int32) + ((p0 &&& (2147483647 : Int32)) % (100 : Int32)))), .val (.int ((500 : Int32) + (p1 &&& (1073741823 : Int32)))), .val (.ref bd), .val (.ref it), .val (.ref bd), .val (.ref it), .val (.ref bd), .val (.ref it)] [(.int (500 : Int32)), (.int (400 : Int32))])
          refine g_icmpn (hI_le _ _) C X39 d0_162 (fun _ => ?_) (fun q => absurd q (by decide))
          refine g_iconst (1 : Int32) C X39 d0_167 rfl ?_
          exact g_retN C X39 (by simp) d0_168 (1 : Int32) rfl (by decide) (by decide) rfl
      · refine g_iloadN C X33 d0_90 rfl ?_
        refine g_sipush (499 : Int32) C X33 d0_91 rfl ?_
        refine g_icmp (hI_gt _ _) C X33 d0_94 (fun q => absurd q (by simp only [Int32.lt_iff_toInt_lt, Int32.reduceToInt] at *; omega)) (fun _ => ?_)
        refine g_aload C X33 d0_97 rfl rfl ?_
        refine g_getstatic (host := "") C X33 (Or.inl (wd hw 14 rfl)) Via.refl hB d0_99 (fun T40 X40 => ?_)
        refine g_acmpeq C X40 d0_102 rfl rfl (fun _ => ?_) (fun q => absurd rfl q)
        refine g_iloadN C X40 d0_107 rfl ?_
        refine g_sipush (500 : Int32) C X40 d0_108 rfl ?_
        refine g_icmp (hI_lt _ _) C X40 d0_111 (fun _ => ?_) (fun q => absurd hp0 q)
        refine g_iloadN C X40 d0_124 rfl ?_
        refine g_iloadN C X40 d0_125 rfl ?_
        refine g_icmp (hI_gt _ _) C X40 d0_126 (fun q => absurd q (by simp only [Int32.lt_iff_toInt_lt, Int32.reduceToInt] at *; omega)) (fun _ => ?_)
        refine g_aload C X40 d0_129 rfl rfl ?_
        refine g_goto C X40 d0_131 ?_
        refine g_astore C X40 d0_136 rfl (l' := #[.val (.int p0), .val (.int p1), .val (.int ((400 : Int32) + ((p0 &&& (2147483647 : Int32)) % (100 : Int32)))), .val (.int ((500 : Int32) + (p1 &&& (1073741823 : Int32)))), .val (.ref bd), .val (.ref it), .val (.ref bd), .val (.ref it), .val (.ref bd), .unset]) rfl ?_
        refine g_iloadN C X40 d0_138 rfl ?_
        refine g_iloadN C X40 d0_139 rfl ?_
        refine g_icmp (hI_gt _ _) C X40 d0_140 (fun c140_41 => ?_) (fun c140_41 => ?_)
        · refine g_aload C X40 d0_148 rfl rfl ?_
          refine g_astore C X40 d0_150 rfl (l' := #[.val (.int p0), .val (.int p1), .val (.int ((400 : Int32) + ((p0 &&& (2147483647 : Int32)) % (100 : Int32)))), .val (.int ((500 : Int32) + (p1 &&& (1073741823 : Int32)))), .val (.ref bd), .val (.ref it), .val (.ref bd), .val (.ref it), .val (.ref bd), .val (.ref bd)]) rfl ?_
          refine g_aload C X40 d0_152 rfl rfl ?_
          refine g_virtualP (argsL := []) (st := []) C X40 (wd hw 16 rfl) (wd hw 17 rfl) (nf_of C (wd hw 19 rfl) rfl rfl) (wd hw 19 rfl) (wd hw 18 rfl) (by decide) (Exa.ext X40.ext EB) (pay_of (W' := 0) (rm3 l hw X40.ext bd (400 : Int32) (Fld.ext X40.ext FB)) C.hZ (wd hw 20 rfl) (wd hw 4 rfl) (by decide) (by decide)) pd_2 rfl rfl _ rfl (Nat.le_of_eq rfl) d0_154 (by decide) (by decide) (fun T42 X42 => ?_)
          show Goes p e below _ T42 (mkF m 157 #[.val (.int p0), .val (.int p1), .val (.int ((400 : Int32) + ((p0 &&& (2147483647 : Int32)) % (100 : Int32)))), .val (.int ((500 : Int32) + (p1 &&& (1073741823 : Int32)))), .val (.ref bd), .val (.ref it), .val (.ref bd), .val (.ref it), .val (.ref bd), .val (.ref bd)] [(.int (400 : Int32))])
          refine g_aload C X42 d0_157 rfl rfl ?_
          refine g_virtualP (argsL := []) (st := [(.int (400 : Int32))]) C X42 (wd hw 16 rfl) (wd hw 17 rfl) (nf_of C (wd hw 19 rfl) rfl rfl) (wd hw 19 rfl) (wd hw 18 rfl) (by decide) (Exa.ext X42.ext EB) (pay_of (W' := 1) (rm3 l hw X42.ext bd (400 : Int32) (Fld.ext X42.ext FB)) C.hZ (wd hw 20 rfl) (wd hw 4 rfl) (by decide) (by decide)) pd_2 rfl rfl _ rfl (Nat.le_of_eq rfl) d0_159 (by decide) (by decide) (fun T43 X43 => ?_)
          show Goes p e below _ T43 (mkF m 162 #[.val (.int p0), .val (.int p1), .val (.int ((400 : Int32) + ((p0 &&& (2147483647 : Int32)) % (100 : Int32)))), .val (.int ((500 : Int32) + (p1 &&& (1073741823 : Int32)))), .val (.ref bd), .val (.ref it), .val (.ref bd), .val (.ref it), .val (.ref bd), .val (.ref bd)] [(.int (400 : Int32)), (.int (400 : Int32))])
          refine g_icmpn (hI_le _ _) C X43 d0_162 (fun _ => ?_) (fun q => absurd q (by decide))
          refine g_iconst (1 : Int32) C X43 d0_167 rfl ?_
          exact g_retN C X43 (by simp) d0_168 (1 : Int32) rfl (by decide) (by decide) rfl
        · refine g_aload C X40 d0_143 rfl rfl ?_
          refine g_goto C X40 d0_145 ?_
          refine g_astore C X40 d0_150 rfl (l' := #[.val (.int p0), .val (.int p1), .val (.int ((400 : Int32) + ((p0 &&& (2147483647 : Int32)) % (100 : Int32)))), .val (.int ((500 : Int32) + (p1 &&& (1073741823 : Int32)))), .val (.ref bd), .val (.ref it), .val (.ref bd), .val (.ref it), .val (.ref bd), .val (.ref it)]) rfl ?_
          refine g_aload C X40 d0_152 rfl rfl ?_
          refine g_virtualP (argsL := []) (st := []) C X40 (wd hw 16 rfl) (wd hw 17 rfl) (nf_of C (wd hw 19 rfl) rfl rfl) (wd hw 19 rfl) (wd hw 18 rfl) (by decide) (Exa.ext X40.ext EB) (pay_of (W' := 0) (rm3 l hw X40.ext bd (400 : Int32) (Fld.ext X40.ext FB)) C.hZ (wd hw 20 rfl) (wd hw 4 rfl) (by decide) (by decide)) pd_2 rfl rfl _ rfl (Nat.le_of_eq rfl) d0_154 (by decide) (by decide) (fun T44 X44 => ?_)
          show Goes p e below _ T44 (mkF m 157 #[.val (.int p0), .val (.int p1), .val (.int ((400 : Int32) + ((p0 &&& (2147483647 : Int32)) % (100 : Int32)))), .val (.int ((500 : Int32) + (p1 &&& (1073741823 : Int32)))), .val (.ref bd), .val (.ref it), .val (.ref bd), .val (.ref it), .val (.ref bd), .val (.ref it)] [(.int (400 : Int32))])
          refine g_aload C X44 d0_157 rfl rfl ?_
          refine g_virtualP (argsL := []) (st := [(.int (400 : Int32))]) C X44 (wd hw 16 rfl) (wd hw 17 rfl) (nf_of C (wd hw 19 rfl) rfl rfl) (wd hw 19 rfl) (wd hw 18 rfl) (by decide) (Exa.ext X44.ext EI) (pay_of (W' := 1) (rm3 l hw X44.ext it (500 : Int32) (Fld.ext X44.ext FI)) C.hZ (wd hw 20 rfl) (wd hw 4 rfl) (by decide) (by decide)) pd_2 rfl rfl _ rfl (Nat.le_of_eq rfl) d0_159 (by decide) (by decide) (fun T45 X45 => ?_)
          show Goes p e below _ T45 (mkF m 162 #[.val (.int p0), .val (.int p1), .val (.int ((400 : Int32) + ((p0 &&& (2147483647 : Int32)) % (100 : Int32)))), .val (.int ((500 : Int32) + (p1 &&& (1073741823 : Int32)))), .val (.ref bd), .val (.ref it), .val (.ref bd), .val (.ref it), .val (.ref bd), .val (.ref it)] [(.int (500 : Int32)), (.int (400 : Int32))])
          refine g_icmpn (hI_le _ _) C X45 d0_162 (fun _ => ?_) (fun q => absurd q (by decide))
          refine g_iconst (1 : Int32) C X45 d0_167 rfl ?_
          exact g_retN C X45 (by simp) d0_168 (1 : Int32) rfl (by decide) (by decide) rfl
  · refine g_iloadN C X0 d0_21 rfl ?_
    refine g_staticP (argsL := [(.int p0)]) (st := []) C X0 (wd hw 2 rfl) (wd hw 3 rfl) (wd hw 4 rfl) (wd hw 5 rfl) (by decide) (pay_of (W' := 0) (rm1b l hw X0.ext p0 it hI hp0) C.hZ (wd hw 5 rfl) (wd hw 4 rfl) (by decide) (by decide)) pd_0 rfl rfl _ rfl (Nat.le_of_eq rfl) d0_22 (by decide) (by decide) (fun T46 X46 => ?_)
    show Goes p e below _ T46 (mkF m 25 #[.val (.int p0), .val (.int p1), .val (.int ((400 : Int32) + ((p0 &&& (2147483647 : Int32)) % (100 : Int32)))), .val (.int ((500 : Int32) + (p1 &&& (1073741823 : Int32)))), .unset, .unset, .unset, .unset, .unset, .unset] [(.ref it)])
    refine g_astore C X46 d0_25 rfl (l' := #[.val (.int p0), .val (.int p1), .val (.int ((400 : Int32) + ((p0 &&& (2147483647 : Int32)) % (100 : Int32)))), .val (.int ((500 : Int32) + (p1 &&& (1073741823 : Int32)))), .val (.ref it), .unset, .unset, .unset, .unset, .unset]) rfl ?_
    by_cases hp1 : p1 < (500 : Int32)
    · refine g_iloadN C X46 d0_27 rfl ?_
      refine g_staticP (argsL := [(.int p1)]) (st := []) C X46 (wd hw 2 rfl) (wd hw 3 rfl) (wd hw 4 rfl) (wd hw 5 rfl) (by decide) (pay_of (W' := 0) (rm1a l hw X46.ext p1 bd hB hp1) C.hZ (wd hw 5 rfl) (wd hw 4 rfl) (by decide) (by decide)) pd_0 rfl rfl _ rfl (Nat.le_of_eq rfl) d0_28 (by decide) (by decide) (fun T47 X47 => ?_)
      show Goes p e below _ T47 (mkF m 31 #[.val (.int p0), .val (.int p1), .val (.int ((400 : Int32) + ((p0 &&& (2147483647 : Int32)) % (100 : Int32)))), .val (.int ((500 : Int32) + (p1 &&& (1073741823 : Int32)))), .val (.ref it), .unset, .unset, .unset, .unset, .unset] [(.ref bd)])
      refine g_astore C X47 d0_31 rfl (l' := #[.val (.int p0), .val (.int p1), .val (.int ((400 : Int32) + ((p0 &&& (2147483647 : Int32)) % (100 : Int32)))), .val (.int ((500 : Int32) + (p1 &&& (1073741823 : Int32)))), .val (.ref it), .val (.ref bd), .unset, .unset, .unset, .unset]) rfl ?_
      refine g_iloadN C X47 d0_33 rfl ?_
      refine g_staticP (argsL := [(.int ((400 : Int32) + ((p0 &&& (2147483647 : Int32)) % (100 : Int32))))]) (st := []) C X47 (wd hw 2 rfl) (wd hw 3 rfl) (wd hw 4 rfl) (wd hw 5 rfl) (by decide) (pay_of (W' := 0) (rm1a l hw X47.ext ((400 : Int32) + ((p0 &&& (2147483647 : Int32)) % (100 : Int32))) bd hB hc) C.hZ (wd hw 5 rfl) (wd hw 4 rfl) (by decide) (by decide)) pd_0 rfl rfl _ rfl (Nat.le_of_eq rfl) d0_34 (by decide) (by decide) (fun T48 X48 => ?_)
      show Goes p e below _ T48 (mkF m 37 #[.val (.int p0), .val (.int p1), .val (.int ((400 : Int32) + ((p0 &&& (2147483647 : Int32)) % (100 : Int32)))), .val (.int ((500 : Int32) + (p1 &&& (1073741823 : Int32)))), .val (.ref it), .val (.ref bd), .unset, .unset, .unset, .unset] [(.ref bd)])
      refine g_astore C X48 d0_37 rfl (l' := #[.val (.int p0), .val (.int p1), .val (.int ((400 : Int32) + ((p0 &&& (2147483647 : Int32)) % (100 : Int32)))), .val (.int ((500 : Int32) + (p1 &&& (1073741823 : Int32)))), .val (.ref it), .val (.ref bd), .val (.ref bd), .unset, .unset, .unset]) rfl ?_
      refine g_iloadN C X48 d0_39 rfl ?_
      refine g_staticP (argsL := [(.int ((500 : Int32) + (p1 &&& (1073741823 : Int32))))]) (st := []) C X48 (wd hw 2 rfl) (wd hw 3 rfl) (wd hw 4 rfl) (wd hw 5 rfl) (by decide) (pay_of (W' := 0) (rm1b l hw X48.ext ((500 : Int32) + (p1 &&& (1073741823 : Int32))) it hI hd) C.hZ (wd hw 5 rfl) (wd hw 4 rfl) (by decide) (by decide)) pd_0 rfl rfl _ rfl (Nat.le_of_eq rfl) d0_40 (by decide) (by decide) (fun T49 X49 => ?_)
      show Goes p e below _ T49 (mkF m 43 #[.val (.int p0), .val (.int p1), .val (.int ((400 : Int32) + ((p0 &&& (2147483647 : Int32)) % (100 : Int32)))), .val (.int ((500 : Int32) + (p1 &&& (1073741823 : Int32)))), .val (.ref it), .val (.ref bd), .val (.ref bd), .unset, .unset, .unset] [(.ref it)])
      refine g_astore C X49 d0_43 rfl (l' := #[.val (.int p0), .val (.int p1), .val (.int ((400 : Int32) + ((p0 &&& (2147483647 : Int32)) % (100 : Int32)))), .val (.int ((500 : Int32) + (p1 &&& (1073741823 : Int32)))), .val (.ref it), .val (.ref bd), .val (.ref bd), .val (.ref it), .unset, .unset]) rfl ?_
      refine g_aload C X49 d0_45 rfl rfl ?_
      refine g_staticP (argsL := [(.ref it)]) (st := []) C X49 (wd hw 10 rfl) (wd hw 11 rfl) (wd hw 12 rfl) (wd hw 13 rfl) (by decide) (pay_of (W' := 0) (rm2b l hw X49.ext it bd hB hI hne) C.hZ (wd hw 13 rfl) (wd hw 12 rfl) (by decide) (by decide)) pd_1 rfl rfl _ rfl (Nat.le_of_eq rfl) d0_47 (by decide) (by decide) (fun T50 X50 => ?_)
      show Goes p e below _ T50 (mkF m 50 #[.val (.int p0), .val (.int p1), .val (.int ((400 : Int32) + ((p0 &&& (2147483647 : Int32)) % (100 : Int32)))), .val (.int ((500 : Int32) + (p1 &&& (1073741823 : Int32)))), .val (.ref it), .val (.ref bd), .val (.ref bd), .val (.ref it), .unset, .unset] [(.int (1 : Int32))])
      refine g_if (h0_eq _) C X50 d0_50 (fun q => absurd q (by decide)) (fun _ => ?_)
      refine g_aload C X50 d0_53 rfl rfl ?_
      refine g_staticP (argsL := [(.ref bd)]) (st := []) C X50 (wd hw 10 rfl) (wd hw 11 rfl) (wd hw 12 rfl) (wd hw 13 rfl) (by decide) (pay_of (W' := 0) (rm2a l hw X50.ext bd hB) C.hZ (wd hw 13 rfl) (wd hw 12 rfl) (by decide) (by decide)) pd_1 rfl rfl _ rfl (Nat.le_of_eq rfl) d0_55 (by decide) (by decide) (fun T51 X51 => ?_)
      show Goes p e below _ T51 (mkF m 58 #[.val (.int p0), .val (.int p1), .val (.int ((400 : Int32) + ((p0 &&& (2147483647 : Int32)) % (100 : Int32)))), .val (.int ((500 : Int32) + (p1 &&& (1073741823 : Int32)))), .val (.ref it), .val (.ref bd), .val (.ref bd), .val (.ref it), .unset, .unset] [(.int (1 : Int32))])
      refine g_ifn (h0_ne _) C X51 d0_58 (fun _ => ?_) (fun q => absurd q (by decide))
      refine g_aload C X51 d0_63 rfl rfl ?_
      refine g_getstatic (host := "") C X51 (Or.inl (wd hw 14 rfl)) Via.refl hB d0_65 (fun T52 X52 => ?_)
      refine g_acmpeq C X52 d0_68 rfl rfl (fun _ => ?_) (fun q => absurd rfl q)
      refine g_aload C X52 d0_73 rfl rfl ?_
      refine g_getstatic (host := "") C X52 (Or.inl (wd hw 15 rfl)) Via.refl hI d0_75 (fun T53 X53 => ?_)
      refine g_acmpeq C X53 d0_78 rfl rfl (fun _ => ?_) (fun q => absurd rfl q)
      refine g_iloadN C X53 d0_83 rfl ?_
      refine g_sipush (400 : Int32) C X53 d0_84 rfl ?_
      refine g_icmp (hI_lt _ _) C X53 d0_87 (fun q => absurd q (by simp only [Int32.lt_iff_toInt_lt, Int32.reduceToInt] at *; omega)) (fun _ => ?_)
      refine g_iloadN C X53 d0_90 rfl ?_
      refine g_sipush (499 : Int32) C X53 d0_91 rfl ?_
      refine g_icmp (hI_gt _ _) C X53 d0_94 (fun _ => ?_) (fun q => absurd (by simp only [Int32.lt_iff_toInt_lt, Int32.reduceToInt] at *; omega) q)
      refine g_iloadN C X53 d0_107 rfl ?_
      refine g_sipush (500 : Int32) C X53 d0_108 rfl ?_
      refine g_icmp (hI_lt _ _) C X53 d0_111 (fun q => absurd q hp0) (fun _ => ?_)
      refine g_aload C X53 d0_114 rfl rfl ?_
      refine g_getstatic (host := "") C X53 (Or.inl (wd hw 15 rfl)) Via.refl hI d0_116 (fun T54 X54 => ?_)
      refine g_acmpeq C X54 d0_119 rfl rfl (fun _ => ?_) (fun q => absurd rfl q)
      refine g_iloadN C X54 d0_124 rfl ?_
      refine g_iloadN C X54 d0_125 rfl ?_
      refine g_icmp (hI_gt _ _) C X54 d0_126 (fun _ => ?_) (fun q => absurd (by simp only [Int32.lt_iff_toInt_lt, Int32.reduceToInt] at *; omega) q)
      refine g_aload C X54 d0_134 rfl rfl ?_
      refine g_astore C X54 d0_136 rfl (l' := #[.val (.int p0), .val (.int p1), .val (.int ((400 : Int32) + ((p0 &&& (2147483647 : Int32)) % (100 : Int32)))), .val (.int ((500 : Int32) + (p1 &&& (1073741823 : Int32)))), .val (.ref it), .val (.ref bd), .val (.ref bd), .val (.ref it), .val (.ref bd), .unset]) rfl ?_
      refine g_iloadN C X54 d0_138 rfl ?_
      refine g_iloadN C X54 d0_139 rfl ?_
      refine g_icmp (hI_gt _ _) C X54 d0_140 (fun c140_55 => ?_) (fun c140_55 => ?_)
      · refine g_aload C X54 d0_148 rfl rfl ?_
        refine g_astore C X54 d0_150 rfl (l' := #[.val (.int p0), .val (.int p1), .val (.int ((400 : Int32) + ((p0 &&& (2147483647 : Int32)) % (100 : Int32)))), .val (.int ((500 : Int32) + (p1 &&& (1073741823 : Int32)))), .val (.ref it), .val (.ref bd), .val (.ref bd), .val (.ref it), .val (.ref bd), .val (.ref it)]) rfl ?_
        refine g_aload C X54 d0_152 rfl rfl ?_
        refine g_virtualP (argsL := []) (st := []) C X54 (wd hw 16 rfl) (wd hw 17 rfl) (nf_of C (wd hw 19 rfl) rfl rfl) (wd hw 19 rfl) (wd hw 18 rfl) (by decide) (Exa.ext X54.ext EB) (pay_of (W' := 0) (rm3 l hw X54.ext bd (400 : Int32) (Fld.ext X54.ext FB)) C.hZ (wd hw 20 rfl) (wd hw 4 rfl) (by decide) (by decide)) pd_2 rfl rfl _ rfl (Nat.le_of_eq rfl) d0_154 (by decide) (by decide) (fun T56 X56 => ?_)
        show Goes p e below _ T56 (mkF m 157 #[.val (.int p0), .val (.int p1), .val (.int ((400 : Int32) + ((p0 &&& (2147483647 : Int32)) % (100 : Int32)))), .val (.int ((500 : Int32) + (p1 &&& (1073741823 : Int32)))), .val (.ref it), .val (.ref bd), .val (.ref bd), .val (.ref it), .val (.ref bd), .val (.ref it)] [(.int (400 : Int32))])
        refine g_aload C X56 d0_157 rfl rfl ?_
        refine g_virtualP (argsL := []) (st := [(.int (400 : Int32))]) C X56 (wd hw 16 rfl) (wd hw 17 rfl) (nf_of C (wd hw 19 rfl) rfl rfl) (wd hw 19 rfl) (wd hw 18 rfl) (by decide) (Exa.ext X56.ext EI) (pay_of (W' := 1) (rm3 l hw X56.ext it (500 : Int32) (Fld.ext X56.ext FI)) C.hZ (wd hw 20 rfl) (wd hw 4 rfl) (by decide) (by decide)) pd_2 rfl rfl _ rfl (Nat.le_of_eq rfl) d0_159 (by decide) (by decide) (fun T57 X57 => ?_)
        show Goes p e below _ T57 (mkF m 162 #[.val (.int p0), .val (.int p1), .val (.int ((400 : Int32) + ((p0 &&& (2147483647 : Int32)) % (100 : Int32)))), .val (.int ((500 : Int32) + (p1 &&& (1073741823 : Int32)))), .val (.ref it), .val (.ref bd), .val (.ref bd), .val (.ref it), .val (.ref bd), .val (.ref it)] [(.int (500 : Int32)), (.int (400 : Int32))])
        refine g_icmpn (hI_le _ _) C X57 d0_162 (fun _ => ?_) (fun q => absurd q (by decide))
        refine g_iconst (1 : Int32) C X57 d0_167 rfl ?_
        exact g_retN C X57 (by simp) d0_168 (1 : Int32) rfl (by decide) (by decide) rfl
      · refine g_aload C X54 d0_143 rfl rfl ?_
        refine g_goto C X54 d0_145 ?_
        refine g_astore C X54 d0_150 rfl (l' := #[.val (.int p0), .val (.int p1), .val (.int ((400 : Int32) + ((p0 &&& (2147483647 : Int32)) % (100 : Int32)))), .val (.int ((500 : Int32) + (p1 &&& (1073741823 : Int32)))), .val (.ref it), .val (.ref bd), .val (.ref bd), .val (.ref it), .val (.ref bd), .val (.ref bd)]) rfl ?_
        refine g_aload C X54 d0_152 rfl rfl ?_
        refine g_virtualP (argsL := []) (st := []) C X54 (wd hw 16 rfl) (wd hw 17 rfl) (nf_of C (wd hw 19 rfl) rfl rfl) (wd hw 19 rfl) (wd hw 18 rfl) (by decide) (Exa.ext X54.ext EB) (pay_of (W' := 0) (rm3 l hw X54.ext bd (400 : Int32) (Fld.ext X54.ext FB)) C.hZ (wd hw 20 rfl) (wd hw 4 rfl) (by decide) (by decide)) pd_2 rfl rfl _ rfl (Nat.le_of_eq rfl) d0_154 (by decide) (by decide) (fun T58 X58 => ?_)
        show Goes p e below _ T58 (mkF m 157 #[.val (.int p0), .val (.int p1), .val (.int ((400 : Int32) + ((p0 &&& (2147483647 : Int32)) % (100 : Int32)))), .val (.int ((500 : Int32) + (p1 &&& (1073741823 : Int32)))), .val (.ref it), .val (.ref bd), .val (.ref bd), .val (.ref it), .val (.ref bd), .val (.ref bd)] [(.int (400 : Int32))])
        refine g_aload C X58 d0_157 rfl rfl ?_
        refine g_virtualP (argsL := []) (st := [(.int (400 : Int32))]) C X58 (wd hw 16 rfl) (wd hw 17 rfl) (nf_of C (wd hw 19 rfl) rfl rfl) (wd hw 19 rfl) (wd hw 18 rfl) (by decide) (Exa.ext X58.ext EB) (pay_of (W' := 1) (rm3 l hw X58.ext bd (400 : Int32) (Fld.ext X58.ext FB)) C.hZ (wd hw 20 rfl) (wd hw 4 rfl) (by decide) (by decide)) pd_2 rfl rfl _ rfl (Nat.le_of_eq rfl) d0_159 (by decide) (by decide) (fun T59 X59 => ?_)
        show Goes p e below _ T59 (mkF m 162 #[.val (.int p0), .val (.int p1), .val (.int ((400 : Int32) + ((p0 &&& (2147483647 : Int32)) % (100 : Int32)))), .val (.int ((500 : Int32) + (p1 &&& (1073741823 : Int32)))), .val (.ref it), .val (.ref bd), .val (.ref bd), .val (.ref it), .val (.ref bd), .val (.ref bd)] [(.int (400 : Int32)), (.int (400 : Int32))])
        refine g_icmpn (hI_le _ _) C X59 d0_162 (fun _ => ?_) (fun q => absurd q (by decide))
        refine g_iconst (1 : Int32) C X59 d0_167 rfl ?_
        exact g_retN C X59 (by simp) d0_168 (1 : Int32) rfl (by decide) (by decide) rfl
    · refine g_iloadN C X46 d0_27 rfl ?_
      refine g_staticP (argsL := [(.int p1)]) (st := []) C X46 (wd hw 2 rfl) (wd hw 3 rfl) (wd hw 4 rfl) (wd hw 5 rfl) (by decide) (pay_of (W' := 0) (rm1b l hw X46.ext p1 it hI hp1) C.hZ (wd hw 5 rfl) (wd hw 4 rfl) (by decide) (by decide)) pd_0 rfl rfl _ rfl (Nat.le_of_eq rfl) d0_28 (by decide) (by decide) (fun T60 X60 => ?_)
      show Goes p e below _ T60 (mkF m 31 #[.val (.int p0), .val (.int p1), .val (.int ((400 : Int32) + ((p0 &&& (2147483647 : Int32)) % (100 : Int32)))), .val (.int ((500 : Int32) + (p1 &&& (1073741823 : Int32)))), .val (.ref it), .unset, .unset, .unset, .unset, .unset] [(.ref it)])
      refine g_astore C X60 d0_31 rfl (l' := #[.val (.int p0), .val (.int p1), .val (.int ((400 : Int32) + ((p0 &&& (2147483647 : Int32)) % (100 : Int32)))), .val (.int ((500 : Int32) + (p1 &&& (1073741823 : Int32)))), .val (.ref it), .val (.ref it), .unset, .unset, .unset, .unset]) rfl ?_
      refine g_iloadN C X60 d0_33 rfl ?_
      refine g_staticP (argsL := [(.int ((400 : Int32) + ((p0 &&& (2147483647 : Int32)) % (100 : Int32))))]) (st := []) C X60 (wd hw 2 rfl) (wd hw 3 rfl) (wd hw 4 rfl) (wd hw 5 rfl) (by decide) (pay_of (W' := 0) (rm1a l hw X60.ext ((400 : Int32) + ((p0 &&& (2147483647 : Int32)) % (100 : Int32))) bd hB hc) C.hZ (wd hw 5 rfl) (wd hw 4 rfl) (by decide) (by decide)) pd_0 rfl rfl _ rfl (Nat.le_of_eq rfl) d0_34 (by decide) (by decide) (fun T61 X61 => ?_)
      show Goes p e below _ T61 (mkF m 37 #[.val (.int p0), .val (.int p1), .val (.int ((400 : Int32) + ((p0 &&& (2147483647 : Int32)) % (100 : Int32)))), .val (.int ((500 : Int32) + (p1 &&& (1073741823 : Int32)))), .val (.ref it), .val (.ref it), .unset, .unset, .unset, .unset] [(.ref bd)])
      refine g_astore C X61 d0_37 rfl (l' := #[.val (.int p0), .val (.int p1), .val (.int ((400 : Int32) + ((p0 &&& (2147483647 : Int32)) % (100 : Int32)))), .val (.int ((500 : Int32) + (p1 &&& (1073741823 : Int32)))), .val (.ref it), .val (.ref it), .val (.ref bd), .unset, .unset, .unset]) rfl ?_
      refine g_iloadN C X61 d0_39 rfl ?_
      refine g_staticP (argsL := [(.int ((500 : Int32) + (p1 &&& (1073741823 : Int32))))]) (st := []) C X61 (wd hw 2 rfl) (wd hw 3 rfl) (wd hw 4 rfl) (wd hw 5 rfl) (by decide) (pay_of (W' := 0) (rm1b l hw X61.ext ((500 : Int32) + (p1 &&& (1073741823 : Int32))) it hI hd) C.hZ (wd hw 5 rfl) (wd hw 4 rfl) (by decide) (by decide)) pd_0 rfl rfl _ rfl (Nat.le_of_eq rfl) d0_40 (by decide) (by decide) (fun T62 X62 => ?_)
      show Goes p e below _ T62 (mkF m 43 #[.val (.int p0), .val (.int p1), .val (.int ((400 : Int32) + ((p0 &&& (2147483647 : Int32)) % (100 : Int32)))), .val (.int ((500 : Int32) + (p1 &&& (1073741823 : Int32)))), .val (.ref it), .val (.ref it), .val (.ref bd), .unset, .unset, .unset] [(.ref it)])
      refine g_astore C X62 d0_43 rfl (l' := #[.val (.int p0), .val (.int p1), .val (.int ((400 : Int32) + ((p0 &&& (2147483647 : Int32)) % (100 : Int32)))), .val (.int ((500 : Int32) + (p1 &&& (1073741823 : Int32)))), .val (.ref it), .val (.ref it), .val (.ref bd), .val (.ref it), .unset, .unset]) rfl ?_
      refine g_aload C X62 d0_45 rfl rfl ?_
      refine g_staticP (argsL := [(.ref it)]) (st := []) C X62 (wd hw 10 rfl) (wd hw 11 rfl) (wd hw 12 rfl) (wd hw 13 rfl) (by decide) (pay_of (W' := 0) (rm2b l hw X62.ext it bd hB hI hne) C.hZ (wd hw 13 rfl) (wd hw 12 rfl) (by decide) (by decide)) pd_1 rfl rfl _ rfl (Nat.le_of_eq rfl) d0_47 (by decide) (by decide) (fun T63 X63 => ?_)
      show Goes p e below _ T63 (mkF m 50 #[.val (.int p0), .val (.int p1), .val (.int ((400 : Int32) + ((p0 &&& (2147483647 : Int32)) % (100 : Int32)))), .val (.int ((500 : Int32) + (p1 &&& (1073741823 : Int32)))), .val (.ref it), .val (.ref it), .val (.ref bd), .val (.ref it), .unset, .unset] [(.int (1 : Int32))])
      refine g_if (h0_eq _) C X63 d0_50 (fun q => absurd q (by decide)) (fun _ => ?_)
      refine g_aload C X63 d0_53 rfl rfl ?_
      refine g_staticP (argsL := [(.ref it)]) (st := []) C X63 (wd hw 10 rfl) (wd hw 11 rfl) (wd hw 12 rfl) (wd hw 13 rfl) (by decide) (pay_of (W' := 0) (rm2b l hw X63.ext it bd hB hI hne) C.hZ (wd hw 13 rfl) (wd hw 12 rfl) (by decide) (by decide)) pd_1 rfl rfl _ rfl (Nat.le_of_eq rfl) d0_55 (by decide) (by decide) (fun T64 X64 => ?_)
      show Goes p e below _ T64 (mkF m 58 #[.val (.int p0), .val (.int p1), .val (.int ((400 : Int32) + ((p0 &&& (2147483647 : Int32)) % (100 : Int32)))), .val (.int ((500 : Int32) + (p1 &&& (1073741823 : Int32)))), .val (.ref it), .val (.ref it), .val (.ref bd), .val (.ref it), .unset, .unset] [(.int (1 : Int32))])
      refine g_ifn (h0_ne _) C X64 d0_58 (fun _ => ?_) (fun q => absurd q (by decide))
      refine g_aload C X64 d0_63 rfl rfl ?_
      refine g_getstatic (host := "") C X64 (Or.inl (wd hw 14 rfl)) Via.refl hB d0_65 (fun T65 X65 => ?_)
      refine g_acmpeq C X65 d0_68 rfl rfl (fun _ => ?_) (fun q => absurd rfl q)
      refine g_aload C X65 d0_73 rfl rfl ?_
      refine g_getstatic (host := "") C X65 (Or.inl (wd hw 15 rfl)) Via.refl hI d0_75 (fun T66 X66 => ?_)
      refine g_acmpeq C X66 d0_78 rfl rfl (fun _ => ?_) (fun q => absurd rfl q)
      refine g_iloadN C X66 d0_83 rfl ?_
      refine g_sipush (400 : Int32) C X66 d0_84 rfl ?_
      refine g_icmp (hI_lt _ _) C X66 d0_87 (fun q => absurd q (by simp only [Int32.lt_iff_toInt_lt, Int32.reduceToInt] at *; omega)) (fun _ => ?_)
      refine g_iloadN C X66 d0_90 rfl ?_
      refine g_sipush (499 : Int32) C X66 d0_91 rfl ?_
      refine g_icmp (hI_gt _ _) C X66 d0_94 (fun _ => ?_) (fun q => absurd (by simp only [Int32.lt_iff_toInt_lt, Int32.reduceToInt] at *; omega) q)
      refine g_iloadN C X66 d0_107 rfl ?_
      refine g_sipush (500 : Int32) C X66 d0_108 rfl ?_
      refine g_icmp (hI_lt _ _) C X66 d0_111 (fun q => absurd q hp0) (fun _ => ?_)
      refine g_aload C X66 d0_114 rfl rfl ?_
      refine g_getstatic (host := "") C X66 (Or.inl (wd hw 15 rfl)) Via.refl hI d0_116 (fun T67 X67 => ?_)
      refine g_acmpeq C X67 d0_119 rfl rfl (fun _ => ?_) (fun q => absurd rfl q)
      refine g_iloadN C X67 d0_124 rfl ?_
      refine g_iloadN C X67 d0_125 rfl ?_
      refine g_icmp (hI_gt _ _) C X67 d0_126 (fun c126_68 => ?_) (fun c126_68 => ?_)
      · refine g_aload C X67 d0_134 rfl rfl ?_
        refine g_astore C X67 d0_136 rfl (l' := #[.val (.int p0), .val (.int p1), .val (.int ((400 : Int32) + ((p0 &&& (2147483647 : Int32)) % (100 : Int32)))), .val (.int ((500 : Int32) + (p1 &&& (1073741823 : Int32)))), .val (.ref it), .val (.ref it), .val (.ref bd), .val (.ref it), .val (.ref it), .unset]) rfl ?_
        refine g_iloadN C X67 d0_138 rfl ?_
        refine g_iloadN C X67 d0_139 rfl ?_
        refine g_icmp (hI_gt _ _) C X67 d0_140 (fun _ => ?_) (fun q => absurd c126_68 q)
        refine g_aload C X67 d0_148 rfl rfl ?_
        refine g_astore C X67 d0_150 rfl (l' := #[.val (.int p0), .val (.int p1), .val (.int ((400 : Int32) + ((p0 &&& (2147483647 : Int32)) % (100 : Int32)))), .val (.int ((500 : Int32) + (p1 &&& (1073741823 : Int32)))), .val (.ref it), .val (.ref it), .val (.ref bd), .val (.ref it), .val (.ref it), .val (.ref it)]) rfl ?_
        refine g_aload C X67 d0_152 rfl rfl ?_
        refine g_virtualP (argsL := []) (st := []) C X67 (wd hw 16 rfl) (wd hw 17 rfl) (nf_of C (wd hw 19 rfl) rfl rfl) (wd hw 19 rfl) (wd hw 18 rfl) (by decide) (Exa.ext X67.ext EI) (pay_of (W' := 0) (rm3 l hw X67.ext it (500 : Int32) (Fld.ext X67.ext FI)) C.hZ (wd hw 20 rfl) (wd hw 4 rfl) (by decide) (by decide)) pd_2 rfl rfl _ rfl (Nat.le_of_eq rfl) d0_154 (by decide) (by decide) (fun T69 X69 => ?_)
        show Goes p e below _ T69 (mkF m 157 #[.val (.int p0), .val (.int p1), .val (.int ((400 : Int32) + ((p0 &&& (2147483647 : Int32)) % (100 : Int32)))), .val (.int ((500 : Int32) + (p1 &&& (1073741823 : Int32)))), .val (.ref it), .val (.ref it), .val (.ref bd), .val (.ref it), .val (.ref it), .val (.ref it)] [(.int (500 : Int32))])
        refine g_aload C X69 d0_157 rfl rfl ?_
        refine g_virtualP (argsL := []) (st := [(.int (500 : Int32))]) C X69 (wd hw 16 rfl) (wd hw 17 rfl) (nf_of C (wd hw 19 rfl) rfl rfl) (wd hw 19 rfl) (wd hw 18 rfl) (by decide) (Exa.ext X69.ext EI) (pay_of (W' := 1) (rm3 l hw X69.ext it (500 : Int32) (Fld.ext X69.ext FI)) C.hZ (wd hw 20 rfl) (wd hw 4 rfl) (by decide) (by decide)) pd_2 rfl rfl _ rfl (Nat.le_of_eq rfl) d0_159 (by decide) (by decide) (fun T70 X70 => ?_)
        show Goes p e below _ T70 (mkF m 162 #[.val (.int p0), .val (.int p1), .val (.int ((400 : Int32) + ((p0 &&& (2147483647 : Int32)) % (100 : Int32)))), .val (.int ((500 : Int32) + (p1 &&& (1073741823 : Int32)))), .val (.ref it), .val (.ref it), .val (.ref bd), .val (.ref it), .val (.ref it), .val (.ref it)] [(.int (500 : Int32)), (.int (500 : Int32))])
        refine g_icmpn (hI_le _ _) C X70 d0_162 (fun _ => ?_) (fun q => absurd q (by decide))
        refine g_iconst (1 : Int32) C X70 d0_167 rfl ?_
        exact g_retN C X70 (by simp) d0_168 (1 : Int32) rfl (by decide) (by decide) rfl
      · refine g_aload C X67 d0_129 rfl rfl ?_
        refine g_goto C X67 d0_131 ?_
        refine g_astore C X67 d0_136 rfl (l' := #[.val (.int p0), .val (.int p1), .val (.int ((400 : Int32) + ((p0 &&& (2147483647 : Int32)) % (100 : Int32)))), .val (.int ((500 : Int32) + (p1 &&& (1073741823 : Int32)))), .val (.ref it), .val (.ref it), .val (.ref bd), .val (.ref it), .val (.ref it), .unset]) rfl ?_
        refine g_iloadN C X67 d0_138 rfl ?_
        refine g_iloadN C X67 d0_139 rfl ?_
        refine g_icmp (hI_gt _ _) C X67 d0_140 (fun q => absurd q c126_68) (fun _ => ?_)
        refine g_aload C X67 d0_143 rfl rfl ?_
        refine g_goto C X67 d0_145 ?_
        refine g_astore C X67 d0_150 rfl (l' := #[.val (.int p0), .val (.int p1), .val (.int ((400 : Int32) + ((p0 &&& (2147483647 : Int32)) % (100 : Int32)))), .val (.int ((500 : Int32) + (p1 &&& (1073741823 : Int32)))), .val (.ref it), .val (.ref it), .val (.ref bd), .val (.ref it), .val (.ref it), .val (.ref it)]) rfl ?_
        refine g_aload C X67 d0_152 rfl rfl ?_
        refine g_virtualP (argsL := []) (st := []) C X67 (wd hw 16 rfl) (wd hw 17 rfl) (nf_of C (wd hw 19 rfl) rfl rfl) (wd hw 19 rfl) (wd hw 18 rfl) (by decide) (Exa.ext X67.ext EI) (pay_of (W' := 0) (rm3 l hw X67.ext it (500 : Int32) (Fld.ext X67.ext FI)) C.hZ (wd hw 20 rfl) (wd hw 4 rfl) (by decide) (by decide)) pd_2 rfl rfl _ rfl (Nat.le_of_eq rfl) d0_154 (by decide) (by decide) (fun T71 X71 => ?_)
        show Goes p e below _ T71 (mkF m 157 #[.val (.int p0), .val (.int p1), .val (.int ((400 : Int32) + ((p0 &&& (2147483647 : Int32)) % (100 : Int32)))), .val (.int ((500 : Int32) + (p1 &&& (1073741823 : Int32)))), .val (.ref it), .val (.ref it), .val (.ref bd), .val (.ref it), .val (.ref it), .val (.ref it)] [(.int (500 : Int32))])
        refine g_aload C X71 d0_157 rfl rfl ?_
        refine g_virtualP (argsL := []) (st := [(.int (500 : Int32))]) C X71 (wd hw 16 rfl) (wd hw 17 rfl) (nf_of C (wd hw 19 rfl) rfl rfl) (wd hw 19 rfl) (wd hw 18 rfl) (by decide) (Exa.ext X71.ext EI) (pay_of (W' := 1) (rm3 l hw X71.ext it (500 : Int32) (Fld.ext X71.ext FI)) C.hZ (wd hw 20 rfl) (wd hw 4 rfl) (by decide) (by decide)) pd_2 rfl rfl _ rfl (Nat.le_of_eq rfl) d0_159 (by decide) (by decide) (fun T72 X72 => ?_)
        show Goes p e below _ T72 (mkF m 162 #[.val (.int p0), .val (.int p1), .val (.int ((400 : Int32) + ((p0 &&& (2147483647 : Int32)) % (100 : Int32)))), .val (.int ((500 : Int32) + (p1 &&& (1073741823 : Int32)))), .val (.ref it), .val (.ref it), .val (.ref bd), .val (.ref it), .val (.ref it), .val (.ref it)] [(.int (500 : Int32)), (.int (500 : Int32))])
        refine g_icmpn (hI_le _ _) C X72 d0_162 (fun _ => ?_) (fun q => absurd q (by decide))
        refine g_iconst (1 : Int32) C X72 d0_167 rfl ?_
        exact g_retN C X72 (by simp) d0_168 (1 : Int32) rfl (by decide) (by decide) rfl
theorem own_hc (a : Int32) : (400 : Int32) + (a &&& (2147483647 : Int32)) % (100 : Int32) < (500 : Int32) := by
  have h1 := c_mask a 2147483647 31 (by decide) (by decide)
  have h2 := (c_irem (a &&& 2147483647) 100 100 (by decide)).1 (by omega)
  have h3 := c_iadd 400 ((a &&& 2147483647) % 100)
  have h4 := rng32 ((400 : Int32) + (a &&& 2147483647) % 100)
  simp only [Int32.lt_iff_toInt_lt, Int32.reduceToInt] at *
  omega
theorem own_hd (b : Int32) : ¬ (500 : Int32) + (b &&& (1073741823 : Int32)) < (500 : Int32) := by
  have h1 := c_mask b 1073741823 30 (by decide) (by decide)
  have h3 := c_iadd 500 (b &&& 1073741823)
  have h4 := rng32 ((500 : Int32) + (b &&& 1073741823))
  simp only [Int32.lt_iff_toInt_lt, Int32.reduceToInt] at *
  omega
set_option maxRecDepth 65536 in
set_option maxHeartbeats 40000000 in
theorem comes_1 {Post : Tables → Env → Array Value → State → Outcome → State → Prop} (hpost : ∀ tb e args s v u, (limb_1_1.after args s (.returned v) u = true ∧ limb_1_2.after args s (.returned v) u = true ∧ True) → FrameEnd s (.returned v) u (Jvm.fieldLocs frame_1_writes args s ++ Jvm.arrayLocs frame_1_arrays args s ++ Jvm.staticLocs frame_1_statics s) 0 0 → Post tb e args s (.returned v) u) :
    ArmFor flags0 classFile x code maxLocals ret World_1 tables_1 room_1 Calls_1 rest_1 Pre_1 Post := by
  intro l hfl _ _ p e ha hc hk s m args below hf hA hF happ hP
  obtain ⟨hcalls, hrest, hpre⟩ := hP
  obtain ⟨-, -, -, hnamed, -, -, -, hat⟩ := (Spec.applies_iff hf).mp happ
  obtain ⟨hg, hn⟩ := and_e (Cond.before_iff.mp (show (Jvm.Cond.and given_1 narrow_1).before args s = true from hpre))
  obtain ⟨hcount, hg⟩ := and_e hg
  obtain ⟨ha0, hg⟩ := and_e hg
  have ha1 := hg
  obtain ⟨w0, w1, rfl⟩ : ∃ w0 w1 : Value, args = #[w0, w1] := by
    have hs : args.size = 2 := by simpa [Cond.value, given_1] using hcount
    obtain ⟨L⟩ := args
    match L, hs with
    | [w0, w1], _ => exact ⟨w0, w1, rfl⟩
  have hw := fun d (hd : d ∈ tables_1) => atoms_spec (ws := Jvm.Cond.code x code maxLocals ret :: tables_1) hat d (List.mem_cons_of_mem _ hd)
  have hfit : Fit s := fun {y c} hc i hi => by
    obtain ⟨ha, rfl⟩ := Array.getElem?_eq_some_iff.mp hc
    have q := List.all_eq_true.mp ((Array.all_eq_true_iff_forall_mem.mp hF) _ (Array.getElem_mem ha)) i (List.mem_range.mpr hi)
    simpa [Array.getElem?_eq_getElem hi] using q
  obtain ⟨i0, ei0⟩ := is_v ha0
  obtain rfl : w0 = (.int i0) := Option.some.inj ei0
  obtain ⟨i1, ei1⟩ := is_v ha1
  obtain rfl : w1 = (.int i1) := Option.some.inj ei1
  obtain ⟨xB, hn⟩ := and_e hn
  obtain ⟨xI, hn⟩ := and_e hn
  obtain ⟨fB, hn⟩ := and_e hn
  obtain ⟨oI, hn⟩ := and_e hn
  obtain ⟨oB, fI⟩ := and_e hn
  obtain ⟨aB, vB⟩ := exa_v xB
  have SB := Sta.start vB (Or.inr ⟨(wd hw 4 rfl), (wd hw 7 rfl)⟩)
  have EB := Exa.start vB xB
  have FB := fld_of vB (eqI_v fB)
  have OB := fld_of vB (eqI_v oB)
  obtain ⟨aI, vI⟩ := exa_v xI
  have SI := Sta.start vI (Or.inr ⟨(wd hw 4 rfl), (wd hw 9 rfl)⟩)
  have EI := Exa.start vI xI
  have FI := fld_of vI (eqI_v fI)
  have OI := fld_of vI (eqI_v oI)
  obtain ⟨n, o, h1, h2, h3, _, L, rfl, ⟨N, _, rfl⟩, hq⟩ := rm0 l (Z := s) hw ⟨Nat.le_refl _, fun _ _ q => q⟩ i0 i1 aB aI SB SI EB EI FB FI (Fld.ne OB OI (by decide)) (own_hc _) (own_hd _) p e ha hc hk s m _ below hf ((Spec.applies_iff_loose hf).mp happ).1 ⟨rfl, State.Warmed39.refl s, rfl⟩ trivial
  exact ⟨n, _, h1, h2, h3, hpost _ _ _ _ _ _ ⟨Cond.after_iff.mpr rfl, Cond.after_iff.mpr (eq_i res_at (Term.int_eval (1)) rfl), trivial⟩ ⟨hq.1, hq.2.1, (hq.2.2.sift fun y hy => Or.inr (N y hy)).mono (by decide) (by decide)⟩⟩
theorem main_1_1 : Claimed_1_1 := comes_1 fun _ _ _ _ _ _ h hF => ⟨h.1, hF⟩
theorem main_1_2 : Claimed_1_2 := comes_1 fun _ _ _ _ _ _ h hF => ⟨h.2.1, hF⟩
end Jvm.Pilot.@@N@@
namespace Jvm.Pilot.@@N@@
open Jvm Jvm.ClassFile Sem Op Lib Jvm.Free Jvm.Stand Jvm.Pilot.@@N@@.Jvm.D
/-! MADE BY PROGRAM (witnessworld.py) out of the Statement's table words and the real class files: 12 classes; the members and pool entries that the words name. The judged class is class 1, her method 2. -/
namespace start1
open Jvm.ClassFile
def u (s : String) : CpInfo := .utf8 (stringToUtf16 s)
/-- a pool by its gaps: so many unusable entries, then the entry; so many at the end -/
def gap : Nat → List CpInfo → List CpInfo
  | 0, r => r
  | n + 1, r => .unusable :: gap n r
def poolList (es : List (Nat × CpInfo)) (last : Nat) : List CpInfo := es.foldr (fun e r => gap e.1 (e.2 :: r)) (gap last [])
def pool (es : List (Nat × CpInfo)) (last : Nat) : Array CpInfo := ⟨poolList es last⟩
def fileOf (pool : Array CpInfo) (this : Nat) (attrs : Array Attribute := #[]) (ms : Array MethodInfo := #[]) (fl : Nat := 33) (sup : Nat := 0) (ifs : Array Nat := #[]) (fds : Array FieldInfo := #[]) : ClassFile where
  minorVersion := 0
  majorVersion := 65
  constantPool := pool
  accessFlags := fl
  thisClass := this
  superClass := sup
  interfaces := ifs
  fields := fds
  methods := ms
  attributes := attrs
def plain (name : String) (sup : Option ClassId) : Class where
  name := name
  kind := .ordinary
  loader := none
  accessFlags := 33
  super := sup
  interfaces := #[]
  cf := none
  fields := #[]
  methods := #[]
  instanceTypes := #[]
  staticTypes := #[]
  resolved := #[]
  callSites := []
  init := .initialized
  statics := none
  mirror := none

def pool0 : Array CpInfo := pool [(5, u "<init>"), (0, u "()V"), (1, .class_ 10), (1, u "java/lang/Object")] 113

def k0m0 : Method := { name := "<init>", desc := "()V", sig := { parameters := [], returnType := none }, accessFlags := 1, code := none }
/-- java/lang/Object -/
def k0 : Class := { plain "java/lang/Object" none with
  accessFlags := 33
  interfaces := #[]
  cf := some (fileOf pool0 8 #[] #[{ accessFlags := 1, nameIndex := 5, descriptorIndex := 6, attributes := #[] }] 33 0 #[] #[])
  fields := #[]
  methods := #[k0m0]
  instanceTypes := #[]
  staticTypes := #[]
  resolved := Array.replicate 124 none
  statics := none }

def pool1 : Array CpInfo := pool [(2, .class_ 4), (1, u "java/lang/Object"), (0, u "<init>"), (0, u "()V"), (0, .fieldref 8 9), (0, .class_ 10), (0, .nameAndType 11 12), (0, u "com/example/espera/espera/ErrorCode"), (0, u "BAD_REQUEST"), (0, u "Lcom/example/espera/espera/ErrorCode;"), (0, .fieldref 8 14), (0, .nameAndType 15 12), (0, u "INTERNAL"), (0, .integer 2147483647), (0, .integer 1073741823), (0, .methodref 8 19), (0, .nameAndType 20 21), (0, u "forHttpStatus"), (0, u "(I)Lcom/example/espera/espera/ErrorCode;"), (0, .methodref 23 24), (0, .class_ 25), (0, .nameAndType 26 27), (0, u "com/example/espera/espera/ErrorCodeForHttpStatusPinLaw"), (0, u "allowed"), (0, u "(Lcom/example/espera/espera/ErrorCode;)Z"), (0, .methodref 8 29), (0, .nameAndType 30 31), (0, u "getHttpStatus"), (0, u "()I"), (3, u "law"), (0, u "(II)Z")] 2

def k1m0 : Method := { name := "<init>", desc := "()V", sig := { parameters := [], returnType := none }, accessFlags := 1, code := none }
def k1c1 : Code := { maxStack := 2, maxLocals := 1, code := method_2_code, exceptionTable := #[], attributes := #[] }
def k1m1 : Method := { name := "allowed", desc := "(Lcom/example/espera/espera/ErrorCode;)Z", sig := { parameters := [(.object "com/example/espera/espera/ErrorCode")], returnType := some .boolean }, accessFlags := 10, code := some k1c1 }
def k1c2 : Code := { maxStack := 3, maxLocals := 10, code := code, exceptionTable := #[], attributes := #[] }
def k1m2 : Method := { name := "law", desc := "(II)Z", sig := { parameters := [.int, .int], returnType := some .boolean }, accessFlags := 9, code := some k1c2 }
/-- com/example/espera/espera/ErrorCodeForHttpStatusPinLaw -/
def k1 : Class := { plain "com/example/espera/espera/ErrorCodeForHttpStatusPinLaw" (some 0) with
  accessFlags := 49
  interfaces := #[]
  cf := some (fileOf pool1 23 #[] #[{ accessFlags := 1, nameIndex := 5, descriptorIndex := 6, attributes := #[] }, { accessFlags := 10, nameIndex := 26, descriptorIndex := 27, attributes := #[] }, { accessFlags := 9, nameIndex := 35, descriptorIndex := 36, attributes := #[] }] 49 2 #[] #[])
  fields := #[]
  methods := #[k1m0, k1m1, k1m2]
  instanceTypes := #[]
  staticTypes := #[]
  resolved := Array.replicate 39 none
  statics := none }

def pool2 : Array CpInfo := pool [(1, .class_ 2), (0, u "java/lang/constant/Constable"), (0, .class_ 4), (0, u "java/lang/Object")] 6

/-- java/lang/constant/Constable -/
def k2 : Class := { plain "java/lang/constant/Constable" (some 0) with
  accessFlags := 1537
  interfaces := #[]
  cf := some (fileOf pool2 1 #[] #[] 1537 3 #[] #[])
  fields := #[]
  methods := #[]
  instanceTypes := #[]
  staticTypes := #[]
  resolved := Array.replicate 11 none
  statics := none }

def pool3 : Array CpInfo := pool [(1, .class_ 2), (0, u "java/lang/Comparable"), (0, .class_ 4), (0, u "java/lang/Object")] 7

/-- java/lang/Comparable -/
def k3 : Class := { plain "java/lang/Comparable" (some 0) with
  accessFlags := 1537
  interfaces := #[]
  cf := some (fileOf pool3 1 #[] #[] 1537 3 #[] #[])
  fields := #[]
  methods := #[]
  instanceTypes := #[]
  staticTypes := #[]
  resolved := Array.replicate 12 none
  statics := none }

def pool4 : Array CpInfo := pool [(1, .class_ 2), (0, u "java/io/Serializable"), (0, .class_ 4), (0, u "java/lang/Object")] 2

/-- java/io/Serializable -/
def k4 : Class := { plain "java/io/Serializable" (some 0) with
  accessFlags := 1537
  interfaces := #[]
  cf := some (fileOf pool4 1 #[] #[] 1537 3 #[] #[])
  fields := #[]
  methods := #[]
  instanceTypes := #[]
  staticTypes := #[]
  resolved := Array.replicate 7 none
  statics := none }

def pool5 : Array CpInfo := pool [(2, .class_ 4), (1, u "java/lang/Enum"), (0, u "name"), (0, u "Ljava/lang/String;"), (2, u "ordinal"), (0, u "I"), (1, .class_ 14), (1, u "java/lang/Object"), (4, u "hash"), (86, .class_ 108), (1, u "java/lang/Enum$EnumDesc"), (2, .class_ 112), (0, u "java/lang/constant/Constable"), (0, .class_ 114), (0, u "java/lang/Comparable"), (0, .class_ 116), (0, u "java/io/Serializable")] 87

/-- java/lang/Enum -/
def k5 : Class := { plain "java/lang/Enum" (some 0) with
  accessFlags := 1057
  interfaces := #[2, 3, 4]
  cf := some (fileOf pool5 2 #[.nestMembers #[106]] #[] 1057 12 #[111, 113, 115] #[{ accessFlags := 18, nameIndex := 5, descriptorIndex := 6, attributes := #[] }, { accessFlags := 18, nameIndex := 9, descriptorIndex := 10, attributes := #[] }, { accessFlags := 2, nameIndex := 19, descriptorIndex := 10, attributes := #[] }])
  fields := #[{ name := "name", type := (.object "java/lang/String"), accessFlags := 18, slot := 0, constantValue := 0 }, { name := "ordinal", type := .int, accessFlags := 18, slot := 1, constantValue := 0 }, { name := "hash", type := .int, accessFlags := 2, slot := 2, constantValue := 0 }]
  methods := #[]
  instanceTypes := #[(.object "java/lang/String"), .int, .int]
  staticTypes := #[]
  resolved := Array.replicate 204 none
  statics := none }

def pool6 : Array CpInfo := pool [(1, .class_ 2), (0, u "com/example/espera/espera/ErrorCode"), (0, .fieldref 1 4), (0, .nameAndType 5 6), (0, u "BAD_REQUEST"), (0, u "Lcom/example/espera/espera/ErrorCode;"), (2, u "MISSING_EXCLUSIVITY_VALUE"), (2, u "NOT_FOUND"), (2, u "METHOD_NOT_ALLOWED"), (2, u "CONFLICT"), (2, u "ENQUEUE_BLOCKED"), (2, u "DEQUEUE_BLOCKED"), (2, u "PAYLOAD_TOO_LARGE"), (0, .fieldref 1 29), (0, .nameAndType 30 6), (0, u "INTERNAL"), (2, u "UNAVAILABLE"), (2, u "$VALUES"), (0, u "[Lcom/example/espera/espera/ErrorCode;"), (6, .class_ 46), (1, u "java/lang/Enum"), (8, u "wireName"), (0, u "Ljava/lang/String;"), (0, .fieldref 1 58), (0, .nameAndType 59 60), (0, u "httpStatus"), (0, u "I"), (45, u "getHttpStatus"), (0, u "()I"), (0, u "forHttpStatus"), (0, u "(I)Lcom/example/espera/espera/ErrorCode;")] 6

def k6c0 : Code := { maxStack := 1, maxLocals := 1, code := prog_3_method_5_code, exceptionTable := #[], attributes := #[] }
def k6m0 : Method := { name := "getHttpStatus", desc := "()I", sig := { parameters := [], returnType := some .int }, accessFlags := 1, code := some k6c0 }
def k6c1 : Code := { maxStack := 2, maxLocals := 1, code := prog_3_method_6_code, exceptionTable := #[], attributes := #[] }
def k6m1 : Method := { name := "forHttpStatus", desc := "(I)Lcom/example/espera/espera/ErrorCode;", sig := { parameters := [.int], returnType := some (.object "com/example/espera/espera/ErrorCode") }, accessFlags := 9, code := some k6c1 }
/-- com/example/espera/espera/ErrorCode -/
def k6 : Class := { plain "com/example/espera/espera/ErrorCode" (some 5) with
  accessFlags := 16433
  interfaces := #[]
  cf := some (fileOf pool6 1 #[] #[{ accessFlags := 1, nameIndex := 106, descriptorIndex := 107, attributes := #[] }, { accessFlags := 9, nameIndex := 108, descriptorIndex := 109, attributes := #[] }] 16433 44 #[] #[{ accessFlags := 16409, nameIndex := 5, descriptorIndex := 6, attributes := #[] }, { accessFlags := 16409, nameIndex := 9, descriptorIndex := 6, attributes := #[] }, { accessFlags := 16409, nameIndex := 12, descriptorIndex := 6, attributes := #[] }, { accessFlags := 16409, nameIndex := 15, descriptorIndex := 6, attributes := #[] }, { accessFlags := 16409, nameIndex := 18, descriptorIndex := 6, attributes := #[] }, { accessFlags := 16409, nameIndex := 21, descriptorIndex := 6, attributes := #[] }, { accessFlags := 16409, nameIndex := 24, descriptorIndex := 6, attributes := #[] }, { accessFlags := 16409, nameIndex := 27, descriptorIndex := 6, attributes := #[] }, { accessFlags := 16409, nameIndex := 30, descriptorIndex := 6, attributes := #[] }, { accessFlags := 16409, nameIndex := 33, descriptorIndex := 6, attributes := #[] }, { accessFlags := 18, nameIndex := 55, descriptorIndex := 56, attributes := #[] }, { accessFlags := 18, nameIndex := 59, descriptorIndex := 60, attributes := #[] }, { accessFlags := 4122, nameIndex := 36, descriptorIndex := 37, attributes := #[] }])
  fields := #[{ name := "BAD_REQUEST", type := (.object "com/example/espera/espera/ErrorCode"), accessFlags := 16409, slot := 0, constantValue := 0 }, { name := "MISSING_EXCLUSIVITY_VALUE", type := (.object "com/example/espera/espera/ErrorCode"), accessFlags := 16409, slot := 1, constantValue := 0 }, { name := "NOT_FOUND", type := (.object "com/example/espera/espera/ErrorCode"), accessFlags := 16409, slot := 2, constantValue := 0 }, { name := "METHOD_NOT_ALLOWED", type := (.object "com/example/espera/espera/ErrorCode"), accessFlags := 16409, slot := 3, constantValue := 0 }, { name := "CONFLICT", type := (.object "com/example/espera/espera/ErrorCode"), accessFlags := 16409, slot := 4, constantValue := 0 }, { name := "ENQUEUE_BLOCKED", type := (.object "com/example/espera/espera/ErrorCode"), accessFlags := 16409, slot := 5, constantValue := 0 }, { name := "DEQUEUE_BLOCKED", type := (.object "com/example/espera/espera/ErrorCode"), accessFlags := 16409, slot := 6, constantValue := 0 }, { name := "PAYLOAD_TOO_LARGE", type := (.object "com/example/espera/espera/ErrorCode"), accessFlags := 16409, slot := 7, constantValue := 0 }, { name := "INTERNAL", type := (.object "com/example/espera/espera/ErrorCode"), accessFlags := 16409, slot := 8, constantValue := 0 }, { name := "UNAVAILABLE", type := (.object "com/example/espera/espera/ErrorCode"), accessFlags := 16409, slot := 9, constantValue := 0 }, { name := "wireName", type := (.object "java/lang/String"), accessFlags := 18, slot := 3, constantValue := 0 }, { name := "httpStatus", type := .int, accessFlags := 18, slot := 4, constantValue := 0 }, { name := "$VALUES", type := (.array (.object "com/example/espera/espera/ErrorCode")), accessFlags := 4122, slot := 10, constantValue := 0 }]
  methods := #[k6m0, k6m1]
  instanceTypes := #[(.object "java/lang/String"), .int, .int, (.object "java/lang/String"), .int]
  staticTypes := #[(.object "com/example/espera/espera/ErrorCode"), (.object "com/example/espera/espera/ErrorCode"), (.object "com/example/espera/espera/ErrorCode"), (.object "com/example/espera/espera/ErrorCode"), (.object "com/example/espera/espera/ErrorCode"), (.object "com/example/espera/espera/ErrorCode"), (.object "com/example/espera/espera/ErrorCode"), (.object "com/example/espera/espera/ErrorCode"), (.object "com/example/espera/espera/ErrorCode"), (.object "com/example/espera/espera/ErrorCode"), (.array (.object "com/example/espera/espera/ErrorCode"))]
  resolved := Array.replicate 116 none
  statics := some 0 }

def pool7 : Array CpInfo := pool [(1, u "java/lang/Cloneable"), (0, .class_ 1), (0, u "java/lang/Object"), (0, .class_ 3)] 3

/-- java/lang/Cloneable -/
def k7 : Class := { plain "java/lang/Cloneable" (some 0) with
  accessFlags := 1537
  interfaces := #[]
  cf := some (fileOf pool7 2 #[] #[] 1537 4 #[] #[])
  fields := #[]
  methods := #[]
  instanceTypes := #[]
  staticTypes := #[]
  resolved := Array.replicate 8 none
  statics := none }

/-- the primitive byte -/
def k8 : Class := { plain "byte" none with kind := .primitive 'B', accessFlags := 0x411 }
/-- [B -/
def k9 : Class := { plain "[B" (some 0) with kind := .array 8 .byte, interfaces := #[7, 4], accessFlags := 1041 }

/-- the primitive int -/
def k10 : Class := { plain "int" none with kind := .primitive 'I', accessFlags := 0x411 }
/-- [I -/
def k11 : Class := { plain "[I" (some 0) with kind := .array 10 .int, interfaces := #[7, 4], accessFlags := 1041 }

def heap : Heap := #[{ cls := 6, slots := #[.ref 1, .null, .null, .null, .null, .null, .null, .null, .ref 2, .null, .null], vm := .statics 6 },
  { cls := 6, slots := #[.null, .int 0, .int 0, .null, .int 400], vm := .none },
  { cls := 6, slots := #[.null, .int 8, .int 0, .null, .int 500], vm := .none }]
def classes : Array Class := #[k0, k1, k2, k3, k4, k5, k6, k7, k8, k9, k10, k11]
def interned : List (Array UInt16 × Addr) := []
def slotsUsed : Nat := 21
def theMethod : MethodId := ⟨1, 2⟩
def args0 : Array Value := #[.int 5, .int 600]
def aboutOver (below : List Frame) : State where
  vm := { classes := classes, interned := interned.toArray }
  heap := heap
  slotsUsed := slotsUsed
  threads := #[{ frames := .invoking theMethod args0 :: below }]
def below0 : List Frame := [.native { method := ⟨0, 0⟩, args := #[] }]
def about1 : State := aboutOver below0
def p0 : Program := .bare "" "" ""
def e0 : Env := launch0.env 0 0 0
theorem w_frames : about1.frames = Frame.invoking theMethod args0 :: below0 := rfl
set_option maxRecDepth 65536 in
theorem w_args : argsFit about1.vm theMethod args0 = true := by decide +kernel
set_option maxRecDepth 65536 in
theorem w_heap : heapFits about1 = true := by decide +kernel
set_option maxRecDepth 65536 in
theorem w_runnable : about1.curStatus? = some .runnable := by decide +kernel
set_option maxRecDepth 65536 in
theorem w_alone : about1.alone = true := by decide +kernel
set_option maxRecDepth 65536 in
theorem w_named : about1.methodNamed? x = some theMethod := by decide +kernel
set_option maxRecDepth 65536 in
theorem w_hears : about1.hears theMethod below0 = true := by decide +kernel
set_option maxRecDepth 65536 in
theorem w_ripe : about1.ripe theMethod args0 below0 = true := by decide +kernel
theorem w_running : about1.status = .running := rfl
set_option maxRecDepth 65536 in
theorem w_room : about1.hasRoom e0.platform room_1 = true :=
  launch0.hasRoom_least _ room_1 (by decide +kernel) (by decide +kernel) (by decide +kernel) (by decide +kernel) (by decide +kernel) (by decide +kernel)
theorem allAtoms_all (ts : List Jvm.Cond) (a : Array Jvm.Value) (st : Jvm.State) : (allAtoms ts).before a st = ts.all (fun c => c.before a st) := by
  induction ts with
  | nil => rfl
  | cons c t ih =>
    show (Jvm.Cond.and c (allAtoms t)).before a st = _
    rw [Jvm.Cond.before_and, ih, List.all_cons]
def words1 : List Jvm.Cond := Jvm.Cond.code x code maxLocals ret :: tables_1
/-- a 'code' word, met by the world's own term for the bytes: nothing is compared byte by byte -/
theorem code_word {y : MethodName} {bytes : ByteArray} {mx : Nat} {rt : Option FieldType} {a : Array Value} {s : State} {m : MethodId} {meth : Method} {c : Code} (h1 : s.methodNamed? y = some m) (h2 : s.vm.method? m = some meth) (h3 : meth.code = some c) (h4 : c.code = bytes)
    (h5 : (c.maxLocals == mx && c.exceptionTable.isEmpty && decide (c.maxStack ≤ mostOperands) && decide (meth.sig.returnType = rt) && !meth.locks && decide (parseMethodDescriptor y.desc = some meth.sig)) = true) : (Jvm.Cond.code y bytes mx rt).before a s = true := by
  simp only [Bool.and_eq_true, beq_iff_eq, Bool.not_eq_true', decide_eq_true_eq] at h5
  obtain ⟨⟨⟨⟨⟨g1, g2⟩, g3⟩, g4⟩, g5⟩, g6⟩ := h5
  simp [Cond.before, Cond.holds, Cond.value, h1, h2, h3, h4, g1, g2, g3, g4, g5, g6]
def isCode : Jvm.Cond → Bool
  | .code _ _ _ _ => true
  | _ => false
theorem all_split {L : List Jvm.Cond} {P : Jvm.Cond → Bool} (h1 : L.all (fun c => isCode c || P c) = true) (h2 : ∀ c ∈ L.filter isCode, P c = true) : L.all P = true := by
  refine List.all_eq_true.mpr fun c hc => ?_
  have h := List.all_eq_true.mp h1 c hc
  rcases Bool.eq_false_or_eq_true (isCode c) with hi | hi
  · exact h2 c (List.mem_filter.mpr ⟨hc, hi⟩)
  · simpa [hi] using h
set_option maxRecDepth 65536 in
theorem w_c0 : (Jvm.Cond.code x code maxLocals ret).before args0 about1 = true := code_word (m := ⟨1, 2⟩) (meth := k1m2) (c := k1c2) (by decide +kernel) rfl rfl rfl (by decide +kernel)
set_option maxRecDepth 65536 in
theorem w_c1 : (Jvm.Cond.code ({ cls := "com/example/espera/espera/ErrorCode", name := "forHttpStatus", desc := "(I)Lcom/example/espera/espera/ErrorCode;" } : Jvm.MethodName) prog_3_method_6_code (1 : Nat) (Option.some (Jvm.ClassFile.FieldType.object "com/example/espera/espera/ErrorCode"))).before args0 about1 = true := code_word (m := ⟨6, 1⟩) (meth := k6m1) (c := k6c1) (by decide +kernel) rfl rfl rfl (by decide +kernel)
set_option maxRecDepth 65536 in
theorem w_c2 : (Jvm.Cond.code ({ cls := "com/example/espera/espera/ErrorCodeForHttpStatusPinLaw", name := "allowed", desc := "(Lcom/example/espera/espera/ErrorCode;)Z" } : Jvm.MethodName) method_2_code (1 : Nat) (Option.some Jvm.ClassFile.FieldType.boolean)).before args0 about1 = true := code_word (m := ⟨1, 1⟩) (meth := k1m1) (c := k1c1) (by decide +kernel) rfl rfl rfl (by decide +kernel)
set_option maxRecDepth 65536 in
theorem w_c3 : (Jvm.Cond.code ({ cls := "com/example/espera/espera/ErrorCode", name := "getHttpStatus", desc := "()I" } : Jvm.MethodName) prog_3_method_5_code (1 : Nat) (Option.some Jvm.ClassFile.FieldType.int)).before args0 about1 = true := code_word (m := ⟨6, 0⟩) (meth := k6m0) (c := k6c0) (by decide +kernel) rfl rfl rfl (by decide +kernel)
def codes1 : List Jvm.Cond := [Jvm.Cond.code x code maxLocals ret, Jvm.Cond.code ({ cls := "com/example/espera/espera/ErrorCode", name := "forHttpStatus", desc := "(I)Lcom/example/espera/espera/ErrorCode;" } : Jvm.MethodName) prog_3_method_6_code (1 : Nat) (Option.some (Jvm.ClassFile.FieldType.object "com/example/espera/espera/ErrorCode")), Jvm.Cond.code ({ cls := "com/example/espera/espera/ErrorCodeForHttpStatusPinLaw", name := "allowed", desc := "(Lcom/example/espera/espera/ErrorCode;)Z" } : Jvm.MethodName) method_2_code (1 : Nat) (Option.some Jvm.ClassFile.FieldType.boolean), Jvm.Cond.code ({ cls := "com/example/espera/espera/ErrorCode", name := "getHttpStatus", desc := "()I" } : Jvm.MethodName) prog_3_method_5_code (1 : Nat) (Option.some Jvm.ClassFile.FieldType.int)]
set_option maxRecDepth 65536 in
theorem codes_eq : words1.filter isCode = codes1 := rfl
theorem w_codes : ∀ c ∈ words1.filter isCode, c.before args0 about1 = true := by
  rw [codes_eq]
  intro c hc
  simp only [codes1, List.mem_cons, List.not_mem_nil, or_false] at hc
  rcases hc with rfl | rfl | rfl | rfl
  · exact w_c0
  · exact w_c1
  · exact w_c2
  · exact w_c3
set_option maxRecDepth 65536 in
theorem w_t1 : words1.all (fun c => isCode c || c.before args0 about1) = true := by decide +kernel
theorem w_tables : (allAtoms (Jvm.Cond.code x code maxLocals ret :: tables_1)).before args0 about1 = true := by
  rw [allAtoms_all]
  show words1.all (fun c => c.before args0 about1) = true
  refine all_split ?_ w_codes
  rw [w_t1]
set_option maxRecDepth 65536 in
theorem w_case : (Jvm.Cond.and given_1 narrow_1).before args0 about1 = true := by decide +kernel
theorem w_applies : (headSpec (Jvm.Cond.code x code maxLocals ret :: tables_1) room_1).applies x e0.platform about1 = true :=
  (Spec.applies_iff w_frames).mpr ⟨w_running, w_runnable, w_alone, w_named, w_hears, w_ripe, w_room, w_tables⟩
theorem atStart : AtStart classFile x code maxLocals ret World_1 tables_1 room_1 Calls_1 rest_1 Pre_1 launch0 p0 e0 about1 theMethod args0 below0 :=
  ⟨lists_1, trivial, launch0.admits_env _ _ _, launch0.least_env, fairChoices_fair.cas, fairChoices_fair.clock, w_frames, w_args, w_heap, w_applies, trivial, trivial, w_case⟩
end start1
theorem witness_1 : WitnessClaimed_1 := ⟨start1.p0, start1.e0, start1.about1, start1.theMethod, start1.args0, start1.below0, start1.atStart⟩
end Jvm.Pilot.@@N@@
