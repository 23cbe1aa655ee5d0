import JvmDerived
import JvmDerived.Pilot.@@N@@Statement
import JvmDerived.Pilot.@@N@@Code
set_option linter.unusedVariables false
set_option linter.unusedSimpArgs false
namespace Jvm.Pilot.@@N@@
open Jvm Jvm.ClassFile Sem Op Lib Jvm.Free Jvm.Stand Jvm.LawKit Jvm.RoadKit Bundle Jvm.Pilot.@@N@@.Jvm.D
section OwnKit
variable {p : Program} {l : Launch} {e : Env} {R : Room} {s : State} {m : MethodId} {A : Array Value} {below : List Frame} {meth : Method} {c : Code} {T : State} {cells slots : Nat} {Z : State} {a0 : Array Value} {h : Heap} {own nm : String} {bytes : ByteArray} {maxL : Nat} {ret : Option FieldType} {W : Outcome → State → Prop} {pc pc' tgt : Nat} {Ls : Array Slot} {st : List Value}
/-- the run from the frame g over T comes to an end at which W holds -/
def Goes (p : Program) (e : Env) (below : List Frame) (W : Outcome → State → Prop) (T : State) (g : JFrame) : Prop :=
  ∃ s₂ o, Steps p.tables e below (T.setTop g) s₂ ∧ s₂.status = .running ∧ Ended s₂ below o ∧ W o s₂
theorem Goes.via {T' : State} {g g' : JFrame} (h : ∀ t, Steps p.tables e below (T'.setTop g') t → Steps p.tables e below (T.setTop g) t) (k : Goes p e below W T' g') : Goes p e below W T g := by
  obtain ⟨s₂, o, h1, h2⟩ := k; exact ⟨s₂, o, h _ h1, h2⟩
/-- what stays the same through a body -/
def Cx (p : Program) (s : State) (m : MethodId) (meth : Method) (c : Code) (Z : State) (own nm : String) (bytes : ByteArray) (maxL : Nat) (ret : Option FieldType) : Prop :=
  p.tables.exec = Jvm.exec ∧ Z.Warmed39 s.vm ∧ s.vm.findClass own = some m.cls ∧ c.code = bytes ∧ c.maxLocals = maxL ∧ meth.sig.returnType = ret ∧ meth.locks = false ∧ meth.name = nm
theorem Cx.hx (C : Cx p s m meth c Z own nm bytes maxL ret) : p.tables.exec = Jvm.exec := C.1
theorem Cx.hZ (C : Cx p s m meth c Z own nm bytes maxL ret) : Z.Warmed39 s.vm := C.2.1
theorem Cx.hown (C : Cx p s m meth c Z own nm bytes maxL ret) : s.vm.findClass own = some m.cls := C.2.2.1
theorem Cx.hby (C : Cx p s m meth c Z own nm bytes maxL ret) : c.code = bytes := C.2.2.2.1
theorem Cx.hml (C : Cx p s m meth c Z own nm bytes maxL ret) : c.maxLocals = maxL := C.2.2.2.2.1
theorem Cx.hret (C : Cx p s m meth c Z own nm bytes maxL ret) : meth.sig.returnType = ret := C.2.2.2.2.2.1
theorem Cx.hlk (C : Cx p s m meth c Z own nm bytes maxL ret) : meth.locks = false := C.2.2.2.2.2.2.1
theorem Cx.hnm (C : Cx p s m meth c Z own nm bytes maxL ret) : meth.name = nm := C.2.2.2.2.2.2.2
/-- where the walk stands: the heap is h; nothing that stood at Z was written; at most so many cells and slots were made -/
def St (p : Program) (l : Launch) (e : Env) (R : Room) (s : State) (m : MethodId) (A : Array Value) (below : List Frame) (meth : Method) (c : Code) (Z : State) (T : State) (h : Heap) (cells slots : Nat) : Prop :=
  ∃ locs, Stand p l e R s m A below meth c T locs cells slots ∧ T.heap = h ∧ Fr Z.heap.size locs ∧ Ext Z.heap h
theorem St.here (X : St p l e R s m A below meth c Z T h cells slots) : At T m c below := by obtain ⟨_, Y, _⟩ := X; exact Y.here
theorem St.ext (X : St p l e R s m A below meth c Z T h cells slots) : Ext Z.heap h := by obtain ⟨_, _, _, _, E⟩ := X; exact E
theorem St.more {cells' slots' : Nat} (X : St p l e R s m A below meth c Z T h cells slots) (h1 : cells ≤ cells') (h2 : slots ≤ slots') : St p l e R s m A below meth c Z T h cells' slots' := by
  obtain ⟨L, Y, r⟩ := X; exact ⟨L, Y.more h1 h2, r⟩
/-- the end of a body: Q of what it returned and of the heap -/
def EndW (Z s : State) (k n : Nat) (Q : Option Value → Heap → Prop) (o : Outcome) (u : State) : Prop :=
  ∃ v L, o = .returned v ∧ (Fr Z.heap.size L ∧ Ext Z.heap u.heap ∧ Q v u.heap) ∧ FrameEnd s o u L k n
/-- a body's contract: called with A at the heap h0, over tables warmer than Z's, it returns and leaves Q -/
def Con (l : Launch) (y : MethodName) (bytes : ByteArray) (maxL : Nat) (ret : Option FieldType) (ws : List Jvm.Cond) (rm : Room) (Z : State) (A : Array Value) (h0 : Heap) (Q : Option Value → Heap → Prop) : Prop :=
  MetFree l y (head1 (Jvm.Cond.code y bytes maxL ret :: ws) rm) (fun a U => a = A ∧ Z.Warmed39 U.vm ∧ U.heap = h0) (fun _ _ _ _ _ => True) (fun _ U o U' => EndW Z U rm.cells rm.slots Q o U')
theorem con_of {y : MethodName} {ws : List Jvm.Cond} {rm : Room} {h0 : Heap} {Q : Option Value → Heap → Prop} {Ls : Array Slot} (hp : plainFor y = true) (hE : Ext Z.heap h0) (hef : ∀ m, entryFrame m A maxL = mkF m 0 Ls [])
    (body : ∀ p e s m below meth c s₁, Cx p s m meth c Z y.cls y.name bytes maxL ret → St p l e rm s m A below meth c Z s₁ h0 0 0 → Goes p e below (EndW Z s rm.cells rm.slots Q) s₁ (mkF m 0 Ls [])) :
    Con l y bytes maxL ret ws rm Z A h0 Q := by
  refine MetFree.of_bodySF hp hisR ?_
  intro p e s m args below meth c s₁ Bd hml0 hP hK
  obtain ⟨rfl, hZ, hh⟩ := hP
  have X0 := Stand.of_body Bd
  have e0 : s₁.heap = h0 := by rw [← hh, Bd.state]; rfl
  have := body p e s m below meth c s₁ ⟨Bd.exec, hZ, findClass_of_methodNamed Bd.named, Bd.bytes, hml0, Bd.returns, Bd.notSynchronized, (name_of_methodNamed Bd.named Bd.method).1⟩ ⟨[], X0, e0, Fr.nil _, hE⟩
  rw [← hef m] at this
  exact this
/-- the instruction at pc, its length, the pc behind it -/
def Dc (b : ByteArray) (pc : Nat) (i : Instr) (n pc' : Nat) : Prop := decode b pc = .ok (i, n) ∧ pc + n = pc'
/-- a jump: besides, its target -/
def Dj (b : ByteArray) (pc : Nat) (i : Instr) (o : Int) (n pc' tgt : Nat) : Prop := decode b pc = .ok (i, n) ∧ pc + n = pc' ∧ 0 ≤ (pc : Int) + o ∧ ((pc : Int) + o).toNat = tgt
theorem g_goto {o : Int} (C : Cx p s m meth c Z own nm bytes maxL ret) (X : St p l e R s m A below meth c Z T h cells slots) (d : Dj bytes pc (.goto o) o 3 pc' tgt) (K : Goes p e below W T (mkF m tgt Ls st)) : Goes p e below W T (mkF m pc Ls st) :=
  Goes.via (fun _ k => XS.goto X.here C.hx rfl rfl (hb C.hby d.1) d.2.2.1 d.2.2.2 k) K
theorem g_if {cd : ClassFile.Cond} {o : Int} {x : Int32} {P : Prop} [Decidable P] (hP : ifCond.holds cd x = decide P) (C : Cx p s m meth c Z own nm bytes maxL ret) (X : St p l e R s m A below meth c Z T h cells slots) (d : Dj bytes pc (.ifCond cd o) o 3 pc' tgt) (K1 : P → Goes p e below W T (mkF m tgt Ls st)) (K2 : ¬ P → Goes p e below W T (mkF m pc' Ls st)) : Goes p e below W T (mkF m pc Ls (.int x :: st)) := by
  obtain ⟨d1, rfl, d3, d4⟩ := d
  by_cases q : P
  · exact Goes.via (fun _ k => XS.ifYes X.here C.hx rfl rfl (hb C.hby d1) rfl (hP.trans (decide_eq_true q)) d3 d4 k) (K1 q)
  · exact Goes.via (fun _ k => XS.ifNo X.here C.hx rfl (hb C.hby d1) rfl (hP.trans (decide_eq_false q)) k) (K2 q)
theorem g_icmp {cd : ClassFile.Cond} {o : Int} {x y : Int32} {P : Prop} [Decidable P] (hP : if_icmp.holds cd x y = decide P) (C : Cx p s m meth c Z own nm bytes maxL ret) (X : St p l e R s m A below meth c Z T h cells slots) (d : Dj bytes pc (.if_icmp cd o) o 3 pc' tgt) (K1 : P → Goes p e below W T (mkF m tgt Ls st)) (K2 : ¬ P → Goes p e below W T (mkF m pc' Ls st)) : Goes p e below W T (mkF m pc Ls (.int y :: .int x :: st)) := by
  obtain ⟨d1, rfl, d3, d4⟩ := d
  by_cases q : P
  · exact Goes.via (fun _ k => XS.icmpYes X.here C.hx rfl rfl (hb C.hby d1) rfl (hP.trans (decide_eq_true q)) d3 d4 k) (K1 q)
  · exact Goes.via (fun _ k => XS.icmpNo X.here C.hx rfl (hb C.hby d1) rfl (hP.trans (decide_eq_false q)) k) (K2 q)
theorem g_ifn {cd : ClassFile.Cond} {o : Int} {x : Int32} {P : Prop} [Decidable P] (hP : ifCond.holds cd x = !decide P) (C : Cx p s m meth c Z own nm bytes maxL ret) (X : St p l e R s m A below meth c Z T h cells slots) (d : Dj bytes pc (.ifCond cd o) o 3 pc' tgt) (K1 : ¬ P → Goes p e below W T (mkF m tgt Ls st)) (K2 : P → Goes p e below W T (mkF m pc' Ls st)) : Goes p e below W T (mkF m pc Ls (.int x :: st)) := by
  obtain ⟨d1, rfl, d3, d4⟩ := d
  by_cases q : P
  · exact Goes.via (fun _ k => XS.ifNo X.here C.hx rfl (hb C.hby d1) rfl (hP.trans (by simp [q])) k) (K2 q)
  · exact Goes.via (fun _ k => XS.ifYes X.here C.hx rfl rfl (hb C.hby d1) rfl (hP.trans (by simp [q])) d3 d4 k) (K1 q)
theorem g_icmpn {cd : ClassFile.Cond} {o : Int} {x y : Int32} {P : Prop} [Decidable P] (hP : if_icmp.holds cd x y = !decide P) (C : Cx p s m meth c Z own nm bytes maxL ret) (X : St p l e R s m A below meth c Z T h cells slots) (d : Dj bytes pc (.if_icmp cd o) o 3 pc' tgt) (K1 : ¬ P → Goes p e below W T (mkF m tgt Ls st)) (K2 : P → Goes p e below W T (mkF m pc' Ls st)) : Goes p e below W T (mkF m pc Ls (.int y :: .int x :: st)) := by
  obtain ⟨d1, rfl, d3, d4⟩ := d
  by_cases q : P
  · exact Goes.via (fun _ k => XS.icmpNo X.here C.hx rfl (hb C.hby d1) rfl (hP.trans (by simp [q])) k) (K2 q)
  · exact Goes.via (fun _ k => XS.icmpYes X.here C.hx rfl rfl (hb C.hby d1) rfl (hP.trans (by simp [q])) d3 d4 k) (K1 q)
theorem hI_eq (x y : Int32) : if_icmp.holds .eq x y = decide (x = y) := by
  by_cases q : x = y
  · rw [(teq q).1]; simp [q]
  · rw [(feq q).1]; simp [q]
theorem hI_ne (x y : Int32) : if_icmp.holds .ne x y = !decide (x = y) := by
  by_cases q : x = y
  · rw [(teq q).2]; simp [q]
  · rw [(feq q).2]; simp [q]
theorem hI_lt (x y : Int32) : if_icmp.holds .lt x y = decide (x < y) := by
  by_cases q : x < y
  · rw [(tlt q).1]; simp [q]
  · rw [(flt q).1]; simp [q]
theorem hI_ge (x y : Int32) : if_icmp.holds .ge x y = !decide (x < y) := by
  by_cases q : x < y
  · rw [(tlt q).2.1]; simp [q]
  · rw [(flt q).2.1]; simp [q]
theorem hI_gt (x y : Int32) : if_icmp.holds .gt x y = decide (y < x) := by
  by_cases q : y < x
  · rw [(tlt q).2.2.1]; simp [q]
  · rw [(flt q).2.2.1]; simp [q]
theorem hI_le (x y : Int32) : if_icmp.holds .le x y = !decide (y < x) := by
  by_cases q : y < x
  · rw [(tlt q).2.2.2]; simp [q]
  · rw [(flt q).2.2.2]; simp [q]
theorem h0_eq (x : Int32) : ifCond.holds .eq x = decide (x = 0) := (if0 _ _).trans (hI_eq x 0)
theorem h0_ne (x : Int32) : ifCond.holds .ne x = !decide (x = 0) := (if0 _ _).trans (hI_ne x 0)
theorem h0_lt (x : Int32) : ifCond.holds .lt x = decide (x < 0) := (if0 _ _).trans (hI_lt x 0)
theorem h0_ge (x : Int32) : ifCond.holds .ge x = !decide (x < 0) := (if0 _ _).trans (hI_ge x 0)
theorem h0_gt (x : Int32) : ifCond.holds .gt x = decide (0 < x) := (if0 _ _).trans (hI_gt x 0)
theorem h0_le (x : Int32) : ifCond.holds .le x = !decide (0 < x) := (if0 _ _).trans (hI_le x 0)
/-- a comparison of longs, then a branch on it: 'lcmp; if..' -/
theorem hL_eq (x y : Int64) : ifCond.holds .eq (lcmpW x y) = decide (x = y) := by rw [h0_eq]; exact decide_eq_decide.mpr (lw_eq x y)
theorem hL_ne (x y : Int64) : ifCond.holds .ne (lcmpW x y) = !decide (x = y) := by rw [h0_ne]; exact congrArg _ (decide_eq_decide.mpr (lw_eq x y))
theorem hL_lt (x y : Int64) : ifCond.holds .lt (lcmpW x y) = decide (x < y) := by rw [h0_lt]; exact decide_eq_decide.mpr (lw_lt x y)
theorem hL_ge (x y : Int64) : ifCond.holds .ge (lcmpW x y) = !decide (x < y) := by rw [h0_ge]; exact congrArg _ (decide_eq_decide.mpr (lw_lt x y))
theorem hL_gt (x y : Int64) : ifCond.holds .gt (lcmpW x y) = decide (y < x) := by rw [h0_gt]; exact decide_eq_decide.mpr (lw_gt x y)
theorem hL_le (x y : Int64) : ifCond.holds .le (lcmpW x y) = !decide (y < x) := by rw [h0_le]; exact congrArg _ (decide_eq_decide.mpr (lw_gt x y))
/-- two references compared; the values are references or null -/
theorem g_acmpeq {o : Int} {x y : Value} (C : Cx p s m meth c Z own nm bytes maxL ret) (X : St p l e R s m A below meth c Z T h cells slots) (d : Dj bytes pc (.if_acmp .eq o) o 3 pc' tgt) (h1 : x.isRef = true) (h2 : y.isRef = true) (K1 : x = y → Goes p e below W T (mkF m tgt Ls st)) (K2 : ¬ x = y → Goes p e below W T (mkF m pc' Ls st)) : Goes p e below W T (mkF m pc Ls (y :: x :: st)) := by
  obtain ⟨d1, rfl, d3, d4⟩ := d
  by_cases q : x = y
  · exact Goes.via (fun _ k => XT.acmpYes X.here C.hx rfl rfl (hb C.hby d1) rfl h1 h2 (XT.aa_eq_t q) d3 d4 k) (K1 q)
  · exact Goes.via (fun _ k => XT.acmpNo X.here C.hx rfl (hb C.hby d1) rfl h1 h2 (XT.aa_eq_f q) k) (K2 q)
theorem g_acmpne {o : Int} {x y : Value} (C : Cx p s m meth c Z own nm bytes maxL ret) (X : St p l e R s m A below meth c Z T h cells slots) (d : Dj bytes pc (.if_acmp .ne o) o 3 pc' tgt) (h1 : x.isRef = true) (h2 : y.isRef = true) (K1 : ¬ x = y → Goes p e below W T (mkF m tgt Ls st)) (K2 : x = y → Goes p e below W T (mkF m pc' Ls st)) : Goes p e below W T (mkF m pc Ls (y :: x :: st)) := by
  obtain ⟨d1, rfl, d3, d4⟩ := d
  by_cases q : x = y
  · exact Goes.via (fun _ k => XT.acmpNo X.here C.hx rfl (hb C.hby d1) rfl h1 h2 (XT.aa_ne_f q) k) (K2 q)
  · exact Goes.via (fun _ k => XT.acmpYes X.here C.hx rfl rfl (hb C.hby d1) rfl h1 h2 (XT.aa_ne_t q) d3 d4 k) (K1 q)
theorem g_ifnull {o : Int} {v : Value} (C : Cx p s m meth c Z own nm bytes maxL ret) (X : St p l e R s m A below meth c Z T h cells slots) (d : Dj bytes pc (.ifnull o) o 3 pc' tgt) (h1 : v.isRef = true) (K1 : v = .null → Goes p e below W T (mkF m tgt Ls st)) (K2 : ¬ v = .null → Goes p e below W T (mkF m pc' Ls st)) : Goes p e below W T (mkF m pc Ls (v :: st)) := by
  obtain ⟨d1, rfl, d3, d4⟩ := d
  by_cases q : v = .null
  · exact Goes.via (fun _ k => XT.nullYes X.here C.hx rfl rfl (hb C.hby d1) rfl q d3 d4 k) (K1 q)
  · exact Goes.via (fun _ k => XT.nullNo X.here C.hx rfl (hb C.hby d1) rfl h1 q k) (K2 q)
theorem g_ifnonnull {o : Int} {v : Value} (C : Cx p s m meth c Z own nm bytes maxL ret) (X : St p l e R s m A below meth c Z T h cells slots) (d : Dj bytes pc (.ifnonnull o) o 3 pc' tgt) (h1 : v.isRef = true) (K1 : ¬ v = .null → Goes p e below W T (mkF m tgt Ls st)) (K2 : v = .null → Goes p e below W T (mkF m pc' Ls st)) : Goes p e below W T (mkF m pc Ls (v :: st)) := by
  obtain ⟨d1, rfl, d3, d4⟩ := d
  by_cases q : v = .null
  · exact Goes.via (fun _ k => XT.nonnullNo X.here C.hx rfl (hb C.hby d1) rfl q k) (K2 q)
  · exact Goes.via (fun _ k => XT.nonnullYes X.here C.hx rfl rfl (hb C.hby d1) rfl h1 q d3 d4 k) (K1 q)
theorem g_iload {k : Nat} {v : Int32} (C : Cx p s m meth c Z own nm bytes maxL ret) (X : St p l e R s m A below meth c Z T h cells slots) (d : Dc bytes pc (.iload k) 2 pc') (hl : Ls[k]? = some (.val (.int v))) (K : Goes p e below W T (mkF m pc' Ls (.int v :: st))) : Goes p e below W T (mkF m pc Ls st) := by
  obtain ⟨d, rfl⟩ := d
  exact Goes.via (fun _ k => XS.iload X.here C.hx rfl (hb C.hby d) hl k) K
theorem g_iloadN {k : Fin 4} {v : Int32} (C : Cx p s m meth c Z own nm bytes maxL ret) (X : St p l e R s m A below meth c Z T h cells slots) (d : Dc bytes pc (.iload_n k) 1 pc') (hl : Ls[k.val]? = some (.val (.int v))) (K : Goes p e below W T (mkF m pc' Ls (.int v :: st))) : Goes p e below W T (mkF m pc Ls st) := by
  obtain ⟨d, rfl⟩ := d
  exact Goes.via (fun _ k => XS.iloadN X.here C.hx rfl (hb C.hby d) hl k) K
theorem g_lload {k : Nat} {v : Int64} (C : Cx p s m meth c Z own nm bytes maxL ret) (X : St p l e R s m A below meth c Z T h cells slots) (d : Dc bytes pc (.lload k) 2 pc') (hl : Ls[k]? = some (.val (.long v))) (K : Goes p e below W T (mkF m pc' Ls (.long v :: st))) : Goes p e below W T (mkF m pc Ls st) := by
  obtain ⟨d, rfl⟩ := d
  exact Goes.via (fun _ k => XT.lload X.here C.hx rfl (hb C.hby d) hl k) K
theorem g_lloadN {k : Fin 4} {v : Int64} (C : Cx p s m meth c Z own nm bytes maxL ret) (X : St p l e R s m A below meth c Z T h cells slots) (d : Dc bytes pc (.lload_n k) 1 pc') (hl : Ls[k.val]? = some (.val (.long v))) (K : Goes p e below W T (mkF m pc' Ls (.long v :: st))) : Goes p e below W T (mkF m pc Ls st) := by
  obtain ⟨d, rfl⟩ := d
  exact Goes.via (fun _ k => XT.lloadN X.here C.hx rfl (hb C.hby d) hl k) K
theorem g_aload {k : Nat} {v : Value} (C : Cx p s m meth c Z own nm bytes maxL ret) (X : St p l e R s m A below meth c Z T h cells slots) (d : Dc bytes pc (.aload k) 2 pc') (hl : Ls[k]? = some (.val v)) (hv : v.isRef = true) (K : Goes p e below W T (mkF m pc' Ls (v :: st))) : Goes p e below W T (mkF m pc Ls st) := by
  obtain ⟨d, rfl⟩ := d
  exact Goes.via (fun _ k => XS.aload X.here C.hx rfl (hb C.hby d) hl hv k) K
theorem g_aloadN {k : Fin 4} {v : Value} (C : Cx p s m meth c Z own nm bytes maxL ret) (X : St p l e R s m A below meth c Z T h cells slots) (d : Dc bytes pc (.aload_n k) 1 pc') (hl : Ls[k.val]? = some (.val v)) (hv : v.isRef = true) (K : Goes p e below W T (mkF m pc' Ls (v :: st))) : Goes p e below W T (mkF m pc Ls st) := by
  obtain ⟨d, rfl⟩ := d
  exact Goes.via (fun _ k => XS.aloadN X.here C.hx rfl (hb C.hby d) hl hv k) K
theorem g_istore {k : Nat} {x : Int32} {l' : Array Slot} (C : Cx p s m meth c Z own nm bytes maxL ret) (X : St p l e R s m A below meth c Z T h cells slots) (d : Dc bytes pc (.istore k) 2 pc') (hl : storeLocals Ls k (.int x) = some l') (K : Goes p e below W T (mkF m pc' l' st)) : Goes p e below W T (mkF m pc Ls (.int x :: st)) := by
  obtain ⟨d, rfl⟩ := d
  exact Goes.via (fun _ k => XS.istore X.here C.hx rfl (hb C.hby d) rfl hl k) K
theorem g_istoreN {k : Fin 4} {x : Int32} {l' : Array Slot} (C : Cx p s m meth c Z own nm bytes maxL ret) (X : St p l e R s m A below meth c Z T h cells slots) (d : Dc bytes pc (.istore_n k) 1 pc') (hl : storeLocals Ls k.val (.int x) = some l') (K : Goes p e below W T (mkF m pc' l' st)) : Goes p e below W T (mkF m pc Ls (.int x :: st)) := by
  obtain ⟨d, rfl⟩ := d
  exact Goes.via (fun _ k => XS.istoreN X.here C.hx rfl (hb C.hby d) rfl hl k) K
theorem g_lstore {k : Nat} {x : Int64} {l' : Array Slot} (C : Cx p s m meth c Z own nm bytes maxL ret) (X : St p l e R s m A below meth c Z T h cells slots) (d : Dc bytes pc (.lstore k) 2 pc') (hl : storeLocals Ls k (.long x) = some l') (K : Goes p e below W T (mkF m pc' l' st)) : Goes p e below W T (mkF m pc Ls (.long x :: st)) := by
  obtain ⟨d, rfl⟩ := d
  exact Goes.via (fun _ k => XT.lstore X.here C.hx rfl (hb C.hby d) rfl hl k) K
theorem g_lstoreN {k : Fin 4} {x : Int64} {l' : Array Slot} (C : Cx p s m meth c Z own nm bytes maxL ret) (X : St p l e R s m A below meth c Z T h cells slots) (d : Dc bytes pc (.lstore_n k) 1 pc') (hl : storeLocals Ls k.val (.long x) = some l') (K : Goes p e below W T (mkF m pc' l' st)) : Goes p e below W T (mkF m pc Ls (.long x :: st)) := by
  obtain ⟨d, rfl⟩ := d
  exact Goes.via (fun _ k => XT.lstoreN X.here C.hx rfl (hb C.hby d) rfl hl k) K
theorem g_astore {k : Nat} {x : Value} {l' : Array Slot} (C : Cx p s m meth c Z own nm bytes maxL ret) (X : St p l e R s m A below meth c Z T h cells slots) (d : Dc bytes pc (.astore k) 2 pc') (hv : x.isRef = true) (hl : storeLocals Ls k x = some l') (K : Goes p e below W T (mkF m pc' l' st)) : Goes p e below W T (mkF m pc Ls (x :: st)) := by
  obtain ⟨d, rfl⟩ := d
  exact Goes.via (fun _ k => XS.astore X.here C.hx rfl (hb C.hby d) rfl hv hl k) K
theorem g_astoreN {k : Fin 4} {x : Value} {l' : Array Slot} (C : Cx p s m meth c Z own nm bytes maxL ret) (X : St p l e R s m A below meth c Z T h cells slots) (d : Dc bytes pc (.astore_n k) 1 pc') (hv : x.isRef = true) (hl : storeLocals Ls k.val x = some l') (K : Goes p e below W T (mkF m pc' l' st)) : Goes p e below W T (mkF m pc Ls (x :: st)) := by
  obtain ⟨d, rfl⟩ := d
  exact Goes.via (fun _ k => XS.astoreN X.here C.hx rfl (hb C.hby d) rfl hv hl k) K
theorem g_iconst {i : Int} (v : Int32) (C : Cx p s m meth c Z own nm bytes maxL ret) (X : St p l e R s m A below meth c Z T h cells slots) (d : Dc bytes pc (.iconst i) 1 pc') (hv : Int32.ofInt i = v) (K : Goes p e below W T (mkF m pc' Ls (.int v :: st))) : Goes p e below W T (mkF m pc Ls st) := by
  obtain ⟨d, rfl⟩ := d
  exact Goes.via (fun _ k => XT.iconstV X.here C.hx rfl v (hb C.hby d) hv k) K
theorem g_bipush {i : Int} (v : Int32) (C : Cx p s m meth c Z own nm bytes maxL ret) (X : St p l e R s m A below meth c Z T h cells slots) (d : Dc bytes pc (.bipush i) 2 pc') (hv : (Int8.ofInt i).toInt32 = v) (K : Goes p e below W T (mkF m pc' Ls (.int v :: st))) : Goes p e below W T (mkF m pc Ls st) := by
  obtain ⟨d, rfl⟩ := d
  exact Goes.via (fun _ k => XT.bipushV X.here C.hx rfl v (hb C.hby d) hv k) K
theorem g_sipush {i : Int} (v : Int32) (C : Cx p s m meth c Z own nm bytes maxL ret) (X : St p l e R s m A below meth c Z T h cells slots) (d : Dc bytes pc (.sipush i) 3 pc') (hv : (Int16.ofInt i).toInt32 = v) (K : Goes p e below W T (mkF m pc' Ls (.int v :: st))) : Goes p e below W T (mkF m pc Ls st) := by
  obtain ⟨d, rfl⟩ := d
  exact Goes.via (fun _ k => XT.sipushV X.here C.hx rfl v (hb C.hby d) hv k) K
theorem g_lconst {k : Fin 2} (v : Int64) (C : Cx p s m meth c Z own nm bytes maxL ret) (X : St p l e R s m A below meth c Z T h cells slots) (d : Dc bytes pc (.lconst k) 1 pc') (hv : Int64.ofNat k = v) (K : Goes p e below W T (mkF m pc' Ls (.long v :: st))) : Goes p e below W T (mkF m pc Ls st) := by
  obtain ⟨d, rfl⟩ := d
  exact Goes.via (fun _ k => XT.lconstV X.here C.hx rfl v (hb C.hby d) hv k) K
theorem g_iinc {k : Nat} {i : Int} {x : Int32} {l' : Array Slot} (v : Int32) (C : Cx p s m meth c Z own nm bytes maxL ret) (X : St p l e R s m A below meth c Z T h cells slots) (d : Dc bytes pc (.iinc k i) 3 pc') (hv : Int32.ofInt i = v) (hl : Ls[k]? = some (.val (.int x))) (hl' : storeLocals Ls k (.int (x + v)) = some l') (K : Goes p e below W T (mkF m pc' l' st)) : Goes p e below W T (mkF m pc Ls st) := by
  obtain ⟨d, rfl⟩ := d
  exact Goes.via (fun _ k => XT.iincV X.here C.hx rfl v (hb C.hby d) hv hl hl' k) K
theorem g_aconst_null  (C : Cx p s m meth c Z own nm bytes maxL ret) (X : St p l e R s m A below meth c Z T h cells slots) (d : Dc bytes pc (.aconst_null) 1 pc')  (K : Goes p e below W T (mkF m pc' Ls (.null :: st))) : Goes p e below W T (mkF m pc Ls st) := by
  obtain ⟨d, rfl⟩ := d
  exact Goes.via (fun _ k => XS.aconstNull X.here C.hx rfl (hb C.hby d)  k) K
theorem g_iadd {x y : Int32} (C : Cx p s m meth c Z own nm bytes maxL ret) (X : St p l e R s m A below meth c Z T h cells slots) (d : Dc bytes pc (.iadd) 1 pc')  (K : Goes p e below W T (mkF m pc' Ls (.int (x + y) :: st))) : Goes p e below W T (mkF m pc Ls (.int y :: .int x :: st)) := by
  obtain ⟨d, rfl⟩ := d
  exact Goes.via (fun _ k => XS.iadd X.here C.hx rfl (hb C.hby d) rfl k) K
theorem g_ladd {x y : Int64} (C : Cx p s m meth c Z own nm bytes maxL ret) (X : St p l e R s m A below meth c Z T h cells slots) (d : Dc bytes pc (.ladd) 1 pc')  (K : Goes p e below W T (mkF m pc' Ls (.long (x + y) :: st))) : Goes p e below W T (mkF m pc Ls (.long y :: .long x :: st)) := by
  obtain ⟨d, rfl⟩ := d
  exact Goes.via (fun _ k => XT.ladd X.here C.hx rfl (hb C.hby d) rfl k) K
theorem g_isub {x y : Int32} (C : Cx p s m meth c Z own nm bytes maxL ret) (X : St p l e R s m A below meth c Z T h cells slots) (d : Dc bytes pc (.isub) 1 pc')  (K : Goes p e below W T (mkF m pc' Ls (.int (x - y) :: st))) : Goes p e below W T (mkF m pc Ls (.int y :: .int x :: st)) := by
  obtain ⟨d, rfl⟩ := d
  exact Goes.via (fun _ k => XS.isub X.here C.hx rfl (hb C.hby d) rfl k) K
theorem g_lsub {x y : Int64} (C : Cx p s m meth c Z own nm bytes maxL ret) (X : St p l e R s m A below meth c Z T h cells slots) (d : Dc bytes pc (.lsub) 1 pc')  (K : Goes p e below W T (mkF m pc' Ls (.long (x - y) :: st))) : Goes p e below W T (mkF m pc Ls (.long y :: .long x :: st)) := by
  obtain ⟨d, rfl⟩ := d
  exact Goes.via (fun _ k => XT.lsub X.here C.hx rfl (hb C.hby d) rfl k) K
theorem g_imul {x y : Int32} (C : Cx p s m meth c Z own nm bytes maxL ret) (X : St p l e R s m A below meth c Z T h cells slots) (d : Dc bytes pc (.imul) 1 pc')  (K : Goes p e below W T (mkF m pc' Ls (.int (x * y) :: st))) : Goes p e below W T (mkF m pc Ls (.int y :: .int x :: st)) := by
  obtain ⟨d, rfl⟩ := d
  exact Goes.via (fun _ k => XS.imul X.here C.hx rfl (hb C.hby d) rfl k) K
theorem g_lmul {x y : Int64} (C : Cx p s m meth c Z own nm bytes maxL ret) (X : St p l e R s m A below meth c Z T h cells slots) (d : Dc bytes pc (.lmul) 1 pc')  (K : Goes p e below W T (mkF m pc' Ls (.long (x * y) :: st))) : Goes p e below W T (mkF m pc Ls (.long y :: .long x :: st)) := by
  obtain ⟨d, rfl⟩ := d
  exact Goes.via (fun _ k => XT.lmul X.here C.hx rfl (hb C.hby d) rfl k) K
theorem g_iand {x y : Int32} (C : Cx p s m meth c Z own nm bytes maxL ret) (X : St p l e R s m A below meth c Z T h cells slots) (d : Dc bytes pc (.iand) 1 pc')  (K : Goes p e below W T (mkF m pc' Ls (.int (x &&& y) :: st))) : Goes p e below W T (mkF m pc Ls (.int y :: .int x :: st)) := by
  obtain ⟨d, rfl⟩ := d
  exact Goes.via (fun _ k => XS.iand X.here C.hx rfl (hb C.hby d) rfl k) K
theorem g_land {x y : Int64} (C : Cx p s m meth c Z own nm bytes maxL ret) (X : St p l e R s m A below meth c Z T h cells slots) (d : Dc bytes pc (.land) 1 pc')  (K : Goes p e below W T (mkF m pc' Ls (.long (x &&& y) :: st))) : Goes p e below W T (mkF m pc Ls (.long y :: .long x :: st)) := by
  obtain ⟨d, rfl⟩ := d
  exact Goes.via (fun _ k => XT.land X.here C.hx rfl (hb C.hby d) rfl k) K
theorem g_ior {x y : Int32} (C : Cx p s m meth c Z own nm bytes maxL ret) (X : St p l e R s m A below meth c Z T h cells slots) (d : Dc bytes pc (.ior) 1 pc')  (K : Goes p e below W T (mkF m pc' Ls (.int (x ||| y) :: st))) : Goes p e below W T (mkF m pc Ls (.int y :: .int x :: st)) := by
  obtain ⟨d, rfl⟩ := d
  exact Goes.via (fun _ k => XT.ior X.here C.hx rfl (hb C.hby d) rfl k) K
theorem g_lor {x y : Int64} (C : Cx p s m meth c Z own nm bytes maxL ret) (X : St p l e R s m A below meth c Z T h cells slots) (d : Dc bytes pc (.lor) 1 pc')  (K : Goes p e below W T (mkF m pc' Ls (.long (x ||| y) :: st))) : Goes p e below W T (mkF m pc Ls (.long y :: .long x :: st)) := by
  obtain ⟨d, rfl⟩ := d
  exact Goes.via (fun _ k => XT.lor X.here C.hx rfl (hb C.hby d) rfl k) K
theorem g_ixor {x y : Int32} (C : Cx p s m meth c Z own nm bytes maxL ret) (X : St p l e R s m A below meth c Z T h cells slots) (d : Dc bytes pc (.ixor) 1 pc')  (K : Goes p e below W T (mkF m pc' Ls (.int (x ^^^ y) :: st))) : Goes p e below W T (mkF m pc Ls (.int y :: .int x :: st)) := by
  obtain ⟨d, rfl⟩ := d
  exact Goes.via (fun _ k => XT.ixor X.here C.hx rfl (hb C.hby d) rfl k) K
theorem g_lxor {x y : Int64} (C : Cx p s m meth c Z own nm bytes maxL ret) (X : St p l e R s m A below meth c Z T h cells slots) (d : Dc bytes pc (.lxor) 1 pc')  (K : Goes p e below W T (mkF m pc' Ls (.long (x ^^^ y) :: st))) : Goes p e below W T (mkF m pc Ls (.long y :: .long x :: st)) := by
  obtain ⟨d, rfl⟩ := d
  exact Goes.via (fun _ k => XT.lxor X.here C.hx rfl (hb C.hby d) rfl k) K
theorem g_idiv {x y : Int32} (C : Cx p s m meth c Z own nm bytes maxL ret) (X : St p l e R s m A below meth c Z T h cells slots) (d : Dc bytes pc (.idiv) 1 pc') (hy : y ≠ 0) (K : Goes p e below W T (mkF m pc' Ls (.int (x / y) :: st))) : Goes p e below W T (mkF m pc Ls (.int y :: .int x :: st)) := by
  obtain ⟨d, rfl⟩ := d
  exact Goes.via (fun _ k => XS.idiv X.here C.hx rfl (hb C.hby d) rfl hy k) K
theorem g_ldiv {x y : Int64} (C : Cx p s m meth c Z own nm bytes maxL ret) (X : St p l e R s m A below meth c Z T h cells slots) (d : Dc bytes pc (.ldiv) 1 pc') (hy : y ≠ 0) (K : Goes p e below W T (mkF m pc' Ls (.long (x / y) :: st))) : Goes p e below W T (mkF m pc Ls (.long y :: .long x :: st)) := by
  obtain ⟨d, rfl⟩ := d
  exact Goes.via (fun _ k => XT.ldiv X.here C.hx rfl (hb C.hby d) rfl hy k) K
theorem g_ineg {x : Int32} (C : Cx p s m meth c Z own nm bytes maxL ret) (X : St p l e R s m A below meth c Z T h cells slots) (d : Dc bytes pc (.ineg) 1 pc')  (K : Goes p e below W T (mkF m pc' Ls (.int (-x) :: st))) : Goes p e below W T (mkF m pc Ls (.int x :: st)) := by
  obtain ⟨d, rfl⟩ := d
  exact Goes.via (fun _ k => XS.ineg X.here C.hx rfl (hb C.hby d) rfl k) K
theorem g_lneg {x : Int64} (C : Cx p s m meth c Z own nm bytes maxL ret) (X : St p l e R s m A below meth c Z T h cells slots) (d : Dc bytes pc (.lneg) 1 pc')  (K : Goes p e below W T (mkF m pc' Ls (.long (-x) :: st))) : Goes p e below W T (mkF m pc Ls (.long x :: st)) := by
  obtain ⟨d, rfl⟩ := d
  exact Goes.via (fun _ k => XT.lneg X.here C.hx rfl (hb C.hby d) rfl k) K
theorem g_ishl {x y : Int32} (C : Cx p s m meth c Z own nm bytes maxL ret) (X : St p l e R s m A below meth c Z T h cells slots) (d : Dc bytes pc (.ishl) 1 pc')  (K : Goes p e below W T (mkF m pc' Ls (.int (x <<< (y &&& 31)) :: st))) : Goes p e below W T (mkF m pc Ls (.int y :: .int x :: st)) := by
  obtain ⟨d, rfl⟩ := d
  exact Goes.via (fun _ k => XT.ishl X.here C.hx rfl (hb C.hby d) rfl k) K
theorem g_ishr {x y : Int32} (C : Cx p s m meth c Z own nm bytes maxL ret) (X : St p l e R s m A below meth c Z T h cells slots) (d : Dc bytes pc (.ishr) 1 pc')  (K : Goes p e below W T (mkF m pc' Ls (.int (x >>> (y &&& 31)) :: st))) : Goes p e below W T (mkF m pc Ls (.int y :: .int x :: st)) := by
  obtain ⟨d, rfl⟩ := d
  exact Goes.via (fun _ k => XT.ishr X.here C.hx rfl (hb C.hby d) rfl k) K
theorem g_iushr {x y : Int32} (C : Cx p s m meth c Z own nm bytes maxL ret) (X : St p l e R s m A below meth c Z T h cells slots) (d : Dc bytes pc (.iushr) 1 pc')  (K : Goes p e below W T (mkF m pc' Ls (.int ((x.toUInt32 >>> (y &&& 31).toUInt32).toInt32) :: st))) : Goes p e below W T (mkF m pc Ls (.int y :: .int x :: st)) := by
  obtain ⟨d, rfl⟩ := d
  exact Goes.via (fun _ k => XT.iushr X.here C.hx rfl (hb C.hby d) rfl k) K
theorem g_lshl {x : Int64} {y : Int32} (C : Cx p s m meth c Z own nm bytes maxL ret) (X : St p l e R s m A below meth c Z T h cells slots) (d : Dc bytes pc (.lshl) 1 pc')  (K : Goes p e below W T (mkF m pc' Ls (.long (x <<< (y &&& 0x3f).toInt64) :: st))) : Goes p e below W T (mkF m pc Ls (.int y :: .long x :: st)) := by
  obtain ⟨d, rfl⟩ := d
  exact Goes.via (fun _ k => XS.lshl X.here C.hx rfl (hb C.hby d) rfl k) K
theorem g_lshr {x : Int64} {y : Int32} (C : Cx p s m meth c Z own nm bytes maxL ret) (X : St p l e R s m A below meth c Z T h cells slots) (d : Dc bytes pc (.lshr) 1 pc')  (K : Goes p e below W T (mkF m pc' Ls (.long (x >>> (y &&& 0x3f).toInt64) :: st))) : Goes p e below W T (mkF m pc Ls (.int y :: .long x :: st)) := by
  obtain ⟨d, rfl⟩ := d
  exact Goes.via (fun _ k => XS.lshr X.here C.hx rfl (hb C.hby d) rfl k) K
theorem g_lushr {x : Int64} {y : Int32} (C : Cx p s m meth c Z own nm bytes maxL ret) (X : St p l e R s m A below meth c Z T h cells slots) (d : Dc bytes pc (.lushr) 1 pc')  (K : Goes p e below W T (mkF m pc' Ls (.long ((x.toUInt64 >>> (y &&& 0x3f).toInt64.toUInt64).toInt64) :: st))) : Goes p e below W T (mkF m pc Ls (.int y :: .long x :: st)) := by
  obtain ⟨d, rfl⟩ := d
  exact Goes.via (fun _ k => XS.lushr X.here C.hx rfl (hb C.hby d) rfl k) K
theorem g_i2l {x : Int32} (C : Cx p s m meth c Z own nm bytes maxL ret) (X : St p l e R s m A below meth c Z T h cells slots) (d : Dc bytes pc (.i2l) 1 pc')  (K : Goes p e below W T (mkF m pc' Ls (.long x.toInt64 :: st))) : Goes p e below W T (mkF m pc Ls (.int x :: st)) := by
  obtain ⟨d, rfl⟩ := d
  exact Goes.via (fun _ k => XT.i2l X.here C.hx rfl (hb C.hby d) rfl k) K
theorem g_l2i {x : Int64} (C : Cx p s m meth c Z own nm bytes maxL ret) (X : St p l e R s m A below meth c Z T h cells slots) (d : Dc bytes pc (.l2i) 1 pc')  (K : Goes p e below W T (mkF m pc' Ls (.int x.toInt32 :: st))) : Goes p e below W T (mkF m pc Ls (.long x :: st)) := by
  obtain ⟨d, rfl⟩ := d
  exact Goes.via (fun _ k => XT.l2i X.here C.hx rfl (hb C.hby d) rfl k) K
theorem g_i2b {x : Int32} (C : Cx p s m meth c Z own nm bytes maxL ret) (X : St p l e R s m A below meth c Z T h cells slots) (d : Dc bytes pc (.i2b) 1 pc')  (K : Goes p e below W T (mkF m pc' Ls (.int x.toInt8.toInt32 :: st))) : Goes p e below W T (mkF m pc Ls (.int x :: st)) := by
  obtain ⟨d, rfl⟩ := d
  exact Goes.via (fun _ k => XT.i2b X.here C.hx rfl (hb C.hby d) rfl k) K
theorem g_i2s {x : Int32} (C : Cx p s m meth c Z own nm bytes maxL ret) (X : St p l e R s m A below meth c Z T h cells slots) (d : Dc bytes pc (.i2s) 1 pc')  (K : Goes p e below W T (mkF m pc' Ls (.int x.toInt16.toInt32 :: st))) : Goes p e below W T (mkF m pc Ls (.int x :: st)) := by
  obtain ⟨d, rfl⟩ := d
  exact Goes.via (fun _ k => XT.i2s X.here C.hx rfl (hb C.hby d) rfl k) K
theorem g_i2c {x : Int32} (C : Cx p s m meth c Z own nm bytes maxL ret) (X : St p l e R s m A below meth c Z T h cells slots) (d : Dc bytes pc (.i2c) 1 pc')  (K : Goes p e below W T (mkF m pc' Ls (.int x.toUInt32.toUInt16.toUInt32.toInt32 :: st))) : Goes p e below W T (mkF m pc Ls (.int x :: st)) := by
  obtain ⟨d, rfl⟩ := d
  exact Goes.via (fun _ k => XT.i2c X.here C.hx rfl (hb C.hby d) rfl k) K
theorem g_lcmp {x y : Int64} (C : Cx p s m meth c Z own nm bytes maxL ret) (X : St p l e R s m A below meth c Z T h cells slots) (d : Dc bytes pc (.lcmp) 1 pc')  (K : Goes p e below W T (mkF m pc' Ls (.int (lcmpW x y) :: st))) : Goes p e below W T (mkF m pc Ls (.long y :: .long x :: st)) := by
  obtain ⟨d, rfl⟩ := d
  exact Goes.via (fun _ k => XT.lcmp X.here C.hx rfl (hb C.hby d) rfl k) K
theorem g_pop {x : Value} (C : Cx p s m meth c Z own nm bytes maxL ret) (X : St p l e R s m A below meth c Z T h cells slots) (d : Dc bytes pc (.pop) 1 pc') (hc : x.category = 1) (K : Goes p e below W T (mkF m pc' Ls st)) : Goes p e below W T (mkF m pc Ls (x :: st)) := by
  obtain ⟨d, rfl⟩ := d
  exact Goes.via (fun _ k => XT.pop X.here C.hx rfl (hb C.hby d) rfl hc k) K
theorem g_dup {x : Value} (C : Cx p s m meth c Z own nm bytes maxL ret) (X : St p l e R s m A below meth c Z T h cells slots) (d : Dc bytes pc (.dup) 1 pc') (hc : x.category = 1) (K : Goes p e below W T (mkF m pc' Ls (x :: x :: st))) : Goes p e below W T (mkF m pc Ls (x :: st)) := by
  obtain ⟨d, rfl⟩ := d
  exact Goes.via (fun _ k => XS.dup X.here C.hx rfl (hb C.hby d) rfl hc k) K
theorem g_dup_x1 {x y : Value} (C : Cx p s m meth c Z own nm bytes maxL ret) (X : St p l e R s m A below meth c Z T h cells slots) (d : Dc bytes pc (.dup_x1) 1 pc') (hc : x.category = 1) (hc' : y.category = 1) (K : Goes p e below W T (mkF m pc' Ls (x :: y :: x :: st))) : Goes p e below W T (mkF m pc Ls (x :: y :: st)) := by
  obtain ⟨d, rfl⟩ := d
  exact Goes.via (fun _ k => XT.dupX1 X.here C.hx rfl (hb C.hby d) rfl hc hc' k) K
theorem g_dup2 {x y : Value} (C : Cx p s m meth c Z own nm bytes maxL ret) (X : St p l e R s m A below meth c Z T h cells slots) (d : Dc bytes pc (.dup2) 1 pc') (hc : x.category = 1) (hc' : y.category = 1) (K : Goes p e below W T (mkF m pc' Ls (x :: y :: x :: y :: st))) : Goes p e below W T (mkF m pc Ls (x :: y :: st)) := by
  obtain ⟨d, rfl⟩ := d
  exact Goes.via (fun _ k => XT.dup2 X.here C.hx rfl (hb C.hby d) rfl hc hc' k) K
theorem g_dup2L {x : Int64} (C : Cx p s m meth c Z own nm bytes maxL ret) (X : St p l e R s m A below meth c Z T h cells slots) (d : Dc bytes pc (.dup2) 1 pc')  (K : Goes p e below W T (mkF m pc' Ls (.long x :: .long x :: st))) : Goes p e below W T (mkF m pc Ls (.long x :: st)) := by
  obtain ⟨d, rfl⟩ := d
  exact Goes.via (fun _ k => XT.dup2L X.here C.hx rfl (hb C.hby d) rfl k) K
theorem g_irem {x y : Int32} (C : Cx p s m meth c Z own nm bytes maxL ret) (X : St p l e R s m A below meth c Z T h cells slots) (d : Dc bytes pc .irem 1 pc') (hy : y ≠ 0) (K : Goes p e below W T (mkF m pc' Ls (.int (x % y) :: st))) : Goes p e below W T (mkF m pc Ls (.int y :: .int x :: st)) := by
  obtain ⟨d, rfl⟩ := d
  obtain ⟨_, Y, _⟩ := X
  exact Goes.via (fun _ k => iremM Y C.hx rfl (hb C.hby d) rfl hy k) K
theorem g_lrem {x y : Int64} (C : Cx p s m meth c Z own nm bytes maxL ret) (X : St p l e R s m A below meth c Z T h cells slots) (d : Dc bytes pc .lrem 1 pc') (hy : y ≠ 0) (K : Goes p e below W T (mkF m pc' Ls (.long (x % y) :: st))) : Goes p e below W T (mkF m pc Ls (.long y :: .long x :: st)) := by
  obtain ⟨d, rfl⟩ := d
  rw [← lrem_mod] at K
  exact Goes.via (fun _ k => XT.lrem X.here C.hx rfl (hb C.hby d) rfl hy k) K
theorem g_ldcI {index : Nat} {v : Int32} (C : Cx p s m meth c Z own nm bytes maxL ret) (X : St p l e R s m A below meth c Z T h cells slots) (w : (Jvm.Cond.constant own index v).before a0 Z = true) (d : Dc bytes pc (.ldc index) 2 pc') (K : Goes p e below W T (mkF m pc' Ls (.int v :: st))) : Goes p e below W T (mkF m pc Ls st) := by
  obtain ⟨d, rfl⟩ := d
  obtain ⟨_, Y, _⟩ := X
  exact Goes.via (fun t k => Y.ldcInt C.hx C.hown (mvT C.hZ w) (g := mkF m pc Ls st) rfl (hb C.hby d) t k) K
theorem g_ldcwI {index : Nat} {v : Int32} (C : Cx p s m meth c Z own nm bytes maxL ret) (X : St p l e R s m A below meth c Z T h cells slots) (w : (Jvm.Cond.constant own index v).before a0 Z = true) (d : Dc bytes pc (.ldc_w index) 3 pc') (K : Goes p e below W T (mkF m pc' Ls (.int v :: st))) : Goes p e below W T (mkF m pc Ls st) := by
  obtain ⟨d, rfl⟩ := d
  obtain ⟨_, Y, _⟩ := X
  exact Goes.via (fun t k => Y.ldcWI C.hx C.hown (mvT C.hZ w) (g := mkF m pc Ls st) rfl (hb C.hby d) k) K
theorem g_ldcJ {index : Nat} {v : Int64} (C : Cx p s m meth c Z own nm bytes maxL ret) (X : St p l e R s m A below meth c Z T h cells slots) (w : (Jvm.Cond.constantLong own index v).before a0 Z = true) (d : Dc bytes pc (.ldc2_w index) 3 pc') (K : Goes p e below W T (mkF m pc' Ls (.long v :: st))) : Goes p e below W T (mkF m pc Ls st) := by
  obtain ⟨d, rfl⟩ := d
  obtain ⟨_, Y, _⟩ := X
  exact Goes.via (fun t k => Y.ldc2Long C.hx C.hown (mvT C.hZ w) (g := mkF m pc Ls st) rfl (hb C.hby d) t k) K
theorem g_getstatic {R0 O n dd host : String} {index : Nat} {v : Value} (C : Cx p s m meth c Z own nm bytes maxL ret) (X : St p l e R s m A below meth c Z T h cells slots) (w : (Jvm.Cond.fieldLink own index R0 n dd).before a0 Z = true ∨ (Jvm.Cond.fieldLinkNest own index R0 n dd host).before a0 Z = true) (via : Via Z R0 O n dd) (F : Sta Z Z.heap O n dd v) (d : Dc bytes pc (.getstatic index) 3 pc')
    (K : ∀ T', St p l e R s m A below meth c Z T' h cells slots → Goes p e below W T' (mkF m pc' Ls (v :: st))) : Goes p e below W T (mkF m pc Ls st) := by
  obtain ⟨d, rfl⟩ := d
  obtain ⟨L, Y, eT, N, E⟩ := X
  obtain ⟨T', Y', e', q⟩ := getS2 Y C.hx C.hZ C.hown w via eT (F.ext E) (g := mkF m pc Ls st) rfl (hb C.hby d)
  exact Goes.via q (K T' ⟨L, Y', e', N, E⟩)
theorem g_getfield {R0 O n dd host : String} {index : Nat} {a : Addr} {v : Value} (C : Cx p s m meth c Z own nm bytes maxL ret) (X : St p l e R s m A below meth c Z T h cells slots) (w : (Jvm.Cond.fieldLink own index R0 n dd).before a0 Z = true ∨ (Jvm.Cond.fieldLinkNest own index R0 n dd host).before a0 Z = true) (via : Via Z R0 O n dd) (F : Fld Z h a O n dd v) (d : Dc bytes pc (.getfield index) 3 pc')
    (K : ∀ T', St p l e R s m A below meth c Z T' h cells slots → Goes p e below W T' (mkF m pc' Ls (v :: st))) : Goes p e below W T (mkF m pc Ls (.ref a :: st)) := by
  obtain ⟨d, rfl⟩ := d
  obtain ⟨L, Y, eT, N, E⟩ := X
  obtain ⟨T', Y', e', q⟩ := getF Y C.hx C.hZ C.hown w via eT F (g := mkF m pc Ls (.ref a :: st)) rfl rfl (hb C.hby d)
  exact Goes.via q (K T' ⟨L, Y', e', N, E⟩)
theorem ext_wr {h h' : Heap} {a : Addr} {sl : Nat} {v : Value} (E : Ext Z.heap h) (w : Wr h h' a sl v) (q : Z.heap.size ≤ a) : Ext Z.heap h' := (Old.wr (Z := Z) (n0 := Z.heap.size) (h := h) ⟨rfl, E⟩ w q).2
theorem ext_keep {h h' : Heap} {ws : List Addr} (E : Ext Z.heap h) (w : Keep h h' ws) (q : ∀ x ∈ ws, Z.heap.size ≤ x) : Ext Z.heap h' := (Old.keep (Z := Z) (n0 := Z.heap.size) (h := h) ⟨rfl, E⟩ w q).2
theorem ext_trans {h h' : Heap} (E : Ext Z.heap h) (E' : Ext h h') : Ext Z.heap h' := ⟨Nat.le_trans E.1 E'.1, fun x c q => E'.2 x c (E.2 x c q)⟩
theorem g_putfield {R0 O n dd host K0 : String} {index kk : Nat} {ty : FieldType} {a : Addr} {v old : Value} (C : Cx p s m meth c Z own nm bytes maxL ret) (X : St p l e R s m A below meth c Z T h cells slots) (w : (Jvm.Cond.fieldLink own index R0 n dd).before a0 Z = true ∨ (Jvm.Cond.fieldLinkNest own index R0 n dd host).before a0 Z = true) (via : Via Z R0 O n dd)
    (F : Fld Z h a O n dd old) (Ex : Exa Z h a K0) (L : (Jvm.Cond.lays K0 O n dd).before a0 Z = true ∨ ((Jvm.Cond.laysFinal K0 O n dd).before a0 Z = true ∧ own = O ∧ nm = "<init>")) (wi : (Jvm.Cond.instantiable K0 kk).before a0 Z = true) (hty : parseFieldDescriptor dd = some ty) (hn : narrow ty v = v) (hf : fits ty v = true) (hnew : Z.heap.size ≤ a) (d : Dc bytes pc (.putfield index) 3 pc')
    (K : ∀ T' h', St p l e R s m A below meth c Z T' h' cells slots → Wr h h' a (RoadKit.slotOf Z O n dd) v → Goes p e below W T' (mkF m pc' Ls st)) : Goes p e below W T (mkF m pc Ls (v :: .ref a :: st)) := by
  obtain ⟨d, rfl⟩ := d
  obtain ⟨L0, Y, eT, N, E⟩ := X
  obtain ⟨T', h', Y', e', W', q⟩ := putF Y C.hx C.hZ C.hown w via eT F Ex (L.imp id fun z => ⟨z.1, z.2.1, C.hnm.trans z.2.2⟩) wi hty hn hf (g := mkF m pc Ls (v :: .ref a :: st)) rfl rfl (hb C.hby d)
  exact Goes.via q (K T' h' ⟨_, Y', e', Fr.snoc Y' N hnew, ext_wr E W' hnew⟩ W')
theorem g_new {K0 : String} {index n : Nat} (C : Cx p s m meth c Z own nm bytes maxL ret) (X : St p l e R s m A below meth c Z T h cells slots) (w : (Jvm.Cond.classLink own index K0).before a0 Z = true) (wi : (Jvm.Cond.instantiable K0 n).before a0 Z = true) (wz : (Jvm.Cond.initialized K0).before a0 Z = true) (d : Dc bytes pc (.new index) 3 pc') (hc : cells + 1 ≤ R.cells) (hl : slots + n ≤ R.slots)
    (K : ∀ T' h' b, b = h.size → Z.heap.size ≤ b → St p l e R s m A below meth c Z T' h' (cells + 1) (slots + n) → Ext h h' → Exa Z h' b K0 → (∀ {O f dd : String} {ty : FieldType}, Laid Z a0 K0 O f dd → parseFieldDescriptor dd = some ty → Fld Z h' b O f dd (defaultValue ty)) → (∃ cell : Cell, h'[b]? = some cell ∧ cell.vm = .none ∧ cell.monitor = {}) → Goes p e below W T' (mkF m pc' Ls (.ref b :: st))) : Goes p e below W T (mkF m pc Ls st) := by
  obtain ⟨d, rfl⟩ := d
  obtain ⟨L0, Y, eT, N, E⟩ := X
  obtain ⟨T', h', Y', e', E', A', D', M', q⟩ := newO Y C.hx C.hZ C.hown w wi wz eT (g := mkF m pc Ls st) rfl (hb C.hby d) hc hl
  exact Goes.via q (K T' h' _ rfl E.1 ⟨_, Y', e', N, ext_trans E E'⟩ E' A' D' M')
theorem g_newarray {aty : ArrayType} {n : Int32} (C : Cx p s m meth c Z own nm bytes maxL ret) (X : St p l e R s m A below meth c Z T h cells slots) (w : (Jvm.Cond.arrayClass (newarray.typeOf aty)).before a0 Z = true) (d : Dc bytes pc (.newarray aty) 2 pc') (hn : ¬ n < 0) (len cap : Nat) (hcap : n.toNatClampNeg ≤ cap) (hb' : cap * 8 ≤ 536870912) (hc : cells + 1 ≤ R.cells) (hl : slots + cap ≤ R.slots)
    (K : ∀ T' h' b k, b = h.size → Z.heap.size ≤ b → St p l e R s m A below meth c Z T' h' (cells + 1) (slots + cap) → Ext h h' → Arv Z h' b k (newarray.typeOf aty) n (List.replicate len (defaultValue (newarray.typeOf aty))) (defaultValue (newarray.typeOf aty)) → Goes p e below W T' (mkF m pc' Ls (.ref b :: st))) : Goes p e below W T (mkF m pc Ls (.int n :: st)) := by
  obtain ⟨d, rfl⟩ := d
  obtain ⟨L0, Y, eT, N, E⟩ := X
  obtain ⟨T', h', k, Y', e', E', A', q⟩ := newP Y C.hx C.hZ w eT (g := mkF m pc Ls (.int n :: st)) rfl (hb C.hby d) rfl hn hcap hb' hc hl
  exact Goes.via q (K T' h' _ k rfl E.1 ⟨_, Y', e', N, ext_trans E E'⟩ E' ((Arv.new A' hn).pad (pad_rep [] _ len)))
theorem g_checkcast {K0 : String} {index : Nat} {a : Addr} (C : Cx p s m meth c Z own nm bytes maxL ret) (X : St p l e R s m A below meth c Z T h cells slots) (w : (Jvm.Cond.classLink own index K0).before a0 Z = true) (F : Ins Z h a K0 true) (d : Dc bytes pc (.checkcast index) 3 pc')
    (K : ∀ T', St p l e R s m A below meth c Z T' h cells slots → Goes p e below W T' (mkF m pc' Ls (.ref a :: st))) : Goes p e below W T (mkF m pc Ls (.ref a :: st)) := by
  obtain ⟨d, rfl⟩ := d
  obtain ⟨L, Y, eT, N, E⟩ := X
  obtain ⟨T', Y', e', q⟩ := castY Y C.hx C.hZ C.hown w eT F (g := mkF m pc Ls (.ref a :: st)) rfl rfl (hb C.hby d)
  exact Goes.via q (K T' ⟨L, Y', e', N, E⟩)
theorem g_checkcastN {index : Nat} (C : Cx p s m meth c Z own nm bytes maxL ret) (X : St p l e R s m A below meth c Z T h cells slots) (d : Dc bytes pc (.checkcast index) 3 pc') (K : Goes p e below W T (mkF m pc' Ls (.null :: st))) : Goes p e below W T (mkF m pc Ls (.null :: st)) := by
  obtain ⟨d, rfl⟩ := d
  obtain ⟨L, Y, eT, N, E⟩ := X
  exact Goes.via (Y.checkcastNull C.hx (g := mkF m pc Ls (.null :: st)) rfl rfl (hb C.hby d)) K
theorem g_instanceY {K0 : String} {index : Nat} {a : Addr} (C : Cx p s m meth c Z own nm bytes maxL ret) (X : St p l e R s m A below meth c Z T h cells slots) (w : (Jvm.Cond.classLink own index K0).before a0 Z = true) (F : Ins Z h a K0 true) (d : Dc bytes pc (.instanceof index) 3 pc')
    (K : ∀ T', St p l e R s m A below meth c Z T' h cells slots → Goes p e below W T' (mkF m pc' Ls (.int 1 :: st))) : Goes p e below W T (mkF m pc Ls (.ref a :: st)) := by
  obtain ⟨d, rfl⟩ := d
  obtain ⟨L, Y, eT, N, E⟩ := X
  obtain ⟨T', Y', e', q⟩ := instY Y C.hx C.hZ C.hown w eT F (g := mkF m pc Ls (.ref a :: st)) rfl rfl (hb C.hby d)
  exact Goes.via q (K T' ⟨L, Y', e', N, E⟩)
theorem g_instanceN {index : Nat} (C : Cx p s m meth c Z own nm bytes maxL ret) (X : St p l e R s m A below meth c Z T h cells slots) (d : Dc bytes pc (.instanceof index) 3 pc') (K : Goes p e below W T (mkF m pc' Ls (.int 0 :: st))) : Goes p e below W T (mkF m pc Ls (.null :: st)) := by
  obtain ⟨d, rfl⟩ := d
  obtain ⟨L, Y, eT, N, E⟩ := X
  exact Goes.via (Y.instanceofNull C.hx (g := mkF m pc Ls (.null :: st)) rfl rfl (hb C.hby d)) K
theorem keep_ext {h h' : Heap} (K : Keep h h' []) : Ext h h' := ⟨K.1, fun x c q => K.2.1 x c q nin0⟩
theorem ext_keep0 {h h' : Heap} (E : Ext h h') (ws : List Addr) : Keep h h' ws := (Keep.refl h ws).ext E
/-- a place of an array -/
theorem in_of {n j : Int32} {c : Cell} (S : c.slots.size = n.toNatClampNeg) (hj : ¬ j < 0) (hj' : j < n) : ¬ (j < 0 ∨ c.slots.size ≤ j.toNatClampNeg) := inb_of S ⟨hj, hj'⟩
theorem g_arraylength {a : Addr} {k : ClassId} {ty : FieldType} {n : Int32} {vs : List Value} {dv : Value} (C : Cx p s m meth c Z own nm bytes maxL ret) (X : St p l e R s m A below meth c Z T h cells slots) (F : Arv Z h a k ty n vs dv) (d : Dc bytes pc .arraylength 1 pc') (K : Goes p e below W T (mkF m pc' Ls (.int n :: st))) : Goes p e below W T (mkF m pc Ls (.ref a :: st)) := by
  obtain ⟨d, rfl⟩ := d
  obtain ⟨L0, Y, eT, N, E⟩ := X
  obtain ⟨cl, Ar, -, hS, hN, -, -⟩ := F
  rw [← len_of hS hN] at K
  exact Goes.via (Y.arraylength C.hx (by rw [eT]; exact Ar.1) (State.isArrayOf_alike C.hZ.alike Ar.2.1) (g := mkF m pc Ls (.ref a :: st)) rfl rfl (hb C.hby d)) K
theorem g_iaload {a : Addr} {k : ClassId} {n j : Int32} {vs : List Value} {dv : Value} {v : Int32} (C : Cx p s m meth c Z own nm bytes maxL ret) (X : St p l e R s m A below meth c Z T h cells slots) (F : Arv Z h a k .int n vs dv) (d : Dc bytes pc .iaload 1 pc') (hj : ¬ j < 0) (hj' : j < n) (hv : vs.getD j.toNatClampNeg dv = .int v) (K : Goes p e below W T (mkF m pc' Ls (.int v :: st))) : Goes p e below W T (mkF m pc Ls (.int j :: .ref a :: st)) := by
  obtain ⟨d, rfl⟩ := d
  obtain ⟨L0, Y, eT, N, E⟩ := X
  obtain ⟨cl, Ar, -, hS, hN, hH, -⟩ := F
  have hin := in_of hS hj hj'
  exact Goes.via (Y.iaload C.hx (j := j) (v := .int v) (by rw [eT]; exact Ar.1) (State.isArrayOf_alike C.hZ.alike Ar.2.1) Ar.2.2 hin (hH.at hin hv) (g := mkF m pc Ls (.int j :: .ref a :: st)) rfl rfl (hb C.hby d)) K
theorem g_caload {a : Addr} {k : ClassId} {n j : Int32} {vs : List Value} {dv : Value} {v : Int32} (C : Cx p s m meth c Z own nm bytes maxL ret) (X : St p l e R s m A below meth c Z T h cells slots) (F : Arv Z h a k .char n vs dv) (d : Dc bytes pc .caload 1 pc') (hj : ¬ j < 0) (hj' : j < n) (hv : vs.getD j.toNatClampNeg dv = .int v) (K : Goes p e below W T (mkF m pc' Ls (.int v :: st))) : Goes p e below W T (mkF m pc Ls (.int j :: .ref a :: st)) := by
  obtain ⟨d, rfl⟩ := d
  obtain ⟨L0, Y, eT, N, E⟩ := X
  obtain ⟨cl, Ar, -, hS, hN, hH, -⟩ := F
  have hin := in_of hS hj hj'
  exact Goes.via (Y.caload C.hx (j := j) (v := .int v) (by rw [eT]; exact Ar.1) (State.isArrayOf_alike C.hZ.alike Ar.2.1) Ar.2.2 hin (hH.at hin hv) (g := mkF m pc Ls (.int j :: .ref a :: st)) rfl rfl (hb C.hby d)) K
theorem g_saload {a : Addr} {k : ClassId} {n j : Int32} {vs : List Value} {dv : Value} {v : Int32} (C : Cx p s m meth c Z own nm bytes maxL ret) (X : St p l e R s m A below meth c Z T h cells slots) (F : Arv Z h a k .short n vs dv) (d : Dc bytes pc .saload 1 pc') (hj : ¬ j < 0) (hj' : j < n) (hv : vs.getD j.toNatClampNeg dv = .int v) (K : Goes p e below W T (mkF m pc' Ls (.int v :: st))) : Goes p e below W T (mkF m pc Ls (.int j :: .ref a :: st)) := by
  obtain ⟨d, rfl⟩ := d
  obtain ⟨L0, Y, eT, N, E⟩ := X
  obtain ⟨cl, Ar, -, hS, hN, hH, -⟩ := F
  have hin := in_of hS hj hj'
  exact Goes.via (Y.saload C.hx (j := j) (v := .int v) (by rw [eT]; exact Ar.1) (State.isArrayOf_alike C.hZ.alike Ar.2.1) Ar.2.2 hin (hH.at hin hv) (g := mkF m pc Ls (.int j :: .ref a :: st)) rfl rfl (hb C.hby d)) K
theorem g_baload {a : Addr} {k : ClassId} {n j : Int32} {vs : List Value} {dv : Value} {v : Int32} (C : Cx p s m meth c Z own nm bytes maxL ret) (X : St p l e R s m A below meth c Z T h cells slots) (F : Arv Z h a k .byte n vs dv) (d : Dc bytes pc .baload 1 pc') (hj : ¬ j < 0) (hj' : j < n) (hv : vs.getD j.toNatClampNeg dv = .int v) (K : Goes p e below W T (mkF m pc' Ls (.int v :: st))) : Goes p e below W T (mkF m pc Ls (.int j :: .ref a :: st)) := by
  obtain ⟨d, rfl⟩ := d
  obtain ⟨L0, Y, eT, N, E⟩ := X
  obtain ⟨cl, Ar, -, hS, hN, hH, -⟩ := F
  have hin := in_of hS hj hj'
  exact Goes.via (Y.baloadBytes C.hx (j := j) (v := .int v) (by rw [eT]; exact Ar.1) (State.isArrayOf_alike C.hZ.alike Ar.2.1) Ar.2.2 hin (hH.at hin hv) (g := mkF m pc Ls (.int j :: .ref a :: st)) rfl rfl (hb C.hby d)) K
theorem g_laload {a : Addr} {k : ClassId} {n j : Int32} {vs : List Value} {dv : Value} {v : Int64} (C : Cx p s m meth c Z own nm bytes maxL ret) (X : St p l e R s m A below meth c Z T h cells slots) (F : Arv Z h a k .long n vs dv) (d : Dc bytes pc .laload 1 pc') (hj : ¬ j < 0) (hj' : j < n) (hv : vs.getD j.toNatClampNeg dv = .long v) (K : Goes p e below W T (mkF m pc' Ls (.long v :: st))) : Goes p e below W T (mkF m pc Ls (.int j :: .ref a :: st)) := by
  obtain ⟨d, rfl⟩ := d
  obtain ⟨L0, Y, eT, N, E⟩ := X
  obtain ⟨cl, Ar, -, hS, hN, hH, -⟩ := F
  have hin := in_of hS hj hj'
  exact Goes.via (Y.laload C.hx (j := j) (v := .long v) (by rw [eT]; exact Ar.1) (State.isArrayOf_alike C.hZ.alike Ar.2.1) Ar.2.2 hin (hH.at hin hv) (g := mkF m pc Ls (.int j :: .ref a :: st)) rfl rfl (hb C.hby d)) K
theorem g_aaload {a : Addr} {k : ClassId} {ty : FieldType} {n j : Int32} {vs : List Value} {dv v : Value} (C : Cx p s m meth c Z own nm bytes maxL ret) (X : St p l e R s m A below meth c Z T h cells slots) (F : Arv Z h a k ty n vs dv) (hty : ty.isReference = true) (d : Dc bytes pc .aaload 1 pc') (hj : ¬ j < 0) (hj' : j < n) (hv : vs.getD j.toNatClampNeg dv = v) (K : Goes p e below W T (mkF m pc' Ls (v :: st))) : Goes p e below W T (mkF m pc Ls (.int j :: .ref a :: st)) := by
  obtain ⟨d, rfl⟩ := d
  obtain ⟨L0, Y, eT, N, E⟩ := X
  obtain ⟨cl, Ar, -, hS, hN, hH, -⟩ := F
  have hin := in_of hS hj hj'
  exact Goes.via (Y.aaload C.hx (j := j) (v := v) (by rw [eT]; exact Ar.1) (State.isArrayOf_alike C.hZ.alike Ar.2.1) hty Ar.2.2 hin (hH.at hin hv) (g := mkF m pc Ls (.int j :: .ref a :: st)) rfl rfl (hb C.hby d)) K
theorem g_iastore {a : Addr} {k : ClassId} {n j : Int32} {vs : List Value} {dv : Value} {x : Int32} (C : Cx p s m meth c Z own nm bytes maxL ret) (X : St p l e R s m A below meth c Z T h cells slots) (F : Arv Z h a k .int n vs dv) (hnew : Z.heap.size ≤ a) (d : Dc bytes pc .iastore 1 pc') (hj : ¬ j < 0) (hj' : j < n) (hi : j.toNatClampNeg < vs.length) (y : Value) (hy : .int x = y)
    (K : ∀ T' h', St p l e R s m A below meth c Z T' h' cells slots → Wr h h' a j.toNatClampNeg y → Arv Z h' a k .int n (vs.set j.toNatClampNeg y) dv → Goes p e below W T' (mkF m pc' Ls st)) : Goes p e below W T (mkF m pc Ls (.int x :: .int j :: .ref a :: st)) := by
  subst hy
  obtain ⟨d, rfl⟩ := d
  obtain ⟨L0, Y, eT, N, E⟩ := X
  obtain ⟨cl, Ar, q1, hS, hN, hH, hG⟩ := F
  have hin := in_of hS hj hj'
  obtain ⟨T', h', Y', e', W', q⟩ := stI Y C.hx C.hZ eT Ar hin (g := mkF m pc Ls (.int x :: .int j :: .ref a :: st)) rfl rfl (hb C.hby d)
  exact Goes.via q (K T' h' ⟨_, Y', e', Fr.snoc Y' N hnew, ext_wr E W' hnew⟩ W' (Arv.set Ar q1 hS hN hH hG rfl W' _ rfl hi))
theorem g_castore {a : Addr} {k : ClassId} {n j : Int32} {vs : List Value} {dv : Value} {x : Int32} (C : Cx p s m meth c Z own nm bytes maxL ret) (X : St p l e R s m A below meth c Z T h cells slots) (F : Arv Z h a k .char n vs dv) (hnew : Z.heap.size ≤ a) (d : Dc bytes pc .castore 1 pc') (hj : ¬ j < 0) (hj' : j < n) (hi : j.toNatClampNeg < vs.length) (y : Value) (hy : .int (nar .char x) = y)
    (K : ∀ T' h', St p l e R s m A below meth c Z T' h' cells slots → Wr h h' a j.toNatClampNeg y → Arv Z h' a k .char n (vs.set j.toNatClampNeg y) dv → Goes p e below W T' (mkF m pc' Ls st)) : Goes p e below W T (mkF m pc Ls (.int x :: .int j :: .ref a :: st)) := by
  subst hy
  obtain ⟨d, rfl⟩ := d
  obtain ⟨L0, Y, eT, N, E⟩ := X
  obtain ⟨cl, Ar, q1, hS, hN, hH, hG⟩ := F
  have hin := in_of hS hj hj'
  obtain ⟨T', h', Y', e', W', q⟩ := stC Y C.hx C.hZ eT Ar hin (g := mkF m pc Ls (.int x :: .int j :: .ref a :: st)) rfl rfl (hb C.hby d)
  exact Goes.via q (K T' h' ⟨_, Y', e', Fr.snoc Y' N hnew, ext_wr E W' hnew⟩ W' (Arv.set Ar q1 hS hN hH hG (fits_nar_char _) W' _ rfl hi))
theorem g_sastore {a : Addr} {k : ClassId} {n j : Int32} {vs : List Value} {dv : Value} {x : Int32} (C : Cx p s m meth c Z own nm bytes maxL ret) (X : St p l e R s m A below meth c Z T h cells slots) (F : Arv Z h a k .short n vs dv) (hnew : Z.heap.size ≤ a) (d : Dc bytes pc .sastore 1 pc') (hj : ¬ j < 0) (hj' : j < n) (hi : j.toNatClampNeg < vs.length) (y : Value) (hy : .int (nar .short x) = y)
    (K : ∀ T' h', St p l e R s m A below meth c Z T' h' cells slots → Wr h h' a j.toNatClampNeg y → Arv Z h' a k .short n (vs.set j.toNatClampNeg y) dv → Goes p e below W T' (mkF m pc' Ls st)) : Goes p e below W T (mkF m pc Ls (.int x :: .int j :: .ref a :: st)) := by
  subst hy
  obtain ⟨d, rfl⟩ := d
  obtain ⟨L0, Y, eT, N, E⟩ := X
  obtain ⟨cl, Ar, q1, hS, hN, hH, hG⟩ := F
  have hin := in_of hS hj hj'
  obtain ⟨T', h', Y', e', W', q⟩ := stS Y C.hx C.hZ eT Ar hin (g := mkF m pc Ls (.int x :: .int j :: .ref a :: st)) rfl rfl (hb C.hby d)
  exact Goes.via q (K T' h' ⟨_, Y', e', Fr.snoc Y' N hnew, ext_wr E W' hnew⟩ W' (Arv.set Ar q1 hS hN hH hG (fits_nar_short _) W' _ rfl hi))
theorem g_bastore {a : Addr} {k : ClassId} {n j : Int32} {vs : List Value} {dv : Value} {x : Int32} (C : Cx p s m meth c Z own nm bytes maxL ret) (X : St p l e R s m A below meth c Z T h cells slots) (F : Arv Z h a k .byte n vs dv) (hnew : Z.heap.size ≤ a) (d : Dc bytes pc .bastore 1 pc') (hj : ¬ j < 0) (hj' : j < n) (hi : j.toNatClampNeg < vs.length) (y : Value) (hy : .int (nar .byte x) = y)
    (K : ∀ T' h', St p l e R s m A below meth c Z T' h' cells slots → Wr h h' a j.toNatClampNeg y → Arv Z h' a k .byte n (vs.set j.toNatClampNeg y) dv → Goes p e below W T' (mkF m pc' Ls st)) : Goes p e below W T (mkF m pc Ls (.int x :: .int j :: .ref a :: st)) := by
  subst hy
  obtain ⟨d, rfl⟩ := d
  obtain ⟨L0, Y, eT, N, E⟩ := X
  obtain ⟨cl, Ar, q1, hS, hN, hH, hG⟩ := F
  have hin := in_of hS hj hj'
  obtain ⟨T', h', Y', e', W', q⟩ := stB Y C.hx C.hZ eT Ar hin (g := mkF m pc Ls (.int x :: .int j :: .ref a :: st)) rfl rfl (hb C.hby d)
  exact Goes.via q (K T' h' ⟨_, Y', e', Fr.snoc Y' N hnew, ext_wr E W' hnew⟩ W' (Arv.set Ar q1 hS hN hH hG (fits_nar_byte _) W' _ rfl hi))
theorem g_lastore {a : Addr} {k : ClassId} {n j : Int32} {vs : List Value} {dv : Value} {x : Int64} (C : Cx p s m meth c Z own nm bytes maxL ret) (X : St p l e R s m A below meth c Z T h cells slots) (F : Arv Z h a k .long n vs dv) (hnew : Z.heap.size ≤ a) (d : Dc bytes pc .lastore 1 pc') (hj : ¬ j < 0) (hj' : j < n) (hi : j.toNatClampNeg < vs.length) (y : Value) (hy : .long x = y)
    (K : ∀ T' h', St p l e R s m A below meth c Z T' h' cells slots → Wr h h' a j.toNatClampNeg y → Arv Z h' a k .long n (vs.set j.toNatClampNeg y) dv → Goes p e below W T' (mkF m pc' Ls st)) : Goes p e below W T (mkF m pc Ls (.long x :: .int j :: .ref a :: st)) := by
  subst hy
  obtain ⟨d, rfl⟩ := d
  obtain ⟨L0, Y, eT, N, E⟩ := X
  obtain ⟨cl, Ar, q1, hS, hN, hH, hG⟩ := F
  have hin := in_of hS hj hj'
  obtain ⟨T', h', Y', e', W', q⟩ := stJ Y C.hx C.hZ eT Ar hin (g := mkF m pc Ls (.long x :: .int j :: .ref a :: st)) rfl rfl (hb C.hby d)
  exact Goes.via q (K T' h' ⟨_, Y', e', Fr.snoc Y' N hnew, ext_wr E W' hnew⟩ W' (Arv.set Ar q1 hS hN hH hG rfl W' _ rfl hi))
theorem st_back {T' : State} {h' : Heap} {k n : Nat} {B : Pt} {locs L : List Loc} (Y' : Stand p l e R s m A below meth c B.U B.locs B.cells B.slots) (hB : B.locs = locs ++ L ∧ B.cells = cells + k ∧ B.slots = slots + n) (N : Fr Z.heap.size locs) (N' : Fr Z.heap.size L) (E : Ext Z.heap B.U.heap) : St p l e R s m A below meth c Z B.U B.U.heap (cells + k) (slots + n) := by
  obtain ⟨b1, b2, b3⟩ := hB
  rw [b1, b2, b3] at Y'
  exact ⟨_, Y', rfl, N.app N', E⟩
theorem g_arraycopy {index : Nat} {a b : Addr} {k k' : ClassId} {ty : FieldType} {z z' sp dp nn : Int32} {vs vd : List Value} {dv dd : Value} (C : Cx p s m meth c Z own nm bytes maxL ret) (X : St p l e R s m A below meth c Z T h cells slots)
    (w1 : (Jvm.Cond.methodLink own index Jvm.Stand.acN).before a0 Z = true) (w2 : (Jvm.Cond.native Jvm.Stand.acN).before a0 Z = true) (w3 : (Jvm.Cond.static Jvm.Stand.acN).before a0 Z = true) (w4 : (Jvm.Cond.initialized "java/lang/System").before a0 Z = true)
    (F : Arv Z h a k ty z vs dv) (G : Arv Z h b k' ty z' vd dd) (hty : refKind ty = false) (h1 : ¬ sp < 0) (h2 : ¬ dp < 0) (h3 : ¬ nn < 0) (h4 : sp.toNatClampNeg + nn.toNatClampNeg ≤ z.toNatClampNeg) (h5 : dp.toNatClampNeg + nn.toNatClampNeg ≤ z'.toNatClampNeg)
    (us : List Value) (hus : us = (List.range nn.toNatClampNeg).map fun i => vs.getD (sp.toNatClampNeg + i) dv) (hl : dp.toNatClampNeg + nn.toNatClampNeg ≤ vd.length) (hnew : Z.heap.size ≤ b) (hsz : Ls.size = maxL) (d : Dc bytes pc (.invokestatic index) 3 pc') (hf : 1 ≤ R.frames) (W' : Nat) (hW : (st.map fun v => v.category).sum ≤ W') (hlo : W' + (nativeFrameWords "java/lang/System" "arraycopy" 5 + 11) ≤ R.locals)
    (K : ∀ T' h', St p l e R s m A below meth c Z T' h' cells slots → Keep h h' [b] → Arv Z h' b k' ty z' (vd.take dp.toNatClampNeg ++ us ++ vd.drop (dp.toNatClampNeg + nn.toNatClampNeg)) dd → Goes p e below W T' (mkF m pc' Ls st)) : Goes p e below W T (mkF m pc Ls (.int nn :: .int dp :: .ref b :: .int sp :: .ref a :: st)) := by
  obtain ⟨d, rfl⟩ := d
  obtain ⟨L0, Y, eT, N, E⟩ := X
  obtain ⟨T', h', L', Y', e', N', K', A', q⟩ := cpA Y C.hx C.hZ C.hown w1 w2 w3 w4 eT F G (Or.inl ⟨rfl, hty⟩) h1 h2 h3 h4 h5 hus hl N hnew (g := mkF m pc Ls (.int nn :: .int dp :: .ref b :: .int sp :: .ref a :: st)) rfl (hsz.trans C.hml.symm) rfl (hb C.hby d) hf (W := W') (by show 2 * 0 + _ ≤ _; omega) hlo
  exact Goes.via q (K T' h' ⟨L', Y', e', N', ext_keep E K' (allS hnew all0)⟩ K' A')
/-- a Back that serves a call: what a contract pays -/
def Pay (l : Launch) (R : Room) (p : Program) (e : Env) (below : List Frame) (s : State) (A : Array Value) (y : MethodName) (len W k n : Nat) (Z : State) (as' : Array Value) (h : Heap) (Q : Option Value → Heap → Prop) : Prop :=
  Back l R p e below s A y len W (fun P a => a = as' ∧ P.U.heap = h ∧ P.cells + k ≤ R.cells ∧ P.slots + n ≤ R.slots)
    (fun P _ v B => ∃ L, (Fr Z.heap.size L ∧ Ext Z.heap B.U.heap ∧ Q v B.U.heap) ∧ B.locs = P.locs ++ L ∧ B.cells = P.cells + k ∧ B.slots = P.slots + n)
theorem pay_of {y : MethodName} {bytes' : ByteArray} {maxL' len W' : Nat} {ret' : Option FieldType} {rm : Room} {as' : Array Value} {Q : Option Value → Heap → Prop} (hM : Con l y bytes' maxL' ret' [] rm Z as' h Q) (hZ : Z.Warmed39 s.vm) (wc : (Jvm.Cond.code y bytes' maxL' ret').before a0 Z = true) (wz : (Jvm.Cond.initialized y.cls).before a0 Z = true) (hf : rm.frames + 1 ≤ R.frames) (hl : W' + (maxL' + 11) + rm.locals ≤ R.locals) :
    Pay l R p e below s A y len W' rm.cells rm.slots Z as' h Q := backOf (Q := fun v h' L => Fr Z.heap.size L ∧ Ext Z.heap h' ∧ Q v h') hM hZ wc wz hf hl
theorem g_static {index k n : Nat} {y : MethodName} {bytes' : ByteArray} {maxL' W' : Nat} {ret' : Option FieldType} {argsL : List Value} {Q : Option Value → Heap → Prop} {ps : List FieldType} {rt : Option FieldType} (C : Cx p s m meth c Z own nm bytes maxL ret) (X : St p l e R s m A below meth c Z T h cells slots)
    (w1 : (Jvm.Cond.methodLink own index y).before a0 Z = true) (w2 : (Jvm.Cond.static y).before a0 Z = true) (w3 : (Jvm.Cond.initialized y.cls).before a0 Z = true) (w4 : (Jvm.Cond.code y bytes' maxL' ret').before a0 Z = true) (hy : y.cls ≠ "java/lang/invoke/MethodHandle" ∧ y.cls ≠ "java/lang/invoke/VarHandle")
    (hK : Pay l R p e below s A y 3 W' k n Z argsL.toArray h Q) (pd : parseMethodDescriptor y.desc = some ⟨ps, rt⟩) (hlen : argsL.length = ps.length) (hsz : Ls.size = maxL) (stk : List Value) (hst : stk = argsL.reverse ++ st) (hW : (st.map fun v => v.category).sum ≤ W') (d : Dc bytes pc (.invokestatic index) 3 pc') (hc : cells + k ≤ R.cells) (hs : slots + n ≤ R.slots)
    (K : ∀ T' h' v, Q v h' → St p l e R s m A below meth c Z T' h' (cells + k) (slots + n) → Goes p e below W T' (mkF m pc' Ls (v.toList ++ st))) : Goes p e below W T (mkF m pc Ls stk) := by
  obtain ⟨d, rfl⟩ := d
  obtain ⟨L0, Y, eT, N, E⟩ := X
  obtain ⟨v, vm₁, B, -, Y', ⟨L, ⟨N', E', hQ⟩, hB⟩, q⟩ := Jvm.LawKit.callS Y C.hx C.hown (mvT C.hZ w1) (mvT C.hZ w2) (mvT C.hZ w3) (mvT C.hZ w4) hy hK (g := mkF m pc Ls stk) rfl (hsz.trans C.hml.symm) (argsL := argsL) (rest := st) (lenOf pd hlen) hst (by show 2 * 0 + _ ≤ _; omega) (hb C.hby d) (fun _ _ => ⟨rfl, eT, hc, hs⟩)
  exact Goes.via q (K _ _ v hQ (st_back (T' := T) (h' := h) Y' hB N N' E'))
theorem g_special {index k n : Nat} {y : MethodName} {bytes' : ByteArray} {maxL' W' : Nat} {argsL : List Value} {Q : Option Value → Heap → Prop} {ps : List FieldType} {rt : Option FieldType} {a : Addr} (C : Cx p s m meth c Z own nm bytes maxL ret) (X : St p l e R s m A below meth c Z T h cells slots) (hi : y.name = "<init>")
    (w1 : (Jvm.Cond.methodLink own index y).before a0 Z = true) (w2 : (Jvm.Cond.instanceMethod y).before a0 Z = true) (w4 : (Jvm.Cond.code y bytes' maxL' none).before a0 Z = true) (hy : y.cls ≠ "java/lang/invoke/MethodHandle" ∧ y.cls ≠ "java/lang/invoke/VarHandle")
    (hK : Pay l R p e below s A y 3 W' k n Z (.ref a :: argsL).toArray h Q) (pd : parseMethodDescriptor y.desc = some ⟨ps, rt⟩) (hlen : argsL.length = ps.length) (hsz : Ls.size = maxL) (stk : List Value) (hst : stk = argsL.reverse ++ .ref a :: st) (hW : (st.map fun v => v.category).sum ≤ W') (d : Dc bytes pc (.invokespecial index) 3 pc') (hc : cells + k ≤ R.cells) (hs : slots + n ≤ R.slots)
    (K : ∀ T' h' v, Q v h' → St p l e R s m A below meth c Z T' h' (cells + k) (slots + n) → Goes p e below W T' (mkF m pc' Ls (v.toList ++ st))) : Goes p e below W T (mkF m pc Ls stk) := by
  obtain ⟨d, rfl⟩ := d
  obtain ⟨L0, Y, eT, N, E⟩ := X
  obtain ⟨v, vm₁, B, -, Y', ⟨L, ⟨N', E', hQ⟩, hB⟩, q⟩ := Y.specialBack C.hx (y := y) hi C.hown (mvT C.hZ w1) (mvT C.hZ w2) (mvT C.hZ w4) hy hK (g := mkF m pc Ls stk) rfl (hsz.trans C.hml.symm) (Steps.refl _) (a := a) (argsL := argsL) (rest := st) (lenOf pd hlen) hst (by show 2 * 0 + _ ≤ _; omega) (hb C.hby d) (fun _ _ => ⟨rfl, eT, hc, hs⟩)
  exact Goes.via (fun _ k => q.trans k) (K _ _ v hQ (st_back (T' := T) (h' := h) Y' hB N N' E'))
theorem g_virtual {index k n : Nat} {y z : MethodName} {K0 : String} {W' : Nat} {argsL : List Value} {Q : Option Value → Heap → Prop} {ps : List FieldType} {rt : Option FieldType} {a : Addr} (C : Cx p s m meth c Z own nm bytes maxL ret) (X : St p l e R s m A below meth c Z T h cells slots)
    (w1 : (Jvm.Cond.methodLink own index y).before a0 Z = true) (w2 : (Jvm.Cond.declares y).before a0 Z = true) (nf : NotFace s y) (w3 : (Jvm.Cond.selects K0 y z).before a0 Z = true) (w4 : (Jvm.Cond.instanceMethod z).before a0 Z = true) (hy : y.cls ≠ "java/lang/invoke/MethodHandle" ∧ y.cls ≠ "java/lang/invoke/VarHandle") (Ex : Exa Z h a K0)
    (hK : Pay l R p e below s A z 3 W' k n Z (.ref a :: argsL).toArray h Q) (pd : parseMethodDescriptor y.desc = some ⟨ps, rt⟩) (hlen : argsL.length = ps.length) (hsz : Ls.size = maxL) (stk : List Value) (hst : stk = argsL.reverse ++ .ref a :: st) (hW : (st.map fun v => v.category).sum ≤ W') (d : Dc bytes pc (.invokevirtual index) 3 pc') (hc : cells + k ≤ R.cells) (hs : slots + n ≤ R.slots)
    (K : ∀ T' h' v, Q v h' → St p l e R s m A below meth c Z T' h' (cells + k) (slots + n) → Goes p e below W T' (mkF m pc' Ls (v.toList ++ st))) : Goes p e below W T (mkF m pc Ls stk) := by
  obtain ⟨d, rfl⟩ := d
  obtain ⟨L0, Y, eT, N, E⟩ := X
  obtain ⟨cq, kq, qa, qb, qc⟩ := isOf C.hZ eT Ex
  obtain ⟨v, vm₁, B, -, Y', ⟨L, ⟨N', E', hQ⟩, hB⟩, q⟩ := Y.virtualBack C.hx (y := y) (z := z) C.hown (mvT C.hZ w1) (mvT C.hZ w2) nf (mvT C.hZ w3) (mvT C.hZ w4) hy hK qa qc (g := mkF m pc Ls stk) rfl (hsz.trans C.hml.symm) (Steps.refl _) (argsL := argsL) (rest := st) (lenOf pd hlen) hst (by show 2 * 0 + _ ≤ _; omega) (hb C.hby d) (fun _ _ => ⟨rfl, eT, hc, hs⟩)
  exact Goes.via (fun _ k => q.trans k) (K _ _ v hQ (st_back (T' := T) (h' := h) Y' hB N N' E'))
theorem nf_of {K0 : String} {y z : MethodName} (C : Cx p s m meth c Z own nm bytes maxL ret) (w3 : (Jvm.Cond.selects K0 y z).before a0 Z = true) (e : K0 = y.cls) (e' : z = y) : NotFace s y := by
  subst e e'; exact notFace_of_selects (args := #[]) (mvT C.hZ w3)
theorem g_interface {index count k n : Nat} {y z : MethodName} {K0 : String} {W' : Nat} {argsL : List Value} {Q : Option Value → Heap → Prop} {ps : List FieldType} {rt : Option FieldType} {a : Addr} (C : Cx p s m meth c Z own nm bytes maxL ret) (X : St p l e R s m A below meth c Z T h cells slots)
    (w1 : (Jvm.Cond.methodLink own index y).before a0 Z = true) (w2 : (Jvm.Cond.declares y).before a0 Z = true) (w5 : (Jvm.Cond.interfaceMethod y.cls y.cls y.name y.desc).before A s = true) (w3 : (Jvm.Cond.selects K0 y z).before a0 Z = true) (w4 : (Jvm.Cond.instanceMethod z).before a0 Z = true) (w6 : (Jvm.Cond.publicMethod z).before a0 Z = true) (w7 : (Jvm.Cond.unhidden K0 y.name y.desc).before A s = true) (w8 : (Jvm.Cond.castable K0 y.cls).before a0 Z = true)
    (hy : y.cls ≠ "java/lang/invoke/MethodHandle" ∧ y.cls ≠ "java/lang/invoke/VarHandle") (Ex : Exa Z h a K0)
    (hK : Pay l R p e below s A z 5 W' k n Z (.ref a :: argsL).toArray h Q) (pd : parseMethodDescriptor y.desc = some ⟨ps, rt⟩) (hlen : argsL.length = ps.length) (hsz : Ls.size = maxL) (stk : List Value) (hst : stk = argsL.reverse ++ .ref a :: st) (hW : (st.map fun v => v.category).sum ≤ W') (d : Dc bytes pc (.invokeinterface index count) 5 pc') (hc : cells + k ≤ R.cells) (hs : slots + n ≤ R.slots)
    (K : ∀ T' h' v, Q v h' → St p l e R s m A below meth c Z T' h' (cells + k) (slots + n) → Goes p e below W T' (mkF m pc' Ls (v.toList ++ st))) : Goes p e below W T (mkF m pc Ls stk) := by
  obtain ⟨d, rfl⟩ := d
  obtain ⟨L0, Y, eT, N, E⟩ := X
  obtain ⟨cq, kq, qa, qb, qc⟩ := isOf C.hZ eT Ex
  obtain ⟨v, vm₁, B, -, Y', ⟨L, ⟨N', E', hQ⟩, hB⟩, q⟩ := Y.interfaceBack C.hx (xi := y) (y := z) C.hown (mvT C.hZ w1) (mvT C.hZ w2) w5 (mvT C.hZ w3) (mvT C.hZ w4) (mvT C.hZ w6) w7 (mvT C.hZ w8) hy hK qa qb qc (g := mkF m pc Ls stk) rfl (hsz.trans C.hml.symm) (Steps.refl _) (argsL := argsL) (rest := st) (lenOf pd hlen) hst (by show 2 * 0 + _ ≤ _; omega) (hb C.hby d) (fun _ _ => ⟨rfl, eT, hc, hs⟩)
  exact Goes.via (fun _ k => q.trans k) (K _ _ v hQ (st_back (T' := T) (h' := h) Y' hB N N' E'))
theorem g_staticP {index : Nat} {y : MethodName} {bytes' : ByteArray} {maxL' W' : Nat} {ret' : Option FieldType} {argsL : List Value} {v : Option Value} {ps : List FieldType} {rt : Option FieldType} (C : Cx p s m meth c Z own nm bytes maxL ret) (X : St p l e R s m A below meth c Z T h cells slots)
    (w1 : (Jvm.Cond.methodLink own index y).before a0 Z = true) (w2 : (Jvm.Cond.static y).before a0 Z = true) (w3 : (Jvm.Cond.initialized y.cls).before a0 Z = true) (w4 : (Jvm.Cond.code y bytes' maxL' ret').before a0 Z = true) (hy : y.cls ≠ "java/lang/invoke/MethodHandle" ∧ y.cls ≠ "java/lang/invoke/VarHandle")
    (hK : Pay l R p e below s A y 3 W' 0 0 Z argsL.toArray h (fun v' h' => v' = v ∧ h' = h)) (pd : parseMethodDescriptor y.desc = some ⟨ps, rt⟩) (hlen : argsL.length = ps.length) (hsz : Ls.size = maxL) (stk : List Value) (hst : stk = argsL.reverse ++ st) (hW : (st.map fun v => v.category).sum ≤ W') (d : Dc bytes pc (.invokestatic index) 3 pc') (hc : cells ≤ R.cells) (hs : slots ≤ R.slots)
    (K : ∀ T', St p l e R s m A below meth c Z T' h cells slots → Goes p e below W T' (mkF m pc' Ls (v.toList ++ st))) : Goes p e below W T (mkF m pc Ls stk) :=
  g_static C X w1 w2 w3 w4 hy hK pd hlen hsz stk hst hW d hc hs fun T' h' v' hQ X' => by obtain ⟨rfl, rfl⟩ := hQ; exact K T' X'
theorem g_specialP {index : Nat} {y : MethodName} {bytes' : ByteArray} {maxL' W' : Nat} {argsL : List Value} {v : Option Value} {ps : List FieldType} {rt : Option FieldType} {a : Addr} (C : Cx p s m meth c Z own nm bytes maxL ret) (X : St p l e R s m A below meth c Z T h cells slots) (hi : y.name = "<init>")
    (w1 : (Jvm.Cond.methodLink own index y).before a0 Z = true) (w2 : (Jvm.Cond.instanceMethod y).before a0 Z = true) (w4 : (Jvm.Cond.code y bytes' maxL' none).before a0 Z = true) (hy : y.cls ≠ "java/lang/invoke/MethodHandle" ∧ y.cls ≠ "java/lang/invoke/VarHandle")
    (hK : Pay l R p e below s A y 3 W' 0 0 Z (.ref a :: argsL).toArray h (fun v' h' => v' = v ∧ h' = h)) (pd : parseMethodDescriptor y.desc = some ⟨ps, rt⟩) (hlen : argsL.length = ps.length) (hsz : Ls.size = maxL) (stk : List Value) (hst : stk = argsL.reverse ++ .ref a :: st) (hW : (st.map fun v => v.category).sum ≤ W') (d : Dc bytes pc (.invokespecial index) 3 pc') (hc : cells ≤ R.cells) (hs : slots ≤ R.slots)
    (K : ∀ T', St p l e R s m A below meth c Z T' h cells slots → Goes p e below W T' (mkF m pc' Ls (v.toList ++ st))) : Goes p e below W T (mkF m pc Ls stk) :=
  g_special C X hi w1 w2 w4 hy hK pd hlen hsz stk hst hW d hc hs fun T' h' v' hQ X' => by obtain ⟨rfl, rfl⟩ := hQ; exact K T' X'
theorem g_virtualP {index : Nat} {y z : MethodName} {K0 : String} {W' : Nat} {argsL : List Value} {v : Option Value} {ps : List FieldType} {rt : Option FieldType} {a : Addr} (C : Cx p s m meth c Z own nm bytes maxL ret) (X : St p l e R s m A below meth c Z T h cells slots)
    (w1 : (Jvm.Cond.methodLink own index y).before a0 Z = true) (w2 : (Jvm.Cond.declares y).before a0 Z = true) (nf : NotFace s y) (w3 : (Jvm.Cond.selects K0 y z).before a0 Z = true) (w4 : (Jvm.Cond.instanceMethod z).before a0 Z = true) (hy : y.cls ≠ "java/lang/invoke/MethodHandle" ∧ y.cls ≠ "java/lang/invoke/VarHandle") (Ex : Exa Z h a K0)
    (hK : Pay l R p e below s A z 3 W' 0 0 Z (.ref a :: argsL).toArray h (fun v' h' => v' = v ∧ h' = h)) (pd : parseMethodDescriptor y.desc = some ⟨ps, rt⟩) (hlen : argsL.length = ps.length) (hsz : Ls.size = maxL) (stk : List Value) (hst : stk = argsL.reverse ++ .ref a :: st) (hW : (st.map fun v => v.category).sum ≤ W') (d : Dc bytes pc (.invokevirtual index) 3 pc') (hc : cells ≤ R.cells) (hs : slots ≤ R.slots)
    (K : ∀ T', St p l e R s m A below meth c Z T' h cells slots → Goes p e below W T' (mkF m pc' Ls (v.toList ++ st))) : Goes p e below W T (mkF m pc Ls stk) :=
  g_virtual C X w1 w2 nf w3 w4 hy Ex hK pd hlen hsz stk hst hW d hc hs fun T' h' v' hQ X' => by obtain ⟨rfl, rfl⟩ := hQ; exact K T' X'
theorem g_interfaceP {index count : Nat} {y z : MethodName} {K0 : String} {W' : Nat} {argsL : List Value} {v : Option Value} {ps : List FieldType} {rt : Option FieldType} {a : Addr} (C : Cx p s m meth c Z own nm bytes maxL ret) (X : St p l e R s m A below meth c Z T h cells slots)
    (w1 : (Jvm.Cond.methodLink own index y).before a0 Z = true) (w2 : (Jvm.Cond.declares y).before a0 Z = true) (w5 : (Jvm.Cond.interfaceMethod y.cls y.cls y.name y.desc).before A s = true) (w3 : (Jvm.Cond.selects K0 y z).before a0 Z = true) (w4 : (Jvm.Cond.instanceMethod z).before a0 Z = true) (w6 : (Jvm.Cond.publicMethod z).before a0 Z = true) (w7 : (Jvm.Cond.unhidden K0 y.name y.desc).before A s = true) (w8 : (Jvm.Cond.castable K0 y.cls).before a0 Z = true)
    (hy : y.cls ≠ "java/lang/invoke/MethodHandle" ∧ y.cls ≠ "java/lang/invoke/VarHandle") (Ex : Exa Z h a K0)
    (hK : Pay l R p e below s A z 5 W' 0 0 Z (.ref a :: argsL).toArray h (fun v' h' => v' = v ∧ h' = h)) (pd : parseMethodDescriptor y.desc = some ⟨ps, rt⟩) (hlen : argsL.length = ps.length) (hsz : Ls.size = maxL) (stk : List Value) (hst : stk = argsL.reverse ++ .ref a :: st) (hW : (st.map fun v => v.category).sum ≤ W') (d : Dc bytes pc (.invokeinterface index count) 5 pc') (hc : cells ≤ R.cells) (hs : slots ≤ R.slots)
    (K : ∀ T', St p l e R s m A below meth c Z T' h cells slots → Goes p e below W T' (mkF m pc' Ls (v.toList ++ st))) : Goes p e below W T (mkF m pc Ls stk) :=
  g_interface C X w1 w2 w5 w3 w4 w6 w7 w8 hy Ex hK pd hlen hsz stk hst hW d hc hs fun T' h' v' hQ X' => by obtain ⟨rfl, rfl⟩ := hQ; exact K T' X'
theorem g_initO {index : Nat} {a : Addr} (C : Cx p s m meth c Z own nm bytes maxL ret) (X : St p l e R s m A below meth c Z T h cells slots) (w1 : (Jvm.Cond.methodLink own index Lib.objectInit).before a0 Z = true) (w2 : (Jvm.Cond.instanceMethod Lib.objectInit).before a0 Z = true) (w3 : (Jvm.Cond.code Lib.objectInit ⟨#[0xb1]⟩ 1 none).before a0 Z = true) (hsz : Ls.size = maxL) (d : Dc bytes pc (.invokespecial index) 3 pc') (hf : 1 ≤ R.frames) (W' : Nat) (hW : (st.map fun v => v.category).sum ≤ W') (hl : W' + 12 ≤ R.locals)
    (K : ∀ T', St p l e R s m A below meth c Z T' h cells slots → Goes p e below W T' (mkF m pc' Ls st)) : Goes p e below W T (mkF m pc Ls (.ref a :: st)) := by
  obtain ⟨d, rfl⟩ := d
  obtain ⟨L0, Y, eT, N, E⟩ := X
  obtain ⟨T', Y', e', q⟩ := initO Y C.hx C.hZ C.hown w1 w2 w3 eT (g := mkF m pc Ls (.ref a :: st)) rfl (hsz.trans C.hml.symm) rfl (hb C.hby d) hf (W := W') (by show 2 * 0 + _ ≤ _; omega) hl
  exact Goes.via q (K T' ⟨L0, Y', e', N, E⟩)
theorem end_of {k n : Nat} {Q : Option Value → Heap → Prop} {v : Option Value} {L : List Loc} {fs : List Frame} (N : Fr Z.heap.size L) (E : Ext Z.heap T.heap) (hW : s.WarmedH (T.setFrames fs).vm) (hS : s.sameButNew ({ T.setFrames fs with vm := s.vm } : State) L cells slots) (hc : cells ≤ k) (hs : slots ≤ n) (hQ : Q v T.heap) : EndW Z s k n Q (.returned v) (T.setFrames fs) :=
  ⟨v, L, rfl, ⟨N, E, hQ⟩, ⟨_, rfl⟩, hW, hS.mono hc hs⟩
theorem g_retI {k n : Nat} {Q : Option Value → Heap → Prop} {z : Int32} (C : Cx p s m meth c Z own nm bytes maxL (some .int)) (X : St p l e R s m A below meth c Z T h cells slots) (d : Dc bytes pc .ireturn 1 pc') (hc : cells ≤ k) (hs : slots ≤ n) (hQ : Q (some (.int z)) h) : Goes p e below (EndW Z s k n Q) T (mkF m pc Ls (.int z :: st)) := by
  obtain ⟨L0, Y, rfl, N, E⟩ := X
  have hlk := C.hlk
  obtain ⟨fs, hr, hrun, hended, hW, hS⟩ := Y.leave (v := some (.int z)) (fun h => by rw [C.hret] at h; cases h) hlk
  exact ⟨_, _, retOut Y C.hx C.hret rfl (Or.inl ⟨rfl, Or.inl rfl, z, rfl⟩) (hb C.hby d.1) hr, hrun, hended, end_of N E hW hS hc hs hQ⟩
theorem g_retN {k n : Nat} {Q : Option Value → Heap → Prop} {z : Int32} {t : FieldType} (C : Cx p s m meth c Z own nm bytes maxL (some t)) (X : St p l e R s m A below meth c Z T h cells slots) (ht : t = .boolean ∨ t = .byte ∨ t = .char ∨ t = .short) (d : Dc bytes pc .ireturn 1 pc') (z' : Int32) (hz : nar t z = z') (hc : cells ≤ k) (hs : slots ≤ n) (hQ : Q (some (.int z')) h) : Goes p e below (EndW Z s k n Q) T (mkF m pc Ls (.int z :: st)) := by
  obtain ⟨L0, Y, rfl, N, E⟩ := X
  have hlk := C.hlk
  obtain ⟨fs, hr, hrun, hended, hW, hS⟩ := Y.leave (v := some (.int z')) (fun h => by rw [C.hret] at h; cases h) hlk
  rw [← hz] at hr
  exact ⟨_, _, retN Y C.hx C.hret ht (hb C.hby d.1) hr, hrun, hended, end_of N E hW hS hc hs hQ⟩
theorem g_retJ {k n : Nat} {Q : Option Value → Heap → Prop} {z : Int64} (C : Cx p s m meth c Z own nm bytes maxL (some .long)) (X : St p l e R s m A below meth c Z T h cells slots) (d : Dc bytes pc .lreturn 1 pc') (hc : cells ≤ k) (hs : slots ≤ n) (hQ : Q (some (.long z)) h) : Goes p e below (EndW Z s k n Q) T (mkF m pc Ls (.long z :: st)) := by
  obtain ⟨L0, Y, rfl, N, E⟩ := X
  have hlk := C.hlk
  obtain ⟨fs, hr, hrun, hended, hW, hS⟩ := Y.leave (v := some (.long z)) (fun h => by rw [C.hret] at h; cases h) hlk
  exact ⟨_, _, retOut Y C.hx C.hret rfl (Or.inr (Or.inl ⟨rfl, rfl, z, rfl⟩)) (hb C.hby d.1) hr, hrun, hended, end_of N E hW hS hc hs hQ⟩
theorem g_retA {k n : Nat} {Q : Option Value → Heap → Prop} {z : Value} {t : FieldType} (C : Cx p s m meth c Z own nm bytes maxL (some t)) (X : St p l e R s m A below meth c Z T h cells slots) (ht : t.isReference = true) (hz : z.isRef = true) (d : Dc bytes pc .areturn 1 pc') (hc : cells ≤ k) (hs : slots ≤ n) (hQ : Q (some z) h) : Goes p e below (EndW Z s k n Q) T (mkF m pc Ls (z :: st)) := by
  obtain ⟨L0, Y, rfl, N, E⟩ := X
  have hlk := C.hlk
  have hn : narrow t z = z := by cases t <;> first | rfl | (simp [FieldType.isReference] at ht; done) | (cases z <;> simp [Value.isRef] at hz <;> rfl)
  obtain ⟨fs, hr, hrun, hended, hW, hS⟩ := Y.leave (v := some z) (fun h => by rw [C.hret] at h; cases h) hlk
  exact ⟨_, _, retOut Y C.hx C.hret hn (Or.inr (Or.inr (Or.inr (Or.inr ⟨rfl, ht, hz⟩)))) (hb C.hby d.1) hr, hrun, hended, end_of N E hW hS hc hs hQ⟩
theorem g_retV {k n : Nat} {Q : Option Value → Heap → Prop} (C : Cx p s m meth c Z own nm bytes maxL none) (X : St p l e R s m A below meth c Z T h cells slots) (d : Dc bytes pc .return_ 1 pc') (hc : cells ≤ k) (hs : slots ≤ n) (hQ : Q none h) : Goes p e below (EndW Z s k n Q) T (mkF m pc Ls []) := by
  obtain ⟨L0, Y, rfl, N, E⟩ := X
  have hlk := C.hlk
  obtain ⟨fs, hr, hrun, hended, hW, hS⟩ := Y.leave (v := none) (fun _ => rfl) hlk
  exact ⟨_, _, Y.returnOut C.hx C.hret (hb C.hby d.1) hr, hrun, hended, end_of N E hW hS hc hs hQ⟩
end OwnKit
/-! from the case's words -/
theorem wd {a0 : Array Value} {Z : State} (hw : ∀ d ∈ tables_1, d.before a0 Z = true) (i : Nat) {d : Jvm.Cond} (h : tables_1[i]? = some d) : d.before a0 Z = true := hw d (List.mem_of_getElem? h)
theorem eqI_v {args : Array Value} {first s : State} {o : Option Outcome} {idx : List Nat} {t : Term} {k : Int32} (h : (Jvm.Cond.eq t (.int k)).value args first o s idx = some true) : t.eval args first o idx s = some (.int k) := by
  simp only [Cond.value, Term.eval] at h
  cases ht : t.eval args first o idx s with
  | none => simp [ht] at h
  | some x => cases x <;> simp [ht] at h ⊢; exact h
theorem eqJ_v {args : Array Value} {first s : State} {o : Option Outcome} {idx : List Nat} {t : Term} {k : Int64} (h : (Jvm.Cond.eq t (.long k)).value args first o s idx = some true) : t.eval args first o idx s = some (.long k) := by
  simp only [Cond.value, Term.eval] at h
  cases ht : t.eval args first o idx s with
  | none => simp [ht] at h
  | some x => cases x <;> simp [ht] at h ⊢; exact h
theorem eqR_v {args : Array Value} {first s : State} {o : Option Outcome} {idx : List Nat} {t u : Term} {a : Addr} (h : (Jvm.Cond.eq t u).value args first o s idx = some true) (hu : u.eval args first o idx s = some (.ref a)) : t.eval args first o idx s = some (.ref a) := by
  simp only [Cond.value, hu] at h
  cases ht : t.eval args first o idx s with
  | none => simp [ht] at h
  | some x => cases x <;> simp [ht] at h ⊢; exact h
theorem arr_start {args : Array Value} {Z : State} {t : Term} {a : Addr} {cl : Cell} {ty : FieldType} {n : Int32} {vs : List Value} (dv : Value) (hf : Fit Z) (A : Arr Z Z.heap a cl ty) (ev : t.eval args Z none [] Z = some (.ref a)) (hl : (Term.length t).eval args Z none [] Z = some (.int n)) (hn : ¬ n < 0) (hv : n.toNatClampNeg = vs.length)
    (H : HasL cl 0 vs) : Arv Z Z.heap a cl.cls ty n vs dv := by
  obtain ⟨a', c', e1, e2, e4⟩ := Term.length_spec hl
  cases ev.symm.trans e1
  cases A.1.symm.trans (State.arrayAt?_spec e2).1
  have e3 : cl.slots.size < 2 ^ 31 := by
    by_cases q : cl.slots.size < 2147483648
    · exact q
    · exfalso; simp [Term.eval, ev, e2, q] at hl
  exact Arv.start hf A e3 (Value.int.inj e4.symm) hn hv H
theorem elem_start {args : Array Value} {Z : State} {t : Term} {a : Addr} {cl : Cell} {ty : FieldType} {j : Int32} {v : Value} (A : Arr Z Z.heap a cl ty) (ev : t.eval args Z none [] Z = some (.ref a)) (h : (Term.elem t (.int j)).eval args Z none [] Z = some v) : cl.slots[j.toNatClampNeg]? = some v := (elem_in h ev (Term.int_eval j) A.1).2
theorem own_ch (x : Int32) : Value.int (nar .char ((x &&& (255 : Int32)).toUInt32.toUInt16.toUInt32.toInt32)) = .int (x &&& (255 : Int32)) := by
  show Value.int (((x &&& (255 : Int32)).toUInt32.toUInt16.toUInt32.toInt32).toUInt32.toUInt16.toUInt32.toInt32) = _
  rw [i2c_mask, i2c_mask]
theorem nz_v {args : Array Value} {Z : State} {t : Term} {z : Int32} (ev : t.eval args Z none [] Z = some (.int z)) (h : (Jvm.Cond.not (.eq t (.int 0))).value args Z none Z [] = some true) : ¬ z = 0 := by
  intro e; subst e
  have q := not_v h
  simp [Cond.value, ev, Term.eval] at q
theorem fld_of {args : Array Value} {Z : State} {t : Term} {a : Addr} {C n d : String} {v : Value} (ht : t.eval args Z none [] Z = some (.ref a)) (h : (Term.field t C n d).eval args Z none [] Z = some v) : Fld Z Z.heap a C n d v := Fld.start (by rw [← fld_at (args := args) (first := Z) (o := none) (idx := []) ht]; exact h)
def own_mn (x y : Int64) : Int64 := if y < x then y else x
def own_mx (x y : Int64) : Int64 := if x < y then y else x
def own_s2 (x y : Int64) : List Int64 := if y < x then [y, x] else [x, y]
def own_s3 (x y z : Int64) : List Int64 := if y < x then (if z < x then (if z < y then [z, y, x] else [y, z, x]) else [y, x, z]) else (if z < y then (if z < x then [z, x, y] else [x, z, y]) else [x, y, z])
theorem own_getJ (bs : List Int64) (j : Nat) : (bs.map Value.long).getD j (.long 0) = .long (bs.getD j 0) := by
  induction bs generalizing j with
  | nil => rfl
  | cons b t ih => cases j with
    | zero => rfl
    | succ j => exact ih j
theorem own_n4 (x : Int32) : (x &&& (3 : Int32)) = (0 : Int32) ∨ (x &&& (3 : Int32)) = (1 : Int32) ∨ (x &&& (3 : Int32)) = (2 : Int32) ∨ (x &&& (3 : Int32)) = (3 : Int32) := by
  have h1 := c_mask x 3 2 (by decide) (by decide)
  simp only [← Int32.toInt_inj, Int32.reduceToInt] at *
  omega
theorem ef_rmin (m : MethodId) (x : Int64) (y : Int64) : entryFrame m #[(.long x), (.long y)] 4 = mkF m 0 #[.val (.long x), .second, .val (.long y), .second] [] := by first | (simp [entryFrame, mkF, argsToLocals, Value.category]; done) | rfl
theorem d4_0 : Dc jdk_29_method_70_code 0 (.lload_n 0) 1 1 := ⟨by decide +kernel, rfl⟩
theorem d4_1 : Dc jdk_29_method_70_code 1 (.lload_n 2) 1 2 := ⟨by decide +kernel, rfl⟩
theorem d4_2 : Dc jdk_29_method_70_code 2 (.lcmp) 1 3 := ⟨by decide +kernel, rfl⟩
theorem d4_3 : Dj jdk_29_method_70_code 3 (.ifCond .gt 7) 7 3 6 10 := ⟨by decide +kernel, rfl, by decide, by decide⟩
theorem d4_10 : Dc jdk_29_method_70_code 10 (.lload_n 2) 1 11 := ⟨by decide +kernel, rfl⟩
theorem d4_11 : Dc jdk_29_method_70_code 11 (.lreturn) 1 12 := ⟨by decide +kernel, rfl⟩
theorem d4_6 : Dc jdk_29_method_70_code 6 (.lload_n 0) 1 7 := ⟨by decide +kernel, rfl⟩
theorem d4_7 : Dj jdk_29_method_70_code 7 (.goto 4) 4 3 10 11 := ⟨by decide +kernel, rfl, by decide, by decide⟩
set_option maxRecDepth 65536 in
set_option maxHeartbeats 40000000 in
theorem rmin (l : Launch) {Z : State} {a0 : Array Value} (hw : ∀ d ∈ tables_1, d.before a0 Z = true) {h : Heap} (hE : Ext Z.heap h) (x : Int64) (y : Int64)   :
    Con l (⟨"java/lang/Math", "min", "(JJ)J"⟩ : MethodName) jdk_29_method_70_code 4 (some .long) [] ({ frames := 0, cells := 0, slots := 0, locals := 0 } : Room) Z #[(.long x), (.long y)] h (fun v' h' => v' = some (.long (own_mn x y)) ∧ h' = h) := by
  refine con_of (Jvm.Free.JP.mathPlain rfl (by decide +kernel)) hE (fun m => ef_rmin m x y) ?_
  intro p e s m below meth c T0 C X0
  have C : Cx p s m meth c Z "java/lang/Math" "min" jdk_29_method_70_code 4 (some .long) := C
  show Goes p e below _ T0 (mkF m 0 #[.val (.long x), .second, .val (.long y), .second] [])
  refine g_lloadN C X0 d4_0 rfl ?_
  refine g_lloadN C X0 d4_1 rfl ?_
  refine g_lcmp C X0 d4_2 ?_
  refine g_if (hL_gt _ _) C X0 d4_3 (fun c3_1 => ?_) (fun c3_1 => ?_)
  · refine g_lloadN C X0 d4_10 rfl ?_
    exact g_retJ C X0 d4_11 (by decide) (by decide) ⟨by unfold own_mn; rw [if_pos c3_1], rfl⟩
  · refine g_lloadN C X0 d4_6 rfl ?_
    refine g_goto C X0 d4_7 ?_
    exact g_retJ C X0 d4_11 (by decide) (by decide) ⟨by unfold own_mn; rw [if_neg c3_1], rfl⟩
theorem ef_rmax (m : MethodId) (x : Int64) (y : Int64) : entryFrame m #[(.long x), (.long y)] 4 = mkF m 0 #[.val (.long x), .second, .val (.long y), .second] [] := by first | (simp [entryFrame, mkF, argsToLocals, Value.category]; done) | rfl
theorem d5_0 : Dc jdk_29_method_66_code 0 (.lload_n 0) 1 1 := ⟨by decide +kernel, rfl⟩
theorem d5_1 : Dc jdk_29_method_66_code 1 (.lload_n 2) 1 2 := ⟨by decide +kernel, rfl⟩
theorem d5_2 : Dc jdk_29_method_66_code 2 (.lcmp) 1 3 := ⟨by decide +kernel, rfl⟩
theorem d5_3 : Dj jdk_29_method_66_code 3 (.ifCond .lt 7) 7 3 6 10 := ⟨by decide +kernel, rfl, by decide, by decide⟩
theorem d5_10 : Dc jdk_29_method_66_code 10 (.lload_n 2) 1 11 := ⟨by decide +kernel, rfl⟩
theorem d5_11 : Dc jdk_29_method_66_code 11 (.lreturn) 1 12 := ⟨by decide +kernel, rfl⟩
theorem d5_6 : Dc jdk_29_method_66_code 6 (.lload_n 0) 1 7 := ⟨by decide +kernel, rfl⟩
theorem d5_7 : Dj jdk_29_method_66_code 7 (.goto 4) 4 3 10 11 := ⟨by decide +kernel, rfl, by decide, by decide⟩
set_option maxRecDepth 65536 in
set_option maxHeartbeats 40000000 in
theorem rmax (l : Launch) {Z : State} {a0 : Array Value} (hw : ∀ d ∈ tables_1, d.before a0 Z = true) {h : Heap} (hE : Ext Z.heap h) (x : Int64) (y : Int64)   :
    Con l (⟨"java/lang/Math", "max", "(JJ)J"⟩ : MethodName) jdk_29_method_66_code 4 (some .long) [] ({ frames := 0, cells := 0, slots := 0, locals := 0 } : Room) Z #[(.long x), (.long y)] h (fun v' h' => v' = some (.long (own_mx x y)) ∧ h' = h) := by
  refine con_of (Jvm.Free.JP.mathPlain rfl (by decide +kernel)) hE (fun m => ef_rmax m x y) ?_
  intro p e s m below meth c T0 C X0
  have C : Cx p s m meth c Z "java/lang/Math" "max" jdk_29_method_66_code 4 (some .long) := C
  show Goes p e below _ T0 (mkF m 0 #[.val (.long x), .second, .val (.long y), .second] [])
  refine g_lloadN C X0 d5_0 rfl ?_
  refine g_lloadN C X0 d5_1 rfl ?_
  refine g_lcmp C X0 d5_2 ?_
  refine g_if (hL_lt _ _) C X0 d5_3 (fun c3_2 => ?_) (fun c3_2 => ?_)
  · refine g_lloadN C X0 d5_10 rfl ?_
    exact g_retJ C X0 d5_11 (by decide) (by decide) ⟨by unfold own_mx; rw [if_pos c3_2], rfl⟩
  · refine g_lloadN C X0 d5_6 rfl ?_
    refine g_goto C X0 d5_7 ?_
    exact g_retJ C X0 d5_11 (by decide) (by decide) ⟨by unfold own_mx; rw [if_neg c3_2], rfl⟩
theorem ef_rmini (m : MethodId) (i : Int32) (k : Int32) : entryFrame m #[(.int i), (.int k)] 2 = mkF m 0 #[.val (.int i), .val (.int k)] [] := by first | (simp [entryFrame, mkF, argsToLocals, Value.category]; done) | rfl
theorem d8_0 : Dc jdk_29_method_69_code 0 (.iload_n 0) 1 1 := ⟨by decide +kernel, rfl⟩
theorem d8_1 : Dc jdk_29_method_69_code 1 (.iload_n 1) 1 2 := ⟨by decide +kernel, rfl⟩
theorem d8_2 : Dj jdk_29_method_69_code 2 (.if_icmp .gt 7) 7 3 5 9 := ⟨by decide +kernel, rfl, by decide, by decide⟩
theorem d8_9 : Dc jdk_29_method_69_code 9 (.iload_n 1) 1 10 := ⟨by decide +kernel, rfl⟩
theorem d8_10 : Dc jdk_29_method_69_code 10 (.ireturn) 1 11 := ⟨by decide +kernel, rfl⟩
theorem d8_5 : Dc jdk_29_method_69_code 5 (.iload_n 0) 1 6 := ⟨by decide +kernel, rfl⟩
theorem d8_6 : Dj jdk_29_method_69_code 6 (.goto 4) 4 3 9 10 := ⟨by decide +kernel, rfl, by decide, by decide⟩
set_option maxRecDepth 65536 in
set_option maxHeartbeats 40000000 in
theorem rmini (l : Launch) {Z : State} {a0 : Array Value} (hw : ∀ d ∈ tables_1, d.before a0 Z = true) {h : Heap} (hE : Ext Z.heap h) (i : Int32) (k : Int32)   :
    Con l (⟨"java/lang/Math", "min", "(II)I"⟩ : MethodName) jdk_29_method_69_code 2 (some .int) [] ({ frames := 0, cells := 0, slots := 0, locals := 0 } : Room) Z #[(.int i), (.int k)] h (fun v' h' => v' = some (.int (if k < i then k else i)) ∧ h' = h) := by
  refine con_of (Jvm.Free.JP.mathPlain rfl (by decide +kernel)) hE (fun m => ef_rmini m i k) ?_
  intro p e s m below meth c T0 C X0
  have C : Cx p s m meth c Z "java/lang/Math" "min" jdk_29_method_69_code 2 (some .int) := C
  show Goes p e below _ T0 (mkF m 0 #[.val (.int i), .val (.int k)] [])
  refine g_iloadN C X0 d8_0 rfl ?_
  refine g_iloadN C X0 d8_1 rfl ?_
  refine g_icmp (hI_gt _ _) C X0 d8_2 (fun c2_3 => ?_) (fun c2_3 => ?_)
  · refine g_iloadN C X0 d8_9 rfl ?_
    exact g_retI C X0 d8_10 (by decide) (by decide) ⟨by rw [if_pos c2_3], rfl⟩
  · refine g_iloadN C X0 d8_5 rfl ?_
    refine g_goto C X0 d8_6 ?_
    exact g_retI C X0 d8_10 (by decide) (by decide) ⟨by rw [if_neg c2_3], rfl⟩
theorem pn_0 : plainName "java/util/DualPivotQuicksort" = true := by first | (simp [plainName, overriddenIn]; done) | decide +kernel
theorem ef_rins1 (m : MethodId) (t : Addr) : entryFrame m #[(.ref t), (.int (0 : Int32)), (.int (1 : Int32))] 7 = mkF m 0 #[.val (.ref t), .val (.int (0 : Int32)), .val (.int (1 : Int32)), .unset, .unset, .unset, .unset] [] := by first | (simp [entryFrame, mkF, argsToLocals, Value.category]; done) | rfl
theorem d12_0 : Dc jdk_2529_method_15_code 0 (.iload_n 1) 1 1 := ⟨by decide +kernel, rfl⟩
theorem d12_1 : Dc jdk_2529_method_15_code 1 (.istore 4) 2 3 := ⟨by decide +kernel, rfl⟩
theorem d12_3 : Dc jdk_2529_method_15_code 3 (.iinc 4 1) 3 6 := ⟨by decide +kernel, rfl⟩
theorem d12_6 : Dc jdk_2529_method_15_code 6 (.iload 4) 2 8 := ⟨by decide +kernel, rfl⟩
theorem d12_8 : Dc jdk_2529_method_15_code 8 (.iload_n 2) 1 9 := ⟨by decide +kernel, rfl⟩
theorem d12_9 : Dj jdk_2529_method_15_code 9 (.if_icmp .ge 60) 60 3 12 69 := ⟨by decide +kernel, rfl, by decide, by decide⟩
theorem d12_69 : Dc jdk_2529_method_15_code 69 (.return_) 1 70 := ⟨by decide +kernel, rfl⟩
set_option maxRecDepth 65536 in
set_option maxHeartbeats 40000000 in
theorem rins1 (l : Launch) {Z : State} {a0 : Array Value} (hw : ∀ d ∈ tables_1, d.before a0 Z = true) {h : Heap} (hE : Ext Z.heap h) (t : Addr) (kt : ClassId) (v0 : Int64) (hV : Arv Z h t kt .long 1 [(.long v0)] (.long (0 : Int64))) (hn : Z.heap.size ≤ t) :
    Con l (⟨"java/util/DualPivotQuicksort", "insertionSort", "([JII)V"⟩ : MethodName) jdk_2529_method_15_code 7 none [] ({ frames := 0, cells := 0, slots := 0, locals := 0 } : Room) Z #[(.ref t), (.int (0 : Int32)), (.int (1 : Int32))] h (fun v' h' => v' = none ∧ Keep h h' [t] ∧ Arv Z h' t kt .long 1 ([v0].map Value.long) (.long (0 : Int64))) := by
  refine con_of (plainFor_of_name pn_0) hE (fun m => ef_rins1 m t) ?_
  intro p e s m below meth c T0 C X0
  have C : Cx p s m meth c Z "java/util/DualPivotQuicksort" "insertionSort" jdk_2529_method_15_code 7 none := C
  show Goes p e below _ T0 (mkF m 0 #[.val (.ref t), .val (.int (0 : Int32)), .val (.int (1 : Int32)), .unset, .unset, .unset, .unset] [])
  refine g_iloadN C X0 d12_0 rfl ?_
  refine g_istore C X0 d12_1 (l' := #[.val (.ref t), .val (.int (0 : Int32)), .val (.int (1 : Int32)), .unset, .val (.int (0 : Int32)), .unset, .unset]) rfl ?_
  refine g_iinc (1 : Int32) C X0 d12_3 rfl rfl (l' := #[.val (.ref t), .val (.int (0 : Int32)), .val (.int (1 : Int32)), .unset, .val (.int (1 : Int32)), .unset, .unset]) rfl ?_
  refine g_iload C X0 d12_6 rfl ?_
  refine g_iloadN C X0 d12_8 rfl ?_
  refine g_icmpn (hI_ge _ _) C X0 d12_9 (fun _ => ?_) (fun q => absurd q (by decide))
  exact g_retV C X0 d12_69 (by decide) (by decide) ⟨rfl, (Keep.refl h [t]), hV⟩
theorem ef_rso1 (m : MethodId) (t : Addr) : entryFrame m #[.null, (.ref t), (.int (0 : Int32)), (.int (0 : Int32)), (.int (1 : Int32))] 25 = mkF m 0 #[.val .null, .val (.ref t), .val (.int (0 : Int32)), .val (.int (0 : Int32)), .val (.int (1 : Int32)), .unset, .unset, .unset, .unset, .unset, .unset, .unset, .unset, .unset, .unset, .unset, .unset, .unset, .unset, .unset, .unset, .unset, .unset, .unset, .unset] [] := by first | (simp [entryFrame, mkF, argsToLocals, Value.category]; done) | rfl
theorem d11_0 : Dc jdk_2529_method_13_code 0 (.iload 4) 2 2 := ⟨by decide +kernel, rfl⟩
theorem d11_2 : Dc jdk_2529_method_13_code 2 (.iconst 1) 1 3 := ⟨by decide +kernel, rfl⟩
theorem d11_3 : Dc jdk_2529_method_13_code 3 (.isub) 1 4 := ⟨by decide +kernel, rfl⟩
theorem d11_4 : Dc jdk_2529_method_13_code 4 (.istore 5) 2 6 := ⟨by decide +kernel, rfl⟩
theorem d11_6 : Dc jdk_2529_method_13_code 6 (.iload 4) 2 8 := ⟨by decide +kernel, rfl⟩
theorem d11_8 : Dc jdk_2529_method_13_code 8 (.iload_n 3) 1 9 := ⟨by decide +kernel, rfl⟩
theorem d11_9 : Dc jdk_2529_method_13_code 9 (.isub) 1 10 := ⟨by decide +kernel, rfl⟩
theorem d11_10 : Dc jdk_2529_method_13_code 10 (.istore 6) 2 12 := ⟨by decide +kernel, rfl⟩
theorem d11_12 : Dc jdk_2529_method_13_code 12 (.iload 6) 2 14 := ⟨by decide +kernel, rfl⟩
theorem d11_14 : Dc jdk_2529_method_13_code 14 (.bipush 65) 2 16 := ⟨by decide +kernel, rfl⟩
theorem d11_16 : Dc jdk_2529_method_13_code 16 (.iload_n 2) 1 17 := ⟨by decide +kernel, rfl⟩
theorem d11_17 : Dc jdk_2529_method_13_code 17 (.iadd) 1 18 := ⟨by decide +kernel, rfl⟩
theorem d11_18 : Dj jdk_2529_method_13_code 18 (.if_icmp .ge 28) 28 3 21 46 := ⟨by decide +kernel, rfl, by decide, by decide⟩
theorem d11_21 : Dc jdk_2529_method_13_code 21 (.iload_n 2) 1 22 := ⟨by decide +kernel, rfl⟩
theorem d11_22 : Dc jdk_2529_method_13_code 22 (.iconst 1) 1 23 := ⟨by decide +kernel, rfl⟩
theorem d11_23 : Dc jdk_2529_method_13_code 23 (.iand) 1 24 := ⟨by decide +kernel, rfl⟩
theorem d11_24 : Dj jdk_2529_method_13_code 24 (.ifCond .le 22) 22 3 27 46 := ⟨by decide +kernel, rfl, by decide, by decide⟩
theorem d11_46 : Dc jdk_2529_method_13_code 46 (.iload 6) 2 48 := ⟨by decide +kernel, rfl⟩
theorem d11_48 : Dc jdk_2529_method_13_code 48 (.bipush 44) 2 50 := ⟨by decide +kernel, rfl⟩
theorem d11_50 : Dj jdk_2529_method_13_code 50 (.if_icmp .ge 11) 11 3 53 61 := ⟨by decide +kernel, rfl, by decide, by decide⟩
theorem d11_53 : Dc jdk_2529_method_13_code 53 (.aload_n 1) 1 54 := ⟨by decide +kernel, rfl⟩
theorem d11_54 : Dc jdk_2529_method_13_code 54 (.iload_n 3) 1 55 := ⟨by decide +kernel, rfl⟩
theorem d11_55 : Dc jdk_2529_method_13_code 55 (.iload 4) 2 57 := ⟨by decide +kernel, rfl⟩
theorem d11_57 : Dc jdk_2529_method_13_code 57 (.invokestatic 105) 3 60 := ⟨by decide +kernel, rfl⟩
theorem pd_0 : parseMethodDescriptor "([JII)V" = some ⟨[(.array .long), .int, .int], none⟩ := by decide +kernel
theorem d11_60 : Dc jdk_2529_method_13_code 60 (.return_) 1 61 := ⟨by decide +kernel, rfl⟩
set_option maxRecDepth 65536 in
set_option maxHeartbeats 40000000 in
theorem rso1 (l : Launch) {Z : State} {a0 : Array Value} (hw : ∀ d ∈ tables_1, d.before a0 Z = true) {h : Heap} (hE : Ext Z.heap h) (t : Addr) (kt : ClassId) (v0 : Int64) (hV : Arv Z h t kt .long 1 [(.long v0)] (.long (0 : Int64))) (hn : Z.heap.size ≤ t) :
    Con l (⟨"java/util/DualPivotQuicksort", "sort", "(Ljava/util/DualPivotQuicksort$Sorter;[JIII)V"⟩ : MethodName) jdk_2529_method_13_code 25 none [] ({ frames := 1, cells := 0, slots := 0, locals := 18 } : Room) Z #[.null, (.ref t), (.int (0 : Int32)), (.int (0 : Int32)), (.int (1 : Int32))] h (fun v' h' => v' = none ∧ Keep h h' [t] ∧ Arv Z h' t kt .long 1 ([v0].map Value.long) (.long (0 : Int64))) := by
  refine con_of (plainFor_of_name pn_0) hE (fun m => ef_rso1 m t) ?_
  intro p e s m below meth c T0 C X0
  have C : Cx p s m meth c Z "java/util/DualPivotQuicksort" "sort" jdk_2529_method_13_code 25 none := C
  show Goes p e below _ T0 (mkF m 0 #[.val .null, .val (.ref t), .val (.int (0 : Int32)), .val (.int (0 : Int32)), .val (.int (1 : Int32)), .unset, .unset, .unset, .unset, .unset, .unset, .unset, .unset, .unset, .unset, .unset, .unset, .unset, .unset, .unset, .unset, .unset, .unset, .unset, .unset] [])
  refine g_iload C X0 d11_0 rfl ?_
  refine g_iconst (1 : Int32) C X0 d11_2 rfl ?_
  refine g_isub C X0 d11_3 ?_
  refine g_istore C X0 d11_4 (l' := #[.val .null, .val (.ref t), .val (.int (0 : Int32)), .val (.int (0 : Int32)), .val (.int (1 : Int32)), .val (.int (0 : Int32)), .unset, .unset, .unset, .unset, .unset, .unset, .unset, .unset, .unset, .unset, .unset, .unset, .unset, .unset, .unset, .unset, .unset, .unset, .unset]) rfl ?_
  refine g_iload C X0 d11_6 rfl ?_
  refine g_iloadN C X0 d11_8 rfl ?_
  refine g_isub C X0 d11_9 ?_
  refine g_istore C X0 d11_10 (l' := #[.val .null, .val (.ref t), .val (.int (0 : Int32)), .val (.int (0 : Int32)), .val (.int (1 : Int32)), .val (.int (0 : Int32)), .val (.int (1 : Int32)), .unset, .unset, .unset, .unset, .unset, .unset, .unset, .unset, .unset, .unset, .unset, .unset, .unset, .unset, .unset, .unset, .unset, .unset]) rfl ?_
  refine g_iload C X0 d11_12 rfl ?_
  refine g_bipush (65 : Int32) C X0 d11_14 rfl ?_
  refine g_iloadN C X0 d11_16 rfl ?_
  refine g_iadd C X0 d11_17 ?_
  refine g_icmpn (hI_ge _ _) C X0 d11_18 (fun q => absurd (by decide) q) (fun _ => ?_)
  refine g_iloadN C X0 d11_21 rfl ?_
  refine g_iconst (1 : Int32) C X0 d11_22 rfl ?_
  refine g_iand C X0 d11_23 ?_
  refine g_ifn (h0_le _) C X0 d11_24 (fun _ => ?_) (fun q => absurd q (by decide))
  refine g_iload C X0 d11_46 rfl ?_
  refine g_bipush (44 : Int32) C X0 d11_48 rfl ?_
  refine g_icmpn (hI_ge _ _) C X0 d11_50 (fun q => absurd (by decide) q) (fun _ => ?_)
  refine g_aloadN C X0 d11_53 rfl rfl ?_
  refine g_iloadN C X0 d11_54 rfl ?_
  refine g_iload C X0 d11_55 rfl ?_
  refine g_static (argsL := [(.ref t), (.int (0 : Int32)), (.int (1 : Int32))]) (st := []) C X0 (wd hw 52 rfl) (wd hw 53 rfl) (wd hw 47 rfl) (wd hw 54 rfl) (by decide) (pay_of (W' := 0) (rins1 l hw X0.ext t kt v0 hV hn) C.hZ (wd hw 54 rfl) (wd hw 47 rfl) (by decide) (by decide)) pd_0 rfl rfl _ rfl (Nat.le_of_eq rfl) d11_57 (by decide) (by decide) (fun T4 h4 v4 q4 X4 => ?_)
  obtain ⟨rfl, K4, V4⟩ := q4
  show Goes p e below _ T4 (mkF m 60 #[.val .null, .val (.ref t), .val (.int (0 : Int32)), .val (.int (0 : Int32)), .val (.int (1 : Int32)), .val (.int (0 : Int32)), .val (.int (1 : Int32)), .unset, .unset, .unset, .unset, .unset, .unset, .unset, .unset, .unset, .unset, .unset, .unset, .unset, .unset, .unset, .unset, .unset, .unset] [])
  exact g_retV C X4 d11_60 (by decide) (by decide) ⟨rfl, K4, V4⟩
theorem ef_rsp1 (m : MethodId) (t : Addr) : entryFrame m #[(.ref t), (.int (0 : Int32)), (.int (0 : Int32)), (.int (1 : Int32))] 7 = mkF m 0 #[.val (.ref t), .val (.int (0 : Int32)), .val (.int (0 : Int32)), .val (.int (1 : Int32)), .unset, .unset, .unset] [] := by first | (simp [entryFrame, mkF, argsToLocals, Value.category]; done) | rfl
theorem d10_0 : Dc jdk_2529_method_12_code 0 (.iload_n 3) 1 1 := ⟨by decide +kernel, rfl⟩
theorem d10_1 : Dc jdk_2529_method_12_code 1 (.iload_n 2) 1 2 := ⟨by decide +kernel, rfl⟩
theorem d10_2 : Dc jdk_2529_method_12_code 2 (.isub) 1 3 := ⟨by decide +kernel, rfl⟩
theorem d10_3 : Dc jdk_2529_method_12_code 3 (.istore 4) 2 5 := ⟨by decide +kernel, rfl⟩
theorem d10_5 : Dc jdk_2529_method_12_code 5 (.iload_n 1) 1 6 := ⟨by decide +kernel, rfl⟩
theorem d10_6 : Dc jdk_2529_method_12_code 6 (.iconst 1) 1 7 := ⟨by decide +kernel, rfl⟩
theorem d10_7 : Dj jdk_2529_method_12_code 7 (.if_icmp .le 61) 61 3 10 68 := ⟨by decide +kernel, rfl, by decide, by decide⟩
theorem d10_68 : Dc jdk_2529_method_12_code 68 (.aconst_null) 1 69 := ⟨by decide +kernel, rfl⟩
theorem d10_69 : Dc jdk_2529_method_12_code 69 (.aload_n 0) 1 70 := ⟨by decide +kernel, rfl⟩
theorem d10_70 : Dc jdk_2529_method_12_code 70 (.iconst 0) 1 71 := ⟨by decide +kernel, rfl⟩
theorem d10_71 : Dc jdk_2529_method_12_code 71 (.iload_n 2) 1 72 := ⟨by decide +kernel, rfl⟩
theorem d10_72 : Dc jdk_2529_method_12_code 72 (.iload_n 3) 1 73 := ⟨by decide +kernel, rfl⟩
theorem d10_73 : Dc jdk_2529_method_12_code 73 (.invokestatic 99) 3 76 := ⟨by decide +kernel, rfl⟩
theorem pd_1 : parseMethodDescriptor "(Ljava/util/DualPivotQuicksort$Sorter;[JIII)V" = some ⟨[(.object "java/util/DualPivotQuicksort$Sorter"), (.array .long), .int, .int, .int], none⟩ := by decide +kernel
theorem d10_76 : Dc jdk_2529_method_12_code 76 (.return_) 1 77 := ⟨by decide +kernel, rfl⟩
set_option maxRecDepth 65536 in
set_option maxHeartbeats 40000000 in
theorem rsp1 (l : Launch) {Z : State} {a0 : Array Value} (hw : ∀ d ∈ tables_1, d.before a0 Z = true) {h : Heap} (hE : Ext Z.heap h) (t : Addr) (kt : ClassId) (v0 : Int64) (hV : Arv Z h t kt .long 1 [(.long v0)] (.long (0 : Int64))) (hn : Z.heap.size ≤ t) :
    Con l (⟨"java/util/DualPivotQuicksort", "sort", "([JIII)V"⟩ : MethodName) jdk_2529_method_12_code 7 none [] ({ frames := 2, cells := 0, slots := 0, locals := 54 } : Room) Z #[(.ref t), (.int (0 : Int32)), (.int (0 : Int32)), (.int (1 : Int32))] h (fun v' h' => v' = none ∧ Keep h h' [t] ∧ Arv Z h' t kt .long 1 ([v0].map Value.long) (.long (0 : Int64))) := by
  refine con_of (plainFor_of_name pn_0) hE (fun m => ef_rsp1 m t) ?_
  intro p e s m below meth c T0 C X0
  have C : Cx p s m meth c Z "java/util/DualPivotQuicksort" "sort" jdk_2529_method_12_code 7 none := C
  show Goes p e below _ T0 (mkF m 0 #[.val (.ref t), .val (.int (0 : Int32)), .val (.int (0 : Int32)), .val (.int (1 : Int32)), .unset, .unset, .unset] [])
  refine g_iloadN C X0 d10_0 rfl ?_
  refine g_iloadN C X0 d10_1 rfl ?_
  refine g_isub C X0 d10_2 ?_
  refine g_istore C X0 d10_3 (l' := #[.val (.ref t), .val (.int (0 : Int32)), .val (.int (0 : Int32)), .val (.int (1 : Int32)), .val (.int (1 : Int32)), .unset, .unset]) rfl ?_
  refine g_iloadN C X0 d10_5 rfl ?_
  refine g_iconst (1 : Int32) C X0 d10_6 rfl ?_
  refine g_icmpn (hI_le _ _) C X0 d10_7 (fun _ => ?_) (fun q => absurd q (by decide))
  refine g_aconst_null C X0 d10_68 ?_
  refine g_aloadN C X0 d10_69 rfl rfl ?_
  refine g_iconst (0 : Int32) C X0 d10_70 rfl ?_
  refine g_iloadN C X0 d10_71 rfl ?_
  refine g_iloadN C X0 d10_72 rfl ?_
  refine g_static (argsL := [.null, (.ref t), (.int (0 : Int32)), (.int (0 : Int32)), (.int (1 : Int32))]) (st := []) C X0 (wd hw 49 rfl) (wd hw 50 rfl) (wd hw 47 rfl) (wd hw 51 rfl) (by decide) (pay_of (W' := 0) (rso1 l hw X0.ext t kt v0 hV hn) C.hZ (wd hw 51 rfl) (wd hw 47 rfl) (by decide) (by decide)) pd_1 rfl rfl _ rfl (Nat.le_of_eq rfl) d10_73 (by decide) (by decide) (fun T5 h5 v5 q5 X5 => ?_)
  obtain ⟨rfl, K5, V5⟩ := q5
  show Goes p e below _ T5 (mkF m 76 #[.val (.ref t), .val (.int (0 : Int32)), .val (.int (0 : Int32)), .val (.int (1 : Int32)), .val (.int (1 : Int32)), .unset, .unset] [])
  exact g_retV C X5 d10_76 (by decide) (by decide) ⟨rfl, K5, V5⟩
theorem pn_1 : plainName "java/util/Arrays" = true := by first | (simp [plainName, overriddenIn]; done) | decide +kernel
theorem ef_rsa1 (m : MethodId) (t : Addr) : entryFrame m #[(.ref t)] 1 = mkF m 0 #[.val (.ref t)] [] := by first | (simp [entryFrame, mkF, argsToLocals, Value.category]; done) | rfl
theorem d9_0 : Dc jdk_65_method_4_code 0 (.aload_n 0) 1 1 := ⟨by decide +kernel, rfl⟩
theorem d9_1 : Dc jdk_65_method_4_code 1 (.iconst 0) 1 2 := ⟨by decide +kernel, rfl⟩
theorem d9_2 : Dc jdk_65_method_4_code 2 (.iconst 0) 1 3 := ⟨by decide +kernel, rfl⟩
theorem d9_3 : Dc jdk_65_method_4_code 3 (.aload_n 0) 1 4 := ⟨by decide +kernel, rfl⟩
theorem d9_4 : Dc jdk_65_method_4_code 4 (.arraylength) 1 5 := ⟨by decide +kernel, rfl⟩
theorem d9_5 : Dc jdk_65_method_4_code 5 (.invokestatic 19) 3 8 := ⟨by decide +kernel, rfl⟩
theorem pd_2 : parseMethodDescriptor "([JIII)V" = some ⟨[(.array .long), .int, .int, .int], none⟩ := by decide +kernel
theorem d9_8 : Dc jdk_65_method_4_code 8 (.return_) 1 9 := ⟨by decide +kernel, rfl⟩
set_option maxRecDepth 65536 in
set_option maxHeartbeats 40000000 in
theorem rsa1 (l : Launch) {Z : State} {a0 : Array Value} (hw : ∀ d ∈ tables_1, d.before a0 Z = true) {h : Heap} (hE : Ext Z.heap h) (t : Addr) (kt : ClassId) (v0 : Int64) (hV : Arv Z h t kt .long 1 [(.long v0)] (.long (0 : Int64))) (hn : Z.heap.size ≤ t) :
    Con l (⟨"java/util/Arrays", "sort", "([J)V"⟩ : MethodName) jdk_65_method_4_code 1 none [] ({ frames := 3, cells := 0, slots := 0, locals := 72 } : Room) Z #[(.ref t)] h (fun v' h' => v' = none ∧ Keep h h' [t] ∧ Arv Z h' t kt .long 1 ([v0].map Value.long) (.long (0 : Int64))) := by
  refine con_of (plainFor_of_name pn_1) hE (fun m => ef_rsa1 m t) ?_
  intro p e s m below meth c T0 C X0
  have C : Cx p s m meth c Z "java/util/Arrays" "sort" jdk_65_method_4_code 1 none := C
  show Goes p e below _ T0 (mkF m 0 #[.val (.ref t)] [])
  refine g_aloadN C X0 d9_0 rfl rfl ?_
  refine g_iconst (0 : Int32) C X0 d9_1 rfl ?_
  refine g_iconst (0 : Int32) C X0 d9_2 rfl ?_
  refine g_aloadN C X0 d9_3 rfl rfl ?_
  refine g_arraylength C X0 hV d9_4 ?_
  refine g_static (argsL := [(.ref t), (.int (0 : Int32)), (.int (0 : Int32)), (.int (1 : Int32))]) (st := []) C X0 (wd hw 45 rfl) (wd hw 46 rfl) (wd hw 47 rfl) (wd hw 48 rfl) (by decide) (pay_of (W' := 0) (rsp1 l hw X0.ext t kt v0 hV hn) C.hZ (wd hw 48 rfl) (wd hw 47 rfl) (by decide) (by decide)) pd_2 rfl rfl _ rfl (Nat.le_of_eq rfl) d9_5 (by decide) (by decide) (fun T6 h6 v6 q6 X6 => ?_)
  obtain ⟨rfl, K6, V6⟩ := q6
  show Goes p e below _ T6 (mkF m 8 #[.val (.ref t)] [])
  exact g_retV C X6 d9_8 (by decide) (by decide) ⟨rfl, K6, V6⟩
theorem ef_rcp1 (m : MethodId) (t : Addr) : entryFrame m #[(.ref t), (.int (1 : Int32))] 3 = mkF m 0 #[.val (.ref t), .val (.int (1 : Int32)), .unset] [] := by first | (simp [entryFrame, mkF, argsToLocals, Value.category]; done) | rfl
theorem d7_0 : Dc jdk_65_method_124_code 0 (.iload_n 1) 1 1 := ⟨by decide +kernel, rfl⟩
theorem d7_1 : Dc jdk_65_method_124_code 1 (.aload_n 0) 1 2 := ⟨by decide +kernel, rfl⟩
theorem d7_2 : Dc jdk_65_method_124_code 2 (.arraylength) 1 3 := ⟨by decide +kernel, rfl⟩
theorem d7_3 : Dj jdk_65_method_124_code 3 (.if_icmp .ne 11) 11 3 6 14 := ⟨by decide +kernel, rfl, by decide, by decide⟩
theorem d7_14 : Dc jdk_65_method_124_code 14 (.iload_n 1) 1 15 := ⟨by decide +kernel, rfl⟩
theorem d7_15 : Dc jdk_65_method_124_code 15 (.newarray .long) 2 17 := ⟨by decide +kernel, rfl⟩
theorem d7_17 : Dc jdk_65_method_124_code 17 (.astore_n 2) 1 18 := ⟨by decide +kernel, rfl⟩
theorem d7_18 : Dc jdk_65_method_124_code 18 (.aload_n 0) 1 19 := ⟨by decide +kernel, rfl⟩
theorem d7_19 : Dc jdk_65_method_124_code 19 (.iconst 0) 1 20 := ⟨by decide +kernel, rfl⟩
theorem d7_20 : Dc jdk_65_method_124_code 20 (.aload_n 2) 1 21 := ⟨by decide +kernel, rfl⟩
theorem d7_21 : Dc jdk_65_method_124_code 21 (.iconst 0) 1 22 := ⟨by decide +kernel, rfl⟩
theorem d7_22 : Dc jdk_65_method_124_code 22 (.aload_n 0) 1 23 := ⟨by decide +kernel, rfl⟩
theorem d7_23 : Dc jdk_65_method_124_code 23 (.arraylength) 1 24 := ⟨by decide +kernel, rfl⟩
theorem d7_24 : Dc jdk_65_method_124_code 24 (.iload_n 1) 1 25 := ⟨by decide +kernel, rfl⟩
theorem d7_25 : Dc jdk_65_method_124_code 25 (.invokestatic 304) 3 28 := ⟨by decide +kernel, rfl⟩
theorem pd_3 : parseMethodDescriptor "(II)I" = some ⟨[.int, .int], some .int⟩ := by decide +kernel
theorem d7_28 : Dc jdk_65_method_124_code 28 (.invokestatic 150) 3 31 := ⟨by decide +kernel, rfl⟩
theorem d7_31 : Dc jdk_65_method_124_code 31 (.aload_n 2) 1 32 := ⟨by decide +kernel, rfl⟩
theorem d7_32 : Dc jdk_65_method_124_code 32 (.areturn) 1 33 := ⟨by decide +kernel, rfl⟩
set_option maxRecDepth 65536 in
set_option maxHeartbeats 40000000 in
theorem rcp1 (l : Launch) {Z : State} {a0 : Array Value} (hw : ∀ d ∈ tables_1, d.before a0 Z = true) {h : Heap} (hE : Ext Z.heap h) (t : Addr) (kt : ClassId) (v0 v1 v2 : Int64) (hV : Arv Z h t kt .long 1024 [(.long v0), (.long v1), (.long v2)] (.long (0 : Int64))) :
    Con l (⟨"java/util/Arrays", "copyOf", "([JI)[J"⟩ : MethodName) jdk_65_method_124_code 3 (some (.array .long)) [] ({ frames := 1, cells := 1, slots := 1, locals := 40 } : Room) Z #[(.ref t), (.int (1 : Int32))] h (fun v' h' => ∃ b kb, v' = some (.ref b) ∧ Z.heap.size ≤ b ∧ h.size ≤ b ∧ Ext h h' ∧ Arv Z h' b kb .long 1 [(.long v0)] (.long (0 : Int64))) := by
  refine con_of (plainFor_of_name pn_1) hE (fun m => ef_rcp1 m t) ?_
  intro p e s m below meth c T0 C X0
  have C : Cx p s m meth c Z "java/util/Arrays" "copyOf" jdk_65_method_124_code 3 (some (.array .long)) := C
  show Goes p e below _ T0 (mkF m 0 #[.val (.ref t), .val (.int (1 : Int32)), .unset] [])
  refine g_iloadN C X0 d7_0 rfl ?_
  refine g_aloadN C X0 d7_1 rfl rfl ?_
  refine g_arraylength C X0 hV d7_2 ?_
  refine g_icmpn (hI_ne _ _) C X0 d7_3 (fun _ => ?_) (fun q => absurd q (by decide))
  refine g_iloadN C X0 d7_14 rfl ?_
  refine g_newarray C X0 (wd hw 9 rfl) d7_15 (by decide) 1 1 (by decide) (by decide) (by decide) (by decide) (fun T7 h7 b7 k_b7 g_b7 n_b7 X7 E7 V7 => ?_)
  have lt8 : t < b7 := by rw [g_b7]; exact Arv.lt hV
  have V_b7 : Arv Z h7 b7 k_b7 .long (1 : Int32) [(.long (0 : Int64))] (.long (0 : Int64)) := V7
  refine g_astoreN C X7 d7_17 rfl (l' := #[.val (.ref t), .val (.int (1 : Int32)), .val (.ref b7)]) rfl ?_
  refine g_aloadN C X7 d7_18 rfl rfl ?_
  refine g_iconst (0 : Int32) C X7 d7_19 rfl ?_
  refine g_aloadN C X7 d7_20 rfl rfl ?_
  refine g_iconst (0 : Int32) C X7 d7_21 rfl ?_
  refine g_aloadN C X7 d7_22 rfl rfl ?_
  have f9 := (Arv.ext hV E7)
  refine g_arraylength C X7 f9 d7_23 ?_
  refine g_iloadN C X7 d7_24 rfl ?_
  refine g_staticP (argsL := [(.int (1024 : Int32)), (.int (1 : Int32))]) (st := [(.int (0 : Int32)), (.ref b7), (.int (0 : Int32)), (.ref t)]) C X7 (wd hw 35 rfl) (wd hw 36 rfl) (wd hw 21 rfl) (wd hw 37 rfl) (by decide) (pay_of (W' := 4) (rmini l hw X7.ext (1024 : Int32) (1 : Int32)) C.hZ (wd hw 37 rfl) (wd hw 21 rfl) (by decide) (by decide)) pd_3 rfl rfl _ rfl (Nat.le_of_eq rfl) d7_25 (by decide) (by decide) (fun T10 X10 => ?_)
  show Goes p e below _ T10 (mkF m 28 #[.val (.ref t), .val (.int (1 : Int32)), .val (.ref b7)] [(.int (1 : Int32)), (.int (0 : Int32)), (.ref b7), (.int (0 : Int32)), (.ref t)])
  refine g_arraycopy C X10 (wd hw 38 rfl) (wd hw 41 rfl) (wd hw 39 rfl) (wd hw 40 rfl) f9 V_b7 rfl (by decide) (by decide) (by decide) (by decide) (by decide) [(.long v0)] rfl (Nat.le_of_ble_eq_true rfl) n_b7 rfl d7_28 (by decide) 0 (Nat.le_of_eq rfl) (by decide) (fun T11 h11 X11 K11 V11 => ?_)
  have V11_b7 : Arv Z h11 b7 k_b7 .long (1 : Int32) [(.long v0)] (.long (0 : Int64)) := V11
  show Goes p e below _ T11 (mkF m 31 #[.val (.ref t), .val (.int (1 : Int32)), .val (.ref b7)] [])
  refine g_aloadN C X11 d7_31 rfl rfl ?_
  have sz12 : h.size ≤ b7 := by rw [g_b7]; exact (Keep.refl h []).1
  have kp13 := (Keep.refl h []).ext E7
  have kp14 := kp13.trans K11 (allS (Or.inr sz12) all0)
  exact g_retA C X11 rfl rfl d7_32 (by decide) (by decide) ⟨b7, k_b7, rfl, n_b7, sz12, keep_ext kp14, V11_b7⟩
theorem ef_rins2 (m : MethodId) (t : Addr) : entryFrame m #[(.ref t), (.int (0 : Int32)), (.int (2 : Int32))] 7 = mkF m 0 #[.val (.ref t), .val (.int (0 : Int32)), .val (.int (2 : Int32)), .unset, .unset, .unset, .unset] [] := by first | (simp [entryFrame, mkF, argsToLocals, Value.category]; done) | rfl
theorem d12_12 : Dc jdk_2529_method_15_code 12 (.aload_n 0) 1 13 := ⟨by decide +kernel, rfl⟩
theorem d12_13 : Dc jdk_2529_method_15_code 13 (.iload 4) 2 15 := ⟨by decide +kernel, rfl⟩
theorem d12_15 : Dc jdk_2529_method_15_code 15 (.dup) 1 16 := ⟨by decide +kernel, rfl⟩
theorem d12_16 : Dc jdk_2529_method_15_code 16 (.istore_n 3) 1 17 := ⟨by decide +kernel, rfl⟩
theorem d12_17 : Dc jdk_2529_method_15_code 17 (.laload) 1 18 := ⟨by decide +kernel, rfl⟩
theorem d12_18 : Dc jdk_2529_method_15_code 18 (.lstore 5) 2 20 := ⟨by decide +kernel, rfl⟩
theorem d12_20 : Dc jdk_2529_method_15_code 20 (.lload 5) 2 22 := ⟨by decide +kernel, rfl⟩
theorem d12_22 : Dc jdk_2529_method_15_code 22 (.aload_n 0) 1 23 := ⟨by decide +kernel, rfl⟩
theorem d12_23 : Dc jdk_2529_method_15_code 23 (.iload_n 3) 1 24 := ⟨by decide +kernel, rfl⟩
theorem d12_24 : Dc jdk_2529_method_15_code 24 (.iconst 1) 1 25 := ⟨by decide +kernel, rfl⟩
theorem d12_25 : Dc jdk_2529_method_15_code 25 (.isub) 1 26 := ⟨by decide +kernel, rfl⟩
theorem d12_26 : Dc jdk_2529_method_15_code 26 (.laload) 1 27 := ⟨by decide +kernel, rfl⟩
theorem d12_27 : Dc jdk_2529_method_15_code 27 (.lcmp) 1 28 := ⟨by decide +kernel, rfl⟩
theorem d12_28 : Dj jdk_2529_method_15_code 28 (.ifCond .ge 38) 38 3 31 66 := ⟨by decide +kernel, rfl, by decide, by decide⟩
theorem d12_66 : Dj jdk_2529_method_15_code 66 (.goto (-63)) (-63) 3 69 3 := ⟨by decide +kernel, rfl, by decide, by decide⟩
theorem d12_31 : Dc jdk_2529_method_15_code 31 (.iinc 3 (-1)) 3 34 := ⟨by decide +kernel, rfl⟩
theorem d12_34 : Dc jdk_2529_method_15_code 34 (.iload_n 3) 1 35 := ⟨by decide +kernel, rfl⟩
theorem d12_35 : Dc jdk_2529_method_15_code 35 (.iload_n 1) 1 36 := ⟨by decide +kernel, rfl⟩
theorem d12_36 : Dj jdk_2529_method_15_code 36 (.if_icmp .lt 23) 23 3 39 59 := ⟨by decide +kernel, rfl, by decide, by decide⟩
theorem d12_39 : Dc jdk_2529_method_15_code 39 (.lload 5) 2 41 := ⟨by decide +kernel, rfl⟩
theorem d12_41 : Dc jdk_2529_method_15_code 41 (.aload_n 0) 1 42 := ⟨by decide +kernel, rfl⟩
theorem d12_42 : Dc jdk_2529_method_15_code 42 (.iload_n 3) 1 43 := ⟨by decide +kernel, rfl⟩
theorem d12_43 : Dc jdk_2529_method_15_code 43 (.laload) 1 44 := ⟨by decide +kernel, rfl⟩
theorem d12_44 : Dc jdk_2529_method_15_code 44 (.lcmp) 1 45 := ⟨by decide +kernel, rfl⟩
theorem d12_45 : Dj jdk_2529_method_15_code 45 (.ifCond .ge 14) 14 3 48 59 := ⟨by decide +kernel, rfl, by decide, by decide⟩
theorem d12_48 : Dc jdk_2529_method_15_code 48 (.aload_n 0) 1 49 := ⟨by decide +kernel, rfl⟩
theorem d12_49 : Dc jdk_2529_method_15_code 49 (.iload_n 3) 1 50 := ⟨by decide +kernel, rfl⟩
theorem d12_50 : Dc jdk_2529_method_15_code 50 (.iconst 1) 1 51 := ⟨by decide +kernel, rfl⟩
theorem d12_51 : Dc jdk_2529_method_15_code 51 (.iadd) 1 52 := ⟨by decide +kernel, rfl⟩
theorem d12_52 : Dc jdk_2529_method_15_code 52 (.aload_n 0) 1 53 := ⟨by decide +kernel, rfl⟩
theorem d12_53 : Dc jdk_2529_method_15_code 53 (.iload_n 3) 1 54 := ⟨by decide +kernel, rfl⟩
theorem d12_54 : Dc jdk_2529_method_15_code 54 (.laload) 1 55 := ⟨by decide +kernel, rfl⟩
theorem d12_55 : Dc jdk_2529_method_15_code 55 (.lastore) 1 56 := ⟨by decide +kernel, rfl⟩
theorem d12_56 : Dj jdk_2529_method_15_code 56 (.goto (-25)) (-25) 3 59 31 := ⟨by decide +kernel, rfl, by decide, by decide⟩
theorem d12_59 : Dc jdk_2529_method_15_code 59 (.aload_n 0) 1 60 := ⟨by decide +kernel, rfl⟩
theorem d12_60 : Dc jdk_2529_method_15_code 60 (.iload_n 3) 1 61 := ⟨by decide +kernel, rfl⟩
theorem d12_61 : Dc jdk_2529_method_15_code 61 (.iconst 1) 1 62 := ⟨by decide +kernel, rfl⟩
theorem d12_62 : Dc jdk_2529_method_15_code 62 (.iadd) 1 63 := ⟨by decide +kernel, rfl⟩
theorem d12_63 : Dc jdk_2529_method_15_code 63 (.lload 5) 2 65 := ⟨by decide +kernel, rfl⟩
theorem d12_65 : Dc jdk_2529_method_15_code 65 (.lastore) 1 66 := ⟨by decide +kernel, rfl⟩
set_option maxRecDepth 65536 in
set_option maxHeartbeats 40000000 in
theorem rins2 (l : Launch) {Z : State} {a0 : Array Value} (hw : ∀ d ∈ tables_1, d.before a0 Z = true) {h : Heap} (hE : Ext Z.heap h) (t : Addr) (kt : ClassId) (v0 : Int64) (v1 : Int64) (hV : Arv Z h t kt .long 2 [(.long v0), (.long v1)] (.long (0 : Int64))) (hn : Z.heap.size ≤ t) :
    Con l (⟨"java/util/DualPivotQuicksort", "insertionSort", "([JII)V"⟩ : MethodName) jdk_2529_method_15_code 7 none [] ({ frames := 0, cells := 0, slots := 0, locals := 0 } : Room) Z #[(.ref t), (.int (0 : Int32)), (.int (2 : Int32))] h (fun v' h' => v' = none ∧ Keep h h' [t] ∧ Arv Z h' t kt .long 2 ((own_s2 v0 v1).map Value.long) (.long (0 : Int64))) := by
  refine con_of (plainFor_of_name pn_0) hE (fun m => ef_rins2 m t) ?_
  intro p e s m below meth c T0 C X0
  have C : Cx p s m meth c Z "java/util/DualPivotQuicksort" "insertionSort" jdk_2529_method_15_code 7 none := C
  show Goes p e below _ T0 (mkF m 0 #[.val (.ref t), .val (.int (0 : Int32)), .val (.int (2 : Int32)), .unset, .unset, .unset, .unset] [])
  refine g_iloadN C X0 d12_0 rfl ?_
  refine g_istore C X0 d12_1 (l' := #[.val (.ref t), .val (.int (0 : Int32)), .val (.int (2 : Int32)), .unset, .val (.int (0 : Int32)), .unset, .unset]) rfl ?_
  refine g_iinc (1 : Int32) C X0 d12_3 rfl rfl (l' := #[.val (.ref t), .val (.int (0 : Int32)), .val (.int (2 : Int32)), .unset, .val (.int (1 : Int32)), .unset, .unset]) rfl ?_
  refine g_iload C X0 d12_6 rfl ?_
  refine g_iloadN C X0 d12_8 rfl ?_
  refine g_icmpn (hI_ge _ _) C X0 d12_9 (fun q => absurd (by decide) q) (fun _ => ?_)
  refine g_aloadN C X0 d12_12 rfl rfl ?_
  refine g_iload C X0 d12_13 rfl ?_
  refine g_dup C X0 d12_15 rfl ?_
  refine g_istoreN C X0 d12_16 (l' := #[.val (.ref t), .val (.int (0 : Int32)), .val (.int (2 : Int32)), .val (.int (1 : Int32)), .val (.int (1 : Int32)), .unset, .unset]) rfl ?_
  refine g_laload C X0 hV d12_17 (by decide) (by decide) rfl ?_
  refine g_lstore C X0 d12_18 (l' := #[.val (.ref t), .val (.int (0 : Int32)), .val (.int (2 : Int32)), .val (.int (1 : Int32)), .val (.int (1 : Int32)), .val (.long v1), .second]) rfl ?_
  refine g_lload C X0 d12_20 rfl ?_
  refine g_aloadN C X0 d12_22 rfl rfl ?_
  refine g_iloadN C X0 d12_23 rfl ?_
  refine g_iconst (1 : Int32) C X0 d12_24 rfl ?_
  refine g_isub C X0 d12_25 ?_
  refine g_laload C X0 hV d12_26 (by decide) (by decide) rfl ?_
  refine g_lcmp C X0 d12_27 ?_
  refine g_ifn (hL_ge _ _) C X0 d12_28 (fun c28_15 => ?_) (fun c28_15 => ?_)
  · refine g_goto C X0 d12_66 ?_
    refine g_iinc (1 : Int32) C X0 d12_3 rfl rfl (l' := #[.val (.ref t), .val (.int (0 : Int32)), .val (.int (2 : Int32)), .val (.int (1 : Int32)), .val (.int (2 : Int32)), .val (.long v1), .second]) rfl ?_
    refine g_iload C X0 d12_6 rfl ?_
    refine g_iloadN C X0 d12_8 rfl ?_
    refine g_icmpn (hI_ge _ _) C X0 d12_9 (fun _ => ?_) (fun q => absurd q (by decide))
    exact g_retV C X0 d12_69 (by decide) (by decide) ⟨rfl, (Keep.refl h [t]), by unfold own_s2; rw [if_neg c28_15]; exact hV⟩
  · refine g_iinc (-1 : Int32) C X0 d12_31 rfl rfl (l' := #[.val (.ref t), .val (.int (0 : Int32)), .val (.int (2 : Int32)), .val (.int (0 : Int32)), .val (.int (1 : Int32)), .val (.long v1), .second]) rfl ?_
    refine g_iloadN C X0 d12_34 rfl ?_
    refine g_iloadN C X0 d12_35 rfl ?_
    refine g_icmp (hI_lt _ _) C X0 d12_36 (fun q => absurd q (by decide)) (fun _ => ?_)
    refine g_lload C X0 d12_39 rfl ?_
    refine g_aloadN C X0 d12_41 rfl rfl ?_
    refine g_iloadN C X0 d12_42 rfl ?_
    refine g_laload C X0 hV d12_43 (by decide) (by decide) rfl ?_
    refine g_lcmp C X0 d12_44 ?_
    refine g_ifn (hL_ge _ _) C X0 d12_45 (fun q => absurd c28_15 q) (fun _ => ?_)
    refine g_aloadN C X0 d12_48 rfl rfl ?_
    refine g_iloadN C X0 d12_49 rfl ?_
    refine g_iconst (1 : Int32) C X0 d12_50 rfl ?_
    refine g_iadd C X0 d12_51 ?_
    refine g_aloadN C X0 d12_52 rfl rfl ?_
    refine g_iloadN C X0 d12_53 rfl ?_
    refine g_laload C X0 hV d12_54 (by decide) (by decide) rfl ?_
    refine g_lastore C X0 hV hn d12_55 (by decide) (by decide) (Nat.le_of_ble_eq_true rfl) (.long v0) rfl (fun T16 h16 X16 W16 V16 => ?_)
    have V16_t : Arv Z h16 t kt .long (2 : Int32) [(.long v0), (.long v0)] (.long (0 : Int64)) := V16
    refine g_goto C X16 d12_56 ?_
    refine g_iinc (-1 : Int32) C X16 d12_31 rfl rfl (l' := #[.val (.ref t), .val (.int (0 : Int32)), .val (.int (2 : Int32)), .val (.int (-1 : Int32)), .val (.int (1 : Int32)), .val (.long v1), .second]) rfl ?_
    refine g_iloadN C X16 d12_34 rfl ?_
    refine g_iloadN C X16 d12_35 rfl ?_
    refine g_icmp (hI_lt _ _) C X16 d12_36 (fun _ => ?_) (fun q => absurd (by decide) q)
    refine g_aloadN C X16 d12_59 rfl rfl ?_
    refine g_iloadN C X16 d12_60 rfl ?_
    refine g_iconst (1 : Int32) C X16 d12_61 rfl ?_
    refine g_iadd C X16 d12_62 ?_
    refine g_lload C X16 d12_63 rfl ?_
    refine g_lastore C X16 V16_t hn d12_65 (by decide) (by decide) (Nat.le_of_ble_eq_true rfl) (.long v1) rfl (fun T17 h17 X17 W17 V17 => ?_)
    have V17_t : Arv Z h17 t kt .long (2 : Int32) [(.long v1), (.long v0)] (.long (0 : Int64)) := V17
    refine g_goto C X17 d12_66 ?_
    refine g_iinc (1 : Int32) C X17 d12_3 rfl rfl (l' := #[.val (.ref t), .val (.int (0 : Int32)), .val (.int (2 : Int32)), .val (.int (-1 : Int32)), .val (.int (2 : Int32)), .val (.long v1), .second]) rfl ?_
    refine g_iload C X17 d12_6 rfl ?_
    refine g_iloadN C X17 d12_8 rfl ?_
    refine g_icmpn (hI_ge _ _) C X17 d12_9 (fun _ => ?_) (fun q => absurd q (by decide))
    have kp18 := (Keep.refl h [t]).wr W16 (Or.inl (by simp))
    have kp19 := kp18.wr W17 (Or.inl (by simp))
    exact g_retV C X17 d12_69 (by decide) (by decide) ⟨rfl, kp19, by unfold own_s2; rw [if_pos c28_15]; exact V17_t⟩
theorem ef_rso2 (m : MethodId) (t : Addr) : entryFrame m #[.null, (.ref t), (.int (0 : Int32)), (.int (0 : Int32)), (.int (2 : Int32))] 25 = mkF m 0 #[.val .null, .val (.ref t), .val (.int (0 : Int32)), .val (.int (0 : Int32)), .val (.int (2 : Int32)), .unset, .unset, .unset, .unset, .unset, .unset, .unset, .unset, .unset, .unset, .unset, .unset, .unset, .unset, .unset, .unset, .unset, .unset, .unset, .unset] [] := by first | (simp [entryFrame, mkF, argsToLocals, Value.category]; done) | rfl
set_option maxRecDepth 65536 in
set_option maxHeartbeats 40000000 in
theorem rso2 (l : Launch) {Z : State} {a0 : Array Value} (hw : ∀ d ∈ tables_1, d.before a0 Z = true) {h : Heap} (hE : Ext Z.heap h) (t : Addr) (kt : ClassId) (v0 : Int64) (v1 : Int64) (hV : Arv Z h t kt .long 2 [(.long v0), (.long v1)] (.long (0 : Int64))) (hn : Z.heap.size ≤ t) :
    Con l (⟨"java/util/DualPivotQuicksort", "sort", "(Ljava/util/DualPivotQuicksort$Sorter;[JIII)V"⟩ : MethodName) jdk_2529_method_13_code 25 none [] ({ frames := 1, cells := 0, slots := 0, locals := 18 } : Room) Z #[.null, (.ref t), (.int (0 : Int32)), (.int (0 : Int32)), (.int (2 : Int32))] h (fun v' h' => v' = none ∧ Keep h h' [t] ∧ Arv Z h' t kt .long 2 ((own_s2 v0 v1).map Value.long) (.long (0 : Int64))) := by
  refine con_of (plainFor_of_name pn_0) hE (fun m => ef_rso2 m t) ?_
  intro p e s m below meth c T0 C X0
  have C : Cx p s m meth c Z "java/util/DualPivotQuicksort" "sort" jdk_2529_method_13_code 25 none := C
  show Goes p e below _ T0 (mkF m 0 #[.val .null, .val (.ref t), .val (.int (0 : Int32)), .val (.int (0 : Int32)), .val (.int (2 : Int32)), .unset, .unset, .unset, .unset, .unset, .unset, .unset, .unset, .unset, .unset, .unset, .unset, .unset, .unset, .unset, .unset, .unset, .unset, .unset, .unset] [])
  refine g_iload C X0 d11_0 rfl ?_
  refine g_iconst (1 : Int32) C X0 d11_2 rfl ?_
  refine g_isub C X0 d11_3 ?_
  refine g_istore C X0 d11_4 (l' := #[.val .null, .val (.ref t), .val (.int (0 : Int32)), .val (.int (0 : Int32)), .val (.int (2 : Int32)), .val (.int (1 : Int32)), .unset, .unset, .unset, .unset, .unset, .unset, .unset, .unset, .unset, .unset, .unset, .unset, .unset, .unset, .unset, .unset, .unset, .unset, .unset]) rfl ?_
  refine g_iload C X0 d11_6 rfl ?_
  refine g_iloadN C X0 d11_8 rfl ?_
  refine g_isub C X0 d11_9 ?_
  refine g_istore C X0 d11_10 (l' := #[.val .null, .val (.ref t), .val (.int (0 : Int32)), .val (.int (0 : Int32)), .val (.int (2 : Int32)), .val (.int (1 : Int32)), .val (.int (2 : Int32)), .unset, .unset, .unset, .unset, .unset, .unset, .unset, .unset, .unset, .unset, .unset, .unset, .unset, .unset, .unset, .unset, .unset, .unset]) rfl ?_
  refine g_iload C X0 d11_12 rfl ?_
  refine g_bipush (65 : Int32) C X0 d11_14 rfl ?_
  refine g_iloadN C X0 d11_16 rfl ?_
  refine g_iadd C X0 d11_17 ?_
  refine g_icmpn (hI_ge _ _) C X0 d11_18 (fun q => absurd (by decide) q) (fun _ => ?_)
  refine g_iloadN C X0 d11_21 rfl ?_
  refine g_iconst (1 : Int32) C X0 d11_22 rfl ?_
  refine g_iand C X0 d11_23 ?_
  refine g_ifn (h0_le _) C X0 d11_24 (fun _ => ?_) (fun q => absurd q (by decide))
  refine g_iload C X0 d11_46 rfl ?_
  refine g_bipush (44 : Int32) C X0 d11_48 rfl ?_
  refine g_icmpn (hI_ge _ _) C X0 d11_50 (fun q => absurd (by decide) q) (fun _ => ?_)
  refine g_aloadN C X0 d11_53 rfl rfl ?_
  refine g_iloadN C X0 d11_54 rfl ?_
  refine g_iload C X0 d11_55 rfl ?_
  refine g_static (argsL := [(.ref t), (.int (0 : Int32)), (.int (2 : Int32))]) (st := []) C X0 (wd hw 52 rfl) (wd hw 53 rfl) (wd hw 47 rfl) (wd hw 54 rfl) (by decide) (pay_of (W' := 0) (rins2 l hw X0.ext t kt v0 v1 hV hn) C.hZ (wd hw 54 rfl) (wd hw 47 rfl) (by decide) (by decide)) pd_0 rfl rfl _ rfl (Nat.le_of_eq rfl) d11_57 (by decide) (by decide) (fun T20 h20 v20 q20 X20 => ?_)
  obtain ⟨rfl, K20, V20⟩ := q20
  show Goes p e below _ T20 (mkF m 60 #[.val .null, .val (.ref t), .val (.int (0 : Int32)), .val (.int (0 : Int32)), .val (.int (2 : Int32)), .val (.int (1 : Int32)), .val (.int (2 : Int32)), .unset, .unset, .unset, .unset, .unset, .unset, .unset, .unset, .unset, .unset, .unset, .unset, .unset, .unset, .unset, .unset, .unset, .unset] [])
  exact g_retV C X20 d11_60 (by decide) (by decide) ⟨rfl, K20, V20⟩
theorem ef_rsp2 (m : MethodId) (t : Addr) : entryFrame m #[(.ref t), (.int (0 : Int32)), (.int (0 : Int32)), (.int (2 : Int32))] 7 = mkF m 0 #[.val (.ref t), .val (.int (0 : Int32)), .val (.int (0 : Int32)), .val (.int (2 : Int32)), .unset, .unset, .unset] [] := by first | (simp [entryFrame, mkF, argsToLocals, Value.category]; done) | rfl
set_option maxRecDepth 65536 in
set_option maxHeartbeats 40000000 in
theorem rsp2 (l : Launch) {Z : State} {a0 : Array Value} (hw : ∀ d ∈ tables_1, d.before a0 Z = true) {h : Heap} (hE : Ext Z.heap h) (t : Addr) (kt : ClassId) (v0 : Int64) (v1 : Int64) (hV : Arv Z h t kt .long 2 [(.long v0), (.long v1)] (.long (0 : Int64))) (hn : Z.heap.size ≤ t) :
    Con l (⟨"java/util/DualPivotQuicksort", "sort", "([JIII)V"⟩ : MethodName) jdk_2529_method_12_code 7 none [] ({ frames := 2, cells := 0, slots := 0, locals := 54 } : Room) Z #[(.ref t), (.int (0 : Int32)), (.int (0 : Int32)), (.int (2 : Int32))] h (fun v' h' => v' = none ∧ Keep h h' [t] ∧ Arv Z h' t kt .long 2 ((own_s2 v0 v1).map Value.long) (.long (0 : Int64))) := by
  refine con_of (plainFor_of_name pn_0) hE (fun m => ef_rsp2 m t) ?_
  intro p e s m below meth c T0 C X0
  have C : Cx p s m meth c Z "java/util/DualPivotQuicksort" "sort" jdk_2529_method_12_code 7 none := C
  show Goes p e below _ T0 (mkF m 0 #[.val (.ref t), .val (.int (0 : Int32)), .val (.int (0 : Int32)), .val (.int (2 : Int32)), .unset, .unset, .unset] [])
  refine g_iloadN C X0 d10_0 rfl ?_
  refine g_iloadN C X0 d10_1 rfl ?_
  refine g_isub C X0 d10_2 ?_
  refine g_istore C X0 d10_3 (l' := #[.val (.ref t), .val (.int (0 : Int32)), .val (.int (0 : Int32)), .val (.int (2 : Int32)), .val (.int (2 : Int32)), .unset, .unset]) rfl ?_
  refine g_iloadN C X0 d10_5 rfl ?_
  refine g_iconst (1 : Int32) C X0 d10_6 rfl ?_
  refine g_icmpn (hI_le _ _) C X0 d10_7 (fun _ => ?_) (fun q => absurd q (by decide))
  refine g_aconst_null C X0 d10_68 ?_
  refine g_aloadN C X0 d10_69 rfl rfl ?_
  refine g_iconst (0 : Int32) C X0 d10_70 rfl ?_
  refine g_iloadN C X0 d10_71 rfl ?_
  refine g_iloadN C X0 d10_72 rfl ?_
  refine g_static (argsL := [.null, (.ref t), (.int (0 : Int32)), (.int (0 : Int32)), (.int (2 : Int32))]) (st := []) C X0 (wd hw 49 rfl) (wd hw 50 rfl) (wd hw 47 rfl) (wd hw 51 rfl) (by decide) (pay_of (W' := 0) (rso2 l hw X0.ext t kt v0 v1 hV hn) C.hZ (wd hw 51 rfl) (wd hw 47 rfl) (by decide) (by decide)) pd_1 rfl rfl _ rfl (Nat.le_of_eq rfl) d10_73 (by decide) (by decide) (fun T21 h21 v21 q21 X21 => ?_)
  obtain ⟨rfl, K21, V21⟩ := q21
  show Goes p e below _ T21 (mkF m 76 #[.val (.ref t), .val (.int (0 : Int32)), .val (.int (0 : Int32)), .val (.int (2 : Int32)), .val (.int (2 : Int32)), .unset, .unset] [])
  exact g_retV C X21 d10_76 (by decide) (by decide) ⟨rfl, K21, V21⟩
theorem ef_rsa2 (m : MethodId) (t : Addr) : entryFrame m #[(.ref t)] 1 = mkF m 0 #[.val (.ref t)] [] := by first | (simp [entryFrame, mkF, argsToLocals, Value.category]; done) | rfl
set_option maxRecDepth 65536 in
set_option maxHeartbeats 40000000 in
theorem rsa2 (l : Launch) {Z : State} {a0 : Array Value} (hw : ∀ d ∈ tables_1, d.before a0 Z = true) {h : Heap} (hE : Ext Z.heap h) (t : Addr) (kt : ClassId) (v0 : Int64) (v1 : Int64) (hV : Arv Z h t kt .long 2 [(.long v0), (.long v1)] (.long (0 : Int64))) (hn : Z.heap.size ≤ t) :
    Con l (⟨"java/util/Arrays", "sort", "([J)V"⟩ : MethodName) jdk_65_method_4_code 1 none [] ({ frames := 3, cells := 0, slots := 0, locals := 72 } : Room) Z #[(.ref t)] h (fun v' h' => v' = none ∧ Keep h h' [t] ∧ Arv Z h' t kt .long 2 ((own_s2 v0 v1).map Value.long) (.long (0 : Int64))) := by
  refine con_of (plainFor_of_name pn_1) hE (fun m => ef_rsa2 m t) ?_
  intro p e s m below meth c T0 C X0
  have C : Cx p s m meth c Z "java/util/Arrays" "sort" jdk_65_method_4_code 1 none := C
  show Goes p e below _ T0 (mkF m 0 #[.val (.ref t)] [])
  refine g_aloadN C X0 d9_0 rfl rfl ?_
  refine g_iconst (0 : Int32) C X0 d9_1 rfl ?_
  refine g_iconst (0 : Int32) C X0 d9_2 rfl ?_
  refine g_aloadN C X0 d9_3 rfl rfl ?_
  refine g_arraylength C X0 hV d9_4 ?_
  refine g_static (argsL := [(.ref t), (.int (0 : Int32)), (.int (0 : Int32)), (.int (2 : Int32))]) (st := []) C X0 (wd hw 45 rfl) (wd hw 46 rfl) (wd hw 47 rfl) (wd hw 48 rfl) (by decide) (pay_of (W' := 0) (rsp2 l hw X0.ext t kt v0 v1 hV hn) C.hZ (wd hw 48 rfl) (wd hw 47 rfl) (by decide) (by decide)) pd_2 rfl rfl _ rfl (Nat.le_of_eq rfl) d9_5 (by decide) (by decide) (fun T22 h22 v22 q22 X22 => ?_)
  obtain ⟨rfl, K22, V22⟩ := q22
  show Goes p e below _ T22 (mkF m 8 #[.val (.ref t)] [])
  exact g_retV C X22 d9_8 (by decide) (by decide) ⟨rfl, K22, V22⟩
theorem ef_rcp2 (m : MethodId) (t : Addr) : entryFrame m #[(.ref t), (.int (2 : Int32))] 3 = mkF m 0 #[.val (.ref t), .val (.int (2 : Int32)), .unset] [] := by first | (simp [entryFrame, mkF, argsToLocals, Value.category]; done) | rfl
set_option maxRecDepth 65536 in
set_option maxHeartbeats 40000000 in
theorem rcp2 (l : Launch) {Z : State} {a0 : Array Value} (hw : ∀ d ∈ tables_1, d.before a0 Z = true) {h : Heap} (hE : Ext Z.heap h) (t : Addr) (kt : ClassId) (v0 v1 v2 : Int64) (hV : Arv Z h t kt .long 1024 [(.long v0), (.long v1), (.long v2)] (.long (0 : Int64))) :
    Con l (⟨"java/util/Arrays", "copyOf", "([JI)[J"⟩ : MethodName) jdk_65_method_124_code 3 (some (.array .long)) [] ({ frames := 1, cells := 1, slots := 2, locals := 40 } : Room) Z #[(.ref t), (.int (2 : Int32))] h (fun v' h' => ∃ b kb, v' = some (.ref b) ∧ Z.heap.size ≤ b ∧ h.size ≤ b ∧ Ext h h' ∧ Arv Z h' b kb .long 2 [(.long v0), (.long v1)] (.long (0 : Int64))) := by
  refine con_of (plainFor_of_name pn_1) hE (fun m => ef_rcp2 m t) ?_
  intro p e s m below meth c T0 C X0
  have C : Cx p s m meth c Z "java/util/Arrays" "copyOf" jdk_65_method_124_code 3 (some (.array .long)) := C
  show Goes p e below _ T0 (mkF m 0 #[.val (.ref t), .val (.int (2 : Int32)), .unset] [])
  refine g_iloadN C X0 d7_0 rfl ?_
  refine g_aloadN C X0 d7_1 rfl rfl ?_
  refine g_arraylength C X0 hV d7_2 ?_
  refine g_icmpn (hI_ne _ _) C X0 d7_3 (fun _ => ?_) (fun q => absurd q (by decide))
  refine g_iloadN C X0 d7_14 rfl ?_
  refine g_newarray C X0 (wd hw 9 rfl) d7_15 (by decide) 2 2 (by decide) (by decide) (by decide) (by decide) (fun T23 h23 b23 k_b23 g_b23 n_b23 X23 E23 V23 => ?_)
  have lt24 : t < b23 := by rw [g_b23]; exact Arv.lt hV
  have V_b23 : Arv Z h23 b23 k_b23 .long (2 : Int32) [(.long (0 : Int64)), (.long (0 : Int64))] (.long (0 : Int64)) := V23
  refine g_astoreN C X23 d7_17 rfl (l' := #[.val (.ref t), .val (.int (2 : Int32)), .val (.ref b23)]) rfl ?_
  refine g_aloadN C X23 d7_18 rfl rfl ?_
  refine g_iconst (0 : Int32) C X23 d7_19 rfl ?_
  refine g_aloadN C X23 d7_20 rfl rfl ?_
  refine g_iconst (0 : Int32) C X23 d7_21 rfl ?_
  refine g_aloadN C X23 d7_22 rfl rfl ?_
  have f25 := (Arv.ext hV E23)
  refine g_arraylength C X23 f25 d7_23 ?_
  refine g_iloadN C X23 d7_24 rfl ?_
  refine g_staticP (argsL := [(.int (1024 : Int32)), (.int (2 : Int32))]) (st := [(.int (0 : Int32)), (.ref b23), (.int (0 : Int32)), (.ref t)]) C X23 (wd hw 35 rfl) (wd hw 36 rfl) (wd hw 21 rfl) (wd hw 37 rfl) (by decide) (pay_of (W' := 4) (rmini l hw X23.ext (1024 : Int32) (2 : Int32)) C.hZ (wd hw 37 rfl) (wd hw 21 rfl) (by decide) (by decide)) pd_3 rfl rfl _ rfl (Nat.le_of_eq rfl) d7_25 (by decide) (by decide) (fun T26 X26 => ?_)
  show Goes p e below _ T26 (mkF m 28 #[.val (.ref t), .val (.int (2 : Int32)), .val (.ref b23)] [(.int (2 : Int32)), (.int (0 : Int32)), (.ref b23), (.int (0 : Int32)), (.ref t)])
  refine g_arraycopy C X26 (wd hw 38 rfl) (wd hw 41 rfl) (wd hw 39 rfl) (wd hw 40 rfl) f25 V_b23 rfl (by decide) (by decide) (by decide) (by decide) (by decide) [(.long v0), (.long v1)] rfl (Nat.le_of_ble_eq_true rfl) n_b23 rfl d7_28 (by decide) 0 (Nat.le_of_eq rfl) (by decide) (fun T27 h27 X27 K27 V27 => ?_)
  have V27_b23 : Arv Z h27 b23 k_b23 .long (2 : Int32) [(.long v0), (.long v1)] (.long (0 : Int64)) := V27
  show Goes p e below _ T27 (mkF m 31 #[.val (.ref t), .val (.int (2 : Int32)), .val (.ref b23)] [])
  refine g_aloadN C X27 d7_31 rfl rfl ?_
  have sz28 : h.size ≤ b23 := by rw [g_b23]; exact (Keep.refl h []).1
  have kp29 := (Keep.refl h []).ext E23
  have kp30 := kp29.trans K27 (allS (Or.inr sz28) all0)
  exact g_retA C X27 rfl rfl d7_32 (by decide) (by decide) ⟨b23, k_b23, rfl, n_b23, sz28, keep_ext kp30, V27_b23⟩
theorem ef_rins3 (m : MethodId) (t : Addr) : entryFrame m #[(.ref t), (.int (0 : Int32)), (.int (3 : Int32))] 7 = mkF m 0 #[.val (.ref t), .val (.int (0 : Int32)), .val (.int (3 : Int32)), .unset, .unset, .unset, .unset] [] := by first | (simp [entryFrame, mkF, argsToLocals, Value.category]; done) | rfl
set_option maxRecDepth 65536 in
set_option maxHeartbeats 40000000 in
theorem rins3 (l : Launch) {Z : State} {a0 : Array Value} (hw : ∀ d ∈ tables_1, d.before a0 Z = true) {h : Heap} (hE : Ext Z.heap h) (t : Addr) (kt : ClassId) (v0 : Int64) (v1 : Int64) (v2 : Int64) (hV : Arv Z h t kt .long 3 [(.long v0), (.long v1), (.long v2)] (.long (0 : Int64))) (hn : Z.heap.size ≤ t) :
    Con l (⟨"java/util/DualPivotQuicksort", "insertionSort", "([JII)V"⟩ : MethodName) jdk_2529_method_15_code 7 none [] ({ frames := 0, cells := 0, slots := 0, locals := 0 } : Room) Z #[(.ref t), (.int (0 : Int32)), (.int (3 : Int32))] h (fun v' h' => v' = none ∧ Keep h h' [t] ∧ Arv Z h' t kt .long 3 ((own_s3 v0 v1 v2).map Value.long) (.long (0 : Int64))) := by
  refine con_of (plainFor_of_name pn_0) hE (fun m => ef_rins3 m t) ?_
  intro p e s m below meth c T0 C X0
  have C : Cx p s m meth c Z "java/util/DualPivotQuicksort" "insertionSort" jdk_2529_method_15_code 7 none := C
  show Goes p e below _ T0 (mkF m 0 #[.val (.ref t), .val (.int (0 : Int32)), .val (.int (3 : Int32)), .unset, .unset, .unset, .unset] [])
  refine g_iloadN C X0 d12_0 rfl ?_
  refine g_istore C X0 d12_1 (l' := #[.val (.ref t), .val (.int (0 : Int32)), .val (.int (3 : Int32)), .unset, .val (.int (0 : Int32)), .unset, .unset]) rfl ?_
  refine g_iinc (1 : Int32) C X0 d12_3 rfl rfl (l' := #[.val (.ref t), .val (.int (0 : Int32)), .val (.int (3 : Int32)), .unset, .val (.int (1 : Int32)), .unset, .unset]) rfl ?_
  refine g_iload C X0 d12_6 rfl ?_
  refine g_iloadN C X0 d12_8 rfl ?_
  refine g_icmpn (hI_ge _ _) C X0 d12_9 (fun q => absurd (by decide) q) (fun _ => ?_)
  refine g_aloadN C X0 d12_12 rfl rfl ?_
  refine g_iload C X0 d12_13 rfl ?_
  refine g_dup C X0 d12_15 rfl ?_
  refine g_istoreN C X0 d12_16 (l' := #[.val (.ref t), .val (.int (0 : Int32)), .val (.int (3 : Int32)), .val (.int (1 : Int32)), .val (.int (1 : Int32)), .unset, .unset]) rfl ?_
  refine g_laload C X0 hV d12_17 (by decide) (by decide) rfl ?_
  refine g_lstore C X0 d12_18 (l' := #[.val (.ref t), .val (.int (0 : Int32)), .val (.int (3 : Int32)), .val (.int (1 : Int32)), .val (.int (1 : Int32)), .val (.long v1), .second]) rfl ?_
  refine g_lload C X0 d12_20 rfl ?_
  refine g_aloadN C X0 d12_22 rfl rfl ?_
  refine g_iloadN C X0 d12_23 rfl ?_
  refine g_iconst (1 : Int32) C X0 d12_24 rfl ?_
  refine g_isub C X0 d12_25 ?_
  refine g_laload C X0 hV d12_26 (by decide) (by decide) rfl ?_
  refine g_lcmp C X0 d12_27 ?_
  refine g_ifn (hL_ge _ _) C X0 d12_28 (fun c28_31 => ?_) (fun c28_31 => ?_)
  · refine g_goto C X0 d12_66 ?_
    refine g_iinc (1 : Int32) C X0 d12_3 rfl rfl (l' := #[.val (.ref t), .val (.int (0 : Int32)), .val (.int (3 : Int32)), .val (.int (1 : Int32)), .val (.int (2 : Int32)), .val (.long v1), .second]) rfl ?_
    refine g_iload C X0 d12_6 rfl ?_
    refine g_iloadN C X0 d12_8 rfl ?_
    refine g_icmpn (hI_ge _ _) C X0 d12_9 (fun q => absurd (by decide) q) (fun _ => ?_)
    refine g_aloadN C X0 d12_12 rfl rfl ?_
    refine g_iload C X0 d12_13 rfl ?_
    refine g_dup C X0 d12_15 rfl ?_
    refine g_istoreN C X0 d12_16 (l' := #[.val (.ref t), .val (.int (0 : Int32)), .val (.int (3 : Int32)), .val (.int (2 : Int32)), .val (.int (2 : Int32)), .val (.long v1), .second]) rfl ?_
    refine g_laload C X0 hV d12_17 (by decide) (by decide) rfl ?_
    refine g_lstore C X0 d12_18 (l' := #[.val (.ref t), .val (.int (0 : Int32)), .val (.int (3 : Int32)), .val (.int (2 : Int32)), .val (.int (2 : Int32)), .val (.long v2), .second]) rfl ?_
    refine g_lload C X0 d12_20 rfl ?_
    refine g_aloadN C X0 d12_22 rfl rfl ?_
    refine g_iloadN C X0 d12_23 rfl ?_
    refine g_iconst (1 : Int32) C X0 d12_24 rfl ?_
    refine g_isub C X0 d12_25 ?_
    refine g_laload C X0 hV d12_26 (by decide) (by decide) rfl ?_
    refine g_lcmp C X0 d12_27 ?_
    refine g_ifn (hL_ge _ _) C X0 d12_28 (fun c28_32 => ?_) (fun c28_32 => ?_)
    · refine g_goto C X0 d12_66 ?_
      refine g_iinc (1 : Int32) C X0 d12_3 rfl rfl (l' := #[.val (.ref t), .val (.int (0 : Int32)), .val (.int (3 : Int32)), .val (.int (2 : Int32)), .val (.int (3 : Int32)), .val (.long v2), .second]) rfl ?_
      refine g_iload C X0 d12_6 rfl ?_
      refine g_iloadN C X0 d12_8 rfl ?_
      refine g_icmpn (hI_ge _ _) C X0 d12_9 (fun _ => ?_) (fun q => absurd q (by decide))
      exact g_retV C X0 d12_69 (by decide) (by decide) ⟨rfl, (Keep.refl h [t]), by unfold own_s3; rw [if_neg c28_31, if_neg c28_32]; exact hV⟩
    · refine g_iinc (-1 : Int32) C X0 d12_31 rfl rfl (l' := #[.val (.ref t), .val (.int (0 : Int32)), .val (.int (3 : Int32)), .val (.int (1 : Int32)), .val (.int (2 : Int32)), .val (.long v2), .second]) rfl ?_
      refine g_iloadN C X0 d12_34 rfl ?_
      refine g_iloadN C X0 d12_35 rfl ?_
      refine g_icmp (hI_lt _ _) C X0 d12_36 (fun q => absurd q (by decide)) (fun _ => ?_)
      refine g_lload C X0 d12_39 rfl ?_
      refine g_aloadN C X0 d12_41 rfl rfl ?_
      refine g_iloadN C X0 d12_42 rfl ?_
      refine g_laload C X0 hV d12_43 (by decide) (by decide) rfl ?_
      refine g_lcmp C X0 d12_44 ?_
      refine g_ifn (hL_ge _ _) C X0 d12_45 (fun q => absurd c28_32 q) (fun _ => ?_)
      refine g_aloadN C X0 d12_48 rfl rfl ?_
      refine g_iloadN C X0 d12_49 rfl ?_
      refine g_iconst (1 : Int32) C X0 d12_50 rfl ?_
      refine g_iadd C X0 d12_51 ?_
      refine g_aloadN C X0 d12_52 rfl rfl ?_
      refine g_iloadN C X0 d12_53 rfl ?_
      refine g_laload C X0 hV d12_54 (by decide) (by decide) rfl ?_
      refine g_lastore C X0 hV hn d12_55 (by decide) (by decide) (Nat.le_of_ble_eq_true rfl) (.long v1) rfl (fun T33 h33 X33 W33 V33 => ?_)
      have V33_t : Arv Z h33 t kt .long (3 : Int32) [(.long v0), (.long v1), (.long v1)] (.long (0 : Int64)) := V33
      refine g_goto C X33 d12_56 ?_
      refine g_iinc (-1 : Int32) C X33 d12_31 rfl rfl (l' := #[.val (.ref t), .val (.int (0 : Int32)), .val (.int (3 : Int32)), .val (.int (0 : Int32)), .val (.int (2 : Int32)), .val (.long v2), .second]) rfl ?_
      refine g_iloadN C X33 d12_34 rfl ?_
      refine g_iloadN C X33 d12_35 rfl ?_
      refine g_icmp (hI_lt _ _) C X33 d12_36 (fun q => absurd q (by decide)) (fun _ => ?_)
      refine g_lload C X33 d12_39 rfl ?_
      refine g_aloadN C X33 d12_41 rfl rfl ?_
      refine g_iloadN C X33 d12_42 rfl ?_
      refine g_laload C X33 V33_t d12_43 (by decide) (by decide) rfl ?_
      refine g_lcmp C X33 d12_44 ?_
      refine g_ifn (hL_ge _ _) C X33 d12_45 (fun c45_34 => ?_) (fun c45_34 => ?_)
      · refine g_aloadN C X33 d12_59 rfl rfl ?_
        refine g_iloadN C X33 d12_60 rfl ?_
        refine g_iconst (1 : Int32) C X33 d12_61 rfl ?_
        refine g_iadd C X33 d12_62 ?_
        refine g_lload C X33 d12_63 rfl ?_
        refine g_lastore C X33 V33_t hn d12_65 (by decide) (by decide) (Nat.le_of_ble_eq_true rfl) (.long v2) rfl (fun T35 h35 X35 W35 V35 => ?_)
        have V35_t : Arv Z h35 t kt .long (3 : Int32) [(.long v0), (.long v2), (.long v1)] (.long (0 : Int64)) := V35
        refine g_goto C X35 d12_66 ?_
        refine g_iinc (1 : Int32) C X35 d12_3 rfl rfl (l' := #[.val (.ref t), .val (.int (0 : Int32)), .val (.int (3 : Int32)), .val (.int (0 : Int32)), .val (.int (3 : Int32)), .val (.long v2), .second]) rfl ?_
        refine g_iload C X35 d12_6 rfl ?_
        refine g_iloadN C X35 d12_8 rfl ?_
        refine g_icmpn (hI_ge _ _) C X35 d12_9 (fun _ => ?_) (fun q => absurd q (by decide))
        have kp36 := (Keep.refl h [t]).wr W33 (Or.inl (by simp))
        have kp37 := kp36.wr W35 (Or.inl (by simp))
        exact g_retV C X35 d12_69 (by decide) (by decide) ⟨rfl, kp37, by unfold own_s3; rw [if_neg c28_31, if_pos c28_32, if_neg c45_34]; exact V35_t⟩
      · refine g_aloadN C X33 d12_48 rfl rfl ?_
        refine g_iloadN C X33 d12_49 rfl ?_
        refine g_iconst (1 : Int32) C X33 d12_50 rfl ?_
        refine g_iadd C X33 d12_51 ?_
        refine g_aloadN C X33 d12_52 rfl rfl ?_
        refine g_iloadN C X33 d12_53 rfl ?_
        refine g_laload C X33 V33_t d12_54 (by decide) (by decide) rfl ?_
        refine g_lastore C X33 V33_t hn d12_55 (by decide) (by decide) (Nat.le_of_ble_eq_true rfl) (.long v0) rfl (fun T38 h38 X38 W38 V38 => ?_)
        have V38_t : Arv Z h38 t kt .long (3 : Int32) [(.long v0), (.long v0), (.long v1)] (.long (0 : Int64)) := V38
        refine g_goto C X38 d12_56 ?_
        refine g_iinc (-1 : Int32) C X38 d12_31 rfl rfl (l' := #[.val (.ref t), .val (.int (0 : Int32)), .val (.int (3 : Int32)), .val (.int (-1 : Int32)), .val (.int (2 : Int32)), .val (.long v2), .second]) rfl ?_
        refine g_iloadN C X38 d12_34 rfl ?_
        refine g_iloadN C X38 d12_35 rfl ?_
        refine g_icmp (hI_lt _ _) C X38 d12_36 (fun _ => ?_) (fun q => absurd (by decide) q)
        refine g_aloadN C X38 d12_59 rfl rfl ?_
        refine g_iloadN C X38 d12_60 rfl ?_
        refine g_iconst (1 : Int32) C X38 d12_61 rfl ?_
        refine g_iadd C X38 d12_62 ?_
        refine g_lload C X38 d12_63 rfl ?_
        refine g_lastore C X38 V38_t hn d12_65 (by decide) (by decide) (Nat.le_of_ble_eq_true rfl) (.long v2) rfl (fun T39 h39 X39 W39 V39 => ?_)
        have V39_t : Arv Z h39 t kt .long (3 : Int32) [(.long v2), (.long v0), (.long v1)] (.long (0 : Int64)) := V39
        refine g_goto C X39 d12_66 ?_
        refine g_iinc (1 : Int32) C X39 d12_3 rfl rfl (l' := #[.val (.ref t), .val (.int (0 : Int32)), .val (.int (3 : Int32)), .val (.int (-1 : Int32)), .val (.int (3 : Int32)), .val (.long v2), .second]) rfl ?_
        refine g_iload C X39 d12_6 rfl ?_
        refine g_iloadN C X39 d12_8 rfl ?_
        refine g_icmpn (hI_ge _ _) C X39 d12_9 (fun _ => ?_) (fun q => absurd q (by decide))
        have kp40 := (Keep.refl h [t]).wr W33 (Or.inl (by simp))
        have kp41 := kp40.wr W38 (Or.inl (by simp))
        have kp42 := kp41.wr W39 (Or.inl (by simp))
        exact g_retV C X39 d12_69 (by decide) (by decide) ⟨rfl, kp42, by unfold own_s3; rw [if_neg c28_31, if_pos c28_32, if_pos c45_34]; exact V39_t⟩
  · refine g_iinc (-1 : Int32) C X0 d12_31 rfl rfl (l' := #[.val (.ref t), .val (.int (0 : Int32)), .val (.int (3 : Int32)), .val (.int (0 : Int32)), .val (.int (1 : Int32)), .val (.long v1), .second]) rfl ?_
    refine g_iloadN C X0 d12_34 rfl ?_
    refine g_iloadN C X0 d12_35 rfl ?_
    refine g_icmp (hI_lt _ _) C X0 d12_36 (fun q => absurd q (by decide)) (fun _ => ?_)
    refine g_lload C X0 d12_39 rfl ?_
    refine g_aloadN C X0 d12_41 rfl rfl ?_
    refine g_iloadN C X0 d12_42 rfl ?_
    refine g_laload C X0 hV d12_43 (by decide) (by decide) rfl ?_
    refine g_lcmp C X0 d12_44 ?_
    refine g_ifn (hL_ge _ _) C X0 d12_45 (fun q => absurd c28_31 q) (fun _ => ?_)
    refine g_aloadN C X0 d12_48 rfl rfl ?_
    refine g_iloadN C X0 d12_49 rfl ?_
    refine g_iconst (1 : Int32) C X0 d12_50 rfl ?_
    refine g_iadd C X0 d12_51 ?_
    refine g_aloadN C X0 d12_52 rfl rfl ?_
    refine g_iloadN C X0 d12_53 rfl ?_
    refine g_laload C X0 hV d12_54 (by decide) (by decide) rfl ?_
    refine g_lastore C X0 hV hn d12_55 (by decide) (by decide) (Nat.le_of_ble_eq_true rfl) (.long v0) rfl (fun T43 h43 X43 W43 V43 => ?_)
    have V43_t : Arv Z h43 t kt .long (3 : Int32) [(.long v0), (.long v0), (.long v2)] (.long (0 : Int64)) := V43
    refine g_goto C X43 d12_56 ?_
    refine g_iinc (-1 : Int32) C X43 d12_31 rfl rfl (l' := #[.val (.ref t), .val (.int (0 : Int32)), .val (.int (3 : Int32)), .val (.int (-1 : Int32)), .val (.int (1 : Int32)), .val (.long v1), .second]) rfl ?_
    refine g_iloadN C X43 d12_34 rfl ?_
    refine g_iloadN C X43 d12_35 rfl ?_
    refine g_icmp (hI_lt _ _) C X43 d12_36 (fun _ => ?_) (fun q => absurd (by decide) q)
    refine g_aloadN C X43 d12_59 rfl rfl ?_
    refine g_iloadN C X43 d12_60 rfl ?_
    refine g_iconst (1 : Int32) C X43 d12_61 rfl ?_
    refine g_iadd C X43 d12_62 ?_
    refine g_lload C X43 d12_63 rfl ?_
    refine g_lastore C X43 V43_t hn d12_65 (by decide) (by decide) (Nat.le_of_ble_eq_true rfl) (.long v1) rfl (fun T44 h44 X44 W44 V44 => ?_)
    have V44_t : Arv Z h44 t kt .long (3 : Int32) [(.long v1), (.long v0), (.long v2)] (.long (0 : Int64)) := V44
    refine g_goto C X44 d12_66 ?_
    refine g_iinc (1 : Int32) C X44 d12_3 rfl rfl (l' := #[.val (.ref t), .val (.int (0 : Int32)), .val (.int (3 : Int32)), .val (.int (-1 : Int32)), .val (.int (2 : Int32)), .val (.long v1), .second]) rfl ?_
    refine g_iload C X44 d12_6 rfl ?_
    refine g_iloadN C X44 d12_8 rfl ?_
    refine g_icmpn (hI_ge _ _) C X44 d12_9 (fun q => absurd (by decide) q) (fun _ => ?_)
    refine g_aloadN C X44 d12_12 rfl rfl ?_
    refine g_iload C X44 d12_13 rfl ?_
    refine g_dup C X44 d12_15 rfl ?_
    refine g_istoreN C X44 d12_16 (l' := #[.val (.ref t), .val (.int (0 : Int32)), .val (.int (3 : Int32)), .val (.int (2 : Int32)), .val (.int (2 : Int32)), .val (.long v1), .second]) rfl ?_
    refine g_laload C X44 V44_t d12_17 (by decide) (by decide) rfl ?_
    refine g_lstore C X44 d12_18 (l' := #[.val (.ref t), .val (.int (0 : Int32)), .val (.int (3 : Int32)), .val (.int (2 : Int32)), .val (.int (2 : Int32)), .val (.long v2), .second]) rfl ?_
    refine g_lload C X44 d12_20 rfl ?_
    refine g_aloadN C X44 d12_22 rfl rfl ?_
    refine g_iloadN C X44 d12_23 rfl ?_
    refine g_iconst (1 : Int32) C X44 d12_24 rfl ?_
    refine g_isub C X44 d12_25 ?_
    refine g_laload C X44 V44_t d12_26 (by decide) (by decide) rfl ?_
    refine g_lcmp C X44 d12_27 ?_
    refine g_ifn (hL_ge _ _) C X44 d12_28 (fun c28_45 => ?_) (fun c28_45 => ?_)
    · refine g_goto C X44 d12_66 ?_
      refine g_iinc (1 : Int32) C X44 d12_3 rfl rfl (l' := #[.val (.ref t), .val (.int (0 : Int32)), .val (.int (3 : Int32)), .val (.int (2 : Int32)), .val (.int (3 : Int32)), .val (.long v2), .second]) rfl ?_
      refine g_iload C X44 d12_6 rfl ?_
      refine g_iloadN C X44 d12_8 rfl ?_
      refine g_icmpn (hI_ge _ _) C X44 d12_9 (fun _ => ?_) (fun q => absurd q (by decide))
      have kp46 := (Keep.refl h [t]).wr W43 (Or.inl (by simp))
      have kp47 := kp46.wr W44 (Or.inl (by simp))
      exact g_retV C X44 d12_69 (by decide) (by decide) ⟨rfl, kp47, by unfold own_s3; rw [if_pos c28_31, if_neg c28_45]; exact V44_t⟩
    · refine g_iinc (-1 : Int32) C X44 d12_31 rfl rfl (l' := #[.val (.ref t), .val (.int (0 : Int32)), .val (.int (3 : Int32)), .val (.int (1 : Int32)), .val (.int (2 : Int32)), .val (.long v2), .second]) rfl ?_
      refine g_iloadN C X44 d12_34 rfl ?_
      refine g_iloadN C X44 d12_35 rfl ?_
      refine g_icmp (hI_lt _ _) C X44 d12_36 (fun q => absurd q (by decide)) (fun _ => ?_)
      refine g_lload C X44 d12_39 rfl ?_
      refine g_aloadN C X44 d12_41 rfl rfl ?_
      refine g_iloadN C X44 d12_42 rfl ?_
      refine g_laload C X44 V44_t d12_43 (by decide) (by decide) rfl ?_
      refine g_lcmp C X44 d12_44 ?_
      refine g_ifn (hL_ge _ _) C X44 d12_45 (fun q => absurd c28_45 q) (fun _ => ?_)
      refine g_aloadN C X44 d12_48 rfl rfl ?_
      refine g_iloadN C X44 d12_49 rfl ?_
      refine g_iconst (1 : Int32) C X44 d12_50 rfl ?_
      refine g_iadd C X44 d12_51 ?_
      refine g_aloadN C X44 d12_52 rfl rfl ?_
      refine g_iloadN C X44 d12_53 rfl ?_
      refine g_laload C X44 V44_t d12_54 (by decide) (by decide) rfl ?_
      refine g_lastore C X44 V44_t hn d12_55 (by decide) (by decide) (Nat.le_of_ble_eq_true rfl) (.long v0) rfl (fun T48 h48 X48 W48 V48 => ?_)
      have V48_t : Arv Z h48 t kt .long (3 : Int32) [(.long v1), (.long v0), (.long v0)] (.long (0 : Int64)) := V48
      refine g_goto C X48 d12_56 ?_
      refine g_iinc (-1 : Int32) C X48 d12_31 rfl rfl (l' := #[.val (.ref t), .val (.int (0 : Int32)), .val (.int (3 : Int32)), .val (.int (0 : Int32)), .val (.int (2 : Int32)), .val (.long v2), .second]) rfl ?_
      refine g_iloadN C X48 d12_34 rfl ?_
      refine g_iloadN C X48 d12_35 rfl ?_
      refine g_icmp (hI_lt _ _) C X48 d12_36 (fun q => absurd q (by decide)) (fun _ => ?_)
      refine g_lload C X48 d12_39 rfl ?_
      refine g_aloadN C X48 d12_41 rfl rfl ?_
      refine g_iloadN C X48 d12_42 rfl ?_
      refine g_laload C X48 V48_t d12_43 (by decide) (by decide) rfl ?_
      refine g_lcmp C X48 d12_44 ?_
      refine g_ifn (hL_ge _ _) C X48 d12_45 (fun c45_49 => ?_) (fun c45_49 => ?_)
      · refine g_aloadN C X48 d12_59 rfl rfl ?_
        refine g_iloadN C X48 d12_60 rfl ?_
        refine g_iconst (1 : Int32) C X48 d12_61 rfl ?_
        refine g_iadd C X48 d12_62 ?_
        refine g_lload C X48 d12_63 rfl ?_
        refine g_lastore C X48 V48_t hn d12_65 (by decide) (by decide) (Nat.le_of_ble_eq_true rfl) (.long v2) rfl (fun T50 h50 X50 W50 V50 => ?_)
        have V50_t : Arv Z h50 t kt .long (3 : Int32) [(.long v1), (.long v2), (.long v0)] (.long (0 : Int64)) := V50
        refine g_goto C X50 d12_66 ?_
        refine g_iinc (1 : Int32) C X50 d12_3 rfl rfl (l' := #[.val (.ref t), .val (.int (0 : Int32)), .val (.int (3 : Int32)), .val (.int (0 : Int32)), .val (.int (3 : Int32)), .val (.long v2), .second]) rfl ?_
        refine g_iload C X50 d12_6 rfl ?_
        refine g_iloadN C X50 d12_8 rfl ?_
        refine g_icmpn (hI_ge _ _) C X50 d12_9 (fun _ => ?_) (fun q => absurd q (by decide))
        have kp51 := (Keep.refl h [t]).wr W43 (Or.inl (by simp))
        have kp52 := kp51.wr W44 (Or.inl (by simp))
        have kp53 := kp52.wr W48 (Or.inl (by simp))
        have kp54 := kp53.wr W50 (Or.inl (by simp))
        exact g_retV C X50 d12_69 (by decide) (by decide) ⟨rfl, kp54, by unfold own_s3; rw [if_pos c28_31, if_pos c28_45, if_neg c45_49]; exact V50_t⟩
      · refine g_aloadN C X48 d12_48 rfl rfl ?_
        refine g_iloadN C X48 d12_49 rfl ?_
        refine g_iconst (1 : Int32) C X48 d12_50 rfl ?_
        refine g_iadd C X48 d12_51 ?_
        refine g_aloadN C X48 d12_52 rfl rfl ?_
        refine g_iloadN C X48 d12_53 rfl ?_
        refine g_laload C X48 V48_t d12_54 (by decide) (by decide) rfl ?_
        refine g_lastore C X48 V48_t hn d12_55 (by decide) (by decide) (Nat.le_of_ble_eq_true rfl) (.long v1) rfl (fun T55 h55 X55 W55 V55 => ?_)
        have V55_t : Arv Z h55 t kt .long (3 : Int32) [(.long v1), (.long v1), (.long v0)] (.long (0 : Int64)) := V55
        refine g_goto C X55 d12_56 ?_
        refine g_iinc (-1 : Int32) C X55 d12_31 rfl rfl (l' := #[.val (.ref t), .val (.int (0 : Int32)), .val (.int (3 : Int32)), .val (.int (-1 : Int32)), .val (.int (2 : Int32)), .val (.long v2), .second]) rfl ?_
        refine g_iloadN C X55 d12_34 rfl ?_
        refine g_iloadN C X55 d12_35 rfl ?_
        refine g_icmp (hI_lt _ _) C X55 d12_36 (fun _ => ?_) (fun q => absurd (by decide) q)
        refine g_aloadN C X55 d12_59 rfl rfl ?_
        refine g_iloadN C X55 d12_60 rfl ?_
        refine g_iconst (1 : Int32) C X55 d12_61 rfl ?_
        refine g_iadd C X55 d12_62 ?_
        refine g_lload C X55 d12_63 rfl ?_
        refine g_lastore C X55 V55_t hn d12_65 (by decide) (by decide) (Nat.le_of_ble_eq_true rfl) (.long v2) rfl (fun T56 h56 X56 W56 V56 => ?_)
        have V56_t : Arv Z h56 t kt .long (3 : Int32) [(.long v2), (.long v1), (.long v0)] (.long (0 : Int64)) := V56
        refine g_goto C X56 d12_66 ?_
        refine g_iinc (1 : Int32) C X56 d12_3 rfl rfl (l' := #[.val (.ref t), .val (.int (0 : Int32)), .val (.int (3 : Int32)), .val (.int (-1 : Int32)), .val (.int (3 : Int32)), .val (.long v2), .second]) rfl ?_
        refine g_iload C X56 d12_6 rfl ?_
        refine g_iloadN C X56 d12_8 rfl ?_
        refine g_icmpn (hI_ge _ _) C X56 d12_9 (fun _ => ?_) (fun q => absurd q (by decide))
        have kp57 := (Keep.refl h [t]).wr W43 (Or.inl (by simp))
        have kp58 := kp57.wr W44 (Or.inl (by simp))
        have kp59 := kp58.wr W48 (Or.inl (by simp))
        have kp60 := kp59.wr W55 (Or.inl (by simp))
        have kp61 := kp60.wr W56 (Or.inl (by simp))
        exact g_retV C X56 d12_69 (by decide) (by decide) ⟨rfl, kp61, by unfold own_s3; rw [if_pos c28_31, if_pos c28_45, if_pos c45_49]; exact V56_t⟩
theorem ef_rso3 (m : MethodId) (t : Addr) : entryFrame m #[.null, (.ref t), (.int (0 : Int32)), (.int (0 : Int32)), (.int (3 : Int32))] 25 = mkF m 0 #[.val .null, .val (.ref t), .val (.int (0 : Int32)), .val (.int (0 : Int32)), .val (.int (3 : Int32)), .unset, .unset, .unset, .unset, .unset, .unset, .unset, .unset, .unset, .unset, .unset, .unset, .unset, .unset, .unset, .unset, .unset, .unset, .unset, .unset] [] := by first | (simp [entryFrame, mkF, argsToLocals, Value.category]; done) | rfl
set_option maxRecDepth 65536 in
set_option maxHeartbeats 40000000 in
theorem rso3 (l : Launch) {Z : State} {a0 : Array Value} (hw : ∀ d ∈ tables_1, d.before a0 Z = true) {h : Heap} (hE : Ext Z.heap h) (t : Addr) (kt : ClassId) (v0 : Int64) (v1 : Int64) (v2 : Int64) (hV : Arv Z h t kt .long 3 [(.long v0), (.long v1), (.long v2)] (.long (0 : Int64))) (hn : Z.heap.size ≤ t) :
    Con l (⟨"java/util/DualPivotQuicksort", "sort", "(Ljava/util/DualPivotQuicksort$Sorter;[JIII)V"⟩ : MethodName) jdk_2529_method_13_code 25 none [] ({ frames := 1, cells := 0, slots := 0, locals := 18 } : Room) Z #[.null, (.ref t), (.int (0 : Int32)), (.int (0 : Int32)), (.int (3 : Int32))] h (fun v' h' => v' = none ∧ Keep h h' [t] ∧ Arv Z h' t kt .long 3 ((own_s3 v0 v1 v2).map Value.long) (.long (0 : Int64))) := by
  refine con_of (plainFor_of_name pn_0) hE (fun m => ef_rso3 m t) ?_
  intro p e s m below meth c T0 C X0
  have C : Cx p s m meth c Z "java/util/DualPivotQuicksort" "sort" jdk_2529_method_13_code 25 none := C
  show Goes p e below _ T0 (mkF m 0 #[.val .null, .val (.ref t), .val (.int (0 : Int32)), .val (.int (0 : Int32)), .val (.int (3 : Int32)), .unset, .unset, .unset, .unset, .unset, .unset, .unset, .unset, .unset, .unset, .unset, .unset, .unset, .unset, .unset, .unset, .unset, .unset, .unset, .unset] [])
  refine g_iload C X0 d11_0 rfl ?_
  refine g_iconst (1 : Int32) C X0 d11_2 rfl ?_
  refine g_isub C X0 d11_3 ?_
  refine g_istore C X0 d11_4 (l' := #[.val .null, .val (.ref t), .val (.int (0 : Int32)), .val (.int (0 : Int32)), .val (.int (3 : Int32)), .val (.int (2 : Int32)), .unset, .unset, .unset, .unset, .unset, .unset, .unset, .unset, .unset, .unset, .unset, .unset, .unset, .unset, .unset, .unset, .unset, .unset, .unset]) rfl ?_
  refine g_iload C X0 d11_6 rfl ?_
  refine g_iloadN C X0 d11_8 rfl ?_
  refine g_isub C X0 d11_9 ?_
  refine g_istore C X0 d11_10 (l' := #[.val .null, .val (.ref t), .val (.int (0 : Int32)), .val (.int (0 : Int32)), .val (.int (3 : Int32)), .val (.int (2 : Int32)), .val (.int (3 : Int32)), .unset, .unset, .unset, .unset, .unset, .unset, .unset, .unset, .unset, .unset, .unset, .unset, .unset, .unset, .unset, .unset, .unset, .unset]) rfl ?_
  refine g_iload C X0 d11_12 rfl ?_
  refine g_bipush (65 : Int32) C X0 d11_14 rfl ?_
  refine g_iloadN C X0 d11_16 rfl ?_
  refine g_iadd C X0 d11_17 ?_
  refine g_icmpn (hI_ge _ _) C X0 d11_18 (fun q => absurd (by decide) q) (fun _ => ?_)
  refine g_iloadN C X0 d11_21 rfl ?_
  refine g_iconst (1 : Int32) C X0 d11_22 rfl ?_
  refine g_iand C X0 d11_23 ?_
  refine g_ifn (h0_le _) C X0 d11_24 (fun _ => ?_) (fun q => absurd q (by decide))
  refine g_iload C X0 d11_46 rfl ?_
  refine g_bipush (44 : Int32) C X0 d11_48 rfl ?_
  refine g_icmpn (hI_ge _ _) C X0 d11_50 (fun q => absurd (by decide) q) (fun _ => ?_)
  refine g_aloadN C X0 d11_53 rfl rfl ?_
  refine g_iloadN C X0 d11_54 rfl ?_
  refine g_iload C X0 d11_55 rfl ?_
  refine g_static (argsL := [(.ref t), (.int (0 : Int32)), (.int (3 : Int32))]) (st := []) C X0 (wd hw 52 rfl) (wd hw 53 rfl) (wd hw 47 rfl) (wd hw 54 rfl) (by decide) (pay_of (W' := 0) (rins3 l hw X0.ext t kt v0 v1 v2 hV hn) C.hZ (wd hw 54 rfl) (wd hw 47 rfl) (by decide) (by decide)) pd_0 rfl rfl _ rfl (Nat.le_of_eq rfl) d11_57 (by decide) (by decide) (fun T62 h62 v62 q62 X62 => ?_)
  obtain ⟨rfl, K62, V62⟩ := q62
  show Goes p e below _ T62 (mkF m 60 #[.val .null, .val (.ref t), .val (.int (0 : Int32)), .val (.int (0 : Int32)), .val (.int (3 : Int32)), .val (.int (2 : Int32)), .val (.int (3 : Int32)), .unset, .unset, .unset, .unset, .unset, .unset, .unset, .unset, .unset, .unset, .unset, .unset, .unset, .unset, .unset, .unset, .unset, .unset] [])
  exact g_retV C X62 d11_60 (by decide) (by decide) ⟨rfl, K62, V62⟩
theorem ef_rsp3 (m : MethodId) (t : Addr) : entryFrame m #[(.ref t), (.int (0 : Int32)), (.int (0 : Int32)), (.int (3 : Int32))] 7 = mkF m 0 #[.val (.ref t), .val (.int (0 : Int32)), .val (.int (0 : Int32)), .val (.int (3 : Int32)), .unset, .unset, .unset] [] := by first | (simp [entryFrame, mkF, argsToLocals, Value.category]; done) | rfl
set_option maxRecDepth 65536 in
set_option maxHeartbeats 40000000 in
theorem rsp3 (l : Launch) {Z : State} {a0 : Array Value} (hw : ∀ d ∈ tables_1, d.before a0 Z = true) {h : Heap} (hE : Ext Z.heap h) (t : Addr) (kt : ClassId) (v0 : Int64) (v1 : Int64) (v2 : Int64) (hV : Arv Z h t kt .long 3 [(.long v0), (.long v1), (.long v2)] (.long (0 : Int64))) (hn : Z.heap.size ≤ t) :
    Con l (⟨"java/util/DualPivotQuicksort", "sort", "([JIII)V"⟩ : MethodName) jdk_2529_method_12_code 7 none [] ({ frames := 2, cells := 0, slots := 0, locals := 54 } : Room) Z #[(.ref t), (.int (0 : Int32)), (.int (0 : Int32)), (.int (3 : Int32))] h (fun v' h' => v' = none ∧ Keep h h' [t] ∧ Arv Z h' t kt .long 3 ((own_s3 v0 v1 v2).map Value.long) (.long (0 : Int64))) := by
  refine con_of (plainFor_of_name pn_0) hE (fun m => ef_rsp3 m t) ?_
  intro p e s m below meth c T0 C X0
  have C : Cx p s m meth c Z "java/util/DualPivotQuicksort" "sort" jdk_2529_method_12_code 7 none := C
  show Goes p e below _ T0 (mkF m 0 #[.val (.ref t), .val (.int (0 : Int32)), .val (.int (0 : Int32)), .val (.int (3 : Int32)), .unset, .unset, .unset] [])
  refine g_iloadN C X0 d10_0 rfl ?_
  refine g_iloadN C X0 d10_1 rfl ?_
  refine g_isub C X0 d10_2 ?_
  refine g_istore C X0 d10_3 (l' := #[.val (.ref t), .val (.int (0 : Int32)), .val (.int (0 : Int32)), .val (.int (3 : Int32)), .val (.int (3 : Int32)), .unset, .unset]) rfl ?_
  refine g_iloadN C X0 d10_5 rfl ?_
  refine g_iconst (1 : Int32) C X0 d10_6 rfl ?_
  refine g_icmpn (hI_le _ _) C X0 d10_7 (fun _ => ?_) (fun q => absurd q (by decide))
  refine g_aconst_null C X0 d10_68 ?_
  refine g_aloadN C X0 d10_69 rfl rfl ?_
  refine g_iconst (0 : Int32) C X0 d10_70 rfl ?_
  refine g_iloadN C X0 d10_71 rfl ?_
  refine g_iloadN C X0 d10_72 rfl ?_
  refine g_static (argsL := [.null, (.ref t), (.int (0 : Int32)), (.int (0 : Int32)), (.int (3 : Int32))]) (st := []) C X0 (wd hw 49 rfl) (wd hw 50 rfl) (wd hw 47 rfl) (wd hw 51 rfl) (by decide) (pay_of (W' := 0) (rso3 l hw X0.ext t kt v0 v1 v2 hV hn) C.hZ (wd hw 51 rfl) (wd hw 47 rfl) (by decide) (by decide)) pd_1 rfl rfl _ rfl (Nat.le_of_eq rfl) d10_73 (by decide) (by decide) (fun T63 h63 v63 q63 X63 => ?_)
  obtain ⟨rfl, K63, V63⟩ := q63
  show Goes p e below _ T63 (mkF m 76 #[.val (.ref t), .val (.int (0 : Int32)), .val (.int (0 : Int32)), .val (.int (3 : Int32)), .val (.int (3 : Int32)), .unset, .unset] [])
  exact g_retV C X63 d10_76 (by decide) (by decide) ⟨rfl, K63, V63⟩
theorem ef_rsa3 (m : MethodId) (t : Addr) : entryFrame m #[(.ref t)] 1 = mkF m 0 #[.val (.ref t)] [] := by first | (simp [entryFrame, mkF, argsToLocals, Value.category]; done) | rfl
set_option maxRecDepth 65536 in
set_option maxHeartbeats 40000000 in
theorem rsa3 (l : Launch) {Z : State} {a0 : Array Value} (hw : ∀ d ∈ tables_1, d.before a0 Z = true) {h : Heap} (hE : Ext Z.heap h) (t : Addr) (kt : ClassId) (v0 : Int64) (v1 : Int64) (v2 : Int64) (hV : Arv Z h t kt .long 3 [(.long v0), (.long v1), (.long v2)] (.long (0 : Int64))) (hn : Z.heap.size ≤ t) :
    Con l (⟨"java/util/Arrays", "sort", "([J)V"⟩ : MethodName) jdk_65_method_4_code 1 none [] ({ frames := 3, cells := 0, slots := 0, locals := 72 } : Room) Z #[(.ref t)] h (fun v' h' => v' = none ∧ Keep h h' [t] ∧ Arv Z h' t kt .long 3 ((own_s3 v0 v1 v2).map Value.long) (.long (0 : Int64))) := by
  refine con_of (plainFor_of_name pn_1) hE (fun m => ef_rsa3 m t) ?_
  intro p e s m below meth c T0 C X0
  have C : Cx p s m meth c Z "java/util/Arrays" "sort" jdk_65_method_4_code 1 none := C
  show Goes p e below _ T0 (mkF m 0 #[.val (.ref t)] [])
  refine g_aloadN C X0 d9_0 rfl rfl ?_
  refine g_iconst (0 : Int32) C X0 d9_1 rfl ?_
  refine g_iconst (0 : Int32) C X0 d9_2 rfl ?_
  refine g_aloadN C X0 d9_3 rfl rfl ?_
  refine g_arraylength C X0 hV d9_4 ?_
  refine g_static (argsL := [(.ref t), (.int (0 : Int32)), (.int (0 : Int32)), (.int (3 : Int32))]) (st := []) C X0 (wd hw 45 rfl) (wd hw 46 rfl) (wd hw 47 rfl) (wd hw 48 rfl) (by decide) (pay_of (W' := 0) (rsp3 l hw X0.ext t kt v0 v1 v2 hV hn) C.hZ (wd hw 48 rfl) (wd hw 47 rfl) (by decide) (by decide)) pd_2 rfl rfl _ rfl (Nat.le_of_eq rfl) d9_5 (by decide) (by decide) (fun T64 h64 v64 q64 X64 => ?_)
  obtain ⟨rfl, K64, V64⟩ := q64
  show Goes p e below _ T64 (mkF m 8 #[.val (.ref t)] [])
  exact g_retV C X64 d9_8 (by decide) (by decide) ⟨rfl, K64, V64⟩
theorem ef_rcp3 (m : MethodId) (t : Addr) : entryFrame m #[(.ref t), (.int (3 : Int32))] 3 = mkF m 0 #[.val (.ref t), .val (.int (3 : Int32)), .unset] [] := by first | (simp [entryFrame, mkF, argsToLocals, Value.category]; done) | rfl
set_option maxRecDepth 65536 in
set_option maxHeartbeats 40000000 in
theorem rcp3 (l : Launch) {Z : State} {a0 : Array Value} (hw : ∀ d ∈ tables_1, d.before a0 Z = true) {h : Heap} (hE : Ext Z.heap h) (t : Addr) (kt : ClassId) (v0 v1 v2 : Int64) (hV : Arv Z h t kt .long 1024 [(.long v0), (.long v1), (.long v2)] (.long (0 : Int64))) :
    Con l (⟨"java/util/Arrays", "copyOf", "([JI)[J"⟩ : MethodName) jdk_65_method_124_code 3 (some (.array .long)) [] ({ frames := 1, cells := 1, slots := 3, locals := 40 } : Room) Z #[(.ref t), (.int (3 : Int32))] h (fun v' h' => ∃ b kb, v' = some (.ref b) ∧ Z.heap.size ≤ b ∧ h.size ≤ b ∧ Ext h h' ∧ Arv Z h' b kb .long 3 [(.long v0), (.long v1), (.long v2)] (.long (0 : Int64))) := by
  refine con_of (plainFor_of_name pn_1) hE (fun m => ef_rcp3 m t) ?_
  intro p e s m below meth c T0 C X0
  have C : Cx p s m meth c Z "java/util/Arrays" "copyOf" jdk_65_method_124_code 3 (some (.array .long)) := C
  show Goes p e below _ T0 (mkF m 0 #[.val (.ref t), .val (.int (3 : Int32)), .unset] [])
  refine g_iloadN C X0 d7_0 rfl ?_
  refine g_aloadN C X0 d7_1 rfl rfl ?_
  refine g_arraylength C X0 hV d7_2 ?_
  refine g_icmpn (hI_ne _ _) C X0 d7_3 (fun _ => ?_) (fun q => absurd q (by decide))
  refine g_iloadN C X0 d7_14 rfl ?_
  refine g_newarray C X0 (wd hw 9 rfl) d7_15 (by decide) 3 3 (by decide) (by decide) (by decide) (by decide) (fun T65 h65 b65 k_b65 g_b65 n_b65 X65 E65 V65 => ?_)
  have lt66 : t < b65 := by rw [g_b65]; exact Arv.lt hV
  have V_b65 : Arv Z h65 b65 k_b65 .long (3 : Int32) [(.long (0 : Int64)), (.long (0 : Int64)), (.long (0 : Int64))] (.long (0 : Int64)) := V65
  refine g_astoreN C X65 d7_17 rfl (l' := #[.val (.ref t), .val (.int (3 : Int32)), .val (.ref b65)]) rfl ?_
  refine g_aloadN C X65 d7_18 rfl rfl ?_
  refine g_iconst (0 : Int32) C X65 d7_19 rfl ?_
  refine g_aloadN C X65 d7_20 rfl rfl ?_
  refine g_iconst (0 : Int32) C X65 d7_21 rfl ?_
  refine g_aloadN C X65 d7_22 rfl rfl ?_
  have f67 := (Arv.ext hV E65)
  refine g_arraylength C X65 f67 d7_23 ?_
  refine g_iloadN C X65 d7_24 rfl ?_
  refine g_staticP (argsL := [(.int (1024 : Int32)), (.int (3 : Int32))]) (st := [(.int (0 : Int32)), (.ref b65), (.int (0 : Int32)), (.ref t)]) C X65 (wd hw 35 rfl) (wd hw 36 rfl) (wd hw 21 rfl) (wd hw 37 rfl) (by decide) (pay_of (W' := 4) (rmini l hw X65.ext (1024 : Int32) (3 : Int32)) C.hZ (wd hw 37 rfl) (wd hw 21 rfl) (by decide) (by decide)) pd_3 rfl rfl _ rfl (Nat.le_of_eq rfl) d7_25 (by decide) (by decide) (fun T68 X68 => ?_)
  show Goes p e below _ T68 (mkF m 28 #[.val (.ref t), .val (.int (3 : Int32)), .val (.ref b65)] [(.int (3 : Int32)), (.int (0 : Int32)), (.ref b65), (.int (0 : Int32)), (.ref t)])
  refine g_arraycopy C X68 (wd hw 38 rfl) (wd hw 41 rfl) (wd hw 39 rfl) (wd hw 40 rfl) f67 V_b65 rfl (by decide) (by decide) (by decide) (by decide) (by decide) [(.long v0), (.long v1), (.long v2)] rfl (Nat.le_of_ble_eq_true rfl) n_b65 rfl d7_28 (by decide) 0 (Nat.le_of_eq rfl) (by decide) (fun T69 h69 X69 K69 V69 => ?_)
  have V69_b65 : Arv Z h69 b65 k_b65 .long (3 : Int32) [(.long v0), (.long v1), (.long v2)] (.long (0 : Int64)) := V69
  show Goes p e below _ T69 (mkF m 31 #[.val (.ref t), .val (.int (3 : Int32)), .val (.ref b65)] [])
  refine g_aloadN C X69 d7_31 rfl rfl ?_
  have sz70 : h.size ≤ b65 := by rw [g_b65]; exact (Keep.refl h []).1
  have kp71 := (Keep.refl h []).ext E65
  have kp72 := kp71.trans K69 (allS (Or.inr sz70) all0)
  exact g_retA C X69 rfl rfl d7_32 (by decide) (by decide) ⟨b65, k_b65, rfl, n_b65, sz70, keep_ext kp72, V69_b65⟩
theorem pn_2 : plainName "com/example/espera/espera/bench/Latencies" = true := by first | (simp [plainName, overriddenIn]; done) | decide +kernel
theorem ef_rini (m : MethodId) (a : Addr) : entryFrame m #[(.ref a)] 1 = mkF m 0 #[.val (.ref a)] [] := by first | (simp [entryFrame, mkF, argsToLocals, Value.category]; done) | rfl
theorem d1_0 : Dc prog_15_method_1_code 0 (.aload_n 0) 1 1 := ⟨by decide +kernel, rfl⟩
theorem d1_1 : Dc prog_15_method_1_code 1 (.invokespecial 1) 3 4 := ⟨by decide +kernel, rfl⟩
theorem d1_4 : Dc prog_15_method_1_code 4 (.aload_n 0) 1 5 := ⟨by decide +kernel, rfl⟩
theorem d1_5 : Dc prog_15_method_1_code 5 (.sipush 1024) 3 8 := ⟨by decide +kernel, rfl⟩
theorem d1_8 : Dc prog_15_method_1_code 8 (.newarray .long) 2 10 := ⟨by decide +kernel, rfl⟩
theorem d1_10 : Dc prog_15_method_1_code 10 (.putfield 7) 3 13 := ⟨by decide +kernel, rfl⟩
theorem d1_13 : Dc prog_15_method_1_code 13 (.return_) 1 14 := ⟨by decide +kernel, rfl⟩
set_option maxRecDepth 65536 in
set_option maxHeartbeats 40000000 in
theorem rini (l : Launch) {Z : State} {a0 : Array Value} (hw : ∀ d ∈ tables_1, d.before a0 Z = true) {h : Heap} (hE : Ext Z.heap h) (a : Addr)  (E : Exa Z h a "com/example/espera/espera/bench/Latencies") (Fn : Fld Z h a "com/example/espera/espera/bench/Latencies" "nanos" "[J" .null) (Fc : Fld Z h a "com/example/espera/espera/bench/Latencies" "count" "I" (.int (0 : Int32))) (hn : Z.heap.size ≤ a) :
    Con l (⟨"com/example/espera/espera/bench/Latencies", "<init>", "()V"⟩ : MethodName) prog_15_method_1_code 1 none [] ({ frames := 1, cells := 1, slots := 1024, locals := 12 } : Room) Z #[(.ref a)] h (fun v' h' => ∃ t kt, v' = none ∧ Keep h h' [a] ∧ Z.heap.size ≤ t ∧ h.size ≤ t ∧ Fld Z h' a "com/example/espera/espera/bench/Latencies" "nanos" "[J" (.ref t) ∧ Fld Z h' a "com/example/espera/espera/bench/Latencies" "count" "I" (.int 0) ∧ Arv Z h' t kt .long 1024 [(.long (0 : Int64)), (.long (0 : Int64)), (.long (0 : Int64))] (.long (0 : Int64))) := by
  refine con_of (plainFor_of_name pn_2) hE (fun m => ef_rini m a) ?_
  intro p e s m below meth c T0 C X0
  have C : Cx p s m meth c Z "com/example/espera/espera/bench/Latencies" "<init>" prog_15_method_1_code 1 none := C
  show Goes p e below _ T0 (mkF m 0 #[.val (.ref a)] [])
  refine g_aloadN C X0 d1_0 rfl rfl ?_
  refine g_initO C X0 (wd hw 6 rfl) (wd hw 7 rfl) (wd hw 8 rfl) rfl d1_1 (by decide) 0 (Nat.le_of_eq rfl) (by decide) (fun T73 X73 => ?_)
  refine g_aloadN C X73 d1_4 rfl rfl ?_
  refine g_sipush (1024 : Int32) C X73 d1_5 rfl ?_
  refine g_newarray C X73 (wd hw 9 rfl) d1_8 (by decide) 3 1024 (by decide) (by decide) (by decide) (by decide) (fun T74 h74 b74 k_b74 g_b74 n_b74 X74 E74 V74 => ?_)
  have lt75 : a < b74 := by rw [g_b74]; exact Exa.lt E
  have V_b74 : Arv Z h74 b74 k_b74 .long (1024 : Int32) [(.long (0 : Int64)), (.long (0 : Int64)), (.long (0 : Int64))] (.long (0 : Int64)) := V74
  have f76 := (Fld.ext E74 Fn)
  have f77 := (Exa.ext E74 E)
  refine g_putfield (host := "") C X74 (Or.inl (wd hw 10 rfl)) Via.refl f76 f77 (Or.inl (wd hw 11 rfl)) (wd hw 1 rfl) (ty := (.array .long)) (by decide) rfl rfl hn d1_10 (fun T78 h78 X78 W78 => ?_)
  have f78 := Fld.same W78 f76
  have sz79 : h.size ≤ b74 := by rw [g_b74]; exact (Keep.refl h [a]).1
  have kp80 := (Keep.refl h [a]).ext E74
  have kp81 := kp80.wr W78 (Or.inl (by simp))
  have f82 := (Fld.other W78 (Fld.ext E74 Fc) (Or.inr (slot_ne (Or.inl (wd hw 18 rfl)) (Or.inl (wd hw 11 rfl)) (by decide) (t := .int) (t' := (.array .long)) (by decide) (by decide))))
  have f83 := (Arv.other V_b74 W78 (Nat.ne_of_gt lt75))
  exact g_retV C X78 d1_13 (by decide) (by decide) ⟨b74, k_b74, rfl, kp81, n_b74, sz79, f78, f82, f83⟩
theorem ef_radd0 (m : MethodId) (a : Addr) (xx : Int64) : entryFrame m #[(.ref a), (.long xx)] 3 = mkF m 0 #[.val (.ref a), .val (.long xx), .second] [] := by first | (simp [entryFrame, mkF, argsToLocals, Value.category]; done) | rfl
theorem d3_0 : Dc prog_15_method_2_code 0 (.aload_n 0) 1 1 := ⟨by decide +kernel, rfl⟩
theorem d3_1 : Dc prog_15_method_2_code 1 (.getfield 13) 3 4 := ⟨by decide +kernel, rfl⟩
theorem d3_4 : Dc prog_15_method_2_code 4 (.aload_n 0) 1 5 := ⟨by decide +kernel, rfl⟩
theorem d3_5 : Dc prog_15_method_2_code 5 (.getfield 7) 3 8 := ⟨by decide +kernel, rfl⟩
theorem d3_8 : Dc prog_15_method_2_code 8 (.arraylength) 1 9 := ⟨by decide +kernel, rfl⟩
theorem d3_9 : Dj prog_15_method_2_code 9 (.if_icmp .ne 20) 20 3 12 29 := ⟨by decide +kernel, rfl, by decide, by decide⟩
theorem d3_29 : Dc prog_15_method_2_code 29 (.aload_n 0) 1 30 := ⟨by decide +kernel, rfl⟩
theorem d3_30 : Dc prog_15_method_2_code 30 (.getfield 7) 3 33 := ⟨by decide +kernel, rfl⟩
theorem d3_33 : Dc prog_15_method_2_code 33 (.aload_n 0) 1 34 := ⟨by decide +kernel, rfl⟩
theorem d3_34 : Dc prog_15_method_2_code 34 (.dup) 1 35 := ⟨by decide +kernel, rfl⟩
theorem d3_35 : Dc prog_15_method_2_code 35 (.getfield 13) 3 38 := ⟨by decide +kernel, rfl⟩
theorem d3_38 : Dc prog_15_method_2_code 38 (.dup_x1) 1 39 := ⟨by decide +kernel, rfl⟩
theorem d3_39 : Dc prog_15_method_2_code 39 (.iconst 1) 1 40 := ⟨by decide +kernel, rfl⟩
theorem d3_40 : Dc prog_15_method_2_code 40 (.iadd) 1 41 := ⟨by decide +kernel, rfl⟩
theorem d3_41 : Dc prog_15_method_2_code 41 (.putfield 13) 3 44 := ⟨by decide +kernel, rfl⟩
theorem d3_44 : Dc prog_15_method_2_code 44 (.lload_n 1) 1 45 := ⟨by decide +kernel, rfl⟩
theorem d3_45 : Dc prog_15_method_2_code 45 (.lastore) 1 46 := ⟨by decide +kernel, rfl⟩
theorem d3_46 : Dc prog_15_method_2_code 46 (.return_) 1 47 := ⟨by decide +kernel, rfl⟩
set_option maxRecDepth 65536 in
set_option maxHeartbeats 40000000 in
theorem radd0 (l : Launch) {Z : State} {a0 : Array Value} (hw : ∀ d ∈ tables_1, d.before a0 Z = true) {h : Heap} (hE : Ext Z.heap h) (a : Addr) (xx : Int64) (t : Addr) (kt : ClassId) (v0 v1 v2 : Int64) (E : Exa Z h a "com/example/espera/espera/bench/Latencies") (Fn : Fld Z h a "com/example/espera/espera/bench/Latencies" "nanos" "[J" (.ref t)) (Fc : Fld Z h a "com/example/espera/espera/bench/Latencies" "count" "I" (.int 0)) (hV : Arv Z h t kt .long 1024 [(.long v0), (.long v1), (.long v2)] (.long (0 : Int64))) (hn : Z.heap.size ≤ a) (hnt : Z.heap.size ≤ t) (hne : a ≠ t) :
    Con l (⟨"com/example/espera/espera/bench/Latencies", "add", "(J)V"⟩ : MethodName) prog_15_method_2_code 3 none [] ({ frames := 0, cells := 0, slots := 0, locals := 0 } : Room) Z #[(.ref a), (.long xx)] h (fun v' h' => v' = none ∧ Keep h h' [a, t] ∧ Fld Z h' a "com/example/espera/espera/bench/Latencies" "nanos" "[J" (.ref t) ∧ Fld Z h' a "com/example/espera/espera/bench/Latencies" "count" "I" (.int 1) ∧ Arv Z h' t kt .long 1024 [(.long xx), (.long v1), (.long v2)] (.long (0 : Int64))) := by
  refine con_of (plainFor_of_name pn_2) hE (fun m => ef_radd0 m a xx) ?_
  intro p e s m below meth c T0 C X0
  have C : Cx p s m meth c Z "com/example/espera/espera/bench/Latencies" "add" prog_15_method_2_code 3 none := C
  show Goes p e below _ T0 (mkF m 0 #[.val (.ref a), .val (.long xx), .second] [])
  refine g_aloadN C X0 d3_0 rfl rfl ?_
  refine g_getfield (host := "") C X0 (Or.inl (wd hw 17 rfl)) Via.refl Fc d3_1 (fun T84 X84 => ?_)
  refine g_aloadN C X84 d3_4 rfl rfl ?_
  refine g_getfield (host := "") C X84 (Or.inl (wd hw 10 rfl)) Via.refl Fn d3_5 (fun T85 X85 => ?_)
  refine g_arraylength C X85 hV d3_8 ?_
  refine g_icmpn (hI_ne _ _) C X85 d3_9 (fun _ => ?_) (fun q => absurd q (by decide))
  refine g_aloadN C X85 d3_29 rfl rfl ?_
  refine g_getfield (host := "") C X85 (Or.inl (wd hw 10 rfl)) Via.refl Fn d3_30 (fun T86 X86 => ?_)
  refine g_aloadN C X86 d3_33 rfl rfl ?_
  refine g_dup C X86 d3_34 rfl ?_
  refine g_getfield (host := "") C X86 (Or.inl (wd hw 17 rfl)) Via.refl Fc d3_35 (fun T87 X87 => ?_)
  refine g_dup_x1 C X87 d3_38 rfl rfl ?_
  refine g_iconst (1 : Int32) C X87 d3_39 rfl ?_
  refine g_iadd C X87 d3_40 ?_
  refine g_putfield (host := "") C X87 (Or.inl (wd hw 17 rfl)) Via.refl Fc E (Or.inl (wd hw 18 rfl)) (wd hw 1 rfl) (ty := .int) (by decide) rfl rfl hn d3_41 (fun T88 h88 X88 W88 => ?_)
  have f88 := Fld.same W88 Fc
  refine g_lloadN C X88 d3_44 rfl ?_
  have f89 := (Arv.other hV W88 (Ne.symm hne))
  refine g_lastore C X88 f89 hnt d3_45 (by decide) (by decide) (Nat.le_of_ble_eq_true rfl) (.long xx) rfl (fun T90 h90 X90 W90 V90 => ?_)
  have V90_t : Arv Z h90 t kt .long (1024 : Int32) [(.long xx), (.long v1), (.long v2)] (.long (0 : Int64)) := V90
  have kp91 := (Keep.refl h [a, t]).wr W88 (Or.inl (by simp))
  have kp92 := kp91.wr W90 (Or.inl (by simp))
  have f93 := (Fld.other W90 (Fld.other W88 Fn (Or.inr (slot_ne (Or.inl (wd hw 11 rfl)) (Or.inl (wd hw 18 rfl)) (by decide) (t := (.array .long)) (t' := .int) (by decide) (by decide)))) (Or.inl hne))
  have f94 := (Fld.other W90 f88 (Or.inl hne))
  exact g_retV C X90 d3_46 (by decide) (by decide) ⟨rfl, kp92, f93, f94, V90_t⟩
theorem ef_radd1 (m : MethodId) (a : Addr) (xx : Int64) : entryFrame m #[(.ref a), (.long xx)] 3 = mkF m 0 #[.val (.ref a), .val (.long xx), .second] [] := by first | (simp [entryFrame, mkF, argsToLocals, Value.category]; done) | rfl
set_option maxRecDepth 65536 in
set_option maxHeartbeats 40000000 in
theorem radd1 (l : Launch) {Z : State} {a0 : Array Value} (hw : ∀ d ∈ tables_1, d.before a0 Z = true) {h : Heap} (hE : Ext Z.heap h) (a : Addr) (xx : Int64) (t : Addr) (kt : ClassId) (v0 v1 v2 : Int64) (E : Exa Z h a "com/example/espera/espera/bench/Latencies") (Fn : Fld Z h a "com/example/espera/espera/bench/Latencies" "nanos" "[J" (.ref t)) (Fc : Fld Z h a "com/example/espera/espera/bench/Latencies" "count" "I" (.int 1)) (hV : Arv Z h t kt .long 1024 [(.long v0), (.long v1), (.long v2)] (.long (0 : Int64))) (hn : Z.heap.size ≤ a) (hnt : Z.heap.size ≤ t) (hne : a ≠ t) :
    Con l (⟨"com/example/espera/espera/bench/Latencies", "add", "(J)V"⟩ : MethodName) prog_15_method_2_code 3 none [] ({ frames := 0, cells := 0, slots := 0, locals := 0 } : Room) Z #[(.ref a), (.long xx)] h (fun v' h' => v' = none ∧ Keep h h' [a, t] ∧ Fld Z h' a "com/example/espera/espera/bench/Latencies" "nanos" "[J" (.ref t) ∧ Fld Z h' a "com/example/espera/espera/bench/Latencies" "count" "I" (.int 2) ∧ Arv Z h' t kt .long 1024 [(.long v0), (.long xx), (.long v2)] (.long (0 : Int64))) := by
  refine con_of (plainFor_of_name pn_2) hE (fun m => ef_radd1 m a xx) ?_
  intro p e s m below meth c T0 C X0
  have C : Cx p s m meth c Z "com/example/espera/espera/bench/Latencies" "add" prog_15_method_2_code 3 none := C
  show Goes p e below _ T0 (mkF m 0 #[.val (.ref a), .val (.long xx), .second] [])
  refine g_aloadN C X0 d3_0 rfl rfl ?_
  refine g_getfield (host := "") C X0 (Or.inl (wd hw 17 rfl)) Via.refl Fc d3_1 (fun T95 X95 => ?_)
  refine g_aloadN C X95 d3_4 rfl rfl ?_
  refine g_getfield (host := "") C X95 (Or.inl (wd hw 10 rfl)) Via.refl Fn d3_5 (fun T96 X96 => ?_)
  refine g_arraylength C X96 hV d3_8 ?_
  refine g_icmpn (hI_ne _ _) C X96 d3_9 (fun _ => ?_) (fun q => absurd q (by decide))
  refine g_aloadN C X96 d3_29 rfl rfl ?_
  refine g_getfield (host := "") C X96 (Or.inl (wd hw 10 rfl)) Via.refl Fn d3_30 (fun T97 X97 => ?_)
  refine g_aloadN C X97 d3_33 rfl rfl ?_
  refine g_dup C X97 d3_34 rfl ?_
  refine g_getfield (host := "") C X97 (Or.inl (wd hw 17 rfl)) Via.refl Fc d3_35 (fun T98 X98 => ?_)
  refine g_dup_x1 C X98 d3_38 rfl rfl ?_
  refine g_iconst (1 : Int32) C X98 d3_39 rfl ?_
  refine g_iadd C X98 d3_40 ?_
  refine g_putfield (host := "") C X98 (Or.inl (wd hw 17 rfl)) Via.refl Fc E (Or.inl (wd hw 18 rfl)) (wd hw 1 rfl) (ty := .int) (by decide) rfl rfl hn d3_41 (fun T99 h99 X99 W99 => ?_)
  have f99 := Fld.same W99 Fc
  refine g_lloadN C X99 d3_44 rfl ?_
  have f100 := (Arv.other hV W99 (Ne.symm hne))
  refine g_lastore C X99 f100 hnt d3_45 (by decide) (by decide) (Nat.le_of_ble_eq_true rfl) (.long xx) rfl (fun T101 h101 X101 W101 V101 => ?_)
  have V101_t : Arv Z h101 t kt .long (1024 : Int32) [(.long v0), (.long xx), (.long v2)] (.long (0 : Int64)) := V101
  have kp102 := (Keep.refl h [a, t]).wr W99 (Or.inl (by simp))
  have kp103 := kp102.wr W101 (Or.inl (by simp))
  have f104 := (Fld.other W101 (Fld.other W99 Fn (Or.inr (slot_ne (Or.inl (wd hw 11 rfl)) (Or.inl (wd hw 18 rfl)) (by decide) (t := (.array .long)) (t' := .int) (by decide) (by decide)))) (Or.inl hne))
  have f105 := (Fld.other W101 f99 (Or.inl hne))
  exact g_retV C X101 d3_46 (by decide) (by decide) ⟨rfl, kp103, f104, f105, V101_t⟩
theorem ef_radd2 (m : MethodId) (a : Addr) (xx : Int64) : entryFrame m #[(.ref a), (.long xx)] 3 = mkF m 0 #[.val (.ref a), .val (.long xx), .second] [] := by first | (simp [entryFrame, mkF, argsToLocals, Value.category]; done) | rfl
set_option maxRecDepth 65536 in
set_option maxHeartbeats 40000000 in
theorem radd2 (l : Launch) {Z : State} {a0 : Array Value} (hw : ∀ d ∈ tables_1, d.before a0 Z = true) {h : Heap} (hE : Ext Z.heap h) (a : Addr) (xx : Int64) (t : Addr) (kt : ClassId) (v0 v1 v2 : Int64) (E : Exa Z h a "com/example/espera/espera/bench/Latencies") (Fn : Fld Z h a "com/example/espera/espera/bench/Latencies" "nanos" "[J" (.ref t)) (Fc : Fld Z h a "com/example/espera/espera/bench/Latencies" "count" "I" (.int 2)) (hV : Arv Z h t kt .long 1024 [(.long v0), (.long v1), (.long v2)] (.long (0 : Int64))) (hn : Z.heap.size ≤ a) (hnt : Z.heap.size ≤ t) (hne : a ≠ t) :
    Con l (⟨"com/example/espera/espera/bench/Latencies", "add", "(J)V"⟩ : MethodName) prog_15_method_2_code 3 none [] ({ frames := 0, cells := 0, slots := 0, locals := 0 } : Room) Z #[(.ref a), (.long xx)] h (fun v' h' => v' = none ∧ Keep h h' [a, t] ∧ Fld Z h' a "com/example/espera/espera/bench/Latencies" "nanos" "[J" (.ref t) ∧ Fld Z h' a "com/example/espera/espera/bench/Latencies" "count" "I" (.int 3) ∧ Arv Z h' t kt .long 1024 [(.long v0), (.long v1), (.long xx)] (.long (0 : Int64))) := by
  refine con_of (plainFor_of_name pn_2) hE (fun m => ef_radd2 m a xx) ?_
  intro p e s m below meth c T0 C X0
  have C : Cx p s m meth c Z "com/example/espera/espera/bench/Latencies" "add" prog_15_method_2_code 3 none := C
  show Goes p e below _ T0 (mkF m 0 #[.val (.ref a), .val (.long xx), .second] [])
  refine g_aloadN C X0 d3_0 rfl rfl ?_
  refine g_getfield (host := "") C X0 (Or.inl (wd hw 17 rfl)) Via.refl Fc d3_1 (fun T106 X106 => ?_)
  refine g_aloadN C X106 d3_4 rfl rfl ?_
  refine g_getfield (host := "") C X106 (Or.inl (wd hw 10 rfl)) Via.refl Fn d3_5 (fun T107 X107 => ?_)
  refine g_arraylength C X107 hV d3_8 ?_
  refine g_icmpn (hI_ne _ _) C X107 d3_9 (fun _ => ?_) (fun q => absurd q (by decide))
  refine g_aloadN C X107 d3_29 rfl rfl ?_
  refine g_getfield (host := "") C X107 (Or.inl (wd hw 10 rfl)) Via.refl Fn d3_30 (fun T108 X108 => ?_)
  refine g_aloadN C X108 d3_33 rfl rfl ?_
  refine g_dup C X108 d3_34 rfl ?_
  refine g_getfield (host := "") C X108 (Or.inl (wd hw 17 rfl)) Via.refl Fc d3_35 (fun T109 X109 => ?_)
  refine g_dup_x1 C X109 d3_38 rfl rfl ?_
  refine g_iconst (1 : Int32) C X109 d3_39 rfl ?_
  refine g_iadd C X109 d3_40 ?_
  refine g_putfield (host := "") C X109 (Or.inl (wd hw 17 rfl)) Via.refl Fc E (Or.inl (wd hw 18 rfl)) (wd hw 1 rfl) (ty := .int) (by decide) rfl rfl hn d3_41 (fun T110 h110 X110 W110 => ?_)
  have f110 := Fld.same W110 Fc
  refine g_lloadN C X110 d3_44 rfl ?_
  have f111 := (Arv.other hV W110 (Ne.symm hne))
  refine g_lastore C X110 f111 hnt d3_45 (by decide) (by decide) (Nat.le_of_ble_eq_true rfl) (.long xx) rfl (fun T112 h112 X112 W112 V112 => ?_)
  have V112_t : Arv Z h112 t kt .long (1024 : Int32) [(.long v0), (.long v1), (.long xx)] (.long (0 : Int64)) := V112
  have kp113 := (Keep.refl h [a, t]).wr W110 (Or.inl (by simp))
  have kp114 := kp113.wr W112 (Or.inl (by simp))
  have f115 := (Fld.other W112 (Fld.other W110 Fn (Or.inr (slot_ne (Or.inl (wd hw 11 rfl)) (Or.inl (wd hw 18 rfl)) (by decide) (t := (.array .long)) (t' := .int) (by decide) (by decide)))) (Or.inl hne))
  have f116 := (Fld.other W112 f110 (Or.inl hne))
  exact g_retV C X112 d3_46 (by decide) (by decide) ⟨rfl, kp114, f115, f116, V112_t⟩
theorem ef_rpc0_0 (m : MethodId) (a : Addr) : entryFrame m #[(.ref a), (.int (0 : Int32))] 7 = mkF m 0 #[.val (.ref a), .val (.int (0 : Int32)), .unset, .unset, .unset, .unset, .unset] [] := by first | (simp [entryFrame, mkF, argsToLocals, Value.category]; done) | rfl
theorem d6_0 : Dc prog_15_method_4_code 0 (.lconst 0) 1 1 := ⟨by decide +kernel, rfl⟩
theorem d6_1 : Dc prog_15_method_4_code 1 (.lstore_n 2) 1 2 := ⟨by decide +kernel, rfl⟩
theorem d6_2 : Dc prog_15_method_4_code 2 (.aload_n 0) 1 3 := ⟨by decide +kernel, rfl⟩
theorem d6_3 : Dc prog_15_method_4_code 3 (.getfield 13) 3 6 := ⟨by decide +kernel, rfl⟩
theorem d6_6 : Dj prog_15_method_4_code 6 (.ifCond .le 52) 52 3 9 58 := ⟨by decide +kernel, rfl, by decide, by decide⟩
theorem d6_58 : Dc prog_15_method_4_code 58 (.lload_n 2) 1 59 := ⟨by decide +kernel, rfl⟩
theorem d6_59 : Dc prog_15_method_4_code 59 (.lreturn) 1 60 := ⟨by decide +kernel, rfl⟩
set_option maxRecDepth 65536 in
set_option maxHeartbeats 40000000 in
theorem rpc0_0 (l : Launch) {Z : State} {a0 : Array Value} (hw : ∀ d ∈ tables_1, d.before a0 Z = true) {h : Heap} (hE : Ext Z.heap h) (a : Addr) (t : Addr) (kt : ClassId) (v0 v1 v2 : Int64) (Fn : Fld Z h a "com/example/espera/espera/bench/Latencies" "nanos" "[J" (.ref t)) (Fc : Fld Z h a "com/example/espera/espera/bench/Latencies" "count" "I" (.int 0)) (hV : Arv Z h t kt .long 1024 [(.long v0), (.long v1), (.long v2)] (.long (0 : Int64))) :
    Con l (⟨"com/example/espera/espera/bench/Latencies", "percentileNanos", "(I)J"⟩ : MethodName) prog_15_method_4_code 7 (some .long) [] ({ frames := 4, cells := 1, slots := 0, locals := 84 } : Room) Z #[(.ref a), (.int (0 : Int32))] h (fun v' h' => v' = some (.long (0 : Int64)) ∧ Ext h h') := by
  refine con_of (plainFor_of_name pn_2) hE (fun m => ef_rpc0_0 m a) ?_
  intro p e s m below meth c T0 C X0
  have C : Cx p s m meth c Z "com/example/espera/espera/bench/Latencies" "percentileNanos" prog_15_method_4_code 7 (some .long) := C
  show Goes p e below _ T0 (mkF m 0 #[.val (.ref a), .val (.int (0 : Int32)), .unset, .unset, .unset, .unset, .unset] [])
  refine g_lconst (0 : Int64) C X0 d6_0 rfl ?_
  refine g_lstoreN C X0 d6_1 (l' := #[.val (.ref a), .val (.int (0 : Int32)), .val (.long (0 : Int64)), .second, .unset, .unset, .unset]) rfl ?_
  refine g_aloadN C X0 d6_2 rfl rfl ?_
  refine g_getfield (host := "") C X0 (Or.inl (wd hw 17 rfl)) Via.refl Fc d6_3 (fun T117 X117 => ?_)
  refine g_ifn (h0_le _) C X117 d6_6 (fun _ => ?_) (fun q => absurd q (by decide))
  refine g_lloadN C X117 d6_58 rfl ?_
  exact g_retJ C X117 d6_59 (by decide) (by decide) ⟨rfl, keep_ext (Keep.refl h [])⟩
theorem ef_rpc0_50 (m : MethodId) (a : Addr) : entryFrame m #[(.ref a), (.int (50 : Int32))] 7 = mkF m 0 #[.val (.ref a), .val (.int (50 : Int32)), .unset, .unset, .unset, .unset, .unset] [] := by first | (simp [entryFrame, mkF, argsToLocals, Value.category]; done) | rfl
set_option maxRecDepth 65536 in
set_option maxHeartbeats 40000000 in
theorem rpc0_50 (l : Launch) {Z : State} {a0 : Array Value} (hw : ∀ d ∈ tables_1, d.before a0 Z = true) {h : Heap} (hE : Ext Z.heap h) (a : Addr) (t : Addr) (kt : ClassId) (v0 v1 v2 : Int64) (Fn : Fld Z h a "com/example/espera/espera/bench/Latencies" "nanos" "[J" (.ref t)) (Fc : Fld Z h a "com/example/espera/espera/bench/Latencies" "count" "I" (.int 0)) (hV : Arv Z h t kt .long 1024 [(.long v0), (.long v1), (.long v2)] (.long (0 : Int64))) :
    Con l (⟨"com/example/espera/espera/bench/Latencies", "percentileNanos", "(I)J"⟩ : MethodName) prog_15_method_4_code 7 (some .long) [] ({ frames := 4, cells := 1, slots := 0, locals := 84 } : Room) Z #[(.ref a), (.int (50 : Int32))] h (fun v' h' => v' = some (.long (0 : Int64)) ∧ Ext h h') := by
  refine con_of (plainFor_of_name pn_2) hE (fun m => ef_rpc0_50 m a) ?_
  intro p e s m below meth c T0 C X0
  have C : Cx p s m meth c Z "com/example/espera/espera/bench/Latencies" "percentileNanos" prog_15_method_4_code 7 (some .long) := C
  show Goes p e below _ T0 (mkF m 0 #[.val (.ref a), .val (.int (50 : Int32)), .unset, .unset, .unset, .unset, .unset] [])
  refine g_lconst (0 : Int64) C X0 d6_0 rfl ?_
  refine g_lstoreN C X0 d6_1 (l' := #[.val (.ref a), .val (.int (50 : Int32)), .val (.long (0 : Int64)), .second, .unset, .unset, .unset]) rfl ?_
  refine g_aloadN C X0 d6_2 rfl rfl ?_
  refine g_getfield (host := "") C X0 (Or.inl (wd hw 17 rfl)) Via.refl Fc d6_3 (fun T118 X118 => ?_)
  refine g_ifn (h0_le _) C X118 d6_6 (fun _ => ?_) (fun q => absurd q (by decide))
  refine g_lloadN C X118 d6_58 rfl ?_
  exact g_retJ C X118 d6_59 (by decide) (by decide) ⟨rfl, keep_ext (Keep.refl h [])⟩
theorem ef_rpc0_100 (m : MethodId) (a : Addr) : entryFrame m #[(.ref a), (.int (100 : Int32))] 7 = mkF m 0 #[.val (.ref a), .val (.int (100 : Int32)), .unset, .unset, .unset, .unset, .unset] [] := by first | (simp [entryFrame, mkF, argsToLocals, Value.category]; done) | rfl
set_option maxRecDepth 65536 in
set_option maxHeartbeats 40000000 in
theorem rpc0_100 (l : Launch) {Z : State} {a0 : Array Value} (hw : ∀ d ∈ tables_1, d.before a0 Z = true) {h : Heap} (hE : Ext Z.heap h) (a : Addr) (t : Addr) (kt : ClassId) (v0 v1 v2 : Int64) (Fn : Fld Z h a "com/example/espera/espera/bench/Latencies" "nanos" "[J" (.ref t)) (Fc : Fld Z h a "com/example/espera/espera/bench/Latencies" "count" "I" (.int 0)) (hV : Arv Z h t kt .long 1024 [(.long v0), (.long v1), (.long v2)] (.long (0 : Int64))) :
    Con l (⟨"com/example/espera/espera/bench/Latencies", "percentileNanos", "(I)J"⟩ : MethodName) prog_15_method_4_code 7 (some .long) [] ({ frames := 4, cells := 1, slots := 0, locals := 84 } : Room) Z #[(.ref a), (.int (100 : Int32))] h (fun v' h' => v' = some (.long (0 : Int64)) ∧ Ext h h') := by
  refine con_of (plainFor_of_name pn_2) hE (fun m => ef_rpc0_100 m a) ?_
  intro p e s m below meth c T0 C X0
  have C : Cx p s m meth c Z "com/example/espera/espera/bench/Latencies" "percentileNanos" prog_15_method_4_code 7 (some .long) := C
  show Goes p e below _ T0 (mkF m 0 #[.val (.ref a), .val (.int (100 : Int32)), .unset, .unset, .unset, .unset, .unset] [])
  refine g_lconst (0 : Int64) C X0 d6_0 rfl ?_
  refine g_lstoreN C X0 d6_1 (l' := #[.val (.ref a), .val (.int (100 : Int32)), .val (.long (0 : Int64)), .second, .unset, .unset, .unset]) rfl ?_
  refine g_aloadN C X0 d6_2 rfl rfl ?_
  refine g_getfield (host := "") C X0 (Or.inl (wd hw 17 rfl)) Via.refl Fc d6_3 (fun T119 X119 => ?_)
  refine g_ifn (h0_le _) C X119 d6_6 (fun _ => ?_) (fun q => absurd q (by decide))
  refine g_lloadN C X119 d6_58 rfl ?_
  exact g_retJ C X119 d6_59 (by decide) (by decide) ⟨rfl, keep_ext (Keep.refl h [])⟩
theorem ef_rpc1_0 (m : MethodId) (a : Addr) : entryFrame m #[(.ref a), (.int (0 : Int32))] 7 = mkF m 0 #[.val (.ref a), .val (.int (0 : Int32)), .unset, .unset, .unset, .unset, .unset] [] := by first | (simp [entryFrame, mkF, argsToLocals, Value.category]; done) | rfl
theorem d6_9 : Dc prog_15_method_4_code 9 (.aload_n 0) 1 10 := ⟨by decide +kernel, rfl⟩
theorem d6_10 : Dc prog_15_method_4_code 10 (.getfield 7) 3 13 := ⟨by decide +kernel, rfl⟩
theorem d6_13 : Dc prog_15_method_4_code 13 (.aload_n 0) 1 14 := ⟨by decide +kernel, rfl⟩
theorem d6_14 : Dc prog_15_method_4_code 14 (.getfield 13) 3 17 := ⟨by decide +kernel, rfl⟩
theorem d6_17 : Dc prog_15_method_4_code 17 (.invokestatic 17) 3 20 := ⟨by decide +kernel, rfl⟩
theorem pd_4 : parseMethodDescriptor "([JI)[J" = some ⟨[(.array .long), .int], some (.array .long)⟩ := by decide +kernel
theorem d6_20 : Dc prog_15_method_4_code 20 (.astore 4) 2 22 := ⟨by decide +kernel, rfl⟩
theorem d6_22 : Dc prog_15_method_4_code 22 (.aload 4) 2 24 := ⟨by decide +kernel, rfl⟩
theorem d6_24 : Dc prog_15_method_4_code 24 (.invokestatic 27) 3 27 := ⟨by decide +kernel, rfl⟩
theorem pd_5 : parseMethodDescriptor "([J)V" = some ⟨[(.array .long)], none⟩ := by decide +kernel
theorem d6_27 : Dc prog_15_method_4_code 27 (.iload_n 1) 1 28 := ⟨by decide +kernel, rfl⟩
theorem d6_28 : Dc prog_15_method_4_code 28 (.i2l) 1 29 := ⟨by decide +kernel, rfl⟩
theorem d6_29 : Dc prog_15_method_4_code 29 (.aload_n 0) 1 30 := ⟨by decide +kernel, rfl⟩
theorem d6_30 : Dc prog_15_method_4_code 30 (.getfield 13) 3 33 := ⟨by decide +kernel, rfl⟩
theorem d6_33 : Dc prog_15_method_4_code 33 (.i2l) 1 34 := ⟨by decide +kernel, rfl⟩
theorem d6_34 : Dc prog_15_method_4_code 34 (.lmul) 1 35 := ⟨by decide +kernel, rfl⟩
theorem d6_35 : Dc prog_15_method_4_code 35 (.ldc2_w 31) 3 38 := ⟨by decide +kernel, rfl⟩
theorem d6_38 : Dc prog_15_method_4_code 38 (.ladd) 1 39 := ⟨by decide +kernel, rfl⟩
theorem d6_39 : Dc prog_15_method_4_code 39 (.ldc2_w 33) 3 42 := ⟨by decide +kernel, rfl⟩
theorem d6_42 : Dc prog_15_method_4_code 42 (.ldiv) 1 43 := ⟨by decide +kernel, rfl⟩
theorem d6_43 : Dc prog_15_method_4_code 43 (.lstore 5) 2 45 := ⟨by decide +kernel, rfl⟩
theorem d6_45 : Dc prog_15_method_4_code 45 (.aload 4) 2 47 := ⟨by decide +kernel, rfl⟩
theorem d6_47 : Dc prog_15_method_4_code 47 (.lload 5) 2 49 := ⟨by decide +kernel, rfl⟩
theorem d6_49 : Dc prog_15_method_4_code 49 (.lconst 1) 1 50 := ⟨by decide +kernel, rfl⟩
theorem d6_50 : Dc prog_15_method_4_code 50 (.invokestatic 35) 3 53 := ⟨by decide +kernel, rfl⟩
theorem pd_6 : parseMethodDescriptor "(JJ)J" = some ⟨[.long, .long], some .long⟩ := by decide +kernel
theorem d6_53 : Dc prog_15_method_4_code 53 (.l2i) 1 54 := ⟨by decide +kernel, rfl⟩
theorem d6_54 : Dc prog_15_method_4_code 54 (.iconst 1) 1 55 := ⟨by decide +kernel, rfl⟩
theorem d6_55 : Dc prog_15_method_4_code 55 (.isub) 1 56 := ⟨by decide +kernel, rfl⟩
theorem d6_56 : Dc prog_15_method_4_code 56 (.laload) 1 57 := ⟨by decide +kernel, rfl⟩
theorem d6_57 : Dc prog_15_method_4_code 57 (.lstore_n 2) 1 58 := ⟨by decide +kernel, rfl⟩
set_option maxRecDepth 65536 in
set_option maxHeartbeats 40000000 in
theorem rpc1_0 (l : Launch) {Z : State} {a0 : Array Value} (hw : ∀ d ∈ tables_1, d.before a0 Z = true) {h : Heap} (hE : Ext Z.heap h) (a : Addr) (t : Addr) (kt : ClassId) (v0 v1 v2 : Int64) (Fn : Fld Z h a "com/example/espera/espera/bench/Latencies" "nanos" "[J" (.ref t)) (Fc : Fld Z h a "com/example/espera/espera/bench/Latencies" "count" "I" (.int 1)) (hV : Arv Z h t kt .long 1024 [(.long v0), (.long v1), (.long v2)] (.long (0 : Int64))) :
    Con l (⟨"com/example/espera/espera/bench/Latencies", "percentileNanos", "(I)J"⟩ : MethodName) prog_15_method_4_code 7 (some .long) [] ({ frames := 4, cells := 1, slots := 1, locals := 84 } : Room) Z #[(.ref a), (.int (0 : Int32))] h (fun v' h' => v' = some (.long ([v0].getD 0 0)) ∧ Ext h h') := by
  refine con_of (plainFor_of_name pn_2) hE (fun m => ef_rpc1_0 m a) ?_
  intro p e s m below meth c T0 C X0
  have C : Cx p s m meth c Z "com/example/espera/espera/bench/Latencies" "percentileNanos" prog_15_method_4_code 7 (some .long) := C
  show Goes p e below _ T0 (mkF m 0 #[.val (.ref a), .val (.int (0 : Int32)), .unset, .unset, .unset, .unset, .unset] [])
  refine g_lconst (0 : Int64) C X0 d6_0 rfl ?_
  refine g_lstoreN C X0 d6_1 (l' := #[.val (.ref a), .val (.int (0 : Int32)), .val (.long (0 : Int64)), .second, .unset, .unset, .unset]) rfl ?_
  refine g_aloadN C X0 d6_2 rfl rfl ?_
  refine g_getfield (host := "") C X0 (Or.inl (wd hw 17 rfl)) Via.refl Fc d6_3 (fun T120 X120 => ?_)
  refine g_ifn (h0_le _) C X120 d6_6 (fun q => absurd (by decide) q) (fun _ => ?_)
  refine g_aloadN C X120 d6_9 rfl rfl ?_
  refine g_getfield (host := "") C X120 (Or.inl (wd hw 10 rfl)) Via.refl Fn d6_10 (fun T121 X121 => ?_)
  refine g_aloadN C X121 d6_13 rfl rfl ?_
  refine g_getfield (host := "") C X121 (Or.inl (wd hw 17 rfl)) Via.refl Fc d6_14 (fun T122 X122 => ?_)
  refine g_static (argsL := [(.ref t), (.int (1 : Int32))]) (st := []) C X122 (wd hw 31 rfl) (wd hw 32 rfl) (wd hw 33 rfl) (wd hw 34 rfl) (by decide) (pay_of (W' := 0) (rcp1 l hw X122.ext t kt v0 v1 v2 hV) C.hZ (wd hw 34 rfl) (wd hw 33 rfl) (by decide) (by decide)) pd_4 rfl rfl _ rfl (Nat.le_of_eq rfl) d6_17 (by decide) (by decide) (fun T123 h123 v123 q123 X123 => ?_)
  obtain ⟨b123, kb123, rfl, n_b123, g_b123, E123, V123⟩ := q123
  have lt124 : a < b123 := Nat.lt_of_lt_of_le (Fld.lt Fn) g_b123
  have lt125 : t < b123 := Nat.lt_of_lt_of_le (Arv.lt hV) g_b123
  show Goes p e below _ T123 (mkF m 20 #[.val (.ref a), .val (.int (0 : Int32)), .val (.long (0 : Int64)), .second, .unset, .unset, .unset] [(.ref b123)])
  refine g_astore C X123 d6_20 rfl (l' := #[.val (.ref a), .val (.int (0 : Int32)), .val (.long (0 : Int64)), .second, .val (.ref b123), .unset, .unset]) rfl ?_
  refine g_aload C X123 d6_22 rfl rfl ?_
  refine g_static (argsL := [(.ref b123)]) (st := []) C X123 (wd hw 42 rfl) (wd hw 43 rfl) (wd hw 33 rfl) (wd hw 44 rfl) (by decide) (pay_of (W' := 0) (rsa1 l hw X123.ext b123 kb123 v0 V123 n_b123) C.hZ (wd hw 44 rfl) (wd hw 33 rfl) (by decide) (by decide)) pd_5 rfl rfl _ rfl (Nat.le_of_eq rfl) d6_24 (by decide) (by decide) (fun T126 h126 v126 q126 X126 => ?_)
  obtain ⟨rfl, K126, V126⟩ := q126
  show Goes p e below _ T126 (mkF m 27 #[.val (.ref a), .val (.int (0 : Int32)), .val (.long (0 : Int64)), .second, .val (.ref b123), .unset, .unset] [])
  refine g_iloadN C X126 d6_27 rfl ?_
  refine g_i2l C X126 d6_28 ?_
  refine g_aloadN C X126 d6_29 rfl rfl ?_
  have f127 := (Fld.keep (Fld.ext E123 Fc) K126 (ninS (Nat.ne_of_lt lt124) nin0))
  refine g_getfield (host := "") C X126 (Or.inl (wd hw 17 rfl)) Via.refl f127 d6_30 (fun T128 X128 => ?_)
  refine g_i2l C X128 d6_33 ?_
  refine g_lmul C X128 d6_34 ?_
  refine g_ldcJ C X128 (wd hw 55 rfl) d6_35 ?_
  refine g_ladd C X128 d6_38 ?_
  refine g_ldcJ C X128 (wd hw 56 rfl) d6_39 ?_
  refine g_ldiv C X128 d6_42 (by decide) ?_
  refine g_lstore C X128 d6_43 (l' := #[.val (.ref a), .val (.int (0 : Int32)), .val (.long (0 : Int64)), .second, .val (.ref b123), .val (.long (0 : Int64)), .second]) rfl ?_
  refine g_aload C X128 d6_45 rfl rfl ?_
  refine g_lload C X128 d6_47 rfl ?_
  refine g_lconst (1 : Int64) C X128 d6_49 rfl ?_
  refine g_staticP (argsL := [(.long (0 : Int64)), (.long (1 : Int64))]) (st := [(.ref b123)]) C X128 (wd hw 57 rfl) (wd hw 24 rfl) (wd hw 21 rfl) (wd hw 25 rfl) (by decide) (pay_of (W' := 1) (rmax l hw X128.ext (0 : Int64) (1 : Int64)) C.hZ (wd hw 25 rfl) (wd hw 21 rfl) (by decide) (by decide)) pd_6 rfl rfl _ rfl (Nat.le_of_eq rfl) d6_50 (by decide) (by decide) (fun T129 X129 => ?_)
  show Goes p e below _ T129 (mkF m 53 #[.val (.ref a), .val (.int (0 : Int32)), .val (.long (0 : Int64)), .second, .val (.ref b123), .val (.long (0 : Int64)), .second] [(.long (1 : Int64)), (.ref b123)])
  refine g_l2i C X129 d6_53 ?_
  refine g_iconst (1 : Int32) C X129 d6_54 rfl ?_
  refine g_isub C X129 d6_55 ?_
  refine g_laload C X129 V126 d6_56 (by decide) (by decide) (own_getJ [v0] 0) ?_
  refine g_lstoreN C X129 d6_57 (l' := #[.val (.ref a), .val (.int (0 : Int32)), .val (.long ([v0].getD 0 0)), .second, .val (.ref b123), .val (.long (0 : Int64)), .second]) rfl ?_
  refine g_lloadN C X129 d6_58 rfl ?_
  have kp130 := (Keep.refl h []).ext E123
  have kp131 := kp130.trans K126 (allS (Or.inr g_b123) all0)
  exact g_retJ C X129 d6_59 (by decide) (by decide) ⟨rfl, keep_ext kp131⟩
theorem ef_rpc1_50 (m : MethodId) (a : Addr) : entryFrame m #[(.ref a), (.int (50 : Int32))] 7 = mkF m 0 #[.val (.ref a), .val (.int (50 : Int32)), .unset, .unset, .unset, .unset, .unset] [] := by first | (simp [entryFrame, mkF, argsToLocals, Value.category]; done) | rfl
set_option maxRecDepth 65536 in
set_option maxHeartbeats 40000000 in
theorem rpc1_50 (l : Launch) {Z : State} {a0 : Array Value} (hw : ∀ d ∈ tables_1, d.before a0 Z = true) {h : Heap} (hE : Ext Z.heap h) (a : Addr) (t : Addr) (kt : ClassId) (v0 v1 v2 : Int64) (Fn : Fld Z h a "com/example/espera/espera/bench/Latencies" "nanos" "[J" (.ref t)) (Fc : Fld Z h a "com/example/espera/espera/bench/Latencies" "count" "I" (.int 1)) (hV : Arv Z h t kt .long 1024 [(.long v0), (.long v1), (.long v2)] (.long (0 : Int64))) :
    Con l (⟨"com/example/espera/espera/bench/Latencies", "percentileNanos", "(I)J"⟩ : MethodName) prog_15_method_4_code 7 (some .long) [] ({ frames := 4, cells := 1, slots := 1, locals := 84 } : Room) Z #[(.ref a), (.int (50 : Int32))] h (fun v' h' => v' = some (.long ([v0].getD 0 0)) ∧ Ext h h') := by
  refine con_of (plainFor_of_name pn_2) hE (fun m => ef_rpc1_50 m a) ?_
  intro p e s m below meth c T0 C X0
  have C : Cx p s m meth c Z "com/example/espera/espera/bench/Latencies" "percentileNanos" prog_15_method_4_code 7 (some .long) := C
  show Goes p e below _ T0 (mkF m 0 #[.val (.ref a), .val (.int (50 : Int32)), .unset, .unset, .unset, .unset, .unset] [])
  refine g_lconst (0 : Int64) C X0 d6_0 rfl ?_
  refine g_lstoreN C X0 d6_1 (l' := #[.val (.ref a), .val (.int (50 : Int32)), .val (.long (0 : Int64)), .second, .unset, .unset, .unset]) rfl ?_
  refine g_aloadN C X0 d6_2 rfl rfl ?_
  refine g_getfield (host := "") C X0 (Or.inl (wd hw 17 rfl)) Via.refl Fc d6_3 (fun T132 X132 => ?_)
  refine g_ifn (h0_le _) C X132 d6_6 (fun q => absurd (by decide) q) (fun _ => ?_)
  refine g_aloadN C X132 d6_9 rfl rfl ?_
  refine g_getfield (host := "") C X132 (Or.inl (wd hw 10 rfl)) Via.refl Fn d6_10 (fun T133 X133 => ?_)
  refine g_aloadN C X133 d6_13 rfl rfl ?_
  refine g_getfield (host := "") C X133 (Or.inl (wd hw 17 rfl)) Via.refl Fc d6_14 (fun T134 X134 => ?_)
  refine g_static (argsL := [(.ref t), (.int (1 : Int32))]) (st := []) C X134 (wd hw 31 rfl) (wd hw 32 rfl) (wd hw 33 rfl) (wd hw 34 rfl) (by decide) (pay_of (W' := 0) (rcp1 l hw X134.ext t kt v0 v1 v2 hV) C.hZ (wd hw 34 rfl) (wd hw 33 rfl) (by decide) (by decide)) pd_4 rfl rfl _ rfl (Nat.le_of_eq rfl) d6_17 (by decide) (by decide) (fun T135 h135 v135 q135 X135 => ?_)
  obtain ⟨b135, kb135, rfl, n_b135, g_b135, E135, V135⟩ := q135
  have lt136 : a < b135 := Nat.lt_of_lt_of_le (Fld.lt Fn) g_b135
  have lt137 : t < b135 := Nat.lt_of_lt_of_le (Arv.lt hV) g_b135
  show Goes p e below _ T135 (mkF m 20 #[.val (.ref a), .val (.int (50 : Int32)), .val (.long (0 : Int64)), .second, .unset, .unset, .unset] [(.ref b135)])
  refine g_astore C X135 d6_20 rfl (l' := #[.val (.ref a), .val (.int (50 : Int32)), .val (.long (0 : Int64)), .second, .val (.ref b135), .unset, .unset]) rfl ?_
  refine g_aload C X135 d6_22 rfl rfl ?_
  refine g_static (argsL := [(.ref b135)]) (st := []) C X135 (wd hw 42 rfl) (wd hw 43 rfl) (wd hw 33 rfl) (wd hw 44 rfl) (by decide) (pay_of (W' := 0) (rsa1 l hw X135.ext b135 kb135 v0 V135 n_b135) C.hZ (wd hw 44 rfl) (wd hw 33 rfl) (by decide) (by decide)) pd_5 rfl rfl _ rfl (Nat.le_of_eq rfl) d6_24 (by decide) (by decide) (fun T138 h138 v138 q138 X138 => ?_)
  obtain ⟨rfl, K138, V138⟩ := q138
  show Goes p e below _ T138 (mkF m 27 #[.val (.ref a), .val (.int (50 : Int32)), .val (.long (0 : Int64)), .second, .val (.ref b135), .unset, .unset] [])
  refine g_iloadN C X138 d6_27 rfl ?_
  refine g_i2l C X138 d6_28 ?_
  refine g_aloadN C X138 d6_29 rfl rfl ?_
  have f139 := (Fld.keep (Fld.ext E135 Fc) K138 (ninS (Nat.ne_of_lt lt136) nin0))
  refine g_getfield (host := "") C X138 (Or.inl (wd hw 17 rfl)) Via.refl f139 d6_30 (fun T140 X140 => ?_)
  refine g_i2l C X140 d6_33 ?_
  refine g_lmul C X140 d6_34 ?_
  refine g_ldcJ C X140 (wd hw 55 rfl) d6_35 ?_
  refine g_ladd C X140 d6_38 ?_
  refine g_ldcJ C X140 (wd hw 56 rfl) d6_39 ?_
  refine g_ldiv C X140 d6_42 (by decide) ?_
  refine g_lstore C X140 d6_43 (l' := #[.val (.ref a), .val (.int (50 : Int32)), .val (.long (0 : Int64)), .second, .val (.ref b135), .val (.long (1 : Int64)), .second]) rfl ?_
  refine g_aload C X140 d6_45 rfl rfl ?_
  refine g_lload C X140 d6_47 rfl ?_
  refine g_lconst (1 : Int64) C X140 d6_49 rfl ?_
  refine g_staticP (argsL := [(.long (1 : Int64)), (.long (1 : Int64))]) (st := [(.ref b135)]) C X140 (wd hw 57 rfl) (wd hw 24 rfl) (wd hw 21 rfl) (wd hw 25 rfl) (by decide) (pay_of (W' := 1) (rmax l hw X140.ext (1 : Int64) (1 : Int64)) C.hZ (wd hw 25 rfl) (wd hw 21 rfl) (by decide) (by decide)) pd_6 rfl rfl _ rfl (Nat.le_of_eq rfl) d6_50 (by decide) (by decide) (fun T141 X141 => ?_)
  show Goes p e below _ T141 (mkF m 53 #[.val (.ref a), .val (.int (50 : Int32)), .val (.long (0 : Int64)), .second, .val (.ref b135), .val (.long (1 : Int64)), .second] [(.long (1 : Int64)), (.ref b135)])
  refine g_l2i C X141 d6_53 ?_
  refine g_iconst (1 : Int32) C X141 d6_54 rfl ?_
  refine g_isub C X141 d6_55 ?_
  refine g_laload C X141 V138 d6_56 (by decide) (by decide) (own_getJ [v0] 0) ?_
  refine g_lstoreN C X141 d6_57 (l' := #[.val (.ref a), .val (.int (50 : Int32)), .val (.long ([v0].getD 0 0)), .second, .val (.ref b135), .val (.long (1 : Int64)), .second]) rfl ?_
  refine g_lloadN C X141 d6_58 rfl ?_
  have kp142 := (Keep.refl h []).ext E135
  have kp143 := kp142.trans K138 (allS (Or.inr g_b135) all0)
  exact g_retJ C X141 d6_59 (by decide) (by decide) ⟨rfl, keep_ext kp143⟩
theorem ef_rpc1_100 (m : MethodId) (a : Addr) : entryFrame m #[(.ref a), (.int (100 : Int32))] 7 = mkF m 0 #[.val (.ref a), .val (.int (100 : Int32)), .unset, .unset, .unset, .unset, .unset] [] := by first | (simp [entryFrame, mkF, argsToLocals, Value.category]; done) | rfl
set_option maxRecDepth 65536 in
set_option maxHeartbeats 40000000 in
theorem rpc1_100 (l : Launch) {Z : State} {a0 : Array Value} (hw : ∀ d ∈ tables_1, d.before a0 Z = true) {h : Heap} (hE : Ext Z.heap h) (a : Addr) (t : Addr) (kt : ClassId) (v0 v1 v2 : Int64) (Fn : Fld Z h a "com/example/espera/espera/bench/Latencies" "nanos" "[J" (.ref t)) (Fc : Fld Z h a "com/example/espera/espera/bench/Latencies" "count" "I" (.int 1)) (hV : Arv Z h t kt .long 1024 [(.long v0), (.long v1), (.long v2)] (.long (0 : Int64))) :
    Con l (⟨"com/example/espera/espera/bench/Latencies", "percentileNanos", "(I)J"⟩ : MethodName) prog_15_method_4_code 7 (some .long) [] ({ frames := 4, cells := 1, slots := 1, locals := 84 } : Room) Z #[(.ref a), (.int (100 : Int32))] h (fun v' h' => v' = some (.long ([v0].getD 0 0)) ∧ Ext h h') := by
  refine con_of (plainFor_of_name pn_2) hE (fun m => ef_rpc1_100 m a) ?_
  intro p e s m below meth c T0 C X0
  have C : Cx p s m meth c Z "com/example/espera/espera/bench/Latencies" "percentileNanos" prog_15_method_4_code 7 (some .long) := C
  show Goes p e below _ T0 (mkF m 0 #[.val (.ref a), .val (.int (100 : Int32)), .unset, .unset, .unset, .unset, .unset] [])
  refine g_lconst (0 : Int64) C X0 d6_0 rfl ?_
  refine g_lstoreN C X0 d6_1 (l' := #[.val (.ref a), .val (.int (100 : Int32)), .val (.long (0 : Int64)), .second, .unset, .unset, .unset]) rfl ?_
  refine g_aloadN C X0 d6_2 rfl rfl ?_
  refine g_getfield (host := "") C X0 (Or.inl (wd hw 17 rfl)) Via.refl Fc d6_3 (fun T144 X144 => ?_)
  refine g_ifn (h0_le _) C X144 d6_6 (fun q => absurd (by decide) q) (fun _ => ?_)
  refine g_aloadN C X144 d6_9 rfl rfl ?_
  refine g_getfield (host := "") C X144 (Or.inl (wd hw 10 rfl)) Via.refl Fn d6_10 (fun T145 X145 => ?_)
  refine g_aloadN C X145 d6_13 rfl rfl ?_
  refine g_getfield (host := "") C X145 (Or.inl (wd hw 17 rfl)) Via.refl Fc d6_14 (fun T146 X146 => ?_)
  refine g_static (argsL := [(.ref t), (.int (1 : Int32))]) (st := []) C X146 (wd hw 31 rfl) (wd hw 32 rfl) (wd hw 33 rfl) (wd hw 34 rfl) (by decide) (pay_of (W' := 0) (rcp1 l hw X146.ext t kt v0 v1 v2 hV) C.hZ (wd hw 34 rfl) (wd hw 33 rfl) (by decide) (by decide)) pd_4 rfl rfl _ rfl (Nat.le_of_eq rfl) d6_17 (by decide) (by decide) (fun T147 h147 v147 q147 X147 => ?_)
  obtain ⟨b147, kb147, rfl, n_b147, g_b147, E147, V147⟩ := q147
  have lt148 : a < b147 := Nat.lt_of_lt_of_le (Fld.lt Fn) g_b147
  have lt149 : t < b147 := Nat.lt_of_lt_of_le (Arv.lt hV) g_b147
  show Goes p e below _ T147 (mkF m 20 #[.val (.ref a), .val (.int (100 : Int32)), .val (.long (0 : Int64)), .second, .unset, .unset, .unset] [(.ref b147)])
  refine g_astore C X147 d6_20 rfl (l' := #[.val (.ref a), .val (.int (100 : Int32)), .val (.long (0 : Int64)), .second, .val (.ref b147), .unset, .unset]) rfl ?_
  refine g_aload C X147 d6_22 rfl rfl ?_
  refine g_static (argsL := [(.ref b147)]) (st := []) C X147 (wd hw 42 rfl) (wd hw 43 rfl) (wd hw 33 rfl) (wd hw 44 rfl) (by decide) (pay_of (W' := 0) (rsa1 l hw X147.ext b147 kb147 v0 V147 n_b147) C.hZ (wd hw 44 rfl) (wd hw 33 rfl) (by decide) (by decide)) pd_5 rfl rfl _ rfl (Nat.le_of_eq rfl) d6_24 (by decide) (by decide) (fun T150 h150 v150 q150 X150 => ?_)
  obtain ⟨rfl, K150, V150⟩ := q150
  show Goes p e below _ T150 (mkF m 27 #[.val (.ref a), .val (.int (100 : Int32)), .val (.long (0 : Int64)), .second, .val (.ref b147), .unset, .unset] [])
  refine g_iloadN C X150 d6_27 rfl ?_
  refine g_i2l C X150 d6_28 ?_
  refine g_aloadN C X150 d6_29 rfl rfl ?_
  have f151 := (Fld.keep (Fld.ext E147 Fc) K150 (ninS (Nat.ne_of_lt lt148) nin0))
  refine g_getfield (host := "") C X150 (Or.inl (wd hw 17 rfl)) Via.refl f151 d6_30 (fun T152 X152 => ?_)
  refine g_i2l C X152 d6_33 ?_
  refine g_lmul C X152 d6_34 ?_
  refine g_ldcJ C X152 (wd hw 55 rfl) d6_35 ?_
  refine g_ladd C X152 d6_38 ?_
  refine g_ldcJ C X152 (wd hw 56 rfl) d6_39 ?_
  refine g_ldiv C X152 d6_42 (by decide) ?_
  refine g_lstore C X152 d6_43 (l' := #[.val (.ref a), .val (.int (100 : Int32)), .val (.long (0 : Int64)), .second, .val (.ref b147), .val (.long (1 : Int64)), .second]) rfl ?_
  refine g_aload C X152 d6_45 rfl rfl ?_
  refine g_lload C X152 d6_47 rfl ?_
  refine g_lconst (1 : Int64) C X152 d6_49 rfl ?_
  refine g_staticP (argsL := [(.long (1 : Int64)), (.long (1 : Int64))]) (st := [(.ref b147)]) C X152 (wd hw 57 rfl) (wd hw 24 rfl) (wd hw 21 rfl) (wd hw 25 rfl) (by decide) (pay_of (W' := 1) (rmax l hw X152.ext (1 : Int64) (1 : Int64)) C.hZ (wd hw 25 rfl) (wd hw 21 rfl) (by decide) (by decide)) pd_6 rfl rfl _ rfl (Nat.le_of_eq rfl) d6_50 (by decide) (by decide) (fun T153 X153 => ?_)
  show Goes p e below _ T153 (mkF m 53 #[.val (.ref a), .val (.int (100 : Int32)), .val (.long (0 : Int64)), .second, .val (.ref b147), .val (.long (1 : Int64)), .second] [(.long (1 : Int64)), (.ref b147)])
  refine g_l2i C X153 d6_53 ?_
  refine g_iconst (1 : Int32) C X153 d6_54 rfl ?_
  refine g_isub C X153 d6_55 ?_
  refine g_laload C X153 V150 d6_56 (by decide) (by decide) (own_getJ [v0] 0) ?_
  refine g_lstoreN C X153 d6_57 (l' := #[.val (.ref a), .val (.int (100 : Int32)), .val (.long ([v0].getD 0 0)), .second, .val (.ref b147), .val (.long (1 : Int64)), .second]) rfl ?_
  refine g_lloadN C X153 d6_58 rfl ?_
  have kp154 := (Keep.refl h []).ext E147
  have kp155 := kp154.trans K150 (allS (Or.inr g_b147) all0)
  exact g_retJ C X153 d6_59 (by decide) (by decide) ⟨rfl, keep_ext kp155⟩
theorem ef_rpc2_0 (m : MethodId) (a : Addr) : entryFrame m #[(.ref a), (.int (0 : Int32))] 7 = mkF m 0 #[.val (.ref a), .val (.int (0 : Int32)), .unset, .unset, .unset, .unset, .unset] [] := by first | (simp [entryFrame, mkF, argsToLocals, Value.category]; done) | rfl
set_option maxRecDepth 65536 in
set_option maxHeartbeats 40000000 in
theorem rpc2_0 (l : Launch) {Z : State} {a0 : Array Value} (hw : ∀ d ∈ tables_1, d.before a0 Z = true) {h : Heap} (hE : Ext Z.heap h) (a : Addr) (t : Addr) (kt : ClassId) (v0 v1 v2 : Int64) (Fn : Fld Z h a "com/example/espera/espera/bench/Latencies" "nanos" "[J" (.ref t)) (Fc : Fld Z h a "com/example/espera/espera/bench/Latencies" "count" "I" (.int 2)) (hV : Arv Z h t kt .long 1024 [(.long v0), (.long v1), (.long v2)] (.long (0 : Int64))) :
    Con l (⟨"com/example/espera/espera/bench/Latencies", "percentileNanos", "(I)J"⟩ : MethodName) prog_15_method_4_code 7 (some .long) [] ({ frames := 4, cells := 1, slots := 2, locals := 84 } : Room) Z #[(.ref a), (.int (0 : Int32))] h (fun v' h' => v' = some (.long ((own_s2 v0 v1).getD 0 0)) ∧ Ext h h') := by
  refine con_of (plainFor_of_name pn_2) hE (fun m => ef_rpc2_0 m a) ?_
  intro p e s m below meth c T0 C X0
  have C : Cx p s m meth c Z "com/example/espera/espera/bench/Latencies" "percentileNanos" prog_15_method_4_code 7 (some .long) := C
  show Goes p e below _ T0 (mkF m 0 #[.val (.ref a), .val (.int (0 : Int32)), .unset, .unset, .unset, .unset, .unset] [])
  refine g_lconst (0 : Int64) C X0 d6_0 rfl ?_
  refine g_lstoreN C X0 d6_1 (l' := #[.val (.ref a), .val (.int (0 : Int32)), .val (.long (0 : Int64)), .second, .unset, .unset, .unset]) rfl ?_
  refine g_aloadN C X0 d6_2 rfl rfl ?_
  refine g_getfield (host := "") C X0 (Or.inl (wd hw 17 rfl)) Via.refl Fc d6_3 (fun T156 X156 => ?_)
  refine g_ifn (h0_le _) C X156 d6_6 (fun q => absurd (by decide) q) (fun _ => ?_)
  refine g_aloadN C X156 d6_9 rfl rfl ?_
  refine g_getfield (host := "") C X156 (Or.inl (wd hw 10 rfl)) Via.refl Fn d6_10 (fun T157 X157 => ?_)
  refine g_aloadN C X157 d6_13 rfl rfl ?_
  refine g_getfield (host := "") C X157 (Or.inl (wd hw 17 rfl)) Via.refl Fc d6_14 (fun T158 X158 => ?_)
  refine g_static (argsL := [(.ref t), (.int (2 : Int32))]) (st := []) C X158 (wd hw 31 rfl) (wd hw 32 rfl) (wd hw 33 rfl) (wd hw 34 rfl) (by decide) (pay_of (W' := 0) (rcp2 l hw X158.ext t kt v0 v1 v2 hV) C.hZ (wd hw 34 rfl) (wd hw 33 rfl) (by decide) (by decide)) pd_4 rfl rfl _ rfl (Nat.le_of_eq rfl) d6_17 (by decide) (by decide) (fun T159 h159 v159 q159 X159 => ?_)
  obtain ⟨b159, kb159, rfl, n_b159, g_b159, E159, V159⟩ := q159
  have lt160 : a < b159 := Nat.lt_of_lt_of_le (Fld.lt Fn) g_b159
  have lt161 : t < b159 := Nat.lt_of_lt_of_le (Arv.lt hV) g_b159
  show Goes p e below _ T159 (mkF m 20 #[.val (.ref a), .val (.int (0 : Int32)), .val (.long (0 : Int64)), .second, .unset, .unset, .unset] [(.ref b159)])
  refine g_astore C X159 d6_20 rfl (l' := #[.val (.ref a), .val (.int (0 : Int32)), .val (.long (0 : Int64)), .second, .val (.ref b159), .unset, .unset]) rfl ?_
  refine g_aload C X159 d6_22 rfl rfl ?_
  refine g_static (argsL := [(.ref b159)]) (st := []) C X159 (wd hw 42 rfl) (wd hw 43 rfl) (wd hw 33 rfl) (wd hw 44 rfl) (by decide) (pay_of (W' := 0) (rsa2 l hw X159.ext b159 kb159 v0 v1 V159 n_b159) C.hZ (wd hw 44 rfl) (wd hw 33 rfl) (by decide) (by decide)) pd_5 rfl rfl _ rfl (Nat.le_of_eq rfl) d6_24 (by decide) (by decide) (fun T162 h162 v162 q162 X162 => ?_)
  obtain ⟨rfl, K162, V162⟩ := q162
  show Goes p e below _ T162 (mkF m 27 #[.val (.ref a), .val (.int (0 : Int32)), .val (.long (0 : Int64)), .second, .val (.ref b159), .unset, .unset] [])
  refine g_iloadN C X162 d6_27 rfl ?_
  refine g_i2l C X162 d6_28 ?_
  refine g_aloadN C X162 d6_29 rfl rfl ?_
  have f163 := (Fld.keep (Fld.ext E159 Fc) K162 (ninS (Nat.ne_of_lt lt160) nin0))
  refine g_getfield (host := "") C X162 (Or.inl (wd hw 17 rfl)) Via.refl f163 d6_30 (fun T164 X164 => ?_)
  refine g_i2l C X164 d6_33 ?_
  refine g_lmul C X164 d6_34 ?_
  refine g_ldcJ C X164 (wd hw 55 rfl) d6_35 ?_
  refine g_ladd C X164 d6_38 ?_
  refine g_ldcJ C X164 (wd hw 56 rfl) d6_39 ?_
  refine g_ldiv C X164 d6_42 (by decide) ?_
  refine g_lstore C X164 d6_43 (l' := #[.val (.ref a), .val (.int (0 : Int32)), .val (.long (0 : Int64)), .second, .val (.ref b159), .val (.long (0 : Int64)), .second]) rfl ?_
  refine g_aload C X164 d6_45 rfl rfl ?_
  refine g_lload C X164 d6_47 rfl ?_
  refine g_lconst (1 : Int64) C X164 d6_49 rfl ?_
  refine g_staticP (argsL := [(.long (0 : Int64)), (.long (1 : Int64))]) (st := [(.ref b159)]) C X164 (wd hw 57 rfl) (wd hw 24 rfl) (wd hw 21 rfl) (wd hw 25 rfl) (by decide) (pay_of (W' := 1) (rmax l hw X164.ext (0 : Int64) (1 : Int64)) C.hZ (wd hw 25 rfl) (wd hw 21 rfl) (by decide) (by decide)) pd_6 rfl rfl _ rfl (Nat.le_of_eq rfl) d6_50 (by decide) (by decide) (fun T165 X165 => ?_)
  show Goes p e below _ T165 (mkF m 53 #[.val (.ref a), .val (.int (0 : Int32)), .val (.long (0 : Int64)), .second, .val (.ref b159), .val (.long (0 : Int64)), .second] [(.long (1 : Int64)), (.ref b159)])
  refine g_l2i C X165 d6_53 ?_
  refine g_iconst (1 : Int32) C X165 d6_54 rfl ?_
  refine g_isub C X165 d6_55 ?_
  refine g_laload C X165 V162 d6_56 (by decide) (by decide) (own_getJ (own_s2 v0 v1) 0) ?_
  refine g_lstoreN C X165 d6_57 (l' := #[.val (.ref a), .val (.int (0 : Int32)), .val (.long ((own_s2 v0 v1).getD 0 0)), .second, .val (.ref b159), .val (.long (0 : Int64)), .second]) rfl ?_
  refine g_lloadN C X165 d6_58 rfl ?_
  have kp166 := (Keep.refl h []).ext E159
  have kp167 := kp166.trans K162 (allS (Or.inr g_b159) all0)
  exact g_retJ C X165 d6_59 (by decide) (by decide) ⟨rfl, keep_ext kp167⟩
theorem ef_rpc2_50 (m : MethodId) (a : Addr) : entryFrame m #[(.ref a), (.int (50 : Int32))] 7 = mkF m 0 #[.val (.ref a), .val (.int (50 : Int32)), .unset, .unset, .unset, .unset, .unset] [] := by first | (simp [entryFrame, mkF, argsToLocals, Value.category]; done) | rfl
set_option maxRecDepth 65536 in
set_option maxHeartbeats 40000000 in
theorem rpc2_50 (l : Launch) {Z : State} {a0 : Array Value} (hw : ∀ d ∈ tables_1, d.before a0 Z = true) {h : Heap} (hE : Ext Z.heap h) (a : Addr) (t : Addr) (kt : ClassId) (v0 v1 v2 : Int64) (Fn : Fld Z h a "com/example/espera/espera/bench/Latencies" "nanos" "[J" (.ref t)) (Fc : Fld Z h a "com/example/espera/espera/bench/Latencies" "count" "I" (.int 2)) (hV : Arv Z h t kt .long 1024 [(.long v0), (.long v1), (.long v2)] (.long (0 : Int64))) :
    Con l (⟨"com/example/espera/espera/bench/Latencies", "percentileNanos", "(I)J"⟩ : MethodName) prog_15_method_4_code 7 (some .long) [] ({ frames := 4, cells := 1, slots := 2, locals := 84 } : Room) Z #[(.ref a), (.int (50 : Int32))] h (fun v' h' => v' = some (.long ((own_s2 v0 v1).getD 0 0)) ∧ Ext h h') := by
  refine con_of (plainFor_of_name pn_2) hE (fun m => ef_rpc2_50 m a) ?_
  intro p e s m below meth c T0 C X0
  have C : Cx p s m meth c Z "com/example/espera/espera/bench/Latencies" "percentileNanos" prog_15_method_4_code 7 (some .long) := C
  show Goes p e below _ T0 (mkF m 0 #[.val (.ref a), .val (.int (50 : Int32)), .unset, .unset, .unset, .unset, .unset] [])
  refine g_lconst (0 : Int64) C X0 d6_0 rfl ?_
  refine g_lstoreN C X0 d6_1 (l' := #[.val (.ref a), .val (.int (50 : Int32)), .val (.long (0 : Int64)), .second, .unset, .unset, .unset]) rfl ?_
  refine g_aloadN C X0 d6_2 rfl rfl ?_
  refine g_getfield (host := "") C X0 (Or.inl (wd hw 17 rfl)) Via.refl Fc d6_3 (fun T168 X168 => ?_)
  refine g_ifn (h0_le _) C X168 d6_6 (fun q => absurd (by decide) q) (fun _ => ?_)
  refine g_aloadN C X168 d6_9 rfl rfl ?_
  refine g_getfield (host := "") C X168 (Or.inl (wd hw 10 rfl)) Via.refl Fn d6_10 (fun T169 X169 => ?_)
  refine g_aloadN C X169 d6_13 rfl rfl ?_
  refine g_getfield (host := "") C X169 (Or.inl (wd hw 17 rfl)) Via.refl Fc d6_14 (fun T170 X170 => ?_)
  refine g_static (argsL := [(.ref t), (.int (2 : Int32))]) (st := []) C X170 (wd hw 31 rfl) (wd hw 32 rfl) (wd hw 33 rfl) (wd hw 34 rfl) (by decide) (pay_of (W' := 0) (rcp2 l hw X170.ext t kt v0 v1 v2 hV) C.hZ (wd hw 34 rfl) (wd hw 33 rfl) (by decide) (by decide)) pd_4 rfl rfl _ rfl (Nat.le_of_eq rfl) d6_17 (by decide) (by decide) (fun T171 h171 v171 q171 X171 => ?_)
  obtain ⟨b171, kb171, rfl, n_b171, g_b171, E171, V171⟩ := q171
  have lt172 : a < b171 := Nat.lt_of_lt_of_le (Fld.lt Fn) g_b171
  have lt173 : t < b171 := Nat.lt_of_lt_of_le (Arv.lt hV) g_b171
  show Goes p e below _ T171 (mkF m 20 #[.val (.ref a), .val (.int (50 : Int32)), .val (.long (0 : Int64)), .second, .unset, .unset, .unset] [(.ref b171)])
  refine g_astore C X171 d6_20 rfl (l' := #[.val (.ref a), .val (.int (50 : Int32)), .val (.long (0 : Int64)), .second, .val (.ref b171), .unset, .unset]) rfl ?_
  refine g_aload C X171 d6_22 rfl rfl ?_
  refine g_static (argsL := [(.ref b171)]) (st := []) C X171 (wd hw 42 rfl) (wd hw 43 rfl) (wd hw 33 rfl) (wd hw 44 rfl) (by decide) (pay_of (W' := 0) (rsa2 l hw X171.ext b171 kb171 v0 v1 V171 n_b171) C.hZ (wd hw 44 rfl) (wd hw 33 rfl) (by decide) (by decide)) pd_5 rfl rfl _ rfl (Nat.le_of_eq rfl) d6_24 (by decide) (by decide) (fun T174 h174 v174 q174 X174 => ?_)
  obtain ⟨rfl, K174, V174⟩ := q174
  show Goes p e below _ T174 (mkF m 27 #[.val (.ref a), .val (.int (50 : Int32)), .val (.long (0 : Int64)), .second, .val (.ref b171), .unset, .unset] [])
  refine g_iloadN C X174 d6_27 rfl ?_
  refine g_i2l C X174 d6_28 ?_
  refine g_aloadN C X174 d6_29 rfl rfl ?_
  have f175 := (Fld.keep (Fld.ext E171 Fc) K174 (ninS (Nat.ne_of_lt lt172) nin0))
  refine g_getfield (host := "") C X174 (Or.inl (wd hw 17 rfl)) Via.refl f175 d6_30 (fun T176 X176 => ?_)
  refine g_i2l C X176 d6_33 ?_
  refine g_lmul C X176 d6_34 ?_
  refine g_ldcJ C X176 (wd hw 55 rfl) d6_35 ?_
  refine g_ladd C X176 d6_38 ?_
  refine g_ldcJ C X176 (wd hw 56 rfl) d6_39 ?_
  refine g_ldiv C X176 d6_42 (by decide) ?_
  refine g_lstore C X176 d6_43 (l' := #[.val (.ref a), .val (.int (50 : Int32)), .val (.long (0 : Int64)), .second, .val (.ref b171), .val (.long (1 : Int64)), .second]) rfl ?_
  refine g_aload C X176 d6_45 rfl rfl ?_
  refine g_lload C X176 d6_47 rfl ?_
  refine g_lconst (1 : Int64) C X176 d6_49 rfl ?_
  refine g_staticP (argsL := [(.long (1 : Int64)), (.long (1 : Int64))]) (st := [(.ref b171)]) C X176 (wd hw 57 rfl) (wd hw 24 rfl) (wd hw 21 rfl) (wd hw 25 rfl) (by decide) (pay_of (W' := 1) (rmax l hw X176.ext (1 : Int64) (1 : Int64)) C.hZ (wd hw 25 rfl) (wd hw 21 rfl) (by decide) (by decide)) pd_6 rfl rfl _ rfl (Nat.le_of_eq rfl) d6_50 (by decide) (by decide) (fun T177 X177 => ?_)
  show Goes p e below _ T177 (mkF m 53 #[.val (.ref a), .val (.int (50 : Int32)), .val (.long (0 : Int64)), .second, .val (.ref b171), .val (.long (1 : Int64)), .second] [(.long (1 : Int64)), (.ref b171)])
  refine g_l2i C X177 d6_53 ?_
  refine g_iconst (1 : Int32) C X177 d6_54 rfl ?_
  refine g_isub C X177 d6_55 ?_
  refine g_laload C X177 V174 d6_56 (by decide) (by decide) (own_getJ (own_s2 v0 v1) 0) ?_
  refine g_lstoreN C X177 d6_57 (l' := #[.val (.ref a), .val (.int (50 : Int32)), .val (.long ((own_s2 v0 v1).getD 0 0)), .second, .val (.ref b171), .val (.long (1 : Int64)), .second]) rfl ?_
  refine g_lloadN C X177 d6_58 rfl ?_
  have kp178 := (Keep.refl h []).ext E171
  have kp179 := kp178.trans K174 (allS (Or.inr g_b171) all0)
  exact g_retJ C X177 d6_59 (by decide) (by decide) ⟨rfl, keep_ext kp179⟩
theorem ef_rpc2_100 (m : MethodId) (a : Addr) : entryFrame m #[(.ref a), (.int (100 : Int32))] 7 = mkF m 0 #[.val (.ref a), .val (.int (100 : Int32)), .unset, .unset, .unset, .unset, .unset] [] := by first | (simp [entryFrame, mkF, argsToLocals, Value.category]; done) | rfl
set_option maxRecDepth 65536 in
set_option maxHeartbeats 40000000 in
theorem rpc2_100 (l : Launch) {Z : State} {a0 : Array Value} (hw : ∀ d ∈ tables_1, d.before a0 Z = true) {h : Heap} (hE : Ext Z.heap h) (a : Addr) (t : Addr) (kt : ClassId) (v0 v1 v2 : Int64) (Fn : Fld Z h a "com/example/espera/espera/bench/Latencies" "nanos" "[J" (.ref t)) (Fc : Fld Z h a "com/example/espera/espera/bench/Latencies" "count" "I" (.int 2)) (hV : Arv Z h t kt .long 1024 [(.long v0), (.long v1), (.long v2)] (.long (0 : Int64))) :
    Con l (⟨"com/example/espera/espera/bench/Latencies", "percentileNanos", "(I)J"⟩ : MethodName) prog_15_method_4_code 7 (some .long) [] ({ frames := 4, cells := 1, slots := 2, locals := 84 } : Room) Z #[(.ref a), (.int (100 : Int32))] h (fun v' h' => v' = some (.long ((own_s2 v0 v1).getD 1 0)) ∧ Ext h h') := by
  refine con_of (plainFor_of_name pn_2) hE (fun m => ef_rpc2_100 m a) ?_
  intro p e s m below meth c T0 C X0
  have C : Cx p s m meth c Z "com/example/espera/espera/bench/Latencies" "percentileNanos" prog_15_method_4_code 7 (some .long) := C
  show Goes p e below _ T0 (mkF m 0 #[.val (.ref a), .val (.int (100 : Int32)), .unset, .unset, .unset, .unset, .unset] [])
  refine g_lconst (0 : Int64) C X0 d6_0 rfl ?_
  refine g_lstoreN C X0 d6_1 (l' := #[.val (.ref a), .val (.int (100 : Int32)), .val (.long (0 : Int64)), .second, .unset, .unset, .unset]) rfl ?_
  refine g_aloadN C X0 d6_2 rfl rfl ?_
  refine g_getfield (host := "") C X0 (Or.inl (wd hw 17 rfl)) Via.refl Fc d6_3 (fun T180 X180 => ?_)
  refine g_ifn (h0_le _) C X180 d6_6 (fun q => absurd (by decide) q) (fun _ => ?_)
  refine g_aloadN C X180 d6_9 rfl rfl ?_
  refine g_getfield (host := "") C X180 (Or.inl (wd hw 10 rfl)) Via.refl Fn d6_10 (fun T181 X181 => ?_)
  refine g_aloadN C X181 d6_13 rfl rfl ?_
  refine g_getfield (host := "") C X181 (Or.inl (wd hw 17 rfl)) Via.refl Fc d6_14 (fun T182 X182 => ?_)
  refine g_static (argsL := [(.ref t), (.int (2 : Int32))]) (st := []) C X182 (wd hw 31 rfl) (wd hw 32 rfl) (wd hw 33 rfl) (wd hw 34 rfl) (by decide) (pay_of (W' := 0) (rcp2 l hw X182.ext t kt v0 v1 v2 hV) C.hZ (wd hw 34 rfl) (wd hw 33 rfl) (by decide) (by decide)) pd_4 rfl rfl _ rfl (Nat.le_of_eq rfl) d6_17 (by decide) (by decide) (fun T183 h183 v183 q183 X183 => ?_)
  obtain ⟨b183, kb183, rfl, n_b183, g_b183, E183, V183⟩ := q183
  have lt184 : a < b183 := Nat.lt_of_lt_of_le (Fld.lt Fn) g_b183
  have lt185 : t < b183 := Nat.lt_of_lt_of_le (Arv.lt hV) g_b183
  show Goes p e below _ T183 (mkF m 20 #[.val (.ref a), .val (.int (100 : Int32)), .val (.long (0 : Int64)), .second, .unset, .unset, .unset] [(.ref b183)])
  refine g_astore C X183 d6_20 rfl (l' := #[.val (.ref a), .val (.int (100 : Int32)), .val (.long (0 : Int64)), .second, .val (.ref b183), .unset, .unset]) rfl ?_
  refine g_aload C X183 d6_22 rfl rfl ?_
  refine g_static (argsL := [(.ref b183)]) (st := []) C X183 (wd hw 42 rfl) (wd hw 43 rfl) (wd hw 33 rfl) (wd hw 44 rfl) (by decide) (pay_of (W' := 0) (rsa2 l hw X183.ext b183 kb183 v0 v1 V183 n_b183) C.hZ (wd hw 44 rfl) (wd hw 33 rfl) (by decide) (by decide)) pd_5 rfl rfl _ rfl (Nat.le_of_eq rfl) d6_24 (by decide) (by decide) (fun T186 h186 v186 q186 X186 => ?_)
  obtain ⟨rfl, K186, V186⟩ := q186
  show Goes p e below _ T186 (mkF m 27 #[.val (.ref a), .val (.int (100 : Int32)), .val (.long (0 : Int64)), .second, .val (.ref b183), .unset, .unset] [])
  refine g_iloadN C X186 d6_27 rfl ?_
  refine g_i2l C X186 d6_28 ?_
  refine g_aloadN C X186 d6_29 rfl rfl ?_
  have f187 := (Fld.keep (Fld.ext E183 Fc) K186 (ninS (Nat.ne_of_lt lt184) nin0))
  refine g_getfield (host := "") C X186 (Or.inl (wd hw 17 rfl)) Via.refl f187 d6_30 (fun T188 X188 => ?_)
  refine g_i2l C X188 d6_33 ?_
  refine g_lmul C X188 d6_34 ?_
  refine g_ldcJ C X188 (wd hw 55 rfl) d6_35 ?_
  refine g_ladd C X188 d6_38 ?_
  refine g_ldcJ C X188 (wd hw 56 rfl) d6_39 ?_
  refine g_ldiv C X188 d6_42 (by decide) ?_
  refine g_lstore C X188 d6_43 (l' := #[.val (.ref a), .val (.int (100 : Int32)), .val (.long (0 : Int64)), .second, .val (.ref b183), .val (.long (2 : Int64)), .second]) rfl ?_
  refine g_aload C X188 d6_45 rfl rfl ?_
  refine g_lload C X188 d6_47 rfl ?_
  refine g_lconst (1 : Int64) C X188 d6_49 rfl ?_
  refine g_staticP (argsL := [(.long (2 : Int64)), (.long (1 : Int64))]) (st := [(.ref b183)]) C X188 (wd hw 57 rfl) (wd hw 24 rfl) (wd hw 21 rfl) (wd hw 25 rfl) (by decide) (pay_of (W' := 1) (rmax l hw X188.ext (2 : Int64) (1 : Int64)) C.hZ (wd hw 25 rfl) (wd hw 21 rfl) (by decide) (by decide)) pd_6 rfl rfl _ rfl (Nat.le_of_eq rfl) d6_50 (by decide) (by decide) (fun T189 X189 => ?_)
  show Goes p e below _ T189 (mkF m 53 #[.val (.ref a), .val (.int (100 : Int32)), .val (.long (0 : Int64)), .second, .val (.ref b183), .val (.long (2 : Int64)), .second] [(.long (2 : Int64)), (.ref b183)])
  refine g_l2i C X189 d6_53 ?_
  refine g_iconst (1 : Int32) C X189 d6_54 rfl ?_
  refine g_isub C X189 d6_55 ?_
  refine g_laload C X189 V186 d6_56 (by decide) (by decide) (own_getJ (own_s2 v0 v1) 1) ?_
  refine g_lstoreN C X189 d6_57 (l' := #[.val (.ref a), .val (.int (100 : Int32)), .val (.long ((own_s2 v0 v1).getD 1 0)), .second, .val (.ref b183), .val (.long (2 : Int64)), .second]) rfl ?_
  refine g_lloadN C X189 d6_58 rfl ?_
  have kp190 := (Keep.refl h []).ext E183
  have kp191 := kp190.trans K186 (allS (Or.inr g_b183) all0)
  exact g_retJ C X189 d6_59 (by decide) (by decide) ⟨rfl, keep_ext kp191⟩
theorem ef_rpc3_0 (m : MethodId) (a : Addr) : entryFrame m #[(.ref a), (.int (0 : Int32))] 7 = mkF m 0 #[.val (.ref a), .val (.int (0 : Int32)), .unset, .unset, .unset, .unset, .unset] [] := by first | (simp [entryFrame, mkF, argsToLocals, Value.category]; done) | rfl
set_option maxRecDepth 65536 in
set_option maxHeartbeats 40000000 in
theorem rpc3_0 (l : Launch) {Z : State} {a0 : Array Value} (hw : ∀ d ∈ tables_1, d.before a0 Z = true) {h : Heap} (hE : Ext Z.heap h) (a : Addr) (t : Addr) (kt : ClassId) (v0 v1 v2 : Int64) (Fn : Fld Z h a "com/example/espera/espera/bench/Latencies" "nanos" "[J" (.ref t)) (Fc : Fld Z h a "com/example/espera/espera/bench/Latencies" "count" "I" (.int 3)) (hV : Arv Z h t kt .long 1024 [(.long v0), (.long v1), (.long v2)] (.long (0 : Int64))) :
    Con l (⟨"com/example/espera/espera/bench/Latencies", "percentileNanos", "(I)J"⟩ : MethodName) prog_15_method_4_code 7 (some .long) [] ({ frames := 4, cells := 1, slots := 3, locals := 84 } : Room) Z #[(.ref a), (.int (0 : Int32))] h (fun v' h' => v' = some (.long ((own_s3 v0 v1 v2).getD 0 0)) ∧ Ext h h') := by
  refine con_of (plainFor_of_name pn_2) hE (fun m => ef_rpc3_0 m a) ?_
  intro p e s m below meth c T0 C X0
  have C : Cx p s m meth c Z "com/example/espera/espera/bench/Latencies" "percentileNanos" prog_15_method_4_code 7 (some .long) := C
  show Goes p e below _ T0 (mkF m 0 #[.val (.ref a), .val (.int (0 : Int32)), .unset, .unset, .unset, .unset, .unset] [])
  refine g_lconst (0 : Int64) C X0 d6_0 rfl ?_
  refine g_lstoreN C X0 d6_1 (l' := #[.val (.ref a), .val (.int (0 : Int32)), .val (.long (0 : Int64)), .second, .unset, .unset, .unset]) rfl ?_
  refine g_aloadN C X0 d6_2 rfl rfl ?_
  refine g_getfield (host := "") C X0 (Or.inl (wd hw 17 rfl)) Via.refl Fc d6_3 (fun T192 X192 => ?_)
  refine g_ifn (h0_le _) C X192 d6_6 (fun q => absurd (by decide) q) (fun _ => ?_)
  refine g_aloadN C X192 d6_9 rfl rfl ?_
  refine g_getfield (host := "") C X192 (Or.inl (wd hw 10 rfl)) Via.refl Fn d6_10 (fun T193 X193 => ?_)
  refine g_aloadN C X193 d6_13 rfl rfl ?_
  refine g_getfield (host := "") C X193 (Or.inl (wd hw 17 rfl)) Via.refl Fc d6_14 (fun T194 X194 => ?_)
  refine g_static (argsL := [(.ref t), (.int (3 : Int32))]) (st := []) C X194 (wd hw 31 rfl) (wd hw 32 rfl) (wd hw 33 rfl) (wd hw 34 rfl) (by decide) (pay_of (W' := 0) (rcp3 l hw X194.ext t kt v0 v1 v2 hV) C.hZ (wd hw 34 rfl) (wd hw 33 rfl) (by decide) (by decide)) pd_4 rfl rfl _ rfl (Nat.le_of_eq rfl) d6_17 (by decide) (by decide) (fun T195 h195 v195 q195 X195 => ?_)
  obtain ⟨b195, kb195, rfl, n_b195, g_b195, E195, V195⟩ := q195
  have lt196 : a < b195 := Nat.lt_of_lt_of_le (Fld.lt Fn) g_b195
  have lt197 : t < b195 := Nat.lt_of_lt_of_le (Arv.lt hV) g_b195
  show Goes p e below _ T195 (mkF m 20 #[.val (.ref a), .val (.int (0 : Int32)), .val (.long (0 : Int64)), .second, .unset, .unset, .unset] [(.ref b195)])
  refine g_astore C X195 d6_20 rfl (l' := #[.val (.ref a), .val (.int (0 : Int32)), .val (.long (0 : Int64)), .second, .val (.ref b195), .unset, .unset]) rfl ?_
  refine g_aload C X195 d6_22 rfl rfl ?_
  refine g_static (argsL := [(.ref b195)]) (st := []) C X195 (wd hw 42 rfl) (wd hw 43 rfl) (wd hw 33 rfl) (wd hw 44 rfl) (by decide) (pay_of (W' := 0) (rsa3 l hw X195.ext b195 kb195 v0 v1 v2 V195 n_b195) C.hZ (wd hw 44 rfl) (wd hw 33 rfl) (by decide) (by decide)) pd_5 rfl rfl _ rfl (Nat.le_of_eq rfl) d6_24 (by decide) (by decide) (fun T198 h198 v198 q198 X198 => ?_)
  obtain ⟨rfl, K198, V198⟩ := q198
  show Goes p e below _ T198 (mkF m 27 #[.val (.ref a), .val (.int (0 : Int32)), .val (.long (0 : Int64)), .second, .val (.ref b195), .unset, .unset] [])
  refine g_iloadN C X198 d6_27 rfl ?_
  refine g_i2l C X198 d6_28 ?_
  refine g_aloadN C X198 d6_29 rfl rfl ?_
  have f199 := (Fld.keep (Fld.ext E195 Fc) K198 (ninS (Nat.ne_of_lt lt196) nin0))
  refine g_getfield (host := "") C X198 (Or.inl (wd hw 17 rfl)) Via.refl f199 d6_30 (fun T200 X200 => ?_)
  refine g_i2l C X200 d6_33 ?_
  refine g_lmul C X200 d6_34 ?_
  refine g_ldcJ C X200 (wd hw 55 rfl) d6_35 ?_
  refine g_ladd C X200 d6_38 ?_
  refine g_ldcJ C X200 (wd hw 56 rfl) d6_39 ?_
  refine g_ldiv C X200 d6_42 (by decide) ?_
  refine g_lstore C X200 d6_43 (l' := #[.val (.ref a), .val (.int (0 : Int32)), .val (.long (0 : Int64)), .second, .val (.ref b195), .val (.long (0 : Int64)), .second]) rfl ?_
  refine g_aload C X200 d6_45 rfl rfl ?_
  refine g_lload C X200 d6_47 rfl ?_
  refine g_lconst (1 : Int64) C X200 d6_49 rfl ?_
  refine g_staticP (argsL := [(.long (0 : Int64)), (.long (1 : Int64))]) (st := [(.ref b195)]) C X200 (wd hw 57 rfl) (wd hw 24 rfl) (wd hw 21 rfl) (wd hw 25 rfl) (by decide) (pay_of (W' := 1) (rmax l hw X200.ext (0 : Int64) (1 : Int64)) C.hZ (wd hw 25 rfl) (wd hw 21 rfl) (by decide) (by decide)) pd_6 rfl rfl _ rfl (Nat.le_of_eq rfl) d6_50 (by decide) (by decide) (fun T201 X201 => ?_)
  show Goes p e below _ T201 (mkF m 53 #[.val (.ref a), .val (.int (0 : Int32)), .val (.long (0 : Int64)), .second, .val (.ref b195), .val (.long (0 : Int64)), .second] [(.long (1 : Int64)), (.ref b195)])
  refine g_l2i C X201 d6_53 ?_
  refine g_iconst (1 : Int32) C X201 d6_54 rfl ?_
  refine g_isub C X201 d6_55 ?_
  refine g_laload C X201 V198 d6_56 (by decide) (by decide) (own_getJ (own_s3 v0 v1 v2) 0) ?_
  refine g_lstoreN C X201 d6_57 (l' := #[.val (.ref a), .val (.int (0 : Int32)), .val (.long ((own_s3 v0 v1 v2).getD 0 0)), .second, .val (.ref b195), .val (.long (0 : Int64)), .second]) rfl ?_
  refine g_lloadN C X201 d6_58 rfl ?_
  have kp202 := (Keep.refl h []).ext E195
  have kp203 := kp202.trans K198 (allS (Or.inr g_b195) all0)
  exact g_retJ C X201 d6_59 (by decide) (by decide) ⟨rfl, keep_ext kp203⟩
theorem ef_rpc3_50 (m : MethodId) (a : Addr) : entryFrame m #[(.ref a), (.int (50 : Int32))] 7 = mkF m 0 #[.val (.ref a), .val (.int (50 : Int32)), .unset, .unset, .unset, .unset, .unset] [] := by first | (simp [entryFrame, mkF, argsToLocals, Value.category]; done) | rfl
set_option maxRecDepth 65536 in
set_option maxHeartbeats 40000000 in
theorem rpc3_50 (l : Launch) {Z : State} {a0 : Array Value} (hw : ∀ d ∈ tables_1, d.before a0 Z = true) {h : Heap} (hE : Ext Z.heap h) (a : Addr) (t : Addr) (kt : ClassId) (v0 v1 v2 : Int64) (Fn : Fld Z h a "com/example/espera/espera/bench/Latencies" "nanos" "[J" (.ref t)) (Fc : Fld Z h a "com/example/espera/espera/bench/Latencies" "count" "I" (.int 3)) (hV : Arv Z h t kt .long 1024 [(.long v0), (.long v1), (.long v2)] (.long (0 : Int64))) :
    Con l (⟨"com/example/espera/espera/bench/Latencies", "percentileNanos", "(I)J"⟩ : MethodName) prog_15_method_4_code 7 (some .long) [] ({ frames := 4, cells := 1, slots := 3, locals := 84 } : Room) Z #[(.ref a), (.int (50 : Int32))] h (fun v' h' => v' = some (.long ((own_s3 v0 v1 v2).getD 1 0)) ∧ Ext h h') := by
  refine con_of (plainFor_of_name pn_2) hE (fun m => ef_rpc3_50 m a) ?_
  intro p e s m below meth c T0 C X0
  have C : Cx p s m meth c Z "com/example/espera/espera/bench/Latencies" "percentileNanos" prog_15_method_4_code 7 (some .long) := C
  show Goes p e below _ T0 (mkF m 0 #[.val (.ref a), .val (.int (50 : Int32)), .unset, .unset, .unset, .unset, .unset] [])
  refine g_lconst (0 : Int64) C X0 d6_0 rfl ?_
  refine g_lstoreN C X0 d6_1 (l' := #[.val (.ref a), .val (.int (50 : Int32)), .val (.long (0 : Int64)), .second, .unset, .unset, .unset]) rfl ?_
  refine g_aloadN C X0 d6_2 rfl rfl ?_
  refine g_getfield (host := "") C X0 (Or.inl (wd hw 17 rfl)) Via.refl Fc d6_3 (fun T204 X204 => ?_)
  refine g_ifn (h0_le _) C X204 d6_6 (fun q => absurd (by decide) q) (fun _ => ?_)
  refine g_aloadN C X204 d6_9 rfl rfl ?_
  refine g_getfield (host := "") C X204 (Or.inl (wd hw 10 rfl)) Via.refl Fn d6_10 (fun T205 X205 => ?_)
  refine g_aloadN C X205 d6_13 rfl rfl ?_
  refine g_getfield (host := "") C X205 (Or.inl (wd hw 17 rfl)) Via.refl Fc d6_14 (fun T206 X206 => ?_)
  refine g_static (argsL := [(.ref t), (.int (3 : Int32))]) (st := []) C X206 (wd hw 31 rfl) (wd hw 32 rfl) (wd hw 33 rfl) (wd hw 34 rfl) (by decide) (pay_of (W' := 0) (rcp3 l hw X206.ext t kt v0 v1 v2 hV) C.hZ (wd hw 34 rfl) (wd hw 33 rfl) (by decide) (by decide)) pd_4 rfl rfl _ rfl (Nat.le_of_eq rfl) d6_17 (by decide) (by decide) (fun T207 h207 v207 q207 X207 => ?_)
  obtain ⟨b207, kb207, rfl, n_b207, g_b207, E207, V207⟩ := q207
  have lt208 : a < b207 := Nat.lt_of_lt_of_le (Fld.lt Fn) g_b207
  have lt209 : t < b207 := Nat.lt_of_lt_of_le (Arv.lt hV) g_b207
  show Goes p e below _ T207 (mkF m 20 #[.val (.ref a), .val (.int (50 : Int32)), .val (.long (0 : Int64)), .second, .unset, .unset, .unset] [(.ref b207)])
  refine g_astore C X207 d6_20 rfl (l' := #[.val (.ref a), .val (.int (50 : Int32)), .val (.long (0 : Int64)), .second, .val (.ref b207), .unset, .unset]) rfl ?_
  refine g_aload C X207 d6_22 rfl rfl ?_
  refine g_static (argsL := [(.ref b207)]) (st := []) C X207 (wd hw 42 rfl) (wd hw 43 rfl) (wd hw 33 rfl) (wd hw 44 rfl) (by decide) (pay_of (W' := 0) (rsa3 l hw X207.ext b207 kb207 v0 v1 v2 V207 n_b207) C.hZ (wd hw 44 rfl) (wd hw 33 rfl) (by decide) (by decide)) pd_5 rfl rfl _ rfl (Nat.le_of_eq rfl) d6_24 (by decide) (by decide) (fun T210 h210 v210 q210 X210 => ?_)
  obtain ⟨rfl, K210, V210⟩ := q210
  show Goes p e below _ T210 (mkF m 27 #[.val (.ref a), .val (.int (50 : Int32)), .val (.long (0 : Int64)), .second, .val (.ref b207), .unset, .unset] [])
  refine g_iloadN C X210 d6_27 rfl ?_
  refine g_i2l C X210 d6_28 ?_
  refine g_aloadN C X210 d6_29 rfl rfl ?_
  have f211 := (Fld.keep (Fld.ext E207 Fc) K210 (ninS (Nat.ne_of_lt lt208) nin0))
  refine g_getfield (host := "") C X210 (Or.inl (wd hw 17 rfl)) Via.refl f211 d6_30 (fun T212 X212 => ?_)
  refine g_i2l C X212 d6_33 ?_
  refine g_lmul C X212 d6_34 ?_
  refine g_ldcJ C X212 (wd hw 55 rfl) d6_35 ?_
  refine g_ladd C X212 d6_38 ?_
  refine g_ldcJ C X212 (wd hw 56 rfl) d6_39 ?_
  refine g_ldiv C X212 d6_42 (by decide) ?_
  refine g_lstore C X212 d6_43 (l' := #[.val (.ref a), .val (.int (50 : Int32)), .val (.long (0 : Int64)), .second, .val (.ref b207), .val (.long (2 : Int64)), .second]) rfl ?_
  refine g_aload C X212 d6_45 rfl rfl ?_
  refine g_lload C X212 d6_47 rfl ?_
  refine g_lconst (1 : Int64) C X212 d6_49 rfl ?_
  refine g_staticP (argsL := [(.long (2 : Int64)), (.long (1 : Int64))]) (st := [(.ref b207)]) C X212 (wd hw 57 rfl) (wd hw 24 rfl) (wd hw 21 rfl) (wd hw 25 rfl) (by decide) (pay_of (W' := 1) (rmax l hw X212.ext (2 : Int64) (1 : Int64)) C.hZ (wd hw 25 rfl) (wd hw 21 rfl) (by decide) (by decide)) pd_6 rfl rfl _ rfl (Nat.le_of_eq rfl) d6_50 (by decide) (by decide) (fun T213 X213 => ?_)
  show Goes p e below _ T213 (mkF m 53 #[.val (.ref a), .val (.int (50 : Int32)), .val (.long (0 : Int64)), .second, .val (.ref b207), .val (.long (2 : Int64)), .second] [(.long (2 : Int64)), (.ref b207)])
  refine g_l2i C X213 d6_53 ?_
  refine g_iconst (1 : Int32) C X213 d6_54 rfl ?_
  refine g_isub C X213 d6_55 ?_
  refine g_laload C X213 V210 d6_56 (by decide) (by decide) (own_getJ (own_s3 v0 v1 v2) 1) ?_
  refine g_lstoreN C X213 d6_57 (l' := #[.val (.ref a), .val (.int (50 : Int32)), .val (.long ((own_s3 v0 v1 v2).getD 1 0)), .second, .val (.ref b207), .val (.long (2 : Int64)), .second]) rfl ?_
  refine g_lloadN C X213 d6_58 rfl ?_
  have kp214 := (Keep.refl h []).ext E207
  have kp215 := kp214.trans K210 (allS (Or.inr g_b207) all0)
  exact g_retJ C X213 d6_59 (by decide) (by decide) ⟨rfl, keep_ext kp215⟩
theorem ef_rpc3_100 (m : MethodId) (a : Addr) : entryFrame m #[(.ref a), (.int (100 : Int32))] 7 = mkF m 0 #[.val (.ref a), .val (.int (100 : Int32)), .unset, .unset, .unset, .unset, .unset] [] := by first | (simp [entryFrame, mkF, argsToLocals, Value.category]; done) | rfl
set_option maxRecDepth 65536 in
set_option maxHeartbeats 40000000 in
theorem rpc3_100 (l : Launch) {Z : State} {a0 : Array Value} (hw : ∀ d ∈ tables_1, d.before a0 Z = true) {h : Heap} (hE : Ext Z.heap h) (a : Addr) (t : Addr) (kt : ClassId) (v0 v1 v2 : Int64) (Fn : Fld Z h a "com/example/espera/espera/bench/Latencies" "nanos" "[J" (.ref t)) (Fc : Fld Z h a "com/example/espera/espera/bench/Latencies" "count" "I" (.int 3)) (hV : Arv Z h t kt .long 1024 [(.long v0), (.long v1), (.long v2)] (.long (0 : Int64))) :
    Con l (⟨"com/example/espera/espera/bench/Latencies", "percentileNanos", "(I)J"⟩ : MethodName) prog_15_method_4_code 7 (some .long) [] ({ frames := 4, cells := 1, slots := 3, locals := 84 } : Room) Z #[(.ref a), (.int (100 : Int32))] h (fun v' h' => v' = some (.long ((own_s3 v0 v1 v2).getD 2 0)) ∧ Ext h h') := by
  refine con_of (plainFor_of_name pn_2) hE (fun m => ef_rpc3_100 m a) ?_
  intro p e s m below meth c T0 C X0
  have C : Cx p s m meth c Z "com/example/espera/espera/bench/Latencies" "percentileNanos" prog_15_method_4_code 7 (some .long) := C
  show Goes p e below _ T0 (mkF m 0 #[.val (.ref a), .val (.int (100 : Int32)), .unset, .unset, .unset, .unset, .unset] [])
  refine g_lconst (0 : Int64) C X0 d6_0 rfl ?_
  refine g_lstoreN C X0 d6_1 (l' := #[.val (.ref a), .val (.int (100 : Int32)), .val (.long (0 : Int64)), .second, .unset, .unset, .unset]) rfl ?_
  refine g_aloadN C X0 d6_2 rfl rfl ?_
  refine g_getfield (host := "") C X0 (Or.inl (wd hw 17 rfl)) Via.refl Fc d6_3 (fun T216 X216 => ?_)
  refine g_ifn (h0_le _) C X216 d6_6 (fun q => absurd (by decide) q) (fun _ => ?_)
  refine g_aloadN C X216 d6_9 rfl rfl ?_
  refine g_getfield (host := "") C X216 (Or.inl (wd hw 10 rfl)) Via.refl Fn d6_10 (fun T217 X217 => ?_)
  refine g_aloadN C X217 d6_13 rfl rfl ?_
  refine g_getfield (host := "") C X217 (Or.inl (wd hw 17 rfl)) Via.refl Fc d6_14 (fun T218 X218 => ?_)
  refine g_static (argsL := [(.ref t), (.int (3 : Int32))]) (st := []) C X218 (wd hw 31 rfl) (wd hw 32 rfl) (wd hw 33 rfl) (wd hw 34 rfl) (by decide) (pay_of (W' := 0) (rcp3 l hw X218.ext t kt v0 v1 v2 hV) C.hZ (wd hw 34 rfl) (wd hw 33 rfl) (by decide) (by decide)) pd_4 rfl rfl _ rfl (Nat.le_of_eq rfl) d6_17 (by decide) (by decide) (fun T219 h219 v219 q219 X219 => ?_)
  obtain ⟨b219, kb219, rfl, n_b219, g_b219, E219, V219⟩ := q219
  have lt220 : a < b219 := Nat.lt_of_lt_of_le (Fld.lt Fn) g_b219
  have lt221 : t < b219 := Nat.lt_of_lt_of_le (Arv.lt hV) g_b219
  show Goes p e below _ T219 (mkF m 20 #[.val (.ref a), .val (.int (100 : Int32)), .val (.long (0 : Int64)), .second, .unset, .unset, .unset] [(.ref b219)])
  refine g_astore C X219 d6_20 rfl (l' := #[.val (.ref a), .val (.int (100 : Int32)), .val (.long (0 : Int64)), .second, .val (.ref b219), .unset, .unset]) rfl ?_
  refine g_aload C X219 d6_22 rfl rfl ?_
  refine g_static (argsL := [(.ref b219)]) (st := []) C X219 (wd hw 42 rfl) (wd hw 43 rfl) (wd hw 33 rfl) (wd hw 44 rfl) (by decide) (pay_of (W' := 0) (rsa3 l hw X219.ext b219 kb219 v0 v1 v2 V219 n_b219) C.hZ (wd hw 44 rfl) (wd hw 33 rfl) (by decide) (by decide)) pd_5 rfl rfl _ rfl (Nat.le_of_eq rfl) d6_24 (by decide) (by decide) (fun T222 h222 v222 q222 X222 => ?_)
  obtain ⟨rfl, K222, V222⟩ := q222
  show Goes p e below _ T222 (mkF m 27 #[.val (.ref a), .val (.int (100 : Int32)), .val (.long (0 : Int64)), .second, .val (.ref b219), .unset, .unset] [])
  refine g_iloadN C X222 d6_27 rfl ?_
  refine g_i2l C X222 d6_28 ?_
  refine g_aloadN C X222 d6_29 rfl rfl ?_
  have f223 := (Fld.keep (Fld.ext E219 Fc) K222 (ninS (Nat.ne_of_lt lt220) nin0))
  refine g_getfield (host := "") C X222 (Or.inl (wd hw 17 rfl)) Via.refl f223 d6_30 (fun T224 X224 => ?_)
  refine g_i2l C X224 d6_33 ?_
  refine g_lmul C X224 d6_34 ?_
  refine g_ldcJ C X224 (wd hw 55 rfl) d6_35 ?_
  refine g_ladd C X224 d6_38 ?_
  refine g_ldcJ C X224 (wd hw 56 rfl) d6_39 ?_
  refine g_ldiv C X224 d6_42 (by decide) ?_
  refine g_lstore C X224 d6_43 (l' := #[.val (.ref a), .val (.int (100 : Int32)), .val (.long (0 : Int64)), .second, .val (.ref b219), .val (.long (3 : Int64)), .second]) rfl ?_
  refine g_aload C X224 d6_45 rfl rfl ?_
  refine g_lload C X224 d6_47 rfl ?_
  refine g_lconst (1 : Int64) C X224 d6_49 rfl ?_
  refine g_staticP (argsL := [(.long (3 : Int64)), (.long (1 : Int64))]) (st := [(.ref b219)]) C X224 (wd hw 57 rfl) (wd hw 24 rfl) (wd hw 21 rfl) (wd hw 25 rfl) (by decide) (pay_of (W' := 1) (rmax l hw X224.ext (3 : Int64) (1 : Int64)) C.hZ (wd hw 25 rfl) (wd hw 21 rfl) (by decide) (by decide)) pd_6 rfl rfl _ rfl (Nat.le_of_eq rfl) d6_50 (by decide) (by decide) (fun T225 X225 => ?_)
  show Goes p e below _ T225 (mkF m 53 #[.val (.ref a), .val (.int (100 : Int32)), .val (.long (0 : Int64)), .second, .val (.ref b219), .val (.long (3 : Int64)), .second] [(.long (3 : Int64)), (.ref b219)])
  refine g_l2i C X225 d6_53 ?_
  refine g_iconst (1 : Int32) C X225 d6_54 rfl ?_
  refine g_isub C X225 d6_55 ?_
  refine g_laload C X225 V222 d6_56 (by decide) (by decide) (own_getJ (own_s3 v0 v1 v2) 2) ?_
  refine g_lstoreN C X225 d6_57 (l' := #[.val (.ref a), .val (.int (100 : Int32)), .val (.long ((own_s3 v0 v1 v2).getD 2 0)), .second, .val (.ref b219), .val (.long (3 : Int64)), .second]) rfl ?_
  refine g_lloadN C X225 d6_58 rfl ?_
  have kp226 := (Keep.refl h []).ext E219
  have kp227 := kp226.trans K222 (allS (Or.inr g_b219) all0)
  exact g_retJ C X225 d6_59 (by decide) (by decide) ⟨rfl, keep_ext kp227⟩
theorem own_e2 (x y : Int64) : (own_s2 x y).getD 0 0 = own_mn x y ∧ (own_s2 x y).getD 1 0 = own_mx x y := by
  unfold own_s2 own_mn own_mx
  by_cases h1 : y < x <;> by_cases h2 : x < y <;> simp only [h1, h2, if_true, if_false] <;> simp <;> simp only [Int64.lt_iff_toInt_lt, ← Int64.toInt_inj] at * <;> omega
theorem own_e3 (x y z : Int64) : (own_s3 x y z).getD 0 0 = own_mn (own_mn x y) z ∧ (own_s3 x y z).getD 1 0 = own_mx (own_mn x y) (own_mn (own_mx x y) z) ∧ (own_s3 x y z).getD 2 0 = own_mx (own_mx x y) z := by
  unfold own_s3 own_mn own_mx
  by_cases h1 : y < x <;> by_cases h2 : x < y <;> by_cases h3 : z < x <;> by_cases h4 : z < y <;> by_cases h5 : x < z <;> by_cases h6 : y < z <;> simp only [h1, h2, h3, h4, h5, h6, if_true, if_false] <;> simp [h1, h2, h3, h4, h5, h6] <;> simp only [Int64.lt_iff_toInt_lt, ← Int64.toInt_inj] at * <;> omega
theorem pn_3 : plainName "com/example/espera/espera/bench/LatenciesAddPinLaw" = true := by first | (simp [plainName, overriddenIn]; done) | decide +kernel
theorem ef_rm0 (m : MethodId) (p0 : Int64) (p1 : Int64) (p2 : Int64) (p3 : Int32) : entryFrame m #[(.long p0), (.long p1), (.long p2), (.int p3)] maxLocals = mkF m 0 #[.val (.long p0), .second, .val (.long p1), .second, .val (.long p2), .second, .val (.int p3), .unset, .unset, .unset, .unset, .unset, .unset, .unset, .unset, .unset, .unset, .unset, .unset, .unset, .unset] [] := by first | (simp [entryFrame, mkF, argsToLocals, Value.category, maxLocals]; done) | rfl
theorem d0_0 : Dc code 0 (.iload 6) 2 2 := ⟨at_0, rfl⟩
theorem d0_2 : Dc code 2 (.iconst 3) 1 3 := ⟨at_2, rfl⟩
theorem d0_3 : Dc code 3 (.iand) 1 4 := ⟨at_3, rfl⟩
theorem d0_4 : Dc code 4 (.istore 7) 2 6 := ⟨at_4, rfl⟩
theorem d0_6 : Dc code 6 (.new 7) 3 9 := ⟨at_6, rfl⟩
theorem d0_9 : Dc code 9 (.dup) 1 10 := ⟨at_9, rfl⟩
theorem d0_10 : Dc code 10 (.invokespecial 9) 3 13 := ⟨at_10, rfl⟩
theorem pd_7 : parseMethodDescriptor "()V" = some ⟨[], none⟩ := by decide +kernel
theorem d0_13 : Dc code 13 (.astore 8) 2 15 := ⟨at_13, rfl⟩
theorem d0_15 : Dc code 15 (.iload 7) 2 17 := ⟨at_15, rfl⟩
theorem d0_17 : Dc code 17 (.iconst 1) 1 18 := ⟨at_17, rfl⟩
theorem d0_18 : Dj code 18 (.if_icmp .lt 9) 9 3 21 27 := ⟨at_18, rfl, by decide, by decide⟩
theorem d0_27 : Dc code 27 (.iload 7) 2 29 := ⟨at_27, rfl⟩
theorem d0_29 : Dc code 29 (.iconst 2) 1 30 := ⟨at_29, rfl⟩
theorem d0_30 : Dj code 30 (.if_icmp .lt 9) 9 3 33 39 := ⟨at_30, rfl, by decide, by decide⟩
theorem d0_39 : Dc code 39 (.iload 7) 2 41 := ⟨at_39, rfl⟩
theorem d0_41 : Dc code 41 (.iconst 3) 1 42 := ⟨at_41, rfl⟩
theorem d0_42 : Dj code 42 (.if_icmp .lt 10) 10 3 45 52 := ⟨at_42, rfl, by decide, by decide⟩
theorem d0_52 : Dc code 52 (.iload 7) 2 54 := ⟨at_52, rfl⟩
theorem d0_54 : Dj code 54 (.ifCond .ne 15) 15 3 57 69 := ⟨at_54, rfl, by decide, by decide⟩
theorem d0_57 : Dc code 57 (.lconst 0) 1 58 := ⟨at_57, rfl⟩
theorem d0_58 : Dc code 58 (.lstore 9) 2 60 := ⟨at_58, rfl⟩
theorem d0_60 : Dc code 60 (.lconst 0) 1 61 := ⟨at_60, rfl⟩
theorem d0_61 : Dc code 61 (.lstore 11) 2 63 := ⟨at_61, rfl⟩
theorem d0_63 : Dc code 63 (.lconst 0) 1 64 := ⟨at_63, rfl⟩
theorem d0_64 : Dc code 64 (.lstore 13) 2 66 := ⟨at_64, rfl⟩
theorem d0_66 : Dj code 66 (.goto 92) 92 3 69 158 := ⟨at_66, rfl, by decide, by decide⟩
theorem d0_158 : Dc code 158 (.aload 8) 2 160 := ⟨at_158, rfl⟩
theorem d0_160 : Dc code 160 (.iconst 0) 1 161 := ⟨at_160, rfl⟩
theorem d0_161 : Dc code 161 (.invokevirtual 23) 3 164 := ⟨at_161, rfl⟩
theorem pd_8 : parseMethodDescriptor "(I)J" = some ⟨[.int], some .long⟩ := by decide +kernel
theorem d0_164 : Dc code 164 (.lstore 15) 2 166 := ⟨at_164, rfl⟩
theorem d0_166 : Dc code 166 (.aload 8) 2 168 := ⟨at_166, rfl⟩
theorem d0_168 : Dc code 168 (.bipush 50) 2 170 := ⟨at_168, rfl⟩
theorem d0_170 : Dc code 170 (.invokevirtual 23) 3 173 := ⟨at_170, rfl⟩
theorem d0_173 : Dc code 173 (.lstore 17) 2 175 := ⟨at_173, rfl⟩
theorem d0_175 : Dc code 175 (.aload 8) 2 177 := ⟨at_175, rfl⟩
theorem d0_177 : Dc code 177 (.bipush 100) 2 179 := ⟨at_177, rfl⟩
theorem d0_179 : Dc code 179 (.invokevirtual 23) 3 182 := ⟨at_179, rfl⟩
theorem d0_182 : Dc code 182 (.lstore 19) 2 184 := ⟨at_182, rfl⟩
theorem d0_184 : Dc code 184 (.lload 15) 2 186 := ⟨at_184, rfl⟩
theorem d0_186 : Dc code 186 (.lload 9) 2 188 := ⟨at_186, rfl⟩
theorem d0_188 : Dc code 188 (.lcmp) 1 189 := ⟨at_188, rfl⟩
theorem d0_189 : Dj code 189 (.ifCond .ne 23) 23 3 192 212 := ⟨at_189, rfl, by decide, by decide⟩
theorem d0_192 : Dc code 192 (.lload 17) 2 194 := ⟨at_192, rfl⟩
theorem d0_194 : Dc code 194 (.lload 11) 2 196 := ⟨at_194, rfl⟩
theorem d0_196 : Dc code 196 (.lcmp) 1 197 := ⟨at_196, rfl⟩
theorem d0_197 : Dj code 197 (.ifCond .ne 15) 15 3 200 212 := ⟨at_197, rfl, by decide, by decide⟩
theorem d0_200 : Dc code 200 (.lload 19) 2 202 := ⟨at_200, rfl⟩
theorem d0_202 : Dc code 202 (.lload 13) 2 204 := ⟨at_202, rfl⟩
theorem d0_204 : Dc code 204 (.lcmp) 1 205 := ⟨at_204, rfl⟩
theorem d0_205 : Dj code 205 (.ifCond .ne 7) 7 3 208 212 := ⟨at_205, rfl, by decide, by decide⟩
theorem d0_208 : Dc code 208 (.iconst 1) 1 209 := ⟨at_208, rfl⟩
theorem d0_209 : Dj code 209 (.goto 4) 4 3 212 213 := ⟨at_209, rfl, by decide, by decide⟩
theorem d0_213 : Dc code 213 (.ireturn) 1 214 := ⟨at_213, rfl⟩
theorem d0_21 : Dc code 21 (.aload 8) 2 23 := ⟨at_21, rfl⟩
theorem d0_23 : Dc code 23 (.lload_n 0) 1 24 := ⟨at_23, rfl⟩
theorem d0_24 : Dc code 24 (.invokevirtual 10) 3 27 := ⟨at_24, rfl⟩
theorem pd_9 : parseMethodDescriptor "(J)V" = some ⟨[.long], none⟩ := by decide +kernel
theorem d0_69 : Dc code 69 (.iload 7) 2 71 := ⟨at_69, rfl⟩
theorem d0_71 : Dc code 71 (.iconst 1) 1 72 := ⟨at_71, rfl⟩
theorem d0_72 : Dj code 72 (.if_icmp .ne 15) 15 3 75 87 := ⟨at_72, rfl, by decide, by decide⟩
theorem d0_75 : Dc code 75 (.lload_n 0) 1 76 := ⟨at_75, rfl⟩
theorem d0_76 : Dc code 76 (.lstore 9) 2 78 := ⟨at_76, rfl⟩
theorem d0_78 : Dc code 78 (.lload_n 0) 1 79 := ⟨at_78, rfl⟩
theorem d0_79 : Dc code 79 (.lstore 11) 2 81 := ⟨at_79, rfl⟩
theorem d0_81 : Dc code 81 (.lload_n 0) 1 82 := ⟨at_81, rfl⟩
theorem d0_82 : Dc code 82 (.lstore 13) 2 84 := ⟨at_82, rfl⟩
theorem d0_84 : Dj code 84 (.goto 74) 74 3 87 158 := ⟨at_84, rfl, by decide, by decide⟩
theorem d0_33 : Dc code 33 (.aload 8) 2 35 := ⟨at_33, rfl⟩
theorem d0_35 : Dc code 35 (.lload_n 2) 1 36 := ⟨at_35, rfl⟩
theorem d0_36 : Dc code 36 (.invokevirtual 10) 3 39 := ⟨at_36, rfl⟩
theorem d0_87 : Dc code 87 (.iload 7) 2 89 := ⟨at_87, rfl⟩
theorem d0_89 : Dc code 89 (.iconst 2) 1 90 := ⟨at_89, rfl⟩
theorem d0_90 : Dj code 90 (.if_icmp .ne 24) 24 3 93 114 := ⟨at_90, rfl, by decide, by decide⟩
theorem d0_93 : Dc code 93 (.lload_n 0) 1 94 := ⟨at_93, rfl⟩
theorem d0_94 : Dc code 94 (.lload_n 2) 1 95 := ⟨at_94, rfl⟩
theorem d0_95 : Dc code 95 (.invokestatic 14) 3 98 := ⟨at_95, rfl⟩
theorem d0_98 : Dc code 98 (.lstore 9) 2 100 := ⟨at_98, rfl⟩
theorem d0_100 : Dc code 100 (.lload 9) 2 102 := ⟨at_100, rfl⟩
theorem d0_102 : Dc code 102 (.lstore 11) 2 104 := ⟨at_102, rfl⟩
theorem d0_104 : Dc code 104 (.lload_n 0) 1 105 := ⟨at_104, rfl⟩
theorem d0_105 : Dc code 105 (.lload_n 2) 1 106 := ⟨at_105, rfl⟩
theorem d0_106 : Dc code 106 (.invokestatic 20) 3 109 := ⟨at_106, rfl⟩
theorem d0_109 : Dc code 109 (.lstore 13) 2 111 := ⟨at_109, rfl⟩
theorem d0_111 : Dj code 111 (.goto 47) 47 3 114 158 := ⟨at_111, rfl, by decide, by decide⟩
theorem d0_45 : Dc code 45 (.aload 8) 2 47 := ⟨at_45, rfl⟩
theorem d0_47 : Dc code 47 (.lload 4) 2 49 := ⟨at_47, rfl⟩
theorem d0_49 : Dc code 49 (.invokevirtual 10) 3 52 := ⟨at_49, rfl⟩
theorem d0_114 : Dc code 114 (.lload_n 0) 1 115 := ⟨at_114, rfl⟩
theorem d0_115 : Dc code 115 (.lload_n 2) 1 116 := ⟨at_115, rfl⟩
theorem d0_116 : Dc code 116 (.invokestatic 14) 3 119 := ⟨at_116, rfl⟩
theorem d0_119 : Dc code 119 (.lload 4) 2 121 := ⟨at_119, rfl⟩
theorem d0_121 : Dc code 121 (.invokestatic 14) 3 124 := ⟨at_121, rfl⟩
theorem d0_124 : Dc code 124 (.lstore 9) 2 126 := ⟨at_124, rfl⟩
theorem d0_126 : Dc code 126 (.lload_n 0) 1 127 := ⟨at_126, rfl⟩
theorem d0_127 : Dc code 127 (.lload_n 2) 1 128 := ⟨at_127, rfl⟩
theorem d0_128 : Dc code 128 (.invokestatic 20) 3 131 := ⟨at_128, rfl⟩
theorem d0_131 : Dc code 131 (.lload 4) 2 133 := ⟨at_131, rfl⟩
theorem d0_133 : Dc code 133 (.invokestatic 20) 3 136 := ⟨at_133, rfl⟩
theorem d0_136 : Dc code 136 (.lstore 13) 2 138 := ⟨at_136, rfl⟩
theorem d0_138 : Dc code 138 (.lload_n 0) 1 139 := ⟨at_138, rfl⟩
theorem d0_139 : Dc code 139 (.lload_n 2) 1 140 := ⟨at_139, rfl⟩
theorem d0_140 : Dc code 140 (.invokestatic 14) 3 143 := ⟨at_140, rfl⟩
theorem d0_143 : Dc code 143 (.lload_n 0) 1 144 := ⟨at_143, rfl⟩
theorem d0_144 : Dc code 144 (.lload_n 2) 1 145 := ⟨at_144, rfl⟩
theorem d0_145 : Dc code 145 (.invokestatic 20) 3 148 := ⟨at_145, rfl⟩
theorem d0_148 : Dc code 148 (.lload 4) 2 150 := ⟨at_148, rfl⟩
theorem d0_150 : Dc code 150 (.invokestatic 14) 3 153 := ⟨at_150, rfl⟩
theorem d0_153 : Dc code 153 (.invokestatic 20) 3 156 := ⟨at_153, rfl⟩
theorem d0_156 : Dc code 156 (.lstore 11) 2 158 := ⟨at_156, rfl⟩
set_option maxRecDepth 65536 in
set_option maxHeartbeats 40000000 in
theorem rm0 (l : Launch) {Z : State} {a0 : Array Value} (hw : ∀ d ∈ tables_1, d.before a0 Z = true) {h : Heap} (hE : Ext Z.heap h) (p0 : Int64) (p1 : Int64) (p2 : Int64) (p3 : Int32)   :
    Con l x code maxLocals ret tables_1 room_1 Z #[(.long p0), (.long p1), (.long p2), (.int p3)] h (fun v' h' => v' = some (.int 1)) := by
  refine con_of (plainFor_of_name pn_3) hE (fun m => ef_rm0 m p0 p1 p2 p3) ?_
  intro p e s m below meth c T0 C X0
  have C : Cx p s m meth c Z "com/example/espera/espera/bench/LatenciesAddPinLaw" "law" code maxLocals ret := C
  show Goes p e below _ T0 (mkF m 0 #[.val (.long p0), .second, .val (.long p1), .second, .val (.long p2), .second, .val (.int p3), .unset, .unset, .unset, .unset, .unset, .unset, .unset, .unset, .unset, .unset, .unset, .unset, .unset, .unset] [])
  refine g_iload C X0 d0_0 rfl ?_
  refine g_iconst (3 : Int32) C X0 d0_2 rfl ?_
  refine g_iand C X0 d0_3 ?_
  rcases own_n4 p3 with hn4 | hn4 | hn4 | hn4
  · rw [hn4]
    refine g_istore C X0 d0_4 (l' := #[.val (.long p0), .second, .val (.long p1), .second, .val (.long p2), .second, .val (.int p3), .val (.int (0 : Int32)), .unset, .unset, .unset, .unset, .unset, .unset, .unset, .unset, .unset, .unset, .unset, .unset, .unset]) rfl ?_
    refine g_new C X0 (wd hw 0 rfl) (wd hw 1 rfl) (wd hw 2 rfl) d0_6 (by decide) (by decide) (fun T228 h228 b228 g_b228 n_b228 X228 E228 A228 D228 M228 => ?_)
    have F_nanos_b228 : Fld Z h228 b228 "com/example/espera/espera/bench/Latencies" "nanos" "[J" .null := D228 (Or.inl (wd hw 11 rfl)) (ty := (.array .long)) (by decide)
    have F_count_b228 : Fld Z h228 b228 "com/example/espera/espera/bench/Latencies" "count" "I" (.int (0 : Int32)) := D228 (Or.inl (wd hw 18 rfl)) (ty := .int) (by decide)
    refine g_dup C X228 d0_9 rfl ?_
    refine g_special (argsL := []) (st := [(.ref b228)]) C X228 rfl (wd hw 3 rfl) (wd hw 4 rfl) (wd hw 5 rfl) (by decide) (pay_of (W' := 1) (rini l hw X228.ext b228 A228 F_nanos_b228 F_count_b228 n_b228) C.hZ (wd hw 5 rfl) (wd hw 2 rfl) (by decide) (by decide)) pd_7 rfl rfl _ rfl (Nat.le_of_eq rfl) d0_10 (by decide) (by decide) (fun T229 h229 v229 q229 X229 => ?_)
    obtain ⟨t229, kt229, rfl, K229, n_t229, g_t229, Fn229, Fc229, V229⟩ := q229
    have lt229 : b228 < t229 := Nat.lt_of_lt_of_le (Exa.lt A228) g_t229
    show Goes p e below _ T229 (mkF m 13 #[.val (.long p0), .second, .val (.long p1), .second, .val (.long p2), .second, .val (.int p3), .val (.int (0 : Int32)), .unset, .unset, .unset, .unset, .unset, .unset, .unset, .unset, .unset, .unset, .unset, .unset, .unset] [(.ref b228)])
    refine g_astore C X229 d0_13 rfl (l' := #[.val (.long p0), .second, .val (.long p1), .second, .val (.long p2), .second, .val (.int p3), .val (.int (0 : Int32)), .val (.ref b228), .unset, .unset, .unset, .unset, .unset, .unset, .unset, .unset, .unset, .unset, .unset, .unset]) rfl ?_
    refine g_iload C X229 d0_15 rfl ?_
    refine g_iconst (1 : Int32) C X229 d0_17 rfl ?_
    refine g_icmp (hI_lt _ _) C X229 d0_18 (fun _ => ?_) (fun q => absurd (by decide) q)
    refine g_iload C X229 d0_27 rfl ?_
    refine g_iconst (2 : Int32) C X229 d0_29 rfl ?_
    refine g_icmp (hI_lt _ _) C X229 d0_30 (fun _ => ?_) (fun q => absurd (by decide) q)
    refine g_iload C X229 d0_39 rfl ?_
    refine g_iconst (3 : Int32) C X229 d0_41 rfl ?_
    refine g_icmp (hI_lt _ _) C X229 d0_42 (fun _ => ?_) (fun q => absurd (by decide) q)
    refine g_iload C X229 d0_52 rfl ?_
    refine g_ifn (h0_ne _) C X229 d0_54 (fun q => absurd (by decide) q) (fun _ => ?_)
    refine g_lconst (0 : Int64) C X229 d0_57 rfl ?_
    refine g_lstore C X229 d0_58 (l' := #[.val (.long p0), .second, .val (.long p1), .second, .val (.long p2), .second, .val (.int p3), .val (.int (0 : Int32)), .val (.ref b228), .val (.long (0 : Int64)), .second, .unset, .unset, .unset, .unset, .unset, .unset, .unset, .unset, .unset, .unset]) rfl ?_
    refine g_lconst (0 : Int64) C X229 d0_60 rfl ?_
    refine g_lstore C X229 d0_61 (l' := #[.val (.long p0), .second, .val (.long p1), .second, .val (.long p2), .second, .val (.int p3), .val (.int (0 : Int32)), .val (.ref b228), .val (.long (0 : Int64)), .second, .val (.long (0 : Int64)), .second, .unset, .unset, .unset, .unset, .unset, .unset, .unset, .unset]) rfl ?_
    refine g_lconst (0 : Int64) C X229 d0_63 rfl ?_
    refine g_lstore C X229 d0_64 (l' := #[.val (.long p0), .second, .val (.long p1), .second, .val (.long p2), .second, .val (.int p3), .val (.int (0 : Int32)), .val (.ref b228), .val (.long (0 : Int64)), .second, .val (.long (0 : Int64)), .second, .val (.long (0 : Int64)), .second, .unset, .unset, .unset, .unset, .unset, .unset]) rfl ?_
    refine g_goto C X229 d0_66 ?_
    refine g_aload C X229 d0_158 rfl rfl ?_
    refine g_iconst (0 : Int32) C X229 d0_160 rfl ?_
    have f231 := (Exa.keep A228 K229)
    refine g_virtual (argsL := [(.int (0 : Int32))]) (st := []) C X229 (wd hw 26 rfl) (wd hw 27 rfl) (nf_of C (wd hw 29 rfl) rfl rfl) (wd hw 29 rfl) (wd hw 28 rfl) (by decide) f231 (pay_of (W' := 0) (rpc0_0 l hw X229.ext b228 t229 kt229 (0 : Int64) (0 : Int64) (0 : Int64) Fn229 Fc229 V229) C.hZ (wd hw 30 rfl) (wd hw 2 rfl) (by decide) (by decide)) pd_8 rfl rfl _ rfl (Nat.le_of_eq rfl) d0_161 (by decide) (by decide) (fun T230 h230 v230 q230 X230 => ?_)
    obtain ⟨rfl, E230⟩ := q230
    show Goes p e below _ T230 (mkF m 164 #[.val (.long p0), .second, .val (.long p1), .second, .val (.long p2), .second, .val (.int p3), .val (.int (0 : Int32)), .val (.ref b228), .val (.long (0 : Int64)), .second, .val (.long (0 : Int64)), .second, .val (.long (0 : Int64)), .second, .unset, .unset, .unset, .unset, .unset, .unset] [(.long (0 : Int64))])
    refine g_lstore C X230 d0_164 (l' := #[.val (.long p0), .second, .val (.long p1), .second, .val (.long p2), .second, .val (.int p3), .val (.int (0 : Int32)), .val (.ref b228), .val (.long (0 : Int64)), .second, .val (.long (0 : Int64)), .second, .val (.long (0 : Int64)), .second, .val (.long (0 : Int64)), .second, .unset, .unset, .unset, .unset]) rfl ?_
    refine g_aload C X230 d0_166 rfl rfl ?_
    refine g_bipush (50 : Int32) C X230 d0_168 rfl ?_
    have f232 := (Fld.ext E230 Fn229)
    have f233 := (Fld.ext E230 Fc229)
    have f234 := (Arv.ext V229 E230)
    have f236 := (Exa.ext E230 f231)
    refine g_virtual (argsL := [(.int (50 : Int32))]) (st := []) C X230 (wd hw 26 rfl) (wd hw 27 rfl) (nf_of C (wd hw 29 rfl) rfl rfl) (wd hw 29 rfl) (wd hw 28 rfl) (by decide) f236 (pay_of (W' := 0) (rpc0_50 l hw X230.ext b228 t229 kt229 (0 : Int64) (0 : Int64) (0 : Int64) f232 f233 f234) C.hZ (wd hw 30 rfl) (wd hw 2 rfl) (by decide) (by decide)) pd_8 rfl rfl _ rfl (Nat.le_of_eq rfl) d0_170 (by decide) (by decide) (fun T235 h235 v235 q235 X235 => ?_)
    obtain ⟨rfl, E235⟩ := q235
    show Goes p e below _ T235 (mkF m 173 #[.val (.long p0), .second, .val (.long p1), .second, .val (.long p2), .second, .val (.int p3), .val (.int (0 : Int32)), .val (.ref b228), .val (.long (0 : Int64)), .second, .val (.long (0 : Int64)), .second, .val (.long (0 : Int64)), .second, .val (.long (0 : Int64)), .second, .unset, .unset, .unset, .unset] [(.long (0 : Int64))])
    refine g_lstore C X235 d0_173 (l' := #[.val (.long p0), .second, .val (.long p1), .second, .val (.long p2), .second, .val (.int p3), .val (.int (0 : Int32)), .val (.ref b228), .val (.long (0 : Int64)), .second, .val (.long (0 : Int64)), .second, .val (.long (0 : Int64)), .second, .val (.long (0 : Int64)), .second, .val (.long (0 : Int64)), .second, .unset, .unset]) rfl ?_
    refine g_aload C X235 d0_175 rfl rfl ?_
    refine g_bipush (100 : Int32) C X235 d0_177 rfl ?_
    have f237 := (Fld.ext E235 f232)
    have f238 := (Fld.ext E235 f233)
    have f239 := (Arv.ext f234 E235)
    have f241 := (Exa.ext E235 f236)
    refine g_virtual (argsL := [(.int (100 : Int32))]) (st := []) C X235 (wd hw 26 rfl) (wd hw 27 rfl) (nf_of C (wd hw 29 rfl) rfl rfl) (wd hw 29 rfl) (wd hw 28 rfl) (by decide) f241 (pay_of (W' := 0) (rpc0_100 l hw X235.ext b228 t229 kt229 (0 : Int64) (0 : Int64) (0 : Int64) f237 f238 f239) C.hZ (wd hw 30 rfl) (wd hw 2 rfl) (by decide) (by decide)) pd_8 rfl rfl _ rfl (Nat.le_of_eq rfl) d0_179 (by decide) (by decide) (fun T240 h240 v240 q240 X240 => ?_)
    obtain ⟨rfl, E240⟩ := q240
    show Goes p e below _ T240 (mkF m 182 #[.val (.long p0), .second, .val (.long p1), .second, .val (.long p2), .second, .val (.int p3), .val (.int (0 : Int32)), .val (.ref b228), .val (.long (0 : Int64)), .second, .val (.long (0 : Int64)), .second, .val (.long (0 : Int64)), .second, .val (.long (0 : Int64)), .second, .val (.long (0 : Int64)), .second, .unset, .unset] [(.long (0 : Int64))])
    refine g_lstore C X240 d0_182 (l' := #[.val (.long p0), .second, .val (.long p1), .second, .val (.long p2), .second, .val (.int p3), .val (.int (0 : Int32)), .val (.ref b228), .val (.long (0 : Int64)), .second, .val (.long (0 : Int64)), .second, .val (.long (0 : Int64)), .second, .val (.long (0 : Int64)), .second, .val (.long (0 : Int64)), .second, .val (.long (0 : Int64)), .second]) rfl ?_
    refine g_lload C X240 d0_184 rfl ?_
    refine g_lload C X240 d0_186 rfl ?_
    refine g_lcmp C X240 d0_188 ?_
    refine g_ifn (hL_ne _ _) C X240 d0_189 (fun q => absurd (by decide) q) (fun _ => ?_)
    refine g_lload C X240 d0_192 rfl ?_
    refine g_lload C X240 d0_194 rfl ?_
    refine g_lcmp C X240 d0_196 ?_
    refine g_ifn (hL_ne _ _) C X240 d0_197 (fun q => absurd (by decide) q) (fun _ => ?_)
    refine g_lload C X240 d0_200 rfl ?_
    refine g_lload C X240 d0_202 rfl ?_
    refine g_lcmp C X240 d0_204 ?_
    refine g_ifn (hL_ne _ _) C X240 d0_205 (fun q => absurd (by decide) q) (fun _ => ?_)
    refine g_iconst (1 : Int32) C X240 d0_208 rfl ?_
    refine g_goto C X240 d0_209 ?_
    exact g_retN C X240 (by simp) d0_213 (1 : Int32) rfl (by decide) (by decide) rfl
  · rw [hn4]
    refine g_istore C X0 d0_4 (l' := #[.val (.long p0), .second, .val (.long p1), .second, .val (.long p2), .second, .val (.int p3), .val (.int (1 : Int32)), .unset, .unset, .unset, .unset, .unset, .unset, .unset, .unset, .unset, .unset, .unset, .unset, .unset]) rfl ?_
    refine g_new C X0 (wd hw 0 rfl) (wd hw 1 rfl) (wd hw 2 rfl) d0_6 (by decide) (by decide) (fun T242 h242 b242 g_b242 n_b242 X242 E242 A242 D242 M242 => ?_)
    have F_nanos_b242 : Fld Z h242 b242 "com/example/espera/espera/bench/Latencies" "nanos" "[J" .null := D242 (Or.inl (wd hw 11 rfl)) (ty := (.array .long)) (by decide)
    have F_count_b242 : Fld Z h242 b242 "com/example/espera/espera/bench/Latencies" "count" "I" (.int (0 : Int32)) := D242 (Or.inl (wd hw 18 rfl)) (ty := .int) (by decide)
    refine g_dup C X242 d0_9 rfl ?_
    refine g_special (argsL := []) (st := [(.ref b242)]) C X242 rfl (wd hw 3 rfl) (wd hw 4 rfl) (wd hw 5 rfl) (by decide) (pay_of (W' := 1) (rini l hw X242.ext b242 A242 F_nanos_b242 F_count_b242 n_b242) C.hZ (wd hw 5 rfl) (wd hw 2 rfl) (by decide) (by decide)) pd_7 rfl rfl _ rfl (Nat.le_of_eq rfl) d0_10 (by decide) (by decide) (fun T243 h243 v243 q243 X243 => ?_)
    obtain ⟨t243, kt243, rfl, K243, n_t243, g_t243, Fn243, Fc243, V243⟩ := q243
    have lt243 : b242 < t243 := Nat.lt_of_lt_of_le (Exa.lt A242) g_t243
    show Goes p e below _ T243 (mkF m 13 #[.val (.long p0), .second, .val (.long p1), .second, .val (.long p2), .second, .val (.int p3), .val (.int (1 : Int32)), .unset, .unset, .unset, .unset, .unset, .unset, .unset, .unset, .unset, .unset, .unset, .unset, .unset] [(.ref b242)])
    refine g_astore C X243 d0_13 rfl (l' := #[.val (.long p0), .second, .val (.long p1), .second, .val (.long p2), .second, .val (.int p3), .val (.int (1 : Int32)), .val (.ref b242), .unset, .unset, .unset, .unset, .unset, .unset, .unset, .unset, .unset, .unset, .unset, .unset]) rfl ?_
    refine g_iload C X243 d0_15 rfl ?_
    refine g_iconst (1 : Int32) C X243 d0_17 rfl ?_
    refine g_icmp (hI_lt _ _) C X243 d0_18 (fun q => absurd q (by decide)) (fun _ => ?_)
    refine g_aload C X243 d0_21 rfl rfl ?_
    refine g_lloadN C X243 d0_23 rfl ?_
    have f244 := (Exa.keep A242 K243)
    refine g_virtual (argsL := [(.long p0)]) (st := []) C X243 (wd hw 12 rfl) (wd hw 13 rfl) (nf_of C (wd hw 15 rfl) rfl rfl) (wd hw 15 rfl) (wd hw 14 rfl) (by decide) f244 (pay_of (W' := 0) (radd0 l hw X243.ext b242 p0 t243 kt243 (0 : Int64) (0 : Int64) (0 : Int64) f244 Fn243 Fc243 V243 n_b242 n_t243 (Nat.ne_of_lt lt243)) C.hZ (wd hw 16 rfl) (wd hw 2 rfl) (by decide) (by decide)) pd_9 rfl rfl _ rfl (Nat.le_of_eq rfl) d0_24 (by decide) (by decide) (fun T245 h245 v245 q245 X245 => ?_)
    obtain ⟨rfl, K245, Fn245, Fc245, V245⟩ := q245
    show Goes p e below _ T245 (mkF m 27 #[.val (.long p0), .second, .val (.long p1), .second, .val (.long p2), .second, .val (.int p3), .val (.int (1 : Int32)), .val (.ref b242), .unset, .unset, .unset, .unset, .unset, .unset, .unset, .unset, .unset, .unset, .unset, .unset] [])
    refine g_iload C X245 d0_27 rfl ?_
    refine g_iconst (2 : Int32) C X245 d0_29 rfl ?_
    refine g_icmp (hI_lt _ _) C X245 d0_30 (fun _ => ?_) (fun q => absurd (by decide) q)
    refine g_iload C X245 d0_39 rfl ?_
    refine g_iconst (3 : Int32) C X245 d0_41 rfl ?_
    refine g_icmp (hI_lt _ _) C X245 d0_42 (fun _ => ?_) (fun q => absurd (by decide) q)
    refine g_iload C X245 d0_52 rfl ?_
    refine g_ifn (h0_ne _) C X245 d0_54 (fun _ => ?_) (fun q => absurd q (by decide))
    refine g_iload C X245 d0_69 rfl ?_
    refine g_iconst (1 : Int32) C X245 d0_71 rfl ?_
    refine g_icmpn (hI_ne _ _) C X245 d0_72 (fun q => absurd (by decide) q) (fun _ => ?_)
    refine g_lloadN C X245 d0_75 rfl ?_
    refine g_lstore C X245 d0_76 (l' := #[.val (.long p0), .second, .val (.long p1), .second, .val (.long p2), .second, .val (.int p3), .val (.int (1 : Int32)), .val (.ref b242), .val (.long p0), .second, .unset, .unset, .unset, .unset, .unset, .unset, .unset, .unset, .unset, .unset]) rfl ?_
    refine g_lloadN C X245 d0_78 rfl ?_
    refine g_lstore C X245 d0_79 (l' := #[.val (.long p0), .second, .val (.long p1), .second, .val (.long p2), .second, .val (.int p3), .val (.int (1 : Int32)), .val (.ref b242), .val (.long p0), .second, .val (.long p0), .second, .unset, .unset, .unset, .unset, .unset, .unset, .unset, .unset]) rfl ?_
    refine g_lloadN C X245 d0_81 rfl ?_
    refine g_lstore C X245 d0_82 (l' := #[.val (.long p0), .second, .val (.long p1), .second, .val (.long p2), .second, .val (.int p3), .val (.int (1 : Int32)), .val (.ref b242), .val (.long p0), .second, .val (.long p0), .second, .val (.long p0), .second, .unset, .unset, .unset, .unset, .unset, .unset]) rfl ?_
    refine g_goto C X245 d0_84 ?_
    refine g_aload C X245 d0_158 rfl rfl ?_
    refine g_iconst (0 : Int32) C X245 d0_160 rfl ?_
    have f247 := (Exa.keep f244 K245)
    refine g_virtual (argsL := [(.int (0 : Int32))]) (st := []) C X245 (wd hw 26 rfl) (wd hw 27 rfl) (nf_of C (wd hw 29 rfl) rfl rfl) (wd hw 29 rfl) (wd hw 28 rfl) (by decide) f247 (pay_of (W' := 0) (rpc1_0 l hw X245.ext b242 t243 kt243 p0 (0 : Int64) (0 : Int64) Fn245 Fc245 V245) C.hZ (wd hw 30 rfl) (wd hw 2 rfl) (by decide) (by decide)) pd_8 rfl rfl _ rfl (Nat.le_of_eq rfl) d0_161 (by decide) (by decide) (fun T246 h246 v246 q246 X246 => ?_)
    obtain ⟨rfl, E246⟩ := q246
    show Goes p e below _ T246 (mkF m 164 #[.val (.long p0), .second, .val (.long p1), .second, .val (.long p2), .second, .val (.int p3), .val (.int (1 : Int32)), .val (.ref b242), .val (.long p0), .second, .val (.long p0), .second, .val (.long p0), .second, .unset, .unset, .unset, .unset, .unset, .unset] [(.long ([p0].getD 0 0))])
    refine g_lstore C X246 d0_164 (l' := #[.val (.long p0), .second, .val (.long p1), .second, .val (.long p2), .second, .val (.int p3), .val (.int (1 : Int32)), .val (.ref b242), .val (.long p0), .second, .val (.long p0), .second, .val (.long p0), .second, .val (.long ([p0].getD 0 0)), .second, .unset, .unset, .unset, .unset]) rfl ?_
    refine g_aload C X246 d0_166 rfl rfl ?_
    refine g_bipush (50 : Int32) C X246 d0_168 rfl ?_
    have f248 := (Fld.ext E246 Fn245)
    have f249 := (Fld.ext E246 Fc245)
    have f250 := (Arv.ext V245 E246)
    have f252 := (Exa.ext E246 f247)
    refine g_virtual (argsL := [(.int (50 : Int32))]) (st := []) C X246 (wd hw 26 rfl) (wd hw 27 rfl) (nf_of C (wd hw 29 rfl) rfl rfl) (wd hw 29 rfl) (wd hw 28 rfl) (by decide) f252 (pay_of (W' := 0) (rpc1_50 l hw X246.ext b242 t243 kt243 p0 (0 : Int64) (0 : Int64) f248 f249 f250) C.hZ (wd hw 30 rfl) (wd hw 2 rfl) (by decide) (by decide)) pd_8 rfl rfl _ rfl (Nat.le_of_eq rfl) d0_170 (by decide) (by decide) (fun T251 h251 v251 q251 X251 => ?_)
    obtain ⟨rfl, E251⟩ := q251
    show Goes p e below _ T251 (mkF m 173 #[.val (.long p0), .second, .val (.long p1), .second, .val (.long p2), .second, .val (.int p3), .val (.int (1 : Int32)), .val (.ref b242), .val (.long p0), .second, .val (.long p0), .second, .val (.long p0), .second, .val (.long ([p0].getD 0 0)), .second, .unset, .unset, .unset, .unset] [(.long ([p0].getD 0 0))])
    refine g_lstore C X251 d0_173 (l' := #[.val (.long p0), .second, .val (.long p1), .second, .val (.long p2), .second, .val (.int p3), .val (.int (1 : Int32)), .val (.ref b242), .val (.long p0), .second, .val (.long p0), .second, .val (.long p0), .second, .val (.long ([p0].getD 0 0)), .second, .val (.long ([p0].getD 0 0)), .second, .unset, .unset]) rfl ?_
    refine g_aload C X251 d0_175 rfl rfl ?_
    refine g_bipush (100 : Int32) C X251 d0_177 rfl ?_
    have f253 := (Fld.ext E251 f248)
    have f254 := (Fld.ext E251 f249)
    have f255 := (Arv.ext f250 E251)
    have f257 := (Exa.ext E251 f252)
    refine g_virtual (argsL := [(.int (100 : Int32))]) (st := []) C X251 (wd hw 26 rfl) (wd hw 27 rfl) (nf_of C (wd hw 29 rfl) rfl rfl) (wd hw 29 rfl) (wd hw 28 rfl) (by decide) f257 (pay_of (W' := 0) (rpc1_100 l hw X251.ext b242 t243 kt243 p0 (0 : Int64) (0 : Int64) f253 f254 f255) C.hZ (wd hw 30 rfl) (wd hw 2 rfl) (by decide) (by decide)) pd_8 rfl rfl _ rfl (Nat.le_of_eq rfl) d0_179 (by decide) (by decide) (fun T256 h256 v256 q256 X256 => ?_)
    obtain ⟨rfl, E256⟩ := q256
    show Goes p e below _ T256 (mkF m 182 #[.val (.long p0), .second, .val (.long p1), .second, .val (.long p2), .second, .val (.int p3), .val (.int (1 : Int32)), .val (.ref b242), .val (.long p0), .second, .val (.long p0), .second, .val (.long p0), .second, .val (.long ([p0].getD 0 0)), .second, .val (.long ([p0].getD 0 0)), .second, .unset, .unset] [(.long ([p0].getD 0 0))])
    refine g_lstore C X256 d0_182 (l' := #[.val (.long p0), .second, .val (.long p1), .second, .val (.long p2), .second, .val (.int p3), .val (.int (1 : Int32)), .val (.ref b242), .val (.long p0), .second, .val (.long p0), .second, .val (.long p0), .second, .val (.long ([p0].getD 0 0)), .second, .val (.long ([p0].getD 0 0)), .second, .val (.long ([p0].getD 0 0)), .second]) rfl ?_
    refine g_lload C X256 d0_184 rfl ?_
    refine g_lload C X256 d0_186 rfl ?_
    refine g_lcmp C X256 d0_188 ?_
    refine g_ifn (hL_ne _ _) C X256 d0_189 (fun q => absurd rfl q) (fun _ => ?_)
    refine g_lload C X256 d0_192 rfl ?_
    refine g_lload C X256 d0_194 rfl ?_
    refine g_lcmp C X256 d0_196 ?_
    refine g_ifn (hL_ne _ _) C X256 d0_197 (fun q => absurd rfl q) (fun _ => ?_)
    refine g_lload C X256 d0_200 rfl ?_
    refine g_lload C X256 d0_202 rfl ?_
    refine g_lcmp C X256 d0_204 ?_
    refine g_ifn (hL_ne _ _) C X256 d0_205 (fun q => absurd rfl q) (fun _ => ?_)
    refine g_iconst (1 : Int32) C X256 d0_208 rfl ?_
    refine g_goto C X256 d0_209 ?_
    exact g_retN C X256 (by simp) d0_213 (1 : Int32) rfl (by decide) (by decide) rfl
  · rw [hn4]
    refine g_istore C X0 d0_4 (l' := #[.val (.long p0), .second, .val (.long p1), .second, .val (.long p2), .second, .val (.int p3), .val (.int (2 : Int32)), .unset, .unset, .unset, .unset, .unset, .unset, .unset, .unset, .unset, .unset, .unset, .unset, .unset]) rfl ?_
    refine g_new C X0 (wd hw 0 rfl) (wd hw 1 rfl) (wd hw 2 rfl) d0_6 (by decide) (by decide) (fun T258 h258 b258 g_b258 n_b258 X258 E258 A258 D258 M258 => ?_)
    have F_nanos_b258 : Fld Z h258 b258 "com/example/espera/espera/bench/Latencies" "nanos" "[J" .null := D258 (Or.inl (wd hw 11 rfl)) (ty := (.array .long)) (by decide)
    have F_count_b258 : Fld Z h258 b258 "com/example/espera/espera/bench/Latencies" "count" "I" (.int (0 : Int32)) := D258 (Or.inl (wd hw 18 rfl)) (ty := .int) (by decide)
    refine g_dup C X258 d0_9 rfl ?_
    refine g_special (argsL := []) (st := [(.ref b258)]) C X258 rfl (wd hw 3 rfl) (wd hw 4 rfl) (wd hw 5 rfl) (by decide) (pay_of (W' := 1) (rini l hw X258.ext b258 A258 F_nanos_b258 F_count_b258 n_b258) C.hZ (wd hw 5 rfl) (wd hw 2 rfl) (by decide) (by decide)) pd_7 rfl rfl _ rfl (Nat.le_of_eq rfl) d0_10 (by decide) (by decide) (fun T259 h259 v259 q259 X259 => ?_)
    obtain ⟨t259, kt259, rfl, K259, n_t259, g_t259, Fn259, Fc259, V259⟩ := q259
    have lt259 : b258 < t259 := Nat.lt_of_lt_of_le (Exa.lt A258) g_t259
    show Goes p e below _ T259 (mkF m 13 #[.val (.long p0), .second, .val (.long p1), .second, .val (.long p2), .second, .val (.int p3), .val (.int (2 : Int32)), .unset, .unset, .unset, .unset, .unset, .unset, .unset, .unset, .unset, .unset, .unset, .unset, .unset] [(.ref b258)])
    refine g_astore C X259 d0_13 rfl (l' := #[.val (.long p0), .second, .val (.long p1), .second, .val (.long p2), .second, .val (.int p3), .val (.int (2 : Int32)), .val (.ref b258), .unset, .unset, .unset, .unset, .unset, .unset, .unset, .unset, .unset, .unset, .unset, .unset]) rfl ?_
    refine g_iload C X259 d0_15 rfl ?_
    refine g_iconst (1 : Int32) C X259 d0_17 rfl ?_
    refine g_icmp (hI_lt _ _) C X259 d0_18 (fun q => absurd q (by decide)) (fun _ => ?_)
    refine g_aload C X259 d0_21 rfl rfl ?_
    refine g_lloadN C X259 d0_23 rfl ?_
    have f260 := (Exa.keep A258 K259)
    refine g_virtual (argsL := [(.long p0)]) (st := []) C X259 (wd hw 12 rfl) (wd hw 13 rfl) (nf_of C (wd hw 15 rfl) rfl rfl) (wd hw 15 rfl) (wd hw 14 rfl) (by decide) f260 (pay_of (W' := 0) (radd0 l hw X259.ext b258 p0 t259 kt259 (0 : Int64) (0 : Int64) (0 : Int64) f260 Fn259 Fc259 V259 n_b258 n_t259 (Nat.ne_of_lt lt259)) C.hZ (wd hw 16 rfl) (wd hw 2 rfl) (by decide) (by decide)) pd_9 rfl rfl _ rfl (Nat.le_of_eq rfl) d0_24 (by decide) (by decide) (fun T261 h261 v261 q261 X261 => ?_)
    obtain ⟨rfl, K261, Fn261, Fc261, V261⟩ := q261
    show Goes p e below _ T261 (mkF m 27 #[.val (.long p0), .second, .val (.long p1), .second, .val (.long p2), .second, .val (.int p3), .val (.int (2 : Int32)), .val (.ref b258), .unset, .unset, .unset, .unset, .unset, .unset, .unset, .unset, .unset, .unset, .unset, .unset] [])
    refine g_iload C X261 d0_27 rfl ?_
    refine g_iconst (2 : Int32) C X261 d0_29 rfl ?_
    refine g_icmp (hI_lt _ _) C X261 d0_30 (fun q => absurd q (by decide)) (fun _ => ?_)
    refine g_aload C X261 d0_33 rfl rfl ?_
    refine g_lloadN C X261 d0_35 rfl ?_
    have f262 := (Exa.keep f260 K261)
    refine g_virtual (argsL := [(.long p1)]) (st := []) C X261 (wd hw 12 rfl) (wd hw 13 rfl) (nf_of C (wd hw 15 rfl) rfl rfl) (wd hw 15 rfl) (wd hw 14 rfl) (by decide) f262 (pay_of (W' := 0) (radd1 l hw X261.ext b258 p1 t259 kt259 p0 (0 : Int64) (0 : Int64) f262 Fn261 Fc261 V261 n_b258 n_t259 (Nat.ne_of_lt lt259)) C.hZ (wd hw 16 rfl) (wd hw 2 rfl) (by decide) (by decide)) pd_9 rfl rfl _ rfl (Nat.le_of_eq rfl) d0_36 (by decide) (by decide) (fun T263 h263 v263 q263 X263 => ?_)
    obtain ⟨rfl, K263, Fn263, Fc263, V263⟩ := q263
    show Goes p e below _ T263 (mkF m 39 #[.val (.long p0), .second, .val (.long p1), .second, .val (.long p2), .second, .val (.int p3), .val (.int (2 : Int32)), .val (.ref b258), .unset, .unset, .unset, .unset, .unset, .unset, .unset, .unset, .unset, .unset, .unset, .unset] [])
    refine g_iload C X263 d0_39 rfl ?_
    refine g_iconst (3 : Int32) C X263 d0_41 rfl ?_
    refine g_icmp (hI_lt _ _) C X263 d0_42 (fun _ => ?_) (fun q => absurd (by decide) q)
    refine g_iload C X263 d0_52 rfl ?_
    refine g_ifn (h0_ne _) C X263 d0_54 (fun _ => ?_) (fun q => absurd q (by decide))
    refine g_iload C X263 d0_69 rfl ?_
    refine g_iconst (1 : Int32) C X263 d0_71 rfl ?_
    refine g_icmpn (hI_ne _ _) C X263 d0_72 (fun _ => ?_) (fun q => absurd q (by decide))
    refine g_iload C X263 d0_87 rfl ?_
    refine g_iconst (2 : Int32) C X263 d0_89 rfl ?_
    refine g_icmpn (hI_ne _ _) C X263 d0_90 (fun q => absurd (by decide) q) (fun _ => ?_)
    refine g_lloadN C X263 d0_93 rfl ?_
    refine g_lloadN C X263 d0_94 rfl ?_
    refine g_staticP (argsL := [(.long p0), (.long p1)]) (st := []) C X263 (wd hw 19 rfl) (wd hw 20 rfl) (wd hw 21 rfl) (wd hw 22 rfl) (by decide) (pay_of (W' := 0) (rmin l hw X263.ext p0 p1) C.hZ (wd hw 22 rfl) (wd hw 21 rfl) (by decide) (by decide)) pd_6 rfl rfl _ rfl (Nat.le_of_eq rfl) d0_95 (by decide) (by decide) (fun T264 X264 => ?_)
    show Goes p e below _ T264 (mkF m 98 #[.val (.long p0), .second, .val (.long p1), .second, .val (.long p2), .second, .val (.int p3), .val (.int (2 : Int32)), .val (.ref b258), .unset, .unset, .unset, .unset, .unset, .unset, .unset, .unset, .unset, .unset, .unset, .unset] [(.long (own_mn p0 p1))])
    refine g_lstore C X264 d0_98 (l' := #[.val (.long p0), .second, .val (.long p1), .second, .val (.long p2), .second, .val (.int p3), .val (.int (2 : Int32)), .val (.ref b258), .val (.long (own_mn p0 p1)), .second, .unset, .unset, .unset, .unset, .unset, .unset, .unset, .unset, .unset, .unset]) rfl ?_
    refine g_lload C X264 d0_100 rfl ?_
    refine g_lstore C X264 d0_102 (l' := #[.val (.long p0), .second, .val (.long p1), .second, .val (.long p2), .second, .val (.int p3), .val (.int (2 : Int32)), .val (.ref b258), .val (.long (own_mn p0 p1)), .second, .val (.long (own_mn p0 p1)), .second, .unset, .unset, .unset, .unset, .unset, .unset, .unset, .unset]) rfl ?_
    refine g_lloadN C X264 d0_104 rfl ?_
    refine g_lloadN C X264 d0_105 rfl ?_
    refine g_staticP (argsL := [(.long p0), (.long p1)]) (st := []) C X264 (wd hw 23 rfl) (wd hw 24 rfl) (wd hw 21 rfl) (wd hw 25 rfl) (by decide) (pay_of (W' := 0) (rmax l hw X264.ext p0 p1) C.hZ (wd hw 25 rfl) (wd hw 21 rfl) (by decide) (by decide)) pd_6 rfl rfl _ rfl (Nat.le_of_eq rfl) d0_106 (by decide) (by decide) (fun T265 X265 => ?_)
    show Goes p e below _ T265 (mkF m 109 #[.val (.long p0), .second, .val (.long p1), .second, .val (.long p2), .second, .val (.int p3), .val (.int (2 : Int32)), .val (.ref b258), .val (.long (own_mn p0 p1)), .second, .val (.long (own_mn p0 p1)), .second, .unset, .unset, .unset, .unset, .unset, .unset, .unset, .unset] [(.long (own_mx p0 p1))])
    refine g_lstore C X265 d0_109 (l' := #[.val (.long p0), .second, .val (.long p1), .second, .val (.long p2), .second, .val (.int p3), .val (.int (2 : Int32)), .val (.ref b258), .val (.long (own_mn p0 p1)), .second, .val (.long (own_mn p0 p1)), .second, .val (.long (own_mx p0 p1)), .second, .unset, .unset, .unset, .unset, .unset, .unset]) rfl ?_
    refine g_goto C X265 d0_111 ?_
    refine g_aload C X265 d0_158 rfl rfl ?_
    refine g_iconst (0 : Int32) C X265 d0_160 rfl ?_
    have f267 := (Exa.keep f262 K263)
    refine g_virtual (argsL := [(.int (0 : Int32))]) (st := []) C X265 (wd hw 26 rfl) (wd hw 27 rfl) (nf_of C (wd hw 29 rfl) rfl rfl) (wd hw 29 rfl) (wd hw 28 rfl) (by decide) f267 (pay_of (W' := 0) (rpc2_0 l hw X265.ext b258 t259 kt259 p0 p1 (0 : Int64) Fn263 Fc263 V263) C.hZ (wd hw 30 rfl) (wd hw 2 rfl) (by decide) (by decide)) pd_8 rfl rfl _ rfl (Nat.le_of_eq rfl) d0_161 (by decide) (by decide) (fun T266 h266 v266 q266 X266 => ?_)
    obtain ⟨rfl, E266⟩ := q266
    show Goes p e below _ T266 (mkF m 164 #[.val (.long p0), .second, .val (.long p1), .second, .val (.long p2), .second, .val (.int p3), .val (.int (2 : Int32)), .val (.ref b258), .val (.long (own_mn p0 p1)), .second, .val (.long (own_mn p0 p1)), .second, .val (.long (own_mx p0 p1)), .second, .unset, .unset, .unset, .unset, .unset, .unset] [(.long ((own_s2 p0 p1).getD 0 0))])
    refine g_lstore C X266 d0_164 (l' := #[.val (.long p0), .second, .val (.long p1), .second, .val (.long p2), .second, .val (.int p3), .val (.int (2 : Int32)), .val (.ref b258), .val (.long (own_mn p0 p1)), .second, .val (.long (own_mn p0 p1)), .second, .val (.long (own_mx p0 p1)), .second, .val (.long ((own_s2 p0 p1).getD 0 0)), .second, .unset, .unset, .unset, .unset]) rfl ?_
    refine g_aload C X266 d0_166 rfl rfl ?_
    refine g_bipush (50 : Int32) C X266 d0_168 rfl ?_
    have f268 := (Fld.ext E266 Fn263)
    have f269 := (Fld.ext E266 Fc263)
    have f270 := (Arv.ext V263 E266)
    have f272 := (Exa.ext E266 f267)
    refine g_virtual (argsL := [(.int (50 : Int32))]) (st := []) C X266 (wd hw 26 rfl) (wd hw 27 rfl) (nf_of C (wd hw 29 rfl) rfl rfl) (wd hw 29 rfl) (wd hw 28 rfl) (by decide) f272 (pay_of (W' := 0) (rpc2_50 l hw X266.ext b258 t259 kt259 p0 p1 (0 : Int64) f268 f269 f270) C.hZ (wd hw 30 rfl) (wd hw 2 rfl) (by decide) (by decide)) pd_8 rfl rfl _ rfl (Nat.le_of_eq rfl) d0_170 (by decide) (by decide) (fun T271 h271 v271 q271 X271 => ?_)
    obtain ⟨rfl, E271⟩ := q271
    show Goes p e below _ T271 (mkF m 173 #[.val (.long p0), .second, .val (.long p1), .second, .val (.long p2), .second, .val (.int p3), .val (.int (2 : Int32)), .val (.ref b258), .val (.long (own_mn p0 p1)), .second, .val (.long (own_mn p0 p1)), .second, .val (.long (own_mx p0 p1)), .second, .val (.long ((own_s2 p0 p1).getD 0 0)), .second, .unset, .unset, .unset, .unset] [(.long ((own_s2 p0 p1).getD 0 0))])
    refine g_lstore C X271 d0_173 (l' := #[.val (.long p0), .second, .val (.long p1), .second, .val (.long p2), .second, .val (.int p3), .val (.int (2 : Int32)), .val (.ref b258), .val (.long (own_mn p0 p1)), .second, .val (.long (own_mn p0 p1)), .second, .val (.long (own_mx p0 p1)), .second, .val (.long ((own_s2 p0 p1).getD 0 0)), .second, .val (.long ((own_s2 p0 p1).getD 0 0)), .second, .unset, .unset]) rfl ?_
    refine g_aload C X271 d0_175 rfl rfl ?_
    refine g_bipush (100 : Int32) C X271 d0_177 rfl ?_
    have f273 := (Fld.ext E271 f268)
    have f274 := (Fld.ext E271 f269)
    have f275 := (Arv.ext f270 E271)
    have f277 := (Exa.ext E271 f272)
    refine g_virtual (argsL := [(.int (100 : Int32))]) (st := []) C X271 (wd hw 26 rfl) (wd hw 27 rfl) (nf_of C (wd hw 29 rfl) rfl rfl) (wd hw 29 rfl) (wd hw 28 rfl) (by decide) f277 (pay_of (W' := 0) (rpc2_100 l hw X271.ext b258 t259 kt259 p0 p1 (0 : Int64) f273 f274 f275) C.hZ (wd hw 30 rfl) (wd hw 2 rfl) (by decide) (by decide)) pd_8 rfl rfl _ rfl (Nat.le_of_eq rfl) d0_179 (by decide) (by decide) (fun T276 h276 v276 q276 X276 => ?_)
    obtain ⟨rfl, E276⟩ := q276
    show Goes p e below _ T276 (mkF m 182 #[.val (.long p0), .second, .val (.long p1), .second, .val (.long p2), .second, .val (.int p3), .val (.int (2 : Int32)), .val (.ref b258), .val (.long (own_mn p0 p1)), .second, .val (.long (own_mn p0 p1)), .second, .val (.long (own_mx p0 p1)), .second, .val (.long ((own_s2 p0 p1).getD 0 0)), .second, .val (.long ((own_s2 p0 p1).getD 0 0)), .second, .unset, .unset] [(.long ((own_s2 p0 p1).getD 1 0))])
    refine g_lstore C X276 d0_182 (l' := #[.val (.long p0), .second, .val (.long p1), .second, .val (.long p2), .second, .val (.int p3), .val (.int (2 : Int32)), .val (.ref b258), .val (.long (own_mn p0 p1)), .second, .val (.long (own_mn p0 p1)), .second, .val (.long (own_mx p0 p1)), .second, .val (.long ((own_s2 p0 p1).getD 0 0)), .second, .val (.long ((own_s2 p0 p1).getD 0 0)), .second, .val (.long ((own_s2 p0 p1).getD 1 0)), .second]) rfl ?_
    refine g_lload C X276 d0_184 rfl ?_
    refine g_lload C X276 d0_186 rfl ?_
    refine g_lcmp C X276 d0_188 ?_
    refine g_ifn (hL_ne _ _) C X276 d0_189 (fun q => absurd (own_e2 p0 p1).1 q) (fun _ => ?_)
    refine g_lload C X276 d0_192 rfl ?_
    refine g_lload C X276 d0_194 rfl ?_
    refine g_lcmp C X276 d0_196 ?_
    refine g_ifn (hL_ne _ _) C X276 d0_197 (fun q => absurd (own_e2 p0 p1).1 q) (fun _ => ?_)
    refine g_lload C X276 d0_200 rfl ?_
    refine g_lload C X276 d0_202 rfl ?_
    refine g_lcmp C X276 d0_204 ?_
    refine g_ifn (hL_ne _ _) C X276 d0_205 (fun q => absurd (own_e2 p0 p1).2 q) (fun _ => ?_)
    refine g_iconst (1 : Int32) C X276 d0_208 rfl ?_
    refine g_goto C X276 d0_209 ?_
    exact g_retN C X276 (by simp) d0_213 (1 : Int32) rfl (by decide) (by decide) rfl
  · rw [hn4]
    refine g_istore C X0 d0_4 (l' := #[.val (.long p0), .second, .val (.long p1), .second, .val (.long p2), .second, .val (.int p3), .val (.int (3 : Int32)), .unset, .unset, .unset, .unset, .unset, .unset, .unset, .unset, .unset, .unset, .unset, .unset, .unset]) rfl ?_
    refine g_new C X0 (wd hw 0 rfl) (wd hw 1 rfl) (wd hw 2 rfl) d0_6 (by decide) (by decide) (fun T278 h278 b278 g_b278 n_b278 X278 E278 A278 D278 M278 => ?_)
    have F_nanos_b278 : Fld Z h278 b278 "com/example/espera/espera/bench/Latencies" "nanos" "[J" .null := D278 (Or.inl (wd hw 11 rfl)) (ty := (.array .long)) (by decide)
    have F_count_b278 : Fld Z h278 b278 "com/example/espera/espera/bench/Latencies" "count" "I" (.int (0 : Int32)) := D278 (Or.inl (wd hw 18 rfl)) (ty := .int) (by decide)
    refine g_dup C X278 d0_9 rfl ?_
    refine g_special (argsL := []) (st := [(.ref b278)]) C X278 rfl (wd hw 3 rfl) (wd hw 4 rfl) (wd hw 5 rfl) (by decide) (pay_of (W' := 1) (rini l hw X278.ext b278 A278 F_nanos_b278 F_count_b278 n_b278) C.hZ (wd hw 5 rfl) (wd hw 2 rfl) (by decide) (by decide)) pd_7 rfl rfl _ rfl (Nat.le_of_eq rfl) d0_10 (by decide) (by decide) (fun T279 h279 v279 q279 X279 => ?_)
    obtain ⟨t279, kt279, rfl, K279, n_t279, g_t279, Fn279, Fc279, V279⟩ := q279
    have lt279 : b278 < t279 := Nat.lt_of_lt_of_le (Exa.lt A278) g_t279
    show Goes p e below _ T279 (mkF m 13 #[.val (.long p0), .second, .val (.long p1), .second, .val (.long p2), .second, .val (.int p3), .val (.int (3 : Int32)), .unset, .unset, .unset, .unset, .unset, .unset, .unset, .unset, .unset, .unset, .unset, .unset, .unset] [(.ref b278)])
    refine g_astore C X279 d0_13 rfl (l' := #[.val (.long p0), .second, .val (.long p1), .second, .val (.long p2), .second, .val (.int p3), .val (.int (3 : Int32)), .val (.ref b278), .unset, .unset, .unset, .unset, .unset, .unset, .unset, .unset, .unset, .unset, .unset, .unset]) rfl ?_
    refine g_iload C X279 d0_15 rfl ?_
    refine g_iconst (1 : Int32) C X279 d0_17 rfl ?_
    refine g_icmp (hI_lt _ _) C X279 d0_18 (fun q => absurd q (by decide)) (fun _ => ?_)
    refine g_aload C X279 d0_21 rfl rfl ?_
    refine g_lloadN C X279 d0_23 rfl ?_
    have f280 := (Exa.keep A278 K279)
    refine g_virtual (argsL := [(.long p0)]) (st := []) C X279 (wd hw 12 rfl) (wd hw 13 rfl) (nf_of C (wd hw 15 rfl) rfl rfl) (wd hw 15 rfl) (wd hw 14 rfl) (by decide) f280 (pay_of (W' := 0) (radd0 l hw X279.ext b278 p0 t279 kt279 (0 : Int64) (0 : Int64) (0 : Int64) f280 Fn279 Fc279 V279 n_b278 n_t279 (Nat.ne_of_lt lt279)) C.hZ (wd hw 16 rfl) (wd hw 2 rfl) (by decide) (by decide)) pd_9 rfl rfl _ rfl (Nat.le_of_eq rfl) d0_24 (by decide) (by decide) (fun T281 h281 v281 q281 X281 => ?_)
    obtain ⟨rfl, K281, Fn281, Fc281, V281⟩ := q281
    show Goes p e below _ T281 (mkF m 27 #[.val (.long p0), .second, .val (.long p1), .second, .val (.long p2), .second, .val (.int p3), .val (.int (3 : Int32)), .val (.ref b278), .unset, .unset, .unset, .unset, .unset, .unset, .unset, .unset, .unset, .unset, .unset, .unset] [])
    refine g_iload C X281 d0_27 rfl ?_
    refine g_iconst (2 : Int32) C X281 d0_29 rfl ?_
    refine g_icmp (hI_lt _ _) C X281 d0_30 (fun q => absurd q (by decide)) (fun _ => ?_)
    refine g_aload C X281 d0_33 rfl rfl ?_
    refine g_lloadN C X281 d0_35 rfl ?_
    have f282 := (Exa.keep f280 K281)
    refine g_virtual (argsL := [(.long p1)]) (st := []) C X281 (wd hw 12 rfl) (wd hw 13 rfl) (nf_of C (wd hw 15 rfl) rfl rfl) (wd hw 15 rfl) (wd hw 14 rfl) (by decide) f282 (pay_of (W' := 0) (radd1 l hw X281.ext b278 p1 t279 kt279 p0 (0 : Int64) (0 : Int64) f282 Fn281 Fc281 V281 n_b278 n_t279 (Nat.ne_of_lt lt279)) C.hZ (wd hw 16 rfl) (wd hw 2 rfl) (by decide) (by decide)) pd_9 rfl rfl _ rfl (Nat.le_of_eq rfl) d0_36 (by decide) (by decide) (fun T283 h283 v283 q283 X283 => ?_)
    obtain ⟨rfl, K283, Fn283, Fc283, V283⟩ := q283
    show Goes p e below _ T283 (mkF m 39 #[.val (.long p0), .second, .val (.long p1), .second, .val (.long p2), .second, .val (.int p3), .val (.int (3 : Int32)), .val (.ref b278), .unset, .unset, .unset, .unset, .unset, .unset, .unset, .unset, .unset, .unset, .unset, .unset] [])
    refine g_iload C X283 d0_39 rfl ?_
    refine g_iconst (3 : Int32) C X283 d0_41 rfl ?_
    refine g_icmp (hI_lt _ _) C X283 d0_42 (fun q => absurd q (by decide)) (fun _ => ?_)
    refine g_aload C X283 d0_45 rfl rfl ?_
    refine g_lload C X283 d0_47 rfl ?_
    have f284 := (Exa.keep f282 K283)
    refine g_virtual (argsL := [(.long p2)]) (st := []) C X283 (wd hw 12 rfl) (wd hw 13 rfl) (nf_of C (wd hw 15 rfl) rfl rfl) (wd hw 15 rfl) (wd hw 14 rfl) (by decide) f284 (pay_of (W' := 0) (radd2 l hw X283.ext b278 p2 t279 kt279 p0 p1 (0 : Int64) f284 Fn283 Fc283 V283 n_b278 n_t279 (Nat.ne_of_lt lt279)) C.hZ (wd hw 16 rfl) (wd hw 2 rfl) (by decide) (by decide)) pd_9 rfl rfl _ rfl (Nat.le_of_eq rfl) d0_49 (by decide) (by decide) (fun T285 h285 v285 q285 X285 => ?_)
    obtain ⟨rfl, K285, Fn285, Fc285, V285⟩ := q285
    show Goes p e below _ T285 (mkF m 52 #[.val (.long p0), .second, .val (.long p1), .second, .val (.long p2), .second, .val (.int p3), .val (.int (3 : Int32)), .val (.ref b278), .unset, .unset, .unset, .unset, .unset, .unset, .unset, .unset, .unset, .unset, .unset, .unset] [])
    refine g_iload C X285 d0_52 rfl ?_
    refine g_ifn (h0_ne _) C X285 d0_54 (fun _ => ?_) (fun q => absurd q (by decide))
    refine g_iload C X285 d0_69 rfl ?_
    refine g_iconst (1 : Int32) C X285 d0_71 rfl ?_
    refine g_icmpn (hI_ne _ _) C X285 d0_72 (fun _ => ?_) (fun q => absurd q (by decide))
    refine g_iload C X285 d0_87 rfl ?_
    refine g_iconst (2 : Int32) C X285 d0_89 rfl ?_
    refine g_icmpn (hI_ne _ _) C X285 d0_90 (fun _ => ?_) (fun q => absurd q (by decide))
    refine g_lloadN C X285 d0_114 rfl ?_
    refine g_lloadN C X285 d0_115 rfl ?_
    refine g_staticP (argsL := [(.long p0), (.long p1)]) (st := []) C X285 (wd hw 19 rfl) (wd hw 20 rfl) (wd hw 21 rfl) (wd hw 22 rfl) (by decide) (pay_of (W' := 0) (rmin l hw X285.ext p0 p1) C.hZ (wd hw 22 rfl) (wd hw 21 rfl) (by decide) (by decide)) pd_6 rfl rfl _ rfl (Nat.le_of_eq rfl) d0_116 (by decide) (by decide) (fun T286 X286 => ?_)
    show Goes p e below _ T286 (mkF m 119 #[.val (.long p0), .second, .val (.long p1), .second, .val (.long p2), .second, .val (.int p3), .val (.int (3 : Int32)), .val (.ref b278), .unset, .unset, .unset, .unset, .unset, .unset, .unset, .unset, .unset, .unset, .unset, .unset] [(.long (own_mn p0 p1))])
    refine g_lload C X286 d0_119 rfl ?_
    refine g_staticP (argsL := [(.long (own_mn p0 p1)), (.long p2)]) (st := []) C X286 (wd hw 19 rfl) (wd hw 20 rfl) (wd hw 21 rfl) (wd hw 22 rfl) (by decide) (pay_of (W' := 0) (rmin l hw X286.ext (own_mn p0 p1) p2) C.hZ (wd hw 22 rfl) (wd hw 21 rfl) (by decide) (by decide)) pd_6 rfl rfl _ rfl (Nat.le_of_eq rfl) d0_121 (by decide) (by decide) (fun T287 X287 => ?_)
    show Goes p e below _ T287 (mkF m 124 #[.val (.long p0), .second, .val (.long p1), .second, .val (.long p2), .second, .val (.int p3), .val (.int (3 : Int32)), .val (.ref b278), .unset, .unset, .unset, .unset, .unset, .unset, .unset, .unset, .unset, .unset, .unset, .unset] [(.long (own_mn (own_mn p0 p1) p2))])
    refine g_lstore C X287 d0_124 (l' := #[.val (.long p0), .second, .val (.long p1), .second, .val (.long p2), .second, .val (.int p3), .val (.int (3 : Int32)), .val (.ref b278), .val (.long (own_mn (own_mn p0 p1) p2)), .second, .unset, .unset, .unset, .unset, .unset, .unset, .unset, .unset, .unset, .unset]) rfl ?_
    refine g_lloadN C X287 d0_126 rfl ?_
    refine g_lloadN C X287 d0_127 rfl ?_
    refine g_staticP (argsL := [(.long p0), (.long p1)]) (st := []) C X287 (wd hw 23 rfl) (wd hw 24 rfl) (wd hw 21 rfl) (wd hw 25 rfl) (by decide) (pay_of (W' := 0) (rmax l hw X287.ext p0 p1) C.hZ (wd hw 25 rfl) (wd hw 21 rfl) (by decide) (by decide)) pd_6 rfl rfl _ rfl (Nat.le_of_eq rfl) d0_128 (by decide) (by decide) (fun T288 X288 => ?_)
    show Goes p e below _ T288 (mkF m 131 #[.val (.long p0), .second, .val (.long p1), .second, .val (.long p2), .second, .val (.int p3), .val (.int (3 : Int32)), .val (.ref b278), .val (.long (own_mn (own_mn p0 p1) p2)), .second, .unset, .unset, .unset, .unset, .unset, .unset, .unset, .unset, .unset, .unset] [(.long (own_mx p0 p1))])
    refine g_lload C X288 d0_131 rfl ?_
    refine g_staticP (argsL := [(.long (own_mx p0 p1)), (.long p2)]) (st := []) C X288 (wd hw 23 rfl) (wd hw 24 rfl) (wd hw 21 rfl) (wd hw 25 rfl) (by decide) (pay_of (W' := 0) (rmax l hw X288.ext (own_mx p0 p1) p2) C.hZ (wd hw 25 rfl) (wd hw 21 rfl) (by decide) (by decide)) pd_6 rfl rfl _ rfl (Nat.le_of_eq rfl) d0_133 (by decide) (by decide) (fun T289 X289 => ?_)
    show Goes p e below _ T289 (mkF m 136 #[.val (.long p0), .second, .val (.long p1), .second, .val (.long p2), .second, .val (.int p3), .val (.int (3 : Int32)), .val (.ref b278), .val (.long (own_mn (own_mn p0 p1) p2)), .second, .unset, .unset, .unset, .unset, .unset, .unset, .unset, .unset, .unset, .unset] [(.long (own_mx (own_mx p0 p1) p2))])
    refine g_lstore C X289 d0_136 (l' := #[.val (.long p0), .second, .val (.long p1), .second, .val (.long p2), .second, .val (.int p3), .val (.int (3 : Int32)), .val (.ref b278), .val (.long (own_mn (own_mn p0 p1) p2)), .second, .unset, .unset, .val (.long (own_mx (own_mx p0 p1) p2)), .second, .unset, .unset, .unset, .unset, .unset, .unset]) rfl ?_
    refine g_lloadN C X289 d0_138 rfl ?_
    refine g_lloadN C X289 d0_139 rfl ?_
    refine g_staticP (argsL := [(.long p0), (.long p1)]) (st := []) C X289 (wd hw 19 rfl) (wd hw 20 rfl) (wd hw 21 rfl) (wd hw 22 rfl) (by decide) (pay_of (W' := 0) (rmin l hw X289.ext p0 p1) C.hZ (wd hw 22 rfl) (wd hw 21 rfl) (by decide) (by decide)) pd_6 rfl rfl _ rfl (Nat.le_of_eq rfl) d0_140 (by decide) (by decide) (fun T290 X290 => ?_)
    show Goes p e below _ T290 (mkF m 143 #[.val (.long p0), .second, .val (.long p1), .second, .val (.long p2), .second, .val (.int p3), .val (.int (3 : Int32)), .val (.ref b278), .val (.long (own_mn (own_mn p0 p1) p2)), .second, .unset, .unset, .val (.long (own_mx (own_mx p0 p1) p2)), .second, .unset, .unset, .unset, .unset, .unset, .unset] [(.long (own_mn p0 p1))])
    refine g_lloadN C X290 d0_143 rfl ?_
    refine g_lloadN C X290 d0_144 rfl ?_
    refine g_staticP (argsL := [(.long p0), (.long p1)]) (st := [(.long (own_mn p0 p1))]) C X290 (wd hw 23 rfl) (wd hw 24 rfl) (wd hw 21 rfl) (wd hw 25 rfl) (by decide) (pay_of (W' := 2) (rmax l hw X290.ext p0 p1) C.hZ (wd hw 25 rfl) (wd hw 21 rfl) (by decide) (by decide)) pd_6 rfl rfl _ rfl (Nat.le_of_eq rfl) d0_145 (by decide) (by decide) (fun T291 X291 => ?_)
    show Goes p e below _ T291 (mkF m 148 #[.val (.long p0), .second, .val (.long p1), .second, .val (.long p2), .second, .val (.int p3), .val (.int (3 : Int32)), .val (.ref b278), .val (.long (own_mn (own_mn p0 p1) p2)), .second, .unset, .unset, .val (.long (own_mx (own_mx p0 p1) p2)), .second, .unset, .unset, .unset, .unset, .unset, .unset] [(.long (own_mx p0 p1)), (.long (own_mn p0 p1))])
    refine g_lload C X291 d0_148 rfl ?_
    refine g_staticP (argsL := [(.long (own_mx p0 p1)), (.long p2)]) (st := [(.long (own_mn p0 p1))]) C X291 (wd hw 19 rfl) (wd hw 20 rfl) (wd hw 21 rfl) (wd hw 22 rfl) (by decide) (pay_of (W' := 2) (rmin l hw X291.ext (own_mx p0 p1) p2) C.hZ (wd hw 22 rfl) (wd hw 21 rfl) (by decide) (by decide)) pd_6 rfl rfl _ rfl (Nat.le_of_eq rfl) d0_150 (by decide) (by decide) (fun T292 X292 => ?_)
    show Goes p e below _ T292 (mkF m 153 #[.val (.long p0), .second, .val (.long p1), .second, .val (.long p2), .second, .val (.int p3), .val (.int (3 : Int32)), .val (.ref b278), .val (.long (own_mn (own_mn p0 p1) p2)), .second, .unset, .unset, .val (.long (own_mx (own_mx p0 p1) p2)), .second, .unset, .unset, .unset, .unset, .unset, .unset] [(.long (own_mn (own_mx p0 p1) p2)), (.long (own_mn p0 p1))])
    refine g_staticP (argsL := [(.long (own_mn p0 p1)), (.long (own_mn (own_mx p0 p1) p2))]) (st := []) C X292 (wd hw 23 rfl) (wd hw 24 rfl) (wd hw 21 rfl) (wd hw 25 rfl) (by decide) (pay_of (W' := 0) (rmax l hw X292.ext (own_mn p0 p1) (own_mn (own_mx p0 p1) p2)) C.hZ (wd hw 25 rfl) (wd hw 21 rfl) (by decide) (by decide)) pd_6 rfl rfl _ rfl (Nat.le_of_eq rfl) d0_153 (by decide) (by decide) (fun T293 X293 => ?_)
    show Goes p e below _ T293 (mkF m 156 #[.val (.long p0), .second, .val (.long p1), .second, .val (.long p2), .second, .val (.int p3), .val (.int (3 : Int32)), .val (.ref b278), .val (.long (own_mn (own_mn p0 p1) p2)), .second, .unset, .unset, .val (.long (own_mx (own_mx p0 p1) p2)), .second, .unset, .unset, .unset, .unset, .unset, .unset] [(.long (own_mx (own_mn p0 p1) (own_mn (own_mx p0 p1) p2)))])
    refine g_lstore C X293 d0_156 (l' := #[.val (.long p0), .second, .val (.long p1), .second, .val (.long p2), .second, .val (.int p3), .val (.int (3 : Int32)), .val (.ref b278), .val (.long (own_mn (own_mn p0 p1) p2)), .second, .val (.long (own_mx (own_mn p0 p1) (own_mn (own_mx p0 p1) p2))), .second, .val (.long (own_mx (own_mx p0 p1) p2)), .second, .unset, .unset, .unset, .unset, .unset, .unset]) rfl ?_
    refine g_aload C X293 d0_158 rfl rfl ?_
    refine g_iconst (0 : Int32) C X293 d0_160 rfl ?_
    have f295 := (Exa.keep f284 K285)
    refine g_virtual (argsL := [(.int (0 : Int32))]) (st := []) C X293 (wd hw 26 rfl) (wd hw 27 rfl) (nf_of C (wd hw 29 rfl) rfl rfl) (wd hw 29 rfl) (wd hw 28 rfl) (by decide) f295 (pay_of (W' := 0) (rpc3_0 l hw X293.ext b278 t279 kt279 p0 p1 p2 Fn285 Fc285 V285) C.hZ (wd hw 30 rfl) (wd hw 2 rfl) (by decide) (by decide)) pd_8 rfl rfl _ rfl (Nat.le_of_eq rfl) d0_161 (by decide) (by decide) (fun T294 h294 v294 q294 X294 => ?_)
    obtain ⟨rfl, E294⟩ := q294
    show Goes p e below _ T294 (mkF m 164 #[.val (.long p0), .second, .val (.long p1), .second, .val (.long p2), .second, .val (.int p3), .val (.int (3 : Int32)), .val (.ref b278), .val (.long (own_mn (own_mn p0 p1) p2)), .second, .val (.long (own_mx (own_mn p0 p1) (own_mn (own_mx p0 p1) p2))), .second, .val (.long (own_mx (own_mx p0 p1) p2)), .second, .unset, .unset, .unset, .unset, .unset, .unset] [(.long ((own_s3 p0 p1 p2).getD 0 0))])
    refine g_lstore C X294 d0_164 (l' := #[.val (.long p0), .second, .val (.long p1), .second, .val (.long p2), .second, .val (.int p3), .val (.int (3 : Int32)), .val (.ref b278), .val (.long (own_mn (own_mn p0 p1) p2)), .second, .val (.long (own_mx (own_mn p0 p1) (own_mn (own_mx p0 p1) p2))), .second, .val (.long (own_mx (own_mx p0 p1) p2)), .second, .val (.long ((own_s3 p0 p1 p2).getD 0 0)), .second, .unset, .unset, .unset, .unset]) rfl ?_
    refine g_aload C X294 d0_166 rfl rfl ?_
    refine g_bipush (50 : Int32) C X294 d0_168 rfl ?_
    have f296 := (Fld.ext E294 Fn285)
    have f297 := (Fld.ext E294 Fc285)
    have f298 := (Arv.ext V285 E294)
    have f300 := (Exa.ext E294 f295)
    refine g_virtual (argsL := [(.int (50 : Int32))]) (st := []) C X294 (wd hw 26 rfl) (wd hw 27 rfl) (nf_of C (wd hw 29 rfl) rfl rfl) (wd hw 29 rfl) (wd hw 28 rfl) (by decide) f300 (pay_of (W' := 0) (rpc3_50 l hw X294.ext b278 t279 kt279 p0 p1 p2 f296 f297 f298) C.hZ (wd hw 30 rfl) (wd hw 2 rfl) (by decide) (by decide)) pd_8 rfl rfl _ rfl (Nat.le_of_eq rfl) d0_170 (by decide) (by decide) (fun T299 h299 v299 q299 X299 => ?_)
    obtain ⟨rfl, E299⟩ := q299
    show Goes p e below _ T299 (mkF m 173 #[.val (.long p0), .second, .val (.long p1), .second, .val (.long p2), .second, .val (.int p3), .val (.int (3 : Int32)), .val (.ref b278), .val (.long (own_mn (own_mn p0 p1) p2)), .second, .val (.long (own_mx (own_mn p0 p1) (own_mn (own_mx p0 p1) p2))), .second, .val (.long (own_mx (own_mx p0 p1) p2)), .second, .val (.long ((own_s3 p0 p1 p2).getD 0 0)), .second, .unset, .unset, .unset, .unset] [(.long ((own_s3 p0 p1 p2).getD 1 0))])
    refine g_lstore C X299 d0_173 (l' := #[.val (.long p0), .second, .val (.long p1), .second, .val (.long p2), .second, .val (.int p3), .val (.int (3 : Int32)), .val (.ref b278), .val (.long (own_mn (own_mn p0 p1) p2)), .second, .val (.long (own_mx (own_mn p0 p1) (own_mn (own_mx p0 p1) p2))), .second, .val (.long (own_mx (own_mx p0 p1) p2)), .second, .val (.long ((own_s3 p0 p1 p2).getD 0 0)), .second, .val (.long ((own_s3 p0 p1 p2).getD 1 0)), .second, .unset, .unset]) rfl ?_
    refine g_aload C X299 d0_175 rfl rfl ?_
    refine g_bipush (100 : Int32) C X299 d0_177 rfl ?_
    have f301 := (Fld.ext E299 f296)
    have f302 := (Fld.ext E299 f297)
    have f303 := (Arv.ext f298 E299)
    have f305 := (Exa.ext E299 f300)
    refine g_virtual (argsL := [(.int (100 : Int32))]) (st := []) C X299 (wd hw 26 rfl) (wd hw 27 rfl) (nf_of C (wd hw 29 rfl) rfl rfl) (wd hw 29 rfl) (wd hw 28 rfl) (by decide) f305 (pay_of (W' := 0) (rpc3_100 l hw X299.ext b278 t279 kt279 p0 p1 p2 f301 f302 f303) C.hZ (wd hw 30 rfl) (wd hw 2 rfl) (by decide) (by decide)) pd_8 rfl rfl _ rfl (Nat.le_of_eq rfl) d0_179 (by decide) (by decide) (fun T304 h304 v304 q304 X304 => ?_)
    obtain ⟨rfl, E304⟩ := q304
    show Goes p e below _ T304 (mkF m 182 #[.val (.long p0), .second, .val (.long p1), .second, .val (.long p2), .second, .val (.int p3), .val (.int (3 : Int32)), .val (.ref b278), .val (.long (own_mn (own_mn p0 p1) p2)), .second, .val (.long (own_mx (own_mn p0 p1) (own_mn (own_mx p0 p1) p2))), .second, .val (.long (own_mx (own_mx p0 p1) p2)), .second, .val (.long ((own_s3 p0 p1 p2).getD 0 0)), .second, .val (.long ((own_s3 p0 p1 p2).getD 1 0)), .second, .unset, .unset] [(.long ((own_s3 p0 p1 p2).getD 2 0))])
    refine g_lstore C X304 d0_182 (l' := #[.val (.long p0), .second, .val (.long p1), .second, .val (.long p2), .second, .val (.int p3), .val (.int (3 : Int32)), .val (.ref b278), .val (.long (own_mn (own_mn p0 p1) p2)), .second, .val (.long (own_mx (own_mn p0 p1) (own_mn (own_mx p0 p1) p2))), .second, .val (.long (own_mx (own_mx p0 p1) p2)), .second, .val (.long ((own_s3 p0 p1 p2).getD 0 0)), .second, .val (.long ((own_s3 p0 p1 p2).getD 1 0)), .second, .val (.long ((own_s3 p0 p1 p2).getD 2 0)), .second]) rfl ?_
    refine g_lload C X304 d0_184 rfl ?_
    refine g_lload C X304 d0_186 rfl ?_
    refine g_lcmp C X304 d0_188 ?_
    refine g_ifn (hL_ne _ _) C X304 d0_189 (fun q => absurd (own_e3 p0 p1 p2).1 q) (fun _ => ?_)
    refine g_lload C X304 d0_192 rfl ?_
    refine g_lload C X304 d0_194 rfl ?_
    refine g_lcmp C X304 d0_196 ?_
    refine g_ifn (hL_ne _ _) C X304 d0_197 (fun q => absurd (own_e3 p0 p1 p2).2.1 q) (fun _ => ?_)
    refine g_lload C X304 d0_200 rfl ?_
    refine g_lload C X304 d0_202 rfl ?_
    refine g_lcmp C X304 d0_204 ?_
    refine g_ifn (hL_ne _ _) C X304 d0_205 (fun q => absurd (own_e3 p0 p1 p2).2.2 q) (fun _ => ?_)
    refine g_iconst (1 : Int32) C X304 d0_208 rfl ?_
    refine g_goto C X304 d0_209 ?_
    exact g_retN C X304 (by simp) d0_213 (1 : Int32) rfl (by decide) (by decide) rfl
set_option maxRecDepth 65536 in
set_option maxHeartbeats 40000000 in
theorem comes_1 {Post : Tables → Env → Array Value → State → Outcome → State → Prop} (hpost : ∀ tb e args s v u, (limb_1_1.after args s (.returned v) u = true ∧ limb_1_2.after args s (.returned v) u = true ∧ True) → FrameEnd s (.returned v) u (Jvm.fieldLocs frame_1_writes args s ++ Jvm.arrayLocs frame_1_arrays args s ++ Jvm.staticLocs frame_1_statics s) 24 2176 → Post tb e args s (.returned v) u) :
    ArmFor flags0 classFile x code maxLocals ret World_1 tables_1 room_1 Calls_1 rest_1 Pre_1 Post := by
  intro l hfl _ _ p e ha hc hk s m args below hf hA hF happ hP
  obtain ⟨hcalls, hrest, hpre⟩ := hP
  obtain ⟨-, -, -, hnamed, -, -, -, hat⟩ := (Spec.applies_iff hf).mp happ
  obtain ⟨hg, hn⟩ := and_e (Cond.before_iff.mp (show (Jvm.Cond.and given_1 narrow_1).before args s = true from hpre))
  obtain ⟨hcount, hg⟩ := and_e hg
  obtain ⟨ha0, hg⟩ := and_e hg
  obtain ⟨ha1, hg⟩ := and_e hg
  obtain ⟨ha2, hg⟩ := and_e hg
  have ha3 := hg
  obtain ⟨w0, w1, w2, w3, rfl⟩ : ∃ w0 w1 w2 w3 : Value, args = #[w0, w1, w2, w3] := by
    have hs : args.size = 4 := by simpa [Cond.value, given_1] using hcount
    obtain ⟨L⟩ := args
    match L, hs with
    | [w0, w1, w2, w3], _ => exact ⟨w0, w1, w2, w3, rfl⟩
  have hw := fun d (hd : d ∈ tables_1) => atoms_spec (ws := Jvm.Cond.code x code maxLocals ret :: tables_1) hat d (List.mem_cons_of_mem _ hd)
  have hfit : Fit s := fun {y c} hc i hi => by
    obtain ⟨ha, rfl⟩ := Array.getElem?_eq_some_iff.mp hc
    have q := List.all_eq_true.mp ((Array.all_eq_true_iff_forall_mem.mp hF) _ (Array.getElem_mem ha)) i (List.mem_range.mpr hi)
    simpa [Array.getElem?_eq_getElem hi] using q
  obtain ⟨i0, ei0⟩ := isL_v ha0
  obtain rfl : w0 = (.long i0) := Option.some.inj ei0
  obtain ⟨i1, ei1⟩ := isL_v ha1
  obtain rfl : w1 = (.long i1) := Option.some.inj ei1
  obtain ⟨i2, ei2⟩ := isL_v ha2
  obtain rfl : w2 = (.long i2) := Option.some.inj ei2
  obtain ⟨i3, ei3⟩ := is_v ha3
  obtain rfl : w3 = (.int i3) := Option.some.inj ei3
  obtain ⟨n, o, h1, h2, h3, _, L, rfl, ⟨N, _, rfl⟩, hq⟩ := rm0 l (Z := s) hw ⟨Nat.le_refl _, fun _ _ q => q⟩ i0 i1 i2 i3  p e ha hc hk s m _ below hf ((Spec.applies_iff_loose hf).mp happ).1 ⟨rfl, State.Warmed39.refl s, rfl⟩ trivial
  exact ⟨n, _, h1, h2, h3, hpost _ _ _ _ _ _ ⟨Cond.after_iff.mpr rfl, Cond.after_iff.mpr (eq_i res_at (Term.int_eval (1)) rfl), trivial⟩ ⟨hq.1, hq.2.1, (hq.2.2.sift fun y hy => Or.inr (N y hy)).mono (by decide) (by decide)⟩⟩
theorem main_1_1 : Claimed_1_1 := comes_1 fun _ _ _ _ _ _ h hF => ⟨h.1, hF⟩
theorem main_1_2 : Claimed_1_2 := comes_1 fun _ _ _ _ _ _ h hF => ⟨h.2.1, hF⟩
end Jvm.Pilot.@@N@@
namespace Jvm.Pilot.@@N@@
open Jvm Jvm.ClassFile Sem Op Lib Jvm.Free Jvm.Stand Jvm.Pilot.@@N@@.Jvm.D
/-! MADE BY PROGRAM (witnessworld.py) out of the Statement's table words and the real class files: 15 classes; the members and pool entries that the words name. The judged class is class 1, her method 1. -/
namespace start1
open Jvm.ClassFile
def u (s : String) : CpInfo := .utf8 (stringToUtf16 s)
/-- a pool by its gaps: so many unusable entries, then the entry; so many at the end -/
def gap : Nat → List CpInfo → List CpInfo
  | 0, r => r
  | n + 1, r => .unusable :: gap n r
def poolList (es : List (Nat × CpInfo)) (last : Nat) : List CpInfo := es.foldr (fun e r => gap e.1 (e.2 :: r)) (gap last [])
def pool (es : List (Nat × CpInfo)) (last : Nat) : Array CpInfo := ⟨poolList es last⟩
def fileOf (pool : Array CpInfo) (this : Nat) (attrs : Array Attribute := #[]) (ms : Array MethodInfo := #[]) (fl : Nat := 33) (sup : Nat := 0) (ifs : Array Nat := #[]) (fds : Array FieldInfo := #[]) : ClassFile where
  minorVersion := 0
  majorVersion := 65
  constantPool := pool
  accessFlags := fl
  thisClass := this
  superClass := sup
  interfaces := ifs
  fields := fds
  methods := ms
  attributes := attrs
def plain (name : String) (sup : Option ClassId) : Class where
  name := name
  kind := .ordinary
  loader := none
  accessFlags := 33
  super := sup
  interfaces := #[]
  cf := none
  fields := #[]
  methods := #[]
  instanceTypes := #[]
  staticTypes := #[]
  resolved := #[]
  callSites := []
  init := .initialized
  statics := none
  mirror := none

def pool0 : Array CpInfo := pool [(5, u "<init>"), (0, u "()V"), (1, .class_ 10), (1, u "java/lang/Object")] 113

def k0c0 : Code := { maxStack := 0, maxLocals := 1, code := object_method_1_code, exceptionTable := #[], attributes := #[] }
def k0m0 : Method := { name := "<init>", desc := "()V", sig := { parameters := [], returnType := none }, accessFlags := 1, code := some k0c0 }
/-- java/lang/Object -/
def k0 : Class := { plain "java/lang/Object" none with
  accessFlags := 33
  interfaces := #[]
  cf := some (fileOf pool0 8 #[] #[{ accessFlags := 1, nameIndex := 5, descriptorIndex := 6, attributes := #[] }] 33 0 #[] #[])
  fields := #[]
  methods := #[k0m0]
  instanceTypes := #[]
  staticTypes := #[]
  resolved := Array.replicate 124 none
  statics := none }

def pool1 : Array CpInfo := pool [(2, .class_ 4), (0, .nameAndType 5 6), (0, u "java/lang/Object"), (0, u "<init>"), (0, u "()V"), (0, .class_ 8), (0, u "com/example/espera/espera/bench/Latencies"), (0, .methodref 7 3), (0, .methodref 7 11), (0, .nameAndType 12 13), (0, u "add"), (0, u "(J)V"), (0, .methodref 15 16), (0, .class_ 17), (0, .nameAndType 18 19), (0, u "java/lang/Math"), (0, u "min"), (0, u "(JJ)J"), (0, .methodref 15 21), (0, .nameAndType 22 19), (0, u "max"), (0, .methodref 7 24), (0, .nameAndType 25 26), (0, u "percentileNanos"), (0, u "(I)J"), (0, .class_ 28), (0, u "com/example/espera/espera/bench/LatenciesAddPinLaw"), (2, u "law"), (0, u "(JJJI)Z")] 3

def k1m0 : Method := { name := "<init>", desc := "()V", sig := { parameters := [], returnType := none }, accessFlags := 2, code := none }
def k1c1 : Code := { maxStack := 6, maxLocals := 21, code := code, exceptionTable := #[], attributes := #[] }
def k1m1 : Method := { name := "law", desc := "(JJJI)Z", sig := { parameters := [.long, .long, .long, .int], returnType := some .boolean }, accessFlags := 9, code := some k1c1 }
/-- com/example/espera/espera/bench/LatenciesAddPinLaw -/
def k1 : Class := { plain "com/example/espera/espera/bench/LatenciesAddPinLaw" (some 0) with
  accessFlags := 49
  interfaces := #[]
  cf := some (fileOf pool1 27 #[] #[{ accessFlags := 2, nameIndex := 5, descriptorIndex := 6, attributes := #[] }, { accessFlags := 9, nameIndex := 31, descriptorIndex := 32, attributes := #[] }] 49 2 #[] #[])
  fields := #[]
  methods := #[k1m0, k1m1]
  instanceTypes := #[]
  staticTypes := #[]
  resolved := Array.replicate 36 none
  statics := none }

def pool2 : Array CpInfo := pool [(1, .methodref 2 3), (0, .class_ 4), (0, .nameAndType 5 6), (0, u "java/lang/Object"), (0, u "<init>"), (0, u "()V"), (0, .fieldref 8 9), (0, .class_ 10), (0, .nameAndType 11 12), (0, u "com/example/espera/espera/bench/Latencies"), (0, u "nanos"), (0, u "[J"), (0, .fieldref 8 14), (0, .nameAndType 15 16), (0, u "count"), (0, u "I"), (0, .methodref 18 19), (0, .class_ 20), (0, .nameAndType 21 22), (0, u "java/util/Arrays"), (0, u "copyOf"), (0, u "([JI)[J"), (2, u "add"), (0, u "(J)V"), (0, .methodref 18 28), (0, .nameAndType 29 30), (0, u "sort"), (0, u "([J)V"), (0, .long 99), (1, .long 100), (1, .methodref 36 37), (0, .class_ 38), (0, .nameAndType 39 40), (0, u "java/lang/Math"), (0, u "max"), (0, u "(JJ)J"), (10, u "percentileNanos"), (0, u "(I)J")] 30

def k2c0 : Code := { maxStack := 2, maxLocals := 1, code := prog_15_method_1_code, exceptionTable := #[], attributes := #[] }
def k2m0 : Method := { name := "<init>", desc := "()V", sig := { parameters := [], returnType := none }, accessFlags := 0, code := some k2c0 }
def k2c1 : Code := { maxStack := 5, maxLocals := 3, code := prog_15_method_2_code, exceptionTable := #[], attributes := #[] }
def k2m1 : Method := { name := "add", desc := "(J)V", sig := { parameters := [.long], returnType := none }, accessFlags := 0, code := some k2c1 }
def k2c2 : Code := { maxStack := 5, maxLocals := 7, code := prog_15_method_4_code, exceptionTable := #[], attributes := #[] }
def k2m2 : Method := { name := "percentileNanos", desc := "(I)J", sig := { parameters := [.int], returnType := some .long }, accessFlags := 0, code := some k2c2 }
/-- com/example/espera/espera/bench/Latencies -/
def k2 : Class := { plain "com/example/espera/espera/bench/Latencies" (some 0) with
  accessFlags := 48
  interfaces := #[]
  cf := some (fileOf pool2 8 #[] #[{ accessFlags := 0, nameIndex := 5, descriptorIndex := 6, attributes := #[] }, { accessFlags := 0, nameIndex := 25, descriptorIndex := 26, attributes := #[] }, { accessFlags := 0, nameIndex := 51, descriptorIndex := 52, attributes := #[] }] 48 2 #[] #[{ accessFlags := 2, nameIndex := 11, descriptorIndex := 12, attributes := #[] }, { accessFlags := 2, nameIndex := 15, descriptorIndex := 16, attributes := #[] }])
  fields := #[{ name := "nanos", type := (.array .long), accessFlags := 2, slot := 0, constantValue := 0 }, { name := "count", type := .int, accessFlags := 2, slot := 1, constantValue := 0 }]
  methods := #[k2m0, k2m1, k2m2]
  instanceTypes := #[(.array .long), .int]
  staticTypes := #[]
  resolved := Array.replicate 83 none
  statics := none }

def pool3 : Array CpInfo := pool [(1, .class_ 2), (0, u "java/lang/Math"), (1, .class_ 6), (1, u "java/lang/Object"), (0, u "<init>"), (0, u "()V"), (89, .class_ 100), (1, u "java/lang/Math$RandomNumberGeneratorHolder"), (20, u "(JJ)J"), (50, u "negativeZeroFloatBits"), (0, u "J"), (2, u "negativeZeroDoubleBits"), (21, u "max"), (2, u "min"), (43, u "$assertionsDisabled"), (0, u "Z"), (88, u "(II)I"), (2, u "twoToTheDoubleScaleDown"), (0, u "D"), (4, u "twoToTheDoubleScaleUp"), (9, u "E"), (3, u "PI"), (2, u "TAU"), (2, u "DEGREES_TO_RADIANS"), (0, u "RADIANS_TO_DEGREES")] 94

def k3m0 : Method := { name := "<init>", desc := "()V", sig := { parameters := [], returnType := none }, accessFlags := 2, code := none }
def k3c1 : Code := { maxStack := 4, maxLocals := 4, code := jdk_29_method_66_code, exceptionTable := #[], attributes := #[] }
def k3m1 : Method := { name := "max", desc := "(JJ)J", sig := { parameters := [.long, .long], returnType := some .long }, accessFlags := 9, code := some k3c1 }
def k3c2 : Code := { maxStack := 2, maxLocals := 2, code := jdk_29_method_69_code, exceptionTable := #[], attributes := #[] }
def k3m2 : Method := { name := "min", desc := "(II)I", sig := { parameters := [.int, .int], returnType := some .int }, accessFlags := 9, code := some k3c2 }
def k3c3 : Code := { maxStack := 4, maxLocals := 4, code := jdk_29_method_70_code, exceptionTable := #[], attributes := #[] }
def k3m3 : Method := { name := "min", desc := "(JJ)J", sig := { parameters := [.long, .long], returnType := some .long }, accessFlags := 9, code := some k3c3 }
/-- java/lang/Math -/
def k3 : Class := { plain "java/lang/Math" (some 0) with
  accessFlags := 49
  interfaces := #[]
  cf := some (fileOf pool3 1 #[.nestMembers #[98]] #[{ accessFlags := 2, nameIndex := 7, descriptorIndex := 8, attributes := #[] }, { accessFlags := 9, nameIndex := 198, descriptorIndex := 121, attributes := #[] }, { accessFlags := 9, nameIndex := 201, descriptorIndex := 335, attributes := #[] }, { accessFlags := 9, nameIndex := 201, descriptorIndex := 121, attributes := #[] }] 49 4 #[] #[{ accessFlags := 25, nameIndex := 354, descriptorIndex := 339, attributes := #[] }, { accessFlags := 25, nameIndex := 358, descriptorIndex := 339, attributes := #[] }, { accessFlags := 25, nameIndex := 361, descriptorIndex := 339, attributes := #[] }, { accessFlags := 26, nameIndex := 364, descriptorIndex := 339, attributes := #[] }, { accessFlags := 26, nameIndex := 365, descriptorIndex := 339, attributes := #[] }, { accessFlags := 26, nameIndex := 172, descriptorIndex := 173, attributes := #[] }, { accessFlags := 26, nameIndex := 176, descriptorIndex := 173, attributes := #[] }, { accessFlags := 8, nameIndex := 344, descriptorIndex := 339, attributes := #[] }, { accessFlags := 8, nameIndex := 338, descriptorIndex := 339, attributes := #[] }, { accessFlags := 4120, nameIndex := 245, descriptorIndex := 246, attributes := #[] }])
  fields := #[{ name := "E", type := .double, accessFlags := 25, slot := 0, constantValue := 0 }, { name := "PI", type := .double, accessFlags := 25, slot := 1, constantValue := 0 }, { name := "TAU", type := .double, accessFlags := 25, slot := 2, constantValue := 0 }, { name := "DEGREES_TO_RADIANS", type := .double, accessFlags := 26, slot := 3, constantValue := 0 }, { name := "RADIANS_TO_DEGREES", type := .double, accessFlags := 26, slot := 4, constantValue := 0 }, { name := "negativeZeroFloatBits", type := .long, accessFlags := 26, slot := 5, constantValue := 0 }, { name := "negativeZeroDoubleBits", type := .long, accessFlags := 26, slot := 6, constantValue := 0 }, { name := "twoToTheDoubleScaleUp", type := .double, accessFlags := 8, slot := 7, constantValue := 0 }, { name := "twoToTheDoubleScaleDown", type := .double, accessFlags := 8, slot := 8, constantValue := 0 }, { name := "$assertionsDisabled", type := .boolean, accessFlags := 4120, slot := 9, constantValue := 0 }]
  methods := #[k3m0, k3m1, k3m2, k3m3]
  instanceTypes := #[]
  staticTypes := #[.double, .double, .double, .double, .double, .long, .long, .double, .double, .boolean]
  resolved := Array.replicate 460 none
  statics := none }

def pool4 : Array CpInfo := pool [(2, .class_ 4), (1, u "java/lang/Object"), (0, u "<init>"), (0, u "()V"), (1, .class_ 10), (1, u "java/util/DualPivotQuicksort"), (0, u "sort"), (2, .class_ 16), (1, u "java/util/Arrays"), (2, .methodref 8 20), (0, .nameAndType 11 21), (0, u "([JIII)V"), (52, .class_ 76), (1, u "java/util/Arrays$NaturalOrder"), (36, .class_ 115), (1, u "java/util/Arrays$LegacyMergeSort"), (1, u "Z"), (32, .methodref 151 152), (0, .class_ 153), (0, .nameAndType 154 155), (0, u "java/lang/System"), (0, u "arraycopy"), (0, u "(Ljava/lang/Object;ILjava/lang/Object;II)V"), (146, u "copyOf"), (1, .methodref 305 306), (0, .class_ 307), (0, .nameAndType 308 309), (0, u "java/lang/Math"), (0, u "min"), (0, u "(II)I"), (65, .class_ 376), (0, u "java/util/Arrays$ArrayList"), (68, u "$assertionsDisabled"), (269, u "MIN_ARRAY_SORT_GRAN"), (0, u "I"), (2, u "INSERTIONSORT_THRESHOLD"), (11, u "([J)V"), (140, u "([JI)[J"), (102, .class_ 976), (0, u "java/util/Arrays$ArrayItr")] 52

def k4m0 : Method := { name := "<init>", desc := "()V", sig := { parameters := [], returnType := none }, accessFlags := 2, code := none }
def k4c1 : Code := { maxStack := 4, maxLocals := 1, code := jdk_65_method_4_code, exceptionTable := #[], attributes := #[] }
def k4m1 : Method := { name := "sort", desc := "([J)V", sig := { parameters := [(.array .long)], returnType := none }, accessFlags := 9, code := some k4c1 }
def k4c2 : Code := { maxStack := 6, maxLocals := 3, code := jdk_65_method_124_code, exceptionTable := #[], attributes := #[] }
def k4m2 : Method := { name := "copyOf", desc := "([JI)[J", sig := { parameters := [(.array .long), .int], returnType := some (.array .long) }, accessFlags := 9, code := some k4c2 }
/-- java/util/Arrays -/
def k4 : Class := { plain "java/util/Arrays" (some 0) with
  accessFlags := 49
  interfaces := #[]
  cf := some (fileOf pool4 14 #[.nestMembers #[975, 375, 113, 74]] #[{ accessFlags := 2, nameIndex := 5, descriptorIndex := 6, attributes := #[] }, { accessFlags := 9, nameIndex := 11, descriptorIndex := 731, attributes := #[] }, { accessFlags := 9, nameIndex := 302, descriptorIndex := 872, attributes := #[] }] 49 2 #[] #[{ accessFlags := 26, nameIndex := 715, descriptorIndex := 716, attributes := #[] }, { accessFlags := 26, nameIndex := 719, descriptorIndex := 716, attributes := #[] }, { accessFlags := 4120, nameIndex := 445, descriptorIndex := 117, attributes := #[] }])
  fields := #[{ name := "MIN_ARRAY_SORT_GRAN", type := .int, accessFlags := 26, slot := 0, constantValue := 0 }, { name := "INSERTIONSORT_THRESHOLD", type := .int, accessFlags := 26, slot := 1, constantValue := 0 }, { name := "$assertionsDisabled", type := .boolean, accessFlags := 4120, slot := 2, constantValue := 0 }]
  methods := #[k4m0, k4m1, k4m2]
  instanceTypes := #[]
  staticTypes := #[.int, .int, .boolean]
  resolved := Array.replicate 1029 none
  statics := none }

def pool5 : Array CpInfo := pool [(2, .class_ 4), (1, u "java/lang/Object"), (0, u "<init>"), (0, u "()V"), (1, .class_ 10), (1, u "java/lang/System"), (0, u "allowSecurityManager"), (0, u "I"), (16, u "cons"), (0, u "Ljava/io/Console;"), (77, .class_ 110), (1, u "java/lang/System$CallersHolder"), (43, u "initialErrStream"), (0, u "Ljava/io/PrintStream;"), (19, u "security"), (0, u "Ljava/lang/SecurityManager;"), (31, .class_ 209), (0, u "java/lang/System$1"), (7, u "props"), (0, u "Ljava/util/Properties;"), (2, u "lineSeparator"), (0, u "Ljava/lang/String;"), (96, .class_ 321), (1, u "java/lang/System$LoggerFinder"), (5, .class_ 328), (0, u "java/lang/System$Logger"), (67, u "err"), (2, u "out"), (91, u "notSupportedJnuEncoding"), (15, u "in"), (17, u "initialIn"), (0, u "Ljava/io/InputStream;"), (35, u "bootLayer"), (0, u "Ljava/lang/ModuleLayer;"), (99, .class_ 664), (0, u "java/lang/System$2"), (9, u "NEVER"), (2, u "MAYBE"), (49, u "arraycopy"), (0, u "(Ljava/lang/Object;ILjava/lang/Object;II)V"), (72, .class_ 802), (0, u "java/lang/System$Logger$Level")] 31

def k5m0 : Method := { name := "<init>", desc := "()V", sig := { parameters := [], returnType := none }, accessFlags := 2, code := none }
def k5m1 : Method := { name := "arraycopy", desc := "(Ljava/lang/Object;ILjava/lang/Object;II)V", sig := { parameters := [(.object "java/lang/Object"), .int, (.object "java/lang/Object"), .int, .int], returnType := none }, accessFlags := 265, code := none }
/-- java/lang/System -/
def k5 : Class := { plain "java/lang/System" (some 0) with
  accessFlags := 49
  interfaces := #[]
  cf := some (fileOf pool5 8 #[.nestMembers #[319, 327, 801, 108, 663, 208]] #[{ accessFlags := 2, nameIndex := 5, descriptorIndex := 6, attributes := #[] }, { accessFlags := 265, nameIndex := 727, descriptorIndex := 728, attributes := #[] }] 49 2 #[] #[{ accessFlags := 25, nameIndex := 507, descriptorIndex := 526, attributes := #[] }, { accessFlags := 25, nameIndex := 399, descriptorIndex := 155, attributes := #[] }, { accessFlags := 25, nameIndex := 396, descriptorIndex := 155, attributes := #[] }, { accessFlags := 10, nameIndex := 525, descriptorIndex := 526, attributes := #[] }, { accessFlags := 26, nameIndex := 674, descriptorIndex := 12, attributes := #[] }, { accessFlags := 26, nameIndex := 677, descriptorIndex := 12, attributes := #[] }, { accessFlags := 10, nameIndex := 11, descriptorIndex := 12, attributes := #[] }, { accessFlags := 74, nameIndex := 175, descriptorIndex := 176, attributes := #[] }, { accessFlags := 10, nameIndex := 491, descriptorIndex := 222, attributes := #[] }, { accessFlags := 74, nameIndex := 29, descriptorIndex := 30, attributes := #[] }, { accessFlags := 74, nameIndex := 154, descriptorIndex := 155, attributes := #[] }, { accessFlags := 10, nameIndex := 217, descriptorIndex := 218, attributes := #[] }, { accessFlags := 10, nameIndex := 221, descriptorIndex := 222, attributes := #[] }, { accessFlags := 8, nameIndex := 562, descriptorIndex := 563, attributes := #[] }])
  fields := #[{ name := "in", type := (.object "java/io/InputStream"), accessFlags := 25, slot := 0, constantValue := 0 }, { name := "out", type := (.object "java/io/PrintStream"), accessFlags := 25, slot := 1, constantValue := 0 }, { name := "err", type := (.object "java/io/PrintStream"), accessFlags := 25, slot := 2, constantValue := 0 }, { name := "initialIn", type := (.object "java/io/InputStream"), accessFlags := 10, slot := 3, constantValue := 0 }, { name := "NEVER", type := .int, accessFlags := 26, slot := 4, constantValue := 0 }, { name := "MAYBE", type := .int, accessFlags := 26, slot := 5, constantValue := 0 }, { name := "allowSecurityManager", type := .int, accessFlags := 10, slot := 6, constantValue := 0 }, { name := "security", type := (.object "java/lang/SecurityManager"), accessFlags := 74, slot := 7, constantValue := 0 }, { name := "notSupportedJnuEncoding", type := (.object "java/lang/String"), accessFlags := 10, slot := 8, constantValue := 0 }, { name := "cons", type := (.object "java/io/Console"), accessFlags := 74, slot := 9, constantValue := 0 }, { name := "initialErrStream", type := (.object "java/io/PrintStream"), accessFlags := 74, slot := 10, constantValue := 0 }, { name := "props", type := (.object "java/util/Properties"), accessFlags := 10, slot := 11, constantValue := 0 }, { name := "lineSeparator", type := (.object "java/lang/String"), accessFlags := 10, slot := 12, constantValue := 0 }, { name := "bootLayer", type := (.object "java/lang/ModuleLayer"), accessFlags := 8, slot := 13, constantValue := 0 }]
  methods := #[k5m0, k5m1]
  instanceTypes := #[]
  staticTypes := #[(.object "java/io/InputStream"), (.object "java/io/PrintStream"), (.object "java/io/PrintStream"), (.object "java/io/InputStream"), .int, .int, .int, (.object "java/lang/SecurityManager"), (.object "java/lang/String"), (.object "java/io/Console"), (.object "java/io/PrintStream"), (.object "java/util/Properties"), (.object "java/lang/String"), (.object "java/lang/ModuleLayer")]
  resolved := Array.replicate 834 none
  statics := none }

def pool6 : Array CpInfo := pool [(1, .class_ 2), (0, u "java/util/DualPivotQuicksort"), (5, .class_ 10), (1, u "java/lang/Object"), (0, u "<init>"), (0, u "()V"), (4, .class_ 18), (0, u "java/util/DualPivotQuicksort$Sorter"), (9, u "sort"), (7, u "insertionSort"), (31, u "I"), (4, .class_ 74), (0, u "java/util/DualPivotQuicksort$RunMerger"), (10, .class_ 86), (0, u "java/util/DualPivotQuicksort$Merger"), (12, .methodref 1 100), (0, .nameAndType 28 101), (0, u "(Ljava/util/DualPivotQuicksort$Sorter;[JIII)V"), (2, u "([JIII)V"), (0, .methodref 1 106), (0, .nameAndType 36 107), (0, u "([JII)V"), (106, u "MAX_MIXED_INSERTION_SORT_SIZE"), (2, u "MAX_INSERTION_SORT_SIZE"), (1, u "MIN_PARALLEL_SORT_SIZE"), (1, u "MIN_TRY_MERGE_SIZE"), (0, u "MIN_FIRST_RUN_SIZE"), (1, u "MIN_FIRST_RUNS_FACTOR"), (1, u "MAX_RUN_CAPACITY"), (1, u "MIN_RUN_COUNT"), (1, u "MIN_PARALLEL_MERGE_PARTS_SIZE"), (0, u "MIN_BYTE_COUNTING_SORT_SIZE"), (1, u "MIN_SHORT_OR_CHAR_COUNTING_SORT_SIZE"), (1, u "DELTA"), (1, u "MAX_RECURSION_DEPTH"), (1, u "NUM_BYTE_VALUES"), (1, u "MAX_BYTE_INDEX"), (0, u "NUM_CHAR_VALUES"), (0, u "NUM_SHORT_VALUES"), (0, u "MAX_SHORT_INDEX")] 86

def k6m0 : Method := { name := "<init>", desc := "()V", sig := { parameters := [], returnType := none }, accessFlags := 2, code := none }
def k6c1 : Code := { maxStack := 9, maxLocals := 7, code := jdk_2529_method_12_code, exceptionTable := #[], attributes := #[] }
def k6m1 : Method := { name := "sort", desc := "([JIII)V", sig := { parameters := [(.array .long), .int, .int, .int], returnType := none }, accessFlags := 8, code := some k6c1 }
def k6c2 : Code := { maxStack := 6, maxLocals := 25, code := jdk_2529_method_13_code, exceptionTable := #[], attributes := #[] }
def k6m2 : Method := { name := "sort", desc := "(Ljava/util/DualPivotQuicksort$Sorter;[JIII)V", sig := { parameters := [(.object "java/util/DualPivotQuicksort$Sorter"), (.array .long), .int, .int, .int], returnType := none }, accessFlags := 8, code := some k6c2 }
def k6c3 : Code := { maxStack := 5, maxLocals := 7, code := jdk_2529_method_15_code, exceptionTable := #[], attributes := #[] }
def k6m3 : Method := { name := "insertionSort", desc := "([JII)V", sig := { parameters := [(.array .long), .int, .int], returnType := none }, accessFlags := 10, code := some k6c3 }
/-- java/util/DualPivotQuicksort -/
def k6 : Class := { plain "java/util/DualPivotQuicksort" (some 0) with
  accessFlags := 48
  interfaces := #[]
  cf := some (fileOf pool6 1 #[.nestMembers #[73, 85, 17]] #[{ accessFlags := 2, nameIndex := 11, descriptorIndex := 12, attributes := #[] }, { accessFlags := 8, nameIndex := 28, descriptorIndex := 104, attributes := #[] }, { accessFlags := 8, nameIndex := 28, descriptorIndex := 101, attributes := #[] }, { accessFlags := 10, nameIndex := 36, descriptorIndex := 107, attributes := #[] }] 48 8 #[] #[{ accessFlags := 26, nameIndex := 214, descriptorIndex := 68, attributes := #[] }, { accessFlags := 26, nameIndex := 217, descriptorIndex := 68, attributes := #[] }, { accessFlags := 26, nameIndex := 219, descriptorIndex := 68, attributes := #[] }, { accessFlags := 26, nameIndex := 221, descriptorIndex := 68, attributes := #[] }, { accessFlags := 26, nameIndex := 222, descriptorIndex := 68, attributes := #[] }, { accessFlags := 26, nameIndex := 224, descriptorIndex := 68, attributes := #[] }, { accessFlags := 26, nameIndex := 226, descriptorIndex := 68, attributes := #[] }, { accessFlags := 26, nameIndex := 228, descriptorIndex := 68, attributes := #[] }, { accessFlags := 26, nameIndex := 230, descriptorIndex := 68, attributes := #[] }, { accessFlags := 26, nameIndex := 231, descriptorIndex := 68, attributes := #[] }, { accessFlags := 26, nameIndex := 233, descriptorIndex := 68, attributes := #[] }, { accessFlags := 26, nameIndex := 235, descriptorIndex := 68, attributes := #[] }, { accessFlags := 26, nameIndex := 237, descriptorIndex := 68, attributes := #[] }, { accessFlags := 26, nameIndex := 239, descriptorIndex := 68, attributes := #[] }, { accessFlags := 26, nameIndex := 241, descriptorIndex := 68, attributes := #[] }, { accessFlags := 26, nameIndex := 242, descriptorIndex := 68, attributes := #[] }, { accessFlags := 26, nameIndex := 243, descriptorIndex := 68, attributes := #[] }, { accessFlags := 26, nameIndex := 244, descriptorIndex := 68, attributes := #[] }])
  fields := #[{ name := "MAX_MIXED_INSERTION_SORT_SIZE", type := .int, accessFlags := 26, slot := 0, constantValue := 0 }, { name := "MAX_INSERTION_SORT_SIZE", type := .int, accessFlags := 26, slot := 1, constantValue := 0 }, { name := "MIN_PARALLEL_SORT_SIZE", type := .int, accessFlags := 26, slot := 2, constantValue := 0 }, { name := "MIN_TRY_MERGE_SIZE", type := .int, accessFlags := 26, slot := 3, constantValue := 0 }, { name := "MIN_FIRST_RUN_SIZE", type := .int, accessFlags := 26, slot := 4, constantValue := 0 }, { name := "MIN_FIRST_RUNS_FACTOR", type := .int, accessFlags := 26, slot := 5, constantValue := 0 }, { name := "MAX_RUN_CAPACITY", type := .int, accessFlags := 26, slot := 6, constantValue := 0 }, { name := "MIN_RUN_COUNT", type := .int, accessFlags := 26, slot := 7, constantValue := 0 }, { name := "MIN_PARALLEL_MERGE_PARTS_SIZE", type := .int, accessFlags := 26, slot := 8, constantValue := 0 }, { name := "MIN_BYTE_COUNTING_SORT_SIZE", type := .int, accessFlags := 26, slot := 9, constantValue := 0 }, { name := "MIN_SHORT_OR_CHAR_COUNTING_SORT_SIZE", type := .int, accessFlags := 26, slot := 10, constantValue := 0 }, { name := "DELTA", type := .int, accessFlags := 26, slot := 11, constantValue := 0 }, { name := "MAX_RECURSION_DEPTH", type := .int, accessFlags := 26, slot := 12, constantValue := 0 }, { name := "NUM_BYTE_VALUES", type := .int, accessFlags := 26, slot := 13, constantValue := 0 }, { name := "MAX_BYTE_INDEX", type := .int, accessFlags := 26, slot := 14, constantValue := 0 }, { name := "NUM_CHAR_VALUES", type := .int, accessFlags := 26, slot := 15, constantValue := 0 }, { name := "NUM_SHORT_VALUES", type := .int, accessFlags := 26, slot := 16, constantValue := 0 }, { name := "MAX_SHORT_INDEX", type := .int, accessFlags := 26, slot := 17, constantValue := 0 }]
  methods := #[k6m0, k6m1, k6m2, k6m3]
  instanceTypes := #[]
  staticTypes := #[.int, .int, .int, .int, .int, .int, .int, .int, .int, .int, .int, .int, .int, .int, .int, .int, .int, .int]
  resolved := Array.replicate 331 none
  statics := none }

def pool7 : Array CpInfo := pool [(1, u "java/lang/Cloneable"), (0, .class_ 1), (0, u "java/lang/Object"), (0, .class_ 3)] 3

/-- java/lang/Cloneable -/
def k7 : Class := { plain "java/lang/Cloneable" (some 0) with
  accessFlags := 1537
  interfaces := #[]
  cf := some (fileOf pool7 2 #[] #[] 1537 4 #[] #[])
  fields := #[]
  methods := #[]
  instanceTypes := #[]
  staticTypes := #[]
  resolved := Array.replicate 8 none
  statics := none }

def pool8 : Array CpInfo := pool [(1, u "java/io/Serializable"), (0, .class_ 1), (0, u "java/lang/Object"), (0, .class_ 3)] 3

/-- java/io/Serializable -/
def k8 : Class := { plain "java/io/Serializable" (some 0) with
  accessFlags := 1537
  interfaces := #[]
  cf := some (fileOf pool8 2 #[] #[] 1537 4 #[] #[])
  fields := #[]
  methods := #[]
  instanceTypes := #[]
  staticTypes := #[]
  resolved := Array.replicate 8 none
  statics := none }

/-- the primitive byte -/
def k9 : Class := { plain "byte" none with kind := .primitive 'B', accessFlags := 0x411 }
/-- [B -/
def k10 : Class := { plain "[B" (some 0) with kind := .array 9 .byte, interfaces := #[7, 8], accessFlags := 1041 }

/-- the primitive int -/
def k11 : Class := { plain "int" none with kind := .primitive 'I', accessFlags := 0x411 }
/-- [I -/
def k12 : Class := { plain "[I" (some 0) with kind := .array 11 .int, interfaces := #[7, 8], accessFlags := 1041 }

/-- the primitive long -/
def k13 : Class := { plain "long" none with kind := .primitive 'J', accessFlags := 0x411 }
/-- [J -/
def k14 : Class := { plain "[J" (some 0) with kind := .array 13 .long, interfaces := #[7, 8], accessFlags := 1041 }

def heap : Heap := #[]
def classes : Array Class := #[k0, k1, k2, k3, k4, k5, k6, k7, k8, k9, k10, k11, k12, k13, k14]
def interned : List (Array UInt16 × Addr) := []
def slotsUsed : Nat := 0
def theMethod : MethodId := ⟨1, 1⟩
def args0 : Array Value := #[.long 5, .long 6, .long 7, .int 3]
def aboutOver (below : List Frame) : State where
  vm := { classes := classes, interned := interned.toArray }
  heap := heap
  slotsUsed := slotsUsed
  threads := #[{ frames := .invoking theMethod args0 :: below }]
def below0 : List Frame := [.native { method := ⟨0, 0⟩, args := #[] }]
def about1 : State := aboutOver below0
def p0 : Program := .bare "" "" ""
def e0 : Env := launch0.env 0 0 0
theorem w_frames : about1.frames = Frame.invoking theMethod args0 :: below0 := rfl
set_option maxRecDepth 65536 in
theorem w_args : argsFit about1.vm theMethod args0 = true := by decide +kernel
set_option maxRecDepth 65536 in
theorem w_heap : heapFits about1 = true := by decide +kernel
set_option maxRecDepth 65536 in
theorem w_runnable : about1.curStatus? = some .runnable := by decide +kernel
set_option maxRecDepth 65536 in
theorem w_alone : about1.alone = true := by decide +kernel
set_option maxRecDepth 65536 in
theorem w_named : about1.methodNamed? x = some theMethod := by decide +kernel
set_option maxRecDepth 65536 in
theorem w_hears : about1.hears theMethod below0 = true := by decide +kernel
set_option maxRecDepth 65536 in
theorem w_ripe : about1.ripe theMethod args0 below0 = true := by decide +kernel
theorem w_running : about1.status = .running := rfl
set_option maxRecDepth 65536 in
theorem w_room : about1.hasRoom e0.platform room_1 = true :=
  launch0.hasRoom_least _ room_1 (by decide +kernel) (by decide +kernel) (by decide +kernel) (by decide +kernel) (by decide +kernel) (by decide +kernel)
theorem allAtoms_all (ts : List Jvm.Cond) (a : Array Jvm.Value) (st : Jvm.State) : (allAtoms ts).before a st = ts.all (fun c => c.before a st) := by
  induction ts with
  | nil => rfl
  | cons c t ih =>
    show (Jvm.Cond.and c (allAtoms t)).before a st = _
    rw [Jvm.Cond.before_and, ih, List.all_cons]
def words1 : List Jvm.Cond := Jvm.Cond.code x code maxLocals ret :: tables_1
/-- a 'code' word, met by the world's own term for the bytes: nothing is compared byte by byte -/
theorem code_word {y : MethodName} {bytes : ByteArray} {mx : Nat} {rt : Option FieldType} {a : Array Value} {s : State} {m : MethodId} {meth : Method} {c : Code} (h1 : s.methodNamed? y = some m) (h2 : s.vm.method? m = some meth) (h3 : meth.code = some c) (h4 : c.code = bytes)
    (h5 : (c.maxLocals == mx && c.exceptionTable.isEmpty && decide (c.maxStack ≤ mostOperands) && decide (meth.sig.returnType = rt) && !meth.locks && decide (parseMethodDescriptor y.desc = some meth.sig)) = true) : (Jvm.Cond.code y bytes mx rt).before a s = true := by
  simp only [Bool.and_eq_true, beq_iff_eq, Bool.not_eq_true', decide_eq_true_eq] at h5
  obtain ⟨⟨⟨⟨⟨g1, g2⟩, g3⟩, g4⟩, g5⟩, g6⟩ := h5
  simp [Cond.before, Cond.holds, Cond.value, h1, h2, h3, h4, g1, g2, g3, g4, g5, g6]
def isCode : Jvm.Cond → Bool
  | .code _ _ _ _ => true
  | _ => false
theorem all_split {L : List Jvm.Cond} {P : Jvm.Cond → Bool} (h1 : L.all (fun c => isCode c || P c) = true) (h2 : ∀ c ∈ L.filter isCode, P c = true) : L.all P = true := by
  refine List.all_eq_true.mpr fun c hc => ?_
  have h := List.all_eq_true.mp h1 c hc
  rcases Bool.eq_false_or_eq_true (isCode c) with hi | hi
  · exact h2 c (List.mem_filter.mpr ⟨hc, hi⟩)
  · simpa [hi] using h
set_option maxRecDepth 65536 in
theorem w_c0 : (Jvm.Cond.code x code maxLocals ret).before args0 about1 = true := code_word (m := ⟨1, 1⟩) (meth := k1m1) (c := k1c1) (by decide +kernel) rfl rfl rfl (by decide +kernel)
set_option maxRecDepth 65536 in
theorem w_c1 : (Jvm.Cond.code ({ cls := "com/example/espera/espera/bench/Latencies", name := "<init>", desc := "()V" } : Jvm.MethodName) prog_15_method_1_code (1 : Nat) (Option.none : Option Jvm.ClassFile.FieldType)).before args0 about1 = true := code_word (m := ⟨2, 0⟩) (meth := k2m0) (c := k2c0) (by decide +kernel) rfl rfl rfl (by decide +kernel)
set_option maxRecDepth 65536 in
theorem w_c2 : (Jvm.Cond.code ({ cls := "java/lang/Object", name := "<init>", desc := "()V" } : Jvm.MethodName) object_method_1_code (1 : Nat) (Option.none : Option Jvm.ClassFile.FieldType)).before args0 about1 = true := code_word (m := ⟨0, 0⟩) (meth := k0m0) (c := k0c0) (by decide +kernel) rfl rfl rfl (by decide +kernel)
set_option maxRecDepth 65536 in
theorem w_c3 : (Jvm.Cond.code ({ cls := "com/example/espera/espera/bench/Latencies", name := "add", desc := "(J)V" } : Jvm.MethodName) prog_15_method_2_code (3 : Nat) (Option.none : Option Jvm.ClassFile.FieldType)).before args0 about1 = true := code_word (m := ⟨2, 1⟩) (meth := k2m1) (c := k2c1) (by decide +kernel) rfl rfl rfl (by decide +kernel)
set_option maxRecDepth 65536 in
theorem w_c4 : (Jvm.Cond.code ({ cls := "java/lang/Math", name := "min", desc := "(JJ)J" } : Jvm.MethodName) jdk_29_method_70_code (4 : Nat) (Option.some Jvm.ClassFile.FieldType.long)).before args0 about1 = true := code_word (m := ⟨3, 3⟩) (meth := k3m3) (c := k3c3) (by decide +kernel) rfl rfl rfl (by decide +kernel)
set_option maxRecDepth 65536 in
theorem w_c5 : (Jvm.Cond.code ({ cls := "java/lang/Math", name := "max", desc := "(JJ)J" } : Jvm.MethodName) jdk_29_method_66_code (4 : Nat) (Option.some Jvm.ClassFile.FieldType.long)).before args0 about1 = true := code_word (m := ⟨3, 1⟩) (meth := k3m1) (c := k3c1) (by decide +kernel) rfl rfl rfl (by decide +kernel)
set_option maxRecDepth 65536 in
theorem w_c6 : (Jvm.Cond.code ({ cls := "com/example/espera/espera/bench/Latencies", name := "percentileNanos", desc := "(I)J" } : Jvm.MethodName) prog_15_method_4_code (7 : Nat) (Option.some Jvm.ClassFile.FieldType.long)).before args0 about1 = true := code_word (m := ⟨2, 2⟩) (meth := k2m2) (c := k2c2) (by decide +kernel) rfl rfl rfl (by decide +kernel)
set_option maxRecDepth 65536 in
theorem w_c7 : (Jvm.Cond.code ({ cls := "java/util/Arrays", name := "copyOf", desc := "([JI)[J" } : Jvm.MethodName) jdk_65_method_124_code (3 : Nat) (Option.some (Jvm.ClassFile.FieldType.array Jvm.ClassFile.FieldType.long))).before args0 about1 = true := code_word (m := ⟨4, 2⟩) (meth := k4m2) (c := k4c2) (by decide +kernel) rfl rfl rfl (by decide +kernel)
set_option maxRecDepth 65536 in
theorem w_c8 : (Jvm.Cond.code ({ cls := "java/lang/Math", name := "min", desc := "(II)I" } : Jvm.MethodName) jdk_29_method_69_code (2 : Nat) (Option.some Jvm.ClassFile.FieldType.int)).before args0 about1 = true := code_word (m := ⟨3, 2⟩) (meth := k3m2) (c := k3c2) (by decide +kernel) rfl rfl rfl (by decide +kernel)
set_option maxRecDepth 65536 in
theorem w_c9 : (Jvm.Cond.code ({ cls := "java/util/Arrays", name := "sort", desc := "([J)V" } : Jvm.MethodName) jdk_65_method_4_code (1 : Nat) (Option.none : Option Jvm.ClassFile.FieldType)).before args0 about1 = true := code_word (m := ⟨4, 1⟩) (meth := k4m1) (c := k4c1) (by decide +kernel) rfl rfl rfl (by decide +kernel)
set_option maxRecDepth 65536 in
theorem w_c10 : (Jvm.Cond.code ({ cls := "java/util/DualPivotQuicksort", name := "sort", desc := "([JIII)V" } : Jvm.MethodName) jdk_2529_method_12_code (7 : Nat) (Option.none : Option Jvm.ClassFile.FieldType)).before args0 about1 = true := code_word (m := ⟨6, 1⟩) (meth := k6m1) (c := k6c1) (by decide +kernel) rfl rfl rfl (by decide +kernel)
set_option maxRecDepth 65536 in
theorem w_c11 : (Jvm.Cond.code ({ cls := "java/util/DualPivotQuicksort", name := "sort", desc := "(Ljava/util/DualPivotQuicksort$Sorter;[JIII)V" } : Jvm.MethodName) jdk_2529_method_13_code (25 : Nat) (Option.none : Option Jvm.ClassFile.FieldType)).before args0 about1 = true := code_word (m := ⟨6, 2⟩) (meth := k6m2) (c := k6c2) (by decide +kernel) rfl rfl rfl (by decide +kernel)
set_option maxRecDepth 65536 in
theorem w_c12 : (Jvm.Cond.code ({ cls := "java/util/DualPivotQuicksort", name := "insertionSort", desc := "([JII)V" } : Jvm.MethodName) jdk_2529_method_15_code (7 : Nat) (Option.none : Option Jvm.ClassFile.FieldType)).before args0 about1 = true := code_word (m := ⟨6, 3⟩) (meth := k6m3) (c := k6c3) (by decide +kernel) rfl rfl rfl (by decide +kernel)
def codes1 : List Jvm.Cond := [Jvm.Cond.code x code maxLocals ret, Jvm.Cond.code ({ cls := "com/example/espera/espera/bench/Latencies", name := "<init>", desc := "()V" } : Jvm.MethodName) prog_15_method_1_code (1 : Nat) (Option.none : Option Jvm.ClassFile.FieldType), Jvm.Cond.code ({ cls := "java/lang/Object", name := "<init>", desc := "()V" } : Jvm.MethodName) object_method_1_code (1 : Nat) (Option.none : Option Jvm.ClassFile.FieldType), Jvm.Cond.code ({ cls := "com/example/espera/espera/bench/Latencies", name := "add", desc := "(J)V" } : Jvm.MethodName) prog_15_method_2_code (3 : Nat) (Option.none : Option Jvm.ClassFile.FieldType), Jvm.Cond.code ({ cls := "java/lang/Math", name := "min", desc := "(JJ)J" } : Jvm.MethodName) jdk_29_method_70_code (4 : Nat) (Option.some Jvm.ClassFile.FieldType.long), Jvm.Cond.code ({ cls := "java/lang/Math", name := "max", desc := "(JJ)J" } : Jvm.MethodName) jdk_29_method_66_code (4 : Nat) (Option.some Jvm.ClassFile.FieldType.long), Jvm.Cond.code ({ cls := "com/example/espera/espera/bench/Latencies", name := "percentileNanos", desc := "(I)J" } : Jvm.MethodName) prog_15_method_4_code (7 : Nat) (Option.some Jvm.ClassFile.FieldType.long), Jvm.Cond.code ({ cls := "java/util/Arrays", name := "copyOf", desc := "([JI)[J" } : Jvm.MethodName) jdk_65_method_124_code (3 : Nat) (Option.some (Jvm.ClassFile.FieldType.array Jvm.ClassFile.FieldType.long)), Jvm.Cond.code ({ cls := "java/lang/Math", name := "min", desc := "(II)I" } : Jvm.MethodName) jdk_29_method_69_code (2 : Nat) (Option.some Jvm.ClassFile.FieldType.int), Jvm.Cond.code ({ cls := "java/util/Arrays", name := "sort", desc := "([J)V" } : Jvm.MethodName) jdk_65_method_4_code (1 : Nat) (Option.none : Option Jvm.ClassFile.FieldType), Jvm.Cond.code ({ cls := "java/util/DualPivotQuicksort", name := "sort", desc := "([JIII)V" } : Jvm.MethodName) jdk_2529_method_12_code (7 : Nat) (Option.none : Option Jvm.ClassFile.FieldType), Jvm.Cond.code ({ cls := "java/util/DualPivotQuicksort", name := "sort", desc := "(Ljava/util/DualPivotQuicksort$Sorter;[JIII)V" } : Jvm.MethodName) jdk_2529_method_13_code (25 : Nat) (Option.none : Option Jvm.ClassFile.FieldType), Jvm.Cond.code ({ cls := "java/util/DualPivotQuicksort", name := "insertionSort", desc := "([JII)V" } : Jvm.MethodName) jdk_2529_method_15_code (7 : Nat) (Option.none : Option Jvm.ClassFile.FieldType)]
set_option maxRecDepth 65536 in
theorem codes_eq : words1.filter isCode = codes1 := rfl
theorem w_codes : ∀ c ∈ words1.filter isCode, c.before args0 about1 = true := by
  rw [codes_eq]
  intro c hc
  simp only [codes1, List.mem_cons, List.not_mem_nil, or_false] at hc
  rcases hc with rfl | rfl | rfl | rfl | rfl | rfl | rfl | rfl | rfl | rfl | rfl | rfl | rfl
  · exact w_c0
  · exact w_c1
  · exact w_c2
  · exact w_c3
  · exact w_c4
  · exact w_c5
  · exact w_c6
  · exact w_c7
  · exact w_c8
  · exact w_c9
  · exact w_c10
  · exact w_c11
  · exact w_c12
set_option maxRecDepth 65536 in
theorem w_t1 : (words1.take 24).all (fun c => isCode c || c.before args0 about1) = true := by decide +kernel
set_option maxRecDepth 65536 in
theorem w_t2 : ((words1.drop 24).take 24).all (fun c => isCode c || c.before args0 about1) = true := by decide +kernel
set_option maxRecDepth 65536 in
theorem w_t3 : ((words1.drop 24).drop 24).all (fun c => isCode c || c.before args0 about1) = true := by decide +kernel
theorem w_tables : (allAtoms (Jvm.Cond.code x code maxLocals ret :: tables_1)).before args0 about1 = true := by
  rw [allAtoms_all]
  show words1.all (fun c => c.before args0 about1) = true
  refine all_split ?_ w_codes
  rw [← List.take_append_drop 24 words1, List.all_append, w_t1, ← List.take_append_drop 24 (words1.drop 24), List.all_append, w_t2, w_t3]
  rfl
set_option maxRecDepth 65536 in
theorem w_case : (Jvm.Cond.and given_1 narrow_1).before args0 about1 = true := by decide +kernel
theorem w_applies : (headSpec (Jvm.Cond.code x code maxLocals ret :: tables_1) room_1).applies x e0.platform about1 = true :=
  (Spec.applies_iff w_frames).mpr ⟨w_running, w_runnable, w_alone, w_named, w_hears, w_ripe, w_room, w_tables⟩
theorem atStart : AtStart classFile x code maxLocals ret World_1 tables_1 room_1 Calls_1 rest_1 Pre_1 launch0 p0 e0 about1 theMethod args0 below0 :=
  ⟨lists_1, trivial, launch0.admits_env _ _ _, launch0.least_env, fairChoices_fair.cas, fairChoices_fair.clock, w_frames, w_args, w_heap, w_applies, trivial, trivial, w_case⟩
end start1
theorem witness_1 : WitnessClaimed_1 := ⟨start1.p0, start1.e0, start1.about1, start1.theMethod, start1.args0, start1.below0, start1.atStart⟩
end Jvm.Pilot.@@N@@
