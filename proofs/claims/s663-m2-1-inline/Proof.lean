import JvmDerived
import JvmDerived.Pilot.@@N@@Statement
import JvmDerived.Pilot.@@N@@Code
@@BLOCK:TracedD.lean.txt@@
set_option linter.unusedVariables false
set_option linter.unusedSimpArgs false
set_option maxRecDepth 65536
set_option maxHeartbeats 40000000
namespace Jvm.Pilot.@@N@@
open Jvm Jvm.ClassFile Sem Op Lib Jvm.Free Jvm.Stand Jvm.LawKit Jvm.RoadKit Bundle Jvm.Pilot.@@N@@.Jvm.D
section OwnKit
variable {p : Program} {l : Launch} {e : Env} {R : Room} {s : State} {m : MethodId} {A : Array Value} {below : List Frame} {meth : Method} {c : Code} {T : State} {cells slots : Nat} {Z : State} {a0 : Array Value} {h : Heap} {own nm : String} {bytes : ByteArray} {maxL : Nat} {ret : Option FieldType} {W : Outcome → State → Prop} {pc pc' tgt : Nat} {Ls : Array Slot} {st : List Value}
/-- the run from the frame g over T comes to an end at which W holds -/
def Goes (p : Program) (e : Env) (below : List Frame) (W : Outcome → State → Prop) (T : State) (g : JFrame) : Prop :=
  ∃ s₂ o, Steps p.tables e below (T.setTop g) s₂ ∧ s₂.status = .running ∧ Ended s₂ below o ∧ W o s₂
theorem Goes.via {T' : State} {g g' : JFrame} (h : ∀ t, Steps p.tables e below (T'.setTop g') t → Steps p.tables e below (T.setTop g) t) (k : Goes p e below W T' g') : Goes p e below W T g := by
  obtain ⟨s₂, o, h1, h2⟩ := k; exact ⟨s₂, o, h _ h1, h2⟩
/-- what stays the same through a body -/
def Cx (p : Program) (s : State) (m : MethodId) (meth : Method) (c : Code) (Z : State) (own nm : String) (bytes : ByteArray) (maxL : Nat) (ret : Option FieldType) : Prop :=
  p.tables.exec = Jvm.exec ∧ Z.Warmed39 s.vm ∧ s.vm.findClass own = some m.cls ∧ c.code = bytes ∧ c.maxLocals = maxL ∧ meth.sig.returnType = ret ∧ meth.locks = false ∧ meth.name = nm
theorem Cx.hx (C : Cx p s m meth c Z own nm bytes maxL ret) : p.tables.exec = Jvm.exec := C.1
theorem Cx.hZ (C : Cx p s m meth c Z own nm bytes maxL ret) : Z.Warmed39 s.vm := C.2.1
theorem Cx.hown (C : Cx p s m meth c Z own nm bytes maxL ret) : s.vm.findClass own = some m.cls := C.2.2.1
theorem Cx.hby (C : Cx p s m meth c Z own nm bytes maxL ret) : c.code = bytes := C.2.2.2.1
theorem Cx.hml (C : Cx p s m meth c Z own nm bytes maxL ret) : c.maxLocals = maxL := C.2.2.2.2.1
theorem Cx.hret (C : Cx p s m meth c Z own nm bytes maxL ret) : meth.sig.returnType = ret := C.2.2.2.2.2.1
theorem Cx.hlk (C : Cx p s m meth c Z own nm bytes maxL ret) : meth.locks = false := C.2.2.2.2.2.2.1
theorem Cx.hnm (C : Cx p s m meth c Z own nm bytes maxL ret) : meth.name = nm := C.2.2.2.2.2.2.2
/-- where the walk stands: the heap is h; nothing that stood at Z was written; at most so many cells and slots were made -/
def St (p : Program) (l : Launch) (e : Env) (R : Room) (s : State) (m : MethodId) (A : Array Value) (below : List Frame) (meth : Method) (c : Code) (Z : State) (T : State) (h : Heap) (cells slots : Nat) : Prop :=
  ∃ locs, Stand p l e R s m A below meth c T locs cells slots ∧ T.heap = h ∧ Fr Z.heap.size locs ∧ Ext Z.heap h
theorem St.here (X : St p l e R s m A below meth c Z T h cells slots) : At T m c below := by obtain ⟨_, Y, _⟩ := X; exact Y.here
theorem St.ext (X : St p l e R s m A below meth c Z T h cells slots) : Ext Z.heap h := by obtain ⟨_, _, _, _, E⟩ := X; exact E
theorem St.more {cells' slots' : Nat} (X : St p l e R s m A below meth c Z T h cells slots) (h1 : cells ≤ cells') (h2 : slots ≤ slots') : St p l e R s m A below meth c Z T h cells' slots' := by
  obtain ⟨L, Y, r⟩ := X; exact ⟨L, Y.more h1 h2, r⟩
/-- the end of a body: Q of what it returned and of the heap -/
def EndW (Z s : State) (k n : Nat) (Q : Option Value → Heap → Prop) (o : Outcome) (u : State) : Prop :=
  ∃ v L, o = .returned v ∧ (Fr Z.heap.size L ∧ Ext Z.heap u.heap ∧ Q v u.heap) ∧ FrameEnd s o u L k n
/-- a body's contract: called with A at the heap h0, over tables warmer than Z's, it returns and leaves Q -/
def Con (l : Launch) (y : MethodName) (bytes : ByteArray) (maxL : Nat) (ret : Option FieldType) (ws : List Jvm.Cond) (rm : Room) (Z : State) (A : Array Value) (h0 : Heap) (Q : Option Value → Heap → Prop) : Prop :=
  MetFree l y (head1 (Jvm.Cond.code y bytes maxL ret :: ws) rm) (fun a U => a = A ∧ Z.Warmed39 U.vm ∧ U.heap = h0) (fun _ _ _ _ _ => True) (fun _ U o U' => EndW Z U rm.cells rm.slots Q o U')
theorem con_of {y : MethodName} {ws : List Jvm.Cond} {rm : Room} {h0 : Heap} {Q : Option Value → Heap → Prop} {Ls : Array Slot} (hp : plainFor y = true) (hE : Ext Z.heap h0) (hef : ∀ m, entryFrame m A maxL = mkF m 0 Ls [])
    (body : ∀ p e s m below meth c s₁, Cx p s m meth c Z y.cls y.name bytes maxL ret → St p l e rm s m A below meth c Z s₁ h0 0 0 → Goes p e below (EndW Z s rm.cells rm.slots Q) s₁ (mkF m 0 Ls [])) :
    Con l y bytes maxL ret ws rm Z A h0 Q := by
  refine MetFree.of_bodySF hp hisR ?_
  intro p e s m args below meth c s₁ Bd hml0 hP hK
  obtain ⟨rfl, hZ, hh⟩ := hP
  have X0 := Stand.of_body Bd
  have e0 : s₁.heap = h0 := by rw [← hh, Bd.state]; rfl
  have := body p e s m below meth c s₁ ⟨Bd.exec, hZ, findClass_of_methodNamed Bd.named, Bd.bytes, hml0, Bd.returns, Bd.notSynchronized, (name_of_methodNamed Bd.named Bd.method).1⟩ ⟨[], X0, e0, Fr.nil _, hE⟩
  rw [← hef m] at this
  exact this
/-- the instruction at pc, its length, the pc behind it -/
def Dc (b : ByteArray) (pc : Nat) (i : Instr) (n pc' : Nat) : Prop := decode b pc = .ok (i, n) ∧ pc + n = pc'
/-- a jump: besides, its target -/
def Dj (b : ByteArray) (pc : Nat) (i : Instr) (o : Int) (n pc' tgt : Nat) : Prop := decode b pc = .ok (i, n) ∧ pc + n = pc' ∧ 0 ≤ (pc : Int) + o ∧ ((pc : Int) + o).toNat = tgt
theorem g_goto {o : Int} (C : Cx p s m meth c Z own nm bytes maxL ret) (X : St p l e R s m A below meth c Z T h cells slots) (d : Dj bytes pc (.goto o) o 3 pc' tgt) (K : Goes p e below W T (mkF m tgt Ls st)) : Goes p e below W T (mkF m pc Ls st) :=
  Goes.via (fun _ k => XS.goto X.here C.hx rfl rfl (hb C.hby d.1) d.2.2.1 d.2.2.2 k) K
theorem g_if {cd : ClassFile.Cond} {o : Int} {x : Int32} {P : Prop} [Decidable P] (hP : ifCond.holds cd x = decide P) (C : Cx p s m meth c Z own nm bytes maxL ret) (X : St p l e R s m A below meth c Z T h cells slots) (d : Dj bytes pc (.ifCond cd o) o 3 pc' tgt) (K1 : P → Goes p e below W T (mkF m tgt Ls st)) (K2 : ¬ P → Goes p e below W T (mkF m pc' Ls st)) : Goes p e below W T (mkF m pc Ls (.int x :: st)) := by
  obtain ⟨d1, rfl, d3, d4⟩ := d
  by_cases q : P
  · exact Goes.via (fun _ k => XS.ifYes X.here C.hx rfl rfl (hb C.hby d1) rfl (hP.trans (decide_eq_true q)) d3 d4 k) (K1 q)
  · exact Goes.via (fun _ k => XS.ifNo X.here C.hx rfl (hb C.hby d1) rfl (hP.trans (decide_eq_false q)) k) (K2 q)
theorem g_icmp {cd : ClassFile.Cond} {o : Int} {x y : Int32} {P : Prop} [Decidable P] (hP : if_icmp.holds cd x y = decide P) (C : Cx p s m meth c Z own nm bytes maxL ret) (X : St p l e R s m A below meth c Z T h cells slots) (d : Dj bytes pc (.if_icmp cd o) o 3 pc' tgt) (K1 : P → Goes p e below W T (mkF m tgt Ls st)) (K2 : ¬ P → Goes p e below W T (mkF m pc' Ls st)) : Goes p e below W T (mkF m pc Ls (.int y :: .int x :: st)) := by
  obtain ⟨d1, rfl, d3, d4⟩ := d
  by_cases q : P
  · exact Goes.via (fun _ k => XS.icmpYes X.here C.hx rfl rfl (hb C.hby d1) rfl (hP.trans (decide_eq_true q)) d3 d4 k) (K1 q)
  · exact Goes.via (fun _ k => XS.icmpNo X.here C.hx rfl (hb C.hby d1) rfl (hP.trans (decide_eq_false q)) k) (K2 q)
theorem g_ifn {cd : ClassFile.Cond} {o : Int} {x : Int32} {P : Prop} [Decidable P] (hP : ifCond.holds cd x = !decide P) (C : Cx p s m meth c Z own nm bytes maxL ret) (X : St p l e R s m A below meth c Z T h cells slots) (d : Dj bytes pc (.ifCond cd o) o 3 pc' tgt) (K1 : ¬ P → Goes p e below W T (mkF m tgt Ls st)) (K2 : P → Goes p e below W T (mkF m pc' Ls st)) : Goes p e below W T (mkF m pc Ls (.int x :: st)) := by
  obtain ⟨d1, rfl, d3, d4⟩ := d
  by_cases q : P
  · exact Goes.via (fun _ k => XS.ifNo X.here C.hx rfl (hb C.hby d1) rfl (hP.trans (by simp [q])) k) (K2 q)
  · exact Goes.via (fun _ k => XS.ifYes X.here C.hx rfl rfl (hb C.hby d1) rfl (hP.trans (by simp [q])) d3 d4 k) (K1 q)
theorem g_icmpn {cd : ClassFile.Cond} {o : Int} {x y : Int32} {P : Prop} [Decidable P] (hP : if_icmp.holds cd x y = !decide P) (C : Cx p s m meth c Z own nm bytes maxL ret) (X : St p l e R s m A below meth c Z T h cells slots) (d : Dj bytes pc (.if_icmp cd o) o 3 pc' tgt) (K1 : ¬ P → Goes p e below W T (mkF m tgt Ls st)) (K2 : P → Goes p e below W T (mkF m pc' Ls st)) : Goes p e below W T (mkF m pc Ls (.int y :: .int x :: st)) := by
  obtain ⟨d1, rfl, d3, d4⟩ := d
  by_cases q : P
  · exact Goes.via (fun _ k => XS.icmpNo X.here C.hx rfl (hb C.hby d1) rfl (hP.trans (by simp [q])) k) (K2 q)
  · exact Goes.via (fun _ k => XS.icmpYes X.here C.hx rfl rfl (hb C.hby d1) rfl (hP.trans (by simp [q])) d3 d4 k) (K1 q)
theorem hI_eq (x y : Int32) : if_icmp.holds .eq x y = decide (x = y) := by
  by_cases q : x = y
  · rw [(teq q).1]; simp [q]
  · rw [(feq q).1]; simp [q]
theorem hI_ne (x y : Int32) : if_icmp.holds .ne x y = !decide (x = y) := by
  by_cases q : x = y
  · rw [(teq q).2]; simp [q]
  · rw [(feq q).2]; simp [q]
theorem hI_lt (x y : Int32) : if_icmp.holds .lt x y = decide (x < y) := by
  by_cases q : x < y
  · rw [(tlt q).1]; simp [q]
  · rw [(flt q).1]; simp [q]
theorem hI_ge (x y : Int32) : if_icmp.holds .ge x y = !decide (x < y) := by
  by_cases q : x < y
  · rw [(tlt q).2.1]; simp [q]
  · rw [(flt q).2.1]; simp [q]
theorem hI_gt (x y : Int32) : if_icmp.holds .gt x y = decide (y < x) := by
  by_cases q : y < x
  · rw [(tlt q).2.2.1]; simp [q]
  · rw [(flt q).2.2.1]; simp [q]
theorem hI_le (x y : Int32) : if_icmp.holds .le x y = !decide (y < x) := by
  by_cases q : y < x
  · rw [(tlt q).2.2.2]; simp [q]
  · rw [(flt q).2.2.2]; simp [q]
theorem h0_eq (x : Int32) : ifCond.holds .eq x = decide (x = 0) := (if0 _ _).trans (hI_eq x 0)
theorem h0_ne (x : Int32) : ifCond.holds .ne x = !decide (x = 0) := (if0 _ _).trans (hI_ne x 0)
theorem h0_lt (x : Int32) : ifCond.holds .lt x = decide (x < 0) := (if0 _ _).trans (hI_lt x 0)
theorem h0_ge (x : Int32) : ifCond.holds .ge x = !decide (x < 0) := (if0 _ _).trans (hI_ge x 0)
theorem h0_gt (x : Int32) : ifCond.holds .gt x = decide (0 < x) := (if0 _ _).trans (hI_gt x 0)
theorem h0_le (x : Int32) : ifCond.holds .le x = !decide (0 < x) := (if0 _ _).trans (hI_le x 0)
/-- a comparison of longs, then a branch on it: 'lcmp; if..' -/
theorem hL_eq (x y : Int64) : ifCond.holds .eq (lcmpW x y) = decide (x = y) := by rw [h0_eq]; exact decide_eq_decide.mpr (lw_eq x y)
theorem hL_ne (x y : Int64) : ifCond.holds .ne (lcmpW x y) = !decide (x = y) := by rw [h0_ne]; exact congrArg _ (decide_eq_decide.mpr (lw_eq x y))
theorem hL_lt (x y : Int64) : ifCond.holds .lt (lcmpW x y) = decide (x < y) := by rw [h0_lt]; exact decide_eq_decide.mpr (lw_lt x y)
theorem hL_ge (x y : Int64) : ifCond.holds .ge (lcmpW x y) = !decide (x < y) := by rw [h0_ge]; exact congrArg _ (decide_eq_decide.mpr (lw_lt x y))
theorem hL_gt (x y : Int64) : ifCond.holds .gt (lcmpW x y) = decide (y < x) := by rw [h0_gt]; exact decide_eq_decide.mpr (lw_gt x y)
theorem hL_le (x y : Int64) : ifCond.holds .le (lcmpW x y) = !decide (y < x) := by rw [h0_le]; exact congrArg _ (decide_eq_decide.mpr (lw_gt x y))
/-- two references compared; the values are references or null -/
theorem g_acmpeq {o : Int} {x y : Value} (C : Cx p s m meth c Z own nm bytes maxL ret) (X : St p l e R s m A below meth c Z T h cells slots) (d : Dj bytes pc (.if_acmp .eq o) o 3 pc' tgt) (h1 : x.isRef = true) (h2 : y.isRef = true) (K1 : x = y → Goes p e below W T (mkF m tgt Ls st)) (K2 : ¬ x = y → Goes p e below W T (mkF m pc' Ls st)) : Goes p e below W T (mkF m pc Ls (y :: x :: st)) := by
  obtain ⟨d1, rfl, d3, d4⟩ := d
  by_cases q : x = y
  · exact Goes.via (fun _ k => XT.acmpYes X.here C.hx rfl rfl (hb C.hby d1) rfl h1 h2 (XT.aa_eq_t q) d3 d4 k) (K1 q)
  · exact Goes.via (fun _ k => XT.acmpNo X.here C.hx rfl (hb C.hby d1) rfl h1 h2 (XT.aa_eq_f q) k) (K2 q)
theorem g_acmpne {o : Int} {x y : Value} (C : Cx p s m meth c Z own nm bytes maxL ret) (X : St p l e R s m A below meth c Z T h cells slots) (d : Dj bytes pc (.if_acmp .ne o) o 3 pc' tgt) (h1 : x.isRef = true) (h2 : y.isRef = true) (K1 : ¬ x = y → Goes p e below W T (mkF m tgt Ls st)) (K2 : x = y → Goes p e below W T (mkF m pc' Ls st)) : Goes p e below W T (mkF m pc Ls (y :: x :: st)) := by
  obtain ⟨d1, rfl, d3, d4⟩ := d
  by_cases q : x = y
  · exact Goes.via (fun _ k => XT.acmpNo X.here C.hx rfl (hb C.hby d1) rfl h1 h2 (XT.aa_ne_f q) k) (K2 q)
  · exact Goes.via (fun _ k => XT.acmpYes X.here C.hx rfl rfl (hb C.hby d1) rfl h1 h2 (XT.aa_ne_t q) d3 d4 k) (K1 q)
theorem g_ifnull {o : Int} {v : Value} (C : Cx p s m meth c Z own nm bytes maxL ret) (X : St p l e R s m A below meth c Z T h cells slots) (d : Dj bytes pc (.ifnull o) o 3 pc' tgt) (h1 : v.isRef = true) (K1 : v = .null → Goes p e below W T (mkF m tgt Ls st)) (K2 : ¬ v = .null → Goes p e below W T (mkF m pc' Ls st)) : Goes p e below W T (mkF m pc Ls (v :: st)) := by
  obtain ⟨d1, rfl, d3, d4⟩ := d
  by_cases q : v = .null
  · exact Goes.via (fun _ k => XT.nullYes X.here C.hx rfl rfl (hb C.hby d1) rfl q d3 d4 k) (K1 q)
  · exact Goes.via (fun _ k => XT.nullNo X.here C.hx rfl (hb C.hby d1) rfl h1 q k) (K2 q)
theorem g_ifnonnull {o : Int} {v : Value} (C : Cx p s m meth c Z own nm bytes maxL ret) (X : St p l e R s m A below meth c Z T h cells slots) (d : Dj bytes pc (.ifnonnull o) o 3 pc' tgt) (h1 : v.isRef = true) (K1 : ¬ v = .null → Goes p e below W T (mkF m tgt Ls st)) (K2 : v = .null → Goes p e below W T (mkF m pc' Ls st)) : Goes p e below W T (mkF m pc Ls (v :: st)) := by
  obtain ⟨d1, rfl, d3, d4⟩ := d
  by_cases q : v = .null
  · exact Goes.via (fun _ k => XT.nonnullNo X.here C.hx rfl (hb C.hby d1) rfl q k) (K2 q)
  · exact Goes.via (fun _ k => XT.nonnullYes X.here C.hx rfl rfl (hb C.hby d1) rfl h1 q d3 d4 k) (K1 q)
theorem g_iload {k : Nat} {v : Int32} (C : Cx p s m meth c Z own nm bytes maxL ret) (X : St p l e R s m A below meth c Z T h cells slots) (d : Dc bytes pc (.iload k) 2 pc') (hl : Ls[k]? = some (.val (.int v))) (K : Goes p e below W T (mkF m pc' Ls (.int v :: st))) : Goes p e below W T (mkF m pc Ls st) := by
  obtain ⟨d, rfl⟩ := d
  exact Goes.via (fun _ k => XS.iload X.here C.hx rfl (hb C.hby d) hl k) K
theorem g_iloadN {k : Fin 4} {v : Int32} (C : Cx p s m meth c Z own nm bytes maxL ret) (X : St p l e R s m A below meth c Z T h cells slots) (d : Dc bytes pc (.iload_n k) 1 pc') (hl : Ls[k.val]? = some (.val (.int v))) (K : Goes p e below W T (mkF m pc' Ls (.int v :: st))) : Goes p e below W T (mkF m pc Ls st) := by
  obtain ⟨d, rfl⟩ := d
  exact Goes.via (fun _ k => XS.iloadN X.here C.hx rfl (hb C.hby d) hl k) K
theorem g_lload {k : Nat} {v : Int64} (C : Cx p s m meth c Z own nm bytes maxL ret) (X : St p l e R s m A below meth c Z T h cells slots) (d : Dc bytes pc (.lload k) 2 pc') (hl : Ls[k]? = some (.val (.long v))) (K : Goes p e below W T (mkF m pc' Ls (.long v :: st))) : Goes p e below W T (mkF m pc Ls st) := by
  obtain ⟨d, rfl⟩ := d
  exact Goes.via (fun _ k => XT.lload X.here C.hx rfl (hb C.hby d) hl k) K
theorem g_lloadN {k : Fin 4} {v : Int64} (C : Cx p s m meth c Z own nm bytes maxL ret) (X : St p l e R s m A below meth c Z T h cells slots) (d : Dc bytes pc (.lload_n k) 1 pc') (hl : Ls[k.val]? = some (.val (.long v))) (K : Goes p e below W T (mkF m pc' Ls (.long v :: st))) : Goes p e below W T (mkF m pc Ls st) := by
  obtain ⟨d, rfl⟩ := d
  exact Goes.via (fun _ k => XT.lloadN X.here C.hx rfl (hb C.hby d) hl k) K
theorem g_aload {k : Nat} {v : Value} (C : Cx p s m meth c Z own nm bytes maxL ret) (X : St p l e R s m A below meth c Z T h cells slots) (d : Dc bytes pc (.aload k) 2 pc') (hl : Ls[k]? = some (.val v)) (hv : v.isRef = true) (K : Goes p e below W T (mkF m pc' Ls (v :: st))) : Goes p e below W T (mkF m pc Ls st) := by
  obtain ⟨d, rfl⟩ := d
  exact Goes.via (fun _ k => XS.aload X.here C.hx rfl (hb C.hby d) hl hv k) K
theorem g_aloadN {k : Fin 4} {v : Value} (C : Cx p s m meth c Z own nm bytes maxL ret) (X : St p l e R s m A below meth c Z T h cells slots) (d : Dc bytes pc (.aload_n k) 1 pc') (hl : Ls[k.val]? = some (.val v)) (hv : v.isRef = true) (K : Goes p e below W T (mkF m pc' Ls (v :: st))) : Goes p e below W T (mkF m pc Ls st) := by
  obtain ⟨d, rfl⟩ := d
  exact Goes.via (fun _ k => XS.aloadN X.here C.hx rfl (hb C.hby d) hl hv k) K
theorem g_istore {k : Nat} {x : Int32} {l' : Array Slot} (C : Cx p s m meth c Z own nm bytes maxL ret) (X : St p l e R s m A below meth c Z T h cells slots) (d : Dc bytes pc (.istore k) 2 pc') (hl : storeLocals Ls k (.int x) = some l') (K : Goes p e below W T (mkF m pc' l' st)) : Goes p e below W T (mkF m pc Ls (.int x :: st)) := by
  obtain ⟨d, rfl⟩ := d
  exact Goes.via (fun _ k => XS.istore X.here C.hx rfl (hb C.hby d) rfl hl k) K
theorem g_istoreN {k : Fin 4} {x : Int32} {l' : Array Slot} (C : Cx p s m meth c Z own nm bytes maxL ret) (X : St p l e R s m A below meth c Z T h cells slots) (d : Dc bytes pc (.istore_n k) 1 pc') (hl : storeLocals Ls k.val (.int x) = some l') (K : Goes p e below W T (mkF m pc' l' st)) : Goes p e below W T (mkF m pc Ls (.int x :: st)) := by
  obtain ⟨d, rfl⟩ := d
  exact Goes.via (fun _ k => XS.istoreN X.here C.hx rfl (hb C.hby d) rfl hl k) K
theorem g_lstore {k : Nat} {x : Int64} {l' : Array Slot} (C : Cx p s m meth c Z own nm bytes maxL ret) (X : St p l e R s m A below meth c Z T h cells slots) (d : Dc bytes pc (.lstore k) 2 pc') (hl : storeLocals Ls k (.long x) = some l') (K : Goes p e below W T (mkF m pc' l' st)) : Goes p e below W T (mkF m pc Ls (.long x :: st)) := by
  obtain ⟨d, rfl⟩ := d
  exact Goes.via (fun _ k => XT.lstore X.here C.hx rfl (hb C.hby d) rfl hl k) K
theorem g_lstoreN {k : Fin 4} {x : Int64} {l' : Array Slot} (C : Cx p s m meth c Z own nm bytes maxL ret) (X : St p l e R s m A below meth c Z T h cells slots) (d : Dc bytes pc (.lstore_n k) 1 pc') (hl : storeLocals Ls k.val (.long x) = some l') (K : Goes p e below W T (mkF m pc' l' st)) : Goes p e below W T (mkF m pc Ls (.long x :: st)) := by
  obtain ⟨d, rfl⟩ := d
  exact Goes.via (fun _ k => XT.lstoreN X.here C.hx rfl (hb C.hby d) rfl hl k) K
theorem g_astore {k : Nat} {x : Value} {l' : Array Slot} (C : Cx p s m meth c Z own nm bytes maxL ret) (X : St p l e R s m A below meth c Z T h cells slots) (d : Dc bytes pc (.astore k) 2 pc') (hv : x.isRef = true) (hl : storeLocals Ls k x = some l') (K : Goes p e below W T (mkF m pc' l' st)) : Goes p e below W T (mkF m pc Ls (x :: st)) := by
  obtain ⟨d, rfl⟩ := d
  exact Goes.via (fun _ k => XS.astore X.here C.hx rfl (hb C.hby d) rfl hv hl k) K
theorem g_astoreN {k : Fin 4} {x : Value} {l' : Array Slot} (C : Cx p s m meth c Z own nm bytes maxL ret) (X : St p l e R s m A below meth c Z T h cells slots) (d : Dc bytes pc (.astore_n k) 1 pc') (hv : x.isRef = true) (hl : storeLocals Ls k.val x = some l') (K : Goes p e below W T (mkF m pc' l' st)) : Goes p e below W T (mkF m pc Ls (x :: st)) := by
  obtain ⟨d, rfl⟩ := d
  exact Goes.via (fun _ k => XS.astoreN X.here C.hx rfl (hb C.hby d) rfl hv hl k) K
theorem g_iconst {i : Int} (v : Int32) (C : Cx p s m meth c Z own nm bytes maxL ret) (X : St p l e R s m A below meth c Z T h cells slots) (d : Dc bytes pc (.iconst i) 1 pc') (hv : Int32.ofInt i = v) (K : Goes p e below W T (mkF m pc' Ls (.int v :: st))) : Goes p e below W T (mkF m pc Ls st) := by
  obtain ⟨d, rfl⟩ := d
  exact Goes.via (fun _ k => XT.iconstV X.here C.hx rfl v (hb C.hby d) hv k) K
theorem g_bipush {i : Int} (v : Int32) (C : Cx p s m meth c Z own nm bytes maxL ret) (X : St p l e R s m A below meth c Z T h cells slots) (d : Dc bytes pc (.bipush i) 2 pc') (hv : (Int8.ofInt i).toInt32 = v) (K : Goes p e below W T (mkF m pc' Ls (.int v :: st))) : Goes p e below W T (mkF m pc Ls st) := by
  obtain ⟨d, rfl⟩ := d
  exact Goes.via (fun _ k => XT.bipushV X.here C.hx rfl v (hb C.hby d) hv k) K
theorem g_sipush {i : Int} (v : Int32) (C : Cx p s m meth c Z own nm bytes maxL ret) (X : St p l e R s m A below meth c Z T h cells slots) (d : Dc bytes pc (.sipush i) 3 pc') (hv : (Int16.ofInt i).toInt32 = v) (K : Goes p e below W T (mkF m pc' Ls (.int v :: st))) : Goes p e below W T (mkF m pc Ls st) := by
  obtain ⟨d, rfl⟩ := d
  exact Goes.via (fun _ k => XT.sipushV X.here C.hx rfl v (hb C.hby d) hv k) K
theorem g_lconst {k : Fin 2} (v : Int64) (C : Cx p s m meth c Z own nm bytes maxL ret) (X : St p l e R s m A below meth c Z T h cells slots) (d : Dc bytes pc (.lconst k) 1 pc') (hv : Int64.ofNat k = v) (K : Goes p e below W T (mkF m pc' Ls (.long v :: st))) : Goes p e below W T (mkF m pc Ls st) := by
  obtain ⟨d, rfl⟩ := d
  exact Goes.via (fun _ k => XT.lconstV X.here C.hx rfl v (hb C.hby d) hv k) K
theorem g_iinc {k : Nat} {i : Int} {x : Int32} {l' : Array Slot} (v : Int32) (C : Cx p s m meth c Z own nm bytes maxL ret) (X : St p l e R s m A below meth c Z T h cells slots) (d : Dc bytes pc (.iinc k i) 3 pc') (hv : Int32.ofInt i = v) (hl : Ls[k]? = some (.val (.int x))) (hl' : storeLocals Ls k (.int (x + v)) = some l') (K : Goes p e below W T (mkF m pc' l' st)) : Goes p e below W T (mkF m pc Ls st) := by
  obtain ⟨d, rfl⟩ := d
  exact Goes.via (fun _ k => XT.iincV X.here C.hx rfl v (hb C.hby d) hv hl hl' k) K
theorem g_aconst_null  (C : Cx p s m meth c Z own nm bytes maxL ret) (X : St p l e R s m A below meth c Z T h cells slots) (d : Dc bytes pc (.aconst_null) 1 pc')  (K : Goes p e below W T (mkF m pc' Ls (.null :: st))) : Goes p e below W T (mkF m pc Ls st) := by
  obtain ⟨d, rfl⟩ := d
  exact Goes.via (fun _ k => XS.aconstNull X.here C.hx rfl (hb C.hby d)  k) K
theorem g_iadd {x y : Int32} (C : Cx p s m meth c Z own nm bytes maxL ret) (X : St p l e R s m A below meth c Z T h cells slots) (d : Dc bytes pc (.iadd) 1 pc')  (K : Goes p e below W T (mkF m pc' Ls (.int (x + y) :: st))) : Goes p e below W T (mkF m pc Ls (.int y :: .int x :: st)) := by
  obtain ⟨d, rfl⟩ := d
  exact Goes.via (fun _ k => XS.iadd X.here C.hx rfl (hb C.hby d) rfl k) K
theorem g_ladd {x y : Int64} (C : Cx p s m meth c Z own nm bytes maxL ret) (X : St p l e R s m A below meth c Z T h cells slots) (d : Dc bytes pc (.ladd) 1 pc')  (K : Goes p e below W T (mkF m pc' Ls (.long (x + y) :: st))) : Goes p e below W T (mkF m pc Ls (.long y :: .long x :: st)) := by
  obtain ⟨d, rfl⟩ := d
  exact Goes.via (fun _ k => XT.ladd X.here C.hx rfl (hb C.hby d) rfl k) K
theorem g_isub {x y : Int32} (C : Cx p s m meth c Z own nm bytes maxL ret) (X : St p l e R s m A below meth c Z T h cells slots) (d : Dc bytes pc (.isub) 1 pc')  (K : Goes p e below W T (mkF m pc' Ls (.int (x - y) :: st))) : Goes p e below W T (mkF m pc Ls (.int y :: .int x :: st)) := by
  obtain ⟨d, rfl⟩ := d
  exact Goes.via (fun _ k => XS.isub X.here C.hx rfl (hb C.hby d) rfl k) K
theorem g_lsub {x y : Int64} (C : Cx p s m meth c Z own nm bytes maxL ret) (X : St p l e R s m A below meth c Z T h cells slots) (d : Dc bytes pc (.lsub) 1 pc')  (K : Goes p e below W T (mkF m pc' Ls (.long (x - y) :: st))) : Goes p e below W T (mkF m pc Ls (.long y :: .long x :: st)) := by
  obtain ⟨d, rfl⟩ := d
  exact Goes.via (fun _ k => XT.lsub X.here C.hx rfl (hb C.hby d) rfl k) K
theorem g_imul {x y : Int32} (C : Cx p s m meth c Z own nm bytes maxL ret) (X : St p l e R s m A below meth c Z T h cells slots) (d : Dc bytes pc (.imul) 1 pc')  (K : Goes p e below W T (mkF m pc' Ls (.int (x * y) :: st))) : Goes p e below W T (mkF m pc Ls (.int y :: .int x :: st)) := by
  obtain ⟨d, rfl⟩ := d
  exact Goes.via (fun _ k => XS.imul X.here C.hx rfl (hb C.hby d) rfl k) K
theorem g_lmul {x y : Int64} (C : Cx p s m meth c Z own nm bytes maxL ret) (X : St p l e R s m A below meth c Z T h cells slots) (d : Dc bytes pc (.lmul) 1 pc')  (K : Goes p e below W T (mkF m pc' Ls (.long (x * y) :: st))) : Goes p e below W T (mkF m pc Ls (.long y :: .long x :: st)) := by
  obtain ⟨d, rfl⟩ := d
  exact Goes.via (fun _ k => XT.lmul X.here C.hx rfl (hb C.hby d) rfl k) K
theorem g_iand {x y : Int32} (C : Cx p s m meth c Z own nm bytes maxL ret) (X : St p l e R s m A below meth c Z T h cells slots) (d : Dc bytes pc (.iand) 1 pc')  (K : Goes p e below W T (mkF m pc' Ls (.int (x &&& y) :: st))) : Goes p e below W T (mkF m pc Ls (.int y :: .int x :: st)) := by
  obtain ⟨d, rfl⟩ := d
  exact Goes.via (fun _ k => XS.iand X.here C.hx rfl (hb C.hby d) rfl k) K
theorem g_land {x y : Int64} (C : Cx p s m meth c Z own nm bytes maxL ret) (X : St p l e R s m A below meth c Z T h cells slots) (d : Dc bytes pc (.land) 1 pc')  (K : Goes p e below W T (mkF m pc' Ls (.long (x &&& y) :: st))) : Goes p e below W T (mkF m pc Ls (.long y :: .long x :: st)) := by
  obtain ⟨d, rfl⟩ := d
  exact Goes.via (fun _ k => XT.land X.here C.hx rfl (hb C.hby d) rfl k) K
theorem g_ior {x y : Int32} (C : Cx p s m meth c Z own nm bytes maxL ret) (X : St p l e R s m A below meth c Z T h cells slots) (d : Dc bytes pc (.ior) 1 pc')  (K : Goes p e below W T (mkF m pc' Ls (.int (x ||| y) :: st))) : Goes p e below W T (mkF m pc Ls (.int y :: .int x :: st)) := by
  obtain ⟨d, rfl⟩ := d
  exact Goes.via (fun _ k => XT.ior X.here C.hx rfl (hb C.hby d) rfl k) K
theorem g_lor {x y : Int64} (C : Cx p s m meth c Z own nm bytes maxL ret) (X : St p l e R s m A below meth c Z T h cells slots) (d : Dc bytes pc (.lor) 1 pc')  (K : Goes p e below W T (mkF m pc' Ls (.long (x ||| y) :: st))) : Goes p e below W T (mkF m pc Ls (.long y :: .long x :: st)) := by
  obtain ⟨d, rfl⟩ := d
  exact Goes.via (fun _ k => XT.lor X.here C.hx rfl (hb C.hby d) rfl k) K
theorem g_ixor {x y : Int32} (C : Cx p s m meth c Z own nm bytes maxL ret) (X : St p l e R s m A below meth c Z T h cells slots) (d : Dc bytes pc (.ixor) 1 pc')  (K : Goes p e below W T (mkF m pc' Ls (.int (x ^^^ y) :: st))) : Goes p e below W T (mkF m pc Ls (.int y :: .int x :: st)) := by
  obtain ⟨d, rfl⟩ := d
  exact Goes.via (fun _ k => XT.ixor X.here C.hx rfl (hb C.hby d) rfl k) K
theorem g_lxor {x y : Int64} (C : Cx p s m meth c Z own nm bytes maxL ret) (X : St p l e R s m A below meth c Z T h cells slots) (d : Dc bytes pc (.lxor) 1 pc')  (K : Goes p e below W T (mkF m pc' Ls (.long (x ^^^ y) :: st))) : Goes p e below W T (mkF m pc Ls (.long y :: .long x :: st)) := by
  obtain ⟨d, rfl⟩ := d
  exact Goes.via (fun _ k => XT.lxor X.here C.hx rfl (hb C.hby d) rfl k) K
theorem g_idiv {x y : Int32} (C : Cx p s m meth c Z own nm bytes maxL ret) (X : St p l e R s m A below meth c Z T h cells slots) (d : Dc bytes pc (.idiv) 1 pc') (hy : y ≠ 0) (K : Goes p e below W T (mkF m pc' Ls (.int (x / y) :: st))) : Goes p e below W T (mkF m pc Ls (.int y :: .int x :: st)) := by
  obtain ⟨d, rfl⟩ := d
  exact Goes.via (fun _ k => XS.idiv X.here C.hx rfl (hb C.hby d) rfl hy k) K
theorem g_ldiv {x y : Int64} (C : Cx p s m meth c Z own nm bytes maxL ret) (X : St p l e R s m A below meth c Z T h cells slots) (d : Dc bytes pc (.ldiv) 1 pc') (hy : y ≠ 0) (K : Goes p e below W T (mkF m pc' Ls (.long (x / y) :: st))) : Goes p e below W T (mkF m pc Ls (.long y :: .long x :: st)) := by
  obtain ⟨d, rfl⟩ := d
  exact Goes.via (fun _ k => XT.ldiv X.here C.hx rfl (hb C.hby d) rfl hy k) K
theorem g_ineg {x : Int32} (C : Cx p s m meth c Z own nm bytes maxL ret) (X : St p l e R s m A below meth c Z T h cells slots) (d : Dc bytes pc (.ineg) 1 pc')  (K : Goes p e below W T (mkF m pc' Ls (.int (-x) :: st))) : Goes p e below W T (mkF m pc Ls (.int x :: st)) := by
  obtain ⟨d, rfl⟩ := d
  exact Goes.via (fun _ k => XS.ineg X.here C.hx rfl (hb C.hby d) rfl k) K
theorem g_lneg {x : Int64} (C : Cx p s m meth c Z own nm bytes maxL ret) (X : St p l e R s m A below meth c Z T h cells slots) (d : Dc bytes pc (.lneg) 1 pc')  (K : Goes p e below W T (mkF m pc' Ls (.long (-x) :: st))) : Goes p e below W T (mkF m pc Ls (.long x :: st)) := by
  obtain ⟨d, rfl⟩ := d
  exact Goes.via (fun _ k => XT.lneg X.here C.hx rfl (hb C.hby d) rfl k) K
theorem g_ishl {x y : Int32} (C : Cx p s m meth c Z own nm bytes maxL ret) (X : St p l e R s m A below meth c Z T h cells slots) (d : Dc bytes pc (.ishl) 1 pc')  (K : Goes p e below W T (mkF m pc' Ls (.int (x <<< (y &&& 31)) :: st))) : Goes p e below W T (mkF m pc Ls (.int y :: .int x :: st)) := by
  obtain ⟨d, rfl⟩ := d
  exact Goes.via (fun _ k => XT.ishl X.here C.hx rfl (hb C.hby d) rfl k) K
theorem g_ishr {x y : Int32} (C : Cx p s m meth c Z own nm bytes maxL ret) (X : St p l e R s m A below meth c Z T h cells slots) (d : Dc bytes pc (.ishr) 1 pc')  (K : Goes p e below W T (mkF m pc' Ls (.int (x >>> (y &&& 31)) :: st))) : Goes p e below W T (mkF m pc Ls (.int y :: .int x :: st)) := by
  obtain ⟨d, rfl⟩ := d
  exact Goes.via (fun _ k => XT.ishr X.here C.hx rfl (hb C.hby d) rfl k) K
theorem g_iushr {x y : Int32} (C : Cx p s m meth c Z own nm bytes maxL ret) (X : St p l e R s m A below meth c Z T h cells slots) (d : Dc bytes pc (.iushr) 1 pc')  (K : Goes p e below W T (mkF m pc' Ls (.int ((x.toUInt32 >>> (y &&& 31).toUInt32).toInt32) :: st))) : Goes p e below W T (mkF m pc Ls (.int y :: .int x :: st)) := by
  obtain ⟨d, rfl⟩ := d
  exact Goes.via (fun _ k => XT.iushr X.here C.hx rfl (hb C.hby d) rfl k) K
theorem g_lshl {x : Int64} {y : Int32} (C : Cx p s m meth c Z own nm bytes maxL ret) (X : St p l e R s m A below meth c Z T h cells slots) (d : Dc bytes pc (.lshl) 1 pc')  (K : Goes p e below W T (mkF m pc' Ls (.long (x <<< (y &&& 0x3f).toInt64) :: st))) : Goes p e below W T (mkF m pc Ls (.int y :: .long x :: st)) := by
  obtain ⟨d, rfl⟩ := d
  exact Goes.via (fun _ k => XS.lshl X.here C.hx rfl (hb C.hby d) rfl k) K
theorem g_lshr {x : Int64} {y : Int32} (C : Cx p s m meth c Z own nm bytes maxL ret) (X : St p l e R s m A below meth c Z T h cells slots) (d : Dc bytes pc (.lshr) 1 pc')  (K : Goes p e below W T (mkF m pc' Ls (.long (x >>> (y &&& 0x3f).toInt64) :: st))) : Goes p e below W T (mkF m pc Ls (.int y :: .long x :: st)) := by
  obtain ⟨d, rfl⟩ := d
  exact Goes.via (fun _ k => XS.lshr X.here C.hx rfl (hb C.hby d) rfl k) K
theorem g_lushr {x : Int64} {y : Int32} (C : Cx p s m meth c Z own nm bytes maxL ret) (X : St p l e R s m A below meth c Z T h cells slots) (d : Dc bytes pc (.lushr) 1 pc')  (K : Goes p e below W T (mkF m pc' Ls (.long ((x.toUInt64 >>> (y &&& 0x3f).toInt64.toUInt64).toInt64) :: st))) : Goes p e below W T (mkF m pc Ls (.int y :: .long x :: st)) := by
  obtain ⟨d, rfl⟩ := d
  exact Goes.via (fun _ k => XS.lushr X.here C.hx rfl (hb C.hby d) rfl k) K
theorem g_i2l {x : Int32} (C : Cx p s m meth c Z own nm bytes maxL ret) (X : St p l e R s m A below meth c Z T h cells slots) (d : Dc bytes pc (.i2l) 1 pc')  (K : Goes p e below W T (mkF m pc' Ls (.long x.toInt64 :: st))) : Goes p e below W T (mkF m pc Ls (.int x :: st)) := by
  obtain ⟨d, rfl⟩ := d
  exact Goes.via (fun _ k => XT.i2l X.here C.hx rfl (hb C.hby d) rfl k) K
theorem g_l2i {x : Int64} (C : Cx p s m meth c Z own nm bytes maxL ret) (X : St p l e R s m A below meth c Z T h cells slots) (d : Dc bytes pc (.l2i) 1 pc')  (K : Goes p e below W T (mkF m pc' Ls (.int x.toInt32 :: st))) : Goes p e below W T (mkF m pc Ls (.long x :: st)) := by
  obtain ⟨d, rfl⟩ := d
  exact Goes.via (fun _ k => XT.l2i X.here C.hx rfl (hb C.hby d) rfl k) K
theorem g_i2b {x : Int32} (C : Cx p s m meth c Z own nm bytes maxL ret) (X : St p l e R s m A below meth c Z T h cells slots) (d : Dc bytes pc (.i2b) 1 pc')  (K : Goes p e below W T (mkF m pc' Ls (.int x.toInt8.toInt32 :: st))) : Goes p e below W T (mkF m pc Ls (.int x :: st)) := by
  obtain ⟨d, rfl⟩ := d
  exact Goes.via (fun _ k => XT.i2b X.here C.hx rfl (hb C.hby d) rfl k) K
theorem g_i2s {x : Int32} (C : Cx p s m meth c Z own nm bytes maxL ret) (X : St p l e R s m A below meth c Z T h cells slots) (d : Dc bytes pc (.i2s) 1 pc')  (K : Goes p e below W T (mkF m pc' Ls (.int x.toInt16.toInt32 :: st))) : Goes p e below W T (mkF m pc Ls (.int x :: st)) := by
  obtain ⟨d, rfl⟩ := d
  exact Goes.via (fun _ k => XT.i2s X.here C.hx rfl (hb C.hby d) rfl k) K
theorem g_i2c {x : Int32} (C : Cx p s m meth c Z own nm bytes maxL ret) (X : St p l e R s m A below meth c Z T h cells slots) (d : Dc bytes pc (.i2c) 1 pc')  (K : Goes p e below W T (mkF m pc' Ls (.int x.toUInt32.toUInt16.toUInt32.toInt32 :: st))) : Goes p e below W T (mkF m pc Ls (.int x :: st)) := by
  obtain ⟨d, rfl⟩ := d
  exact Goes.via (fun _ k => XT.i2c X.here C.hx rfl (hb C.hby d) rfl k) K
theorem g_lcmp {x y : Int64} (C : Cx p s m meth c Z own nm bytes maxL ret) (X : St p l e R s m A below meth c Z T h cells slots) (d : Dc bytes pc (.lcmp) 1 pc')  (K : Goes p e below W T (mkF m pc' Ls (.int (lcmpW x y) :: st))) : Goes p e below W T (mkF m pc Ls (.long y :: .long x :: st)) := by
  obtain ⟨d, rfl⟩ := d
  exact Goes.via (fun _ k => XT.lcmp X.here C.hx rfl (hb C.hby d) rfl k) K
theorem g_pop {x : Value} (C : Cx p s m meth c Z own nm bytes maxL ret) (X : St p l e R s m A below meth c Z T h cells slots) (d : Dc bytes pc (.pop) 1 pc') (hc : x.category = 1) (K : Goes p e below W T (mkF m pc' Ls st)) : Goes p e below W T (mkF m pc Ls (x :: st)) := by
  obtain ⟨d, rfl⟩ := d
  exact Goes.via (fun _ k => XT.pop X.here C.hx rfl (hb C.hby d) rfl hc k) K
theorem g_dup {x : Value} (C : Cx p s m meth c Z own nm bytes maxL ret) (X : St p l e R s m A below meth c Z T h cells slots) (d : Dc bytes pc (.dup) 1 pc') (hc : x.category = 1) (K : Goes p e below W T (mkF m pc' Ls (x :: x :: st))) : Goes p e below W T (mkF m pc Ls (x :: st)) := by
  obtain ⟨d, rfl⟩ := d
  exact Goes.via (fun _ k => XS.dup X.here C.hx rfl (hb C.hby d) rfl hc k) K
theorem g_dup_x1 {x y : Value} (C : Cx p s m meth c Z own nm bytes maxL ret) (X : St p l e R s m A below meth c Z T h cells slots) (d : Dc bytes pc (.dup_x1) 1 pc') (hc : x.category = 1) (hc' : y.category = 1) (K : Goes p e below W T (mkF m pc' Ls (x :: y :: x :: st))) : Goes p e below W T (mkF m pc Ls (x :: y :: st)) := by
  obtain ⟨d, rfl⟩ := d
  exact Goes.via (fun _ k => XT.dupX1 X.here C.hx rfl (hb C.hby d) rfl hc hc' k) K
theorem g_dup2 {x y : Value} (C : Cx p s m meth c Z own nm bytes maxL ret) (X : St p l e R s m A below meth c Z T h cells slots) (d : Dc bytes pc (.dup2) 1 pc') (hc : x.category = 1) (hc' : y.category = 1) (K : Goes p e below W T (mkF m pc' Ls (x :: y :: x :: y :: st))) : Goes p e below W T (mkF m pc Ls (x :: y :: st)) := by
  obtain ⟨d, rfl⟩ := d
  exact Goes.via (fun _ k => XT.dup2 X.here C.hx rfl (hb C.hby d) rfl hc hc' k) K
theorem g_dup2L {x : Int64} (C : Cx p s m meth c Z own nm bytes maxL ret) (X : St p l e R s m A below meth c Z T h cells slots) (d : Dc bytes pc (.dup2) 1 pc')  (K : Goes p e below W T (mkF m pc' Ls (.long x :: .long x :: st))) : Goes p e below W T (mkF m pc Ls (.long x :: st)) := by
  obtain ⟨d, rfl⟩ := d
  exact Goes.via (fun _ k => XT.dup2L X.here C.hx rfl (hb C.hby d) rfl k) K
theorem g_irem {x y : Int32} (C : Cx p s m meth c Z own nm bytes maxL ret) (X : St p l e R s m A below meth c Z T h cells slots) (d : Dc bytes pc .irem 1 pc') (hy : y ≠ 0) (K : Goes p e below W T (mkF m pc' Ls (.int (x % y) :: st))) : Goes p e below W T (mkF m pc Ls (.int y :: .int x :: st)) := by
  obtain ⟨d, rfl⟩ := d
  obtain ⟨_, Y, _⟩ := X
  exact Goes.via (fun _ k => iremM Y C.hx rfl (hb C.hby d) rfl hy k) K
theorem g_lrem {x y : Int64} (C : Cx p s m meth c Z own nm bytes maxL ret) (X : St p l e R s m A below meth c Z T h cells slots) (d : Dc bytes pc .lrem 1 pc') (hy : y ≠ 0) (K : Goes p e below W T (mkF m pc' Ls (.long (x % y) :: st))) : Goes p e below W T (mkF m pc Ls (.long y :: .long x :: st)) := by
  obtain ⟨d, rfl⟩ := d
  rw [← lrem_mod] at K
  exact Goes.via (fun _ k => XT.lrem X.here C.hx rfl (hb C.hby d) rfl hy k) K
theorem g_ldcI {index : Nat} {v : Int32} (C : Cx p s m meth c Z own nm bytes maxL ret) (X : St p l e R s m A below meth c Z T h cells slots) (w : (Jvm.Cond.constant own index v).before a0 Z = true) (d : Dc bytes pc (.ldc index) 2 pc') (K : Goes p e below W T (mkF m pc' Ls (.int v :: st))) : Goes p e below W T (mkF m pc Ls st) := by
  obtain ⟨d, rfl⟩ := d
  obtain ⟨_, Y, _⟩ := X
  exact Goes.via (fun t k => Y.ldcInt C.hx C.hown (mvT C.hZ w) (g := mkF m pc Ls st) rfl (hb C.hby d) t k) K
theorem g_ldcwI {index : Nat} {v : Int32} (C : Cx p s m meth c Z own nm bytes maxL ret) (X : St p l e R s m A below meth c Z T h cells slots) (w : (Jvm.Cond.constant own index v).before a0 Z = true) (d : Dc bytes pc (.ldc_w index) 3 pc') (K : Goes p e below W T (mkF m pc' Ls (.int v :: st))) : Goes p e below W T (mkF m pc Ls st) := by
  obtain ⟨d, rfl⟩ := d
  obtain ⟨_, Y, _⟩ := X
  exact Goes.via (fun t k => Y.ldcWI C.hx C.hown (mvT C.hZ w) (g := mkF m pc Ls st) rfl (hb C.hby d) k) K
theorem g_ldcJ {index : Nat} {v : Int64} (C : Cx p s m meth c Z own nm bytes maxL ret) (X : St p l e R s m A below meth c Z T h cells slots) (w : (Jvm.Cond.constantLong own index v).before a0 Z = true) (d : Dc bytes pc (.ldc2_w index) 3 pc') (K : Goes p e below W T (mkF m pc' Ls (.long v :: st))) : Goes p e below W T (mkF m pc Ls st) := by
  obtain ⟨d, rfl⟩ := d
  obtain ⟨_, Y, _⟩ := X
  exact Goes.via (fun t k => Y.ldc2Long C.hx C.hown (mvT C.hZ w) (g := mkF m pc Ls st) rfl (hb C.hby d) t k) K
theorem g_getstatic {R0 O n dd host : String} {index : Nat} {v : Value} (C : Cx p s m meth c Z own nm bytes maxL ret) (X : St p l e R s m A below meth c Z T h cells slots) (w : (Jvm.Cond.fieldLink own index R0 n dd).before a0 Z = true ∨ (Jvm.Cond.fieldLinkNest own index R0 n dd host).before a0 Z = true) (via : Via Z R0 O n dd) (F : Sta Z Z.heap O n dd v) (d : Dc bytes pc (.getstatic index) 3 pc')
    (K : ∀ T', St p l e R s m A below meth c Z T' h cells slots → Goes p e below W T' (mkF m pc' Ls (v :: st))) : Goes p e below W T (mkF m pc Ls st) := by
  obtain ⟨d, rfl⟩ := d
  obtain ⟨L, Y, eT, N, E⟩ := X
  obtain ⟨T', Y', e', q⟩ := getS2 Y C.hx C.hZ C.hown w via eT (F.ext E) (g := mkF m pc Ls st) rfl (hb C.hby d)
  exact Goes.via q (K T' ⟨L, Y', e', N, E⟩)
theorem g_getfield {R0 O n dd host : String} {index : Nat} {a : Addr} {v : Value} (C : Cx p s m meth c Z own nm bytes maxL ret) (X : St p l e R s m A below meth c Z T h cells slots) (w : (Jvm.Cond.fieldLink own index R0 n dd).before a0 Z = true ∨ (Jvm.Cond.fieldLinkNest own index R0 n dd host).before a0 Z = true) (via : Via Z R0 O n dd) (F : Fld Z h a O n dd v) (d : Dc bytes pc (.getfield index) 3 pc')
    (K : ∀ T', St p l e R s m A below meth c Z T' h cells slots → Goes p e below W T' (mkF m pc' Ls (v :: st))) : Goes p e below W T (mkF m pc Ls (.ref a :: st)) := by
  obtain ⟨d, rfl⟩ := d
  obtain ⟨L, Y, eT, N, E⟩ := X
  obtain ⟨T', Y', e', q⟩ := getF Y C.hx C.hZ C.hown w via eT F (g := mkF m pc Ls (.ref a :: st)) rfl rfl (hb C.hby d)
  exact Goes.via q (K T' ⟨L, Y', e', N, E⟩)
theorem ext_wr {h h' : Heap} {a : Addr} {sl : Nat} {v : Value} (E : Ext Z.heap h) (w : Wr h h' a sl v) (q : Z.heap.size ≤ a) : Ext Z.heap h' := (Old.wr (Z := Z) (n0 := Z.heap.size) (h := h) ⟨rfl, E⟩ w q).2
theorem ext_keep {h h' : Heap} {ws : List Addr} (E : Ext Z.heap h) (w : Keep h h' ws) (q : ∀ x ∈ ws, Z.heap.size ≤ x) : Ext Z.heap h' := (Old.keep (Z := Z) (n0 := Z.heap.size) (h := h) ⟨rfl, E⟩ w q).2
theorem ext_trans {h h' : Heap} (E : Ext Z.heap h) (E' : Ext h h') : Ext Z.heap h' := ⟨Nat.le_trans E.1 E'.1, fun x c q => E'.2 x c (E.2 x c q)⟩
theorem g_putfield {R0 O n dd host K0 : String} {index kk : Nat} {ty : FieldType} {a : Addr} {v old : Value} (C : Cx p s m meth c Z own nm bytes maxL ret) (X : St p l e R s m A below meth c Z T h cells slots) (w : (Jvm.Cond.fieldLink own index R0 n dd).before a0 Z = true ∨ (Jvm.Cond.fieldLinkNest own index R0 n dd host).before a0 Z = true) (via : Via Z R0 O n dd)
    (F : Fld Z h a O n dd old) (Ex : Exa Z h a K0) (L : (Jvm.Cond.lays K0 O n dd).before a0 Z = true ∨ ((Jvm.Cond.laysFinal K0 O n dd).before a0 Z = true ∧ own = O ∧ nm = "<init>")) (wi : (Jvm.Cond.instantiable K0 kk).before a0 Z = true) (hty : parseFieldDescriptor dd = some ty) (hn : narrow ty v = v) (hf : fits ty v = true) (hnew : Z.heap.size ≤ a) (d : Dc bytes pc (.putfield index) 3 pc')
    (K : ∀ T' h', St p l e R s m A below meth c Z T' h' cells slots → Wr h h' a (RoadKit.slotOf Z O n dd) v → Goes p e below W T' (mkF m pc' Ls st)) : Goes p e below W T (mkF m pc Ls (v :: .ref a :: st)) := by
  obtain ⟨d, rfl⟩ := d
  obtain ⟨L0, Y, eT, N, E⟩ := X
  obtain ⟨T', h', Y', e', W', q⟩ := putF Y C.hx C.hZ C.hown w via eT F Ex (L.imp id fun z => ⟨z.1, z.2.1, C.hnm.trans z.2.2⟩) wi hty hn hf (g := mkF m pc Ls (v :: .ref a :: st)) rfl rfl (hb C.hby d)
  exact Goes.via q (K T' h' ⟨_, Y', e', Fr.snoc Y' N hnew, ext_wr E W' hnew⟩ W')
theorem g_new {K0 : String} {index n : Nat} (C : Cx p s m meth c Z own nm bytes maxL ret) (X : St p l e R s m A below meth c Z T h cells slots) (w : (Jvm.Cond.classLink own index K0).before a0 Z = true) (wi : (Jvm.Cond.instantiable K0 n).before a0 Z = true) (wz : (Jvm.Cond.initialized K0).before a0 Z = true) (d : Dc bytes pc (.new index) 3 pc') (hc : cells + 1 ≤ R.cells) (hl : slots + n ≤ R.slots)
    (K : ∀ T' h' b, b = h.size → Z.heap.size ≤ b → St p l e R s m A below meth c Z T' h' (cells + 1) (slots + n) → Ext h h' → Exa Z h' b K0 → (∀ {O f dd : String} {ty : FieldType}, Laid Z a0 K0 O f dd → parseFieldDescriptor dd = some ty → Fld Z h' b O f dd (defaultValue ty)) → (∃ cell : Cell, h'[b]? = some cell ∧ cell.vm = .none ∧ cell.monitor = {}) → Goes p e below W T' (mkF m pc' Ls (.ref b :: st))) : Goes p e below W T (mkF m pc Ls st) := by
  obtain ⟨d, rfl⟩ := d
  obtain ⟨L0, Y, eT, N, E⟩ := X
  obtain ⟨T', h', Y', e', E', A', D', M', q⟩ := newO Y C.hx C.hZ C.hown w wi wz eT (g := mkF m pc Ls st) rfl (hb C.hby d) hc hl
  exact Goes.via q (K T' h' _ rfl E.1 ⟨_, Y', e', N, ext_trans E E'⟩ E' A' D' M')
theorem g_newarray {aty : ArrayType} {n : Int32} (C : Cx p s m meth c Z own nm bytes maxL ret) (X : St p l e R s m A below meth c Z T h cells slots) (w : (Jvm.Cond.arrayClass (newarray.typeOf aty)).before a0 Z = true) (d : Dc bytes pc (.newarray aty) 2 pc') (hn : ¬ n < 0) (len cap : Nat) (hcap : n.toNatClampNeg ≤ cap) (hb' : cap * 8 ≤ 536870912) (hc : cells + 1 ≤ R.cells) (hl : slots + cap ≤ R.slots)
    (K : ∀ T' h' b k, b = h.size → Z.heap.size ≤ b → St p l e R s m A below meth c Z T' h' (cells + 1) (slots + cap) → Ext h h' → Arv Z h' b k (newarray.typeOf aty) n (List.replicate len (defaultValue (newarray.typeOf aty))) (defaultValue (newarray.typeOf aty)) → Goes p e below W T' (mkF m pc' Ls (.ref b :: st))) : Goes p e below W T (mkF m pc Ls (.int n :: st)) := by
  obtain ⟨d, rfl⟩ := d
  obtain ⟨L0, Y, eT, N, E⟩ := X
  obtain ⟨T', h', k, Y', e', E', A', q⟩ := newP Y C.hx C.hZ w eT (g := mkF m pc Ls (.int n :: st)) rfl (hb C.hby d) rfl hn hcap hb' hc hl
  exact Goes.via q (K T' h' _ k rfl E.1 ⟨_, Y', e', N, ext_trans E E'⟩ E' ((Arv.new A' hn).pad (pad_rep [] _ len)))
theorem g_checkcast {K0 : String} {index : Nat} {a : Addr} (C : Cx p s m meth c Z own nm bytes maxL ret) (X : St p l e R s m A below meth c Z T h cells slots) (w : (Jvm.Cond.classLink own index K0).before a0 Z = true) (F : Ins Z h a K0 true) (d : Dc bytes pc (.checkcast index) 3 pc')
    (K : ∀ T', St p l e R s m A below meth c Z T' h cells slots → Goes p e below W T' (mkF m pc' Ls (.ref a :: st))) : Goes p e below W T (mkF m pc Ls (.ref a :: st)) := by
  obtain ⟨d, rfl⟩ := d
  obtain ⟨L, Y, eT, N, E⟩ := X
  obtain ⟨T', Y', e', q⟩ := castY Y C.hx C.hZ C.hown w eT F (g := mkF m pc Ls (.ref a :: st)) rfl rfl (hb C.hby d)
  exact Goes.via q (K T' ⟨L, Y', e', N, E⟩)
theorem g_checkcastN {index : Nat} (C : Cx p s m meth c Z own nm bytes maxL ret) (X : St p l e R s m A below meth c Z T h cells slots) (d : Dc bytes pc (.checkcast index) 3 pc') (K : Goes p e below W T (mkF m pc' Ls (.null :: st))) : Goes p e below W T (mkF m pc Ls (.null :: st)) := by
  obtain ⟨d, rfl⟩ := d
  obtain ⟨L, Y, eT, N, E⟩ := X
  exact Goes.via (Y.checkcastNull C.hx (g := mkF m pc Ls (.null :: st)) rfl rfl (hb C.hby d)) K
theorem g_instanceY {K0 : String} {index : Nat} {a : Addr} (C : Cx p s m meth c Z own nm bytes maxL ret) (X : St p l e R s m A below meth c Z T h cells slots) (w : (Jvm.Cond.classLink own index K0).before a0 Z = true) (F : Ins Z h a K0 true) (d : Dc bytes pc (.instanceof index) 3 pc')
    (K : ∀ T', St p l e R s m A below meth c Z T' h cells slots → Goes p e below W T' (mkF m pc' Ls (.int 1 :: st))) : Goes p e below W T (mkF m pc Ls (.ref a :: st)) := by
  obtain ⟨d, rfl⟩ := d
  obtain ⟨L, Y, eT, N, E⟩ := X
  obtain ⟨T', Y', e', q⟩ := instY Y C.hx C.hZ C.hown w eT F (g := mkF m pc Ls (.ref a :: st)) rfl rfl (hb C.hby d)
  exact Goes.via q (K T' ⟨L, Y', e', N, E⟩)
theorem g_instanceN {index : Nat} (C : Cx p s m meth c Z own nm bytes maxL ret) (X : St p l e R s m A below meth c Z T h cells slots) (d : Dc bytes pc (.instanceof index) 3 pc') (K : Goes p e below W T (mkF m pc' Ls (.int 0 :: st))) : Goes p e below W T (mkF m pc Ls (.null :: st)) := by
  obtain ⟨d, rfl⟩ := d
  obtain ⟨L, Y, eT, N, E⟩ := X
  exact Goes.via (Y.instanceofNull C.hx (g := mkF m pc Ls (.null :: st)) rfl rfl (hb C.hby d)) K
theorem keep_ext {h h' : Heap} (K : Keep h h' []) : Ext h h' := ⟨K.1, fun x c q => K.2.1 x c q nin0⟩
theorem ext_keep0 {h h' : Heap} (E : Ext h h') (ws : List Addr) : Keep h h' ws := (Keep.refl h ws).ext E
/-- a place of an array -/
theorem in_of {n j : Int32} {c : Cell} (S : c.slots.size = n.toNatClampNeg) (hj : ¬ j < 0) (hj' : j < n) : ¬ (j < 0 ∨ c.slots.size ≤ j.toNatClampNeg) := inb_of S ⟨hj, hj'⟩
theorem g_arraylength {a : Addr} {k : ClassId} {ty : FieldType} {n : Int32} {vs : List Value} {dv : Value} (C : Cx p s m meth c Z own nm bytes maxL ret) (X : St p l e R s m A below meth c Z T h cells slots) (F : Arv Z h a k ty n vs dv) (d : Dc bytes pc .arraylength 1 pc') (K : Goes p e below W T (mkF m pc' Ls (.int n :: st))) : Goes p e below W T (mkF m pc Ls (.ref a :: st)) := by
  obtain ⟨d, rfl⟩ := d
  obtain ⟨L0, Y, eT, N, E⟩ := X
  obtain ⟨cl, Ar, -, hS, hN, -, -⟩ := F
  rw [← len_of hS hN] at K
  exact Goes.via (Y.arraylength C.hx (by rw [eT]; exact Ar.1) (State.isArrayOf_alike C.hZ.alike Ar.2.1) (g := mkF m pc Ls (.ref a :: st)) rfl rfl (hb C.hby d)) K
theorem g_iaload {a : Addr} {k : ClassId} {n j : Int32} {vs : List Value} {dv : Value} {v : Int32} (C : Cx p s m meth c Z own nm bytes maxL ret) (X : St p l e R s m A below meth c Z T h cells slots) (F : Arv Z h a k .int n vs dv) (d : Dc bytes pc .iaload 1 pc') (hj : ¬ j < 0) (hj' : j < n) (hv : vs.getD j.toNatClampNeg dv = .int v) (K : Goes p e below W T (mkF m pc' Ls (.int v :: st))) : Goes p e below W T (mkF m pc Ls (.int j :: .ref a :: st)) := by
  obtain ⟨d, rfl⟩ := d
  obtain ⟨L0, Y, eT, N, E⟩ := X
  obtain ⟨cl, Ar, -, hS, hN, hH, -⟩ := F
  have hin := in_of hS hj hj'
  exact Goes.via (Y.iaload C.hx (j := j) (v := .int v) (by rw [eT]; exact Ar.1) (State.isArrayOf_alike C.hZ.alike Ar.2.1) Ar.2.2 hin (hH.at hin hv) (g := mkF m pc Ls (.int j :: .ref a :: st)) rfl rfl (hb C.hby d)) K
theorem g_caload {a : Addr} {k : ClassId} {n j : Int32} {vs : List Value} {dv : Value} {v : Int32} (C : Cx p s m meth c Z own nm bytes maxL ret) (X : St p l e R s m A below meth c Z T h cells slots) (F : Arv Z h a k .char n vs dv) (d : Dc bytes pc .caload 1 pc') (hj : ¬ j < 0) (hj' : j < n) (hv : vs.getD j.toNatClampNeg dv = .int v) (K : Goes p e below W T (mkF m pc' Ls (.int v :: st))) : Goes p e below W T (mkF m pc Ls (.int j :: .ref a :: st)) := by
  obtain ⟨d, rfl⟩ := d
  obtain ⟨L0, Y, eT, N, E⟩ := X
  obtain ⟨cl, Ar, -, hS, hN, hH, -⟩ := F
  have hin := in_of hS hj hj'
  exact Goes.via (Y.caload C.hx (j := j) (v := .int v) (by rw [eT]; exact Ar.1) (State.isArrayOf_alike C.hZ.alike Ar.2.1) Ar.2.2 hin (hH.at hin hv) (g := mkF m pc Ls (.int j :: .ref a :: st)) rfl rfl (hb C.hby d)) K
theorem g_saload {a : Addr} {k : ClassId} {n j : Int32} {vs : List Value} {dv : Value} {v : Int32} (C : Cx p s m meth c Z own nm bytes maxL ret) (X : St p l e R s m A below meth c Z T h cells slots) (F : Arv Z h a k .short n vs dv) (d : Dc bytes pc .saload 1 pc') (hj : ¬ j < 0) (hj' : j < n) (hv : vs.getD j.toNatClampNeg dv = .int v) (K : Goes p e below W T (mkF m pc' Ls (.int v :: st))) : Goes p e below W T (mkF m pc Ls (.int j :: .ref a :: st)) := by
  obtain ⟨d, rfl⟩ := d
  obtain ⟨L0, Y, eT, N, E⟩ := X
  obtain ⟨cl, Ar, -, hS, hN, hH, -⟩ := F
  have hin := in_of hS hj hj'
  exact Goes.via (Y.saload C.hx (j := j) (v := .int v) (by rw [eT]; exact Ar.1) (State.isArrayOf_alike C.hZ.alike Ar.2.1) Ar.2.2 hin (hH.at hin hv) (g := mkF m pc Ls (.int j :: .ref a :: st)) rfl rfl (hb C.hby d)) K
theorem g_baload {a : Addr} {k : ClassId} {n j : Int32} {vs : List Value} {dv : Value} {v : Int32} (C : Cx p s m meth c Z own nm bytes maxL ret) (X : St p l e R s m A below meth c Z T h cells slots) (F : Arv Z h a k .byte n vs dv) (d : Dc bytes pc .baload 1 pc') (hj : ¬ j < 0) (hj' : j < n) (hv : vs.getD j.toNatClampNeg dv = .int v) (K : Goes p e below W T (mkF m pc' Ls (.int v :: st))) : Goes p e below W T (mkF m pc Ls (.int j :: .ref a :: st)) := by
  obtain ⟨d, rfl⟩ := d
  obtain ⟨L0, Y, eT, N, E⟩ := X
  obtain ⟨cl, Ar, -, hS, hN, hH, -⟩ := F
  have hin := in_of hS hj hj'
  exact Goes.via (Y.baloadBytes C.hx (j := j) (v := .int v) (by rw [eT]; exact Ar.1) (State.isArrayOf_alike C.hZ.alike Ar.2.1) Ar.2.2 hin (hH.at hin hv) (g := mkF m pc Ls (.int j :: .ref a :: st)) rfl rfl (hb C.hby d)) K
theorem g_laload {a : Addr} {k : ClassId} {n j : Int32} {vs : List Value} {dv : Value} {v : Int64} (C : Cx p s m meth c Z own nm bytes maxL ret) (X : St p l e R s m A below meth c Z T h cells slots) (F : Arv Z h a k .long n vs dv) (d : Dc bytes pc .laload 1 pc') (hj : ¬ j < 0) (hj' : j < n) (hv : vs.getD j.toNatClampNeg dv = .long v) (K : Goes p e below W T (mkF m pc' Ls (.long v :: st))) : Goes p e below W T (mkF m pc Ls (.int j :: .ref a :: st)) := by
  obtain ⟨d, rfl⟩ := d
  obtain ⟨L0, Y, eT, N, E⟩ := X
  obtain ⟨cl, Ar, -, hS, hN, hH, -⟩ := F
  have hin := in_of hS hj hj'
  exact Goes.via (Y.laload C.hx (j := j) (v := .long v) (by rw [eT]; exact Ar.1) (State.isArrayOf_alike C.hZ.alike Ar.2.1) Ar.2.2 hin (hH.at hin hv) (g := mkF m pc Ls (.int j :: .ref a :: st)) rfl rfl (hb C.hby d)) K
theorem g_aaload {a : Addr} {k : ClassId} {ty : FieldType} {n j : Int32} {vs : List Value} {dv v : Value} (C : Cx p s m meth c Z own nm bytes maxL ret) (X : St p l e R s m A below meth c Z T h cells slots) (F : Arv Z h a k ty n vs dv) (hty : ty.isReference = true) (d : Dc bytes pc .aaload 1 pc') (hj : ¬ j < 0) (hj' : j < n) (hv : vs.getD j.toNatClampNeg dv = v) (K : Goes p e below W T (mkF m pc' Ls (v :: st))) : Goes p e below W T (mkF m pc Ls (.int j :: .ref a :: st)) := by
  obtain ⟨d, rfl⟩ := d
  obtain ⟨L0, Y, eT, N, E⟩ := X
  obtain ⟨cl, Ar, -, hS, hN, hH, -⟩ := F
  have hin := in_of hS hj hj'
  exact Goes.via (Y.aaload C.hx (j := j) (v := v) (by rw [eT]; exact Ar.1) (State.isArrayOf_alike C.hZ.alike Ar.2.1) hty Ar.2.2 hin (hH.at hin hv) (g := mkF m pc Ls (.int j :: .ref a :: st)) rfl rfl (hb C.hby d)) K
theorem g_iastore {a : Addr} {k : ClassId} {n j : Int32} {vs : List Value} {dv : Value} {x : Int32} (C : Cx p s m meth c Z own nm bytes maxL ret) (X : St p l e R s m A below meth c Z T h cells slots) (F : Arv Z h a k .int n vs dv) (hnew : Z.heap.size ≤ a) (d : Dc bytes pc .iastore 1 pc') (hj : ¬ j < 0) (hj' : j < n) (hi : j.toNatClampNeg < vs.length) (y : Value) (hy : .int x = y)
    (K : ∀ T' h', St p l e R s m A below meth c Z T' h' cells slots → Wr h h' a j.toNatClampNeg y → Arv Z h' a k .int n (vs.set j.toNatClampNeg y) dv → Goes p e below W T' (mkF m pc' Ls st)) : Goes p e below W T (mkF m pc Ls (.int x :: .int j :: .ref a :: st)) := by
  subst hy
  obtain ⟨d, rfl⟩ := d
  obtain ⟨L0, Y, eT, N, E⟩ := X
  obtain ⟨cl, Ar, q1, hS, hN, hH, hG⟩ := F
  have hin := in_of hS hj hj'
  obtain ⟨T', h', Y', e', W', q⟩ := stI Y C.hx C.hZ eT Ar hin (g := mkF m pc Ls (.int x :: .int j :: .ref a :: st)) rfl rfl (hb C.hby d)
  exact Goes.via q (K T' h' ⟨_, Y', e', Fr.snoc Y' N hnew, ext_wr E W' hnew⟩ W' (Arv.set Ar q1 hS hN hH hG rfl W' _ rfl hi))
theorem g_castore {a : Addr} {k : ClassId} {n j : Int32} {vs : List Value} {dv : Value} {x : Int32} (C : Cx p s m meth c Z own nm bytes maxL ret) (X : St p l e R s m A below meth c Z T h cells slots) (F : Arv Z h a k .char n vs dv) (hnew : Z.heap.size ≤ a) (d : Dc bytes pc .castore 1 pc') (hj : ¬ j < 0) (hj' : j < n) (hi : j.toNatClampNeg < vs.length) (y : Value) (hy : .int (nar .char x) = y)
    (K : ∀ T' h', St p l e R s m A below meth c Z T' h' cells slots → Wr h h' a j.toNatClampNeg y → Arv Z h' a k .char n (vs.set j.toNatClampNeg y) dv → Goes p e below W T' (mkF m pc' Ls st)) : Goes p e below W T (mkF m pc Ls (.int x :: .int j :: .ref a :: st)) := by
  subst hy
  obtain ⟨d, rfl⟩ := d
  obtain ⟨L0, Y, eT, N, E⟩ := X
  obtain ⟨cl, Ar, q1, hS, hN, hH, hG⟩ := F
  have hin := in_of hS hj hj'
  obtain ⟨T', h', Y', e', W', q⟩ := stC Y C.hx C.hZ eT Ar hin (g := mkF m pc Ls (.int x :: .int j :: .ref a :: st)) rfl rfl (hb C.hby d)
  exact Goes.via q (K T' h' ⟨_, Y', e', Fr.snoc Y' N hnew, ext_wr E W' hnew⟩ W' (Arv.set Ar q1 hS hN hH hG (fits_nar_char _) W' _ rfl hi))
theorem g_sastore {a : Addr} {k : ClassId} {n j : Int32} {vs : List Value} {dv : Value} {x : Int32} (C : Cx p s m meth c Z own nm bytes maxL ret) (X : St p l e R s m A below meth c Z T h cells slots) (F : Arv Z h a k .short n vs dv) (hnew : Z.heap.size ≤ a) (d : Dc bytes pc .sastore 1 pc') (hj : ¬ j < 0) (hj' : j < n) (hi : j.toNatClampNeg < vs.length) (y : Value) (hy : .int (nar .short x) = y)
    (K : ∀ T' h', St p l e R s m A below meth c Z T' h' cells slots → Wr h h' a j.toNatClampNeg y → Arv Z h' a k .short n (vs.set j.toNatClampNeg y) dv → Goes p e below W T' (mkF m pc' Ls st)) : Goes p e below W T (mkF m pc Ls (.int x :: .int j :: .ref a :: st)) := by
  subst hy
  obtain ⟨d, rfl⟩ := d
  obtain ⟨L0, Y, eT, N, E⟩ := X
  obtain ⟨cl, Ar, q1, hS, hN, hH, hG⟩ := F
  have hin := in_of hS hj hj'
  obtain ⟨T', h', Y', e', W', q⟩ := stS Y C.hx C.hZ eT Ar hin (g := mkF m pc Ls (.int x :: .int j :: .ref a :: st)) rfl rfl (hb C.hby d)
  exact Goes.via q (K T' h' ⟨_, Y', e', Fr.snoc Y' N hnew, ext_wr E W' hnew⟩ W' (Arv.set Ar q1 hS hN hH hG (fits_nar_short _) W' _ rfl hi))
theorem g_bastore {a : Addr} {k : ClassId} {n j : Int32} {vs : List Value} {dv : Value} {x : Int32} (C : Cx p s m meth c Z own nm bytes maxL ret) (X : St p l e R s m A below meth c Z T h cells slots) (F : Arv Z h a k .byte n vs dv) (hnew : Z.heap.size ≤ a) (d : Dc bytes pc .bastore 1 pc') (hj : ¬ j < 0) (hj' : j < n) (hi : j.toNatClampNeg < vs.length) (y : Value) (hy : .int (nar .byte x) = y)
    (K : ∀ T' h', St p l e R s m A below meth c Z T' h' cells slots → Wr h h' a j.toNatClampNeg y → Arv Z h' a k .byte n (vs.set j.toNatClampNeg y) dv → Goes p e below W T' (mkF m pc' Ls st)) : Goes p e below W T (mkF m pc Ls (.int x :: .int j :: .ref a :: st)) := by
  subst hy
  obtain ⟨d, rfl⟩ := d
  obtain ⟨L0, Y, eT, N, E⟩ := X
  obtain ⟨cl, Ar, q1, hS, hN, hH, hG⟩ := F
  have hin := in_of hS hj hj'
  obtain ⟨T', h', Y', e', W', q⟩ := stB Y C.hx C.hZ eT Ar hin (g := mkF m pc Ls (.int x :: .int j :: .ref a :: st)) rfl rfl (hb C.hby d)
  exact Goes.via q (K T' h' ⟨_, Y', e', Fr.snoc Y' N hnew, ext_wr E W' hnew⟩ W' (Arv.set Ar q1 hS hN hH hG (fits_nar_byte _) W' _ rfl hi))
theorem g_lastore {a : Addr} {k : ClassId} {n j : Int32} {vs : List Value} {dv : Value} {x : Int64} (C : Cx p s m meth c Z own nm bytes maxL ret) (X : St p l e R s m A below meth c Z T h cells slots) (F : Arv Z h a k .long n vs dv) (hnew : Z.heap.size ≤ a) (d : Dc bytes pc .lastore 1 pc') (hj : ¬ j < 0) (hj' : j < n) (hi : j.toNatClampNeg < vs.length) (y : Value) (hy : .long x = y)
    (K : ∀ T' h', St p l e R s m A below meth c Z T' h' cells slots → Wr h h' a j.toNatClampNeg y → Arv Z h' a k .long n (vs.set j.toNatClampNeg y) dv → Goes p e below W T' (mkF m pc' Ls st)) : Goes p e below W T (mkF m pc Ls (.long x :: .int j :: .ref a :: st)) := by
  subst hy
  obtain ⟨d, rfl⟩ := d
  obtain ⟨L0, Y, eT, N, E⟩ := X
  obtain ⟨cl, Ar, q1, hS, hN, hH, hG⟩ := F
  have hin := in_of hS hj hj'
  obtain ⟨T', h', Y', e', W', q⟩ := stJ Y C.hx C.hZ eT Ar hin (g := mkF m pc Ls (.long x :: .int j :: .ref a :: st)) rfl rfl (hb C.hby d)
  exact Goes.via q (K T' h' ⟨_, Y', e', Fr.snoc Y' N hnew, ext_wr E W' hnew⟩ W' (Arv.set Ar q1 hS hN hH hG rfl W' _ rfl hi))
theorem st_back {T' : State} {h' : Heap} {k n : Nat} {B : Pt} {locs L : List Loc} (Y' : Stand p l e R s m A below meth c B.U B.locs B.cells B.slots) (hB : B.locs = locs ++ L ∧ B.cells = cells + k ∧ B.slots = slots + n) (N : Fr Z.heap.size locs) (N' : Fr Z.heap.size L) (E : Ext Z.heap B.U.heap) : St p l e R s m A below meth c Z B.U B.U.heap (cells + k) (slots + n) := by
  obtain ⟨b1, b2, b3⟩ := hB
  rw [b1, b2, b3] at Y'
  exact ⟨_, Y', rfl, N.app N', E⟩
theorem g_arraycopy {index : Nat} {a b : Addr} {k k' : ClassId} {ty : FieldType} {z z' sp dp nn : Int32} {vs vd : List Value} {dv dd : Value} (C : Cx p s m meth c Z own nm bytes maxL ret) (X : St p l e R s m A below meth c Z T h cells slots)
    (w1 : (Jvm.Cond.methodLink own index Jvm.Stand.acN).before a0 Z = true) (w2 : (Jvm.Cond.native Jvm.Stand.acN).before a0 Z = true) (w3 : (Jvm.Cond.static Jvm.Stand.acN).before a0 Z = true) (w4 : (Jvm.Cond.initialized "java/lang/System").before a0 Z = true)
    (F : Arv Z h a k ty z vs dv) (G : Arv Z h b k' ty z' vd dd) (hty : refKind ty = false) (h1 : ¬ sp < 0) (h2 : ¬ dp < 0) (h3 : ¬ nn < 0) (h4 : sp.toNatClampNeg + nn.toNatClampNeg ≤ z.toNatClampNeg) (h5 : dp.toNatClampNeg + nn.toNatClampNeg ≤ z'.toNatClampNeg)
    (us : List Value) (hus : us = (List.range nn.toNatClampNeg).map fun i => vs.getD (sp.toNatClampNeg + i) dv) (hl : dp.toNatClampNeg + nn.toNatClampNeg ≤ vd.length) (hnew : Z.heap.size ≤ b) (hsz : Ls.size = maxL) (d : Dc bytes pc (.invokestatic index) 3 pc') (hf : 1 ≤ R.frames) (W' : Nat) (hW : (st.map fun v => v.category).sum ≤ W') (hlo : W' + (nativeFrameWords "java/lang/System" "arraycopy" 5 + 11) ≤ R.locals)
    (K : ∀ T' h', St p l e R s m A below meth c Z T' h' cells slots → Keep h h' [b] → Arv Z h' b k' ty z' (vd.take dp.toNatClampNeg ++ us ++ vd.drop (dp.toNatClampNeg + nn.toNatClampNeg)) dd → Goes p e below W T' (mkF m pc' Ls st)) : Goes p e below W T (mkF m pc Ls (.int nn :: .int dp :: .ref b :: .int sp :: .ref a :: st)) := by
  obtain ⟨d, rfl⟩ := d
  obtain ⟨L0, Y, eT, N, E⟩ := X
  obtain ⟨T', h', L', Y', e', N', K', A', q⟩ := cpA Y C.hx C.hZ C.hown w1 w2 w3 w4 eT F G (Or.inl ⟨rfl, hty⟩) h1 h2 h3 h4 h5 hus hl N hnew (g := mkF m pc Ls (.int nn :: .int dp :: .ref b :: .int sp :: .ref a :: st)) rfl (hsz.trans C.hml.symm) rfl (hb C.hby d) hf (W := W') (by show 2 * 0 + _ ≤ _; omega) hlo
  exact Goes.via q (K T' h' ⟨L', Y', e', N', ext_keep E K' (allS hnew all0)⟩ K' A')
/-- a Back that serves a call: what a contract pays -/
def Pay (l : Launch) (R : Room) (p : Program) (e : Env) (below : List Frame) (s : State) (A : Array Value) (y : MethodName) (len W k n : Nat) (Z : State) (as' : Array Value) (h : Heap) (Q : Option Value → Heap → Prop) : Prop :=
  Back l R p e below s A y len W (fun P a => a = as' ∧ P.U.heap = h ∧ P.cells + k ≤ R.cells ∧ P.slots + n ≤ R.slots)
    (fun P _ v B => ∃ L, (Fr Z.heap.size L ∧ Ext Z.heap B.U.heap ∧ Q v B.U.heap) ∧ B.locs = P.locs ++ L ∧ B.cells = P.cells + k ∧ B.slots = P.slots + n)
theorem pay_of {y : MethodName} {bytes' : ByteArray} {maxL' len W' : Nat} {ret' : Option FieldType} {rm : Room} {as' : Array Value} {Q : Option Value → Heap → Prop} (hM : Con l y bytes' maxL' ret' [] rm Z as' h Q) (hZ : Z.Warmed39 s.vm) (wc : (Jvm.Cond.code y bytes' maxL' ret').before a0 Z = true) (wz : (Jvm.Cond.initialized y.cls).before a0 Z = true) (hf : rm.frames + 1 ≤ R.frames) (hl : W' + (maxL' + 11) + rm.locals ≤ R.locals) :
    Pay l R p e below s A y len W' rm.cells rm.slots Z as' h Q := backOf (Q := fun v h' L => Fr Z.heap.size L ∧ Ext Z.heap h' ∧ Q v h') hM hZ wc wz hf hl
theorem g_static {index k n : Nat} {y : MethodName} {bytes' : ByteArray} {maxL' W' : Nat} {ret' : Option FieldType} {argsL : List Value} {Q : Option Value → Heap → Prop} {ps : List FieldType} {rt : Option FieldType} (C : Cx p s m meth c Z own nm bytes maxL ret) (X : St p l e R s m A below meth c Z T h cells slots)
    (w1 : (Jvm.Cond.methodLink own index y).before a0 Z = true) (w2 : (Jvm.Cond.static y).before a0 Z = true) (w3 : (Jvm.Cond.initialized y.cls).before a0 Z = true) (w4 : (Jvm.Cond.code y bytes' maxL' ret').before a0 Z = true) (hy : y.cls ≠ "java/lang/invoke/MethodHandle" ∧ y.cls ≠ "java/lang/invoke/VarHandle")
    (hK : Pay l R p e below s A y 3 W' k n Z argsL.toArray h Q) (pd : parseMethodDescriptor y.desc = some ⟨ps, rt⟩) (hlen : argsL.length = ps.length) (hsz : Ls.size = maxL) (stk : List Value) (hst : stk = argsL.reverse ++ st) (hW : (st.map fun v => v.category).sum ≤ W') (d : Dc bytes pc (.invokestatic index) 3 pc') (hc : cells + k ≤ R.cells) (hs : slots + n ≤ R.slots)
    (K : ∀ T' h' v, Q v h' → St p l e R s m A below meth c Z T' h' (cells + k) (slots + n) → Goes p e below W T' (mkF m pc' Ls (v.toList ++ st))) : Goes p e below W T (mkF m pc Ls stk) := by
  obtain ⟨d, rfl⟩ := d
  obtain ⟨L0, Y, eT, N, E⟩ := X
  obtain ⟨v, vm₁, B, -, Y', ⟨L, ⟨N', E', hQ⟩, hB⟩, q⟩ := Jvm.LawKit.callS Y C.hx C.hown (mvT C.hZ w1) (mvT C.hZ w2) (mvT C.hZ w3) (mvT C.hZ w4) hy hK (g := mkF m pc Ls stk) rfl (hsz.trans C.hml.symm) (argsL := argsL) (rest := st) (lenOf pd hlen) hst (by show 2 * 0 + _ ≤ _; omega) (hb C.hby d) (fun _ _ => ⟨rfl, eT, hc, hs⟩)
  exact Goes.via q (K _ _ v hQ (st_back (T' := T) (h' := h) Y' hB N N' E'))
theorem g_special {index k n : Nat} {y : MethodName} {bytes' : ByteArray} {maxL' W' : Nat} {argsL : List Value} {Q : Option Value → Heap → Prop} {ps : List FieldType} {rt : Option FieldType} {a : Addr} (C : Cx p s m meth c Z own nm bytes maxL ret) (X : St p l e R s m A below meth c Z T h cells slots) (hi : y.name = "<init>")
    (w1 : (Jvm.Cond.methodLink own index y).before a0 Z = true) (w2 : (Jvm.Cond.instanceMethod y).before a0 Z = true) (w4 : (Jvm.Cond.code y bytes' maxL' none).before a0 Z = true) (hy : y.cls ≠ "java/lang/invoke/MethodHandle" ∧ y.cls ≠ "java/lang/invoke/VarHandle")
    (hK : Pay l R p e below s A y 3 W' k n Z (.ref a :: argsL).toArray h Q) (pd : parseMethodDescriptor y.desc = some ⟨ps, rt⟩) (hlen : argsL.length = ps.length) (hsz : Ls.size = maxL) (stk : List Value) (hst : stk = argsL.reverse ++ .ref a :: st) (hW : (st.map fun v => v.category).sum ≤ W') (d : Dc bytes pc (.invokespecial index) 3 pc') (hc : cells + k ≤ R.cells) (hs : slots + n ≤ R.slots)
    (K : ∀ T' h' v, Q v h' → St p l e R s m A below meth c Z T' h' (cells + k) (slots + n) → Goes p e below W T' (mkF m pc' Ls (v.toList ++ st))) : Goes p e below W T (mkF m pc Ls stk) := by
  obtain ⟨d, rfl⟩ := d
  obtain ⟨L0, Y, eT, N, E⟩ := X
  obtain ⟨v, vm₁, B, -, Y', ⟨L, ⟨N', E', hQ⟩, hB⟩, q⟩ := Y.specialBack C.hx (y := y) hi C.hown (mvT C.hZ w1) (mvT C.hZ w2) (mvT C.hZ w4) hy hK (g := mkF m pc Ls stk) rfl (hsz.trans C.hml.symm) (Steps.refl _) (a := a) (argsL := argsL) (rest := st) (lenOf pd hlen) hst (by show 2 * 0 + _ ≤ _; omega) (hb C.hby d) (fun _ _ => ⟨rfl, eT, hc, hs⟩)
  exact Goes.via (fun _ k => q.trans k) (K _ _ v hQ (st_back (T' := T) (h' := h) Y' hB N N' E'))
theorem g_virtual {index k n : Nat} {y z : MethodName} {K0 : String} {W' : Nat} {argsL : List Value} {Q : Option Value → Heap → Prop} {ps : List FieldType} {rt : Option FieldType} {a : Addr} (C : Cx p s m meth c Z own nm bytes maxL ret) (X : St p l e R s m A below meth c Z T h cells slots)
    (w1 : (Jvm.Cond.methodLink own index y).before a0 Z = true) (w2 : (Jvm.Cond.declares y).before a0 Z = true) (nf : NotFace s y) (w3 : (Jvm.Cond.selects K0 y z).before a0 Z = true) (w4 : (Jvm.Cond.instanceMethod z).before a0 Z = true) (hy : y.cls ≠ "java/lang/invoke/MethodHandle" ∧ y.cls ≠ "java/lang/invoke/VarHandle") (Ex : Exa Z h a K0)
    (hK : Pay l R p e below s A z 3 W' k n Z (.ref a :: argsL).toArray h Q) (pd : parseMethodDescriptor y.desc = some ⟨ps, rt⟩) (hlen : argsL.length = ps.length) (hsz : Ls.size = maxL) (stk : List Value) (hst : stk = argsL.reverse ++ .ref a :: st) (hW : (st.map fun v => v.category).sum ≤ W') (d : Dc bytes pc (.invokevirtual index) 3 pc') (hc : cells + k ≤ R.cells) (hs : slots + n ≤ R.slots)
    (K : ∀ T' h' v, Q v h' → St p l e R s m A below meth c Z T' h' (cells + k) (slots + n) → Goes p e below W T' (mkF m pc' Ls (v.toList ++ st))) : Goes p e below W T (mkF m pc Ls stk) := by
  obtain ⟨d, rfl⟩ := d
  obtain ⟨L0, Y, eT, N, E⟩ := X
  obtain ⟨cq, kq, qa, qb, qc⟩ := isOf C.hZ eT Ex
  obtain ⟨v, vm₁, B, -, Y', ⟨L, ⟨N', E', hQ⟩, hB⟩, q⟩ := Y.virtualBack C.hx (y := y) (z := z) C.hown (mvT C.hZ w1) (mvT C.hZ w2) nf (mvT C.hZ w3) (mvT C.hZ w4) hy hK qa qc (g := mkF m pc Ls stk) rfl (hsz.trans C.hml.symm) (Steps.refl _) (argsL := argsL) (rest := st) (lenOf pd hlen) hst (by show 2 * 0 + _ ≤ _; omega) (hb C.hby d) (fun _ _ => ⟨rfl, eT, hc, hs⟩)
  exact Goes.via (fun _ k => q.trans k) (K _ _ v hQ (st_back (T' := T) (h' := h) Y' hB N N' E'))
theorem nf_of {K0 : String} {y z : MethodName} (C : Cx p s m meth c Z own nm bytes maxL ret) (w3 : (Jvm.Cond.selects K0 y z).before a0 Z = true) (e : K0 = y.cls) (e' : z = y) : NotFace s y := by
  subst e e'; exact notFace_of_selects (args := #[]) (mvT C.hZ w3)
theorem g_interface {index count k n : Nat} {y z : MethodName} {K0 : String} {W' : Nat} {argsL : List Value} {Q : Option Value → Heap → Prop} {ps : List FieldType} {rt : Option FieldType} {a : Addr} (C : Cx p s m meth c Z own nm bytes maxL ret) (X : St p l e R s m A below meth c Z T h cells slots)
    (w1 : (Jvm.Cond.methodLink own index y).before a0 Z = true) (w2 : (Jvm.Cond.declares y).before a0 Z = true) (w5 : (Jvm.Cond.interfaceMethod y.cls y.cls y.name y.desc).before A s = true) (w3 : (Jvm.Cond.selects K0 y z).before a0 Z = true) (w4 : (Jvm.Cond.instanceMethod z).before a0 Z = true) (w6 : (Jvm.Cond.publicMethod z).before a0 Z = true) (w7 : (Jvm.Cond.unhidden K0 y.name y.desc).before A s = true) (w8 : (Jvm.Cond.castable K0 y.cls).before a0 Z = true)
    (hy : y.cls ≠ "java/lang/invoke/MethodHandle" ∧ y.cls ≠ "java/lang/invoke/VarHandle") (Ex : Exa Z h a K0)
    (hK : Pay l R p e below s A z 5 W' k n Z (.ref a :: argsL).toArray h Q) (pd : parseMethodDescriptor y.desc = some ⟨ps, rt⟩) (hlen : argsL.length = ps.length) (hsz : Ls.size = maxL) (stk : List Value) (hst : stk = argsL.reverse ++ .ref a :: st) (hW : (st.map fun v => v.category).sum ≤ W') (d : Dc bytes pc (.invokeinterface index count) 5 pc') (hc : cells + k ≤ R.cells) (hs : slots + n ≤ R.slots)
    (K : ∀ T' h' v, Q v h' → St p l e R s m A below meth c Z T' h' (cells + k) (slots + n) → Goes p e below W T' (mkF m pc' Ls (v.toList ++ st))) : Goes p e below W T (mkF m pc Ls stk) := by
  obtain ⟨d, rfl⟩ := d
  obtain ⟨L0, Y, eT, N, E⟩ := X
  obtain ⟨cq, kq, qa, qb, qc⟩ := isOf C.hZ eT Ex
  obtain ⟨v, vm₁, B, -, Y', ⟨L, ⟨N', E', hQ⟩, hB⟩, q⟩ := Y.interfaceBack C.hx (xi := y) (y := z) C.hown (mvT C.hZ w1) (mvT C.hZ w2) w5 (mvT C.hZ w3) (mvT C.hZ w4) (mvT C.hZ w6) w7 (mvT C.hZ w8) hy hK qa qb qc (g := mkF m pc Ls stk) rfl (hsz.trans C.hml.symm) (Steps.refl _) (argsL := argsL) (rest := st) (lenOf pd hlen) hst (by show 2 * 0 + _ ≤ _; omega) (hb C.hby d) (fun _ _ => ⟨rfl, eT, hc, hs⟩)
  exact Goes.via (fun _ k => q.trans k) (K _ _ v hQ (st_back (T' := T) (h' := h) Y' hB N N' E'))
theorem g_staticP {index : Nat} {y : MethodName} {bytes' : ByteArray} {maxL' W' : Nat} {ret' : Option FieldType} {argsL : List Value} {v : Value} {ps : List FieldType} {rt : Option FieldType} (C : Cx p s m meth c Z own nm bytes maxL ret) (X : St p l e R s m A below meth c Z T h cells slots)
    (w1 : (Jvm.Cond.methodLink own index y).before a0 Z = true) (w2 : (Jvm.Cond.static y).before a0 Z = true) (w3 : (Jvm.Cond.initialized y.cls).before a0 Z = true) (w4 : (Jvm.Cond.code y bytes' maxL' ret').before a0 Z = true) (hy : y.cls ≠ "java/lang/invoke/MethodHandle" ∧ y.cls ≠ "java/lang/invoke/VarHandle")
    (hK : Pay l R p e below s A y 3 W' 0 0 Z argsL.toArray h (fun v' h' => v' = some v ∧ h' = h)) (pd : parseMethodDescriptor y.desc = some ⟨ps, rt⟩) (hlen : argsL.length = ps.length) (hsz : Ls.size = maxL) (stk : List Value) (hst : stk = argsL.reverse ++ st) (hW : (st.map fun v => v.category).sum ≤ W') (d : Dc bytes pc (.invokestatic index) 3 pc') (hc : cells ≤ R.cells) (hs : slots ≤ R.slots)
    (K : ∀ T', St p l e R s m A below meth c Z T' h cells slots → Goes p e below W T' (mkF m pc' Ls (v :: st))) : Goes p e below W T (mkF m pc Ls stk) :=
  g_static C X w1 w2 w3 w4 hy hK pd hlen hsz stk hst hW d hc hs fun T' h' v' hQ X' => by obtain ⟨rfl, rfl⟩ := hQ; exact K T' X'
theorem g_specialP {index : Nat} {y : MethodName} {bytes' : ByteArray} {maxL' W' : Nat} {argsL : List Value} {ps : List FieldType} {rt : Option FieldType} {a : Addr} (C : Cx p s m meth c Z own nm bytes maxL ret) (X : St p l e R s m A below meth c Z T h cells slots) (hi : y.name = "<init>")
    (w1 : (Jvm.Cond.methodLink own index y).before a0 Z = true) (w2 : (Jvm.Cond.instanceMethod y).before a0 Z = true) (w4 : (Jvm.Cond.code y bytes' maxL' none).before a0 Z = true) (hy : y.cls ≠ "java/lang/invoke/MethodHandle" ∧ y.cls ≠ "java/lang/invoke/VarHandle")
    (hK : Pay l R p e below s A y 3 W' 0 0 Z (.ref a :: argsL).toArray h (fun v' h' => v' = none ∧ h' = h)) (pd : parseMethodDescriptor y.desc = some ⟨ps, rt⟩) (hlen : argsL.length = ps.length) (hsz : Ls.size = maxL) (stk : List Value) (hst : stk = argsL.reverse ++ .ref a :: st) (hW : (st.map fun v => v.category).sum ≤ W') (d : Dc bytes pc (.invokespecial index) 3 pc') (hc : cells ≤ R.cells) (hs : slots ≤ R.slots)
    (K : ∀ T', St p l e R s m A below meth c Z T' h cells slots → Goes p e below W T' (mkF m pc' Ls st)) : Goes p e below W T (mkF m pc Ls stk) :=
  g_special C X hi w1 w2 w4 hy hK pd hlen hsz stk hst hW d hc hs fun T' h' v' hQ X' => by obtain ⟨rfl, rfl⟩ := hQ; exact K T' X'
theorem g_virtualP {index : Nat} {y z : MethodName} {K0 : String} {W' : Nat} {argsL : List Value} {v : Value} {ps : List FieldType} {rt : Option FieldType} {a : Addr} (C : Cx p s m meth c Z own nm bytes maxL ret) (X : St p l e R s m A below meth c Z T h cells slots)
    (w1 : (Jvm.Cond.methodLink own index y).before a0 Z = true) (w2 : (Jvm.Cond.declares y).before a0 Z = true) (nf : NotFace s y) (w3 : (Jvm.Cond.selects K0 y z).before a0 Z = true) (w4 : (Jvm.Cond.instanceMethod z).before a0 Z = true) (hy : y.cls ≠ "java/lang/invoke/MethodHandle" ∧ y.cls ≠ "java/lang/invoke/VarHandle") (Ex : Exa Z h a K0)
    (hK : Pay l R p e below s A z 3 W' 0 0 Z (.ref a :: argsL).toArray h (fun v' h' => v' = some v ∧ h' = h)) (pd : parseMethodDescriptor y.desc = some ⟨ps, rt⟩) (hlen : argsL.length = ps.length) (hsz : Ls.size = maxL) (stk : List Value) (hst : stk = argsL.reverse ++ .ref a :: st) (hW : (st.map fun v => v.category).sum ≤ W') (d : Dc bytes pc (.invokevirtual index) 3 pc') (hc : cells ≤ R.cells) (hs : slots ≤ R.slots)
    (K : ∀ T', St p l e R s m A below meth c Z T' h cells slots → Goes p e below W T' (mkF m pc' Ls (v :: st))) : Goes p e below W T (mkF m pc Ls stk) :=
  g_virtual C X w1 w2 nf w3 w4 hy Ex hK pd hlen hsz stk hst hW d hc hs fun T' h' v' hQ X' => by obtain ⟨rfl, rfl⟩ := hQ; exact K T' X'
theorem g_interfaceP {index count : Nat} {y z : MethodName} {K0 : String} {W' : Nat} {argsL : List Value} {v : Value} {ps : List FieldType} {rt : Option FieldType} {a : Addr} (C : Cx p s m meth c Z own nm bytes maxL ret) (X : St p l e R s m A below meth c Z T h cells slots)
    (w1 : (Jvm.Cond.methodLink own index y).before a0 Z = true) (w2 : (Jvm.Cond.declares y).before a0 Z = true) (w5 : (Jvm.Cond.interfaceMethod y.cls y.cls y.name y.desc).before A s = true) (w3 : (Jvm.Cond.selects K0 y z).before a0 Z = true) (w4 : (Jvm.Cond.instanceMethod z).before a0 Z = true) (w6 : (Jvm.Cond.publicMethod z).before a0 Z = true) (w7 : (Jvm.Cond.unhidden K0 y.name y.desc).before A s = true) (w8 : (Jvm.Cond.castable K0 y.cls).before a0 Z = true)
    (hy : y.cls ≠ "java/lang/invoke/MethodHandle" ∧ y.cls ≠ "java/lang/invoke/VarHandle") (Ex : Exa Z h a K0)
    (hK : Pay l R p e below s A z 5 W' 0 0 Z (.ref a :: argsL).toArray h (fun v' h' => v' = some v ∧ h' = h)) (pd : parseMethodDescriptor y.desc = some ⟨ps, rt⟩) (hlen : argsL.length = ps.length) (hsz : Ls.size = maxL) (stk : List Value) (hst : stk = argsL.reverse ++ .ref a :: st) (hW : (st.map fun v => v.category).sum ≤ W') (d : Dc bytes pc (.invokeinterface index count) 5 pc') (hc : cells ≤ R.cells) (hs : slots ≤ R.slots)
    (K : ∀ T', St p l e R s m A below meth c Z T' h cells slots → Goes p e below W T' (mkF m pc' Ls (v :: st))) : Goes p e below W T (mkF m pc Ls stk) :=
  g_interface C X w1 w2 w5 w3 w4 w6 w7 w8 hy Ex hK pd hlen hsz stk hst hW d hc hs fun T' h' v' hQ X' => by obtain ⟨rfl, rfl⟩ := hQ; exact K T' X'
theorem g_initO {index : Nat} {a : Addr} (C : Cx p s m meth c Z own nm bytes maxL ret) (X : St p l e R s m A below meth c Z T h cells slots) (w1 : (Jvm.Cond.methodLink own index Lib.objectInit).before a0 Z = true) (w2 : (Jvm.Cond.instanceMethod Lib.objectInit).before a0 Z = true) (w3 : (Jvm.Cond.code Lib.objectInit ⟨#[0xb1]⟩ 1 none).before a0 Z = true) (hsz : Ls.size = maxL) (d : Dc bytes pc (.invokespecial index) 3 pc') (hf : 1 ≤ R.frames) (W' : Nat) (hW : (st.map fun v => v.category).sum ≤ W') (hl : W' + 12 ≤ R.locals)
    (K : ∀ T', St p l e R s m A below meth c Z T' h cells slots → Goes p e below W T' (mkF m pc' Ls st)) : Goes p e below W T (mkF m pc Ls (.ref a :: st)) := by
  obtain ⟨d, rfl⟩ := d
  obtain ⟨L0, Y, eT, N, E⟩ := X
  obtain ⟨T', Y', e', q⟩ := initO Y C.hx C.hZ C.hown w1 w2 w3 eT (g := mkF m pc Ls (.ref a :: st)) rfl (hsz.trans C.hml.symm) rfl (hb C.hby d) hf (W := W') (by show 2 * 0 + _ ≤ _; omega) hl
  exact Goes.via q (K T' ⟨L0, Y', e', N, E⟩)
theorem end_of {k n : Nat} {Q : Option Value → Heap → Prop} {v : Option Value} {L : List Loc} {fs : List Frame} (N : Fr Z.heap.size L) (E : Ext Z.heap T.heap) (hW : s.WarmedH (T.setFrames fs).vm) (hS : s.sameButNew ({ T.setFrames fs with vm := s.vm } : State) L cells slots) (hc : cells ≤ k) (hs : slots ≤ n) (hQ : Q v T.heap) : EndW Z s k n Q (.returned v) (T.setFrames fs) :=
  ⟨v, L, rfl, ⟨N, E, hQ⟩, ⟨_, rfl⟩, hW, hS.mono hc hs⟩
theorem g_retI {k n : Nat} {Q : Option Value → Heap → Prop} {z : Int32} (C : Cx p s m meth c Z own nm bytes maxL (some .int)) (X : St p l e R s m A below meth c Z T h cells slots) (d : Dc bytes pc .ireturn 1 pc') (hc : cells ≤ k) (hs : slots ≤ n) (hQ : Q (some (.int z)) h) : Goes p e below (EndW Z s k n Q) T (mkF m pc Ls (.int z :: st)) := by
  obtain ⟨L0, Y, rfl, N, E⟩ := X
  have hlk := C.hlk
  obtain ⟨fs, hr, hrun, hended, hW, hS⟩ := Y.leave (v := some (.int z)) (fun h => by rw [C.hret] at h; cases h) hlk
  exact ⟨_, _, retOut Y C.hx C.hret rfl (Or.inl ⟨rfl, Or.inl rfl, z, rfl⟩) (hb C.hby d.1) hr, hrun, hended, end_of N E hW hS hc hs hQ⟩
theorem g_retN {k n : Nat} {Q : Option Value → Heap → Prop} {z : Int32} {t : FieldType} (C : Cx p s m meth c Z own nm bytes maxL (some t)) (X : St p l e R s m A below meth c Z T h cells slots) (ht : t = .boolean ∨ t = .byte ∨ t = .char ∨ t = .short) (d : Dc bytes pc .ireturn 1 pc') (z' : Int32) (hz : nar t z = z') (hc : cells ≤ k) (hs : slots ≤ n) (hQ : Q (some (.int z')) h) : Goes p e below (EndW Z s k n Q) T (mkF m pc Ls (.int z :: st)) := by
  obtain ⟨L0, Y, rfl, N, E⟩ := X
  have hlk := C.hlk
  obtain ⟨fs, hr, hrun, hended, hW, hS⟩ := Y.leave (v := some (.int z')) (fun h => by rw [C.hret] at h; cases h) hlk
  rw [← hz] at hr
  exact ⟨_, _, retN Y C.hx C.hret ht (hb C.hby d.1) hr, hrun, hended, end_of N E hW hS hc hs hQ⟩
theorem g_retJ {k n : Nat} {Q : Option Value → Heap → Prop} {z : Int64} (C : Cx p s m meth c Z own nm bytes maxL (some .long)) (X : St p l e R s m A below meth c Z T h cells slots) (d : Dc bytes pc .lreturn 1 pc') (hc : cells ≤ k) (hs : slots ≤ n) (hQ : Q (some (.long z)) h) : Goes p e below (EndW Z s k n Q) T (mkF m pc Ls (.long z :: st)) := by
  obtain ⟨L0, Y, rfl, N, E⟩ := X
  have hlk := C.hlk
  obtain ⟨fs, hr, hrun, hended, hW, hS⟩ := Y.leave (v := some (.long z)) (fun h => by rw [C.hret] at h; cases h) hlk
  exact ⟨_, _, retOut Y C.hx C.hret rfl (Or.inr (Or.inl ⟨rfl, rfl, z, rfl⟩)) (hb C.hby d.1) hr, hrun, hended, end_of N E hW hS hc hs hQ⟩
theorem g_retA {k n : Nat} {Q : Option Value → Heap → Prop} {z : Value} {t : FieldType} (C : Cx p s m meth c Z own nm bytes maxL (some t)) (X : St p l e R s m A below meth c Z T h cells slots) (ht : t.isReference = true) (hz : z.isRef = true) (d : Dc bytes pc .areturn 1 pc') (hc : cells ≤ k) (hs : slots ≤ n) (hQ : Q (some z) h) : Goes p e below (EndW Z s k n Q) T (mkF m pc Ls (z :: st)) := by
  obtain ⟨L0, Y, rfl, N, E⟩ := X
  have hlk := C.hlk
  have hn : narrow t z = z := by cases t <;> first | rfl | (simp [FieldType.isReference] at ht; done) | (cases z <;> simp [Value.isRef] at hz <;> rfl)
  obtain ⟨fs, hr, hrun, hended, hW, hS⟩ := Y.leave (v := some z) (fun h => by rw [C.hret] at h; cases h) hlk
  exact ⟨_, _, retOut Y C.hx C.hret hn (Or.inr (Or.inr (Or.inr (Or.inr ⟨rfl, ht, hz⟩)))) (hb C.hby d.1) hr, hrun, hended, end_of N E hW hS hc hs hQ⟩
theorem g_retV {k n : Nat} {Q : Option Value → Heap → Prop} (C : Cx p s m meth c Z own nm bytes maxL none) (X : St p l e R s m A below meth c Z T h cells slots) (d : Dc bytes pc .return_ 1 pc') (hc : cells ≤ k) (hs : slots ≤ n) (hQ : Q none h) : Goes p e below (EndW Z s k n Q) T (mkF m pc Ls []) := by
  obtain ⟨L0, Y, rfl, N, E⟩ := X
  have hlk := C.hlk
  obtain ⟨fs, hr, hrun, hended, hW, hS⟩ := Y.leave (v := none) (fun _ => rfl) hlk
  exact ⟨_, _, Y.returnOut C.hx C.hret (hb C.hby d.1) hr, hrun, hended, end_of N E hW hS hc hs hQ⟩
end OwnKit
/-! from the case's words -/
theorem wd {a0 : Array Value} {Z : State} (hw : ∀ d ∈ tables_1, d.before a0 Z = true) (i : Nat) {d : Jvm.Cond} (h : tables_1[i]? = some d) : d.before a0 Z = true := hw d (List.mem_of_getElem? h)
theorem eqI_v {args : Array Value} {first s : State} {o : Option Outcome} {idx : List Nat} {t : Term} {k : Int32} (h : (Jvm.Cond.eq t (.int k)).value args first o s idx = some true) : t.eval args first o idx s = some (.int k) := by
  simp only [Cond.value, Term.eval] at h
  cases ht : t.eval args first o idx s with
  | none => simp [ht] at h
  | some x => cases x <;> simp [ht] at h ⊢; exact h
theorem eqJ_v {args : Array Value} {first s : State} {o : Option Outcome} {idx : List Nat} {t : Term} {k : Int64} (h : (Jvm.Cond.eq t (.long k)).value args first o s idx = some true) : t.eval args first o idx s = some (.long k) := by
  simp only [Cond.value, Term.eval] at h
  cases ht : t.eval args first o idx s with
  | none => simp [ht] at h
  | some x => cases x <;> simp [ht] at h ⊢; exact h
theorem eqR_v {args : Array Value} {first s : State} {o : Option Outcome} {idx : List Nat} {t u : Term} {a : Addr} (h : (Jvm.Cond.eq t u).value args first o s idx = some true) (hu : u.eval args first o idx s = some (.ref a)) : t.eval args first o idx s = some (.ref a) := by
  simp only [Cond.value, hu] at h
  cases ht : t.eval args first o idx s with
  | none => simp [ht] at h
  | some x => cases x <;> simp [ht] at h ⊢; exact h
theorem arr_start {args : Array Value} {Z : State} {t : Term} {a : Addr} {cl : Cell} {ty : FieldType} {n : Int32} {vs : List Value} (dv : Value) (hf : Fit Z) (A : Arr Z Z.heap a cl ty) (ev : t.eval args Z none [] Z = some (.ref a)) (hl : (Term.length t).eval args Z none [] Z = some (.int n)) (hn : ¬ n < 0) (hv : n.toNatClampNeg = vs.length)
    (H : HasL cl 0 vs) : Arv Z Z.heap a cl.cls ty n vs dv := by
  obtain ⟨a', c', e1, e2, e4⟩ := Term.length_spec hl
  cases ev.symm.trans e1
  cases A.1.symm.trans (State.arrayAt?_spec e2).1
  have e3 : cl.slots.size < 2 ^ 31 := by
    by_cases q : cl.slots.size < 2147483648
    · exact q
    · exfalso; simp [Term.eval, ev, e2, q] at hl
  exact Arv.start hf A e3 (Value.int.inj e4.symm) hn hv H
theorem elem_start {args : Array Value} {Z : State} {t : Term} {a : Addr} {cl : Cell} {ty : FieldType} {j : Int32} {v : Value} (A : Arr Z Z.heap a cl ty) (ev : t.eval args Z none [] Z = some (.ref a)) (h : (Term.elem t (.int j)).eval args Z none [] Z = some v) : cl.slots[j.toNatClampNeg]? = some v := (elem_in h ev (Term.int_eval j) A.1).2
theorem own_ch (x : Int32) : Value.int (nar .char ((x &&& (255 : Int32)).toUInt32.toUInt16.toUInt32.toInt32)) = .int (x &&& (255 : Int32)) := by
  show Value.int (((x &&& (255 : Int32)).toUInt32.toUInt16.toUInt32.toInt32).toUInt32.toUInt16.toUInt32.toInt32) = _
  rw [i2c_mask, i2c_mask]
theorem nz_v {args : Array Value} {Z : State} {t : Term} {z : Int32} (ev : t.eval args Z none [] Z = some (.int z)) (h : (Jvm.Cond.not (.eq t (.int 0))).value args Z none Z [] = some true) : ¬ z = 0 := by
  intro e; subst e
  have q := not_v h
  simp [Cond.value, ev, Term.eval] at q
theorem fld_of {args : Array Value} {Z : State} {t : Term} {a : Addr} {C n d : String} {v : Value} (ht : t.eval args Z none [] Z = some (.ref a)) (h : (Term.field t C n d).eval args Z none [] Z = some v) : Fld Z Z.heap a C n d v := Fld.start (by rw [← fld_at (args := args) (first := Z) (o := none) (idx := []) ht]; exact h)

section OwnLit
variable {p : Program} {l : Launch} {e : Env} {R : Room} {s : State} {m : MethodId} {A : Array Value} {below : List Frame} {meth : Method} {c : Code} {T : State} {cells slots : Nat} {Z : State} {a0 : Array Value} {h : Heap} {own nm : String} {bytes : ByteArray} {maxL : Nat} {ret : Option FieldType} {W : Outcome → State → Prop} {pc pc' tgt : Nat} {Ls : Array Slot} {st : List Value} {EL : List (String × Nat)} {vm0 : Vm}
/-- what is known of the String constants: from the body's start s to the tables and the heap at hand -/
def Lits (Z : State) (EL : List (String × Nat)) (s : State) (vm0 : Vm) (h : Heap) : Prop := (∃ k0, s.Since vm0 k0 ∧ k0 ≤ h.size) ∧ CHr Z EL s.vm s.heap vm0 h
theorem Lits.keep {h' : Heap} {ws : List Addr} (I : Lits Z EL s vm0 h) (K : Keep h h' ws) (hs : ∀ x ∈ ws, Safe Z EL vm0 h x) : Lits Z EL s vm0 h' := by
  obtain ⟨⟨k0, a, b⟩, c⟩ := I
  exact ⟨⟨k0, a, Nat.le_trans b K.1⟩, c.trans (CHr.keep K hs c.1)⟩
theorem Lits.safe {h' : Heap} {ws : List Addr} {x : Addr} (I : Lits Z EL s vm0 h) (K : Keep h h' ws) (hs : ∀ x ∈ ws, Safe Z EL vm0 h x) (S : Safe Z EL vm0 h x) : Safe Z EL vm0 h' x := Safe.keep K hs I.2.1 S
theorem g_ldcs {index : Nat} {text : String} {vs : List Value} {z : Int32} (n : Nat) (C : Cx p (s.setVm vm0) m meth c Z own nm bytes maxL ret) (X : St p l e R (s.setVm vm0) m A below meth c Z T h cells slots) (I : Lits Z EL s vm0 h) (wS : ∀ a ∈ Bundle.stringAtoms, a.before a0 Z = true) (hEL : EW Z a0 EL) (hmem : (own, index) ∈ EL) (w : (Jvm.Cond.stringLink own index text).before a0 Z = true)
    (ht : (∀ c ∈ text.toList, c.toNat < 256) ∧ text.toList.map (fun c => Value.int (Jvm.Lit.byteI c.toNat.toUInt16)) = vs) (hz : ¬ z < 0) (hl : z.toNatClampNeg = vs.length) (hn : 4 * text.toList.length ≤ n) (hbig : n ≤ 536870912) (d : Dc bytes pc (.ldc index) 2 pc') (hc : cells + 2 ≤ R.cells) (hs : slots + (n + 4) ≤ R.slots)
    (K : ∀ a T' h' b k, Cx p (s.setVm T'.vm) m meth c Z own nm bytes maxL ret → St p l e R (s.setVm T'.vm) m A below meth c Z T' h' (cells + 2) (slots + (n + 4)) → Lits Z EL s T'.vm h' → CHr Z EL vm0 h T'.vm h' → Ext h h' → Exa Z h' a "java/lang/String" → Fld Z h' a "java/lang/String" "coder" "B" (.int 0) → Fld Z h' a "java/lang/String" "value" "[B" (.ref b) → Arv Z h' b k .byte z vs (.int 0) → (∀ x, Safe Z EL T'.vm h' x → x ≠ a ∧ x ≠ b) → Goes p e below W T' (mkF m pc' Ls (.ref a :: st))) : Goes p e below W T (mkF m pc Ls st) := by
  obtain ⟨d, rfl⟩ := d
  obtain ⟨L0, Y, eT, N, E⟩ := X
  obtain ⟨⟨k0, hS, hk⟩, hC⟩ := I
  obtain ⟨a, T', h', k1, b, k, Y', e', E', hS', hk', hZ', ho', r1, r2, r3, r4, -, -, hR, -, hne, q⟩ := ldcCH Y C.hx C.hZ C.hown w wS eT hS hk hEL hmem hC.1 ht hz hl (g := mkF m pc Ls st) rfl (hb C.hby d) hn hbig hc hs
  exact Goes.via q (K a T' h' b k ⟨C.1, hZ', ho', C.2.2.2⟩ ⟨L0, Y', e', N, ext_trans E E'⟩ ⟨⟨k1, hS', hk'⟩, hC.trans hR⟩ hR E' r1 r2 r3 r4 hne)
/-- the end of a body that may load String constants -/
def EndL (Z : State) (EL : List (String × Nat)) (s : State) (k n : Nat) (Q : Option Value → Heap → Prop) (o : Outcome) (u : State) : Prop :=
  ∃ v L, o = .returned v ∧ (Fr Z.heap.size L ∧ Ext Z.heap u.heap ∧ Q v u.heap) ∧ CHr Z EL s.vm s.heap u.vm u.heap ∧ ReturnedEndW s o u L k n
theorem goes_L {k n : Nat} {Q : Option Value → Heap → Prop} {g : JFrame} (I : Lits Z EL s vm0 h) (hEL : EW Z a0 EL) (hZ : Z.Warmed39 vm0) (G : Goes p e below (EndW Z (s.setVm vm0) k n (fun v h' => Q v h' ∧ h' = h)) T g) : Goes p e below (EndL Z EL s k n Q) T g := by
  obtain ⟨s₂, o, g1, g2, g3, v, L, rfl, ⟨N, E, hQ, hh⟩, hv, hW, hs⟩ := G
  obtain ⟨⟨k0, hS, hk⟩, hC⟩ := I
  obtain ⟨a, b, c'⟩ := hS.ended (U := s₂) hW (by rw [hh]; exact hk) hs
  refine ⟨s₂, _, g1, g2, g3, v, L, rfl, ⟨N, E, hQ⟩, ?_, ⟨v, rfl⟩, a, b, c'⟩
  have q := CHv.later (h' := h) hZ (hW := (show (Wst Z vm0 h).Warmed39 s₂.vm from hW.wide)) hEL ⟨Nat.le_refl _, fun _ _ q => q⟩ (Or.inl hW.interned_eq) hC.1
  rw [hh]; exact hC.trans ⟨q.1, Nat.le_refl _, q.2⟩
def ConL (l : Launch) (y : MethodName) (bytes : ByteArray) (maxL : Nat) (ret : Option FieldType) (ws : List Jvm.Cond) (rm : Room) (Z : State) (EL : List (String × Nat)) (sf : List Addr) (A : Array Value) (h0 : Heap) (Q : Option Value → Heap → Prop) : Prop :=
  MetFree l y (head1 (Jvm.Cond.code y bytes maxL ret :: ws) rm) (fun a U => a = A ∧ Z.Warmed39 U.vm ∧ U.heap = h0 ∧ CHv Z EL U.vm h0 ∧ ∀ x ∈ sf, Safe Z EL U.vm h0 x) (fun _ _ _ _ _ => True) (fun _ U o U' => EndL Z EL U rm.cells rm.slots Q o U')
theorem con_ofL {y : MethodName} {ws : List Jvm.Cond} {rm : Room} {h0 : Heap} {Q : Option Value → Heap → Prop} {Ls : Array Slot} {sf : List Addr} (hp : plainFor y = true) (hE : Ext Z.heap h0) (hef : ∀ m, entryFrame m A maxL = mkF m 0 Ls [])
    (body : ∀ p e s m below meth c s₁, Cx p (s.setVm s.vm) m meth c Z y.cls y.name bytes maxL ret → St p l e rm (s.setVm s.vm) m A below meth c Z s₁ h0 0 0 → Lits Z EL s s.vm h0 → (∀ x ∈ sf, Safe Z EL s.vm h0 x) → Goes p e below (EndL Z EL s rm.cells rm.slots Q) s₁ (mkF m 0 Ls [])) :
    ConL l y bytes maxL ret ws rm Z EL sf A h0 Q := by
  refine MetFree.of_bodySF hp hisR ?_
  intro p e s m args below meth c s₁ Bd hml0 hP hK
  obtain ⟨rfl, hZ, hh, hV, hsf⟩ := hP
  have X0 := Stand.of_body Bd
  have e0 : s₁.heap = h0 := by rw [← hh, Bd.state]; rfl
  have := body p e s m below meth c s₁ ⟨Bd.exec, hZ, findClass_of_methodNamed Bd.named, Bd.bytes, hml0, Bd.returns, Bd.notSynchronized, (name_of_methodNamed Bd.named Bd.method).1⟩ ⟨[], X0, e0, Fr.nil _, hE⟩ ⟨⟨0, (State.WarmedH.refl s).since 0, Nat.zero_le _⟩, by rw [hh]; exact CHr.refl hV⟩ hsf
  rw [← hef m] at this
  exact this
def PayL (l : Launch) (R : Room) (p : Program) (e : Env) (below : List Frame) (s : State) (vm0 : Vm) (A : Array Value) (y : MethodName) (len W k n : Nat) (Z : State) (EL : List (String × Nat)) (as' : Array Value) (h : Heap) (Q : Option Value → Heap → Prop) : Prop :=
  BackS l R p e below (s.setVm vm0) A y len W (fun P a => a = as' ∧ P.U.heap = h ∧ P.cells + k ≤ R.cells ∧ P.slots + n ≤ R.slots)
    (fun P _ v B => ∃ L, (Fr Z.heap.size L ∧ Ext Z.heap B.U.heap ∧ Q v B.U.heap) ∧ (B.locs = P.locs ++ L ∧ B.cells = P.cells + k ∧ B.slots = P.slots + n) ∧ CHr Z EL vm0 h B.U.vm B.U.heap)
theorem payL_of {y : MethodName} {bytes' : ByteArray} {maxL' len W' : Nat} {ret' : Option FieldType} {rm : Room} {sf : List Addr} {as' : Array Value} {Q : Option Value → Heap → Prop} (hM : ConL l y bytes' maxL' ret' [] rm Z EL sf as' h Q) (hZ : Z.Warmed39 vm0) (wc : (Jvm.Cond.code y bytes' maxL' ret').before a0 Z = true) (wz : (Jvm.Cond.initialized y.cls).before a0 Z = true) (hf : rm.frames + 1 ≤ R.frames) (hl : W' + (maxL' + 11) + rm.locals ≤ R.locals) (hEL : EW Z a0 EL) (I : Lits Z EL s vm0 h) (hsf : ∀ x ∈ sf, x < h.size ∧ Safe Z EL vm0 h x) :
    PayL l R p e below s vm0 A y len W' rm.cells rm.slots Z EL as' h Q :=
  BackS.of_freeW (bytes := bytes') (maxL := maxL') (ret := ret') (E := fun _ first o t L k n => k = rm.cells ∧ n = rm.slots ∧ (∃ v, o = .returned v ∧ Fr Z.heap.size L ∧ Ext Z.heap t.heap ∧ Q v t.heap) ∧ CHr Z EL first.vm first.heap t.vm t.heap) hM hf hl
    (fun m meth c A a Y hp => have hU : Z.Warmed39 A.U.vm := wtrans (s := s.setVm vm0) hZ Y.warmed
      ⟨by show (Jvm.Cond.and _ .tt).before a A.U = true; rw [Jvm.Cond.before_and, mv hU wc]; rfl, mv hU wc, mv hU wz, hp.2.2.1, hp.2.2.2⟩)
    (fun m meth c A a g mk Y hp => ⟨hp.1, wtrans (s := s.setVm vm0) hZ Y.warmed, hp.2.1, (CHv.at Y hZ hEL I.2.1).1, fun x hx => (CHv.at Y hZ hEL I.2.1).safe (hsf x hx).1 (hsf x hx).2⟩) (fun _ _ _ _ _ _ _ _ _ => trivial)
    (fun _ _ _ _ ⟨v, L, h1, h2, h3, h4⟩ => ⟨L, _, _, h4, rfl, rfl, ⟨v, h1, h2⟩, h3⟩)
    (fun m meth c A a g mk v t L k n Y hp _ _ ⟨e1, e2, ⟨v', e3, e4⟩, e5⟩ => by
      cases e3; subst e1 e2
      refine ⟨L, e4, ⟨rfl, rfl, rfl⟩, (CHv.at Y hZ hEL I.2.1).trans ?_⟩
      rw [← hp.2.1]; exact e5)
theorem g_staticL {index k n : Nat} {y : MethodName} {bytes' : ByteArray} {maxL' W' : Nat} {ret' : Option FieldType} {argsL : List Value} {Q : Option Value → Heap → Prop} {ps : List FieldType} {rt : Option FieldType} (C : Cx p (s.setVm vm0) m meth c Z own nm bytes maxL ret) (X : St p l e R (s.setVm vm0) m A below meth c Z T h cells slots) (I : Lits Z EL s vm0 h)
    (w1 : (Jvm.Cond.methodLink own index y).before a0 Z = true) (w2 : (Jvm.Cond.static y).before a0 Z = true) (w3 : (Jvm.Cond.initialized y.cls).before a0 Z = true) (w4 : (Jvm.Cond.code y bytes' maxL' ret').before a0 Z = true) (hy : y.cls ≠ "java/lang/invoke/MethodHandle" ∧ y.cls ≠ "java/lang/invoke/VarHandle")
    (hK : PayL l R p e below s vm0 A y 3 W' k n Z EL argsL.toArray h Q) (pd : parseMethodDescriptor y.desc = some ⟨ps, rt⟩) (hlen : argsL.length = ps.length) (hsz : Ls.size = maxL) (stk : List Value) (hst : stk = argsL.reverse ++ st) (hW : (st.map fun v => v.category).sum ≤ W') (d : Dc bytes pc (.invokestatic index) 3 pc') (hc : cells + k ≤ R.cells) (hs : slots + n ≤ R.slots)
    (K : ∀ T' h' v, Q v h' → Cx p (s.setVm T'.vm) m meth c Z own nm bytes maxL ret → St p l e R (s.setVm T'.vm) m A below meth c Z T' h' (cells + k) (slots + n) → Lits Z EL s T'.vm h' → CHr Z EL vm0 h T'.vm h' → Goes p e below W T' (mkF m pc' Ls (v.toList ++ st))) : Goes p e below W T (mkF m pc Ls stk) := by
  obtain ⟨d, rfl⟩ := d
  obtain ⟨L0, Y, eT, N, E⟩ := X
  obtain ⟨⟨k0, hS, hk⟩, hC⟩ := I
  obtain ⟨v, vm₁, B, -, Y', hS', hg', ⟨L, ⟨N', E', hQ⟩, ⟨b1, b2, b3⟩, hR⟩, q⟩ := callSS Y C.hx C.hown (mvT C.hZ w1) (mvT C.hZ w2) (mvT C.hZ w3) (mvT C.hZ w4) hy hK (g := mkF m pc Ls stk) rfl (hsz.trans C.hml.symm) (argsL := argsL) (rest := st) (lenOf pd hlen) hst (by show 2 * 0 + _ ≤ _; omega) (hb C.hby d) (fun _ _ => ⟨rfl, eT, hc, hs⟩)
  have q1 : B.locs = L0 ++ L := b1
  have q2 : B.cells = cells + k := b2
  have q3 : B.slots = slots + n := b3
  rw [q1, q2, q3] at Y'
  subst eT
  exact Goes.via (fun _ k => q.trans k) (K B.U B.U.heap v hQ ⟨C.1, State.Warmed39.trans (t := s.setVm vm0) C.hZ hS'.1, by rw [show (s.setVm B.U.vm).vm = B.U.vm from rfl, hS'.1.alike.findClass]; exact C.hown, C.2.2.2⟩ ⟨_, Y', rfl, N.app N', E'⟩ ⟨⟨_, hS.trans hS' (Nat.le_trans hk hg'), Nat.le_refl _⟩, hC.trans hR⟩ hR)
theorem g_specialL {index k n : Nat} {y : MethodName} {bytes' : ByteArray} {maxL' W' : Nat} {argsL : List Value} {Q : Option Value → Heap → Prop} {ps : List FieldType} {rt : Option FieldType} {a : Addr} (C : Cx p (s.setVm vm0) m meth c Z own nm bytes maxL ret) (X : St p l e R (s.setVm vm0) m A below meth c Z T h cells slots) (I : Lits Z EL s vm0 h) (hi : y.name = "<init>")
    (w1 : (Jvm.Cond.methodLink own index y).before a0 Z = true) (w2 : (Jvm.Cond.instanceMethod y).before a0 Z = true) (w4 : (Jvm.Cond.code y bytes' maxL' none).before a0 Z = true) (hy : y.cls ≠ "java/lang/invoke/MethodHandle" ∧ y.cls ≠ "java/lang/invoke/VarHandle")
    (hK : PayL l R p e below s vm0 A y 3 W' k n Z EL (.ref a :: argsL).toArray h Q) (pd : parseMethodDescriptor y.desc = some ⟨ps, rt⟩) (hlen : argsL.length = ps.length) (hsz : Ls.size = maxL) (stk : List Value) (hst : stk = argsL.reverse ++ .ref a :: st) (hW : (st.map fun v => v.category).sum ≤ W') (d : Dc bytes pc (.invokespecial index) 3 pc') (hc : cells + k ≤ R.cells) (hs : slots + n ≤ R.slots)
    (K : ∀ T' h' v, Q v h' → Cx p (s.setVm T'.vm) m meth c Z own nm bytes maxL ret → St p l e R (s.setVm T'.vm) m A below meth c Z T' h' (cells + k) (slots + n) → Lits Z EL s T'.vm h' → CHr Z EL vm0 h T'.vm h' → Goes p e below W T' (mkF m pc' Ls (v.toList ++ st))) : Goes p e below W T (mkF m pc Ls stk) := by
  obtain ⟨d, rfl⟩ := d
  obtain ⟨L0, Y, eT, N, E⟩ := X
  obtain ⟨⟨k0, hS, hk⟩, hC⟩ := I
  obtain ⟨v, vm₁, B, -, Y', hS', hg', ⟨L, ⟨N', E', hQ⟩, ⟨b1, b2, b3⟩, hR⟩, q⟩ := Y.specialBackS C.hx (y := y) hi C.hown (mvT C.hZ w1) (mvT C.hZ w2) (mvT C.hZ w4) hy hK (g := mkF m pc Ls stk) rfl (hsz.trans C.hml.symm) (Steps.refl _) (a := a) (argsL := argsL) (rest := st) (lenOf pd hlen) hst (by show 2 * 0 + _ ≤ _; omega) (hb C.hby d) (fun _ _ => ⟨rfl, eT, hc, hs⟩)
  have q1 : B.locs = L0 ++ L := b1
  have q2 : B.cells = cells + k := b2
  have q3 : B.slots = slots + n := b3
  rw [q1, q2, q3] at Y'
  subst eT
  exact Goes.via (fun _ k => q.trans k) (K B.U B.U.heap v hQ ⟨C.1, State.Warmed39.trans (t := s.setVm vm0) C.hZ hS'.1, by rw [show (s.setVm B.U.vm).vm = B.U.vm from rfl, hS'.1.alike.findClass]; exact C.hown, C.2.2.2⟩ ⟨_, Y', rfl, N.app N', E'⟩ ⟨⟨_, hS.trans hS' (Nat.le_trans hk hg'), Nat.le_refl _⟩, hC.trans hR⟩ hR)
end OwnLit
section OwnClone
variable {p : Program} {l : Launch} {e : Env} {R : Room} {s : State} {m : MethodId} {A : Array Value} {below : List Frame} {meth : Method} {c : Code} {T : State} {cells slots : Nat} {Z : State} {a0 : Array Value} {h : Heap} {own nm : String} {bytes : ByteArray} {maxL : Nat} {ret : Option FieldType} {W : Outcome → State → Prop} {pc pc' tgt : Nat} {Ls : Array Slot} {st : List Value} {EL : List (String × Nat)} {vm0 : Vm}
theorem g_clone {ad : String} {index cap : Nat} {a : Addr} {k : ClassId} {ty : FieldType} {z : Int32} {vs : List Value} {dv : Value} (C : Cx p s m meth c Z own nm bytes maxL ret) (X : St p l e R s m A below meth c Z T h cells slots)
    (w1 : (Jvm.Cond.methodLink own index ⟨ad, "clone", "()Ljava/lang/Object;"⟩).before a0 Z = true) (w2 : (Jvm.Cond.sameMethod ad "java/lang/Object" "clone" "()Ljava/lang/Object;").before a0 Z = true) (w3 : (Jvm.Cond.native ⟨"java/lang/Object", "clone", "()Ljava/lang/Object;"⟩).before a0 Z = true)
    (w4 : (Jvm.Cond.instanceMethod ⟨"java/lang/Object", "clone", "()Ljava/lang/Object;"⟩).before a0 Z = true) (w5 : (Jvm.Cond.selects ad ⟨ad, "clone", "()Ljava/lang/Object;"⟩ ⟨"java/lang/Object", "clone", "()Ljava/lang/Object;"⟩).before a0 Z = true) (w6 : (Jvm.Cond.castable ad "java/lang/Cloneable").before a0 Z = true)
    (F : Arv Z h a k ty z vs dv) (E0 : Exa Z h a ad) (hsz : Ls.size = maxL) (d : Dc bytes pc (.invokevirtual index) 3 pc') (hf : 1 ≤ R.frames) (W' : Nat) (hW : (st.map fun v => v.category).sum ≤ W') (hl : W' + 14 ≤ R.locals) (hcap : z.toNatClampNeg ≤ cap) (hc : cells + 1 ≤ R.cells) (hs : slots + cap ≤ R.slots)
    (K : ∀ T' h' b, b = h.size → Z.heap.size ≤ b → St p l e R s m A below meth c Z T' h' (cells + 1) (slots + cap) → Ext h h' → Arv Z h' b k ty z vs dv → Exa Z h' b ad → Goes p e below W T' (mkF m pc' Ls (.ref b :: st))) : Goes p e below W T (mkF m pc Ls (.ref a :: st)) := by
  obtain ⟨d, rfl⟩ := d
  obtain ⟨L0, Y, eT, N, E⟩ := X
  obtain ⟨cl, Ar, q1, S, q3, H, G⟩ := F
  have FC : FitC Z cl := fitC_of Ar fun i hi v hv => by rw [H i hi] at hv; cases hv; exact G i hi
  obtain ⟨T', h', Y', e', ex, A', E', q⟩ := cloneA Y C.hx C.hZ C.hown w1 w2 w3 w4 w5 w6 eT Ar E0 FC (g := mkF m pc Ls (.ref a :: st)) rfl (hsz.trans C.hml.symm) rfl (hb C.hby d) hf (W := W') (by show 2 * 0 + _ ≤ _; omega) hl (by rw [S]; exact hcap) hc hs
  exact Goes.via q (K T' h' h.size rfl E.1 ⟨L0, Y', e', N, ext_trans E ex⟩ ex ⟨cloneOf cl, A', q1, S, q3, H, G⟩ E')
theorem g_staticPV {index : Nat} {y : MethodName} {bytes' : ByteArray} {maxL' W' : Nat} {ret' : Option FieldType} {argsL : List Value} {ps : List FieldType} {rt : Option FieldType} (C : Cx p s m meth c Z own nm bytes maxL ret) (X : St p l e R s m A below meth c Z T h cells slots)
    (w1 : (Jvm.Cond.methodLink own index y).before a0 Z = true) (w2 : (Jvm.Cond.static y).before a0 Z = true) (w3 : (Jvm.Cond.initialized y.cls).before a0 Z = true) (w4 : (Jvm.Cond.code y bytes' maxL' ret').before a0 Z = true) (hy : y.cls ≠ "java/lang/invoke/MethodHandle" ∧ y.cls ≠ "java/lang/invoke/VarHandle")
    (hK : Pay l R p e below s A y 3 W' 0 0 Z argsL.toArray h (fun v' h' => v' = none ∧ h' = h)) (pd : parseMethodDescriptor y.desc = some ⟨ps, rt⟩) (hlen : argsL.length = ps.length) (hsz : Ls.size = maxL) (stk : List Value) (hst : stk = argsL.reverse ++ st) (hW : (st.map fun v => v.category).sum ≤ W') (d : Dc bytes pc (.invokestatic index) 3 pc') (hc : cells ≤ R.cells) (hs : slots ≤ R.slots)
    (K : ∀ T', St p l e R s m A below meth c Z T' h cells slots → Goes p e below W T' (mkF m pc' Ls st)) : Goes p e below W T (mkF m pc Ls stk) :=
  g_static C X w1 w2 w3 w4 hy hK pd hlen hsz stk hst hW d hc hs fun T' h' v' hQ X' => by obtain ⟨rfl, rfl⟩ := hQ; exact K T' X'
theorem sel_private {y : MethodName} {K0 : String} {n : Nat} (hZ : Z.Warmed39 s.vm) (wi : (Jvm.Cond.instantiable K0 n).before a0 Z = true) (hK : K0 = y.cls) (wp : (Jvm.Cond.privateMethod y).before a0 Z = true) (w2 : (Jvm.Cond.instanceMethod y).before a0 Z = true) (hy : y.cls ≠ "java/lang/invoke/MethodHandle" ∧ y.cls ≠ "java/lang/invoke/VarHandle") : (Jvm.Cond.selects y.cls y y).before A s = true := by
  subst hK
  have w' : (Jvm.Cond.instantiable y.cls n).before A s = true := mvT hZ wi
  obtain ⟨c, k, h1, h2, -, h3, -⟩ := Cond.instantiable_spec w'
  have h4 : k.isInterface = false := by
    cases q : k.isInterface
    · rfl
    · rw [q] at h3; exact absurd h3 (by simp)
  exact selects_self_of_private h1 h2 h4 (Cond.privateMethod_at (args := A) (mvP hZ wp)) (mvT hZ w2) hy
theorem g_private {index k n : Nat} {y : MethodName} {bytes' : ByteArray} {maxL' W' : Nat} {ret' : Option FieldType} {argsL : List Value} {Q : Option Value → Heap → Prop} {ps : List FieldType} {rt : Option FieldType} {a : Addr} (C : Cx p s m meth c Z own nm bytes maxL ret) (X : St p l e R s m A below meth c Z T h cells slots)
    (w1 : (Jvm.Cond.methodLink own index y).before a0 Z = true) (w2 : (Jvm.Cond.instanceMethod y).before a0 Z = true) (hsel : (Jvm.Cond.selects y.cls y y).before A s = true) (wp : (Jvm.Cond.privateMethod y).before a0 Z = true) (w4 : (Jvm.Cond.code y bytes' maxL' ret').before a0 Z = true) (hy : y.cls ≠ "java/lang/invoke/MethodHandle" ∧ y.cls ≠ "java/lang/invoke/VarHandle") (Ex : Exa Z h a y.cls)
    (hK : Pay l R p e below s A y 3 W' k n Z (.ref a :: argsL).toArray h Q) (pd : parseMethodDescriptor y.desc = some ⟨ps, rt⟩) (hlen : argsL.length = ps.length) (hsz : Ls.size = maxL) (stk : List Value) (hst : stk = argsL.reverse ++ .ref a :: st) (hW : (st.map fun v => v.category).sum ≤ W') (d : Dc bytes pc (.invokevirtual index) 3 pc') (hc : cells + k ≤ R.cells) (hs : slots + n ≤ R.slots)
    (K : ∀ T' h' v, Q v h' → St p l e R s m A below meth c Z T' h' (cells + k) (slots + n) → Goes p e below W T' (mkF m pc' Ls (v.toList ++ st))) : Goes p e below W T (mkF m pc Ls stk) := by
  obtain ⟨d, rfl⟩ := d
  obtain ⟨L0, Y, eT, N, E⟩ := X
  obtain ⟨cell, kk, q1, -, -, q4, -⟩ := Ex
  obtain ⟨v, vm₁, B, -, Y', ⟨L, ⟨N', E', hQ⟩, hB⟩, q⟩ := Y.privateBack C.hx C.hown (mvT C.hZ w1) (mvT C.hZ w2) hsel (Cond.privateMethod_at (args := A) (mvP C.hZ wp)) (mvT C.hZ w4) hy hK (g := mkF m pc Ls stk) rfl (hsz.trans C.hml.symm) (Steps.refl _) (a := a) (cell := cell) (by rw [eT]; exact q1) (fun z hz => by rw [hz] at q4; cases q4) (argsL := argsL) (rest := st) (lenOf pd hlen) hst (by show 2 * 0 + _ ≤ _; omega) (hb C.hby d) (fun _ _ => ⟨rfl, eT, hc, hs⟩)
  exact Goes.via (fun _ k => q.trans k) (K _ _ v hQ (st_back (T' := T) (h' := h) Y' hB N N' E'))
theorem g_privateP {index : Nat} {y : MethodName} {bytes' : ByteArray} {maxL' W' : Nat} {ret' : Option FieldType} {argsL : List Value} {v : Value} {ps : List FieldType} {rt : Option FieldType} {a : Addr} (C : Cx p s m meth c Z own nm bytes maxL ret) (X : St p l e R s m A below meth c Z T h cells slots)
    (w1 : (Jvm.Cond.methodLink own index y).before a0 Z = true) (w2 : (Jvm.Cond.instanceMethod y).before a0 Z = true) (hsel : (Jvm.Cond.selects y.cls y y).before A s = true) (wp : (Jvm.Cond.privateMethod y).before a0 Z = true) (w4 : (Jvm.Cond.code y bytes' maxL' ret').before a0 Z = true) (hy : y.cls ≠ "java/lang/invoke/MethodHandle" ∧ y.cls ≠ "java/lang/invoke/VarHandle") (Ex : Exa Z h a y.cls)
    (hK : Pay l R p e below s A y 3 W' 0 0 Z (.ref a :: argsL).toArray h (fun v' h' => v' = some v ∧ h' = h)) (pd : parseMethodDescriptor y.desc = some ⟨ps, rt⟩) (hlen : argsL.length = ps.length) (hsz : Ls.size = maxL) (stk : List Value) (hst : stk = argsL.reverse ++ .ref a :: st) (hW : (st.map fun v => v.category).sum ≤ W') (d : Dc bytes pc (.invokevirtual index) 3 pc') (hc : cells ≤ R.cells) (hs : slots ≤ R.slots)
    (K : ∀ T', St p l e R s m A below meth c Z T' h cells slots → Goes p e below W T' (mkF m pc' Ls (v :: st))) : Goes p e below W T (mkF m pc Ls stk) :=
  g_private C X w1 w2 hsel wp w4 hy Ex hK pd hlen hsz stk hst hW d hc hs fun T' h' v' hQ X' => by obtain ⟨rfl, rfl⟩ := hQ; exact K T' X'
end OwnClone
theorem own_EW {Z : State} {a0 : Array Value} (hw : ∀ d ∈ tables_1, d.before a0 Z = true) : EW Z a0 consts_1 := fun p hp => by
  simp only [consts_1, List.mem_cons, List.not_mem_nil, or_false] at hp
  rcases hp with rfl | rfl | rfl | rfl | rfl | rfl
  · exact ⟨"x", (wd hw 30 rfl), by decide +kernel⟩
  · exact ⟨": the XML is not well-formed: ", (wd hw 197 rfl), by decide +kernel⟩
  · exact ⟨"a place the parser did not name", (wd hw 252 rfl), by decide +kernel⟩
  · exact ⟨"the end of line ", (wd hw 262 rfl), by decide +kernel⟩
  · exact ⟨"line ", (wd hw 62 rfl), by decide +kernel⟩
  · exact ⟨", column ", (wd hw 136 rfl), by decide +kernel⟩
theorem own_wS {Z : State} {a0 : Array Value} (hw : ∀ d ∈ tables_1, d.before a0 Z = true) : ∀ a ∈ Bundle.stringAtoms, a.before a0 Z = true := fun d hd => hw d ((show ∀ d ∈ Bundle.stringAtoms, d ∈ tables_1 by decide +kernel) d hd)
theorem own_add (x y : Int32) (h1 : -2147483648 ≤ x.toInt + y.toInt) (h2 : x.toInt + y.toInt ≤ 2147483647) : (x + y).toInt = x.toInt + y.toInt := by
  rw [Int32.toInt_add]; exact Int.bmod_eq_of_le (by omega) (by omega)
theorem own_sub (x y : Int32) (h1 : -2147483648 ≤ x.toInt - y.toInt) (h2 : x.toInt - y.toInt ≤ 2147483647) : (x - y).toInt = x.toInt - y.toInt := by
  rw [Int32.toInt_sub]; exact Int.bmod_eq_of_le (by omega) (by omega)
theorem own_mul (x y : Int32) (h1 : -2147483648 ≤ x.toInt * y.toInt) (h2 : x.toInt * y.toInt ≤ 2147483647) : (x * y).toInt = x.toInt * y.toInt := by
  rw [Int32.toInt_mul]; exact Int.bmod_eq_of_le (by omega) (by omega)
theorem own_neg (x : Int32) (h1 : -2147483647 ≤ x.toInt) : (-x).toInt = - x.toInt := by
  have := Int32.toInt_lt x
  rw [Int32.toInt_neg]; exact Int.bmod_eq_of_le (by omega) (by omega)
theorem own_shr0 (x : Int32) : x >>> ((0 : Int32) &&& 31) = x := by simp
theorem own_shl0 (x : Int32) : x <<< ((0 : Int32) &&& 31) = x := by simp
theorem own_sub0 (x : Int32) : x - (0 : Int32) = x := by simp
theorem own_div (x : Int32) (h : x.toInt ≤ 0) : (x / 100).toInt = -((-x.toInt) / 100) := by
  have h1 := Int32.toInt_lt x
  have h2 := Int32.le_toInt x
  rw [Int32.toInt_div, show (100 : Int32).toInt = 100 from rfl]
  have e : x.toInt.tdiv 100 = -((-x.toInt) / 100) := by
    rw [← Int.tdiv_eq_ediv_of_nonneg (by omega), Int.neg_tdiv]; simp
  rw [e]; exact Int.bmod_eq_of_le (by omega) (by omega)
theorem own_nn {x : Int32} (h : 0 ≤ x.toInt) : ¬ x < 0 := by
  rw [Int32.lt_iff_toInt_lt, show (0 : Int32).toInt = 0 from rfl]; omega
theorem own_lt {x y : Int32} (h : x.toInt < y.toInt) : x < y := Int32.lt_iff_toInt_lt.mpr h
theorem own_nlt {x y : Int32} (h : y.toInt ≤ x.toInt) : ¬ x < y := fun q => by have := Int32.lt_iff_toInt_lt.mp q; omega
theorem own_ne {x y : Int32} (h : x.toInt ≠ y.toInt) : ¬ x = y := fun q => h (congrArg _ q)
theorem own_lt' {x y : Int32} (h : x < y) : x.toInt < y.toInt := Int32.lt_iff_toInt_lt.mp h
theorem own_nlt' {x y : Int32} (h : ¬ x < y) : y.toInt ≤ x.toInt := by
  rw [Int32.lt_iff_toInt_lt] at h; omega
theorem own_dec (x : Int32) (h : -2147483647 ≤ x.toInt) : (x + (-1 : Int32)).toInt = x.toInt - 1 := by
  have := Int32.toInt_lt x
  have e : (-1 : Int32).toInt = -1 := rfl
  rw [own_add x (-1) (by omega) (by omega), e]; omega
theorem own_tn {x : Int32} (h : 0 ≤ x.toInt) : (x.toNatClampNeg : Int) = x.toInt := by
  simp only [Int32.toNatClampNeg]; omega
theorem own_lenlt {j N : Int32} (hj : ¬ j < 0) (hj' : j < N) : j.toNatClampNeg < N.toNatClampNeg := by
  have h1 := own_nlt' hj
  have h2 := own_lt' hj'
  rw [show (0 : Int32).toInt = 0 from rfl] at h1
  have h3 := own_tn h1
  have h4 := own_tn (x := N) (by omega)
  omega
/-- AbstractStringBuilder.newCapacity's answer -/
theorem own_cap {cp mn : Int32} (h0 : 0 ≤ cp.toInt) (h1 : cp.toInt < mn.toInt) (h2 : mn.toInt ≤ 100) : mn.toInt ≤ (cp + (if (mn - cp) < (cp + (2 : Int32)) then (cp + (2 : Int32)) else (mn - cp))).toInt ∧ cp.toInt < (cp + (if (mn - cp) < (cp + (2 : Int32)) then (cp + (2 : Int32)) else (mn - cp))).toInt ∧ (cp + (if (mn - cp) < (cp + (2 : Int32)) then (cp + (2 : Int32)) else (mn - cp))).toInt ≤ 200 := by
  have e2 : (2 : Int32).toInt = 2 := rfl
  have a1 := own_add cp 2 (by omega) (by omega)
  have a2 := own_sub mn cp (by omega) (by omega)
  by_cases q : (mn - cp) < (cp + (2 : Int32))
  · rw [if_pos q]
    have q' := own_lt' q
    have a3 := own_add cp (cp + 2) (by omega) (by omega)
    omega
  · rw [if_neg q]
    have q' := own_nlt' q
    have a3 := own_add cp (mn - cp) (by omega) (by omega)
    omega
/-- how many digits: k of them suffice, and sz counts the sign too -/
def own_Dig (x sz : Int32) : Prop := ∃ k : Nat, 1 ≤ k ∧ k ≤ 10 ∧ sz.toInt = (k : Int) + (if x.toInt < 0 then 1 else 0) ∧ x.toInt.natAbs < 10 ^ k
theorem own_turn {x : Int32} {j : Nat} (h0 : x.toInt ≤ -100) (hj : x.toInt.natAbs < 10 ^ j) : 3 ≤ j ∧ (x / 100).toInt.natAbs < 10 ^ (j - 2) ∧ (x / 100).toInt ≤ 0 ∧ 0 ≤ (((x / 100) * 100) - x).toInt ∧ (((x / 100) * 100) - x).toInt < 100 := by
  have b1 := Int32.le_toInt x
  have j3 : 3 ≤ j := by
    rcases Nat.lt_or_ge j 3 with q | q
    · have := Nat.pow_le_pow_right (n := 10) (by decide) (show j ≤ 2 by omega)
      have e : (10 : Nat) ^ 2 = 100 := rfl
      omega
    · exact q
  have e := own_div x (by omega)
  have e1 : (100 : Int32).toInt = 100 := rfl
  have m1 := own_mul (x / 100) 100 (by rw [e1]; omega) (by rw [e1]; omega)
  rw [e1] at m1
  have s1 := own_sub ((x / 100) * 100) x (by omega) (by omega)
  have p1 : 10 ^ j = 100 * 10 ^ (j - 2) := by
    rw [show (100 : Nat) = 10 ^ 2 from rfl, ← Nat.pow_add]; congr 1; omega
  refine ⟨j3, ?_, by omega, by omega, by omega⟩
  have : (x / 100).toInt.natAbs = x.toInt.natAbs / 100 := by omega
  rw [this]; omega
theorem own_dec2 (x : Int32) (h : -2147483646 ≤ x.toInt) : ((x + (-1 : Int32)) + (-1 : Int32)).toInt = x.toInt - 2 := by
  have e := own_dec x (by omega)
  have f := own_dec (x + (-1 : Int32)) (by rw [e]; omega)
  rw [f, e]; omega
theorem own_dec3 (x : Int32) (h : -2147483645 ≤ x.toInt) : (((x + (-1 : Int32)) + (-1 : Int32)) + (-1 : Int32)).toInt = x.toInt - 3 := by
  have e := own_dec2 x (by omega)
  have f := own_dec ((x + (-1 : Int32)) + (-1 : Int32)) (by rw [e]; omega)
  rw [f, e]; omega
theorem own_step {pw cp ng : Int32} {j : Nat} (t1 : 3 ≤ j) (J4 : (j : Int) + (if ng = 0 then 0 else 1) ≤ pw.toInt) (J5 : pw.toInt ≤ cp.toInt) : j - 2 < j ∧ 1 ≤ j - 2 ∧ ((j - 2 : Nat) : Int) + (if ng = 0 then 0 else 1) ≤ ((pw + (-1 : Int32)) + (-1 : Int32)).toInt ∧ ((pw + (-1 : Int32)) + (-1 : Int32)).toInt ≤ cp.toInt := by
  have e4 : ((j - 2 : Nat) : Int) = (j : Int) - 2 := by omega
  have p0 : 3 ≤ pw.toInt := by split at J4 <;> omega
  rw [own_dec2 pw (by omega), e4]
  refine ⟨by omega, by omega, ?_, by omega⟩
  split at J4 <;> simp_all <;> omega
theorem own_pw3 {pw ng : Int32} {j : Nat} (t1 : 3 ≤ j) (J4 : (j : Int) + (if ng = 0 then 0 else 1) ≤ pw.toInt) : 3 ≤ pw.toInt := by split at J4 <;> omega
theorem own_tail {xw pw ng : Int32} {j : Nat} (J1 : 1 ≤ j) (J2 : xw.toInt.natAbs < 10 ^ j) (J4 : (j : Int) + (if ng = 0 then 0 else 1) ≤ pw.toInt) : 1 ≤ pw.toInt ∧ (xw.toInt < -9 → 2 ≤ pw.toInt) ∧ (¬ ng = 0 → 2 ≤ pw.toInt) ∧ (¬ ng = 0 → xw.toInt < -9 → 3 ≤ pw.toInt) := by
  have j2 : xw.toInt < -9 → 2 ≤ j := fun q => by
    rcases Nat.lt_or_ge j 2 with r | r
    · have e : j = 1 := by omega
      subst e; rw [show (10 : Nat) ^ 1 = 10 from rfl] at J2; omega
    · exact r
  clear J2
  by_cases q : ng = 0
  · rw [if_pos q] at J4
    exact ⟨by omega, fun r => by have := j2 r; omega, fun r => absurd q r, fun r => absurd q r⟩
  · rw [if_neg q] at J4
    exact ⟨by omega, fun r => by have := j2 r; omega, fun r => by omega, fun _ r => by have := j2 r; omega⟩
section OwnBy
variable {p : Program} {l : Launch} {e : Env} {R : Room} {s : State} {m : MethodId} {A : Array Value} {below : List Frame} {meth : Method} {c : Code} {T : State} {cells slots : Nat} {Z : State} {a0 : Array Value} {h h' : Heap} {own nm : String} {bytes : ByteArray} {maxL : Nat} {ret : Option FieldType} {W : Outcome → State → Prop} {pc pc' tgt : Nat} {Ls : Array Slot} {st : List Value} {EL : List (String × Nat)} {vm0 : Vm}
/-- a byte[] of N bytes, whatever they are -/
def ByS (Z : State) (h : Heap) (a : Addr) (N : Int32) : Prop := ∃ (k : ClassId) (vs : List Value) (dv : Value), Arv Z h a k .byte N vs dv
def By (Z : State) (h : Heap) (a : Addr) (N : Int32) : Prop := (∃ (k : ClassId) (vs : List Value), Arv Z h a k .byte N vs (.int 0) ∧ vs.length = N.toNatClampNeg) ∧ Exa Z h a "[B"
theorem By.toS {a : Addr} {N : Int32} (F : By Z h a N) : ByS Z h a N := by obtain ⟨⟨k, vs, A, _⟩, _⟩ := F; exact ⟨k, vs, _, A⟩
theorem ByS.of {a : Addr} {k : ClassId} {N : Int32} {vs : List Value} {dv : Value} (F : Arv Z h a k .byte N vs dv) : ByS Z h a N := ⟨k, vs, dv, F⟩
theorem ByS.ext {a : Addr} {N : Int32} (F : ByS Z h a N) (E : Ext h h') : ByS Z h' a N := by obtain ⟨k, vs, dv, A⟩ := F; exact ⟨k, vs, dv, A.ext E⟩
theorem ByS.other {a b : Addr} {N : Int32} {sl : Nat} {v : Value} (F : ByS Z h b N) (W : Wr h h' a sl v) (q : b ≠ a) : ByS Z h' b N := by obtain ⟨k, vs, dv, A⟩ := F; exact ⟨k, vs, dv, A.other W q⟩
theorem ByS.keep {a : Addr} {N : Int32} {ws : List Addr} (F : ByS Z h a N) (K : Keep h h' ws) (q : a ∉ ws) : ByS Z h' a N := by obtain ⟨k, vs, dv, A⟩ := F; exact ⟨k, vs, dv, A.keep K q⟩
theorem ByS.lt {a : Addr} {N : Int32} (F : ByS Z h a N) : a < h.size := by obtain ⟨k, vs, dv, A⟩ := F; exact A.lt
theorem By.ext {a : Addr} {N : Int32} (F : By Z h a N) (E : Ext h h') : By Z h' a N := by obtain ⟨⟨k, vs, A, l⟩, x⟩ := F; exact ⟨⟨k, vs, A.ext E, l⟩, Exa.ext E x⟩
theorem By.other {a b : Addr} {N : Int32} {sl : Nat} {v : Value} (F : By Z h b N) (W : Wr h h' a sl v) (q : b ≠ a) : By Z h' b N := by obtain ⟨⟨k, vs, A, l⟩, x⟩ := F; exact ⟨⟨k, vs, A.other W q, l⟩, Exa.wr W x⟩
theorem By.keep {a : Addr} {N : Int32} {ws : List Addr} (F : By Z h a N) (K : Keep h h' ws) (q : a ∉ ws) : By Z h' a N := by obtain ⟨⟨k, vs, A, l⟩, x⟩ := F; exact ⟨⟨k, vs, A.keep K q, l⟩, Exa.keep x K⟩
theorem By.lt {a : Addr} {N : Int32} (F : By Z h a N) : a < h.size := F.2.lt
theorem own_neS {x b : Addr} {C0 : String} {n : Nat} {N : Int32} (E : Exa Z h x C0) (F : ByS Z h b N) (w : (Jvm.Cond.instantiable C0 n).before a0 Z = true) : x ≠ b := by obtain ⟨k, vs, dv, A⟩ := F; exact E.neArv A w
theorem g_arraylengthS {a : Addr} {N : Int32} (C : Cx p s m meth c Z own nm bytes maxL ret) (X : St p l e R s m A below meth c Z T h cells slots) (F : ByS Z h a N) (d : Dc bytes pc .arraylength 1 pc') (K : Goes p e below W T (mkF m pc' Ls (.int N :: st))) : Goes p e below W T (mkF m pc Ls (.ref a :: st)) := by
  obtain ⟨k, vs, dv, A⟩ := F; exact g_arraylength C X A d K
theorem g_baloadS {a : Addr} {N j : Int32} (C : Cx p s m meth c Z own nm bytes maxL ret) (X : St p l e R s m A below meth c Z T h cells slots) (F : ByS Z h a N) (d : Dc bytes pc .baload 1 pc') (hj : ¬ j < 0) (hj' : j < N) (K : ∀ v : Int32, Goes p e below W T (mkF m pc' Ls (.int v :: st))) : Goes p e below W T (mkF m pc Ls (.int j :: .ref a :: st)) := by
  obtain ⟨k, vs, dv, A⟩ := F
  have A0 := A
  obtain ⟨cl, Ar, q1, hS, hN, hH, hG⟩ := A0
  have q := hG j.toNatClampNeg (by rw [hS]; exact own_lenlt hj hj')
  cases hv : vs.getD j.toNatClampNeg dv with
  | int v => exact g_baload C X A d hj hj' hv (K v)
  | _ => rw [hv] at q; simp [fits] at q
theorem g_bastoreB {a : Addr} {N j x : Int32} (C : Cx p s m meth c Z own nm bytes maxL ret) (X : St p l e R s m A below meth c Z T h cells slots) (F : By Z h a N) (hnew : Z.heap.size ≤ a) (d : Dc bytes pc .bastore 1 pc') (hj : ¬ j < 0) (hj' : j < N)
    (K : ∀ T' h', St p l e R s m A below meth c Z T' h' cells slots → Wr h h' a j.toNatClampNeg (.int (nar .byte x)) → By Z h' a N → Goes p e below W T' (mkF m pc' Ls st)) : Goes p e below W T (mkF m pc Ls (.int x :: .int j :: .ref a :: st)) := by
  obtain ⟨⟨k, vs, A, l⟩, E⟩ := F
  exact g_bastore C X A hnew d hj hj' (by rw [l]; exact own_lenlt hj hj') _ rfl fun T' h' X' W' A' => K T' h' X' W' ⟨⟨k, _, A', by rw [List.length_set]; exact l⟩, Exa.wr W' E⟩
theorem g_newarrayB {n : Int32} (C : Cx p s m meth c Z own nm bytes maxL ret) (X : St p l e R s m A below meth c Z T h cells slots) (w : (Jvm.Cond.arrayClass .byte).before a0 Z = true) (d : Dc bytes pc (.newarray .byte) 2 pc') (hn : ¬ n < 0) (cap : Nat) (hcap : n.toNatClampNeg ≤ cap) (hb' : cap * 8 ≤ 536870912) (hc : cells + 1 ≤ R.cells) (hl : slots + cap ≤ R.slots)
    (K : ∀ T' h' b, b = h.size → Z.heap.size ≤ b → St p l e R s m A below meth c Z T' h' (cells + 1) (slots + cap) → Ext h h' → By Z h' b n → Goes p e below W T' (mkF m pc' Ls (.ref b :: st))) : Goes p e below W T (mkF m pc Ls (.int n :: st)) := by
  obtain ⟨d, rfl⟩ := d
  obtain ⟨L0, Y, eT, N, E⟩ := X
  obtain ⟨cA, kA, comp, h1, h2, h3, Y', q⟩ := Y.newarrayPrim C.hx (atype := .byte) (mvA C.hZ w) (g := mkF m pc Ls (.int n :: st)) rfl (hb C.hby d) rfl hn (by show n.toNatClampNeg * 1 ≤ _; omega) hc (by omega)
  subst eT
  have z0 : Z.vm.findClass "[B" = some cA := by rw [C.hZ.alike.findClass] at h1; exact h1
  obtain ⟨kZ, z1, -⟩ := Vm.findClass_spec z0
  obtain ⟨k', z2, z3⟩ := C.hZ.alike.2.2 _ _ z1
  cases h2.symm.trans z2
  have Ex : Ext T.heap (T.heap.push (newA cA .byte n)) := ⟨by simp, fun a c hq => by rw [Array.getElem?_push_lt (Array.getElem?_eq_some_iff.mp hq).1]; exact (Array.getElem?_eq_getElem _).symm.trans hq⟩
  have Ar : Arr Z (T.heap.push (newA cA .byte n)) T.heap.size (newA cA .byte n) .byte := ⟨by simp, ⟨by simp [newA], kZ, z1, comp, by rw [← show kA.kind = .array comp .byte from h3, z3]⟩, by simp [newA]⟩
  exact Goes.via q (K _ (T.heap.push (newA cA .byte n)) _ rfl E.1 ⟨_, Y'.more (Nat.le_refl _) (by omega), rfl, N, ext_trans E Ex⟩ Ex ⟨⟨cA, _, (Arv.new Ar hn).pad (pad_rep [] _ n.toNatClampNeg), by simp⟩, exa_arr Ar z0 rfl⟩)
theorem g_arraycopyB {index : Nat} {a b : Addr} {z z' sp dp nn : Int32} (C : Cx p s m meth c Z own nm bytes maxL ret) (X : St p l e R s m A below meth c Z T h cells slots)
    (w1 : (Jvm.Cond.methodLink own index Jvm.Stand.acN).before a0 Z = true) (w2 : (Jvm.Cond.native Jvm.Stand.acN).before a0 Z = true) (w3 : (Jvm.Cond.static Jvm.Stand.acN).before a0 Z = true) (w4 : (Jvm.Cond.initialized "java/lang/System").before a0 Z = true)
    (F : ByS Z h a z) (G : By Z h b z') (h1 : 0 ≤ sp.toInt) (h2 : 0 ≤ dp.toInt) (h3 : 0 ≤ nn.toInt) (h4 : sp.toInt + nn.toInt ≤ z.toInt) (h5 : dp.toInt + nn.toInt ≤ z'.toInt)
    (hnew : Z.heap.size ≤ b) (hsz : Ls.size = maxL) (d : Dc bytes pc (.invokestatic index) 3 pc') (hf : 1 ≤ R.frames) (W' : Nat) (hW : (st.map fun v => v.category).sum ≤ W') (hlo : W' + (nativeFrameWords "java/lang/System" "arraycopy" 5 + 11) ≤ R.locals)
    (K : ∀ T' h', St p l e R s m A below meth c Z T' h' cells slots → Keep h h' [b] → By Z h' b z' → Goes p e below W T' (mkF m pc' Ls st)) : Goes p e below W T (mkF m pc Ls (.int nn :: .int dp :: .ref b :: .int sp :: .ref a :: st)) := by
  obtain ⟨k, vs, dv, A0⟩ := F
  obtain ⟨⟨k', vd, B0, l0⟩, E⟩ := G
  have t1 := own_tn h1
  have t2 := own_tn h2
  have t3 := own_tn h3
  have t4 := own_tn (x := z) (by omega)
  have t5 := own_tn (x := z') (by omega)
  exact g_arraycopy C X w1 w2 w3 w4 A0 B0 rfl (own_nn h1) (own_nn h2) (own_nn h3) (by omega) (by omega) _ rfl (by rw [l0]; omega) hnew hsz d hf W' hW hlo fun T' h' X' K' A' => K T' h' X' K' ⟨⟨k', _, A', by simp only [List.length_append, List.length_take, List.length_map, List.length_range, List.length_drop, l0]; omega⟩, Exa.keep E K'⟩
theorem g_cloneB {index cap : Nat} {a : Addr} {z : Int32} (C : Cx p s m meth c Z own nm bytes maxL ret) (X : St p l e R s m A below meth c Z T h cells slots)
    (w1 : (Jvm.Cond.methodLink own index ⟨"[B", "clone", "()Ljava/lang/Object;"⟩).before a0 Z = true) (w2 : (Jvm.Cond.sameMethod "[B" "java/lang/Object" "clone" "()Ljava/lang/Object;").before a0 Z = true) (w3 : (Jvm.Cond.native ⟨"java/lang/Object", "clone", "()Ljava/lang/Object;"⟩).before a0 Z = true)
    (w4 : (Jvm.Cond.instanceMethod ⟨"java/lang/Object", "clone", "()Ljava/lang/Object;"⟩).before a0 Z = true) (w5 : (Jvm.Cond.selects "[B" ⟨"[B", "clone", "()Ljava/lang/Object;"⟩ ⟨"java/lang/Object", "clone", "()Ljava/lang/Object;"⟩).before a0 Z = true) (w6 : (Jvm.Cond.castable "[B" "java/lang/Cloneable").before a0 Z = true)
    (F : By Z h a z) (hsz : Ls.size = maxL) (d : Dc bytes pc (.invokevirtual index) 3 pc') (hf : 1 ≤ R.frames) (W' : Nat) (hW : (st.map fun v => v.category).sum ≤ W') (hl : W' + 14 ≤ R.locals) (hcap : z.toNatClampNeg ≤ cap) (hc : cells + 1 ≤ R.cells) (hs : slots + cap ≤ R.slots)
    (K : ∀ T' h' b, b = h.size → Z.heap.size ≤ b → St p l e R s m A below meth c Z T' h' (cells + 1) (slots + cap) → Ext h h' → By Z h' b z → Goes p e below W T' (mkF m pc' Ls (.ref b :: st))) : Goes p e below W T (mkF m pc Ls (.ref a :: st)) := by
  obtain ⟨⟨k, vs, A0, l0⟩, E⟩ := F
  exact g_clone C X w1 w2 w3 w4 w5 w6 A0 E hsz d hf W' hW hl hcap hc hs fun T' h' b g1 g2 X' E' A' Ex => K T' h' b g1 g2 X' E' ⟨⟨k, vs, A', l0⟩, Ex⟩
theorem own_face {K0 : String} {y y0 : MethodName} {Z : State} {a0 : Array Value} {r0 : MethodId} (ws : (Jvm.Cond.selects K0 y0 y0).before a0 Z = true) (hc : y0.cls = y.cls) (hn : Z.methodNamed? y = some r0) : ∃ k, Z.vm.classes[r0.cls]? = some k ∧ k.isInterface = false := by
  obtain ⟨c2, r2, m2, -, -, q3, -, kP, hkP, hkPi⟩ := Cond.selects_spec ws
  have e1 := findClass_of_methodNamed hn
  have e2 := findClass_of_methodNamed q3
  rw [hc, e1] at e2
  have e3 := Option.some.inj e2
  exact ⟨kP, by rw [e3]; exact hkP, hkPi⟩
theorem own_nf {K0 : String} {y y0 : MethodName} (hZ : Z.Warmed39 s.vm) (ws : (Jvm.Cond.selects K0 y0 y0).before a0 Z = true) (hc : y0.cls = y.cls) : NotFace s y := fun r0 h0 => own_face (a0 := #[]) (mvT hZ ws) hc h0
theorem own_same {K0 : String} {y y0 : MethodName} (w : (Jvm.Cond.instanceMethod y).before a0 Z = true) (ws : (Jvm.Cond.selects K0 y0 y0).before a0 Z = true) (hc : y0.cls = y.cls) (hy : y.cls ≠ "java/lang/invoke/MethodHandle" ∧ y.cls ≠ "java/lang/invoke/VarHandle") : (Jvm.Cond.sameMethod y.cls y.cls y.name y.desc).before a0 Z = true := by
  obtain ⟨mk, methM, hn, hm, -, -⟩ := Cond.instanceMethod_spec w
  obtain ⟨k, hk, hi⟩ := own_face ws hc hn
  have e1 := findClass_of_methodNamed hn
  have hf : Z.methodFound? y.cls y.name y.desc = some mk := State.methodFound?_of_named hn hy
  have hn' : Z.methodNamed? ⟨y.cls, y.name, y.desc⟩ = some mk := hn
  simp [Cond.before, Cond.holds, Cond.value, e1, hf, hn', hk, hi]
theorem sel_privateK {K0 : String} {y y0 : MethodName} (hZ : Z.Warmed39 s.vm) (ws : (Jvm.Cond.selects K0 y0 y0).before a0 Z = true) (hc : y0.cls = y.cls) (wp : (Jvm.Cond.privateMethod y).before a0 Z = true) (w2 : (Jvm.Cond.instanceMethod y).before a0 Z = true) (hy : y.cls ≠ "java/lang/invoke/MethodHandle" ∧ y.cls ≠ "java/lang/invoke/VarHandle") : (Jvm.Cond.selects y.cls y y).before A s = true := by
  have w' : (Jvm.Cond.instanceMethod y).before A s = true := mvT hZ w2
  obtain ⟨mk, methM, hn, hm, -, -⟩ := Cond.instanceMethod_spec w'
  obtain ⟨k, hk, hi⟩ := own_face (a0 := #[]) (mvT hZ ws) hc hn
  exact selects_self_of_private (findClass_of_methodNamed hn) hk hi (Cond.privateMethod_at (args := A) (mvP hZ wp)) w' hy
theorem g_privateK {index k n : Nat} {y : MethodName} {K0 : String} {bytes' : ByteArray} {maxL' W' : Nat} {ret' : Option FieldType} {argsL : List Value} {Q : Option Value → Heap → Prop} {ps : List FieldType} {rt : Option FieldType} {a : Addr} (C : Cx p s m meth c Z own nm bytes maxL ret) (X : St p l e R s m A below meth c Z T h cells slots)
    (w1 : (Jvm.Cond.methodLink own index y).before a0 Z = true) (w2 : (Jvm.Cond.instanceMethod y).before a0 Z = true) (hsel : (Jvm.Cond.selects y.cls y y).before A s = true) (wp : (Jvm.Cond.privateMethod y).before a0 Z = true) (w4 : (Jvm.Cond.code y bytes' maxL' ret').before a0 Z = true) (hy : y.cls ≠ "java/lang/invoke/MethodHandle" ∧ y.cls ≠ "java/lang/invoke/VarHandle") (Ex : Exa Z h a K0)
    (hK : Pay l R p e below s A y 3 W' k n Z (.ref a :: argsL).toArray h Q) (pd : parseMethodDescriptor y.desc = some ⟨ps, rt⟩) (hlen : argsL.length = ps.length) (hsz : Ls.size = maxL) (stk : List Value) (hst : stk = argsL.reverse ++ .ref a :: st) (hW : (st.map fun v => v.category).sum ≤ W') (d : Dc bytes pc (.invokevirtual index) 3 pc') (hc : cells + k ≤ R.cells) (hs : slots + n ≤ R.slots)
    (K : ∀ T' h' v, Q v h' → St p l e R s m A below meth c Z T' h' (cells + k) (slots + n) → Goes p e below W T' (mkF m pc' Ls (v.toList ++ st))) : Goes p e below W T (mkF m pc Ls stk) := by
  obtain ⟨d, rfl⟩ := d
  obtain ⟨L0, Y, eT, N, E⟩ := X
  obtain ⟨cell, kk, q1, -, -, q4, -⟩ := Ex
  obtain ⟨v, vm₁, B, -, Y', ⟨L, ⟨N', E', hQ⟩, hB⟩, q⟩ := Y.privateBack C.hx C.hown (mvT C.hZ w1) (mvT C.hZ w2) hsel (Cond.privateMethod_at (args := A) (mvP C.hZ wp)) (mvT C.hZ w4) hy hK (g := mkF m pc Ls stk) rfl (hsz.trans C.hml.symm) (Steps.refl _) (a := a) (cell := cell) (by rw [eT]; exact q1) (fun z hz => by rw [hz] at q4; cases q4) (argsL := argsL) (rest := st) (lenOf pd hlen) hst (by show 2 * 0 + _ ≤ _; omega) (hb C.hby d) (fun _ _ => ⟨rfl, eT, hc, hs⟩)
  exact Goes.via (fun _ k => q.trans k) (K _ _ v hQ (st_back (T' := T) (h' := h) Y' hB N N' E'))
theorem g_privateKP {index : Nat} {y : MethodName} {K0 : String} {bytes' : ByteArray} {maxL' W' : Nat} {ret' : Option FieldType} {argsL : List Value} {v : Value} {ps : List FieldType} {rt : Option FieldType} {a : Addr} (C : Cx p s m meth c Z own nm bytes maxL ret) (X : St p l e R s m A below meth c Z T h cells slots)
    (w1 : (Jvm.Cond.methodLink own index y).before a0 Z = true) (w2 : (Jvm.Cond.instanceMethod y).before a0 Z = true) (hsel : (Jvm.Cond.selects y.cls y y).before A s = true) (wp : (Jvm.Cond.privateMethod y).before a0 Z = true) (w4 : (Jvm.Cond.code y bytes' maxL' ret').before a0 Z = true) (hy : y.cls ≠ "java/lang/invoke/MethodHandle" ∧ y.cls ≠ "java/lang/invoke/VarHandle") (Ex : Exa Z h a K0)
    (hK : Pay l R p e below s A y 3 W' 0 0 Z (.ref a :: argsL).toArray h (fun v' h' => v' = some v ∧ h' = h)) (pd : parseMethodDescriptor y.desc = some ⟨ps, rt⟩) (hlen : argsL.length = ps.length) (hsz : Ls.size = maxL) (stk : List Value) (hst : stk = argsL.reverse ++ .ref a :: st) (hW : (st.map fun v => v.category).sum ≤ W') (d : Dc bytes pc (.invokevirtual index) 3 pc') (hc : cells ≤ R.cells) (hs : slots ≤ R.slots)
    (K : ∀ T', St p l e R s m A below meth c Z T' h cells slots → Goes p e below W T' (mkF m pc' Ls (v :: st))) : Goes p e below W T (mkF m pc Ls stk) :=
  g_privateK C X w1 w2 hsel wp w4 hy Ex hK pd hlen hsz stk hst hW d hc hs fun T' h' v' hQ X' => by obtain ⟨rfl, rfl⟩ := hQ; exact K T' X'
theorem g_privateKPV {index : Nat} {y : MethodName} {K0 : String} {bytes' : ByteArray} {maxL' W' : Nat} {ret' : Option FieldType} {argsL : List Value} {ps : List FieldType} {rt : Option FieldType} {a : Addr} (C : Cx p s m meth c Z own nm bytes maxL ret) (X : St p l e R s m A below meth c Z T h cells slots)
    (w1 : (Jvm.Cond.methodLink own index y).before a0 Z = true) (w2 : (Jvm.Cond.instanceMethod y).before a0 Z = true) (hsel : (Jvm.Cond.selects y.cls y y).before A s = true) (wp : (Jvm.Cond.privateMethod y).before a0 Z = true) (w4 : (Jvm.Cond.code y bytes' maxL' ret').before a0 Z = true) (hy : y.cls ≠ "java/lang/invoke/MethodHandle" ∧ y.cls ≠ "java/lang/invoke/VarHandle") (Ex : Exa Z h a K0)
    (hK : Pay l R p e below s A y 3 W' 0 0 Z (.ref a :: argsL).toArray h (fun v' h' => v' = none ∧ h' = h)) (pd : parseMethodDescriptor y.desc = some ⟨ps, rt⟩) (hlen : argsL.length = ps.length) (hsz : Ls.size = maxL) (stk : List Value) (hst : stk = argsL.reverse ++ .ref a :: st) (hW : (st.map fun v => v.category).sum ≤ W') (d : Dc bytes pc (.invokevirtual index) 3 pc') (hc : cells ≤ R.cells) (hs : slots ≤ R.slots)
    (K : ∀ T', St p l e R s m A below meth c Z T' h cells slots → Goes p e below W T' (mkF m pc' Ls st)) : Goes p e below W T (mkF m pc Ls stk) :=
  g_privateK C X w1 w2 hsel wp w4 hy Ex hK pd hlen hsz stk hst hW d hc hs fun T' h' v' hQ X' => by obtain ⟨rfl, rfl⟩ := hQ; exact K T' X'
theorem g_super {index k n : Nat} {y : MethodName} {K0 : String} {bytes' : ByteArray} {maxL' W' : Nat} {ret' : Option FieldType} {argsL : List Value} {Q : Option Value → Heap → Prop} {ps : List FieldType} {rt : Option FieldType} {a : Addr} (C : Cx p s m meth c Z own nm bytes maxL ret) (X : St p l e R s m A below meth c Z T h cells slots) (hi : y.name ≠ "<init>")
    (w1 : (Jvm.Cond.methodLink own index y).before a0 Z = true) (w2 : (Jvm.Cond.sameMethod y.cls y.cls y.name y.desc).before a0 Z = true) (w3 : (Jvm.Cond.instanceMethod y).before a0 Z = true) (w4 : (Jvm.Cond.superclass own y.cls).before a0 Z = true) (wc : (Jvm.Cond.code y bytes' maxL' ret').before a0 Z = true) (Ex : Exa Z h a K0)
    (hK : Pay l R p e below s A y 3 W' k n Z (.ref a :: argsL).toArray h Q) (pd : parseMethodDescriptor y.desc = some ⟨ps, rt⟩) (hlen : argsL.length = ps.length) (hsz : Ls.size = maxL) (stk : List Value) (hst : stk = argsL.reverse ++ .ref a :: st) (hW : (st.map fun v => v.category).sum ≤ W') (d : Dc bytes pc (.invokespecial index) 3 pc') (hc : cells + k ≤ R.cells) (hs : slots + n ≤ R.slots)
    (K : ∀ T' h' v, Q v h' → St p l e R s m A below meth c Z T' h' (cells + k) (slots + n) → Goes p e below W T' (mkF m pc' Ls (v.toList ++ st))) : Goes p e below W T (mkF m pc Ls stk) := by
  obtain ⟨d, rfl⟩ := d
  obtain ⟨L0, Y, eT, N, E⟩ := X
  obtain ⟨v, vm₁, B, -, Y', ⟨L, ⟨N', E', hQ⟩, hB⟩, q⟩ := superBack Y C.hx C.hZ C.hown w1 w2 w3 w4 hi hK eT (Ins.self Ex) (g := mkF m pc Ls stk) rfl (hsz.trans C.hml.symm) wc (argsL := argsL) (rest := st) (lenOf pd hlen) hst (by show 2 * 0 + _ ≤ _; omega) (hb C.hby d) (fun _ _ => ⟨rfl, eT, hc, hs⟩)
  exact Goes.via (fun _ k => q.trans k) (K _ _ v hQ (st_back (T' := T) (h' := h) Y' hB N N' E'))
theorem g_superP {index : Nat} {y : MethodName} {K0 : String} {bytes' : ByteArray} {maxL' W' : Nat} {ret' : Option FieldType} {argsL : List Value} {v : Value} {ps : List FieldType} {rt : Option FieldType} {a : Addr} (C : Cx p s m meth c Z own nm bytes maxL ret) (X : St p l e R s m A below meth c Z T h cells slots) (hi : y.name ≠ "<init>")
    (w1 : (Jvm.Cond.methodLink own index y).before a0 Z = true) (w2 : (Jvm.Cond.sameMethod y.cls y.cls y.name y.desc).before a0 Z = true) (w3 : (Jvm.Cond.instanceMethod y).before a0 Z = true) (w4 : (Jvm.Cond.superclass own y.cls).before a0 Z = true) (wc : (Jvm.Cond.code y bytes' maxL' ret').before a0 Z = true) (Ex : Exa Z h a K0)
    (hK : Pay l R p e below s A y 3 W' 0 0 Z (.ref a :: argsL).toArray h (fun v' h' => v' = some v ∧ h' = h)) (pd : parseMethodDescriptor y.desc = some ⟨ps, rt⟩) (hlen : argsL.length = ps.length) (hsz : Ls.size = maxL) (stk : List Value) (hst : stk = argsL.reverse ++ .ref a :: st) (hW : (st.map fun v => v.category).sum ≤ W') (d : Dc bytes pc (.invokespecial index) 3 pc') (hc : cells ≤ R.cells) (hs : slots ≤ R.slots)
    (K : ∀ T', St p l e R s m A below meth c Z T' h cells slots → Goes p e below W T' (mkF m pc' Ls (v :: st))) : Goes p e below W T (mkF m pc Ls stk) :=
  g_super C X hi w1 w2 w3 w4 wc Ex hK pd hlen hsz stk hst hW d hc hs fun T' h' v' hQ X' => by obtain ⟨rfl, rfl⟩ := hQ; exact K T' X'
end OwnBy
theorem ef_rMax (m : MethodId) (xa : Int32) (xb : Int32) : entryFrame m #[(.int xa), (.int xb)] 2 = mkF m 0 #[.val (.int xa), .val (.int xb)] [] := by first | (simp [entryFrame, mkF, argsToLocals, Value.category]; done) | rfl
theorem d24_0 : Dc jdk_29_method_65_code 0 (.iload_n 0) 1 1 := ⟨by decide +kernel, rfl⟩
theorem d24_1 : Dc jdk_29_method_65_code 1 (.iload_n 1) 1 2 := ⟨by decide +kernel, rfl⟩
theorem d24_2 : Dj jdk_29_method_65_code 2 (.if_icmp .lt 7) 7 3 5 9 := ⟨by decide +kernel, rfl, by decide, by decide⟩
theorem d24_9 : Dc jdk_29_method_65_code 9 (.iload_n 1) 1 10 := ⟨by decide +kernel, rfl⟩
theorem d24_10 : Dc jdk_29_method_65_code 10 (.ireturn) 1 11 := ⟨by decide +kernel, rfl⟩
theorem d24_5 : Dc jdk_29_method_65_code 5 (.iload_n 0) 1 6 := ⟨by decide +kernel, rfl⟩
theorem d24_6 : Dj jdk_29_method_65_code 6 (.goto 4) 4 3 9 10 := ⟨by decide +kernel, rfl, by decide, by decide⟩
theorem rMax (l : Launch) {Z : State} {a0 : Array Value} (hw : ∀ d ∈ tables_1, d.before a0 Z = true) {h : Heap} (hE : Ext Z.heap h) (xa : Int32) (xb : Int32)   :
    Con l (⟨"java/lang/Math", "max", "(II)I"⟩ : MethodName) jdk_29_method_65_code 2 (some .int) [] ({ frames := 0, cells := 0, slots := 0, locals := 0 } : Room) Z #[(.int xa), (.int xb)] h (fun v' h' => v' = some (.int (if xa < xb then xb else xa)) ∧ h' = h) := by
  refine con_of (Jvm.Free.JP.mathPlain rfl (by decide +kernel)) hE (fun m => ef_rMax m xa xb) ?_
  intro p e s m below meth c T0 C X0
  have C : Cx p s m meth c Z "java/lang/Math" "max" jdk_29_method_65_code 2 (some .int) := C
  show Goes p e below _ T0 (mkF m 0 #[.val (.int xa), .val (.int xb)] [])
  refine g_iloadN C X0 d24_0 rfl ?_
  refine g_iloadN C X0 d24_1 rfl ?_
  refine g_icmp (hI_lt _ _) C X0 d24_2 (fun c2_1 => ?_) (fun c2_1 => ?_)
  · refine g_iloadN C X0 d24_9 rfl ?_
    exact g_retI C X0 d24_10 (by decide) (by decide) ⟨congrArg (fun z => some (Value.int z)) (if_pos c2_1).symm, rfl⟩
  · refine g_iloadN C X0 d24_5 rfl ?_
    refine g_goto C X0 d24_6 ?_
    exact g_retI C X0 d24_10 (by decide) (by decide) ⟨congrArg (fun z => some (Value.int z)) (if_neg c2_1).symm, rfl⟩
theorem ef_rMin (m : MethodId) (xa : Int32) (xb : Int32) : entryFrame m #[(.int xa), (.int xb)] 2 = mkF m 0 #[.val (.int xa), .val (.int xb)] [] := by first | (simp [entryFrame, mkF, argsToLocals, Value.category]; done) | rfl
theorem d26_0 : Dc jdk_29_method_69_code 0 (.iload_n 0) 1 1 := ⟨by decide +kernel, rfl⟩
theorem d26_1 : Dc jdk_29_method_69_code 1 (.iload_n 1) 1 2 := ⟨by decide +kernel, rfl⟩
theorem d26_2 : Dj jdk_29_method_69_code 2 (.if_icmp .gt 7) 7 3 5 9 := ⟨by decide +kernel, rfl, by decide, by decide⟩
theorem d26_5 : Dc jdk_29_method_69_code 5 (.iload_n 0) 1 6 := ⟨by decide +kernel, rfl⟩
theorem d26_6 : Dj jdk_29_method_69_code 6 (.goto 4) 4 3 9 10 := ⟨by decide +kernel, rfl, by decide, by decide⟩
theorem d26_10 : Dc jdk_29_method_69_code 10 (.ireturn) 1 11 := ⟨by decide +kernel, rfl⟩
theorem rMin (l : Launch) {Z : State} {a0 : Array Value} (hw : ∀ d ∈ tables_1, d.before a0 Z = true) {h : Heap} (hE : Ext Z.heap h) (xa : Int32) (xb : Int32)  (hm : ¬ xb < xa) :
    Con l (⟨"java/lang/Math", "min", "(II)I"⟩ : MethodName) jdk_29_method_69_code 2 (some .int) [] ({ frames := 0, cells := 0, slots := 0, locals := 0 } : Room) Z #[(.int xa), (.int xb)] h (fun v' h' => v' = some (.int xa) ∧ h' = h) := by
  refine con_of (Jvm.Free.JP.mathPlain rfl (by decide +kernel)) hE (fun m => ef_rMin m xa xb) ?_
  intro p e s m below meth c T0 C X0
  have C : Cx p s m meth c Z "java/lang/Math" "min" jdk_29_method_69_code 2 (some .int) := C
  show Goes p e below _ T0 (mkF m 0 #[.val (.int xa), .val (.int xb)] [])
  refine g_iloadN C X0 d26_0 rfl ?_
  refine g_iloadN C X0 d26_1 rfl ?_
  refine g_icmp (hI_gt _ _) C X0 d26_2 (fun q => absurd q hm) (fun _ => ?_)
  refine g_iloadN C X0 d26_5 rfl ?_
  refine g_goto C X0 d26_6 ?_
  exact g_retI C X0 d26_10 (by decide) (by decide) ⟨rfl, rfl⟩
theorem pn_0 : plainName "jdk/internal/util/ArraysSupport" = true := by first | (simp [plainName, overriddenIn]; done) | decide +kernel
theorem ef_rNL (m : MethodId) (la : Int32) (lb : Int32) (lc : Int32) : entryFrame m #[(.int la), (.int lb), (.int lc)] 4 = mkF m 0 #[.val (.int la), .val (.int lb), .val (.int lc), .unset] [] := by first | (simp [entryFrame, mkF, argsToLocals, Value.category]; done) | rfl
theorem d23_0 : Dc jdk_48_method_27_code 0 (.iload_n 0) 1 1 := ⟨by decide +kernel, rfl⟩
theorem d23_1 : Dc jdk_48_method_27_code 1 (.iload_n 1) 1 2 := ⟨by decide +kernel, rfl⟩
theorem d23_2 : Dc jdk_48_method_27_code 2 (.iload_n 2) 1 3 := ⟨by decide +kernel, rfl⟩
theorem d23_3 : Dc jdk_48_method_27_code 3 (.invokestatic 194) 3 6 := ⟨by decide +kernel, rfl⟩
theorem pd_0 : parseMethodDescriptor "(II)I" = some ⟨[.int, .int], some .int⟩ := by decide +kernel
theorem d23_6 : Dc jdk_48_method_27_code 6 (.iadd) 1 7 := ⟨by decide +kernel, rfl⟩
theorem d23_7 : Dc jdk_48_method_27_code 7 (.istore_n 3) 1 8 := ⟨by decide +kernel, rfl⟩
theorem d23_8 : Dc jdk_48_method_27_code 8 (.iconst 0) 1 9 := ⟨by decide +kernel, rfl⟩
theorem d23_9 : Dc jdk_48_method_27_code 9 (.iload_n 3) 1 10 := ⟨by decide +kernel, rfl⟩
theorem d23_10 : Dj jdk_48_method_27_code 10 (.if_icmp .ge 11) 11 3 13 21 := ⟨by decide +kernel, rfl, by decide, by decide⟩
theorem d23_13 : Dc jdk_48_method_27_code 13 (.iload_n 3) 1 14 := ⟨by decide +kernel, rfl⟩
theorem d23_14 : Dc jdk_48_method_27_code 14 (.ldc 200) 2 16 := ⟨by decide +kernel, rfl⟩
theorem d23_16 : Dj jdk_48_method_27_code 16 (.if_icmp .gt 5) 5 3 19 21 := ⟨by decide +kernel, rfl, by decide, by decide⟩
theorem d23_19 : Dc jdk_48_method_27_code 19 (.iload_n 3) 1 20 := ⟨by decide +kernel, rfl⟩
theorem d23_20 : Dc jdk_48_method_27_code 20 (.ireturn) 1 21 := ⟨by decide +kernel, rfl⟩
theorem rNL (l : Launch) {Z : State} {a0 : Array Value} (hw : ∀ d ∈ tables_1, d.before a0 Z = true) {h : Heap} (hE : Ext Z.heap h) (la : Int32) (lb : Int32) (lc : Int32)  (h1 : (0 : Int32) < (la + (if lb < lc then lc else lb))) (h2 : ¬ (2147483639 : Int32) < (la + (if lb < lc then lc else lb))) :
    Con l (⟨"jdk/internal/util/ArraysSupport", "newLength", "(III)I"⟩ : MethodName) jdk_48_method_27_code 4 (some .int) [] ({ frames := 1, cells := 0, slots := 0, locals := 24 } : Room) Z #[(.int la), (.int lb), (.int lc)] h (fun v' h' => v' = some (.int (la + (if lb < lc then lc else lb))) ∧ h' = h) := by
  refine con_of (plainFor_of_name pn_0) hE (fun m => ef_rNL m la lb lc) ?_
  intro p e s m below meth c T0 C X0
  have C : Cx p s m meth c Z "jdk/internal/util/ArraysSupport" "newLength" jdk_48_method_27_code 4 (some .int) := C
  show Goes p e below _ T0 (mkF m 0 #[.val (.int la), .val (.int lb), .val (.int lc), .unset] [])
  refine g_iloadN C X0 d23_0 rfl ?_
  refine g_iloadN C X0 d23_1 rfl ?_
  refine g_iloadN C X0 d23_2 rfl ?_
  refine g_staticP (argsL := [(.int lb), (.int lc)]) (st := [(.int la)]) C X0 (wd hw 146 rfl) (wd hw 147 rfl) (wd hw 148 rfl) (wd hw 149 rfl) (by decide) (pay_of (W' := 1) (rMax l hw X0.ext lb lc) C.hZ (wd hw 149 rfl) (wd hw 148 rfl) (by decide) (by decide)) pd_0 rfl rfl _ rfl (Nat.le_of_eq rfl) d23_3 (by decide) (by decide) (fun T2 X2 => ?_)
  refine g_iadd C X2 d23_6 ?_
  refine g_istoreN C X2 d23_7 (l' := #[.val (.int la), .val (.int lb), .val (.int lc), .val (.int (la + (if lb < lc then lc else lb)))]) rfl ?_
  refine g_iconst 0 C X2 d23_8 rfl ?_
  refine g_iloadN C X2 d23_9 rfl ?_
  refine g_icmpn (hI_ge _ _) C X2 d23_10 (fun q => absurd h1 q) (fun _ => ?_)
  refine g_iloadN C X2 d23_13 rfl ?_
  refine g_ldcI C X2 (wd hw 150 rfl) d23_14 ?_
  refine g_icmp (hI_gt _ _) C X2 d23_16 (fun q => absurd q h2) (fun _ => ?_)
  refine g_iloadN C X2 d23_19 rfl ?_
  exact g_retI C X2 d23_20 (by decide) (by decide) ⟨rfl, rfl⟩
theorem pn_1 : plainName "java/lang/String" = true := by first | (simp [plainName, overriddenIn]; done) | decide +kernel
theorem ef_rCod (m : MethodId) (sq : Addr) : entryFrame m #[(.ref sq)] 1 = mkF m 0 #[.val (.ref sq)] [] := by first | (simp [entryFrame, mkF, argsToLocals, Value.category]; done) | rfl
theorem d12_0 : Dc jdk_42_method_152_code 0 (.getstatic 38) 3 3 := ⟨by decide +kernel, rfl⟩
theorem d12_3 : Dj jdk_42_method_152_code 3 (.ifCond .eq 10) 10 3 6 13 := ⟨by decide +kernel, rfl, by decide, by decide⟩
theorem d12_6 : Dc jdk_42_method_152_code 6 (.aload_n 0) 1 7 := ⟨by decide +kernel, rfl⟩
theorem d12_7 : Dc jdk_42_method_152_code 7 (.getfield 15) 3 10 := ⟨by decide +kernel, rfl⟩
theorem d12_10 : Dj jdk_42_method_152_code 10 (.goto 4) 4 3 13 14 := ⟨by decide +kernel, rfl, by decide, by decide⟩
theorem d12_14 : Dc jdk_42_method_152_code 14 (.ireturn) 1 15 := ⟨by decide +kernel, rfl⟩
theorem rCod (l : Launch) {Z : State} {a0 : Array Value} (hw : ∀ d ∈ tables_1, d.before a0 Z = true) {h : Heap} (hE : Ext Z.heap h) (sq : Addr) (z_ : Int32) (SZ : Sta Z Z.heap "java/lang/String" "COMPACT_STRINGS" "Z" (.int z_)) (hz : ¬ z_ = 0) (QC : Fld Z h sq "java/lang/String" "coder" "B" (.int (0 : Int32))) :
    Con l (⟨"java/lang/String", "coder", "()B"⟩ : MethodName) jdk_42_method_152_code 1 (some .byte) [] ({ frames := 0, cells := 0, slots := 0, locals := 0 } : Room) Z #[(.ref sq)] h (fun v' h' => v' = some (.int 0) ∧ h' = h) := by
  refine con_of (plainFor_of_name pn_1) hE (fun m => ef_rCod m sq) ?_
  intro p e s m below meth c T0 C X0
  have C : Cx p s m meth c Z "java/lang/String" "coder" jdk_42_method_152_code 1 (some .byte) := C
  show Goes p e below _ T0 (mkF m 0 #[.val (.ref sq)] [])
  refine g_getstatic (host := "") C X0 (Or.inl (wd hw 84 rfl)) Via.refl SZ d12_0 (fun T3 X3 => ?_)
  refine g_if (h0_eq _) C X3 d12_3 (fun q => absurd q hz) (fun _ => ?_)
  refine g_aloadN C X3 d12_6 rfl rfl ?_
  refine g_getfield (host := "") C X3 (Or.inl (wd hw 85 rfl)) Via.refl QC d12_7 (fun T4 X4 => ?_)
  refine g_goto C X4 d12_10 ?_
  exact g_retN C X4 (by simp) d12_14 (0 : Int32) rfl (by decide) (by decide) ⟨rfl, rfl⟩
theorem ef_rLen (m : MethodId) (sq : Addr) : entryFrame m #[(.ref sq)] 1 = mkF m 0 #[.val (.ref sq)] [] := by first | (simp [entryFrame, mkF, argsToLocals, Value.category]; done) | rfl
theorem d11_0 : Dc jdk_42_method_54_code 0 (.aload_n 0) 1 1 := ⟨by decide +kernel, rfl⟩
theorem d11_1 : Dc jdk_42_method_54_code 1 (.getfield 9) 3 4 := ⟨by decide +kernel, rfl⟩
theorem d11_4 : Dc jdk_42_method_54_code 4 (.arraylength) 1 5 := ⟨by decide +kernel, rfl⟩
theorem d11_5 : Dc jdk_42_method_54_code 5 (.aload_n 0) 1 6 := ⟨by decide +kernel, rfl⟩
theorem d11_6 : Dc jdk_42_method_54_code 6 (.invokevirtual 335) 3 9 := ⟨by decide +kernel, rfl⟩
theorem pd_1 : parseMethodDescriptor "()B" = some ⟨[], some .byte⟩ := by decide +kernel
theorem d11_9 : Dc jdk_42_method_54_code 9 (.ishr) 1 10 := ⟨by decide +kernel, rfl⟩
theorem d11_10 : Dc jdk_42_method_54_code 10 (.ireturn) 1 11 := ⟨by decide +kernel, rfl⟩
theorem rLen (l : Launch) {Z : State} {a0 : Array Value} (hw : ∀ d ∈ tables_1, d.before a0 Z = true) {h : Heap} (hE : Ext Z.heap h) (sq : Addr) (z_ : Int32) (SZ : Sta Z Z.heap "java/lang/String" "COMPACT_STRINGS" "Z" (.int z_)) (hz : ¬ z_ = 0) (tq : Addr) (lq : Int32) (EQ : Exa Z h sq "java/lang/String") (QC : Fld Z h sq "java/lang/String" "coder" "B" (.int (0 : Int32))) (QV : Fld Z h sq "java/lang/String" "value" "[B" (.ref tq)) (VQ : ByS Z h tq lq) :
    Con l (⟨"java/lang/String", "length", "()I"⟩ : MethodName) jdk_42_method_54_code 1 (some .int) [] ({ frames := 1, cells := 0, slots := 0, locals := 24 } : Room) Z #[(.ref sq)] h (fun v' h' => v' = some (.int lq) ∧ h' = h) := by
  refine con_of (plainFor_of_name pn_1) hE (fun m => ef_rLen m sq) ?_
  intro p e s m below meth c T0 C X0
  have C : Cx p s m meth c Z "java/lang/String" "length" jdk_42_method_54_code 1 (some .int) := C
  show Goes p e below _ T0 (mkF m 0 #[.val (.ref sq)] [])
  refine g_aloadN C X0 d11_0 rfl rfl ?_
  refine g_getfield (host := "") C X0 (Or.inl (wd hw 78 rfl)) Via.refl QV d11_1 (fun T5 X5 => ?_)
  refine g_arraylengthS C X5 VQ d11_4 ?_
  refine g_aloadN C X5 d11_5 rfl rfl ?_
  refine g_virtualP (argsL := []) (st := [(.int lq)]) C X5 (wd hw 79 rfl) (wd hw 80 rfl) (nf_of C (wd hw 82 rfl) rfl rfl) (wd hw 82 rfl) (wd hw 81 rfl) (by decide) EQ (pay_of (W' := 1) (rCod l hw X5.ext sq z_ SZ hz QC) C.hZ (wd hw 83 rfl) (wd hw 31 rfl) (by decide) (by decide)) pd_1 rfl rfl _ rfl (Nat.le_of_eq rfl) d11_6 (by decide) (by decide) (fun T6 X6 => ?_)
  refine g_ishr C X6 d11_9 ?_
  rw [own_shr0]
  show Goes p e below _ T6 (mkF m 10 #[.val (.ref sq)] [(.int lq)])
  exact g_retI C X6 d11_10 (by decide) (by decide) ⟨rfl, rfl⟩
theorem pn_2 : plainName "java/lang/AbstractStringBuilder" = true := by first | (simp [plainName, overriddenIn]; done) | decide +kernel
theorem ef_rLat (m : MethodId) (sb : Addr) : entryFrame m #[(.ref sb)] 1 = mkF m 0 #[.val (.ref sb)] [] := by first | (simp [entryFrame, mkF, argsToLocals, Value.category]; done) | rfl
theorem d20_0 : Dc jdk_68_method_68_code 0 (.getstatic 18) 3 3 := ⟨by decide +kernel, rfl⟩
theorem d20_3 : Dj jdk_68_method_68_code 3 (.ifCond .eq 14) 14 3 6 17 := ⟨by decide +kernel, rfl, by decide, by decide⟩
theorem d20_6 : Dc jdk_68_method_68_code 6 (.aload_n 0) 1 7 := ⟨by decide +kernel, rfl⟩
theorem d20_7 : Dc jdk_68_method_68_code 7 (.getfield 22) 3 10 := ⟨by decide +kernel, rfl⟩
theorem d20_10 : Dj jdk_68_method_68_code 10 (.ifCond .ne 7) 7 3 13 17 := ⟨by decide +kernel, rfl, by decide, by decide⟩
theorem d20_13 : Dc jdk_68_method_68_code 13 (.iconst 1) 1 14 := ⟨by decide +kernel, rfl⟩
theorem d20_14 : Dj jdk_68_method_68_code 14 (.goto 4) 4 3 17 18 := ⟨by decide +kernel, rfl, by decide, by decide⟩
theorem d20_18 : Dc jdk_68_method_68_code 18 (.ireturn) 1 19 := ⟨by decide +kernel, rfl⟩
theorem rLat (l : Launch) {Z : State} {a0 : Array Value} (hw : ∀ d ∈ tables_1, d.before a0 Z = true) {h : Heap} (hE : Ext Z.heap h) (sb : Addr) (z_ : Int32) (SZ : Sta Z Z.heap "java/lang/String" "COMPACT_STRINGS" "Z" (.int z_)) (hz : ¬ z_ = 0) (FC : Fld Z h sb "java/lang/AbstractStringBuilder" "coder" "B" (.int (0 : Int32))) :
    Con l (⟨"java/lang/AbstractStringBuilder", "isLatin1", "()Z"⟩ : MethodName) jdk_68_method_68_code 1 (some .boolean) [] ({ frames := 0, cells := 0, slots := 0, locals := 0 } : Room) Z #[(.ref sb)] h (fun v' h' => v' = some (.int 1) ∧ h' = h) := by
  refine con_of (plainFor_of_name pn_2) hE (fun m => ef_rLat m sb) ?_
  intro p e s m below meth c T0 C X0
  have C : Cx p s m meth c Z "java/lang/AbstractStringBuilder" "isLatin1" jdk_68_method_68_code 1 (some .boolean) := C
  show Goes p e below _ T0 (mkF m 0 #[.val (.ref sb)] [])
  refine g_getstatic (host := "") C X0 (Or.inl (wd hw 54 rfl)) Via.refl SZ d20_0 (fun T7 X7 => ?_)
  refine g_if (h0_eq _) C X7 d20_3 (fun q => absurd q hz) (fun _ => ?_)
  refine g_aloadN C X7 d20_6 rfl rfl ?_
  refine g_getfield (host := "") C X7 (Or.inl (wd hw 57 rfl)) Via.refl FC d20_7 (fun T8 X8 => ?_)
  refine g_ifn (h0_ne _) C X8 d20_10 (fun q => absurd (by decide) q) (fun _ => ?_)
  refine g_iconst 1 C X8 d20_13 rfl ?_
  refine g_goto C X8 d20_14 ?_
  exact g_retN C X8 (by simp) d20_18 (1 : Int32) rfl (by decide) (by decide) ⟨rfl, rfl⟩
theorem ef_rGV (m : MethodId) (sb : Addr) : entryFrame m #[(.ref sb)] 1 = mkF m 0 #[.val (.ref sb)] [] := by first | (simp [entryFrame, mkF, argsToLocals, Value.category]; done) | rfl
theorem d30_0 : Dc jdk_68_method_64_code 0 (.aload_n 0) 1 1 := ⟨by decide +kernel, rfl⟩
theorem d30_1 : Dc jdk_68_method_64_code 1 (.getfield 15) 3 4 := ⟨by decide +kernel, rfl⟩
theorem d30_4 : Dc jdk_68_method_64_code 4 (.areturn) 1 5 := ⟨by decide +kernel, rfl⟩
theorem rGV (l : Launch) {Z : State} {a0 : Array Value} (hw : ∀ d ∈ tables_1, d.before a0 Z = true) {h : Heap} (hE : Ext Z.heap h) (sb : Addr) (ar : Addr) (FV : Fld Z h sb "java/lang/AbstractStringBuilder" "value" "[B" (.ref ar)) :
    Con l (⟨"java/lang/AbstractStringBuilder", "getValue", "()[B"⟩ : MethodName) jdk_68_method_64_code 1 (some (.array .byte)) [] ({ frames := 0, cells := 0, slots := 0, locals := 0 } : Room) Z #[(.ref sb)] h (fun v' h' => v' = some (.ref ar) ∧ h' = h) := by
  refine con_of (plainFor_of_name pn_2) hE (fun m => ef_rGV m sb) ?_
  intro p e s m below meth c T0 C X0
  have C : Cx p s m meth c Z "java/lang/AbstractStringBuilder" "getValue" jdk_68_method_64_code 1 (some (.array .byte)) := C
  show Goes p e below _ T0 (mkF m 0 #[.val (.ref sb)] [])
  refine g_aloadN C X0 d30_0 rfl rfl ?_
  refine g_getfield (host := "") C X0 (Or.inl (wd hw 55 rfl)) Via.refl FV d30_1 (fun T9 X9 => ?_)
  exact g_retA C X9 rfl rfl d30_4 (by decide) (by decide) ⟨rfl, rfl⟩
theorem ef_rAL (m : MethodId) (sb : Addr) : entryFrame m #[(.ref sb)] 1 = mkF m 0 #[.val (.ref sb)] [] := by first | (simp [entryFrame, mkF, argsToLocals, Value.category]; done) | rfl
theorem d32_0 : Dc jdk_68_method_6_code 0 (.aload_n 0) 1 1 := ⟨by decide +kernel, rfl⟩
theorem d32_1 : Dc jdk_68_method_6_code 1 (.getfield 79) 3 4 := ⟨by decide +kernel, rfl⟩
theorem d32_4 : Dc jdk_68_method_6_code 4 (.ireturn) 1 5 := ⟨by decide +kernel, rfl⟩
theorem rAL (l : Launch) {Z : State} {a0 : Array Value} (hw : ∀ d ∈ tables_1, d.before a0 Z = true) {h : Heap} (hE : Ext Z.heap h) (sb : Addr) (cn : Int32) (EB : Exa Z h sb "java/lang/StringBuilder") (FN : Fld Z h sb "java/lang/AbstractStringBuilder" "count" "I" (.int cn)) :
    Con l (⟨"java/lang/AbstractStringBuilder", "length", "()I"⟩ : MethodName) jdk_68_method_6_code 1 (some .int) [] ({ frames := 0, cells := 0, slots := 0, locals := 0 } : Room) Z #[(.ref sb)] h (fun v' h' => v' = some (.int cn) ∧ h' = h) := by
  refine con_of (plainFor_of_name pn_2) hE (fun m => ef_rAL m sb) ?_
  intro p e s m below meth c T0 C X0
  have C : Cx p s m meth c Z "java/lang/AbstractStringBuilder" "length" jdk_68_method_6_code 1 (some .int) := C
  show Goes p e below _ T0 (mkF m 0 #[.val (.ref sb)] [])
  refine g_aloadN C X0 d32_0 rfl rfl ?_
  refine g_getfield (host := "") C X0 (Or.inl (wd hw 86 rfl)) Via.refl FN d32_1 (fun T10 X10 => ?_)
  exact g_retI C X10 d32_4 (by decide) (by decide) ⟨rfl, rfl⟩
theorem pn_3 : plainName "java/lang/StringBuilder" = true := by first | (simp [plainName, overriddenIn]; done) | decide +kernel
theorem ef_rBL (m : MethodId) (sb : Addr) : entryFrame m #[(.ref sb)] 1 = mkF m 0 #[.val (.ref sb)] [] := by first | (simp [entryFrame, mkF, argsToLocals, Value.category]; done) | rfl
theorem d31_0 : Dc jdk_67_method_93_code 0 (.aload_n 0) 1 1 := ⟨by decide +kernel, rfl⟩
theorem d31_1 : Dc jdk_67_method_93_code 1 (.invokespecial 343) 3 4 := ⟨by decide +kernel, rfl⟩
theorem pd_2 : parseMethodDescriptor "()I" = some ⟨[], some .int⟩ := by decide +kernel
theorem d31_4 : Dc jdk_67_method_93_code 4 (.ireturn) 1 5 := ⟨by decide +kernel, rfl⟩
theorem rBL (l : Launch) {Z : State} {a0 : Array Value} (hw : ∀ d ∈ tables_1, d.before a0 Z = true) {h : Heap} (hE : Ext Z.heap h) (sb : Addr) (cn : Int32) (EB : Exa Z h sb "java/lang/StringBuilder") (FN : Fld Z h sb "java/lang/AbstractStringBuilder" "count" "I" (.int cn)) :
    Con l (⟨"java/lang/StringBuilder", "length", "()I"⟩ : MethodName) jdk_67_method_93_code 1 (some .int) [] ({ frames := 1, cells := 0, slots := 0, locals := 24 } : Room) Z #[(.ref sb)] h (fun v' h' => v' = some (.int cn) ∧ h' = h) := by
  refine con_of (plainFor_of_name pn_3) hE (fun m => ef_rBL m sb) ?_
  intro p e s m below meth c T0 C X0
  have C : Cx p s m meth c Z "java/lang/StringBuilder" "length" jdk_67_method_93_code 1 (some .int) := C
  show Goes p e below _ T0 (mkF m 0 #[.val (.ref sb)] [])
  refine g_aloadN C X0 d31_0 rfl rfl ?_
  refine g_superP (argsL := []) (st := []) C X0 (by decide) (wd hw 185 rfl) (own_same (wd hw 181 rfl) (wd hw 129 rfl) rfl (by decide)) (wd hw 181 rfl) (wd hw 70 rfl) (wd hw 186 rfl) EB (pay_of (W' := 0) (rAL l hw X0.ext sb cn EB FN) C.hZ (wd hw 186 rfl) (wd hw 51 rfl) (by decide) (by decide)) pd_2 rfl rfl _ rfl (Nat.le_of_eq rfl) d31_1 (by decide) (by decide) (fun T11 X11 => ?_)
  exact g_retI C X11 d31_4 (by decide) (by decide) ⟨rfl, rfl⟩
theorem ef_rNC (m : MethodId) (sb : Addr) (mn : Int32) : entryFrame m #[(.ref sb), (.int mn)] 6 = mkF m 0 #[.val (.ref sb), .val (.int mn), .unset, .unset, .unset, .unset] [] := by first | (simp [entryFrame, mkF, argsToLocals, Value.category]; done) | rfl
theorem d22_0 : Dc jdk_68_method_10_code 0 (.aload_n 0) 1 1 := ⟨by decide +kernel, rfl⟩
theorem d22_1 : Dc jdk_68_method_10_code 1 (.getfield 15) 3 4 := ⟨by decide +kernel, rfl⟩
theorem d22_4 : Dc jdk_68_method_10_code 4 (.arraylength) 1 5 := ⟨by decide +kernel, rfl⟩
theorem d22_5 : Dc jdk_68_method_10_code 5 (.istore_n 2) 1 6 := ⟨by decide +kernel, rfl⟩
theorem d22_6 : Dc jdk_68_method_10_code 6 (.iload_n 1) 1 7 := ⟨by decide +kernel, rfl⟩
theorem d22_7 : Dc jdk_68_method_10_code 7 (.aload_n 0) 1 8 := ⟨by decide +kernel, rfl⟩
theorem d22_8 : Dc jdk_68_method_10_code 8 (.getfield 22) 3 11 := ⟨by decide +kernel, rfl⟩
theorem d22_11 : Dc jdk_68_method_10_code 11 (.ishl) 1 12 := ⟨by decide +kernel, rfl⟩
theorem d22_12 : Dc jdk_68_method_10_code 12 (.istore_n 3) 1 13 := ⟨by decide +kernel, rfl⟩
theorem d22_13 : Dc jdk_68_method_10_code 13 (.iload_n 3) 1 14 := ⟨by decide +kernel, rfl⟩
theorem d22_14 : Dc jdk_68_method_10_code 14 (.iload_n 2) 1 15 := ⟨by decide +kernel, rfl⟩
theorem d22_15 : Dc jdk_68_method_10_code 15 (.isub) 1 16 := ⟨by decide +kernel, rfl⟩
theorem d22_16 : Dc jdk_68_method_10_code 16 (.istore 4) 2 18 := ⟨by decide +kernel, rfl⟩
theorem d22_18 : Dc jdk_68_method_10_code 18 (.iload_n 2) 1 19 := ⟨by decide +kernel, rfl⟩
theorem d22_19 : Dc jdk_68_method_10_code 19 (.iload 4) 2 21 := ⟨by decide +kernel, rfl⟩
theorem d22_21 : Dc jdk_68_method_10_code 21 (.iload_n 2) 1 22 := ⟨by decide +kernel, rfl⟩
theorem d22_22 : Dc jdk_68_method_10_code 22 (.iconst 2) 1 23 := ⟨by decide +kernel, rfl⟩
theorem d22_23 : Dc jdk_68_method_10_code 23 (.aload_n 0) 1 24 := ⟨by decide +kernel, rfl⟩
theorem d22_24 : Dc jdk_68_method_10_code 24 (.getfield 22) 3 27 := ⟨by decide +kernel, rfl⟩
theorem d22_27 : Dc jdk_68_method_10_code 27 (.ishl) 1 28 := ⟨by decide +kernel, rfl⟩
theorem d22_28 : Dc jdk_68_method_10_code 28 (.iadd) 1 29 := ⟨by decide +kernel, rfl⟩
theorem d22_29 : Dc jdk_68_method_10_code 29 (.invokestatic 114) 3 32 := ⟨by decide +kernel, rfl⟩
theorem pd_3 : parseMethodDescriptor "(III)I" = some ⟨[.int, .int, .int], some .int⟩ := by decide +kernel
theorem d22_32 : Dc jdk_68_method_10_code 32 (.istore 5) 2 34 := ⟨by decide +kernel, rfl⟩
theorem d22_34 : Dc jdk_68_method_10_code 34 (.iload 5) 2 36 := ⟨by decide +kernel, rfl⟩
theorem d22_36 : Dc jdk_68_method_10_code 36 (.ldc 39) 2 38 := ⟨by decide +kernel, rfl⟩
theorem d22_38 : Dj jdk_68_method_10_code 38 (.if_icmp .ne 13) 13 3 41 51 := ⟨by decide +kernel, rfl, by decide, by decide⟩
theorem d22_51 : Dc jdk_68_method_10_code 51 (.iload 5) 2 53 := ⟨by decide +kernel, rfl⟩
theorem d22_53 : Dc jdk_68_method_10_code 53 (.aload_n 0) 1 54 := ⟨by decide +kernel, rfl⟩
theorem d22_54 : Dc jdk_68_method_10_code 54 (.getfield 22) 3 57 := ⟨by decide +kernel, rfl⟩
theorem d22_57 : Dc jdk_68_method_10_code 57 (.ishr) 1 58 := ⟨by decide +kernel, rfl⟩
theorem d22_58 : Dc jdk_68_method_10_code 58 (.ireturn) 1 59 := ⟨by decide +kernel, rfl⟩
theorem rNC (l : Launch) {Z : State} {a0 : Array Value} (hw : ∀ d ∈ tables_1, d.before a0 Z = true) {h : Heap} (hE : Ext Z.heap h) (sb : Addr) (mn : Int32) (ar : Addr) (cn cp : Int32) (EB : Exa Z h sb "java/lang/StringBuilder") (FC : Fld Z h sb "java/lang/AbstractStringBuilder" "coder" "B" (.int (0 : Int32))) (FV : Fld Z h sb "java/lang/AbstractStringBuilder" "value" "[B" (.ref ar)) (FN : Fld Z h sb "java/lang/AbstractStringBuilder" "count" "I" (.int cn)) (VA : By Z h ar cp) (nb : Z.heap.size ≤ sb) (na : Z.heap.size ≤ ar) (c1 : 0 ≤ cn.toInt) (c2 : cn.toInt ≤ cp.toInt) (c3 : cp.toInt ≤ 200) (g1 : cp.toInt < mn.toInt) (g2 : mn.toInt ≤ 100) :
    Con l (⟨"java/lang/AbstractStringBuilder", "newCapacity", "(I)I"⟩ : MethodName) jdk_68_method_10_code 6 (some .int) [] ({ frames := 2, cells := 0, slots := 0, locals := 48 } : Room) Z #[(.ref sb), (.int mn)] h (fun v' h' => v' = some (.int (cp + (if (mn - cp) < (cp + (2 : Int32)) then (cp + (2 : Int32)) else (mn - cp)))) ∧ h' = h) := by
  refine con_of (plainFor_of_name pn_2) hE (fun m => ef_rNC m sb mn) ?_
  intro p e s m below meth c T0 C X0
  have C : Cx p s m meth c Z "java/lang/AbstractStringBuilder" "newCapacity" jdk_68_method_10_code 6 (some .int) := C
  show Goes p e below _ T0 (mkF m 0 #[.val (.ref sb), .val (.int mn), .unset, .unset, .unset, .unset] [])
  have ne12 : sb ≠ ar := Exa.ne EB VA.2 (by decide)
  have hcap := own_cap (cp := cp) (mn := mn) (by omega) g1 g2
  refine g_aloadN C X0 d22_0 rfl rfl ?_
  refine g_getfield (host := "") C X0 (Or.inl (wd hw 55 rfl)) Via.refl FV d22_1 (fun T13 X13 => ?_)
  refine g_arraylengthS C X13 (By.toS VA) d22_4 ?_
  refine g_istoreN C X13 d22_5 (l' := #[.val (.ref sb), .val (.int mn), .val (.int cp), .unset, .unset, .unset]) rfl ?_
  refine g_iloadN C X13 d22_6 rfl ?_
  refine g_aloadN C X13 d22_7 rfl rfl ?_
  refine g_getfield (host := "") C X13 (Or.inl (wd hw 57 rfl)) Via.refl FC d22_8 (fun T14 X14 => ?_)
  refine g_ishl C X14 d22_11 ?_
  rw [own_shl0]
  show Goes p e below _ T14 (mkF m 12 #[.val (.ref sb), .val (.int mn), .val (.int cp), .unset, .unset, .unset] [(.int mn)])
  refine g_istoreN C X14 d22_12 (l' := #[.val (.ref sb), .val (.int mn), .val (.int cp), .val (.int mn), .unset, .unset]) rfl ?_
  refine g_iloadN C X14 d22_13 rfl ?_
  refine g_iloadN C X14 d22_14 rfl ?_
  refine g_isub C X14 d22_15 ?_
  refine g_istore C X14 d22_16 (l' := #[.val (.ref sb), .val (.int mn), .val (.int cp), .val (.int mn), .val (.int (mn - cp)), .unset]) rfl ?_
  refine g_iloadN C X14 d22_18 rfl ?_
  refine g_iload C X14 d22_19 rfl ?_
  refine g_iloadN C X14 d22_21 rfl ?_
  refine g_iconst 2 C X14 d22_22 rfl ?_
  refine g_aloadN C X14 d22_23 rfl rfl ?_
  refine g_getfield (host := "") C X14 (Or.inl (wd hw 57 rfl)) Via.refl FC d22_24 (fun T15 X15 => ?_)
  refine g_ishl C X15 d22_27 ?_
  refine g_iadd C X15 d22_28 ?_
  refine g_staticP (argsL := [(.int cp), (.int (mn - cp)), (.int (cp + (2 : Int32)))]) (st := []) C X15 (wd hw 142 rfl) (wd hw 143 rfl) (wd hw 144 rfl) (wd hw 145 rfl) (by decide) (pay_of (W' := 0) (rNL l hw X15.ext cp (mn - cp) (cp + (2 : Int32)) (own_lt (by rw [show (0 : Int32).toInt = 0 from rfl]; omega)) (own_nlt (by rw [show (2147483639 : Int32).toInt = 2147483639 from rfl]; omega))) C.hZ (wd hw 145 rfl) (wd hw 144 rfl) (by decide) (by decide)) pd_3 rfl rfl _ rfl (Nat.le_of_eq rfl) d22_29 (by decide) (by decide) (fun T16 X16 => ?_)
  refine g_istore C X16 d22_32 (l' := #[.val (.ref sb), .val (.int mn), .val (.int cp), .val (.int mn), .val (.int (mn - cp)), .val (.int (cp + (if (mn - cp) < (cp + (2 : Int32)) then (cp + (2 : Int32)) else (mn - cp))))]) rfl ?_
  refine g_iload C X16 d22_34 rfl ?_
  refine g_ldcI C X16 (wd hw 151 rfl) d22_36 ?_
  refine g_icmpn (hI_ne _ _) C X16 d22_38 (fun _ => ?_) (fun q => absurd q (own_ne (by rw [show (2147483647 : Int32).toInt = 2147483647 from rfl]; omega)))
  refine g_iload C X16 d22_51 rfl ?_
  refine g_aloadN C X16 d22_53 rfl rfl ?_
  refine g_getfield (host := "") C X16 (Or.inl (wd hw 57 rfl)) Via.refl FC d22_54 (fun T17 X17 => ?_)
  refine g_ishr C X17 d22_57 ?_
  rw [own_shr0]
  show Goes p e below _ T17 (mkF m 58 #[.val (.ref sb), .val (.int mn), .val (.int cp), .val (.int mn), .val (.int (mn - cp)), .val (.int (cp + (if (mn - cp) < (cp + (2 : Int32)) then (cp + (2 : Int32)) else (mn - cp))))] [(.int (cp + (if (mn - cp) < (cp + (2 : Int32)) then (cp + (2 : Int32)) else (mn - cp))))])
  exact g_retI C X17 d22_58 (by decide) (by decide) ⟨rfl, rfl⟩
theorem pn_4 : plainName "java/util/Arrays" = true := by first | (simp [plainName, overriddenIn]; done) | decide +kernel
theorem ef_rCO (m : MethodId) (ar : Addr) (nl : Int32) : entryFrame m #[(.ref ar), (.int nl)] 3 = mkF m 0 #[.val (.ref ar), .val (.int nl), .unset] [] := by first | (simp [entryFrame, mkF, argsToLocals, Value.category]; done) | rfl
theorem d25_0 : Dc jdk_65_method_121_code 0 (.iload_n 1) 1 1 := ⟨by decide +kernel, rfl⟩
theorem d25_1 : Dc jdk_65_method_121_code 1 (.aload_n 0) 1 2 := ⟨by decide +kernel, rfl⟩
theorem d25_2 : Dc jdk_65_method_121_code 2 (.arraylength) 1 3 := ⟨by decide +kernel, rfl⟩
theorem d25_3 : Dj jdk_65_method_121_code 3 (.if_icmp .ne 11) 11 3 6 14 := ⟨by decide +kernel, rfl, by decide, by decide⟩
theorem d25_14 : Dc jdk_65_method_121_code 14 (.iload_n 1) 1 15 := ⟨by decide +kernel, rfl⟩
theorem d25_15 : Dc jdk_65_method_121_code 15 (.newarray .byte) 2 17 := ⟨by decide +kernel, rfl⟩
theorem d25_17 : Dc jdk_65_method_121_code 17 (.astore_n 2) 1 18 := ⟨by decide +kernel, rfl⟩
theorem d25_18 : Dc jdk_65_method_121_code 18 (.aload_n 0) 1 19 := ⟨by decide +kernel, rfl⟩
theorem d25_19 : Dc jdk_65_method_121_code 19 (.iconst 0) 1 20 := ⟨by decide +kernel, rfl⟩
theorem d25_20 : Dc jdk_65_method_121_code 20 (.aload_n 2) 1 21 := ⟨by decide +kernel, rfl⟩
theorem d25_21 : Dc jdk_65_method_121_code 21 (.iconst 0) 1 22 := ⟨by decide +kernel, rfl⟩
theorem d25_22 : Dc jdk_65_method_121_code 22 (.aload_n 0) 1 23 := ⟨by decide +kernel, rfl⟩
theorem d25_23 : Dc jdk_65_method_121_code 23 (.arraylength) 1 24 := ⟨by decide +kernel, rfl⟩
theorem d25_24 : Dc jdk_65_method_121_code 24 (.iload_n 1) 1 25 := ⟨by decide +kernel, rfl⟩
theorem d25_25 : Dc jdk_65_method_121_code 25 (.invokestatic 304) 3 28 := ⟨by decide +kernel, rfl⟩
theorem d25_28 : Dc jdk_65_method_121_code 28 (.invokestatic 150) 3 31 := ⟨by decide +kernel, rfl⟩
theorem d25_31 : Dc jdk_65_method_121_code 31 (.aload_n 2) 1 32 := ⟨by decide +kernel, rfl⟩
theorem d25_32 : Dc jdk_65_method_121_code 32 (.areturn) 1 33 := ⟨by decide +kernel, rfl⟩
theorem rCO (l : Launch) {Z : State} {a0 : Array Value} (hw : ∀ d ∈ tables_1, d.before a0 Z = true) {h : Heap} (hE : Ext Z.heap h) (ar : Addr) (nl : Int32) (cp : Int32) (VA : By Z h ar cp) (k0 : 0 ≤ cp.toInt) (k1 : cp.toInt < nl.toInt) (k2 : nl.toInt ≤ 200) :
    Con l (⟨"java/util/Arrays", "copyOf", "([BI)[B"⟩ : MethodName) jdk_65_method_121_code 3 (some (.array .byte)) [] ({ frames := 2, cells := 1, slots := 200, locals := 48 } : Room) Z #[(.ref ar), (.int nl)] h (fun v' h' => ∃ br, v' = some (.ref br) ∧ Z.heap.size ≤ br ∧ h.size ≤ br ∧ Ext h h' ∧ By Z h' br nl) := by
  refine con_of (plainFor_of_name pn_4) hE (fun m => ef_rCO m ar nl) ?_
  intro p e s m below meth c T0 C X0
  have C : Cx p s m meth c Z "java/util/Arrays" "copyOf" jdk_65_method_121_code 3 (some (.array .byte)) := C
  show Goes p e below _ T0 (mkF m 0 #[.val (.ref ar), .val (.int nl), .unset] [])
  refine g_iloadN C X0 d25_0 rfl ?_
  refine g_aloadN C X0 d25_1 rfl rfl ?_
  refine g_arraylengthS C X0 (By.toS VA) d25_2 ?_
  refine g_icmpn (hI_ne _ _) C X0 d25_3 (fun _ => ?_) (fun q => absurd q (own_ne (by omega)))
  refine g_iloadN C X0 d25_14 rfl ?_
  refine g_newarrayB C X0 (wd hw 33 rfl) d25_15 (own_nn (by omega)) 200 (by have := own_tn (x := nl) (by omega); omega) (by decide) (by decide) (by decide) (fun T18 h18 b18 g_b18 n_b18 X18 E18 V18 => ?_)
  have lt19 : ar < b18 := by rw [g_b18]; exact By.lt VA
  refine g_astoreN C X18 d25_17 rfl (l' := #[.val (.ref ar), .val (.int nl), .val (.ref b18)]) rfl ?_
  refine g_aloadN C X18 d25_18 rfl rfl ?_
  refine g_iconst 0 C X18 d25_19 rfl ?_
  refine g_aloadN C X18 d25_20 rfl rfl ?_
  refine g_iconst 0 C X18 d25_21 rfl ?_
  refine g_aloadN C X18 d25_22 rfl rfl ?_
  have f20 := (By.ext VA E18)
  refine g_arraylengthS C X18 (By.toS f20) d25_23 ?_
  refine g_iloadN C X18 d25_24 rfl ?_
  refine g_staticP (argsL := [(.int cp), (.int nl)]) (st := [(.int 0), (.ref b18), (.int 0), (.ref ar)]) C X18 (wd hw 156 rfl) (wd hw 157 rfl) (wd hw 148 rfl) (wd hw 158 rfl) (by decide) (pay_of (W' := 4) (rMin l hw X18.ext cp nl (own_nlt (by omega))) C.hZ (wd hw 158 rfl) (wd hw 148 rfl) (by decide) (by decide)) pd_0 rfl rfl _ rfl (Nat.le_of_eq rfl) d25_25 (by decide) (by decide) (fun T21 X21 => ?_)
  refine g_arraycopyB C X21 (wd hw 159 rfl) (wd hw 112 rfl) (wd hw 110 rfl) (wd hw 111 rfl) (By.toS f20) V18 (by decide) (by decide) (by omega) (by rw [show (0 : Int32).toInt = 0 from rfl]; omega) (by rw [show (0 : Int32).toInt = 0 from rfl]; omega) n_b18 rfl d25_28 (by decide) 0 (Nat.le_of_eq rfl) (by decide) (fun T22 h22 X22 K22 V22 => ?_)
  show Goes p e below _ T22 (mkF m 31 #[.val (.ref ar), .val (.int nl), .val (.ref b18)] [])
  refine g_aloadN C X22 d25_31 rfl rfl ?_
  have sz23 : h.size ≤ b18 := by rw [g_b18]; exact (Keep.refl h []).1
  have kp24 := (Keep.refl h []).ext E18
  have kp25 := kp24.trans K22 (allS (Or.inr sz23) all0)
  exact g_retA C X22 rfl rfl d25_32 (by decide) (by decide) ⟨b18, rfl, n_b18, sz23, keep_ext kp25, V22⟩
theorem ef_rEC (m : MethodId) (sb : Addr) (mn : Int32) : entryFrame m #[(.ref sb), (.int mn)] 3 = mkF m 0 #[.val (.ref sb), .val (.int mn), .unset] [] := by first | (simp [entryFrame, mkF, argsToLocals, Value.category]; done) | rfl
theorem d13_0 : Dc jdk_68_method_9_code 0 (.aload_n 0) 1 1 := ⟨by decide +kernel, rfl⟩
theorem d13_1 : Dc jdk_68_method_9_code 1 (.getfield 15) 3 4 := ⟨by decide +kernel, rfl⟩
theorem d13_4 : Dc jdk_68_method_9_code 4 (.arraylength) 1 5 := ⟨by decide +kernel, rfl⟩
theorem d13_5 : Dc jdk_68_method_9_code 5 (.aload_n 0) 1 6 := ⟨by decide +kernel, rfl⟩
theorem d13_6 : Dc jdk_68_method_9_code 6 (.getfield 22) 3 9 := ⟨by decide +kernel, rfl⟩
theorem d13_9 : Dc jdk_68_method_9_code 9 (.ishr) 1 10 := ⟨by decide +kernel, rfl⟩
theorem d13_10 : Dc jdk_68_method_9_code 10 (.istore_n 2) 1 11 := ⟨by decide +kernel, rfl⟩
theorem d13_11 : Dc jdk_68_method_9_code 11 (.iload_n 1) 1 12 := ⟨by decide +kernel, rfl⟩
theorem d13_12 : Dc jdk_68_method_9_code 12 (.iload_n 2) 1 13 := ⟨by decide +kernel, rfl⟩
theorem d13_13 : Dc jdk_68_method_9_code 13 (.isub) 1 14 := ⟨by decide +kernel, rfl⟩
theorem d13_14 : Dj jdk_68_method_9_code 14 (.ifCond .le 24) 24 3 17 38 := ⟨by decide +kernel, rfl, by decide, by decide⟩
theorem d13_38 : Dc jdk_68_method_9_code 38 (.return_) 1 39 := ⟨by decide +kernel, rfl⟩
theorem d13_17 : Dc jdk_68_method_9_code 17 (.aload_n 0) 1 18 := ⟨by decide +kernel, rfl⟩
theorem d13_18 : Dc jdk_68_method_9_code 18 (.aload_n 0) 1 19 := ⟨by decide +kernel, rfl⟩
theorem d13_19 : Dc jdk_68_method_9_code 19 (.getfield 15) 3 22 := ⟨by decide +kernel, rfl⟩
theorem d13_22 : Dc jdk_68_method_9_code 22 (.aload_n 0) 1 23 := ⟨by decide +kernel, rfl⟩
theorem d13_23 : Dc jdk_68_method_9_code 23 (.iload_n 1) 1 24 := ⟨by decide +kernel, rfl⟩
theorem d13_24 : Dc jdk_68_method_9_code 24 (.invokevirtual 104) 3 27 := ⟨by decide +kernel, rfl⟩
theorem pd_4 : parseMethodDescriptor "(I)I" = some ⟨[.int], some .int⟩ := by decide +kernel
theorem d13_27 : Dc jdk_68_method_9_code 27 (.aload_n 0) 1 28 := ⟨by decide +kernel, rfl⟩
theorem d13_28 : Dc jdk_68_method_9_code 28 (.getfield 22) 3 31 := ⟨by decide +kernel, rfl⟩
theorem d13_31 : Dc jdk_68_method_9_code 31 (.ishl) 1 32 := ⟨by decide +kernel, rfl⟩
theorem d13_32 : Dc jdk_68_method_9_code 32 (.invokestatic 108) 3 35 := ⟨by decide +kernel, rfl⟩
theorem pd_5 : parseMethodDescriptor "([BI)[B" = some ⟨[(.array .byte), .int], some (.array .byte)⟩ := by decide +kernel
theorem d13_35 : Dc jdk_68_method_9_code 35 (.putfield 15) 3 38 := ⟨by decide +kernel, rfl⟩
theorem rEC (l : Launch) {Z : State} {a0 : Array Value} (hw : ∀ d ∈ tables_1, d.before a0 Z = true) {h : Heap} (hE : Ext Z.heap h) (sb : Addr) (mn : Int32) (ar : Addr) (cn cp : Int32) (EB : Exa Z h sb "java/lang/StringBuilder") (FC : Fld Z h sb "java/lang/AbstractStringBuilder" "coder" "B" (.int (0 : Int32))) (FV : Fld Z h sb "java/lang/AbstractStringBuilder" "value" "[B" (.ref ar)) (FN : Fld Z h sb "java/lang/AbstractStringBuilder" "count" "I" (.int cn)) (VA : By Z h ar cp) (nb : Z.heap.size ≤ sb) (na : Z.heap.size ≤ ar) (c1 : 0 ≤ cn.toInt) (c2 : cn.toInt ≤ cp.toInt) (c3 : cp.toInt ≤ 200) (g0 : 0 ≤ mn.toInt) (g2 : mn.toInt ≤ 100) :
    Con l (⟨"java/lang/AbstractStringBuilder", "ensureCapacityInternal", "(I)V"⟩ : MethodName) jdk_68_method_9_code 3 none [] ({ frames := 3, cells := 1, slots := 200, locals := 72 } : Room) Z #[(.ref sb), (.int mn)] h (fun v' h' => v' = none ∧ Keep h h' [sb] ∧ Exa Z h' sb "java/lang/StringBuilder" ∧ Fld Z h' sb "java/lang/AbstractStringBuilder" "coder" "B" (.int (0 : Int32)) ∧ ∃ (ar' : Addr) (cp' : Int32), (ar' = ar ∨ h.size ≤ ar') ∧ Z.heap.size ≤ ar' ∧ Fld Z h' sb "java/lang/AbstractStringBuilder" "value" "[B" (.ref ar') ∧ Fld Z h' sb "java/lang/AbstractStringBuilder" "count" "I" (.int cn) ∧ By Z h' ar' cp' ∧ 0 ≤ cn.toInt ∧ cn.toInt ≤ cp'.toInt ∧ cp'.toInt ≤ 200 ∧ mn.toInt ≤ cp'.toInt) := by
  refine con_of (plainFor_of_name pn_2) hE (fun m => ef_rEC m sb mn) ?_
  intro p e s m below meth c T0 C X0
  have C : Cx p s m meth c Z "java/lang/AbstractStringBuilder" "ensureCapacityInternal" jdk_68_method_9_code 3 none := C
  show Goes p e below _ T0 (mkF m 0 #[.val (.ref sb), .val (.int mn), .unset] [])
  have ne26 : sb ≠ ar := Exa.ne EB VA.2 (by decide)
  have a1 := own_sub mn cp (by omega) (by omega)
  refine g_aloadN C X0 d13_0 rfl rfl ?_
  refine g_getfield (host := "") C X0 (Or.inl (wd hw 55 rfl)) Via.refl FV d13_1 (fun T27 X27 => ?_)
  refine g_arraylengthS C X27 (By.toS VA) d13_4 ?_
  refine g_aloadN C X27 d13_5 rfl rfl ?_
  refine g_getfield (host := "") C X27 (Or.inl (wd hw 57 rfl)) Via.refl FC d13_6 (fun T28 X28 => ?_)
  refine g_ishr C X28 d13_9 ?_
  rw [own_shr0]
  show Goes p e below _ T28 (mkF m 10 #[.val (.ref sb), .val (.int mn), .unset] [(.int cp)])
  refine g_istoreN C X28 d13_10 (l' := #[.val (.ref sb), .val (.int mn), .val (.int cp)]) rfl ?_
  refine g_iloadN C X28 d13_11 rfl ?_
  refine g_iloadN C X28 d13_12 rfl ?_
  refine g_isub C X28 d13_13 ?_
  refine g_ifn (h0_le _) C X28 d13_14 (fun c14_29 => ?_) (fun c14_29 => ?_)
  · have g1 : mn.toInt ≤ cp.toInt := by have := own_nlt' c14_29; rw [show (0 : Int32).toInt = 0 from rfl] at this; omega
    exact g_retV C X28 d13_38 (by decide) (by decide) ⟨rfl, (Keep.refl h [sb]), EB, FC, ar, cp, (Or.inl rfl), na, FV, FN, VA, c1, c2, c3, g1⟩
  · have g1 : cp.toInt < mn.toInt := by have := own_lt' c14_29; rw [show (0 : Int32).toInt = 0 from rfl] at this; omega
    have hcap := own_cap (cp := cp) (mn := mn) (by omega) g1 g2
    refine g_aloadN C X28 d13_17 rfl rfl ?_
    refine g_aloadN C X28 d13_18 rfl rfl ?_
    refine g_getfield (host := "") C X28 (Or.inl (wd hw 55 rfl)) Via.refl FV d13_19 (fun T30 X30 => ?_)
    refine g_aloadN C X30 d13_22 rfl rfl ?_
    refine g_iloadN C X30 d13_23 rfl ?_
    refine g_privateKP (argsL := [(.int mn)]) (st := [(.ref ar), (.ref sb)]) C X30 (wd hw 137 rfl) (wd hw 138 rfl) (sel_privateK C.hZ (wd hw 140 rfl) rfl (wd hw 139 rfl) (wd hw 138 rfl) (by decide)) (wd hw 139 rfl) (wd hw 141 rfl) (by decide) EB (pay_of (W' := 2) (rNC l hw X30.ext sb mn ar cn cp EB FC FV FN VA nb na c1 c2 c3 g1 g2) C.hZ (wd hw 141 rfl) (wd hw 51 rfl) (by decide) (by decide)) pd_4 rfl rfl _ rfl (Nat.le_of_eq rfl) d13_24 (by decide) (by decide) (fun T31 X31 => ?_)
    refine g_aloadN C X31 d13_27 rfl rfl ?_
    refine g_getfield (host := "") C X31 (Or.inl (wd hw 57 rfl)) Via.refl FC d13_28 (fun T32 X32 => ?_)
    refine g_ishl C X32 d13_31 ?_
    rw [own_shl0]
    show Goes p e below _ T32 (mkF m 32 #[.val (.ref sb), .val (.int mn), .val (.int cp)] [(.int (cp + (if (mn - cp) < (cp + (2 : Int32)) then (cp + (2 : Int32)) else (mn - cp)))), (.ref ar), (.ref sb)])
    refine g_static (argsL := [(.ref ar), (.int (cp + (if (mn - cp) < (cp + (2 : Int32)) then (cp + (2 : Int32)) else (mn - cp))))]) (st := [(.ref sb)]) C X32 (wd hw 152 rfl) (wd hw 153 rfl) (wd hw 154 rfl) (wd hw 155 rfl) (by decide) (pay_of (W' := 1) (rCO l hw X32.ext ar (cp + (if (mn - cp) < (cp + (2 : Int32)) then (cp + (2 : Int32)) else (mn - cp))) cp VA (by omega) (by omega) (by omega)) C.hZ (wd hw 155 rfl) (wd hw 154 rfl) (by decide) (by decide)) pd_5 rfl rfl _ rfl (Nat.le_of_eq rfl) d13_32 (by decide) (by decide) (fun T33 h33 v33 q33 X33 => ?_)
    obtain ⟨b33, rfl, n_b33, g33, E33, V33⟩ := q33
    have lt34 : sb < b33 := Nat.lt_of_lt_of_le (Exa.lt EB) g33
    have lt35 : ar < b33 := Nat.lt_of_lt_of_le (By.lt VA) g33
    show Goes p e below _ T33 (mkF m 35 #[.val (.ref sb), .val (.int mn), .val (.int cp)] [(.ref b33), (.ref sb)])
    have f36 := (Fld.ext E33 FV)
    have f37 := (Exa.ext E33 EB)
    refine g_putfield (host := "") C X33 (Or.inl (wd hw 55 rfl)) Via.refl f36 f37 (Or.inl (wd hw 56 rfl)) (wd hw 42 rfl) (ty := (.array .byte)) (by decide) rfl rfl nb d13_35 (fun T38 h38 X38 W38 => ?_)
    have f38 := Fld.same W38 f36
    have sz39 : h.size ≤ b33 := Nat.le_trans (Keep.refl h [sb]).1 g33
    have kp40 := (Keep.refl h [sb]).ext E33
    have kp41 := kp40.wr W38 (Or.inl (by simp))
    have sz42 : h.size ≤ b33 := Nat.le_trans (Keep.refl h [sb]).1 g33
    have kp43 := (Keep.refl h [sb]).ext E33
    have kp44 := kp43.wr W38 (Or.inl (by simp))
    have f45 := (Exa.wr W38 f37)
    have f46 := (Fld.other W38 (Fld.ext E33 FC) (Or.inr (slot_ne (Or.inl (wd hw 58 rfl)) (Or.inl (wd hw 56 rfl)) (by decide) (t := .byte) (t' := (.array .byte)) (by decide) (by decide))))
    have f47 := (Fld.other W38 (Fld.ext E33 FN) (Or.inr (slot_ne (Or.inl (wd hw 87 rfl)) (Or.inl (wd hw 56 rfl)) (by decide) (t := .int) (t' := (.array .byte)) (by decide) (by decide))))
    have f48 := (By.other V33 W38 (Nat.ne_of_gt lt34))
    exact g_retV C X38 d13_38 (by decide) (by decide) ⟨rfl, kp44, f45, f46, b33, (cp + (if (mn - cp) < (cp + (2 : Int32)) then (cp + (2 : Int32)) else (mn - cp))), (Or.inr sz39), n_b33, f38, f47, f48, c1, (by omega), (by omega), (by omega)⟩
theorem ef_rInf (m : MethodId) (sb : Addr) (sq : Addr) : entryFrame m #[(.ref sb), (.ref sq)] 2 = mkF m 0 #[.val (.ref sb), .val (.ref sq)] [] := by first | (simp [entryFrame, mkF, argsToLocals, Value.category]; done) | rfl
theorem d15_0 : Dc jdk_68_method_71_code 0 (.getstatic 18) 3 3 := ⟨by decide +kernel, rfl⟩
theorem d15_3 : Dj jdk_68_method_71_code 3 (.ifCond .eq 18) 18 3 6 21 := ⟨by decide +kernel, rfl, by decide, by decide⟩
theorem d15_6 : Dc jdk_68_method_71_code 6 (.aload_n 0) 1 7 := ⟨by decide +kernel, rfl⟩
theorem d15_7 : Dc jdk_68_method_71_code 7 (.getfield 22) 3 10 := ⟨by decide +kernel, rfl⟩
theorem d15_10 : Dc jdk_68_method_71_code 10 (.aload_n 1) 1 11 := ⟨by decide +kernel, rfl⟩
theorem d15_11 : Dc jdk_68_method_71_code 11 (.invokevirtual 40) 3 14 := ⟨by decide +kernel, rfl⟩
theorem d15_14 : Dj jdk_68_method_71_code 14 (.if_icmp .eq 7) 7 3 17 21 := ⟨by decide +kernel, rfl, by decide, by decide⟩
theorem d15_21 : Dc jdk_68_method_71_code 21 (.return_) 1 22 := ⟨by decide +kernel, rfl⟩
theorem rInf (l : Launch) {Z : State} {a0 : Array Value} (hw : ∀ d ∈ tables_1, d.before a0 Z = true) {h : Heap} (hE : Ext Z.heap h) (sb : Addr) (sq : Addr) (z_ : Int32) (SZ : Sta Z Z.heap "java/lang/String" "COMPACT_STRINGS" "Z" (.int z_)) (hz : ¬ z_ = 0) (EQ : Exa Z h sq "java/lang/String") (FC : Fld Z h sb "java/lang/AbstractStringBuilder" "coder" "B" (.int (0 : Int32))) (QC : Fld Z h sq "java/lang/String" "coder" "B" (.int (0 : Int32))) :
    Con l (⟨"java/lang/AbstractStringBuilder", "inflateIfNeededFor", "(Ljava/lang/String;)V"⟩ : MethodName) jdk_68_method_71_code 2 none [] ({ frames := 1, cells := 0, slots := 0, locals := 24 } : Room) Z #[(.ref sb), (.ref sq)] h (fun v' h' => v' = none ∧ h' = h) := by
  refine con_of (plainFor_of_name pn_2) hE (fun m => ef_rInf m sb sq) ?_
  intro p e s m below meth c T0 C X0
  have C : Cx p s m meth c Z "java/lang/AbstractStringBuilder" "inflateIfNeededFor" jdk_68_method_71_code 2 none := C
  show Goes p e below _ T0 (mkF m 0 #[.val (.ref sb), .val (.ref sq)] [])
  refine g_getstatic (host := "") C X0 (Or.inl (wd hw 54 rfl)) Via.refl SZ d15_0 (fun T49 X49 => ?_)
  refine g_if (h0_eq _) C X49 d15_3 (fun q => absurd q hz) (fun _ => ?_)
  refine g_aloadN C X49 d15_6 rfl rfl ?_
  refine g_getfield (host := "") C X49 (Or.inl (wd hw 57 rfl)) Via.refl FC d15_7 (fun T50 X50 => ?_)
  refine g_aloadN C X50 d15_10 rfl rfl ?_
  refine g_virtualP (argsL := []) (st := [(.int 0)]) C X50 (wd hw 103 rfl) (wd hw 80 rfl) (nf_of C (wd hw 82 rfl) rfl rfl) (wd hw 82 rfl) (wd hw 81 rfl) (by decide) EQ (pay_of (W' := 1) (rCod l hw X50.ext sq z_ SZ hz QC) C.hZ (wd hw 83 rfl) (wd hw 31 rfl) (by decide) (by decide)) pd_1 rfl rfl _ rfl (Nat.le_of_eq rfl) d15_11 (by decide) (by decide) (fun T51 X51 => ?_)
  refine g_icmp (hI_eq _ _) C X51 d15_14 (fun _ => ?_) (fun q => absurd (by decide) q)
  exact g_retV C X51 d15_21 (by decide) (by decide) ⟨rfl, rfl⟩
theorem ef_rGB (m : MethodId) (sq : Addr) (ar : Addr) (ix : Int32) : entryFrame m #[(.ref sq), (.ref ar), (.int ix), (.int 0)] 4 = mkF m 0 #[.val (.ref sq), .val (.ref ar), .val (.int ix), .val (.int 0)] [] := by first | (simp [entryFrame, mkF, argsToLocals, Value.category]; done) | rfl
theorem d16_0 : Dc jdk_42_method_147_code 0 (.aload_n 0) 1 1 := ⟨by decide +kernel, rfl⟩
theorem d16_1 : Dc jdk_42_method_147_code 1 (.invokevirtual 335) 3 4 := ⟨by decide +kernel, rfl⟩
theorem d16_4 : Dc jdk_42_method_147_code 4 (.iload_n 3) 1 5 := ⟨by decide +kernel, rfl⟩
theorem d16_5 : Dj jdk_42_method_147_code 5 (.if_icmp .ne 23) 23 3 8 28 := ⟨by decide +kernel, rfl, by decide, by decide⟩
theorem d16_8 : Dc jdk_42_method_147_code 8 (.aload_n 0) 1 9 := ⟨by decide +kernel, rfl⟩
theorem d16_9 : Dc jdk_42_method_147_code 9 (.getfield 9) 3 12 := ⟨by decide +kernel, rfl⟩
theorem d16_12 : Dc jdk_42_method_147_code 12 (.iconst 0) 1 13 := ⟨by decide +kernel, rfl⟩
theorem d16_13 : Dc jdk_42_method_147_code 13 (.aload_n 1) 1 14 := ⟨by decide +kernel, rfl⟩
theorem d16_14 : Dc jdk_42_method_147_code 14 (.iload_n 2) 1 15 := ⟨by decide +kernel, rfl⟩
theorem d16_15 : Dc jdk_42_method_147_code 15 (.iload_n 3) 1 16 := ⟨by decide +kernel, rfl⟩
theorem d16_16 : Dc jdk_42_method_147_code 16 (.ishl) 1 17 := ⟨by decide +kernel, rfl⟩
theorem d16_17 : Dc jdk_42_method_147_code 17 (.aload_n 0) 1 18 := ⟨by decide +kernel, rfl⟩
theorem d16_18 : Dc jdk_42_method_147_code 18 (.getfield 9) 3 21 := ⟨by decide +kernel, rfl⟩
theorem d16_21 : Dc jdk_42_method_147_code 21 (.arraylength) 1 22 := ⟨by decide +kernel, rfl⟩
theorem d16_22 : Dc jdk_42_method_147_code 22 (.invokestatic 212) 3 25 := ⟨by decide +kernel, rfl⟩
theorem d16_25 : Dj jdk_42_method_147_code 25 (.goto 18) 18 3 28 43 := ⟨by decide +kernel, rfl, by decide, by decide⟩
theorem d16_43 : Dc jdk_42_method_147_code 43 (.return_) 1 44 := ⟨by decide +kernel, rfl⟩
theorem rGB (l : Launch) {Z : State} {a0 : Array Value} (hw : ∀ d ∈ tables_1, d.before a0 Z = true) {h : Heap} (hE : Ext Z.heap h) (sq : Addr) (ar : Addr) (ix : Int32) (cp : Int32) (z_ : Int32) (SZ : Sta Z Z.heap "java/lang/String" "COMPACT_STRINGS" "Z" (.int z_)) (hz : ¬ z_ = 0) (tq : Addr) (lq : Int32) (EQ : Exa Z h sq "java/lang/String") (QC : Fld Z h sq "java/lang/String" "coder" "B" (.int (0 : Int32))) (QV : Fld Z h sq "java/lang/String" "value" "[B" (.ref tq)) (VQ : ByS Z h tq lq) (VA : By Z h ar cp) (na : Z.heap.size ≤ ar) (i0 : 0 ≤ ix.toInt) (l0 : 0 ≤ lq.toInt) (i1 : ix.toInt + lq.toInt ≤ cp.toInt) :
    Con l (⟨"java/lang/String", "getBytes", "([BIB)V"⟩ : MethodName) jdk_42_method_147_code 4 none [] ({ frames := 1, cells := 0, slots := 0, locals := 24 } : Room) Z #[(.ref sq), (.ref ar), (.int ix), (.int 0)] h (fun v' h' => v' = none ∧ Keep h h' [ar] ∧ By Z h' ar cp) := by
  refine con_of (plainFor_of_name pn_1) hE (fun m => ef_rGB m sq ar ix) ?_
  intro p e s m below meth c T0 C X0
  have C : Cx p s m meth c Z "java/lang/String" "getBytes" jdk_42_method_147_code 4 none := C
  show Goes p e below _ T0 (mkF m 0 #[.val (.ref sq), .val (.ref ar), .val (.int ix), .val (.int 0)] [])
  refine g_aloadN C X0 d16_0 rfl rfl ?_
  refine g_virtualP (argsL := []) (st := []) C X0 (wd hw 79 rfl) (wd hw 80 rfl) (nf_of C (wd hw 82 rfl) rfl rfl) (wd hw 82 rfl) (wd hw 81 rfl) (by decide) EQ (pay_of (W' := 0) (rCod l hw X0.ext sq z_ SZ hz QC) C.hZ (wd hw 83 rfl) (wd hw 31 rfl) (by decide) (by decide)) pd_1 rfl rfl _ rfl (Nat.le_of_eq rfl) d16_1 (by decide) (by decide) (fun T52 X52 => ?_)
  refine g_iloadN C X52 d16_4 rfl ?_
  refine g_icmpn (hI_ne _ _) C X52 d16_5 (fun q => absurd (by decide) q) (fun _ => ?_)
  refine g_aloadN C X52 d16_8 rfl rfl ?_
  refine g_getfield (host := "") C X52 (Or.inl (wd hw 78 rfl)) Via.refl QV d16_9 (fun T53 X53 => ?_)
  refine g_iconst 0 C X53 d16_12 rfl ?_
  refine g_aloadN C X53 d16_13 rfl rfl ?_
  refine g_iloadN C X53 d16_14 rfl ?_
  refine g_iloadN C X53 d16_15 rfl ?_
  refine g_ishl C X53 d16_16 ?_
  rw [own_shl0]
  show Goes p e below _ T53 (mkF m 17 #[.val (.ref sq), .val (.ref ar), .val (.int ix), .val (.int 0)] [(.int ix), (.ref ar), (.int 0), (.ref tq)])
  refine g_aloadN C X53 d16_17 rfl rfl ?_
  refine g_getfield (host := "") C X53 (Or.inl (wd hw 78 rfl)) Via.refl QV d16_18 (fun T54 X54 => ?_)
  refine g_arraylengthS C X54 VQ d16_21 ?_
  refine g_arraycopyB C X54 (wd hw 109 rfl) (wd hw 112 rfl) (wd hw 110 rfl) (wd hw 111 rfl) VQ VA (by decide) i0 l0 (by rw [show (0 : Int32).toInt = 0 from rfl]; omega) i1 na rfl d16_22 (by decide) 0 (Nat.le_of_eq rfl) (by decide) (fun T55 h55 X55 K55 V55 => ?_)
  show Goes p e below _ T55 (mkF m 25 #[.val (.ref sq), .val (.ref ar), .val (.int ix), .val (.int 0)] [])
  refine g_goto C X55 d16_25 ?_
  have kp56 := (Keep.refl h [ar]).trans K55 (allS (Or.inl (by simp)) all0)
  exact g_retV C X55 d16_43 (by decide) (by decide) ⟨rfl, kp56, V55⟩
theorem ef_rPS (m : MethodId) (sb : Addr) (ix : Int32) (sq : Addr) : entryFrame m #[(.ref sb), (.int ix), (.ref sq)] 3 = mkF m 0 #[.val (.ref sb), .val (.int ix), .val (.ref sq)] [] := by first | (simp [entryFrame, mkF, argsToLocals, Value.category]; done) | rfl
theorem d14_0 : Dc jdk_68_method_73_code 0 (.aload_n 0) 1 1 := ⟨by decide +kernel, rfl⟩
theorem d14_1 : Dc jdk_68_method_73_code 1 (.aload_n 2) 1 2 := ⟨by decide +kernel, rfl⟩
theorem d14_2 : Dc jdk_68_method_73_code 2 (.invokevirtual 397) 3 5 := ⟨by decide +kernel, rfl⟩
theorem pd_6 : parseMethodDescriptor "(Ljava/lang/String;)V" = some ⟨[(.object "java/lang/String")], none⟩ := by decide +kernel
theorem d14_5 : Dc jdk_68_method_73_code 5 (.aload_n 2) 1 6 := ⟨by decide +kernel, rfl⟩
theorem d14_6 : Dc jdk_68_method_73_code 6 (.aload_n 0) 1 7 := ⟨by decide +kernel, rfl⟩
theorem d14_7 : Dc jdk_68_method_73_code 7 (.getfield 15) 3 10 := ⟨by decide +kernel, rfl⟩
theorem d14_10 : Dc jdk_68_method_73_code 10 (.iload_n 1) 1 11 := ⟨by decide +kernel, rfl⟩
theorem d14_11 : Dc jdk_68_method_73_code 11 (.aload_n 0) 1 12 := ⟨by decide +kernel, rfl⟩
theorem d14_12 : Dc jdk_68_method_73_code 12 (.getfield 22) 3 15 := ⟨by decide +kernel, rfl⟩
theorem d14_15 : Dc jdk_68_method_73_code 15 (.invokevirtual 399) 3 18 := ⟨by decide +kernel, rfl⟩
theorem pd_7 : parseMethodDescriptor "([BIB)V" = some ⟨[(.array .byte), .int, .byte], none⟩ := by decide +kernel
theorem d14_18 : Dc jdk_68_method_73_code 18 (.return_) 1 19 := ⟨by decide +kernel, rfl⟩
theorem rPS (l : Launch) {Z : State} {a0 : Array Value} (hw : ∀ d ∈ tables_1, d.before a0 Z = true) {h : Heap} (hE : Ext Z.heap h) (sb : Addr) (ix : Int32) (sq : Addr) (ar : Addr) (cn cp : Int32) (z_ : Int32) (SZ : Sta Z Z.heap "java/lang/String" "COMPACT_STRINGS" "Z" (.int z_)) (hz : ¬ z_ = 0) (EB : Exa Z h sb "java/lang/StringBuilder") (FC : Fld Z h sb "java/lang/AbstractStringBuilder" "coder" "B" (.int (0 : Int32))) (FV : Fld Z h sb "java/lang/AbstractStringBuilder" "value" "[B" (.ref ar)) (FN : Fld Z h sb "java/lang/AbstractStringBuilder" "count" "I" (.int cn)) (VA : By Z h ar cp) (nb : Z.heap.size ≤ sb) (na : Z.heap.size ≤ ar) (c1 : 0 ≤ cn.toInt) (c2 : cn.toInt ≤ cp.toInt) (c3 : cp.toInt ≤ 200) (tq : Addr) (lq : Int32) (EQ : Exa Z h sq "java/lang/String") (QC : Fld Z h sq "java/lang/String" "coder" "B" (.int (0 : Int32))) (QV : Fld Z h sq "java/lang/String" "value" "[B" (.ref tq)) (VQ : ByS Z h tq lq) (i0 : 0 ≤ ix.toInt) (l0 : 0 ≤ lq.toInt) (i1 : ix.toInt + lq.toInt ≤ cp.toInt) :
    Con l (⟨"java/lang/AbstractStringBuilder", "putStringAt", "(ILjava/lang/String;)V"⟩ : MethodName) jdk_68_method_73_code 3 none [] ({ frames := 2, cells := 0, slots := 0, locals := 48 } : Room) Z #[(.ref sb), (.int ix), (.ref sq)] h (fun v' h' => v' = none ∧ Keep h h' [ar] ∧ By Z h' ar cp) := by
  refine con_of (plainFor_of_name pn_2) hE (fun m => ef_rPS m sb ix sq) ?_
  intro p e s m below meth c T0 C X0
  have C : Cx p s m meth c Z "java/lang/AbstractStringBuilder" "putStringAt" jdk_68_method_73_code 3 none := C
  show Goes p e below _ T0 (mkF m 0 #[.val (.ref sb), .val (.int ix), .val (.ref sq)] [])
  have ne57 : sb ≠ ar := Exa.ne EB VA.2 (by decide)
  refine g_aloadN C X0 d14_0 rfl rfl ?_
  refine g_aloadN C X0 d14_1 rfl rfl ?_
  refine g_privateKPV (argsL := [(.ref sq)]) (st := []) C X0 (wd hw 98 rfl) (wd hw 99 rfl) (sel_privateK C.hZ (wd hw 101 rfl) rfl (wd hw 100 rfl) (wd hw 99 rfl) (by decide)) (wd hw 100 rfl) (wd hw 102 rfl) (by decide) EB (pay_of (W' := 0) (rInf l hw X0.ext sb sq z_ SZ hz EQ FC QC) C.hZ (wd hw 102 rfl) (wd hw 51 rfl) (by decide) (by decide)) pd_6 rfl rfl _ rfl (Nat.le_of_eq rfl) d14_2 (by decide) (by decide) (fun T58 X58 => ?_)
  refine g_aloadN C X58 d14_5 rfl rfl ?_
  refine g_aloadN C X58 d14_6 rfl rfl ?_
  refine g_getfield (host := "") C X58 (Or.inl (wd hw 55 rfl)) Via.refl FV d14_7 (fun T59 X59 => ?_)
  refine g_iloadN C X59 d14_10 rfl ?_
  refine g_aloadN C X59 d14_11 rfl rfl ?_
  refine g_getfield (host := "") C X59 (Or.inl (wd hw 57 rfl)) Via.refl FC d14_12 (fun T60 X60 => ?_)
  refine g_virtual (argsL := [(.ref ar), (.int ix), (.int 0)]) (st := []) C X60 (wd hw 104 rfl) (wd hw 105 rfl) (nf_of C (wd hw 107 rfl) rfl rfl) (wd hw 107 rfl) (wd hw 106 rfl) (by decide) EQ (pay_of (W' := 0) (rGB l hw X60.ext sq ar ix cp z_ SZ hz tq lq EQ QC QV VQ VA na i0 l0 i1) C.hZ (wd hw 108 rfl) (wd hw 31 rfl) (by decide) (by decide)) pd_7 rfl rfl _ rfl (Nat.le_of_eq rfl) d14_15 (by decide) (by decide) (fun T61 h61 v61 q61 X61 => ?_)
  obtain ⟨rfl, K61, V61⟩ := q61
  show Goes p e below _ T61 (mkF m 18 #[.val (.ref sb), .val (.int ix), .val (.ref sq)] [])
  have kp62 := (Keep.refl h [ar]).trans K61 (allS (Or.inl (by simp)) all0)
  exact g_retV C X61 d14_18 (by decide) (by decide) ⟨rfl, kp62, V61⟩
theorem ef_rAS (m : MethodId) (sb : Addr) (sq : Addr) : entryFrame m #[(.ref sb), (.ref sq)] 3 = mkF m 0 #[.val (.ref sb), .val (.ref sq), .unset] [] := by first | (simp [entryFrame, mkF, argsToLocals, Value.category]; done) | rfl
theorem d10_0 : Dc jdk_68_method_22_code 0 (.aload_n 1) 1 1 := ⟨by decide +kernel, rfl⟩
theorem d10_1 : Dj jdk_68_method_22_code 1 (.ifnonnull 8) 8 3 4 9 := ⟨by decide +kernel, rfl, by decide, by decide⟩
theorem d10_9 : Dc jdk_68_method_22_code 9 (.aload_n 1) 1 10 := ⟨by decide +kernel, rfl⟩
theorem d10_10 : Dc jdk_68_method_22_code 10 (.invokevirtual 32) 3 13 := ⟨by decide +kernel, rfl⟩
theorem d10_13 : Dc jdk_68_method_22_code 13 (.istore_n 2) 1 14 := ⟨by decide +kernel, rfl⟩
theorem d10_14 : Dc jdk_68_method_22_code 14 (.aload_n 0) 1 15 := ⟨by decide +kernel, rfl⟩
theorem d10_15 : Dc jdk_68_method_22_code 15 (.aload_n 0) 1 16 := ⟨by decide +kernel, rfl⟩
theorem d10_16 : Dc jdk_68_method_22_code 16 (.getfield 79) 3 19 := ⟨by decide +kernel, rfl⟩
theorem d10_19 : Dc jdk_68_method_22_code 19 (.iload_n 2) 1 20 := ⟨by decide +kernel, rfl⟩
theorem d10_20 : Dc jdk_68_method_22_code 20 (.iadd) 1 21 := ⟨by decide +kernel, rfl⟩
theorem d10_21 : Dc jdk_68_method_22_code 21 (.invokevirtual 100) 3 24 := ⟨by decide +kernel, rfl⟩
theorem pd_8 : parseMethodDescriptor "(I)V" = some ⟨[.int], none⟩ := by decide +kernel
theorem d10_24 : Dc jdk_68_method_22_code 24 (.aload_n 0) 1 25 := ⟨by decide +kernel, rfl⟩
theorem d10_25 : Dc jdk_68_method_22_code 25 (.aload_n 0) 1 26 := ⟨by decide +kernel, rfl⟩
theorem d10_26 : Dc jdk_68_method_22_code 26 (.getfield 79) 3 29 := ⟨by decide +kernel, rfl⟩
theorem d10_29 : Dc jdk_68_method_22_code 29 (.aload_n 1) 1 30 := ⟨by decide +kernel, rfl⟩
theorem d10_30 : Dc jdk_68_method_22_code 30 (.invokevirtual 208) 3 33 := ⟨by decide +kernel, rfl⟩
theorem pd_9 : parseMethodDescriptor "(ILjava/lang/String;)V" = some ⟨[.int, (.object "java/lang/String")], none⟩ := by decide +kernel
theorem d10_33 : Dc jdk_68_method_22_code 33 (.aload_n 0) 1 34 := ⟨by decide +kernel, rfl⟩
theorem d10_34 : Dc jdk_68_method_22_code 34 (.dup) 1 35 := ⟨by decide +kernel, rfl⟩
theorem d10_35 : Dc jdk_68_method_22_code 35 (.getfield 79) 3 38 := ⟨by decide +kernel, rfl⟩
theorem d10_38 : Dc jdk_68_method_22_code 38 (.iload_n 2) 1 39 := ⟨by decide +kernel, rfl⟩
theorem d10_39 : Dc jdk_68_method_22_code 39 (.iadd) 1 40 := ⟨by decide +kernel, rfl⟩
theorem d10_40 : Dc jdk_68_method_22_code 40 (.putfield 79) 3 43 := ⟨by decide +kernel, rfl⟩
theorem d10_43 : Dc jdk_68_method_22_code 43 (.aload_n 0) 1 44 := ⟨by decide +kernel, rfl⟩
theorem d10_44 : Dc jdk_68_method_22_code 44 (.areturn) 1 45 := ⟨by decide +kernel, rfl⟩
theorem rAS (l : Launch) {Z : State} {a0 : Array Value} (hw : ∀ d ∈ tables_1, d.before a0 Z = true) {h : Heap} (hE : Ext Z.heap h) (sb : Addr) (sq : Addr) (ar : Addr) (cn cp : Int32) (z_ : Int32) (SZ : Sta Z Z.heap "java/lang/String" "COMPACT_STRINGS" "Z" (.int z_)) (hz : ¬ z_ = 0) (EB : Exa Z h sb "java/lang/StringBuilder") (FC : Fld Z h sb "java/lang/AbstractStringBuilder" "coder" "B" (.int (0 : Int32))) (FV : Fld Z h sb "java/lang/AbstractStringBuilder" "value" "[B" (.ref ar)) (FN : Fld Z h sb "java/lang/AbstractStringBuilder" "count" "I" (.int cn)) (VA : By Z h ar cp) (nb : Z.heap.size ≤ sb) (na : Z.heap.size ≤ ar) (c1 : 0 ≤ cn.toInt) (c2 : cn.toInt ≤ cp.toInt) (c3 : cp.toInt ≤ 200) (tq : Addr) (lq : Int32) (EQ : Exa Z h sq "java/lang/String") (QC : Fld Z h sq "java/lang/String" "coder" "B" (.int (0 : Int32))) (QV : Fld Z h sq "java/lang/String" "value" "[B" (.ref tq)) (VQ : ByS Z h tq lq) (l0 : 0 ≤ lq.toInt) (l1 : cn.toInt + lq.toInt ≤ 100) :
    Con l (⟨"java/lang/AbstractStringBuilder", "append", "(Ljava/lang/String;)Ljava/lang/AbstractStringBuilder;"⟩ : MethodName) jdk_68_method_22_code 3 (some (.object "java/lang/AbstractStringBuilder")) [] ({ frames := 4, cells := 1, slots := 200, locals := 96 } : Room) Z #[(.ref sb), (.ref sq)] h (fun v' h' => v' = some (.ref sb) ∧ Keep h h' [sb, ar] ∧ Exa Z h' sb "java/lang/StringBuilder" ∧ Fld Z h' sb "java/lang/AbstractStringBuilder" "coder" "B" (.int (0 : Int32)) ∧ ∃ (ar' : Addr) (cp' : Int32), (ar' = ar ∨ h.size ≤ ar') ∧ Z.heap.size ≤ ar' ∧ Fld Z h' sb "java/lang/AbstractStringBuilder" "value" "[B" (.ref ar') ∧ Fld Z h' sb "java/lang/AbstractStringBuilder" "count" "I" (.int (cn + lq)) ∧ By Z h' ar' cp' ∧ 0 ≤ (cn + lq).toInt ∧ (cn + lq).toInt ≤ cp'.toInt ∧ cp'.toInt ≤ 200) := by
  refine con_of (plainFor_of_name pn_2) hE (fun m => ef_rAS m sb sq) ?_
  intro p e s m below meth c T0 C X0
  have C : Cx p s m meth c Z "java/lang/AbstractStringBuilder" "append" jdk_68_method_22_code 3 (some (.object "java/lang/AbstractStringBuilder")) := C
  show Goes p e below _ T0 (mkF m 0 #[.val (.ref sb), .val (.ref sq), .unset] [])
  have ne63 : sb ≠ ar := Exa.ne EB VA.2 (by decide)
  have a1 := own_add cn lq (by omega) (by omega)
  refine g_aloadN C X0 d10_0 rfl rfl ?_
  refine g_ifnonnull C X0 d10_1 rfl (fun _ => ?_) (fun q => absurd q nofun)
  refine g_aloadN C X0 d10_9 rfl rfl ?_
  refine g_virtualP (argsL := []) (st := []) C X0 (wd hw 73 rfl) (wd hw 74 rfl) (nf_of C (wd hw 76 rfl) rfl rfl) (wd hw 76 rfl) (wd hw 75 rfl) (by decide) EQ (pay_of (W' := 0) (rLen l hw X0.ext sq z_ SZ hz tq lq EQ QC QV VQ) C.hZ (wd hw 77 rfl) (wd hw 31 rfl) (by decide) (by decide)) pd_2 rfl rfl _ rfl (Nat.le_of_eq rfl) d10_10 (by decide) (by decide) (fun T64 X64 => ?_)
  refine g_istoreN C X64 d10_13 (l' := #[.val (.ref sb), .val (.ref sq), .val (.int lq)]) rfl ?_
  refine g_aloadN C X64 d10_14 rfl rfl ?_
  refine g_aloadN C X64 d10_15 rfl rfl ?_
  refine g_getfield (host := "") C X64 (Or.inl (wd hw 86 rfl)) Via.refl FN d10_16 (fun T65 X65 => ?_)
  refine g_iloadN C X65 d10_19 rfl ?_
  refine g_iadd C X65 d10_20 ?_
  refine g_privateK (argsL := [(.int (cn + lq))]) (st := []) C X65 (wd hw 88 rfl) (wd hw 89 rfl) (sel_privateK C.hZ (wd hw 91 rfl) rfl (wd hw 90 rfl) (wd hw 89 rfl) (by decide)) (wd hw 90 rfl) (wd hw 92 rfl) (by decide) EB (pay_of (W' := 0) (rEC l hw X65.ext sb (cn + lq) ar cn cp EB FC FV FN VA nb na c1 c2 c3 (by omega) (by omega)) C.hZ (wd hw 92 rfl) (wd hw 51 rfl) (by decide) (by decide)) pd_8 rfl rfl _ rfl (Nat.le_of_eq rfl) d10_21 (by decide) (by decide) (fun T66 h66 v66 q66 X66 => ?_)
  obtain ⟨rfl, K66, EB66, FC66, ar66, cp66, al66, nr66, FV66, FN66, VA66, d1_66, d2_66, d3_66, x0_66⟩ := q66
  have ne67 : sb ≠ ar66 := Exa.ne EB66 VA66.2 (by decide)
  show Goes p e below _ T66 (mkF m 24 #[.val (.ref sb), .val (.ref sq), .val (.int lq)] [])
  refine g_aloadN C X66 d10_24 rfl rfl ?_
  refine g_aloadN C X66 d10_25 rfl rfl ?_
  refine g_getfield (host := "") C X66 (Or.inl (wd hw 86 rfl)) Via.refl FN66 d10_26 (fun T68 X68 => ?_)
  refine g_aloadN C X68 d10_29 rfl rfl ?_
  have f69 := (ByS.keep VQ K66 (ninS (Ne.symm (own_neS EB VQ (wd hw 42 rfl))) nin0))
  have f70 := (Exa.keep EQ K66)
  have f71 := (Fld.keep QC K66 (ninS (Ne.symm (Exa.ne EB EQ (by decide))) nin0))
  have f72 := (Fld.keep QV K66 (ninS (Ne.symm (Exa.ne EB EQ (by decide))) nin0))
  refine g_privateK (argsL := [(.int cn), (.ref sq)]) (st := []) C X68 (wd hw 93 rfl) (wd hw 94 rfl) (sel_privateK C.hZ (wd hw 96 rfl) rfl (wd hw 95 rfl) (wd hw 94 rfl) (by decide)) (wd hw 95 rfl) (wd hw 97 rfl) (by decide) EB66 (pay_of (W' := 0) (rPS l hw X68.ext sb cn sq ar66 cn cp66 z_ SZ hz EB66 FC66 FV66 FN66 VA66 nb nr66 d1_66 d2_66 d3_66 tq lq f70 f71 f72 f69 (by omega) (by omega) (by omega)) C.hZ (wd hw 97 rfl) (wd hw 51 rfl) (by decide) (by decide)) pd_9 rfl rfl _ rfl (Nat.le_of_eq rfl) d10_30 (by decide) (by decide) (fun T73 h73 v73 q73 X73 => ?_)
  obtain ⟨rfl, K73, V73⟩ := q73
  show Goes p e below _ T73 (mkF m 33 #[.val (.ref sb), .val (.ref sq), .val (.int lq)] [])
  refine g_aloadN C X73 d10_33 rfl rfl ?_
  refine g_dup C X73 d10_34 rfl ?_
  have f74 := (Fld.keep FN66 K73 (ninS ne67 nin0))
  refine g_getfield (host := "") C X73 (Or.inl (wd hw 86 rfl)) Via.refl f74 d10_35 (fun T75 X75 => ?_)
  refine g_iloadN C X75 d10_38 rfl ?_
  refine g_iadd C X75 d10_39 ?_
  have f76 := (Exa.keep EB66 K73)
  refine g_putfield (host := "") C X75 (Or.inl (wd hw 86 rfl)) Via.refl f74 f76 (Or.inl (wd hw 87 rfl)) (wd hw 42 rfl) (ty := .int) (by decide) rfl rfl nb d10_40 (fun T77 h77 X77 W77 => ?_)
  have f77 := Fld.same W77 f74
  refine g_aloadN C X77 d10_43 rfl rfl ?_
  have kp78 := (Keep.refl h [sb, ar]).trans K66 (allS (Or.inl (by simp)) all0)
  have kp79 := kp78.trans K73 (allS (Or.imp (fun q => by rw [q]; simp) id al66) all0)
  have kp80 := kp79.wr W77 (Or.inl (by simp))
  have f81 := (Exa.wr W77 f76)
  have f82 := (Fld.other W77 (Fld.keep FC66 K73 (ninS ne67 nin0)) (Or.inr (slot_ne (Or.inl (wd hw 58 rfl)) (Or.inl (wd hw 87 rfl)) (by decide) (t := .byte) (t' := .int) (by decide) (by decide))))
  have f83 := (Fld.other W77 (Fld.keep FV66 K73 (ninS ne67 nin0)) (Or.inr (slot_ne (Or.inl (wd hw 56 rfl)) (Or.inl (wd hw 87 rfl)) (by decide) (t := (.array .byte)) (t' := .int) (by decide) (by decide))))
  have f84 := (By.other V73 W77 (Ne.symm ne67))
  exact g_retA C X77 rfl rfl d10_44 (by decide) (by decide) ⟨rfl, kp80, f81, f82, ar66, cp66, al66, nr66, f83, f77, f84, (by omega), (by omega), d3_66⟩
theorem ef_rBS (m : MethodId) (sb : Addr) (sq : Addr) : entryFrame m #[(.ref sb), (.ref sq)] 2 = mkF m 0 #[.val (.ref sb), .val (.ref sq)] [] := by first | (simp [entryFrame, mkF, argsToLocals, Value.category]; done) | rfl
theorem d9_0 : Dc jdk_67_method_7_code 0 (.aload_n 0) 1 1 := ⟨by decide +kernel, rfl⟩
theorem d9_1 : Dc jdk_67_method_7_code 1 (.aload_n 1) 1 2 := ⟨by decide +kernel, rfl⟩
theorem d9_2 : Dc jdk_67_method_7_code 2 (.invokespecial 29) 3 5 := ⟨by decide +kernel, rfl⟩
theorem pd_10 : parseMethodDescriptor "(Ljava/lang/String;)Ljava/lang/AbstractStringBuilder;" = some ⟨[(.object "java/lang/String")], some (.object "java/lang/AbstractStringBuilder")⟩ := by decide +kernel
theorem d9_5 : Dc jdk_67_method_7_code 5 (.pop) 1 6 := ⟨by decide +kernel, rfl⟩
theorem d9_6 : Dc jdk_67_method_7_code 6 (.aload_n 0) 1 7 := ⟨by decide +kernel, rfl⟩
theorem d9_7 : Dc jdk_67_method_7_code 7 (.areturn) 1 8 := ⟨by decide +kernel, rfl⟩
theorem rBS (l : Launch) {Z : State} {a0 : Array Value} (hw : ∀ d ∈ tables_1, d.before a0 Z = true) {h : Heap} (hE : Ext Z.heap h) (sb : Addr) (sq : Addr) (ar : Addr) (cn cp : Int32) (z_ : Int32) (SZ : Sta Z Z.heap "java/lang/String" "COMPACT_STRINGS" "Z" (.int z_)) (hz : ¬ z_ = 0) (EB : Exa Z h sb "java/lang/StringBuilder") (FC : Fld Z h sb "java/lang/AbstractStringBuilder" "coder" "B" (.int (0 : Int32))) (FV : Fld Z h sb "java/lang/AbstractStringBuilder" "value" "[B" (.ref ar)) (FN : Fld Z h sb "java/lang/AbstractStringBuilder" "count" "I" (.int cn)) (VA : By Z h ar cp) (nb : Z.heap.size ≤ sb) (na : Z.heap.size ≤ ar) (c1 : 0 ≤ cn.toInt) (c2 : cn.toInt ≤ cp.toInt) (c3 : cp.toInt ≤ 200) (tq : Addr) (lq : Int32) (EQ : Exa Z h sq "java/lang/String") (QC : Fld Z h sq "java/lang/String" "coder" "B" (.int (0 : Int32))) (QV : Fld Z h sq "java/lang/String" "value" "[B" (.ref tq)) (VQ : ByS Z h tq lq) (l0 : 0 ≤ lq.toInt) (l1 : cn.toInt + lq.toInt ≤ 100) :
    Con l (⟨"java/lang/StringBuilder", "append", "(Ljava/lang/String;)Ljava/lang/StringBuilder;"⟩ : MethodName) jdk_67_method_7_code 2 (some (.object "java/lang/StringBuilder")) [] ({ frames := 5, cells := 1, slots := 200, locals := 120 } : Room) Z #[(.ref sb), (.ref sq)] h (fun v' h' => v' = some (.ref sb) ∧ Keep h h' [sb, ar] ∧ Exa Z h' sb "java/lang/StringBuilder" ∧ Fld Z h' sb "java/lang/AbstractStringBuilder" "coder" "B" (.int (0 : Int32)) ∧ ∃ (ar' : Addr) (cp' : Int32), (ar' = ar ∨ h.size ≤ ar') ∧ Z.heap.size ≤ ar' ∧ Fld Z h' sb "java/lang/AbstractStringBuilder" "value" "[B" (.ref ar') ∧ Fld Z h' sb "java/lang/AbstractStringBuilder" "count" "I" (.int (cn + lq)) ∧ By Z h' ar' cp' ∧ 0 ≤ (cn + lq).toInt ∧ (cn + lq).toInt ≤ cp'.toInt ∧ cp'.toInt ≤ 200) := by
  refine con_of (plainFor_of_name pn_3) hE (fun m => ef_rBS m sb sq) ?_
  intro p e s m below meth c T0 C X0
  have C : Cx p s m meth c Z "java/lang/StringBuilder" "append" jdk_67_method_7_code 2 (some (.object "java/lang/StringBuilder")) := C
  show Goes p e below _ T0 (mkF m 0 #[.val (.ref sb), .val (.ref sq)] [])
  have ne85 : sb ≠ ar := Exa.ne EB VA.2 (by decide)
  refine g_aloadN C X0 d9_0 rfl rfl ?_
  refine g_aloadN C X0 d9_1 rfl rfl ?_
  refine g_super (argsL := [(.ref sq)]) (st := []) C X0 (by decide) (wd hw 68 rfl) (own_same (wd hw 69 rfl) (wd hw 129 rfl) rfl (by decide)) (wd hw 69 rfl) (wd hw 70 rfl) (wd hw 72 rfl) EB (pay_of (W' := 0) (rAS l hw X0.ext sb sq ar cn cp z_ SZ hz EB FC FV FN VA nb na c1 c2 c3 tq lq EQ QC QV VQ (by omega) (by omega)) C.hZ (wd hw 72 rfl) (wd hw 51 rfl) (by decide) (by decide)) pd_10 rfl rfl _ rfl (Nat.le_of_eq rfl) d9_2 (by decide) (by decide) (fun T86 h86 v86 q86 X86 => ?_)
  obtain ⟨rfl, K86, EB86, FC86, ar86, cp86, al86, nr86, FV86, FN86, VA86, d1_86, d2_86, d3_86⟩ := q86
  have ne87 : sb ≠ ar86 := Exa.ne EB86 VA86.2 (by decide)
  show Goes p e below _ T86 (mkF m 5 #[.val (.ref sb), .val (.ref sq)] [(.ref sb)])
  refine g_pop C X86 d9_5 rfl ?_
  refine g_aloadN C X86 d9_6 rfl rfl ?_
  have kp88 := (Keep.refl h [sb, ar]).trans K86 (allS (Or.inl (by simp)) (allS (Or.inl (by simp)) all0))
  exact g_retA C X86 rfl rfl d9_7 (by decide) (by decide) ⟨rfl, kp88, EB86, FC86, ar86, cp86, al86, nr86, FV86, FN86, VA86, d1_86, d2_86, d3_86⟩
theorem pn_5 : plainName "java/lang/Integer" = true := by first | (simp [plainName, overriddenIn]; done) | decide +kernel
theorem ef_rSS (m : MethodId) (xi : Int32) : entryFrame m #[(.int xi)] 4 = mkF m 0 #[.val (.int xi), .unset, .unset, .unset] [] := by first | (simp [entryFrame, mkF, argsToLocals, Value.category]; done) | rfl
theorem d19_0 : Dc jdk_33_method_13_code 0 (.iconst 1) 1 1 := ⟨by decide +kernel, rfl⟩
theorem d19_1 : Dc jdk_33_method_13_code 1 (.istore_n 1) 1 2 := ⟨by decide +kernel, rfl⟩
theorem d19_2 : Dc jdk_33_method_13_code 2 (.iload_n 0) 1 3 := ⟨by decide +kernel, rfl⟩
theorem d19_3 : Dj jdk_33_method_13_code 3 (.ifCond .lt 8) 8 3 6 11 := ⟨by decide +kernel, rfl, by decide, by decide⟩
theorem d19_11 : Dc jdk_33_method_13_code 11 (.bipush (-10)) 2 13 := ⟨by decide +kernel, rfl⟩
theorem d19_13 : Dc jdk_33_method_13_code 13 (.istore_n 2) 1 14 := ⟨by decide +kernel, rfl⟩
theorem d19_14 : Dc jdk_33_method_13_code 14 (.iconst 1) 1 15 := ⟨by decide +kernel, rfl⟩
theorem d19_15 : Dc jdk_33_method_13_code 15 (.istore_n 3) 1 16 := ⟨by decide +kernel, rfl⟩
theorem d19_16 : Dc jdk_33_method_13_code 16 (.iload_n 3) 1 17 := ⟨by decide +kernel, rfl⟩
theorem d19_17 : Dc jdk_33_method_13_code 17 (.bipush 10) 2 19 := ⟨by decide +kernel, rfl⟩
theorem d19_19 : Dj jdk_33_method_13_code 19 (.if_icmp .ge 23) 23 3 22 42 := ⟨by decide +kernel, rfl, by decide, by decide⟩
theorem d19_22 : Dc jdk_33_method_13_code 22 (.iload_n 0) 1 23 := ⟨by decide +kernel, rfl⟩
theorem d19_23 : Dc jdk_33_method_13_code 23 (.iload_n 2) 1 24 := ⟨by decide +kernel, rfl⟩
theorem d19_24 : Dj jdk_33_method_13_code 24 (.if_icmp .le 7) 7 3 27 31 := ⟨by decide +kernel, rfl, by decide, by decide⟩
theorem d19_31 : Dc jdk_33_method_13_code 31 (.bipush 10) 2 33 := ⟨by decide +kernel, rfl⟩
theorem d19_33 : Dc jdk_33_method_13_code 33 (.iload_n 2) 1 34 := ⟨by decide +kernel, rfl⟩
theorem d19_34 : Dc jdk_33_method_13_code 34 (.imul) 1 35 := ⟨by decide +kernel, rfl⟩
theorem d19_35 : Dc jdk_33_method_13_code 35 (.istore_n 2) 1 36 := ⟨by decide +kernel, rfl⟩
theorem d19_36 : Dc jdk_33_method_13_code 36 (.iinc 3 1) 3 39 := ⟨by decide +kernel, rfl⟩
theorem d19_39 : Dj jdk_33_method_13_code 39 (.goto (-23)) (-23) 3 42 16 := ⟨by decide +kernel, rfl, by decide, by decide⟩
theorem d19_42 : Dc jdk_33_method_13_code 42 (.bipush 10) 2 44 := ⟨by decide +kernel, rfl⟩
theorem d19_44 : Dc jdk_33_method_13_code 44 (.iload_n 1) 1 45 := ⟨by decide +kernel, rfl⟩
theorem d19_45 : Dc jdk_33_method_13_code 45 (.iadd) 1 46 := ⟨by decide +kernel, rfl⟩
theorem d19_46 : Dc jdk_33_method_13_code 46 (.ireturn) 1 47 := ⟨by decide +kernel, rfl⟩
theorem d19_27 : Dc jdk_33_method_13_code 27 (.iload_n 3) 1 28 := ⟨by decide +kernel, rfl⟩
theorem d19_28 : Dc jdk_33_method_13_code 28 (.iload_n 1) 1 29 := ⟨by decide +kernel, rfl⟩
theorem d19_29 : Dc jdk_33_method_13_code 29 (.iadd) 1 30 := ⟨by decide +kernel, rfl⟩
theorem d19_30 : Dc jdk_33_method_13_code 30 (.ireturn) 1 31 := ⟨by decide +kernel, rfl⟩
theorem d19_6 : Dc jdk_33_method_13_code 6 (.iconst 0) 1 7 := ⟨by decide +kernel, rfl⟩
theorem d19_7 : Dc jdk_33_method_13_code 7 (.istore_n 1) 1 8 := ⟨by decide +kernel, rfl⟩
theorem d19_8 : Dc jdk_33_method_13_code 8 (.iload_n 0) 1 9 := ⟨by decide +kernel, rfl⟩
theorem d19_9 : Dc jdk_33_method_13_code 9 (.ineg) 1 10 := ⟨by decide +kernel, rfl⟩
theorem d19_10 : Dc jdk_33_method_13_code 10 (.istore_n 0) 1 11 := ⟨by decide +kernel, rfl⟩
theorem rSS (l : Launch) {Z : State} {a0 : Array Value} (hw : ∀ d ∈ tables_1, d.before a0 Z = true) {h : Heap} (hE : Ext Z.heap h) (xi : Int32)   :
    Con l (⟨"java/lang/Integer", "stringSize", "(I)I"⟩ : MethodName) jdk_33_method_13_code 4 (some .int) [] ({ frames := 0, cells := 0, slots := 0, locals := 0 } : Room) Z #[(.int xi)] h (fun v' h' => ∃ sz : Int32, v' = some (.int sz) ∧ h' = h ∧ own_Dig xi sz) := by
  refine con_of (plainFor_of_name pn_5) hE (fun m => ef_rSS m xi) ?_
  intro p e s m below meth c T0 C X0
  have C : Cx p s m meth c Z "java/lang/Integer" "stringSize" jdk_33_method_13_code 4 (some .int) := C
  show Goes p e below _ T0 (mkF m 0 #[.val (.int xi), .unset, .unset, .unset] [])
  refine g_iconst 1 C X0 d19_0 rfl ?_
  refine g_istoreN C X0 d19_1 (l' := #[.val (.int xi), .val (.int 1), .unset, .unset]) rfl ?_
  refine g_iloadN C X0 d19_2 rfl ?_
  refine g_if (h0_lt _) C X0 d19_3 (fun c3_89 => ?_) (fun c3_89 => ?_)
  · refine g_bipush (-10) C X0 d19_11 rfl ?_
    refine g_istoreN C X0 d19_13 (l' := #[.val (.int xi), .val (.int 1), .val (.int (-10)), .unset]) rfl ?_
    refine g_iconst 1 C X0 d19_14 rfl ?_
    refine g_istoreN C X0 d19_15 (l' := #[.val (.int xi), .val (.int 1), .val (.int (-10)), .val (.int 1)]) rfl ?_
    refine g_iloadN C X0 d19_16 rfl ?_
    refine g_bipush 10 C X0 d19_17 rfl ?_
    refine g_icmpn (hI_ge _ _) C X0 d19_19 (fun q => absurd (by decide) q) (fun _ => ?_)
    refine g_iloadN C X0 d19_22 rfl ?_
    refine g_iloadN C X0 d19_23 rfl ?_
    refine g_icmpn (hI_le _ _) C X0 d19_24 (fun c24_90 => ?_) (fun c24_90 => ?_)
    · refine g_bipush 10 C X0 d19_31 rfl ?_
      refine g_iloadN C X0 d19_33 rfl ?_
      refine g_imul C X0 d19_34 ?_
      refine g_istoreN C X0 d19_35 (l' := #[.val (.int xi), .val (.int 1), .val (.int (-100)), .val (.int 1)]) rfl ?_
      refine g_iinc 1 C X0 d19_36 rfl rfl (l' := #[.val (.int xi), .val (.int 1), .val (.int (-100)), .val (.int 2)]) rfl ?_
      refine g_goto C X0 d19_39 ?_
      refine g_iloadN C X0 d19_16 rfl ?_
      refine g_bipush 10 C X0 d19_17 rfl ?_
      refine g_icmpn (hI_ge _ _) C X0 d19_19 (fun q => absurd (by decide) q) (fun _ => ?_)
      refine g_iloadN C X0 d19_22 rfl ?_
      refine g_iloadN C X0 d19_23 rfl ?_
      refine g_icmpn (hI_le _ _) C X0 d19_24 (fun c24_91 => ?_) (fun c24_91 => ?_)
      · refine g_bipush 10 C X0 d19_31 rfl ?_
        refine g_iloadN C X0 d19_33 rfl ?_
        refine g_imul C X0 d19_34 ?_
        refine g_istoreN C X0 d19_35 (l' := #[.val (.int xi), .val (.int 1), .val (.int (-1000)), .val (.int 2)]) rfl ?_
        refine g_iinc 1 C X0 d19_36 rfl rfl (l' := #[.val (.int xi), .val (.int 1), .val (.int (-1000)), .val (.int 3)]) rfl ?_
        refine g_goto C X0 d19_39 ?_
        refine g_iloadN C X0 d19_16 rfl ?_
        refine g_bipush 10 C X0 d19_17 rfl ?_
        refine g_icmpn (hI_ge _ _) C X0 d19_19 (fun q => absurd (by decide) q) (fun _ => ?_)
        refine g_iloadN C X0 d19_22 rfl ?_
        refine g_iloadN C X0 d19_23 rfl ?_
        refine g_icmpn (hI_le _ _) C X0 d19_24 (fun c24_92 => ?_) (fun c24_92 => ?_)
        · refine g_bipush 10 C X0 d19_31 rfl ?_
          refine g_iloadN C X0 d19_33 rfl ?_
          refine g_imul C X0 d19_34 ?_
          refine g_istoreN C X0 d19_35 (l' := #[.val (.int xi), .val (.int 1), .val (.int (-10000)), .val (.int 3)]) rfl ?_
          refine g_iinc 1 C X0 d19_36 rfl rfl (l' := #[.val (.int xi), .val (.int 1), .val (.int (-10000)), .val (.int 4)]) rfl ?_
          refine g_goto C X0 d19_39 ?_
          refine g_iloadN C X0 d19_16 rfl ?_
          refine g_bipush 10 C X0 d19_17 rfl ?_
          refine g_icmpn (hI_ge _ _) C X0 d19_19 (fun q => absurd (by decide) q) (fun _ => ?_)
          refine g_iloadN C X0 d19_22 rfl ?_
          refine g_iloadN C X0 d19_23 rfl ?_
          refine g_icmpn (hI_le _ _) C X0 d19_24 (fun c24_93 => ?_) (fun c24_93 => ?_)
          · refine g_bipush 10 C X0 d19_31 rfl ?_
            refine g_iloadN C X0 d19_33 rfl ?_
            refine g_imul C X0 d19_34 ?_
            refine g_istoreN C X0 d19_35 (l' := #[.val (.int xi), .val (.int 1), .val (.int (-100000)), .val (.int 4)]) rfl ?_
            refine g_iinc 1 C X0 d19_36 rfl rfl (l' := #[.val (.int xi), .val (.int 1), .val (.int (-100000)), .val (.int 5)]) rfl ?_
            refine g_goto C X0 d19_39 ?_
            refine g_iloadN C X0 d19_16 rfl ?_
            refine g_bipush 10 C X0 d19_17 rfl ?_
            refine g_icmpn (hI_ge _ _) C X0 d19_19 (fun q => absurd (by decide) q) (fun _ => ?_)
            refine g_iloadN C X0 d19_22 rfl ?_
            refine g_iloadN C X0 d19_23 rfl ?_
            refine g_icmpn (hI_le _ _) C X0 d19_24 (fun c24_94 => ?_) (fun c24_94 => ?_)
            · refine g_bipush 10 C X0 d19_31 rfl ?_
              refine g_iloadN C X0 d19_33 rfl ?_
              refine g_imul C X0 d19_34 ?_
              refine g_istoreN C X0 d19_35 (l' := #[.val (.int xi), .val (.int 1), .val (.int (-1000000)), .val (.int 5)]) rfl ?_
              refine g_iinc 1 C X0 d19_36 rfl rfl (l' := #[.val (.int xi), .val (.int 1), .val (.int (-1000000)), .val (.int 6)]) rfl ?_
              refine g_goto C X0 d19_39 ?_
              refine g_iloadN C X0 d19_16 rfl ?_
              refine g_bipush 10 C X0 d19_17 rfl ?_
              refine g_icmpn (hI_ge _ _) C X0 d19_19 (fun q => absurd (by decide) q) (fun _ => ?_)
              refine g_iloadN C X0 d19_22 rfl ?_
              refine g_iloadN C X0 d19_23 rfl ?_
              refine g_icmpn (hI_le _ _) C X0 d19_24 (fun c24_95 => ?_) (fun c24_95 => ?_)
              · refine g_bipush 10 C X0 d19_31 rfl ?_
                refine g_iloadN C X0 d19_33 rfl ?_
                refine g_imul C X0 d19_34 ?_
                refine g_istoreN C X0 d19_35 (l' := #[.val (.int xi), .val (.int 1), .val (.int (-10000000)), .val (.int 6)]) rfl ?_
                refine g_iinc 1 C X0 d19_36 rfl rfl (l' := #[.val (.int xi), .val (.int 1), .val (.int (-10000000)), .val (.int 7)]) rfl ?_
                refine g_goto C X0 d19_39 ?_
                refine g_iloadN C X0 d19_16 rfl ?_
                refine g_bipush 10 C X0 d19_17 rfl ?_
                refine g_icmpn (hI_ge _ _) C X0 d19_19 (fun q => absurd (by decide) q) (fun _ => ?_)
                refine g_iloadN C X0 d19_22 rfl ?_
                refine g_iloadN C X0 d19_23 rfl ?_
                refine g_icmpn (hI_le _ _) C X0 d19_24 (fun c24_96 => ?_) (fun c24_96 => ?_)
                · refine g_bipush 10 C X0 d19_31 rfl ?_
                  refine g_iloadN C X0 d19_33 rfl ?_
                  refine g_imul C X0 d19_34 ?_
                  refine g_istoreN C X0 d19_35 (l' := #[.val (.int xi), .val (.int 1), .val (.int (-100000000)), .val (.int 7)]) rfl ?_
                  refine g_iinc 1 C X0 d19_36 rfl rfl (l' := #[.val (.int xi), .val (.int 1), .val (.int (-100000000)), .val (.int 8)]) rfl ?_
                  refine g_goto C X0 d19_39 ?_
                  refine g_iloadN C X0 d19_16 rfl ?_
                  refine g_bipush 10 C X0 d19_17 rfl ?_
                  refine g_icmpn (hI_ge _ _) C X0 d19_19 (fun q => absurd (by decide) q) (fun _ => ?_)
                  refine g_iloadN C X0 d19_22 rfl ?_
                  refine g_iloadN C X0 d19_23 rfl ?_
                  refine g_icmpn (hI_le _ _) C X0 d19_24 (fun c24_97 => ?_) (fun c24_97 => ?_)
                  · refine g_bipush 10 C X0 d19_31 rfl ?_
                    refine g_iloadN C X0 d19_33 rfl ?_
                    refine g_imul C X0 d19_34 ?_
                    refine g_istoreN C X0 d19_35 (l' := #[.val (.int xi), .val (.int 1), .val (.int (-1000000000)), .val (.int 8)]) rfl ?_
                    refine g_iinc 1 C X0 d19_36 rfl rfl (l' := #[.val (.int xi), .val (.int 1), .val (.int (-1000000000)), .val (.int 9)]) rfl ?_
                    refine g_goto C X0 d19_39 ?_
                    refine g_iloadN C X0 d19_16 rfl ?_
                    refine g_bipush 10 C X0 d19_17 rfl ?_
                    refine g_icmpn (hI_ge _ _) C X0 d19_19 (fun q => absurd (by decide) q) (fun _ => ?_)
                    refine g_iloadN C X0 d19_22 rfl ?_
                    refine g_iloadN C X0 d19_23 rfl ?_
                    refine g_icmpn (hI_le _ _) C X0 d19_24 (fun c24_98 => ?_) (fun c24_98 => ?_)
                    · refine g_bipush 10 C X0 d19_31 rfl ?_
                      refine g_iloadN C X0 d19_33 rfl ?_
                      refine g_imul C X0 d19_34 ?_
                      refine g_istoreN C X0 d19_35 (l' := #[.val (.int xi), .val (.int 1), .val (.int (-1410065408)), .val (.int 9)]) rfl ?_
                      refine g_iinc 1 C X0 d19_36 rfl rfl (l' := #[.val (.int xi), .val (.int 1), .val (.int (-1410065408)), .val (.int 10)]) rfl ?_
                      refine g_goto C X0 d19_39 ?_
                      refine g_iloadN C X0 d19_16 rfl ?_
                      refine g_bipush 10 C X0 d19_17 rfl ?_
                      refine g_icmpn (hI_ge _ _) C X0 d19_19 (fun _ => ?_) (fun q => absurd q (by decide))
                      refine g_bipush 10 C X0 d19_42 rfl ?_
                      refine g_iloadN C X0 d19_44 rfl ?_
                      refine g_iadd C X0 d19_45 ?_
                      have b0 := Int32.le_toInt xi
                      have b1 := Int32.toInt_lt xi
                      have e0 := own_lt' c3_89
                      rw [show (0 : Int32).toInt = 0 from rfl] at e0
                      exact g_retI C X0 d19_46 (by decide) (by decide) ⟨(11 : Int32), rfl, rfl, 10, by decide, by decide, by rw [if_pos (by omega)]; rfl, by show _ < 10000000000; omega⟩
                    · refine g_iloadN C X0 d19_27 rfl ?_
                      refine g_iloadN C X0 d19_28 rfl ?_
                      refine g_iadd C X0 d19_29 ?_
                      have b0 := Int32.le_toInt xi
                      have b1 := Int32.toInt_lt xi
                      have e0 := own_lt' c3_89
                      rw [show (0 : Int32).toInt = 0 from rfl] at e0
                      have e2 := own_lt' c24_98
                      rw [show (-1000000000 : Int32).toInt = -1000000000 from rfl] at e2
                      exact g_retI C X0 d19_30 (by decide) (by decide) ⟨(10 : Int32), rfl, rfl, 9, by decide, by decide, by rw [if_pos (by omega)]; rfl, by show _ < 1000000000; omega⟩
                  · refine g_iloadN C X0 d19_27 rfl ?_
                    refine g_iloadN C X0 d19_28 rfl ?_
                    refine g_iadd C X0 d19_29 ?_
                    have b0 := Int32.le_toInt xi
                    have b1 := Int32.toInt_lt xi
                    have e0 := own_lt' c3_89
                    rw [show (0 : Int32).toInt = 0 from rfl] at e0
                    have e2 := own_lt' c24_97
                    rw [show (-100000000 : Int32).toInt = -100000000 from rfl] at e2
                    exact g_retI C X0 d19_30 (by decide) (by decide) ⟨(9 : Int32), rfl, rfl, 8, by decide, by decide, by rw [if_pos (by omega)]; rfl, by show _ < 100000000; omega⟩
                · refine g_iloadN C X0 d19_27 rfl ?_
                  refine g_iloadN C X0 d19_28 rfl ?_
                  refine g_iadd C X0 d19_29 ?_
                  have b0 := Int32.le_toInt xi
                  have b1 := Int32.toInt_lt xi
                  have e0 := own_lt' c3_89
                  rw [show (0 : Int32).toInt = 0 from rfl] at e0
                  have e2 := own_lt' c24_96
                  rw [show (-10000000 : Int32).toInt = -10000000 from rfl] at e2
                  exact g_retI C X0 d19_30 (by decide) (by decide) ⟨(8 : Int32), rfl, rfl, 7, by decide, by decide, by rw [if_pos (by omega)]; rfl, by show _ < 10000000; omega⟩
              · refine g_iloadN C X0 d19_27 rfl ?_
                refine g_iloadN C X0 d19_28 rfl ?_
                refine g_iadd C X0 d19_29 ?_
                have b0 := Int32.le_toInt xi
                have b1 := Int32.toInt_lt xi
                have e0 := own_lt' c3_89
                rw [show (0 : Int32).toInt = 0 from rfl] at e0
                have e2 := own_lt' c24_95
                rw [show (-1000000 : Int32).toInt = -1000000 from rfl] at e2
                exact g_retI C X0 d19_30 (by decide) (by decide) ⟨(7 : Int32), rfl, rfl, 6, by decide, by decide, by rw [if_pos (by omega)]; rfl, by show _ < 1000000; omega⟩
            · refine g_iloadN C X0 d19_27 rfl ?_
              refine g_iloadN C X0 d19_28 rfl ?_
              refine g_iadd C X0 d19_29 ?_
              have b0 := Int32.le_toInt xi
              have b1 := Int32.toInt_lt xi
              have e0 := own_lt' c3_89
              rw [show (0 : Int32).toInt = 0 from rfl] at e0
              have e2 := own_lt' c24_94
              rw [show (-100000 : Int32).toInt = -100000 from rfl] at e2
              exact g_retI C X0 d19_30 (by decide) (by decide) ⟨(6 : Int32), rfl, rfl, 5, by decide, by decide, by rw [if_pos (by omega)]; rfl, by show _ < 100000; omega⟩
          · refine g_iloadN C X0 d19_27 rfl ?_
            refine g_iloadN C X0 d19_28 rfl ?_
            refine g_iadd C X0 d19_29 ?_
            have b0 := Int32.le_toInt xi
            have b1 := Int32.toInt_lt xi
            have e0 := own_lt' c3_89
            rw [show (0 : Int32).toInt = 0 from rfl] at e0
            have e2 := own_lt' c24_93
            rw [show (-10000 : Int32).toInt = -10000 from rfl] at e2
            exact g_retI C X0 d19_30 (by decide) (by decide) ⟨(5 : Int32), rfl, rfl, 4, by decide, by decide, by rw [if_pos (by omega)]; rfl, by show _ < 10000; omega⟩
        · refine g_iloadN C X0 d19_27 rfl ?_
          refine g_iloadN C X0 d19_28 rfl ?_
          refine g_iadd C X0 d19_29 ?_
          have b0 := Int32.le_toInt xi
          have b1 := Int32.toInt_lt xi
          have e0 := own_lt' c3_89
          rw [show (0 : Int32).toInt = 0 from rfl] at e0
          have e2 := own_lt' c24_92
          rw [show (-1000 : Int32).toInt = -1000 from rfl] at e2
          exact g_retI C X0 d19_30 (by decide) (by decide) ⟨(4 : Int32), rfl, rfl, 3, by decide, by decide, by rw [if_pos (by omega)]; rfl, by show _ < 1000; omega⟩
      · refine g_iloadN C X0 d19_27 rfl ?_
        refine g_iloadN C X0 d19_28 rfl ?_
        refine g_iadd C X0 d19_29 ?_
        have b0 := Int32.le_toInt xi
        have b1 := Int32.toInt_lt xi
        have e0 := own_lt' c3_89
        rw [show (0 : Int32).toInt = 0 from rfl] at e0
        have e2 := own_lt' c24_91
        rw [show (-100 : Int32).toInt = -100 from rfl] at e2
        exact g_retI C X0 d19_30 (by decide) (by decide) ⟨(3 : Int32), rfl, rfl, 2, by decide, by decide, by rw [if_pos (by omega)]; rfl, by show _ < 100; omega⟩
    · refine g_iloadN C X0 d19_27 rfl ?_
      refine g_iloadN C X0 d19_28 rfl ?_
      refine g_iadd C X0 d19_29 ?_
      have b0 := Int32.le_toInt xi
      have b1 := Int32.toInt_lt xi
      have e0 := own_lt' c3_89
      rw [show (0 : Int32).toInt = 0 from rfl] at e0
      have e2 := own_lt' c24_90
      rw [show (-10 : Int32).toInt = -10 from rfl] at e2
      exact g_retI C X0 d19_30 (by decide) (by decide) ⟨(2 : Int32), rfl, rfl, 1, by decide, by decide, by rw [if_pos (by omega)]; rfl, by show _ < 10; omega⟩
  · refine g_iconst 0 C X0 d19_6 rfl ?_
    refine g_istoreN C X0 d19_7 (l' := #[.val (.int xi), .val (.int 0), .unset, .unset]) rfl ?_
    refine g_iloadN C X0 d19_8 rfl ?_
    refine g_ineg C X0 d19_9 ?_
    refine g_istoreN C X0 d19_10 (l' := #[.val (.int (-xi)), .val (.int 0), .unset, .unset]) rfl ?_
    refine g_bipush (-10) C X0 d19_11 rfl ?_
    refine g_istoreN C X0 d19_13 (l' := #[.val (.int (-xi)), .val (.int 0), .val (.int (-10)), .unset]) rfl ?_
    refine g_iconst 1 C X0 d19_14 rfl ?_
    refine g_istoreN C X0 d19_15 (l' := #[.val (.int (-xi)), .val (.int 0), .val (.int (-10)), .val (.int 1)]) rfl ?_
    refine g_iloadN C X0 d19_16 rfl ?_
    refine g_bipush 10 C X0 d19_17 rfl ?_
    refine g_icmpn (hI_ge _ _) C X0 d19_19 (fun q => absurd (by decide) q) (fun _ => ?_)
    refine g_iloadN C X0 d19_22 rfl ?_
    refine g_iloadN C X0 d19_23 rfl ?_
    refine g_icmpn (hI_le _ _) C X0 d19_24 (fun c24_99 => ?_) (fun c24_99 => ?_)
    · refine g_bipush 10 C X0 d19_31 rfl ?_
      refine g_iloadN C X0 d19_33 rfl ?_
      refine g_imul C X0 d19_34 ?_
      refine g_istoreN C X0 d19_35 (l' := #[.val (.int (-xi)), .val (.int 0), .val (.int (-100)), .val (.int 1)]) rfl ?_
      refine g_iinc 1 C X0 d19_36 rfl rfl (l' := #[.val (.int (-xi)), .val (.int 0), .val (.int (-100)), .val (.int 2)]) rfl ?_
      refine g_goto C X0 d19_39 ?_
      refine g_iloadN C X0 d19_16 rfl ?_
      refine g_bipush 10 C X0 d19_17 rfl ?_
      refine g_icmpn (hI_ge _ _) C X0 d19_19 (fun q => absurd (by decide) q) (fun _ => ?_)
      refine g_iloadN C X0 d19_22 rfl ?_
      refine g_iloadN C X0 d19_23 rfl ?_
      refine g_icmpn (hI_le _ _) C X0 d19_24 (fun c24_100 => ?_) (fun c24_100 => ?_)
      · refine g_bipush 10 C X0 d19_31 rfl ?_
        refine g_iloadN C X0 d19_33 rfl ?_
        refine g_imul C X0 d19_34 ?_
        refine g_istoreN C X0 d19_35 (l' := #[.val (.int (-xi)), .val (.int 0), .val (.int (-1000)), .val (.int 2)]) rfl ?_
        refine g_iinc 1 C X0 d19_36 rfl rfl (l' := #[.val (.int (-xi)), .val (.int 0), .val (.int (-1000)), .val (.int 3)]) rfl ?_
        refine g_goto C X0 d19_39 ?_
        refine g_iloadN C X0 d19_16 rfl ?_
        refine g_bipush 10 C X0 d19_17 rfl ?_
        refine g_icmpn (hI_ge _ _) C X0 d19_19 (fun q => absurd (by decide) q) (fun _ => ?_)
        refine g_iloadN C X0 d19_22 rfl ?_
        refine g_iloadN C X0 d19_23 rfl ?_
        refine g_icmpn (hI_le _ _) C X0 d19_24 (fun c24_101 => ?_) (fun c24_101 => ?_)
        · refine g_bipush 10 C X0 d19_31 rfl ?_
          refine g_iloadN C X0 d19_33 rfl ?_
          refine g_imul C X0 d19_34 ?_
          refine g_istoreN C X0 d19_35 (l' := #[.val (.int (-xi)), .val (.int 0), .val (.int (-10000)), .val (.int 3)]) rfl ?_
          refine g_iinc 1 C X0 d19_36 rfl rfl (l' := #[.val (.int (-xi)), .val (.int 0), .val (.int (-10000)), .val (.int 4)]) rfl ?_
          refine g_goto C X0 d19_39 ?_
          refine g_iloadN C X0 d19_16 rfl ?_
          refine g_bipush 10 C X0 d19_17 rfl ?_
          refine g_icmpn (hI_ge _ _) C X0 d19_19 (fun q => absurd (by decide) q) (fun _ => ?_)
          refine g_iloadN C X0 d19_22 rfl ?_
          refine g_iloadN C X0 d19_23 rfl ?_
          refine g_icmpn (hI_le _ _) C X0 d19_24 (fun c24_102 => ?_) (fun c24_102 => ?_)
          · refine g_bipush 10 C X0 d19_31 rfl ?_
            refine g_iloadN C X0 d19_33 rfl ?_
            refine g_imul C X0 d19_34 ?_
            refine g_istoreN C X0 d19_35 (l' := #[.val (.int (-xi)), .val (.int 0), .val (.int (-100000)), .val (.int 4)]) rfl ?_
            refine g_iinc 1 C X0 d19_36 rfl rfl (l' := #[.val (.int (-xi)), .val (.int 0), .val (.int (-100000)), .val (.int 5)]) rfl ?_
            refine g_goto C X0 d19_39 ?_
            refine g_iloadN C X0 d19_16 rfl ?_
            refine g_bipush 10 C X0 d19_17 rfl ?_
            refine g_icmpn (hI_ge _ _) C X0 d19_19 (fun q => absurd (by decide) q) (fun _ => ?_)
            refine g_iloadN C X0 d19_22 rfl ?_
            refine g_iloadN C X0 d19_23 rfl ?_
            refine g_icmpn (hI_le _ _) C X0 d19_24 (fun c24_103 => ?_) (fun c24_103 => ?_)
            · refine g_bipush 10 C X0 d19_31 rfl ?_
              refine g_iloadN C X0 d19_33 rfl ?_
              refine g_imul C X0 d19_34 ?_
              refine g_istoreN C X0 d19_35 (l' := #[.val (.int (-xi)), .val (.int 0), .val (.int (-1000000)), .val (.int 5)]) rfl ?_
              refine g_iinc 1 C X0 d19_36 rfl rfl (l' := #[.val (.int (-xi)), .val (.int 0), .val (.int (-1000000)), .val (.int 6)]) rfl ?_
              refine g_goto C X0 d19_39 ?_
              refine g_iloadN C X0 d19_16 rfl ?_
              refine g_bipush 10 C X0 d19_17 rfl ?_
              refine g_icmpn (hI_ge _ _) C X0 d19_19 (fun q => absurd (by decide) q) (fun _ => ?_)
              refine g_iloadN C X0 d19_22 rfl ?_
              refine g_iloadN C X0 d19_23 rfl ?_
              refine g_icmpn (hI_le _ _) C X0 d19_24 (fun c24_104 => ?_) (fun c24_104 => ?_)
              · refine g_bipush 10 C X0 d19_31 rfl ?_
                refine g_iloadN C X0 d19_33 rfl ?_
                refine g_imul C X0 d19_34 ?_
                refine g_istoreN C X0 d19_35 (l' := #[.val (.int (-xi)), .val (.int 0), .val (.int (-10000000)), .val (.int 6)]) rfl ?_
                refine g_iinc 1 C X0 d19_36 rfl rfl (l' := #[.val (.int (-xi)), .val (.int 0), .val (.int (-10000000)), .val (.int 7)]) rfl ?_
                refine g_goto C X0 d19_39 ?_
                refine g_iloadN C X0 d19_16 rfl ?_
                refine g_bipush 10 C X0 d19_17 rfl ?_
                refine g_icmpn (hI_ge _ _) C X0 d19_19 (fun q => absurd (by decide) q) (fun _ => ?_)
                refine g_iloadN C X0 d19_22 rfl ?_
                refine g_iloadN C X0 d19_23 rfl ?_
                refine g_icmpn (hI_le _ _) C X0 d19_24 (fun c24_105 => ?_) (fun c24_105 => ?_)
                · refine g_bipush 10 C X0 d19_31 rfl ?_
                  refine g_iloadN C X0 d19_33 rfl ?_
                  refine g_imul C X0 d19_34 ?_
                  refine g_istoreN C X0 d19_35 (l' := #[.val (.int (-xi)), .val (.int 0), .val (.int (-100000000)), .val (.int 7)]) rfl ?_
                  refine g_iinc 1 C X0 d19_36 rfl rfl (l' := #[.val (.int (-xi)), .val (.int 0), .val (.int (-100000000)), .val (.int 8)]) rfl ?_
                  refine g_goto C X0 d19_39 ?_
                  refine g_iloadN C X0 d19_16 rfl ?_
                  refine g_bipush 10 C X0 d19_17 rfl ?_
                  refine g_icmpn (hI_ge _ _) C X0 d19_19 (fun q => absurd (by decide) q) (fun _ => ?_)
                  refine g_iloadN C X0 d19_22 rfl ?_
                  refine g_iloadN C X0 d19_23 rfl ?_
                  refine g_icmpn (hI_le _ _) C X0 d19_24 (fun c24_106 => ?_) (fun c24_106 => ?_)
                  · refine g_bipush 10 C X0 d19_31 rfl ?_
                    refine g_iloadN C X0 d19_33 rfl ?_
                    refine g_imul C X0 d19_34 ?_
                    refine g_istoreN C X0 d19_35 (l' := #[.val (.int (-xi)), .val (.int 0), .val (.int (-1000000000)), .val (.int 8)]) rfl ?_
                    refine g_iinc 1 C X0 d19_36 rfl rfl (l' := #[.val (.int (-xi)), .val (.int 0), .val (.int (-1000000000)), .val (.int 9)]) rfl ?_
                    refine g_goto C X0 d19_39 ?_
                    refine g_iloadN C X0 d19_16 rfl ?_
                    refine g_bipush 10 C X0 d19_17 rfl ?_
                    refine g_icmpn (hI_ge _ _) C X0 d19_19 (fun q => absurd (by decide) q) (fun _ => ?_)
                    refine g_iloadN C X0 d19_22 rfl ?_
                    refine g_iloadN C X0 d19_23 rfl ?_
                    refine g_icmpn (hI_le _ _) C X0 d19_24 (fun c24_107 => ?_) (fun c24_107 => ?_)
                    · refine g_bipush 10 C X0 d19_31 rfl ?_
                      refine g_iloadN C X0 d19_33 rfl ?_
                      refine g_imul C X0 d19_34 ?_
                      refine g_istoreN C X0 d19_35 (l' := #[.val (.int (-xi)), .val (.int 0), .val (.int (-1410065408)), .val (.int 9)]) rfl ?_
                      refine g_iinc 1 C X0 d19_36 rfl rfl (l' := #[.val (.int (-xi)), .val (.int 0), .val (.int (-1410065408)), .val (.int 10)]) rfl ?_
                      refine g_goto C X0 d19_39 ?_
                      refine g_iloadN C X0 d19_16 rfl ?_
                      refine g_bipush 10 C X0 d19_17 rfl ?_
                      refine g_icmpn (hI_ge _ _) C X0 d19_19 (fun _ => ?_) (fun q => absurd q (by decide))
                      refine g_bipush 10 C X0 d19_42 rfl ?_
                      refine g_iloadN C X0 d19_44 rfl ?_
                      refine g_iadd C X0 d19_45 ?_
                      have b0 := Int32.le_toInt xi
                      have b1 := Int32.toInt_lt xi
                      have e0 := own_nlt' c3_89
                      rw [show (0 : Int32).toInt = 0 from rfl] at e0
                      have e1 := own_neg xi (by omega)
                      exact g_retI C X0 d19_46 (by decide) (by decide) ⟨(10 : Int32), rfl, rfl, 10, by decide, by decide, by rw [if_neg (by omega)]; rfl, by show _ < 10000000000; omega⟩
                    · refine g_iloadN C X0 d19_27 rfl ?_
                      refine g_iloadN C X0 d19_28 rfl ?_
                      refine g_iadd C X0 d19_29 ?_
                      have b0 := Int32.le_toInt xi
                      have b1 := Int32.toInt_lt xi
                      have e0 := own_nlt' c3_89
                      rw [show (0 : Int32).toInt = 0 from rfl] at e0
                      have e1 := own_neg xi (by omega)
                      have e2 := own_lt' c24_107
                      rw [show (-1000000000 : Int32).toInt = -1000000000 from rfl] at e2
                      exact g_retI C X0 d19_30 (by decide) (by decide) ⟨(9 : Int32), rfl, rfl, 9, by decide, by decide, by rw [if_neg (by omega)]; rfl, by show _ < 1000000000; omega⟩
                  · refine g_iloadN C X0 d19_27 rfl ?_
                    refine g_iloadN C X0 d19_28 rfl ?_
                    refine g_iadd C X0 d19_29 ?_
                    have b0 := Int32.le_toInt xi
                    have b1 := Int32.toInt_lt xi
                    have e0 := own_nlt' c3_89
                    rw [show (0 : Int32).toInt = 0 from rfl] at e0
                    have e1 := own_neg xi (by omega)
                    have e2 := own_lt' c24_106
                    rw [show (-100000000 : Int32).toInt = -100000000 from rfl] at e2
                    exact g_retI C X0 d19_30 (by decide) (by decide) ⟨(8 : Int32), rfl, rfl, 8, by decide, by decide, by rw [if_neg (by omega)]; rfl, by show _ < 100000000; omega⟩
                · refine g_iloadN C X0 d19_27 rfl ?_
                  refine g_iloadN C X0 d19_28 rfl ?_
                  refine g_iadd C X0 d19_29 ?_
                  have b0 := Int32.le_toInt xi
                  have b1 := Int32.toInt_lt xi
                  have e0 := own_nlt' c3_89
                  rw [show (0 : Int32).toInt = 0 from rfl] at e0
                  have e1 := own_neg xi (by omega)
                  have e2 := own_lt' c24_105
                  rw [show (-10000000 : Int32).toInt = -10000000 from rfl] at e2
                  exact g_retI C X0 d19_30 (by decide) (by decide) ⟨(7 : Int32), rfl, rfl, 7, by decide, by decide, by rw [if_neg (by omega)]; rfl, by show _ < 10000000; omega⟩
              · refine g_iloadN C X0 d19_27 rfl ?_
                refine g_iloadN C X0 d19_28 rfl ?_
                refine g_iadd C X0 d19_29 ?_
                have b0 := Int32.le_toInt xi
                have b1 := Int32.toInt_lt xi
                have e0 := own_nlt' c3_89
                rw [show (0 : Int32).toInt = 0 from rfl] at e0
                have e1 := own_neg xi (by omega)
                have e2 := own_lt' c24_104
                rw [show (-1000000 : Int32).toInt = -1000000 from rfl] at e2
                exact g_retI C X0 d19_30 (by decide) (by decide) ⟨(6 : Int32), rfl, rfl, 6, by decide, by decide, by rw [if_neg (by omega)]; rfl, by show _ < 1000000; omega⟩
            · refine g_iloadN C X0 d19_27 rfl ?_
              refine g_iloadN C X0 d19_28 rfl ?_
              refine g_iadd C X0 d19_29 ?_
              have b0 := Int32.le_toInt xi
              have b1 := Int32.toInt_lt xi
              have e0 := own_nlt' c3_89
              rw [show (0 : Int32).toInt = 0 from rfl] at e0
              have e1 := own_neg xi (by omega)
              have e2 := own_lt' c24_103
              rw [show (-100000 : Int32).toInt = -100000 from rfl] at e2
              exact g_retI C X0 d19_30 (by decide) (by decide) ⟨(5 : Int32), rfl, rfl, 5, by decide, by decide, by rw [if_neg (by omega)]; rfl, by show _ < 100000; omega⟩
          · refine g_iloadN C X0 d19_27 rfl ?_
            refine g_iloadN C X0 d19_28 rfl ?_
            refine g_iadd C X0 d19_29 ?_
            have b0 := Int32.le_toInt xi
            have b1 := Int32.toInt_lt xi
            have e0 := own_nlt' c3_89
            rw [show (0 : Int32).toInt = 0 from rfl] at e0
            have e1 := own_neg xi (by omega)
            have e2 := own_lt' c24_102
            rw [show (-10000 : Int32).toInt = -10000 from rfl] at e2
            exact g_retI C X0 d19_30 (by decide) (by decide) ⟨(4 : Int32), rfl, rfl, 4, by decide, by decide, by rw [if_neg (by omega)]; rfl, by show _ < 10000; omega⟩
        · refine g_iloadN C X0 d19_27 rfl ?_
          refine g_iloadN C X0 d19_28 rfl ?_
          refine g_iadd C X0 d19_29 ?_
          have b0 := Int32.le_toInt xi
          have b1 := Int32.toInt_lt xi
          have e0 := own_nlt' c3_89
          rw [show (0 : Int32).toInt = 0 from rfl] at e0
          have e1 := own_neg xi (by omega)
          have e2 := own_lt' c24_101
          rw [show (-1000 : Int32).toInt = -1000 from rfl] at e2
          exact g_retI C X0 d19_30 (by decide) (by decide) ⟨(3 : Int32), rfl, rfl, 3, by decide, by decide, by rw [if_neg (by omega)]; rfl, by show _ < 1000; omega⟩
      · refine g_iloadN C X0 d19_27 rfl ?_
        refine g_iloadN C X0 d19_28 rfl ?_
        refine g_iadd C X0 d19_29 ?_
        have b0 := Int32.le_toInt xi
        have b1 := Int32.toInt_lt xi
        have e0 := own_nlt' c3_89
        rw [show (0 : Int32).toInt = 0 from rfl] at e0
        have e1 := own_neg xi (by omega)
        have e2 := own_lt' c24_100
        rw [show (-100 : Int32).toInt = -100 from rfl] at e2
        exact g_retI C X0 d19_30 (by decide) (by decide) ⟨(2 : Int32), rfl, rfl, 2, by decide, by decide, by rw [if_neg (by omega)]; rfl, by show _ < 100; omega⟩
    · refine g_iloadN C X0 d19_27 rfl ?_
      refine g_iloadN C X0 d19_28 rfl ?_
      refine g_iadd C X0 d19_29 ?_
      have b0 := Int32.le_toInt xi
      have b1 := Int32.toInt_lt xi
      have e0 := own_nlt' c3_89
      rw [show (0 : Int32).toInt = 0 from rfl] at e0
      have e1 := own_neg xi (by omega)
      have e2 := own_lt' c24_99
      rw [show (-10 : Int32).toInt = -10 from rfl] at e2
      exact g_retI C X0 d19_30 (by decide) (by decide) ⟨(1 : Int32), rfl, rfl, 1, by decide, by decide, by rw [if_neg (by omega)]; rfl, by show _ < 10; omega⟩
theorem d21_72 : Dc jdk_33_method_12_code 72 (.aload_n 2) 1 73 := ⟨by decide +kernel, rfl⟩
theorem d21_73 : Dc jdk_33_method_12_code 73 (.iinc 5 (-1)) 3 76 := ⟨by decide +kernel, rfl⟩
theorem d21_76 : Dc jdk_33_method_12_code 76 (.iload 5) 2 78 := ⟨by decide +kernel, rfl⟩
theorem d21_78 : Dc jdk_33_method_12_code 78 (.getstatic 83) 3 81 := ⟨by decide +kernel, rfl⟩
theorem d21_81 : Dc jdk_33_method_12_code 81 (.iload_n 0) 1 82 := ⟨by decide +kernel, rfl⟩
theorem d21_82 : Dc jdk_33_method_12_code 82 (.ineg) 1 83 := ⟨by decide +kernel, rfl⟩
theorem d21_83 : Dc jdk_33_method_12_code 83 (.baload) 1 84 := ⟨by decide +kernel, rfl⟩
theorem d21_84 : Dc jdk_33_method_12_code 84 (.bastore) 1 85 := ⟨by decide +kernel, rfl⟩
theorem d21_85 : Dc jdk_33_method_12_code 85 (.iload_n 0) 1 86 := ⟨by decide +kernel, rfl⟩
theorem d21_86 : Dc jdk_33_method_12_code 86 (.bipush (-9)) 2 88 := ⟨by decide +kernel, rfl⟩
theorem d21_88 : Dj jdk_33_method_12_code 88 (.if_icmp .ge 16) 16 3 91 104 := ⟨by decide +kernel, rfl, by decide, by decide⟩
theorem d21_104 : Dc jdk_33_method_12_code 104 (.iload 6) 2 106 := ⟨by decide +kernel, rfl⟩
theorem d21_106 : Dj jdk_33_method_12_code 106 (.ifCond .eq 12) 12 3 109 118 := ⟨by decide +kernel, rfl, by decide, by decide⟩
theorem d21_118 : Dc jdk_33_method_12_code 118 (.iload 5) 2 120 := ⟨by decide +kernel, rfl⟩
theorem d21_120 : Dc jdk_33_method_12_code 120 (.ireturn) 1 121 := ⟨by decide +kernel, rfl⟩
theorem d21_109 : Dc jdk_33_method_12_code 109 (.aload_n 2) 1 110 := ⟨by decide +kernel, rfl⟩
theorem d21_110 : Dc jdk_33_method_12_code 110 (.iinc 5 (-1)) 3 113 := ⟨by decide +kernel, rfl⟩
theorem d21_113 : Dc jdk_33_method_12_code 113 (.iload 5) 2 115 := ⟨by decide +kernel, rfl⟩
theorem d21_115 : Dc jdk_33_method_12_code 115 (.bipush 45) 2 117 := ⟨by decide +kernel, rfl⟩
theorem d21_117 : Dc jdk_33_method_12_code 117 (.bastore) 1 118 := ⟨by decide +kernel, rfl⟩
theorem d21_91 : Dc jdk_33_method_12_code 91 (.aload_n 2) 1 92 := ⟨by decide +kernel, rfl⟩
theorem d21_92 : Dc jdk_33_method_12_code 92 (.iinc 5 (-1)) 3 95 := ⟨by decide +kernel, rfl⟩
theorem d21_95 : Dc jdk_33_method_12_code 95 (.iload 5) 2 97 := ⟨by decide +kernel, rfl⟩
theorem d21_97 : Dc jdk_33_method_12_code 97 (.getstatic 87) 3 100 := ⟨by decide +kernel, rfl⟩
theorem d21_100 : Dc jdk_33_method_12_code 100 (.iload_n 0) 1 101 := ⟨by decide +kernel, rfl⟩
theorem d21_101 : Dc jdk_33_method_12_code 101 (.ineg) 1 102 := ⟨by decide +kernel, rfl⟩
theorem d21_102 : Dc jdk_33_method_12_code 102 (.baload) 1 103 := ⟨by decide +kernel, rfl⟩
theorem d21_103 : Dc jdk_33_method_12_code 103 (.bastore) 1 104 := ⟨by decide +kernel, rfl⟩
theorem gcTU {p : Program} {l : Launch} {e : Env} {s : State} {m : MethodId} {A : Array Value} {below : List Frame} {meth : Method} {c : Code} {Z : State} {a0 : Array Value} (hw : ∀ d ∈ tables_1, d.before a0 Z = true) {T0 : State} {h : Heap} {xi ix cp : Int32} {ar : Addr} {h0 : Heap} {xw pw ng : Int32}  {j : Nat} (C : Cx p s m meth c Z "java/lang/Integer" "getChars" jdk_33_method_12_code 7 (some .int)) (X0 : St p l e ({ frames := 0, cells := 0, slots := 0, locals := 0 } : Room) s m A below meth c Z T0 h 0 0) (VA : By Z h ar cp) (na : Z.heap.size ≤ ar) (o1 o2 : Addr) (S1 : Sta Z Z.heap "java/lang/Integer" "DigitOnes" "[B" (.ref o1)) (S2 : Sta Z Z.heap "java/lang/Integer" "DigitTens" "[B" (.ref o2)) (D1 : ByS Z Z.heap o1 100) (D2 : ByS Z Z.heap o2 100) (t0 : -100 < xw.toInt) (J1 : 1 ≤ j) (J2 : xw.toInt.natAbs < 10 ^ j) (J3 : xw.toInt ≤ 0) (J4 : (j : Int) + (if ng = 0 then 0 else 1) ≤ pw.toInt) (J5 : pw.toInt ≤ cp.toInt) (c3 : cp.toInt ≤ 200) (KP : Keep h0 h [ar]) :
    Goes p e below (EndW Z s 0 0 (fun v' h' => ∃ r : Int32, v' = some (.int r) ∧ Keep h0 h' [ar] ∧ By Z h' ar cp)) T0 (mkF m 72 #[.val (.int xw), .val (.int ix), .val (.ref ar), .unset, .unset, .val (.int pw), .val (.int ng)] []) := by
  obtain ⟨j4, f2, f3, f4⟩ := own_tail J1 J2 J4
  clear J2 J4
  have e1 := own_neg xw (by omega)
  have p1 := own_dec pw (by omega)
  refine g_aloadN C X0 d21_72 rfl rfl ?_
  refine g_iinc (-1) C X0 d21_73 rfl rfl (l' := #[.val (.int xw), .val (.int ix), .val (.ref ar), .unset, .unset, .val (.int (pw + (-1 : Int32))), .val (.int ng)]) rfl ?_
  refine g_iload C X0 d21_76 rfl ?_
  refine g_getstatic (host := "") C X0 (Or.inl (wd hw 134 rfl)) Via.refl S1 d21_78 (fun T108 X108 => ?_)
  refine g_iloadN C X108 d21_81 rfl ?_
  refine g_ineg C X108 d21_82 ?_
  refine g_baloadS C X108 (ByS.ext D1 X108.ext) d21_83 (own_nn (by omega)) (own_lt (by rw [show (100 : Int32).toInt = 100 from rfl]; omega)) (fun v109 => ?_)
  refine g_bastoreB C X108 VA na d21_84 (own_nn (by omega)) (own_lt (by omega)) (fun T110 h110 X110 W110 V110 => ?_)
  refine g_iloadN C X110 d21_85 rfl ?_
  refine g_bipush (-9) C X110 d21_86 rfl ?_
  refine g_icmpn (hI_ge _ _) C X110 d21_88 (fun c88_111 => ?_) (fun c88_111 => ?_)
  · refine g_iload C X110 d21_104 rfl ?_
    refine g_if (h0_eq _) C X110 d21_106 (fun c106_112 => ?_) (fun c106_112 => ?_)
    · refine g_iload C X110 d21_118 rfl ?_
      have kp113 := (Keep.refl h [ar]).wr W110 (Or.inl (by simp))
      exact g_retI C X110 d21_120 (by decide) (by decide) ⟨(pw + (-1 : Int32)), rfl, (KP.trans kp113 (allS (Or.inl (by simp)) all0)), V110⟩
    · have j6 := f3 c106_112
      have p3 := own_dec2 pw (by omega)
      refine g_aloadN C X110 d21_109 rfl rfl ?_
      refine g_iinc (-1) C X110 d21_110 rfl rfl (l' := #[.val (.int xw), .val (.int ix), .val (.ref ar), .unset, .unset, .val (.int ((pw + (-1 : Int32)) + (-1 : Int32))), .val (.int ng)]) rfl ?_
      refine g_iload C X110 d21_113 rfl ?_
      refine g_bipush 45 C X110 d21_115 rfl ?_
      refine g_bastoreB C X110 V110 na d21_117 (own_nn (by omega)) (own_lt (by omega)) (fun T114 h114 X114 W114 V114 => ?_)
      refine g_iload C X114 d21_118 rfl ?_
      have kp115 := (Keep.refl h [ar]).wr W110 (Or.inl (by simp))
      have kp116 := kp115.wr W114 (Or.inl (by simp))
      exact g_retI C X114 d21_120 (by decide) (by decide) ⟨((pw + (-1 : Int32)) + (-1 : Int32)), rfl, (KP.trans kp116 (allS (Or.inl (by simp)) all0)), V114⟩
  · have e2 := own_lt' c88_111
    rw [show (-9 : Int32).toInt = -9 from rfl] at e2
    have j5 := f2 e2
    have p2 := own_dec2 pw (by omega)
    refine g_aloadN C X110 d21_91 rfl rfl ?_
    refine g_iinc (-1) C X110 d21_92 rfl rfl (l' := #[.val (.int xw), .val (.int ix), .val (.ref ar), .unset, .unset, .val (.int ((pw + (-1 : Int32)) + (-1 : Int32))), .val (.int ng)]) rfl ?_
    refine g_iload C X110 d21_95 rfl ?_
    refine g_getstatic (host := "") C X110 (Or.inl (wd hw 135 rfl)) Via.refl S2 d21_97 (fun T117 X117 => ?_)
    refine g_iloadN C X117 d21_100 rfl ?_
    refine g_ineg C X117 d21_101 ?_
    refine g_baloadS C X117 (ByS.ext D2 X117.ext) d21_102 (own_nn (by omega)) (own_lt (by rw [show (100 : Int32).toInt = 100 from rfl]; omega)) (fun v118 => ?_)
    refine g_bastoreB C X117 V110 na d21_103 (own_nn (by omega)) (own_lt (by omega)) (fun T119 h119 X119 W119 V119 => ?_)
    refine g_iload C X119 d21_104 rfl ?_
    refine g_if (h0_eq _) C X119 d21_106 (fun c106_120 => ?_) (fun c106_120 => ?_)
    · refine g_iload C X119 d21_118 rfl ?_
      have kp121 := (Keep.refl h [ar]).wr W110 (Or.inl (by simp))
      have kp122 := kp121.wr W119 (Or.inl (by simp))
      exact g_retI C X119 d21_120 (by decide) (by decide) ⟨((pw + (-1 : Int32)) + (-1 : Int32)), rfl, (KP.trans kp122 (allS (Or.inl (by simp)) all0)), V119⟩
    · have j6 := f4 c106_120 e2
      have p3 := own_dec3 pw (by omega)
      refine g_aloadN C X119 d21_109 rfl rfl ?_
      refine g_iinc (-1) C X119 d21_110 rfl rfl (l' := #[.val (.int xw), .val (.int ix), .val (.ref ar), .unset, .unset, .val (.int (((pw + (-1 : Int32)) + (-1 : Int32)) + (-1 : Int32))), .val (.int ng)]) rfl ?_
      refine g_iload C X119 d21_113 rfl ?_
      refine g_bipush 45 C X119 d21_115 rfl ?_
      refine g_bastoreB C X119 V119 na d21_117 (own_nn (by omega)) (own_lt (by omega)) (fun T123 h123 X123 W123 V123 => ?_)
      refine g_iload C X123 d21_118 rfl ?_
      have kp124 := (Keep.refl h [ar]).wr W110 (Or.inl (by simp))
      have kp125 := kp124.wr W119 (Or.inl (by simp))
      have kp126 := kp125.wr W123 (Or.inl (by simp))
      exact g_retI C X123 d21_120 (by decide) (by decide) ⟨(((pw + (-1 : Int32)) + (-1 : Int32)) + (-1 : Int32)), rfl, (KP.trans kp126 (allS (Or.inl (by simp)) all0)), V123⟩
theorem gcTV {p : Program} {l : Launch} {e : Env} {s : State} {m : MethodId} {A : Array Value} {below : List Frame} {meth : Method} {c : Code} {Z : State} {a0 : Array Value} (hw : ∀ d ∈ tables_1, d.before a0 Z = true) {T0 : State} {h : Heap} {xi ix cp : Int32} {ar : Addr} {h0 : Heap} {xw pw ng : Int32} {q3 q4 : Int32} {j : Nat} (C : Cx p s m meth c Z "java/lang/Integer" "getChars" jdk_33_method_12_code 7 (some .int)) (X0 : St p l e ({ frames := 0, cells := 0, slots := 0, locals := 0 } : Room) s m A below meth c Z T0 h 0 0) (VA : By Z h ar cp) (na : Z.heap.size ≤ ar) (o1 o2 : Addr) (S1 : Sta Z Z.heap "java/lang/Integer" "DigitOnes" "[B" (.ref o1)) (S2 : Sta Z Z.heap "java/lang/Integer" "DigitTens" "[B" (.ref o2)) (D1 : ByS Z Z.heap o1 100) (D2 : ByS Z Z.heap o2 100) (t0 : -100 < xw.toInt) (J1 : 1 ≤ j) (J2 : xw.toInt.natAbs < 10 ^ j) (J3 : xw.toInt ≤ 0) (J4 : (j : Int) + (if ng = 0 then 0 else 1) ≤ pw.toInt) (J5 : pw.toInt ≤ cp.toInt) (c3 : cp.toInt ≤ 200) (KP : Keep h0 h [ar]) :
    Goes p e below (EndW Z s 0 0 (fun v' h' => ∃ r : Int32, v' = some (.int r) ∧ Keep h0 h' [ar] ∧ By Z h' ar cp)) T0 (mkF m 72 #[.val (.int xw), .val (.int ix), .val (.ref ar), .val (.int q3), .val (.int q4), .val (.int pw), .val (.int ng)] []) := by
  obtain ⟨j4, f2, f3, f4⟩ := own_tail J1 J2 J4
  clear J2 J4
  have e1 := own_neg xw (by omega)
  have p1 := own_dec pw (by omega)
  refine g_aloadN C X0 d21_72 rfl rfl ?_
  refine g_iinc (-1) C X0 d21_73 rfl rfl (l' := #[.val (.int xw), .val (.int ix), .val (.ref ar), .val (.int q3), .val (.int q4), .val (.int (pw + (-1 : Int32))), .val (.int ng)]) rfl ?_
  refine g_iload C X0 d21_76 rfl ?_
  refine g_getstatic (host := "") C X0 (Or.inl (wd hw 134 rfl)) Via.refl S1 d21_78 (fun T127 X127 => ?_)
  refine g_iloadN C X127 d21_81 rfl ?_
  refine g_ineg C X127 d21_82 ?_
  refine g_baloadS C X127 (ByS.ext D1 X127.ext) d21_83 (own_nn (by omega)) (own_lt (by rw [show (100 : Int32).toInt = 100 from rfl]; omega)) (fun v128 => ?_)
  refine g_bastoreB C X127 VA na d21_84 (own_nn (by omega)) (own_lt (by omega)) (fun T129 h129 X129 W129 V129 => ?_)
  refine g_iloadN C X129 d21_85 rfl ?_
  refine g_bipush (-9) C X129 d21_86 rfl ?_
  refine g_icmpn (hI_ge _ _) C X129 d21_88 (fun c88_130 => ?_) (fun c88_130 => ?_)
  · refine g_iload C X129 d21_104 rfl ?_
    refine g_if (h0_eq _) C X129 d21_106 (fun c106_131 => ?_) (fun c106_131 => ?_)
    · refine g_iload C X129 d21_118 rfl ?_
      have kp132 := (Keep.refl h [ar]).wr W129 (Or.inl (by simp))
      exact g_retI C X129 d21_120 (by decide) (by decide) ⟨(pw + (-1 : Int32)), rfl, (KP.trans kp132 (allS (Or.inl (by simp)) all0)), V129⟩
    · have j6 := f3 c106_131
      have p3 := own_dec2 pw (by omega)
      refine g_aloadN C X129 d21_109 rfl rfl ?_
      refine g_iinc (-1) C X129 d21_110 rfl rfl (l' := #[.val (.int xw), .val (.int ix), .val (.ref ar), .val (.int q3), .val (.int q4), .val (.int ((pw + (-1 : Int32)) + (-1 : Int32))), .val (.int ng)]) rfl ?_
      refine g_iload C X129 d21_113 rfl ?_
      refine g_bipush 45 C X129 d21_115 rfl ?_
      refine g_bastoreB C X129 V129 na d21_117 (own_nn (by omega)) (own_lt (by omega)) (fun T133 h133 X133 W133 V133 => ?_)
      refine g_iload C X133 d21_118 rfl ?_
      have kp134 := (Keep.refl h [ar]).wr W129 (Or.inl (by simp))
      have kp135 := kp134.wr W133 (Or.inl (by simp))
      exact g_retI C X133 d21_120 (by decide) (by decide) ⟨((pw + (-1 : Int32)) + (-1 : Int32)), rfl, (KP.trans kp135 (allS (Or.inl (by simp)) all0)), V133⟩
  · have e2 := own_lt' c88_130
    rw [show (-9 : Int32).toInt = -9 from rfl] at e2
    have j5 := f2 e2
    have p2 := own_dec2 pw (by omega)
    refine g_aloadN C X129 d21_91 rfl rfl ?_
    refine g_iinc (-1) C X129 d21_92 rfl rfl (l' := #[.val (.int xw), .val (.int ix), .val (.ref ar), .val (.int q3), .val (.int q4), .val (.int ((pw + (-1 : Int32)) + (-1 : Int32))), .val (.int ng)]) rfl ?_
    refine g_iload C X129 d21_95 rfl ?_
    refine g_getstatic (host := "") C X129 (Or.inl (wd hw 135 rfl)) Via.refl S2 d21_97 (fun T136 X136 => ?_)
    refine g_iloadN C X136 d21_100 rfl ?_
    refine g_ineg C X136 d21_101 ?_
    refine g_baloadS C X136 (ByS.ext D2 X136.ext) d21_102 (own_nn (by omega)) (own_lt (by rw [show (100 : Int32).toInt = 100 from rfl]; omega)) (fun v137 => ?_)
    refine g_bastoreB C X136 V129 na d21_103 (own_nn (by omega)) (own_lt (by omega)) (fun T138 h138 X138 W138 V138 => ?_)
    refine g_iload C X138 d21_104 rfl ?_
    refine g_if (h0_eq _) C X138 d21_106 (fun c106_139 => ?_) (fun c106_139 => ?_)
    · refine g_iload C X138 d21_118 rfl ?_
      have kp140 := (Keep.refl h [ar]).wr W129 (Or.inl (by simp))
      have kp141 := kp140.wr W138 (Or.inl (by simp))
      exact g_retI C X138 d21_120 (by decide) (by decide) ⟨((pw + (-1 : Int32)) + (-1 : Int32)), rfl, (KP.trans kp141 (allS (Or.inl (by simp)) all0)), V138⟩
    · have j6 := f4 c106_139 e2
      have p3 := own_dec3 pw (by omega)
      refine g_aloadN C X138 d21_109 rfl rfl ?_
      refine g_iinc (-1) C X138 d21_110 rfl rfl (l' := #[.val (.int xw), .val (.int ix), .val (.ref ar), .val (.int q3), .val (.int q4), .val (.int (((pw + (-1 : Int32)) + (-1 : Int32)) + (-1 : Int32))), .val (.int ng)]) rfl ?_
      refine g_iload C X138 d21_113 rfl ?_
      refine g_bipush 45 C X138 d21_115 rfl ?_
      refine g_bastoreB C X138 V138 na d21_117 (own_nn (by omega)) (own_lt (by omega)) (fun T142 h142 X142 W142 V142 => ?_)
      refine g_iload C X142 d21_118 rfl ?_
      have kp143 := (Keep.refl h [ar]).wr W129 (Or.inl (by simp))
      have kp144 := kp143.wr W138 (Or.inl (by simp))
      have kp145 := kp144.wr W142 (Or.inl (by simp))
      exact g_retI C X142 d21_120 (by decide) (by decide) ⟨(((pw + (-1 : Int32)) + (-1 : Int32)) + (-1 : Int32)), rfl, (KP.trans kp145 (allS (Or.inl (by simp)) all0)), V142⟩
theorem d21_22 : Dc jdk_33_method_12_code 22 (.iload_n 0) 1 23 := ⟨by decide +kernel, rfl⟩
theorem d21_23 : Dc jdk_33_method_12_code 23 (.bipush (-100)) 2 25 := ⟨by decide +kernel, rfl⟩
theorem d21_25 : Dj jdk_33_method_12_code 25 (.if_icmp .gt 47) 47 3 28 72 := ⟨by decide +kernel, rfl, by decide, by decide⟩
theorem d21_28 : Dc jdk_33_method_12_code 28 (.iload_n 0) 1 29 := ⟨by decide +kernel, rfl⟩
theorem d21_29 : Dc jdk_33_method_12_code 29 (.bipush 100) 2 31 := ⟨by decide +kernel, rfl⟩
theorem d21_31 : Dc jdk_33_method_12_code 31 (.idiv) 1 32 := ⟨by decide +kernel, rfl⟩
theorem d21_32 : Dc jdk_33_method_12_code 32 (.istore_n 3) 1 33 := ⟨by decide +kernel, rfl⟩
theorem d21_33 : Dc jdk_33_method_12_code 33 (.iload_n 3) 1 34 := ⟨by decide +kernel, rfl⟩
theorem d21_34 : Dc jdk_33_method_12_code 34 (.bipush 100) 2 36 := ⟨by decide +kernel, rfl⟩
theorem d21_36 : Dc jdk_33_method_12_code 36 (.imul) 1 37 := ⟨by decide +kernel, rfl⟩
theorem d21_37 : Dc jdk_33_method_12_code 37 (.iload_n 0) 1 38 := ⟨by decide +kernel, rfl⟩
theorem d21_38 : Dc jdk_33_method_12_code 38 (.isub) 1 39 := ⟨by decide +kernel, rfl⟩
theorem d21_39 : Dc jdk_33_method_12_code 39 (.istore 4) 2 41 := ⟨by decide +kernel, rfl⟩
theorem d21_41 : Dc jdk_33_method_12_code 41 (.iload_n 3) 1 42 := ⟨by decide +kernel, rfl⟩
theorem d21_42 : Dc jdk_33_method_12_code 42 (.istore_n 0) 1 43 := ⟨by decide +kernel, rfl⟩
theorem d21_43 : Dc jdk_33_method_12_code 43 (.aload_n 2) 1 44 := ⟨by decide +kernel, rfl⟩
theorem d21_44 : Dc jdk_33_method_12_code 44 (.iinc 5 (-1)) 3 47 := ⟨by decide +kernel, rfl⟩
theorem d21_47 : Dc jdk_33_method_12_code 47 (.iload 5) 2 49 := ⟨by decide +kernel, rfl⟩
theorem d21_49 : Dc jdk_33_method_12_code 49 (.getstatic 83) 3 52 := ⟨by decide +kernel, rfl⟩
theorem d21_52 : Dc jdk_33_method_12_code 52 (.iload 4) 2 54 := ⟨by decide +kernel, rfl⟩
theorem d21_54 : Dc jdk_33_method_12_code 54 (.baload) 1 55 := ⟨by decide +kernel, rfl⟩
theorem d21_55 : Dc jdk_33_method_12_code 55 (.bastore) 1 56 := ⟨by decide +kernel, rfl⟩
theorem d21_56 : Dc jdk_33_method_12_code 56 (.aload_n 2) 1 57 := ⟨by decide +kernel, rfl⟩
theorem d21_57 : Dc jdk_33_method_12_code 57 (.iinc 5 (-1)) 3 60 := ⟨by decide +kernel, rfl⟩
theorem d21_60 : Dc jdk_33_method_12_code 60 (.iload 5) 2 62 := ⟨by decide +kernel, rfl⟩
theorem d21_62 : Dc jdk_33_method_12_code 62 (.getstatic 87) 3 65 := ⟨by decide +kernel, rfl⟩
theorem d21_65 : Dc jdk_33_method_12_code 65 (.iload 4) 2 67 := ⟨by decide +kernel, rfl⟩
theorem d21_67 : Dc jdk_33_method_12_code 67 (.baload) 1 68 := ⟨by decide +kernel, rfl⟩
theorem d21_68 : Dc jdk_33_method_12_code 68 (.bastore) 1 69 := ⟨by decide +kernel, rfl⟩
theorem d21_69 : Dj jdk_33_method_12_code 69 (.goto (-47)) (-47) 3 72 22 := ⟨by decide +kernel, rfl, by decide, by decide⟩
theorem gcU {p : Program} {l : Launch} {e : Env} {s : State} {m : MethodId} {A : Array Value} {below : List Frame} {meth : Method} {c : Code} {Z : State} {a0 : Array Value} (hw : ∀ d ∈ tables_1, d.before a0 Z = true) {T0 : State} {h : Heap} {W : Outcome → State → Prop} {xi ix cp : Int32} {ar : Addr} {h0 : Heap} {xw pw ng : Int32}  {j : Nat} (C : Cx p s m meth c Z "java/lang/Integer" "getChars" jdk_33_method_12_code 7 (some .int)) (X0 : St p l e ({ frames := 0, cells := 0, slots := 0, locals := 0 } : Room) s m A below meth c Z T0 h 0 0) (VA : By Z h ar cp) (na : Z.heap.size ≤ ar) (o1 o2 : Addr) (S1 : Sta Z Z.heap "java/lang/Integer" "DigitOnes" "[B" (.ref o1)) (S2 : Sta Z Z.heap "java/lang/Integer" "DigitTens" "[B" (.ref o2)) (D1 : ByS Z Z.heap o1 100) (D2 : ByS Z Z.heap o2 100) (t0 : xw.toInt ≤ -100) (J1 : 1 ≤ j) (J2 : xw.toInt.natAbs < 10 ^ j) (J3 : xw.toInt ≤ 0) (J4 : (j : Int) + (if ng = 0 then 0 else 1) ≤ pw.toInt) (J5 : pw.toInt ≤ cp.toInt) (c3 : cp.toInt ≤ 200) (KP : Keep h0 h [ar])
    (K : ∀ (T' : State) (h' : Heap) , St p l e ({ frames := 0, cells := 0, slots := 0, locals := 0 } : Room) s m A below meth c Z T' h' 0 0 → Keep h0 h' [ar] → By Z h' ar cp → Goes p e below W T' (mkF m 22 #[.val (.int (xw / (100 : Int32))), .val (.int ix), .val (.ref ar), .val (.int (xw / (100 : Int32))), .val (.int (((xw / (100 : Int32)) * (100 : Int32)) - xw)), .val (.int ((pw + (-1 : Int32)) + (-1 : Int32))), .val (.int ng)] [])) :
    Goes p e below W T0 (mkF m 22 #[.val (.int xw), .val (.int ix), .val (.ref ar), .unset, .unset, .val (.int pw), .val (.int ng)] []) := by
  obtain ⟨t1, t2, t3, t4, t5⟩ := own_turn t0 J2
  have j4 := own_pw3 t1 J4
  clear J2 J4 t2 t3
  have p1 := own_dec pw (by omega)
  have p2 := own_dec2 pw (by omega)
  refine g_iloadN C X0 d21_22 rfl ?_
  refine g_bipush (-100) C X0 d21_23 rfl ?_
  refine g_icmp (hI_gt _ _) C X0 d21_25 (fun q => absurd q (own_nlt (by rw [show (-100 : Int32).toInt = -100 from rfl]; omega))) (fun _ => ?_)
  refine g_iloadN C X0 d21_28 rfl ?_
  refine g_bipush 100 C X0 d21_29 rfl ?_
  refine g_idiv C X0 d21_31 (by decide) ?_
  refine g_istoreN C X0 d21_32 (l' := #[.val (.int xw), .val (.int ix), .val (.ref ar), .val (.int (xw / (100 : Int32))), .unset, .val (.int pw), .val (.int ng)]) rfl ?_
  refine g_iloadN C X0 d21_33 rfl ?_
  refine g_bipush 100 C X0 d21_34 rfl ?_
  refine g_imul C X0 d21_36 ?_
  refine g_iloadN C X0 d21_37 rfl ?_
  refine g_isub C X0 d21_38 ?_
  refine g_istore C X0 d21_39 (l' := #[.val (.int xw), .val (.int ix), .val (.ref ar), .val (.int (xw / (100 : Int32))), .val (.int (((xw / (100 : Int32)) * (100 : Int32)) - xw)), .val (.int pw), .val (.int ng)]) rfl ?_
  refine g_iloadN C X0 d21_41 rfl ?_
  refine g_istoreN C X0 d21_42 (l' := #[.val (.int (xw / (100 : Int32))), .val (.int ix), .val (.ref ar), .val (.int (xw / (100 : Int32))), .val (.int (((xw / (100 : Int32)) * (100 : Int32)) - xw)), .val (.int pw), .val (.int ng)]) rfl ?_
  refine g_aloadN C X0 d21_43 rfl rfl ?_
  refine g_iinc (-1) C X0 d21_44 rfl rfl (l' := #[.val (.int (xw / (100 : Int32))), .val (.int ix), .val (.ref ar), .val (.int (xw / (100 : Int32))), .val (.int (((xw / (100 : Int32)) * (100 : Int32)) - xw)), .val (.int (pw + (-1 : Int32))), .val (.int ng)]) rfl ?_
  refine g_iload C X0 d21_47 rfl ?_
  refine g_getstatic (host := "") C X0 (Or.inl (wd hw 134 rfl)) Via.refl S1 d21_49 (fun T146 X146 => ?_)
  refine g_iload C X146 d21_52 rfl ?_
  refine g_baloadS C X146 (ByS.ext D1 X146.ext) d21_54 (own_nn (by omega)) (own_lt (by rw [show (100 : Int32).toInt = 100 from rfl]; omega)) (fun v147 => ?_)
  refine g_bastoreB C X146 VA na d21_55 (own_nn (by omega)) (own_lt (by omega)) (fun T148 h148 X148 W148 V148 => ?_)
  refine g_aloadN C X148 d21_56 rfl rfl ?_
  refine g_iinc (-1) C X148 d21_57 rfl rfl (l' := #[.val (.int (xw / (100 : Int32))), .val (.int ix), .val (.ref ar), .val (.int (xw / (100 : Int32))), .val (.int (((xw / (100 : Int32)) * (100 : Int32)) - xw)), .val (.int ((pw + (-1 : Int32)) + (-1 : Int32))), .val (.int ng)]) rfl ?_
  refine g_iload C X148 d21_60 rfl ?_
  refine g_getstatic (host := "") C X148 (Or.inl (wd hw 135 rfl)) Via.refl S2 d21_62 (fun T149 X149 => ?_)
  refine g_iload C X149 d21_65 rfl ?_
  refine g_baloadS C X149 (ByS.ext D2 X149.ext) d21_67 (own_nn (by omega)) (own_lt (by rw [show (100 : Int32).toInt = 100 from rfl]; omega)) (fun v150 => ?_)
  refine g_bastoreB C X149 V148 na d21_68 (own_nn (by omega)) (own_lt (by omega)) (fun T151 h151 X151 W151 V151 => ?_)
  refine g_goto C X151 d21_69 ?_
  have kp152 := (Keep.refl h [ar]).wr W148 (Or.inl (by simp))
  have kp153 := kp152.wr W151 (Or.inl (by simp))
  exact K T151 h151 X151 (KP.trans kp153 (allS (Or.inl (by simp)) all0)) V151
theorem gcV {p : Program} {l : Launch} {e : Env} {s : State} {m : MethodId} {A : Array Value} {below : List Frame} {meth : Method} {c : Code} {Z : State} {a0 : Array Value} (hw : ∀ d ∈ tables_1, d.before a0 Z = true) {T0 : State} {h : Heap} {W : Outcome → State → Prop} {xi ix cp : Int32} {ar : Addr} {h0 : Heap} {xw pw ng : Int32} {q3 q4 : Int32} {j : Nat} (C : Cx p s m meth c Z "java/lang/Integer" "getChars" jdk_33_method_12_code 7 (some .int)) (X0 : St p l e ({ frames := 0, cells := 0, slots := 0, locals := 0 } : Room) s m A below meth c Z T0 h 0 0) (VA : By Z h ar cp) (na : Z.heap.size ≤ ar) (o1 o2 : Addr) (S1 : Sta Z Z.heap "java/lang/Integer" "DigitOnes" "[B" (.ref o1)) (S2 : Sta Z Z.heap "java/lang/Integer" "DigitTens" "[B" (.ref o2)) (D1 : ByS Z Z.heap o1 100) (D2 : ByS Z Z.heap o2 100) (t0 : xw.toInt ≤ -100) (J1 : 1 ≤ j) (J2 : xw.toInt.natAbs < 10 ^ j) (J3 : xw.toInt ≤ 0) (J4 : (j : Int) + (if ng = 0 then 0 else 1) ≤ pw.toInt) (J5 : pw.toInt ≤ cp.toInt) (c3 : cp.toInt ≤ 200) (KP : Keep h0 h [ar])
    (K : ∀ (T' : State) (h' : Heap) , St p l e ({ frames := 0, cells := 0, slots := 0, locals := 0 } : Room) s m A below meth c Z T' h' 0 0 → Keep h0 h' [ar] → By Z h' ar cp → Goes p e below W T' (mkF m 22 #[.val (.int (xw / (100 : Int32))), .val (.int ix), .val (.ref ar), .val (.int (xw / (100 : Int32))), .val (.int (((xw / (100 : Int32)) * (100 : Int32)) - xw)), .val (.int ((pw + (-1 : Int32)) + (-1 : Int32))), .val (.int ng)] [])) :
    Goes p e below W T0 (mkF m 22 #[.val (.int xw), .val (.int ix), .val (.ref ar), .val (.int q3), .val (.int q4), .val (.int pw), .val (.int ng)] []) := by
  obtain ⟨t1, t2, t3, t4, t5⟩ := own_turn t0 J2
  have j4 := own_pw3 t1 J4
  clear J2 J4 t2 t3
  have p1 := own_dec pw (by omega)
  have p2 := own_dec2 pw (by omega)
  refine g_iloadN C X0 d21_22 rfl ?_
  refine g_bipush (-100) C X0 d21_23 rfl ?_
  refine g_icmp (hI_gt _ _) C X0 d21_25 (fun q => absurd q (own_nlt (by rw [show (-100 : Int32).toInt = -100 from rfl]; omega))) (fun _ => ?_)
  refine g_iloadN C X0 d21_28 rfl ?_
  refine g_bipush 100 C X0 d21_29 rfl ?_
  refine g_idiv C X0 d21_31 (by decide) ?_
  refine g_istoreN C X0 d21_32 (l' := #[.val (.int xw), .val (.int ix), .val (.ref ar), .val (.int (xw / (100 : Int32))), .val (.int q4), .val (.int pw), .val (.int ng)]) rfl ?_
  refine g_iloadN C X0 d21_33 rfl ?_
  refine g_bipush 100 C X0 d21_34 rfl ?_
  refine g_imul C X0 d21_36 ?_
  refine g_iloadN C X0 d21_37 rfl ?_
  refine g_isub C X0 d21_38 ?_
  refine g_istore C X0 d21_39 (l' := #[.val (.int xw), .val (.int ix), .val (.ref ar), .val (.int (xw / (100 : Int32))), .val (.int (((xw / (100 : Int32)) * (100 : Int32)) - xw)), .val (.int pw), .val (.int ng)]) rfl ?_
  refine g_iloadN C X0 d21_41 rfl ?_
  refine g_istoreN C X0 d21_42 (l' := #[.val (.int (xw / (100 : Int32))), .val (.int ix), .val (.ref ar), .val (.int (xw / (100 : Int32))), .val (.int (((xw / (100 : Int32)) * (100 : Int32)) - xw)), .val (.int pw), .val (.int ng)]) rfl ?_
  refine g_aloadN C X0 d21_43 rfl rfl ?_
  refine g_iinc (-1) C X0 d21_44 rfl rfl (l' := #[.val (.int (xw / (100 : Int32))), .val (.int ix), .val (.ref ar), .val (.int (xw / (100 : Int32))), .val (.int (((xw / (100 : Int32)) * (100 : Int32)) - xw)), .val (.int (pw + (-1 : Int32))), .val (.int ng)]) rfl ?_
  refine g_iload C X0 d21_47 rfl ?_
  refine g_getstatic (host := "") C X0 (Or.inl (wd hw 134 rfl)) Via.refl S1 d21_49 (fun T154 X154 => ?_)
  refine g_iload C X154 d21_52 rfl ?_
  refine g_baloadS C X154 (ByS.ext D1 X154.ext) d21_54 (own_nn (by omega)) (own_lt (by rw [show (100 : Int32).toInt = 100 from rfl]; omega)) (fun v155 => ?_)
  refine g_bastoreB C X154 VA na d21_55 (own_nn (by omega)) (own_lt (by omega)) (fun T156 h156 X156 W156 V156 => ?_)
  refine g_aloadN C X156 d21_56 rfl rfl ?_
  refine g_iinc (-1) C X156 d21_57 rfl rfl (l' := #[.val (.int (xw / (100 : Int32))), .val (.int ix), .val (.ref ar), .val (.int (xw / (100 : Int32))), .val (.int (((xw / (100 : Int32)) * (100 : Int32)) - xw)), .val (.int ((pw + (-1 : Int32)) + (-1 : Int32))), .val (.int ng)]) rfl ?_
  refine g_iload C X156 d21_60 rfl ?_
  refine g_getstatic (host := "") C X156 (Or.inl (wd hw 135 rfl)) Via.refl S2 d21_62 (fun T157 X157 => ?_)
  refine g_iload C X157 d21_65 rfl ?_
  refine g_baloadS C X157 (ByS.ext D2 X157.ext) d21_67 (own_nn (by omega)) (own_lt (by rw [show (100 : Int32).toInt = 100 from rfl]; omega)) (fun v158 => ?_)
  refine g_bastoreB C X157 V156 na d21_68 (own_nn (by omega)) (own_lt (by omega)) (fun T159 h159 X159 W159 V159 => ?_)
  refine g_goto C X159 d21_69 ?_
  have kp160 := (Keep.refl h [ar]).wr W156 (Or.inl (by simp))
  have kp161 := kp160.wr W159 (Or.inl (by simp))
  exact K T159 h159 X159 (KP.trans kp161 (allS (Or.inl (by simp)) all0)) V159
theorem gcEU {p : Program} {l : Launch} {e : Env} {s : State} {m : MethodId} {A : Array Value} {below : List Frame} {meth : Method} {c : Code} {Z : State} {a0 : Array Value} (hw : ∀ d ∈ tables_1, d.before a0 Z = true) {T0 : State} {h : Heap} {xi ix cp : Int32} {ar : Addr} {h0 : Heap} {xw pw ng : Int32}  {j : Nat} (C : Cx p s m meth c Z "java/lang/Integer" "getChars" jdk_33_method_12_code 7 (some .int)) (X0 : St p l e ({ frames := 0, cells := 0, slots := 0, locals := 0 } : Room) s m A below meth c Z T0 h 0 0) (VA : By Z h ar cp) (na : Z.heap.size ≤ ar) (o1 o2 : Addr) (S1 : Sta Z Z.heap "java/lang/Integer" "DigitOnes" "[B" (.ref o1)) (S2 : Sta Z Z.heap "java/lang/Integer" "DigitTens" "[B" (.ref o2)) (D1 : ByS Z Z.heap o1 100) (D2 : ByS Z Z.heap o2 100) (t0 : -100 < xw.toInt) (J1 : 1 ≤ j) (J2 : xw.toInt.natAbs < 10 ^ j) (J3 : xw.toInt ≤ 0) (J4 : (j : Int) + (if ng = 0 then 0 else 1) ≤ pw.toInt) (J5 : pw.toInt ≤ cp.toInt) (c3 : cp.toInt ≤ 200) (KP : Keep h0 h [ar]) :
    Goes p e below (EndW Z s 0 0 (fun v' h' => ∃ r : Int32, v' = some (.int r) ∧ Keep h0 h' [ar] ∧ By Z h' ar cp)) T0 (mkF m 22 #[.val (.int xw), .val (.int ix), .val (.ref ar), .unset, .unset, .val (.int pw), .val (.int ng)] []) := by
  refine g_iloadN C X0 d21_22 rfl ?_
  refine g_bipush (-100) C X0 d21_23 rfl ?_
  refine g_icmp (hI_gt _ _) C X0 d21_25 (fun _ => ?_) (fun q => absurd (own_lt (by rw [show (-100 : Int32).toInt = -100 from rfl]; omega)) q)
  exact gcTU (xi := xi) hw C X0 VA na o1 o2 S1 S2 D1 D2 t0 J1 J2 J3 J4 J5 c3 KP
theorem gcEV {p : Program} {l : Launch} {e : Env} {s : State} {m : MethodId} {A : Array Value} {below : List Frame} {meth : Method} {c : Code} {Z : State} {a0 : Array Value} (hw : ∀ d ∈ tables_1, d.before a0 Z = true) {T0 : State} {h : Heap} {xi ix cp : Int32} {ar : Addr} {h0 : Heap} {xw pw ng : Int32} {q3 q4 : Int32} {j : Nat} (C : Cx p s m meth c Z "java/lang/Integer" "getChars" jdk_33_method_12_code 7 (some .int)) (X0 : St p l e ({ frames := 0, cells := 0, slots := 0, locals := 0 } : Room) s m A below meth c Z T0 h 0 0) (VA : By Z h ar cp) (na : Z.heap.size ≤ ar) (o1 o2 : Addr) (S1 : Sta Z Z.heap "java/lang/Integer" "DigitOnes" "[B" (.ref o1)) (S2 : Sta Z Z.heap "java/lang/Integer" "DigitTens" "[B" (.ref o2)) (D1 : ByS Z Z.heap o1 100) (D2 : ByS Z Z.heap o2 100) (t0 : -100 < xw.toInt) (J1 : 1 ≤ j) (J2 : xw.toInt.natAbs < 10 ^ j) (J3 : xw.toInt ≤ 0) (J4 : (j : Int) + (if ng = 0 then 0 else 1) ≤ pw.toInt) (J5 : pw.toInt ≤ cp.toInt) (c3 : cp.toInt ≤ 200) (KP : Keep h0 h [ar]) :
    Goes p e below (EndW Z s 0 0 (fun v' h' => ∃ r : Int32, v' = some (.int r) ∧ Keep h0 h' [ar] ∧ By Z h' ar cp)) T0 (mkF m 22 #[.val (.int xw), .val (.int ix), .val (.ref ar), .val (.int q3), .val (.int q4), .val (.int pw), .val (.int ng)] []) := by
  refine g_iloadN C X0 d21_22 rfl ?_
  refine g_bipush (-100) C X0 d21_23 rfl ?_
  refine g_icmp (hI_gt _ _) C X0 d21_25 (fun _ => ?_) (fun q => absurd (own_lt (by rw [show (-100 : Int32).toInt = -100 from rfl]; omega)) q)
  exact gcTV (xi := xi) hw C X0 VA na o1 o2 S1 S2 D1 D2 t0 J1 J2 J3 J4 J5 c3 KP
theorem gcL {p : Program} {l : Launch} {e : Env} {s : State} {m : MethodId} {A : Array Value} {below : List Frame} {meth : Method} {c : Code} {Z : State} {a0 : Array Value} (hw : ∀ d ∈ tables_1, d.before a0 Z = true) {xi ix cp ng : Int32} {ar : Addr} {h0 : Heap} (C : Cx p s m meth c Z "java/lang/Integer" "getChars" jdk_33_method_12_code 7 (some .int)) (na : Z.heap.size ≤ ar) (o1 o2 : Addr) (S1 : Sta Z Z.heap "java/lang/Integer" "DigitOnes" "[B" (.ref o1)) (S2 : Sta Z Z.heap "java/lang/Integer" "DigitTens" "[B" (.ref o2)) (D1 : ByS Z Z.heap o1 100) (D2 : ByS Z Z.heap o2 100) (c3 : cp.toInt ≤ 200) (j : Nat) :
    ∀ {T0 : State} {h : Heap} {xw pw q3 q4 : Int32} (X0 : St p l e ({ frames := 0, cells := 0, slots := 0, locals := 0 } : Room) s m A below meth c Z T0 h 0 0) (VA : By Z h ar cp) (J1 : 1 ≤ j) (J2 : xw.toInt.natAbs < 10 ^ j) (J3 : xw.toInt ≤ 0) (J4 : (j : Int) + (if ng = 0 then 0 else 1) ≤ pw.toInt) (J5 : pw.toInt ≤ cp.toInt) (KP : Keep h0 h [ar]), Goes p e below (EndW Z s 0 0 (fun v' h' => ∃ r : Int32, v' = some (.int r) ∧ Keep h0 h' [ar] ∧ By Z h' ar cp)) T0 (mkF m 22 #[.val (.int xw), .val (.int ix), .val (.ref ar), .val (.int q3), .val (.int q4), .val (.int pw), .val (.int ng)] []) := by
  induction j using Nat.strongRecOn with
  | ind j ih =>
    intro T0 h xw pw q3 q4 X0 VA J1 J2 J3 J4 J5 KP
    by_cases t0 : -100 < xw.toInt
    · exact gcEV (xi := xi) hw C X0 VA na o1 o2 S1 S2 D1 D2 t0 J1 J2 J3 J4 J5 c3 KP
    · have t0' : xw.toInt ≤ -100 := Int.not_lt.mp t0
      obtain ⟨t1, t2, t3, -, -⟩ := own_turn t0' J2
      obtain ⟨a1, a2, a3, a4⟩ := own_step t1 J4 J5
      exact gcV (xi := xi) hw C X0 VA na o1 o2 S1 S2 D1 D2 t0' J1 J2 J3 J4 J5 c3 KP fun T' h' X' KP' VA' => ih (j - 2) a1 X' VA' a2 t2 t3 a3 a4 KP'
theorem ef_rGC (m : MethodId) (xi : Int32) (ix : Int32) (ar : Addr) : entryFrame m #[(.int xi), (.int ix), (.ref ar)] 7 = mkF m 0 #[.val (.int xi), .val (.int ix), .val (.ref ar), .unset, .unset, .unset, .unset] [] := by first | (simp [entryFrame, mkF, argsToLocals, Value.category]; done) | rfl
theorem d21_0 : Dc jdk_33_method_12_code 0 (.iload_n 1) 1 1 := ⟨by decide +kernel, rfl⟩
theorem d21_1 : Dc jdk_33_method_12_code 1 (.istore 5) 2 3 := ⟨by decide +kernel, rfl⟩
theorem d21_3 : Dc jdk_33_method_12_code 3 (.iload_n 0) 1 4 := ⟨by decide +kernel, rfl⟩
theorem d21_4 : Dj jdk_33_method_12_code 4 (.ifCond .ge 7) 7 3 7 11 := ⟨by decide +kernel, rfl, by decide, by decide⟩
theorem d21_11 : Dc jdk_33_method_12_code 11 (.iconst 0) 1 12 := ⟨by decide +kernel, rfl⟩
theorem d21_12 : Dc jdk_33_method_12_code 12 (.istore 6) 2 14 := ⟨by decide +kernel, rfl⟩
theorem d21_14 : Dc jdk_33_method_12_code 14 (.iload 6) 2 16 := ⟨by decide +kernel, rfl⟩
theorem d21_16 : Dj jdk_33_method_12_code 16 (.ifCond .ne 6) 6 3 19 22 := ⟨by decide +kernel, rfl, by decide, by decide⟩
theorem d21_19 : Dc jdk_33_method_12_code 19 (.iload_n 0) 1 20 := ⟨by decide +kernel, rfl⟩
theorem d21_20 : Dc jdk_33_method_12_code 20 (.ineg) 1 21 := ⟨by decide +kernel, rfl⟩
theorem d21_21 : Dc jdk_33_method_12_code 21 (.istore_n 0) 1 22 := ⟨by decide +kernel, rfl⟩
theorem d21_7 : Dc jdk_33_method_12_code 7 (.iconst 1) 1 8 := ⟨by decide +kernel, rfl⟩
theorem d21_8 : Dj jdk_33_method_12_code 8 (.goto 4) 4 3 11 12 := ⟨by decide +kernel, rfl, by decide, by decide⟩
theorem rGC (l : Launch) {Z : State} {a0 : Array Value} (hw : ∀ d ∈ tables_1, d.before a0 Z = true) {h : Heap} (hE : Ext Z.heap h) (xi : Int32) (ix : Int32) (ar : Addr) (cp : Int32) (dk : Nat) (o1 o2 : Addr) (S1 : Sta Z Z.heap "java/lang/Integer" "DigitOnes" "[B" (.ref o1)) (S2 : Sta Z Z.heap "java/lang/Integer" "DigitTens" "[B" (.ref o2)) (D1 : ByS Z Z.heap o1 100) (D2 : ByS Z Z.heap o2 100) (VA : By Z h ar cp) (na : Z.heap.size ≤ ar) (c3 : cp.toInt ≤ 200) (g1 : 1 ≤ dk) (g3 : xi.toInt.natAbs < 10 ^ dk) (g4 : (dk : Int) + (if xi.toInt < 0 then 1 else 0) ≤ ix.toInt) (g5 : ix.toInt ≤ cp.toInt) :
    Con l (⟨"java/lang/Integer", "getChars", "(II[B)I"⟩ : MethodName) jdk_33_method_12_code 7 (some .int) [] ({ frames := 0, cells := 0, slots := 0, locals := 0 } : Room) Z #[(.int xi), (.int ix), (.ref ar)] h (fun v' h' => ∃ r : Int32, v' = some (.int r) ∧ Keep h h' [ar] ∧ By Z h' ar cp) := by
  refine con_of (plainFor_of_name pn_5) hE (fun m => ef_rGC m xi ix ar) ?_
  intro p e s m below meth c T0 C X0
  have C : Cx p s m meth c Z "java/lang/Integer" "getChars" jdk_33_method_12_code 7 (some .int) := C
  show Goes p e below _ T0 (mkF m 0 #[.val (.int xi), .val (.int ix), .val (.ref ar), .unset, .unset, .unset, .unset] [])
  refine g_iloadN C X0 d21_0 rfl ?_
  refine g_istore C X0 d21_1 (l' := #[.val (.int xi), .val (.int ix), .val (.ref ar), .unset, .unset, .val (.int ix), .unset]) rfl ?_
  refine g_iloadN C X0 d21_3 rfl ?_
  refine g_ifn (h0_ge _) C X0 d21_4 (fun c4_162 => ?_) (fun c4_162 => ?_)
  · refine g_iconst 0 C X0 d21_11 rfl ?_
    refine g_istore C X0 d21_12 (l' := #[.val (.int xi), .val (.int ix), .val (.ref ar), .unset, .unset, .val (.int ix), .val (.int 0)]) rfl ?_
    refine g_iload C X0 d21_14 rfl ?_
    refine g_ifn (h0_ne _) C X0 d21_16 (fun q => absurd (by decide) q) (fun _ => ?_)
    refine g_iloadN C X0 d21_19 rfl ?_
    refine g_ineg C X0 d21_20 ?_
    refine g_istoreN C X0 d21_21 (l' := #[.val (.int (-xi)), .val (.int ix), .val (.ref ar), .unset, .unset, .val (.int ix), .val (.int 0)]) rfl ?_
    have e0 := own_nlt' c4_162
    rw [show (0 : Int32).toInt = 0 from rfl] at e0
    have e1 := own_neg xi (Int.le_trans (by decide) e0)
    have J2 : (-xi).toInt.natAbs < 10 ^ dk := by rw [e1, Int.natAbs_neg]; exact g3
    have J4 : (dk : Int) + (if (0 : Int32) = 0 then 0 else 1) ≤ ix.toInt := by rw [if_pos (by decide)]; rw [if_neg (Int.not_lt.mpr e0)] at g4; exact g4
    have J3 : (-xi).toInt ≤ 0 := by rw [e1]; exact Int.neg_nonpos_of_nonneg e0
    by_cases t0 : -100 < (-xi).toInt
    · exact gcEU (xi := xi) hw C X0 VA na o1 o2 S1 S2 D1 D2 t0 g1 J2 J3 J4 g5 c3 (Keep.refl _ _)
    · have t0' : (-xi).toInt ≤ -100 := Int.not_lt.mp t0
      obtain ⟨t1, t2, t3, -, -⟩ := own_turn t0' J2
      obtain ⟨a1, a2, a3, a4⟩ := own_step t1 J4 g5
      exact gcU (xi := xi) hw C X0 VA na o1 o2 S1 S2 D1 D2 t0' g1 J2 J3 J4 g5 c3 (Keep.refl _ _) fun T' h' X' KP' VA' => gcL (xi := xi) hw C na o1 o2 S1 S2 D1 D2 c3 (dk - 2) X' VA' a2 t2 t3 a3 a4 KP'
  · refine g_iconst 1 C X0 d21_7 rfl ?_
    refine g_goto C X0 d21_8 ?_
    refine g_istore C X0 d21_12 (l' := #[.val (.int xi), .val (.int ix), .val (.ref ar), .unset, .unset, .val (.int ix), .val (.int 1)]) rfl ?_
    refine g_iload C X0 d21_14 rfl ?_
    refine g_ifn (h0_ne _) C X0 d21_16 (fun _ => ?_) (fun q => absurd q (by decide))
    have e0 := own_lt' c4_162
    rw [show (0 : Int32).toInt = 0 from rfl] at e0
    have J2 : xi.toInt.natAbs < 10 ^ dk := by exact g3
    have J4 : (dk : Int) + (if (1 : Int32) = 0 then 0 else 1) ≤ ix.toInt := by rw [if_neg (by decide)]; rw [if_pos e0] at g4; exact g4
    have J3 : xi.toInt ≤ 0 := Int.le_of_lt e0
    by_cases t0 : -100 < xi.toInt
    · exact gcEU (xi := xi) hw C X0 VA na o1 o2 S1 S2 D1 D2 t0 g1 J2 J3 J4 g5 c3 (Keep.refl _ _)
    · have t0' : xi.toInt ≤ -100 := Int.not_lt.mp t0
      obtain ⟨t1, t2, t3, -, -⟩ := own_turn t0' J2
      obtain ⟨a1, a2, a3, a4⟩ := own_step t1 J4 g5
      exact gcU (xi := xi) hw C X0 VA na o1 o2 S1 S2 D1 D2 t0' g1 J2 J3 J4 g5 c3 (Keep.refl _ _) fun T' h' X' KP' VA' => gcL (xi := xi) hw C na o1 o2 S1 S2 D1 D2 c3 (dk - 2) X' VA' a2 t2 t3 a3 a4 KP'
theorem ef_rAI (m : MethodId) (sb : Addr) (xi : Int32) : entryFrame m #[(.ref sb), (.int xi)] 4 = mkF m 0 #[.val (.ref sb), .val (.int xi), .unset, .unset] [] := by first | (simp [entryFrame, mkF, argsToLocals, Value.category]; done) | rfl
theorem d18_0 : Dc jdk_68_method_32_code 0 (.aload_n 0) 1 1 := ⟨by decide +kernel, rfl⟩
theorem d18_1 : Dc jdk_68_method_32_code 1 (.getfield 79) 3 4 := ⟨by decide +kernel, rfl⟩
theorem d18_4 : Dc jdk_68_method_32_code 4 (.istore_n 2) 1 5 := ⟨by decide +kernel, rfl⟩
theorem d18_5 : Dc jdk_68_method_32_code 5 (.iload_n 2) 1 6 := ⟨by decide +kernel, rfl⟩
theorem d18_6 : Dc jdk_68_method_32_code 6 (.iload_n 1) 1 7 := ⟨by decide +kernel, rfl⟩
theorem d18_7 : Dc jdk_68_method_32_code 7 (.invokestatic 245) 3 10 := ⟨by decide +kernel, rfl⟩
theorem d18_10 : Dc jdk_68_method_32_code 10 (.iadd) 1 11 := ⟨by decide +kernel, rfl⟩
theorem d18_11 : Dc jdk_68_method_32_code 11 (.istore_n 3) 1 12 := ⟨by decide +kernel, rfl⟩
theorem d18_12 : Dc jdk_68_method_32_code 12 (.aload_n 0) 1 13 := ⟨by decide +kernel, rfl⟩
theorem d18_13 : Dc jdk_68_method_32_code 13 (.iload_n 3) 1 14 := ⟨by decide +kernel, rfl⟩
theorem d18_14 : Dc jdk_68_method_32_code 14 (.invokevirtual 100) 3 17 := ⟨by decide +kernel, rfl⟩
theorem d18_17 : Dc jdk_68_method_32_code 17 (.aload_n 0) 1 18 := ⟨by decide +kernel, rfl⟩
theorem d18_18 : Dc jdk_68_method_32_code 18 (.invokevirtual 83) 3 21 := ⟨by decide +kernel, rfl⟩
theorem pd_11 : parseMethodDescriptor "()Z" = some ⟨[], some .boolean⟩ := by decide +kernel
theorem d18_21 : Dj jdk_68_method_32_code 21 (.ifCond .eq 16) 16 3 24 37 := ⟨by decide +kernel, rfl, by decide, by decide⟩
theorem d18_24 : Dc jdk_68_method_32_code 24 (.iload_n 1) 1 25 := ⟨by decide +kernel, rfl⟩
theorem d18_25 : Dc jdk_68_method_32_code 25 (.iload_n 3) 1 26 := ⟨by decide +kernel, rfl⟩
theorem d18_26 : Dc jdk_68_method_32_code 26 (.aload_n 0) 1 27 := ⟨by decide +kernel, rfl⟩
theorem d18_27 : Dc jdk_68_method_32_code 27 (.getfield 15) 3 30 := ⟨by decide +kernel, rfl⟩
theorem d18_30 : Dc jdk_68_method_32_code 30 (.invokestatic 248) 3 33 := ⟨by decide +kernel, rfl⟩
theorem pd_12 : parseMethodDescriptor "(II[B)I" = some ⟨[.int, .int, (.array .byte)], some .int⟩ := by decide +kernel
theorem d18_33 : Dc jdk_68_method_32_code 33 (.pop) 1 34 := ⟨by decide +kernel, rfl⟩
theorem d18_34 : Dj jdk_68_method_32_code 34 (.goto 14) 14 3 37 48 := ⟨by decide +kernel, rfl, by decide, by decide⟩
theorem d18_48 : Dc jdk_68_method_32_code 48 (.aload_n 0) 1 49 := ⟨by decide +kernel, rfl⟩
theorem d18_49 : Dc jdk_68_method_32_code 49 (.iload_n 3) 1 50 := ⟨by decide +kernel, rfl⟩
theorem d18_50 : Dc jdk_68_method_32_code 50 (.putfield 79) 3 53 := ⟨by decide +kernel, rfl⟩
theorem d18_53 : Dc jdk_68_method_32_code 53 (.aload_n 0) 1 54 := ⟨by decide +kernel, rfl⟩
theorem d18_54 : Dc jdk_68_method_32_code 54 (.areturn) 1 55 := ⟨by decide +kernel, rfl⟩
theorem rAI (l : Launch) {Z : State} {a0 : Array Value} (hw : ∀ d ∈ tables_1, d.before a0 Z = true) {h : Heap} (hE : Ext Z.heap h) (sb : Addr) (xi : Int32) (ar : Addr) (cn cp : Int32) (z_ : Int32) (SZ : Sta Z Z.heap "java/lang/String" "COMPACT_STRINGS" "Z" (.int z_)) (hz : ¬ z_ = 0) (EB : Exa Z h sb "java/lang/StringBuilder") (FC : Fld Z h sb "java/lang/AbstractStringBuilder" "coder" "B" (.int (0 : Int32))) (FV : Fld Z h sb "java/lang/AbstractStringBuilder" "value" "[B" (.ref ar)) (FN : Fld Z h sb "java/lang/AbstractStringBuilder" "count" "I" (.int cn)) (VA : By Z h ar cp) (nb : Z.heap.size ≤ sb) (na : Z.heap.size ≤ ar) (c1 : 0 ≤ cn.toInt) (c2 : cn.toInt ≤ cp.toInt) (c3 : cp.toInt ≤ 200) (o1 o2 : Addr) (S1 : Sta Z Z.heap "java/lang/Integer" "DigitOnes" "[B" (.ref o1)) (S2 : Sta Z Z.heap "java/lang/Integer" "DigitTens" "[B" (.ref o2)) (D1 : ByS Z Z.heap o1 100) (D2 : ByS Z Z.heap o2 100) (l1 : cn.toInt ≤ 89) :
    Con l (⟨"java/lang/AbstractStringBuilder", "append", "(I)Ljava/lang/AbstractStringBuilder;"⟩ : MethodName) jdk_68_method_32_code 4 (some (.object "java/lang/AbstractStringBuilder")) [] ({ frames := 4, cells := 1, slots := 200, locals := 96 } : Room) Z #[(.ref sb), (.int xi)] h (fun v' h' => ∃ sz : Int32, v' = some (.ref sb) ∧ 1 ≤ sz.toInt ∧ sz.toInt ≤ 11 ∧ Keep h h' [sb, ar] ∧ Exa Z h' sb "java/lang/StringBuilder" ∧ Fld Z h' sb "java/lang/AbstractStringBuilder" "coder" "B" (.int (0 : Int32)) ∧ ∃ (ar' : Addr) (cp' : Int32), (ar' = ar ∨ h.size ≤ ar') ∧ Z.heap.size ≤ ar' ∧ Fld Z h' sb "java/lang/AbstractStringBuilder" "value" "[B" (.ref ar') ∧ Fld Z h' sb "java/lang/AbstractStringBuilder" "count" "I" (.int (cn + sz)) ∧ By Z h' ar' cp' ∧ 0 ≤ (cn + sz).toInt ∧ (cn + sz).toInt ≤ cp'.toInt ∧ cp'.toInt ≤ 200) := by
  refine con_of (plainFor_of_name pn_2) hE (fun m => ef_rAI m sb xi) ?_
  intro p e s m below meth c T0 C X0
  have C : Cx p s m meth c Z "java/lang/AbstractStringBuilder" "append" jdk_68_method_32_code 4 (some (.object "java/lang/AbstractStringBuilder")) := C
  show Goes p e below _ T0 (mkF m 0 #[.val (.ref sb), .val (.int xi), .unset, .unset] [])
  have ne163 : sb ≠ ar := Exa.ne EB VA.2 (by decide)
  refine g_aloadN C X0 d18_0 rfl rfl ?_
  refine g_getfield (host := "") C X0 (Or.inl (wd hw 86 rfl)) Via.refl FN d18_1 (fun T164 X164 => ?_)
  refine g_istoreN C X164 d18_4 (l' := #[.val (.ref sb), .val (.int xi), .val (.int cn), .unset]) rfl ?_
  refine g_iloadN C X164 d18_5 rfl ?_
  refine g_iloadN C X164 d18_6 rfl ?_
  refine g_static (argsL := [(.int xi)]) (st := [(.int cn)]) C X164 (wd hw 122 rfl) (wd hw 123 rfl) (wd hw 124 rfl) (wd hw 125 rfl) (by decide) (pay_of (W' := 1) (rSS l hw X164.ext xi) C.hZ (wd hw 125 rfl) (wd hw 124 rfl) (by decide) (by decide)) pd_4 rfl rfl _ rfl (Nat.le_of_eq rfl) d18_7 (by decide) (by decide) (fun T165 h165 v165 q165 X165 => ?_)
  obtain ⟨sz165, rfl, hh165, dg165⟩ := q165
  obtain rfl := hh165.symm
  obtain ⟨dk165, k1_165, k2_165, k3_165, k4_165⟩ := dg165
  have k5_165 : 1 ≤ sz165.toInt ∧ sz165.toInt ≤ 11 := by rw [k3_165]; split <;> omega
  have a1 := own_add cn sz165 (by omega) (by omega)
  show Goes p e below _ T165 (mkF m 10 #[.val (.ref sb), .val (.int xi), .val (.int cn), .unset] [(.int sz165), (.int cn)])
  refine g_iadd C X165 d18_10 ?_
  refine g_istoreN C X165 d18_11 (l' := #[.val (.ref sb), .val (.int xi), .val (.int cn), .val (.int (cn + sz165))]) rfl ?_
  refine g_aloadN C X165 d18_12 rfl rfl ?_
  refine g_iloadN C X165 d18_13 rfl ?_
  refine g_privateK (argsL := [(.int (cn + sz165))]) (st := []) C X165 (wd hw 88 rfl) (wd hw 89 rfl) (sel_privateK C.hZ (wd hw 91 rfl) rfl (wd hw 90 rfl) (wd hw 89 rfl) (by decide)) (wd hw 90 rfl) (wd hw 92 rfl) (by decide) EB (pay_of (W' := 0) (rEC l hw X165.ext sb (cn + sz165) ar cn cp EB FC FV FN VA nb na c1 c2 c3 (by omega) (by omega)) C.hZ (wd hw 92 rfl) (wd hw 51 rfl) (by decide) (by decide)) pd_8 rfl rfl _ rfl (Nat.le_of_eq rfl) d18_14 (by decide) (by decide) (fun T166 h166 v166 q166 X166 => ?_)
  obtain ⟨rfl, K166, EB166, FC166, ar166, cp166, al166, nr166, FV166, FN166, VA166, d1_166, d2_166, d3_166, x0_166⟩ := q166
  have ne167 : sb ≠ ar166 := Exa.ne EB166 VA166.2 (by decide)
  show Goes p e below _ T166 (mkF m 17 #[.val (.ref sb), .val (.int xi), .val (.int cn), .val (.int (cn + sz165))] [])
  refine g_aloadN C X166 d18_17 rfl rfl ?_
  refine g_virtualP (argsL := []) (st := []) C X166 (wd hw 126 rfl) (wd hw 127 rfl) (own_nf C.hZ (wd hw 129 rfl) rfl) (wd hw 129 rfl) (wd hw 128 rfl) (by decide) EB166 (pay_of (W' := 0) (rLat l hw X166.ext sb z_ SZ hz FC166) C.hZ (wd hw 130 rfl) (wd hw 51 rfl) (by decide) (by decide)) pd_11 rfl rfl _ rfl (Nat.le_of_eq rfl) d18_18 (by decide) (by decide) (fun T168 X168 => ?_)
  refine g_if (h0_eq _) C X168 d18_21 (fun q => absurd q (by decide)) (fun _ => ?_)
  refine g_iloadN C X168 d18_24 rfl ?_
  refine g_iloadN C X168 d18_25 rfl ?_
  refine g_aloadN C X168 d18_26 rfl rfl ?_
  refine g_getfield (host := "") C X168 (Or.inl (wd hw 55 rfl)) Via.refl FV166 d18_27 (fun T169 X169 => ?_)
  refine g_static (argsL := [(.int xi), (.int (cn + sz165)), (.ref ar166)]) (st := []) C X169 (wd hw 131 rfl) (wd hw 132 rfl) (wd hw 124 rfl) (wd hw 133 rfl) (by decide) (pay_of (W' := 0) (rGC l hw X169.ext xi (cn + sz165) ar166 cp166 dk165 o1 o2 S1 S2 D1 D2 VA166 nr166 d3_166 k1_165 k4_165 (by rw [← k3_165]; omega) (by omega)) C.hZ (wd hw 133 rfl) (wd hw 124 rfl) (by decide) (by decide)) pd_12 rfl rfl _ rfl (Nat.le_of_eq rfl) d18_30 (by decide) (by decide) (fun T170 h170 v170 q170 X170 => ?_)
  obtain ⟨r170, rfl, K170, V170⟩ := q170
  show Goes p e below _ T170 (mkF m 33 #[.val (.ref sb), .val (.int xi), .val (.int cn), .val (.int (cn + sz165))] [(.int r170)])
  refine g_pop C X170 d18_33 rfl ?_
  refine g_goto C X170 d18_34 ?_
  refine g_aloadN C X170 d18_48 rfl rfl ?_
  refine g_iloadN C X170 d18_49 rfl ?_
  have f171 := (Fld.keep FN166 K170 (ninS ne167 nin0))
  have f172 := (Exa.keep EB166 K170)
  refine g_putfield (host := "") C X170 (Or.inl (wd hw 86 rfl)) Via.refl f171 f172 (Or.inl (wd hw 87 rfl)) (wd hw 42 rfl) (ty := .int) (by decide) rfl rfl nb d18_50 (fun T173 h173 X173 W173 => ?_)
  have f173 := Fld.same W173 f171
  refine g_aloadN C X173 d18_53 rfl rfl ?_
  have kp174 := (Keep.refl h [sb, ar]).trans K166 (allS (Or.inl (by simp)) all0)
  have kp175 := kp174.trans K170 (allS (Or.imp (fun q => by rw [q]; simp) id al166) all0)
  have kp176 := kp175.wr W173 (Or.inl (by simp))
  have f177 := (Exa.wr W173 f172)
  have f178 := (Fld.other W173 (Fld.keep FC166 K170 (ninS ne167 nin0)) (Or.inr (slot_ne (Or.inl (wd hw 58 rfl)) (Or.inl (wd hw 87 rfl)) (by decide) (t := .byte) (t' := .int) (by decide) (by decide))))
  have f179 := (Fld.other W173 (Fld.keep FV166 K170 (ninS ne167 nin0)) (Or.inr (slot_ne (Or.inl (wd hw 56 rfl)) (Or.inl (wd hw 87 rfl)) (by decide) (t := (.array .byte)) (t' := .int) (by decide) (by decide))))
  have f180 := (By.other V170 W173 (Ne.symm ne167))
  exact g_retA C X173 rfl rfl d18_54 (by decide) (by decide) ⟨sz165, rfl, k5_165.1, k5_165.2, kp176, f177, f178, ar166, cp166, al166, nr166, f179, f173, f180, (by omega), (by omega), d3_166⟩
theorem ef_rBI (m : MethodId) (sb : Addr) (xi : Int32) : entryFrame m #[(.ref sb), (.int xi)] 2 = mkF m 0 #[.val (.ref sb), .val (.int xi)] [] := by first | (simp [entryFrame, mkF, argsToLocals, Value.category]; done) | rfl
theorem d17_0 : Dc jdk_67_method_15_code 0 (.aload_n 0) 1 1 := ⟨by decide +kernel, rfl⟩
theorem d17_1 : Dc jdk_67_method_15_code 1 (.iload_n 1) 1 2 := ⟨by decide +kernel, rfl⟩
theorem d17_2 : Dc jdk_67_method_15_code 2 (.invokespecial 53) 3 5 := ⟨by decide +kernel, rfl⟩
theorem pd_13 : parseMethodDescriptor "(I)Ljava/lang/AbstractStringBuilder;" = some ⟨[.int], some (.object "java/lang/AbstractStringBuilder")⟩ := by decide +kernel
theorem d17_5 : Dc jdk_67_method_15_code 5 (.pop) 1 6 := ⟨by decide +kernel, rfl⟩
theorem d17_6 : Dc jdk_67_method_15_code 6 (.aload_n 0) 1 7 := ⟨by decide +kernel, rfl⟩
theorem d17_7 : Dc jdk_67_method_15_code 7 (.areturn) 1 8 := ⟨by decide +kernel, rfl⟩
theorem rBI (l : Launch) {Z : State} {a0 : Array Value} (hw : ∀ d ∈ tables_1, d.before a0 Z = true) {h : Heap} (hE : Ext Z.heap h) (sb : Addr) (xi : Int32) (ar : Addr) (cn cp : Int32) (z_ : Int32) (SZ : Sta Z Z.heap "java/lang/String" "COMPACT_STRINGS" "Z" (.int z_)) (hz : ¬ z_ = 0) (EB : Exa Z h sb "java/lang/StringBuilder") (FC : Fld Z h sb "java/lang/AbstractStringBuilder" "coder" "B" (.int (0 : Int32))) (FV : Fld Z h sb "java/lang/AbstractStringBuilder" "value" "[B" (.ref ar)) (FN : Fld Z h sb "java/lang/AbstractStringBuilder" "count" "I" (.int cn)) (VA : By Z h ar cp) (nb : Z.heap.size ≤ sb) (na : Z.heap.size ≤ ar) (c1 : 0 ≤ cn.toInt) (c2 : cn.toInt ≤ cp.toInt) (c3 : cp.toInt ≤ 200) (o1 o2 : Addr) (S1 : Sta Z Z.heap "java/lang/Integer" "DigitOnes" "[B" (.ref o1)) (S2 : Sta Z Z.heap "java/lang/Integer" "DigitTens" "[B" (.ref o2)) (D1 : ByS Z Z.heap o1 100) (D2 : ByS Z Z.heap o2 100) (l1 : cn.toInt ≤ 89) :
    Con l (⟨"java/lang/StringBuilder", "append", "(I)Ljava/lang/StringBuilder;"⟩ : MethodName) jdk_67_method_15_code 2 (some (.object "java/lang/StringBuilder")) [] ({ frames := 5, cells := 1, slots := 200, locals := 120 } : Room) Z #[(.ref sb), (.int xi)] h (fun v' h' => ∃ sz : Int32, v' = some (.ref sb) ∧ 1 ≤ sz.toInt ∧ sz.toInt ≤ 11 ∧ Keep h h' [sb, ar] ∧ Exa Z h' sb "java/lang/StringBuilder" ∧ Fld Z h' sb "java/lang/AbstractStringBuilder" "coder" "B" (.int (0 : Int32)) ∧ ∃ (ar' : Addr) (cp' : Int32), (ar' = ar ∨ h.size ≤ ar') ∧ Z.heap.size ≤ ar' ∧ Fld Z h' sb "java/lang/AbstractStringBuilder" "value" "[B" (.ref ar') ∧ Fld Z h' sb "java/lang/AbstractStringBuilder" "count" "I" (.int (cn + sz)) ∧ By Z h' ar' cp' ∧ 0 ≤ (cn + sz).toInt ∧ (cn + sz).toInt ≤ cp'.toInt ∧ cp'.toInt ≤ 200) := by
  refine con_of (plainFor_of_name pn_3) hE (fun m => ef_rBI m sb xi) ?_
  intro p e s m below meth c T0 C X0
  have C : Cx p s m meth c Z "java/lang/StringBuilder" "append" jdk_67_method_15_code 2 (some (.object "java/lang/StringBuilder")) := C
  show Goes p e below _ T0 (mkF m 0 #[.val (.ref sb), .val (.int xi)] [])
  have ne181 : sb ≠ ar := Exa.ne EB VA.2 (by decide)
  refine g_aloadN C X0 d17_0 rfl rfl ?_
  refine g_iloadN C X0 d17_1 rfl ?_
  refine g_super (argsL := [(.int xi)]) (st := []) C X0 (by decide) (wd hw 118 rfl) (own_same (wd hw 119 rfl) (wd hw 129 rfl) rfl (by decide)) (wd hw 119 rfl) (wd hw 70 rfl) (wd hw 121 rfl) EB (pay_of (W' := 0) (rAI l hw X0.ext sb xi ar cn cp z_ SZ hz EB FC FV FN VA nb na c1 c2 c3 o1 o2 S1 S2 D1 D2 (by omega)) C.hZ (wd hw 121 rfl) (wd hw 51 rfl) (by decide) (by decide)) pd_13 rfl rfl _ rfl (Nat.le_of_eq rfl) d17_2 (by decide) (by decide) (fun T182 h182 v182 q182 X182 => ?_)
  obtain ⟨sz182, rfl, y1_182, y2_182, K182, EB182, FC182, ar182, cp182, al182, nr182, FV182, FN182, VA182, d1_182, d2_182, d3_182⟩ := q182
  have ne183 : sb ≠ ar182 := Exa.ne EB182 VA182.2 (by decide)
  show Goes p e below _ T182 (mkF m 5 #[.val (.ref sb), .val (.int xi)] [(.ref sb)])
  refine g_pop C X182 d17_5 rfl ?_
  refine g_aloadN C X182 d17_6 rfl rfl ?_
  have kp184 := (Keep.refl h [sb, ar]).trans K182 (allS (Or.inl (by simp)) (allS (Or.inl (by simp)) all0))
  exact g_retA C X182 rfl rfl d17_7 (by decide) (by decide) ⟨sz182, rfl, y1_182, y2_182, kp184, EB182, FC182, ar182, cp182, al182, nr182, FV182, FN182, VA182, d1_182, d2_182, d3_182⟩
theorem ef_rAN (m : MethodId) (sb : Addr) : entryFrame m #[(.ref sb), (.int 16)] 2 = mkF m 0 #[.val (.ref sb), .val (.int 16)] [] := by first | (simp [entryFrame, mkF, argsToLocals, Value.category]; done) | rfl
theorem d7_0 : Dc jdk_68_method_2_code 0 (.aload_n 0) 1 1 := ⟨by decide +kernel, rfl⟩
theorem d7_1 : Dc jdk_68_method_2_code 1 (.invokespecial 3) 3 4 := ⟨by decide +kernel, rfl⟩
theorem d7_4 : Dc jdk_68_method_2_code 4 (.getstatic 18) 3 7 := ⟨by decide +kernel, rfl⟩
theorem d7_7 : Dj jdk_68_method_2_code 7 (.ifCond .eq 18) 18 3 10 25 := ⟨by decide +kernel, rfl, by decide, by decide⟩
theorem d7_10 : Dc jdk_68_method_2_code 10 (.aload_n 0) 1 11 := ⟨by decide +kernel, rfl⟩
theorem d7_11 : Dc jdk_68_method_2_code 11 (.iload_n 1) 1 12 := ⟨by decide +kernel, rfl⟩
theorem d7_12 : Dc jdk_68_method_2_code 12 (.newarray .byte) 2 14 := ⟨by decide +kernel, rfl⟩
theorem d7_14 : Dc jdk_68_method_2_code 14 (.putfield 15) 3 17 := ⟨by decide +kernel, rfl⟩
theorem d7_17 : Dc jdk_68_method_2_code 17 (.aload_n 0) 1 18 := ⟨by decide +kernel, rfl⟩
theorem d7_18 : Dc jdk_68_method_2_code 18 (.iconst 0) 1 19 := ⟨by decide +kernel, rfl⟩
theorem d7_19 : Dc jdk_68_method_2_code 19 (.putfield 22) 3 22 := ⟨by decide +kernel, rfl⟩
theorem d7_22 : Dj jdk_68_method_2_code 22 (.goto 16) 16 3 25 38 := ⟨by decide +kernel, rfl, by decide, by decide⟩
theorem d7_38 : Dc jdk_68_method_2_code 38 (.return_) 1 39 := ⟨by decide +kernel, rfl⟩
theorem rAN (l : Launch) {Z : State} {a0 : Array Value} (hw : ∀ d ∈ tables_1, d.before a0 Z = true) {h : Heap} (hE : Ext Z.heap h) (sb : Addr) (z_ : Int32) (SZ : Sta Z Z.heap "java/lang/String" "COMPACT_STRINGS" "Z" (.int z_)) (hz : ¬ z_ = 0) (EB : Exa Z h sb "java/lang/StringBuilder") (FC : Fld Z h sb "java/lang/AbstractStringBuilder" "coder" "B" (.int (0 : Int32))) (FV : Fld Z h sb "java/lang/AbstractStringBuilder" "value" "[B" .null) (FN : Fld Z h sb "java/lang/AbstractStringBuilder" "count" "I" (.int (0 : Int32))) (nb : Z.heap.size ≤ sb) :
    Con l (⟨"java/lang/AbstractStringBuilder", "<init>", "(I)V"⟩ : MethodName) jdk_68_method_2_code 2 none [] ({ frames := 1, cells := 1, slots := 16, locals := 24 } : Room) Z #[(.ref sb), (.int 16)] h (fun v' h' => v' = none ∧ Keep h h' [sb] ∧ Exa Z h' sb "java/lang/StringBuilder" ∧ Fld Z h' sb "java/lang/AbstractStringBuilder" "coder" "B" (.int (0 : Int32)) ∧ ∃ ar : Addr, h.size ≤ ar ∧ Z.heap.size ≤ ar ∧ Fld Z h' sb "java/lang/AbstractStringBuilder" "value" "[B" (.ref ar) ∧ Fld Z h' sb "java/lang/AbstractStringBuilder" "count" "I" (.int (0 : Int32)) ∧ By Z h' ar 16) := by
  refine con_of (plainFor_of_name pn_2) hE (fun m => ef_rAN m sb) ?_
  intro p e s m below meth c T0 C X0
  have C : Cx p s m meth c Z "java/lang/AbstractStringBuilder" "<init>" jdk_68_method_2_code 2 none := C
  show Goes p e below _ T0 (mkF m 0 #[.val (.ref sb), .val (.int 16)] [])
  refine g_aloadN C X0 d7_0 rfl rfl ?_
  refine g_initO C X0 (wd hw 53 rfl) (wd hw 12 rfl) (wd hw 13 rfl) rfl d7_1 (by decide) 0 (Nat.le_of_eq rfl) (by decide) (fun T185 X185 => ?_)
  refine g_getstatic (host := "") C X185 (Or.inl (wd hw 54 rfl)) Via.refl SZ d7_4 (fun T186 X186 => ?_)
  refine g_if (h0_eq _) C X186 d7_7 (fun q => absurd q hz) (fun _ => ?_)
  refine g_aloadN C X186 d7_10 rfl rfl ?_
  refine g_iloadN C X186 d7_11 rfl ?_
  refine g_newarrayB C X186 (wd hw 33 rfl) d7_12 (by decide) 16 (by decide) (by decide) (by decide) (by decide) (fun T187 h187 b187 g_b187 n_b187 X187 E187 V187 => ?_)
  have lt188 : sb < b187 := by rw [g_b187]; exact Exa.lt EB
  have f189 := (Fld.ext E187 FV)
  have f190 := (Exa.ext E187 EB)
  refine g_putfield (host := "") C X187 (Or.inl (wd hw 55 rfl)) Via.refl f189 f190 (Or.inl (wd hw 56 rfl)) (wd hw 42 rfl) (ty := (.array .byte)) (by decide) rfl rfl nb d7_14 (fun T191 h191 X191 W191 => ?_)
  have f191 := Fld.same W191 f189
  refine g_aloadN C X191 d7_17 rfl rfl ?_
  refine g_iconst 0 C X191 d7_18 rfl ?_
  have f192 := (Fld.other W191 (Fld.ext E187 FC) (Or.inr (slot_ne (Or.inl (wd hw 58 rfl)) (Or.inl (wd hw 56 rfl)) (by decide) (t := .byte) (t' := (.array .byte)) (by decide) (by decide))))
  have f193 := (Exa.wr W191 f190)
  refine g_putfield (host := "") C X191 (Or.inl (wd hw 57 rfl)) Via.refl f192 f193 (Or.inl (wd hw 58 rfl)) (wd hw 42 rfl) (ty := .byte) (by decide) rfl rfl nb d7_19 (fun T194 h194 X194 W194 => ?_)
  have f194 := Fld.same W194 f192
  refine g_goto C X194 d7_22 ?_
  have sz195 : h.size ≤ b187 := by rw [g_b187]; exact (Keep.refl h [sb]).1
  have kp196 := (Keep.refl h [sb]).ext E187
  have kp197 := kp196.wr W191 (Or.inl (by simp))
  have kp198 := kp197.wr W194 (Or.inl (by simp))
  have f199 := (Exa.wr W194 f193)
  have f200 := (Fld.other W194 f191 (Or.inr (slot_ne (Or.inl (wd hw 56 rfl)) (Or.inl (wd hw 58 rfl)) (by decide) (t := (.array .byte)) (t' := .byte) (by decide) (by decide))))
  have f201 := (Fld.other W194 (Fld.other W191 (Fld.ext E187 FN) (Or.inr (slot_ne (Or.inl (wd hw 87 rfl)) (Or.inl (wd hw 56 rfl)) (by decide) (t := .int) (t' := (.array .byte)) (by decide) (by decide)))) (Or.inr (slot_ne (Or.inl (wd hw 87 rfl)) (Or.inl (wd hw 58 rfl)) (by decide) (t := .int) (t' := .byte) (by decide) (by decide))))
  have f202 := (By.other (By.other V187 W191 (Nat.ne_of_gt lt188)) W194 (Nat.ne_of_gt lt188))
  exact g_retV C X194 d7_38 (by decide) (by decide) ⟨rfl, kp198, f199, f194, b187, sz195, n_b187, f200, f201, f202⟩
theorem ef_rBN (m : MethodId) (sb : Addr) : entryFrame m #[(.ref sb)] 1 = mkF m 0 #[.val (.ref sb)] [] := by first | (simp [entryFrame, mkF, argsToLocals, Value.category]; done) | rfl
theorem d6_0 : Dc jdk_67_method_1_code 0 (.aload_n 0) 1 1 := ⟨by decide +kernel, rfl⟩
theorem d6_1 : Dc jdk_67_method_1_code 1 (.bipush 16) 2 3 := ⟨by decide +kernel, rfl⟩
theorem d6_3 : Dc jdk_67_method_1_code 3 (.invokespecial 1) 3 6 := ⟨by decide +kernel, rfl⟩
theorem d6_6 : Dc jdk_67_method_1_code 6 (.return_) 1 7 := ⟨by decide +kernel, rfl⟩
theorem rBN (l : Launch) {Z : State} {a0 : Array Value} (hw : ∀ d ∈ tables_1, d.before a0 Z = true) {h : Heap} (hE : Ext Z.heap h) (sb : Addr) (z_ : Int32) (SZ : Sta Z Z.heap "java/lang/String" "COMPACT_STRINGS" "Z" (.int z_)) (hz : ¬ z_ = 0) (EB : Exa Z h sb "java/lang/StringBuilder") (FC : Fld Z h sb "java/lang/AbstractStringBuilder" "coder" "B" (.int (0 : Int32))) (FV : Fld Z h sb "java/lang/AbstractStringBuilder" "value" "[B" .null) (FN : Fld Z h sb "java/lang/AbstractStringBuilder" "count" "I" (.int (0 : Int32))) (nb : Z.heap.size ≤ sb) :
    Con l (⟨"java/lang/StringBuilder", "<init>", "()V"⟩ : MethodName) jdk_67_method_1_code 1 none [] ({ frames := 2, cells := 1, slots := 16, locals := 48 } : Room) Z #[(.ref sb)] h (fun v' h' => v' = none ∧ Keep h h' [sb] ∧ Exa Z h' sb "java/lang/StringBuilder" ∧ Fld Z h' sb "java/lang/AbstractStringBuilder" "coder" "B" (.int (0 : Int32)) ∧ ∃ ar : Addr, h.size ≤ ar ∧ Z.heap.size ≤ ar ∧ Fld Z h' sb "java/lang/AbstractStringBuilder" "value" "[B" (.ref ar) ∧ Fld Z h' sb "java/lang/AbstractStringBuilder" "count" "I" (.int (0 : Int32)) ∧ By Z h' ar 16) := by
  refine con_of (plainFor_of_name pn_3) hE (fun m => ef_rBN m sb) ?_
  intro p e s m below meth c T0 C X0
  have C : Cx p s m meth c Z "java/lang/StringBuilder" "<init>" jdk_67_method_1_code 1 none := C
  show Goes p e below _ T0 (mkF m 0 #[.val (.ref sb)] [])
  refine g_aloadN C X0 d6_0 rfl rfl ?_
  refine g_bipush 16 C X0 d6_1 rfl ?_
  refine g_special (argsL := [(.int 16)]) (st := []) C X0 rfl (wd hw 47 rfl) (wd hw 48 rfl) (wd hw 52 rfl) (by decide) (pay_of (W' := 0) (rAN l hw X0.ext sb z_ SZ hz EB FC FV FN nb) C.hZ (wd hw 52 rfl) (wd hw 51 rfl) (by decide) (by decide)) pd_8 rfl rfl _ rfl (Nat.le_of_eq rfl) d6_3 (by decide) (by decide) (fun T203 h203 v203 q203 X203 => ?_)
  obtain ⟨rfl, K203, EB203, FC203, ar203, g203, nr203, FV203, FN203, VA203⟩ := q203
  have ne204 : sb ≠ ar203 := Exa.ne EB203 VA203.2 (by decide)
  show Goes p e below _ T203 (mkF m 6 #[.val (.ref sb)] [])
  have sz205 : h.size ≤ ar203 := Nat.le_trans (Keep.refl h [sb]).1 g203
  have kp206 := (Keep.refl h [sb]).trans K203 (allS (Or.inl (by simp)) all0)
  exact g_retV C X203 d6_6 (by decide) (by decide) ⟨rfl, kp206, EB203, FC203, ar203, sz205, nr203, FV203, FN203, VA203⟩
theorem ef_rMinB (m : MethodId) (xa : Int32) (xb : Int32) : entryFrame m #[(.int xa), (.int xb)] 2 = mkF m 0 #[.val (.int xa), .val (.int xb)] [] := by first | (simp [entryFrame, mkF, argsToLocals, Value.category]; done) | rfl
theorem d26_9 : Dc jdk_29_method_69_code 9 (.iload_n 1) 1 10 := ⟨by decide +kernel, rfl⟩
theorem rMinB (l : Launch) {Z : State} {a0 : Array Value} (hw : ∀ d ∈ tables_1, d.before a0 Z = true) {h : Heap} (hE : Ext Z.heap h) (xa : Int32) (xb : Int32)  (hm : xb < xa) :
    Con l (⟨"java/lang/Math", "min", "(II)I"⟩ : MethodName) jdk_29_method_69_code 2 (some .int) [] ({ frames := 0, cells := 0, slots := 0, locals := 0 } : Room) Z #[(.int xa), (.int xb)] h (fun v' h' => v' = some (.int xb) ∧ h' = h) := by
  refine con_of (Jvm.Free.JP.mathPlain rfl (by decide +kernel)) hE (fun m => ef_rMinB m xa xb) ?_
  intro p e s m below meth c T0 C X0
  have C : Cx p s m meth c Z "java/lang/Math" "min" jdk_29_method_69_code 2 (some .int) := C
  show Goes p e below _ T0 (mkF m 0 #[.val (.int xa), .val (.int xb)] [])
  refine g_iloadN C X0 d26_0 rfl ?_
  refine g_iloadN C X0 d26_1 rfl ?_
  refine g_icmp (hI_gt _ _) C X0 d26_2 (fun _ => ?_) (fun q => absurd hm q)
  refine g_iloadN C X0 d26_9 rfl ?_
  exact g_retI C X0 d26_10 (by decide) (by decide) ⟨rfl, rfl⟩
theorem ef_rCL (m : MethodId) (nn : Int32) : entryFrame m #[(.int 0), (.int nn)] 2 = mkF m 0 #[.val (.int 0), .val (.int nn)] [] := by first | (simp [entryFrame, mkF, argsToLocals, Value.category]; done) | rfl
theorem d35_0 : Dc jdk_65_method_131_code 0 (.iload_n 1) 1 1 := ⟨by decide +kernel, rfl⟩
theorem d35_1 : Dc jdk_65_method_131_code 1 (.iload_n 0) 1 2 := ⟨by decide +kernel, rfl⟩
theorem d35_2 : Dj jdk_65_method_131_code 2 (.if_icmp .ge 35) 35 3 5 37 := ⟨by decide +kernel, rfl, by decide, by decide⟩
theorem d35_37 : Dc jdk_65_method_131_code 37 (.return_) 1 38 := ⟨by decide +kernel, rfl⟩
theorem rCL (l : Launch) {Z : State} {a0 : Array Value} (hw : ∀ d ∈ tables_1, d.before a0 Z = true) {h : Heap} (hE : Ext Z.heap h) (nn : Int32)  (hm : ¬ nn < (0 : Int32)) :
    Con l (⟨"java/util/Arrays", "checkLength", "(II)V"⟩ : MethodName) jdk_65_method_131_code 2 none [] ({ frames := 0, cells := 0, slots := 0, locals := 0 } : Room) Z #[(.int 0), (.int nn)] h (fun v' h' => v' = none ∧ h' = h) := by
  refine con_of (plainFor_of_name pn_4) hE (fun m => ef_rCL m nn) ?_
  intro p e s m below meth c T0 C X0
  have C : Cx p s m meth c Z "java/util/Arrays" "checkLength" jdk_65_method_131_code 2 none := C
  show Goes p e below _ T0 (mkF m 0 #[.val (.int 0), .val (.int nn)] [])
  refine g_iloadN C X0 d35_0 rfl ?_
  refine g_iloadN C X0 d35_1 rfl ?_
  refine g_icmpn (hI_ge _ _) C X0 d35_2 (fun _ => ?_) (fun q => absurd q hm)
  exact g_retV C X0 d35_37 (by decide) (by decide) ⟨rfl, rfl⟩
theorem ef_rRB (m : MethodId) (ar : Addr) (nn : Int32) : entryFrame m #[(.ref ar), (.int 0), (.int nn)] 5 = mkF m 0 #[.val (.ref ar), .val (.int 0), .val (.int nn), .unset, .unset] [] := by first | (simp [entryFrame, mkF, argsToLocals, Value.category]; done) | rfl
theorem d34_0 : Dc jdk_65_method_133_code 0 (.iload_n 1) 1 1 := ⟨by decide +kernel, rfl⟩
theorem d34_1 : Dc jdk_65_method_133_code 1 (.iload_n 2) 1 2 := ⟨by decide +kernel, rfl⟩
theorem d34_2 : Dc jdk_65_method_133_code 2 (.invokestatic 343) 3 5 := ⟨by decide +kernel, rfl⟩
theorem pd_14 : parseMethodDescriptor "(II)V" = some ⟨[.int, .int], none⟩ := by decide +kernel
theorem d34_5 : Dc jdk_65_method_133_code 5 (.iload_n 2) 1 6 := ⟨by decide +kernel, rfl⟩
theorem d34_6 : Dc jdk_65_method_133_code 6 (.iload_n 1) 1 7 := ⟨by decide +kernel, rfl⟩
theorem d34_7 : Dc jdk_65_method_133_code 7 (.isub) 1 8 := ⟨by decide +kernel, rfl⟩
theorem d34_8 : Dc jdk_65_method_133_code 8 (.istore_n 3) 1 9 := ⟨by decide +kernel, rfl⟩
theorem d34_9 : Dc jdk_65_method_133_code 9 (.iload_n 3) 1 10 := ⟨by decide +kernel, rfl⟩
theorem d34_10 : Dc jdk_65_method_133_code 10 (.newarray .byte) 2 12 := ⟨by decide +kernel, rfl⟩
theorem d34_12 : Dc jdk_65_method_133_code 12 (.astore 4) 2 14 := ⟨by decide +kernel, rfl⟩
theorem d34_14 : Dc jdk_65_method_133_code 14 (.aload_n 0) 1 15 := ⟨by decide +kernel, rfl⟩
theorem d34_15 : Dc jdk_65_method_133_code 15 (.iload_n 1) 1 16 := ⟨by decide +kernel, rfl⟩
theorem d34_16 : Dc jdk_65_method_133_code 16 (.aload 4) 2 18 := ⟨by decide +kernel, rfl⟩
theorem d34_18 : Dc jdk_65_method_133_code 18 (.iconst 0) 1 19 := ⟨by decide +kernel, rfl⟩
theorem d34_19 : Dc jdk_65_method_133_code 19 (.aload_n 0) 1 20 := ⟨by decide +kernel, rfl⟩
theorem d34_20 : Dc jdk_65_method_133_code 20 (.arraylength) 1 21 := ⟨by decide +kernel, rfl⟩
theorem d34_21 : Dc jdk_65_method_133_code 21 (.iload_n 1) 1 22 := ⟨by decide +kernel, rfl⟩
theorem d34_22 : Dc jdk_65_method_133_code 22 (.isub) 1 23 := ⟨by decide +kernel, rfl⟩
theorem d34_23 : Dc jdk_65_method_133_code 23 (.iload_n 3) 1 24 := ⟨by decide +kernel, rfl⟩
theorem d34_24 : Dc jdk_65_method_133_code 24 (.invokestatic 304) 3 27 := ⟨by decide +kernel, rfl⟩
theorem d34_27 : Dc jdk_65_method_133_code 27 (.invokestatic 150) 3 30 := ⟨by decide +kernel, rfl⟩
theorem d34_30 : Dc jdk_65_method_133_code 30 (.aload 4) 2 32 := ⟨by decide +kernel, rfl⟩
theorem d34_32 : Dc jdk_65_method_133_code 32 (.areturn) 1 33 := ⟨by decide +kernel, rfl⟩
theorem rRB (l : Launch) {Z : State} {a0 : Array Value} (hw : ∀ d ∈ tables_1, d.before a0 Z = true) {h : Heap} (hE : Ext Z.heap h) (ar : Addr) (nn : Int32) (cp : Int32) (VA : By Z h ar cp) (k0 : 0 ≤ nn.toInt) (k1 : nn.toInt < cp.toInt) (k2 : cp.toInt ≤ 200) :
    Con l (⟨"java/util/Arrays", "copyOfRangeByte", "([BII)[B"⟩ : MethodName) jdk_65_method_133_code 5 (some (.array .byte)) [] ({ frames := 1, cells := 1, slots := 200, locals := 24 } : Room) Z #[(.ref ar), (.int 0), (.int nn)] h (fun v' h' => ∃ br, v' = some (.ref br) ∧ Z.heap.size ≤ br ∧ h.size ≤ br ∧ Ext h h' ∧ By Z h' br nn) := by
  refine con_of (plainFor_of_name pn_4) hE (fun m => ef_rRB m ar nn) ?_
  intro p e s m below meth c T0 C X0
  have C : Cx p s m meth c Z "java/util/Arrays" "copyOfRangeByte" jdk_65_method_133_code 5 (some (.array .byte)) := C
  show Goes p e below _ T0 (mkF m 0 #[.val (.ref ar), .val (.int 0), .val (.int nn), .unset, .unset] [])
  refine g_iloadN C X0 d34_0 rfl ?_
  refine g_iloadN C X0 d34_1 rfl ?_
  refine g_staticPV (argsL := [(.int 0), (.int nn)]) (st := []) C X0 (wd hw 194 rfl) (wd hw 195 rfl) (wd hw 154 rfl) (wd hw 196 rfl) (by decide) (pay_of (W' := 0) (rCL l hw X0.ext nn (own_nn (by omega))) C.hZ (wd hw 196 rfl) (wd hw 154 rfl) (by decide) (by decide)) pd_14 rfl rfl _ rfl (Nat.le_of_eq rfl) d34_2 (by decide) (by decide) (fun T207 X207 => ?_)
  refine g_iloadN C X207 d34_5 rfl ?_
  refine g_iloadN C X207 d34_6 rfl ?_
  refine g_isub C X207 d34_7 ?_
  rw [own_sub0]
  show Goes p e below _ T207 (mkF m 8 #[.val (.ref ar), .val (.int 0), .val (.int nn), .unset, .unset] [(.int nn)])
  refine g_istoreN C X207 d34_8 (l' := #[.val (.ref ar), .val (.int 0), .val (.int nn), .val (.int nn), .unset]) rfl ?_
  refine g_iloadN C X207 d34_9 rfl ?_
  refine g_newarrayB C X207 (wd hw 33 rfl) d34_10 (own_nn (by omega)) 200 (by have := own_tn (x := nn) (by omega); omega) (by decide) (by decide) (by decide) (fun T208 h208 b208 g_b208 n_b208 X208 E208 V208 => ?_)
  have lt209 : ar < b208 := by rw [g_b208]; exact By.lt VA
  refine g_astore C X208 d34_12 rfl (l' := #[.val (.ref ar), .val (.int 0), .val (.int nn), .val (.int nn), .val (.ref b208)]) rfl ?_
  refine g_aloadN C X208 d34_14 rfl rfl ?_
  refine g_iloadN C X208 d34_15 rfl ?_
  refine g_aload C X208 d34_16 rfl rfl ?_
  refine g_iconst 0 C X208 d34_18 rfl ?_
  refine g_aloadN C X208 d34_19 rfl rfl ?_
  have f210 := (By.ext VA E208)
  refine g_arraylengthS C X208 (By.toS f210) d34_20 ?_
  refine g_iloadN C X208 d34_21 rfl ?_
  refine g_isub C X208 d34_22 ?_
  rw [own_sub0]
  show Goes p e below _ T208 (mkF m 23 #[.val (.ref ar), .val (.int 0), .val (.int nn), .val (.int nn), .val (.ref b208)] [(.int cp), (.int 0), (.ref b208), (.int 0), (.ref ar)])
  refine g_iloadN C X208 d34_23 rfl ?_
  refine g_staticP (argsL := [(.int cp), (.int nn)]) (st := [(.int 0), (.ref b208), (.int 0), (.ref ar)]) C X208 (wd hw 156 rfl) (wd hw 157 rfl) (wd hw 148 rfl) (wd hw 158 rfl) (by decide) (pay_of (W' := 4) (rMinB l hw X208.ext cp nn (own_lt (by omega))) C.hZ (wd hw 158 rfl) (wd hw 148 rfl) (by decide) (by decide)) pd_0 rfl rfl _ rfl (Nat.le_of_eq rfl) d34_24 (by decide) (by decide) (fun T211 X211 => ?_)
  refine g_arraycopyB C X211 (wd hw 159 rfl) (wd hw 112 rfl) (wd hw 110 rfl) (wd hw 111 rfl) (By.toS f210) V208 (by decide) (by decide) (by omega) (by rw [show (0 : Int32).toInt = 0 from rfl]; omega) (by rw [show (0 : Int32).toInt = 0 from rfl]; omega) n_b208 rfl d34_27 (by decide) 0 (Nat.le_of_eq rfl) (by decide) (fun T212 h212 X212 K212 V212 => ?_)
  show Goes p e below _ T212 (mkF m 30 #[.val (.ref ar), .val (.int 0), .val (.int nn), .val (.int nn), .val (.ref b208)] [])
  refine g_aload C X212 d34_30 rfl rfl ?_
  have sz213 : h.size ≤ b208 := by rw [g_b208]; exact (Keep.refl h []).1
  have kp214 := (Keep.refl h []).ext E208
  have kp215 := kp214.trans K212 (allS (Or.inr sz213) all0)
  exact g_retA C X212 rfl rfl d34_32 (by decide) (by decide) ⟨b208, rfl, n_b208, sz213, keep_ext kp215, V212⟩
theorem own_ne' {x y : Int32} (h : ¬ x = y) : x.toInt ≠ y.toInt := fun q => h (Int32.toInt_inj.mp q)
theorem ef_rCR (m : MethodId) (ar : Addr) (nn : Int32) : entryFrame m #[(.ref ar), (.int 0), (.int nn)] 3 = mkF m 0 #[.val (.ref ar), .val (.int 0), .val (.int nn)] [] := by first | (simp [entryFrame, mkF, argsToLocals, Value.category]; done) | rfl
theorem d33_0 : Dc jdk_65_method_132_code 0 (.iload_n 1) 1 1 := ⟨by decide +kernel, rfl⟩
theorem d33_1 : Dj jdk_65_method_132_code 1 (.ifCond .ne 9) 9 3 4 10 := ⟨by decide +kernel, rfl, by decide, by decide⟩
theorem d33_4 : Dc jdk_65_method_132_code 4 (.iload_n 2) 1 5 := ⟨by decide +kernel, rfl⟩
theorem d33_5 : Dc jdk_65_method_132_code 5 (.aload_n 0) 1 6 := ⟨by decide +kernel, rfl⟩
theorem d33_6 : Dc jdk_65_method_132_code 6 (.arraylength) 1 7 := ⟨by decide +kernel, rfl⟩
theorem d33_7 : Dj jdk_65_method_132_code 7 (.if_icmp .eq 10) 10 3 10 17 := ⟨by decide +kernel, rfl, by decide, by decide⟩
theorem d33_17 : Dc jdk_65_method_132_code 17 (.aload_n 0) 1 18 := ⟨by decide +kernel, rfl⟩
theorem d33_18 : Dc jdk_65_method_132_code 18 (.invokevirtual 310) 3 21 := ⟨by decide +kernel, rfl⟩
theorem d33_21 : Dc jdk_65_method_132_code 21 (.checkcast 311) 3 24 := ⟨by decide +kernel, rfl⟩
theorem d33_24 : Dc jdk_65_method_132_code 24 (.areturn) 1 25 := ⟨by decide +kernel, rfl⟩
theorem d33_10 : Dc jdk_65_method_132_code 10 (.aload_n 0) 1 11 := ⟨by decide +kernel, rfl⟩
theorem d33_11 : Dc jdk_65_method_132_code 11 (.iload_n 1) 1 12 := ⟨by decide +kernel, rfl⟩
theorem d33_12 : Dc jdk_65_method_132_code 12 (.iload_n 2) 1 13 := ⟨by decide +kernel, rfl⟩
theorem d33_13 : Dc jdk_65_method_132_code 13 (.invokestatic 339) 3 16 := ⟨by decide +kernel, rfl⟩
theorem pd_15 : parseMethodDescriptor "([BII)[B" = some ⟨[(.array .byte), .int, .int], some (.array .byte)⟩ := by decide +kernel
theorem d33_16 : Dc jdk_65_method_132_code 16 (.areturn) 1 17 := ⟨by decide +kernel, rfl⟩
theorem rCR (l : Launch) {Z : State} {a0 : Array Value} (hw : ∀ d ∈ tables_1, d.before a0 Z = true) {h : Heap} (hE : Ext Z.heap h) (ar : Addr) (nn : Int32) (cp : Int32) (VA : By Z h ar cp) (k0 : 0 ≤ nn.toInt) (k1 : nn.toInt ≤ cp.toInt) (k2 : cp.toInt ≤ 200) :
    Con l (⟨"java/util/Arrays", "copyOfRange", "([BII)[B"⟩ : MethodName) jdk_65_method_132_code 3 (some (.array .byte)) [] ({ frames := 2, cells := 1, slots := 200, locals := 48 } : Room) Z #[(.ref ar), (.int 0), (.int nn)] h (fun v' h' => ∃ br, v' = some (.ref br) ∧ Z.heap.size ≤ br ∧ h.size ≤ br ∧ Ext h h' ∧ By Z h' br nn) := by
  refine con_of (plainFor_of_name pn_4) hE (fun m => ef_rCR m ar nn) ?_
  intro p e s m below meth c T0 C X0
  have C : Cx p s m meth c Z "java/util/Arrays" "copyOfRange" jdk_65_method_132_code 3 (some (.array .byte)) := C
  show Goes p e below _ T0 (mkF m 0 #[.val (.ref ar), .val (.int 0), .val (.int nn)] [])
  refine g_iloadN C X0 d33_0 rfl ?_
  refine g_ifn (h0_ne _) C X0 d33_1 (fun q => absurd (by decide) q) (fun _ => ?_)
  refine g_iloadN C X0 d33_4 rfl ?_
  refine g_aloadN C X0 d33_5 rfl rfl ?_
  refine g_arraylengthS C X0 (By.toS VA) d33_6 ?_
  refine g_icmp (hI_eq _ _) C X0 d33_7 (fun c7_216 => ?_) (fun c7_216 => ?_)
  · refine g_aloadN C X0 d33_17 rfl rfl ?_
    refine g_cloneB (cap := 200) C X0 (wd hw 253 rfl) (wd hw 254 rfl) (wd hw 258 rfl) (wd hw 256 rfl) (wd hw 257 rfl) (wd hw 259 rfl) VA rfl d33_18 (by decide) 0 (Nat.le_of_eq rfl) (by decide) (by have := own_tn (x := cp) (by omega); omega) (by decide) (by decide) (fun T217 h217 b217 g_b217 n_b217 X217 E217 V217 => ?_)
    have lt218 : ar < b217 := by rw [g_b217]; exact By.lt VA
    refine g_checkcast C X217 (wd hw 260 rfl) (Ins.self V217.2) d33_21 (fun T219 X219 => ?_)
    have sz220 : h.size ≤ b217 := by rw [g_b217]; exact (Keep.refl h []).1
    have kp221 := (Keep.refl h []).ext E217
    exact g_retA C X219 rfl rfl d33_24 (by decide) (by decide) ⟨b217, rfl, n_b217, sz220, keep_ext kp221, by rw [c7_216]; exact V217⟩
  · refine g_aloadN C X0 d33_10 rfl rfl ?_
    refine g_iloadN C X0 d33_11 rfl ?_
    refine g_iloadN C X0 d33_12 rfl ?_
    refine g_static (argsL := [(.ref ar), (.int 0), (.int nn)]) (st := []) C X0 (wd hw 191 rfl) (wd hw 192 rfl) (wd hw 154 rfl) (wd hw 193 rfl) (by decide) (pay_of (W' := 0) (rRB l hw X0.ext ar nn cp VA k0 (by have := own_ne' c7_216; omega) k2) C.hZ (wd hw 193 rfl) (wd hw 154 rfl) (by decide) (by decide)) pd_15 rfl rfl _ rfl (Nat.le_of_eq rfl) d33_13 (by decide) (by decide) (fun T222 h222 v222 q222 X222 => ?_)
    obtain ⟨b222, rfl, n_b222, g222, E222, V222⟩ := q222
    have lt223 : ar < b222 := Nat.lt_of_lt_of_le (By.lt VA) g222
    show Goes p e below _ T222 (mkF m 16 #[.val (.ref ar), .val (.int 0), .val (.int nn)] [(.ref b222)])
    have sz224 : h.size ≤ b222 := Nat.le_trans (Keep.refl h []).1 g222
    have kp225 := (Keep.refl h []).ext E222
    exact g_retA C X222 rfl rfl d33_16 (by decide) (by decide) ⟨b222, rfl, n_b222, sz224, keep_ext kp225, V222⟩
theorem ef_rI2 (m : MethodId) (x : Addr) (sb : Addr) : entryFrame m #[(.ref x), (.ref sb), .null] 5 = mkF m 0 #[.val (.ref x), .val (.ref sb), .val .null, .unset, .unset] [] := by first | (simp [entryFrame, mkF, argsToLocals, Value.category]; done) | rfl
theorem d29_0 : Dc jdk_42_method_150_code 0 (.aload_n 0) 1 1 := ⟨by decide +kernel, rfl⟩
theorem d29_1 : Dc jdk_42_method_150_code 1 (.invokespecial 1) 3 4 := ⟨by decide +kernel, rfl⟩
theorem d29_4 : Dc jdk_42_method_150_code 4 (.aload_n 1) 1 5 := ⟨by decide +kernel, rfl⟩
theorem d29_5 : Dc jdk_42_method_150_code 5 (.invokevirtual 552) 3 8 := ⟨by decide +kernel, rfl⟩
theorem pd_16 : parseMethodDescriptor "()[B" = some ⟨[], some (.array .byte)⟩ := by decide +kernel
theorem d29_8 : Dc jdk_42_method_150_code 8 (.astore_n 3) 1 9 := ⟨by decide +kernel, rfl⟩
theorem d29_9 : Dc jdk_42_method_150_code 9 (.aload_n 1) 1 10 := ⟨by decide +kernel, rfl⟩
theorem d29_10 : Dc jdk_42_method_150_code 10 (.invokevirtual 549) 3 13 := ⟨by decide +kernel, rfl⟩
theorem d29_13 : Dc jdk_42_method_150_code 13 (.istore 4) 2 15 := ⟨by decide +kernel, rfl⟩
theorem d29_15 : Dc jdk_42_method_150_code 15 (.aload_n 1) 1 16 := ⟨by decide +kernel, rfl⟩
theorem d29_16 : Dc jdk_42_method_150_code 16 (.invokevirtual 1047) 3 19 := ⟨by decide +kernel, rfl⟩
theorem d29_19 : Dj jdk_42_method_150_code 19 (.ifCond .eq 22) 22 3 22 41 := ⟨by decide +kernel, rfl, by decide, by decide⟩
theorem d29_22 : Dc jdk_42_method_150_code 22 (.aload_n 0) 1 23 := ⟨by decide +kernel, rfl⟩
theorem d29_23 : Dc jdk_42_method_150_code 23 (.iconst 0) 1 24 := ⟨by decide +kernel, rfl⟩
theorem d29_24 : Dc jdk_42_method_150_code 24 (.putfield 15) 3 27 := ⟨by decide +kernel, rfl⟩
theorem d29_27 : Dc jdk_42_method_150_code 27 (.aload_n 0) 1 28 := ⟨by decide +kernel, rfl⟩
theorem d29_28 : Dc jdk_42_method_150_code 28 (.aload_n 3) 1 29 := ⟨by decide +kernel, rfl⟩
theorem d29_29 : Dc jdk_42_method_150_code 29 (.iconst 0) 1 30 := ⟨by decide +kernel, rfl⟩
theorem d29_30 : Dc jdk_42_method_150_code 30 (.iload 4) 2 32 := ⟨by decide +kernel, rfl⟩
theorem d29_32 : Dc jdk_42_method_150_code 32 (.invokestatic 54) 3 35 := ⟨by decide +kernel, rfl⟩
theorem d29_35 : Dc jdk_42_method_150_code 35 (.putfield 9) 3 38 := ⟨by decide +kernel, rfl⟩
theorem d29_38 : Dj jdk_42_method_150_code 38 (.goto 59) 59 3 41 97 := ⟨by decide +kernel, rfl, by decide, by decide⟩
theorem d29_97 : Dc jdk_42_method_150_code 97 (.return_) 1 98 := ⟨by decide +kernel, rfl⟩
theorem rI2 (l : Launch) {Z : State} {a0 : Array Value} (hw : ∀ d ∈ tables_1, d.before a0 Z = true) {h : Heap} (hE : Ext Z.heap h) (x : Addr) (sb : Addr) (ar : Addr) (cn cp : Int32) (z_ : Int32) (SZ : Sta Z Z.heap "java/lang/String" "COMPACT_STRINGS" "Z" (.int z_)) (hz : ¬ z_ = 0) (EX : Exa Z h x "java/lang/String") (XC : Fld Z h x "java/lang/String" "coder" "B" (.int (0 : Int32))) (XV : Fld Z h x "java/lang/String" "value" "[B" .null) (nx : Z.heap.size ≤ x) (EB : Exa Z h sb "java/lang/StringBuilder") (FC : Fld Z h sb "java/lang/AbstractStringBuilder" "coder" "B" (.int (0 : Int32))) (FV : Fld Z h sb "java/lang/AbstractStringBuilder" "value" "[B" (.ref ar)) (FN : Fld Z h sb "java/lang/AbstractStringBuilder" "count" "I" (.int cn)) (VA : By Z h ar cp) (nb : Z.heap.size ≤ sb) (na : Z.heap.size ≤ ar) (c1 : 0 ≤ cn.toInt) (c2 : cn.toInt ≤ cp.toInt) (c3 : cp.toInt ≤ 200) :
    Con l (⟨"java/lang/String", "<init>", "(Ljava/lang/AbstractStringBuilder;Ljava/lang/Void;)V"⟩ : MethodName) jdk_42_method_150_code 5 none [] ({ frames := 3, cells := 1, slots := 200, locals := 72 } : Room) Z #[(.ref x), (.ref sb), .null] h (fun v' h' => v' = none ∧ Keep h h' [x] ∧ Exa Z h' x "java/lang/String" ∧ Fld Z h' x "java/lang/String" "coder" "B" (.int (0 : Int32)) ∧ ∃ tq : Addr, h.size ≤ tq ∧ Fld Z h' x "java/lang/String" "value" "[B" (.ref tq) ∧ ByS Z h' tq cn) := by
  refine con_of (plainFor_of_name pn_1) hE (fun m => ef_rI2 m x sb) ?_
  intro p e s m below meth c T0 C X0
  have C : Cx p s m meth c Z "java/lang/String" "<init>" jdk_42_method_150_code 5 none := C
  show Goes p e below _ T0 (mkF m 0 #[.val (.ref x), .val (.ref sb), .val .null, .unset, .unset] [])
  have ne226 : sb ≠ ar := Exa.ne EB VA.2 (by decide)
  refine g_aloadN C X0 d29_0 rfl rfl ?_
  refine g_initO C X0 (wd hw 173 rfl) (wd hw 12 rfl) (wd hw 13 rfl) rfl d29_1 (by decide) 0 (Nat.le_of_eq rfl) (by decide) (fun T227 X227 => ?_)
  refine g_aloadN C X227 d29_4 rfl rfl ?_
  refine g_virtualP (argsL := []) (st := []) C X227 (wd hw 174 rfl) (wd hw 175 rfl) (own_nf C.hZ (wd hw 129 rfl) rfl) (wd hw 177 rfl) (wd hw 176 rfl) (by decide) EB (pay_of (W' := 0) (rGV l hw X227.ext sb ar FV) C.hZ (wd hw 178 rfl) (wd hw 51 rfl) (by decide) (by decide)) pd_16 rfl rfl _ rfl (Nat.le_of_eq rfl) d29_5 (by decide) (by decide) (fun T228 X228 => ?_)
  refine g_astoreN C X228 d29_8 rfl (l' := #[.val (.ref x), .val (.ref sb), .val .null, .val (.ref ar), .unset]) rfl ?_
  refine g_aloadN C X228 d29_9 rfl rfl ?_
  refine g_virtualP (argsL := []) (st := []) C X228 (wd hw 179 rfl) (wd hw 180 rfl) (own_nf C.hZ (wd hw 129 rfl) rfl) (wd hw 182 rfl) (wd hw 183 rfl) (by decide) EB (pay_of (W' := 0) (rBL l hw X228.ext sb cn EB FN) C.hZ (wd hw 184 rfl) (wd hw 43 rfl) (by decide) (by decide)) pd_2 rfl rfl _ rfl (Nat.le_of_eq rfl) d29_10 (by decide) (by decide) (fun T229 X229 => ?_)
  refine g_istore C X229 d29_13 (l' := #[.val (.ref x), .val (.ref sb), .val .null, .val (.ref ar), .val (.int cn)]) rfl ?_
  refine g_aloadN C X229 d29_15 rfl rfl ?_
  refine g_virtualP (argsL := []) (st := []) C X229 (wd hw 187 rfl) (wd hw 127 rfl) (own_nf C.hZ (wd hw 129 rfl) rfl) (wd hw 129 rfl) (wd hw 128 rfl) (by decide) EB (pay_of (W' := 0) (rLat l hw X229.ext sb z_ SZ hz FC) C.hZ (wd hw 130 rfl) (wd hw 51 rfl) (by decide) (by decide)) pd_11 rfl rfl _ rfl (Nat.le_of_eq rfl) d29_16 (by decide) (by decide) (fun T230 X230 => ?_)
  refine g_if (h0_eq _) C X230 d29_19 (fun q => absurd q (by decide)) (fun _ => ?_)
  refine g_aloadN C X230 d29_22 rfl rfl ?_
  refine g_iconst 0 C X230 d29_23 rfl ?_
  refine g_putfield (host := "") C X230 (Or.inl (wd hw 85 rfl)) Via.refl XC EX (Or.inr ⟨(wd hw 35 rfl), rfl, rfl⟩) (wd hw 32 rfl) (ty := .byte) (by decide) rfl rfl nx d29_24 (fun T231 h231 X231 W231 => ?_)
  have f231 := Fld.same W231 XC
  refine g_aloadN C X231 d29_27 rfl rfl ?_
  refine g_aloadN C X231 d29_28 rfl rfl ?_
  refine g_iconst 0 C X231 d29_29 rfl ?_
  refine g_iload C X231 d29_30 rfl ?_
  have f232 := (By.other VA W231 (Ne.symm (Exa.ne EX VA.2 (by decide))))
  refine g_static (argsL := [(.ref ar), (.int 0), (.int cn)]) (st := [(.ref x)]) C X231 (wd hw 188 rfl) (wd hw 189 rfl) (wd hw 154 rfl) (wd hw 190 rfl) (by decide) (pay_of (W' := 1) (rCR l hw X231.ext ar cn cp f232 c1 c2 c3) C.hZ (wd hw 190 rfl) (wd hw 154 rfl) (by decide) (by decide)) pd_15 rfl rfl _ rfl (Nat.le_of_eq rfl) d29_32 (by decide) (by decide) (fun T233 h233 v233 q233 X233 => ?_)
  obtain ⟨b233, rfl, n_b233, g233, E233, V233⟩ := q233
  have f235 := (Exa.wr W231 EB)
  have lt234 : sb < b233 := Nat.lt_of_lt_of_le (Exa.lt f235) g233
  have lt236 : ar < b233 := Nat.lt_of_lt_of_le (By.lt f232) g233
  have f238 := (Exa.wr W231 EX)
  have lt237 : x < b233 := Nat.lt_of_lt_of_le (Exa.lt f238) g233
  show Goes p e below _ T233 (mkF m 35 #[.val (.ref x), .val (.ref sb), .val .null, .val (.ref ar), .val (.int cn)] [(.ref b233), (.ref x)])
  have f239 := (Fld.ext E233 (Fld.other W231 XV (Or.inr (slot_ne (Or.inr (wd hw 34 rfl)) (Or.inr (wd hw 35 rfl)) (by decide) (t := (.array .byte)) (t' := .byte) (by decide) (by decide)))))
  have f240 := (Exa.ext E233 f238)
  refine g_putfield (host := "") C X233 (Or.inl (wd hw 78 rfl)) Via.refl f239 f240 (Or.inr ⟨(wd hw 34 rfl), rfl, rfl⟩) (wd hw 32 rfl) (ty := (.array .byte)) (by decide) rfl rfl nx d29_35 (fun T241 h241 X241 W241 => ?_)
  have f241 := Fld.same W241 f239
  refine g_goto C X241 d29_38 ?_
  have kp242 := (Keep.refl h [x]).wr W231 (Or.inl (by simp))
  have sz243 : h.size ≤ b233 := Nat.le_trans kp242.1 g233
  have kp244 := kp242.ext E233
  have kp245 := kp244.wr W241 (Or.inl (by simp))
  have f246 := (Exa.wr W241 f240)
  have f247 := (Fld.other W241 (Fld.ext E233 f231) (Or.inr (slot_ne (Or.inr (wd hw 35 rfl)) (Or.inr (wd hw 34 rfl)) (by decide) (t := .byte) (t' := (.array .byte)) (by decide) (by decide))))
  have f248 := (By.other V233 W241 (Nat.ne_of_gt lt237))
  exact g_retV C X241 d29_97 (by decide) (by decide) ⟨rfl, kp245, f246, f247, b233, sz243, f241, By.toS f248⟩
theorem ef_rI1s (m : MethodId) (x : Addr) (sb : Addr) : entryFrame m #[(.ref x), (.ref sb)] 2 = mkF m 0 #[.val (.ref x), .val (.ref sb)] [] := by first | (simp [entryFrame, mkF, argsToLocals, Value.category]; done) | rfl
theorem d28_0 : Dc jdk_42_method_53_code 0 (.aload_n 0) 1 1 := ⟨by decide +kernel, rfl⟩
theorem d28_1 : Dc jdk_42_method_53_code 1 (.aload_n 1) 1 2 := ⟨by decide +kernel, rfl⟩
theorem d28_2 : Dc jdk_42_method_53_code 2 (.aconst_null) 1 3 := ⟨by decide +kernel, rfl⟩
theorem d28_3 : Dc jdk_42_method_53_code 3 (.invokespecial 489) 3 6 := ⟨by decide +kernel, rfl⟩
theorem pd_17 : parseMethodDescriptor "(Ljava/lang/AbstractStringBuilder;Ljava/lang/Void;)V" = some ⟨[(.object "java/lang/AbstractStringBuilder"), (.object "java/lang/Void")], none⟩ := by decide +kernel
theorem d28_6 : Dc jdk_42_method_53_code 6 (.return_) 1 7 := ⟨by decide +kernel, rfl⟩
theorem rI1s (l : Launch) {Z : State} {a0 : Array Value} (hw : ∀ d ∈ tables_1, d.before a0 Z = true) {h : Heap} (hE : Ext Z.heap h) (x : Addr) (sb : Addr) (ar : Addr) (cn cp : Int32) (z_ : Int32) (SZ : Sta Z Z.heap "java/lang/String" "COMPACT_STRINGS" "Z" (.int z_)) (hz : ¬ z_ = 0) (EX : Exa Z h x "java/lang/String") (XC : Fld Z h x "java/lang/String" "coder" "B" (.int (0 : Int32))) (XV : Fld Z h x "java/lang/String" "value" "[B" .null) (nx : Z.heap.size ≤ x) (EB : Exa Z h sb "java/lang/StringBuilder") (FC : Fld Z h sb "java/lang/AbstractStringBuilder" "coder" "B" (.int (0 : Int32))) (FV : Fld Z h sb "java/lang/AbstractStringBuilder" "value" "[B" (.ref ar)) (FN : Fld Z h sb "java/lang/AbstractStringBuilder" "count" "I" (.int cn)) (VA : By Z h ar cp) (nb : Z.heap.size ≤ sb) (na : Z.heap.size ≤ ar) (c1 : 0 ≤ cn.toInt) (c2 : cn.toInt ≤ cp.toInt) (c3 : cp.toInt ≤ 200) :
    Con l (⟨"java/lang/String", "<init>", "(Ljava/lang/StringBuilder;)V"⟩ : MethodName) jdk_42_method_53_code 2 none [] ({ frames := 4, cells := 1, slots := 200, locals := 96 } : Room) Z #[(.ref x), (.ref sb)] h (fun v' h' => v' = none ∧ Keep h h' [x] ∧ Exa Z h' x "java/lang/String" ∧ Fld Z h' x "java/lang/String" "coder" "B" (.int (0 : Int32)) ∧ ∃ tq : Addr, h.size ≤ tq ∧ Fld Z h' x "java/lang/String" "value" "[B" (.ref tq) ∧ ByS Z h' tq cn) := by
  refine con_of (plainFor_of_name pn_1) hE (fun m => ef_rI1s m x sb) ?_
  intro p e s m below meth c T0 C X0
  have C : Cx p s m meth c Z "java/lang/String" "<init>" jdk_42_method_53_code 2 none := C
  show Goes p e below _ T0 (mkF m 0 #[.val (.ref x), .val (.ref sb)] [])
  have ne249 : sb ≠ ar := Exa.ne EB VA.2 (by decide)
  refine g_aloadN C X0 d28_0 rfl rfl ?_
  refine g_aloadN C X0 d28_1 rfl rfl ?_
  refine g_aconst_null C X0 d28_2 ?_
  refine g_special (argsL := [(.ref sb), .null]) (st := []) C X0 rfl (wd hw 170 rfl) (wd hw 171 rfl) (wd hw 172 rfl) (by decide) (pay_of (W' := 0) (rI2 l hw X0.ext x sb ar cn cp z_ SZ hz EX XC XV nx EB FC FV FN VA nb na c1 c2 c3) C.hZ (wd hw 172 rfl) (wd hw 31 rfl) (by decide) (by decide)) pd_17 rfl rfl _ rfl (Nat.le_of_eq rfl) d28_3 (by decide) (by decide) (fun T250 h250 v250 q250 X250 => ?_)
  obtain ⟨rfl, K250, EX250, XC250, t250, g250, XV250, VT250⟩ := q250
  show Goes p e below _ T250 (mkF m 6 #[.val (.ref x), .val (.ref sb)] [])
  have kp251 := (Keep.refl h [x]).trans K250 (allS (Or.inl (by simp)) all0)
  exact g_retV C X250 d28_6 (by decide) (by decide) ⟨rfl, kp251, EX250, XC250, t250, g250, XV250, VT250⟩
theorem ef_rTS (m : MethodId) (sb : Addr) : entryFrame m #[(.ref sb)] 1 = mkF m 0 #[.val (.ref sb)] [] := by first | (simp [entryFrame, mkF, argsToLocals, Value.category]; done) | rfl
theorem d27_0 : Dc jdk_67_method_42_code 0 (.new 18) 3 3 := ⟨by decide +kernel, rfl⟩
theorem d27_3 : Dc jdk_67_method_42_code 3 (.dup) 1 4 := ⟨by decide +kernel, rfl⟩
theorem d27_4 : Dc jdk_67_method_42_code 4 (.aload_n 0) 1 5 := ⟨by decide +kernel, rfl⟩
theorem d27_5 : Dc jdk_67_method_42_code 5 (.invokespecial 137) 3 8 := ⟨by decide +kernel, rfl⟩
theorem pd_18 : parseMethodDescriptor "(Ljava/lang/StringBuilder;)V" = some ⟨[(.object "java/lang/StringBuilder")], none⟩ := by decide +kernel
theorem d27_8 : Dc jdk_67_method_42_code 8 (.areturn) 1 9 := ⟨by decide +kernel, rfl⟩
theorem rTS (l : Launch) {Z : State} {a0 : Array Value} (hw : ∀ d ∈ tables_1, d.before a0 Z = true) {h : Heap} (hE : Ext Z.heap h) (sb : Addr) (ar : Addr) (cn cp : Int32) (z_ : Int32) (SZ : Sta Z Z.heap "java/lang/String" "COMPACT_STRINGS" "Z" (.int z_)) (hz : ¬ z_ = 0) (EB : Exa Z h sb "java/lang/StringBuilder") (FC : Fld Z h sb "java/lang/AbstractStringBuilder" "coder" "B" (.int (0 : Int32))) (FV : Fld Z h sb "java/lang/AbstractStringBuilder" "value" "[B" (.ref ar)) (FN : Fld Z h sb "java/lang/AbstractStringBuilder" "count" "I" (.int cn)) (VA : By Z h ar cp) (nb : Z.heap.size ≤ sb) (na : Z.heap.size ≤ ar) (c1 : 0 ≤ cn.toInt) (c2 : cn.toInt ≤ cp.toInt) (c3 : cp.toInt ≤ 200) :
    Con l (⟨"java/lang/StringBuilder", "toString", "()Ljava/lang/String;"⟩ : MethodName) jdk_67_method_42_code 1 (some (.object "java/lang/String")) [] ({ frames := 5, cells := 2, slots := 204, locals := 120 } : Room) Z #[(.ref sb)] h (fun v' h' => ∃ (sq tq : Addr), v' = some (.ref sq) ∧ Ext h h' ∧ Exa Z h' sq "java/lang/String" ∧ Fld Z h' sq "java/lang/String" "coder" "B" (.int (0 : Int32)) ∧ Fld Z h' sq "java/lang/String" "value" "[B" (.ref tq) ∧ ByS Z h' tq cn) := by
  refine con_of (plainFor_of_name pn_3) hE (fun m => ef_rTS m sb) ?_
  intro p e s m below meth c T0 C X0
  have C : Cx p s m meth c Z "java/lang/StringBuilder" "toString" jdk_67_method_42_code 1 (some (.object "java/lang/String")) := C
  show Goes p e below _ T0 (mkF m 0 #[.val (.ref sb)] [])
  have ne252 : sb ≠ ar := Exa.ne EB VA.2 (by decide)
  refine g_new C X0 (wd hw 165 rfl) (wd hw 32 rfl) (wd hw 31 rfl) d27_0 (by decide) (by decide) (fun T253 h253 b253 g_b253 n_b253 X253 E253 A253 D253 M253 => ?_)
  have lt254 : sb < b253 := by rw [g_b253]; exact Exa.lt EB
  have lt255 : ar < b253 := by rw [g_b253]; exact By.lt VA
  have F_value_b253 : Fld Z h253 b253 "java/lang/String" "value" "[B" .null := D253 (Or.inr (wd hw 34 rfl)) (ty := (.array .byte)) (by decide)
  have F_coder_b253 : Fld Z h253 b253 "java/lang/String" "coder" "B" (.int 0) := D253 (Or.inr (wd hw 35 rfl)) (ty := .byte) (by decide)
  refine g_dup C X253 d27_3 rfl ?_
  refine g_aloadN C X253 d27_4 rfl rfl ?_
  have f256 := (Exa.ext E253 EB)
  have f257 := (Fld.ext E253 FC)
  have f258 := (Fld.ext E253 FV)
  have f259 := (Fld.ext E253 FN)
  have f260 := (By.ext VA E253)
  refine g_special (argsL := [(.ref sb)]) (st := [(.ref b253)]) C X253 rfl (wd hw 166 rfl) (wd hw 167 rfl) (wd hw 169 rfl) (by decide) (pay_of (W' := 1) (rI1s l hw X253.ext b253 sb ar cn cp z_ SZ hz A253 F_coder_b253 F_value_b253 n_b253 f256 f257 f258 f259 f260 nb na c1 c2 c3) C.hZ (wd hw 169 rfl) (wd hw 31 rfl) (by decide) (by decide)) pd_18 rfl rfl _ rfl (Nat.le_of_eq rfl) d27_5 (by decide) (by decide) (fun T261 h261 v261 q261 X261 => ?_)
  obtain ⟨rfl, K261, EX261, XC261, t261, g261, XV261, VT261⟩ := q261
  show Goes p e below _ T261 (mkF m 8 #[.val (.ref sb)] [(.ref b253)])
  have sz262 : h.size ≤ b253 := by rw [g_b253]; exact (Keep.refl h []).1
  have kp263 := (Keep.refl h []).ext E253
  have kp264 := kp263.trans K261 (allS (Or.inr sz262) all0)
  exact g_retA C X261 rfl rfl d27_8 (by decide) (by decide) ⟨b253, t261, rfl, keep_ext kp264, EX261, XC261, XV261, VT261⟩
theorem own_old {Z s U : State} {L : List Loc} {cells slots : Nat} (hs : s.sameButNew (U.setVm s.vm) L cells slots) (hE : Ext Z.heap s.heap) (N : Fr Z.heap.size L) : Ext Z.heap U.heap := by
  obtain ⟨-, b1, -, -, -, b5⟩ := hs
  refine ⟨Nat.le_trans hE.1 b1, fun x cl hx => ?_⟩
  obtain ⟨c', q1, q2, q3, q4⟩ := b5 x cl (hE.2 x cl hx)
  have hlt : x < Z.heap.size := (Array.getElem?_eq_some_iff.mp hx).1
  have e : c'.slots = cl.slots := Array.ext_getElem? fun i => q4 i fun hm => absurd hlt (Nat.not_lt.mpr (N _ hm))
  rw [e] at q2
  have q5 : c' = cl := q2
  rw [← q5]; exact q1
/-- Throwable's tables, where no word says that an object of Throwable itself lays out 'suppressedExceptions': one of the class rc does -/
theorem own_thr {args : Array Value} {s : State} {pl : Platform} {rc : String} (hrc : rc ≠ tN) (h1 : pl.frameOwnsMonitors = true) (h2 : pl.finalization = false) (h3 : pl.magicAccessors = ({} : Platform).magicAccessors)
    (W : ∀ d ∈ Jvm.Free.Exc.excAtoms rc, d ≠ Jvm.Cond.lays tN tN "suppressedExceptions" Bundle.listD → d.before args s = true) :
    ∃ T : ThrowableC, T.Links pl s ∧ s.vm.findClass tN = some T.cT ∧ s.methodNamed? tFill = some T.fill ∧ s.methodNamed? tFill0 = some T.fill0 ∧ s.fieldFound? tN "stackTrace" Bundle.steD = some (T.cT, T.kT, T.i17, T.fStack) ∧ s.fieldFound? tN "UNASSIGNED_STACK" Bundle.steD = some (T.cT, T.kT, T.i13, T.fUnassigned) ∧ T.fStack.type = .array (.object "java/lang/StackTraceElement") ∧ T.fStack.name = "stackTrace" := by
  have w : ∀ d : Jvm.Cond, (d ∈ Jvm.Free.Exc.excAtoms rc ∧ d ≠ Jvm.Cond.lays tN tN "suppressedExceptions" Bundle.listD) → d.holds args s none s [] = true := fun d hd => W d hd.1 hd.2
  obtain ⟨⟨c, i0⟩, x0, n0, -, -, -⟩ := Cond.instanceMethod_spec (w (.instanceMethod tFill) (by simp [Jvm.Free.Exc.excAtoms, throwableAtoms]))
  have hc : s.vm.findClass tN = some c := findClass_of_methodNamed n0
  clear n0
  obtain ⟨k, hk, hnm⟩ := Vm.findClass_spec hc
  obtain ⟨_, kk, _, _, hkk, _, _, _, _, hni⟩ := Cond.superclass_spec hc (w (.superclass tN "java/lang/Object") (by simp [Jvm.Free.Exc.excAtoms, throwableAtoms]))
  cases hk.symm.trans hkk
  -- its fields, each by its own entry; 'suppressedExceptions' by rc's word
  obtain ⟨ci7, i7, f7, a7, b7, c7, s7, t7, n7, -, -⟩ := Cond.ownField (t := .object tN) hc hk (by decide +kernel) (w (.fieldLink tN 7 tN "cause" "Ljava/lang/Throwable;") (by simp [Jvm.Free.Exc.excAtoms, throwableAtoms])) (w (.lays rc tN "cause" "Ljava/lang/Throwable;") (by simp [Jvm.Free.Exc.excAtoms, throwableAtoms])) pl h3
  obtain ⟨ci17, i17, f17, a17, b17, c17, s17, t17, n17, y17, f17f⟩ := Cond.ownField (t := .array (.object "java/lang/StackTraceElement")) hc hk (by decide +kernel) (w (.fieldLink tN 17 tN "stackTrace" Bundle.steD) (by simp [Jvm.Free.Exc.excAtoms, throwableAtoms])) (w (.lays rc tN "stackTrace" Bundle.steD) (by simp [Jvm.Free.Exc.excAtoms, throwableAtoms])) pl h3
  obtain ⟨ci24, i24, f24, a24, b24, c24, s24, t24, n24, -, f24f⟩ := Cond.ownField (t := .object "java/util/List") hc hk (by decide +kernel) (w (.fieldLink tN 24 tN "suppressedExceptions" Bundle.listD) (by simp [Jvm.Free.Exc.excAtoms, throwableAtoms])) (w (.lays rc tN "suppressedExceptions" Bundle.listD) (by simp [Jvm.Free.Exc.excAtoms, throwableAtoms, hrc])) pl h3
  obtain ⟨_, _, _, _, iM, fM, hcR, hkR, _, sM, tM, _⟩ := Cond.lays_spec (w (.lays rc tN "detailMessage" "Ljava/lang/String;") (by simp [Jvm.Free.Exc.excAtoms, throwableAtoms]))
  obtain ⟨-, dS, hdS, hnS⟩ := Cond.laysAt hcR hkR f17f (w (.lays rc tN "stackTrace" Bundle.steD) (by simp [Jvm.Free.Exc.excAtoms, throwableAtoms]))
  obtain ⟨-, dP, hdP, hnP⟩ := Cond.laysAt hcR hkR f24f (w (.lays rc tN "suppressedExceptions" Bundle.listD) (by simp [Jvm.Free.Exc.excAtoms, throwableAtoms, hrc]))
  have apart := Cond.laysApart hdS hdP hnS hnP (by rw [n17, n24]; decide)
  obtain ⟨ci13, i13, f13, aS, cS, a13, b13, c13, s13, -, -, hsta, -, -, -, -, f13f⟩ := Cond.ownStatic (t := .array (.object "java/lang/StackTraceElement")) hc hk (by decide +kernel) (w (.fieldLink tN 13 tN "UNASSIGNED_STACK" Bundle.steD) (by simp [Jvm.Free.Exc.excAtoms, throwableAtoms])) (w (.laysStatic tN "UNASSIGNED_STACK" Bundle.steD) (by simp [Jvm.Free.Exc.excAtoms, throwableAtoms])) pl h3
  obtain ⟨ci20, i20, f20, _, _, a20, b20, c20, s20, -⟩ := Cond.ownStatic (t := .object "java/util/List") hc hk (by decide +kernel) (w (.fieldLink tN 20 tN "SUPPRESSED_SENTINEL" Bundle.listD) (by simp [Jvm.Free.Exc.excAtoms, throwableAtoms])) (w (.laysStatic tN "SUPPRESSED_SENTINEL" Bundle.listD) (by simp [Jvm.Free.Exc.excAtoms, throwableAtoms])) pl h3
  -- its methods
  obtain ⟨iF, xF, nF, mF, aF, sF, bF, -, -⟩ := Cond.ownMethod (x := tFill) hc hk (w (.instanceMethod tFill) (by simp [Jvm.Free.Exc.excAtoms, throwableAtoms]))
  obtain ⟨yF, cF, mF', eF, bcF, mlF, rtF, lkF, -, sgF⟩ := Cond.codeSync_spec nF (w (.codeSync tFill LibCode.Throwable.Fill.code 1 (some (.object tN))) (by simp [Jvm.Free.Exc.excAtoms, throwableAtoms]))
  cases mF.symm.trans mF'
  obtain ⟨iG, xG, nG, mG, aG, sG, bG, nmG, dsG⟩ := Cond.ownMethod (x := tFill0) hc hk (w (.instanceMethod tFill0) (by simp [Jvm.Free.Exc.excAtoms, throwableAtoms]))
  obtain ⟨_, yG, nG', mG', natG, cdG, lkG, sgG⟩ := Cond.native_spec (w (.native tFill0) (by simp [Jvm.Free.Exc.excAtoms, throwableAtoms]))
  cases nG.symm.trans nG'
  cases mG.symm.trans mG'
  obtain ⟨iZ, xZ, nZ, mZ, -, -, -, -, -⟩ := Cond.ownMethod (x := tInit0) hc hk (w (.instanceMethod tInit0) (by simp [Jvm.Free.Exc.excAtoms, throwableAtoms]))
  obtain ⟨yZ, cZ, -, -, -, -, -, -, -, -⟩ := Cond.code_spec nZ (w (.code tInit0 LibCode.Throwable.Init0.code 1 none) (by simp [Jvm.Free.Exc.excAtoms, throwableAtoms]))
  obtain ⟨mO, xO, nO, hmO, sO, bO⟩ := Cond.instanceMethod_spec (w (.instanceMethod oInit) (by simp [Jvm.Free.Exc.excAtoms, throwableAtoms]))
  obtain ⟨yO, cO, hmO', eO, bcO, -, -, lkO, -, sgO⟩ := Cond.code_spec nO (w (.code oInit ⟨#[0xb1]⟩ 1 none) (by simp [Jvm.Free.Exc.excAtoms, throwableAtoms]))
  cases hmO.symm.trans hmO'
  obtain ⟨kO, hkO, hnO⟩ := Vm.findClass_spec (findClass_of_methodNamed nO)
  obtain ⟨nmO, dsO⟩ := name_of_methodNamed nO hmO
  obtain ⟨ci1, e1, cf, l1, r1, hcf, p1⟩ := Cond.linkedMethod hc hk nO (w (.methodLink tN 1 oInit) (by simp [Jvm.Free.Exc.excAtoms, throwableAtoms])) pl h3
  obtain ⟨ci27, e27, cf2, l27, r27, hcf2, p27⟩ := Cond.linkedMethod hc hk nF (w (.methodLink tN 27 tFill) (by simp [Jvm.Free.Exc.excAtoms, throwableAtoms])) pl h3
  cases hcf.symm.trans hcf2
  obtain ⟨ci202, e202, cf3, l202, r202, hcf3, p202⟩ := Cond.linkedMethod hc hk nG (w (.methodLink tN 202 tFill0) (by simp [Jvm.Free.Exc.excAtoms, throwableAtoms])) pl h3
  cases hcf.symm.trans hcf3
  have qF : xF.sig.parameters = [] := by
    have z : parseMethodDescriptor tFill.desc = some ⟨[], some (.object tN)⟩ := by decide +kernel
    rw [z] at sgF; rw [← Option.some.inj sgF]
  have qG : xG.sig.parameters = [.int] := by
    have z : parseMethodDescriptor tFill0.desc = some ⟨[.int], some (.object tN)⟩ := by decide +kernel
    rw [z] at sgG; rw [← Option.some.inj sgG]
  have qO : xO.sig.parameters.length = 0 := by
    have z : parseMethodDescriptor oInit.desc = some ⟨[], none⟩ := by decide +kernel
    rw [z] at sgO; rw [← Option.some.inj sgO]; rfl
  let T : ThrowableC := { cT := c, kT := k, cO := c, aS := aS, fillIdx := iF, fill0Idx := iG, initSIdx := iZ, obj := mO, kObj := kO, methFill := xF, methFill0 := xG, methInitS := xZ, methObj := xO, codeFill := cF, codeInitS := cZ, codeObj := cO, fBack := f17, fDepth := f17, fStack := f17, fCause := f7, fSupp := f24, fMsg := fM, fUnassigned := f13, fSentinel := f20, cfT := cf, ci1 := ci1, n1 := e1, ci27 := ci27, n27 := e27, ci202 := ci202, n202 := e202, ci7 := ci7, i7 := i7, ci13 := ci13, i13 := i13, ci17 := ci17, i17 := i17, ci20 := ci20, i20 := i20, ci24 := ci24, i24 := i24 }
  refine ⟨T, ?_, hc, nF, nG, f17f, f13f, y17, n17⟩
  exact { owns := h1, noFinalization := h2, cls := hk, name := hnm, boot := Vm.findClass_boot hc hk, notInterface := hni, initialized := Cond.initialized_spec hc hk (w (.initialized tN) (by simp [Jvm.Free.Exc.excAtoms, throwableAtoms])), statics := hsta, file := hcf,
          fillAt := aF, fillCode := eF, fillBytes := bcF, fillLocals := mlF, fillLocks := lkF, fillStatic := sF, fillAbstract := bF, fillReturns := rtF, fillParams := qF, fill0At := aG, fill0Name := nmG, fill0Desc := dsG, fill0Params := qG, fill0Static := sG, fill0Native := natG, fill0Code := cdG, fill0Locks := lkG, fill0Abstract := bG,
          objClass := hkO, objClassName := hnO, objMethod := hmO, objName := nmO, objStatic := sO, objAbstract := bO, objFound := by show lookupSpecial s.vm mO.cls "<init>" xO.desc = _; rw [dsO]; exact lookupSpecial_of_named nO hmO sO, objParams := qO, objCode := eO, objBytes := bcO, objLocks := lkO,
          stackInstance := s17, stackNotFinal := t17, unassignedStatic := s13, causeInstance := s7, causeNotFinal := t7, sentinelStatic := s20, suppInstance := s24, suppNotFinal := t24, msgInstance := sM, msgNotFinal := tM, stackApartSupp := apart,
          mlink1 := l1, mright1 := r1, pool1 := p1, mlink27 := l27, mright27 := r27, pool27 := p27, mlink202 := l202, mright202 := r202, pool202 := p202,
          link7 := a7, right7 := b7, at7 := c7, link13 := a13, right13 := b13, at13 := c13, link17 := a17, right17 := b17, at17 := c17, link20 := a20, right20 := b20, at20 := c20, link24 := a24, right24 := b24, at24 := c24 }
section OwnFill
variable {p : Program} {l : Launch} {e : Env} {R : Room} {s : State} {m : MethodId} {A : Array Value} {below : List Frame} {meth : Method} {c : Code} {T : State} {cells slots : Nat} {Z : State} {a0 : Array Value} {h h' : Heap} {own nm : String} {bytes : ByteArray} {maxL : Nat} {ret : Option FieldType} {W : Outcome → State → Prop} {pc pc' tgt : Nat} {Ls : Array Slot} {st : List Value} {EL : List (String × Nat)} {vm0 : Vm}
/-- 'invokevirtual fillInStackTrace()' in a constructor of Throwable, on an object that the walk made -/
theorem g_fill {rc : String} {kk : Nat} {a : Addr} {u : Value} (C : Cx p s m meth c Z "java/lang/Throwable" nm bytes maxL ret) (X : St p l e R s m A below meth c Z T h cells slots) (hrc : rc ≠ tN) (hl : l.stackTraces = true)
    (Wd : ∀ d ∈ Jvm.Free.Exc.excAtoms rc, d ≠ Jvm.Cond.lays tN tN "suppressedExceptions" Bundle.listD → d.before a0 Z = true) (wi : (Jvm.Cond.instantiable rc kk).before a0 Z = true) (hE0 : Ext Z.heap s.heap) (hK : s.vm.MethodsKnown ∧ s.vm.FramesKnown below)
    (Ex : Exa Z h a rc) (N : Unt h a) (FS : Fld Z h a tN "stackTrace" Bundle.steD u) (FB : Fld Z h a tN "backtrace" "Ljava/lang/Object;" .null) (FM : Fld Z h a tN "detailMessage" "Ljava/lang/String;" .null) (SU : Sta Z Z.heap tN "UNASSIGNED_STACK" Bundle.steD u) (hu : u.isRef = true) (hnew : Z.heap.size ≤ a)
    (hsz : Ls.size = maxL) (d : Dc bytes pc (.invokevirtual 27) 3 pc') (hf : 3 ≤ R.frames) (hlo : (st.map fun v => v.category).sum + 42 ≤ R.locals) (hc : cells + 1 ≤ R.cells) (hs : slots + 2752 ≤ R.slots)
    (K : ∀ T' h', St p l e R s m A below meth c Z T' h' (cells + 1) (slots + 2752) → s.heap.size ≤ h'.size → Exa Z h' a rc → Fld Z h' a tN "detailMessage" "Ljava/lang/String;" .null → Goes p e below W T' (mkF m pc' Ls (.ref a :: st))) : Goes p e below W T (mkF m pc Ls (.ref a :: st)) := by
  obtain ⟨d, rfl⟩ := d
  obtain ⟨L0, Y, eT, N0, E⟩ := X
  have hT : ThS Z s.heap := ThS.start.ext hE0
  have Ws : ∀ d ∈ Jvm.Free.Exc.excAtoms rc, d ≠ Jvm.Cond.lays tN tN "suppressedExceptions" Bundle.listD → d.before A s = true := fun d q1 q2 => mvX hT C.hZ (List.all_eq_true.mp exc_ok d q1) (Wd d q1 q2)
  have w : ∀ d : Jvm.Cond, (d ∈ Jvm.Free.Exc.excAtoms rc ∧ d ≠ Jvm.Cond.lays tN tN "suppressedExceptions" Bundle.listD) → d.holds A s none s [] = true := fun d hd => Ws d hd.1 hd.2
  have hpl : e.platform.magicAccessors = ({} : Platform).magicAccessors := by rw [Y.admits.platform]
  have htr : e.platform.stackTraces = true := by rw [Y.admits.platform]; exact hl
  obtain ⟨TT, L, hfT, hfill, hfill0, hst, hun, hty, hnS⟩ := own_thr (args := A) (rc := rc) hrc (by rw [Y.admits.platform]) (by rw [Y.admits.platform]) hpl Ws
  have hal := C.hZ.alike
  obtain ⟨cell, u1, u2, u3⟩ := N
  have Ex0 := Ex
  obtain ⟨cell', kz, x1, x2, x3, x4, x5⟩ := Ex
  cases u1.symm.trans x1
  obtain ⟨ci, ki, g1, g2, g3, -⟩ := Cond.instantiable_spec wi
  cases g1.symm.trans x2
  cases g2.symm.trans x3
  have hsize : cell.slots.size = kz.instanceTypes.size := x5 g3
  obtain ⟨kX, hkX, heX⟩ := hal.2.2 _ _ x3
  have hfound : s.vm.findClass rc = some cell.cls := by rw [hal.findClass]; exact x2
  have hord : kX.kind = .ordinary := by rw [heX]; exact g3
  have hszX : cell.slots.size = kX.instanceTypes.size := by rw [heX]; exact hsize
  have tk : ∀ {f : Field} {v : Value}, kX.instanceTypes[f.slot]? = some f.type → fits f.type v = true → Jvm.Takes s cell f v := fun {f v} q1 q2 => by
    obtain ⟨r1, r2⟩ := Takes.of_laid (v := v) hkX hord q1 q2
    exact ⟨by rw [hszX]; simpa using r1, by rw [u2]; exact r2⟩
  -- a field of the receiver, at the tables of s
  have at_ : ∀ {n dd : String} {v : Value} {cf i : Nat} {k : Class} {f : Field}, Fld Z h a tN n dd v → s.fieldFound? tN n dd = some (cf, k, i, f) → cell.slots[f.slot]? = some v := fun {n dd v cf i k f} F q => by
    obtain ⟨c1, cf1, k1, i1, f1, r1, r2, -, -, -, -, r7⟩ := F
    cases u1.symm.trans r1
    obtain ⟨k', r8, -⟩ := State.fieldFound?_setVm hal r2
    cases (show s.fieldFound? tN n dd = some (cf1, k', i1, f1) from r8).symm.trans q
    exact r7
  obtain ⟨cfU, iU, kU, fU, sa, sc, r1, -, -, r4, r5, r6, r7⟩ := SU
  obtain ⟨kU', r8, r9⟩ := State.fieldFound?_setVm hal r1
  cases (show s.fieldFound? tN "UNASSIGNED_STACK" Bundle.steD = some (cfU, kU', iU, fU) from r8).symm.trans hun
  have hsa : sa = TT.aS := by
    have q : TT.kT.statics = some sa := by rw [r9]; exact r4
    exact Option.some.inj (q.symm.trans L.statics)
  subst hsa
  have hcS : T.heap[TT.aS]? = some sc := by rw [eT]; exact E.2 _ _ r5
  have hneS : TT.aS ≠ a := fun z => by
    rw [z, eT, u1] at hcS
    cases hcS
    rw [u2] at r6; cases r6
  have hsel0 : selectMethod e.platform s.vm cell.cls TT.fill0 = .method TT.fill0 := by
    obtain ⟨c2, r2, m2, q1, q2, q3, q4, -⟩ := Cond.selects_spec (w (.selects rc tFill0 tFill0) (by simp [Jvm.Free.Exc.excAtoms, throwableAtoms]))
    cases q1.symm.trans hfound
    cases q2.symm.trans (State.methodFound?_of_named hfill0 (by decide))
    cases q3.symm.trans hfill0
    rw [Launch.admits_selectMethod Y.admits]; exact q4
  obtain ⟨ciB, iB, fB, aB, bB, cB, sB, -, nB, tB, ffB⟩ := Cond.ownField (t := .object "java/lang/Object") hfT L.cls (by decide +kernel) (w (.fieldLink tN 198 tN "backtrace" "Ljava/lang/Object;") (by simp [Jvm.Free.Exc.excAtoms, throwableAtoms])) (w (.lays rc tN "backtrace" "Ljava/lang/Object;") (by simp [Jvm.Free.Exc.excAtoms, throwableAtoms])) e.platform hpl
  obtain ⟨_, _, cD, kD, iD, fD, -, -, ffD, sD, -, -, -, -⟩ := Cond.lays_spec (w (.lays rc tN "depth" "I") (by simp [Jvm.Free.Exc.excAtoms, throwableAtoms]))
  cases (Cond.lays_declared (w (.lays rc tN "depth" "I") (by simp [Jvm.Free.Exc.excAtoms, throwableAtoms])) ffD).symm.trans hfT
  obtain ⟨hkD, cD'⟩ := State.fieldFound?_spec ffD
  cases hkD.symm.trans L.cls
  obtain ⟨nD, tD⟩ := State.fieldFound?_type ffD (t := .int) (by decide +kernel)
  obtain ⟨_, _, _, _, _, fM, -, -, ffM, sM, -, -, -, -⟩ := Cond.lays_spec (w (.lays rc tN "detailMessage" "Ljava/lang/String;") (by simp [Jvm.Free.Exc.excAtoms, throwableAtoms]))
  have nM := (State.fieldFound?_type ffM (t := .object "java/lang/String") (by decide +kernel)).1
  obtain ⟨tyS, dS, hdS, eS⟩ := Cond.laysAt hfound hkX hst (w (.lays rc tN "stackTrace" Bundle.steD) (by simp [Jvm.Free.Exc.excAtoms, throwableAtoms]))
  obtain ⟨tyB, dB, hdB, eB⟩ := Cond.laysAt hfound hkX ffB (w (.lays rc tN "backtrace" "Ljava/lang/Object;") (by simp [Jvm.Free.Exc.excAtoms, throwableAtoms]))
  obtain ⟨tyD, dD, hdD, eD⟩ := Cond.laysAt hfound hkX ffD (w (.lays rc tN "depth" "I") (by simp [Jvm.Free.Exc.excAtoms, throwableAtoms]))
  obtain ⟨tyM, dM, hdM, eM⟩ := Cond.laysAt hfound hkX ffM (w (.lays rc tN "detailMessage" "Ljava/lang/String;") (by simp [Jvm.Free.Exc.excAtoms, throwableAtoms]))
  have mB := Cond.laysApart hdM hdB eM eB (by rw [nM, nB]; decide)
  have mD := Cond.laysApart hdM hdD eM eD (by rw [nM, nD]; decide)
  have mS := Cond.laysApart hdM hdS eM eS (by rw [nM, hnS]; decide)
  obtain ⟨comp, cO, kO, -, -, hkO, hkindO, hO⟩ := Cond.arrayOver_spec (w (.arrayOver (.object "java/lang/Object")) (by simp [Jvm.Free.Exc.excAtoms, throwableAtoms]))
  have hSE := Ws (.selects rc tFill tFill) (by simp [Jvm.Free.Exc.excAtoms, throwableAtoms]) (by simp)
  have pays := Jvm.Free.Exc.fillPaysAny (l := l) (R := R) (p := p) (e := e) (below := below) (s := s) (sargs := A) (len := 3) (W := (st.map fun v => v.category).sum) C.hx htr TT L hfill (u0 := ⟨u, hu⟩) (self := a) (cell := cell) (cellS := sc) (fun _ => by rw [u2]; simp) (by rw [u2]; simp) (by rw [u3]) (by rw [u3]) (at_ FS hst) hsel0 hneS (fun z => by rw [z] at r6; cases r6) r7 (tk tyS (by rw [hty]; exact fits_refV_array _ ⟨u, hu⟩))
    ⟨{ ci198 := ciB, i198 := iB, fBack := fB }, ⟨aB, bB, cB, sB⟩, at_ FB ffB⟩ hK.1 hK.2 hfT hO hkO hkindO
    (Cond.soleField_find hfT L.cls (w (.soleField tN "backtrace") (by simp [Jvm.Free.Exc.excAtoms, throwableAtoms])) cB nB sB) (Cond.soleField_find hfT L.cls (w (.soleField tN "depth") (by simp [Jvm.Free.Exc.excAtoms, throwableAtoms])) cD' nD sD)
    (fun x => tk tyB (by rw [tB]; rfl)) (fun x => tk tyD (by rw [tD]; rfl)) (by omega) hlo
  obtain ⟨v6, vm6, ⟨U6, L6, c6, n6⟩, -, Y6, ⟨hv6, C6, n, hn, z1, z2, z3, z4, z5, hL6, hc6, hn6⟩, q⟩ := Y.virtualBack C.hx (own := tN) (C := rc) (index := 27) (y := tFill) (z := tFill) C.hown (Ws (.methodLink tN 27 tFill) (by simp [Jvm.Free.Exc.excAtoms, throwableAtoms]) (by simp)) (Ws (.declares tFill) (by simp [Jvm.Free.Exc.excAtoms, throwableAtoms]) (by simp)) (notFace_of_selects hSE) hSE (Ws (.instanceMethod tFill) (by simp [Jvm.Free.Exc.excAtoms, throwableAtoms]) (by simp)) (by decide) pays
    (b := a) (cB := cell.cls) hfound ⟨cell, by rw [eT]; exact u1, rfl, by rw [u2]; rfl⟩ (g := mkF m pc Ls (.ref a :: st)) rfl (hsz.trans C.hml.symm) (Steps.refl _) (argsL := []) (rest := st) (fun sig h => by rw [show parseMethodDescriptor tFill.desc = some ⟨[], some (.object tN)⟩ from by decide +kernel] at h; rw [← Option.some.inj h]; rfl) rfl (by show 2 * 0 + _ ≤ _; omega) (hb C.hby d)
    (fun vmx hWx => ⟨rfl, hc, hs, by show T.heap[a]? = _; rw [eT]; exact u1, hcS⟩)
  dsimp only [Pt.U, Pt.locs, Pt.cells, Pt.slots] at Y6 z1 hL6 hc6 hn6 q
  subst hv6 hL6 hc6 hn6
  have N6 : Fr Z.heap.size (L0 ++ [⟨a, fB.slot⟩, ⟨a, fD.slot⟩, ⟨a, TT.fStack.slot⟩]) := N0.app fun y hy => by
    simp only [List.mem_cons, List.not_mem_nil, or_false] at hy
    rcases hy with rfl | rfl | rfl <;> exact hnew
  refine Goes.via (fun _ k => q.trans k) (K U6 U6.heap ⟨_, Y6.more (Nat.le_refl _) (Nat.add_le_add_left hn _), rfl, N6, own_old Y6.same hE0 N6⟩ Y6.same.2.1 ⟨C6, kz, z1, by rw [z2]; exact x2, by rw [z2]; exact x3, by rw [z3]; exact x4, fun q => by rw [z4]; exact x5 q⟩ ?_)
  obtain ⟨c1, cf1, k1, i1, f1, p1, p2, p3, p4, p5, p6, p7⟩ := FM
  cases u1.symm.trans p1
  obtain ⟨k', p8, -⟩ := State.fieldFound?_setVm hal p2
  cases (show s.fieldFound? tN "detailMessage" "Ljava/lang/String;" = some (cf1, k', i1, f1) from p8).symm.trans ffM
  exact ⟨C6, _, _, _, _, z1, p2, p3, by rw [z3]; exact p4, by rw [z3]; exact p5, by rw [z2]; exact p6, (z5 _ mB mD mS).trans p7⟩
end OwnFill
section OwnExc
variable {p : Program} {l : Launch} {e : Env} {R : Room} {s : State} {m : MethodId} {A : Array Value} {below : List Frame} {meth : Method} {c : Code} {T : State} {cells slots : Nat} {Z : State} {a0 : Array Value} {h h' : Heap} {own nm : String} {bytes : ByteArray} {maxL : Nat} {ret : Option FieldType} {W : Outcome → State → Prop} {pc pc' tgt : Nat} {Ls : Array Slot} {st : List Value} {EL : List (String × Nat)} {vm0 : Vm}
theorem own_fitR {t : FieldType} {v : Value} (ht : t.isReference = true) (hv : v.isRef = true) : fits t v = true := by
  cases t <;> simp [FieldType.isReference] at ht <;> cases v <;> simp [Value.isRef] at hv <;> rfl
/-- a body under which a stack trace may be filled in -/
def ConN (l : Launch) (y : MethodName) (bytes : ByteArray) (maxL : Nat) (ret : Option FieldType) (ws : List Jvm.Cond) (rm : Room) (Z : State) (A : Array Value) (h0 : Heap) (Q : Option Value → Heap → Prop) : Prop :=
  MetFree l y (head1 (Jvm.Cond.code y bytes maxL ret :: ws) rm) (fun a U => a = A ∧ Z.Warmed39 U.vm ∧ U.heap = h0) (fun _ _ bl s _ => s.vm.MethodsKnown ∧ s.vm.FramesKnown bl) (fun _ U o U' => EndW Z U rm.cells rm.slots Q o U')
theorem con_ofN {y : MethodName} {ws : List Jvm.Cond} {rm : Room} {h0 : Heap} {Q : Option Value → Heap → Prop} {Ls : Array Slot} (hp : plainFor y = true) (hE : Ext Z.heap h0) (hef : ∀ m, entryFrame m A maxL = mkF m 0 Ls [])
    (body : ∀ p e s m below meth c s₁, Cx p s m meth c Z y.cls y.name bytes maxL ret → St p l e rm s m A below meth c Z s₁ h0 0 0 → s.vm.MethodsKnown ∧ s.vm.FramesKnown below → s.heap = h0 → Goes p e below (EndW Z s rm.cells rm.slots Q) s₁ (mkF m 0 Ls [])) :
    ConN l y bytes maxL ret ws rm Z A h0 Q := by
  refine MetFree.of_bodySF hp hisR ?_
  intro p e s m args below meth c s₁ Bd hml0 hP hK
  obtain ⟨rfl, hZ, hh⟩ := hP
  have X0 := Stand.of_body Bd
  have e0 : s₁.heap = h0 := by rw [← hh, Bd.state]; rfl
  have := body p e s m below meth c s₁ ⟨Bd.exec, hZ, findClass_of_methodNamed Bd.named, Bd.bytes, hml0, Bd.returns, Bd.notSynchronized, (name_of_methodNamed Bd.named Bd.method).1⟩ ⟨[], X0, e0, Fr.nil _, hE⟩ hK hh
  rw [← hef m] at this
  exact this
theorem payN_of {y : MethodName} {bytes' : ByteArray} {maxL' len W' : Nat} {ret' : Option FieldType} {rm : Room} {as' : Array Value} {Q : Option Value → Heap → Prop} (hM : ConN l y bytes' maxL' ret' [] rm Z as' h Q) (hZ : Z.Warmed39 s.vm) (wc : (Jvm.Cond.code y bytes' maxL' ret').before a0 Z = true) (wz : (Jvm.Cond.initialized y.cls).before a0 Z = true) (hf : rm.frames + 1 ≤ R.frames) (hl : W' + (maxL' + 11) + rm.locals ≤ R.locals) (hK : s.vm.MethodsKnown ∧ s.vm.FramesKnown below) :
    Pay l R p e below s A y len W' rm.cells rm.slots Z as' h Q := backOfKL (Q := fun v h' L => Fr Z.heap.size L ∧ Ext Z.heap h' ∧ Q v h') hM hZ wc wz hf hl hK.1 hK.2
theorem own_kn {s : State} {vm0 : Vm} {n0 : Nat} {below : List Frame} (I : ∃ k0, s.Since vm0 k0 ∧ k0 ≤ n0) (hK : s.vm.MethodsKnown ∧ s.vm.FramesKnown below) : (s.setVm vm0).vm.MethodsKnown ∧ (s.setVm vm0).vm.FramesKnown below := by
  obtain ⟨k0, hS, -⟩ := I
  exact ⟨Vm.MethodsKnown.alikeC hS.1.alike hK.1, Vm.FramesKnown.alikeC hS.1.alike hK.2⟩
/-- the end of a body that may load String constants, their texts followed no further -/
def EndX (Z : State) (s : State) (k n : Nat) (Q : Option Value → Heap → Prop) (o : Outcome) (u : State) : Prop :=
  ∃ v L, o = .returned v ∧ (Fr Z.heap.size L ∧ Ext Z.heap u.heap ∧ Q v u.heap) ∧ ReturnedEndW s o u L k n
theorem goes_X {k n n0 : Nat} {Q : Option Value → Heap → Prop} {g : JFrame} (I : ∃ k0, s.Since vm0 k0 ∧ k0 ≤ n0) (hn : n0 ≤ h.size) (G : Goes p e below (EndW Z (s.setVm vm0) k n (fun v h' => Q v h' ∧ h' = h)) T g) : Goes p e below (EndX Z s k n Q) T g := by
  obtain ⟨s₂, o, g1, g2, g3, v, L, rfl, ⟨N, E, hQ, hh⟩, hv, hW, hs⟩ := G
  obtain ⟨k0, hS, hk⟩ := I
  obtain ⟨a, b, c'⟩ := hS.ended (U := s₂) hW (by rw [hh]; exact Nat.le_trans hk hn) hs
  exact ⟨s₂, _, g1, g2, g3, v, L, rfl, ⟨N, E, hQ⟩, ⟨v, rfl⟩, a, b, c'⟩
def ConX (l : Launch) (y : MethodName) (bytes : ByteArray) (maxL : Nat) (ret : Option FieldType) (ws : List Jvm.Cond) (rm : Room) (Z : State) (EL : List (String × Nat)) (sf : List Addr) (A : Array Value) (h0 : Heap) (Q : Option Value → Heap → Prop) : Prop :=
  MetFree l y (head1 (Jvm.Cond.code y bytes maxL ret :: ws) rm) (fun a U => a = A ∧ Z.Warmed39 U.vm ∧ U.heap = h0 ∧ CHv Z EL U.vm h0 ∧ ∀ x ∈ sf, Safe Z EL U.vm h0 x) (fun _ _ bl s _ => s.vm.MethodsKnown ∧ s.vm.FramesKnown bl) (fun _ U o U' => EndX Z U rm.cells rm.slots Q o U')
theorem con_ofX {y : MethodName} {ws : List Jvm.Cond} {rm : Room} {h0 : Heap} {Q : Option Value → Heap → Prop} {Ls : Array Slot} {sf : List Addr} (hp : plainFor y = true) (hE : Ext Z.heap h0) (hef : ∀ m, entryFrame m A maxL = mkF m 0 Ls [])
    (body : ∀ p e s m below meth c s₁, Cx p (s.setVm s.vm) m meth c Z y.cls y.name bytes maxL ret → St p l e rm (s.setVm s.vm) m A below meth c Z s₁ h0 0 0 → Lits Z EL s s.vm h0 → (∀ x ∈ sf, Safe Z EL s.vm h0 x) → s.vm.MethodsKnown ∧ s.vm.FramesKnown below → s.heap = h0 → Goes p e below (EndX Z s rm.cells rm.slots Q) s₁ (mkF m 0 Ls [])) :
    ConX l y bytes maxL ret ws rm Z EL sf A h0 Q := by
  refine MetFree.of_bodySF hp hisR ?_
  intro p e s m args below meth c s₁ Bd hml0 hP hK
  obtain ⟨rfl, hZ, hh, hV, hsf⟩ := hP
  have X0 := Stand.of_body Bd
  have e0 : s₁.heap = h0 := by rw [← hh, Bd.state]; rfl
  have := body p e s m below meth c s₁ ⟨Bd.exec, hZ, findClass_of_methodNamed Bd.named, Bd.bytes, hml0, Bd.returns, Bd.notSynchronized, (name_of_methodNamed Bd.named Bd.method).1⟩ ⟨[], X0, e0, Fr.nil _, hE⟩ ⟨⟨0, (State.WarmedH.refl s).since 0, Nat.zero_le _⟩, by rw [hh]; exact CHr.refl hV⟩ hsf hK hh
  rw [← hef m] at this
  exact this
def PayX (l : Launch) (R : Room) (p : Program) (e : Env) (below : List Frame) (s : State) (vm0 : Vm) (A : Array Value) (y : MethodName) (len W k n : Nat) (Z : State) (as' : Array Value) (h : Heap) (Q : Option Value → Heap → Prop) : Prop :=
  BackS l R p e below (s.setVm vm0) A y len W (fun P a => a = as' ∧ P.U.heap = h ∧ P.cells + k ≤ R.cells ∧ P.slots + n ≤ R.slots)
    (fun P _ v B => ∃ L, (Fr Z.heap.size L ∧ Ext Z.heap B.U.heap ∧ Q v B.U.heap) ∧ (B.locs = P.locs ++ L ∧ B.cells = P.cells + k ∧ B.slots = P.slots + n))
theorem payX_of {y : MethodName} {bytes' : ByteArray} {maxL' len W' : Nat} {ret' : Option FieldType} {rm : Room} {sf : List Addr} {as' : Array Value} {Q : Option Value → Heap → Prop} (hM : ConX l y bytes' maxL' ret' [] rm Z EL sf as' h Q) (hZ : Z.Warmed39 vm0) (wc : (Jvm.Cond.code y bytes' maxL' ret').before a0 Z = true) (wz : (Jvm.Cond.initialized y.cls).before a0 Z = true) (hf : rm.frames + 1 ≤ R.frames) (hl : W' + (maxL' + 11) + rm.locals ≤ R.locals) (hEL : EW Z a0 EL) (I : Lits Z EL s vm0 h) (hsf : ∀ x ∈ sf, x < h.size ∧ Safe Z EL vm0 h x) (hK : s.vm.MethodsKnown ∧ s.vm.FramesKnown below) :
    PayX l R p e below s vm0 A y len W' rm.cells rm.slots Z as' h Q :=
  BackS.of_freeWG (bytes := bytes') (maxL := maxL') (ret := ret') (E := fun _ first o t L k n => k = rm.cells ∧ n = rm.slots ∧ (∃ v, o = .returned v ∧ Fr Z.heap.size L ∧ Ext Z.heap t.heap ∧ Q v t.heap)) hM hf hl
    (fun m meth c A a Y hp => have hU : Z.Warmed39 A.U.vm := wtrans (s := s.setVm vm0) hZ Y.warmed
      ⟨by show (Jvm.Cond.and _ .tt).before a A.U = true; rw [Jvm.Cond.before_and, mv hU wc]; rfl, mv hU wc, mv hU wz, hp.2.2.1, hp.2.2.2⟩)
    (fun m meth c A a g mk Y hp => ⟨hp.1, wtrans (s := s.setVm vm0) hZ Y.warmed, hp.2.1, (CHv.at Y hZ hEL I.2.1).1, fun x hx => (CHv.at Y hZ hEL I.2.1).safe (hsf x hx).1 (hsf x hx).2⟩) (fun m meth c A a g mk Y _ hg => known_frames Y hg (own_kn I.1 hK).1 (own_kn I.1 hK).2)
    (fun _ _ _ _ ⟨v, L, h1, h2, h4⟩ => ⟨L, _, _, h4, rfl, rfl, v, h1, h2⟩)
    (fun m meth c A a g mk v t L k n Y hp _ _ ⟨e1, e2, v', e3, e4⟩ => by
      cases e3; subst e1 e2
      exact ⟨L, e4, rfl, rfl, rfl⟩)
theorem g_specialX {index k n : Nat} {y : MethodName} {bytes' : ByteArray} {maxL' W' : Nat} {argsL : List Value} {Q : Option Value → Heap → Prop} {ps : List FieldType} {rt : Option FieldType} {a : Addr} (C : Cx p (s.setVm vm0) m meth c Z own nm bytes maxL ret) (X : St p l e R (s.setVm vm0) m A below meth c Z T h cells slots) (I : Lits Z EL s vm0 h) (hi : y.name = "<init>")
    (w1 : (Jvm.Cond.methodLink own index y).before a0 Z = true) (w2 : (Jvm.Cond.instanceMethod y).before a0 Z = true) (w4 : (Jvm.Cond.code y bytes' maxL' none).before a0 Z = true) (hy : y.cls ≠ "java/lang/invoke/MethodHandle" ∧ y.cls ≠ "java/lang/invoke/VarHandle")
    (hK : PayX l R p e below s vm0 A y 3 W' k n Z (.ref a :: argsL).toArray h Q) (pd : parseMethodDescriptor y.desc = some ⟨ps, rt⟩) (hlen : argsL.length = ps.length) (hsz : Ls.size = maxL) (stk : List Value) (hst : stk = argsL.reverse ++ .ref a :: st) (hW : (st.map fun v => v.category).sum ≤ W') (d : Dc bytes pc (.invokespecial index) 3 pc') (hc : cells + k ≤ R.cells) (hs : slots + n ≤ R.slots)
    (K : ∀ T' h' v, Q v h' → Cx p (s.setVm T'.vm) m meth c Z own nm bytes maxL ret → St p l e R (s.setVm T'.vm) m A below meth c Z T' h' (cells + k) (slots + n) → (∃ k0, s.Since T'.vm k0 ∧ k0 ≤ h'.size) → Goes p e below W T' (mkF m pc' Ls (v.toList ++ st))) : Goes p e below W T (mkF m pc Ls stk) := by
  obtain ⟨d, rfl⟩ := d
  obtain ⟨L0, Y, eT, N, E⟩ := X
  obtain ⟨⟨k0, hS, hk⟩, hC⟩ := I
  obtain ⟨v, vm₁, B, -, Y', hS', hg', ⟨L, ⟨N', E', hQ⟩, ⟨b1, b2, b3⟩⟩, q⟩ := Y.specialBackS C.hx (y := y) hi C.hown (mvT C.hZ w1) (mvT C.hZ w2) (mvT C.hZ w4) hy hK (g := mkF m pc Ls stk) rfl (hsz.trans C.hml.symm) (Steps.refl _) (a := a) (argsL := argsL) (rest := st) (lenOf pd hlen) hst (by show 2 * 0 + _ ≤ _; omega) (hb C.hby d) (fun _ _ => ⟨rfl, eT, hc, hs⟩)
  have q1 : B.locs = L0 ++ L := b1
  have q2 : B.cells = cells + k := b2
  have q3 : B.slots = slots + n := b3
  rw [q1, q2, q3] at Y'
  subst eT
  exact Goes.via (fun _ k => q.trans k) (K B.U B.U.heap v hQ ⟨C.1, State.Warmed39.trans (t := s.setVm vm0) C.hZ hS'.1, by rw [show (s.setVm B.U.vm).vm = B.U.vm from rfl, hS'.1.alike.findClass]; exact C.hown, C.2.2.2⟩ ⟨_, Y', rfl, N.app N', E'⟩ ⟨_, hS.trans hS' (Nat.le_trans hk hg'), Nat.le_refl _⟩)
end OwnExc
theorem pn_6 : plainName "com/example/chapeau/chapeau/io/MalformedXmlException" = true := by first | (simp [plainName, overriddenIn]; done) | decide +kernel
theorem ef_rPl (m : MethodId) (li : Int32) (co : Int32) : entryFrame m #[(.int li), (.int co)] 2 = mkF m 0 #[.val (.int li), .val (.int co)] [] := by first | (simp [entryFrame, mkF, argsToLocals, Value.category]; done) | rfl
theorem d8_0 : Dc prog_33_method_2_code 0 (.iload_n 0) 1 1 := ⟨by decide +kernel, rfl⟩
theorem d8_1 : Dc prog_33_method_2_code 1 (.iconst 1) 1 2 := ⟨by decide +kernel, rfl⟩
theorem d8_2 : Dj prog_33_method_2_code 2 (.if_icmp .ge 6) 6 3 5 8 := ⟨by decide +kernel, rfl, by decide, by decide⟩
theorem d8_8 : Dc prog_33_method_2_code 8 (.iload_n 1) 1 9 := ⟨by decide +kernel, rfl⟩
theorem d8_9 : Dc prog_33_method_2_code 9 (.iconst 1) 1 10 := ⟨by decide +kernel, rfl⟩
theorem d8_10 : Dj prog_33_method_2_code 10 (.if_icmp .ne 30) 30 3 13 40 := ⟨by decide +kernel, rfl, by decide, by decide⟩
theorem d8_40 : Dc prog_33_method_2_code 40 (.new 1) 3 43 := ⟨by decide +kernel, rfl⟩
theorem d8_43 : Dc prog_33_method_2_code 43 (.dup) 1 44 := ⟨by decide +kernel, rfl⟩
theorem d8_44 : Dc prog_33_method_2_code 44 (.invokespecial 3) 3 47 := ⟨by decide +kernel, rfl⟩
theorem pd_19 : parseMethodDescriptor "()V" = some ⟨[], none⟩ := by decide +kernel
theorem d8_47 : Dc prog_33_method_2_code 47 (.ldc 35) 2 49 := ⟨by decide +kernel, rfl⟩
theorem d8_49 : Dc prog_33_method_2_code 49 (.invokevirtual 13) 3 52 := ⟨by decide +kernel, rfl⟩
theorem pd_20 : parseMethodDescriptor "(Ljava/lang/String;)Ljava/lang/StringBuilder;" = some ⟨[(.object "java/lang/String")], some (.object "java/lang/StringBuilder")⟩ := by decide +kernel
theorem d8_52 : Dc prog_33_method_2_code 52 (.iload_n 0) 1 53 := ⟨by decide +kernel, rfl⟩
theorem d8_53 : Dc prog_33_method_2_code 53 (.invokevirtual 32) 3 56 := ⟨by decide +kernel, rfl⟩
theorem pd_21 : parseMethodDescriptor "(I)Ljava/lang/StringBuilder;" = some ⟨[.int], some (.object "java/lang/StringBuilder")⟩ := by decide +kernel
theorem d8_56 : Dc prog_33_method_2_code 56 (.ldc 37) 2 58 := ⟨by decide +kernel, rfl⟩
theorem d8_58 : Dc prog_33_method_2_code 58 (.invokevirtual 13) 3 61 := ⟨by decide +kernel, rfl⟩
theorem d8_61 : Dc prog_33_method_2_code 61 (.iload_n 1) 1 62 := ⟨by decide +kernel, rfl⟩
theorem d8_62 : Dc prog_33_method_2_code 62 (.invokevirtual 32) 3 65 := ⟨by decide +kernel, rfl⟩
theorem d8_65 : Dc prog_33_method_2_code 65 (.invokevirtual 19) 3 68 := ⟨by decide +kernel, rfl⟩
theorem pd_22 : parseMethodDescriptor "()Ljava/lang/String;" = some ⟨[], some (.object "java/lang/String")⟩ := by decide +kernel
theorem d8_68 : Dc prog_33_method_2_code 68 (.areturn) 1 69 := ⟨by decide +kernel, rfl⟩
theorem d8_13 : Dc prog_33_method_2_code 13 (.iload_n 0) 1 14 := ⟨by decide +kernel, rfl⟩
theorem d8_14 : Dc prog_33_method_2_code 14 (.iconst 1) 1 15 := ⟨by decide +kernel, rfl⟩
theorem d8_15 : Dj prog_33_method_2_code 15 (.if_icmp .le 25) 25 3 18 40 := ⟨by decide +kernel, rfl, by decide, by decide⟩
theorem d8_18 : Dc prog_33_method_2_code 18 (.new 1) 3 21 := ⟨by decide +kernel, rfl⟩
theorem d8_21 : Dc prog_33_method_2_code 21 (.dup) 1 22 := ⟨by decide +kernel, rfl⟩
theorem d8_22 : Dc prog_33_method_2_code 22 (.invokespecial 3) 3 25 := ⟨by decide +kernel, rfl⟩
theorem d8_25 : Dc prog_33_method_2_code 25 (.ldc 30) 2 27 := ⟨by decide +kernel, rfl⟩
theorem d8_27 : Dc prog_33_method_2_code 27 (.invokevirtual 13) 3 30 := ⟨by decide +kernel, rfl⟩
theorem d8_30 : Dc prog_33_method_2_code 30 (.iload_n 0) 1 31 := ⟨by decide +kernel, rfl⟩
theorem d8_31 : Dc prog_33_method_2_code 31 (.iconst 1) 1 32 := ⟨by decide +kernel, rfl⟩
theorem d8_32 : Dc prog_33_method_2_code 32 (.isub) 1 33 := ⟨by decide +kernel, rfl⟩
theorem d8_33 : Dc prog_33_method_2_code 33 (.invokevirtual 32) 3 36 := ⟨by decide +kernel, rfl⟩
theorem d8_36 : Dc prog_33_method_2_code 36 (.invokevirtual 19) 3 39 := ⟨by decide +kernel, rfl⟩
theorem d8_39 : Dc prog_33_method_2_code 39 (.areturn) 1 40 := ⟨by decide +kernel, rfl⟩
theorem d8_5 : Dc prog_33_method_2_code 5 (.ldc 28) 2 7 := ⟨by decide +kernel, rfl⟩
theorem d8_7 : Dc prog_33_method_2_code 7 (.areturn) 1 8 := ⟨by decide +kernel, rfl⟩
theorem rPl (l : Launch) {Z : State} {a0 : Array Value} (hw : ∀ d ∈ tables_1, d.before a0 Z = true) {h : Heap} (hE : Ext Z.heap h) (li : Int32) (co : Int32) (z_ : Int32) (SZ : Sta Z Z.heap "java/lang/String" "COMPACT_STRINGS" "Z" (.int z_)) (hz : ¬ z_ = 0) (o1 o2 : Addr) (S1 : Sta Z Z.heap "java/lang/Integer" "DigitOnes" "[B" (.ref o1)) (S2 : Sta Z Z.heap "java/lang/Integer" "DigitTens" "[B" (.ref o2)) (D1 : ByS Z Z.heap o1 100) (D2 : ByS Z Z.heap o2 100)  :
    ConL l (⟨"com/example/chapeau/chapeau/io/MalformedXmlException", "place", "(II)Ljava/lang/String;"⟩ : MethodName) prog_33_method_2_code 2 (some (.object "java/lang/String")) [] ({ frames := 6, cells := 20, slots := 1700, locals := 144 } : Room) Z consts_1 [] #[(.int li), (.int co)] h (fun v' h' => ∃ (sq tq : Addr) (lq : Int32), v' = some (.ref sq) ∧ Ext h h' ∧ Exa Z h' sq "java/lang/String" ∧ Fld Z h' sq "java/lang/String" "coder" "B" (.int (0 : Int32)) ∧ Fld Z h' sq "java/lang/String" "value" "[B" (.ref tq) ∧ ByS Z h' tq lq ∧ 0 ≤ lq.toInt ∧ lq.toInt ≤ 40) := by
  refine con_ofL (plainFor_of_name pn_6) hE (fun m => ef_rPl m li co) ?_
  intro p e s m below meth c T0 C X0 I0 hsf
  have C : Cx p (s.setVm s.vm) m meth c Z "com/example/chapeau/chapeau/io/MalformedXmlException" "place" prog_33_method_2_code 2 (some (.object "java/lang/String")) := C
  show Goes p e below _ T0 (mkF m 0 #[.val (.int li), .val (.int co)] [])
  refine g_iloadN C X0 d8_0 rfl ?_
  refine g_iconst 1 C X0 d8_1 rfl ?_
  refine g_icmpn (hI_ge _ _) C X0 d8_2 (fun c2_265 => ?_) (fun c2_265 => ?_)
  · refine g_iloadN C X0 d8_8 rfl ?_
    refine g_iconst 1 C X0 d8_9 rfl ?_
    refine g_icmpn (hI_ne _ _) C X0 d8_10 (fun c10_266 => ?_) (fun c10_266 => ?_)
    · refine g_new C X0 (wd hw 41 rfl) (wd hw 42 rfl) (wd hw 43 rfl) d8_40 (by decide) (by decide) (fun T267 h267 b267 g_b267 n_b267 X267 E267 A267 D267 M267 => ?_)
      have F_value_b267 : Fld Z h267 b267 "java/lang/AbstractStringBuilder" "value" "[B" .null := D267 (Or.inl (wd hw 56 rfl)) (ty := (.array .byte)) (by decide)
      have F_coder_b267 : Fld Z h267 b267 "java/lang/AbstractStringBuilder" "coder" "B" (.int 0) := D267 (Or.inl (wd hw 58 rfl)) (ty := .byte) (by decide)
      have F_count_b267 : Fld Z h267 b267 "java/lang/AbstractStringBuilder" "count" "I" (.int 0) := D267 (Or.inl (wd hw 87 rfl)) (ty := .int) (by decide)
      refine g_dup C X267 d8_43 rfl ?_
      refine g_special (argsL := []) (st := [(.ref b267)]) C X267 rfl (wd hw 44 rfl) (wd hw 45 rfl) (wd hw 46 rfl) (by decide) (pay_of (W' := 1) (rBN l hw X267.ext b267 z_ SZ hz A267 F_coder_b267 F_value_b267 F_count_b267 n_b267) C.hZ (wd hw 46 rfl) (wd hw 43 rfl) (by decide) (by decide)) pd_19 rfl rfl _ rfl (Nat.le_of_eq rfl) d8_44 (by decide) (by decide) (fun T268 h268 v268 q268 X268 => ?_)
      obtain ⟨rfl, K268, EB268, FC268, ar268, g268, nr268, FV268, FN268, VA268⟩ := q268
      have ne269 : b267 ≠ ar268 := Exa.ne EB268 VA268.2 (by decide)
      show Goes p e below _ T268 (mkF m 47 #[.val (.int li), .val (.int co)] [(.ref b267)])
      have sz270 : h.size ≤ b267 := by rw [g_b267]; exact (Keep.refl h []).1
      have kp271 := (Keep.refl h []).ext E267
      have sz272 : h.size ≤ ar268 := Nat.le_trans kp271.1 g268
      have kp273 := kp271.trans K268 (allS (Or.inr sz270) all0)
      have I274 := Lits.keep I0 kp273 sf0
      have sf275 := Lits.safe I0 kp273 sf0 (Safe.new sz272)
      refine g_ldcs 20 C X268 I274 (own_wS hw) (own_EW hw) (by decide +kernel) (wd hw 62 rfl) (vs := [(.int 108), (.int 105), (.int 110), (.int 101), (.int 32)]) (z := 5) ⟨by decide +kernel, by decide +kernel⟩ (by decide) rfl (by decide) (by decide) d8_47 (by decide) (by decide) (fun a276 T276 h276 t276 k_t276 C X276 I276 R276 E276 EA276 FC276 FV276 VA276 N276 => ?_)
      have sf277 := CHr.safe R276 (By.lt VA268) sf275
      have f278 := (Exa.ext E276 EB268)
      have ne279 := N276 _ sf277
      have ne280 := N276 _ (Safe.exa C.hZ.alike f278 (by decide) (by decide))
      show Goes p e below _ T276 (mkF m 49 #[.val (.int li), .val (.int co)] [(.ref a276), (.ref b267)])
      have f281 := (Fld.ext E276 FC268)
      have f282 := (Fld.ext E276 FV268)
      have f283 := (Fld.ext E276 FN268)
      have f284 := (By.ext VA268 E276)
      refine g_virtual (argsL := [(.ref a276)]) (st := []) C X276 (wd hw 63 rfl) (wd hw 64 rfl) (nf_of C (wd hw 66 rfl) rfl rfl) (wd hw 66 rfl) (wd hw 65 rfl) (by decide) f278 (pay_of (W' := 0) (rBS l hw X276.ext b267 a276 ar268 (0 : Int32) (16 : Int32) z_ SZ hz f278 f281 f282 f283 f284 n_b267 nr268 (by decide) (by decide) (by decide) t276 (5 : Int32) EA276 FC276 FV276 (ByS.of VA276) (by first | omega | (simp only [Int32.reduceToInt]; omega)) (by first | omega | (simp only [Int32.reduceToInt]; omega))) C.hZ (wd hw 67 rfl) (wd hw 43 rfl) (by decide) (by decide)) pd_20 rfl rfl _ rfl (Nat.le_of_eq rfl) d8_49 (by decide) (by decide) (fun T285 h285 v285 q285 X285 => ?_)
      obtain ⟨rfl, K285, EB285, FC285, ar285, cp285, al285, nr285, FV285, FN285, VA285, d1_285, d2_285, d3_285⟩ := q285
      have ne286 : a276 ≠ ar285 := Or.elim al285 (fun q => by rw [q]; exact (Ne.symm ne279.1)) (fun q => Nat.ne_of_lt (Nat.lt_of_lt_of_le (Exa.lt EA276) q))
      have ne287 : t276 ≠ ar285 := Or.elim al285 (fun q => by rw [q]; exact (Ne.symm ne279.2)) (fun q => Nat.ne_of_lt (Nat.lt_of_lt_of_le (Arv.lt VA276) q))
      have ne288 : b267 ≠ ar285 := Exa.ne EB285 VA285.2 (by decide)
      have a285 := own_add (0 : Int32) (5 : Int32) (by first | omega | (simp only [Int32.reduceToInt]; omega)) (by first | omega | (simp only [Int32.reduceToInt]; omega))
      try simp only [Int32.reduceToInt] at a285
      show Goes p e below _ T285 (mkF m 52 #[.val (.int li), .val (.int co)] [(.ref b267)])
      refine g_iloadN C X285 d8_52 rfl ?_
      have kp289 := (Keep.refl h276 [b267, ar268]).trans K285 (allS (Or.inl (by simp)) (allS (Or.inl (by simp)) all0))
      have I290 := Lits.keep I276 kp289 (sfS (Safe.exa C.hZ.alike f278 (by decide) (by decide)) (sfS sf277 sf0))
      have sf291 := Lits.safe I276 kp289 (sfS (Safe.exa C.hZ.alike f278 (by decide) (by decide)) (sfS sf277 sf0)) (Or.elim al285 (fun q => q.symm ▸ sf277) (fun q => Safe.new q))
      refine g_virtual (argsL := [(.int li)]) (st := []) C X285 (wd hw 113 rfl) (wd hw 114 rfl) (nf_of C (wd hw 116 rfl) rfl rfl) (wd hw 116 rfl) (wd hw 115 rfl) (by decide) EB285 (pay_of (W' := 0) (rBI l hw X285.ext b267 li ar285 ((0 : Int32) + (5 : Int32)) cp285 z_ SZ hz EB285 FC285 FV285 FN285 VA285 n_b267 nr285 d1_285 d2_285 d3_285 o1 o2 S1 S2 D1 D2 (by omega)) C.hZ (wd hw 117 rfl) (wd hw 43 rfl) (by decide) (by decide)) pd_21 rfl rfl _ rfl (Nat.le_of_eq rfl) d8_53 (by decide) (by decide) (fun T292 h292 v292 q292 X292 => ?_)
      obtain ⟨sz292, rfl, y1_292, y2_292, K292, EB292, FC292, ar292, cp292, al292, nr292, FV292, FN292, VA292, d1_292, d2_292, d3_292⟩ := q292
      have f293 := (Exa.keep EA276 K285)
      have ne294 : a276 ≠ ar292 := Or.elim al292 (fun q => by rw [q]; exact ne286) (fun q => Nat.ne_of_lt (Nat.lt_of_lt_of_le (Exa.lt f293) q))
      have f295 := (Arv.keep VA276 K285 (ninS (Ne.symm ne280.2) (ninS (Ne.symm ne279.2) nin0)))
      have ne296 : t276 ≠ ar292 := Or.elim al292 (fun q => by rw [q]; exact ne287) (fun q => Nat.ne_of_lt (Nat.lt_of_lt_of_le (Arv.lt f295) q))
      have ne297 : b267 ≠ ar292 := Exa.ne EB292 VA292.2 (by decide)
      have a292 := own_add ((0 : Int32) + (5 : Int32)) sz292 (by first | omega | (simp only [Int32.reduceToInt]; omega)) (by first | omega | (simp only [Int32.reduceToInt]; omega))
      try simp only [Int32.reduceToInt] at a292
      show Goes p e below _ T292 (mkF m 56 #[.val (.int li), .val (.int co)] [(.ref b267)])
      have kp298 := (Keep.refl h285 [b267, ar285]).trans K292 (allS (Or.inl (by simp)) (allS (Or.inl (by simp)) all0))
      have I299 := Lits.keep I290 kp298 (sfS (Safe.exa C.hZ.alike EB285 (by decide) (by decide)) (sfS sf291 sf0))
      have sf300 := Lits.safe I290 kp298 (sfS (Safe.exa C.hZ.alike EB285 (by decide) (by decide)) (sfS sf291 sf0)) (Or.elim al292 (fun q => q.symm ▸ sf291) (fun q => Safe.new q))
      refine g_ldcs 36 C X292 I299 (own_wS hw) (own_EW hw) (by decide +kernel) (wd hw 136 rfl) (vs := [(.int 44), (.int 32), (.int 99), (.int 111), (.int 108), (.int 117), (.int 109), (.int 110), (.int 32)]) (z := 9) ⟨by decide +kernel, by decide +kernel⟩ (by decide) rfl (by decide) (by decide) d8_56 (by decide) (by decide) (fun a301 T301 h301 t301 k_t301 C X301 I301 R301 E301 EA301 FC301 FV301 VA301 N301 => ?_)
      have sf302 := CHr.safe R301 (By.lt VA292) sf300
      have f303 := (Exa.ext E301 EB292)
      have ne304 := N301 _ sf302
      have ne305 := N301 _ (Safe.exa C.hZ.alike f303 (by decide) (by decide))
      show Goes p e below _ T301 (mkF m 58 #[.val (.int li), .val (.int co)] [(.ref a301), (.ref b267)])
      have f306 := (Fld.ext E301 FC292)
      have f307 := (Fld.ext E301 FV292)
      have f308 := (Fld.ext E301 FN292)
      have f309 := (By.ext VA292 E301)
      refine g_virtual (argsL := [(.ref a301)]) (st := []) C X301 (wd hw 63 rfl) (wd hw 64 rfl) (nf_of C (wd hw 66 rfl) rfl rfl) (wd hw 66 rfl) (wd hw 65 rfl) (by decide) f303 (pay_of (W' := 0) (rBS l hw X301.ext b267 a301 ar292 (((0 : Int32) + (5 : Int32)) + sz292) cp292 z_ SZ hz f303 f306 f307 f308 f309 n_b267 nr292 d1_292 d2_292 d3_292 t301 (9 : Int32) EA301 FC301 FV301 (ByS.of VA301) (by first | omega | (simp only [Int32.reduceToInt]; omega)) (by first | omega | (simp only [Int32.reduceToInt]; omega))) C.hZ (wd hw 67 rfl) (wd hw 43 rfl) (by decide) (by decide)) pd_20 rfl rfl _ rfl (Nat.le_of_eq rfl) d8_58 (by decide) (by decide) (fun T310 h310 v310 q310 X310 => ?_)
      obtain ⟨rfl, K310, EB310, FC310, ar310, cp310, al310, nr310, FV310, FN310, VA310, d1_310, d2_310, d3_310⟩ := q310
      have f311 := (Exa.ext E301 (Exa.keep f293 K292))
      have ne312 : a276 ≠ ar310 := Or.elim al310 (fun q => by rw [q]; exact ne294) (fun q => Nat.ne_of_lt (Nat.lt_of_lt_of_le (Exa.lt f311) q))
      have f313 := (Arv.ext (Arv.keep f295 K292 (ninS (Ne.symm ne280.2) (ninS ne287 nin0))) E301)
      have ne314 : t276 ≠ ar310 := Or.elim al310 (fun q => by rw [q]; exact ne296) (fun q => Nat.ne_of_lt (Nat.lt_of_lt_of_le (Arv.lt f313) q))
      have ne315 : a301 ≠ ar310 := Or.elim al310 (fun q => by rw [q]; exact (Ne.symm ne304.1)) (fun q => Nat.ne_of_lt (Nat.lt_of_lt_of_le (Exa.lt EA301) q))
      have ne316 : t301 ≠ ar310 := Or.elim al310 (fun q => by rw [q]; exact (Ne.symm ne304.2)) (fun q => Nat.ne_of_lt (Nat.lt_of_lt_of_le (Arv.lt VA301) q))
      have ne317 : b267 ≠ ar310 := Exa.ne EB310 VA310.2 (by decide)
      have a310 := own_add (((0 : Int32) + (5 : Int32)) + sz292) (9 : Int32) (by first | omega | (simp only [Int32.reduceToInt]; omega)) (by first | omega | (simp only [Int32.reduceToInt]; omega))
      try simp only [Int32.reduceToInt] at a310
      show Goes p e below _ T310 (mkF m 61 #[.val (.int li), .val (.int co)] [(.ref b267)])
      refine g_iloadN C X310 d8_61 rfl ?_
      have kp318 := (Keep.refl h301 [b267, ar292]).trans K310 (allS (Or.inl (by simp)) (allS (Or.inl (by simp)) all0))
      have I319 := Lits.keep I301 kp318 (sfS (Safe.exa C.hZ.alike f303 (by decide) (by decide)) (sfS sf302 sf0))
      have sf320 := Lits.safe I301 kp318 (sfS (Safe.exa C.hZ.alike f303 (by decide) (by decide)) (sfS sf302 sf0)) (Or.elim al310 (fun q => q.symm ▸ sf302) (fun q => Safe.new q))
      refine g_virtual (argsL := [(.int co)]) (st := []) C X310 (wd hw 113 rfl) (wd hw 114 rfl) (nf_of C (wd hw 116 rfl) rfl rfl) (wd hw 116 rfl) (wd hw 115 rfl) (by decide) EB310 (pay_of (W' := 0) (rBI l hw X310.ext b267 co ar310 ((((0 : Int32) + (5 : Int32)) + sz292) + (9 : Int32)) cp310 z_ SZ hz EB310 FC310 FV310 FN310 VA310 n_b267 nr310 d1_310 d2_310 d3_310 o1 o2 S1 S2 D1 D2 (by omega)) C.hZ (wd hw 117 rfl) (wd hw 43 rfl) (by decide) (by decide)) pd_21 rfl rfl _ rfl (Nat.le_of_eq rfl) d8_62 (by decide) (by decide) (fun T321 h321 v321 q321 X321 => ?_)
      obtain ⟨sz321, rfl, y1_321, y2_321, K321, EB321, FC321, ar321, cp321, al321, nr321, FV321, FN321, VA321, d1_321, d2_321, d3_321⟩ := q321
      have f322 := (Exa.keep f311 K310)
      have ne323 : a276 ≠ ar321 := Or.elim al321 (fun q => by rw [q]; exact ne312) (fun q => Nat.ne_of_lt (Nat.lt_of_lt_of_le (Exa.lt f322) q))
      have f324 := (Arv.keep f313 K310 (ninS (Ne.symm ne280.2) (ninS ne296 nin0)))
      have ne325 : t276 ≠ ar321 := Or.elim al321 (fun q => by rw [q]; exact ne314) (fun q => Nat.ne_of_lt (Nat.lt_of_lt_of_le (Arv.lt f324) q))
      have f326 := (Exa.keep EA301 K310)
      have ne327 : a301 ≠ ar321 := Or.elim al321 (fun q => by rw [q]; exact ne315) (fun q => Nat.ne_of_lt (Nat.lt_of_lt_of_le (Exa.lt f326) q))
      have f328 := (Arv.keep VA301 K310 (ninS (Ne.symm ne305.2) (ninS (Ne.symm ne304.2) nin0)))
      have ne329 : t301 ≠ ar321 := Or.elim al321 (fun q => by rw [q]; exact ne316) (fun q => Nat.ne_of_lt (Nat.lt_of_lt_of_le (Arv.lt f328) q))
      have ne330 : b267 ≠ ar321 := Exa.ne EB321 VA321.2 (by decide)
      have a321 := own_add ((((0 : Int32) + (5 : Int32)) + sz292) + (9 : Int32)) sz321 (by first | omega | (simp only [Int32.reduceToInt]; omega)) (by first | omega | (simp only [Int32.reduceToInt]; omega))
      try simp only [Int32.reduceToInt] at a321
      show Goes p e below _ T321 (mkF m 65 #[.val (.int li), .val (.int co)] [(.ref b267)])
      refine g_virtual (argsL := []) (st := []) C X321 (wd hw 160 rfl) (wd hw 161 rfl) (nf_of C (wd hw 163 rfl) rfl rfl) (wd hw 163 rfl) (wd hw 162 rfl) (by decide) EB321 (pay_of (W' := 0) (rTS l hw X321.ext b267 ar321 (((((0 : Int32) + (5 : Int32)) + sz292) + (9 : Int32)) + sz321) cp321 z_ SZ hz EB321 FC321 FV321 FN321 VA321 n_b267 nr321 d1_321 d2_321 d3_321) C.hZ (wd hw 164 rfl) (wd hw 43 rfl) (by decide) (by decide)) pd_22 rfl rfl _ rfl (Nat.le_of_eq rfl) d8_65 (by decide) (by decide) (fun T331 h331 v331 q331 X331 => ?_)
      obtain ⟨sq331, tq331, rfl, E331, EQ331, QC331, QV331, VQ331⟩ := q331
      show Goes p e below _ T331 (mkF m 68 #[.val (.int li), .val (.int co)] [(.ref sq331)])
      have sz332 : h.size ≤ b267 := by rw [g_b267]; exact (Keep.refl h []).1
      have kp333 := (Keep.refl h []).ext E267
      have sz334 : h.size ≤ ar268 := Nat.le_trans kp333.1 g268
      have kp335 := kp333.trans K268 (allS (Or.inr sz332) all0)
      have kp336 := kp335.ext E276
      have sz337 : h.size ≤ ar285 := Or.elim al285 (fun q => by rw [q]; exact sz334) (fun q => Nat.le_trans kp336.1 q)
      have kp338 := kp336.trans K285 (allS (Or.inr sz332) (allS (Or.inr sz334) all0))
      have sz339 : h.size ≤ ar292 := Or.elim al292 (fun q => by rw [q]; exact sz337) (fun q => Nat.le_trans kp338.1 q)
      have kp340 := kp338.trans K292 (allS (Or.inr sz332) (allS (Or.inr sz337) all0))
      have kp341 := kp340.ext E301
      have sz342 : h.size ≤ ar310 := Or.elim al310 (fun q => by rw [q]; exact sz339) (fun q => Nat.le_trans kp341.1 q)
      have kp343 := kp341.trans K310 (allS (Or.inr sz332) (allS (Or.inr sz339) all0))
      have sz344 : h.size ≤ ar321 := Or.elim al321 (fun q => by rw [q]; exact sz342) (fun q => Nat.le_trans kp343.1 q)
      have kp345 := kp343.trans K321 (allS (Or.inr sz332) (allS (Or.inr sz342) all0))
      have kp346 := kp345.ext E331
      have kp347 := (Keep.refl h310 [b267, ar310]).trans K321 (allS (Or.inl (by simp)) (allS (Or.inl (by simp)) all0))
      have kp348 := kp347.ext E331
      have I349 := Lits.keep I319 kp348 (sfS (Safe.exa C.hZ.alike EB310 (by decide) (by decide)) (sfS sf320 sf0))
      have sf350 := Lits.safe I319 kp348 (sfS (Safe.exa C.hZ.alike EB310 (by decide) (by decide)) (sfS sf320 sf0)) (Or.elim al321 (fun q => q.symm ▸ sf320) (fun q => Safe.new q))
      have f351 := (Exa.ext E331 EB321)
      exact goes_L I349 (own_EW hw) C.hZ (g_retA C X331 rfl rfl d8_68 (by decide) (by decide) ⟨⟨sq331, tq331, (((((0 : Int32) + (5 : Int32)) + sz292) + (9 : Int32)) + sz321), rfl, keep_ext kp346, EQ331, QC331, QV331, VQ331, (by first | omega | (simp only [Int32.reduceToInt]; omega)), (by first | omega | (simp only [Int32.reduceToInt]; omega))⟩, rfl⟩)
    · refine g_iloadN C X0 d8_13 rfl ?_
      refine g_iconst 1 C X0 d8_14 rfl ?_
      refine g_icmpn (hI_le _ _) C X0 d8_15 (fun c15_352 => ?_) (fun c15_352 => ?_)
      · refine g_new C X0 (wd hw 41 rfl) (wd hw 42 rfl) (wd hw 43 rfl) d8_40 (by decide) (by decide) (fun T353 h353 b353 g_b353 n_b353 X353 E353 A353 D353 M353 => ?_)
        have F_value_b353 : Fld Z h353 b353 "java/lang/AbstractStringBuilder" "value" "[B" .null := D353 (Or.inl (wd hw 56 rfl)) (ty := (.array .byte)) (by decide)
        have F_coder_b353 : Fld Z h353 b353 "java/lang/AbstractStringBuilder" "coder" "B" (.int 0) := D353 (Or.inl (wd hw 58 rfl)) (ty := .byte) (by decide)
        have F_count_b353 : Fld Z h353 b353 "java/lang/AbstractStringBuilder" "count" "I" (.int 0) := D353 (Or.inl (wd hw 87 rfl)) (ty := .int) (by decide)
        refine g_dup C X353 d8_43 rfl ?_
        refine g_special (argsL := []) (st := [(.ref b353)]) C X353 rfl (wd hw 44 rfl) (wd hw 45 rfl) (wd hw 46 rfl) (by decide) (pay_of (W' := 1) (rBN l hw X353.ext b353 z_ SZ hz A353 F_coder_b353 F_value_b353 F_count_b353 n_b353) C.hZ (wd hw 46 rfl) (wd hw 43 rfl) (by decide) (by decide)) pd_19 rfl rfl _ rfl (Nat.le_of_eq rfl) d8_44 (by decide) (by decide) (fun T354 h354 v354 q354 X354 => ?_)
        obtain ⟨rfl, K354, EB354, FC354, ar354, g354, nr354, FV354, FN354, VA354⟩ := q354
        have ne355 : b353 ≠ ar354 := Exa.ne EB354 VA354.2 (by decide)
        show Goes p e below _ T354 (mkF m 47 #[.val (.int li), .val (.int co)] [(.ref b353)])
        have sz356 : h.size ≤ b353 := by rw [g_b353]; exact (Keep.refl h []).1
        have kp357 := (Keep.refl h []).ext E353
        have sz358 : h.size ≤ ar354 := Nat.le_trans kp357.1 g354
        have kp359 := kp357.trans K354 (allS (Or.inr sz356) all0)
        have I360 := Lits.keep I0 kp359 sf0
        have sf361 := Lits.safe I0 kp359 sf0 (Safe.new sz358)
        refine g_ldcs 20 C X354 I360 (own_wS hw) (own_EW hw) (by decide +kernel) (wd hw 62 rfl) (vs := [(.int 108), (.int 105), (.int 110), (.int 101), (.int 32)]) (z := 5) ⟨by decide +kernel, by decide +kernel⟩ (by decide) rfl (by decide) (by decide) d8_47 (by decide) (by decide) (fun a362 T362 h362 t362 k_t362 C X362 I362 R362 E362 EA362 FC362 FV362 VA362 N362 => ?_)
        have sf363 := CHr.safe R362 (By.lt VA354) sf361
        have f364 := (Exa.ext E362 EB354)
        have ne365 := N362 _ sf363
        have ne366 := N362 _ (Safe.exa C.hZ.alike f364 (by decide) (by decide))
        show Goes p e below _ T362 (mkF m 49 #[.val (.int li), .val (.int co)] [(.ref a362), (.ref b353)])
        have f367 := (Fld.ext E362 FC354)
        have f368 := (Fld.ext E362 FV354)
        have f369 := (Fld.ext E362 FN354)
        have f370 := (By.ext VA354 E362)
        refine g_virtual (argsL := [(.ref a362)]) (st := []) C X362 (wd hw 63 rfl) (wd hw 64 rfl) (nf_of C (wd hw 66 rfl) rfl rfl) (wd hw 66 rfl) (wd hw 65 rfl) (by decide) f364 (pay_of (W' := 0) (rBS l hw X362.ext b353 a362 ar354 (0 : Int32) (16 : Int32) z_ SZ hz f364 f367 f368 f369 f370 n_b353 nr354 (by decide) (by decide) (by decide) t362 (5 : Int32) EA362 FC362 FV362 (ByS.of VA362) (by first | omega | (simp only [Int32.reduceToInt]; omega)) (by first | omega | (simp only [Int32.reduceToInt]; omega))) C.hZ (wd hw 67 rfl) (wd hw 43 rfl) (by decide) (by decide)) pd_20 rfl rfl _ rfl (Nat.le_of_eq rfl) d8_49 (by decide) (by decide) (fun T371 h371 v371 q371 X371 => ?_)
        obtain ⟨rfl, K371, EB371, FC371, ar371, cp371, al371, nr371, FV371, FN371, VA371, d1_371, d2_371, d3_371⟩ := q371
        have ne372 : a362 ≠ ar371 := Or.elim al371 (fun q => by rw [q]; exact (Ne.symm ne365.1)) (fun q => Nat.ne_of_lt (Nat.lt_of_lt_of_le (Exa.lt EA362) q))
        have ne373 : t362 ≠ ar371 := Or.elim al371 (fun q => by rw [q]; exact (Ne.symm ne365.2)) (fun q => Nat.ne_of_lt (Nat.lt_of_lt_of_le (Arv.lt VA362) q))
        have ne374 : b353 ≠ ar371 := Exa.ne EB371 VA371.2 (by decide)
        have a371 := own_add (0 : Int32) (5 : Int32) (by first | omega | (simp only [Int32.reduceToInt]; omega)) (by first | omega | (simp only [Int32.reduceToInt]; omega))
        try simp only [Int32.reduceToInt] at a371
        show Goes p e below _ T371 (mkF m 52 #[.val (.int li), .val (.int co)] [(.ref b353)])
        refine g_iloadN C X371 d8_52 rfl ?_
        have kp375 := (Keep.refl h362 [b353, ar354]).trans K371 (allS (Or.inl (by simp)) (allS (Or.inl (by simp)) all0))
        have I376 := Lits.keep I362 kp375 (sfS (Safe.exa C.hZ.alike f364 (by decide) (by decide)) (sfS sf363 sf0))
        have sf377 := Lits.safe I362 kp375 (sfS (Safe.exa C.hZ.alike f364 (by decide) (by decide)) (sfS sf363 sf0)) (Or.elim al371 (fun q => q.symm ▸ sf363) (fun q => Safe.new q))
        refine g_virtual (argsL := [(.int li)]) (st := []) C X371 (wd hw 113 rfl) (wd hw 114 rfl) (nf_of C (wd hw 116 rfl) rfl rfl) (wd hw 116 rfl) (wd hw 115 rfl) (by decide) EB371 (pay_of (W' := 0) (rBI l hw X371.ext b353 li ar371 ((0 : Int32) + (5 : Int32)) cp371 z_ SZ hz EB371 FC371 FV371 FN371 VA371 n_b353 nr371 d1_371 d2_371 d3_371 o1 o2 S1 S2 D1 D2 (by omega)) C.hZ (wd hw 117 rfl) (wd hw 43 rfl) (by decide) (by decide)) pd_21 rfl rfl _ rfl (Nat.le_of_eq rfl) d8_53 (by decide) (by decide) (fun T378 h378 v378 q378 X378 => ?_)
        obtain ⟨sz378, rfl, y1_378, y2_378, K378, EB378, FC378, ar378, cp378, al378, nr378, FV378, FN378, VA378, d1_378, d2_378, d3_378⟩ := q378
        have f379 := (Exa.keep EA362 K371)
        have ne380 : a362 ≠ ar378 := Or.elim al378 (fun q => by rw [q]; exact ne372) (fun q => Nat.ne_of_lt (Nat.lt_of_lt_of_le (Exa.lt f379) q))
        have f381 := (Arv.keep VA362 K371 (ninS (Ne.symm ne366.2) (ninS (Ne.symm ne365.2) nin0)))
        have ne382 : t362 ≠ ar378 := Or.elim al378 (fun q => by rw [q]; exact ne373) (fun q => Nat.ne_of_lt (Nat.lt_of_lt_of_le (Arv.lt f381) q))
        have ne383 : b353 ≠ ar378 := Exa.ne EB378 VA378.2 (by decide)
        have a378 := own_add ((0 : Int32) + (5 : Int32)) sz378 (by first | omega | (simp only [Int32.reduceToInt]; omega)) (by first | omega | (simp only [Int32.reduceToInt]; omega))
        try simp only [Int32.reduceToInt] at a378
        show Goes p e below _ T378 (mkF m 56 #[.val (.int li), .val (.int co)] [(.ref b353)])
        have kp384 := (Keep.refl h371 [b353, ar371]).trans K378 (allS (Or.inl (by simp)) (allS (Or.inl (by simp)) all0))
        have I385 := Lits.keep I376 kp384 (sfS (Safe.exa C.hZ.alike EB371 (by decide) (by decide)) (sfS sf377 sf0))
        have sf386 := Lits.safe I376 kp384 (sfS (Safe.exa C.hZ.alike EB371 (by decide) (by decide)) (sfS sf377 sf0)) (Or.elim al378 (fun q => q.symm ▸ sf377) (fun q => Safe.new q))
        refine g_ldcs 36 C X378 I385 (own_wS hw) (own_EW hw) (by decide +kernel) (wd hw 136 rfl) (vs := [(.int 44), (.int 32), (.int 99), (.int 111), (.int 108), (.int 117), (.int 109), (.int 110), (.int 32)]) (z := 9) ⟨by decide +kernel, by decide +kernel⟩ (by decide) rfl (by decide) (by decide) d8_56 (by decide) (by decide) (fun a387 T387 h387 t387 k_t387 C X387 I387 R387 E387 EA387 FC387 FV387 VA387 N387 => ?_)
        have sf388 := CHr.safe R387 (By.lt VA378) sf386
        have f389 := (Exa.ext E387 EB378)
        have ne390 := N387 _ sf388
        have ne391 := N387 _ (Safe.exa C.hZ.alike f389 (by decide) (by decide))
        show Goes p e below _ T387 (mkF m 58 #[.val (.int li), .val (.int co)] [(.ref a387), (.ref b353)])
        have f392 := (Fld.ext E387 FC378)
        have f393 := (Fld.ext E387 FV378)
        have f394 := (Fld.ext E387 FN378)
        have f395 := (By.ext VA378 E387)
        refine g_virtual (argsL := [(.ref a387)]) (st := []) C X387 (wd hw 63 rfl) (wd hw 64 rfl) (nf_of C (wd hw 66 rfl) rfl rfl) (wd hw 66 rfl) (wd hw 65 rfl) (by decide) f389 (pay_of (W' := 0) (rBS l hw X387.ext b353 a387 ar378 (((0 : Int32) + (5 : Int32)) + sz378) cp378 z_ SZ hz f389 f392 f393 f394 f395 n_b353 nr378 d1_378 d2_378 d3_378 t387 (9 : Int32) EA387 FC387 FV387 (ByS.of VA387) (by first | omega | (simp only [Int32.reduceToInt]; omega)) (by first | omega | (simp only [Int32.reduceToInt]; omega))) C.hZ (wd hw 67 rfl) (wd hw 43 rfl) (by decide) (by decide)) pd_20 rfl rfl _ rfl (Nat.le_of_eq rfl) d8_58 (by decide) (by decide) (fun T396 h396 v396 q396 X396 => ?_)
        obtain ⟨rfl, K396, EB396, FC396, ar396, cp396, al396, nr396, FV396, FN396, VA396, d1_396, d2_396, d3_396⟩ := q396
        have f397 := (Exa.ext E387 (Exa.keep f379 K378))
        have ne398 : a362 ≠ ar396 := Or.elim al396 (fun q => by rw [q]; exact ne380) (fun q => Nat.ne_of_lt (Nat.lt_of_lt_of_le (Exa.lt f397) q))
        have f399 := (Arv.ext (Arv.keep f381 K378 (ninS (Ne.symm ne366.2) (ninS ne373 nin0))) E387)
        have ne400 : t362 ≠ ar396 := Or.elim al396 (fun q => by rw [q]; exact ne382) (fun q => Nat.ne_of_lt (Nat.lt_of_lt_of_le (Arv.lt f399) q))
        have ne401 : a387 ≠ ar396 := Or.elim al396 (fun q => by rw [q]; exact (Ne.symm ne390.1)) (fun q => Nat.ne_of_lt (Nat.lt_of_lt_of_le (Exa.lt EA387) q))
        have ne402 : t387 ≠ ar396 := Or.elim al396 (fun q => by rw [q]; exact (Ne.symm ne390.2)) (fun q => Nat.ne_of_lt (Nat.lt_of_lt_of_le (Arv.lt VA387) q))
        have ne403 : b353 ≠ ar396 := Exa.ne EB396 VA396.2 (by decide)
        have a396 := own_add (((0 : Int32) + (5 : Int32)) + sz378) (9 : Int32) (by first | omega | (simp only [Int32.reduceToInt]; omega)) (by first | omega | (simp only [Int32.reduceToInt]; omega))
        try simp only [Int32.reduceToInt] at a396
        show Goes p e below _ T396 (mkF m 61 #[.val (.int li), .val (.int co)] [(.ref b353)])
        refine g_iloadN C X396 d8_61 rfl ?_
        have kp404 := (Keep.refl h387 [b353, ar378]).trans K396 (allS (Or.inl (by simp)) (allS (Or.inl (by simp)) all0))
        have I405 := Lits.keep I387 kp404 (sfS (Safe.exa C.hZ.alike f389 (by decide) (by decide)) (sfS sf388 sf0))
        have sf406 := Lits.safe I387 kp404 (sfS (Safe.exa C.hZ.alike f389 (by decide) (by decide)) (sfS sf388 sf0)) (Or.elim al396 (fun q => q.symm ▸ sf388) (fun q => Safe.new q))
        refine g_virtual (argsL := [(.int co)]) (st := []) C X396 (wd hw 113 rfl) (wd hw 114 rfl) (nf_of C (wd hw 116 rfl) rfl rfl) (wd hw 116 rfl) (wd hw 115 rfl) (by decide) EB396 (pay_of (W' := 0) (rBI l hw X396.ext b353 co ar396 ((((0 : Int32) + (5 : Int32)) + sz378) + (9 : Int32)) cp396 z_ SZ hz EB396 FC396 FV396 FN396 VA396 n_b353 nr396 d1_396 d2_396 d3_396 o1 o2 S1 S2 D1 D2 (by omega)) C.hZ (wd hw 117 rfl) (wd hw 43 rfl) (by decide) (by decide)) pd_21 rfl rfl _ rfl (Nat.le_of_eq rfl) d8_62 (by decide) (by decide) (fun T407 h407 v407 q407 X407 => ?_)
        obtain ⟨sz407, rfl, y1_407, y2_407, K407, EB407, FC407, ar407, cp407, al407, nr407, FV407, FN407, VA407, d1_407, d2_407, d3_407⟩ := q407
        have f408 := (Exa.keep f397 K396)
        have ne409 : a362 ≠ ar407 := Or.elim al407 (fun q => by rw [q]; exact ne398) (fun q => Nat.ne_of_lt (Nat.lt_of_lt_of_le (Exa.lt f408) q))
        have f410 := (Arv.keep f399 K396 (ninS (Ne.symm ne366.2) (ninS ne382 nin0)))
        have ne411 : t362 ≠ ar407 := Or.elim al407 (fun q => by rw [q]; exact ne400) (fun q => Nat.ne_of_lt (Nat.lt_of_lt_of_le (Arv.lt f410) q))
        have f412 := (Exa.keep EA387 K396)
        have ne413 : a387 ≠ ar407 := Or.elim al407 (fun q => by rw [q]; exact ne401) (fun q => Nat.ne_of_lt (Nat.lt_of_lt_of_le (Exa.lt f412) q))
        have f414 := (Arv.keep VA387 K396 (ninS (Ne.symm ne391.2) (ninS (Ne.symm ne390.2) nin0)))
        have ne415 : t387 ≠ ar407 := Or.elim al407 (fun q => by rw [q]; exact ne402) (fun q => Nat.ne_of_lt (Nat.lt_of_lt_of_le (Arv.lt f414) q))
        have ne416 : b353 ≠ ar407 := Exa.ne EB407 VA407.2 (by decide)
        have a407 := own_add ((((0 : Int32) + (5 : Int32)) + sz378) + (9 : Int32)) sz407 (by first | omega | (simp only [Int32.reduceToInt]; omega)) (by first | omega | (simp only [Int32.reduceToInt]; omega))
        try simp only [Int32.reduceToInt] at a407
        show Goes p e below _ T407 (mkF m 65 #[.val (.int li), .val (.int co)] [(.ref b353)])
        refine g_virtual (argsL := []) (st := []) C X407 (wd hw 160 rfl) (wd hw 161 rfl) (nf_of C (wd hw 163 rfl) rfl rfl) (wd hw 163 rfl) (wd hw 162 rfl) (by decide) EB407 (pay_of (W' := 0) (rTS l hw X407.ext b353 ar407 (((((0 : Int32) + (5 : Int32)) + sz378) + (9 : Int32)) + sz407) cp407 z_ SZ hz EB407 FC407 FV407 FN407 VA407 n_b353 nr407 d1_407 d2_407 d3_407) C.hZ (wd hw 164 rfl) (wd hw 43 rfl) (by decide) (by decide)) pd_22 rfl rfl _ rfl (Nat.le_of_eq rfl) d8_65 (by decide) (by decide) (fun T417 h417 v417 q417 X417 => ?_)
        obtain ⟨sq417, tq417, rfl, E417, EQ417, QC417, QV417, VQ417⟩ := q417
        show Goes p e below _ T417 (mkF m 68 #[.val (.int li), .val (.int co)] [(.ref sq417)])
        have sz418 : h.size ≤ b353 := by rw [g_b353]; exact (Keep.refl h []).1
        have kp419 := (Keep.refl h []).ext E353
        have sz420 : h.size ≤ ar354 := Nat.le_trans kp419.1 g354
        have kp421 := kp419.trans K354 (allS (Or.inr sz418) all0)
        have kp422 := kp421.ext E362
        have sz423 : h.size ≤ ar371 := Or.elim al371 (fun q => by rw [q]; exact sz420) (fun q => Nat.le_trans kp422.1 q)
        have kp424 := kp422.trans K371 (allS (Or.inr sz418) (allS (Or.inr sz420) all0))
        have sz425 : h.size ≤ ar378 := Or.elim al378 (fun q => by rw [q]; exact sz423) (fun q => Nat.le_trans kp424.1 q)
        have kp426 := kp424.trans K378 (allS (Or.inr sz418) (allS (Or.inr sz423) all0))
        have kp427 := kp426.ext E387
        have sz428 : h.size ≤ ar396 := Or.elim al396 (fun q => by rw [q]; exact sz425) (fun q => Nat.le_trans kp427.1 q)
        have kp429 := kp427.trans K396 (allS (Or.inr sz418) (allS (Or.inr sz425) all0))
        have sz430 : h.size ≤ ar407 := Or.elim al407 (fun q => by rw [q]; exact sz428) (fun q => Nat.le_trans kp429.1 q)
        have kp431 := kp429.trans K407 (allS (Or.inr sz418) (allS (Or.inr sz428) all0))
        have kp432 := kp431.ext E417
        have kp433 := (Keep.refl h396 [b353, ar396]).trans K407 (allS (Or.inl (by simp)) (allS (Or.inl (by simp)) all0))
        have kp434 := kp433.ext E417
        have I435 := Lits.keep I405 kp434 (sfS (Safe.exa C.hZ.alike EB396 (by decide) (by decide)) (sfS sf406 sf0))
        have sf436 := Lits.safe I405 kp434 (sfS (Safe.exa C.hZ.alike EB396 (by decide) (by decide)) (sfS sf406 sf0)) (Or.elim al407 (fun q => q.symm ▸ sf406) (fun q => Safe.new q))
        have f437 := (Exa.ext E417 EB407)
        exact goes_L I435 (own_EW hw) C.hZ (g_retA C X417 rfl rfl d8_68 (by decide) (by decide) ⟨⟨sq417, tq417, (((((0 : Int32) + (5 : Int32)) + sz378) + (9 : Int32)) + sz407), rfl, keep_ext kp432, EQ417, QC417, QV417, VQ417, (by first | omega | (simp only [Int32.reduceToInt]; omega)), (by first | omega | (simp only [Int32.reduceToInt]; omega))⟩, rfl⟩)
      · refine g_new C X0 (wd hw 41 rfl) (wd hw 42 rfl) (wd hw 43 rfl) d8_18 (by decide) (by decide) (fun T438 h438 b438 g_b438 n_b438 X438 E438 A438 D438 M438 => ?_)
        have F_value_b438 : Fld Z h438 b438 "java/lang/AbstractStringBuilder" "value" "[B" .null := D438 (Or.inl (wd hw 56 rfl)) (ty := (.array .byte)) (by decide)
        have F_coder_b438 : Fld Z h438 b438 "java/lang/AbstractStringBuilder" "coder" "B" (.int 0) := D438 (Or.inl (wd hw 58 rfl)) (ty := .byte) (by decide)
        have F_count_b438 : Fld Z h438 b438 "java/lang/AbstractStringBuilder" "count" "I" (.int 0) := D438 (Or.inl (wd hw 87 rfl)) (ty := .int) (by decide)
        refine g_dup C X438 d8_21 rfl ?_
        refine g_special (argsL := []) (st := [(.ref b438)]) C X438 rfl (wd hw 44 rfl) (wd hw 45 rfl) (wd hw 46 rfl) (by decide) (pay_of (W' := 1) (rBN l hw X438.ext b438 z_ SZ hz A438 F_coder_b438 F_value_b438 F_count_b438 n_b438) C.hZ (wd hw 46 rfl) (wd hw 43 rfl) (by decide) (by decide)) pd_19 rfl rfl _ rfl (Nat.le_of_eq rfl) d8_22 (by decide) (by decide) (fun T439 h439 v439 q439 X439 => ?_)
        obtain ⟨rfl, K439, EB439, FC439, ar439, g439, nr439, FV439, FN439, VA439⟩ := q439
        have ne440 : b438 ≠ ar439 := Exa.ne EB439 VA439.2 (by decide)
        show Goes p e below _ T439 (mkF m 25 #[.val (.int li), .val (.int co)] [(.ref b438)])
        have sz441 : h.size ≤ b438 := by rw [g_b438]; exact (Keep.refl h []).1
        have kp442 := (Keep.refl h []).ext E438
        have sz443 : h.size ≤ ar439 := Nat.le_trans kp442.1 g439
        have kp444 := kp442.trans K439 (allS (Or.inr sz441) all0)
        have I445 := Lits.keep I0 kp444 sf0
        have sf446 := Lits.safe I0 kp444 sf0 (Safe.new sz443)
        refine g_ldcs 64 C X439 I445 (own_wS hw) (own_EW hw) (by decide +kernel) (wd hw 262 rfl) (vs := [(.int 116), (.int 104), (.int 101), (.int 32), (.int 101), (.int 110), (.int 100), (.int 32), (.int 111), (.int 102), (.int 32), (.int 108), (.int 105), (.int 110), (.int 101), (.int 32)]) (z := 16) ⟨by decide +kernel, by decide +kernel⟩ (by decide) rfl (by decide) (by decide) d8_25 (by decide) (by decide) (fun a447 T447 h447 t447 k_t447 C X447 I447 R447 E447 EA447 FC447 FV447 VA447 N447 => ?_)
        have sf448 := CHr.safe R447 (By.lt VA439) sf446
        have f449 := (Exa.ext E447 EB439)
        have ne450 := N447 _ sf448
        have ne451 := N447 _ (Safe.exa C.hZ.alike f449 (by decide) (by decide))
        show Goes p e below _ T447 (mkF m 27 #[.val (.int li), .val (.int co)] [(.ref a447), (.ref b438)])
        have f452 := (Fld.ext E447 FC439)
        have f453 := (Fld.ext E447 FV439)
        have f454 := (Fld.ext E447 FN439)
        have f455 := (By.ext VA439 E447)
        refine g_virtual (argsL := [(.ref a447)]) (st := []) C X447 (wd hw 63 rfl) (wd hw 64 rfl) (nf_of C (wd hw 66 rfl) rfl rfl) (wd hw 66 rfl) (wd hw 65 rfl) (by decide) f449 (pay_of (W' := 0) (rBS l hw X447.ext b438 a447 ar439 (0 : Int32) (16 : Int32) z_ SZ hz f449 f452 f453 f454 f455 n_b438 nr439 (by decide) (by decide) (by decide) t447 (16 : Int32) EA447 FC447 FV447 (ByS.of VA447) (by first | omega | (simp only [Int32.reduceToInt]; omega)) (by first | omega | (simp only [Int32.reduceToInt]; omega))) C.hZ (wd hw 67 rfl) (wd hw 43 rfl) (by decide) (by decide)) pd_20 rfl rfl _ rfl (Nat.le_of_eq rfl) d8_27 (by decide) (by decide) (fun T456 h456 v456 q456 X456 => ?_)
        obtain ⟨rfl, K456, EB456, FC456, ar456, cp456, al456, nr456, FV456, FN456, VA456, d1_456, d2_456, d3_456⟩ := q456
        have ne457 : a447 ≠ ar456 := Or.elim al456 (fun q => by rw [q]; exact (Ne.symm ne450.1)) (fun q => Nat.ne_of_lt (Nat.lt_of_lt_of_le (Exa.lt EA447) q))
        have ne458 : t447 ≠ ar456 := Or.elim al456 (fun q => by rw [q]; exact (Ne.symm ne450.2)) (fun q => Nat.ne_of_lt (Nat.lt_of_lt_of_le (Arv.lt VA447) q))
        have ne459 : b438 ≠ ar456 := Exa.ne EB456 VA456.2 (by decide)
        have a456 := own_add (0 : Int32) (16 : Int32) (by first | omega | (simp only [Int32.reduceToInt]; omega)) (by first | omega | (simp only [Int32.reduceToInt]; omega))
        try simp only [Int32.reduceToInt] at a456
        show Goes p e below _ T456 (mkF m 30 #[.val (.int li), .val (.int co)] [(.ref b438)])
        refine g_iloadN C X456 d8_30 rfl ?_
        refine g_iconst 1 C X456 d8_31 rfl ?_
        refine g_isub C X456 d8_32 ?_
        have kp460 := (Keep.refl h447 [b438, ar439]).trans K456 (allS (Or.inl (by simp)) (allS (Or.inl (by simp)) all0))
        have I461 := Lits.keep I447 kp460 (sfS (Safe.exa C.hZ.alike f449 (by decide) (by decide)) (sfS sf448 sf0))
        have sf462 := Lits.safe I447 kp460 (sfS (Safe.exa C.hZ.alike f449 (by decide) (by decide)) (sfS sf448 sf0)) (Or.elim al456 (fun q => q.symm ▸ sf448) (fun q => Safe.new q))
        refine g_virtual (argsL := [(.int (li - (1 : Int32)))]) (st := []) C X456 (wd hw 113 rfl) (wd hw 114 rfl) (nf_of C (wd hw 116 rfl) rfl rfl) (wd hw 116 rfl) (wd hw 115 rfl) (by decide) EB456 (pay_of (W' := 0) (rBI l hw X456.ext b438 (li - (1 : Int32)) ar456 ((0 : Int32) + (16 : Int32)) cp456 z_ SZ hz EB456 FC456 FV456 FN456 VA456 n_b438 nr456 d1_456 d2_456 d3_456 o1 o2 S1 S2 D1 D2 (by omega)) C.hZ (wd hw 117 rfl) (wd hw 43 rfl) (by decide) (by decide)) pd_21 rfl rfl _ rfl (Nat.le_of_eq rfl) d8_33 (by decide) (by decide) (fun T463 h463 v463 q463 X463 => ?_)
        obtain ⟨sz463, rfl, y1_463, y2_463, K463, EB463, FC463, ar463, cp463, al463, nr463, FV463, FN463, VA463, d1_463, d2_463, d3_463⟩ := q463
        have f464 := (Exa.keep EA447 K456)
        have ne465 : a447 ≠ ar463 := Or.elim al463 (fun q => by rw [q]; exact ne457) (fun q => Nat.ne_of_lt (Nat.lt_of_lt_of_le (Exa.lt f464) q))
        have f466 := (Arv.keep VA447 K456 (ninS (Ne.symm ne451.2) (ninS (Ne.symm ne450.2) nin0)))
        have ne467 : t447 ≠ ar463 := Or.elim al463 (fun q => by rw [q]; exact ne458) (fun q => Nat.ne_of_lt (Nat.lt_of_lt_of_le (Arv.lt f466) q))
        have ne468 : b438 ≠ ar463 := Exa.ne EB463 VA463.2 (by decide)
        have a463 := own_add ((0 : Int32) + (16 : Int32)) sz463 (by first | omega | (simp only [Int32.reduceToInt]; omega)) (by first | omega | (simp only [Int32.reduceToInt]; omega))
        try simp only [Int32.reduceToInt] at a463
        show Goes p e below _ T463 (mkF m 36 #[.val (.int li), .val (.int co)] [(.ref b438)])
        refine g_virtual (argsL := []) (st := []) C X463 (wd hw 160 rfl) (wd hw 161 rfl) (nf_of C (wd hw 163 rfl) rfl rfl) (wd hw 163 rfl) (wd hw 162 rfl) (by decide) EB463 (pay_of (W' := 0) (rTS l hw X463.ext b438 ar463 (((0 : Int32) + (16 : Int32)) + sz463) cp463 z_ SZ hz EB463 FC463 FV463 FN463 VA463 n_b438 nr463 d1_463 d2_463 d3_463) C.hZ (wd hw 164 rfl) (wd hw 43 rfl) (by decide) (by decide)) pd_22 rfl rfl _ rfl (Nat.le_of_eq rfl) d8_36 (by decide) (by decide) (fun T469 h469 v469 q469 X469 => ?_)
        obtain ⟨sq469, tq469, rfl, E469, EQ469, QC469, QV469, VQ469⟩ := q469
        show Goes p e below _ T469 (mkF m 39 #[.val (.int li), .val (.int co)] [(.ref sq469)])
        have sz470 : h.size ≤ b438 := by rw [g_b438]; exact (Keep.refl h []).1
        have kp471 := (Keep.refl h []).ext E438
        have sz472 : h.size ≤ ar439 := Nat.le_trans kp471.1 g439
        have kp473 := kp471.trans K439 (allS (Or.inr sz470) all0)
        have kp474 := kp473.ext E447
        have sz475 : h.size ≤ ar456 := Or.elim al456 (fun q => by rw [q]; exact sz472) (fun q => Nat.le_trans kp474.1 q)
        have kp476 := kp474.trans K456 (allS (Or.inr sz470) (allS (Or.inr sz472) all0))
        have sz477 : h.size ≤ ar463 := Or.elim al463 (fun q => by rw [q]; exact sz475) (fun q => Nat.le_trans kp476.1 q)
        have kp478 := kp476.trans K463 (allS (Or.inr sz470) (allS (Or.inr sz475) all0))
        have kp479 := kp478.ext E469
        have kp480 := (Keep.refl h456 [b438, ar456]).trans K463 (allS (Or.inl (by simp)) (allS (Or.inl (by simp)) all0))
        have kp481 := kp480.ext E469
        have I482 := Lits.keep I461 kp481 (sfS (Safe.exa C.hZ.alike EB456 (by decide) (by decide)) (sfS sf462 sf0))
        have sf483 := Lits.safe I461 kp481 (sfS (Safe.exa C.hZ.alike EB456 (by decide) (by decide)) (sfS sf462 sf0)) (Or.elim al463 (fun q => q.symm ▸ sf462) (fun q => Safe.new q))
        have f484 := (Exa.ext E469 EB463)
        exact goes_L I482 (own_EW hw) C.hZ (g_retA C X469 rfl rfl d8_39 (by decide) (by decide) ⟨⟨sq469, tq469, (((0 : Int32) + (16 : Int32)) + sz463), rfl, keep_ext kp479, EQ469, QC469, QV469, VQ469, (by first | omega | (simp only [Int32.reduceToInt]; omega)), (by first | omega | (simp only [Int32.reduceToInt]; omega))⟩, rfl⟩)
  · refine g_ldcs 124 C X0 I0 (own_wS hw) (own_EW hw) (by decide +kernel) (wd hw 252 rfl) (vs := [(.int 97), (.int 32), (.int 112), (.int 108), (.int 97), (.int 99), (.int 101), (.int 32), (.int 116), (.int 104), (.int 101), (.int 32), (.int 112), (.int 97), (.int 114), (.int 115), (.int 101), (.int 114), (.int 32), (.int 100), (.int 105), (.int 100), (.int 32), (.int 110), (.int 111), (.int 116), (.int 32), (.int 110), (.int 97), (.int 109), (.int 101)]) (z := 31) ⟨by decide +kernel, by decide +kernel⟩ (by decide) rfl (by decide) (by decide) d8_5 (by decide) (by decide) (fun a485 T485 h485 t485 k_t485 C X485 I485 R485 E485 EA485 FC485 FV485 VA485 N485 => ?_)
    show Goes p e below _ T485 (mkF m 7 #[.val (.int li), .val (.int co)] [(.ref a485)])
    have kp486 := (Keep.refl h []).ext E485
    exact goes_L I485 (own_EW hw) C.hZ (g_retA C X485 rfl rfl d8_7 (by decide) (by decide) ⟨⟨a485, t485, (31 : Int32), rfl, keep_ext kp486, EA485, FC485, FV485, (ByS.of VA485), (by first | omega | (simp only [Int32.reduceToInt]; omega)), (by first | omega | (simp only [Int32.reduceToInt]; omega))⟩, rfl⟩)
theorem own_exc {Z : State} {a0 : Array Value} (hw : ∀ d ∈ tables_1, d.before a0 Z = true) : ∀ d ∈ Jvm.Free.Exc.excAtoms "com/example/chapeau/chapeau/io/MalformedXmlException", d ≠ Jvm.Cond.lays tN tN "suppressedExceptions" Bundle.listD → d.before a0 Z = true := fun d h1 h2 => hw d ((show ∀ d ∈ Jvm.Free.Exc.excAtoms "com/example/chapeau/chapeau/io/MalformedXmlException", d ≠ Jvm.Cond.lays tN tN "suppressedExceptions" Bundle.listD → d ∈ tables_1 by decide +kernel) d h1 h2)
theorem pn_7 : plainName "java/lang/Throwable" = true := by first | (simp [plainName, overriddenIn]; done) | decide +kernel
theorem ef_rThr (m : MethodId) (x : Addr) (mr : Addr) : entryFrame m #[(.ref x), (.ref mr)] 2 = mkF m 0 #[.val (.ref x), .val (.ref mr)] [] := by first | (simp [entryFrame, mkF, argsToLocals, Value.category]; done) | rfl
theorem d38_0 : Dc jdk_78_method_2_code 0 (.aload_n 0) 1 1 := ⟨by decide +kernel, rfl⟩
theorem d38_1 : Dc jdk_78_method_2_code 1 (.invokespecial 1) 3 4 := ⟨by decide +kernel, rfl⟩
theorem d38_4 : Dc jdk_78_method_2_code 4 (.aload_n 0) 1 5 := ⟨by decide +kernel, rfl⟩
theorem d38_5 : Dc jdk_78_method_2_code 5 (.aload_n 0) 1 6 := ⟨by decide +kernel, rfl⟩
theorem d38_6 : Dc jdk_78_method_2_code 6 (.putfield 7) 3 9 := ⟨by decide +kernel, rfl⟩
theorem d38_9 : Dc jdk_78_method_2_code 9 (.aload_n 0) 1 10 := ⟨by decide +kernel, rfl⟩
theorem d38_10 : Dc jdk_78_method_2_code 10 (.getstatic 13) 3 13 := ⟨by decide +kernel, rfl⟩
theorem d38_13 : Dc jdk_78_method_2_code 13 (.putfield 17) 3 16 := ⟨by decide +kernel, rfl⟩
theorem d38_16 : Dc jdk_78_method_2_code 16 (.aload_n 0) 1 17 := ⟨by decide +kernel, rfl⟩
theorem d38_17 : Dc jdk_78_method_2_code 17 (.getstatic 20) 3 20 := ⟨by decide +kernel, rfl⟩
theorem d38_20 : Dc jdk_78_method_2_code 20 (.putfield 24) 3 23 := ⟨by decide +kernel, rfl⟩
theorem d38_23 : Dc jdk_78_method_2_code 23 (.aload_n 0) 1 24 := ⟨by decide +kernel, rfl⟩
theorem d38_24 : Dc jdk_78_method_2_code 24 (.invokevirtual 27) 3 27 := ⟨by decide +kernel, rfl⟩
theorem d38_27 : Dc jdk_78_method_2_code 27 (.pop) 1 28 := ⟨by decide +kernel, rfl⟩
theorem d38_28 : Dc jdk_78_method_2_code 28 (.aload_n 0) 1 29 := ⟨by decide +kernel, rfl⟩
theorem d38_29 : Dc jdk_78_method_2_code 29 (.aload_n 1) 1 30 := ⟨by decide +kernel, rfl⟩
theorem d38_30 : Dc jdk_78_method_2_code 30 (.putfield 31) 3 33 := ⟨by decide +kernel, rfl⟩
theorem d38_33 : Dc jdk_78_method_2_code 33 (.return_) 1 34 := ⟨by decide +kernel, rfl⟩
theorem rThr (l : Launch) {Z : State} {a0 : Array Value} (hw : ∀ d ∈ tables_1, d.before a0 Z = true) {h : Heap} (hE : Ext Z.heap h) (x : Addr) (mr : Addr) (u0 u1 : Value) (SU : Sta Z Z.heap "java/lang/Throwable" "UNASSIGNED_STACK" "[Ljava/lang/StackTraceElement;" u0) (SV : Sta Z Z.heap "java/lang/Throwable" "SUPPRESSED_SENTINEL" "Ljava/util/List;" u1) (ru0 : u0.isRef = true) (ru1 : u1.isRef = true) (hl : l.stackTraces = true) (EX : Exa Z h x "com/example/chapeau/chapeau/io/MalformedXmlException") (NX : Unt h x) (nx : Z.heap.size ≤ x) (Yf0 : Fld Z h x "java/lang/Throwable" "cause" "Ljava/lang/Throwable;" .null) (Yf1 : Fld Z h x "java/lang/Throwable" "stackTrace" "[Ljava/lang/StackTraceElement;" .null) (Yf2 : Fld Z h x "java/lang/Throwable" "suppressedExceptions" "Ljava/util/List;" .null) (Yf3 : Fld Z h x "java/lang/Throwable" "backtrace" "Ljava/lang/Object;" .null) (Yf4 : Fld Z h x "java/lang/Throwable" "detailMessage" "Ljava/lang/String;" .null) :
    ConN l (⟨"java/lang/Throwable", "<init>", "(Ljava/lang/String;)V"⟩ : MethodName) jdk_78_method_2_code 2 none [] ({ frames := 3, cells := 1, slots := 2752, locals := 72 } : Room) Z #[(.ref x), (.ref mr)] h (fun v' h' => v' = none ∧ h.size ≤ h'.size) := by
  refine con_ofN (plainFor_of_name pn_7) hE (fun m => ef_rThr m x mr) ?_
  intro p e s m below meth c T0 C X0 hKn hs0
  have C : Cx p s m meth c Z "java/lang/Throwable" "<init>" jdk_78_method_2_code 2 none := C
  show Goes p e below _ T0 (mkF m 0 #[.val (.ref x), .val (.ref mr)] [])
  refine g_aloadN C X0 d38_0 rfl rfl ?_
  refine g_initO C X0 (wd hw 215 rfl) (wd hw 12 rfl) (wd hw 13 rfl) rfl d38_1 (by decide) 0 (Nat.le_of_eq rfl) (by decide) (fun T487 X487 => ?_)
  refine g_aloadN C X487 d38_4 rfl rfl ?_
  refine g_aloadN C X487 d38_5 rfl rfl ?_
  refine g_putfield (host := "") C X487 (Or.inl (wd hw 216 rfl)) Via.refl Yf0 EX (Or.inl (wd hw 217 rfl)) (wd hw 28 rfl) (ty := (.object "java/lang/Throwable")) (by decide) rfl rfl nx d38_6 (fun T488 h488 X488 W488 => ?_)
  have f488 := Fld.same W488 Yf0
  refine g_aloadN C X488 d38_9 rfl rfl ?_
  refine g_getstatic (host := "") C X488 (Or.inl (wd hw 218 rfl)) Via.refl SU d38_10 (fun T489 X489 => ?_)
  have f490 := (Fld.other W488 Yf1 (Or.inr (slot_ne (Or.inl (wd hw 220 rfl)) (Or.inl (wd hw 217 rfl)) (by decide) (t := (.array (.object "java/lang/StackTraceElement"))) (t' := (.object "java/lang/Throwable")) (by decide) (by decide))))
  have f491 := (Exa.wr W488 EX)
  refine g_putfield (host := "") C X489 (Or.inl (wd hw 219 rfl)) Via.refl f490 f491 (Or.inl (wd hw 220 rfl)) (wd hw 28 rfl) (ty := (.array (.object "java/lang/StackTraceElement"))) (by decide) (narrow_isRef _ ru0) (own_fitR rfl ru0) nx d38_13 (fun T492 h492 X492 W492 => ?_)
  have f492 := Fld.same W492 f490
  refine g_aloadN C X492 d38_16 rfl rfl ?_
  refine g_getstatic (host := "") C X492 (Or.inl (wd hw 221 rfl)) Via.refl SV d38_17 (fun T493 X493 => ?_)
  have f494 := (Fld.other W492 (Fld.other W488 Yf2 (Or.inr (slot_ne (Or.inl (wd hw 223 rfl)) (Or.inl (wd hw 217 rfl)) (by decide) (t := (.object "java/util/List")) (t' := (.object "java/lang/Throwable")) (by decide) (by decide)))) (Or.inr (slot_ne (Or.inl (wd hw 223 rfl)) (Or.inl (wd hw 220 rfl)) (by decide) (t := (.object "java/util/List")) (t' := (.array (.object "java/lang/StackTraceElement"))) (by decide) (by decide))))
  have f495 := (Exa.wr W492 f491)
  refine g_putfield (host := "") C X493 (Or.inl (wd hw 222 rfl)) Via.refl f494 f495 (Or.inl (wd hw 223 rfl)) (wd hw 28 rfl) (ty := (.object "java/util/List")) (by decide) (narrow_isRef _ ru1) (own_fitR rfl ru1) nx d38_20 (fun T496 h496 X496 W496 => ?_)
  have f496 := Fld.same W496 f494
  refine g_aloadN C X496 d38_23 rfl rfl ?_
  have f498 := (Exa.wr W496 f495)
  have f499 := (Fld.other W496 f492 (Or.inr (slot_ne (Or.inl (wd hw 220 rfl)) (Or.inl (wd hw 223 rfl)) (by decide) (t := (.array (.object "java/lang/StackTraceElement"))) (t' := (.object "java/util/List")) (by decide) (by decide))))
  have f500 := (Fld.other W496 (Fld.other W492 (Fld.other W488 Yf3 (Or.inr (slot_ne (Or.inl (wd hw 248 rfl)) (Or.inl (wd hw 217 rfl)) (by decide) (t := (.object "java/lang/Object")) (t' := (.object "java/lang/Throwable")) (by decide) (by decide)))) (Or.inr (slot_ne (Or.inl (wd hw 248 rfl)) (Or.inl (wd hw 220 rfl)) (by decide) (t := (.object "java/lang/Object")) (t' := (.array (.object "java/lang/StackTraceElement"))) (by decide) (by decide)))) (Or.inr (slot_ne (Or.inl (wd hw 248 rfl)) (Or.inl (wd hw 223 rfl)) (by decide) (t := (.object "java/lang/Object")) (t' := (.object "java/util/List")) (by decide) (by decide))))
  have f501 := (Fld.other W496 (Fld.other W492 (Fld.other W488 Yf4 (Or.inr (slot_ne (Or.inl (wd hw 247 rfl)) (Or.inl (wd hw 217 rfl)) (by decide) (t := (.object "java/lang/String")) (t' := (.object "java/lang/Throwable")) (by decide) (by decide)))) (Or.inr (slot_ne (Or.inl (wd hw 247 rfl)) (Or.inl (wd hw 220 rfl)) (by decide) (t := (.object "java/lang/String")) (t' := (.array (.object "java/lang/StackTraceElement"))) (by decide) (by decide)))) (Or.inr (slot_ne (Or.inl (wd hw 247 rfl)) (Or.inl (wd hw 223 rfl)) (by decide) (t := (.object "java/lang/String")) (t' := (.object "java/util/List")) (by decide) (by decide))))
  refine g_fill (rc := "com/example/chapeau/chapeau/io/MalformedXmlException") C X496 (by decide) hl (own_exc hw) (wd hw 28 rfl) (hs0 ▸ hE) hKn f498 (Unt.wr W496 (Unt.wr W492 (Unt.wr W488 NX))) f499 f500 f501 SU ru0 nx rfl d38_24 (by decide) (by decide) (by decide) (by decide) (fun T497 h497 X497 sz497 EX497 XD497 => ?_)
  show Goes p e below _ T497 (mkF m 27 #[.val (.ref x), .val (.ref mr)] [(.ref x)])
  refine g_pop C X497 d38_27 rfl ?_
  refine g_aloadN C X497 d38_28 rfl rfl ?_
  refine g_aloadN C X497 d38_29 rfl rfl ?_
  refine g_putfield (host := "") C X497 (Or.inl (wd hw 251 rfl)) Via.refl XD497 EX497 (Or.inl (wd hw 247 rfl)) (wd hw 28 rfl) (ty := (.object "java/lang/String")) (by decide) rfl rfl nx d38_30 (fun T502 h502 X502 W502 => ?_)
  have f502 := Fld.same W502 XD497
  exact g_retV C X502 d38_33 (by decide) (by decide) ⟨rfl, by have q := sz497; rw [hs0] at q; exact Nat.le_trans q (Keep.of_wr W502).1⟩
theorem pn_8 : plainName "java/lang/Exception" = true := by first | (simp [plainName, overriddenIn]; done) | decide +kernel
theorem ef_rXc (m : MethodId) (x : Addr) (mr : Addr) : entryFrame m #[(.ref x), (.ref mr)] 2 = mkF m 0 #[.val (.ref x), .val (.ref mr)] [] := by first | (simp [entryFrame, mkF, argsToLocals, Value.category]; done) | rfl
theorem d37_0 : Dc jdk_59_method_2_code 0 (.aload_n 0) 1 1 := ⟨by decide +kernel, rfl⟩
theorem d37_1 : Dc jdk_59_method_2_code 1 (.aload_n 1) 1 2 := ⟨by decide +kernel, rfl⟩
theorem d37_2 : Dc jdk_59_method_2_code 2 (.invokespecial 7) 3 5 := ⟨by decide +kernel, rfl⟩
theorem d37_5 : Dc jdk_59_method_2_code 5 (.return_) 1 6 := ⟨by decide +kernel, rfl⟩
theorem rXc (l : Launch) {Z : State} {a0 : Array Value} (hw : ∀ d ∈ tables_1, d.before a0 Z = true) {h : Heap} (hE : Ext Z.heap h) (x : Addr) (mr : Addr) (u0 u1 : Value) (SU : Sta Z Z.heap "java/lang/Throwable" "UNASSIGNED_STACK" "[Ljava/lang/StackTraceElement;" u0) (SV : Sta Z Z.heap "java/lang/Throwable" "SUPPRESSED_SENTINEL" "Ljava/util/List;" u1) (ru0 : u0.isRef = true) (ru1 : u1.isRef = true) (hl : l.stackTraces = true) (EX : Exa Z h x "com/example/chapeau/chapeau/io/MalformedXmlException") (NX : Unt h x) (nx : Z.heap.size ≤ x) (Yf0 : Fld Z h x "java/lang/Throwable" "cause" "Ljava/lang/Throwable;" .null) (Yf1 : Fld Z h x "java/lang/Throwable" "stackTrace" "[Ljava/lang/StackTraceElement;" .null) (Yf2 : Fld Z h x "java/lang/Throwable" "suppressedExceptions" "Ljava/util/List;" .null) (Yf3 : Fld Z h x "java/lang/Throwable" "backtrace" "Ljava/lang/Object;" .null) (Yf4 : Fld Z h x "java/lang/Throwable" "detailMessage" "Ljava/lang/String;" .null) :
    ConN l (⟨"java/lang/Exception", "<init>", "(Ljava/lang/String;)V"⟩ : MethodName) jdk_59_method_2_code 2 none [] ({ frames := 4, cells := 1, slots := 2752, locals := 96 } : Room) Z #[(.ref x), (.ref mr)] h (fun v' h' => v' = none ∧ h.size ≤ h'.size) := by
  refine con_ofN (plainFor_of_name pn_8) hE (fun m => ef_rXc m x mr) ?_
  intro p e s m below meth c T0 C X0 hKn hs0
  have C : Cx p s m meth c Z "java/lang/Exception" "<init>" jdk_59_method_2_code 2 none := C
  show Goes p e below _ T0 (mkF m 0 #[.val (.ref x), .val (.ref mr)] [])
  refine g_aloadN C X0 d37_0 rfl rfl ?_
  refine g_aloadN C X0 d37_1 rfl rfl ?_
  refine g_special (argsL := [(.ref mr)]) (st := []) C X0 rfl (wd hw 209 rfl) (wd hw 210 rfl) (wd hw 214 rfl) (by decide) (payN_of (W' := 0) (rThr l hw X0.ext x mr u0 u1 SU SV ru0 ru1 hl EX NX nx Yf0 Yf1 Yf2 Yf3 Yf4) C.hZ (wd hw 214 rfl) (wd hw 213 rfl) (by decide) (by decide) hKn) pd_6 rfl rfl _ rfl (Nat.le_of_eq rfl) d37_2 (by decide) (by decide) (fun T503 h503 v503 q503 X503 => ?_)
  obtain ⟨rfl, sz503⟩ := q503
  show Goes p e below _ T503 (mkF m 5 #[.val (.ref x), .val (.ref mr)] [])
  exact g_retV C X503 d37_5 (by decide) (by decide) ⟨rfl, sz503⟩
theorem pn_9 : plainName "java/io/IOException" = true := by first | (simp [plainName, overriddenIn]; done) | decide +kernel
theorem ef_rIO (m : MethodId) (x : Addr) (mr : Addr) : entryFrame m #[(.ref x), (.ref mr)] 2 = mkF m 0 #[.val (.ref x), .val (.ref mr)] [] := by first | (simp [entryFrame, mkF, argsToLocals, Value.category]; done) | rfl
theorem d36_0 : Dc jdk_131_method_2_code 0 (.aload_n 0) 1 1 := ⟨by decide +kernel, rfl⟩
theorem d36_1 : Dc jdk_131_method_2_code 1 (.aload_n 1) 1 2 := ⟨by decide +kernel, rfl⟩
theorem d36_2 : Dc jdk_131_method_2_code 2 (.invokespecial 7) 3 5 := ⟨by decide +kernel, rfl⟩
theorem d36_5 : Dc jdk_131_method_2_code 5 (.return_) 1 6 := ⟨by decide +kernel, rfl⟩
theorem rIO (l : Launch) {Z : State} {a0 : Array Value} (hw : ∀ d ∈ tables_1, d.before a0 Z = true) {h : Heap} (hE : Ext Z.heap h) (x : Addr) (mr : Addr) (u0 u1 : Value) (SU : Sta Z Z.heap "java/lang/Throwable" "UNASSIGNED_STACK" "[Ljava/lang/StackTraceElement;" u0) (SV : Sta Z Z.heap "java/lang/Throwable" "SUPPRESSED_SENTINEL" "Ljava/util/List;" u1) (ru0 : u0.isRef = true) (ru1 : u1.isRef = true) (hl : l.stackTraces = true) (EX : Exa Z h x "com/example/chapeau/chapeau/io/MalformedXmlException") (NX : Unt h x) (nx : Z.heap.size ≤ x) (Yf0 : Fld Z h x "java/lang/Throwable" "cause" "Ljava/lang/Throwable;" .null) (Yf1 : Fld Z h x "java/lang/Throwable" "stackTrace" "[Ljava/lang/StackTraceElement;" .null) (Yf2 : Fld Z h x "java/lang/Throwable" "suppressedExceptions" "Ljava/util/List;" .null) (Yf3 : Fld Z h x "java/lang/Throwable" "backtrace" "Ljava/lang/Object;" .null) (Yf4 : Fld Z h x "java/lang/Throwable" "detailMessage" "Ljava/lang/String;" .null) :
    ConN l (⟨"java/io/IOException", "<init>", "(Ljava/lang/String;)V"⟩ : MethodName) jdk_131_method_2_code 2 none [] ({ frames := 5, cells := 1, slots := 2752, locals := 120 } : Room) Z #[(.ref x), (.ref mr)] h (fun v' h' => v' = none ∧ h.size ≤ h'.size) := by
  refine con_ofN (plainFor_of_name pn_9) hE (fun m => ef_rIO m x mr) ?_
  intro p e s m below meth c T0 C X0 hKn hs0
  have C : Cx p s m meth c Z "java/io/IOException" "<init>" jdk_131_method_2_code 2 none := C
  show Goes p e below _ T0 (mkF m 0 #[.val (.ref x), .val (.ref mr)] [])
  refine g_aloadN C X0 d36_0 rfl rfl ?_
  refine g_aloadN C X0 d36_1 rfl rfl ?_
  refine g_special (argsL := [(.ref mr)]) (st := []) C X0 rfl (wd hw 203 rfl) (wd hw 204 rfl) (wd hw 208 rfl) (by decide) (payN_of (W' := 0) (rXc l hw X0.ext x mr u0 u1 SU SV ru0 ru1 hl EX NX nx Yf0 Yf1 Yf2 Yf3 Yf4) C.hZ (wd hw 208 rfl) (wd hw 207 rfl) (by decide) (by decide) hKn) pd_6 rfl rfl _ rfl (Nat.le_of_eq rfl) d36_2 (by decide) (by decide) (fun T504 h504 v504 q504 X504 => ?_)
  obtain ⟨rfl, sz504⟩ := q504
  show Goes p e below _ T504 (mkF m 5 #[.val (.ref x), .val (.ref mr)] [])
  exact g_retV C X504 d36_5 (by decide) (by decide) ⟨rfl, sz504⟩
theorem ef_rEx (m : MethodId) (x : Addr) (li : Int32) (co : Int32) (sq : Addr) : entryFrame m #[(.ref x), (.int li), (.int co), (.ref sq)] 4 = mkF m 0 #[.val (.ref x), .val (.int li), .val (.int co), .val (.ref sq)] [] := by first | (simp [entryFrame, mkF, argsToLocals, Value.category]; done) | rfl
theorem d5_0 : Dc prog_33_method_1_code 0 (.aload_n 0) 1 1 := ⟨by decide +kernel, rfl⟩
theorem d5_1 : Dc prog_33_method_1_code 1 (.new 1) 3 4 := ⟨by decide +kernel, rfl⟩
theorem d5_4 : Dc prog_33_method_1_code 4 (.dup) 1 5 := ⟨by decide +kernel, rfl⟩
theorem d5_5 : Dc prog_33_method_1_code 5 (.invokespecial 3) 3 8 := ⟨by decide +kernel, rfl⟩
theorem d5_8 : Dc prog_33_method_1_code 8 (.iload_n 1) 1 9 := ⟨by decide +kernel, rfl⟩
theorem d5_9 : Dc prog_33_method_1_code 9 (.iload_n 2) 1 10 := ⟨by decide +kernel, rfl⟩
theorem d5_10 : Dc prog_33_method_1_code 10 (.invokestatic 7) 3 13 := ⟨by decide +kernel, rfl⟩
theorem pd_23 : parseMethodDescriptor "(II)Ljava/lang/String;" = some ⟨[.int, .int], some (.object "java/lang/String")⟩ := by decide +kernel
theorem d5_13 : Dc prog_33_method_1_code 13 (.invokevirtual 13) 3 16 := ⟨by decide +kernel, rfl⟩
theorem d5_16 : Dc prog_33_method_1_code 16 (.ldc 17) 2 18 := ⟨by decide +kernel, rfl⟩
theorem d5_18 : Dc prog_33_method_1_code 18 (.invokevirtual 13) 3 21 := ⟨by decide +kernel, rfl⟩
theorem d5_21 : Dc prog_33_method_1_code 21 (.aload_n 3) 1 22 := ⟨by decide +kernel, rfl⟩
theorem d5_22 : Dc prog_33_method_1_code 22 (.invokevirtual 13) 3 25 := ⟨by decide +kernel, rfl⟩
theorem d5_25 : Dc prog_33_method_1_code 25 (.invokevirtual 19) 3 28 := ⟨by decide +kernel, rfl⟩
theorem d5_28 : Dc prog_33_method_1_code 28 (.invokespecial 23) 3 31 := ⟨by decide +kernel, rfl⟩
theorem d5_31 : Dc prog_33_method_1_code 31 (.return_) 1 32 := ⟨by decide +kernel, rfl⟩
theorem rEx (l : Launch) {Z : State} {a0 : Array Value} (hw : ∀ d ∈ tables_1, d.before a0 Z = true) {h : Heap} (hE : Ext Z.heap h) (x : Addr) (li : Int32) (co : Int32) (sq : Addr) (z_ : Int32) (SZ : Sta Z Z.heap "java/lang/String" "COMPACT_STRINGS" "Z" (.int z_)) (hz : ¬ z_ = 0) (o1 o2 : Addr) (S1 : Sta Z Z.heap "java/lang/Integer" "DigitOnes" "[B" (.ref o1)) (S2 : Sta Z Z.heap "java/lang/Integer" "DigitTens" "[B" (.ref o2)) (D1 : ByS Z Z.heap o1 100) (D2 : ByS Z Z.heap o2 100) (u0 u1 : Value) (SU : Sta Z Z.heap "java/lang/Throwable" "UNASSIGNED_STACK" "[Ljava/lang/StackTraceElement;" u0) (SV : Sta Z Z.heap "java/lang/Throwable" "SUPPRESSED_SENTINEL" "Ljava/util/List;" u1) (ru0 : u0.isRef = true) (ru1 : u1.isRef = true) (hl : l.stackTraces = true) (EX : Exa Z h x "com/example/chapeau/chapeau/io/MalformedXmlException") (NX : Unt h x) (nx : Z.heap.size ≤ x) (Yf0 : Fld Z h x "java/lang/Throwable" "cause" "Ljava/lang/Throwable;" .null) (Yf1 : Fld Z h x "java/lang/Throwable" "stackTrace" "[Ljava/lang/StackTraceElement;" .null) (Yf2 : Fld Z h x "java/lang/Throwable" "suppressedExceptions" "Ljava/util/List;" .null) (Yf3 : Fld Z h x "java/lang/Throwable" "backtrace" "Ljava/lang/Object;" .null) (Yf4 : Fld Z h x "java/lang/Throwable" "detailMessage" "Ljava/lang/String;" .null) (tq : Addr) (lq : Int32) (EQ : Exa Z h sq "java/lang/String") (QC : Fld Z h sq "java/lang/String" "coder" "B" (.int (0 : Int32))) (QV : Fld Z h sq "java/lang/String" "value" "[B" (.ref tq)) (VQ : ByS Z h tq lq) (q0 : lq.toInt = 1) :
    ConX l (⟨"com/example/chapeau/chapeau/io/MalformedXmlException", "<init>", "(IILjava/lang/String;)V"⟩ : MethodName) prog_33_method_1_code 4 none [] ({ frames := 9, cells := 30, slots := 6000, locals := 216 } : Room) Z consts_1 [] #[(.ref x), (.int li), (.int co), (.ref sq)] h (fun v' h' => v' = none) := by
  refine con_ofX (plainFor_of_name pn_6) hE (fun m => ef_rEx m x li co sq) ?_
  intro p e s m below meth c T0 C X0 I0 hsf hKn hs0
  have C : Cx p (s.setVm s.vm) m meth c Z "com/example/chapeau/chapeau/io/MalformedXmlException" "<init>" prog_33_method_1_code 4 none := C
  show Goes p e below _ T0 (mkF m 0 #[.val (.ref x), .val (.int li), .val (.int co), .val (.ref sq)] [])
  refine g_aloadN C X0 d5_0 rfl rfl ?_
  refine g_new C X0 (wd hw 41 rfl) (wd hw 42 rfl) (wd hw 43 rfl) d5_1 (by decide) (by decide) (fun T505 h505 b505 g_b505 n_b505 X505 E505 A505 D505 M505 => ?_)
  have lt506 : x < b505 := by rw [g_b505]; exact Exa.lt EX
  have lt507 : sq < b505 := by rw [g_b505]; exact Exa.lt EQ
  have lt508 : tq < b505 := by rw [g_b505]; exact ByS.lt VQ
  have F_value_b505 : Fld Z h505 b505 "java/lang/AbstractStringBuilder" "value" "[B" .null := D505 (Or.inl (wd hw 56 rfl)) (ty := (.array .byte)) (by decide)
  have F_coder_b505 : Fld Z h505 b505 "java/lang/AbstractStringBuilder" "coder" "B" (.int 0) := D505 (Or.inl (wd hw 58 rfl)) (ty := .byte) (by decide)
  have F_count_b505 : Fld Z h505 b505 "java/lang/AbstractStringBuilder" "count" "I" (.int 0) := D505 (Or.inl (wd hw 87 rfl)) (ty := .int) (by decide)
  refine g_dup C X505 d5_4 rfl ?_
  refine g_special (argsL := []) (st := [(.ref b505), (.ref x)]) C X505 rfl (wd hw 44 rfl) (wd hw 45 rfl) (wd hw 46 rfl) (by decide) (pay_of (W' := 2) (rBN l hw X505.ext b505 z_ SZ hz A505 F_coder_b505 F_value_b505 F_count_b505 n_b505) C.hZ (wd hw 46 rfl) (wd hw 43 rfl) (by decide) (by decide)) pd_19 rfl rfl _ rfl (Nat.le_of_eq rfl) d5_5 (by decide) (by decide) (fun T509 h509 v509 q509 X509 => ?_)
  obtain ⟨rfl, K509, EB509, FC509, ar509, g509, nr509, FV509, FN509, VA509⟩ := q509
  have f511 := (Exa.ext E505 EX)
  have lt510 : x < ar509 := Nat.lt_of_lt_of_le (Exa.lt f511) g509
  have f513 := (Exa.ext E505 EQ)
  have lt512 : sq < ar509 := Nat.lt_of_lt_of_le (Exa.lt f513) g509
  have f515 := (ByS.ext VQ E505)
  have lt514 : tq < ar509 := Nat.lt_of_lt_of_le (ByS.lt f515) g509
  have ne516 : b505 ≠ ar509 := Exa.ne EB509 VA509.2 (by decide)
  show Goes p e below _ T509 (mkF m 8 #[.val (.ref x), .val (.int li), .val (.int co), .val (.ref sq)] [(.ref b505), (.ref x)])
  refine g_iloadN C X509 d5_8 rfl ?_
  refine g_iloadN C X509 d5_9 rfl ?_
  have sz517 : h.size ≤ b505 := by rw [g_b505]; exact (Keep.refl h []).1
  have kp518 := (Keep.refl h []).ext E505
  have sz519 : h.size ≤ ar509 := Nat.le_trans kp518.1 g509
  have kp520 := kp518.trans K509 (allS (Or.inr sz517) all0)
  have I521 := Lits.keep I0 kp520 sf0
  have sf522 := Lits.safe I0 kp520 sf0 (Safe.new sz519)
  have f523 := (Exa.keep f511 K509)
  refine g_staticL (argsL := [(.int li), (.int co)]) (st := [(.ref b505), (.ref x)]) C X509 I521 (wd hw 59 rfl) (wd hw 60 rfl) (wd hw 29 rfl) (wd hw 61 rfl) (by decide) (payL_of (W' := 2) (rPl l hw X509.ext li co z_ SZ hz o1 o2 S1 S2 D1 D2) C.hZ (wd hw 61 rfl) (wd hw 29 rfl) (by decide) (by decide) (own_EW hw) I521 (fun _ q => nomatch q)) pd_23 rfl rfl _ rfl (Nat.le_of_eq rfl) d5_10 (by decide) (by decide) (fun T524 h524 v524 q524 C X524 I524 R524 => ?_)
  obtain ⟨sq524, tq524, lq524, rfl, E524, EQ524, QC524, QV524, VQ524, la524, lb524⟩ := q524
  have sf525 := CHr.safe R524 (By.lt VA509) sf522
  have f526 := (Exa.ext E524 f523)
  have f527 := (Exa.ext E524 EB509)
  show Goes p e below _ T524 (mkF m 13 #[.val (.ref x), .val (.int li), .val (.int co), .val (.ref sq)] [(.ref sq524), (.ref b505), (.ref x)])
  have f528 := (Fld.ext E524 FC509)
  have f529 := (Fld.ext E524 FV509)
  have f530 := (Fld.ext E524 FN509)
  have f531 := (By.ext VA509 E524)
  refine g_virtual (argsL := [(.ref sq524)]) (st := [(.ref x)]) C X524 (wd hw 63 rfl) (wd hw 64 rfl) (nf_of C (wd hw 66 rfl) rfl rfl) (wd hw 66 rfl) (wd hw 65 rfl) (by decide) f527 (pay_of (W' := 1) (rBS l hw X524.ext b505 sq524 ar509 (0 : Int32) (16 : Int32) z_ SZ hz f527 f528 f529 f530 f531 n_b505 nr509 (by decide) (by decide) (by decide) tq524 lq524 EQ524 QC524 QV524 VQ524 (by first | omega | (simp only [Int32.reduceToInt]; omega)) (by first | omega | (simp only [Int32.reduceToInt]; omega))) C.hZ (wd hw 67 rfl) (wd hw 43 rfl) (by decide) (by decide)) pd_20 rfl rfl _ rfl (Nat.le_of_eq rfl) d5_13 (by decide) (by decide) (fun T532 h532 v532 q532 X532 => ?_)
  obtain ⟨rfl, K532, EB532, FC532, ar532, cp532, al532, nr532, FV532, FN532, VA532, d1_532, d2_532, d3_532⟩ := q532
  have ne533 : x ≠ ar532 := Or.elim al532 (fun q => by rw [q]; exact (Nat.ne_of_lt lt510)) (fun q => Nat.ne_of_lt (Nat.lt_of_lt_of_le (Exa.lt f526) q))
  have f534 := (Exa.ext E524 (Exa.keep f513 K509))
  have ne535 : sq ≠ ar532 := Or.elim al532 (fun q => by rw [q]; exact (Nat.ne_of_lt lt512)) (fun q => Nat.ne_of_lt (Nat.lt_of_lt_of_le (Exa.lt f534) q))
  have f536 := (ByS.ext (ByS.keep f515 K509 (ninS (Nat.ne_of_lt lt508) nin0)) E524)
  have ne537 : tq ≠ ar532 := Or.elim al532 (fun q => by rw [q]; exact (Nat.ne_of_lt lt514)) (fun q => Nat.ne_of_lt (Nat.lt_of_lt_of_le (ByS.lt f536) q))
  have ne538 : b505 ≠ ar532 := Exa.ne EB532 VA532.2 (by decide)
  have a532 := own_add (0 : Int32) lq524 (by first | omega | (simp only [Int32.reduceToInt]; omega)) (by first | omega | (simp only [Int32.reduceToInt]; omega))
  try simp only [Int32.reduceToInt] at a532
  show Goes p e below _ T532 (mkF m 16 #[.val (.ref x), .val (.int li), .val (.int co), .val (.ref sq)] [(.ref b505), (.ref x)])
  have kp539 := (Keep.refl h524 [b505, ar509]).trans K532 (allS (Or.inl (by simp)) (allS (Or.inl (by simp)) all0))
  have I540 := Lits.keep I524 kp539 (sfS (Safe.exa C.hZ.alike f527 (by decide) (by decide)) (sfS sf525 sf0))
  have sf541 := Lits.safe I524 kp539 (sfS (Safe.exa C.hZ.alike f527 (by decide) (by decide)) (sfS sf525 sf0)) (Or.elim al532 (fun q => q.symm ▸ sf525) (fun q => Safe.new q))
  have f542 := (Exa.keep f526 K532)
  refine g_ldcs 120 C X532 I540 (own_wS hw) (own_EW hw) (by decide +kernel) (wd hw 197 rfl) (vs := [(.int 58), (.int 32), (.int 116), (.int 104), (.int 101), (.int 32), (.int 88), (.int 77), (.int 76), (.int 32), (.int 105), (.int 115), (.int 32), (.int 110), (.int 111), (.int 116), (.int 32), (.int 119), (.int 101), (.int 108), (.int 108), (.int 45), (.int 102), (.int 111), (.int 114), (.int 109), (.int 101), (.int 100), (.int 58), (.int 32)]) (z := 30) ⟨by decide +kernel, by decide +kernel⟩ (by decide) rfl (by decide) (by decide) d5_16 (by decide) (by decide) (fun a543 T543 h543 t543 k_t543 C X543 I543 R543 E543 EA543 FC543 FV543 VA543 N543 => ?_)
  have sf544 := CHr.safe R543 (By.lt VA532) sf541
  have f545 := (Exa.ext E543 f542)
  have f546 := (Exa.ext E543 EB532)
  have ne547 := N543 _ sf544
  have ne548 := N543 _ (Safe.exa C.hZ.alike f545 (by decide) (by decide))
  have ne549 := N543 _ (Safe.exa C.hZ.alike f546 (by decide) (by decide))
  show Goes p e below _ T543 (mkF m 18 #[.val (.ref x), .val (.int li), .val (.int co), .val (.ref sq)] [(.ref a543), (.ref b505), (.ref x)])
  have f550 := (Fld.ext E543 FC532)
  have f551 := (Fld.ext E543 FV532)
  have f552 := (Fld.ext E543 FN532)
  have f553 := (By.ext VA532 E543)
  refine g_virtual (argsL := [(.ref a543)]) (st := [(.ref x)]) C X543 (wd hw 63 rfl) (wd hw 64 rfl) (nf_of C (wd hw 66 rfl) rfl rfl) (wd hw 66 rfl) (wd hw 65 rfl) (by decide) f546 (pay_of (W' := 1) (rBS l hw X543.ext b505 a543 ar532 ((0 : Int32) + lq524) cp532 z_ SZ hz f546 f550 f551 f552 f553 n_b505 nr532 d1_532 d2_532 d3_532 t543 (30 : Int32) EA543 FC543 FV543 (ByS.of VA543) (by first | omega | (simp only [Int32.reduceToInt]; omega)) (by first | omega | (simp only [Int32.reduceToInt]; omega))) C.hZ (wd hw 67 rfl) (wd hw 43 rfl) (by decide) (by decide)) pd_20 rfl rfl _ rfl (Nat.le_of_eq rfl) d5_18 (by decide) (by decide) (fun T554 h554 v554 q554 X554 => ?_)
  obtain ⟨rfl, K554, EB554, FC554, ar554, cp554, al554, nr554, FV554, FN554, VA554, d1_554, d2_554, d3_554⟩ := q554
  have ne555 : x ≠ ar554 := Or.elim al554 (fun q => by rw [q]; exact ne533) (fun q => Nat.ne_of_lt (Nat.lt_of_lt_of_le (Exa.lt f545) q))
  have f556 := (Exa.ext E543 (Exa.keep f534 K532))
  have ne557 : sq ≠ ar554 := Or.elim al554 (fun q => by rw [q]; exact ne535) (fun q => Nat.ne_of_lt (Nat.lt_of_lt_of_le (Exa.lt f556) q))
  have f558 := (ByS.ext (ByS.keep f536 K532 (ninS (Nat.ne_of_lt lt508) (ninS (Nat.ne_of_lt lt514) nin0))) E543)
  have ne559 : tq ≠ ar554 := Or.elim al554 (fun q => by rw [q]; exact ne537) (fun q => Nat.ne_of_lt (Nat.lt_of_lt_of_le (ByS.lt f558) q))
  have ne560 : a543 ≠ ar554 := Or.elim al554 (fun q => by rw [q]; exact (Ne.symm ne547.1)) (fun q => Nat.ne_of_lt (Nat.lt_of_lt_of_le (Exa.lt EA543) q))
  have ne561 : t543 ≠ ar554 := Or.elim al554 (fun q => by rw [q]; exact (Ne.symm ne547.2)) (fun q => Nat.ne_of_lt (Nat.lt_of_lt_of_le (Arv.lt VA543) q))
  have ne562 : b505 ≠ ar554 := Exa.ne EB554 VA554.2 (by decide)
  have a554 := own_add ((0 : Int32) + lq524) (30 : Int32) (by first | omega | (simp only [Int32.reduceToInt]; omega)) (by first | omega | (simp only [Int32.reduceToInt]; omega))
  try simp only [Int32.reduceToInt] at a554
  show Goes p e below _ T554 (mkF m 21 #[.val (.ref x), .val (.int li), .val (.int co), .val (.ref sq)] [(.ref b505), (.ref x)])
  refine g_aloadN C X554 d5_21 rfl rfl ?_
  have kp563 := (Keep.refl h543 [b505, ar532]).trans K554 (allS (Or.inl (by simp)) (allS (Or.inl (by simp)) all0))
  have I564 := Lits.keep I543 kp563 (sfS (Safe.exa C.hZ.alike f546 (by decide) (by decide)) (sfS sf544 sf0))
  have sf565 := Lits.safe I543 kp563 (sfS (Safe.exa C.hZ.alike f546 (by decide) (by decide)) (sfS sf544 sf0)) (Or.elim al554 (fun q => q.symm ▸ sf544) (fun q => Safe.new q))
  have f566 := (Exa.keep f545 K554)
  have f567 := (ByS.keep f558 K554 (ninS (Nat.ne_of_lt lt508) (ninS ne537 nin0)))
  have f568 := (Exa.keep f556 K554)
  have f569 := (Fld.keep (Fld.ext E543 (Fld.keep (Fld.ext E524 (Fld.keep (Fld.ext E505 QC) K509 (ninS (Nat.ne_of_lt lt507) nin0))) K532 (ninS (Nat.ne_of_lt lt507) (ninS (Nat.ne_of_lt lt512) nin0)))) K554 (ninS (Nat.ne_of_lt lt507) (ninS ne535 nin0)))
  have f570 := (Fld.keep (Fld.ext E543 (Fld.keep (Fld.ext E524 (Fld.keep (Fld.ext E505 QV) K509 (ninS (Nat.ne_of_lt lt507) nin0))) K532 (ninS (Nat.ne_of_lt lt507) (ninS (Nat.ne_of_lt lt512) nin0)))) K554 (ninS (Nat.ne_of_lt lt507) (ninS ne535 nin0)))
  refine g_virtual (argsL := [(.ref sq)]) (st := [(.ref x)]) C X554 (wd hw 63 rfl) (wd hw 64 rfl) (nf_of C (wd hw 66 rfl) rfl rfl) (wd hw 66 rfl) (wd hw 65 rfl) (by decide) EB554 (pay_of (W' := 1) (rBS l hw X554.ext b505 sq ar554 (((0 : Int32) + lq524) + (30 : Int32)) cp554 z_ SZ hz EB554 FC554 FV554 FN554 VA554 n_b505 nr554 d1_554 d2_554 d3_554 tq lq f568 f569 f570 f567 (by first | omega | (simp only [Int32.reduceToInt]; omega)) (by first | omega | (simp only [Int32.reduceToInt]; omega))) C.hZ (wd hw 67 rfl) (wd hw 43 rfl) (by decide) (by decide)) pd_20 rfl rfl _ rfl (Nat.le_of_eq rfl) d5_22 (by decide) (by decide) (fun T571 h571 v571 q571 X571 => ?_)
  obtain ⟨rfl, K571, EB571, FC571, ar571, cp571, al571, nr571, FV571, FN571, VA571, d1_571, d2_571, d3_571⟩ := q571
  have ne572 : x ≠ ar571 := Or.elim al571 (fun q => by rw [q]; exact ne555) (fun q => Nat.ne_of_lt (Nat.lt_of_lt_of_le (Exa.lt f566) q))
  have ne573 : sq ≠ ar571 := Or.elim al571 (fun q => by rw [q]; exact ne557) (fun q => Nat.ne_of_lt (Nat.lt_of_lt_of_le (Exa.lt f568) q))
  have ne574 : tq ≠ ar571 := Or.elim al571 (fun q => by rw [q]; exact ne559) (fun q => Nat.ne_of_lt (Nat.lt_of_lt_of_le (ByS.lt f567) q))
  have f575 := (Exa.keep EA543 K554)
  have ne576 : a543 ≠ ar571 := Or.elim al571 (fun q => by rw [q]; exact ne560) (fun q => Nat.ne_of_lt (Nat.lt_of_lt_of_le (Exa.lt f575) q))
  have f577 := (Arv.keep VA543 K554 (ninS (Ne.symm ne549.2) (ninS (Ne.symm ne547.2) nin0)))
  have ne578 : t543 ≠ ar571 := Or.elim al571 (fun q => by rw [q]; exact ne561) (fun q => Nat.ne_of_lt (Nat.lt_of_lt_of_le (Arv.lt f577) q))
  have ne579 : b505 ≠ ar571 := Exa.ne EB571 VA571.2 (by decide)
  have a571 := own_add (((0 : Int32) + lq524) + (30 : Int32)) lq (by first | omega | (simp only [Int32.reduceToInt]; omega)) (by first | omega | (simp only [Int32.reduceToInt]; omega))
  try simp only [Int32.reduceToInt] at a571
  show Goes p e below _ T571 (mkF m 25 #[.val (.ref x), .val (.int li), .val (.int co), .val (.ref sq)] [(.ref b505), (.ref x)])
  refine g_virtual (argsL := []) (st := [(.ref x)]) C X571 (wd hw 160 rfl) (wd hw 161 rfl) (nf_of C (wd hw 163 rfl) rfl rfl) (wd hw 163 rfl) (wd hw 162 rfl) (by decide) EB571 (pay_of (W' := 1) (rTS l hw X571.ext b505 ar571 ((((0 : Int32) + lq524) + (30 : Int32)) + lq) cp571 z_ SZ hz EB571 FC571 FV571 FN571 VA571 n_b505 nr571 d1_571 d2_571 d3_571) C.hZ (wd hw 164 rfl) (wd hw 43 rfl) (by decide) (by decide)) pd_22 rfl rfl _ rfl (Nat.le_of_eq rfl) d5_25 (by decide) (by decide) (fun T580 h580 v580 q580 X580 => ?_)
  obtain ⟨sq580, tq580, rfl, E580, EQ580, QC580, QV580, VQ580⟩ := q580
  show Goes p e below _ T580 (mkF m 28 #[.val (.ref x), .val (.int li), .val (.int co), .val (.ref sq)] [(.ref sq580), (.ref x)])
  have kp581 := (Keep.refl h554 [b505, ar554]).trans K571 (allS (Or.inl (by simp)) (allS (Or.inl (by simp)) all0))
  have kp582 := kp581.ext E580
  have I583 := Lits.keep I564 kp582 (sfS (Safe.exa C.hZ.alike EB554 (by decide) (by decide)) (sfS sf565 sf0))
  have sf584 := Lits.safe I564 kp582 (sfS (Safe.exa C.hZ.alike EB554 (by decide) (by decide)) (sfS sf565 sf0)) (Or.elim al571 (fun q => q.symm ▸ sf565) (fun q => Safe.new q))
  have f585 := (Exa.ext E580 (Exa.keep f566 K571))
  have f586 := (Exa.ext E580 EB571)
  have sz587 : h.size ≤ b505 := by rw [g_b505]; exact (Keep.refl h []).1
  have kp588 := (Keep.refl h []).ext E505
  have sz589 : h.size ≤ ar509 := Nat.le_trans kp588.1 g509
  have kp590 := kp588.trans K509 (allS (Or.inr sz587) all0)
  have kp591 := kp590.ext E524
  have sz592 : h.size ≤ ar532 := Or.elim al532 (fun q => by rw [q]; exact sz589) (fun q => Nat.le_trans kp591.1 q)
  have kp593 := kp591.trans K532 (allS (Or.inr sz587) (allS (Or.inr sz589) all0))
  have kp594 := kp593.ext E543
  have sz595 : h.size ≤ ar554 := Or.elim al554 (fun q => by rw [q]; exact sz592) (fun q => Nat.le_trans kp594.1 q)
  have kp596 := kp594.trans K554 (allS (Or.inr sz587) (allS (Or.inr sz592) all0))
  have sz597 : h.size ≤ ar571 := Or.elim al571 (fun q => by rw [q]; exact sz595) (fun q => Nat.le_trans kp596.1 q)
  have kp598 := kp596.trans K571 (allS (Or.inr sz587) (allS (Or.inr sz595) all0))
  have kp599 := kp598.ext E580
  have f600 := (Fld.ext E580 (Fld.keep (Fld.keep (Fld.ext E543 (Fld.keep (Fld.ext E524 (Fld.keep (Fld.ext E505 Yf0) K509 (ninS (Nat.ne_of_lt lt506) nin0))) K532 (ninS (Nat.ne_of_lt lt506) (ninS (Nat.ne_of_lt lt510) nin0)))) K554 (ninS (Nat.ne_of_lt lt506) (ninS ne533 nin0))) K571 (ninS (Nat.ne_of_lt lt506) (ninS ne555 nin0))))
  have f601 := (Fld.ext E580 (Fld.keep (Fld.keep (Fld.ext E543 (Fld.keep (Fld.ext E524 (Fld.keep (Fld.ext E505 Yf1) K509 (ninS (Nat.ne_of_lt lt506) nin0))) K532 (ninS (Nat.ne_of_lt lt506) (ninS (Nat.ne_of_lt lt510) nin0)))) K554 (ninS (Nat.ne_of_lt lt506) (ninS ne533 nin0))) K571 (ninS (Nat.ne_of_lt lt506) (ninS ne555 nin0))))
  have f602 := (Fld.ext E580 (Fld.keep (Fld.keep (Fld.ext E543 (Fld.keep (Fld.ext E524 (Fld.keep (Fld.ext E505 Yf2) K509 (ninS (Nat.ne_of_lt lt506) nin0))) K532 (ninS (Nat.ne_of_lt lt506) (ninS (Nat.ne_of_lt lt510) nin0)))) K554 (ninS (Nat.ne_of_lt lt506) (ninS ne533 nin0))) K571 (ninS (Nat.ne_of_lt lt506) (ninS ne555 nin0))))
  have f603 := (Fld.ext E580 (Fld.keep (Fld.keep (Fld.ext E543 (Fld.keep (Fld.ext E524 (Fld.keep (Fld.ext E505 Yf3) K509 (ninS (Nat.ne_of_lt lt506) nin0))) K532 (ninS (Nat.ne_of_lt lt506) (ninS (Nat.ne_of_lt lt510) nin0)))) K554 (ninS (Nat.ne_of_lt lt506) (ninS ne533 nin0))) K571 (ninS (Nat.ne_of_lt lt506) (ninS ne555 nin0))))
  have f604 := (Fld.ext E580 (Fld.keep (Fld.keep (Fld.ext E543 (Fld.keep (Fld.ext E524 (Fld.keep (Fld.ext E505 Yf4) K509 (ninS (Nat.ne_of_lt lt506) nin0))) K532 (ninS (Nat.ne_of_lt lt506) (ninS (Nat.ne_of_lt lt510) nin0)))) K554 (ninS (Nat.ne_of_lt lt506) (ninS ne533 nin0))) K571 (ninS (Nat.ne_of_lt lt506) (ninS ne555 nin0))))
  refine g_special (argsL := [(.ref sq580)]) (st := []) C X580 rfl (wd hw 198 rfl) (wd hw 199 rfl) (wd hw 202 rfl) (by decide) (payN_of (W' := 0) (rIO l hw X580.ext x sq580 u0 u1 SU SV ru0 ru1 hl f585 (Unt.keep kp599 nin0 NX) nx f600 f601 f602 f603 f604) C.hZ (wd hw 202 rfl) (wd hw 201 rfl) (by decide) (by decide) (own_kn I583.1 hKn)) pd_6 rfl rfl _ rfl (Nat.le_of_eq rfl) d5_28 (by decide) (by decide) (fun T605 h605 v605 q605 X605 => ?_)
  obtain ⟨rfl, sz605⟩ := q605
  show Goes p e below _ T605 (mkF m 31 #[.val (.ref x), .val (.int li), .val (.int co), .val (.ref sq)] [])
  exact goes_X I583.1 sz605 (g_retV C X605 d5_31 (by decide) (by decide) ⟨rfl, rfl⟩)
theorem pn_10 : plainName "java/lang/Record" = true := by first | (simp [plainName, overriddenIn]; done) | decide +kernel
theorem ef_rRec (m : MethodId) (a : Addr) : entryFrame m #[(.ref a)] 1 = mkF m 0 #[.val (.ref a)] [] := by first | (simp [entryFrame, mkF, argsToLocals, Value.category]; done) | rfl
theorem d2_0 : Dc jdk_30_method_1_code 0 (.aload_n 0) 1 1 := ⟨by decide +kernel, rfl⟩
theorem d2_1 : Dc jdk_30_method_1_code 1 (.invokespecial 1) 3 4 := ⟨by decide +kernel, rfl⟩
theorem d2_4 : Dc jdk_30_method_1_code 4 (.return_) 1 5 := ⟨by decide +kernel, rfl⟩
theorem rRec (l : Launch) {Z : State} {a0 : Array Value} (hw : ∀ d ∈ tables_1, d.before a0 Z = true) {h : Heap} (hE : Ext Z.heap h) (a : Addr)   :
    Con l (⟨"java/lang/Record", "<init>", "()V"⟩ : MethodName) jdk_30_method_1_code 1 none [] ({ frames := 1, cells := 0, slots := 0, locals := 24 } : Room) Z #[(.ref a)] h (fun v' h' => v' = none ∧ h' = h) := by
  refine con_of (plainFor_of_name pn_10) hE (fun m => ef_rRec m a) ?_
  intro p e s m below meth c T0 C X0
  have C : Cx p s m meth c Z "java/lang/Record" "<init>" jdk_30_method_1_code 1 none := C
  show Goes p e below _ T0 (mkF m 0 #[.val (.ref a)] [])
  refine g_aloadN C X0 d2_0 rfl rfl ?_
  refine g_initO C X0 (wd hw 11 rfl) (wd hw 12 rfl) (wd hw 13 rfl) rfl d2_1 (by decide) 0 (Nat.le_of_eq rfl) (by decide) (fun T606 X606 => ?_)
  exact g_retV C X606 d2_4 (by decide) (by decide) ⟨rfl, rfl⟩
theorem pn_11 : plainName "com/example/chapeau/chapeau/io/CopyReport" = true := by first | (simp [plainName, overriddenIn]; done) | decide +kernel
theorem ef_rCN (m : MethodId) (a : Addr) (re : Int64) (wr : Int64) (da : Int64) : entryFrame m #[(.ref a), (.long re), (.long wr), (.long da), .null] 8 = mkF m 0 #[.val (.ref a), .val (.long re), .second, .val (.long wr), .second, .val (.long da), .second, .val .null] [] := by first | (simp [entryFrame, mkF, argsToLocals, Value.category]; done) | rfl
theorem d1_0 : Dc prog_23_method_1_code 0 (.aload_n 0) 1 1 := ⟨by decide +kernel, rfl⟩
theorem d1_1 : Dc prog_23_method_1_code 1 (.invokespecial 1) 3 4 := ⟨by decide +kernel, rfl⟩
theorem d1_4 : Dc prog_23_method_1_code 4 (.aload_n 0) 1 5 := ⟨by decide +kernel, rfl⟩
theorem d1_5 : Dc prog_23_method_1_code 5 (.lload_n 1) 1 6 := ⟨by decide +kernel, rfl⟩
theorem d1_6 : Dc prog_23_method_1_code 6 (.putfield 7) 3 9 := ⟨by decide +kernel, rfl⟩
theorem d1_9 : Dc prog_23_method_1_code 9 (.aload_n 0) 1 10 := ⟨by decide +kernel, rfl⟩
theorem d1_10 : Dc prog_23_method_1_code 10 (.lload_n 3) 1 11 := ⟨by decide +kernel, rfl⟩
theorem d1_11 : Dc prog_23_method_1_code 11 (.putfield 13) 3 14 := ⟨by decide +kernel, rfl⟩
theorem d1_14 : Dc prog_23_method_1_code 14 (.aload_n 0) 1 15 := ⟨by decide +kernel, rfl⟩
theorem d1_15 : Dc prog_23_method_1_code 15 (.lload 5) 2 17 := ⟨by decide +kernel, rfl⟩
theorem d1_17 : Dc prog_23_method_1_code 17 (.putfield 16) 3 20 := ⟨by decide +kernel, rfl⟩
theorem d1_20 : Dc prog_23_method_1_code 20 (.aload_n 0) 1 21 := ⟨by decide +kernel, rfl⟩
theorem d1_21 : Dc prog_23_method_1_code 21 (.aload 7) 2 23 := ⟨by decide +kernel, rfl⟩
theorem d1_23 : Dc prog_23_method_1_code 23 (.putfield 19) 3 26 := ⟨by decide +kernel, rfl⟩
theorem d1_26 : Dc prog_23_method_1_code 26 (.return_) 1 27 := ⟨by decide +kernel, rfl⟩
theorem rCN (l : Launch) {Z : State} {a0 : Array Value} (hw : ∀ d ∈ tables_1, d.before a0 Z = true) {h : Heap} (hE : Ext Z.heap h) (a : Addr) (re : Int64) (wr : Int64) (da : Int64)  (E : Exa Z h a "com/example/chapeau/chapeau/io/CopyReport") (F0 : Fld Z h a "com/example/chapeau/chapeau/io/CopyReport" "records" "J" (.long (0 : Int64))) (F1 : Fld Z h a "com/example/chapeau/chapeau/io/CopyReport" "written" "J" (.long (0 : Int64))) (F2 : Fld Z h a "com/example/chapeau/chapeau/io/CopyReport" "damaged" "J" (.long (0 : Int64))) (F3 : Fld Z h a "com/example/chapeau/chapeau/io/CopyReport" "fault" "Lcom/example/chapeau/chapeau/io/MalformedXmlException;" .null) (hn : Z.heap.size ≤ a) :
    Con l (⟨"com/example/chapeau/chapeau/io/CopyReport", "<init>", "(JJJLcom/example/chapeau/chapeau/io/MalformedXmlException;)V"⟩ : MethodName) prog_23_method_1_code 8 none [] ({ frames := 2, cells := 0, slots := 0, locals := 48 } : Room) Z #[(.ref a), (.long re), (.long wr), (.long da), .null] h (fun v' h' => v' = none ∧ Keep h h' [a] ∧ Fld Z h' a "com/example/chapeau/chapeau/io/CopyReport" "records" "J" (.long re) ∧ Fld Z h' a "com/example/chapeau/chapeau/io/CopyReport" "written" "J" (.long wr) ∧ Fld Z h' a "com/example/chapeau/chapeau/io/CopyReport" "damaged" "J" (.long da)) := by
  refine con_of (plainFor_of_name pn_11) hE (fun m => ef_rCN m a re wr da) ?_
  intro p e s m below meth c T0 C X0
  have C : Cx p s m meth c Z "com/example/chapeau/chapeau/io/CopyReport" "<init>" prog_23_method_1_code 8 none := C
  show Goes p e below _ T0 (mkF m 0 #[.val (.ref a), .val (.long re), .second, .val (.long wr), .second, .val (.long da), .second, .val .null] [])
  refine g_aloadN C X0 d1_0 rfl rfl ?_
  refine g_specialP (argsL := []) (st := []) C X0 rfl (wd hw 6 rfl) (wd hw 7 rfl) (wd hw 10 rfl) (by decide) (pay_of (W' := 0) (rRec l hw X0.ext a) C.hZ (wd hw 10 rfl) (wd hw 9 rfl) (by decide) (by decide)) pd_19 rfl rfl _ rfl (Nat.le_of_eq rfl) d1_1 (by decide) (by decide) (fun T607 X607 => ?_)
  refine g_aloadN C X607 d1_4 rfl rfl ?_
  refine g_lloadN C X607 d1_5 rfl ?_
  refine g_putfield (host := "") C X607 (Or.inl (wd hw 14 rfl)) Via.refl F0 E (Or.inr ⟨(wd hw 15 rfl), rfl, rfl⟩) (wd hw 1 rfl) (ty := .long) (by decide) rfl rfl hn d1_6 (fun T608 h608 X608 W608 => ?_)
  have f608 := Fld.same W608 F0
  refine g_aloadN C X608 d1_9 rfl rfl ?_
  refine g_lloadN C X608 d1_10 rfl ?_
  have f609 := (Fld.other W608 F1 (Or.inr (slot_ne (Or.inr (wd hw 17 rfl)) (Or.inr (wd hw 15 rfl)) (by decide) (t := .long) (t' := .long) (by decide) (by decide))))
  have f610 := (Exa.wr W608 E)
  refine g_putfield (host := "") C X608 (Or.inl (wd hw 16 rfl)) Via.refl f609 f610 (Or.inr ⟨(wd hw 17 rfl), rfl, rfl⟩) (wd hw 1 rfl) (ty := .long) (by decide) rfl rfl hn d1_11 (fun T611 h611 X611 W611 => ?_)
  have f611 := Fld.same W611 f609
  refine g_aloadN C X611 d1_14 rfl rfl ?_
  refine g_lload C X611 d1_15 rfl ?_
  have f612 := (Fld.other W611 (Fld.other W608 F2 (Or.inr (slot_ne (Or.inr (wd hw 19 rfl)) (Or.inr (wd hw 15 rfl)) (by decide) (t := .long) (t' := .long) (by decide) (by decide)))) (Or.inr (slot_ne (Or.inr (wd hw 19 rfl)) (Or.inr (wd hw 17 rfl)) (by decide) (t := .long) (t' := .long) (by decide) (by decide))))
  have f613 := (Exa.wr W611 f610)
  refine g_putfield (host := "") C X611 (Or.inl (wd hw 18 rfl)) Via.refl f612 f613 (Or.inr ⟨(wd hw 19 rfl), rfl, rfl⟩) (wd hw 1 rfl) (ty := .long) (by decide) rfl rfl hn d1_17 (fun T614 h614 X614 W614 => ?_)
  have f614 := Fld.same W614 f612
  refine g_aloadN C X614 d1_20 rfl rfl ?_
  refine g_aload C X614 d1_21 rfl rfl ?_
  have f615 := (Fld.other W614 (Fld.other W611 (Fld.other W608 F3 (Or.inr (slot_ne (Or.inr (wd hw 21 rfl)) (Or.inr (wd hw 15 rfl)) (by decide) (t := (.object "com/example/chapeau/chapeau/io/MalformedXmlException")) (t' := .long) (by decide) (by decide)))) (Or.inr (slot_ne (Or.inr (wd hw 21 rfl)) (Or.inr (wd hw 17 rfl)) (by decide) (t := (.object "com/example/chapeau/chapeau/io/MalformedXmlException")) (t' := .long) (by decide) (by decide)))) (Or.inr (slot_ne (Or.inr (wd hw 21 rfl)) (Or.inr (wd hw 19 rfl)) (by decide) (t := (.object "com/example/chapeau/chapeau/io/MalformedXmlException")) (t' := .long) (by decide) (by decide))))
  have f616 := (Exa.wr W614 f613)
  refine g_putfield (host := "") C X614 (Or.inl (wd hw 20 rfl)) Via.refl f615 f616 (Or.inr ⟨(wd hw 21 rfl), rfl, rfl⟩) (wd hw 1 rfl) (ty := (.object "com/example/chapeau/chapeau/io/MalformedXmlException")) (by decide) rfl rfl hn d1_23 (fun T617 h617 X617 W617 => ?_)
  have f617 := Fld.same W617 f615
  have kp618 := (Keep.refl h [a]).wr W608 (Or.inl (by simp))
  have kp619 := kp618.wr W611 (Or.inl (by simp))
  have kp620 := kp619.wr W614 (Or.inl (by simp))
  have kp621 := kp620.wr W617 (Or.inl (by simp))
  have f622 := (Fld.other W617 (Fld.other W614 (Fld.other W611 f608 (Or.inr (slot_ne (Or.inr (wd hw 15 rfl)) (Or.inr (wd hw 17 rfl)) (by decide) (t := .long) (t' := .long) (by decide) (by decide)))) (Or.inr (slot_ne (Or.inr (wd hw 15 rfl)) (Or.inr (wd hw 19 rfl)) (by decide) (t := .long) (t' := .long) (by decide) (by decide)))) (Or.inr (slot_ne (Or.inr (wd hw 15 rfl)) (Or.inr (wd hw 21 rfl)) (by decide) (t := .long) (t' := (.object "com/example/chapeau/chapeau/io/MalformedXmlException")) (by decide) (by decide))))
  have f623 := (Fld.other W617 (Fld.other W614 f611 (Or.inr (slot_ne (Or.inr (wd hw 17 rfl)) (Or.inr (wd hw 19 rfl)) (by decide) (t := .long) (t' := .long) (by decide) (by decide)))) (Or.inr (slot_ne (Or.inr (wd hw 17 rfl)) (Or.inr (wd hw 21 rfl)) (by decide) (t := .long) (t' := (.object "com/example/chapeau/chapeau/io/MalformedXmlException")) (by decide) (by decide))))
  have f624 := (Fld.other W617 f614 (Or.inr (slot_ne (Or.inr (wd hw 19 rfl)) (Or.inr (wd hw 21 rfl)) (by decide) (t := .long) (t' := (.object "com/example/chapeau/chapeau/io/MalformedXmlException")) (by decide) (by decide))))
  exact g_retV C X617 d1_26 (by decide) (by decide) ⟨rfl, kp621, f622, f623, f624⟩
theorem ef_rCF (m : MethodId) (a : Addr) (re : Int64) (wr : Int64) (da : Int64) (fx : Addr) : entryFrame m #[(.ref a), (.long re), (.long wr), (.long da), (.ref fx)] 8 = mkF m 0 #[.val (.ref a), .val (.long re), .second, .val (.long wr), .second, .val (.long da), .second, .val (.ref fx)] [] := by first | (simp [entryFrame, mkF, argsToLocals, Value.category]; done) | rfl
theorem rCF (l : Launch) {Z : State} {a0 : Array Value} (hw : ∀ d ∈ tables_1, d.before a0 Z = true) {h : Heap} (hE : Ext Z.heap h) (a : Addr) (re : Int64) (wr : Int64) (da : Int64) (fx : Addr)  (E : Exa Z h a "com/example/chapeau/chapeau/io/CopyReport") (F0 : Fld Z h a "com/example/chapeau/chapeau/io/CopyReport" "records" "J" (.long (0 : Int64))) (F1 : Fld Z h a "com/example/chapeau/chapeau/io/CopyReport" "written" "J" (.long (0 : Int64))) (F2 : Fld Z h a "com/example/chapeau/chapeau/io/CopyReport" "damaged" "J" (.long (0 : Int64))) (F3 : Fld Z h a "com/example/chapeau/chapeau/io/CopyReport" "fault" "Lcom/example/chapeau/chapeau/io/MalformedXmlException;" .null) (hn : Z.heap.size ≤ a) :
    Con l (⟨"com/example/chapeau/chapeau/io/CopyReport", "<init>", "(JJJLcom/example/chapeau/chapeau/io/MalformedXmlException;)V"⟩ : MethodName) prog_23_method_1_code 8 none [] ({ frames := 2, cells := 0, slots := 0, locals := 48 } : Room) Z #[(.ref a), (.long re), (.long wr), (.long da), (.ref fx)] h (fun v' h' => v' = none ∧ Keep h h' [a] ∧ Fld Z h' a "com/example/chapeau/chapeau/io/CopyReport" "records" "J" (.long re) ∧ Fld Z h' a "com/example/chapeau/chapeau/io/CopyReport" "written" "J" (.long wr) ∧ Fld Z h' a "com/example/chapeau/chapeau/io/CopyReport" "damaged" "J" (.long da)) := by
  refine con_of (plainFor_of_name pn_11) hE (fun m => ef_rCF m a re wr da fx) ?_
  intro p e s m below meth c T0 C X0
  have C : Cx p s m meth c Z "com/example/chapeau/chapeau/io/CopyReport" "<init>" prog_23_method_1_code 8 none := C
  show Goes p e below _ T0 (mkF m 0 #[.val (.ref a), .val (.long re), .second, .val (.long wr), .second, .val (.long da), .second, .val (.ref fx)] [])
  refine g_aloadN C X0 d1_0 rfl rfl ?_
  refine g_specialP (argsL := []) (st := []) C X0 rfl (wd hw 6 rfl) (wd hw 7 rfl) (wd hw 10 rfl) (by decide) (pay_of (W' := 0) (rRec l hw X0.ext a) C.hZ (wd hw 10 rfl) (wd hw 9 rfl) (by decide) (by decide)) pd_19 rfl rfl _ rfl (Nat.le_of_eq rfl) d1_1 (by decide) (by decide) (fun T625 X625 => ?_)
  refine g_aloadN C X625 d1_4 rfl rfl ?_
  refine g_lloadN C X625 d1_5 rfl ?_
  refine g_putfield (host := "") C X625 (Or.inl (wd hw 14 rfl)) Via.refl F0 E (Or.inr ⟨(wd hw 15 rfl), rfl, rfl⟩) (wd hw 1 rfl) (ty := .long) (by decide) rfl rfl hn d1_6 (fun T626 h626 X626 W626 => ?_)
  have f626 := Fld.same W626 F0
  refine g_aloadN C X626 d1_9 rfl rfl ?_
  refine g_lloadN C X626 d1_10 rfl ?_
  have f627 := (Fld.other W626 F1 (Or.inr (slot_ne (Or.inr (wd hw 17 rfl)) (Or.inr (wd hw 15 rfl)) (by decide) (t := .long) (t' := .long) (by decide) (by decide))))
  have f628 := (Exa.wr W626 E)
  refine g_putfield (host := "") C X626 (Or.inl (wd hw 16 rfl)) Via.refl f627 f628 (Or.inr ⟨(wd hw 17 rfl), rfl, rfl⟩) (wd hw 1 rfl) (ty := .long) (by decide) rfl rfl hn d1_11 (fun T629 h629 X629 W629 => ?_)
  have f629 := Fld.same W629 f627
  refine g_aloadN C X629 d1_14 rfl rfl ?_
  refine g_lload C X629 d1_15 rfl ?_
  have f630 := (Fld.other W629 (Fld.other W626 F2 (Or.inr (slot_ne (Or.inr (wd hw 19 rfl)) (Or.inr (wd hw 15 rfl)) (by decide) (t := .long) (t' := .long) (by decide) (by decide)))) (Or.inr (slot_ne (Or.inr (wd hw 19 rfl)) (Or.inr (wd hw 17 rfl)) (by decide) (t := .long) (t' := .long) (by decide) (by decide))))
  have f631 := (Exa.wr W629 f628)
  refine g_putfield (host := "") C X629 (Or.inl (wd hw 18 rfl)) Via.refl f630 f631 (Or.inr ⟨(wd hw 19 rfl), rfl, rfl⟩) (wd hw 1 rfl) (ty := .long) (by decide) rfl rfl hn d1_17 (fun T632 h632 X632 W632 => ?_)
  have f632 := Fld.same W632 f630
  refine g_aloadN C X632 d1_20 rfl rfl ?_
  refine g_aload C X632 d1_21 rfl rfl ?_
  have f633 := (Fld.other W632 (Fld.other W629 (Fld.other W626 F3 (Or.inr (slot_ne (Or.inr (wd hw 21 rfl)) (Or.inr (wd hw 15 rfl)) (by decide) (t := (.object "com/example/chapeau/chapeau/io/MalformedXmlException")) (t' := .long) (by decide) (by decide)))) (Or.inr (slot_ne (Or.inr (wd hw 21 rfl)) (Or.inr (wd hw 17 rfl)) (by decide) (t := (.object "com/example/chapeau/chapeau/io/MalformedXmlException")) (t' := .long) (by decide) (by decide)))) (Or.inr (slot_ne (Or.inr (wd hw 21 rfl)) (Or.inr (wd hw 19 rfl)) (by decide) (t := (.object "com/example/chapeau/chapeau/io/MalformedXmlException")) (t' := .long) (by decide) (by decide))))
  have f634 := (Exa.wr W632 f631)
  refine g_putfield (host := "") C X632 (Or.inl (wd hw 20 rfl)) Via.refl f633 f634 (Or.inr ⟨(wd hw 21 rfl), rfl, rfl⟩) (wd hw 1 rfl) (ty := (.object "com/example/chapeau/chapeau/io/MalformedXmlException")) (by decide) rfl rfl hn d1_23 (fun T635 h635 X635 W635 => ?_)
  have f635 := Fld.same W635 f633
  have kp636 := (Keep.refl h [a]).wr W626 (Or.inl (by simp))
  have kp637 := kp636.wr W629 (Or.inl (by simp))
  have kp638 := kp637.wr W632 (Or.inl (by simp))
  have kp639 := kp638.wr W635 (Or.inl (by simp))
  have f640 := (Fld.other W635 (Fld.other W632 (Fld.other W629 f626 (Or.inr (slot_ne (Or.inr (wd hw 15 rfl)) (Or.inr (wd hw 17 rfl)) (by decide) (t := .long) (t' := .long) (by decide) (by decide)))) (Or.inr (slot_ne (Or.inr (wd hw 15 rfl)) (Or.inr (wd hw 19 rfl)) (by decide) (t := .long) (t' := .long) (by decide) (by decide)))) (Or.inr (slot_ne (Or.inr (wd hw 15 rfl)) (Or.inr (wd hw 21 rfl)) (by decide) (t := .long) (t' := (.object "com/example/chapeau/chapeau/io/MalformedXmlException")) (by decide) (by decide))))
  have f641 := (Fld.other W635 (Fld.other W632 f629 (Or.inr (slot_ne (Or.inr (wd hw 17 rfl)) (Or.inr (wd hw 19 rfl)) (by decide) (t := .long) (t' := .long) (by decide) (by decide)))) (Or.inr (slot_ne (Or.inr (wd hw 17 rfl)) (Or.inr (wd hw 21 rfl)) (by decide) (t := .long) (t' := (.object "com/example/chapeau/chapeau/io/MalformedXmlException")) (by decide) (by decide))))
  have f642 := (Fld.other W635 f632 (Or.inr (slot_ne (Or.inr (wd hw 19 rfl)) (Or.inr (wd hw 21 rfl)) (by decide) (t := .long) (t' := (.object "com/example/chapeau/chapeau/io/MalformedXmlException")) (by decide) (by decide))))
  exact g_retV C X635 d1_26 (by decide) (by decide) ⟨rfl, kp639, f640, f641, f642⟩
theorem ef_rW1 (m : MethodId) (a : Addr) : entryFrame m #[(.ref a)] 1 = mkF m 0 #[.val (.ref a)] [] := by first | (simp [entryFrame, mkF, argsToLocals, Value.category]; done) | rfl
theorem d4_0 : Dc prog_23_method_2_code 0 (.aload_n 0) 1 1 := ⟨by decide +kernel, rfl⟩
theorem d4_1 : Dc prog_23_method_2_code 1 (.getfield 16) 3 4 := ⟨by decide +kernel, rfl⟩
theorem d4_4 : Dc prog_23_method_2_code 4 (.lconst 0) 1 5 := ⟨by decide +kernel, rfl⟩
theorem d4_5 : Dc prog_23_method_2_code 5 (.lcmp) 1 6 := ⟨by decide +kernel, rfl⟩
theorem d4_6 : Dj prog_23_method_2_code 6 (.ifCond .ne 19) 19 3 9 25 := ⟨by decide +kernel, rfl, by decide, by decide⟩
theorem d4_9 : Dc prog_23_method_2_code 9 (.aload_n 0) 1 10 := ⟨by decide +kernel, rfl⟩
theorem d4_10 : Dc prog_23_method_2_code 10 (.getfield 13) 3 13 := ⟨by decide +kernel, rfl⟩
theorem d4_13 : Dc prog_23_method_2_code 13 (.aload_n 0) 1 14 := ⟨by decide +kernel, rfl⟩
theorem d4_14 : Dc prog_23_method_2_code 14 (.getfield 7) 3 17 := ⟨by decide +kernel, rfl⟩
theorem d4_17 : Dc prog_23_method_2_code 17 (.lcmp) 1 18 := ⟨by decide +kernel, rfl⟩
theorem d4_18 : Dj prog_23_method_2_code 18 (.ifCond .ne 7) 7 3 21 25 := ⟨by decide +kernel, rfl, by decide, by decide⟩
theorem d4_21 : Dc prog_23_method_2_code 21 (.iconst 1) 1 22 := ⟨by decide +kernel, rfl⟩
theorem d4_22 : Dj prog_23_method_2_code 22 (.goto 4) 4 3 25 26 := ⟨by decide +kernel, rfl, by decide, by decide⟩
theorem d4_26 : Dc prog_23_method_2_code 26 (.ireturn) 1 27 := ⟨by decide +kernel, rfl⟩
theorem rW1 (l : Launch) {Z : State} {a0 : Array Value} (hw : ∀ d ∈ tables_1, d.before a0 Z = true) {h : Heap} (hE : Ext Z.heap h) (a : Addr) (re wr da : Int64) (F0 : Fld Z h a "com/example/chapeau/chapeau/io/CopyReport" "records" "J" (.long re)) (F1 : Fld Z h a "com/example/chapeau/chapeau/io/CopyReport" "written" "J" (.long wr)) (F2 : Fld Z h a "com/example/chapeau/chapeau/io/CopyReport" "damaged" "J" (.long da)) (h1 : da = (0 : Int64)) (h2 : wr = re) :
    Con l (⟨"com/example/chapeau/chapeau/io/CopyReport", "whole", "()Z"⟩ : MethodName) prog_23_method_2_code 1 (some .boolean) [] ({ frames := 0, cells := 0, slots := 0, locals := 0 } : Room) Z #[(.ref a)] h (fun v' h' => v' = some (.int 1) ∧ h' = h) := by
  refine con_of (plainFor_of_name pn_11) hE (fun m => ef_rW1 m a) ?_
  intro p e s m below meth c T0 C X0
  have C : Cx p s m meth c Z "com/example/chapeau/chapeau/io/CopyReport" "whole" prog_23_method_2_code 1 (some .boolean) := C
  show Goes p e below _ T0 (mkF m 0 #[.val (.ref a)] [])
  refine g_aloadN C X0 d4_0 rfl rfl ?_
  refine g_getfield (host := "") C X0 (Or.inl (wd hw 18 rfl)) Via.refl F2 d4_1 (fun T643 X643 => ?_)
  refine g_lconst 0 C X643 d4_4 rfl ?_
  refine g_lcmp C X643 d4_5 ?_
  refine g_ifn (hL_ne _ _) C X643 d4_6 (fun q => absurd h1 q) (fun _ => ?_)
  refine g_aloadN C X643 d4_9 rfl rfl ?_
  refine g_getfield (host := "") C X643 (Or.inl (wd hw 16 rfl)) Via.refl F1 d4_10 (fun T644 X644 => ?_)
  refine g_aloadN C X644 d4_13 rfl rfl ?_
  refine g_getfield (host := "") C X644 (Or.inl (wd hw 14 rfl)) Via.refl F0 d4_14 (fun T645 X645 => ?_)
  refine g_lcmp C X645 d4_17 ?_
  refine g_ifn (hL_ne _ _) C X645 d4_18 (fun q => absurd h2 q) (fun _ => ?_)
  refine g_iconst 1 C X645 d4_21 rfl ?_
  refine g_goto C X645 d4_22 ?_
  exact g_retN C X645 (by simp) d4_26 (1 : Int32) rfl (by decide) (by decide) ⟨rfl, rfl⟩
theorem ef_rWa (m : MethodId) (a : Addr) : entryFrame m #[(.ref a)] 1 = mkF m 0 #[.val (.ref a)] [] := by first | (simp [entryFrame, mkF, argsToLocals, Value.category]; done) | rfl
theorem d4_25 : Dc prog_23_method_2_code 25 (.iconst 0) 1 26 := ⟨by decide +kernel, rfl⟩
theorem rWa (l : Launch) {Z : State} {a0 : Array Value} (hw : ∀ d ∈ tables_1, d.before a0 Z = true) {h : Heap} (hE : Ext Z.heap h) (a : Addr) (re wr da : Int64) (F0 : Fld Z h a "com/example/chapeau/chapeau/io/CopyReport" "records" "J" (.long re)) (F1 : Fld Z h a "com/example/chapeau/chapeau/io/CopyReport" "written" "J" (.long wr)) (F2 : Fld Z h a "com/example/chapeau/chapeau/io/CopyReport" "damaged" "J" (.long da)) (h1 : ¬ da = (0 : Int64)) :
    Con l (⟨"com/example/chapeau/chapeau/io/CopyReport", "whole", "()Z"⟩ : MethodName) prog_23_method_2_code 1 (some .boolean) [] ({ frames := 0, cells := 0, slots := 0, locals := 0 } : Room) Z #[(.ref a)] h (fun v' h' => v' = some (.int 0) ∧ h' = h) := by
  refine con_of (plainFor_of_name pn_11) hE (fun m => ef_rWa m a) ?_
  intro p e s m below meth c T0 C X0
  have C : Cx p s m meth c Z "com/example/chapeau/chapeau/io/CopyReport" "whole" prog_23_method_2_code 1 (some .boolean) := C
  show Goes p e below _ T0 (mkF m 0 #[.val (.ref a)] [])
  refine g_aloadN C X0 d4_0 rfl rfl ?_
  refine g_getfield (host := "") C X0 (Or.inl (wd hw 18 rfl)) Via.refl F2 d4_1 (fun T646 X646 => ?_)
  refine g_lconst 0 C X646 d4_4 rfl ?_
  refine g_lcmp C X646 d4_5 ?_
  refine g_ifn (hL_ne _ _) C X646 d4_6 (fun _ => ?_) (fun q => absurd q h1)
  refine g_iconst 0 C X646 d4_25 rfl ?_
  exact g_retN C X646 (by simp) d4_26 (0 : Int32) rfl (by decide) (by decide) ⟨rfl, rfl⟩
theorem ef_rWb (m : MethodId) (a : Addr) : entryFrame m #[(.ref a)] 1 = mkF m 0 #[.val (.ref a)] [] := by first | (simp [entryFrame, mkF, argsToLocals, Value.category]; done) | rfl
theorem rWb (l : Launch) {Z : State} {a0 : Array Value} (hw : ∀ d ∈ tables_1, d.before a0 Z = true) {h : Heap} (hE : Ext Z.heap h) (a : Addr) (re wr da : Int64) (F0 : Fld Z h a "com/example/chapeau/chapeau/io/CopyReport" "records" "J" (.long re)) (F1 : Fld Z h a "com/example/chapeau/chapeau/io/CopyReport" "written" "J" (.long wr)) (F2 : Fld Z h a "com/example/chapeau/chapeau/io/CopyReport" "damaged" "J" (.long da)) (h1 : da = (0 : Int64)) (h2 : ¬ wr = re) :
    Con l (⟨"com/example/chapeau/chapeau/io/CopyReport", "whole", "()Z"⟩ : MethodName) prog_23_method_2_code 1 (some .boolean) [] ({ frames := 0, cells := 0, slots := 0, locals := 0 } : Room) Z #[(.ref a)] h (fun v' h' => v' = some (.int 0) ∧ h' = h) := by
  refine con_of (plainFor_of_name pn_11) hE (fun m => ef_rWb m a) ?_
  intro p e s m below meth c T0 C X0
  have C : Cx p s m meth c Z "com/example/chapeau/chapeau/io/CopyReport" "whole" prog_23_method_2_code 1 (some .boolean) := C
  show Goes p e below _ T0 (mkF m 0 #[.val (.ref a)] [])
  refine g_aloadN C X0 d4_0 rfl rfl ?_
  refine g_getfield (host := "") C X0 (Or.inl (wd hw 18 rfl)) Via.refl F2 d4_1 (fun T647 X647 => ?_)
  refine g_lconst 0 C X647 d4_4 rfl ?_
  refine g_lcmp C X647 d4_5 ?_
  refine g_ifn (hL_ne _ _) C X647 d4_6 (fun q => absurd h1 q) (fun _ => ?_)
  refine g_aloadN C X647 d4_9 rfl rfl ?_
  refine g_getfield (host := "") C X647 (Or.inl (wd hw 16 rfl)) Via.refl F1 d4_10 (fun T648 X648 => ?_)
  refine g_aloadN C X648 d4_13 rfl rfl ?_
  refine g_getfield (host := "") C X648 (Or.inl (wd hw 14 rfl)) Via.refl F0 d4_14 (fun T649 X649 => ?_)
  refine g_lcmp C X649 d4_17 ?_
  refine g_ifn (hL_ne _ _) C X649 d4_18 (fun _ => ?_) (fun q => absurd q h2)
  refine g_iconst 0 C X649 d4_25 rfl ?_
  exact g_retN C X649 (by simp) d4_26 (0 : Int32) rfl (by decide) (by decide) ⟨rfl, rfl⟩
theorem own_xor (x : Int64) : ¬ (x ^^^ (1 : Int64)) = x := fun q => by
  have h2 : (x ^^^ x) ^^^ (1 : Int64) = x ^^^ x := by rw [Int64.xor_assoc, q]
  rw [Int64.xor_self, Int64.zero_xor] at h2
  exact absurd h2 (by decide)
theorem pn_12 : plainName "com/example/chapeau/chapeau/io/CopyReportWholePinLaw" = true := by first | (simp [plainName, overriddenIn]; done) | decide +kernel
theorem ef_rm0 (m : MethodId) (i0 : Int64) (i1 : Int64) (i2 : Int64) (i3 : Int32) : entryFrame m #[(.long i0), (.long i1), (.long i2), (.int i3)] maxLocals = mkF m 0 #[.val (.long i0), .second, .val (.long i1), .second, .val (.long i2), .second, .val (.int i3), .unset, .unset, .unset, .unset, .unset, .unset, .unset, .unset, .unset, .unset] [] := by first | (simp [entryFrame, mkF, argsToLocals, Value.category, maxLocals]; done) | rfl
theorem d0_0 : Dc code 0 (.iload 6) 2 2 := ⟨at_0, rfl⟩
theorem d0_2 : Dc code 2 (.iconst 1) 1 3 := ⟨at_2, rfl⟩
theorem d0_3 : Dc code 3 (.iand) 1 4 := ⟨at_3, rfl⟩
theorem d0_4 : Dj code 4 (.ifCond .eq 7) 7 3 7 11 := ⟨at_4, rfl, by decide, by decide⟩
theorem d0_11 : Dc code 11 (.iconst 0) 1 12 := ⟨at_11, rfl⟩
theorem d0_12 : Dc code 12 (.istore 7) 2 14 := ⟨at_12, rfl⟩
theorem d0_14 : Dc code 14 (.iload 6) 2 16 := ⟨at_14, rfl⟩
theorem d0_16 : Dc code 16 (.iconst 2) 1 17 := ⟨at_16, rfl⟩
theorem d0_17 : Dc code 17 (.iand) 1 18 := ⟨at_17, rfl⟩
theorem d0_18 : Dj code 18 (.ifCond .eq 7) 7 3 21 25 := ⟨at_18, rfl, by decide, by decide⟩
theorem d0_25 : Dc code 25 (.iconst 0) 1 26 := ⟨at_25, rfl⟩
theorem d0_26 : Dc code 26 (.istore 8) 2 28 := ⟨at_26, rfl⟩
theorem d0_28 : Dc code 28 (.iload 6) 2 30 := ⟨at_28, rfl⟩
theorem d0_30 : Dc code 30 (.iconst 4) 1 31 := ⟨at_30, rfl⟩
theorem d0_31 : Dc code 31 (.iand) 1 32 := ⟨at_31, rfl⟩
theorem d0_32 : Dj code 32 (.ifCond .eq 7) 7 3 35 39 := ⟨at_32, rfl, by decide, by decide⟩
theorem d0_39 : Dc code 39 (.iconst 0) 1 40 := ⟨at_39, rfl⟩
theorem d0_40 : Dc code 40 (.istore 9) 2 42 := ⟨at_40, rfl⟩
theorem d0_42 : Dc code 42 (.iload 7) 2 44 := ⟨at_42, rfl⟩
theorem d0_44 : Dj code 44 (.ifCond .eq 9) 9 3 47 53 := ⟨at_44, rfl, by decide, by decide⟩
theorem d0_53 : Dc code 53 (.lload_n 2) 1 54 := ⟨at_53, rfl⟩
theorem d0_54 : Dc code 54 (.lload_n 0) 1 55 := ⟨at_54, rfl⟩
theorem d0_55 : Dc code 55 (.lcmp) 1 56 := ⟨at_55, rfl⟩
theorem d0_56 : Dj code 56 (.ifCond .eq 9) 9 3 59 65 := ⟨at_56, rfl, by decide, by decide⟩
theorem d0_65 : Dc code 65 (.lload_n 0) 1 66 := ⟨at_65, rfl⟩
theorem d0_66 : Dc code 66 (.lconst 1) 1 67 := ⟨at_66, rfl⟩
theorem d0_67 : Dc code 67 (.lxor) 1 68 := ⟨at_67, rfl⟩
theorem d0_68 : Dc code 68 (.lstore 10) 2 70 := ⟨at_68, rfl⟩
theorem d0_70 : Dc code 70 (.iload 8) 2 72 := ⟨at_70, rfl⟩
theorem d0_72 : Dj code 72 (.ifCond .eq 9) 9 3 75 81 := ⟨at_72, rfl, by decide, by decide⟩
theorem d0_81 : Dc code 81 (.lload 4) 2 83 := ⟨at_81, rfl⟩
theorem d0_83 : Dc code 83 (.lconst 0) 1 84 := ⟨at_83, rfl⟩
theorem d0_84 : Dc code 84 (.lcmp) 1 85 := ⟨at_84, rfl⟩
theorem d0_85 : Dj code 85 (.ifCond .eq 10) 10 3 88 95 := ⟨at_85, rfl, by decide, by decide⟩
theorem d0_95 : Dc code 95 (.lconst 1) 1 96 := ⟨at_95, rfl⟩
theorem d0_96 : Dc code 96 (.lstore 12) 2 98 := ⟨at_96, rfl⟩
theorem d0_98 : Dc code 98 (.aconst_null) 1 99 := ⟨at_98, rfl⟩
theorem d0_99 : Dc code 99 (.astore 14) 2 101 := ⟨at_99, rfl⟩
theorem d0_101 : Dc code 101 (.iload 9) 2 103 := ⟨at_101, rfl⟩
theorem d0_103 : Dj code 103 (.ifCond .eq 19) 19 3 106 122 := ⟨at_103, rfl, by decide, by decide⟩
theorem d0_122 : Dc code 122 (.iload 7) 2 124 := ⟨at_122, rfl⟩
theorem d0_124 : Dj code 124 (.ifCond .eq 12) 12 3 127 136 := ⟨at_124, rfl, by decide, by decide⟩
theorem d0_136 : Dc code 136 (.iconst 0) 1 137 := ⟨at_136, rfl⟩
theorem d0_137 : Dc code 137 (.istore 15) 2 139 := ⟨at_137, rfl⟩
theorem d0_139 : Dc code 139 (.new 14) 3 142 := ⟨at_139, rfl⟩
theorem d0_142 : Dc code 142 (.dup) 1 143 := ⟨at_142, rfl⟩
theorem d0_143 : Dc code 143 (.lload_n 0) 1 144 := ⟨at_143, rfl⟩
theorem d0_144 : Dc code 144 (.lload 10) 2 146 := ⟨at_144, rfl⟩
theorem d0_146 : Dc code 146 (.lload 12) 2 148 := ⟨at_146, rfl⟩
theorem d0_148 : Dc code 148 (.aload 14) 2 150 := ⟨at_148, rfl⟩
theorem d0_150 : Dc code 150 (.invokespecial 16) 3 153 := ⟨at_150, rfl⟩
theorem pd_24 : parseMethodDescriptor "(JJJLcom/example/chapeau/chapeau/io/MalformedXmlException;)V" = some ⟨[.long, .long, .long, (.object "com/example/chapeau/chapeau/io/MalformedXmlException")], none⟩ := by decide +kernel
theorem d0_153 : Dc code 153 (.astore 16) 2 155 := ⟨at_153, rfl⟩
theorem d0_155 : Dc code 155 (.aload 16) 2 157 := ⟨at_155, rfl⟩
theorem d0_157 : Dc code 157 (.invokevirtual 19) 3 160 := ⟨at_157, rfl⟩
theorem d0_160 : Dc code 160 (.iload 15) 2 162 := ⟨at_160, rfl⟩
theorem d0_162 : Dj code 162 (.if_icmp .ne 7) 7 3 165 169 := ⟨at_162, rfl, by decide, by decide⟩
theorem d0_165 : Dc code 165 (.iconst 1) 1 166 := ⟨at_165, rfl⟩
theorem d0_166 : Dj code 166 (.goto 4) 4 3 169 170 := ⟨at_166, rfl, by decide, by decide⟩
theorem d0_170 : Dc code 170 (.ireturn) 1 171 := ⟨at_170, rfl⟩
theorem d0_88 : Dc code 88 (.lload 4) 2 90 := ⟨at_88, rfl⟩
theorem d0_90 : Dc code 90 (.lstore 12) 2 92 := ⟨at_90, rfl⟩
theorem d0_92 : Dj code 92 (.goto 6) 6 3 95 98 := ⟨at_92, rfl, by decide, by decide⟩
theorem d0_59 : Dc code 59 (.lload_n 2) 1 60 := ⟨at_59, rfl⟩
theorem d0_60 : Dc code 60 (.lstore 10) 2 62 := ⟨at_60, rfl⟩
theorem d0_62 : Dj code 62 (.goto 8) 8 3 65 70 := ⟨at_62, rfl, by decide, by decide⟩
theorem d0_35 : Dc code 35 (.iconst 1) 1 36 := ⟨at_35, rfl⟩
theorem d0_36 : Dj code 36 (.goto 4) 4 3 39 40 := ⟨at_36, rfl, by decide, by decide⟩
theorem d0_106 : Dc code 106 (.new 7) 3 109 := ⟨at_106, rfl⟩
theorem d0_109 : Dc code 109 (.dup) 1 110 := ⟨at_109, rfl⟩
theorem d0_110 : Dc code 110 (.lload_n 2) 1 111 := ⟨at_110, rfl⟩
theorem d0_111 : Dc code 111 (.l2i) 1 112 := ⟨at_111, rfl⟩
theorem d0_112 : Dc code 112 (.lload 4) 2 114 := ⟨at_112, rfl⟩
theorem d0_114 : Dc code 114 (.l2i) 1 115 := ⟨at_114, rfl⟩
theorem d0_115 : Dc code 115 (.ldc 9) 2 117 := ⟨at_115, rfl⟩
theorem d0_117 : Dc code 117 (.invokespecial 11) 3 120 := ⟨at_117, rfl⟩
theorem pd_25 : parseMethodDescriptor "(IILjava/lang/String;)V" = some ⟨[.int, .int, (.object "java/lang/String")], none⟩ := by decide +kernel
theorem d0_120 : Dc code 120 (.astore 14) 2 122 := ⟨at_120, rfl⟩
theorem d0_21 : Dc code 21 (.iconst 1) 1 22 := ⟨at_21, rfl⟩
theorem d0_22 : Dj code 22 (.goto 4) 4 3 25 26 := ⟨at_22, rfl, by decide, by decide⟩
theorem d0_75 : Dc code 75 (.lconst 0) 1 76 := ⟨at_75, rfl⟩
theorem d0_76 : Dc code 76 (.lstore 12) 2 78 := ⟨at_76, rfl⟩
theorem d0_78 : Dj code 78 (.goto 20) 20 3 81 98 := ⟨at_78, rfl, by decide, by decide⟩
theorem d0_7 : Dc code 7 (.iconst 1) 1 8 := ⟨at_7, rfl⟩
theorem d0_8 : Dj code 8 (.goto 4) 4 3 11 12 := ⟨at_8, rfl, by decide, by decide⟩
theorem d0_47 : Dc code 47 (.lload_n 0) 1 48 := ⟨at_47, rfl⟩
theorem d0_48 : Dc code 48 (.lstore 10) 2 50 := ⟨at_48, rfl⟩
theorem d0_50 : Dj code 50 (.goto 20) 20 3 53 70 := ⟨at_50, rfl, by decide, by decide⟩
theorem d0_127 : Dc code 127 (.iload 8) 2 129 := ⟨at_127, rfl⟩
theorem d0_129 : Dj code 129 (.ifCond .eq 7) 7 3 132 136 := ⟨at_129, rfl, by decide, by decide⟩
theorem d0_132 : Dc code 132 (.iconst 1) 1 133 := ⟨at_132, rfl⟩
theorem d0_133 : Dj code 133 (.goto 4) 4 3 136 137 := ⟨at_133, rfl, by decide, by decide⟩
theorem rm0 (l : Launch) {Z : State} {a0 : Array Value} (hw : ∀ d ∈ tables_1, d.before a0 Z = true) {h : Heap} (hE : Ext Z.heap h) (i0 : Int64) (i1 : Int64) (i2 : Int64) (i3 : Int32) (z_ : Int32) (SZ : Sta Z Z.heap "java/lang/String" "COMPACT_STRINGS" "Z" (.int z_)) (hz : ¬ z_ = 0) (o1 o2 : Addr) (S1 : Sta Z Z.heap "java/lang/Integer" "DigitOnes" "[B" (.ref o1)) (S2 : Sta Z Z.heap "java/lang/Integer" "DigitTens" "[B" (.ref o2)) (D1 : ByS Z Z.heap o1 100) (D2 : ByS Z Z.heap o2 100) (u0 u1 : Value) (SU : Sta Z Z.heap "java/lang/Throwable" "UNASSIGNED_STACK" "[Ljava/lang/StackTraceElement;" u0) (SV : Sta Z Z.heap "java/lang/Throwable" "SUPPRESSED_SENTINEL" "Ljava/util/List;" u1) (ru0 : u0.isRef = true) (ru1 : u1.isRef = true) (hl : l.stackTraces = true)  :
    ConX l x code maxLocals ret tables_1 room_1 Z consts_1 [] #[(.long i0), (.long i1), (.long i2), (.int i3)] h (fun v' h' => v' = some (.int 1)) := by
  refine con_ofX (plainFor_of_name pn_12) hE (fun m => ef_rm0 m i0 i1 i2 i3) ?_
  intro p e s m below meth c T0 C X0 I0 hsf hKn hs0
  have C : Cx p (s.setVm s.vm) m meth c Z "com/example/chapeau/chapeau/io/CopyReportWholePinLaw" "law" code maxLocals ret := C
  show Goes p e below _ T0 (mkF m 0 #[.val (.long i0), .second, .val (.long i1), .second, .val (.long i2), .second, .val (.int i3), .unset, .unset, .unset, .unset, .unset, .unset, .unset, .unset, .unset, .unset] [])
  refine g_iload C X0 d0_0 rfl ?_
  refine g_iconst 1 C X0 d0_2 rfl ?_
  refine g_iand C X0 d0_3 ?_
  refine g_if (h0_eq _) C X0 d0_4 (fun c4_650 => ?_) (fun c4_650 => ?_)
  · refine g_iconst 0 C X0 d0_11 rfl ?_
    refine g_istore C X0 d0_12 (l' := #[.val (.long i0), .second, .val (.long i1), .second, .val (.long i2), .second, .val (.int i3), .val (.int 0), .unset, .unset, .unset, .unset, .unset, .unset, .unset, .unset, .unset]) rfl ?_
    refine g_iload C X0 d0_14 rfl ?_
    refine g_iconst 2 C X0 d0_16 rfl ?_
    refine g_iand C X0 d0_17 ?_
    refine g_if (h0_eq _) C X0 d0_18 (fun c18_651 => ?_) (fun c18_651 => ?_)
    · refine g_iconst 0 C X0 d0_25 rfl ?_
      refine g_istore C X0 d0_26 (l' := #[.val (.long i0), .second, .val (.long i1), .second, .val (.long i2), .second, .val (.int i3), .val (.int 0), .val (.int 0), .unset, .unset, .unset, .unset, .unset, .unset, .unset, .unset]) rfl ?_
      refine g_iload C X0 d0_28 rfl ?_
      refine g_iconst 4 C X0 d0_30 rfl ?_
      refine g_iand C X0 d0_31 ?_
      refine g_if (h0_eq _) C X0 d0_32 (fun c32_652 => ?_) (fun c32_652 => ?_)
      · refine g_iconst 0 C X0 d0_39 rfl ?_
        refine g_istore C X0 d0_40 (l' := #[.val (.long i0), .second, .val (.long i1), .second, .val (.long i2), .second, .val (.int i3), .val (.int 0), .val (.int 0), .val (.int 0), .unset, .unset, .unset, .unset, .unset, .unset, .unset]) rfl ?_
        refine g_iload C X0 d0_42 rfl ?_
        refine g_if (h0_eq _) C X0 d0_44 (fun _ => ?_) (fun q => absurd (by decide) q)
        refine g_lloadN C X0 d0_53 rfl ?_
        refine g_lloadN C X0 d0_54 rfl ?_
        refine g_lcmp C X0 d0_55 ?_
        refine g_if (hL_eq _ _) C X0 d0_56 (fun c56_653 => ?_) (fun c56_653 => ?_)
        · refine g_lloadN C X0 d0_65 rfl ?_
          refine g_lconst 1 C X0 d0_66 rfl ?_
          refine g_lxor C X0 d0_67 ?_
          refine g_lstore C X0 d0_68 (l' := #[.val (.long i0), .second, .val (.long i1), .second, .val (.long i2), .second, .val (.int i3), .val (.int 0), .val (.int 0), .val (.int 0), .val (.long (i0 ^^^ (1 : Int64))), .second, .unset, .unset, .unset, .unset, .unset]) rfl ?_
          refine g_iload C X0 d0_70 rfl ?_
          refine g_if (h0_eq _) C X0 d0_72 (fun _ => ?_) (fun q => absurd (by decide) q)
          refine g_lload C X0 d0_81 rfl ?_
          refine g_lconst 0 C X0 d0_83 rfl ?_
          refine g_lcmp C X0 d0_84 ?_
          refine g_if (hL_eq _ _) C X0 d0_85 (fun c85_654 => ?_) (fun c85_654 => ?_)
          · refine g_lconst 1 C X0 d0_95 rfl ?_
            refine g_lstore C X0 d0_96 (l' := #[.val (.long i0), .second, .val (.long i1), .second, .val (.long i2), .second, .val (.int i3), .val (.int 0), .val (.int 0), .val (.int 0), .val (.long (i0 ^^^ (1 : Int64))), .second, .val (.long 1), .second, .unset, .unset, .unset]) rfl ?_
            refine g_aconst_null C X0 d0_98 ?_
            refine g_astore C X0 d0_99 rfl (l' := #[.val (.long i0), .second, .val (.long i1), .second, .val (.long i2), .second, .val (.int i3), .val (.int 0), .val (.int 0), .val (.int 0), .val (.long (i0 ^^^ (1 : Int64))), .second, .val (.long 1), .second, .val .null, .unset, .unset]) rfl ?_
            refine g_iload C X0 d0_101 rfl ?_
            refine g_if (h0_eq _) C X0 d0_103 (fun _ => ?_) (fun q => absurd (by decide) q)
            refine g_iload C X0 d0_122 rfl ?_
            refine g_if (h0_eq _) C X0 d0_124 (fun _ => ?_) (fun q => absurd (by decide) q)
            refine g_iconst 0 C X0 d0_136 rfl ?_
            refine g_istore C X0 d0_137 (l' := #[.val (.long i0), .second, .val (.long i1), .second, .val (.long i2), .second, .val (.int i3), .val (.int 0), .val (.int 0), .val (.int 0), .val (.long (i0 ^^^ (1 : Int64))), .second, .val (.long 1), .second, .val .null, .val (.int 0), .unset]) rfl ?_
            refine g_new C X0 (wd hw 0 rfl) (wd hw 1 rfl) (wd hw 2 rfl) d0_139 (by decide) (by decide) (fun T655 h655 b655 g_b655 n_b655 X655 E655 A655 D655 M655 => ?_)
            have F_records_b655 : Fld Z h655 b655 "com/example/chapeau/chapeau/io/CopyReport" "records" "J" (.long 0) := D655 (Or.inr (wd hw 15 rfl)) (ty := .long) (by decide)
            have F_written_b655 : Fld Z h655 b655 "com/example/chapeau/chapeau/io/CopyReport" "written" "J" (.long 0) := D655 (Or.inr (wd hw 17 rfl)) (ty := .long) (by decide)
            have F_damaged_b655 : Fld Z h655 b655 "com/example/chapeau/chapeau/io/CopyReport" "damaged" "J" (.long 0) := D655 (Or.inr (wd hw 19 rfl)) (ty := .long) (by decide)
            have F_fault_b655 : Fld Z h655 b655 "com/example/chapeau/chapeau/io/CopyReport" "fault" "Lcom/example/chapeau/chapeau/io/MalformedXmlException;" .null := D655 (Or.inr (wd hw 21 rfl)) (ty := (.object "com/example/chapeau/chapeau/io/MalformedXmlException")) (by decide)
            refine g_dup C X655 d0_142 rfl ?_
            refine g_lloadN C X655 d0_143 rfl ?_
            refine g_lload C X655 d0_144 rfl ?_
            refine g_lload C X655 d0_146 rfl ?_
            refine g_aload C X655 d0_148 rfl rfl ?_
            refine g_special (argsL := [(.long i0), (.long (i0 ^^^ (1 : Int64))), (.long 1), .null]) (st := [(.ref b655)]) C X655 rfl (wd hw 3 rfl) (wd hw 4 rfl) (wd hw 5 rfl) (by decide) (pay_of (W' := 1) (rCN l hw X655.ext b655 i0 (i0 ^^^ (1 : Int64)) (1 : Int64) A655 F_records_b655 F_written_b655 F_damaged_b655 F_fault_b655 n_b655) C.hZ (wd hw 5 rfl) (wd hw 2 rfl) (by decide) (by decide)) pd_24 rfl rfl _ rfl (Nat.le_of_eq rfl) d0_150 (by decide) (by decide) (fun T656 h656 v656 q656 X656 => ?_)
            obtain ⟨rfl, K656, F0_656, F1_656, F2_656⟩ := q656
            show Goes p e below _ T656 (mkF m 153 #[.val (.long i0), .second, .val (.long i1), .second, .val (.long i2), .second, .val (.int i3), .val (.int 0), .val (.int 0), .val (.int 0), .val (.long (i0 ^^^ (1 : Int64))), .second, .val (.long 1), .second, .val .null, .val (.int 0), .unset] [(.ref b655)])
            refine g_astore C X656 d0_153 rfl (l' := #[.val (.long i0), .second, .val (.long i1), .second, .val (.long i2), .second, .val (.int i3), .val (.int 0), .val (.int 0), .val (.int 0), .val (.long (i0 ^^^ (1 : Int64))), .second, .val (.long 1), .second, .val .null, .val (.int 0), .val (.ref b655)]) rfl ?_
            refine g_aload C X656 d0_155 rfl rfl ?_
            have f658 := (Exa.keep A655 K656)
            refine g_virtualP (argsL := []) (st := []) C X656 (wd hw 22 rfl) (wd hw 23 rfl) (nf_of C (wd hw 25 rfl) rfl rfl) (wd hw 25 rfl) (wd hw 24 rfl) (by decide) f658 (pay_of (W' := 0) (rWa l hw X656.ext b655 i0 (i0 ^^^ (1 : Int64)) (1 : Int64) F0_656 F1_656 F2_656 (by decide)) C.hZ (wd hw 26 rfl) (wd hw 2 rfl) (by decide) (by decide)) pd_11 rfl rfl _ rfl (Nat.le_of_eq rfl) d0_157 (by decide) (by decide) (fun T657 X657 => ?_)
            refine g_iload C X657 d0_160 rfl ?_
            refine g_icmpn (hI_ne _ _) C X657 d0_162 (fun q => absurd (by decide) q) (fun _ => ?_)
            refine g_iconst 1 C X657 d0_165 rfl ?_
            refine g_goto C X657 d0_166 ?_
            have sz659 : h.size ≤ b655 := by rw [g_b655]; exact (Keep.refl h []).1
            have kp660 := (Keep.refl h []).ext E655
            have kp661 := kp660.trans K656 (allS (Or.inr sz659) all0)
            exact goes_X I0.1 kp661.1 (g_retN C X657 (by simp) d0_170 (1 : Int32) rfl (by decide) (by decide) ⟨rfl, rfl⟩)
          · refine g_lload C X0 d0_88 rfl ?_
            refine g_lstore C X0 d0_90 (l' := #[.val (.long i0), .second, .val (.long i1), .second, .val (.long i2), .second, .val (.int i3), .val (.int 0), .val (.int 0), .val (.int 0), .val (.long (i0 ^^^ (1 : Int64))), .second, .val (.long i2), .second, .unset, .unset, .unset]) rfl ?_
            refine g_goto C X0 d0_92 ?_
            refine g_aconst_null C X0 d0_98 ?_
            refine g_astore C X0 d0_99 rfl (l' := #[.val (.long i0), .second, .val (.long i1), .second, .val (.long i2), .second, .val (.int i3), .val (.int 0), .val (.int 0), .val (.int 0), .val (.long (i0 ^^^ (1 : Int64))), .second, .val (.long i2), .second, .val .null, .unset, .unset]) rfl ?_
            refine g_iload C X0 d0_101 rfl ?_
            refine g_if (h0_eq _) C X0 d0_103 (fun _ => ?_) (fun q => absurd (by decide) q)
            refine g_iload C X0 d0_122 rfl ?_
            refine g_if (h0_eq _) C X0 d0_124 (fun _ => ?_) (fun q => absurd (by decide) q)
            refine g_iconst 0 C X0 d0_136 rfl ?_
            refine g_istore C X0 d0_137 (l' := #[.val (.long i0), .second, .val (.long i1), .second, .val (.long i2), .second, .val (.int i3), .val (.int 0), .val (.int 0), .val (.int 0), .val (.long (i0 ^^^ (1 : Int64))), .second, .val (.long i2), .second, .val .null, .val (.int 0), .unset]) rfl ?_
            refine g_new C X0 (wd hw 0 rfl) (wd hw 1 rfl) (wd hw 2 rfl) d0_139 (by decide) (by decide) (fun T662 h662 b662 g_b662 n_b662 X662 E662 A662 D662 M662 => ?_)
            have F_records_b662 : Fld Z h662 b662 "com/example/chapeau/chapeau/io/CopyReport" "records" "J" (.long 0) := D662 (Or.inr (wd hw 15 rfl)) (ty := .long) (by decide)
            have F_written_b662 : Fld Z h662 b662 "com/example/chapeau/chapeau/io/CopyReport" "written" "J" (.long 0) := D662 (Or.inr (wd hw 17 rfl)) (ty := .long) (by decide)
            have F_damaged_b662 : Fld Z h662 b662 "com/example/chapeau/chapeau/io/CopyReport" "damaged" "J" (.long 0) := D662 (Or.inr (wd hw 19 rfl)) (ty := .long) (by decide)
            have F_fault_b662 : Fld Z h662 b662 "com/example/chapeau/chapeau/io/CopyReport" "fault" "Lcom/example/chapeau/chapeau/io/MalformedXmlException;" .null := D662 (Or.inr (wd hw 21 rfl)) (ty := (.object "com/example/chapeau/chapeau/io/MalformedXmlException")) (by decide)
            refine g_dup C X662 d0_142 rfl ?_
            refine g_lloadN C X662 d0_143 rfl ?_
            refine g_lload C X662 d0_144 rfl ?_
            refine g_lload C X662 d0_146 rfl ?_
            refine g_aload C X662 d0_148 rfl rfl ?_
            refine g_special (argsL := [(.long i0), (.long (i0 ^^^ (1 : Int64))), (.long i2), .null]) (st := [(.ref b662)]) C X662 rfl (wd hw 3 rfl) (wd hw 4 rfl) (wd hw 5 rfl) (by decide) (pay_of (W' := 1) (rCN l hw X662.ext b662 i0 (i0 ^^^ (1 : Int64)) i2 A662 F_records_b662 F_written_b662 F_damaged_b662 F_fault_b662 n_b662) C.hZ (wd hw 5 rfl) (wd hw 2 rfl) (by decide) (by decide)) pd_24 rfl rfl _ rfl (Nat.le_of_eq rfl) d0_150 (by decide) (by decide) (fun T663 h663 v663 q663 X663 => ?_)
            obtain ⟨rfl, K663, F0_663, F1_663, F2_663⟩ := q663
            show Goes p e below _ T663 (mkF m 153 #[.val (.long i0), .second, .val (.long i1), .second, .val (.long i2), .second, .val (.int i3), .val (.int 0), .val (.int 0), .val (.int 0), .val (.long (i0 ^^^ (1 : Int64))), .second, .val (.long i2), .second, .val .null, .val (.int 0), .unset] [(.ref b662)])
            refine g_astore C X663 d0_153 rfl (l' := #[.val (.long i0), .second, .val (.long i1), .second, .val (.long i2), .second, .val (.int i3), .val (.int 0), .val (.int 0), .val (.int 0), .val (.long (i0 ^^^ (1 : Int64))), .second, .val (.long i2), .second, .val .null, .val (.int 0), .val (.ref b662)]) rfl ?_
            refine g_aload C X663 d0_155 rfl rfl ?_
            have f665 := (Exa.keep A662 K663)
            refine g_virtualP (argsL := []) (st := []) C X663 (wd hw 22 rfl) (wd hw 23 rfl) (nf_of C (wd hw 25 rfl) rfl rfl) (wd hw 25 rfl) (wd hw 24 rfl) (by decide) f665 (pay_of (W' := 0) (rWa l hw X663.ext b662 i0 (i0 ^^^ (1 : Int64)) i2 F0_663 F1_663 F2_663 c85_654) C.hZ (wd hw 26 rfl) (wd hw 2 rfl) (by decide) (by decide)) pd_11 rfl rfl _ rfl (Nat.le_of_eq rfl) d0_157 (by decide) (by decide) (fun T664 X664 => ?_)
            refine g_iload C X664 d0_160 rfl ?_
            refine g_icmpn (hI_ne _ _) C X664 d0_162 (fun q => absurd (by decide) q) (fun _ => ?_)
            refine g_iconst 1 C X664 d0_165 rfl ?_
            refine g_goto C X664 d0_166 ?_
            have sz666 : h.size ≤ b662 := by rw [g_b662]; exact (Keep.refl h []).1
            have kp667 := (Keep.refl h []).ext E662
            have kp668 := kp667.trans K663 (allS (Or.inr sz666) all0)
            exact goes_X I0.1 kp668.1 (g_retN C X664 (by simp) d0_170 (1 : Int32) rfl (by decide) (by decide) ⟨rfl, rfl⟩)
        · refine g_lloadN C X0 d0_59 rfl ?_
          refine g_lstore C X0 d0_60 (l' := #[.val (.long i0), .second, .val (.long i1), .second, .val (.long i2), .second, .val (.int i3), .val (.int 0), .val (.int 0), .val (.int 0), .val (.long i1), .second, .unset, .unset, .unset, .unset, .unset]) rfl ?_
          refine g_goto C X0 d0_62 ?_
          refine g_iload C X0 d0_70 rfl ?_
          refine g_if (h0_eq _) C X0 d0_72 (fun _ => ?_) (fun q => absurd (by decide) q)
          refine g_lload C X0 d0_81 rfl ?_
          refine g_lconst 0 C X0 d0_83 rfl ?_
          refine g_lcmp C X0 d0_84 ?_
          refine g_if (hL_eq _ _) C X0 d0_85 (fun c85_669 => ?_) (fun c85_669 => ?_)
          · refine g_lconst 1 C X0 d0_95 rfl ?_
            refine g_lstore C X0 d0_96 (l' := #[.val (.long i0), .second, .val (.long i1), .second, .val (.long i2), .second, .val (.int i3), .val (.int 0), .val (.int 0), .val (.int 0), .val (.long i1), .second, .val (.long 1), .second, .unset, .unset, .unset]) rfl ?_
            refine g_aconst_null C X0 d0_98 ?_
            refine g_astore C X0 d0_99 rfl (l' := #[.val (.long i0), .second, .val (.long i1), .second, .val (.long i2), .second, .val (.int i3), .val (.int 0), .val (.int 0), .val (.int 0), .val (.long i1), .second, .val (.long 1), .second, .val .null, .unset, .unset]) rfl ?_
            refine g_iload C X0 d0_101 rfl ?_
            refine g_if (h0_eq _) C X0 d0_103 (fun _ => ?_) (fun q => absurd (by decide) q)
            refine g_iload C X0 d0_122 rfl ?_
            refine g_if (h0_eq _) C X0 d0_124 (fun _ => ?_) (fun q => absurd (by decide) q)
            refine g_iconst 0 C X0 d0_136 rfl ?_
            refine g_istore C X0 d0_137 (l' := #[.val (.long i0), .second, .val (.long i1), .second, .val (.long i2), .second, .val (.int i3), .val (.int 0), .val (.int 0), .val (.int 0), .val (.long i1), .second, .val (.long 1), .second, .val .null, .val (.int 0), .unset]) rfl ?_
            refine g_new C X0 (wd hw 0 rfl) (wd hw 1 rfl) (wd hw 2 rfl) d0_139 (by decide) (by decide) (fun T670 h670 b670 g_b670 n_b670 X670 E670 A670 D670 M670 => ?_)
            have F_records_b670 : Fld Z h670 b670 "com/example/chapeau/chapeau/io/CopyReport" "records" "J" (.long 0) := D670 (Or.inr (wd hw 15 rfl)) (ty := .long) (by decide)
            have F_written_b670 : Fld Z h670 b670 "com/example/chapeau/chapeau/io/CopyReport" "written" "J" (.long 0) := D670 (Or.inr (wd hw 17 rfl)) (ty := .long) (by decide)
            have F_damaged_b670 : Fld Z h670 b670 "com/example/chapeau/chapeau/io/CopyReport" "damaged" "J" (.long 0) := D670 (Or.inr (wd hw 19 rfl)) (ty := .long) (by decide)
            have F_fault_b670 : Fld Z h670 b670 "com/example/chapeau/chapeau/io/CopyReport" "fault" "Lcom/example/chapeau/chapeau/io/MalformedXmlException;" .null := D670 (Or.inr (wd hw 21 rfl)) (ty := (.object "com/example/chapeau/chapeau/io/MalformedXmlException")) (by decide)
            refine g_dup C X670 d0_142 rfl ?_
            refine g_lloadN C X670 d0_143 rfl ?_
            refine g_lload C X670 d0_144 rfl ?_
            refine g_lload C X670 d0_146 rfl ?_
            refine g_aload C X670 d0_148 rfl rfl ?_
            refine g_special (argsL := [(.long i0), (.long i1), (.long 1), .null]) (st := [(.ref b670)]) C X670 rfl (wd hw 3 rfl) (wd hw 4 rfl) (wd hw 5 rfl) (by decide) (pay_of (W' := 1) (rCN l hw X670.ext b670 i0 i1 (1 : Int64) A670 F_records_b670 F_written_b670 F_damaged_b670 F_fault_b670 n_b670) C.hZ (wd hw 5 rfl) (wd hw 2 rfl) (by decide) (by decide)) pd_24 rfl rfl _ rfl (Nat.le_of_eq rfl) d0_150 (by decide) (by decide) (fun T671 h671 v671 q671 X671 => ?_)
            obtain ⟨rfl, K671, F0_671, F1_671, F2_671⟩ := q671
            show Goes p e below _ T671 (mkF m 153 #[.val (.long i0), .second, .val (.long i1), .second, .val (.long i2), .second, .val (.int i3), .val (.int 0), .val (.int 0), .val (.int 0), .val (.long i1), .second, .val (.long 1), .second, .val .null, .val (.int 0), .unset] [(.ref b670)])
            refine g_astore C X671 d0_153 rfl (l' := #[.val (.long i0), .second, .val (.long i1), .second, .val (.long i2), .second, .val (.int i3), .val (.int 0), .val (.int 0), .val (.int 0), .val (.long i1), .second, .val (.long 1), .second, .val .null, .val (.int 0), .val (.ref b670)]) rfl ?_
            refine g_aload C X671 d0_155 rfl rfl ?_
            have f673 := (Exa.keep A670 K671)
            refine g_virtualP (argsL := []) (st := []) C X671 (wd hw 22 rfl) (wd hw 23 rfl) (nf_of C (wd hw 25 rfl) rfl rfl) (wd hw 25 rfl) (wd hw 24 rfl) (by decide) f673 (pay_of (W' := 0) (rWa l hw X671.ext b670 i0 i1 (1 : Int64) F0_671 F1_671 F2_671 (by decide)) C.hZ (wd hw 26 rfl) (wd hw 2 rfl) (by decide) (by decide)) pd_11 rfl rfl _ rfl (Nat.le_of_eq rfl) d0_157 (by decide) (by decide) (fun T672 X672 => ?_)
            refine g_iload C X672 d0_160 rfl ?_
            refine g_icmpn (hI_ne _ _) C X672 d0_162 (fun q => absurd (by decide) q) (fun _ => ?_)
            refine g_iconst 1 C X672 d0_165 rfl ?_
            refine g_goto C X672 d0_166 ?_
            have sz674 : h.size ≤ b670 := by rw [g_b670]; exact (Keep.refl h []).1
            have kp675 := (Keep.refl h []).ext E670
            have kp676 := kp675.trans K671 (allS (Or.inr sz674) all0)
            exact goes_X I0.1 kp676.1 (g_retN C X672 (by simp) d0_170 (1 : Int32) rfl (by decide) (by decide) ⟨rfl, rfl⟩)
          · refine g_lload C X0 d0_88 rfl ?_
            refine g_lstore C X0 d0_90 (l' := #[.val (.long i0), .second, .val (.long i1), .second, .val (.long i2), .second, .val (.int i3), .val (.int 0), .val (.int 0), .val (.int 0), .val (.long i1), .second, .val (.long i2), .second, .unset, .unset, .unset]) rfl ?_
            refine g_goto C X0 d0_92 ?_
            refine g_aconst_null C X0 d0_98 ?_
            refine g_astore C X0 d0_99 rfl (l' := #[.val (.long i0), .second, .val (.long i1), .second, .val (.long i2), .second, .val (.int i3), .val (.int 0), .val (.int 0), .val (.int 0), .val (.long i1), .second, .val (.long i2), .second, .val .null, .unset, .unset]) rfl ?_
            refine g_iload C X0 d0_101 rfl ?_
            refine g_if (h0_eq _) C X0 d0_103 (fun _ => ?_) (fun q => absurd (by decide) q)
            refine g_iload C X0 d0_122 rfl ?_
            refine g_if (h0_eq _) C X0 d0_124 (fun _ => ?_) (fun q => absurd (by decide) q)
            refine g_iconst 0 C X0 d0_136 rfl ?_
            refine g_istore C X0 d0_137 (l' := #[.val (.long i0), .second, .val (.long i1), .second, .val (.long i2), .second, .val (.int i3), .val (.int 0), .val (.int 0), .val (.int 0), .val (.long i1), .second, .val (.long i2), .second, .val .null, .val (.int 0), .unset]) rfl ?_
            refine g_new C X0 (wd hw 0 rfl) (wd hw 1 rfl) (wd hw 2 rfl) d0_139 (by decide) (by decide) (fun T677 h677 b677 g_b677 n_b677 X677 E677 A677 D677 M677 => ?_)
            have F_records_b677 : Fld Z h677 b677 "com/example/chapeau/chapeau/io/CopyReport" "records" "J" (.long 0) := D677 (Or.inr (wd hw 15 rfl)) (ty := .long) (by decide)
            have F_written_b677 : Fld Z h677 b677 "com/example/chapeau/chapeau/io/CopyReport" "written" "J" (.long 0) := D677 (Or.inr (wd hw 17 rfl)) (ty := .long) (by decide)
            have F_damaged_b677 : Fld Z h677 b677 "com/example/chapeau/chapeau/io/CopyReport" "damaged" "J" (.long 0) := D677 (Or.inr (wd hw 19 rfl)) (ty := .long) (by decide)
            have F_fault_b677 : Fld Z h677 b677 "com/example/chapeau/chapeau/io/CopyReport" "fault" "Lcom/example/chapeau/chapeau/io/MalformedXmlException;" .null := D677 (Or.inr (wd hw 21 rfl)) (ty := (.object "com/example/chapeau/chapeau/io/MalformedXmlException")) (by decide)
            refine g_dup C X677 d0_142 rfl ?_
            refine g_lloadN C X677 d0_143 rfl ?_
            refine g_lload C X677 d0_144 rfl ?_
            refine g_lload C X677 d0_146 rfl ?_
            refine g_aload C X677 d0_148 rfl rfl ?_
            refine g_special (argsL := [(.long i0), (.long i1), (.long i2), .null]) (st := [(.ref b677)]) C X677 rfl (wd hw 3 rfl) (wd hw 4 rfl) (wd hw 5 rfl) (by decide) (pay_of (W' := 1) (rCN l hw X677.ext b677 i0 i1 i2 A677 F_records_b677 F_written_b677 F_damaged_b677 F_fault_b677 n_b677) C.hZ (wd hw 5 rfl) (wd hw 2 rfl) (by decide) (by decide)) pd_24 rfl rfl _ rfl (Nat.le_of_eq rfl) d0_150 (by decide) (by decide) (fun T678 h678 v678 q678 X678 => ?_)
            obtain ⟨rfl, K678, F0_678, F1_678, F2_678⟩ := q678
            show Goes p e below _ T678 (mkF m 153 #[.val (.long i0), .second, .val (.long i1), .second, .val (.long i2), .second, .val (.int i3), .val (.int 0), .val (.int 0), .val (.int 0), .val (.long i1), .second, .val (.long i2), .second, .val .null, .val (.int 0), .unset] [(.ref b677)])
            refine g_astore C X678 d0_153 rfl (l' := #[.val (.long i0), .second, .val (.long i1), .second, .val (.long i2), .second, .val (.int i3), .val (.int 0), .val (.int 0), .val (.int 0), .val (.long i1), .second, .val (.long i2), .second, .val .null, .val (.int 0), .val (.ref b677)]) rfl ?_
            refine g_aload C X678 d0_155 rfl rfl ?_
            have f680 := (Exa.keep A677 K678)
            refine g_virtualP (argsL := []) (st := []) C X678 (wd hw 22 rfl) (wd hw 23 rfl) (nf_of C (wd hw 25 rfl) rfl rfl) (wd hw 25 rfl) (wd hw 24 rfl) (by decide) f680 (pay_of (W' := 0) (rWa l hw X678.ext b677 i0 i1 i2 F0_678 F1_678 F2_678 c85_669) C.hZ (wd hw 26 rfl) (wd hw 2 rfl) (by decide) (by decide)) pd_11 rfl rfl _ rfl (Nat.le_of_eq rfl) d0_157 (by decide) (by decide) (fun T679 X679 => ?_)
            refine g_iload C X679 d0_160 rfl ?_
            refine g_icmpn (hI_ne _ _) C X679 d0_162 (fun q => absurd (by decide) q) (fun _ => ?_)
            refine g_iconst 1 C X679 d0_165 rfl ?_
            refine g_goto C X679 d0_166 ?_
            have sz681 : h.size ≤ b677 := by rw [g_b677]; exact (Keep.refl h []).1
            have kp682 := (Keep.refl h []).ext E677
            have kp683 := kp682.trans K678 (allS (Or.inr sz681) all0)
            exact goes_X I0.1 kp683.1 (g_retN C X679 (by simp) d0_170 (1 : Int32) rfl (by decide) (by decide) ⟨rfl, rfl⟩)
      · refine g_iconst 1 C X0 d0_35 rfl ?_
        refine g_goto C X0 d0_36 ?_
        refine g_istore C X0 d0_40 (l' := #[.val (.long i0), .second, .val (.long i1), .second, .val (.long i2), .second, .val (.int i3), .val (.int 0), .val (.int 0), .val (.int 1), .unset, .unset, .unset, .unset, .unset, .unset, .unset]) rfl ?_
        refine g_iload C X0 d0_42 rfl ?_
        refine g_if (h0_eq _) C X0 d0_44 (fun _ => ?_) (fun q => absurd (by decide) q)
        refine g_lloadN C X0 d0_53 rfl ?_
        refine g_lloadN C X0 d0_54 rfl ?_
        refine g_lcmp C X0 d0_55 ?_
        refine g_if (hL_eq _ _) C X0 d0_56 (fun c56_684 => ?_) (fun c56_684 => ?_)
        · refine g_lloadN C X0 d0_65 rfl ?_
          refine g_lconst 1 C X0 d0_66 rfl ?_
          refine g_lxor C X0 d0_67 ?_
          refine g_lstore C X0 d0_68 (l' := #[.val (.long i0), .second, .val (.long i1), .second, .val (.long i2), .second, .val (.int i3), .val (.int 0), .val (.int 0), .val (.int 1), .val (.long (i0 ^^^ (1 : Int64))), .second, .unset, .unset, .unset, .unset, .unset]) rfl ?_
          refine g_iload C X0 d0_70 rfl ?_
          refine g_if (h0_eq _) C X0 d0_72 (fun _ => ?_) (fun q => absurd (by decide) q)
          refine g_lload C X0 d0_81 rfl ?_
          refine g_lconst 0 C X0 d0_83 rfl ?_
          refine g_lcmp C X0 d0_84 ?_
          refine g_if (hL_eq _ _) C X0 d0_85 (fun c85_685 => ?_) (fun c85_685 => ?_)
          · refine g_lconst 1 C X0 d0_95 rfl ?_
            refine g_lstore C X0 d0_96 (l' := #[.val (.long i0), .second, .val (.long i1), .second, .val (.long i2), .second, .val (.int i3), .val (.int 0), .val (.int 0), .val (.int 1), .val (.long (i0 ^^^ (1 : Int64))), .second, .val (.long 1), .second, .unset, .unset, .unset]) rfl ?_
            refine g_aconst_null C X0 d0_98 ?_
            refine g_astore C X0 d0_99 rfl (l' := #[.val (.long i0), .second, .val (.long i1), .second, .val (.long i2), .second, .val (.int i3), .val (.int 0), .val (.int 0), .val (.int 1), .val (.long (i0 ^^^ (1 : Int64))), .second, .val (.long 1), .second, .val .null, .unset, .unset]) rfl ?_
            refine g_iload C X0 d0_101 rfl ?_
            refine g_if (h0_eq _) C X0 d0_103 (fun q => absurd q (by decide)) (fun _ => ?_)
            refine g_new C X0 (wd hw 27 rfl) (wd hw 28 rfl) (wd hw 29 rfl) d0_106 (by decide) (by decide) (fun T686 h686 b686 g_b686 n_b686 X686 E686 A686 D686 M686 => ?_)
            have F_cause_b686 : Fld Z h686 b686 "java/lang/Throwable" "cause" "Ljava/lang/Throwable;" .null := D686 (Or.inl (wd hw 217 rfl)) (ty := (.object "java/lang/Throwable")) (by decide)
            have F_stackTrace_b686 : Fld Z h686 b686 "java/lang/Throwable" "stackTrace" "[Ljava/lang/StackTraceElement;" .null := D686 (Or.inl (wd hw 220 rfl)) (ty := (.array (.object "java/lang/StackTraceElement"))) (by decide)
            have F_suppressedExceptions_b686 : Fld Z h686 b686 "java/lang/Throwable" "suppressedExceptions" "Ljava/util/List;" .null := D686 (Or.inl (wd hw 223 rfl)) (ty := (.object "java/util/List")) (by decide)
            have F_detailMessage_b686 : Fld Z h686 b686 "java/lang/Throwable" "detailMessage" "Ljava/lang/String;" .null := D686 (Or.inl (wd hw 247 rfl)) (ty := (.object "java/lang/String")) (by decide)
            have F_backtrace_b686 : Fld Z h686 b686 "java/lang/Throwable" "backtrace" "Ljava/lang/Object;" .null := D686 (Or.inl (wd hw 248 rfl)) (ty := (.object "java/lang/Object")) (by decide)
            have F_depth_b686 : Fld Z h686 b686 "java/lang/Throwable" "depth" "I" (.int 0) := D686 (Or.inl (wd hw 249 rfl)) (ty := .int) (by decide)
            refine g_dup C X686 d0_109 rfl ?_
            refine g_lloadN C X686 d0_110 rfl ?_
            refine g_l2i C X686 d0_111 ?_
            refine g_lload C X686 d0_112 rfl ?_
            refine g_l2i C X686 d0_114 ?_
            have sz687 : h.size ≤ b686 := by rw [g_b686]; exact (Keep.refl h []).1
            have kp688 := (Keep.refl h []).ext E686
            have I689 := Lits.keep I0 kp688 sf0
            refine g_ldcs 4 C X686 I689 (own_wS hw) (own_EW hw) (by decide +kernel) (wd hw 30 rfl) (vs := [(.int 120)]) (z := 1) ⟨by decide +kernel, by decide +kernel⟩ (by decide) rfl (by decide) (by decide) d0_115 (by decide) (by decide) (fun a690 T690 h690 t690 k_t690 C X690 I690 R690 E690 EA690 FC690 FV690 VA690 N690 => ?_)
            have f691 := (Exa.ext E690 A686)
            have ne692 := N690 _ (Safe.exa C.hZ.alike f691 (by decide) (by decide))
            show Goes p e below _ T690 (mkF m 117 #[.val (.long i0), .second, .val (.long i1), .second, .val (.long i2), .second, .val (.int i3), .val (.int 0), .val (.int 0), .val (.int 1), .val (.long (i0 ^^^ (1 : Int64))), .second, .val (.long 1), .second, .val .null, .unset, .unset] [(.ref a690), (.int (i2.toInt32)), (.int (i1.toInt32)), (.ref b686), (.ref b686)])
            have f693 := (Fld.ext E690 F_cause_b686)
            have f694 := (Fld.ext E690 F_stackTrace_b686)
            have f695 := (Fld.ext E690 F_suppressedExceptions_b686)
            have f696 := (Fld.ext E690 F_backtrace_b686)
            have f697 := (Fld.ext E690 F_detailMessage_b686)
            refine g_specialX (argsL := [(.int (i1.toInt32)), (.int (i2.toInt32)), (.ref a690)]) (st := [(.ref b686)]) C X690 I690 rfl (wd hw 38 rfl) (wd hw 39 rfl) (wd hw 40 rfl) (by decide) (payX_of (W' := 1) (rEx l hw X690.ext b686 (i1.toInt32) (i2.toInt32) a690 z_ SZ hz o1 o2 S1 S2 D1 D2 u0 u1 SU SV ru0 ru1 hl f691 (Unt.ext E690 M686) n_b686 f693 f694 f695 f696 f697 t690 (1 : Int32) EA690 FC690 FV690 (ByS.of VA690) rfl) C.hZ (wd hw 40 rfl) (wd hw 29 rfl) (by decide) (by decide) (own_EW hw) I690 (fun _ q => nomatch q) hKn) pd_25 rfl rfl _ rfl (Nat.le_of_eq rfl) d0_117 (by decide) (by decide) (fun T698 h698 v698 q698 C X698 I698 => ?_)
            subst q698
            show Goes p e below _ T698 (mkF m 120 #[.val (.long i0), .second, .val (.long i1), .second, .val (.long i2), .second, .val (.int i3), .val (.int 0), .val (.int 0), .val (.int 1), .val (.long (i0 ^^^ (1 : Int64))), .second, .val (.long 1), .second, .val .null, .unset, .unset] [(.ref b686)])
            refine g_astore C X698 d0_120 rfl (l' := #[.val (.long i0), .second, .val (.long i1), .second, .val (.long i2), .second, .val (.int i3), .val (.int 0), .val (.int 0), .val (.int 1), .val (.long (i0 ^^^ (1 : Int64))), .second, .val (.long 1), .second, .val (.ref b686), .unset, .unset]) rfl ?_
            refine g_iload C X698 d0_122 rfl ?_
            refine g_if (h0_eq _) C X698 d0_124 (fun _ => ?_) (fun q => absurd (by decide) q)
            refine g_iconst 0 C X698 d0_136 rfl ?_
            refine g_istore C X698 d0_137 (l' := #[.val (.long i0), .second, .val (.long i1), .second, .val (.long i2), .second, .val (.int i3), .val (.int 0), .val (.int 0), .val (.int 1), .val (.long (i0 ^^^ (1 : Int64))), .second, .val (.long 1), .second, .val (.ref b686), .val (.int 0), .unset]) rfl ?_
            refine g_new C X698 (wd hw 0 rfl) (wd hw 1 rfl) (wd hw 2 rfl) d0_139 (by decide) (by decide) (fun T699 h699 b699 g_b699 n_b699 X699 E699 A699 D699 M699 => ?_)
            have F_records_b699 : Fld Z h699 b699 "com/example/chapeau/chapeau/io/CopyReport" "records" "J" (.long 0) := D699 (Or.inr (wd hw 15 rfl)) (ty := .long) (by decide)
            have F_written_b699 : Fld Z h699 b699 "com/example/chapeau/chapeau/io/CopyReport" "written" "J" (.long 0) := D699 (Or.inr (wd hw 17 rfl)) (ty := .long) (by decide)
            have F_damaged_b699 : Fld Z h699 b699 "com/example/chapeau/chapeau/io/CopyReport" "damaged" "J" (.long 0) := D699 (Or.inr (wd hw 19 rfl)) (ty := .long) (by decide)
            have F_fault_b699 : Fld Z h699 b699 "com/example/chapeau/chapeau/io/CopyReport" "fault" "Lcom/example/chapeau/chapeau/io/MalformedXmlException;" .null := D699 (Or.inr (wd hw 21 rfl)) (ty := (.object "com/example/chapeau/chapeau/io/MalformedXmlException")) (by decide)
            refine g_dup C X699 d0_142 rfl ?_
            refine g_lloadN C X699 d0_143 rfl ?_
            refine g_lload C X699 d0_144 rfl ?_
            refine g_lload C X699 d0_146 rfl ?_
            refine g_aload C X699 d0_148 rfl rfl ?_
            refine g_special (argsL := [(.long i0), (.long (i0 ^^^ (1 : Int64))), (.long 1), (.ref b686)]) (st := [(.ref b699)]) C X699 rfl (wd hw 3 rfl) (wd hw 4 rfl) (wd hw 5 rfl) (by decide) (pay_of (W' := 1) (rCF l hw X699.ext b699 i0 (i0 ^^^ (1 : Int64)) (1 : Int64) b686 A699 F_records_b699 F_written_b699 F_damaged_b699 F_fault_b699 n_b699) C.hZ (wd hw 5 rfl) (wd hw 2 rfl) (by decide) (by decide)) pd_24 rfl rfl _ rfl (Nat.le_of_eq rfl) d0_150 (by decide) (by decide) (fun T700 h700 v700 q700 X700 => ?_)
            obtain ⟨rfl, K700, F0_700, F1_700, F2_700⟩ := q700
            show Goes p e below _ T700 (mkF m 153 #[.val (.long i0), .second, .val (.long i1), .second, .val (.long i2), .second, .val (.int i3), .val (.int 0), .val (.int 0), .val (.int 1), .val (.long (i0 ^^^ (1 : Int64))), .second, .val (.long 1), .second, .val (.ref b686), .val (.int 0), .unset] [(.ref b699)])
            refine g_astore C X700 d0_153 rfl (l' := #[.val (.long i0), .second, .val (.long i1), .second, .val (.long i2), .second, .val (.int i3), .val (.int 0), .val (.int 0), .val (.int 1), .val (.long (i0 ^^^ (1 : Int64))), .second, .val (.long 1), .second, .val (.ref b686), .val (.int 0), .val (.ref b699)]) rfl ?_
            refine g_aload C X700 d0_155 rfl rfl ?_
            have f702 := (Exa.keep A699 K700)
            refine g_virtualP (argsL := []) (st := []) C X700 (wd hw 22 rfl) (wd hw 23 rfl) (nf_of C (wd hw 25 rfl) rfl rfl) (wd hw 25 rfl) (wd hw 24 rfl) (by decide) f702 (pay_of (W' := 0) (rWa l hw X700.ext b699 i0 (i0 ^^^ (1 : Int64)) (1 : Int64) F0_700 F1_700 F2_700 (by decide)) C.hZ (wd hw 26 rfl) (wd hw 2 rfl) (by decide) (by decide)) pd_11 rfl rfl _ rfl (Nat.le_of_eq rfl) d0_157 (by decide) (by decide) (fun T701 X701 => ?_)
            refine g_iload C X701 d0_160 rfl ?_
            refine g_icmpn (hI_ne _ _) C X701 d0_162 (fun q => absurd (by decide) q) (fun _ => ?_)
            refine g_iconst 1 C X701 d0_165 rfl ?_
            refine g_goto C X701 d0_166 ?_
            have sz703 : h698.size ≤ b699 := by rw [g_b699]; exact (Keep.refl h698 []).1
            have kp704 := (Keep.refl h698 []).ext E699
            have kp705 := kp704.trans K700 (allS (Or.inr sz703) all0)
            exact goes_X I698 kp705.1 (g_retN C X701 (by simp) d0_170 (1 : Int32) rfl (by decide) (by decide) ⟨rfl, rfl⟩)
          · refine g_lload C X0 d0_88 rfl ?_
            refine g_lstore C X0 d0_90 (l' := #[.val (.long i0), .second, .val (.long i1), .second, .val (.long i2), .second, .val (.int i3), .val (.int 0), .val (.int 0), .val (.int 1), .val (.long (i0 ^^^ (1 : Int64))), .second, .val (.long i2), .second, .unset, .unset, .unset]) rfl ?_
            refine g_goto C X0 d0_92 ?_
            refine g_aconst_null C X0 d0_98 ?_
            refine g_astore C X0 d0_99 rfl (l' := #[.val (.long i0), .second, .val (.long i1), .second, .val (.long i2), .second, .val (.int i3), .val (.int 0), .val (.int 0), .val (.int 1), .val (.long (i0 ^^^ (1 : Int64))), .second, .val (.long i2), .second, .val .null, .unset, .unset]) rfl ?_
            refine g_iload C X0 d0_101 rfl ?_
            refine g_if (h0_eq _) C X0 d0_103 (fun q => absurd q (by decide)) (fun _ => ?_)
            refine g_new C X0 (wd hw 27 rfl) (wd hw 28 rfl) (wd hw 29 rfl) d0_106 (by decide) (by decide) (fun T706 h706 b706 g_b706 n_b706 X706 E706 A706 D706 M706 => ?_)
            have F_cause_b706 : Fld Z h706 b706 "java/lang/Throwable" "cause" "Ljava/lang/Throwable;" .null := D706 (Or.inl (wd hw 217 rfl)) (ty := (.object "java/lang/Throwable")) (by decide)
            have F_stackTrace_b706 : Fld Z h706 b706 "java/lang/Throwable" "stackTrace" "[Ljava/lang/StackTraceElement;" .null := D706 (Or.inl (wd hw 220 rfl)) (ty := (.array (.object "java/lang/StackTraceElement"))) (by decide)
            have F_suppressedExceptions_b706 : Fld Z h706 b706 "java/lang/Throwable" "suppressedExceptions" "Ljava/util/List;" .null := D706 (Or.inl (wd hw 223 rfl)) (ty := (.object "java/util/List")) (by decide)
            have F_detailMessage_b706 : Fld Z h706 b706 "java/lang/Throwable" "detailMessage" "Ljava/lang/String;" .null := D706 (Or.inl (wd hw 247 rfl)) (ty := (.object "java/lang/String")) (by decide)
            have F_backtrace_b706 : Fld Z h706 b706 "java/lang/Throwable" "backtrace" "Ljava/lang/Object;" .null := D706 (Or.inl (wd hw 248 rfl)) (ty := (.object "java/lang/Object")) (by decide)
            have F_depth_b706 : Fld Z h706 b706 "java/lang/Throwable" "depth" "I" (.int 0) := D706 (Or.inl (wd hw 249 rfl)) (ty := .int) (by decide)
            refine g_dup C X706 d0_109 rfl ?_
            refine g_lloadN C X706 d0_110 rfl ?_
            refine g_l2i C X706 d0_111 ?_
            refine g_lload C X706 d0_112 rfl ?_
            refine g_l2i C X706 d0_114 ?_
            have sz707 : h.size ≤ b706 := by rw [g_b706]; exact (Keep.refl h []).1
            have kp708 := (Keep.refl h []).ext E706
            have I709 := Lits.keep I0 kp708 sf0
            refine g_ldcs 4 C X706 I709 (own_wS hw) (own_EW hw) (by decide +kernel) (wd hw 30 rfl) (vs := [(.int 120)]) (z := 1) ⟨by decide +kernel, by decide +kernel⟩ (by decide) rfl (by decide) (by decide) d0_115 (by decide) (by decide) (fun a710 T710 h710 t710 k_t710 C X710 I710 R710 E710 EA710 FC710 FV710 VA710 N710 => ?_)
            have f711 := (Exa.ext E710 A706)
            have ne712 := N710 _ (Safe.exa C.hZ.alike f711 (by decide) (by decide))
            show Goes p e below _ T710 (mkF m 117 #[.val (.long i0), .second, .val (.long i1), .second, .val (.long i2), .second, .val (.int i3), .val (.int 0), .val (.int 0), .val (.int 1), .val (.long (i0 ^^^ (1 : Int64))), .second, .val (.long i2), .second, .val .null, .unset, .unset] [(.ref a710), (.int (i2.toInt32)), (.int (i1.toInt32)), (.ref b706), (.ref b706)])
            have f713 := (Fld.ext E710 F_cause_b706)
            have f714 := (Fld.ext E710 F_stackTrace_b706)
            have f715 := (Fld.ext E710 F_suppressedExceptions_b706)
            have f716 := (Fld.ext E710 F_backtrace_b706)
            have f717 := (Fld.ext E710 F_detailMessage_b706)
            refine g_specialX (argsL := [(.int (i1.toInt32)), (.int (i2.toInt32)), (.ref a710)]) (st := [(.ref b706)]) C X710 I710 rfl (wd hw 38 rfl) (wd hw 39 rfl) (wd hw 40 rfl) (by decide) (payX_of (W' := 1) (rEx l hw X710.ext b706 (i1.toInt32) (i2.toInt32) a710 z_ SZ hz o1 o2 S1 S2 D1 D2 u0 u1 SU SV ru0 ru1 hl f711 (Unt.ext E710 M706) n_b706 f713 f714 f715 f716 f717 t710 (1 : Int32) EA710 FC710 FV710 (ByS.of VA710) rfl) C.hZ (wd hw 40 rfl) (wd hw 29 rfl) (by decide) (by decide) (own_EW hw) I710 (fun _ q => nomatch q) hKn) pd_25 rfl rfl _ rfl (Nat.le_of_eq rfl) d0_117 (by decide) (by decide) (fun T718 h718 v718 q718 C X718 I718 => ?_)
            subst q718
            show Goes p e below _ T718 (mkF m 120 #[.val (.long i0), .second, .val (.long i1), .second, .val (.long i2), .second, .val (.int i3), .val (.int 0), .val (.int 0), .val (.int 1), .val (.long (i0 ^^^ (1 : Int64))), .second, .val (.long i2), .second, .val .null, .unset, .unset] [(.ref b706)])
            refine g_astore C X718 d0_120 rfl (l' := #[.val (.long i0), .second, .val (.long i1), .second, .val (.long i2), .second, .val (.int i3), .val (.int 0), .val (.int 0), .val (.int 1), .val (.long (i0 ^^^ (1 : Int64))), .second, .val (.long i2), .second, .val (.ref b706), .unset, .unset]) rfl ?_
            refine g_iload C X718 d0_122 rfl ?_
            refine g_if (h0_eq _) C X718 d0_124 (fun _ => ?_) (fun q => absurd (by decide) q)
            refine g_iconst 0 C X718 d0_136 rfl ?_
            refine g_istore C X718 d0_137 (l' := #[.val (.long i0), .second, .val (.long i1), .second, .val (.long i2), .second, .val (.int i3), .val (.int 0), .val (.int 0), .val (.int 1), .val (.long (i0 ^^^ (1 : Int64))), .second, .val (.long i2), .second, .val (.ref b706), .val (.int 0), .unset]) rfl ?_
            refine g_new C X718 (wd hw 0 rfl) (wd hw 1 rfl) (wd hw 2 rfl) d0_139 (by decide) (by decide) (fun T719 h719 b719 g_b719 n_b719 X719 E719 A719 D719 M719 => ?_)
            have F_records_b719 : Fld Z h719 b719 "com/example/chapeau/chapeau/io/CopyReport" "records" "J" (.long 0) := D719 (Or.inr (wd hw 15 rfl)) (ty := .long) (by decide)
            have F_written_b719 : Fld Z h719 b719 "com/example/chapeau/chapeau/io/CopyReport" "written" "J" (.long 0) := D719 (Or.inr (wd hw 17 rfl)) (ty := .long) (by decide)
            have F_damaged_b719 : Fld Z h719 b719 "com/example/chapeau/chapeau/io/CopyReport" "damaged" "J" (.long 0) := D719 (Or.inr (wd hw 19 rfl)) (ty := .long) (by decide)
            have F_fault_b719 : Fld Z h719 b719 "com/example/chapeau/chapeau/io/CopyReport" "fault" "Lcom/example/chapeau/chapeau/io/MalformedXmlException;" .null := D719 (Or.inr (wd hw 21 rfl)) (ty := (.object "com/example/chapeau/chapeau/io/MalformedXmlException")) (by decide)
            refine g_dup C X719 d0_142 rfl ?_
            refine g_lloadN C X719 d0_143 rfl ?_
            refine g_lload C X719 d0_144 rfl ?_
            refine g_lload C X719 d0_146 rfl ?_
            refine g_aload C X719 d0_148 rfl rfl ?_
            refine g_special (argsL := [(.long i0), (.long (i0 ^^^ (1 : Int64))), (.long i2), (.ref b706)]) (st := [(.ref b719)]) C X719 rfl (wd hw 3 rfl) (wd hw 4 rfl) (wd hw 5 rfl) (by decide) (pay_of (W' := 1) (rCF l hw X719.ext b719 i0 (i0 ^^^ (1 : Int64)) i2 b706 A719 F_records_b719 F_written_b719 F_damaged_b719 F_fault_b719 n_b719) C.hZ (wd hw 5 rfl) (wd hw 2 rfl) (by decide) (by decide)) pd_24 rfl rfl _ rfl (Nat.le_of_eq rfl) d0_150 (by decide) (by decide) (fun T720 h720 v720 q720 X720 => ?_)
            obtain ⟨rfl, K720, F0_720, F1_720, F2_720⟩ := q720
            show Goes p e below _ T720 (mkF m 153 #[.val (.long i0), .second, .val (.long i1), .second, .val (.long i2), .second, .val (.int i3), .val (.int 0), .val (.int 0), .val (.int 1), .val (.long (i0 ^^^ (1 : Int64))), .second, .val (.long i2), .second, .val (.ref b706), .val (.int 0), .unset] [(.ref b719)])
            refine g_astore C X720 d0_153 rfl (l' := #[.val (.long i0), .second, .val (.long i1), .second, .val (.long i2), .second, .val (.int i3), .val (.int 0), .val (.int 0), .val (.int 1), .val (.long (i0 ^^^ (1 : Int64))), .second, .val (.long i2), .second, .val (.ref b706), .val (.int 0), .val (.ref b719)]) rfl ?_
            refine g_aload C X720 d0_155 rfl rfl ?_
            have f722 := (Exa.keep A719 K720)
            refine g_virtualP (argsL := []) (st := []) C X720 (wd hw 22 rfl) (wd hw 23 rfl) (nf_of C (wd hw 25 rfl) rfl rfl) (wd hw 25 rfl) (wd hw 24 rfl) (by decide) f722 (pay_of (W' := 0) (rWa l hw X720.ext b719 i0 (i0 ^^^ (1 : Int64)) i2 F0_720 F1_720 F2_720 c85_685) C.hZ (wd hw 26 rfl) (wd hw 2 rfl) (by decide) (by decide)) pd_11 rfl rfl _ rfl (Nat.le_of_eq rfl) d0_157 (by decide) (by decide) (fun T721 X721 => ?_)
            refine g_iload C X721 d0_160 rfl ?_
            refine g_icmpn (hI_ne _ _) C X721 d0_162 (fun q => absurd (by decide) q) (fun _ => ?_)
            refine g_iconst 1 C X721 d0_165 rfl ?_
            refine g_goto C X721 d0_166 ?_
            have sz723 : h718.size ≤ b719 := by rw [g_b719]; exact (Keep.refl h718 []).1
            have kp724 := (Keep.refl h718 []).ext E719
            have kp725 := kp724.trans K720 (allS (Or.inr sz723) all0)
            exact goes_X I718 kp725.1 (g_retN C X721 (by simp) d0_170 (1 : Int32) rfl (by decide) (by decide) ⟨rfl, rfl⟩)
        · refine g_lloadN C X0 d0_59 rfl ?_
          refine g_lstore C X0 d0_60 (l' := #[.val (.long i0), .second, .val (.long i1), .second, .val (.long i2), .second, .val (.int i3), .val (.int 0), .val (.int 0), .val (.int 1), .val (.long i1), .second, .unset, .unset, .unset, .unset, .unset]) rfl ?_
          refine g_goto C X0 d0_62 ?_
          refine g_iload C X0 d0_70 rfl ?_
          refine g_if (h0_eq _) C X0 d0_72 (fun _ => ?_) (fun q => absurd (by decide) q)
          refine g_lload C X0 d0_81 rfl ?_
          refine g_lconst 0 C X0 d0_83 rfl ?_
          refine g_lcmp C X0 d0_84 ?_
          refine g_if (hL_eq _ _) C X0 d0_85 (fun c85_726 => ?_) (fun c85_726 => ?_)
          · refine g_lconst 1 C X0 d0_95 rfl ?_
            refine g_lstore C X0 d0_96 (l' := #[.val (.long i0), .second, .val (.long i1), .second, .val (.long i2), .second, .val (.int i3), .val (.int 0), .val (.int 0), .val (.int 1), .val (.long i1), .second, .val (.long 1), .second, .unset, .unset, .unset]) rfl ?_
            refine g_aconst_null C X0 d0_98 ?_
            refine g_astore C X0 d0_99 rfl (l' := #[.val (.long i0), .second, .val (.long i1), .second, .val (.long i2), .second, .val (.int i3), .val (.int 0), .val (.int 0), .val (.int 1), .val (.long i1), .second, .val (.long 1), .second, .val .null, .unset, .unset]) rfl ?_
            refine g_iload C X0 d0_101 rfl ?_
            refine g_if (h0_eq _) C X0 d0_103 (fun q => absurd q (by decide)) (fun _ => ?_)
            refine g_new C X0 (wd hw 27 rfl) (wd hw 28 rfl) (wd hw 29 rfl) d0_106 (by decide) (by decide) (fun T727 h727 b727 g_b727 n_b727 X727 E727 A727 D727 M727 => ?_)
            have F_cause_b727 : Fld Z h727 b727 "java/lang/Throwable" "cause" "Ljava/lang/Throwable;" .null := D727 (Or.inl (wd hw 217 rfl)) (ty := (.object "java/lang/Throwable")) (by decide)
            have F_stackTrace_b727 : Fld Z h727 b727 "java/lang/Throwable" "stackTrace" "[Ljava/lang/StackTraceElement;" .null := D727 (Or.inl (wd hw 220 rfl)) (ty := (.array (.object "java/lang/StackTraceElement"))) (by decide)
            have F_suppressedExceptions_b727 : Fld Z h727 b727 "java/lang/Throwable" "suppressedExceptions" "Ljava/util/List;" .null := D727 (Or.inl (wd hw 223 rfl)) (ty := (.object "java/util/List")) (by decide)
            have F_detailMessage_b727 : Fld Z h727 b727 "java/lang/Throwable" "detailMessage" "Ljava/lang/String;" .null := D727 (Or.inl (wd hw 247 rfl)) (ty := (.object "java/lang/String")) (by decide)
            have F_backtrace_b727 : Fld Z h727 b727 "java/lang/Throwable" "backtrace" "Ljava/lang/Object;" .null := D727 (Or.inl (wd hw 248 rfl)) (ty := (.object "java/lang/Object")) (by decide)
            have F_depth_b727 : Fld Z h727 b727 "java/lang/Throwable" "depth" "I" (.int 0) := D727 (Or.inl (wd hw 249 rfl)) (ty := .int) (by decide)
            refine g_dup C X727 d0_109 rfl ?_
            refine g_lloadN C X727 d0_110 rfl ?_
            refine g_l2i C X727 d0_111 ?_
            refine g_lload C X727 d0_112 rfl ?_
            refine g_l2i C X727 d0_114 ?_
            have sz728 : h.size ≤ b727 := by rw [g_b727]; exact (Keep.refl h []).1
            have kp729 := (Keep.refl h []).ext E727
            have I730 := Lits.keep I0 kp729 sf0
            refine g_ldcs 4 C X727 I730 (own_wS hw) (own_EW hw) (by decide +kernel) (wd hw 30 rfl) (vs := [(.int 120)]) (z := 1) ⟨by decide +kernel, by decide +kernel⟩ (by decide) rfl (by decide) (by decide) d0_115 (by decide) (by decide) (fun a731 T731 h731 t731 k_t731 C X731 I731 R731 E731 EA731 FC731 FV731 VA731 N731 => ?_)
            have f732 := (Exa.ext E731 A727)
            have ne733 := N731 _ (Safe.exa C.hZ.alike f732 (by decide) (by decide))
            show Goes p e below _ T731 (mkF m 117 #[.val (.long i0), .second, .val (.long i1), .second, .val (.long i2), .second, .val (.int i3), .val (.int 0), .val (.int 0), .val (.int 1), .val (.long i1), .second, .val (.long 1), .second, .val .null, .unset, .unset] [(.ref a731), (.int (i2.toInt32)), (.int (i1.toInt32)), (.ref b727), (.ref b727)])
            have f734 := (Fld.ext E731 F_cause_b727)
            have f735 := (Fld.ext E731 F_stackTrace_b727)
            have f736 := (Fld.ext E731 F_suppressedExceptions_b727)
            have f737 := (Fld.ext E731 F_backtrace_b727)
            have f738 := (Fld.ext E731 F_detailMessage_b727)
            refine g_specialX (argsL := [(.int (i1.toInt32)), (.int (i2.toInt32)), (.ref a731)]) (st := [(.ref b727)]) C X731 I731 rfl (wd hw 38 rfl) (wd hw 39 rfl) (wd hw 40 rfl) (by decide) (payX_of (W' := 1) (rEx l hw X731.ext b727 (i1.toInt32) (i2.toInt32) a731 z_ SZ hz o1 o2 S1 S2 D1 D2 u0 u1 SU SV ru0 ru1 hl f732 (Unt.ext E731 M727) n_b727 f734 f735 f736 f737 f738 t731 (1 : Int32) EA731 FC731 FV731 (ByS.of VA731) rfl) C.hZ (wd hw 40 rfl) (wd hw 29 rfl) (by decide) (by decide) (own_EW hw) I731 (fun _ q => nomatch q) hKn) pd_25 rfl rfl _ rfl (Nat.le_of_eq rfl) d0_117 (by decide) (by decide) (fun T739 h739 v739 q739 C X739 I739 => ?_)
            subst q739
            show Goes p e below _ T739 (mkF m 120 #[.val (.long i0), .second, .val (.long i1), .second, .val (.long i2), .second, .val (.int i3), .val (.int 0), .val (.int 0), .val (.int 1), .val (.long i1), .second, .val (.long 1), .second, .val .null, .unset, .unset] [(.ref b727)])
            refine g_astore C X739 d0_120 rfl (l' := #[.val (.long i0), .second, .val (.long i1), .second, .val (.long i2), .second, .val (.int i3), .val (.int 0), .val (.int 0), .val (.int 1), .val (.long i1), .second, .val (.long 1), .second, .val (.ref b727), .unset, .unset]) rfl ?_
            refine g_iload C X739 d0_122 rfl ?_
            refine g_if (h0_eq _) C X739 d0_124 (fun _ => ?_) (fun q => absurd (by decide) q)
            refine g_iconst 0 C X739 d0_136 rfl ?_
            refine g_istore C X739 d0_137 (l' := #[.val (.long i0), .second, .val (.long i1), .second, .val (.long i2), .second, .val (.int i3), .val (.int 0), .val (.int 0), .val (.int 1), .val (.long i1), .second, .val (.long 1), .second, .val (.ref b727), .val (.int 0), .unset]) rfl ?_
            refine g_new C X739 (wd hw 0 rfl) (wd hw 1 rfl) (wd hw 2 rfl) d0_139 (by decide) (by decide) (fun T740 h740 b740 g_b740 n_b740 X740 E740 A740 D740 M740 => ?_)
            have F_records_b740 : Fld Z h740 b740 "com/example/chapeau/chapeau/io/CopyReport" "records" "J" (.long 0) := D740 (Or.inr (wd hw 15 rfl)) (ty := .long) (by decide)
            have F_written_b740 : Fld Z h740 b740 "com/example/chapeau/chapeau/io/CopyReport" "written" "J" (.long 0) := D740 (Or.inr (wd hw 17 rfl)) (ty := .long) (by decide)
            have F_damaged_b740 : Fld Z h740 b740 "com/example/chapeau/chapeau/io/CopyReport" "damaged" "J" (.long 0) := D740 (Or.inr (wd hw 19 rfl)) (ty := .long) (by decide)
            have F_fault_b740 : Fld Z h740 b740 "com/example/chapeau/chapeau/io/CopyReport" "fault" "Lcom/example/chapeau/chapeau/io/MalformedXmlException;" .null := D740 (Or.inr (wd hw 21 rfl)) (ty := (.object "com/example/chapeau/chapeau/io/MalformedXmlException")) (by decide)
            refine g_dup C X740 d0_142 rfl ?_
            refine g_lloadN C X740 d0_143 rfl ?_
            refine g_lload C X740 d0_144 rfl ?_
            refine g_lload C X740 d0_146 rfl ?_
            refine g_aload C X740 d0_148 rfl rfl ?_
            refine g_special (argsL := [(.long i0), (.long i1), (.long 1), (.ref b727)]) (st := [(.ref b740)]) C X740 rfl (wd hw 3 rfl) (wd hw 4 rfl) (wd hw 5 rfl) (by decide) (pay_of (W' := 1) (rCF l hw X740.ext b740 i0 i1 (1 : Int64) b727 A740 F_records_b740 F_written_b740 F_damaged_b740 F_fault_b740 n_b740) C.hZ (wd hw 5 rfl) (wd hw 2 rfl) (by decide) (by decide)) pd_24 rfl rfl _ rfl (Nat.le_of_eq rfl) d0_150 (by decide) (by decide) (fun T741 h741 v741 q741 X741 => ?_)
            obtain ⟨rfl, K741, F0_741, F1_741, F2_741⟩ := q741
            show Goes p e below _ T741 (mkF m 153 #[.val (.long i0), .second, .val (.long i1), .second, .val (.long i2), .second, .val (.int i3), .val (.int 0), .val (.int 0), .val (.int 1), .val (.long i1), .second, .val (.long 1), .second, .val (.ref b727), .val (.int 0), .unset] [(.ref b740)])
            refine g_astore C X741 d0_153 rfl (l' := #[.val (.long i0), .second, .val (.long i1), .second, .val (.long i2), .second, .val (.int i3), .val (.int 0), .val (.int 0), .val (.int 1), .val (.long i1), .second, .val (.long 1), .second, .val (.ref b727), .val (.int 0), .val (.ref b740)]) rfl ?_
            refine g_aload C X741 d0_155 rfl rfl ?_
            have f743 := (Exa.keep A740 K741)
            refine g_virtualP (argsL := []) (st := []) C X741 (wd hw 22 rfl) (wd hw 23 rfl) (nf_of C (wd hw 25 rfl) rfl rfl) (wd hw 25 rfl) (wd hw 24 rfl) (by decide) f743 (pay_of (W' := 0) (rWa l hw X741.ext b740 i0 i1 (1 : Int64) F0_741 F1_741 F2_741 (by decide)) C.hZ (wd hw 26 rfl) (wd hw 2 rfl) (by decide) (by decide)) pd_11 rfl rfl _ rfl (Nat.le_of_eq rfl) d0_157 (by decide) (by decide) (fun T742 X742 => ?_)
            refine g_iload C X742 d0_160 rfl ?_
            refine g_icmpn (hI_ne _ _) C X742 d0_162 (fun q => absurd (by decide) q) (fun _ => ?_)
            refine g_iconst 1 C X742 d0_165 rfl ?_
            refine g_goto C X742 d0_166 ?_
            have sz744 : h739.size ≤ b740 := by rw [g_b740]; exact (Keep.refl h739 []).1
            have kp745 := (Keep.refl h739 []).ext E740
            have kp746 := kp745.trans K741 (allS (Or.inr sz744) all0)
            exact goes_X I739 kp746.1 (g_retN C X742 (by simp) d0_170 (1 : Int32) rfl (by decide) (by decide) ⟨rfl, rfl⟩)
          · refine g_lload C X0 d0_88 rfl ?_
            refine g_lstore C X0 d0_90 (l' := #[.val (.long i0), .second, .val (.long i1), .second, .val (.long i2), .second, .val (.int i3), .val (.int 0), .val (.int 0), .val (.int 1), .val (.long i1), .second, .val (.long i2), .second, .unset, .unset, .unset]) rfl ?_
            refine g_goto C X0 d0_92 ?_
            refine g_aconst_null C X0 d0_98 ?_
            refine g_astore C X0 d0_99 rfl (l' := #[.val (.long i0), .second, .val (.long i1), .second, .val (.long i2), .second, .val (.int i3), .val (.int 0), .val (.int 0), .val (.int 1), .val (.long i1), .second, .val (.long i2), .second, .val .null, .unset, .unset]) rfl ?_
            refine g_iload C X0 d0_101 rfl ?_
            refine g_if (h0_eq _) C X0 d0_103 (fun q => absurd q (by decide)) (fun _ => ?_)
            refine g_new C X0 (wd hw 27 rfl) (wd hw 28 rfl) (wd hw 29 rfl) d0_106 (by decide) (by decide) (fun T747 h747 b747 g_b747 n_b747 X747 E747 A747 D747 M747 => ?_)
            have F_cause_b747 : Fld Z h747 b747 "java/lang/Throwable" "cause" "Ljava/lang/Throwable;" .null := D747 (Or.inl (wd hw 217 rfl)) (ty := (.object "java/lang/Throwable")) (by decide)
            have F_stackTrace_b747 : Fld Z h747 b747 "java/lang/Throwable" "stackTrace" "[Ljava/lang/StackTraceElement;" .null := D747 (Or.inl (wd hw 220 rfl)) (ty := (.array (.object "java/lang/StackTraceElement"))) (by decide)
            have F_suppressedExceptions_b747 : Fld Z h747 b747 "java/lang/Throwable" "suppressedExceptions" "Ljava/util/List;" .null := D747 (Or.inl (wd hw 223 rfl)) (ty := (.object "java/util/List")) (by decide)
            have F_detailMessage_b747 : Fld Z h747 b747 "java/lang/Throwable" "detailMessage" "Ljava/lang/String;" .null := D747 (Or.inl (wd hw 247 rfl)) (ty := (.object "java/lang/String")) (by decide)
            have F_backtrace_b747 : Fld Z h747 b747 "java/lang/Throwable" "backtrace" "Ljava/lang/Object;" .null := D747 (Or.inl (wd hw 248 rfl)) (ty := (.object "java/lang/Object")) (by decide)
            have F_depth_b747 : Fld Z h747 b747 "java/lang/Throwable" "depth" "I" (.int 0) := D747 (Or.inl (wd hw 249 rfl)) (ty := .int) (by decide)
            refine g_dup C X747 d0_109 rfl ?_
            refine g_lloadN C X747 d0_110 rfl ?_
            refine g_l2i C X747 d0_111 ?_
            refine g_lload C X747 d0_112 rfl ?_
            refine g_l2i C X747 d0_114 ?_
            have sz748 : h.size ≤ b747 := by rw [g_b747]; exact (Keep.refl h []).1
            have kp749 := (Keep.refl h []).ext E747
            have I750 := Lits.keep I0 kp749 sf0
            refine g_ldcs 4 C X747 I750 (own_wS hw) (own_EW hw) (by decide +kernel) (wd hw 30 rfl) (vs := [(.int 120)]) (z := 1) ⟨by decide +kernel, by decide +kernel⟩ (by decide) rfl (by decide) (by decide) d0_115 (by decide) (by decide) (fun a751 T751 h751 t751 k_t751 C X751 I751 R751 E751 EA751 FC751 FV751 VA751 N751 => ?_)
            have f752 := (Exa.ext E751 A747)
            have ne753 := N751 _ (Safe.exa C.hZ.alike f752 (by decide) (by decide))
            show Goes p e below _ T751 (mkF m 117 #[.val (.long i0), .second, .val (.long i1), .second, .val (.long i2), .second, .val (.int i3), .val (.int 0), .val (.int 0), .val (.int 1), .val (.long i1), .second, .val (.long i2), .second, .val .null, .unset, .unset] [(.ref a751), (.int (i2.toInt32)), (.int (i1.toInt32)), (.ref b747), (.ref b747)])
            have f754 := (Fld.ext E751 F_cause_b747)
            have f755 := (Fld.ext E751 F_stackTrace_b747)
            have f756 := (Fld.ext E751 F_suppressedExceptions_b747)
            have f757 := (Fld.ext E751 F_backtrace_b747)
            have f758 := (Fld.ext E751 F_detailMessage_b747)
            refine g_specialX (argsL := [(.int (i1.toInt32)), (.int (i2.toInt32)), (.ref a751)]) (st := [(.ref b747)]) C X751 I751 rfl (wd hw 38 rfl) (wd hw 39 rfl) (wd hw 40 rfl) (by decide) (payX_of (W' := 1) (rEx l hw X751.ext b747 (i1.toInt32) (i2.toInt32) a751 z_ SZ hz o1 o2 S1 S2 D1 D2 u0 u1 SU SV ru0 ru1 hl f752 (Unt.ext E751 M747) n_b747 f754 f755 f756 f757 f758 t751 (1 : Int32) EA751 FC751 FV751 (ByS.of VA751) rfl) C.hZ (wd hw 40 rfl) (wd hw 29 rfl) (by decide) (by decide) (own_EW hw) I751 (fun _ q => nomatch q) hKn) pd_25 rfl rfl _ rfl (Nat.le_of_eq rfl) d0_117 (by decide) (by decide) (fun T759 h759 v759 q759 C X759 I759 => ?_)
            subst q759
            show Goes p e below _ T759 (mkF m 120 #[.val (.long i0), .second, .val (.long i1), .second, .val (.long i2), .second, .val (.int i3), .val (.int 0), .val (.int 0), .val (.int 1), .val (.long i1), .second, .val (.long i2), .second, .val .null, .unset, .unset] [(.ref b747)])
            refine g_astore C X759 d0_120 rfl (l' := #[.val (.long i0), .second, .val (.long i1), .second, .val (.long i2), .second, .val (.int i3), .val (.int 0), .val (.int 0), .val (.int 1), .val (.long i1), .second, .val (.long i2), .second, .val (.ref b747), .unset, .unset]) rfl ?_
            refine g_iload C X759 d0_122 rfl ?_
            refine g_if (h0_eq _) C X759 d0_124 (fun _ => ?_) (fun q => absurd (by decide) q)
            refine g_iconst 0 C X759 d0_136 rfl ?_
            refine g_istore C X759 d0_137 (l' := #[.val (.long i0), .second, .val (.long i1), .second, .val (.long i2), .second, .val (.int i3), .val (.int 0), .val (.int 0), .val (.int 1), .val (.long i1), .second, .val (.long i2), .second, .val (.ref b747), .val (.int 0), .unset]) rfl ?_
            refine g_new C X759 (wd hw 0 rfl) (wd hw 1 rfl) (wd hw 2 rfl) d0_139 (by decide) (by decide) (fun T760 h760 b760 g_b760 n_b760 X760 E760 A760 D760 M760 => ?_)
            have F_records_b760 : Fld Z h760 b760 "com/example/chapeau/chapeau/io/CopyReport" "records" "J" (.long 0) := D760 (Or.inr (wd hw 15 rfl)) (ty := .long) (by decide)
            have F_written_b760 : Fld Z h760 b760 "com/example/chapeau/chapeau/io/CopyReport" "written" "J" (.long 0) := D760 (Or.inr (wd hw 17 rfl)) (ty := .long) (by decide)
            have F_damaged_b760 : Fld Z h760 b760 "com/example/chapeau/chapeau/io/CopyReport" "damaged" "J" (.long 0) := D760 (Or.inr (wd hw 19 rfl)) (ty := .long) (by decide)
            have F_fault_b760 : Fld Z h760 b760 "com/example/chapeau/chapeau/io/CopyReport" "fault" "Lcom/example/chapeau/chapeau/io/MalformedXmlException;" .null := D760 (Or.inr (wd hw 21 rfl)) (ty := (.object "com/example/chapeau/chapeau/io/MalformedXmlException")) (by decide)
            refine g_dup C X760 d0_142 rfl ?_
            refine g_lloadN C X760 d0_143 rfl ?_
            refine g_lload C X760 d0_144 rfl ?_
            refine g_lload C X760 d0_146 rfl ?_
            refine g_aload C X760 d0_148 rfl rfl ?_
            refine g_special (argsL := [(.long i0), (.long i1), (.long i2), (.ref b747)]) (st := [(.ref b760)]) C X760 rfl (wd hw 3 rfl) (wd hw 4 rfl) (wd hw 5 rfl) (by decide) (pay_of (W' := 1) (rCF l hw X760.ext b760 i0 i1 i2 b747 A760 F_records_b760 F_written_b760 F_damaged_b760 F_fault_b760 n_b760) C.hZ (wd hw 5 rfl) (wd hw 2 rfl) (by decide) (by decide)) pd_24 rfl rfl _ rfl (Nat.le_of_eq rfl) d0_150 (by decide) (by decide) (fun T761 h761 v761 q761 X761 => ?_)
            obtain ⟨rfl, K761, F0_761, F1_761, F2_761⟩ := q761
            show Goes p e below _ T761 (mkF m 153 #[.val (.long i0), .second, .val (.long i1), .second, .val (.long i2), .second, .val (.int i3), .val (.int 0), .val (.int 0), .val (.int 1), .val (.long i1), .second, .val (.long i2), .second, .val (.ref b747), .val (.int 0), .unset] [(.ref b760)])
            refine g_astore C X761 d0_153 rfl (l' := #[.val (.long i0), .second, .val (.long i1), .second, .val (.long i2), .second, .val (.int i3), .val (.int 0), .val (.int 0), .val (.int 1), .val (.long i1), .second, .val (.long i2), .second, .val (.ref b747), .val (.int 0), .val (.ref b760)]) rfl ?_
            refine g_aload C X761 d0_155 rfl rfl ?_
            have f763 := (Exa.keep A760 K761)
            refine g_virtualP (argsL := []) (st := []) C X761 (wd hw 22 rfl) (wd hw 23 rfl) (nf_of C (wd hw 25 rfl) rfl rfl) (wd hw 25 rfl) (wd hw 24 rfl) (by decide) f763 (pay_of (W' := 0) (rWa l hw X761.ext b760 i0 i1 i2 F0_761 F1_761 F2_761 c85_726) C.hZ (wd hw 26 rfl) (wd hw 2 rfl) (by decide) (by decide)) pd_11 rfl rfl _ rfl (Nat.le_of_eq rfl) d0_157 (by decide) (by decide) (fun T762 X762 => ?_)
            refine g_iload C X762 d0_160 rfl ?_
            refine g_icmpn (hI_ne _ _) C X762 d0_162 (fun q => absurd (by decide) q) (fun _ => ?_)
            refine g_iconst 1 C X762 d0_165 rfl ?_
            refine g_goto C X762 d0_166 ?_
            have sz764 : h759.size ≤ b760 := by rw [g_b760]; exact (Keep.refl h759 []).1
            have kp765 := (Keep.refl h759 []).ext E760
            have kp766 := kp765.trans K761 (allS (Or.inr sz764) all0)
            exact goes_X I759 kp766.1 (g_retN C X762 (by simp) d0_170 (1 : Int32) rfl (by decide) (by decide) ⟨rfl, rfl⟩)
    · refine g_iconst 1 C X0 d0_21 rfl ?_
      refine g_goto C X0 d0_22 ?_
      refine g_istore C X0 d0_26 (l' := #[.val (.long i0), .second, .val (.long i1), .second, .val (.long i2), .second, .val (.int i3), .val (.int 0), .val (.int 1), .unset, .unset, .unset, .unset, .unset, .unset, .unset, .unset]) rfl ?_
      refine g_iload C X0 d0_28 rfl ?_
      refine g_iconst 4 C X0 d0_30 rfl ?_
      refine g_iand C X0 d0_31 ?_
      refine g_if (h0_eq _) C X0 d0_32 (fun c32_767 => ?_) (fun c32_767 => ?_)
      · refine g_iconst 0 C X0 d0_39 rfl ?_
        refine g_istore C X0 d0_40 (l' := #[.val (.long i0), .second, .val (.long i1), .second, .val (.long i2), .second, .val (.int i3), .val (.int 0), .val (.int 1), .val (.int 0), .unset, .unset, .unset, .unset, .unset, .unset, .unset]) rfl ?_
        refine g_iload C X0 d0_42 rfl ?_
        refine g_if (h0_eq _) C X0 d0_44 (fun _ => ?_) (fun q => absurd (by decide) q)
        refine g_lloadN C X0 d0_53 rfl ?_
        refine g_lloadN C X0 d0_54 rfl ?_
        refine g_lcmp C X0 d0_55 ?_
        refine g_if (hL_eq _ _) C X0 d0_56 (fun c56_768 => ?_) (fun c56_768 => ?_)
        · refine g_lloadN C X0 d0_65 rfl ?_
          refine g_lconst 1 C X0 d0_66 rfl ?_
          refine g_lxor C X0 d0_67 ?_
          refine g_lstore C X0 d0_68 (l' := #[.val (.long i0), .second, .val (.long i1), .second, .val (.long i2), .second, .val (.int i3), .val (.int 0), .val (.int 1), .val (.int 0), .val (.long (i0 ^^^ (1 : Int64))), .second, .unset, .unset, .unset, .unset, .unset]) rfl ?_
          refine g_iload C X0 d0_70 rfl ?_
          refine g_if (h0_eq _) C X0 d0_72 (fun q => absurd q (by decide)) (fun _ => ?_)
          refine g_lconst 0 C X0 d0_75 rfl ?_
          refine g_lstore C X0 d0_76 (l' := #[.val (.long i0), .second, .val (.long i1), .second, .val (.long i2), .second, .val (.int i3), .val (.int 0), .val (.int 1), .val (.int 0), .val (.long (i0 ^^^ (1 : Int64))), .second, .val (.long 0), .second, .unset, .unset, .unset]) rfl ?_
          refine g_goto C X0 d0_78 ?_
          refine g_aconst_null C X0 d0_98 ?_
          refine g_astore C X0 d0_99 rfl (l' := #[.val (.long i0), .second, .val (.long i1), .second, .val (.long i2), .second, .val (.int i3), .val (.int 0), .val (.int 1), .val (.int 0), .val (.long (i0 ^^^ (1 : Int64))), .second, .val (.long 0), .second, .val .null, .unset, .unset]) rfl ?_
          refine g_iload C X0 d0_101 rfl ?_
          refine g_if (h0_eq _) C X0 d0_103 (fun _ => ?_) (fun q => absurd (by decide) q)
          refine g_iload C X0 d0_122 rfl ?_
          refine g_if (h0_eq _) C X0 d0_124 (fun _ => ?_) (fun q => absurd (by decide) q)
          refine g_iconst 0 C X0 d0_136 rfl ?_
          refine g_istore C X0 d0_137 (l' := #[.val (.long i0), .second, .val (.long i1), .second, .val (.long i2), .second, .val (.int i3), .val (.int 0), .val (.int 1), .val (.int 0), .val (.long (i0 ^^^ (1 : Int64))), .second, .val (.long 0), .second, .val .null, .val (.int 0), .unset]) rfl ?_
          refine g_new C X0 (wd hw 0 rfl) (wd hw 1 rfl) (wd hw 2 rfl) d0_139 (by decide) (by decide) (fun T769 h769 b769 g_b769 n_b769 X769 E769 A769 D769 M769 => ?_)
          have F_records_b769 : Fld Z h769 b769 "com/example/chapeau/chapeau/io/CopyReport" "records" "J" (.long 0) := D769 (Or.inr (wd hw 15 rfl)) (ty := .long) (by decide)
          have F_written_b769 : Fld Z h769 b769 "com/example/chapeau/chapeau/io/CopyReport" "written" "J" (.long 0) := D769 (Or.inr (wd hw 17 rfl)) (ty := .long) (by decide)
          have F_damaged_b769 : Fld Z h769 b769 "com/example/chapeau/chapeau/io/CopyReport" "damaged" "J" (.long 0) := D769 (Or.inr (wd hw 19 rfl)) (ty := .long) (by decide)
          have F_fault_b769 : Fld Z h769 b769 "com/example/chapeau/chapeau/io/CopyReport" "fault" "Lcom/example/chapeau/chapeau/io/MalformedXmlException;" .null := D769 (Or.inr (wd hw 21 rfl)) (ty := (.object "com/example/chapeau/chapeau/io/MalformedXmlException")) (by decide)
          refine g_dup C X769 d0_142 rfl ?_
          refine g_lloadN C X769 d0_143 rfl ?_
          refine g_lload C X769 d0_144 rfl ?_
          refine g_lload C X769 d0_146 rfl ?_
          refine g_aload C X769 d0_148 rfl rfl ?_
          refine g_special (argsL := [(.long i0), (.long (i0 ^^^ (1 : Int64))), (.long 0), .null]) (st := [(.ref b769)]) C X769 rfl (wd hw 3 rfl) (wd hw 4 rfl) (wd hw 5 rfl) (by decide) (pay_of (W' := 1) (rCN l hw X769.ext b769 i0 (i0 ^^^ (1 : Int64)) (0 : Int64) A769 F_records_b769 F_written_b769 F_damaged_b769 F_fault_b769 n_b769) C.hZ (wd hw 5 rfl) (wd hw 2 rfl) (by decide) (by decide)) pd_24 rfl rfl _ rfl (Nat.le_of_eq rfl) d0_150 (by decide) (by decide) (fun T770 h770 v770 q770 X770 => ?_)
          obtain ⟨rfl, K770, F0_770, F1_770, F2_770⟩ := q770
          show Goes p e below _ T770 (mkF m 153 #[.val (.long i0), .second, .val (.long i1), .second, .val (.long i2), .second, .val (.int i3), .val (.int 0), .val (.int 1), .val (.int 0), .val (.long (i0 ^^^ (1 : Int64))), .second, .val (.long 0), .second, .val .null, .val (.int 0), .unset] [(.ref b769)])
          refine g_astore C X770 d0_153 rfl (l' := #[.val (.long i0), .second, .val (.long i1), .second, .val (.long i2), .second, .val (.int i3), .val (.int 0), .val (.int 1), .val (.int 0), .val (.long (i0 ^^^ (1 : Int64))), .second, .val (.long 0), .second, .val .null, .val (.int 0), .val (.ref b769)]) rfl ?_
          refine g_aload C X770 d0_155 rfl rfl ?_
          have f772 := (Exa.keep A769 K770)
          refine g_virtualP (argsL := []) (st := []) C X770 (wd hw 22 rfl) (wd hw 23 rfl) (nf_of C (wd hw 25 rfl) rfl rfl) (wd hw 25 rfl) (wd hw 24 rfl) (by decide) f772 (pay_of (W' := 0) (rWb l hw X770.ext b769 i0 (i0 ^^^ (1 : Int64)) (0 : Int64) F0_770 F1_770 F2_770 rfl (own_xor _)) C.hZ (wd hw 26 rfl) (wd hw 2 rfl) (by decide) (by decide)) pd_11 rfl rfl _ rfl (Nat.le_of_eq rfl) d0_157 (by decide) (by decide) (fun T771 X771 => ?_)
          refine g_iload C X771 d0_160 rfl ?_
          refine g_icmpn (hI_ne _ _) C X771 d0_162 (fun q => absurd (by decide) q) (fun _ => ?_)
          refine g_iconst 1 C X771 d0_165 rfl ?_
          refine g_goto C X771 d0_166 ?_
          have sz773 : h.size ≤ b769 := by rw [g_b769]; exact (Keep.refl h []).1
          have kp774 := (Keep.refl h []).ext E769
          have kp775 := kp774.trans K770 (allS (Or.inr sz773) all0)
          exact goes_X I0.1 kp775.1 (g_retN C X771 (by simp) d0_170 (1 : Int32) rfl (by decide) (by decide) ⟨rfl, rfl⟩)
        · refine g_lloadN C X0 d0_59 rfl ?_
          refine g_lstore C X0 d0_60 (l' := #[.val (.long i0), .second, .val (.long i1), .second, .val (.long i2), .second, .val (.int i3), .val (.int 0), .val (.int 1), .val (.int 0), .val (.long i1), .second, .unset, .unset, .unset, .unset, .unset]) rfl ?_
          refine g_goto C X0 d0_62 ?_
          refine g_iload C X0 d0_70 rfl ?_
          refine g_if (h0_eq _) C X0 d0_72 (fun q => absurd q (by decide)) (fun _ => ?_)
          refine g_lconst 0 C X0 d0_75 rfl ?_
          refine g_lstore C X0 d0_76 (l' := #[.val (.long i0), .second, .val (.long i1), .second, .val (.long i2), .second, .val (.int i3), .val (.int 0), .val (.int 1), .val (.int 0), .val (.long i1), .second, .val (.long 0), .second, .unset, .unset, .unset]) rfl ?_
          refine g_goto C X0 d0_78 ?_
          refine g_aconst_null C X0 d0_98 ?_
          refine g_astore C X0 d0_99 rfl (l' := #[.val (.long i0), .second, .val (.long i1), .second, .val (.long i2), .second, .val (.int i3), .val (.int 0), .val (.int 1), .val (.int 0), .val (.long i1), .second, .val (.long 0), .second, .val .null, .unset, .unset]) rfl ?_
          refine g_iload C X0 d0_101 rfl ?_
          refine g_if (h0_eq _) C X0 d0_103 (fun _ => ?_) (fun q => absurd (by decide) q)
          refine g_iload C X0 d0_122 rfl ?_
          refine g_if (h0_eq _) C X0 d0_124 (fun _ => ?_) (fun q => absurd (by decide) q)
          refine g_iconst 0 C X0 d0_136 rfl ?_
          refine g_istore C X0 d0_137 (l' := #[.val (.long i0), .second, .val (.long i1), .second, .val (.long i2), .second, .val (.int i3), .val (.int 0), .val (.int 1), .val (.int 0), .val (.long i1), .second, .val (.long 0), .second, .val .null, .val (.int 0), .unset]) rfl ?_
          refine g_new C X0 (wd hw 0 rfl) (wd hw 1 rfl) (wd hw 2 rfl) d0_139 (by decide) (by decide) (fun T776 h776 b776 g_b776 n_b776 X776 E776 A776 D776 M776 => ?_)
          have F_records_b776 : Fld Z h776 b776 "com/example/chapeau/chapeau/io/CopyReport" "records" "J" (.long 0) := D776 (Or.inr (wd hw 15 rfl)) (ty := .long) (by decide)
          have F_written_b776 : Fld Z h776 b776 "com/example/chapeau/chapeau/io/CopyReport" "written" "J" (.long 0) := D776 (Or.inr (wd hw 17 rfl)) (ty := .long) (by decide)
          have F_damaged_b776 : Fld Z h776 b776 "com/example/chapeau/chapeau/io/CopyReport" "damaged" "J" (.long 0) := D776 (Or.inr (wd hw 19 rfl)) (ty := .long) (by decide)
          have F_fault_b776 : Fld Z h776 b776 "com/example/chapeau/chapeau/io/CopyReport" "fault" "Lcom/example/chapeau/chapeau/io/MalformedXmlException;" .null := D776 (Or.inr (wd hw 21 rfl)) (ty := (.object "com/example/chapeau/chapeau/io/MalformedXmlException")) (by decide)
          refine g_dup C X776 d0_142 rfl ?_
          refine g_lloadN C X776 d0_143 rfl ?_
          refine g_lload C X776 d0_144 rfl ?_
          refine g_lload C X776 d0_146 rfl ?_
          refine g_aload C X776 d0_148 rfl rfl ?_
          refine g_special (argsL := [(.long i0), (.long i1), (.long 0), .null]) (st := [(.ref b776)]) C X776 rfl (wd hw 3 rfl) (wd hw 4 rfl) (wd hw 5 rfl) (by decide) (pay_of (W' := 1) (rCN l hw X776.ext b776 i0 i1 (0 : Int64) A776 F_records_b776 F_written_b776 F_damaged_b776 F_fault_b776 n_b776) C.hZ (wd hw 5 rfl) (wd hw 2 rfl) (by decide) (by decide)) pd_24 rfl rfl _ rfl (Nat.le_of_eq rfl) d0_150 (by decide) (by decide) (fun T777 h777 v777 q777 X777 => ?_)
          obtain ⟨rfl, K777, F0_777, F1_777, F2_777⟩ := q777
          show Goes p e below _ T777 (mkF m 153 #[.val (.long i0), .second, .val (.long i1), .second, .val (.long i2), .second, .val (.int i3), .val (.int 0), .val (.int 1), .val (.int 0), .val (.long i1), .second, .val (.long 0), .second, .val .null, .val (.int 0), .unset] [(.ref b776)])
          refine g_astore C X777 d0_153 rfl (l' := #[.val (.long i0), .second, .val (.long i1), .second, .val (.long i2), .second, .val (.int i3), .val (.int 0), .val (.int 1), .val (.int 0), .val (.long i1), .second, .val (.long 0), .second, .val .null, .val (.int 0), .val (.ref b776)]) rfl ?_
          refine g_aload C X777 d0_155 rfl rfl ?_
          have f779 := (Exa.keep A776 K777)
          refine g_virtualP (argsL := []) (st := []) C X777 (wd hw 22 rfl) (wd hw 23 rfl) (nf_of C (wd hw 25 rfl) rfl rfl) (wd hw 25 rfl) (wd hw 24 rfl) (by decide) f779 (pay_of (W' := 0) (rWb l hw X777.ext b776 i0 i1 (0 : Int64) F0_777 F1_777 F2_777 rfl c56_768) C.hZ (wd hw 26 rfl) (wd hw 2 rfl) (by decide) (by decide)) pd_11 rfl rfl _ rfl (Nat.le_of_eq rfl) d0_157 (by decide) (by decide) (fun T778 X778 => ?_)
          refine g_iload C X778 d0_160 rfl ?_
          refine g_icmpn (hI_ne _ _) C X778 d0_162 (fun q => absurd (by decide) q) (fun _ => ?_)
          refine g_iconst 1 C X778 d0_165 rfl ?_
          refine g_goto C X778 d0_166 ?_
          have sz780 : h.size ≤ b776 := by rw [g_b776]; exact (Keep.refl h []).1
          have kp781 := (Keep.refl h []).ext E776
          have kp782 := kp781.trans K777 (allS (Or.inr sz780) all0)
          exact goes_X I0.1 kp782.1 (g_retN C X778 (by simp) d0_170 (1 : Int32) rfl (by decide) (by decide) ⟨rfl, rfl⟩)
      · refine g_iconst 1 C X0 d0_35 rfl ?_
        refine g_goto C X0 d0_36 ?_
        refine g_istore C X0 d0_40 (l' := #[.val (.long i0), .second, .val (.long i1), .second, .val (.long i2), .second, .val (.int i3), .val (.int 0), .val (.int 1), .val (.int 1), .unset, .unset, .unset, .unset, .unset, .unset, .unset]) rfl ?_
        refine g_iload C X0 d0_42 rfl ?_
        refine g_if (h0_eq _) C X0 d0_44 (fun _ => ?_) (fun q => absurd (by decide) q)
        refine g_lloadN C X0 d0_53 rfl ?_
        refine g_lloadN C X0 d0_54 rfl ?_
        refine g_lcmp C X0 d0_55 ?_
        refine g_if (hL_eq _ _) C X0 d0_56 (fun c56_783 => ?_) (fun c56_783 => ?_)
        · refine g_lloadN C X0 d0_65 rfl ?_
          refine g_lconst 1 C X0 d0_66 rfl ?_
          refine g_lxor C X0 d0_67 ?_
          refine g_lstore C X0 d0_68 (l' := #[.val (.long i0), .second, .val (.long i1), .second, .val (.long i2), .second, .val (.int i3), .val (.int 0), .val (.int 1), .val (.int 1), .val (.long (i0 ^^^ (1 : Int64))), .second, .unset, .unset, .unset, .unset, .unset]) rfl ?_
          refine g_iload C X0 d0_70 rfl ?_
          refine g_if (h0_eq _) C X0 d0_72 (fun q => absurd q (by decide)) (fun _ => ?_)
          refine g_lconst 0 C X0 d0_75 rfl ?_
          refine g_lstore C X0 d0_76 (l' := #[.val (.long i0), .second, .val (.long i1), .second, .val (.long i2), .second, .val (.int i3), .val (.int 0), .val (.int 1), .val (.int 1), .val (.long (i0 ^^^ (1 : Int64))), .second, .val (.long 0), .second, .unset, .unset, .unset]) rfl ?_
          refine g_goto C X0 d0_78 ?_
          refine g_aconst_null C X0 d0_98 ?_
          refine g_astore C X0 d0_99 rfl (l' := #[.val (.long i0), .second, .val (.long i1), .second, .val (.long i2), .second, .val (.int i3), .val (.int 0), .val (.int 1), .val (.int 1), .val (.long (i0 ^^^ (1 : Int64))), .second, .val (.long 0), .second, .val .null, .unset, .unset]) rfl ?_
          refine g_iload C X0 d0_101 rfl ?_
          refine g_if (h0_eq _) C X0 d0_103 (fun q => absurd q (by decide)) (fun _ => ?_)
          refine g_new C X0 (wd hw 27 rfl) (wd hw 28 rfl) (wd hw 29 rfl) d0_106 (by decide) (by decide) (fun T784 h784 b784 g_b784 n_b784 X784 E784 A784 D784 M784 => ?_)
          have F_cause_b784 : Fld Z h784 b784 "java/lang/Throwable" "cause" "Ljava/lang/Throwable;" .null := D784 (Or.inl (wd hw 217 rfl)) (ty := (.object "java/lang/Throwable")) (by decide)
          have F_stackTrace_b784 : Fld Z h784 b784 "java/lang/Throwable" "stackTrace" "[Ljava/lang/StackTraceElement;" .null := D784 (Or.inl (wd hw 220 rfl)) (ty := (.array (.object "java/lang/StackTraceElement"))) (by decide)
          have F_suppressedExceptions_b784 : Fld Z h784 b784 "java/lang/Throwable" "suppressedExceptions" "Ljava/util/List;" .null := D784 (Or.inl (wd hw 223 rfl)) (ty := (.object "java/util/List")) (by decide)
          have F_detailMessage_b784 : Fld Z h784 b784 "java/lang/Throwable" "detailMessage" "Ljava/lang/String;" .null := D784 (Or.inl (wd hw 247 rfl)) (ty := (.object "java/lang/String")) (by decide)
          have F_backtrace_b784 : Fld Z h784 b784 "java/lang/Throwable" "backtrace" "Ljava/lang/Object;" .null := D784 (Or.inl (wd hw 248 rfl)) (ty := (.object "java/lang/Object")) (by decide)
          have F_depth_b784 : Fld Z h784 b784 "java/lang/Throwable" "depth" "I" (.int 0) := D784 (Or.inl (wd hw 249 rfl)) (ty := .int) (by decide)
          refine g_dup C X784 d0_109 rfl ?_
          refine g_lloadN C X784 d0_110 rfl ?_
          refine g_l2i C X784 d0_111 ?_
          refine g_lload C X784 d0_112 rfl ?_
          refine g_l2i C X784 d0_114 ?_
          have sz785 : h.size ≤ b784 := by rw [g_b784]; exact (Keep.refl h []).1
          have kp786 := (Keep.refl h []).ext E784
          have I787 := Lits.keep I0 kp786 sf0
          refine g_ldcs 4 C X784 I787 (own_wS hw) (own_EW hw) (by decide +kernel) (wd hw 30 rfl) (vs := [(.int 120)]) (z := 1) ⟨by decide +kernel, by decide +kernel⟩ (by decide) rfl (by decide) (by decide) d0_115 (by decide) (by decide) (fun a788 T788 h788 t788 k_t788 C X788 I788 R788 E788 EA788 FC788 FV788 VA788 N788 => ?_)
          have f789 := (Exa.ext E788 A784)
          have ne790 := N788 _ (Safe.exa C.hZ.alike f789 (by decide) (by decide))
          show Goes p e below _ T788 (mkF m 117 #[.val (.long i0), .second, .val (.long i1), .second, .val (.long i2), .second, .val (.int i3), .val (.int 0), .val (.int 1), .val (.int 1), .val (.long (i0 ^^^ (1 : Int64))), .second, .val (.long 0), .second, .val .null, .unset, .unset] [(.ref a788), (.int (i2.toInt32)), (.int (i1.toInt32)), (.ref b784), (.ref b784)])
          have f791 := (Fld.ext E788 F_cause_b784)
          have f792 := (Fld.ext E788 F_stackTrace_b784)
          have f793 := (Fld.ext E788 F_suppressedExceptions_b784)
          have f794 := (Fld.ext E788 F_backtrace_b784)
          have f795 := (Fld.ext E788 F_detailMessage_b784)
          refine g_specialX (argsL := [(.int (i1.toInt32)), (.int (i2.toInt32)), (.ref a788)]) (st := [(.ref b784)]) C X788 I788 rfl (wd hw 38 rfl) (wd hw 39 rfl) (wd hw 40 rfl) (by decide) (payX_of (W' := 1) (rEx l hw X788.ext b784 (i1.toInt32) (i2.toInt32) a788 z_ SZ hz o1 o2 S1 S2 D1 D2 u0 u1 SU SV ru0 ru1 hl f789 (Unt.ext E788 M784) n_b784 f791 f792 f793 f794 f795 t788 (1 : Int32) EA788 FC788 FV788 (ByS.of VA788) rfl) C.hZ (wd hw 40 rfl) (wd hw 29 rfl) (by decide) (by decide) (own_EW hw) I788 (fun _ q => nomatch q) hKn) pd_25 rfl rfl _ rfl (Nat.le_of_eq rfl) d0_117 (by decide) (by decide) (fun T796 h796 v796 q796 C X796 I796 => ?_)
          subst q796
          show Goes p e below _ T796 (mkF m 120 #[.val (.long i0), .second, .val (.long i1), .second, .val (.long i2), .second, .val (.int i3), .val (.int 0), .val (.int 1), .val (.int 1), .val (.long (i0 ^^^ (1 : Int64))), .second, .val (.long 0), .second, .val .null, .unset, .unset] [(.ref b784)])
          refine g_astore C X796 d0_120 rfl (l' := #[.val (.long i0), .second, .val (.long i1), .second, .val (.long i2), .second, .val (.int i3), .val (.int 0), .val (.int 1), .val (.int 1), .val (.long (i0 ^^^ (1 : Int64))), .second, .val (.long 0), .second, .val (.ref b784), .unset, .unset]) rfl ?_
          refine g_iload C X796 d0_122 rfl ?_
          refine g_if (h0_eq _) C X796 d0_124 (fun _ => ?_) (fun q => absurd (by decide) q)
          refine g_iconst 0 C X796 d0_136 rfl ?_
          refine g_istore C X796 d0_137 (l' := #[.val (.long i0), .second, .val (.long i1), .second, .val (.long i2), .second, .val (.int i3), .val (.int 0), .val (.int 1), .val (.int 1), .val (.long (i0 ^^^ (1 : Int64))), .second, .val (.long 0), .second, .val (.ref b784), .val (.int 0), .unset]) rfl ?_
          refine g_new C X796 (wd hw 0 rfl) (wd hw 1 rfl) (wd hw 2 rfl) d0_139 (by decide) (by decide) (fun T797 h797 b797 g_b797 n_b797 X797 E797 A797 D797 M797 => ?_)
          have F_records_b797 : Fld Z h797 b797 "com/example/chapeau/chapeau/io/CopyReport" "records" "J" (.long 0) := D797 (Or.inr (wd hw 15 rfl)) (ty := .long) (by decide)
          have F_written_b797 : Fld Z h797 b797 "com/example/chapeau/chapeau/io/CopyReport" "written" "J" (.long 0) := D797 (Or.inr (wd hw 17 rfl)) (ty := .long) (by decide)
          have F_damaged_b797 : Fld Z h797 b797 "com/example/chapeau/chapeau/io/CopyReport" "damaged" "J" (.long 0) := D797 (Or.inr (wd hw 19 rfl)) (ty := .long) (by decide)
          have F_fault_b797 : Fld Z h797 b797 "com/example/chapeau/chapeau/io/CopyReport" "fault" "Lcom/example/chapeau/chapeau/io/MalformedXmlException;" .null := D797 (Or.inr (wd hw 21 rfl)) (ty := (.object "com/example/chapeau/chapeau/io/MalformedXmlException")) (by decide)
          refine g_dup C X797 d0_142 rfl ?_
          refine g_lloadN C X797 d0_143 rfl ?_
          refine g_lload C X797 d0_144 rfl ?_
          refine g_lload C X797 d0_146 rfl ?_
          refine g_aload C X797 d0_148 rfl rfl ?_
          refine g_special (argsL := [(.long i0), (.long (i0 ^^^ (1 : Int64))), (.long 0), (.ref b784)]) (st := [(.ref b797)]) C X797 rfl (wd hw 3 rfl) (wd hw 4 rfl) (wd hw 5 rfl) (by decide) (pay_of (W' := 1) (rCF l hw X797.ext b797 i0 (i0 ^^^ (1 : Int64)) (0 : Int64) b784 A797 F_records_b797 F_written_b797 F_damaged_b797 F_fault_b797 n_b797) C.hZ (wd hw 5 rfl) (wd hw 2 rfl) (by decide) (by decide)) pd_24 rfl rfl _ rfl (Nat.le_of_eq rfl) d0_150 (by decide) (by decide) (fun T798 h798 v798 q798 X798 => ?_)
          obtain ⟨rfl, K798, F0_798, F1_798, F2_798⟩ := q798
          show Goes p e below _ T798 (mkF m 153 #[.val (.long i0), .second, .val (.long i1), .second, .val (.long i2), .second, .val (.int i3), .val (.int 0), .val (.int 1), .val (.int 1), .val (.long (i0 ^^^ (1 : Int64))), .second, .val (.long 0), .second, .val (.ref b784), .val (.int 0), .unset] [(.ref b797)])
          refine g_astore C X798 d0_153 rfl (l' := #[.val (.long i0), .second, .val (.long i1), .second, .val (.long i2), .second, .val (.int i3), .val (.int 0), .val (.int 1), .val (.int 1), .val (.long (i0 ^^^ (1 : Int64))), .second, .val (.long 0), .second, .val (.ref b784), .val (.int 0), .val (.ref b797)]) rfl ?_
          refine g_aload C X798 d0_155 rfl rfl ?_
          have f800 := (Exa.keep A797 K798)
          refine g_virtualP (argsL := []) (st := []) C X798 (wd hw 22 rfl) (wd hw 23 rfl) (nf_of C (wd hw 25 rfl) rfl rfl) (wd hw 25 rfl) (wd hw 24 rfl) (by decide) f800 (pay_of (W' := 0) (rWb l hw X798.ext b797 i0 (i0 ^^^ (1 : Int64)) (0 : Int64) F0_798 F1_798 F2_798 rfl (own_xor _)) C.hZ (wd hw 26 rfl) (wd hw 2 rfl) (by decide) (by decide)) pd_11 rfl rfl _ rfl (Nat.le_of_eq rfl) d0_157 (by decide) (by decide) (fun T799 X799 => ?_)
          refine g_iload C X799 d0_160 rfl ?_
          refine g_icmpn (hI_ne _ _) C X799 d0_162 (fun q => absurd (by decide) q) (fun _ => ?_)
          refine g_iconst 1 C X799 d0_165 rfl ?_
          refine g_goto C X799 d0_166 ?_
          have sz801 : h796.size ≤ b797 := by rw [g_b797]; exact (Keep.refl h796 []).1
          have kp802 := (Keep.refl h796 []).ext E797
          have kp803 := kp802.trans K798 (allS (Or.inr sz801) all0)
          exact goes_X I796 kp803.1 (g_retN C X799 (by simp) d0_170 (1 : Int32) rfl (by decide) (by decide) ⟨rfl, rfl⟩)
        · refine g_lloadN C X0 d0_59 rfl ?_
          refine g_lstore C X0 d0_60 (l' := #[.val (.long i0), .second, .val (.long i1), .second, .val (.long i2), .second, .val (.int i3), .val (.int 0), .val (.int 1), .val (.int 1), .val (.long i1), .second, .unset, .unset, .unset, .unset, .unset]) rfl ?_
          refine g_goto C X0 d0_62 ?_
          refine g_iload C X0 d0_70 rfl ?_
          refine g_if (h0_eq _) C X0 d0_72 (fun q => absurd q (by decide)) (fun _ => ?_)
          refine g_lconst 0 C X0 d0_75 rfl ?_
          refine g_lstore C X0 d0_76 (l' := #[.val (.long i0), .second, .val (.long i1), .second, .val (.long i2), .second, .val (.int i3), .val (.int 0), .val (.int 1), .val (.int 1), .val (.long i1), .second, .val (.long 0), .second, .unset, .unset, .unset]) rfl ?_
          refine g_goto C X0 d0_78 ?_
          refine g_aconst_null C X0 d0_98 ?_
          refine g_astore C X0 d0_99 rfl (l' := #[.val (.long i0), .second, .val (.long i1), .second, .val (.long i2), .second, .val (.int i3), .val (.int 0), .val (.int 1), .val (.int 1), .val (.long i1), .second, .val (.long 0), .second, .val .null, .unset, .unset]) rfl ?_
          refine g_iload C X0 d0_101 rfl ?_
          refine g_if (h0_eq _) C X0 d0_103 (fun q => absurd q (by decide)) (fun _ => ?_)
          refine g_new C X0 (wd hw 27 rfl) (wd hw 28 rfl) (wd hw 29 rfl) d0_106 (by decide) (by decide) (fun T804 h804 b804 g_b804 n_b804 X804 E804 A804 D804 M804 => ?_)
          have F_cause_b804 : Fld Z h804 b804 "java/lang/Throwable" "cause" "Ljava/lang/Throwable;" .null := D804 (Or.inl (wd hw 217 rfl)) (ty := (.object "java/lang/Throwable")) (by decide)
          have F_stackTrace_b804 : Fld Z h804 b804 "java/lang/Throwable" "stackTrace" "[Ljava/lang/StackTraceElement;" .null := D804 (Or.inl (wd hw 220 rfl)) (ty := (.array (.object "java/lang/StackTraceElement"))) (by decide)
          have F_suppressedExceptions_b804 : Fld Z h804 b804 "java/lang/Throwable" "suppressedExceptions" "Ljava/util/List;" .null := D804 (Or.inl (wd hw 223 rfl)) (ty := (.object "java/util/List")) (by decide)
          have F_detailMessage_b804 : Fld Z h804 b804 "java/lang/Throwable" "detailMessage" "Ljava/lang/String;" .null := D804 (Or.inl (wd hw 247 rfl)) (ty := (.object "java/lang/String")) (by decide)
          have F_backtrace_b804 : Fld Z h804 b804 "java/lang/Throwable" "backtrace" "Ljava/lang/Object;" .null := D804 (Or.inl (wd hw 248 rfl)) (ty := (.object "java/lang/Object")) (by decide)
          have F_depth_b804 : Fld Z h804 b804 "java/lang/Throwable" "depth" "I" (.int 0) := D804 (Or.inl (wd hw 249 rfl)) (ty := .int) (by decide)
          refine g_dup C X804 d0_109 rfl ?_
          refine g_lloadN C X804 d0_110 rfl ?_
          refine g_l2i C X804 d0_111 ?_
          refine g_lload C X804 d0_112 rfl ?_
          refine g_l2i C X804 d0_114 ?_
          have sz805 : h.size ≤ b804 := by rw [g_b804]; exact (Keep.refl h []).1
          have kp806 := (Keep.refl h []).ext E804
          have I807 := Lits.keep I0 kp806 sf0
          refine g_ldcs 4 C X804 I807 (own_wS hw) (own_EW hw) (by decide +kernel) (wd hw 30 rfl) (vs := [(.int 120)]) (z := 1) ⟨by decide +kernel, by decide +kernel⟩ (by decide) rfl (by decide) (by decide) d0_115 (by decide) (by decide) (fun a808 T808 h808 t808 k_t808 C X808 I808 R808 E808 EA808 FC808 FV808 VA808 N808 => ?_)
          have f809 := (Exa.ext E808 A804)
          have ne810 := N808 _ (Safe.exa C.hZ.alike f809 (by decide) (by decide))
          show Goes p e below _ T808 (mkF m 117 #[.val (.long i0), .second, .val (.long i1), .second, .val (.long i2), .second, .val (.int i3), .val (.int 0), .val (.int 1), .val (.int 1), .val (.long i1), .second, .val (.long 0), .second, .val .null, .unset, .unset] [(.ref a808), (.int (i2.toInt32)), (.int (i1.toInt32)), (.ref b804), (.ref b804)])
          have f811 := (Fld.ext E808 F_cause_b804)
          have f812 := (Fld.ext E808 F_stackTrace_b804)
          have f813 := (Fld.ext E808 F_suppressedExceptions_b804)
          have f814 := (Fld.ext E808 F_backtrace_b804)
          have f815 := (Fld.ext E808 F_detailMessage_b804)
          refine g_specialX (argsL := [(.int (i1.toInt32)), (.int (i2.toInt32)), (.ref a808)]) (st := [(.ref b804)]) C X808 I808 rfl (wd hw 38 rfl) (wd hw 39 rfl) (wd hw 40 rfl) (by decide) (payX_of (W' := 1) (rEx l hw X808.ext b804 (i1.toInt32) (i2.toInt32) a808 z_ SZ hz o1 o2 S1 S2 D1 D2 u0 u1 SU SV ru0 ru1 hl f809 (Unt.ext E808 M804) n_b804 f811 f812 f813 f814 f815 t808 (1 : Int32) EA808 FC808 FV808 (ByS.of VA808) rfl) C.hZ (wd hw 40 rfl) (wd hw 29 rfl) (by decide) (by decide) (own_EW hw) I808 (fun _ q => nomatch q) hKn) pd_25 rfl rfl _ rfl (Nat.le_of_eq rfl) d0_117 (by decide) (by decide) (fun T816 h816 v816 q816 C X816 I816 => ?_)
          subst q816
          show Goes p e below _ T816 (mkF m 120 #[.val (.long i0), .second, .val (.long i1), .second, .val (.long i2), .second, .val (.int i3), .val (.int 0), .val (.int 1), .val (.int 1), .val (.long i1), .second, .val (.long 0), .second, .val .null, .unset, .unset] [(.ref b804)])
          refine g_astore C X816 d0_120 rfl (l' := #[.val (.long i0), .second, .val (.long i1), .second, .val (.long i2), .second, .val (.int i3), .val (.int 0), .val (.int 1), .val (.int 1), .val (.long i1), .second, .val (.long 0), .second, .val (.ref b804), .unset, .unset]) rfl ?_
          refine g_iload C X816 d0_122 rfl ?_
          refine g_if (h0_eq _) C X816 d0_124 (fun _ => ?_) (fun q => absurd (by decide) q)
          refine g_iconst 0 C X816 d0_136 rfl ?_
          refine g_istore C X816 d0_137 (l' := #[.val (.long i0), .second, .val (.long i1), .second, .val (.long i2), .second, .val (.int i3), .val (.int 0), .val (.int 1), .val (.int 1), .val (.long i1), .second, .val (.long 0), .second, .val (.ref b804), .val (.int 0), .unset]) rfl ?_
          refine g_new C X816 (wd hw 0 rfl) (wd hw 1 rfl) (wd hw 2 rfl) d0_139 (by decide) (by decide) (fun T817 h817 b817 g_b817 n_b817 X817 E817 A817 D817 M817 => ?_)
          have F_records_b817 : Fld Z h817 b817 "com/example/chapeau/chapeau/io/CopyReport" "records" "J" (.long 0) := D817 (Or.inr (wd hw 15 rfl)) (ty := .long) (by decide)
          have F_written_b817 : Fld Z h817 b817 "com/example/chapeau/chapeau/io/CopyReport" "written" "J" (.long 0) := D817 (Or.inr (wd hw 17 rfl)) (ty := .long) (by decide)
          have F_damaged_b817 : Fld Z h817 b817 "com/example/chapeau/chapeau/io/CopyReport" "damaged" "J" (.long 0) := D817 (Or.inr (wd hw 19 rfl)) (ty := .long) (by decide)
          have F_fault_b817 : Fld Z h817 b817 "com/example/chapeau/chapeau/io/CopyReport" "fault" "Lcom/example/chapeau/chapeau/io/MalformedXmlException;" .null := D817 (Or.inr (wd hw 21 rfl)) (ty := (.object "com/example/chapeau/chapeau/io/MalformedXmlException")) (by decide)
          refine g_dup C X817 d0_142 rfl ?_
          refine g_lloadN C X817 d0_143 rfl ?_
          refine g_lload C X817 d0_144 rfl ?_
          refine g_lload C X817 d0_146 rfl ?_
          refine g_aload C X817 d0_148 rfl rfl ?_
          refine g_special (argsL := [(.long i0), (.long i1), (.long 0), (.ref b804)]) (st := [(.ref b817)]) C X817 rfl (wd hw 3 rfl) (wd hw 4 rfl) (wd hw 5 rfl) (by decide) (pay_of (W' := 1) (rCF l hw X817.ext b817 i0 i1 (0 : Int64) b804 A817 F_records_b817 F_written_b817 F_damaged_b817 F_fault_b817 n_b817) C.hZ (wd hw 5 rfl) (wd hw 2 rfl) (by decide) (by decide)) pd_24 rfl rfl _ rfl (Nat.le_of_eq rfl) d0_150 (by decide) (by decide) (fun T818 h818 v818 q818 X818 => ?_)
          obtain ⟨rfl, K818, F0_818, F1_818, F2_818⟩ := q818
          show Goes p e below _ T818 (mkF m 153 #[.val (.long i0), .second, .val (.long i1), .second, .val (.long i2), .second, .val (.int i3), .val (.int 0), .val (.int 1), .val (.int 1), .val (.long i1), .second, .val (.long 0), .second, .val (.ref b804), .val (.int 0), .unset] [(.ref b817)])
          refine g_astore C X818 d0_153 rfl (l' := #[.val (.long i0), .second, .val (.long i1), .second, .val (.long i2), .second, .val (.int i3), .val (.int 0), .val (.int 1), .val (.int 1), .val (.long i1), .second, .val (.long 0), .second, .val (.ref b804), .val (.int 0), .val (.ref b817)]) rfl ?_
          refine g_aload C X818 d0_155 rfl rfl ?_
          have f820 := (Exa.keep A817 K818)
          refine g_virtualP (argsL := []) (st := []) C X818 (wd hw 22 rfl) (wd hw 23 rfl) (nf_of C (wd hw 25 rfl) rfl rfl) (wd hw 25 rfl) (wd hw 24 rfl) (by decide) f820 (pay_of (W' := 0) (rWb l hw X818.ext b817 i0 i1 (0 : Int64) F0_818 F1_818 F2_818 rfl c56_783) C.hZ (wd hw 26 rfl) (wd hw 2 rfl) (by decide) (by decide)) pd_11 rfl rfl _ rfl (Nat.le_of_eq rfl) d0_157 (by decide) (by decide) (fun T819 X819 => ?_)
          refine g_iload C X819 d0_160 rfl ?_
          refine g_icmpn (hI_ne _ _) C X819 d0_162 (fun q => absurd (by decide) q) (fun _ => ?_)
          refine g_iconst 1 C X819 d0_165 rfl ?_
          refine g_goto C X819 d0_166 ?_
          have sz821 : h816.size ≤ b817 := by rw [g_b817]; exact (Keep.refl h816 []).1
          have kp822 := (Keep.refl h816 []).ext E817
          have kp823 := kp822.trans K818 (allS (Or.inr sz821) all0)
          exact goes_X I816 kp823.1 (g_retN C X819 (by simp) d0_170 (1 : Int32) rfl (by decide) (by decide) ⟨rfl, rfl⟩)
  · refine g_iconst 1 C X0 d0_7 rfl ?_
    refine g_goto C X0 d0_8 ?_
    refine g_istore C X0 d0_12 (l' := #[.val (.long i0), .second, .val (.long i1), .second, .val (.long i2), .second, .val (.int i3), .val (.int 1), .unset, .unset, .unset, .unset, .unset, .unset, .unset, .unset, .unset]) rfl ?_
    refine g_iload C X0 d0_14 rfl ?_
    refine g_iconst 2 C X0 d0_16 rfl ?_
    refine g_iand C X0 d0_17 ?_
    refine g_if (h0_eq _) C X0 d0_18 (fun c18_824 => ?_) (fun c18_824 => ?_)
    · refine g_iconst 0 C X0 d0_25 rfl ?_
      refine g_istore C X0 d0_26 (l' := #[.val (.long i0), .second, .val (.long i1), .second, .val (.long i2), .second, .val (.int i3), .val (.int 1), .val (.int 0), .unset, .unset, .unset, .unset, .unset, .unset, .unset, .unset]) rfl ?_
      refine g_iload C X0 d0_28 rfl ?_
      refine g_iconst 4 C X0 d0_30 rfl ?_
      refine g_iand C X0 d0_31 ?_
      refine g_if (h0_eq _) C X0 d0_32 (fun c32_825 => ?_) (fun c32_825 => ?_)
      · refine g_iconst 0 C X0 d0_39 rfl ?_
        refine g_istore C X0 d0_40 (l' := #[.val (.long i0), .second, .val (.long i1), .second, .val (.long i2), .second, .val (.int i3), .val (.int 1), .val (.int 0), .val (.int 0), .unset, .unset, .unset, .unset, .unset, .unset, .unset]) rfl ?_
        refine g_iload C X0 d0_42 rfl ?_
        refine g_if (h0_eq _) C X0 d0_44 (fun q => absurd q (by decide)) (fun _ => ?_)
        refine g_lloadN C X0 d0_47 rfl ?_
        refine g_lstore C X0 d0_48 (l' := #[.val (.long i0), .second, .val (.long i1), .second, .val (.long i2), .second, .val (.int i3), .val (.int 1), .val (.int 0), .val (.int 0), .val (.long i0), .second, .unset, .unset, .unset, .unset, .unset]) rfl ?_
        refine g_goto C X0 d0_50 ?_
        refine g_iload C X0 d0_70 rfl ?_
        refine g_if (h0_eq _) C X0 d0_72 (fun _ => ?_) (fun q => absurd (by decide) q)
        refine g_lload C X0 d0_81 rfl ?_
        refine g_lconst 0 C X0 d0_83 rfl ?_
        refine g_lcmp C X0 d0_84 ?_
        refine g_if (hL_eq _ _) C X0 d0_85 (fun c85_826 => ?_) (fun c85_826 => ?_)
        · refine g_lconst 1 C X0 d0_95 rfl ?_
          refine g_lstore C X0 d0_96 (l' := #[.val (.long i0), .second, .val (.long i1), .second, .val (.long i2), .second, .val (.int i3), .val (.int 1), .val (.int 0), .val (.int 0), .val (.long i0), .second, .val (.long 1), .second, .unset, .unset, .unset]) rfl ?_
          refine g_aconst_null C X0 d0_98 ?_
          refine g_astore C X0 d0_99 rfl (l' := #[.val (.long i0), .second, .val (.long i1), .second, .val (.long i2), .second, .val (.int i3), .val (.int 1), .val (.int 0), .val (.int 0), .val (.long i0), .second, .val (.long 1), .second, .val .null, .unset, .unset]) rfl ?_
          refine g_iload C X0 d0_101 rfl ?_
          refine g_if (h0_eq _) C X0 d0_103 (fun _ => ?_) (fun q => absurd (by decide) q)
          refine g_iload C X0 d0_122 rfl ?_
          refine g_if (h0_eq _) C X0 d0_124 (fun q => absurd q (by decide)) (fun _ => ?_)
          refine g_iload C X0 d0_127 rfl ?_
          refine g_if (h0_eq _) C X0 d0_129 (fun _ => ?_) (fun q => absurd (by decide) q)
          refine g_iconst 0 C X0 d0_136 rfl ?_
          refine g_istore C X0 d0_137 (l' := #[.val (.long i0), .second, .val (.long i1), .second, .val (.long i2), .second, .val (.int i3), .val (.int 1), .val (.int 0), .val (.int 0), .val (.long i0), .second, .val (.long 1), .second, .val .null, .val (.int 0), .unset]) rfl ?_
          refine g_new C X0 (wd hw 0 rfl) (wd hw 1 rfl) (wd hw 2 rfl) d0_139 (by decide) (by decide) (fun T827 h827 b827 g_b827 n_b827 X827 E827 A827 D827 M827 => ?_)
          have F_records_b827 : Fld Z h827 b827 "com/example/chapeau/chapeau/io/CopyReport" "records" "J" (.long 0) := D827 (Or.inr (wd hw 15 rfl)) (ty := .long) (by decide)
          have F_written_b827 : Fld Z h827 b827 "com/example/chapeau/chapeau/io/CopyReport" "written" "J" (.long 0) := D827 (Or.inr (wd hw 17 rfl)) (ty := .long) (by decide)
          have F_damaged_b827 : Fld Z h827 b827 "com/example/chapeau/chapeau/io/CopyReport" "damaged" "J" (.long 0) := D827 (Or.inr (wd hw 19 rfl)) (ty := .long) (by decide)
          have F_fault_b827 : Fld Z h827 b827 "com/example/chapeau/chapeau/io/CopyReport" "fault" "Lcom/example/chapeau/chapeau/io/MalformedXmlException;" .null := D827 (Or.inr (wd hw 21 rfl)) (ty := (.object "com/example/chapeau/chapeau/io/MalformedXmlException")) (by decide)
          refine g_dup C X827 d0_142 rfl ?_
          refine g_lloadN C X827 d0_143 rfl ?_
          refine g_lload C X827 d0_144 rfl ?_
          refine g_lload C X827 d0_146 rfl ?_
          refine g_aload C X827 d0_148 rfl rfl ?_
          refine g_special (argsL := [(.long i0), (.long i0), (.long 1), .null]) (st := [(.ref b827)]) C X827 rfl (wd hw 3 rfl) (wd hw 4 rfl) (wd hw 5 rfl) (by decide) (pay_of (W' := 1) (rCN l hw X827.ext b827 i0 i0 (1 : Int64) A827 F_records_b827 F_written_b827 F_damaged_b827 F_fault_b827 n_b827) C.hZ (wd hw 5 rfl) (wd hw 2 rfl) (by decide) (by decide)) pd_24 rfl rfl _ rfl (Nat.le_of_eq rfl) d0_150 (by decide) (by decide) (fun T828 h828 v828 q828 X828 => ?_)
          obtain ⟨rfl, K828, F0_828, F1_828, F2_828⟩ := q828
          show Goes p e below _ T828 (mkF m 153 #[.val (.long i0), .second, .val (.long i1), .second, .val (.long i2), .second, .val (.int i3), .val (.int 1), .val (.int 0), .val (.int 0), .val (.long i0), .second, .val (.long 1), .second, .val .null, .val (.int 0), .unset] [(.ref b827)])
          refine g_astore C X828 d0_153 rfl (l' := #[.val (.long i0), .second, .val (.long i1), .second, .val (.long i2), .second, .val (.int i3), .val (.int 1), .val (.int 0), .val (.int 0), .val (.long i0), .second, .val (.long 1), .second, .val .null, .val (.int 0), .val (.ref b827)]) rfl ?_
          refine g_aload C X828 d0_155 rfl rfl ?_
          have f830 := (Exa.keep A827 K828)
          refine g_virtualP (argsL := []) (st := []) C X828 (wd hw 22 rfl) (wd hw 23 rfl) (nf_of C (wd hw 25 rfl) rfl rfl) (wd hw 25 rfl) (wd hw 24 rfl) (by decide) f830 (pay_of (W' := 0) (rWa l hw X828.ext b827 i0 i0 (1 : Int64) F0_828 F1_828 F2_828 (by decide)) C.hZ (wd hw 26 rfl) (wd hw 2 rfl) (by decide) (by decide)) pd_11 rfl rfl _ rfl (Nat.le_of_eq rfl) d0_157 (by decide) (by decide) (fun T829 X829 => ?_)
          refine g_iload C X829 d0_160 rfl ?_
          refine g_icmpn (hI_ne _ _) C X829 d0_162 (fun q => absurd (by decide) q) (fun _ => ?_)
          refine g_iconst 1 C X829 d0_165 rfl ?_
          refine g_goto C X829 d0_166 ?_
          have sz831 : h.size ≤ b827 := by rw [g_b827]; exact (Keep.refl h []).1
          have kp832 := (Keep.refl h []).ext E827
          have kp833 := kp832.trans K828 (allS (Or.inr sz831) all0)
          exact goes_X I0.1 kp833.1 (g_retN C X829 (by simp) d0_170 (1 : Int32) rfl (by decide) (by decide) ⟨rfl, rfl⟩)
        · refine g_lload C X0 d0_88 rfl ?_
          refine g_lstore C X0 d0_90 (l' := #[.val (.long i0), .second, .val (.long i1), .second, .val (.long i2), .second, .val (.int i3), .val (.int 1), .val (.int 0), .val (.int 0), .val (.long i0), .second, .val (.long i2), .second, .unset, .unset, .unset]) rfl ?_
          refine g_goto C X0 d0_92 ?_
          refine g_aconst_null C X0 d0_98 ?_
          refine g_astore C X0 d0_99 rfl (l' := #[.val (.long i0), .second, .val (.long i1), .second, .val (.long i2), .second, .val (.int i3), .val (.int 1), .val (.int 0), .val (.int 0), .val (.long i0), .second, .val (.long i2), .second, .val .null, .unset, .unset]) rfl ?_
          refine g_iload C X0 d0_101 rfl ?_
          refine g_if (h0_eq _) C X0 d0_103 (fun _ => ?_) (fun q => absurd (by decide) q)
          refine g_iload C X0 d0_122 rfl ?_
          refine g_if (h0_eq _) C X0 d0_124 (fun q => absurd q (by decide)) (fun _ => ?_)
          refine g_iload C X0 d0_127 rfl ?_
          refine g_if (h0_eq _) C X0 d0_129 (fun _ => ?_) (fun q => absurd (by decide) q)
          refine g_iconst 0 C X0 d0_136 rfl ?_
          refine g_istore C X0 d0_137 (l' := #[.val (.long i0), .second, .val (.long i1), .second, .val (.long i2), .second, .val (.int i3), .val (.int 1), .val (.int 0), .val (.int 0), .val (.long i0), .second, .val (.long i2), .second, .val .null, .val (.int 0), .unset]) rfl ?_
          refine g_new C X0 (wd hw 0 rfl) (wd hw 1 rfl) (wd hw 2 rfl) d0_139 (by decide) (by decide) (fun T834 h834 b834 g_b834 n_b834 X834 E834 A834 D834 M834 => ?_)
          have F_records_b834 : Fld Z h834 b834 "com/example/chapeau/chapeau/io/CopyReport" "records" "J" (.long 0) := D834 (Or.inr (wd hw 15 rfl)) (ty := .long) (by decide)
          have F_written_b834 : Fld Z h834 b834 "com/example/chapeau/chapeau/io/CopyReport" "written" "J" (.long 0) := D834 (Or.inr (wd hw 17 rfl)) (ty := .long) (by decide)
          have F_damaged_b834 : Fld Z h834 b834 "com/example/chapeau/chapeau/io/CopyReport" "damaged" "J" (.long 0) := D834 (Or.inr (wd hw 19 rfl)) (ty := .long) (by decide)
          have F_fault_b834 : Fld Z h834 b834 "com/example/chapeau/chapeau/io/CopyReport" "fault" "Lcom/example/chapeau/chapeau/io/MalformedXmlException;" .null := D834 (Or.inr (wd hw 21 rfl)) (ty := (.object "com/example/chapeau/chapeau/io/MalformedXmlException")) (by decide)
          refine g_dup C X834 d0_142 rfl ?_
          refine g_lloadN C X834 d0_143 rfl ?_
          refine g_lload C X834 d0_144 rfl ?_
          refine g_lload C X834 d0_146 rfl ?_
          refine g_aload C X834 d0_148 rfl rfl ?_
          refine g_special (argsL := [(.long i0), (.long i0), (.long i2), .null]) (st := [(.ref b834)]) C X834 rfl (wd hw 3 rfl) (wd hw 4 rfl) (wd hw 5 rfl) (by decide) (pay_of (W' := 1) (rCN l hw X834.ext b834 i0 i0 i2 A834 F_records_b834 F_written_b834 F_damaged_b834 F_fault_b834 n_b834) C.hZ (wd hw 5 rfl) (wd hw 2 rfl) (by decide) (by decide)) pd_24 rfl rfl _ rfl (Nat.le_of_eq rfl) d0_150 (by decide) (by decide) (fun T835 h835 v835 q835 X835 => ?_)
          obtain ⟨rfl, K835, F0_835, F1_835, F2_835⟩ := q835
          show Goes p e below _ T835 (mkF m 153 #[.val (.long i0), .second, .val (.long i1), .second, .val (.long i2), .second, .val (.int i3), .val (.int 1), .val (.int 0), .val (.int 0), .val (.long i0), .second, .val (.long i2), .second, .val .null, .val (.int 0), .unset] [(.ref b834)])
          refine g_astore C X835 d0_153 rfl (l' := #[.val (.long i0), .second, .val (.long i1), .second, .val (.long i2), .second, .val (.int i3), .val (.int 1), .val (.int 0), .val (.int 0), .val (.long i0), .second, .val (.long i2), .second, .val .null, .val (.int 0), .val (.ref b834)]) rfl ?_
          refine g_aload C X835 d0_155 rfl rfl ?_
          have f837 := (Exa.keep A834 K835)
          refine g_virtualP (argsL := []) (st := []) C X835 (wd hw 22 rfl) (wd hw 23 rfl) (nf_of C (wd hw 25 rfl) rfl rfl) (wd hw 25 rfl) (wd hw 24 rfl) (by decide) f837 (pay_of (W' := 0) (rWa l hw X835.ext b834 i0 i0 i2 F0_835 F1_835 F2_835 c85_826) C.hZ (wd hw 26 rfl) (wd hw 2 rfl) (by decide) (by decide)) pd_11 rfl rfl _ rfl (Nat.le_of_eq rfl) d0_157 (by decide) (by decide) (fun T836 X836 => ?_)
          refine g_iload C X836 d0_160 rfl ?_
          refine g_icmpn (hI_ne _ _) C X836 d0_162 (fun q => absurd (by decide) q) (fun _ => ?_)
          refine g_iconst 1 C X836 d0_165 rfl ?_
          refine g_goto C X836 d0_166 ?_
          have sz838 : h.size ≤ b834 := by rw [g_b834]; exact (Keep.refl h []).1
          have kp839 := (Keep.refl h []).ext E834
          have kp840 := kp839.trans K835 (allS (Or.inr sz838) all0)
          exact goes_X I0.1 kp840.1 (g_retN C X836 (by simp) d0_170 (1 : Int32) rfl (by decide) (by decide) ⟨rfl, rfl⟩)
      · refine g_iconst 1 C X0 d0_35 rfl ?_
        refine g_goto C X0 d0_36 ?_
        refine g_istore C X0 d0_40 (l' := #[.val (.long i0), .second, .val (.long i1), .second, .val (.long i2), .second, .val (.int i3), .val (.int 1), .val (.int 0), .val (.int 1), .unset, .unset, .unset, .unset, .unset, .unset, .unset]) rfl ?_
        refine g_iload C X0 d0_42 rfl ?_
        refine g_if (h0_eq _) C X0 d0_44 (fun q => absurd q (by decide)) (fun _ => ?_)
        refine g_lloadN C X0 d0_47 rfl ?_
        refine g_lstore C X0 d0_48 (l' := #[.val (.long i0), .second, .val (.long i1), .second, .val (.long i2), .second, .val (.int i3), .val (.int 1), .val (.int 0), .val (.int 1), .val (.long i0), .second, .unset, .unset, .unset, .unset, .unset]) rfl ?_
        refine g_goto C X0 d0_50 ?_
        refine g_iload C X0 d0_70 rfl ?_
        refine g_if (h0_eq _) C X0 d0_72 (fun _ => ?_) (fun q => absurd (by decide) q)
        refine g_lload C X0 d0_81 rfl ?_
        refine g_lconst 0 C X0 d0_83 rfl ?_
        refine g_lcmp C X0 d0_84 ?_
        refine g_if (hL_eq _ _) C X0 d0_85 (fun c85_841 => ?_) (fun c85_841 => ?_)
        · refine g_lconst 1 C X0 d0_95 rfl ?_
          refine g_lstore C X0 d0_96 (l' := #[.val (.long i0), .second, .val (.long i1), .second, .val (.long i2), .second, .val (.int i3), .val (.int 1), .val (.int 0), .val (.int 1), .val (.long i0), .second, .val (.long 1), .second, .unset, .unset, .unset]) rfl ?_
          refine g_aconst_null C X0 d0_98 ?_
          refine g_astore C X0 d0_99 rfl (l' := #[.val (.long i0), .second, .val (.long i1), .second, .val (.long i2), .second, .val (.int i3), .val (.int 1), .val (.int 0), .val (.int 1), .val (.long i0), .second, .val (.long 1), .second, .val .null, .unset, .unset]) rfl ?_
          refine g_iload C X0 d0_101 rfl ?_
          refine g_if (h0_eq _) C X0 d0_103 (fun q => absurd q (by decide)) (fun _ => ?_)
          refine g_new C X0 (wd hw 27 rfl) (wd hw 28 rfl) (wd hw 29 rfl) d0_106 (by decide) (by decide) (fun T842 h842 b842 g_b842 n_b842 X842 E842 A842 D842 M842 => ?_)
          have F_cause_b842 : Fld Z h842 b842 "java/lang/Throwable" "cause" "Ljava/lang/Throwable;" .null := D842 (Or.inl (wd hw 217 rfl)) (ty := (.object "java/lang/Throwable")) (by decide)
          have F_stackTrace_b842 : Fld Z h842 b842 "java/lang/Throwable" "stackTrace" "[Ljava/lang/StackTraceElement;" .null := D842 (Or.inl (wd hw 220 rfl)) (ty := (.array (.object "java/lang/StackTraceElement"))) (by decide)
          have F_suppressedExceptions_b842 : Fld Z h842 b842 "java/lang/Throwable" "suppressedExceptions" "Ljava/util/List;" .null := D842 (Or.inl (wd hw 223 rfl)) (ty := (.object "java/util/List")) (by decide)
          have F_detailMessage_b842 : Fld Z h842 b842 "java/lang/Throwable" "detailMessage" "Ljava/lang/String;" .null := D842 (Or.inl (wd hw 247 rfl)) (ty := (.object "java/lang/String")) (by decide)
          have F_backtrace_b842 : Fld Z h842 b842 "java/lang/Throwable" "backtrace" "Ljava/lang/Object;" .null := D842 (Or.inl (wd hw 248 rfl)) (ty := (.object "java/lang/Object")) (by decide)
          have F_depth_b842 : Fld Z h842 b842 "java/lang/Throwable" "depth" "I" (.int 0) := D842 (Or.inl (wd hw 249 rfl)) (ty := .int) (by decide)
          refine g_dup C X842 d0_109 rfl ?_
          refine g_lloadN C X842 d0_110 rfl ?_
          refine g_l2i C X842 d0_111 ?_
          refine g_lload C X842 d0_112 rfl ?_
          refine g_l2i C X842 d0_114 ?_
          have sz843 : h.size ≤ b842 := by rw [g_b842]; exact (Keep.refl h []).1
          have kp844 := (Keep.refl h []).ext E842
          have I845 := Lits.keep I0 kp844 sf0
          refine g_ldcs 4 C X842 I845 (own_wS hw) (own_EW hw) (by decide +kernel) (wd hw 30 rfl) (vs := [(.int 120)]) (z := 1) ⟨by decide +kernel, by decide +kernel⟩ (by decide) rfl (by decide) (by decide) d0_115 (by decide) (by decide) (fun a846 T846 h846 t846 k_t846 C X846 I846 R846 E846 EA846 FC846 FV846 VA846 N846 => ?_)
          have f847 := (Exa.ext E846 A842)
          have ne848 := N846 _ (Safe.exa C.hZ.alike f847 (by decide) (by decide))
          show Goes p e below _ T846 (mkF m 117 #[.val (.long i0), .second, .val (.long i1), .second, .val (.long i2), .second, .val (.int i3), .val (.int 1), .val (.int 0), .val (.int 1), .val (.long i0), .second, .val (.long 1), .second, .val .null, .unset, .unset] [(.ref a846), (.int (i2.toInt32)), (.int (i1.toInt32)), (.ref b842), (.ref b842)])
          have f849 := (Fld.ext E846 F_cause_b842)
          have f850 := (Fld.ext E846 F_stackTrace_b842)
          have f851 := (Fld.ext E846 F_suppressedExceptions_b842)
          have f852 := (Fld.ext E846 F_backtrace_b842)
          have f853 := (Fld.ext E846 F_detailMessage_b842)
          refine g_specialX (argsL := [(.int (i1.toInt32)), (.int (i2.toInt32)), (.ref a846)]) (st := [(.ref b842)]) C X846 I846 rfl (wd hw 38 rfl) (wd hw 39 rfl) (wd hw 40 rfl) (by decide) (payX_of (W' := 1) (rEx l hw X846.ext b842 (i1.toInt32) (i2.toInt32) a846 z_ SZ hz o1 o2 S1 S2 D1 D2 u0 u1 SU SV ru0 ru1 hl f847 (Unt.ext E846 M842) n_b842 f849 f850 f851 f852 f853 t846 (1 : Int32) EA846 FC846 FV846 (ByS.of VA846) rfl) C.hZ (wd hw 40 rfl) (wd hw 29 rfl) (by decide) (by decide) (own_EW hw) I846 (fun _ q => nomatch q) hKn) pd_25 rfl rfl _ rfl (Nat.le_of_eq rfl) d0_117 (by decide) (by decide) (fun T854 h854 v854 q854 C X854 I854 => ?_)
          subst q854
          show Goes p e below _ T854 (mkF m 120 #[.val (.long i0), .second, .val (.long i1), .second, .val (.long i2), .second, .val (.int i3), .val (.int 1), .val (.int 0), .val (.int 1), .val (.long i0), .second, .val (.long 1), .second, .val .null, .unset, .unset] [(.ref b842)])
          refine g_astore C X854 d0_120 rfl (l' := #[.val (.long i0), .second, .val (.long i1), .second, .val (.long i2), .second, .val (.int i3), .val (.int 1), .val (.int 0), .val (.int 1), .val (.long i0), .second, .val (.long 1), .second, .val (.ref b842), .unset, .unset]) rfl ?_
          refine g_iload C X854 d0_122 rfl ?_
          refine g_if (h0_eq _) C X854 d0_124 (fun q => absurd q (by decide)) (fun _ => ?_)
          refine g_iload C X854 d0_127 rfl ?_
          refine g_if (h0_eq _) C X854 d0_129 (fun _ => ?_) (fun q => absurd (by decide) q)
          refine g_iconst 0 C X854 d0_136 rfl ?_
          refine g_istore C X854 d0_137 (l' := #[.val (.long i0), .second, .val (.long i1), .second, .val (.long i2), .second, .val (.int i3), .val (.int 1), .val (.int 0), .val (.int 1), .val (.long i0), .second, .val (.long 1), .second, .val (.ref b842), .val (.int 0), .unset]) rfl ?_
          refine g_new C X854 (wd hw 0 rfl) (wd hw 1 rfl) (wd hw 2 rfl) d0_139 (by decide) (by decide) (fun T855 h855 b855 g_b855 n_b855 X855 E855 A855 D855 M855 => ?_)
          have F_records_b855 : Fld Z h855 b855 "com/example/chapeau/chapeau/io/CopyReport" "records" "J" (.long 0) := D855 (Or.inr (wd hw 15 rfl)) (ty := .long) (by decide)
          have F_written_b855 : Fld Z h855 b855 "com/example/chapeau/chapeau/io/CopyReport" "written" "J" (.long 0) := D855 (Or.inr (wd hw 17 rfl)) (ty := .long) (by decide)
          have F_damaged_b855 : Fld Z h855 b855 "com/example/chapeau/chapeau/io/CopyReport" "damaged" "J" (.long 0) := D855 (Or.inr (wd hw 19 rfl)) (ty := .long) (by decide)
          have F_fault_b855 : Fld Z h855 b855 "com/example/chapeau/chapeau/io/CopyReport" "fault" "Lcom/example/chapeau/chapeau/io/MalformedXmlException;" .null := D855 (Or.inr (wd hw 21 rfl)) (ty := (.object "com/example/chapeau/chapeau/io/MalformedXmlException")) (by decide)
          refine g_dup C X855 d0_142 rfl ?_
          refine g_lloadN C X855 d0_143 rfl ?_
          refine g_lload C X855 d0_144 rfl ?_
          refine g_lload C X855 d0_146 rfl ?_
          refine g_aload C X855 d0_148 rfl rfl ?_
          refine g_special (argsL := [(.long i0), (.long i0), (.long 1), (.ref b842)]) (st := [(.ref b855)]) C X855 rfl (wd hw 3 rfl) (wd hw 4 rfl) (wd hw 5 rfl) (by decide) (pay_of (W' := 1) (rCF l hw X855.ext b855 i0 i0 (1 : Int64) b842 A855 F_records_b855 F_written_b855 F_damaged_b855 F_fault_b855 n_b855) C.hZ (wd hw 5 rfl) (wd hw 2 rfl) (by decide) (by decide)) pd_24 rfl rfl _ rfl (Nat.le_of_eq rfl) d0_150 (by decide) (by decide) (fun T856 h856 v856 q856 X856 => ?_)
          obtain ⟨rfl, K856, F0_856, F1_856, F2_856⟩ := q856
          show Goes p e below _ T856 (mkF m 153 #[.val (.long i0), .second, .val (.long i1), .second, .val (.long i2), .second, .val (.int i3), .val (.int 1), .val (.int 0), .val (.int 1), .val (.long i0), .second, .val (.long 1), .second, .val (.ref b842), .val (.int 0), .unset] [(.ref b855)])
          refine g_astore C X856 d0_153 rfl (l' := #[.val (.long i0), .second, .val (.long i1), .second, .val (.long i2), .second, .val (.int i3), .val (.int 1), .val (.int 0), .val (.int 1), .val (.long i0), .second, .val (.long 1), .second, .val (.ref b842), .val (.int 0), .val (.ref b855)]) rfl ?_
          refine g_aload C X856 d0_155 rfl rfl ?_
          have f858 := (Exa.keep A855 K856)
          refine g_virtualP (argsL := []) (st := []) C X856 (wd hw 22 rfl) (wd hw 23 rfl) (nf_of C (wd hw 25 rfl) rfl rfl) (wd hw 25 rfl) (wd hw 24 rfl) (by decide) f858 (pay_of (W' := 0) (rWa l hw X856.ext b855 i0 i0 (1 : Int64) F0_856 F1_856 F2_856 (by decide)) C.hZ (wd hw 26 rfl) (wd hw 2 rfl) (by decide) (by decide)) pd_11 rfl rfl _ rfl (Nat.le_of_eq rfl) d0_157 (by decide) (by decide) (fun T857 X857 => ?_)
          refine g_iload C X857 d0_160 rfl ?_
          refine g_icmpn (hI_ne _ _) C X857 d0_162 (fun q => absurd (by decide) q) (fun _ => ?_)
          refine g_iconst 1 C X857 d0_165 rfl ?_
          refine g_goto C X857 d0_166 ?_
          have sz859 : h854.size ≤ b855 := by rw [g_b855]; exact (Keep.refl h854 []).1
          have kp860 := (Keep.refl h854 []).ext E855
          have kp861 := kp860.trans K856 (allS (Or.inr sz859) all0)
          exact goes_X I854 kp861.1 (g_retN C X857 (by simp) d0_170 (1 : Int32) rfl (by decide) (by decide) ⟨rfl, rfl⟩)
        · refine g_lload C X0 d0_88 rfl ?_
          refine g_lstore C X0 d0_90 (l' := #[.val (.long i0), .second, .val (.long i1), .second, .val (.long i2), .second, .val (.int i3), .val (.int 1), .val (.int 0), .val (.int 1), .val (.long i0), .second, .val (.long i2), .second, .unset, .unset, .unset]) rfl ?_
          refine g_goto C X0 d0_92 ?_
          refine g_aconst_null C X0 d0_98 ?_
          refine g_astore C X0 d0_99 rfl (l' := #[.val (.long i0), .second, .val (.long i1), .second, .val (.long i2), .second, .val (.int i3), .val (.int 1), .val (.int 0), .val (.int 1), .val (.long i0), .second, .val (.long i2), .second, .val .null, .unset, .unset]) rfl ?_
          refine g_iload C X0 d0_101 rfl ?_
          refine g_if (h0_eq _) C X0 d0_103 (fun q => absurd q (by decide)) (fun _ => ?_)
          refine g_new C X0 (wd hw 27 rfl) (wd hw 28 rfl) (wd hw 29 rfl) d0_106 (by decide) (by decide) (fun T862 h862 b862 g_b862 n_b862 X862 E862 A862 D862 M862 => ?_)
          have F_cause_b862 : Fld Z h862 b862 "java/lang/Throwable" "cause" "Ljava/lang/Throwable;" .null := D862 (Or.inl (wd hw 217 rfl)) (ty := (.object "java/lang/Throwable")) (by decide)
          have F_stackTrace_b862 : Fld Z h862 b862 "java/lang/Throwable" "stackTrace" "[Ljava/lang/StackTraceElement;" .null := D862 (Or.inl (wd hw 220 rfl)) (ty := (.array (.object "java/lang/StackTraceElement"))) (by decide)
          have F_suppressedExceptions_b862 : Fld Z h862 b862 "java/lang/Throwable" "suppressedExceptions" "Ljava/util/List;" .null := D862 (Or.inl (wd hw 223 rfl)) (ty := (.object "java/util/List")) (by decide)
          have F_detailMessage_b862 : Fld Z h862 b862 "java/lang/Throwable" "detailMessage" "Ljava/lang/String;" .null := D862 (Or.inl (wd hw 247 rfl)) (ty := (.object "java/lang/String")) (by decide)
          have F_backtrace_b862 : Fld Z h862 b862 "java/lang/Throwable" "backtrace" "Ljava/lang/Object;" .null := D862 (Or.inl (wd hw 248 rfl)) (ty := (.object "java/lang/Object")) (by decide)
          have F_depth_b862 : Fld Z h862 b862 "java/lang/Throwable" "depth" "I" (.int 0) := D862 (Or.inl (wd hw 249 rfl)) (ty := .int) (by decide)
          refine g_dup C X862 d0_109 rfl ?_
          refine g_lloadN C X862 d0_110 rfl ?_
          refine g_l2i C X862 d0_111 ?_
          refine g_lload C X862 d0_112 rfl ?_
          refine g_l2i C X862 d0_114 ?_
          have sz863 : h.size ≤ b862 := by rw [g_b862]; exact (Keep.refl h []).1
          have kp864 := (Keep.refl h []).ext E862
          have I865 := Lits.keep I0 kp864 sf0
          refine g_ldcs 4 C X862 I865 (own_wS hw) (own_EW hw) (by decide +kernel) (wd hw 30 rfl) (vs := [(.int 120)]) (z := 1) ⟨by decide +kernel, by decide +kernel⟩ (by decide) rfl (by decide) (by decide) d0_115 (by decide) (by decide) (fun a866 T866 h866 t866 k_t866 C X866 I866 R866 E866 EA866 FC866 FV866 VA866 N866 => ?_)
          have f867 := (Exa.ext E866 A862)
          have ne868 := N866 _ (Safe.exa C.hZ.alike f867 (by decide) (by decide))
          show Goes p e below _ T866 (mkF m 117 #[.val (.long i0), .second, .val (.long i1), .second, .val (.long i2), .second, .val (.int i3), .val (.int 1), .val (.int 0), .val (.int 1), .val (.long i0), .second, .val (.long i2), .second, .val .null, .unset, .unset] [(.ref a866), (.int (i2.toInt32)), (.int (i1.toInt32)), (.ref b862), (.ref b862)])
          have f869 := (Fld.ext E866 F_cause_b862)
          have f870 := (Fld.ext E866 F_stackTrace_b862)
          have f871 := (Fld.ext E866 F_suppressedExceptions_b862)
          have f872 := (Fld.ext E866 F_backtrace_b862)
          have f873 := (Fld.ext E866 F_detailMessage_b862)
          refine g_specialX (argsL := [(.int (i1.toInt32)), (.int (i2.toInt32)), (.ref a866)]) (st := [(.ref b862)]) C X866 I866 rfl (wd hw 38 rfl) (wd hw 39 rfl) (wd hw 40 rfl) (by decide) (payX_of (W' := 1) (rEx l hw X866.ext b862 (i1.toInt32) (i2.toInt32) a866 z_ SZ hz o1 o2 S1 S2 D1 D2 u0 u1 SU SV ru0 ru1 hl f867 (Unt.ext E866 M862) n_b862 f869 f870 f871 f872 f873 t866 (1 : Int32) EA866 FC866 FV866 (ByS.of VA866) rfl) C.hZ (wd hw 40 rfl) (wd hw 29 rfl) (by decide) (by decide) (own_EW hw) I866 (fun _ q => nomatch q) hKn) pd_25 rfl rfl _ rfl (Nat.le_of_eq rfl) d0_117 (by decide) (by decide) (fun T874 h874 v874 q874 C X874 I874 => ?_)
          subst q874
          show Goes p e below _ T874 (mkF m 120 #[.val (.long i0), .second, .val (.long i1), .second, .val (.long i2), .second, .val (.int i3), .val (.int 1), .val (.int 0), .val (.int 1), .val (.long i0), .second, .val (.long i2), .second, .val .null, .unset, .unset] [(.ref b862)])
          refine g_astore C X874 d0_120 rfl (l' := #[.val (.long i0), .second, .val (.long i1), .second, .val (.long i2), .second, .val (.int i3), .val (.int 1), .val (.int 0), .val (.int 1), .val (.long i0), .second, .val (.long i2), .second, .val (.ref b862), .unset, .unset]) rfl ?_
          refine g_iload C X874 d0_122 rfl ?_
          refine g_if (h0_eq _) C X874 d0_124 (fun q => absurd q (by decide)) (fun _ => ?_)
          refine g_iload C X874 d0_127 rfl ?_
          refine g_if (h0_eq _) C X874 d0_129 (fun _ => ?_) (fun q => absurd (by decide) q)
          refine g_iconst 0 C X874 d0_136 rfl ?_
          refine g_istore C X874 d0_137 (l' := #[.val (.long i0), .second, .val (.long i1), .second, .val (.long i2), .second, .val (.int i3), .val (.int 1), .val (.int 0), .val (.int 1), .val (.long i0), .second, .val (.long i2), .second, .val (.ref b862), .val (.int 0), .unset]) rfl ?_
          refine g_new C X874 (wd hw 0 rfl) (wd hw 1 rfl) (wd hw 2 rfl) d0_139 (by decide) (by decide) (fun T875 h875 b875 g_b875 n_b875 X875 E875 A875 D875 M875 => ?_)
          have F_records_b875 : Fld Z h875 b875 "com/example/chapeau/chapeau/io/CopyReport" "records" "J" (.long 0) := D875 (Or.inr (wd hw 15 rfl)) (ty := .long) (by decide)
          have F_written_b875 : Fld Z h875 b875 "com/example/chapeau/chapeau/io/CopyReport" "written" "J" (.long 0) := D875 (Or.inr (wd hw 17 rfl)) (ty := .long) (by decide)
          have F_damaged_b875 : Fld Z h875 b875 "com/example/chapeau/chapeau/io/CopyReport" "damaged" "J" (.long 0) := D875 (Or.inr (wd hw 19 rfl)) (ty := .long) (by decide)
          have F_fault_b875 : Fld Z h875 b875 "com/example/chapeau/chapeau/io/CopyReport" "fault" "Lcom/example/chapeau/chapeau/io/MalformedXmlException;" .null := D875 (Or.inr (wd hw 21 rfl)) (ty := (.object "com/example/chapeau/chapeau/io/MalformedXmlException")) (by decide)
          refine g_dup C X875 d0_142 rfl ?_
          refine g_lloadN C X875 d0_143 rfl ?_
          refine g_lload C X875 d0_144 rfl ?_
          refine g_lload C X875 d0_146 rfl ?_
          refine g_aload C X875 d0_148 rfl rfl ?_
          refine g_special (argsL := [(.long i0), (.long i0), (.long i2), (.ref b862)]) (st := [(.ref b875)]) C X875 rfl (wd hw 3 rfl) (wd hw 4 rfl) (wd hw 5 rfl) (by decide) (pay_of (W' := 1) (rCF l hw X875.ext b875 i0 i0 i2 b862 A875 F_records_b875 F_written_b875 F_damaged_b875 F_fault_b875 n_b875) C.hZ (wd hw 5 rfl) (wd hw 2 rfl) (by decide) (by decide)) pd_24 rfl rfl _ rfl (Nat.le_of_eq rfl) d0_150 (by decide) (by decide) (fun T876 h876 v876 q876 X876 => ?_)
          obtain ⟨rfl, K876, F0_876, F1_876, F2_876⟩ := q876
          show Goes p e below _ T876 (mkF m 153 #[.val (.long i0), .second, .val (.long i1), .second, .val (.long i2), .second, .val (.int i3), .val (.int 1), .val (.int 0), .val (.int 1), .val (.long i0), .second, .val (.long i2), .second, .val (.ref b862), .val (.int 0), .unset] [(.ref b875)])
          refine g_astore C X876 d0_153 rfl (l' := #[.val (.long i0), .second, .val (.long i1), .second, .val (.long i2), .second, .val (.int i3), .val (.int 1), .val (.int 0), .val (.int 1), .val (.long i0), .second, .val (.long i2), .second, .val (.ref b862), .val (.int 0), .val (.ref b875)]) rfl ?_
          refine g_aload C X876 d0_155 rfl rfl ?_
          have f878 := (Exa.keep A875 K876)
          refine g_virtualP (argsL := []) (st := []) C X876 (wd hw 22 rfl) (wd hw 23 rfl) (nf_of C (wd hw 25 rfl) rfl rfl) (wd hw 25 rfl) (wd hw 24 rfl) (by decide) f878 (pay_of (W' := 0) (rWa l hw X876.ext b875 i0 i0 i2 F0_876 F1_876 F2_876 c85_841) C.hZ (wd hw 26 rfl) (wd hw 2 rfl) (by decide) (by decide)) pd_11 rfl rfl _ rfl (Nat.le_of_eq rfl) d0_157 (by decide) (by decide) (fun T877 X877 => ?_)
          refine g_iload C X877 d0_160 rfl ?_
          refine g_icmpn (hI_ne _ _) C X877 d0_162 (fun q => absurd (by decide) q) (fun _ => ?_)
          refine g_iconst 1 C X877 d0_165 rfl ?_
          refine g_goto C X877 d0_166 ?_
          have sz879 : h874.size ≤ b875 := by rw [g_b875]; exact (Keep.refl h874 []).1
          have kp880 := (Keep.refl h874 []).ext E875
          have kp881 := kp880.trans K876 (allS (Or.inr sz879) all0)
          exact goes_X I874 kp881.1 (g_retN C X877 (by simp) d0_170 (1 : Int32) rfl (by decide) (by decide) ⟨rfl, rfl⟩)
    · refine g_iconst 1 C X0 d0_21 rfl ?_
      refine g_goto C X0 d0_22 ?_
      refine g_istore C X0 d0_26 (l' := #[.val (.long i0), .second, .val (.long i1), .second, .val (.long i2), .second, .val (.int i3), .val (.int 1), .val (.int 1), .unset, .unset, .unset, .unset, .unset, .unset, .unset, .unset]) rfl ?_
      refine g_iload C X0 d0_28 rfl ?_
      refine g_iconst 4 C X0 d0_30 rfl ?_
      refine g_iand C X0 d0_31 ?_
      refine g_if (h0_eq _) C X0 d0_32 (fun c32_882 => ?_) (fun c32_882 => ?_)
      · refine g_iconst 0 C X0 d0_39 rfl ?_
        refine g_istore C X0 d0_40 (l' := #[.val (.long i0), .second, .val (.long i1), .second, .val (.long i2), .second, .val (.int i3), .val (.int 1), .val (.int 1), .val (.int 0), .unset, .unset, .unset, .unset, .unset, .unset, .unset]) rfl ?_
        refine g_iload C X0 d0_42 rfl ?_
        refine g_if (h0_eq _) C X0 d0_44 (fun q => absurd q (by decide)) (fun _ => ?_)
        refine g_lloadN C X0 d0_47 rfl ?_
        refine g_lstore C X0 d0_48 (l' := #[.val (.long i0), .second, .val (.long i1), .second, .val (.long i2), .second, .val (.int i3), .val (.int 1), .val (.int 1), .val (.int 0), .val (.long i0), .second, .unset, .unset, .unset, .unset, .unset]) rfl ?_
        refine g_goto C X0 d0_50 ?_
        refine g_iload C X0 d0_70 rfl ?_
        refine g_if (h0_eq _) C X0 d0_72 (fun q => absurd q (by decide)) (fun _ => ?_)
        refine g_lconst 0 C X0 d0_75 rfl ?_
        refine g_lstore C X0 d0_76 (l' := #[.val (.long i0), .second, .val (.long i1), .second, .val (.long i2), .second, .val (.int i3), .val (.int 1), .val (.int 1), .val (.int 0), .val (.long i0), .second, .val (.long 0), .second, .unset, .unset, .unset]) rfl ?_
        refine g_goto C X0 d0_78 ?_
        refine g_aconst_null C X0 d0_98 ?_
        refine g_astore C X0 d0_99 rfl (l' := #[.val (.long i0), .second, .val (.long i1), .second, .val (.long i2), .second, .val (.int i3), .val (.int 1), .val (.int 1), .val (.int 0), .val (.long i0), .second, .val (.long 0), .second, .val .null, .unset, .unset]) rfl ?_
        refine g_iload C X0 d0_101 rfl ?_
        refine g_if (h0_eq _) C X0 d0_103 (fun _ => ?_) (fun q => absurd (by decide) q)
        refine g_iload C X0 d0_122 rfl ?_
        refine g_if (h0_eq _) C X0 d0_124 (fun q => absurd q (by decide)) (fun _ => ?_)
        refine g_iload C X0 d0_127 rfl ?_
        refine g_if (h0_eq _) C X0 d0_129 (fun q => absurd q (by decide)) (fun _ => ?_)
        refine g_iconst 1 C X0 d0_132 rfl ?_
        refine g_goto C X0 d0_133 ?_
        refine g_istore C X0 d0_137 (l' := #[.val (.long i0), .second, .val (.long i1), .second, .val (.long i2), .second, .val (.int i3), .val (.int 1), .val (.int 1), .val (.int 0), .val (.long i0), .second, .val (.long 0), .second, .val .null, .val (.int 1), .unset]) rfl ?_
        refine g_new C X0 (wd hw 0 rfl) (wd hw 1 rfl) (wd hw 2 rfl) d0_139 (by decide) (by decide) (fun T883 h883 b883 g_b883 n_b883 X883 E883 A883 D883 M883 => ?_)
        have F_records_b883 : Fld Z h883 b883 "com/example/chapeau/chapeau/io/CopyReport" "records" "J" (.long 0) := D883 (Or.inr (wd hw 15 rfl)) (ty := .long) (by decide)
        have F_written_b883 : Fld Z h883 b883 "com/example/chapeau/chapeau/io/CopyReport" "written" "J" (.long 0) := D883 (Or.inr (wd hw 17 rfl)) (ty := .long) (by decide)
        have F_damaged_b883 : Fld Z h883 b883 "com/example/chapeau/chapeau/io/CopyReport" "damaged" "J" (.long 0) := D883 (Or.inr (wd hw 19 rfl)) (ty := .long) (by decide)
        have F_fault_b883 : Fld Z h883 b883 "com/example/chapeau/chapeau/io/CopyReport" "fault" "Lcom/example/chapeau/chapeau/io/MalformedXmlException;" .null := D883 (Or.inr (wd hw 21 rfl)) (ty := (.object "com/example/chapeau/chapeau/io/MalformedXmlException")) (by decide)
        refine g_dup C X883 d0_142 rfl ?_
        refine g_lloadN C X883 d0_143 rfl ?_
        refine g_lload C X883 d0_144 rfl ?_
        refine g_lload C X883 d0_146 rfl ?_
        refine g_aload C X883 d0_148 rfl rfl ?_
        refine g_special (argsL := [(.long i0), (.long i0), (.long 0), .null]) (st := [(.ref b883)]) C X883 rfl (wd hw 3 rfl) (wd hw 4 rfl) (wd hw 5 rfl) (by decide) (pay_of (W' := 1) (rCN l hw X883.ext b883 i0 i0 (0 : Int64) A883 F_records_b883 F_written_b883 F_damaged_b883 F_fault_b883 n_b883) C.hZ (wd hw 5 rfl) (wd hw 2 rfl) (by decide) (by decide)) pd_24 rfl rfl _ rfl (Nat.le_of_eq rfl) d0_150 (by decide) (by decide) (fun T884 h884 v884 q884 X884 => ?_)
        obtain ⟨rfl, K884, F0_884, F1_884, F2_884⟩ := q884
        show Goes p e below _ T884 (mkF m 153 #[.val (.long i0), .second, .val (.long i1), .second, .val (.long i2), .second, .val (.int i3), .val (.int 1), .val (.int 1), .val (.int 0), .val (.long i0), .second, .val (.long 0), .second, .val .null, .val (.int 1), .unset] [(.ref b883)])
        refine g_astore C X884 d0_153 rfl (l' := #[.val (.long i0), .second, .val (.long i1), .second, .val (.long i2), .second, .val (.int i3), .val (.int 1), .val (.int 1), .val (.int 0), .val (.long i0), .second, .val (.long 0), .second, .val .null, .val (.int 1), .val (.ref b883)]) rfl ?_
        refine g_aload C X884 d0_155 rfl rfl ?_
        have f886 := (Exa.keep A883 K884)
        refine g_virtualP (argsL := []) (st := []) C X884 (wd hw 22 rfl) (wd hw 23 rfl) (nf_of C (wd hw 25 rfl) rfl rfl) (wd hw 25 rfl) (wd hw 24 rfl) (by decide) f886 (pay_of (W' := 0) (rW1 l hw X884.ext b883 i0 i0 (0 : Int64) F0_884 F1_884 F2_884 rfl rfl) C.hZ (wd hw 26 rfl) (wd hw 2 rfl) (by decide) (by decide)) pd_11 rfl rfl _ rfl (Nat.le_of_eq rfl) d0_157 (by decide) (by decide) (fun T885 X885 => ?_)
        refine g_iload C X885 d0_160 rfl ?_
        refine g_icmpn (hI_ne _ _) C X885 d0_162 (fun q => absurd (by decide) q) (fun _ => ?_)
        refine g_iconst 1 C X885 d0_165 rfl ?_
        refine g_goto C X885 d0_166 ?_
        have sz887 : h.size ≤ b883 := by rw [g_b883]; exact (Keep.refl h []).1
        have kp888 := (Keep.refl h []).ext E883
        have kp889 := kp888.trans K884 (allS (Or.inr sz887) all0)
        exact goes_X I0.1 kp889.1 (g_retN C X885 (by simp) d0_170 (1 : Int32) rfl (by decide) (by decide) ⟨rfl, rfl⟩)
      · refine g_iconst 1 C X0 d0_35 rfl ?_
        refine g_goto C X0 d0_36 ?_
        refine g_istore C X0 d0_40 (l' := #[.val (.long i0), .second, .val (.long i1), .second, .val (.long i2), .second, .val (.int i3), .val (.int 1), .val (.int 1), .val (.int 1), .unset, .unset, .unset, .unset, .unset, .unset, .unset]) rfl ?_
        refine g_iload C X0 d0_42 rfl ?_
        refine g_if (h0_eq _) C X0 d0_44 (fun q => absurd q (by decide)) (fun _ => ?_)
        refine g_lloadN C X0 d0_47 rfl ?_
        refine g_lstore C X0 d0_48 (l' := #[.val (.long i0), .second, .val (.long i1), .second, .val (.long i2), .second, .val (.int i3), .val (.int 1), .val (.int 1), .val (.int 1), .val (.long i0), .second, .unset, .unset, .unset, .unset, .unset]) rfl ?_
        refine g_goto C X0 d0_50 ?_
        refine g_iload C X0 d0_70 rfl ?_
        refine g_if (h0_eq _) C X0 d0_72 (fun q => absurd q (by decide)) (fun _ => ?_)
        refine g_lconst 0 C X0 d0_75 rfl ?_
        refine g_lstore C X0 d0_76 (l' := #[.val (.long i0), .second, .val (.long i1), .second, .val (.long i2), .second, .val (.int i3), .val (.int 1), .val (.int 1), .val (.int 1), .val (.long i0), .second, .val (.long 0), .second, .unset, .unset, .unset]) rfl ?_
        refine g_goto C X0 d0_78 ?_
        refine g_aconst_null C X0 d0_98 ?_
        refine g_astore C X0 d0_99 rfl (l' := #[.val (.long i0), .second, .val (.long i1), .second, .val (.long i2), .second, .val (.int i3), .val (.int 1), .val (.int 1), .val (.int 1), .val (.long i0), .second, .val (.long 0), .second, .val .null, .unset, .unset]) rfl ?_
        refine g_iload C X0 d0_101 rfl ?_
        refine g_if (h0_eq _) C X0 d0_103 (fun q => absurd q (by decide)) (fun _ => ?_)
        refine g_new C X0 (wd hw 27 rfl) (wd hw 28 rfl) (wd hw 29 rfl) d0_106 (by decide) (by decide) (fun T890 h890 b890 g_b890 n_b890 X890 E890 A890 D890 M890 => ?_)
        have F_cause_b890 : Fld Z h890 b890 "java/lang/Throwable" "cause" "Ljava/lang/Throwable;" .null := D890 (Or.inl (wd hw 217 rfl)) (ty := (.object "java/lang/Throwable")) (by decide)
        have F_stackTrace_b890 : Fld Z h890 b890 "java/lang/Throwable" "stackTrace" "[Ljava/lang/StackTraceElement;" .null := D890 (Or.inl (wd hw 220 rfl)) (ty := (.array (.object "java/lang/StackTraceElement"))) (by decide)
        have F_suppressedExceptions_b890 : Fld Z h890 b890 "java/lang/Throwable" "suppressedExceptions" "Ljava/util/List;" .null := D890 (Or.inl (wd hw 223 rfl)) (ty := (.object "java/util/List")) (by decide)
        have F_detailMessage_b890 : Fld Z h890 b890 "java/lang/Throwable" "detailMessage" "Ljava/lang/String;" .null := D890 (Or.inl (wd hw 247 rfl)) (ty := (.object "java/lang/String")) (by decide)
        have F_backtrace_b890 : Fld Z h890 b890 "java/lang/Throwable" "backtrace" "Ljava/lang/Object;" .null := D890 (Or.inl (wd hw 248 rfl)) (ty := (.object "java/lang/Object")) (by decide)
        have F_depth_b890 : Fld Z h890 b890 "java/lang/Throwable" "depth" "I" (.int 0) := D890 (Or.inl (wd hw 249 rfl)) (ty := .int) (by decide)
        refine g_dup C X890 d0_109 rfl ?_
        refine g_lloadN C X890 d0_110 rfl ?_
        refine g_l2i C X890 d0_111 ?_
        refine g_lload C X890 d0_112 rfl ?_
        refine g_l2i C X890 d0_114 ?_
        have sz891 : h.size ≤ b890 := by rw [g_b890]; exact (Keep.refl h []).1
        have kp892 := (Keep.refl h []).ext E890
        have I893 := Lits.keep I0 kp892 sf0
        refine g_ldcs 4 C X890 I893 (own_wS hw) (own_EW hw) (by decide +kernel) (wd hw 30 rfl) (vs := [(.int 120)]) (z := 1) ⟨by decide +kernel, by decide +kernel⟩ (by decide) rfl (by decide) (by decide) d0_115 (by decide) (by decide) (fun a894 T894 h894 t894 k_t894 C X894 I894 R894 E894 EA894 FC894 FV894 VA894 N894 => ?_)
        have f895 := (Exa.ext E894 A890)
        have ne896 := N894 _ (Safe.exa C.hZ.alike f895 (by decide) (by decide))
        show Goes p e below _ T894 (mkF m 117 #[.val (.long i0), .second, .val (.long i1), .second, .val (.long i2), .second, .val (.int i3), .val (.int 1), .val (.int 1), .val (.int 1), .val (.long i0), .second, .val (.long 0), .second, .val .null, .unset, .unset] [(.ref a894), (.int (i2.toInt32)), (.int (i1.toInt32)), (.ref b890), (.ref b890)])
        have f897 := (Fld.ext E894 F_cause_b890)
        have f898 := (Fld.ext E894 F_stackTrace_b890)
        have f899 := (Fld.ext E894 F_suppressedExceptions_b890)
        have f900 := (Fld.ext E894 F_backtrace_b890)
        have f901 := (Fld.ext E894 F_detailMessage_b890)
        refine g_specialX (argsL := [(.int (i1.toInt32)), (.int (i2.toInt32)), (.ref a894)]) (st := [(.ref b890)]) C X894 I894 rfl (wd hw 38 rfl) (wd hw 39 rfl) (wd hw 40 rfl) (by decide) (payX_of (W' := 1) (rEx l hw X894.ext b890 (i1.toInt32) (i2.toInt32) a894 z_ SZ hz o1 o2 S1 S2 D1 D2 u0 u1 SU SV ru0 ru1 hl f895 (Unt.ext E894 M890) n_b890 f897 f898 f899 f900 f901 t894 (1 : Int32) EA894 FC894 FV894 (ByS.of VA894) rfl) C.hZ (wd hw 40 rfl) (wd hw 29 rfl) (by decide) (by decide) (own_EW hw) I894 (fun _ q => nomatch q) hKn) pd_25 rfl rfl _ rfl (Nat.le_of_eq rfl) d0_117 (by decide) (by decide) (fun T902 h902 v902 q902 C X902 I902 => ?_)
        subst q902
        show Goes p e below _ T902 (mkF m 120 #[.val (.long i0), .second, .val (.long i1), .second, .val (.long i2), .second, .val (.int i3), .val (.int 1), .val (.int 1), .val (.int 1), .val (.long i0), .second, .val (.long 0), .second, .val .null, .unset, .unset] [(.ref b890)])
        refine g_astore C X902 d0_120 rfl (l' := #[.val (.long i0), .second, .val (.long i1), .second, .val (.long i2), .second, .val (.int i3), .val (.int 1), .val (.int 1), .val (.int 1), .val (.long i0), .second, .val (.long 0), .second, .val (.ref b890), .unset, .unset]) rfl ?_
        refine g_iload C X902 d0_122 rfl ?_
        refine g_if (h0_eq _) C X902 d0_124 (fun q => absurd q (by decide)) (fun _ => ?_)
        refine g_iload C X902 d0_127 rfl ?_
        refine g_if (h0_eq _) C X902 d0_129 (fun q => absurd q (by decide)) (fun _ => ?_)
        refine g_iconst 1 C X902 d0_132 rfl ?_
        refine g_goto C X902 d0_133 ?_
        refine g_istore C X902 d0_137 (l' := #[.val (.long i0), .second, .val (.long i1), .second, .val (.long i2), .second, .val (.int i3), .val (.int 1), .val (.int 1), .val (.int 1), .val (.long i0), .second, .val (.long 0), .second, .val (.ref b890), .val (.int 1), .unset]) rfl ?_
        refine g_new C X902 (wd hw 0 rfl) (wd hw 1 rfl) (wd hw 2 rfl) d0_139 (by decide) (by decide) (fun T903 h903 b903 g_b903 n_b903 X903 E903 A903 D903 M903 => ?_)
        have F_records_b903 : Fld Z h903 b903 "com/example/chapeau/chapeau/io/CopyReport" "records" "J" (.long 0) := D903 (Or.inr (wd hw 15 rfl)) (ty := .long) (by decide)
        have F_written_b903 : Fld Z h903 b903 "com/example/chapeau/chapeau/io/CopyReport" "written" "J" (.long 0) := D903 (Or.inr (wd hw 17 rfl)) (ty := .long) (by decide)
        have F_damaged_b903 : Fld Z h903 b903 "com/example/chapeau/chapeau/io/CopyReport" "damaged" "J" (.long 0) := D903 (Or.inr (wd hw 19 rfl)) (ty := .long) (by decide)
        have F_fault_b903 : Fld Z h903 b903 "com/example/chapeau/chapeau/io/CopyReport" "fault" "Lcom/example/chapeau/chapeau/io/MalformedXmlException;" .null := D903 (Or.inr (wd hw 21 rfl)) (ty := (.object "com/example/chapeau/chapeau/io/MalformedXmlException")) (by decide)
        refine g_dup C X903 d0_142 rfl ?_
        refine g_lloadN C X903 d0_143 rfl ?_
        refine g_lload C X903 d0_144 rfl ?_
        refine g_lload C X903 d0_146 rfl ?_
        refine g_aload C X903 d0_148 rfl rfl ?_
        refine g_special (argsL := [(.long i0), (.long i0), (.long 0), (.ref b890)]) (st := [(.ref b903)]) C X903 rfl (wd hw 3 rfl) (wd hw 4 rfl) (wd hw 5 rfl) (by decide) (pay_of (W' := 1) (rCF l hw X903.ext b903 i0 i0 (0 : Int64) b890 A903 F_records_b903 F_written_b903 F_damaged_b903 F_fault_b903 n_b903) C.hZ (wd hw 5 rfl) (wd hw 2 rfl) (by decide) (by decide)) pd_24 rfl rfl _ rfl (Nat.le_of_eq rfl) d0_150 (by decide) (by decide) (fun T904 h904 v904 q904 X904 => ?_)
        obtain ⟨rfl, K904, F0_904, F1_904, F2_904⟩ := q904
        show Goes p e below _ T904 (mkF m 153 #[.val (.long i0), .second, .val (.long i1), .second, .val (.long i2), .second, .val (.int i3), .val (.int 1), .val (.int 1), .val (.int 1), .val (.long i0), .second, .val (.long 0), .second, .val (.ref b890), .val (.int 1), .unset] [(.ref b903)])
        refine g_astore C X904 d0_153 rfl (l' := #[.val (.long i0), .second, .val (.long i1), .second, .val (.long i2), .second, .val (.int i3), .val (.int 1), .val (.int 1), .val (.int 1), .val (.long i0), .second, .val (.long 0), .second, .val (.ref b890), .val (.int 1), .val (.ref b903)]) rfl ?_
        refine g_aload C X904 d0_155 rfl rfl ?_
        have f906 := (Exa.keep A903 K904)
        refine g_virtualP (argsL := []) (st := []) C X904 (wd hw 22 rfl) (wd hw 23 rfl) (nf_of C (wd hw 25 rfl) rfl rfl) (wd hw 25 rfl) (wd hw 24 rfl) (by decide) f906 (pay_of (W' := 0) (rW1 l hw X904.ext b903 i0 i0 (0 : Int64) F0_904 F1_904 F2_904 rfl rfl) C.hZ (wd hw 26 rfl) (wd hw 2 rfl) (by decide) (by decide)) pd_11 rfl rfl _ rfl (Nat.le_of_eq rfl) d0_157 (by decide) (by decide) (fun T905 X905 => ?_)
        refine g_iload C X905 d0_160 rfl ?_
        refine g_icmpn (hI_ne _ _) C X905 d0_162 (fun q => absurd (by decide) q) (fun _ => ?_)
        refine g_iconst 1 C X905 d0_165 rfl ?_
        refine g_goto C X905 d0_166 ?_
        have sz907 : h902.size ≤ b903 := by rw [g_b903]; exact (Keep.refl h902 []).1
        have kp908 := (Keep.refl h902 []).ext E903
        have kp909 := kp908.trans K904 (allS (Or.inr sz907) all0)
        exact goes_X I902 kp909.1 (g_retN C X905 (by simp) d0_170 (1 : Int32) rfl (by decide) (by decide) ⟨rfl, rfl⟩)
theorem own_hasl {c : Cell} : ∀ (vs : List Value) (i : Nat), (∀ j, j < vs.length → c.slots[i + j]? = vs[j]?) → HasL c i vs
  | [], _, _ => trivial
  | v :: r, i, h => ⟨by have := h 0 (Nat.zero_lt_succ _); simpa using this, own_hasl r (i + 1) fun j hj => by have := h (j + 1) (Nat.succ_lt_succ hj); rw [show i + 1 + j = i + (j + 1) by omega]; simpa using this⟩
theorem own_arrx {args : Array Value} {Z : State} {t : Term} {a : Addr} {cl : Cell} {ty : FieldType} {n : Int32} (dv : Value) (hf : Fit Z) (A : Arr Z Z.heap a cl ty) (ev : t.eval args Z none [] Z = some (.ref a)) (hl : (Term.length t).eval args Z none [] Z = some (.int n)) (hn : ¬ n < 0) : Arv Z Z.heap a cl.cls ty n cl.slots.toList dv := by
  obtain ⟨a', c', e1, e2, e4⟩ := Term.length_spec hl
  cases ev.symm.trans e1
  cases A.1.symm.trans (State.arrayAt?_spec e2).1
  have e3 : cl.slots.size < 2 ^ 31 := by
    by_cases q : cl.slots.size < 2147483648
    · exact q
    · exfalso; simp [Term.eval, ev, e2, q] at hl
  have e5 : cl.slots.size.toInt32 = n := Value.int.inj e4.symm
  have S : cl.slots.size = n.toNatClampNeg := by rw [← e5]; simp only [Int32.toNatClampNeg, len_toInt e3]; rfl
  exact Arv.start hf A e3 e5 hn (by rw [← S]; simp) (own_hasl _ 0 fun j hj => by simp)
theorem own_digits {args : Array Value} {Z : State} {a0 : Array Value} {t : Term} {a : Addr} {n : Int32} (hf : Fit Z) (ev : t.eval args Z none [] Z = some (.ref a)) (E : Exa Z Z.heap a "[B") (hl : (Term.length t).eval args Z none [] Z = some (.int n)) (hn : ¬ n < 0) (wa : (Jvm.Cond.arrayClass .byte).before a0 Z = true) : ByS Z Z.heap a n := by
  obtain ⟨a', c', e1, e2, e4⟩ := Term.length_spec hl
  cases ev.symm.trans e1
  obtain ⟨g1, g2, g3, -⟩ := State.arrayAt?_spec e2
  obtain ⟨cell, kk, x1, x2, -⟩ := E
  cases g1.symm.trans x1
  obtain ⟨cc, kc, comp, y1, y2, y3⟩ := Cond.arrayClass_spec wa
  cases (show Z.vm.findClass "[B" = some cc from y1).symm.trans x2
  have A : Arr Z Z.heap a c' .byte := ⟨g1, ⟨fun k h => (by rw [h] at g3; cases g3), kc, y2, comp, y3⟩, g2⟩
  exact ⟨_, _, .int 0, own_arrx (.int 0) hf A ev hl hn⟩
theorem own_refv {args : Array Value} {first s : State} {o : Option Outcome} {idx : List Nat} {t : Term} (h : (Jvm.Cond.isRef t).value args first o s idx = some true) : ∃ v, t.eval args first o idx s = some v ∧ v.isRef = true := by
  simp only [Cond.value] at h
  cases ht : t.eval args first o idx s with
  | none => simp [ht] at h
  | some v => refine ⟨v, rfl, ?_⟩; cases v <;> simp [ht] at h <;> rfl
theorem comes_1 {Post : Tables → Env → Array Value → State → Outcome → State → Prop} (hpost : ∀ tb e args s v u, (limb_1_1.after args s (.returned v) u = true ∧ limb_1_2.after args s (.returned v) u = true ∧ True) → ReturnedEndW s (.returned v) u (Jvm.fieldLocs frame_1_writes args s ++ Jvm.arrayLocs frame_1_arrays args s ++ Jvm.staticLocs frame_1_statics s) 56 12480 → Post tb e args s (.returned v) u) :
    ArmFor flags0 classFile x code maxLocals ret World_1 tables_1 room_1 Calls_1 rest_1 Pre_1 Post := by
  intro l hfl _ _ p e ha hc hk s m args below hf hA hF happ hP
  obtain ⟨hcalls, hrest, hpre⟩ := hP
  obtain ⟨-, -, -, hnamed, -, -, -, hat⟩ := (Spec.applies_iff hf).mp happ
  obtain ⟨hg, hn⟩ := and_e (Cond.before_iff.mp (show (Jvm.Cond.and given_1 narrow_1).before args s = true from hpre))
  obtain ⟨hcount, hg⟩ := and_e hg
  obtain ⟨ha0, hg⟩ := and_e hg
  obtain ⟨ha1, hg⟩ := and_e hg
  obtain ⟨ha2, hg⟩ := and_e hg
  have ha3 := hg
  obtain ⟨w0, w1, w2, w3, rfl⟩ : ∃ w0 w1 w2 w3 : Value, args = #[w0, w1, w2, w3] := by
    have hs : args.size = 4 := by simpa [Cond.value, given_1] using hcount
    obtain ⟨L⟩ := args
    match L, hs with
    | [w0, w1, w2, w3], _ => exact ⟨w0, w1, w2, w3, rfl⟩
  have hw := fun d (hd : d ∈ tables_1) => atoms_spec (ws := Jvm.Cond.code x code maxLocals ret :: tables_1) hat d (List.mem_cons_of_mem _ hd)
  have hfit : Fit s := fun {y c} hc i hi => by
    obtain ⟨ha, rfl⟩ := Array.getElem?_eq_some_iff.mp hc
    have q := List.all_eq_true.mp ((Array.all_eq_true_iff_forall_mem.mp hF) _ (Array.getElem_mem ha)) i (List.mem_range.mpr hi)
    simpa [Array.getElem?_eq_getElem hi] using q
  obtain ⟨hsets, hown0⟩ := atoms_of _ (rest_1_c_eq ▸ (show rest_1_c.before _ s = true from hrest))
  have hr0 := Cond.before_iff.mp hown0
  obtain ⟨i0, ei0⟩ := isL_v ha0
  obtain rfl : w0 = (.long i0) := Option.some.inj ei0
  obtain ⟨i1, ei1⟩ := isL_v ha1
  obtain rfl : w1 = (.long i1) := Option.some.inj ei1
  obtain ⟨i2, ei2⟩ := isL_v ha2
  obtain rfl : w2 = (.long i2) := Option.some.inj ei2
  obtain ⟨i3, ei3⟩ := is_v ha3
  obtain rfl : w3 = (.int i3) := Option.some.inj ei3
  obtain ⟨z_, vz⟩ := is_v (Cond.before_iff.mp (hsets _ (List.mem_of_getElem? (i := 1) rfl)))
  have SZ := Sta.start vz (Or.inl (hsets _ (List.mem_of_getElem? (i := 0) rfl)))
  have hz := nz_v vz (Cond.before_iff.mp (hsets _ (List.mem_of_getElem? (i := 2) rfl)))
  obtain ⟨o1, ve1⟩ := exa_v (Cond.before_iff.mp (hsets _ (List.mem_of_getElem? (i := 12) rfl)))
  have S1 := Sta.start ve1 (Or.inl (hsets _ (List.mem_of_getElem? (i := 11) rfl)))
  have D1 := own_digits hfit ve1 (Exa.start ve1 (Cond.before_iff.mp (hsets _ (List.mem_of_getElem? (i := 12) rfl)))) (eqI_v (Cond.before_iff.mp (hsets _ (List.mem_of_getElem? (i := 13) rfl)))) (by decide) (wd hw 33 rfl)
  obtain ⟨o2, ve2⟩ := exa_v (Cond.before_iff.mp (hsets _ (List.mem_of_getElem? (i := 17) rfl)))
  have S2 := Sta.start ve2 (Or.inl (hsets _ (List.mem_of_getElem? (i := 16) rfl)))
  have D2 := own_digits hfit ve2 (Exa.start ve2 (Cond.before_iff.mp (hsets _ (List.mem_of_getElem? (i := 17) rfl)))) (eqI_v (Cond.before_iff.mp (hsets _ (List.mem_of_getElem? (i := 18) rfl)))) (by decide) (wd hw 33 rfl)
  have hl : l.stackTraces = true := by unfold Launch.stackTraces; rw [hfl]; decide
  obtain ⟨u0, vu0, ru0⟩ := own_refv (Cond.before_iff.mp (hsets _ (List.mem_of_getElem? (i := 27) rfl)))
  have SU := Sta.start vu0 (Or.inl (hsets _ (List.mem_of_getElem? (i := 26) rfl)))
  obtain ⟨u1, vu1, ru1⟩ := own_refv (Cond.before_iff.mp (hsets _ (List.mem_of_getElem? (i := 32) rfl)))
  have SV := Sta.start vu1 (Or.inl (hsets _ (List.mem_of_getElem? (i := 31) rfl)))
  have hCH : CHv s consts_1 s.vm s.heap := CHv.start (own_EW hw) (fun q hq => hcalls.2.2.1 q hq) (hsets _ (List.mem_of_getElem? (i := 2) rfl)) (wd hw 33 rfl) (wd hw 32 rfl)
  obtain ⟨n, o, h1, h2, h3, _, L, rfl, ⟨N, _, rfl⟩, hq⟩ := rm0 l (Z := s) hw ⟨Nat.le_refl _, fun _ _ q => q⟩ i0 i1 i2 i3 z_ SZ hz o1 o2 S1 S2 D1 D2 u0 u1 SU SV ru0 ru1 hl p e ha hc hk s m _ below hf ((Spec.applies_iff_loose hf).mp happ).1 ⟨rfl, State.Warmed39.refl s, rfl, hCH, sf0⟩ ⟨MethodsKnown_of_tablesKnown hcalls.2.1, FramesKnown_of_framesKnown hcalls.1 hf⟩
  exact ⟨n, _, h1, h2, h3, hpost _ _ _ _ _ _ ⟨Cond.after_iff.mpr rfl, Cond.after_iff.mpr (eq_i res_at (Term.int_eval (1)) rfl), trivial⟩ ⟨hq.1, hq.2.1, hq.2.2.1, (hq.2.2.2.sift fun y hy => Or.inr (N y hy)).mono (by decide) (by decide)⟩⟩
theorem main_1_1 : Claimed_1_1 := comes_1 fun _ _ _ _ _ _ h hF => ⟨h.1, hF⟩
theorem main_1_2 : Claimed_1_2 := comes_1 fun _ _ _ _ _ _ h hF => ⟨h.2.1, hF⟩
end Jvm.Pilot.@@N@@
namespace Jvm.Pilot.@@N@@
open Jvm Jvm.ClassFile Sem Op Lib Jvm.Free Jvm.Stand Jvm.Pilot.@@N@@.Jvm.D
/-! MADE BY PROGRAM (witnessworld.py) out of the Statement's table words and the real class files: 43 classes; the members and pool entries that the words name. The judged class is class 1, her method 1. -/
namespace start1
open Jvm.ClassFile
def u (s : String) : CpInfo := .utf8 (stringToUtf16 s)
/-- a pool by its gaps: so many unusable entries, then the entry; so many at the end -/
def gap : Nat → List CpInfo → List CpInfo
  | 0, r => r
  | n + 1, r => .unusable :: gap n r
def poolList (es : List (Nat × CpInfo)) (last : Nat) : List CpInfo := es.foldr (fun e r => gap e.1 (e.2 :: r)) (gap last [])
def pool (es : List (Nat × CpInfo)) (last : Nat) : Array CpInfo := ⟨poolList es last⟩
def fileOf (pool : Array CpInfo) (this : Nat) (attrs : Array Attribute := #[]) (ms : Array MethodInfo := #[]) (fl : Nat := 33) (sup : Nat := 0) (ifs : Array Nat := #[]) (fds : Array FieldInfo := #[]) : ClassFile where
  minorVersion := 0
  majorVersion := 65
  constantPool := pool
  accessFlags := fl
  thisClass := this
  superClass := sup
  interfaces := ifs
  fields := fds
  methods := ms
  attributes := attrs
def plain (name : String) (sup : Option ClassId) : Class where
  name := name
  kind := .ordinary
  loader := none
  accessFlags := 33
  super := sup
  interfaces := #[]
  cf := none
  fields := #[]
  methods := #[]
  instanceTypes := #[]
  staticTypes := #[]
  resolved := #[]
  callSites := []
  init := .initialized
  statics := none
  mirror := none

def pool0 : Array CpInfo := pool [(5, u "<init>"), (0, u "()V"), (1, .class_ 10), (1, u "java/lang/Object"), (85, u "clone"), (0, u "()Ljava/lang/Object;")] 26

def k0c0 : Code := { maxStack := 0, maxLocals := 1, code := object_method_1_code, exceptionTable := #[], attributes := #[] }
def k0m0 : Method := { name := "<init>", desc := "()V", sig := { parameters := [], returnType := none }, accessFlags := 1, code := some k0c0 }
def k0m1 : Method := { name := "clone", desc := "()Ljava/lang/Object;", sig := { parameters := [], returnType := some (.object "java/lang/Object") }, accessFlags := 260, code := none }
/-- java/lang/Object -/
def k0 : Class := { plain "java/lang/Object" none with
  accessFlags := 33
  interfaces := #[]
  cf := some (fileOf pool0 8 #[] #[{ accessFlags := 1, nameIndex := 5, descriptorIndex := 6, attributes := #[] }, { accessFlags := 260, nameIndex := 96, descriptorIndex := 97, attributes := #[] }] 33 0 #[] #[])
  fields := #[]
  methods := #[k0m0, k0m1]
  instanceTypes := #[]
  staticTypes := #[]
  resolved := Array.replicate 124 none
  statics := none }

def pool1 : Array CpInfo := pool [(2, .class_ 4), (1, u "java/lang/Object"), (0, u "<init>"), (0, u "()V"), (0, .class_ 8), (0, u "com/example/chapeau/chapeau/io/MalformedXmlException"), (0, .string 10), (0, u "x"), (0, .methodref 7 12), (0, .nameAndType 5 13), (0, u "(IILjava/lang/String;)V"), (0, .class_ 15), (0, u "com/example/chapeau/chapeau/io/CopyReport"), (0, .methodref 14 17), (0, .nameAndType 5 18), (0, u "(JJJLcom/example/chapeau/chapeau/io/MalformedXmlException;)V"), (0, .methodref 14 20), (0, .nameAndType 21 22), (0, u "whole"), (0, u "()Z"), (0, .class_ 24), (0, u "com/example/chapeau/chapeau/io/CopyReportWholePinLaw"), (2, u "law"), (0, u "(JJJI)Z")] 3

def k1m0 : Method := { name := "<init>", desc := "()V", sig := { parameters := [], returnType := none }, accessFlags := 2, code := none }
def k1c1 : Code := { maxStack := 9, maxLocals := 17, code := code, exceptionTable := #[], attributes := #[] }
def k1m1 : Method := { name := "law", desc := "(JJJI)Z", sig := { parameters := [.long, .long, .long, .int], returnType := some .boolean }, accessFlags := 9, code := some k1c1 }
/-- com/example/chapeau/chapeau/io/CopyReportWholePinLaw -/
def k1 : Class := { plain "com/example/chapeau/chapeau/io/CopyReportWholePinLaw" (some 0) with
  accessFlags := 49
  interfaces := #[]
  cf := some (fileOf pool1 23 #[] #[{ accessFlags := 2, nameIndex := 5, descriptorIndex := 6, attributes := #[] }, { accessFlags := 9, nameIndex := 27, descriptorIndex := 28, attributes := #[] }] 49 2 #[] #[])
  fields := #[]
  methods := #[k1m0, k1m1]
  instanceTypes := #[]
  staticTypes := #[]
  resolved := Array.replicate 32 none
  statics := none }

def pool2 : Array CpInfo := pool [(1, .methodref 2 3), (0, .class_ 4), (0, .nameAndType 5 6), (0, u "java/lang/Object"), (0, u "<init>"), (0, u "()V"), (0, .class_ 8), (0, u "java/lang/Record")] 13

def k2c0 : Code := { maxStack := 1, maxLocals := 1, code := jdk_30_method_1_code, exceptionTable := #[], attributes := #[] }
def k2m0 : Method := { name := "<init>", desc := "()V", sig := { parameters := [], returnType := none }, accessFlags := 4, code := some k2c0 }
/-- java/lang/Record -/
def k2 : Class := { plain "java/lang/Record" (some 0) with
  accessFlags := 1057
  interfaces := #[]
  cf := some (fileOf pool2 7 #[] #[{ accessFlags := 4, nameIndex := 5, descriptorIndex := 6, attributes := #[] }] 1057 2 #[] #[])
  fields := #[]
  methods := #[k2m0]
  instanceTypes := #[]
  staticTypes := #[]
  resolved := Array.replicate 22 none
  statics := none }

def pool3 : Array CpInfo := pool [(1, .methodref 2 3), (0, .class_ 4), (0, .nameAndType 5 6), (0, u "java/lang/Record"), (0, u "<init>"), (0, u "()V"), (0, .fieldref 8 9), (0, .class_ 10), (0, .nameAndType 11 12), (0, u "com/example/chapeau/chapeau/io/CopyReport"), (0, u "records"), (0, u "J"), (0, .fieldref 8 14), (0, .nameAndType 15 12), (0, u "written"), (0, .fieldref 8 17), (0, .nameAndType 18 12), (0, u "damaged"), (0, .fieldref 8 20), (0, .nameAndType 21 22), (0, u "fault"), (0, u "Lcom/example/chapeau/chapeau/io/MalformedXmlException;"), (12, u "(JJJLcom/example/chapeau/chapeau/io/MalformedXmlException;)V"), (3, u "whole"), (0, u "()Z")] 29

def k3c0 : Code := { maxStack := 3, maxLocals := 8, code := prog_23_method_1_code, exceptionTable := #[], attributes := #[] }
def k3m0 : Method := { name := "<init>", desc := "(JJJLcom/example/chapeau/chapeau/io/MalformedXmlException;)V", sig := { parameters := [.long, .long, .long, (.object "com/example/chapeau/chapeau/io/MalformedXmlException")], returnType := none }, accessFlags := 1, code := some k3c0 }
def k3c1 : Code := { maxStack := 4, maxLocals := 1, code := prog_23_method_2_code, exceptionTable := #[], attributes := #[] }
def k3m1 : Method := { name := "whole", desc := "()Z", sig := { parameters := [], returnType := some .boolean }, accessFlags := 1, code := some k3c1 }
/-- com/example/chapeau/chapeau/io/CopyReport -/
def k3 : Class := { plain "com/example/chapeau/chapeau/io/CopyReport" (some 2) with
  accessFlags := 49
  interfaces := #[]
  cf := some (fileOf pool3 8 #[] #[{ accessFlags := 1, nameIndex := 5, descriptorIndex := 35, attributes := #[] }, { accessFlags := 1, nameIndex := 39, descriptorIndex := 40, attributes := #[] }] 49 2 #[] #[{ accessFlags := 18, nameIndex := 11, descriptorIndex := 12, attributes := #[] }, { accessFlags := 18, nameIndex := 15, descriptorIndex := 12, attributes := #[] }, { accessFlags := 18, nameIndex := 18, descriptorIndex := 12, attributes := #[] }, { accessFlags := 18, nameIndex := 21, descriptorIndex := 22, attributes := #[] }])
  fields := #[{ name := "records", type := .long, accessFlags := 18, slot := 0, constantValue := 0 }, { name := "written", type := .long, accessFlags := 18, slot := 1, constantValue := 0 }, { name := "damaged", type := .long, accessFlags := 18, slot := 2, constantValue := 0 }, { name := "fault", type := (.object "com/example/chapeau/chapeau/io/MalformedXmlException"), accessFlags := 18, slot := 3, constantValue := 0 }]
  methods := #[k3m0, k3m1]
  instanceTypes := #[.long, .long, .long, (.object "com/example/chapeau/chapeau/io/MalformedXmlException")]
  staticTypes := #[]
  resolved := Array.replicate 70 none
  statics := none }

def pool4 : Array CpInfo := pool [(1, .class_ 2), (0, u "java/io/Serializable"), (0, .class_ 4), (0, u "java/lang/Object")] 2

/-- java/io/Serializable -/
def k4 : Class := { plain "java/io/Serializable" (some 0) with
  accessFlags := 1537
  interfaces := #[]
  cf := some (fileOf pool4 1 #[] #[] 1537 3 #[] #[])
  fields := #[]
  methods := #[]
  instanceTypes := #[]
  staticTypes := #[]
  resolved := Array.replicate 7 none
  statics := none }

def pool5 : Array CpInfo := pool [(1, .methodref 2 3), (0, .class_ 4), (0, .nameAndType 5 6), (0, u "java/lang/Object"), (0, u "<init>"), (0, u "()V"), (0, .fieldref 8 9), (0, .class_ 10), (0, .nameAndType 11 12), (0, u "java/lang/Throwable"), (0, u "cause"), (0, u "Ljava/lang/Throwable;"), (0, .fieldref 8 14), (0, .nameAndType 15 16), (0, u "UNASSIGNED_STACK"), (0, u "[Ljava/lang/StackTraceElement;"), (0, .fieldref 8 18), (0, .nameAndType 19 16), (0, u "stackTrace"), (0, .fieldref 8 21), (0, .nameAndType 22 23), (0, u "SUPPRESSED_SENTINEL"), (0, u "Ljava/util/List;"), (0, .fieldref 8 25), (0, .nameAndType 26 23), (0, u "suppressedExceptions"), (0, .methodref 8 28), (0, .nameAndType 29 30), (0, u "fillInStackTrace"), (0, u "()Ljava/lang/Throwable;"), (0, .fieldref 8 32), (0, .nameAndType 33 34), (0, u "detailMessage"), (0, u "Ljava/lang/String;"), (58, .class_ 94), (0, u "java/lang/Throwable$WrappedPrintStream"), (6, .class_ 103), (1, u "java/lang/Throwable$PrintStreamOrWriter"), (61, u "$assertionsDisabled"), (0, u "Z"), (26, .class_ 194), (0, u "java/lang/Throwable$WrappedPrintWriter"), (3, .fieldref 8 199), (0, .nameAndType 200 201), (0, u "backtrace"), (0, u "Ljava/lang/Object;"), (0, .methodref 8 203), (0, .nameAndType 29 204), (0, u "(I)Ljava/lang/Throwable;"), (6, u "depth"), (0, u "I"), (10, u "(Ljava/lang/String;)V"), (45, .class_ 271), (1, u "java/lang/Throwable$SentinelHolder"), (32, u "EMPTY_THROWABLE_ARRAY"), (0, u "[Ljava/lang/Throwable;"), (12, .class_ 319), (0, u "java/io/Serializable"), (0, u "serialVersionUID"), (0, u "J"), (5, u "NULL_CAUSE_MESSAGE"), (0, u "SELF_SUPPRESSION_MESSAGE"), (0, u "CAUSE_CAPTION"), (0, u "SUPPRESSED_CAPTION")] 73

def k5c0 : Code := { maxStack := 2, maxLocals := 1, code := jdk_78_method_1_code, exceptionTable := #[], attributes := #[] }
def k5m0 : Method := { name := "<init>", desc := "()V", sig := { parameters := [], returnType := none }, accessFlags := 1, code := some k5c0 }
def k5c1 : Code := { maxStack := 2, maxLocals := 2, code := jdk_78_method_2_code, exceptionTable := #[], attributes := #[] }
def k5m1 : Method := { name := "<init>", desc := "(Ljava/lang/String;)V", sig := { parameters := [(.object "java/lang/String")], returnType := none }, accessFlags := 1, code := some k5c1 }
def k5c2 : Code := { maxStack := 2, maxLocals := 1, code := ⟨#[0x2a, 0xb4, 0x00, 0x11, 0xc7, 0x00, 0x0a, 0x2a, 0xb4, 0x00, 0xc6, 0xc6, 0x00, 0x10, 0x2a, 0x03, 0xb6, 0x00, 0xca, 0x57, 0x2a, 0xb2, 0x00, 0x0d, 0xb5, 0x00, 0x11, 0x2a, 0xb0]⟩, exceptionTable := #[], attributes := #[] }
def k5m2 : Method := { name := "fillInStackTrace", desc := "()Ljava/lang/Throwable;", sig := { parameters := [], returnType := some (.object "java/lang/Throwable") }, accessFlags := 33, code := some k5c2 }
def k5m3 : Method := { name := "fillInStackTrace", desc := "(I)Ljava/lang/Throwable;", sig := { parameters := [.int], returnType := some (.object "java/lang/Throwable") }, accessFlags := 258, code := none }
/-- java/lang/Throwable -/
def k5 : Class := { plain "java/lang/Throwable" (some 0) with
  accessFlags := 33
  interfaces := #[4]
  cf := some (fileOf pool5 8 #[.nestMembers #[193, 93, 101, 269]] #[{ accessFlags := 1, nameIndex := 5, descriptorIndex := 6, attributes := #[] }, { accessFlags := 1, nameIndex := 5, descriptorIndex := 223, attributes := #[] }, { accessFlags := 33, nameIndex := 29, descriptorIndex := 30, attributes := #[] }, { accessFlags := 258, nameIndex := 29, descriptorIndex := 204, attributes := #[] }] 33 2 #[318] #[{ accessFlags := 26, nameIndex := 320, descriptorIndex := 321, attributes := #[] }, { accessFlags := 130, nameIndex := 200, descriptorIndex := 201, attributes := #[] }, { accessFlags := 2, nameIndex := 33, descriptorIndex := 34, attributes := #[] }, { accessFlags := 26, nameIndex := 15, descriptorIndex := 16, attributes := #[] }, { accessFlags := 2, nameIndex := 11, descriptorIndex := 12, attributes := #[] }, { accessFlags := 2, nameIndex := 19, descriptorIndex := 16, attributes := #[] }, { accessFlags := 130, nameIndex := 211, descriptorIndex := 212, attributes := #[] }, { accessFlags := 26, nameIndex := 22, descriptorIndex := 23, attributes := #[] }, { accessFlags := 2, nameIndex := 26, descriptorIndex := 23, attributes := #[] }, { accessFlags := 26, nameIndex := 327, descriptorIndex := 34, attributes := #[] }, { accessFlags := 26, nameIndex := 328, descriptorIndex := 34, attributes := #[] }, { accessFlags := 26, nameIndex := 329, descriptorIndex := 34, attributes := #[] }, { accessFlags := 26, nameIndex := 330, descriptorIndex := 34, attributes := #[] }, { accessFlags := 26, nameIndex := 304, descriptorIndex := 305, attributes := #[] }, { accessFlags := 4120, nameIndex := 165, descriptorIndex := 166, attributes := #[] }])
  fields := #[{ name := "serialVersionUID", type := .long, accessFlags := 26, slot := 0, constantValue := 0 }, { name := "backtrace", type := (.object "java/lang/Object"), accessFlags := 130, slot := 0, constantValue := 0 }, { name := "detailMessage", type := (.object "java/lang/String"), accessFlags := 2, slot := 1, constantValue := 0 }, { name := "UNASSIGNED_STACK", type := (.array (.object "java/lang/StackTraceElement")), accessFlags := 26, slot := 1, constantValue := 0 }, { name := "cause", type := (.object "java/lang/Throwable"), accessFlags := 2, slot := 2, constantValue := 0 }, { name := "stackTrace", type := (.array (.object "java/lang/StackTraceElement")), accessFlags := 2, slot := 3, constantValue := 0 }, { name := "depth", type := .int, accessFlags := 130, slot := 4, constantValue := 0 }, { name := "SUPPRESSED_SENTINEL", type := (.object "java/util/List"), accessFlags := 26, slot := 2, constantValue := 0 }, { name := "suppressedExceptions", type := (.object "java/util/List"), accessFlags := 2, slot := 5, constantValue := 0 }, { name := "NULL_CAUSE_MESSAGE", type := (.object "java/lang/String"), accessFlags := 26, slot := 3, constantValue := 0 }, { name := "SELF_SUPPRESSION_MESSAGE", type := (.object "java/lang/String"), accessFlags := 26, slot := 4, constantValue := 0 }, { name := "CAUSE_CAPTION", type := (.object "java/lang/String"), accessFlags := 26, slot := 5, constantValue := 0 }, { name := "SUPPRESSED_CAPTION", type := (.object "java/lang/String"), accessFlags := 26, slot := 6, constantValue := 0 }, { name := "EMPTY_THROWABLE_ARRAY", type := (.array (.object "java/lang/Throwable")), accessFlags := 26, slot := 7, constantValue := 0 }, { name := "$assertionsDisabled", type := .boolean, accessFlags := 4120, slot := 8, constantValue := 0 }]
  methods := #[k5m0, k5m1, k5m2, k5m3]
  instanceTypes := #[(.object "java/lang/Object"), (.object "java/lang/String"), (.object "java/lang/Throwable"), (.array (.object "java/lang/StackTraceElement")), .int, (.object "java/util/List")]
  staticTypes := #[.long, (.array (.object "java/lang/StackTraceElement")), (.object "java/util/List"), (.object "java/lang/String"), (.object "java/lang/String"), (.object "java/lang/String"), (.object "java/lang/String"), (.array (.object "java/lang/Throwable")), .boolean]
  resolved := Array.replicate 404 none
  statics := some 0 }

def pool6 : Array CpInfo := pool [(2, .class_ 4), (1, u "java/lang/Throwable"), (0, u "<init>"), (0, u "()V"), (0, .methodref 2 8), (0, .nameAndType 5 9), (0, u "(Ljava/lang/String;)V"), (9, .class_ 20), (0, u "java/lang/Exception"), (0, u "serialVersionUID"), (0, u "J")] 17

def k6m0 : Method := { name := "<init>", desc := "()V", sig := { parameters := [], returnType := none }, accessFlags := 1, code := none }
def k6c1 : Code := { maxStack := 2, maxLocals := 2, code := jdk_59_method_2_code, exceptionTable := #[], attributes := #[] }
def k6m1 : Method := { name := "<init>", desc := "(Ljava/lang/String;)V", sig := { parameters := [(.object "java/lang/String")], returnType := none }, accessFlags := 1, code := some k6c1 }
/-- java/lang/Exception -/
def k6 : Class := { plain "java/lang/Exception" (some 5) with
  accessFlags := 33
  interfaces := #[]
  cf := some (fileOf pool6 19 #[] #[{ accessFlags := 1, nameIndex := 5, descriptorIndex := 6, attributes := #[] }, { accessFlags := 1, nameIndex := 5, descriptorIndex := 9, attributes := #[] }] 33 2 #[] #[{ accessFlags := 24, nameIndex := 21, descriptorIndex := 22, attributes := #[] }])
  fields := #[{ name := "serialVersionUID", type := .long, accessFlags := 24, slot := 0, constantValue := 0 }]
  methods := #[k6m0, k6m1]
  instanceTypes := #[(.object "java/lang/Object"), (.object "java/lang/String"), (.object "java/lang/Throwable"), (.array (.object "java/lang/StackTraceElement")), .int, (.object "java/util/List")]
  staticTypes := #[.long]
  resolved := Array.replicate 40 none
  statics := none }

def pool7 : Array CpInfo := pool [(2, .class_ 4), (1, u "java/lang/Exception"), (0, u "<init>"), (0, u "()V"), (0, .methodref 2 8), (0, .nameAndType 5 9), (0, u "(Ljava/lang/String;)V"), (6, .class_ 17), (0, u "java/io/IOException"), (0, u "serialVersionUID"), (0, u "J")] 14

def k7m0 : Method := { name := "<init>", desc := "()V", sig := { parameters := [], returnType := none }, accessFlags := 1, code := none }
def k7c1 : Code := { maxStack := 2, maxLocals := 2, code := jdk_131_method_2_code, exceptionTable := #[], attributes := #[] }
def k7m1 : Method := { name := "<init>", desc := "(Ljava/lang/String;)V", sig := { parameters := [(.object "java/lang/String")], returnType := none }, accessFlags := 1, code := some k7c1 }
/-- java/io/IOException -/
def k7 : Class := { plain "java/io/IOException" (some 6) with
  accessFlags := 33
  interfaces := #[]
  cf := some (fileOf pool7 16 #[] #[{ accessFlags := 1, nameIndex := 5, descriptorIndex := 6, attributes := #[] }, { accessFlags := 1, nameIndex := 5, descriptorIndex := 9, attributes := #[] }] 33 2 #[] #[{ accessFlags := 24, nameIndex := 18, descriptorIndex := 19, attributes := #[] }])
  fields := #[{ name := "serialVersionUID", type := .long, accessFlags := 24, slot := 0, constantValue := 0 }]
  methods := #[k7m0, k7m1]
  instanceTypes := #[(.object "java/lang/Object"), (.object "java/lang/String"), (.object "java/lang/Throwable"), (.array (.object "java/lang/StackTraceElement")), .int, (.object "java/util/List")]
  staticTypes := #[.long]
  resolved := Array.replicate 34 none
  statics := none }

def pool8 : Array CpInfo := pool [(1, .class_ 2), (0, u "java/lang/StringBuilder"), (0, .methodref 1 4), (0, .nameAndType 5 6), (0, u "<init>"), (0, u "()V"), (0, .methodref 8 9), (0, .class_ 10), (0, .nameAndType 11 12), (0, u "com/example/chapeau/chapeau/io/MalformedXmlException"), (0, u "place"), (0, u "(II)Ljava/lang/String;"), (0, .methodref 1 14), (0, .nameAndType 15 16), (0, u "append"), (0, u "(Ljava/lang/String;)Ljava/lang/StringBuilder;"), (0, .string 18), (0, u ": the XML is not well-formed: "), (0, .methodref 1 20), (0, .nameAndType 21 22), (0, u "toString"), (0, u "()Ljava/lang/String;"), (0, .methodref 24 25), (0, .class_ 26), (0, .nameAndType 5 27), (0, u "java/io/IOException"), (0, u "(Ljava/lang/String;)V"), (0, .string 29), (0, u "a place the parser did not name"), (0, .string 31), (0, u "the end of line "), (0, .methodref 1 33), (0, .nameAndType 15 34), (0, u "(I)Ljava/lang/StringBuilder;"), (0, .string 36), (0, u "line "), (0, .string 38), (0, u ", column "), (0, u "serialVersionUID"), (0, u "J"), (3, u "(IILjava/lang/String;)V")] 5

def k8c0 : Code := { maxStack := 4, maxLocals := 4, code := prog_33_method_1_code, exceptionTable := #[], attributes := #[] }
def k8m0 : Method := { name := "<init>", desc := "(IILjava/lang/String;)V", sig := { parameters := [.int, .int, (.object "java/lang/String")], returnType := none }, accessFlags := 1, code := some k8c0 }
def k8c1 : Code := { maxStack := 3, maxLocals := 2, code := prog_33_method_2_code, exceptionTable := #[], attributes := #[] }
def k8m1 : Method := { name := "place", desc := "(II)Ljava/lang/String;", sig := { parameters := [.int, .int], returnType := some (.object "java/lang/String") }, accessFlags := 10, code := some k8c1 }
/-- com/example/chapeau/chapeau/io/MalformedXmlException -/
def k8 : Class := { plain "com/example/chapeau/chapeau/io/MalformedXmlException" (some 7) with
  accessFlags := 49
  interfaces := #[]
  cf := some (fileOf pool8 8 #[] #[{ accessFlags := 1, nameIndex := 5, descriptorIndex := 44, attributes := #[] }, { accessFlags := 10, nameIndex := 11, descriptorIndex := 12, attributes := #[] }] 49 24 #[] #[{ accessFlags := 26, nameIndex := 39, descriptorIndex := 40, attributes := #[] }])
  fields := #[{ name := "serialVersionUID", type := .long, accessFlags := 26, slot := 0, constantValue := 0 }]
  methods := #[k8m0, k8m1]
  instanceTypes := #[(.object "java/lang/Object"), (.object "java/lang/String"), (.object "java/lang/Throwable"), (.array (.object "java/lang/StackTraceElement")), .int, (.object "java/util/List")]
  staticTypes := #[.long]
  resolved := Array.replicate 50 none
  statics := none }

def pool9 : Array CpInfo := pool [(1, .class_ 2), (0, u "java/lang/Comparable"), (0, .class_ 4), (0, u "java/lang/Object")] 7

/-- java/lang/Comparable -/
def k9 : Class := { plain "java/lang/Comparable" (some 0) with
  accessFlags := 1537
  interfaces := #[]
  cf := some (fileOf pool9 1 #[] #[] 1537 3 #[] #[])
  fields := #[]
  methods := #[]
  instanceTypes := #[]
  staticTypes := #[]
  resolved := Array.replicate 12 none
  statics := none }

def pool10 : Array CpInfo := pool [(2, .class_ 4), (1, u "java/lang/CharSequence"), (42, .class_ 48), (0, u "java/lang/CharSequence$1CodePointIterator"), (10, .class_ 60), (0, u "java/lang/CharSequence$1CharIterator"), (5, .class_ 67), (0, u "java/lang/Object")] 63

/-- java/lang/CharSequence -/
def k10 : Class := { plain "java/lang/CharSequence" (some 0) with
  accessFlags := 1537
  interfaces := #[]
  cf := some (fileOf pool10 2 #[.nestMembers #[47, 59]] #[] 1537 66 #[] #[])
  fields := #[]
  methods := #[]
  instanceTypes := #[]
  staticTypes := #[]
  resolved := Array.replicate 131 none
  statics := none }

def pool11 : Array CpInfo := pool [(1, .class_ 2), (0, u "java/lang/constant/Constable"), (0, .class_ 4), (0, u "java/lang/Object")] 6

/-- java/lang/constant/Constable -/
def k11 : Class := { plain "java/lang/constant/Constable" (some 0) with
  accessFlags := 1537
  interfaces := #[]
  cf := some (fileOf pool11 1 #[] #[] 1537 3 #[] #[])
  fields := #[]
  methods := #[]
  instanceTypes := #[]
  staticTypes := #[]
  resolved := Array.replicate 11 none
  statics := none }

def pool12 : Array CpInfo := pool [(1, .class_ 2), (0, u "java/lang/constant/ConstantDesc"), (0, .class_ 4), (0, u "java/lang/Object")] 32

/-- java/lang/constant/ConstantDesc -/
def k12 : Class := { plain "java/lang/constant/ConstantDesc" (some 0) with
  accessFlags := 1537
  interfaces := #[]
  cf := some (fileOf pool12 1 #[] #[] 1537 3 #[] #[])
  fields := #[]
  methods := #[]
  instanceTypes := #[]
  staticTypes := #[]
  resolved := Array.replicate 37 none
  statics := none }

def pool13 : Array CpInfo := pool [(1, .methodref 2 3), (0, .class_ 4), (0, .nameAndType 5 6), (0, u "java/lang/Object"), (0, u "<init>"), (0, u "()V"), (2, .fieldref 10 11), (0, .class_ 12), (0, .nameAndType 13 14), (0, u "java/lang/String"), (0, u "value"), (0, u "[B"), (0, .fieldref 10 16), (0, .nameAndType 17 18), (0, u "coder"), (0, u "B"), (2, u "hash"), (0, u "I"), (2, u "hashIsZero"), (0, u "Z"), (11, .fieldref 10 39), (0, .nameAndType 40 26), (0, u "COMPACT_STRINGS"), (13, .methodref 55 56), (0, .class_ 57), (0, .nameAndType 58 59), (0, u "java/util/Arrays"), (0, u "copyOfRange"), (0, u "([BII)[B"), (82, u "()Z"), (50, .class_ 195), (1, u "java/lang/System"), (16, .methodref 193 213), (0, .nameAndType 214 215), (0, u "arraycopy"), (0, u "(Ljava/lang/Object;ILjava/lang/Object;II)V"), (118, u "()I"), (0, .methodref 10 336), (0, .nameAndType 17 337), (0, u "()B"), (2, u "()[B"), (148, .methodref 10 490), (0, .nameAndType 5 491), (0, u "(Ljava/lang/AbstractStringBuilder;Ljava/lang/Void;)V"), (1, .nameAndType 494 142), (0, u "isLatin1"), (11, .nameAndType 507 334), (0, u "length"), (24, u "getBytes"), (16, .methodref 550 506), (0, .class_ 551), (0, u "java/lang/AbstractStringBuilder"), (0, .methodref 550 553), (0, .nameAndType 554 340), (0, u "getValue"), (20, .class_ 576), (0, u "java/lang/CharSequence"), (22, u "CASE_INSENSITIVE_ORDER"), (0, u "Ljava/util/Comparator;"), (220, u "([BIB)V"), (225, .methodref 550 493), (53, u "serialPersistentFields"), (0, u "[Ljava/io/ObjectStreamField;"), (0, .class_ 1104), (0, u "java/lang/String$CaseInsensitiveComparator"), (1, .class_ 1107), (0, u "java/io/Serializable"), (0, .class_ 1109), (0, u "java/lang/Comparable"), (0, .class_ 1111), (0, u "java/lang/constant/Constable"), (0, .class_ 1113), (0, u "java/lang/constant/ConstantDesc"), (2, u "serialVersionUID"), (0, u "J"), (3, u "REPL"), (0, u "C"), (2, u "LATIN1"), (1, u "UTF16"), (105, u "(Ljava/lang/StringBuilder;)V")] 217

def k13m0 : Method := { name := "<init>", desc := "()V", sig := { parameters := [], returnType := none }, accessFlags := 1, code := none }
def k13c1 : Code := { maxStack := 3, maxLocals := 2, code := jdk_42_method_53_code, exceptionTable := #[], attributes := #[] }
def k13m1 : Method := { name := "<init>", desc := "(Ljava/lang/StringBuilder;)V", sig := { parameters := [(.object "java/lang/StringBuilder")], returnType := none }, accessFlags := 1, code := some k13c1 }
def k13c2 : Code := { maxStack := 2, maxLocals := 1, code := jdk_42_method_54_code, exceptionTable := #[], attributes := #[] }
def k13m2 : Method := { name := "length", desc := "()I", sig := { parameters := [], returnType := some .int }, accessFlags := 1, code := some k13c2 }
def k13c3 : Code := { maxStack := 5, maxLocals := 4, code := jdk_42_method_147_code, exceptionTable := #[], attributes := #[] }
def k13m3 : Method := { name := "getBytes", desc := "([BIB)V", sig := { parameters := [(.array .byte), .int, .byte], returnType := none }, accessFlags := 0, code := some k13c3 }
def k13c4 : Code := { maxStack := 5, maxLocals := 5, code := jdk_42_method_150_code, exceptionTable := #[], attributes := #[] }
def k13m4 : Method := { name := "<init>", desc := "(Ljava/lang/AbstractStringBuilder;Ljava/lang/Void;)V", sig := { parameters := [(.object "java/lang/AbstractStringBuilder"), (.object "java/lang/Void")], returnType := none }, accessFlags := 0, code := some k13c4 }
def k13c5 : Code := { maxStack := 1, maxLocals := 1, code := jdk_42_method_152_code, exceptionTable := #[], attributes := #[] }
def k13m5 : Method := { name := "coder", desc := "()B", sig := { parameters := [], returnType := some .byte }, accessFlags := 0, code := some k13c5 }
/-- java/lang/String -/
def k13 : Class := { plain "java/lang/String" (some 0) with
  accessFlags := 49
  interfaces := #[4, 9, 10, 11, 12]
  cf := some (fileOf pool13 10 #[.nestMembers #[1103]] #[{ accessFlags := 1, nameIndex := 5, descriptorIndex := 6, attributes := #[] }, { accessFlags := 1, nameIndex := 5, descriptorIndex := 1233, attributes := #[] }, { accessFlags := 1, nameIndex := 507, descriptorIndex := 334, attributes := #[] }, { accessFlags := 0, nameIndex := 532, descriptorIndex := 821, attributes := #[] }, { accessFlags := 0, nameIndex := 5, descriptorIndex := 491, attributes := #[] }, { accessFlags := 0, nameIndex := 17, descriptorIndex := 337, attributes := #[] }] 49 2 #[1106, 1108, 575, 1110, 1112] #[{ accessFlags := 18, nameIndex := 13, descriptorIndex := 14, attributes := #[] }, { accessFlags := 18, nameIndex := 17, descriptorIndex := 18, attributes := #[] }, { accessFlags := 2, nameIndex := 21, descriptorIndex := 22, attributes := #[] }, { accessFlags := 2, nameIndex := 25, descriptorIndex := 26, attributes := #[] }, { accessFlags := 26, nameIndex := 1116, descriptorIndex := 1117, attributes := #[] }, { accessFlags := 24, nameIndex := 40, descriptorIndex := 26, attributes := #[] }, { accessFlags := 26, nameIndex := 1101, descriptorIndex := 1102, attributes := #[] }, { accessFlags := 26, nameIndex := 1121, descriptorIndex := 1122, attributes := #[] }, { accessFlags := 25, nameIndex := 599, descriptorIndex := 600, attributes := #[] }, { accessFlags := 24, nameIndex := 1125, descriptorIndex := 18, attributes := #[] }, { accessFlags := 24, nameIndex := 1127, descriptorIndex := 18, attributes := #[] }])
  fields := #[{ name := "value", type := (.array .byte), accessFlags := 18, slot := 0, constantValue := 0 }, { name := "coder", type := .byte, accessFlags := 18, slot := 1, constantValue := 0 }, { name := "hash", type := .int, accessFlags := 2, slot := 2, constantValue := 0 }, { name := "hashIsZero", type := .boolean, accessFlags := 2, slot := 3, constantValue := 0 }, { name := "serialVersionUID", type := .long, accessFlags := 26, slot := 0, constantValue := 0 }, { name := "COMPACT_STRINGS", type := .boolean, accessFlags := 24, slot := 1, constantValue := 0 }, { name := "serialPersistentFields", type := (.array (.object "java/io/ObjectStreamField")), accessFlags := 26, slot := 2, constantValue := 0 }, { name := "REPL", type := .char, accessFlags := 26, slot := 3, constantValue := 0 }, { name := "CASE_INSENSITIVE_ORDER", type := (.object "java/util/Comparator"), accessFlags := 25, slot := 4, constantValue := 0 }, { name := "LATIN1", type := .byte, accessFlags := 24, slot := 5, constantValue := 0 }, { name := "UTF16", type := .byte, accessFlags := 24, slot := 6, constantValue := 0 }]
  methods := #[k13m0, k13m1, k13m2, k13m3, k13m4, k13m5]
  instanceTypes := #[(.array .byte), .byte, .int, .boolean]
  staticTypes := #[.long, .boolean, (.array (.object "java/io/ObjectStreamField")), .char, (.object "java/util/Comparator"), .byte, .byte]
  resolved := Array.replicate 1451 none
  statics := some 1 }

def pool14 : Array CpInfo := pool [(1, .class_ 2), (0, u "java/lang/Appendable"), (0, .class_ 4), (0, u "java/lang/Object")] 9

/-- java/lang/Appendable -/
def k14 : Class := { plain "java/lang/Appendable" (some 0) with
  accessFlags := 1537
  interfaces := #[]
  cf := some (fileOf pool14 1 #[] #[] 1537 3 #[] #[])
  fields := #[]
  methods := #[]
  instanceTypes := #[]
  staticTypes := #[]
  resolved := Array.replicate 14 none
  statics := none }

def pool15 : Array CpInfo := pool [(1, .class_ 2), (0, u "java/lang/String"), (0, .methodref 4 5), (0, .class_ 6), (0, .nameAndType 7 8), (0, u "java/lang/Object"), (0, u "<init>"), (0, u "()V"), (1, .class_ 12), (1, u "java/lang/AbstractStringBuilder"), (0, u "EMPTYVALUE"), (0, u "[B"), (0, .fieldref 10 16), (0, .nameAndType 17 14), (0, u "value"), (0, .fieldref 1 19), (0, .nameAndType 20 21), (0, u "COMPACT_STRINGS"), (0, u "Z"), (0, .fieldref 10 23), (0, .nameAndType 24 25), (0, u "coder"), (0, u "B"), (6, .methodref 1 33), (0, .nameAndType 34 35), (0, u "length"), (0, u "()I"), (0, .class_ 37), (0, u "java/lang/Integer"), (1, .integer 2147483647), (0, .methodref 1 41), (0, .nameAndType 24 42), (0, u "()B"), (2, u "append"), (0, u "(Ljava/lang/String;)Ljava/lang/AbstractStringBuilder;"), (1, .class_ 49), (0, u "java/lang/CharSequence"), (19, u "(Ljava/lang/String;)V"), (5, u "maybeLatin1"), (3, .fieldref 10 80), (0, .nameAndType 81 82), (0, u "count"), (0, u "I"), (0, .methodref 10 84), (0, .nameAndType 85 86), (0, u "isLatin1"), (0, u "()Z"), (13, .methodref 10 101), (0, .nameAndType 102 103), (0, u "ensureCapacityInternal"), (0, u "(I)V"), (0, .methodref 10 105), (0, .nameAndType 106 107), (0, u "newCapacity"), (0, u "(I)I"), (0, .methodref 109 110), (0, .class_ 111), (0, .nameAndType 112 113), (0, u "java/util/Arrays"), (0, u "copyOf"), (0, u "([BI)[B"), (0, .methodref 115 116), (0, .class_ 117), (0, .nameAndType 118 119), (0, u "jdk/internal/util/ArraysSupport"), (0, u "newLength"), (0, u "(III)I"), (68, u "getChars"), (19, .methodref 10 209), (0, .nameAndType 210 211), (0, u "putStringAt"), (0, u "(ILjava/lang/String;)V"), (5, u "inflateIfNeededFor"), (2, .nameAndType 221 222), (0, u "getBytes"), (0, u "([BIB)V"), (22, .methodref 36 246), (0, .nameAndType 247 107), (0, u "stringSize"), (0, .methodref 36 249), (0, .nameAndType 188 250), (0, u "(II[B)I"), (146, .methodref 10 398), (0, .nameAndType 217 69), (0, .methodref 1 220), (3, u "()[B"), (40, .class_ 445), (0, u "java/lang/Appendable"), (65, u "(I)Ljava/lang/AbstractStringBuilder;"), (40, u "getValue")] 56

def k15m0 : Method := { name := "<init>", desc := "()V", sig := { parameters := [], returnType := none }, accessFlags := 0, code := none }
def k15c1 : Code := { maxStack := 2, maxLocals := 2, code := jdk_68_method_2_code, exceptionTable := #[], attributes := #[] }
def k15m1 : Method := { name := "<init>", desc := "(I)V", sig := { parameters := [.int], returnType := none }, accessFlags := 0, code := some k15c1 }
def k15c2 : Code := { maxStack := 1, maxLocals := 1, code := jdk_68_method_6_code, exceptionTable := #[], attributes := #[] }
def k15m2 : Method := { name := "length", desc := "()I", sig := { parameters := [], returnType := some .int }, accessFlags := 1, code := some k15c2 }
def k15c3 : Code := { maxStack := 4, maxLocals := 3, code := jdk_68_method_9_code, exceptionTable := #[], attributes := #[] }
def k15m3 : Method := { name := "ensureCapacityInternal", desc := "(I)V", sig := { parameters := [.int], returnType := none }, accessFlags := 2, code := some k15c3 }
def k15c4 : Code := { maxStack := 5, maxLocals := 6, code := jdk_68_method_10_code, exceptionTable := #[], attributes := #[] }
def k15m4 : Method := { name := "newCapacity", desc := "(I)I", sig := { parameters := [.int], returnType := some .int }, accessFlags := 2, code := some k15c4 }
def k15c5 : Code := { maxStack := 3, maxLocals := 3, code := jdk_68_method_22_code, exceptionTable := #[], attributes := #[] }
def k15m5 : Method := { name := "append", desc := "(Ljava/lang/String;)Ljava/lang/AbstractStringBuilder;", sig := { parameters := [(.object "java/lang/String")], returnType := some (.object "java/lang/AbstractStringBuilder") }, accessFlags := 1, code := some k15c5 }
def k15c6 : Code := { maxStack := 4, maxLocals := 4, code := jdk_68_method_32_code, exceptionTable := #[], attributes := #[] }
def k15m6 : Method := { name := "append", desc := "(I)Ljava/lang/AbstractStringBuilder;", sig := { parameters := [.int], returnType := some (.object "java/lang/AbstractStringBuilder") }, accessFlags := 1, code := some k15c6 }
def k15c7 : Code := { maxStack := 1, maxLocals := 1, code := jdk_68_method_64_code, exceptionTable := #[], attributes := #[] }
def k15m7 : Method := { name := "getValue", desc := "()[B", sig := { parameters := [], returnType := some (.array .byte) }, accessFlags := 16, code := some k15c7 }
def k15c8 : Code := { maxStack := 1, maxLocals := 1, code := jdk_68_method_68_code, exceptionTable := #[], attributes := #[] }
def k15m8 : Method := { name := "isLatin1", desc := "()Z", sig := { parameters := [], returnType := some .boolean }, accessFlags := 16, code := some k15c8 }
def k15c9 : Code := { maxStack := 2, maxLocals := 2, code := jdk_68_method_71_code, exceptionTable := #[], attributes := #[] }
def k15m9 : Method := { name := "inflateIfNeededFor", desc := "(Ljava/lang/String;)V", sig := { parameters := [(.object "java/lang/String")], returnType := none }, accessFlags := 2, code := some k15c9 }
def k15c10 : Code := { maxStack := 4, maxLocals := 3, code := jdk_68_method_73_code, exceptionTable := #[], attributes := #[] }
def k15m10 : Method := { name := "putStringAt", desc := "(ILjava/lang/String;)V", sig := { parameters := [.int, (.object "java/lang/String")], returnType := none }, accessFlags := 2, code := some k15c10 }
/-- java/lang/AbstractStringBuilder -/
def k15 : Class := { plain "java/lang/AbstractStringBuilder" (some 0) with
  accessFlags := 1056
  interfaces := #[14, 10]
  cf := some (fileOf pool15 10 #[] #[{ accessFlags := 0, nameIndex := 7, descriptorIndex := 8, attributes := #[] }, { accessFlags := 0, nameIndex := 7, descriptorIndex := 103, attributes := #[] }, { accessFlags := 1, nameIndex := 34, descriptorIndex := 35, attributes := #[] }, { accessFlags := 2, nameIndex := 102, descriptorIndex := 103, attributes := #[] }, { accessFlags := 2, nameIndex := 106, descriptorIndex := 107, attributes := #[] }, { accessFlags := 1, nameIndex := 45, descriptorIndex := 46, attributes := #[] }, { accessFlags := 1, nameIndex := 45, descriptorIndex := 511, attributes := #[] }, { accessFlags := 16, nameIndex := 552, descriptorIndex := 403, attributes := #[] }, { accessFlags := 16, nameIndex := 85, descriptorIndex := 86, attributes := #[] }, { accessFlags := 2, nameIndex := 217, descriptorIndex := 69, attributes := #[] }, { accessFlags := 2, nameIndex := 210, descriptorIndex := 211, attributes := #[] }] 1056 4 #[444, 48] #[{ accessFlags := 0, nameIndex := 17, descriptorIndex := 14, attributes := #[] }, { accessFlags := 0, nameIndex := 24, descriptorIndex := 25, attributes := #[] }, { accessFlags := 0, nameIndex := 75, descriptorIndex := 21, attributes := #[] }, { accessFlags := 0, nameIndex := 81, descriptorIndex := 82, attributes := #[] }, { accessFlags := 26, nameIndex := 13, descriptorIndex := 14, attributes := #[] }])
  fields := #[{ name := "value", type := (.array .byte), accessFlags := 0, slot := 0, constantValue := 0 }, { name := "coder", type := .byte, accessFlags := 0, slot := 1, constantValue := 0 }, { name := "maybeLatin1", type := .boolean, accessFlags := 0, slot := 2, constantValue := 0 }, { name := "count", type := .int, accessFlags := 0, slot := 3, constantValue := 0 }, { name := "EMPTYVALUE", type := (.array .byte), accessFlags := 26, slot := 0, constantValue := 0 }]
  methods := #[k15m0, k15m1, k15m2, k15m3, k15m4, k15m5, k15m6, k15m7, k15m8, k15m9, k15m10]
  instanceTypes := #[(.array .byte), .byte, .boolean, .int]
  staticTypes := #[(.array .byte)]
  resolved := Array.replicate 609 none
  statics := none }

def pool16 : Array CpInfo := pool [(1, .methodref 2 3), (0, .class_ 4), (0, .nameAndType 5 6), (0, u "java/lang/AbstractStringBuilder"), (0, u "<init>"), (0, u "(I)V"), (11, .class_ 20), (1, u "java/lang/String"), (3, .class_ 26), (1, u "java/lang/StringBuilder"), (0, u "append"), (0, u "(Ljava/lang/String;)Ljava/lang/StringBuilder;"), (0, .methodref 2 30), (0, .nameAndType 27 31), (0, u "(Ljava/lang/String;)Ljava/lang/AbstractStringBuilder;"), (21, .methodref 2 54), (0, .nameAndType 27 55), (0, u "(I)Ljava/lang/AbstractStringBuilder;"), (81, .methodref 18 138), (0, .nameAndType 5 139), (0, u "(Ljava/lang/StringBuilder;)V"), (5, u "()V"), (10, u "()I"), (111, u "(I)Ljava/lang/StringBuilder;"), (74, .methodref 2 344), (0, .nameAndType 345 156), (0, u "length"), (3, .class_ 350), (0, u "java/lang/Appendable"), (0, .class_ 352), (0, u "java/io/Serializable"), (0, .class_ 354), (0, u "java/lang/Comparable"), (0, .class_ 356), (0, u "java/lang/CharSequence"), (0, u "serialVersionUID"), (0, u "J"), (40, u "toString"), (0, u "()Ljava/lang/String;")] 21

def k16c0 : Code := { maxStack := 2, maxLocals := 1, code := jdk_67_method_1_code, exceptionTable := #[], attributes := #[] }
def k16m0 : Method := { name := "<init>", desc := "()V", sig := { parameters := [], returnType := none }, accessFlags := 1, code := some k16c0 }
def k16c1 : Code := { maxStack := 2, maxLocals := 2, code := jdk_67_method_7_code, exceptionTable := #[], attributes := #[] }
def k16m1 : Method := { name := "append", desc := "(Ljava/lang/String;)Ljava/lang/StringBuilder;", sig := { parameters := [(.object "java/lang/String")], returnType := some (.object "java/lang/StringBuilder") }, accessFlags := 1, code := some k16c1 }
def k16c2 : Code := { maxStack := 2, maxLocals := 2, code := jdk_67_method_15_code, exceptionTable := #[], attributes := #[] }
def k16m2 : Method := { name := "append", desc := "(I)Ljava/lang/StringBuilder;", sig := { parameters := [.int], returnType := some (.object "java/lang/StringBuilder") }, accessFlags := 1, code := some k16c2 }
def k16c3 : Code := { maxStack := 3, maxLocals := 1, code := jdk_67_method_42_code, exceptionTable := #[], attributes := #[] }
def k16m3 : Method := { name := "toString", desc := "()Ljava/lang/String;", sig := { parameters := [], returnType := some (.object "java/lang/String") }, accessFlags := 1, code := some k16c3 }
def k16c4 : Code := { maxStack := 1, maxLocals := 1, code := jdk_67_method_93_code, exceptionTable := #[], attributes := #[] }
def k16m4 : Method := { name := "length", desc := "()I", sig := { parameters := [], returnType := some .int }, accessFlags := 4161, code := some k16c4 }
/-- java/lang/StringBuilder -/
def k16 : Class := { plain "java/lang/StringBuilder" (some 15) with
  accessFlags := 49
  interfaces := #[14, 4, 9, 10]
  cf := some (fileOf pool16 24 #[] #[{ accessFlags := 1, nameIndex := 5, descriptorIndex := 145, attributes := #[] }, { accessFlags := 1, nameIndex := 27, descriptorIndex := 28, attributes := #[] }, { accessFlags := 1, nameIndex := 27, descriptorIndex := 268, attributes := #[] }, { accessFlags := 1, nameIndex := 399, descriptorIndex := 400, attributes := #[] }, { accessFlags := 4161, nameIndex := 345, descriptorIndex := 156, attributes := #[] }] 49 2 #[349, 351, 353, 355] #[{ accessFlags := 24, nameIndex := 357, descriptorIndex := 358, attributes := #[] }])
  fields := #[{ name := "serialVersionUID", type := .long, accessFlags := 24, slot := 0, constantValue := 0 }]
  methods := #[k16m0, k16m1, k16m2, k16m3, k16m4]
  instanceTypes := #[(.array .byte), .byte, .boolean, .int]
  staticTypes := #[.long]
  resolved := Array.replicate 422 none
  statics := none }

def pool17 : Array CpInfo := pool [(2, .class_ 4), (1, u "java/lang/Object"), (0, u "<init>"), (0, u "()V"), (1, .class_ 10), (1, u "java/lang/System"), (0, u "allowSecurityManager"), (0, u "I"), (16, u "cons"), (0, u "Ljava/io/Console;"), (77, .class_ 110), (1, u "java/lang/System$CallersHolder"), (43, u "initialErrStream"), (0, u "Ljava/io/PrintStream;"), (19, u "security"), (0, u "Ljava/lang/SecurityManager;"), (31, .class_ 209), (0, u "java/lang/System$1"), (7, u "props"), (0, u "Ljava/util/Properties;"), (2, u "lineSeparator"), (0, u "Ljava/lang/String;"), (96, .class_ 321), (1, u "java/lang/System$LoggerFinder"), (5, .class_ 328), (0, u "java/lang/System$Logger"), (67, u "err"), (2, u "out"), (91, u "notSupportedJnuEncoding"), (15, u "in"), (17, u "initialIn"), (0, u "Ljava/io/InputStream;"), (35, u "bootLayer"), (0, u "Ljava/lang/ModuleLayer;"), (99, .class_ 664), (0, u "java/lang/System$2"), (9, u "NEVER"), (2, u "MAYBE"), (49, u "arraycopy"), (0, u "(Ljava/lang/Object;ILjava/lang/Object;II)V"), (72, .class_ 802), (0, u "java/lang/System$Logger$Level")] 31

def k17m0 : Method := { name := "<init>", desc := "()V", sig := { parameters := [], returnType := none }, accessFlags := 2, code := none }
def k17m1 : Method := { name := "arraycopy", desc := "(Ljava/lang/Object;ILjava/lang/Object;II)V", sig := { parameters := [(.object "java/lang/Object"), .int, (.object "java/lang/Object"), .int, .int], returnType := none }, accessFlags := 265, code := none }
/-- java/lang/System -/
def k17 : Class := { plain "java/lang/System" (some 0) with
  accessFlags := 49
  interfaces := #[]
  cf := some (fileOf pool17 8 #[.nestMembers #[319, 327, 801, 108, 663, 208]] #[{ accessFlags := 2, nameIndex := 5, descriptorIndex := 6, attributes := #[] }, { accessFlags := 265, nameIndex := 727, descriptorIndex := 728, attributes := #[] }] 49 2 #[] #[{ accessFlags := 25, nameIndex := 507, descriptorIndex := 526, attributes := #[] }, { accessFlags := 25, nameIndex := 399, descriptorIndex := 155, attributes := #[] }, { accessFlags := 25, nameIndex := 396, descriptorIndex := 155, attributes := #[] }, { accessFlags := 10, nameIndex := 525, descriptorIndex := 526, attributes := #[] }, { accessFlags := 26, nameIndex := 674, descriptorIndex := 12, attributes := #[] }, { accessFlags := 26, nameIndex := 677, descriptorIndex := 12, attributes := #[] }, { accessFlags := 10, nameIndex := 11, descriptorIndex := 12, attributes := #[] }, { accessFlags := 74, nameIndex := 175, descriptorIndex := 176, attributes := #[] }, { accessFlags := 10, nameIndex := 491, descriptorIndex := 222, attributes := #[] }, { accessFlags := 74, nameIndex := 29, descriptorIndex := 30, attributes := #[] }, { accessFlags := 74, nameIndex := 154, descriptorIndex := 155, attributes := #[] }, { accessFlags := 10, nameIndex := 217, descriptorIndex := 218, attributes := #[] }, { accessFlags := 10, nameIndex := 221, descriptorIndex := 222, attributes := #[] }, { accessFlags := 8, nameIndex := 562, descriptorIndex := 563, attributes := #[] }])
  fields := #[{ name := "in", type := (.object "java/io/InputStream"), accessFlags := 25, slot := 0, constantValue := 0 }, { name := "out", type := (.object "java/io/PrintStream"), accessFlags := 25, slot := 1, constantValue := 0 }, { name := "err", type := (.object "java/io/PrintStream"), accessFlags := 25, slot := 2, constantValue := 0 }, { name := "initialIn", type := (.object "java/io/InputStream"), accessFlags := 10, slot := 3, constantValue := 0 }, { name := "NEVER", type := .int, accessFlags := 26, slot := 4, constantValue := 0 }, { name := "MAYBE", type := .int, accessFlags := 26, slot := 5, constantValue := 0 }, { name := "allowSecurityManager", type := .int, accessFlags := 10, slot := 6, constantValue := 0 }, { name := "security", type := (.object "java/lang/SecurityManager"), accessFlags := 74, slot := 7, constantValue := 0 }, { name := "notSupportedJnuEncoding", type := (.object "java/lang/String"), accessFlags := 10, slot := 8, constantValue := 0 }, { name := "cons", type := (.object "java/io/Console"), accessFlags := 74, slot := 9, constantValue := 0 }, { name := "initialErrStream", type := (.object "java/io/PrintStream"), accessFlags := 74, slot := 10, constantValue := 0 }, { name := "props", type := (.object "java/util/Properties"), accessFlags := 10, slot := 11, constantValue := 0 }, { name := "lineSeparator", type := (.object "java/lang/String"), accessFlags := 10, slot := 12, constantValue := 0 }, { name := "bootLayer", type := (.object "java/lang/ModuleLayer"), accessFlags := 8, slot := 13, constantValue := 0 }]
  methods := #[k17m0, k17m1]
  instanceTypes := #[]
  staticTypes := #[(.object "java/io/InputStream"), (.object "java/io/PrintStream"), (.object "java/io/PrintStream"), (.object "java/io/InputStream"), .int, .int, .int, (.object "java/lang/SecurityManager"), (.object "java/lang/String"), (.object "java/io/Console"), (.object "java/io/PrintStream"), (.object "java/util/Properties"), (.object "java/lang/String"), (.object "java/lang/ModuleLayer")]
  resolved := Array.replicate 834 none
  statics := none }

def pool18 : Array CpInfo := pool [(2, .class_ 4), (1, u "java/lang/Object"), (0, u "<init>"), (0, u "()V"), (1, .class_ 10), (1, u "java/lang/Number"), (2, .class_ 14), (0, u "java/io/Serializable"), (0, u "serialVersionUID"), (0, u "J")] 20

def k18m0 : Method := { name := "<init>", desc := "()V", sig := { parameters := [], returnType := none }, accessFlags := 1, code := none }
/-- java/lang/Number -/
def k18 : Class := { plain "java/lang/Number" (some 0) with
  accessFlags := 1057
  interfaces := #[4]
  cf := some (fileOf pool18 8 #[] #[{ accessFlags := 1, nameIndex := 5, descriptorIndex := 6, attributes := #[] }] 1057 2 #[13] #[{ accessFlags := 26, nameIndex := 15, descriptorIndex := 16, attributes := #[] }])
  fields := #[{ name := "serialVersionUID", type := .long, accessFlags := 26, slot := 0, constantValue := 0 }]
  methods := #[k18m0]
  instanceTypes := #[]
  staticTypes := #[.long]
  resolved := Array.replicate 37 none
  statics := none }

def pool19 : Array CpInfo := pool [(1, .class_ 2), (0, u "java/lang/Integer"), (16, u "digits"), (0, u "[C"), (33, u "(I)I"), (19, u "stringSize"), (2, u "getChars"), (0, u "(II[B)I"), (4, .fieldref 1 84), (0, .nameAndType 85 86), (0, u "DigitOnes"), (0, u "[B"), (0, .fieldref 1 88), (0, .nameAndType 89 86), (0, u "DigitTens"), (99, .class_ 190), (0, u "java/lang/Integer$IntegerCache"), (3, u "I"), (8, .class_ 204), (0, u "java/lang/Number"), (2, u "value"), (94, u "TYPE"), (0, u "Ljava/lang/Class;"), (0, .class_ 305), (0, u "java/lang/Comparable"), (0, .class_ 307), (0, u "java/lang/constant/Constable"), (0, .class_ 309), (0, u "java/lang/constant/ConstantDesc"), (0, u "MIN_VALUE"), (1, u "MAX_VALUE"), (3, u "SIZE"), (1, u "BYTES"), (1, u "serialVersionUID"), (0, u "J")] 131

def k19c0 : Code := { maxStack := 4, maxLocals := 7, code := jdk_33_method_12_code, exceptionTable := #[], attributes := #[] }
def k19m0 : Method := { name := "getChars", desc := "(II[B)I", sig := { parameters := [.int, .int, (.array .byte)], returnType := some .int }, accessFlags := 8, code := some k19c0 }
def k19c1 : Code := { maxStack := 2, maxLocals := 4, code := jdk_33_method_13_code, exceptionTable := #[], attributes := #[] }
def k19m1 : Method := { name := "stringSize", desc := "(I)I", sig := { parameters := [.int], returnType := some .int }, accessFlags := 8, code := some k19c1 }
/-- java/lang/Integer -/
def k19 : Class := { plain "java/lang/Integer" (some 18) with
  accessFlags := 49
  interfaces := #[9, 11, 12]
  cf := some (fileOf pool19 1 #[.nestMembers #[189]] #[{ accessFlags := 8, nameIndex := 77, descriptorIndex := 78, attributes := #[] }, { accessFlags := 8, nameIndex := 74, descriptorIndex := 54, attributes := #[] }] 49 203 #[304, 306, 308] #[{ accessFlags := 25, nameIndex := 310, descriptorIndex := 194, attributes := #[] }, { accessFlags := 25, nameIndex := 312, descriptorIndex := 194, attributes := #[] }, { accessFlags := 25, nameIndex := 302, descriptorIndex := 303, attributes := #[] }, { accessFlags := 24, nameIndex := 19, descriptorIndex := 20, attributes := #[] }, { accessFlags := 24, nameIndex := 89, descriptorIndex := 86, attributes := #[] }, { accessFlags := 24, nameIndex := 85, descriptorIndex := 86, attributes := #[] }, { accessFlags := 18, nameIndex := 207, descriptorIndex := 194, attributes := #[] }, { accessFlags := 25, nameIndex := 316, descriptorIndex := 194, attributes := #[] }, { accessFlags := 25, nameIndex := 318, descriptorIndex := 194, attributes := #[] }, { accessFlags := 26, nameIndex := 320, descriptorIndex := 321, attributes := #[] }])
  fields := #[{ name := "MIN_VALUE", type := .int, accessFlags := 25, slot := 0, constantValue := 0 }, { name := "MAX_VALUE", type := .int, accessFlags := 25, slot := 1, constantValue := 0 }, { name := "TYPE", type := (.object "java/lang/Class"), accessFlags := 25, slot := 2, constantValue := 0 }, { name := "digits", type := (.array .char), accessFlags := 24, slot := 3, constantValue := 0 }, { name := "DigitTens", type := (.array .byte), accessFlags := 24, slot := 4, constantValue := 0 }, { name := "DigitOnes", type := (.array .byte), accessFlags := 24, slot := 5, constantValue := 0 }, { name := "value", type := .int, accessFlags := 18, slot := 0, constantValue := 0 }, { name := "SIZE", type := .int, accessFlags := 25, slot := 6, constantValue := 0 }, { name := "BYTES", type := .int, accessFlags := 25, slot := 7, constantValue := 0 }, { name := "serialVersionUID", type := .long, accessFlags := 26, slot := 8, constantValue := 0 }]
  methods := #[k19m0, k19m1]
  instanceTypes := #[.int]
  staticTypes := #[.int, .int, (.object "java/lang/Class"), (.array .char), (.array .byte), (.array .byte), .int, .int, .long]
  resolved := Array.replicate 453 none
  statics := some 2 }

def pool20 : Array CpInfo := pool [(9, u "<init>"), (6, .class_ 18), (1, u "java/lang/Object"), (0, u "()V"), (1, .class_ 23), (1, u "jdk/internal/util/ArraysSupport"), (0, u "LOG2_ARRAY_LONG_INDEX_SCALE"), (0, u "I"), (2, u "U"), (0, u "Ljdk/internal/misc/Unsafe;"), (8, u "BIG_ENDIAN"), (0, u "Z"), (8, u "LOG2_BYTE_BIT_SIZE"), (4, u "LOG2_ARRAY_INT_INDEX_SCALE"), (54, u "JLA"), (0, u "Ljdk/internal/access/JavaLangAccess;"), (11, u "LOG2_ARRAY_BOOLEAN_INDEX_SCALE"), (9, u "LOG2_ARRAY_BYTE_INDEX_SCALE"), (5, u "LOG2_ARRAY_CHAR_INDEX_SCALE"), (5, u "LOG2_ARRAY_SHORT_INDEX_SCALE"), (18, u "LOG2_ARRAY_FLOAT_INDEX_SCALE"), (24, u "LOG2_ARRAY_DOUBLE_INDEX_SCALE"), (6, .methodref 195 196), (0, .class_ 197), (0, .nameAndType 198 199), (0, u "java/lang/Math"), (0, u "max"), (0, u "(II)I"), (0, .integer 2147483639), (76, u "T_BOOLEAN"), (2, u "T_CHAR"), (1, u "T_FLOAT"), (1, u "T_DOUBLE"), (1, u "T_BYTE"), (1, u "T_SHORT"), (1, u "T_INT"), (1, u "T_LONG"), (1, u "SOFT_MAX_ARRAY_LENGTH"), (56, u "newLength"), (0, u "(III)I")] 25

def k20m0 : Method := { name := "<init>", desc := "()V", sig := { parameters := [], returnType := none }, accessFlags := 2, code := none }
def k20c1 : Code := { maxStack := 3, maxLocals := 4, code := jdk_48_method_27_code, exceptionTable := #[], attributes := #[] }
def k20m1 : Method := { name := "newLength", desc := "(III)I", sig := { parameters := [.int, .int, .int], returnType := some .int }, accessFlags := 9, code := some k20c1 }
/-- jdk/internal/util/ArraysSupport -/
def k20 : Class := { plain "jdk/internal/util/ArraysSupport" (some 0) with
  accessFlags := 33
  interfaces := #[]
  cf := some (fileOf pool20 21 #[] #[{ accessFlags := 2, nameIndex := 9, descriptorIndex := 19, attributes := #[] }, { accessFlags := 9, nameIndex := 351, descriptorIndex := 352, attributes := #[] }] 33 16 #[] #[{ accessFlags := 24, nameIndex := 28, descriptorIndex := 29, attributes := #[] }, { accessFlags := 26, nameIndex := 38, descriptorIndex := 39, attributes := #[] }, { accessFlags := 25, nameIndex := 121, descriptorIndex := 25, attributes := #[] }, { accessFlags := 25, nameIndex := 131, descriptorIndex := 25, attributes := #[] }, { accessFlags := 25, nameIndex := 137, descriptorIndex := 25, attributes := #[] }, { accessFlags := 25, nameIndex := 143, descriptorIndex := 25, attributes := #[] }, { accessFlags := 25, nameIndex := 53, descriptorIndex := 25, attributes := #[] }, { accessFlags := 25, nameIndex := 24, descriptorIndex := 25, attributes := #[] }, { accessFlags := 25, nameIndex := 162, descriptorIndex := 25, attributes := #[] }, { accessFlags := 25, nameIndex := 187, descriptorIndex := 25, attributes := #[] }, { accessFlags := 26, nameIndex := 48, descriptorIndex := 25, attributes := #[] }, { accessFlags := 25, nameIndex := 277, descriptorIndex := 25, attributes := #[] }, { accessFlags := 25, nameIndex := 280, descriptorIndex := 25, attributes := #[] }, { accessFlags := 25, nameIndex := 282, descriptorIndex := 25, attributes := #[] }, { accessFlags := 25, nameIndex := 284, descriptorIndex := 25, attributes := #[] }, { accessFlags := 25, nameIndex := 286, descriptorIndex := 25, attributes := #[] }, { accessFlags := 25, nameIndex := 288, descriptorIndex := 25, attributes := #[] }, { accessFlags := 25, nameIndex := 290, descriptorIndex := 25, attributes := #[] }, { accessFlags := 25, nameIndex := 292, descriptorIndex := 25, attributes := #[] }, { accessFlags := 26, nameIndex := 108, descriptorIndex := 109, attributes := #[] }, { accessFlags := 25, nameIndex := 294, descriptorIndex := 25, attributes := #[] }])
  fields := #[{ name := "U", type := (.object "jdk/internal/misc/Unsafe"), accessFlags := 24, slot := 0, constantValue := 0 }, { name := "BIG_ENDIAN", type := .boolean, accessFlags := 26, slot := 1, constantValue := 0 }, { name := "LOG2_ARRAY_BOOLEAN_INDEX_SCALE", type := .int, accessFlags := 25, slot := 2, constantValue := 0 }, { name := "LOG2_ARRAY_BYTE_INDEX_SCALE", type := .int, accessFlags := 25, slot := 3, constantValue := 0 }, { name := "LOG2_ARRAY_CHAR_INDEX_SCALE", type := .int, accessFlags := 25, slot := 4, constantValue := 0 }, { name := "LOG2_ARRAY_SHORT_INDEX_SCALE", type := .int, accessFlags := 25, slot := 5, constantValue := 0 }, { name := "LOG2_ARRAY_INT_INDEX_SCALE", type := .int, accessFlags := 25, slot := 6, constantValue := 0 }, { name := "LOG2_ARRAY_LONG_INDEX_SCALE", type := .int, accessFlags := 25, slot := 7, constantValue := 0 }, { name := "LOG2_ARRAY_FLOAT_INDEX_SCALE", type := .int, accessFlags := 25, slot := 8, constantValue := 0 }, { name := "LOG2_ARRAY_DOUBLE_INDEX_SCALE", type := .int, accessFlags := 25, slot := 9, constantValue := 0 }, { name := "LOG2_BYTE_BIT_SIZE", type := .int, accessFlags := 26, slot := 10, constantValue := 0 }, { name := "T_BOOLEAN", type := .int, accessFlags := 25, slot := 11, constantValue := 0 }, { name := "T_CHAR", type := .int, accessFlags := 25, slot := 12, constantValue := 0 }, { name := "T_FLOAT", type := .int, accessFlags := 25, slot := 13, constantValue := 0 }, { name := "T_DOUBLE", type := .int, accessFlags := 25, slot := 14, constantValue := 0 }, { name := "T_BYTE", type := .int, accessFlags := 25, slot := 15, constantValue := 0 }, { name := "T_SHORT", type := .int, accessFlags := 25, slot := 16, constantValue := 0 }, { name := "T_INT", type := .int, accessFlags := 25, slot := 17, constantValue := 0 }, { name := "T_LONG", type := .int, accessFlags := 25, slot := 18, constantValue := 0 }, { name := "JLA", type := (.object "jdk/internal/access/JavaLangAccess"), accessFlags := 26, slot := 19, constantValue := 0 }, { name := "SOFT_MAX_ARRAY_LENGTH", type := .int, accessFlags := 25, slot := 20, constantValue := 0 }]
  methods := #[k20m0, k20m1]
  instanceTypes := #[]
  staticTypes := #[(.object "jdk/internal/misc/Unsafe"), .boolean, .int, .int, .int, .int, .int, .int, .int, .int, .int, .int, .int, .int, .int, .int, .int, .int, .int, (.object "jdk/internal/access/JavaLangAccess"), .int]
  resolved := Array.replicate 378 none
  statics := none }

def pool21 : Array CpInfo := pool [(1, .class_ 2), (0, u "java/lang/Math"), (1, .class_ 6), (1, u "java/lang/Object"), (0, u "<init>"), (0, u "()V"), (89, .class_ 100), (1, u "java/lang/Math$RandomNumberGeneratorHolder"), (71, u "negativeZeroFloatBits"), (0, u "J"), (2, u "negativeZeroDoubleBits"), (21, u "max"), (2, u "min"), (43, u "$assertionsDisabled"), (0, u "Z"), (88, u "(II)I"), (2, u "twoToTheDoubleScaleDown"), (0, u "D"), (4, u "twoToTheDoubleScaleUp"), (9, u "E"), (3, u "PI"), (2, u "TAU"), (2, u "DEGREES_TO_RADIANS"), (0, u "RADIANS_TO_DEGREES")] 94

def k21m0 : Method := { name := "<init>", desc := "()V", sig := { parameters := [], returnType := none }, accessFlags := 2, code := none }
def k21c1 : Code := { maxStack := 2, maxLocals := 2, code := jdk_29_method_65_code, exceptionTable := #[], attributes := #[] }
def k21m1 : Method := { name := "max", desc := "(II)I", sig := { parameters := [.int, .int], returnType := some .int }, accessFlags := 9, code := some k21c1 }
def k21c2 : Code := { maxStack := 2, maxLocals := 2, code := jdk_29_method_69_code, exceptionTable := #[], attributes := #[] }
def k21m2 : Method := { name := "min", desc := "(II)I", sig := { parameters := [.int, .int], returnType := some .int }, accessFlags := 9, code := some k21c2 }
/-- java/lang/Math -/
def k21 : Class := { plain "java/lang/Math" (some 0) with
  accessFlags := 49
  interfaces := #[]
  cf := some (fileOf pool21 1 #[.nestMembers #[98]] #[{ accessFlags := 2, nameIndex := 7, descriptorIndex := 8, attributes := #[] }, { accessFlags := 9, nameIndex := 198, descriptorIndex := 335, attributes := #[] }, { accessFlags := 9, nameIndex := 201, descriptorIndex := 335, attributes := #[] }] 49 4 #[] #[{ accessFlags := 25, nameIndex := 354, descriptorIndex := 339, attributes := #[] }, { accessFlags := 25, nameIndex := 358, descriptorIndex := 339, attributes := #[] }, { accessFlags := 25, nameIndex := 361, descriptorIndex := 339, attributes := #[] }, { accessFlags := 26, nameIndex := 364, descriptorIndex := 339, attributes := #[] }, { accessFlags := 26, nameIndex := 365, descriptorIndex := 339, attributes := #[] }, { accessFlags := 26, nameIndex := 172, descriptorIndex := 173, attributes := #[] }, { accessFlags := 26, nameIndex := 176, descriptorIndex := 173, attributes := #[] }, { accessFlags := 8, nameIndex := 344, descriptorIndex := 339, attributes := #[] }, { accessFlags := 8, nameIndex := 338, descriptorIndex := 339, attributes := #[] }, { accessFlags := 4120, nameIndex := 245, descriptorIndex := 246, attributes := #[] }])
  fields := #[{ name := "E", type := .double, accessFlags := 25, slot := 0, constantValue := 0 }, { name := "PI", type := .double, accessFlags := 25, slot := 1, constantValue := 0 }, { name := "TAU", type := .double, accessFlags := 25, slot := 2, constantValue := 0 }, { name := "DEGREES_TO_RADIANS", type := .double, accessFlags := 26, slot := 3, constantValue := 0 }, { name := "RADIANS_TO_DEGREES", type := .double, accessFlags := 26, slot := 4, constantValue := 0 }, { name := "negativeZeroFloatBits", type := .long, accessFlags := 26, slot := 5, constantValue := 0 }, { name := "negativeZeroDoubleBits", type := .long, accessFlags := 26, slot := 6, constantValue := 0 }, { name := "twoToTheDoubleScaleUp", type := .double, accessFlags := 8, slot := 7, constantValue := 0 }, { name := "twoToTheDoubleScaleDown", type := .double, accessFlags := 8, slot := 8, constantValue := 0 }, { name := "$assertionsDisabled", type := .boolean, accessFlags := 4120, slot := 9, constantValue := 0 }]
  methods := #[k21m0, k21m1, k21m2]
  instanceTypes := #[]
  staticTypes := #[.double, .double, .double, .double, .double, .long, .long, .double, .double, .boolean]
  resolved := Array.replicate 460 none
  statics := none }

def pool22 : Array CpInfo := pool [(2, .class_ 4), (1, u "java/lang/Object"), (0, u "<init>"), (0, u "()V"), (7, .class_ 16), (1, u "java/util/Arrays"), (57, .class_ 76), (1, u "java/util/Arrays$NaturalOrder"), (32, u "()Ljava/lang/Object;"), (3, .class_ 115), (1, u "java/util/Arrays$LegacyMergeSort"), (1, u "Z"), (10, .nameAndType 129 109), (0, u "clone"), (9, u "copyOfRange"), (10, .methodref 151 152), (0, .class_ 153), (0, .nameAndType 154 155), (0, u "java/lang/System"), (0, u "arraycopy"), (0, u "(Ljava/lang/Object;ILjava/lang/Object;II)V"), (146, u "copyOf"), (1, .methodref 305 306), (0, .class_ 307), (0, .nameAndType 308 309), (0, u "java/lang/Math"), (0, u "min"), (0, u "(II)I"), (0, .methodref 311 128), (0, .class_ 312), (0, u "[B"), (26, .methodref 14 340), (0, .nameAndType 341 342), (0, u "copyOfRangeByte"), (0, u "([BII)[B"), (0, .methodref 14 344), (0, .nameAndType 345 346), (0, u "checkLength"), (0, u "(II)V"), (28, .class_ 376), (0, u "java/util/Arrays$ArrayList"), (68, u "$assertionsDisabled"), (269, u "MIN_ARRAY_SORT_GRAN"), (0, u "I"), (2, u "INSERTIONSORT_THRESHOLD"), (149, u "([BI)[B"), (105, .class_ 976), (0, u "java/util/Arrays$ArrayItr")] 52

def k22m0 : Method := { name := "<init>", desc := "()V", sig := { parameters := [], returnType := none }, accessFlags := 2, code := none }
def k22c1 : Code := { maxStack := 6, maxLocals := 3, code := jdk_65_method_121_code, exceptionTable := #[], attributes := #[] }
def k22m1 : Method := { name := "copyOf", desc := "([BI)[B", sig := { parameters := [(.array .byte), .int], returnType := some (.array .byte) }, accessFlags := 9, code := some k22c1 }
def k22c2 : Code := { maxStack := 4, maxLocals := 2, code := jdk_65_method_131_code, exceptionTable := #[], attributes := #[] }
def k22m2 : Method := { name := "checkLength", desc := "(II)V", sig := { parameters := [.int, .int], returnType := none }, accessFlags := 10, code := some k22c2 }
def k22c3 : Code := { maxStack := 3, maxLocals := 3, code := jdk_65_method_132_code, exceptionTable := #[], attributes := #[] }
def k22m3 : Method := { name := "copyOfRange", desc := "([BII)[B", sig := { parameters := [(.array .byte), .int, .int], returnType := some (.array .byte) }, accessFlags := 9, code := some k22c3 }
def k22c4 : Code := { maxStack := 6, maxLocals := 5, code := jdk_65_method_133_code, exceptionTable := #[], attributes := #[] }
def k22m4 : Method := { name := "copyOfRangeByte", desc := "([BII)[B", sig := { parameters := [(.array .byte), .int, .int], returnType := some (.array .byte) }, accessFlags := 10, code := some k22c4 }
/-- java/util/Arrays -/
def k22 : Class := { plain "java/util/Arrays" (some 0) with
  accessFlags := 49
  interfaces := #[]
  cf := some (fileOf pool22 14 #[.nestMembers #[975, 375, 113, 74]] #[{ accessFlags := 2, nameIndex := 5, descriptorIndex := 6, attributes := #[] }, { accessFlags := 9, nameIndex := 302, descriptorIndex := 869, attributes := #[] }, { accessFlags := 10, nameIndex := 345, descriptorIndex := 346, attributes := #[] }, { accessFlags := 9, nameIndex := 139, descriptorIndex := 342, attributes := #[] }, { accessFlags := 10, nameIndex := 341, descriptorIndex := 342, attributes := #[] }] 49 2 #[] #[{ accessFlags := 26, nameIndex := 715, descriptorIndex := 716, attributes := #[] }, { accessFlags := 26, nameIndex := 719, descriptorIndex := 716, attributes := #[] }, { accessFlags := 4120, nameIndex := 445, descriptorIndex := 117, attributes := #[] }])
  fields := #[{ name := "MIN_ARRAY_SORT_GRAN", type := .int, accessFlags := 26, slot := 0, constantValue := 0 }, { name := "INSERTIONSORT_THRESHOLD", type := .int, accessFlags := 26, slot := 1, constantValue := 0 }, { name := "$assertionsDisabled", type := .boolean, accessFlags := 4120, slot := 2, constantValue := 0 }]
  methods := #[k22m0, k22m1, k22m2, k22m3, k22m4]
  instanceTypes := #[]
  staticTypes := #[.int, .int, .boolean]
  resolved := Array.replicate 1029 none
  statics := none }

def pool23 : Array CpInfo := pool [(1, .class_ 2), (0, u "java/lang/Cloneable"), (0, .class_ 4), (0, u "java/lang/Object")] 2

/-- java/lang/Cloneable -/
def k23 : Class := { plain "java/lang/Cloneable" (some 0) with
  accessFlags := 1537
  interfaces := #[]
  cf := some (fileOf pool23 1 #[] #[] 1537 3 #[] #[])
  fields := #[]
  methods := #[]
  instanceTypes := #[]
  staticTypes := #[]
  resolved := Array.replicate 7 none
  statics := none }

def pool24 : Array CpInfo := pool [(4, .class_ 6), (1, u "java/lang/Object"), (0, u "<init>"), (0, u "()V"), (5, .class_ 16), (1, u "java/lang/StringLatin1"), (104, u "$assertionsDisabled"), (0, u "Z"), (98, .class_ 223), (1, u "java/lang/StringLatin1$LinesSpliterator"), (166, .class_ 391), (0, u "java/lang/StringLatin1$CharsSpliterator")] 3

def k24m0 : Method := { name := "<init>", desc := "()V", sig := { parameters := [], returnType := none }, accessFlags := 0, code := none }
/-- java/lang/StringLatin1 -/
def k24 : Class := { plain "java/lang/StringLatin1" (some 0) with
  accessFlags := 48
  interfaces := #[]
  cf := some (fileOf pool24 14 #[.nestMembers #[390, 221]] #[{ accessFlags := 0, nameIndex := 7, descriptorIndex := 8, attributes := #[] }] 48 4 #[] #[{ accessFlags := 4120, nameIndex := 121, descriptorIndex := 122, attributes := #[] }])
  fields := #[{ name := "$assertionsDisabled", type := .boolean, accessFlags := 4120, slot := 0, constantValue := 0 }]
  methods := #[k24m0]
  instanceTypes := #[]
  staticTypes := #[.boolean]
  resolved := Array.replicate 395 none
  statics := none }

def pool25 : Array CpInfo := pool [(2, .class_ 4), (1, u "java/lang/Object"), (0, u "<init>"), (0, u "()V"), (17, .class_ 26), (1, u "jdk/internal/util/Preconditions"), (28, .class_ 56), (0, u "jdk/internal/util/Preconditions$4"), (57, .class_ 115), (0, u "jdk/internal/util/Preconditions$1"), (7, u "SIOOBE_FORMATTER"), (0, u "Ljava/util/function/BiFunction;"), (0, .class_ 126), (0, u "jdk/internal/util/Preconditions$2"), (3, u "AIOOBE_FORMATTER"), (0, .class_ 132), (0, u "jdk/internal/util/Preconditions$3"), (3, u "IOOBE_FORMATTER")] 57

def k25m0 : Method := { name := "<init>", desc := "()V", sig := { parameters := [], returnType := none }, accessFlags := 1, code := none }
/-- jdk/internal/util/Preconditions -/
def k25 : Class := { plain "jdk/internal/util/Preconditions" (some 0) with
  accessFlags := 33
  interfaces := #[]
  cf := some (fileOf pool25 24 #[.nestMembers #[55, 131, 125, 114]] #[{ accessFlags := 1, nameIndex := 5, descriptorIndex := 6, attributes := #[] }] 33 2 #[] #[{ accessFlags := 25, nameIndex := 123, descriptorIndex := 124, attributes := #[] }, { accessFlags := 25, nameIndex := 130, descriptorIndex := 124, attributes := #[] }, { accessFlags := 25, nameIndex := 136, descriptorIndex := 124, attributes := #[] }])
  fields := #[{ name := "SIOOBE_FORMATTER", type := (.object "java/util/function/BiFunction"), accessFlags := 25, slot := 0, constantValue := 0 }, { name := "AIOOBE_FORMATTER", type := (.object "java/util/function/BiFunction"), accessFlags := 25, slot := 1, constantValue := 0 }, { name := "IOOBE_FORMATTER", type := (.object "java/util/function/BiFunction"), accessFlags := 25, slot := 2, constantValue := 0 }]
  methods := #[k25m0]
  instanceTypes := #[]
  staticTypes := #[(.object "java/util/function/BiFunction"), (.object "java/util/function/BiFunction"), (.object "java/util/function/BiFunction")]
  resolved := Array.replicate 194 none
  statics := some 3 }

def pool26 : Array CpInfo := pool [(2, .class_ 4), (1, u "java/lang/Object"), (0, u "<init>"), (0, u "()V"), (12, .class_ 20), (0, u "java/util/Collections"), (63, u "r"), (0, u "Ljava/util/Random;"), (80, .class_ 167), (0, u "java/util/Collections$UnmodifiableCollection"), (6, .class_ 175), (0, u "java/util/Collections$UnmodifiableSequencedCollection"), (6, .class_ 183), (0, u "java/util/Collections$UnmodifiableSet"), (6, .class_ 191), (0, u "java/util/Collections$UnmodifiableSequencedSet"), (6, .class_ 199), (0, u "java/util/Collections$UnmodifiableSortedSet"), (6, .class_ 207), (0, u "java/util/Collections$UnmodifiableNavigableSet"), (4, .class_ 213), (0, u "java/util/Collections$UnmodifiableList"), (1, .class_ 216), (0, u "java/util/Collections$UnmodifiableRandomAccessList"), (6, .class_ 224), (0, u "java/util/Collections$UnmodifiableMap"), (6, .class_ 232), (0, u "java/util/Collections$UnmodifiableSequencedMap"), (4, .class_ 238), (0, u "java/util/Collections$UnmodifiableSortedMap"), (6, .class_ 246), (0, u "java/util/Collections$UnmodifiableNavigableMap"), (3, .class_ 251), (0, u "java/util/Collections$SynchronizedCollection"), (4, .class_ 257), (0, u "java/util/Collections$SynchronizedSet"), (4, .class_ 263), (0, u "java/util/Collections$SynchronizedSortedSet"), (1, .class_ 266), (0, u "java/util/Collections$SynchronizedNavigableSet"), (1, .class_ 269), (0, u "java/util/Collections$SynchronizedRandomAccessList"), (1, .class_ 272), (0, u "java/util/Collections$SynchronizedList"), (5, .class_ 279), (0, u "java/util/Collections$SynchronizedMap"), (1, .class_ 282), (0, u "java/util/Collections$SynchronizedSortedMap"), (1, .class_ 285), (0, u "java/util/Collections$SynchronizedNavigableMap"), (1, .class_ 288), (0, u "java/util/Collections$CheckedCollection"), (11, .class_ 301), (0, u "java/util/Collections$CheckedQueue"), (3, .class_ 306), (0, u "java/util/Collections$CheckedSet"), (3, .class_ 311), (0, u "java/util/Collections$CheckedSortedSet"), (3, .class_ 316), (0, u "java/util/Collections$CheckedNavigableSet"), (3, .class_ 321), (0, u "java/util/Collections$CheckedRandomAccessList"), (3, .class_ 326), (0, u "java/util/Collections$CheckedList"), (1, .class_ 329), (0, u "java/util/Collections$CheckedMap"), (3, .class_ 334), (0, u "java/util/Collections$CheckedSortedMap"), (3, .class_ 339), (0, u "java/util/Collections$CheckedNavigableMap"), (4, .class_ 346), (1, u "java/util/Collections$EmptyIterator"), (3, .class_ 352), (1, u "java/util/Collections$EmptyListIterator"), (2, .class_ 357), (1, u "java/util/Collections$EmptyEnumeration"), (4, u "EMPTY_SET"), (0, u "Ljava/util/Set;"), (6, u "EMPTY_LIST"), (0, u "Ljava/util/List;"), (2, u "EMPTY_MAP"), (0, u "Ljava/util/Map;"), (4, .class_ 381), (0, u "java/util/Collections$SingletonSet"), (2, .class_ 385), (0, u "java/util/Collections$1"), (1, .class_ 388), (0, u "java/util/Collections$2"), (1, .class_ 391), (0, u "java/util/Collections$SingletonList"), (1, .class_ 394), (0, u "java/util/Collections$SingletonMap"), (22, .class_ 418), (0, u "java/util/Collections$CopiesList"), (4, .class_ 425), (1, u "java/util/Collections$ReverseComparator"), (8, .class_ 435), (0, u "java/util/Collections$ReverseComparator2"), (6, .class_ 443), (0, u "java/util/Collections$3"), (25, .class_ 470), (0, u "java/util/Collections$SetFromMap"), (2, .class_ 474), (0, u "java/util/Collections$SequencedSetFromMap"), (3, .class_ 479), (0, u "java/util/Collections$AsLIFOQueue"), (11, .class_ 492), (0, u "java/util/Collections$EmptySet"), (1, .class_ 495), (0, u "java/util/Collections$EmptyList"), (1, .class_ 498), (0, u "java/util/Collections$EmptyMap"), (1, u "BINARYSEARCH_THRESHOLD"), (0, u "I"), (2, u "REVERSE_THRESHOLD"), (1, u "SHUFFLE_THRESHOLD"), (1, u "FILL_THRESHOLD"), (1, u "ROTATE_THRESHOLD"), (1, u "COPY_THRESHOLD"), (1, u "REPLACEALL_THRESHOLD"), (1, u "INDEXOFSUBLIST_THRESHOLD"), (333, .class_ 851), (0, u "java/util/Collections$CheckedMap$CheckedEntrySet"), (0, .class_ 853), (0, u "java/util/Collections$CheckedMap$CheckedEntrySet$CheckedEntry"), (0, .class_ 855), (0, u "java/util/Collections$CheckedMap$CheckedEntrySet$1"), (0, .class_ 857), (0, u "java/util/Collections$CheckedList$1"), (0, .class_ 859), (0, u "java/util/Collections$CheckedCollection$1"), (0, .class_ 861), (0, u "java/util/Collections$UnmodifiableNavigableMap$EmptyNavigableMap"), (0, .class_ 863), (0, u "java/util/Collections$UnmodifiableMap$UnmodifiableEntrySet"), (0, .class_ 865), (0, u "java/util/Collections$UnmodifiableMap$UnmodifiableEntrySet$UnmodifiableEntry"), (0, .class_ 867), (0, u "java/util/Collections$UnmodifiableMap$UnmodifiableEntrySet$UnmodifiableEntrySetSpliterator"), (0, .class_ 869), (0, u "java/util/Collections$UnmodifiableMap$UnmodifiableEntrySet$1"), (0, .class_ 871), (0, u "java/util/Collections$UnmodifiableList$1"), (0, .class_ 873), (0, u "java/util/Collections$UnmodifiableNavigableSet$EmptyNavigableSet"), (0, .class_ 875), (0, u "java/util/Collections$UnmodifiableCollection$1")] 57

def k26m0 : Method := { name := "<init>", desc := "()V", sig := { parameters := [], returnType := none }, accessFlags := 2, code := none }
/-- java/util/Collections -/
def k26 : Class := { plain "java/util/Collections" (some 0) with
  accessFlags := 33
  interfaces := #[]
  cf := some (fileOf pool26 19 #[.nestMembers #[478, 473, 469, 434, 423, 417, 393, 390, 380, 497, 494, 491, 355, 350, 344, 338, 333, 328, 850, 852, 854, 320, 325, 856, 315, 310, 305, 300, 287, 858, 284, 281, 278, 268, 271, 265, 262, 256, 250, 245, 860, 237, 231, 223, 862, 864, 866, 868, 215, 212, 870, 206, 872, 198, 190, 182, 174, 166, 874, 442, 387, 384]] #[{ accessFlags := 2, nameIndex := 5, descriptorIndex := 6, attributes := #[] }] 33 2 #[] #[{ accessFlags := 26, nameIndex := 500, descriptorIndex := 501, attributes := #[] }, { accessFlags := 26, nameIndex := 504, descriptorIndex := 501, attributes := #[] }, { accessFlags := 26, nameIndex := 506, descriptorIndex := 501, attributes := #[] }, { accessFlags := 26, nameIndex := 508, descriptorIndex := 501, attributes := #[] }, { accessFlags := 26, nameIndex := 510, descriptorIndex := 501, attributes := #[] }, { accessFlags := 26, nameIndex := 512, descriptorIndex := 501, attributes := #[] }, { accessFlags := 26, nameIndex := 514, descriptorIndex := 501, attributes := #[] }, { accessFlags := 26, nameIndex := 516, descriptorIndex := 501, attributes := #[] }, { accessFlags := 10, nameIndex := 84, descriptorIndex := 85, attributes := #[] }, { accessFlags := 25, nameIndex := 362, descriptorIndex := 363, attributes := #[] }, { accessFlags := 25, nameIndex := 370, descriptorIndex := 371, attributes := #[] }, { accessFlags := 25, nameIndex := 374, descriptorIndex := 375, attributes := #[] }])
  fields := #[{ name := "BINARYSEARCH_THRESHOLD", type := .int, accessFlags := 26, slot := 0, constantValue := 0 }, { name := "REVERSE_THRESHOLD", type := .int, accessFlags := 26, slot := 1, constantValue := 0 }, { name := "SHUFFLE_THRESHOLD", type := .int, accessFlags := 26, slot := 2, constantValue := 0 }, { name := "FILL_THRESHOLD", type := .int, accessFlags := 26, slot := 3, constantValue := 0 }, { name := "ROTATE_THRESHOLD", type := .int, accessFlags := 26, slot := 4, constantValue := 0 }, { name := "COPY_THRESHOLD", type := .int, accessFlags := 26, slot := 5, constantValue := 0 }, { name := "REPLACEALL_THRESHOLD", type := .int, accessFlags := 26, slot := 6, constantValue := 0 }, { name := "INDEXOFSUBLIST_THRESHOLD", type := .int, accessFlags := 26, slot := 7, constantValue := 0 }, { name := "r", type := (.object "java/util/Random"), accessFlags := 10, slot := 8, constantValue := 0 }, { name := "EMPTY_SET", type := (.object "java/util/Set"), accessFlags := 25, slot := 9, constantValue := 0 }, { name := "EMPTY_LIST", type := (.object "java/util/List"), accessFlags := 25, slot := 10, constantValue := 0 }, { name := "EMPTY_MAP", type := (.object "java/util/Map"), accessFlags := 25, slot := 11, constantValue := 0 }]
  methods := #[k26m0]
  instanceTypes := #[]
  staticTypes := #[.int, .int, .int, .int, .int, .int, .int, .int, (.object "java/util/Random"), (.object "java/util/Set"), (.object "java/util/List"), (.object "java/util/Map")]
  resolved := Array.replicate 933 none
  statics := some 4 }

def pool27 : Array CpInfo := pool [(8, .class_ 10), (1, u "java/lang/Iterable"), (24, .class_ 36), (0, u "java/lang/Object")] 25

/-- java/lang/Iterable -/
def k27 : Class := { plain "java/lang/Iterable" (some 0) with
  accessFlags := 1537
  interfaces := #[]
  cf := some (fileOf pool27 8 #[] #[] 1537 35 #[] #[])
  fields := #[]
  methods := #[]
  instanceTypes := #[]
  staticTypes := #[]
  resolved := Array.replicate 62 none
  statics := none }

def pool28 : Array CpInfo := pool [(10, .class_ 12), (1, u "java/util/Collection"), (47, .class_ 61), (0, u "java/lang/Object"), (0, .class_ 63), (0, u "java/lang/Iterable")] 51

/-- java/util/Collection -/
def k28 : Class := { plain "java/util/Collection" (some 0) with
  accessFlags := 1537
  interfaces := #[27]
  cf := some (fileOf pool28 10 #[] #[] 1537 60 #[62] #[])
  fields := #[]
  methods := #[]
  instanceTypes := #[]
  staticTypes := #[]
  resolved := Array.replicate 115 none
  statics := none }

def pool29 : Array CpInfo := pool [(2, .class_ 4), (1, u "java/lang/Object"), (0, u "<init>"), (0, u "()V"), (1, .class_ 10), (1, u "java/util/AbstractCollection"), (66, .class_ 78), (0, u "java/util/Collection")] 81

def k29m0 : Method := { name := "<init>", desc := "()V", sig := { parameters := [], returnType := none }, accessFlags := 4, code := none }
/-- java/util/AbstractCollection -/
def k29 : Class := { plain "java/util/AbstractCollection" (some 0) with
  accessFlags := 1057
  interfaces := #[28]
  cf := some (fileOf pool29 8 #[] #[{ accessFlags := 4, nameIndex := 5, descriptorIndex := 6, attributes := #[] }] 1057 2 #[77] #[])
  fields := #[]
  methods := #[k29m0]
  instanceTypes := #[]
  staticTypes := #[]
  resolved := Array.replicate 160 none
  statics := none }

def pool30 : Array CpInfo := pool [(8, .class_ 10), (1, u "java/util/SequencedCollection"), (15, .class_ 27), (0, u "java/lang/Object"), (0, .class_ 29), (0, u "java/util/Collection")] 27

/-- java/util/SequencedCollection -/
def k30 : Class := { plain "java/util/SequencedCollection" (some 0) with
  accessFlags := 1537
  interfaces := #[28]
  cf := some (fileOf pool30 8 #[] #[] 1537 26 #[28] #[])
  fields := #[]
  methods := #[]
  instanceTypes := #[]
  staticTypes := #[]
  resolved := Array.replicate 57 none
  statics := none }

def pool31 : Array CpInfo := pool [(8, .class_ 10), (1, u "java/util/List"), (92, .class_ 104), (0, u "java/lang/Object"), (15, .class_ 121), (0, u "java/util/SequencedCollection")] 129

/-- java/util/List -/
def k31 : Class := { plain "java/util/List" (some 0) with
  accessFlags := 1537
  interfaces := #[30]
  cf := some (fileOf pool31 8 #[] #[] 1537 103 #[120] #[])
  fields := #[]
  methods := #[]
  instanceTypes := #[]
  staticTypes := #[]
  resolved := Array.replicate 251 none
  statics := none }

def pool32 : Array CpInfo := pool [(2, .class_ 4), (1, u "java/util/AbstractCollection"), (0, u "<init>"), (0, u "()V"), (1, .class_ 10), (1, u "java/util/AbstractList"), (0, u "modCount"), (0, u "I"), (64, .class_ 78), (0, u "java/util/AbstractList$Itr"), (3, .class_ 83), (0, u "java/util/AbstractList$ListItr"), (9, .class_ 94), (0, u "java/util/AbstractList$RandomAccessSubList"), (3, .class_ 99), (0, u "java/util/AbstractList$SubList"), (33, .class_ 134), (0, u "java/util/List"), (73, .class_ 209), (0, u "java/util/AbstractList$SubList$1"), (0, .class_ 211), (0, u "java/util/AbstractList$RandomAccessSpliterator")] 6

def k32m0 : Method := { name := "<init>", desc := "()V", sig := { parameters := [], returnType := none }, accessFlags := 4, code := none }
/-- java/util/AbstractList -/
def k32 : Class := { plain "java/util/AbstractList" (some 29) with
  accessFlags := 1057
  interfaces := #[31]
  cf := some (fileOf pool32 8 #[.nestMembers #[93, 98, 208, 210, 82, 77]] #[{ accessFlags := 4, nameIndex := 5, descriptorIndex := 6, attributes := #[] }] 1057 2 #[133] #[{ accessFlags := 132, nameIndex := 11, descriptorIndex := 12, attributes := #[] }])
  fields := #[{ name := "modCount", type := .int, accessFlags := 132, slot := 0, constantValue := 0 }]
  methods := #[k32m0]
  instanceTypes := #[.int]
  staticTypes := #[]
  resolved := Array.replicate 218 none
  statics := none }

def pool33 : Array CpInfo := pool [(1, .class_ 2), (0, u "java/util/RandomAccess"), (0, .class_ 4), (0, u "java/lang/Object")] 2

/-- java/util/RandomAccess -/
def k33 : Class := { plain "java/util/RandomAccess" (some 0) with
  accessFlags := 1537
  interfaces := #[]
  cf := some (fileOf pool33 1 #[] #[] 1537 3 #[] #[])
  fields := #[]
  methods := #[]
  instanceTypes := #[]
  staticTypes := #[]
  resolved := Array.replicate 7 none
  statics := none }

def pool34 : Array CpInfo := pool [(2, .class_ 4), (1, u "java/util/AbstractList"), (0, u "<init>"), (0, u "()V"), (1, .class_ 10), (1, u "java/util/Collections"), (54, .class_ 66), (0, u "java/util/Collections$EmptyList"), (0, .class_ 68), (0, u "java/util/RandomAccess"), (0, .class_ 70), (0, u "java/io/Serializable"), (0, u "serialVersionUID"), (0, u "J")] 77

def k34m0 : Method := { name := "<init>", desc := "()V", sig := { parameters := [], returnType := none }, accessFlags := 2, code := none }
/-- java/util/Collections$EmptyList -/
def k34 : Class := { plain "java/util/Collections$EmptyList" (some 32) with
  accessFlags := 32
  interfaces := #[33, 4]
  cf := some (fileOf pool34 65 #[.nestHost 8] #[{ accessFlags := 2, nameIndex := 5, descriptorIndex := 6, attributes := #[] }] 32 2 #[67, 69] #[{ accessFlags := 26, nameIndex := 71, descriptorIndex := 72, attributes := #[] }])
  fields := #[{ name := "serialVersionUID", type := .long, accessFlags := 26, slot := 0, constantValue := 0 }]
  methods := #[k34m0]
  instanceTypes := #[.int]
  staticTypes := #[.long]
  resolved := Array.replicate 150 none
  statics := none }

def pool35 : Array CpInfo := pool [(2, .class_ 4), (1, u "java/lang/StackTraceElement"), (0, u "<init>"), (2, .class_ 10), (1, u "java/lang/Object"), (0, u "()V"), (2, u "format"), (0, u "B"), (2, u "classLoaderName"), (0, u "Ljava/lang/String;"), (2, u "moduleName"), (2, u "moduleVersion"), (12, u "declaringClass"), (4, u "methodName"), (2, u "fileName"), (2, u "lineNumber"), (0, u "I"), (65, u "declaringClassObject"), (0, u "Ljava/lang/Class;"), (33, .class_ 153), (1, u "java/lang/StackTraceElement$HashedModules"), (17, .class_ 172), (0, u "java/io/Serializable"), (0, u "NATIVE_METHOD"), (1, u "UNKNOWN_SOURCE"), (2, u "BUILTIN_CLASS_LOADER"), (1, u "JDK_NON_UPGRADEABLE_MODULE"), (1, u "serialVersionUID"), (0, u "J")] 51

def k35m0 : Method := { name := "<init>", desc := "()V", sig := { parameters := [], returnType := none }, accessFlags := 2, code := none }
/-- java/lang/StackTraceElement -/
def k35 : Class := { plain "java/lang/StackTraceElement" (some 0) with
  accessFlags := 49
  interfaces := #[4]
  cf := some (fileOf pool35 2 #[.nestMembers #[151]] #[{ accessFlags := 2, nameIndex := 5, descriptorIndex := 11, attributes := #[] }] 49 8 #[171] #[{ accessFlags := 26, nameIndex := 173, descriptorIndex := 19, attributes := #[] }, { accessFlags := 26, nameIndex := 175, descriptorIndex := 19, attributes := #[] }, { accessFlags := 130, nameIndex := 116, descriptorIndex := 117, attributes := #[] }, { accessFlags := 2, nameIndex := 18, descriptorIndex := 19, attributes := #[] }, { accessFlags := 2, nameIndex := 22, descriptorIndex := 19, attributes := #[] }, { accessFlags := 2, nameIndex := 25, descriptorIndex := 19, attributes := #[] }, { accessFlags := 2, nameIndex := 38, descriptorIndex := 19, attributes := #[] }, { accessFlags := 2, nameIndex := 43, descriptorIndex := 19, attributes := #[] }, { accessFlags := 2, nameIndex := 46, descriptorIndex := 19, attributes := #[] }, { accessFlags := 2, nameIndex := 49, descriptorIndex := 50, attributes := #[] }, { accessFlags := 2, nameIndex := 14, descriptorIndex := 15, attributes := #[] }, { accessFlags := 26, nameIndex := 178, descriptorIndex := 15, attributes := #[] }, { accessFlags := 26, nameIndex := 180, descriptorIndex := 15, attributes := #[] }, { accessFlags := 26, nameIndex := 182, descriptorIndex := 183, attributes := #[] }])
  fields := #[{ name := "NATIVE_METHOD", type := (.object "java/lang/String"), accessFlags := 26, slot := 0, constantValue := 0 }, { name := "UNKNOWN_SOURCE", type := (.object "java/lang/String"), accessFlags := 26, slot := 1, constantValue := 0 }, { name := "declaringClassObject", type := (.object "java/lang/Class"), accessFlags := 130, slot := 0, constantValue := 0 }, { name := "classLoaderName", type := (.object "java/lang/String"), accessFlags := 2, slot := 1, constantValue := 0 }, { name := "moduleName", type := (.object "java/lang/String"), accessFlags := 2, slot := 2, constantValue := 0 }, { name := "moduleVersion", type := (.object "java/lang/String"), accessFlags := 2, slot := 3, constantValue := 0 }, { name := "declaringClass", type := (.object "java/lang/String"), accessFlags := 2, slot := 4, constantValue := 0 }, { name := "methodName", type := (.object "java/lang/String"), accessFlags := 2, slot := 5, constantValue := 0 }, { name := "fileName", type := (.object "java/lang/String"), accessFlags := 2, slot := 6, constantValue := 0 }, { name := "lineNumber", type := .int, accessFlags := 2, slot := 7, constantValue := 0 }, { name := "format", type := .byte, accessFlags := 2, slot := 8, constantValue := 0 }, { name := "BUILTIN_CLASS_LOADER", type := .byte, accessFlags := 26, slot := 2, constantValue := 0 }, { name := "JDK_NON_UPGRADEABLE_MODULE", type := .byte, accessFlags := 26, slot := 3, constantValue := 0 }, { name := "serialVersionUID", type := .long, accessFlags := 26, slot := 4, constantValue := 0 }]
  methods := #[k35m0]
  instanceTypes := #[(.object "java/lang/Class"), (.object "java/lang/String"), (.object "java/lang/String"), (.object "java/lang/String"), (.object "java/lang/String"), (.object "java/lang/String"), (.object "java/lang/String"), .int, .byte]
  staticTypes := #[(.object "java/lang/String"), (.object "java/lang/String"), .byte, .byte, .long]
  resolved := Array.replicate 235 none
  statics := none }

/-- the primitive byte -/
def k36 : Class := { plain "byte" none with kind := .primitive 'B', accessFlags := 0x411 }
/-- [B -/
def k37 : Class := { plain "[B" (some 0) with kind := .array 36 .byte, interfaces := #[23, 4], accessFlags := 1041 }

/-- the primitive int -/
def k38 : Class := { plain "int" none with kind := .primitive 'I', accessFlags := 0x411 }
/-- [I -/
def k39 : Class := { plain "[I" (some 0) with kind := .array 38 .int, interfaces := #[23, 4], accessFlags := 1041 }

/-- [Ljava/lang/Object; -/
def k40 : Class := { plain "[Ljava/lang/Object;" (some 0) with kind := .array 0 (.object "java/lang/Object"), interfaces := #[23, 4], accessFlags := 1041 }

/-- [Ljava/lang/StackTraceElement; -/
def k41 : Class := { plain "[Ljava/lang/StackTraceElement;" (some 0) with kind := .array 35 (.object "java/lang/StackTraceElement"), interfaces := #[23, 4], accessFlags := 1041 }

/-- [Ljava/lang/Throwable; -/
def k42 : Class := { plain "[Ljava/lang/Throwable;" (some 0) with kind := .array 5 (.object "java/lang/Throwable"), interfaces := #[23, 4], accessFlags := 1041 }

def heap : Heap := #[{ cls := 5, slots := #[.long 0, .ref 7, .ref 8, .null, .null, .null, .null, .ref 9, .int 1], vm := .statics 5 },
  { cls := 13, slots := #[.long 0, .int 1, .null, .int 0, .null, .int 0, .int 0], vm := .statics 13 },
  { cls := 19, slots := #[.int 0, .int 0, .null, .null, .ref 6, .ref 5, .int 0, .int 0, .long 0], vm := .statics 19 },
  { cls := 25, slots := #[.null, .null, .null], vm := .statics 25 },
  { cls := 26, slots := #[.int 0, .int 0, .int 0, .int 0, .int 0, .int 0, .int 0, .int 0, .null, .null, .ref 8, .null], vm := .statics 26 },
  { cls := 37, slots := #[.int 48, .int 49, .int 50, .int 51, .int 52, .int 53, .int 54, .int 55, .int 56, .int 57, .int 48, .int 49, .int 50, .int 51, .int 52, .int 53, .int 54, .int 55, .int 56, .int 57, .int 48, .int 49, .int 50, .int 51, .int 52, .int 53, .int 54, .int 55, .int 56, .int 57, .int 48, .int 49, .int 50, .int 51, .int 52, .int 53, .int 54, .int 55, .int 56, .int 57, .int 48, .int 49, .int 50, .int 51, .int 52, .int 53, .int 54, .int 55, .int 56, .int 57, .int 48, .int 49, .int 50, .int 51, .int 52, .int 53, .int 54, .int 55, .int 56, .int 57, .int 48, .int 49, .int 50, .int 51, .int 52, .int 53, .int 54, .int 55, .int 56, .int 57, .int 48, .int 49, .int 50, .int 51, .int 52, .int 53, .int 54, .int 55, .int 56, .int 57, .int 48, .int 49, .int 50, .int 51, .int 52, .int 53, .int 54, .int 55, .int 56, .int 57, .int 48, .int 49, .int 50, .int 51, .int 52, .int 53, .int 54, .int 55, .int 56, .int 57], vm := .none },
  { cls := 37, slots := #[.int 48, .int 48, .int 48, .int 48, .int 48, .int 48, .int 48, .int 48, .int 48, .int 48, .int 49, .int 49, .int 49, .int 49, .int 49, .int 49, .int 49, .int 49, .int 49, .int 49, .int 50, .int 50, .int 50, .int 50, .int 50, .int 50, .int 50, .int 50, .int 50, .int 50, .int 51, .int 51, .int 51, .int 51, .int 51, .int 51, .int 51, .int 51, .int 51, .int 51, .int 52, .int 52, .int 52, .int 52, .int 52, .int 52, .int 52, .int 52, .int 52, .int 52, .int 53, .int 53, .int 53, .int 53, .int 53, .int 53, .int 53, .int 53, .int 53, .int 53, .int 54, .int 54, .int 54, .int 54, .int 54, .int 54, .int 54, .int 54, .int 54, .int 54, .int 55, .int 55, .int 55, .int 55, .int 55, .int 55, .int 55, .int 55, .int 55, .int 55, .int 56, .int 56, .int 56, .int 56, .int 56, .int 56, .int 56, .int 56, .int 56, .int 56, .int 57, .int 57, .int 57, .int 57, .int 57, .int 57, .int 57, .int 57, .int 57, .int 57], vm := .none },
  { cls := 41, slots := #[], vm := .none },
  { cls := 34, slots := #[.int 0], vm := .none },
  { cls := 42, slots := #[], vm := .none }]
def classes : Array Class := #[k0, k1, k2, k3, k4, k5, k6, k7, k8, k9, k10, k11, k12, k13, k14, k15, k16, k17, k18, k19, k20, k21, k22, k23, k24, k25, k26, k27, k28, k29, k30, k31, k32, k33, k34, k35, k36, k37, k38, k39, k40, k41, k42]
def interned : List (Array UInt16 × Addr) := []
def slotsUsed : Nat := 241
def theMethod : MethodId := ⟨1, 1⟩
def args0 : Array Value := #[.long 5, .long 6, .long 7, .int 4]
def aboutOver (below : List Frame) : State where
  vm := { classes := classes, interned := interned.toArray }
  heap := heap
  slotsUsed := slotsUsed
  threads := #[{ frames := .invoking theMethod args0 :: below }]
def below0 : List Frame := [.native { method := ⟨0, 0⟩, args := #[] }]
def about1 : State := aboutOver below0
def p0 : Program := .bare "" "" ""
def e0 : Env := launch0.env 0 0 0
theorem w_frames : about1.frames = Frame.invoking theMethod args0 :: below0 := rfl
set_option maxRecDepth 65536 in
theorem w_args : argsFit about1.vm theMethod args0 = true := by decide +kernel
set_option maxRecDepth 65536 in
theorem w_heap : heapFits about1 = true := by decide +kernel
set_option maxRecDepth 65536 in
theorem w_runnable : about1.curStatus? = some .runnable := by decide +kernel
set_option maxRecDepth 65536 in
theorem w_alone : about1.alone = true := by decide +kernel
set_option maxRecDepth 65536 in
theorem w_named : about1.methodNamed? x = some theMethod := by decide +kernel
set_option maxRecDepth 65536 in
theorem w_hears : about1.hears theMethod below0 = true := by decide +kernel
set_option maxRecDepth 65536 in
theorem w_ripe : about1.ripe theMethod args0 below0 = true := by decide +kernel
theorem w_running : about1.status = .running := rfl
set_option maxRecDepth 65536 in
theorem w_room : about1.hasRoom e0.platform room_1 = true :=
  launch0.hasRoom_least _ room_1 (by decide +kernel) (by decide +kernel) (by decide +kernel) (by decide +kernel) (by decide +kernel) (by decide +kernel)
theorem allAtoms_all (ts : List Jvm.Cond) (a : Array Jvm.Value) (st : Jvm.State) : (allAtoms ts).before a st = ts.all (fun c => c.before a st) := by
  induction ts with
  | nil => rfl
  | cons c t ih =>
    show (Jvm.Cond.and c (allAtoms t)).before a st = _
    rw [Jvm.Cond.before_and, ih, List.all_cons]
def words1 : List Jvm.Cond := Jvm.Cond.code x code maxLocals ret :: tables_1
/-- a 'code' word, met by the world's own term for the bytes: nothing is compared byte by byte -/
theorem code_word {y : MethodName} {bytes : ByteArray} {mx : Nat} {rt : Option FieldType} {a : Array Value} {s : State} {m : MethodId} {meth : Method} {c : Code} (h1 : s.methodNamed? y = some m) (h2 : s.vm.method? m = some meth) (h3 : meth.code = some c) (h4 : c.code = bytes)
    (h5 : (c.maxLocals == mx && c.exceptionTable.isEmpty && decide (c.maxStack ≤ mostOperands) && decide (meth.sig.returnType = rt) && !meth.locks && decide (parseMethodDescriptor y.desc = some meth.sig)) = true) : (Jvm.Cond.code y bytes mx rt).before a s = true := by
  simp only [Bool.and_eq_true, beq_iff_eq, Bool.not_eq_true', decide_eq_true_eq] at h5
  obtain ⟨⟨⟨⟨⟨g1, g2⟩, g3⟩, g4⟩, g5⟩, g6⟩ := h5
  simp [Cond.before, Cond.holds, Cond.value, h1, h2, h3, h4, g1, g2, g3, g4, g5, g6]
def isCode : Jvm.Cond → Bool
  | .code _ _ _ _ => true
  | _ => false
theorem all_split {L : List Jvm.Cond} {P : Jvm.Cond → Bool} (h1 : L.all (fun c => isCode c || P c) = true) (h2 : ∀ c ∈ L.filter isCode, P c = true) : L.all P = true := by
  refine List.all_eq_true.mpr fun c hc => ?_
  have h := List.all_eq_true.mp h1 c hc
  rcases Bool.eq_false_or_eq_true (isCode c) with hi | hi
  · exact h2 c (List.mem_filter.mpr ⟨hc, hi⟩)
  · simpa [hi] using h
set_option maxRecDepth 65536 in
theorem w_c0 : (Jvm.Cond.code x code maxLocals ret).before args0 about1 = true := code_word (m := ⟨1, 1⟩) (meth := k1m1) (c := k1c1) (by decide +kernel) rfl rfl rfl (by decide +kernel)
set_option maxRecDepth 65536 in
theorem w_c1 : (Jvm.Cond.code ({ cls := "com/example/chapeau/chapeau/io/CopyReport", name := "<init>", desc := "(JJJLcom/example/chapeau/chapeau/io/MalformedXmlException;)V" } : Jvm.MethodName) prog_23_method_1_code (8 : Nat) (Option.none : Option Jvm.ClassFile.FieldType)).before args0 about1 = true := code_word (m := ⟨3, 0⟩) (meth := k3m0) (c := k3c0) (by decide +kernel) rfl rfl rfl (by decide +kernel)
set_option maxRecDepth 65536 in
theorem w_c2 : (Jvm.Cond.code ({ cls := "java/lang/Record", name := "<init>", desc := "()V" } : Jvm.MethodName) jdk_30_method_1_code (1 : Nat) (Option.none : Option Jvm.ClassFile.FieldType)).before args0 about1 = true := code_word (m := ⟨2, 0⟩) (meth := k2m0) (c := k2c0) (by decide +kernel) rfl rfl rfl (by decide +kernel)
set_option maxRecDepth 65536 in
theorem w_c3 : (Jvm.Cond.code ({ cls := "java/lang/Object", name := "<init>", desc := "()V" } : Jvm.MethodName) object_method_1_code (1 : Nat) (Option.none : Option Jvm.ClassFile.FieldType)).before args0 about1 = true := code_word (m := ⟨0, 0⟩) (meth := k0m0) (c := k0c0) (by decide +kernel) rfl rfl rfl (by decide +kernel)
set_option maxRecDepth 65536 in
theorem w_c4 : (Jvm.Cond.code ({ cls := "com/example/chapeau/chapeau/io/CopyReport", name := "whole", desc := "()Z" } : Jvm.MethodName) prog_23_method_2_code (1 : Nat) (Option.some Jvm.ClassFile.FieldType.boolean)).before args0 about1 = true := code_word (m := ⟨3, 1⟩) (meth := k3m1) (c := k3c1) (by decide +kernel) rfl rfl rfl (by decide +kernel)
set_option maxRecDepth 65536 in
theorem w_c5 : (Jvm.Cond.code ({ cls := "com/example/chapeau/chapeau/io/MalformedXmlException", name := "<init>", desc := "(IILjava/lang/String;)V" } : Jvm.MethodName) prog_33_method_1_code (4 : Nat) (Option.none : Option Jvm.ClassFile.FieldType)).before args0 about1 = true := code_word (m := ⟨8, 0⟩) (meth := k8m0) (c := k8c0) (by decide +kernel) rfl rfl rfl (by decide +kernel)
set_option maxRecDepth 65536 in
theorem w_c6 : (Jvm.Cond.code ({ cls := "java/lang/StringBuilder", name := "<init>", desc := "()V" } : Jvm.MethodName) jdk_67_method_1_code (1 : Nat) (Option.none : Option Jvm.ClassFile.FieldType)).before args0 about1 = true := code_word (m := ⟨16, 0⟩) (meth := k16m0) (c := k16c0) (by decide +kernel) rfl rfl rfl (by decide +kernel)
set_option maxRecDepth 65536 in
theorem w_c7 : (Jvm.Cond.code ({ cls := "java/lang/AbstractStringBuilder", name := "<init>", desc := "(I)V" } : Jvm.MethodName) jdk_68_method_2_code (2 : Nat) (Option.none : Option Jvm.ClassFile.FieldType)).before args0 about1 = true := code_word (m := ⟨15, 1⟩) (meth := k15m1) (c := k15c1) (by decide +kernel) rfl rfl rfl (by decide +kernel)
set_option maxRecDepth 65536 in
theorem w_c8 : (Jvm.Cond.code ({ cls := "com/example/chapeau/chapeau/io/MalformedXmlException", name := "place", desc := "(II)Ljava/lang/String;" } : Jvm.MethodName) prog_33_method_2_code (2 : Nat) (Option.some (Jvm.ClassFile.FieldType.object "java/lang/String"))).before args0 about1 = true := code_word (m := ⟨8, 1⟩) (meth := k8m1) (c := k8c1) (by decide +kernel) rfl rfl rfl (by decide +kernel)
set_option maxRecDepth 65536 in
theorem w_c9 : (Jvm.Cond.code ({ cls := "java/lang/StringBuilder", name := "append", desc := "(Ljava/lang/String;)Ljava/lang/StringBuilder;" } : Jvm.MethodName) jdk_67_method_7_code (2 : Nat) (Option.some (Jvm.ClassFile.FieldType.object "java/lang/StringBuilder"))).before args0 about1 = true := code_word (m := ⟨16, 1⟩) (meth := k16m1) (c := k16c1) (by decide +kernel) rfl rfl rfl (by decide +kernel)
set_option maxRecDepth 65536 in
theorem w_c10 : (Jvm.Cond.code ({ cls := "java/lang/AbstractStringBuilder", name := "append", desc := "(Ljava/lang/String;)Ljava/lang/AbstractStringBuilder;" } : Jvm.MethodName) jdk_68_method_22_code (3 : Nat) (Option.some (Jvm.ClassFile.FieldType.object "java/lang/AbstractStringBuilder"))).before args0 about1 = true := code_word (m := ⟨15, 5⟩) (meth := k15m5) (c := k15c5) (by decide +kernel) rfl rfl rfl (by decide +kernel)
set_option maxRecDepth 65536 in
theorem w_c11 : (Jvm.Cond.code ({ cls := "java/lang/String", name := "length", desc := "()I" } : Jvm.MethodName) jdk_42_method_54_code (1 : Nat) (Option.some Jvm.ClassFile.FieldType.int)).before args0 about1 = true := code_word (m := ⟨13, 2⟩) (meth := k13m2) (c := k13c2) (by decide +kernel) rfl rfl rfl (by decide +kernel)
set_option maxRecDepth 65536 in
theorem w_c12 : (Jvm.Cond.code ({ cls := "java/lang/String", name := "coder", desc := "()B" } : Jvm.MethodName) jdk_42_method_152_code (1 : Nat) (Option.some Jvm.ClassFile.FieldType.byte)).before args0 about1 = true := code_word (m := ⟨13, 5⟩) (meth := k13m5) (c := k13c5) (by decide +kernel) rfl rfl rfl (by decide +kernel)
set_option maxRecDepth 65536 in
theorem w_c13 : (Jvm.Cond.code ({ cls := "java/lang/AbstractStringBuilder", name := "ensureCapacityInternal", desc := "(I)V" } : Jvm.MethodName) jdk_68_method_9_code (3 : Nat) (Option.none : Option Jvm.ClassFile.FieldType)).before args0 about1 = true := code_word (m := ⟨15, 3⟩) (meth := k15m3) (c := k15c3) (by decide +kernel) rfl rfl rfl (by decide +kernel)
set_option maxRecDepth 65536 in
theorem w_c14 : (Jvm.Cond.code ({ cls := "java/lang/AbstractStringBuilder", name := "putStringAt", desc := "(ILjava/lang/String;)V" } : Jvm.MethodName) jdk_68_method_73_code (3 : Nat) (Option.none : Option Jvm.ClassFile.FieldType)).before args0 about1 = true := code_word (m := ⟨15, 10⟩) (meth := k15m10) (c := k15c10) (by decide +kernel) rfl rfl rfl (by decide +kernel)
set_option maxRecDepth 65536 in
theorem w_c15 : (Jvm.Cond.code ({ cls := "java/lang/AbstractStringBuilder", name := "inflateIfNeededFor", desc := "(Ljava/lang/String;)V" } : Jvm.MethodName) jdk_68_method_71_code (2 : Nat) (Option.none : Option Jvm.ClassFile.FieldType)).before args0 about1 = true := code_word (m := ⟨15, 9⟩) (meth := k15m9) (c := k15c9) (by decide +kernel) rfl rfl rfl (by decide +kernel)
set_option maxRecDepth 65536 in
theorem w_c16 : (Jvm.Cond.code ({ cls := "java/lang/String", name := "getBytes", desc := "([BIB)V" } : Jvm.MethodName) jdk_42_method_147_code (4 : Nat) (Option.none : Option Jvm.ClassFile.FieldType)).before args0 about1 = true := code_word (m := ⟨13, 3⟩) (meth := k13m3) (c := k13c3) (by decide +kernel) rfl rfl rfl (by decide +kernel)
set_option maxRecDepth 65536 in
theorem w_c17 : (Jvm.Cond.code ({ cls := "java/lang/StringBuilder", name := "append", desc := "(I)Ljava/lang/StringBuilder;" } : Jvm.MethodName) jdk_67_method_15_code (2 : Nat) (Option.some (Jvm.ClassFile.FieldType.object "java/lang/StringBuilder"))).before args0 about1 = true := code_word (m := ⟨16, 2⟩) (meth := k16m2) (c := k16c2) (by decide +kernel) rfl rfl rfl (by decide +kernel)
set_option maxRecDepth 65536 in
theorem w_c18 : (Jvm.Cond.code ({ cls := "java/lang/AbstractStringBuilder", name := "append", desc := "(I)Ljava/lang/AbstractStringBuilder;" } : Jvm.MethodName) jdk_68_method_32_code (4 : Nat) (Option.some (Jvm.ClassFile.FieldType.object "java/lang/AbstractStringBuilder"))).before args0 about1 = true := code_word (m := ⟨15, 6⟩) (meth := k15m6) (c := k15c6) (by decide +kernel) rfl rfl rfl (by decide +kernel)
set_option maxRecDepth 65536 in
theorem w_c19 : (Jvm.Cond.code ({ cls := "java/lang/Integer", name := "stringSize", desc := "(I)I" } : Jvm.MethodName) jdk_33_method_13_code (4 : Nat) (Option.some Jvm.ClassFile.FieldType.int)).before args0 about1 = true := code_word (m := ⟨19, 1⟩) (meth := k19m1) (c := k19c1) (by decide +kernel) rfl rfl rfl (by decide +kernel)
set_option maxRecDepth 65536 in
theorem w_c20 : (Jvm.Cond.code ({ cls := "java/lang/AbstractStringBuilder", name := "isLatin1", desc := "()Z" } : Jvm.MethodName) jdk_68_method_68_code (1 : Nat) (Option.some Jvm.ClassFile.FieldType.boolean)).before args0 about1 = true := code_word (m := ⟨15, 8⟩) (meth := k15m8) (c := k15c8) (by decide +kernel) rfl rfl rfl (by decide +kernel)
set_option maxRecDepth 65536 in
theorem w_c21 : (Jvm.Cond.code ({ cls := "java/lang/Integer", name := "getChars", desc := "(II[B)I" } : Jvm.MethodName) jdk_33_method_12_code (7 : Nat) (Option.some Jvm.ClassFile.FieldType.int)).before args0 about1 = true := code_word (m := ⟨19, 0⟩) (meth := k19m0) (c := k19c0) (by decide +kernel) rfl rfl rfl (by decide +kernel)
set_option maxRecDepth 65536 in
theorem w_c22 : (Jvm.Cond.code ({ cls := "java/lang/AbstractStringBuilder", name := "newCapacity", desc := "(I)I" } : Jvm.MethodName) jdk_68_method_10_code (6 : Nat) (Option.some Jvm.ClassFile.FieldType.int)).before args0 about1 = true := code_word (m := ⟨15, 4⟩) (meth := k15m4) (c := k15c4) (by decide +kernel) rfl rfl rfl (by decide +kernel)
set_option maxRecDepth 65536 in
theorem w_c23 : (Jvm.Cond.code ({ cls := "jdk/internal/util/ArraysSupport", name := "newLength", desc := "(III)I" } : Jvm.MethodName) jdk_48_method_27_code (4 : Nat) (Option.some Jvm.ClassFile.FieldType.int)).before args0 about1 = true := code_word (m := ⟨20, 1⟩) (meth := k20m1) (c := k20c1) (by decide +kernel) rfl rfl rfl (by decide +kernel)
set_option maxRecDepth 65536 in
theorem w_c24 : (Jvm.Cond.code ({ cls := "java/lang/Math", name := "max", desc := "(II)I" } : Jvm.MethodName) jdk_29_method_65_code (2 : Nat) (Option.some Jvm.ClassFile.FieldType.int)).before args0 about1 = true := code_word (m := ⟨21, 1⟩) (meth := k21m1) (c := k21c1) (by decide +kernel) rfl rfl rfl (by decide +kernel)
set_option maxRecDepth 65536 in
theorem w_c25 : (Jvm.Cond.code ({ cls := "java/util/Arrays", name := "copyOf", desc := "([BI)[B" } : Jvm.MethodName) jdk_65_method_121_code (3 : Nat) (Option.some (Jvm.ClassFile.FieldType.array Jvm.ClassFile.FieldType.byte))).before args0 about1 = true := code_word (m := ⟨22, 1⟩) (meth := k22m1) (c := k22c1) (by decide +kernel) rfl rfl rfl (by decide +kernel)
set_option maxRecDepth 65536 in
theorem w_c26 : (Jvm.Cond.code ({ cls := "java/lang/Math", name := "min", desc := "(II)I" } : Jvm.MethodName) jdk_29_method_69_code (2 : Nat) (Option.some Jvm.ClassFile.FieldType.int)).before args0 about1 = true := code_word (m := ⟨21, 2⟩) (meth := k21m2) (c := k21c2) (by decide +kernel) rfl rfl rfl (by decide +kernel)
set_option maxRecDepth 65536 in
theorem w_c27 : (Jvm.Cond.code ({ cls := "java/lang/StringBuilder", name := "toString", desc := "()Ljava/lang/String;" } : Jvm.MethodName) jdk_67_method_42_code (1 : Nat) (Option.some (Jvm.ClassFile.FieldType.object "java/lang/String"))).before args0 about1 = true := code_word (m := ⟨16, 3⟩) (meth := k16m3) (c := k16c3) (by decide +kernel) rfl rfl rfl (by decide +kernel)
set_option maxRecDepth 65536 in
theorem w_c28 : (Jvm.Cond.code ({ cls := "java/lang/String", name := "<init>", desc := "(Ljava/lang/StringBuilder;)V" } : Jvm.MethodName) jdk_42_method_53_code (2 : Nat) (Option.none : Option Jvm.ClassFile.FieldType)).before args0 about1 = true := code_word (m := ⟨13, 1⟩) (meth := k13m1) (c := k13c1) (by decide +kernel) rfl rfl rfl (by decide +kernel)
set_option maxRecDepth 65536 in
theorem w_c29 : (Jvm.Cond.code ({ cls := "java/lang/String", name := "<init>", desc := "(Ljava/lang/AbstractStringBuilder;Ljava/lang/Void;)V" } : Jvm.MethodName) jdk_42_method_150_code (5 : Nat) (Option.none : Option Jvm.ClassFile.FieldType)).before args0 about1 = true := code_word (m := ⟨13, 4⟩) (meth := k13m4) (c := k13c4) (by decide +kernel) rfl rfl rfl (by decide +kernel)
set_option maxRecDepth 65536 in
theorem w_c30 : (Jvm.Cond.code ({ cls := "java/lang/AbstractStringBuilder", name := "getValue", desc := "()[B" } : Jvm.MethodName) jdk_68_method_64_code (1 : Nat) (Option.some (Jvm.ClassFile.FieldType.array Jvm.ClassFile.FieldType.byte))).before args0 about1 = true := code_word (m := ⟨15, 7⟩) (meth := k15m7) (c := k15c7) (by decide +kernel) rfl rfl rfl (by decide +kernel)
set_option maxRecDepth 65536 in
theorem w_c31 : (Jvm.Cond.code ({ cls := "java/lang/StringBuilder", name := "length", desc := "()I" } : Jvm.MethodName) jdk_67_method_93_code (1 : Nat) (Option.some Jvm.ClassFile.FieldType.int)).before args0 about1 = true := code_word (m := ⟨16, 4⟩) (meth := k16m4) (c := k16c4) (by decide +kernel) rfl rfl rfl (by decide +kernel)
set_option maxRecDepth 65536 in
theorem w_c32 : (Jvm.Cond.code ({ cls := "java/lang/AbstractStringBuilder", name := "length", desc := "()I" } : Jvm.MethodName) jdk_68_method_6_code (1 : Nat) (Option.some Jvm.ClassFile.FieldType.int)).before args0 about1 = true := code_word (m := ⟨15, 2⟩) (meth := k15m2) (c := k15c2) (by decide +kernel) rfl rfl rfl (by decide +kernel)
set_option maxRecDepth 65536 in
theorem w_c33 : (Jvm.Cond.code ({ cls := "java/util/Arrays", name := "copyOfRange", desc := "([BII)[B" } : Jvm.MethodName) jdk_65_method_132_code (3 : Nat) (Option.some (Jvm.ClassFile.FieldType.array Jvm.ClassFile.FieldType.byte))).before args0 about1 = true := code_word (m := ⟨22, 3⟩) (meth := k22m3) (c := k22c3) (by decide +kernel) rfl rfl rfl (by decide +kernel)
set_option maxRecDepth 65536 in
theorem w_c34 : (Jvm.Cond.code ({ cls := "java/util/Arrays", name := "copyOfRangeByte", desc := "([BII)[B" } : Jvm.MethodName) jdk_65_method_133_code (5 : Nat) (Option.some (Jvm.ClassFile.FieldType.array Jvm.ClassFile.FieldType.byte))).before args0 about1 = true := code_word (m := ⟨22, 4⟩) (meth := k22m4) (c := k22c4) (by decide +kernel) rfl rfl rfl (by decide +kernel)
set_option maxRecDepth 65536 in
theorem w_c35 : (Jvm.Cond.code ({ cls := "java/util/Arrays", name := "checkLength", desc := "(II)V" } : Jvm.MethodName) jdk_65_method_131_code (2 : Nat) (Option.none : Option Jvm.ClassFile.FieldType)).before args0 about1 = true := code_word (m := ⟨22, 2⟩) (meth := k22m2) (c := k22c2) (by decide +kernel) rfl rfl rfl (by decide +kernel)
set_option maxRecDepth 65536 in
theorem w_c36 : (Jvm.Cond.code ({ cls := "java/io/IOException", name := "<init>", desc := "(Ljava/lang/String;)V" } : Jvm.MethodName) jdk_131_method_2_code (2 : Nat) (Option.none : Option Jvm.ClassFile.FieldType)).before args0 about1 = true := code_word (m := ⟨7, 1⟩) (meth := k7m1) (c := k7c1) (by decide +kernel) rfl rfl rfl (by decide +kernel)
set_option maxRecDepth 65536 in
theorem w_c37 : (Jvm.Cond.code ({ cls := "java/lang/Exception", name := "<init>", desc := "(Ljava/lang/String;)V" } : Jvm.MethodName) jdk_59_method_2_code (2 : Nat) (Option.none : Option Jvm.ClassFile.FieldType)).before args0 about1 = true := code_word (m := ⟨6, 1⟩) (meth := k6m1) (c := k6c1) (by decide +kernel) rfl rfl rfl (by decide +kernel)
set_option maxRecDepth 65536 in
theorem w_c38 : (Jvm.Cond.code ({ cls := "java/lang/Throwable", name := "<init>", desc := "(Ljava/lang/String;)V" } : Jvm.MethodName) jdk_78_method_2_code (2 : Nat) (Option.none : Option Jvm.ClassFile.FieldType)).before args0 about1 = true := code_word (m := ⟨5, 1⟩) (meth := k5m1) (c := k5c1) (by decide +kernel) rfl rfl rfl (by decide +kernel)
set_option maxRecDepth 65536 in
theorem w_c39 : (Jvm.Cond.code ({ cls := "java/lang/Throwable", name := "<init>", desc := "()V" } : Jvm.MethodName) jdk_78_method_1_code (1 : Nat) (Option.none : Option Jvm.ClassFile.FieldType)).before args0 about1 = true := code_word (m := ⟨5, 0⟩) (meth := k5m0) (c := k5c0) (by decide +kernel) rfl rfl rfl (by decide +kernel)
def codes1 : List Jvm.Cond := [Jvm.Cond.code x code maxLocals ret, Jvm.Cond.code ({ cls := "com/example/chapeau/chapeau/io/CopyReport", name := "<init>", desc := "(JJJLcom/example/chapeau/chapeau/io/MalformedXmlException;)V" } : Jvm.MethodName) prog_23_method_1_code (8 : Nat) (Option.none : Option Jvm.ClassFile.FieldType), Jvm.Cond.code ({ cls := "java/lang/Record", name := "<init>", desc := "()V" } : Jvm.MethodName) jdk_30_method_1_code (1 : Nat) (Option.none : Option Jvm.ClassFile.FieldType), Jvm.Cond.code ({ cls := "java/lang/Object", name := "<init>", desc := "()V" } : Jvm.MethodName) object_method_1_code (1 : Nat) (Option.none : Option Jvm.ClassFile.FieldType), Jvm.Cond.code ({ cls := "com/example/chapeau/chapeau/io/CopyReport", name := "whole", desc := "()Z" } : Jvm.MethodName) prog_23_method_2_code (1 : Nat) (Option.some Jvm.ClassFile.FieldType.boolean), Jvm.Cond.code ({ cls := "com/example/chapeau/chapeau/io/MalformedXmlException", name := "<init>", desc := "(IILjava/lang/String;)V" } : Jvm.MethodName) prog_33_method_1_code (4 : Nat) (Option.none : Option Jvm.ClassFile.FieldType), Jvm.Cond.code ({ cls := "java/lang/StringBuilder", name := "<init>", desc := "()V" } : Jvm.MethodName) jdk_67_method_1_code (1 : Nat) (Option.none : Option Jvm.ClassFile.FieldType), Jvm.Cond.code ({ cls := "java/lang/AbstractStringBuilder", name := "<init>", desc := "(I)V" } : Jvm.MethodName) jdk_68_method_2_code (2 : Nat) (Option.none : Option Jvm.ClassFile.FieldType), Jvm.Cond.code ({ cls := "com/example/chapeau/chapeau/io/MalformedXmlException", name := "place", desc := "(II)Ljava/lang/String;" } : Jvm.MethodName) prog_33_method_2_code (2 : Nat) (Option.some (Jvm.ClassFile.FieldType.object "java/lang/String")), Jvm.Cond.code ({ cls := "java/lang/StringBuilder", name := "append", desc := "(Ljava/lang/String;)Ljava/lang/StringBuilder;" } : Jvm.MethodName) jdk_67_method_7_code (2 : Nat) (Option.some (Jvm.ClassFile.FieldType.object "java/lang/StringBuilder")), Jvm.Cond.code ({ cls := "java/lang/AbstractStringBuilder", name := "append", desc := "(Ljava/lang/String;)Ljava/lang/AbstractStringBuilder;" } : Jvm.MethodName) jdk_68_method_22_code (3 : Nat) (Option.some (Jvm.ClassFile.FieldType.object "java/lang/AbstractStringBuilder")), Jvm.Cond.code ({ cls := "java/lang/String", name := "length", desc := "()I" } : Jvm.MethodName) jdk_42_method_54_code (1 : Nat) (Option.some Jvm.ClassFile.FieldType.int), Jvm.Cond.code ({ cls := "java/lang/String", name := "coder", desc := "()B" } : Jvm.MethodName) jdk_42_method_152_code (1 : Nat) (Option.some Jvm.ClassFile.FieldType.byte), Jvm.Cond.code ({ cls := "java/lang/AbstractStringBuilder", name := "ensureCapacityInternal", desc := "(I)V" } : Jvm.MethodName) jdk_68_method_9_code (3 : Nat) (Option.none : Option Jvm.ClassFile.FieldType), Jvm.Cond.code ({ cls := "java/lang/AbstractStringBuilder", name := "putStringAt", desc := "(ILjava/lang/String;)V" } : Jvm.MethodName) jdk_68_method_73_code (3 : Nat) (Option.none : Option Jvm.ClassFile.FieldType), Jvm.Cond.code ({ cls := "java/lang/AbstractStringBuilder", name := "inflateIfNeededFor", desc := "(Ljava/lang/String;)V" } : Jvm.MethodName) jdk_68_method_71_code (2 : Nat) (Option.none : Option Jvm.ClassFile.FieldType), Jvm.Cond.code ({ cls := "java/lang/String", name := "getBytes", desc := "([BIB)V" } : Jvm.MethodName) jdk_42_method_147_code (4 : Nat) (Option.none : Option Jvm.ClassFile.FieldType), Jvm.Cond.code ({ cls := "java/lang/StringBuilder", name := "append", desc := "(I)Ljava/lang/StringBuilder;" } : Jvm.MethodName) jdk_67_method_15_code (2 : Nat) (Option.some (Jvm.ClassFile.FieldType.object "java/lang/StringBuilder")), Jvm.Cond.code ({ cls := "java/lang/AbstractStringBuilder", name := "append", desc := "(I)Ljava/lang/AbstractStringBuilder;" } : Jvm.MethodName) jdk_68_method_32_code (4 : Nat) (Option.some (Jvm.ClassFile.FieldType.object "java/lang/AbstractStringBuilder")), Jvm.Cond.code ({ cls := "java/lang/Integer", name := "stringSize", desc := "(I)I" } : Jvm.MethodName) jdk_33_method_13_code (4 : Nat) (Option.some Jvm.ClassFile.FieldType.int), Jvm.Cond.code ({ cls := "java/lang/AbstractStringBuilder", name := "isLatin1", desc := "()Z" } : Jvm.MethodName) jdk_68_method_68_code (1 : Nat) (Option.some Jvm.ClassFile.FieldType.boolean), Jvm.Cond.code ({ cls := "java/lang/Integer", name := "getChars", desc := "(II[B)I" } : Jvm.MethodName) jdk_33_method_12_code (7 : Nat) (Option.some Jvm.ClassFile.FieldType.int), Jvm.Cond.code ({ cls := "java/lang/AbstractStringBuilder", name := "newCapacity", desc := "(I)I" } : Jvm.MethodName) jdk_68_method_10_code (6 : Nat) (Option.some Jvm.ClassFile.FieldType.int), Jvm.Cond.code ({ cls := "jdk/internal/util/ArraysSupport", name := "newLength", desc := "(III)I" } : Jvm.MethodName) jdk_48_method_27_code (4 : Nat) (Option.some Jvm.ClassFile.FieldType.int), Jvm.Cond.code ({ cls := "java/lang/Math", name := "max", desc := "(II)I" } : Jvm.MethodName) jdk_29_method_65_code (2 : Nat) (Option.some Jvm.ClassFile.FieldType.int), Jvm.Cond.code ({ cls := "java/util/Arrays", name := "copyOf", desc := "([BI)[B" } : Jvm.MethodName) jdk_65_method_121_code (3 : Nat) (Option.some (Jvm.ClassFile.FieldType.array Jvm.ClassFile.FieldType.byte)), Jvm.Cond.code ({ cls := "java/lang/Math", name := "min", desc := "(II)I" } : Jvm.MethodName) jdk_29_method_69_code (2 : Nat) (Option.some Jvm.ClassFile.FieldType.int), Jvm.Cond.code ({ cls := "java/lang/StringBuilder", name := "toString", desc := "()Ljava/lang/String;" } : Jvm.MethodName) jdk_67_method_42_code (1 : Nat) (Option.some (Jvm.ClassFile.FieldType.object "java/lang/String")), Jvm.Cond.code ({ cls := "java/lang/String", name := "<init>", desc := "(Ljava/lang/StringBuilder;)V" } : Jvm.MethodName) jdk_42_method_53_code (2 : Nat) (Option.none : Option Jvm.ClassFile.FieldType), Jvm.Cond.code ({ cls := "java/lang/String", name := "<init>", desc := "(Ljava/lang/AbstractStringBuilder;Ljava/lang/Void;)V" } : Jvm.MethodName) jdk_42_method_150_code (5 : Nat) (Option.none : Option Jvm.ClassFile.FieldType), Jvm.Cond.code ({ cls := "java/lang/AbstractStringBuilder", name := "getValue", desc := "()[B" } : Jvm.MethodName) jdk_68_method_64_code (1 : Nat) (Option.some (Jvm.ClassFile.FieldType.array Jvm.ClassFile.FieldType.byte)), Jvm.Cond.code ({ cls := "java/lang/StringBuilder", name := "length", desc := "()I" } : Jvm.MethodName) jdk_67_method_93_code (1 : Nat) (Option.some Jvm.ClassFile.FieldType.int), Jvm.Cond.code ({ cls := "java/lang/AbstractStringBuilder", name := "length", desc := "()I" } : Jvm.MethodName) jdk_68_method_6_code (1 : Nat) (Option.some Jvm.ClassFile.FieldType.int), Jvm.Cond.code ({ cls := "java/util/Arrays", name := "copyOfRange", desc := "([BII)[B" } : Jvm.MethodName) jdk_65_method_132_code (3 : Nat) (Option.some (Jvm.ClassFile.FieldType.array Jvm.ClassFile.FieldType.byte)), Jvm.Cond.code ({ cls := "java/util/Arrays", name := "copyOfRangeByte", desc := "([BII)[B" } : Jvm.MethodName) jdk_65_method_133_code (5 : Nat) (Option.some (Jvm.ClassFile.FieldType.array Jvm.ClassFile.FieldType.byte)), Jvm.Cond.code ({ cls := "java/util/Arrays", name := "checkLength", desc := "(II)V" } : Jvm.MethodName) jdk_65_method_131_code (2 : Nat) (Option.none : Option Jvm.ClassFile.FieldType), Jvm.Cond.code ({ cls := "java/io/IOException", name := "<init>", desc := "(Ljava/lang/String;)V" } : Jvm.MethodName) jdk_131_method_2_code (2 : Nat) (Option.none : Option Jvm.ClassFile.FieldType), Jvm.Cond.code ({ cls := "java/lang/Exception", name := "<init>", desc := "(Ljava/lang/String;)V" } : Jvm.MethodName) jdk_59_method_2_code (2 : Nat) (Option.none : Option Jvm.ClassFile.FieldType), Jvm.Cond.code ({ cls := "java/lang/Throwable", name := "<init>", desc := "(Ljava/lang/String;)V" } : Jvm.MethodName) jdk_78_method_2_code (2 : Nat) (Option.none : Option Jvm.ClassFile.FieldType), Jvm.Cond.code ({ cls := "java/lang/Throwable", name := "<init>", desc := "()V" } : Jvm.MethodName) jdk_78_method_1_code (1 : Nat) (Option.none : Option Jvm.ClassFile.FieldType)]
set_option maxRecDepth 65536 in
theorem codes_eq : words1.filter isCode = codes1 := rfl
theorem w_codes : ∀ c ∈ words1.filter isCode, c.before args0 about1 = true := by
  rw [codes_eq]
  intro c hc
  simp only [codes1, List.mem_cons, List.not_mem_nil, or_false] at hc
  rcases hc with rfl | rfl | rfl | rfl | rfl | rfl | rfl | rfl | rfl | rfl | rfl | rfl | rfl | rfl | rfl | rfl | rfl | rfl | rfl | rfl | rfl | rfl | rfl | rfl | rfl | rfl | rfl | rfl | rfl | rfl | rfl | rfl | rfl | rfl | rfl | rfl | rfl | rfl | rfl | rfl
  · exact w_c0
  · exact w_c1
  · exact w_c2
  · exact w_c3
  · exact w_c4
  · exact w_c5
  · exact w_c6
  · exact w_c7
  · exact w_c8
  · exact w_c9
  · exact w_c10
  · exact w_c11
  · exact w_c12
  · exact w_c13
  · exact w_c14
  · exact w_c15
  · exact w_c16
  · exact w_c17
  · exact w_c18
  · exact w_c19
  · exact w_c20
  · exact w_c21
  · exact w_c22
  · exact w_c23
  · exact w_c24
  · exact w_c25
  · exact w_c26
  · exact w_c27
  · exact w_c28
  · exact w_c29
  · exact w_c30
  · exact w_c31
  · exact w_c32
  · exact w_c33
  · exact w_c34
  · exact w_c35
  · exact w_c36
  · exact w_c37
  · exact w_c38
  · exact w_c39
set_option maxRecDepth 65536 in
theorem w_t1 : (words1.take 24).all (fun c => isCode c || c.before args0 about1) = true := by decide +kernel
set_option maxRecDepth 65536 in
theorem w_t2 : ((words1.drop 24).take 24).all (fun c => isCode c || c.before args0 about1) = true := by decide +kernel
set_option maxRecDepth 65536 in
theorem w_t3 : (((words1.drop 24).drop 24).take 24).all (fun c => isCode c || c.before args0 about1) = true := by decide +kernel
set_option maxRecDepth 65536 in
theorem w_t4 : ((((words1.drop 24).drop 24).drop 24).take 24).all (fun c => isCode c || c.before args0 about1) = true := by decide +kernel
set_option maxRecDepth 65536 in
theorem w_t5 : (((((words1.drop 24).drop 24).drop 24).drop 24).take 24).all (fun c => isCode c || c.before args0 about1) = true := by decide +kernel
set_option maxRecDepth 65536 in
theorem w_t6 : ((((((words1.drop 24).drop 24).drop 24).drop 24).drop 24).take 24).all (fun c => isCode c || c.before args0 about1) = true := by decide +kernel
set_option maxRecDepth 65536 in
theorem w_t7 : (((((((words1.drop 24).drop 24).drop 24).drop 24).drop 24).drop 24).take 24).all (fun c => isCode c || c.before args0 about1) = true := by decide +kernel
set_option maxRecDepth 65536 in
theorem w_t8 : ((((((((words1.drop 24).drop 24).drop 24).drop 24).drop 24).drop 24).drop 24).take 24).all (fun c => isCode c || c.before args0 about1) = true := by decide +kernel
set_option maxRecDepth 65536 in
theorem w_t9 : (((((((((words1.drop 24).drop 24).drop 24).drop 24).drop 24).drop 24).drop 24).drop 24).take 24).all (fun c => isCode c || c.before args0 about1) = true := by decide +kernel
set_option maxRecDepth 65536 in
theorem w_t10 : ((((((((((words1.drop 24).drop 24).drop 24).drop 24).drop 24).drop 24).drop 24).drop 24).drop 24).take 24).all (fun c => isCode c || c.before args0 about1) = true := by decide +kernel
set_option maxRecDepth 65536 in
theorem w_t11 : ((((((((((words1.drop 24).drop 24).drop 24).drop 24).drop 24).drop 24).drop 24).drop 24).drop 24).drop 24).all (fun c => isCode c || c.before args0 about1) = true := by decide +kernel
theorem w_tables : (allAtoms (Jvm.Cond.code x code maxLocals ret :: tables_1)).before args0 about1 = true := by
  rw [allAtoms_all]
  show words1.all (fun c => c.before args0 about1) = true
  refine all_split ?_ w_codes
  rw [← List.take_append_drop 24 words1, List.all_append, w_t1, ← List.take_append_drop 24 (words1.drop 24), List.all_append, w_t2, ← List.take_append_drop 24 ((words1.drop 24).drop 24), List.all_append, w_t3, ← List.take_append_drop 24 (((words1.drop 24).drop 24).drop 24), List.all_append, w_t4, ← List.take_append_drop 24 ((((words1.drop 24).drop 24).drop 24).drop 24), List.all_append, w_t5, ← List.take_append_drop 24 (((((words1.drop 24).drop 24).drop 24).drop 24).drop 24), List.all_append, w_t6, ← List.take_append_drop 24 ((((((words1.drop 24).drop 24).drop 24).drop 24).drop 24).drop 24), List.all_append, w_t7, ← List.take_append_drop 24 (((((((words1.drop 24).drop 24).drop 24).drop 24).drop 24).drop 24).drop 24), List.all_append, w_t8, ← List.take_append_drop 24 ((((((((words1.drop 24).drop 24).drop 24).drop 24).drop 24).drop 24).drop 24).drop 24), List.all_append, w_t9, ← List.take_append_drop 24 (((((((((words1.drop 24).drop 24).drop 24).drop 24).drop 24).drop 24).drop 24).drop 24).drop 24), List.all_append, w_t10, w_t11]
  rfl
set_option maxRecDepth 65536 in
theorem w_rest : rest_1_c.before args0 about1 = true := by decide +kernel
set_option maxRecDepth 65536 in
theorem w_case : (Jvm.Cond.and given_1 narrow_1).before args0 about1 = true := by decide +kernel
set_option maxRecDepth 65536 in
theorem w_consts : constsHeld consts_1 about1 := Jvm.Lit.constsHeldB_iff.mp (by decide +kernel)
theorem w_applies : (headSpec (Jvm.Cond.code x code maxLocals ret :: tables_1) room_1).applies x e0.platform about1 = true :=
  (Spec.applies_iff w_frames).mpr ⟨w_running, w_runnable, w_alone, w_named, w_hears, w_ripe, w_room, w_tables⟩
theorem atStart : AtStart classFile x code maxLocals ret World_1 tables_1 room_1 Calls_1 rest_1 Pre_1 launch0 p0 e0 about1 theMethod args0 below0 :=
  ⟨lists_1, trivial, launch0.admits_env _ _ _, launch0.least_env, fairChoices_fair.cas, fairChoices_fair.clock, w_frames, w_args, w_heap, w_applies, ⟨(by decide +kernel : framesKnown about1 = true), ⟨(by decide +kernel : tablesKnown about1 = true), ⟨w_consts, trivial⟩⟩⟩, w_rest, w_case⟩
end start1
theorem witness_1 : WitnessClaimed_1 := ⟨start1.p0, start1.e0, start1.about1, start1.theMethod, start1.args0, start1.below0, start1.atStart⟩
end Jvm.Pilot.@@N@@
