import JvmDerived
import JvmDerived.Pilot.@@N@@Statement
import JvmDerived.Pilot.@@N@@Code
set_option linter.unusedVariables false
set_option linter.unusedSimpArgs false
set_option maxRecDepth 65536
set_option maxHeartbeats 40000000
namespace Jvm.Pilot.@@N@@
open Jvm Jvm.ClassFile Sem Op Lib Jvm.Free Jvm.Stand Jvm.LawKit Jvm.RoadKit Bundle Jvm.FP Jvm.Free.Fl Jvm.Pilot.@@N@@.Jvm.D
section OwnKit
variable {p : Program} {l : Launch} {e : Env} {R : Room} {s : State} {m : MethodId} {A : Array Value} {below : List Frame} {meth : Method} {c : Code} {T : State} {cells slots : Nat} {Z : State} {a0 : Array Value} {h : Heap} {own nm : String} {bytes : ByteArray} {maxL : Nat} {ret : Option FieldType} {W : Outcome → State → Prop} {pc pc' tgt : Nat} {Ls : Array Slot} {st : List Value}
/-- the run from the frame g over T comes to an end at which W holds -/
def Goes (p : Program) (e : Env) (below : List Frame) (W : Outcome → State → Prop) (T : State) (g : JFrame) : Prop :=
  ∃ s₂ o, Steps p.tables e below (T.setTop g) s₂ ∧ s₂.status = .running ∧ Ended s₂ below o ∧ W o s₂
theorem Goes.via {T' : State} {g g' : JFrame} (h : ∀ t, Steps p.tables e below (T'.setTop g') t → Steps p.tables e below (T.setTop g) t) (k : Goes p e below W T' g') : Goes p e below W T g := by
  obtain ⟨s₂, o, h1, h2⟩ := k; exact ⟨s₂, o, h _ h1, h2⟩
/-- what stays the same through a body -/
def Cx (p : Program) (s : State) (m : MethodId) (meth : Method) (c : Code) (Z : State) (own nm : String) (bytes : ByteArray) (maxL : Nat) (ret : Option FieldType) : Prop :=
  p.tables.exec = Jvm.exec ∧ Z.Warmed39 s.vm ∧ s.vm.findClass own = some m.cls ∧ c.code = bytes ∧ c.maxLocals = maxL ∧ meth.sig.returnType = ret ∧ meth.locks = false ∧ meth.name = nm
theorem Cx.hx (C : Cx p s m meth c Z own nm bytes maxL ret) : p.tables.exec = Jvm.exec := C.1
theorem Cx.hZ (C : Cx p s m meth c Z own nm bytes maxL ret) : Z.Warmed39 s.vm := C.2.1
theorem Cx.hown (C : Cx p s m meth c Z own nm bytes maxL ret) : s.vm.findClass own = some m.cls := C.2.2.1
theorem Cx.hby (C : Cx p s m meth c Z own nm bytes maxL ret) : c.code = bytes := C.2.2.2.1
theorem Cx.hml (C : Cx p s m meth c Z own nm bytes maxL ret) : c.maxLocals = maxL := C.2.2.2.2.1
theorem Cx.hret (C : Cx p s m meth c Z own nm bytes maxL ret) : meth.sig.returnType = ret := C.2.2.2.2.2.1
theorem Cx.hlk (C : Cx p s m meth c Z own nm bytes maxL ret) : meth.locks = false := C.2.2.2.2.2.2.1
theorem Cx.hnm (C : Cx p s m meth c Z own nm bytes maxL ret) : meth.name = nm := C.2.2.2.2.2.2.2
/-- where the walk stands: the heap is h; nothing that stood at Z was written; at most so many cells and slots were made -/
def St (p : Program) (l : Launch) (e : Env) (R : Room) (s : State) (m : MethodId) (A : Array Value) (below : List Frame) (meth : Method) (c : Code) (Z : State) (T : State) (h : Heap) (cells slots : Nat) : Prop :=
  ∃ locs, Stand p l e R s m A below meth c T locs cells slots ∧ T.heap = h ∧ Fr Z.heap.size locs ∧ Ext Z.heap h
theorem St.here (X : St p l e R s m A below meth c Z T h cells slots) : At T m c below := by obtain ⟨_, Y, _⟩ := X; exact Y.here
theorem St.ext (X : St p l e R s m A below meth c Z T h cells slots) : Ext Z.heap h := by obtain ⟨_, _, _, _, E⟩ := X; exact E
theorem St.more {cells' slots' : Nat} (X : St p l e R s m A below meth c Z T h cells slots) (h1 : cells ≤ cells') (h2 : slots ≤ slots') : St p l e R s m A below meth c Z T h cells' slots' := by
  obtain ⟨L, Y, r⟩ := X; exact ⟨L, Y.more h1 h2, r⟩
/-- the end of a body: Q of what it returned and of the heap -/
def EndW (Z s : State) (k n : Nat) (Q : Option Value → Heap → Prop) (o : Outcome) (u : State) : Prop :=
  ∃ v L, o = .returned v ∧ (Fr Z.heap.size L ∧ Ext Z.heap u.heap ∧ Q v u.heap) ∧ FrameEnd s o u L k n
/-- a body's contract: called with A at the heap h0, over tables warmer than Z's, it returns and leaves Q -/
def Con (l : Launch) (y : MethodName) (bytes : ByteArray) (maxL : Nat) (ret : Option FieldType) (ws : List Jvm.Cond) (rm : Room) (Z : State) (A : Array Value) (h0 : Heap) (Q : Option Value → Heap → Prop) : Prop :=
  MetFree l y (head1 (Jvm.Cond.code y bytes maxL ret :: ws) rm) (fun a U => a = A ∧ Z.Warmed39 U.vm ∧ U.heap = h0) (fun _ _ _ _ _ => True) (fun _ U o U' => EndW Z U rm.cells rm.slots Q o U')
theorem con_of {y : MethodName} {ws : List Jvm.Cond} {rm : Room} {h0 : Heap} {Q : Option Value → Heap → Prop} {Ls : Array Slot} (hp : plainFor y = true) (hE : Ext Z.heap h0) (hef : ∀ m, entryFrame m A maxL = mkF m 0 Ls [])
    (body : ∀ p e s m below meth c s₁, Cx p s m meth c Z y.cls y.name bytes maxL ret → St p l e rm s m A below meth c Z s₁ h0 0 0 → Goes p e below (EndW Z s rm.cells rm.slots Q) s₁ (mkF m 0 Ls [])) :
    Con l y bytes maxL ret ws rm Z A h0 Q := by
  refine MetFree.of_bodySF hp hisR ?_
  intro p e s m args below meth c s₁ Bd hml0 hP hK
  obtain ⟨rfl, hZ, hh⟩ := hP
  have X0 := Stand.of_body Bd
  have e0 : s₁.heap = h0 := by rw [← hh, Bd.state]; rfl
  have := body p e s m below meth c s₁ ⟨Bd.exec, hZ, findClass_of_methodNamed Bd.named, Bd.bytes, hml0, Bd.returns, Bd.notSynchronized, (name_of_methodNamed Bd.named Bd.method).1⟩ ⟨[], X0, e0, Fr.nil _, hE⟩
  rw [← hef m] at this
  exact this
/-- the instruction at pc, its length, the pc behind it -/
def Dc (b : ByteArray) (pc : Nat) (i : Instr) (n pc' : Nat) : Prop := decode b pc = .ok (i, n) ∧ pc + n = pc'
/-- a jump: besides, its target -/
def Dj (b : ByteArray) (pc : Nat) (i : Instr) (o : Int) (n pc' tgt : Nat) : Prop := decode b pc = .ok (i, n) ∧ pc + n = pc' ∧ 0 ≤ (pc : Int) + o ∧ ((pc : Int) + o).toNat = tgt
theorem g_goto {o : Int} (C : Cx p s m meth c Z own nm bytes maxL ret) (X : St p l e R s m A below meth c Z T h cells slots) (d : Dj bytes pc (.goto o) o 3 pc' tgt) (K : Goes p e below W T (mkF m tgt Ls st)) : Goes p e below W T (mkF m pc Ls st) :=
  Goes.via (fun _ k => XS.goto X.here C.hx rfl rfl (hb C.hby d.1) d.2.2.1 d.2.2.2 k) K
theorem g_if {cd : ClassFile.Cond} {o : Int} {x : Int32} {P : Prop} [Decidable P] (hP : ifCond.holds cd x = decide P) (C : Cx p s m meth c Z own nm bytes maxL ret) (X : St p l e R s m A below meth c Z T h cells slots) (d : Dj bytes pc (.ifCond cd o) o 3 pc' tgt) (K1 : P → Goes p e below W T (mkF m tgt Ls st)) (K2 : ¬ P → Goes p e below W T (mkF m pc' Ls st)) : Goes p e below W T (mkF m pc Ls (.int x :: st)) := by
  obtain ⟨d1, rfl, d3, d4⟩ := d
  by_cases q : P
  · exact Goes.via (fun _ k => XS.ifYes X.here C.hx rfl rfl (hb C.hby d1) rfl (hP.trans (decide_eq_true q)) d3 d4 k) (K1 q)
  · exact Goes.via (fun _ k => XS.ifNo X.here C.hx rfl (hb C.hby d1) rfl (hP.trans (decide_eq_false q)) k) (K2 q)
theorem g_icmp {cd : ClassFile.Cond} {o : Int} {x y : Int32} {P : Prop} [Decidable P] (hP : if_icmp.holds cd x y = decide P) (C : Cx p s m meth c Z own nm bytes maxL ret) (X : St p l e R s m A below meth c Z T h cells slots) (d : Dj bytes pc (.if_icmp cd o) o 3 pc' tgt) (K1 : P → Goes p e below W T (mkF m tgt Ls st)) (K2 : ¬ P → Goes p e below W T (mkF m pc' Ls st)) : Goes p e below W T (mkF m pc Ls (.int y :: .int x :: st)) := by
  obtain ⟨d1, rfl, d3, d4⟩ := d
  by_cases q : P
  · exact Goes.via (fun _ k => XS.icmpYes X.here C.hx rfl rfl (hb C.hby d1) rfl (hP.trans (decide_eq_true q)) d3 d4 k) (K1 q)
  · exact Goes.via (fun _ k => XS.icmpNo X.here C.hx rfl (hb C.hby d1) rfl (hP.trans (decide_eq_false q)) k) (K2 q)
theorem g_ifn {cd : ClassFile.Cond} {o : Int} {x : Int32} {P : Prop} [Decidable P] (hP : ifCond.holds cd x = !decide P) (C : Cx p s m meth c Z own nm bytes maxL ret) (X : St p l e R s m A below meth c Z T h cells slots) (d : Dj bytes pc (.ifCond cd o) o 3 pc' tgt) (K1 : ¬ P → Goes p e below W T (mkF m tgt Ls st)) (K2 : P → Goes p e below W T (mkF m pc' Ls st)) : Goes p e below W T (mkF m pc Ls (.int x :: st)) := by
  obtain ⟨d1, rfl, d3, d4⟩ := d
  by_cases q : P
  · exact Goes.via (fun _ k => XS.ifNo X.here C.hx rfl (hb C.hby d1) rfl (hP.trans (by simp [q])) k) (K2 q)
  · exact Goes.via (fun _ k => XS.ifYes X.here C.hx rfl rfl (hb C.hby d1) rfl (hP.trans (by simp [q])) d3 d4 k) (K1 q)
theorem g_icmpn {cd : ClassFile.Cond} {o : Int} {x y : Int32} {P : Prop} [Decidable P] (hP : if_icmp.holds cd x y = !decide P) (C : Cx p s m meth c Z own nm bytes maxL ret) (X : St p l e R s m A below meth c Z T h cells slots) (d : Dj bytes pc (.if_icmp cd o) o 3 pc' tgt) (K1 : ¬ P → Goes p e below W T (mkF m tgt Ls st)) (K2 : P → Goes p e below W T (mkF m pc' Ls st)) : Goes p e below W T (mkF m pc Ls (.int y :: .int x :: st)) := by
  obtain ⟨d1, rfl, d3, d4⟩ := d
  by_cases q : P
  · exact Goes.via (fun _ k => XS.icmpNo X.here C.hx rfl (hb C.hby d1) rfl (hP.trans (by simp [q])) k) (K2 q)
  · exact Goes.via (fun _ k => XS.icmpYes X.here C.hx rfl rfl (hb C.hby d1) rfl (hP.trans (by simp [q])) d3 d4 k) (K1 q)
theorem hI_eq (x y : Int32) : if_icmp.holds .eq x y = decide (x = y) := by
  by_cases q : x = y
  · rw [(teq q).1]; simp [q]
  · rw [(feq q).1]; simp [q]
theorem hI_ne (x y : Int32) : if_icmp.holds .ne x y = !decide (x = y) := by
  by_cases q : x = y
  · rw [(teq q).2]; simp [q]
  · rw [(feq q).2]; simp [q]
theorem hI_lt (x y : Int32) : if_icmp.holds .lt x y = decide (x < y) := by
  by_cases q : x < y
  · rw [(tlt q).1]; simp [q]
  · rw [(flt q).1]; simp [q]
theorem hI_ge (x y : Int32) : if_icmp.holds .ge x y = !decide (x < y) := by
  by_cases q : x < y
  · rw [(tlt q).2.1]; simp [q]
  · rw [(flt q).2.1]; simp [q]
theorem hI_gt (x y : Int32) : if_icmp.holds .gt x y = decide (y < x) := by
  by_cases q : y < x
  · rw [(tlt q).2.2.1]; simp [q]
  · rw [(flt q).2.2.1]; simp [q]
theorem hI_le (x y : Int32) : if_icmp.holds .le x y = !decide (y < x) := by
  by_cases q : y < x
  · rw [(tlt q).2.2.2]; simp [q]
  · rw [(flt q).2.2.2]; simp [q]
theorem h0_eq (x : Int32) : ifCond.holds .eq x = decide (x = 0) := (if0 _ _).trans (hI_eq x 0)
theorem h0_ne (x : Int32) : ifCond.holds .ne x = !decide (x = 0) := (if0 _ _).trans (hI_ne x 0)
theorem h0_lt (x : Int32) : ifCond.holds .lt x = decide (x < 0) := (if0 _ _).trans (hI_lt x 0)
theorem h0_ge (x : Int32) : ifCond.holds .ge x = !decide (x < 0) := (if0 _ _).trans (hI_ge x 0)
theorem h0_gt (x : Int32) : ifCond.holds .gt x = decide (0 < x) := (if0 _ _).trans (hI_gt x 0)
theorem h0_le (x : Int32) : ifCond.holds .le x = !decide (0 < x) := (if0 _ _).trans (hI_le x 0)
/-- a comparison of longs, then a branch on it: 'lcmp; if..' -/
theorem hL_eq (x y : Int64) : ifCond.holds .eq (lcmpW x y) = decide (x = y) := by rw [h0_eq]; exact decide_eq_decide.mpr (lw_eq x y)
theorem hL_ne (x y : Int64) : ifCond.holds .ne (lcmpW x y) = !decide (x = y) := by rw [h0_ne]; exact congrArg _ (decide_eq_decide.mpr (lw_eq x y))
theorem hL_lt (x y : Int64) : ifCond.holds .lt (lcmpW x y) = decide (x < y) := by rw [h0_lt]; exact decide_eq_decide.mpr (lw_lt x y)
theorem hL_ge (x y : Int64) : ifCond.holds .ge (lcmpW x y) = !decide (x < y) := by rw [h0_ge]; exact congrArg _ (decide_eq_decide.mpr (lw_lt x y))
theorem hL_gt (x y : Int64) : ifCond.holds .gt (lcmpW x y) = decide (y < x) := by rw [h0_gt]; exact decide_eq_decide.mpr (lw_gt x y)
theorem hL_le (x y : Int64) : ifCond.holds .le (lcmpW x y) = !decide (y < x) := by rw [h0_le]; exact congrArg _ (decide_eq_decide.mpr (lw_gt x y))
/-- two references compared; the values are references or null -/
theorem g_acmpeq {o : Int} {x y : Value} (C : Cx p s m meth c Z own nm bytes maxL ret) (X : St p l e R s m A below meth c Z T h cells slots) (d : Dj bytes pc (.if_acmp .eq o) o 3 pc' tgt) (h1 : x.isRef = true) (h2 : y.isRef = true) (K1 : x = y → Goes p e below W T (mkF m tgt Ls st)) (K2 : ¬ x = y → Goes p e below W T (mkF m pc' Ls st)) : Goes p e below W T (mkF m pc Ls (y :: x :: st)) := by
  obtain ⟨d1, rfl, d3, d4⟩ := d
  by_cases q : x = y
  · exact Goes.via (fun _ k => XT.acmpYes X.here C.hx rfl rfl (hb C.hby d1) rfl h1 h2 (XT.aa_eq_t q) d3 d4 k) (K1 q)
  · exact Goes.via (fun _ k => XT.acmpNo X.here C.hx rfl (hb C.hby d1) rfl h1 h2 (XT.aa_eq_f q) k) (K2 q)
theorem g_acmpne {o : Int} {x y : Value} (C : Cx p s m meth c Z own nm bytes maxL ret) (X : St p l e R s m A below meth c Z T h cells slots) (d : Dj bytes pc (.if_acmp .ne o) o 3 pc' tgt) (h1 : x.isRef = true) (h2 : y.isRef = true) (K1 : ¬ x = y → Goes p e below W T (mkF m tgt Ls st)) (K2 : x = y → Goes p e below W T (mkF m pc' Ls st)) : Goes p e below W T (mkF m pc Ls (y :: x :: st)) := by
  obtain ⟨d1, rfl, d3, d4⟩ := d
  by_cases q : x = y
  · exact Goes.via (fun _ k => XT.acmpNo X.here C.hx rfl (hb C.hby d1) rfl h1 h2 (XT.aa_ne_f q) k) (K2 q)
  · exact Goes.via (fun _ k => XT.acmpYes X.here C.hx rfl rfl (hb C.hby d1) rfl h1 h2 (XT.aa_ne_t q) d3 d4 k) (K1 q)
theorem g_ifnull {o : Int} {v : Value} (C : Cx p s m meth c Z own nm bytes maxL ret) (X : St p l e R s m A below meth c Z T h cells slots) (d : Dj bytes pc (.ifnull o) o 3 pc' tgt) (h1 : v.isRef = true) (K1 : v = .null → Goes p e below W T (mkF m tgt Ls st)) (K2 : ¬ v = .null → Goes p e below W T (mkF m pc' Ls st)) : Goes p e below W T (mkF m pc Ls (v :: st)) := by
  obtain ⟨d1, rfl, d3, d4⟩ := d
  by_cases q : v = .null
  · exact Goes.via (fun _ k => XT.nullYes X.here C.hx rfl rfl (hb C.hby d1) rfl q d3 d4 k) (K1 q)
  · exact Goes.via (fun _ k => XT.nullNo X.here C.hx rfl (hb C.hby d1) rfl h1 q k) (K2 q)
theorem g_ifnonnull {o : Int} {v : Value} (C : Cx p s m meth c Z own nm bytes maxL ret) (X : St p l e R s m A below meth c Z T h cells slots) (d : Dj bytes pc (.ifnonnull o) o 3 pc' tgt) (h1 : v.isRef = true) (K1 : ¬ v = .null → Goes p e below W T (mkF m tgt Ls st)) (K2 : v = .null → Goes p e below W T (mkF m pc' Ls st)) : Goes p e below W T (mkF m pc Ls (v :: st)) := by
  obtain ⟨d1, rfl, d3, d4⟩ := d
  by_cases q : v = .null
  · exact Goes.via (fun _ k => XT.nonnullNo X.here C.hx rfl (hb C.hby d1) rfl q k) (K2 q)
  · exact Goes.via (fun _ k => XT.nonnullYes X.here C.hx rfl rfl (hb C.hby d1) rfl h1 q d3 d4 k) (K1 q)
theorem g_iload {k : Nat} {v : Int32} (C : Cx p s m meth c Z own nm bytes maxL ret) (X : St p l e R s m A below meth c Z T h cells slots) (d : Dc bytes pc (.iload k) 2 pc') (hl : Ls[k]? = some (.val (.int v))) (K : Goes p e below W T (mkF m pc' Ls (.int v :: st))) : Goes p e below W T (mkF m pc Ls st) := by
  obtain ⟨d, rfl⟩ := d
  exact Goes.via (fun _ k => XS.iload X.here C.hx rfl (hb C.hby d) hl k) K
theorem g_iloadN {k : Fin 4} {v : Int32} (C : Cx p s m meth c Z own nm bytes maxL ret) (X : St p l e R s m A below meth c Z T h cells slots) (d : Dc bytes pc (.iload_n k) 1 pc') (hl : Ls[k.val]? = some (.val (.int v))) (K : Goes p e below W T (mkF m pc' Ls (.int v :: st))) : Goes p e below W T (mkF m pc Ls st) := by
  obtain ⟨d, rfl⟩ := d
  exact Goes.via (fun _ k => XS.iloadN X.here C.hx rfl (hb C.hby d) hl k) K
theorem g_lload {k : Nat} {v : Int64} (C : Cx p s m meth c Z own nm bytes maxL ret) (X : St p l e R s m A below meth c Z T h cells slots) (d : Dc bytes pc (.lload k) 2 pc') (hl : Ls[k]? = some (.val (.long v))) (K : Goes p e below W T (mkF m pc' Ls (.long v :: st))) : Goes p e below W T (mkF m pc Ls st) := by
  obtain ⟨d, rfl⟩ := d
  exact Goes.via (fun _ k => XT.lload X.here C.hx rfl (hb C.hby d) hl k) K
theorem g_lloadN {k : Fin 4} {v : Int64} (C : Cx p s m meth c Z own nm bytes maxL ret) (X : St p l e R s m A below meth c Z T h cells slots) (d : Dc bytes pc (.lload_n k) 1 pc') (hl : Ls[k.val]? = some (.val (.long v))) (K : Goes p e below W T (mkF m pc' Ls (.long v :: st))) : Goes p e below W T (mkF m pc Ls st) := by
  obtain ⟨d, rfl⟩ := d
  exact Goes.via (fun _ k => XT.lloadN X.here C.hx rfl (hb C.hby d) hl k) K
theorem g_aload {k : Nat} {v : Value} (C : Cx p s m meth c Z own nm bytes maxL ret) (X : St p l e R s m A below meth c Z T h cells slots) (d : Dc bytes pc (.aload k) 2 pc') (hl : Ls[k]? = some (.val v)) (hv : v.isRef = true) (K : Goes p e below W T (mkF m pc' Ls (v :: st))) : Goes p e below W T (mkF m pc Ls st) := by
  obtain ⟨d, rfl⟩ := d
  exact Goes.via (fun _ k => XS.aload X.here C.hx rfl (hb C.hby d) hl hv k) K
theorem g_aloadN {k : Fin 4} {v : Value} (C : Cx p s m meth c Z own nm bytes maxL ret) (X : St p l e R s m A below meth c Z T h cells slots) (d : Dc bytes pc (.aload_n k) 1 pc') (hl : Ls[k.val]? = some (.val v)) (hv : v.isRef = true) (K : Goes p e below W T (mkF m pc' Ls (v :: st))) : Goes p e below W T (mkF m pc Ls st) := by
  obtain ⟨d, rfl⟩ := d
  exact Goes.via (fun _ k => XS.aloadN X.here C.hx rfl (hb C.hby d) hl hv k) K
theorem g_istore {k : Nat} {x : Int32} {l' : Array Slot} (C : Cx p s m meth c Z own nm bytes maxL ret) (X : St p l e R s m A below meth c Z T h cells slots) (d : Dc bytes pc (.istore k) 2 pc') (hl : storeLocals Ls k (.int x) = some l') (K : Goes p e below W T (mkF m pc' l' st)) : Goes p e below W T (mkF m pc Ls (.int x :: st)) := by
  obtain ⟨d, rfl⟩ := d
  exact Goes.via (fun _ k => XS.istore X.here C.hx rfl (hb C.hby d) rfl hl k) K
theorem g_istoreN {k : Fin 4} {x : Int32} {l' : Array Slot} (C : Cx p s m meth c Z own nm bytes maxL ret) (X : St p l e R s m A below meth c Z T h cells slots) (d : Dc bytes pc (.istore_n k) 1 pc') (hl : storeLocals Ls k.val (.int x) = some l') (K : Goes p e below W T (mkF m pc' l' st)) : Goes p e below W T (mkF m pc Ls (.int x :: st)) := by
  obtain ⟨d, rfl⟩ := d
  exact Goes.via (fun _ k => XS.istoreN X.here C.hx rfl (hb C.hby d) rfl hl k) K
theorem g_lstore {k : Nat} {x : Int64} {l' : Array Slot} (C : Cx p s m meth c Z own nm bytes maxL ret) (X : St p l e R s m A below meth c Z T h cells slots) (d : Dc bytes pc (.lstore k) 2 pc') (hl : storeLocals Ls k (.long x) = some l') (K : Goes p e below W T (mkF m pc' l' st)) : Goes p e below W T (mkF m pc Ls (.long x :: st)) := by
  obtain ⟨d, rfl⟩ := d
  exact Goes.via (fun _ k => XT.lstore X.here C.hx rfl (hb C.hby d) rfl hl k) K
theorem g_lstoreN {k : Fin 4} {x : Int64} {l' : Array Slot} (C : Cx p s m meth c Z own nm bytes maxL ret) (X : St p l e R s m A below meth c Z T h cells slots) (d : Dc bytes pc (.lstore_n k) 1 pc') (hl : storeLocals Ls k.val (.long x) = some l') (K : Goes p e below W T (mkF m pc' l' st)) : Goes p e below W T (mkF m pc Ls (.long x :: st)) := by
  obtain ⟨d, rfl⟩ := d
  exact Goes.via (fun _ k => XT.lstoreN X.here C.hx rfl (hb C.hby d) rfl hl k) K
theorem g_astore {k : Nat} {x : Value} {l' : Array Slot} (C : Cx p s m meth c Z own nm bytes maxL ret) (X : St p l e R s m A below meth c Z T h cells slots) (d : Dc bytes pc (.astore k) 2 pc') (hv : x.isRef = true) (hl : storeLocals Ls k x = some l') (K : Goes p e below W T (mkF m pc' l' st)) : Goes p e below W T (mkF m pc Ls (x :: st)) := by
  obtain ⟨d, rfl⟩ := d
  exact Goes.via (fun _ k => XS.astore X.here C.hx rfl (hb C.hby d) rfl hv hl k) K
theorem g_astoreN {k : Fin 4} {x : Value} {l' : Array Slot} (C : Cx p s m meth c Z own nm bytes maxL ret) (X : St p l e R s m A below meth c Z T h cells slots) (d : Dc bytes pc (.astore_n k) 1 pc') (hv : x.isRef = true) (hl : storeLocals Ls k.val x = some l') (K : Goes p e below W T (mkF m pc' l' st)) : Goes p e below W T (mkF m pc Ls (x :: st)) := by
  obtain ⟨d, rfl⟩ := d
  exact Goes.via (fun _ k => XS.astoreN X.here C.hx rfl (hb C.hby d) rfl hv hl k) K
theorem g_iconst {i : Int} (v : Int32) (C : Cx p s m meth c Z own nm bytes maxL ret) (X : St p l e R s m A below meth c Z T h cells slots) (d : Dc bytes pc (.iconst i) 1 pc') (hv : Int32.ofInt i = v) (K : Goes p e below W T (mkF m pc' Ls (.int v :: st))) : Goes p e below W T (mkF m pc Ls st) := by
  obtain ⟨d, rfl⟩ := d
  exact Goes.via (fun _ k => XT.iconstV X.here C.hx rfl v (hb C.hby d) hv k) K
theorem g_bipush {i : Int} (v : Int32) (C : Cx p s m meth c Z own nm bytes maxL ret) (X : St p l e R s m A below meth c Z T h cells slots) (d : Dc bytes pc (.bipush i) 2 pc') (hv : (Int8.ofInt i).toInt32 = v) (K : Goes p e below W T (mkF m pc' Ls (.int v :: st))) : Goes p e below W T (mkF m pc Ls st) := by
  obtain ⟨d, rfl⟩ := d
  exact Goes.via (fun _ k => XT.bipushV X.here C.hx rfl v (hb C.hby d) hv k) K
theorem g_sipush {i : Int} (v : Int32) (C : Cx p s m meth c Z own nm bytes maxL ret) (X : St p l e R s m A below meth c Z T h cells slots) (d : Dc bytes pc (.sipush i) 3 pc') (hv : (Int16.ofInt i).toInt32 = v) (K : Goes p e below W T (mkF m pc' Ls (.int v :: st))) : Goes p e below W T (mkF m pc Ls st) := by
  obtain ⟨d, rfl⟩ := d
  exact Goes.via (fun _ k => XT.sipushV X.here C.hx rfl v (hb C.hby d) hv k) K
theorem g_lconst {k : Fin 2} (v : Int64) (C : Cx p s m meth c Z own nm bytes maxL ret) (X : St p l e R s m A below meth c Z T h cells slots) (d : Dc bytes pc (.lconst k) 1 pc') (hv : Int64.ofNat k = v) (K : Goes p e below W T (mkF m pc' Ls (.long v :: st))) : Goes p e below W T (mkF m pc Ls st) := by
  obtain ⟨d, rfl⟩ := d
  exact Goes.via (fun _ k => XT.lconstV X.here C.hx rfl v (hb C.hby d) hv k) K
theorem g_iinc {k : Nat} {i : Int} {x : Int32} {l' : Array Slot} (v : Int32) (C : Cx p s m meth c Z own nm bytes maxL ret) (X : St p l e R s m A below meth c Z T h cells slots) (d : Dc bytes pc (.iinc k i) 3 pc') (hv : Int32.ofInt i = v) (hl : Ls[k]? = some (.val (.int x))) (hl' : storeLocals Ls k (.int (x + v)) = some l') (K : Goes p e below W T (mkF m pc' l' st)) : Goes p e below W T (mkF m pc Ls st) := by
  obtain ⟨d, rfl⟩ := d
  exact Goes.via (fun _ k => XT.iincV X.here C.hx rfl v (hb C.hby d) hv hl hl' k) K
theorem g_aconst_null  (C : Cx p s m meth c Z own nm bytes maxL ret) (X : St p l e R s m A below meth c Z T h cells slots) (d : Dc bytes pc (.aconst_null) 1 pc')  (K : Goes p e below W T (mkF m pc' Ls (.null :: st))) : Goes p e below W T (mkF m pc Ls st) := by
  obtain ⟨d, rfl⟩ := d
  exact Goes.via (fun _ k => XS.aconstNull X.here C.hx rfl (hb C.hby d)  k) K
theorem g_iadd {x y : Int32} (C : Cx p s m meth c Z own nm bytes maxL ret) (X : St p l e R s m A below meth c Z T h cells slots) (d : Dc bytes pc (.iadd) 1 pc')  (K : Goes p e below W T (mkF m pc' Ls (.int (x + y) :: st))) : Goes p e below W T (mkF m pc Ls (.int y :: .int x :: st)) := by
  obtain ⟨d, rfl⟩ := d
  exact Goes.via (fun _ k => XS.iadd X.here C.hx rfl (hb C.hby d) rfl k) K
theorem g_ladd {x y : Int64} (C : Cx p s m meth c Z own nm bytes maxL ret) (X : St p l e R s m A below meth c Z T h cells slots) (d : Dc bytes pc (.ladd) 1 pc')  (K : Goes p e below W T (mkF m pc' Ls (.long (x + y) :: st))) : Goes p e below W T (mkF m pc Ls (.long y :: .long x :: st)) := by
  obtain ⟨d, rfl⟩ := d
  exact Goes.via (fun _ k => XT.ladd X.here C.hx rfl (hb C.hby d) rfl k) K
theorem g_isub {x y : Int32} (C : Cx p s m meth c Z own nm bytes maxL ret) (X : St p l e R s m A below meth c Z T h cells slots) (d : Dc bytes pc (.isub) 1 pc')  (K : Goes p e below W T (mkF m pc' Ls (.int (x - y) :: st))) : Goes p e below W T (mkF m pc Ls (.int y :: .int x :: st)) := by
  obtain ⟨d, rfl⟩ := d
  exact Goes.via (fun _ k => XS.isub X.here C.hx rfl (hb C.hby d) rfl k) K
theorem g_lsub {x y : Int64} (C : Cx p s m meth c Z own nm bytes maxL ret) (X : St p l e R s m A below meth c Z T h cells slots) (d : Dc bytes pc (.lsub) 1 pc')  (K : Goes p e below W T (mkF m pc' Ls (.long (x - y) :: st))) : Goes p e below W T (mkF m pc Ls (.long y :: .long x :: st)) := by
  obtain ⟨d, rfl⟩ := d
  exact Goes.via (fun _ k => XT.lsub X.here C.hx rfl (hb C.hby d) rfl k) K
theorem g_imul {x y : Int32} (C : Cx p s m meth c Z own nm bytes maxL ret) (X : St p l e R s m A below meth c Z T h cells slots) (d : Dc bytes pc (.imul) 1 pc')  (K : Goes p e below W T (mkF m pc' Ls (.int (x * y) :: st))) : Goes p e below W T (mkF m pc Ls (.int y :: .int x :: st)) := by
  obtain ⟨d, rfl⟩ := d
  exact Goes.via (fun _ k => XS.imul X.here C.hx rfl (hb C.hby d) rfl k) K
theorem g_lmul {x y : Int64} (C : Cx p s m meth c Z own nm bytes maxL ret) (X : St p l e R s m A below meth c Z T h cells slots) (d : Dc bytes pc (.lmul) 1 pc')  (K : Goes p e below W T (mkF m pc' Ls (.long (x * y) :: st))) : Goes p e below W T (mkF m pc Ls (.long y :: .long x :: st)) := by
  obtain ⟨d, rfl⟩ := d
  exact Goes.via (fun _ k => XT.lmul X.here C.hx rfl (hb C.hby d) rfl k) K
theorem g_iand {x y : Int32} (C : Cx p s m meth c Z own nm bytes maxL ret) (X : St p l e R s m A below meth c Z T h cells slots) (d : Dc bytes pc (.iand) 1 pc')  (K : Goes p e below W T (mkF m pc' Ls (.int (x &&& y) :: st))) : Goes p e below W T (mkF m pc Ls (.int y :: .int x :: st)) := by
  obtain ⟨d, rfl⟩ := d
  exact Goes.via (fun _ k => XS.iand X.here C.hx rfl (hb C.hby d) rfl k) K
theorem g_land {x y : Int64} (C : Cx p s m meth c Z own nm bytes maxL ret) (X : St p l e R s m A below meth c Z T h cells slots) (d : Dc bytes pc (.land) 1 pc')  (K : Goes p e below W T (mkF m pc' Ls (.long (x &&& y) :: st))) : Goes p e below W T (mkF m pc Ls (.long y :: .long x :: st)) := by
  obtain ⟨d, rfl⟩ := d
  exact Goes.via (fun _ k => XT.land X.here C.hx rfl (hb C.hby d) rfl k) K
theorem g_ior {x y : Int32} (C : Cx p s m meth c Z own nm bytes maxL ret) (X : St p l e R s m A below meth c Z T h cells slots) (d : Dc bytes pc (.ior) 1 pc')  (K : Goes p e below W T (mkF m pc' Ls (.int (x ||| y) :: st))) : Goes p e below W T (mkF m pc Ls (.int y :: .int x :: st)) := by
  obtain ⟨d, rfl⟩ := d
  exact Goes.via (fun _ k => XT.ior X.here C.hx rfl (hb C.hby d) rfl k) K
theorem g_lor {x y : Int64} (C : Cx p s m meth c Z own nm bytes maxL ret) (X : St p l e R s m A below meth c Z T h cells slots) (d : Dc bytes pc (.lor) 1 pc')  (K : Goes p e below W T (mkF m pc' Ls (.long (x ||| y) :: st))) : Goes p e below W T (mkF m pc Ls (.long y :: .long x :: st)) := by
  obtain ⟨d, rfl⟩ := d
  exact Goes.via (fun _ k => XT.lor X.here C.hx rfl (hb C.hby d) rfl k) K
theorem g_ixor {x y : Int32} (C : Cx p s m meth c Z own nm bytes maxL ret) (X : St p l e R s m A below meth c Z T h cells slots) (d : Dc bytes pc (.ixor) 1 pc')  (K : Goes p e below W T (mkF m pc' Ls (.int (x ^^^ y) :: st))) : Goes p e below W T (mkF m pc Ls (.int y :: .int x :: st)) := by
  obtain ⟨d, rfl⟩ := d
  exact Goes.via (fun _ k => XT.ixor X.here C.hx rfl (hb C.hby d) rfl k) K
theorem g_lxor {x y : Int64} (C : Cx p s m meth c Z own nm bytes maxL ret) (X : St p l e R s m A below meth c Z T h cells slots) (d : Dc bytes pc (.lxor) 1 pc')  (K : Goes p e below W T (mkF m pc' Ls (.long (x ^^^ y) :: st))) : Goes p e below W T (mkF m pc Ls (.long y :: .long x :: st)) := by
  obtain ⟨d, rfl⟩ := d
  exact Goes.via (fun _ k => XT.lxor X.here C.hx rfl (hb C.hby d) rfl k) K
theorem g_idiv {x y : Int32} (C : Cx p s m meth c Z own nm bytes maxL ret) (X : St p l e R s m A below meth c Z T h cells slots) (d : Dc bytes pc (.idiv) 1 pc') (hy : y ≠ 0) (K : Goes p e below W T (mkF m pc' Ls (.int (x / y) :: st))) : Goes p e below W T (mkF m pc Ls (.int y :: .int x :: st)) := by
  obtain ⟨d, rfl⟩ := d
  exact Goes.via (fun _ k => XS.idiv X.here C.hx rfl (hb C.hby d) rfl hy k) K
theorem g_ldiv {x y : Int64} (C : Cx p s m meth c Z own nm bytes maxL ret) (X : St p l e R s m A below meth c Z T h cells slots) (d : Dc bytes pc (.ldiv) 1 pc') (hy : y ≠ 0) (K : Goes p e below W T (mkF m pc' Ls (.long (x / y) :: st))) : Goes p e below W T (mkF m pc Ls (.long y :: .long x :: st)) := by
  obtain ⟨d, rfl⟩ := d
  exact Goes.via (fun _ k => XT.ldiv X.here C.hx rfl (hb C.hby d) rfl hy k) K
theorem g_ineg {x : Int32} (C : Cx p s m meth c Z own nm bytes maxL ret) (X : St p l e R s m A below meth c Z T h cells slots) (d : Dc bytes pc (.ineg) 1 pc')  (K : Goes p e below W T (mkF m pc' Ls (.int (-x) :: st))) : Goes p e below W T (mkF m pc Ls (.int x :: st)) := by
  obtain ⟨d, rfl⟩ := d
  exact Goes.via (fun _ k => XS.ineg X.here C.hx rfl (hb C.hby d) rfl k) K
theorem g_lneg {x : Int64} (C : Cx p s m meth c Z own nm bytes maxL ret) (X : St p l e R s m A below meth c Z T h cells slots) (d : Dc bytes pc (.lneg) 1 pc')  (K : Goes p e below W T (mkF m pc' Ls (.long (-x) :: st))) : Goes p e below W T (mkF m pc Ls (.long x :: st)) := by
  obtain ⟨d, rfl⟩ := d
  exact Goes.via (fun _ k => XT.lneg X.here C.hx rfl (hb C.hby d) rfl k) K
theorem g_ishl {x y : Int32} (C : Cx p s m meth c Z own nm bytes maxL ret) (X : St p l e R s m A below meth c Z T h cells slots) (d : Dc bytes pc (.ishl) 1 pc')  (K : Goes p e below W T (mkF m pc' Ls (.int (x <<< (y &&& 31)) :: st))) : Goes p e below W T (mkF m pc Ls (.int y :: .int x :: st)) := by
  obtain ⟨d, rfl⟩ := d
  exact Goes.via (fun _ k => XT.ishl X.here C.hx rfl (hb C.hby d) rfl k) K
theorem g_ishr {x y : Int32} (C : Cx p s m meth c Z own nm bytes maxL ret) (X : St p l e R s m A below meth c Z T h cells slots) (d : Dc bytes pc (.ishr) 1 pc')  (K : Goes p e below W T (mkF m pc' Ls (.int (x >>> (y &&& 31)) :: st))) : Goes p e below W T (mkF m pc Ls (.int y :: .int x :: st)) := by
  obtain ⟨d, rfl⟩ := d
  exact Goes.via (fun _ k => XT.ishr X.here C.hx rfl (hb C.hby d) rfl k) K
theorem g_iushr {x y : Int32} (C : Cx p s m meth c Z own nm bytes maxL ret) (X : St p l e R s m A below meth c Z T h cells slots) (d : Dc bytes pc (.iushr) 1 pc')  (K : Goes p e below W T (mkF m pc' Ls (.int ((x.toUInt32 >>> (y &&& 31).toUInt32).toInt32) :: st))) : Goes p e below W T (mkF m pc Ls (.int y :: .int x :: st)) := by
  obtain ⟨d, rfl⟩ := d
  exact Goes.via (fun _ k => XT.iushr X.here C.hx rfl (hb C.hby d) rfl k) K
theorem g_lshl {x : Int64} {y : Int32} (C : Cx p s m meth c Z own nm bytes maxL ret) (X : St p l e R s m A below meth c Z T h cells slots) (d : Dc bytes pc (.lshl) 1 pc')  (K : Goes p e below W T (mkF m pc' Ls (.long (x <<< (y &&& 0x3f).toInt64) :: st))) : Goes p e below W T (mkF m pc Ls (.int y :: .long x :: st)) := by
  obtain ⟨d, rfl⟩ := d
  exact Goes.via (fun _ k => XS.lshl X.here C.hx rfl (hb C.hby d) rfl k) K
theorem g_lshr {x : Int64} {y : Int32} (C : Cx p s m meth c Z own nm bytes maxL ret) (X : St p l e R s m A below meth c Z T h cells slots) (d : Dc bytes pc (.lshr) 1 pc')  (K : Goes p e below W T (mkF m pc' Ls (.long (x >>> (y &&& 0x3f).toInt64) :: st))) : Goes p e below W T (mkF m pc Ls (.int y :: .long x :: st)) := by
  obtain ⟨d, rfl⟩ := d
  exact Goes.via (fun _ k => XS.lshr X.here C.hx rfl (hb C.hby d) rfl k) K
theorem g_lushr {x : Int64} {y : Int32} (C : Cx p s m meth c Z own nm bytes maxL ret) (X : St p l e R s m A below meth c Z T h cells slots) (d : Dc bytes pc (.lushr) 1 pc')  (K : Goes p e below W T (mkF m pc' Ls (.long ((x.toUInt64 >>> (y &&& 0x3f).toInt64.toUInt64).toInt64) :: st))) : Goes p e below W T (mkF m pc Ls (.int y :: .long x :: st)) := by
  obtain ⟨d, rfl⟩ := d
  exact Goes.via (fun _ k => XS.lushr X.here C.hx rfl (hb C.hby d) rfl k) K
theorem g_i2l {x : Int32} (C : Cx p s m meth c Z own nm bytes maxL ret) (X : St p l e R s m A below meth c Z T h cells slots) (d : Dc bytes pc (.i2l) 1 pc')  (K : Goes p e below W T (mkF m pc' Ls (.long x.toInt64 :: st))) : Goes p e below W T (mkF m pc Ls (.int x :: st)) := by
  obtain ⟨d, rfl⟩ := d
  exact Goes.via (fun _ k => XT.i2l X.here C.hx rfl (hb C.hby d) rfl k) K
theorem g_l2i {x : Int64} (C : Cx p s m meth c Z own nm bytes maxL ret) (X : St p l e R s m A below meth c Z T h cells slots) (d : Dc bytes pc (.l2i) 1 pc')  (K : Goes p e below W T (mkF m pc' Ls (.int x.toInt32 :: st))) : Goes p e below W T (mkF m pc Ls (.long x :: st)) := by
  obtain ⟨d, rfl⟩ := d
  exact Goes.via (fun _ k => XT.l2i X.here C.hx rfl (hb C.hby d) rfl k) K
theorem g_i2b {x : Int32} (C : Cx p s m meth c Z own nm bytes maxL ret) (X : St p l e R s m A below meth c Z T h cells slots) (d : Dc bytes pc (.i2b) 1 pc')  (K : Goes p e below W T (mkF m pc' Ls (.int x.toInt8.toInt32 :: st))) : Goes p e below W T (mkF m pc Ls (.int x :: st)) := by
  obtain ⟨d, rfl⟩ := d
  exact Goes.via (fun _ k => XT.i2b X.here C.hx rfl (hb C.hby d) rfl k) K
theorem g_i2s {x : Int32} (C : Cx p s m meth c Z own nm bytes maxL ret) (X : St p l e R s m A below meth c Z T h cells slots) (d : Dc bytes pc (.i2s) 1 pc')  (K : Goes p e below W T (mkF m pc' Ls (.int x.toInt16.toInt32 :: st))) : Goes p e below W T (mkF m pc Ls (.int x :: st)) := by
  obtain ⟨d, rfl⟩ := d
  exact Goes.via (fun _ k => XT.i2s X.here C.hx rfl (hb C.hby d) rfl k) K
theorem g_i2c {x : Int32} (C : Cx p s m meth c Z own nm bytes maxL ret) (X : St p l e R s m A below meth c Z T h cells slots) (d : Dc bytes pc (.i2c) 1 pc')  (K : Goes p e below W T (mkF m pc' Ls (.int x.toUInt32.toUInt16.toUInt32.toInt32 :: st))) : Goes p e below W T (mkF m pc Ls (.int x :: st)) := by
  obtain ⟨d, rfl⟩ := d
  exact Goes.via (fun _ k => XT.i2c X.here C.hx rfl (hb C.hby d) rfl k) K
theorem g_lcmp {x y : Int64} (C : Cx p s m meth c Z own nm bytes maxL ret) (X : St p l e R s m A below meth c Z T h cells slots) (d : Dc bytes pc (.lcmp) 1 pc')  (K : Goes p e below W T (mkF m pc' Ls (.int (lcmpW x y) :: st))) : Goes p e below W T (mkF m pc Ls (.long y :: .long x :: st)) := by
  obtain ⟨d, rfl⟩ := d
  exact Goes.via (fun _ k => XT.lcmp X.here C.hx rfl (hb C.hby d) rfl k) K
theorem g_pop {x : Value} (C : Cx p s m meth c Z own nm bytes maxL ret) (X : St p l e R s m A below meth c Z T h cells slots) (d : Dc bytes pc (.pop) 1 pc') (hc : x.category = 1) (K : Goes p e below W T (mkF m pc' Ls st)) : Goes p e below W T (mkF m pc Ls (x :: st)) := by
  obtain ⟨d, rfl⟩ := d
  exact Goes.via (fun _ k => XT.pop X.here C.hx rfl (hb C.hby d) rfl hc k) K
theorem g_dup {x : Value} (C : Cx p s m meth c Z own nm bytes maxL ret) (X : St p l e R s m A below meth c Z T h cells slots) (d : Dc bytes pc (.dup) 1 pc') (hc : x.category = 1) (K : Goes p e below W T (mkF m pc' Ls (x :: x :: st))) : Goes p e below W T (mkF m pc Ls (x :: st)) := by
  obtain ⟨d, rfl⟩ := d
  exact Goes.via (fun _ k => XS.dup X.here C.hx rfl (hb C.hby d) rfl hc k) K
theorem g_dup_x1 {x y : Value} (C : Cx p s m meth c Z own nm bytes maxL ret) (X : St p l e R s m A below meth c Z T h cells slots) (d : Dc bytes pc (.dup_x1) 1 pc') (hc : x.category = 1) (hc' : y.category = 1) (K : Goes p e below W T (mkF m pc' Ls (x :: y :: x :: st))) : Goes p e below W T (mkF m pc Ls (x :: y :: st)) := by
  obtain ⟨d, rfl⟩ := d
  exact Goes.via (fun _ k => XT.dupX1 X.here C.hx rfl (hb C.hby d) rfl hc hc' k) K
theorem g_dup2 {x y : Value} (C : Cx p s m meth c Z own nm bytes maxL ret) (X : St p l e R s m A below meth c Z T h cells slots) (d : Dc bytes pc (.dup2) 1 pc') (hc : x.category = 1) (hc' : y.category = 1) (K : Goes p e below W T (mkF m pc' Ls (x :: y :: x :: y :: st))) : Goes p e below W T (mkF m pc Ls (x :: y :: st)) := by
  obtain ⟨d, rfl⟩ := d
  exact Goes.via (fun _ k => XT.dup2 X.here C.hx rfl (hb C.hby d) rfl hc hc' k) K
theorem g_dup2L {x : Int64} (C : Cx p s m meth c Z own nm bytes maxL ret) (X : St p l e R s m A below meth c Z T h cells slots) (d : Dc bytes pc (.dup2) 1 pc')  (K : Goes p e below W T (mkF m pc' Ls (.long x :: .long x :: st))) : Goes p e below W T (mkF m pc Ls (.long x :: st)) := by
  obtain ⟨d, rfl⟩ := d
  exact Goes.via (fun _ k => XT.dup2L X.here C.hx rfl (hb C.hby d) rfl k) K
theorem g_irem {x y : Int32} (C : Cx p s m meth c Z own nm bytes maxL ret) (X : St p l e R s m A below meth c Z T h cells slots) (d : Dc bytes pc .irem 1 pc') (hy : y ≠ 0) (K : Goes p e below W T (mkF m pc' Ls (.int (x % y) :: st))) : Goes p e below W T (mkF m pc Ls (.int y :: .int x :: st)) := by
  obtain ⟨d, rfl⟩ := d
  obtain ⟨_, Y, _⟩ := X
  exact Goes.via (fun _ k => iremM Y C.hx rfl (hb C.hby d) rfl hy k) K
theorem g_lrem {x y : Int64} (C : Cx p s m meth c Z own nm bytes maxL ret) (X : St p l e R s m A below meth c Z T h cells slots) (d : Dc bytes pc .lrem 1 pc') (hy : y ≠ 0) (K : Goes p e below W T (mkF m pc' Ls (.long (x % y) :: st))) : Goes p e below W T (mkF m pc Ls (.long y :: .long x :: st)) := by
  obtain ⟨d, rfl⟩ := d
  rw [← lrem_mod] at K
  exact Goes.via (fun _ k => XT.lrem X.here C.hx rfl (hb C.hby d) rfl hy k) K
theorem g_ldcI {index : Nat} {v : Int32} (C : Cx p s m meth c Z own nm bytes maxL ret) (X : St p l e R s m A below meth c Z T h cells slots) (w : (Jvm.Cond.constant own index v).before a0 Z = true) (d : Dc bytes pc (.ldc index) 2 pc') (K : Goes p e below W T (mkF m pc' Ls (.int v :: st))) : Goes p e below W T (mkF m pc Ls st) := by
  obtain ⟨d, rfl⟩ := d
  obtain ⟨_, Y, _⟩ := X
  exact Goes.via (fun t k => Y.ldcInt C.hx C.hown (mvT C.hZ w) (g := mkF m pc Ls st) rfl (hb C.hby d) t k) K
theorem g_ldcwI {index : Nat} {v : Int32} (C : Cx p s m meth c Z own nm bytes maxL ret) (X : St p l e R s m A below meth c Z T h cells slots) (w : (Jvm.Cond.constant own index v).before a0 Z = true) (d : Dc bytes pc (.ldc_w index) 3 pc') (K : Goes p e below W T (mkF m pc' Ls (.int v :: st))) : Goes p e below W T (mkF m pc Ls st) := by
  obtain ⟨d, rfl⟩ := d
  obtain ⟨_, Y, _⟩ := X
  exact Goes.via (fun t k => Y.ldcWI C.hx C.hown (mvT C.hZ w) (g := mkF m pc Ls st) rfl (hb C.hby d) k) K
theorem g_ldcJ {index : Nat} {v : Int64} (C : Cx p s m meth c Z own nm bytes maxL ret) (X : St p l e R s m A below meth c Z T h cells slots) (w : (Jvm.Cond.constantLong own index v).before a0 Z = true) (d : Dc bytes pc (.ldc2_w index) 3 pc') (K : Goes p e below W T (mkF m pc' Ls (.long v :: st))) : Goes p e below W T (mkF m pc Ls st) := by
  obtain ⟨d, rfl⟩ := d
  obtain ⟨_, Y, _⟩ := X
  exact Goes.via (fun t k => Y.ldc2Long C.hx C.hown (mvT C.hZ w) (g := mkF m pc Ls st) rfl (hb C.hby d) t k) K
theorem g_getstatic {R0 O n dd host : String} {index : Nat} {v : Value} (C : Cx p s m meth c Z own nm bytes maxL ret) (X : St p l e R s m A below meth c Z T h cells slots) (w : (Jvm.Cond.fieldLink own index R0 n dd).before a0 Z = true ∨ (Jvm.Cond.fieldLinkNest own index R0 n dd host).before a0 Z = true) (via : Via Z R0 O n dd) (F : Sta Z Z.heap O n dd v) (d : Dc bytes pc (.getstatic index) 3 pc')
    (K : ∀ T', St p l e R s m A below meth c Z T' h cells slots → Goes p e below W T' (mkF m pc' Ls (v :: st))) : Goes p e below W T (mkF m pc Ls st) := by
  obtain ⟨d, rfl⟩ := d
  obtain ⟨L, Y, eT, N, E⟩ := X
  obtain ⟨T', Y', e', q⟩ := getS2 Y C.hx C.hZ C.hown w via eT (F.ext E) (g := mkF m pc Ls st) rfl (hb C.hby d)
  exact Goes.via q (K T' ⟨L, Y', e', N, E⟩)
theorem g_getfield {R0 O n dd host : String} {index : Nat} {a : Addr} {v : Value} (C : Cx p s m meth c Z own nm bytes maxL ret) (X : St p l e R s m A below meth c Z T h cells slots) (w : (Jvm.Cond.fieldLink own index R0 n dd).before a0 Z = true ∨ (Jvm.Cond.fieldLinkNest own index R0 n dd host).before a0 Z = true) (via : Via Z R0 O n dd) (F : Fld Z h a O n dd v) (d : Dc bytes pc (.getfield index) 3 pc')
    (K : ∀ T', St p l e R s m A below meth c Z T' h cells slots → Goes p e below W T' (mkF m pc' Ls (v :: st))) : Goes p e below W T (mkF m pc Ls (.ref a :: st)) := by
  obtain ⟨d, rfl⟩ := d
  obtain ⟨L, Y, eT, N, E⟩ := X
  obtain ⟨T', Y', e', q⟩ := getF Y C.hx C.hZ C.hown w via eT F (g := mkF m pc Ls (.ref a :: st)) rfl rfl (hb C.hby d)
  exact Goes.via q (K T' ⟨L, Y', e', N, E⟩)
theorem ext_wr {h h' : Heap} {a : Addr} {sl : Nat} {v : Value} (E : Ext Z.heap h) (w : Wr h h' a sl v) (q : Z.heap.size ≤ a) : Ext Z.heap h' := (Old.wr (Z := Z) (n0 := Z.heap.size) (h := h) ⟨rfl, E⟩ w q).2
theorem ext_keep {h h' : Heap} {ws : List Addr} (E : Ext Z.heap h) (w : Keep h h' ws) (q : ∀ x ∈ ws, Z.heap.size ≤ x) : Ext Z.heap h' := (Old.keep (Z := Z) (n0 := Z.heap.size) (h := h) ⟨rfl, E⟩ w q).2
theorem ext_trans {h h' : Heap} (E : Ext Z.heap h) (E' : Ext h h') : Ext Z.heap h' := ⟨Nat.le_trans E.1 E'.1, fun x c q => E'.2 x c (E.2 x c q)⟩
theorem g_putfield {R0 O n dd host K0 : String} {index kk : Nat} {ty : FieldType} {a : Addr} {v old : Value} (C : Cx p s m meth c Z own nm bytes maxL ret) (X : St p l e R s m A below meth c Z T h cells slots) (w : (Jvm.Cond.fieldLink own index R0 n dd).before a0 Z = true ∨ (Jvm.Cond.fieldLinkNest own index R0 n dd host).before a0 Z = true) (via : Via Z R0 O n dd)
    (F : Fld Z h a O n dd old) (Ex : Exa Z h a K0) (L : (Jvm.Cond.lays K0 O n dd).before a0 Z = true ∨ ((Jvm.Cond.laysFinal K0 O n dd).before a0 Z = true ∧ own = O ∧ nm = "<init>")) (wi : (Jvm.Cond.instantiable K0 kk).before a0 Z = true) (hty : parseFieldDescriptor dd = some ty) (hn : narrow ty v = v) (hf : fits ty v = true) (hnew : Z.heap.size ≤ a) (d : Dc bytes pc (.putfield index) 3 pc')
    (K : ∀ T' h', St p l e R s m A below meth c Z T' h' cells slots → Wr h h' a (RoadKit.slotOf Z O n dd) v → Goes p e below W T' (mkF m pc' Ls st)) : Goes p e below W T (mkF m pc Ls (v :: .ref a :: st)) := by
  obtain ⟨d, rfl⟩ := d
  obtain ⟨L0, Y, eT, N, E⟩ := X
  obtain ⟨T', h', Y', e', W', q⟩ := putF Y C.hx C.hZ C.hown w via eT F Ex (L.imp id fun z => ⟨z.1, z.2.1, C.hnm.trans z.2.2⟩) wi hty hn hf (g := mkF m pc Ls (v :: .ref a :: st)) rfl rfl (hb C.hby d)
  exact Goes.via q (K T' h' ⟨_, Y', e', Fr.snoc Y' N hnew, ext_wr E W' hnew⟩ W')
theorem g_new {K0 : String} {index n : Nat} (C : Cx p s m meth c Z own nm bytes maxL ret) (X : St p l e R s m A below meth c Z T h cells slots) (w : (Jvm.Cond.classLink own index K0).before a0 Z = true) (wi : (Jvm.Cond.instantiable K0 n).before a0 Z = true) (wz : (Jvm.Cond.initialized K0).before a0 Z = true) (d : Dc bytes pc (.new index) 3 pc') (hc : cells + 1 ≤ R.cells) (hl : slots + n ≤ R.slots)
    (K : ∀ T' h' b, b = h.size → Z.heap.size ≤ b → St p l e R s m A below meth c Z T' h' (cells + 1) (slots + n) → Ext h h' → Exa Z h' b K0 → (∀ {O f dd : String} {ty : FieldType}, Laid Z a0 K0 O f dd → parseFieldDescriptor dd = some ty → Fld Z h' b O f dd (defaultValue ty)) → (∃ cell : Cell, h'[b]? = some cell ∧ cell.vm = .none ∧ cell.monitor = {}) → Goes p e below W T' (mkF m pc' Ls (.ref b :: st))) : Goes p e below W T (mkF m pc Ls st) := by
  obtain ⟨d, rfl⟩ := d
  obtain ⟨L0, Y, eT, N, E⟩ := X
  obtain ⟨T', h', Y', e', E', A', D', M', q⟩ := newO Y C.hx C.hZ C.hown w wi wz eT (g := mkF m pc Ls st) rfl (hb C.hby d) hc hl
  exact Goes.via q (K T' h' _ rfl E.1 ⟨_, Y', e', N, ext_trans E E'⟩ E' A' D' M')
theorem g_newarray {aty : ArrayType} {n : Int32} (C : Cx p s m meth c Z own nm bytes maxL ret) (X : St p l e R s m A below meth c Z T h cells slots) (w : (Jvm.Cond.arrayClass (newarray.typeOf aty)).before a0 Z = true) (d : Dc bytes pc (.newarray aty) 2 pc') (hn : ¬ n < 0) (len cap : Nat) (hcap : n.toNatClampNeg ≤ cap) (hb' : cap * 8 ≤ 536870912) (hc : cells + 1 ≤ R.cells) (hl : slots + cap ≤ R.slots)
    (K : ∀ T' h' b k, b = h.size → Z.heap.size ≤ b → St p l e R s m A below meth c Z T' h' (cells + 1) (slots + cap) → Ext h h' → Arv Z h' b k (newarray.typeOf aty) n (List.replicate len (defaultValue (newarray.typeOf aty))) (defaultValue (newarray.typeOf aty)) → Goes p e below W T' (mkF m pc' Ls (.ref b :: st))) : Goes p e below W T (mkF m pc Ls (.int n :: st)) := by
  obtain ⟨d, rfl⟩ := d
  obtain ⟨L0, Y, eT, N, E⟩ := X
  obtain ⟨T', h', k, Y', e', E', A', q⟩ := newP Y C.hx C.hZ w eT (g := mkF m pc Ls (.int n :: st)) rfl (hb C.hby d) rfl hn hcap hb' hc hl
  exact Goes.via q (K T' h' _ k rfl E.1 ⟨_, Y', e', N, ext_trans E E'⟩ E' ((Arv.new A' hn).pad (pad_rep [] _ len)))
theorem g_checkcast {K0 : String} {index : Nat} {a : Addr} (C : Cx p s m meth c Z own nm bytes maxL ret) (X : St p l e R s m A below meth c Z T h cells slots) (w : (Jvm.Cond.classLink own index K0).before a0 Z = true) (F : Ins Z h a K0 true) (d : Dc bytes pc (.checkcast index) 3 pc')
    (K : ∀ T', St p l e R s m A below meth c Z T' h cells slots → Goes p e below W T' (mkF m pc' Ls (.ref a :: st))) : Goes p e below W T (mkF m pc Ls (.ref a :: st)) := by
  obtain ⟨d, rfl⟩ := d
  obtain ⟨L, Y, eT, N, E⟩ := X
  obtain ⟨T', Y', e', q⟩ := castY Y C.hx C.hZ C.hown w eT F (g := mkF m pc Ls (.ref a :: st)) rfl rfl (hb C.hby d)
  exact Goes.via q (K T' ⟨L, Y', e', N, E⟩)
theorem g_checkcastN {index : Nat} (C : Cx p s m meth c Z own nm bytes maxL ret) (X : St p l e R s m A below meth c Z T h cells slots) (d : Dc bytes pc (.checkcast index) 3 pc') (K : Goes p e below W T (mkF m pc' Ls (.null :: st))) : Goes p e below W T (mkF m pc Ls (.null :: st)) := by
  obtain ⟨d, rfl⟩ := d
  obtain ⟨L, Y, eT, N, E⟩ := X
  exact Goes.via (Y.checkcastNull C.hx (g := mkF m pc Ls (.null :: st)) rfl rfl (hb C.hby d)) K
theorem g_instanceY {K0 : String} {index : Nat} {a : Addr} (C : Cx p s m meth c Z own nm bytes maxL ret) (X : St p l e R s m A below meth c Z T h cells slots) (w : (Jvm.Cond.classLink own index K0).before a0 Z = true) (F : Ins Z h a K0 true) (d : Dc bytes pc (.instanceof index) 3 pc')
    (K : ∀ T', St p l e R s m A below meth c Z T' h cells slots → Goes p e below W T' (mkF m pc' Ls (.int 1 :: st))) : Goes p e below W T (mkF m pc Ls (.ref a :: st)) := by
  obtain ⟨d, rfl⟩ := d
  obtain ⟨L, Y, eT, N, E⟩ := X
  obtain ⟨T', Y', e', q⟩ := instY Y C.hx C.hZ C.hown w eT F (g := mkF m pc Ls (.ref a :: st)) rfl rfl (hb C.hby d)
  exact Goes.via q (K T' ⟨L, Y', e', N, E⟩)
theorem g_instanceN {index : Nat} (C : Cx p s m meth c Z own nm bytes maxL ret) (X : St p l e R s m A below meth c Z T h cells slots) (d : Dc bytes pc (.instanceof index) 3 pc') (K : Goes p e below W T (mkF m pc' Ls (.int 0 :: st))) : Goes p e below W T (mkF m pc Ls (.null :: st)) := by
  obtain ⟨d, rfl⟩ := d
  obtain ⟨L, Y, eT, N, E⟩ := X
  exact Goes.via (Y.instanceofNull C.hx (g := mkF m pc Ls (.null :: st)) rfl rfl (hb C.hby d)) K
theorem keep_ext {h h' : Heap} (K : Keep h h' []) : Ext h h' := ⟨K.1, fun x c q => K.2.1 x c q nin0⟩
theorem ext_keep0 {h h' : Heap} (E : Ext h h') (ws : List Addr) : Keep h h' ws := (Keep.refl h ws).ext E
/-- a place of an array -/
theorem in_of {n j : Int32} {c : Cell} (S : c.slots.size = n.toNatClampNeg) (hj : ¬ j < 0) (hj' : j < n) : ¬ (j < 0 ∨ c.slots.size ≤ j.toNatClampNeg) := inb_of S ⟨hj, hj'⟩
theorem g_arraylength {a : Addr} {k : ClassId} {ty : FieldType} {n : Int32} {vs : List Value} {dv : Value} (C : Cx p s m meth c Z own nm bytes maxL ret) (X : St p l e R s m A below meth c Z T h cells slots) (F : Arv Z h a k ty n vs dv) (d : Dc bytes pc .arraylength 1 pc') (K : Goes p e below W T (mkF m pc' Ls (.int n :: st))) : Goes p e below W T (mkF m pc Ls (.ref a :: st)) := by
  obtain ⟨d, rfl⟩ := d
  obtain ⟨L0, Y, eT, N, E⟩ := X
  obtain ⟨cl, Ar, -, hS, hN, -, -⟩ := F
  rw [← len_of hS hN] at K
  exact Goes.via (Y.arraylength C.hx (by rw [eT]; exact Ar.1) (State.isArrayOf_alike C.hZ.alike Ar.2.1) (g := mkF m pc Ls (.ref a :: st)) rfl rfl (hb C.hby d)) K
theorem g_iaload {a : Addr} {k : ClassId} {n j : Int32} {vs : List Value} {dv : Value} {v : Int32} (C : Cx p s m meth c Z own nm bytes maxL ret) (X : St p l e R s m A below meth c Z T h cells slots) (F : Arv Z h a k .int n vs dv) (d : Dc bytes pc .iaload 1 pc') (hj : ¬ j < 0) (hj' : j < n) (hv : vs.getD j.toNatClampNeg dv = .int v) (K : Goes p e below W T (mkF m pc' Ls (.int v :: st))) : Goes p e below W T (mkF m pc Ls (.int j :: .ref a :: st)) := by
  obtain ⟨d, rfl⟩ := d
  obtain ⟨L0, Y, eT, N, E⟩ := X
  obtain ⟨cl, Ar, -, hS, hN, hH, -⟩ := F
  have hin := in_of hS hj hj'
  exact Goes.via (Y.iaload C.hx (j := j) (v := .int v) (by rw [eT]; exact Ar.1) (State.isArrayOf_alike C.hZ.alike Ar.2.1) Ar.2.2 hin (hH.at hin hv) (g := mkF m pc Ls (.int j :: .ref a :: st)) rfl rfl (hb C.hby d)) K
theorem g_caload {a : Addr} {k : ClassId} {n j : Int32} {vs : List Value} {dv : Value} {v : Int32} (C : Cx p s m meth c Z own nm bytes maxL ret) (X : St p l e R s m A below meth c Z T h cells slots) (F : Arv Z h a k .char n vs dv) (d : Dc bytes pc .caload 1 pc') (hj : ¬ j < 0) (hj' : j < n) (hv : vs.getD j.toNatClampNeg dv = .int v) (K : Goes p e below W T (mkF m pc' Ls (.int v :: st))) : Goes p e below W T (mkF m pc Ls (.int j :: .ref a :: st)) := by
  obtain ⟨d, rfl⟩ := d
  obtain ⟨L0, Y, eT, N, E⟩ := X
  obtain ⟨cl, Ar, -, hS, hN, hH, -⟩ := F
  have hin := in_of hS hj hj'
  exact Goes.via (Y.caload C.hx (j := j) (v := .int v) (by rw [eT]; exact Ar.1) (State.isArrayOf_alike C.hZ.alike Ar.2.1) Ar.2.2 hin (hH.at hin hv) (g := mkF m pc Ls (.int j :: .ref a :: st)) rfl rfl (hb C.hby d)) K
theorem g_saload {a : Addr} {k : ClassId} {n j : Int32} {vs : List Value} {dv : Value} {v : Int32} (C : Cx p s m meth c Z own nm bytes maxL ret) (X : St p l e R s m A below meth c Z T h cells slots) (F : Arv Z h a k .short n vs dv) (d : Dc bytes pc .saload 1 pc') (hj : ¬ j < 0) (hj' : j < n) (hv : vs.getD j.toNatClampNeg dv = .int v) (K : Goes p e below W T (mkF m pc' Ls (.int v :: st))) : Goes p e below W T (mkF m pc Ls (.int j :: .ref a :: st)) := by
  obtain ⟨d, rfl⟩ := d
  obtain ⟨L0, Y, eT, N, E⟩ := X
  obtain ⟨cl, Ar, -, hS, hN, hH, -⟩ := F
  have hin := in_of hS hj hj'
  exact Goes.via (Y.saload C.hx (j := j) (v := .int v) (by rw [eT]; exact Ar.1) (State.isArrayOf_alike C.hZ.alike Ar.2.1) Ar.2.2 hin (hH.at hin hv) (g := mkF m pc Ls (.int j :: .ref a :: st)) rfl rfl (hb C.hby d)) K
theorem g_baload {a : Addr} {k : ClassId} {n j : Int32} {vs : List Value} {dv : Value} {v : Int32} (C : Cx p s m meth c Z own nm bytes maxL ret) (X : St p l e R s m A below meth c Z T h cells slots) (F : Arv Z h a k .byte n vs dv) (d : Dc bytes pc .baload 1 pc') (hj : ¬ j < 0) (hj' : j < n) (hv : vs.getD j.toNatClampNeg dv = .int v) (K : Goes p e below W T (mkF m pc' Ls (.int v :: st))) : Goes p e below W T (mkF m pc Ls (.int j :: .ref a :: st)) := by
  obtain ⟨d, rfl⟩ := d
  obtain ⟨L0, Y, eT, N, E⟩ := X
  obtain ⟨cl, Ar, -, hS, hN, hH, -⟩ := F
  have hin := in_of hS hj hj'
  exact Goes.via (Y.baloadBytes C.hx (j := j) (v := .int v) (by rw [eT]; exact Ar.1) (State.isArrayOf_alike C.hZ.alike Ar.2.1) Ar.2.2 hin (hH.at hin hv) (g := mkF m pc Ls (.int j :: .ref a :: st)) rfl rfl (hb C.hby d)) K
theorem g_laload {a : Addr} {k : ClassId} {n j : Int32} {vs : List Value} {dv : Value} {v : Int64} (C : Cx p s m meth c Z own nm bytes maxL ret) (X : St p l e R s m A below meth c Z T h cells slots) (F : Arv Z h a k .long n vs dv) (d : Dc bytes pc .laload 1 pc') (hj : ¬ j < 0) (hj' : j < n) (hv : vs.getD j.toNatClampNeg dv = .long v) (K : Goes p e below W T (mkF m pc' Ls (.long v :: st))) : Goes p e below W T (mkF m pc Ls (.int j :: .ref a :: st)) := by
  obtain ⟨d, rfl⟩ := d
  obtain ⟨L0, Y, eT, N, E⟩ := X
  obtain ⟨cl, Ar, -, hS, hN, hH, -⟩ := F
  have hin := in_of hS hj hj'
  exact Goes.via (Y.laload C.hx (j := j) (v := .long v) (by rw [eT]; exact Ar.1) (State.isArrayOf_alike C.hZ.alike Ar.2.1) Ar.2.2 hin (hH.at hin hv) (g := mkF m pc Ls (.int j :: .ref a :: st)) rfl rfl (hb C.hby d)) K
theorem g_aaload {a : Addr} {k : ClassId} {ty : FieldType} {n j : Int32} {vs : List Value} {dv v : Value} (C : Cx p s m meth c Z own nm bytes maxL ret) (X : St p l e R s m A below meth c Z T h cells slots) (F : Arv Z h a k ty n vs dv) (hty : ty.isReference = true) (d : Dc bytes pc .aaload 1 pc') (hj : ¬ j < 0) (hj' : j < n) (hv : vs.getD j.toNatClampNeg dv = v) (K : Goes p e below W T (mkF m pc' Ls (v :: st))) : Goes p e below W T (mkF m pc Ls (.int j :: .ref a :: st)) := by
  obtain ⟨d, rfl⟩ := d
  obtain ⟨L0, Y, eT, N, E⟩ := X
  obtain ⟨cl, Ar, -, hS, hN, hH, -⟩ := F
  have hin := in_of hS hj hj'
  exact Goes.via (Y.aaload C.hx (j := j) (v := v) (by rw [eT]; exact Ar.1) (State.isArrayOf_alike C.hZ.alike Ar.2.1) hty Ar.2.2 hin (hH.at hin hv) (g := mkF m pc Ls (.int j :: .ref a :: st)) rfl rfl (hb C.hby d)) K
theorem g_iastore {a : Addr} {k : ClassId} {n j : Int32} {vs : List Value} {dv : Value} {x : Int32} (C : Cx p s m meth c Z own nm bytes maxL ret) (X : St p l e R s m A below meth c Z T h cells slots) (F : Arv Z h a k .int n vs dv) (hnew : Z.heap.size ≤ a) (d : Dc bytes pc .iastore 1 pc') (hj : ¬ j < 0) (hj' : j < n) (hi : j.toNatClampNeg < vs.length) (y : Value) (hy : .int x = y)
    (K : ∀ T' h', St p l e R s m A below meth c Z T' h' cells slots → Wr h h' a j.toNatClampNeg y → Arv Z h' a k .int n (vs.set j.toNatClampNeg y) dv → Goes p e below W T' (mkF m pc' Ls st)) : Goes p e below W T (mkF m pc Ls (.int x :: .int j :: .ref a :: st)) := by
  subst hy
  obtain ⟨d, rfl⟩ := d
  obtain ⟨L0, Y, eT, N, E⟩ := X
  obtain ⟨cl, Ar, q1, hS, hN, hH, hG⟩ := F
  have hin := in_of hS hj hj'
  obtain ⟨T', h', Y', e', W', q⟩ := stI Y C.hx C.hZ eT Ar hin (g := mkF m pc Ls (.int x :: .int j :: .ref a :: st)) rfl rfl (hb C.hby d)
  exact Goes.via q (K T' h' ⟨_, Y', e', Fr.snoc Y' N hnew, ext_wr E W' hnew⟩ W' (Arv.set Ar q1 hS hN hH hG rfl W' _ rfl hi))
theorem g_castore {a : Addr} {k : ClassId} {n j : Int32} {vs : List Value} {dv : Value} {x : Int32} (C : Cx p s m meth c Z own nm bytes maxL ret) (X : St p l e R s m A below meth c Z T h cells slots) (F : Arv Z h a k .char n vs dv) (hnew : Z.heap.size ≤ a) (d : Dc bytes pc .castore 1 pc') (hj : ¬ j < 0) (hj' : j < n) (hi : j.toNatClampNeg < vs.length) (y : Value) (hy : .int (nar .char x) = y)
    (K : ∀ T' h', St p l e R s m A below meth c Z T' h' cells slots → Wr h h' a j.toNatClampNeg y → Arv Z h' a k .char n (vs.set j.toNatClampNeg y) dv → Goes p e below W T' (mkF m pc' Ls st)) : Goes p e below W T (mkF m pc Ls (.int x :: .int j :: .ref a :: st)) := by
  subst hy
  obtain ⟨d, rfl⟩ := d
  obtain ⟨L0, Y, eT, N, E⟩ := X
  obtain ⟨cl, Ar, q1, hS, hN, hH, hG⟩ := F
  have hin := in_of hS hj hj'
  obtain ⟨T', h', Y', e', W', q⟩ := stC Y C.hx C.hZ eT Ar hin (g := mkF m pc Ls (.int x :: .int j :: .ref a :: st)) rfl rfl (hb C.hby d)
  exact Goes.via q (K T' h' ⟨_, Y', e', Fr.snoc Y' N hnew, ext_wr E W' hnew⟩ W' (Arv.set Ar q1 hS hN hH hG (fits_nar_char _) W' _ rfl hi))
theorem g_sastore {a : Addr} {k : ClassId} {n j : Int32} {vs : List Value} {dv : Value} {x : Int32} (C : Cx p s m meth c Z own nm bytes maxL ret) (X : St p l e R s m A below meth c Z T h cells slots) (F : Arv Z h a k .short n vs dv) (hnew : Z.heap.size ≤ a) (d : Dc bytes pc .sastore 1 pc') (hj : ¬ j < 0) (hj' : j < n) (hi : j.toNatClampNeg < vs.length) (y : Value) (hy : .int (nar .short x) = y)
    (K : ∀ T' h', St p l e R s m A below meth c Z T' h' cells slots → Wr h h' a j.toNatClampNeg y → Arv Z h' a k .short n (vs.set j.toNatClampNeg y) dv → Goes p e below W T' (mkF m pc' Ls st)) : Goes p e below W T (mkF m pc Ls (.int x :: .int j :: .ref a :: st)) := by
  subst hy
  obtain ⟨d, rfl⟩ := d
  obtain ⟨L0, Y, eT, N, E⟩ := X
  obtain ⟨cl, Ar, q1, hS, hN, hH, hG⟩ := F
  have hin := in_of hS hj hj'
  obtain ⟨T', h', Y', e', W', q⟩ := stS Y C.hx C.hZ eT Ar hin (g := mkF m pc Ls (.int x :: .int j :: .ref a :: st)) rfl rfl (hb C.hby d)
  exact Goes.via q (K T' h' ⟨_, Y', e', Fr.snoc Y' N hnew, ext_wr E W' hnew⟩ W' (Arv.set Ar q1 hS hN hH hG (fits_nar_short _) W' _ rfl hi))
theorem g_bastore {a : Addr} {k : ClassId} {n j : Int32} {vs : List Value} {dv : Value} {x : Int32} (C : Cx p s m meth c Z own nm bytes maxL ret) (X : St p l e R s m A below meth c Z T h cells slots) (F : Arv Z h a k .byte n vs dv) (hnew : Z.heap.size ≤ a) (d : Dc bytes pc .bastore 1 pc') (hj : ¬ j < 0) (hj' : j < n) (hi : j.toNatClampNeg < vs.length) (y : Value) (hy : .int (nar .byte x) = y)
    (K : ∀ T' h', St p l e R s m A below meth c Z T' h' cells slots → Wr h h' a j.toNatClampNeg y → Arv Z h' a k .byte n (vs.set j.toNatClampNeg y) dv → Goes p e below W T' (mkF m pc' Ls st)) : Goes p e below W T (mkF m pc Ls (.int x :: .int j :: .ref a :: st)) := by
  subst hy
  obtain ⟨d, rfl⟩ := d
  obtain ⟨L0, Y, eT, N, E⟩ := X
  obtain ⟨cl, Ar, q1, hS, hN, hH, hG⟩ := F
  have hin := in_of hS hj hj'
  obtain ⟨T', h', Y', e', W', q⟩ := stB Y C.hx C.hZ eT Ar hin (g := mkF m pc Ls (.int x :: .int j :: .ref a :: st)) rfl rfl (hb C.hby d)
  exact Goes.via q (K T' h' ⟨_, Y', e', Fr.snoc Y' N hnew, ext_wr E W' hnew⟩ W' (Arv.set Ar q1 hS hN hH hG (fits_nar_byte _) W' _ rfl hi))
theorem g_lastore {a : Addr} {k : ClassId} {n j : Int32} {vs : List Value} {dv : Value} {x : Int64} (C : Cx p s m meth c Z own nm bytes maxL ret) (X : St p l e R s m A below meth c Z T h cells slots) (F : Arv Z h a k .long n vs dv) (hnew : Z.heap.size ≤ a) (d : Dc bytes pc .lastore 1 pc') (hj : ¬ j < 0) (hj' : j < n) (hi : j.toNatClampNeg < vs.length) (y : Value) (hy : .long x = y)
    (K : ∀ T' h', St p l e R s m A below meth c Z T' h' cells slots → Wr h h' a j.toNatClampNeg y → Arv Z h' a k .long n (vs.set j.toNatClampNeg y) dv → Goes p e below W T' (mkF m pc' Ls st)) : Goes p e below W T (mkF m pc Ls (.long x :: .int j :: .ref a :: st)) := by
  subst hy
  obtain ⟨d, rfl⟩ := d
  obtain ⟨L0, Y, eT, N, E⟩ := X
  obtain ⟨cl, Ar, q1, hS, hN, hH, hG⟩ := F
  have hin := in_of hS hj hj'
  obtain ⟨T', h', Y', e', W', q⟩ := stJ Y C.hx C.hZ eT Ar hin (g := mkF m pc Ls (.long x :: .int j :: .ref a :: st)) rfl rfl (hb C.hby d)
  exact Goes.via q (K T' h' ⟨_, Y', e', Fr.snoc Y' N hnew, ext_wr E W' hnew⟩ W' (Arv.set Ar q1 hS hN hH hG rfl W' _ rfl hi))
theorem st_back {T' : State} {h' : Heap} {k n : Nat} {B : Pt} {locs L : List Loc} (Y' : Stand p l e R s m A below meth c B.U B.locs B.cells B.slots) (hB : B.locs = locs ++ L ∧ B.cells = cells + k ∧ B.slots = slots + n) (N : Fr Z.heap.size locs) (N' : Fr Z.heap.size L) (E : Ext Z.heap B.U.heap) : St p l e R s m A below meth c Z B.U B.U.heap (cells + k) (slots + n) := by
  obtain ⟨b1, b2, b3⟩ := hB
  rw [b1, b2, b3] at Y'
  exact ⟨_, Y', rfl, N.app N', E⟩
theorem g_arraycopy {index : Nat} {a b : Addr} {k k' : ClassId} {ty : FieldType} {z z' sp dp nn : Int32} {vs vd : List Value} {dv dd : Value} (C : Cx p s m meth c Z own nm bytes maxL ret) (X : St p l e R s m A below meth c Z T h cells slots)
    (w1 : (Jvm.Cond.methodLink own index Jvm.Stand.acN).before a0 Z = true) (w2 : (Jvm.Cond.native Jvm.Stand.acN).before a0 Z = true) (w3 : (Jvm.Cond.static Jvm.Stand.acN).before a0 Z = true) (w4 : (Jvm.Cond.initialized "java/lang/System").before a0 Z = true)
    (F : Arv Z h a k ty z vs dv) (G : Arv Z h b k' ty z' vd dd) (hty : refKind ty = false) (h1 : ¬ sp < 0) (h2 : ¬ dp < 0) (h3 : ¬ nn < 0) (h4 : sp.toNatClampNeg + nn.toNatClampNeg ≤ z.toNatClampNeg) (h5 : dp.toNatClampNeg + nn.toNatClampNeg ≤ z'.toNatClampNeg)
    (us : List Value) (hus : us = (List.range nn.toNatClampNeg).map fun i => vs.getD (sp.toNatClampNeg + i) dv) (hl : dp.toNatClampNeg + nn.toNatClampNeg ≤ vd.length) (hnew : Z.heap.size ≤ b) (hsz : Ls.size = maxL) (d : Dc bytes pc (.invokestatic index) 3 pc') (hf : 1 ≤ R.frames) (W' : Nat) (hW : (st.map fun v => v.category).sum ≤ W') (hlo : W' + (nativeFrameWords "java/lang/System" "arraycopy" 5 + 11) ≤ R.locals)
    (K : ∀ T' h', St p l e R s m A below meth c Z T' h' cells slots → Keep h h' [b] → Arv Z h' b k' ty z' (vd.take dp.toNatClampNeg ++ us ++ vd.drop (dp.toNatClampNeg + nn.toNatClampNeg)) dd → Goes p e below W T' (mkF m pc' Ls st)) : Goes p e below W T (mkF m pc Ls (.int nn :: .int dp :: .ref b :: .int sp :: .ref a :: st)) := by
  obtain ⟨d, rfl⟩ := d
  obtain ⟨L0, Y, eT, N, E⟩ := X
  obtain ⟨T', h', L', Y', e', N', K', A', q⟩ := cpA Y C.hx C.hZ C.hown w1 w2 w3 w4 eT F G (Or.inl ⟨rfl, hty⟩) h1 h2 h3 h4 h5 hus hl N hnew (g := mkF m pc Ls (.int nn :: .int dp :: .ref b :: .int sp :: .ref a :: st)) rfl (hsz.trans C.hml.symm) rfl (hb C.hby d) hf (W := W') (by show 2 * 0 + _ ≤ _; omega) hlo
  exact Goes.via q (K T' h' ⟨L', Y', e', N', ext_keep E K' (allS hnew all0)⟩ K' A')
/-- a Back that serves a call: what a contract pays -/
def Pay (l : Launch) (R : Room) (p : Program) (e : Env) (below : List Frame) (s : State) (A : Array Value) (y : MethodName) (len W k n : Nat) (Z : State) (as' : Array Value) (h : Heap) (Q : Option Value → Heap → Prop) : Prop :=
  Back l R p e below s A y len W (fun P a => a = as' ∧ P.U.heap = h ∧ P.cells + k ≤ R.cells ∧ P.slots + n ≤ R.slots)
    (fun P _ v B => ∃ L, (Fr Z.heap.size L ∧ Ext Z.heap B.U.heap ∧ Q v B.U.heap) ∧ B.locs = P.locs ++ L ∧ B.cells = P.cells + k ∧ B.slots = P.slots + n)
theorem pay_of {y : MethodName} {bytes' : ByteArray} {maxL' len W' : Nat} {ret' : Option FieldType} {rm : Room} {as' : Array Value} {Q : Option Value → Heap → Prop} (hM : Con l y bytes' maxL' ret' [] rm Z as' h Q) (hZ : Z.Warmed39 s.vm) (wc : (Jvm.Cond.code y bytes' maxL' ret').before a0 Z = true) (wz : (Jvm.Cond.initialized y.cls).before a0 Z = true) (hf : rm.frames + 1 ≤ R.frames) (hl : W' + (maxL' + 11) + rm.locals ≤ R.locals) :
    Pay l R p e below s A y len W' rm.cells rm.slots Z as' h Q := backOf (Q := fun v h' L => Fr Z.heap.size L ∧ Ext Z.heap h' ∧ Q v h') hM hZ wc wz hf hl
theorem g_static {index k n : Nat} {y : MethodName} {bytes' : ByteArray} {maxL' W' : Nat} {ret' : Option FieldType} {argsL : List Value} {Q : Option Value → Heap → Prop} {ps : List FieldType} {rt : Option FieldType} (C : Cx p s m meth c Z own nm bytes maxL ret) (X : St p l e R s m A below meth c Z T h cells slots)
    (w1 : (Jvm.Cond.methodLink own index y).before a0 Z = true) (w2 : (Jvm.Cond.static y).before a0 Z = true) (w3 : (Jvm.Cond.initialized y.cls).before a0 Z = true) (w4 : (Jvm.Cond.code y bytes' maxL' ret').before a0 Z = true) (hy : y.cls ≠ "java/lang/invoke/MethodHandle" ∧ y.cls ≠ "java/lang/invoke/VarHandle")
    (hK : Pay l R p e below s A y 3 W' k n Z argsL.toArray h Q) (pd : parseMethodDescriptor y.desc = some ⟨ps, rt⟩) (hlen : argsL.length = ps.length) (hsz : Ls.size = maxL) (stk : List Value) (hst : stk = argsL.reverse ++ st) (hW : (st.map fun v => v.category).sum ≤ W') (d : Dc bytes pc (.invokestatic index) 3 pc') (hc : cells + k ≤ R.cells) (hs : slots + n ≤ R.slots)
    (K : ∀ T' h' v, Q v h' → St p l e R s m A below meth c Z T' h' (cells + k) (slots + n) → Goes p e below W T' (mkF m pc' Ls (v.toList ++ st))) : Goes p e below W T (mkF m pc Ls stk) := by
  obtain ⟨d, rfl⟩ := d
  obtain ⟨L0, Y, eT, N, E⟩ := X
  obtain ⟨v, vm₁, B, -, Y', ⟨L, ⟨N', E', hQ⟩, hB⟩, q⟩ := Jvm.LawKit.callS Y C.hx C.hown (mvT C.hZ w1) (mvT C.hZ w2) (mvT C.hZ w3) (mvT C.hZ w4) hy hK (g := mkF m pc Ls stk) rfl (hsz.trans C.hml.symm) (argsL := argsL) (rest := st) (lenOf pd hlen) hst (by show 2 * 0 + _ ≤ _; omega) (hb C.hby d) (fun _ _ => ⟨rfl, eT, hc, hs⟩)
  exact Goes.via q (K _ _ v hQ (st_back (T' := T) (h' := h) Y' hB N N' E'))
theorem g_special {index k n : Nat} {y : MethodName} {bytes' : ByteArray} {maxL' W' : Nat} {argsL : List Value} {Q : Option Value → Heap → Prop} {ps : List FieldType} {rt : Option FieldType} {a : Addr} (C : Cx p s m meth c Z own nm bytes maxL ret) (X : St p l e R s m A below meth c Z T h cells slots) (hi : y.name = "<init>")
    (w1 : (Jvm.Cond.methodLink own index y).before a0 Z = true) (w2 : (Jvm.Cond.instanceMethod y).before a0 Z = true) (w4 : (Jvm.Cond.code y bytes' maxL' none).before a0 Z = true) (hy : y.cls ≠ "java/lang/invoke/MethodHandle" ∧ y.cls ≠ "java/lang/invoke/VarHandle")
    (hK : Pay l R p e below s A y 3 W' k n Z (.ref a :: argsL).toArray h Q) (pd : parseMethodDescriptor y.desc = some ⟨ps, rt⟩) (hlen : argsL.length = ps.length) (hsz : Ls.size = maxL) (stk : List Value) (hst : stk = argsL.reverse ++ .ref a :: st) (hW : (st.map fun v => v.category).sum ≤ W') (d : Dc bytes pc (.invokespecial index) 3 pc') (hc : cells + k ≤ R.cells) (hs : slots + n ≤ R.slots)
    (K : ∀ T' h' v, Q v h' → St p l e R s m A below meth c Z T' h' (cells + k) (slots + n) → Goes p e below W T' (mkF m pc' Ls (v.toList ++ st))) : Goes p e below W T (mkF m pc Ls stk) := by
  obtain ⟨d, rfl⟩ := d
  obtain ⟨L0, Y, eT, N, E⟩ := X
  obtain ⟨v, vm₁, B, -, Y', ⟨L, ⟨N', E', hQ⟩, hB⟩, q⟩ := Y.specialBack C.hx (y := y) hi C.hown (mvT C.hZ w1) (mvT C.hZ w2) (mvT C.hZ w4) hy hK (g := mkF m pc Ls stk) rfl (hsz.trans C.hml.symm) (Steps.refl _) (a := a) (argsL := argsL) (rest := st) (lenOf pd hlen) hst (by show 2 * 0 + _ ≤ _; omega) (hb C.hby d) (fun _ _ => ⟨rfl, eT, hc, hs⟩)
  exact Goes.via (fun _ k => q.trans k) (K _ _ v hQ (st_back (T' := T) (h' := h) Y' hB N N' E'))
theorem g_virtual {index k n : Nat} {y z : MethodName} {K0 : String} {W' : Nat} {argsL : List Value} {Q : Option Value → Heap → Prop} {ps : List FieldType} {rt : Option FieldType} {a : Addr} (C : Cx p s m meth c Z own nm bytes maxL ret) (X : St p l e R s m A below meth c Z T h cells slots)
    (w1 : (Jvm.Cond.methodLink own index y).before a0 Z = true) (w2 : (Jvm.Cond.declares y).before a0 Z = true) (nf : NotFace s y) (w3 : (Jvm.Cond.selects K0 y z).before a0 Z = true) (w4 : (Jvm.Cond.instanceMethod z).before a0 Z = true) (hy : y.cls ≠ "java/lang/invoke/MethodHandle" ∧ y.cls ≠ "java/lang/invoke/VarHandle") (Ex : Exa Z h a K0)
    (hK : Pay l R p e below s A z 3 W' k n Z (.ref a :: argsL).toArray h Q) (pd : parseMethodDescriptor y.desc = some ⟨ps, rt⟩) (hlen : argsL.length = ps.length) (hsz : Ls.size = maxL) (stk : List Value) (hst : stk = argsL.reverse ++ .ref a :: st) (hW : (st.map fun v => v.category).sum ≤ W') (d : Dc bytes pc (.invokevirtual index) 3 pc') (hc : cells + k ≤ R.cells) (hs : slots + n ≤ R.slots)
    (K : ∀ T' h' v, Q v h' → St p l e R s m A below meth c Z T' h' (cells + k) (slots + n) → Goes p e below W T' (mkF m pc' Ls (v.toList ++ st))) : Goes p e below W T (mkF m pc Ls stk) := by
  obtain ⟨d, rfl⟩ := d
  obtain ⟨L0, Y, eT, N, E⟩ := X
  obtain ⟨cq, kq, qa, qb, qc⟩ := isOf C.hZ eT Ex
  obtain ⟨v, vm₁, B, -, Y', ⟨L, ⟨N', E', hQ⟩, hB⟩, q⟩ := Y.virtualBack C.hx (y := y) (z := z) C.hown (mvT C.hZ w1) (mvT C.hZ w2) nf (mvT C.hZ w3) (mvT C.hZ w4) hy hK qa qc (g := mkF m pc Ls stk) rfl (hsz.trans C.hml.symm) (Steps.refl _) (argsL := argsL) (rest := st) (lenOf pd hlen) hst (by show 2 * 0 + _ ≤ _; omega) (hb C.hby d) (fun _ _ => ⟨rfl, eT, hc, hs⟩)
  exact Goes.via (fun _ k => q.trans k) (K _ _ v hQ (st_back (T' := T) (h' := h) Y' hB N N' E'))
theorem nf_of {K0 : String} {y z : MethodName} (C : Cx p s m meth c Z own nm bytes maxL ret) (w3 : (Jvm.Cond.selects K0 y z).before a0 Z = true) (e : K0 = y.cls) (e' : z = y) : NotFace s y := by
  subst e e'; exact notFace_of_selects (args := #[]) (mvT C.hZ w3)
theorem g_interface {index count k n : Nat} {y z : MethodName} {K0 : String} {W' : Nat} {argsL : List Value} {Q : Option Value → Heap → Prop} {ps : List FieldType} {rt : Option FieldType} {a : Addr} (C : Cx p s m meth c Z own nm bytes maxL ret) (X : St p l e R s m A below meth c Z T h cells slots)
    (w1 : (Jvm.Cond.methodLink own index y).before a0 Z = true) (w2 : (Jvm.Cond.declares y).before a0 Z = true) (w5 : (Jvm.Cond.interfaceMethod y.cls y.cls y.name y.desc).before A s = true) (w3 : (Jvm.Cond.selects K0 y z).before a0 Z = true) (w4 : (Jvm.Cond.instanceMethod z).before a0 Z = true) (w6 : (Jvm.Cond.publicMethod z).before a0 Z = true) (w7 : (Jvm.Cond.unhidden K0 y.name y.desc).before A s = true) (w8 : (Jvm.Cond.castable K0 y.cls).before a0 Z = true)
    (hy : y.cls ≠ "java/lang/invoke/MethodHandle" ∧ y.cls ≠ "java/lang/invoke/VarHandle") (Ex : Exa Z h a K0)
    (hK : Pay l R p e below s A z 5 W' k n Z (.ref a :: argsL).toArray h Q) (pd : parseMethodDescriptor y.desc = some ⟨ps, rt⟩) (hlen : argsL.length = ps.length) (hsz : Ls.size = maxL) (stk : List Value) (hst : stk = argsL.reverse ++ .ref a :: st) (hW : (st.map fun v => v.category).sum ≤ W') (d : Dc bytes pc (.invokeinterface index count) 5 pc') (hc : cells + k ≤ R.cells) (hs : slots + n ≤ R.slots)
    (K : ∀ T' h' v, Q v h' → St p l e R s m A below meth c Z T' h' (cells + k) (slots + n) → Goes p e below W T' (mkF m pc' Ls (v.toList ++ st))) : Goes p e below W T (mkF m pc Ls stk) := by
  obtain ⟨d, rfl⟩ := d
  obtain ⟨L0, Y, eT, N, E⟩ := X
  obtain ⟨cq, kq, qa, qb, qc⟩ := isOf C.hZ eT Ex
  obtain ⟨v, vm₁, B, -, Y', ⟨L, ⟨N', E', hQ⟩, hB⟩, q⟩ := Y.interfaceBack C.hx (xi := y) (y := z) C.hown (mvT C.hZ w1) (mvT C.hZ w2) w5 (mvT C.hZ w3) (mvT C.hZ w4) (mvT C.hZ w6) w7 (mvT C.hZ w8) hy hK qa qb qc (g := mkF m pc Ls stk) rfl (hsz.trans C.hml.symm) (Steps.refl _) (argsL := argsL) (rest := st) (lenOf pd hlen) hst (by show 2 * 0 + _ ≤ _; omega) (hb C.hby d) (fun _ _ => ⟨rfl, eT, hc, hs⟩)
  exact Goes.via (fun _ k => q.trans k) (K _ _ v hQ (st_back (T' := T) (h' := h) Y' hB N N' E'))
theorem g_staticP {index : Nat} {y : MethodName} {bytes' : ByteArray} {maxL' W' : Nat} {ret' : Option FieldType} {argsL : List Value} {v : Value} {ps : List FieldType} {rt : Option FieldType} (C : Cx p s m meth c Z own nm bytes maxL ret) (X : St p l e R s m A below meth c Z T h cells slots)
    (w1 : (Jvm.Cond.methodLink own index y).before a0 Z = true) (w2 : (Jvm.Cond.static y).before a0 Z = true) (w3 : (Jvm.Cond.initialized y.cls).before a0 Z = true) (w4 : (Jvm.Cond.code y bytes' maxL' ret').before a0 Z = true) (hy : y.cls ≠ "java/lang/invoke/MethodHandle" ∧ y.cls ≠ "java/lang/invoke/VarHandle")
    (hK : Pay l R p e below s A y 3 W' 0 0 Z argsL.toArray h (fun v' h' => v' = some v ∧ h' = h)) (pd : parseMethodDescriptor y.desc = some ⟨ps, rt⟩) (hlen : argsL.length = ps.length) (hsz : Ls.size = maxL) (stk : List Value) (hst : stk = argsL.reverse ++ st) (hW : (st.map fun v => v.category).sum ≤ W') (d : Dc bytes pc (.invokestatic index) 3 pc') (hc : cells ≤ R.cells) (hs : slots ≤ R.slots)
    (K : ∀ T', St p l e R s m A below meth c Z T' h cells slots → Goes p e below W T' (mkF m pc' Ls (v :: st))) : Goes p e below W T (mkF m pc Ls stk) :=
  g_static C X w1 w2 w3 w4 hy hK pd hlen hsz stk hst hW d hc hs fun T' h' v' hQ X' => by obtain ⟨rfl, rfl⟩ := hQ; exact K T' X'
theorem g_specialP {index : Nat} {y : MethodName} {bytes' : ByteArray} {maxL' W' : Nat} {argsL : List Value} {ps : List FieldType} {rt : Option FieldType} {a : Addr} (C : Cx p s m meth c Z own nm bytes maxL ret) (X : St p l e R s m A below meth c Z T h cells slots) (hi : y.name = "<init>")
    (w1 : (Jvm.Cond.methodLink own index y).before a0 Z = true) (w2 : (Jvm.Cond.instanceMethod y).before a0 Z = true) (w4 : (Jvm.Cond.code y bytes' maxL' none).before a0 Z = true) (hy : y.cls ≠ "java/lang/invoke/MethodHandle" ∧ y.cls ≠ "java/lang/invoke/VarHandle")
    (hK : Pay l R p e below s A y 3 W' 0 0 Z (.ref a :: argsL).toArray h (fun v' h' => v' = none ∧ h' = h)) (pd : parseMethodDescriptor y.desc = some ⟨ps, rt⟩) (hlen : argsL.length = ps.length) (hsz : Ls.size = maxL) (stk : List Value) (hst : stk = argsL.reverse ++ .ref a :: st) (hW : (st.map fun v => v.category).sum ≤ W') (d : Dc bytes pc (.invokespecial index) 3 pc') (hc : cells ≤ R.cells) (hs : slots ≤ R.slots)
    (K : ∀ T', St p l e R s m A below meth c Z T' h cells slots → Goes p e below W T' (mkF m pc' Ls st)) : Goes p e below W T (mkF m pc Ls stk) :=
  g_special C X hi w1 w2 w4 hy hK pd hlen hsz stk hst hW d hc hs fun T' h' v' hQ X' => by obtain ⟨rfl, rfl⟩ := hQ; exact K T' X'
theorem g_virtualP {index : Nat} {y z : MethodName} {K0 : String} {W' : Nat} {argsL : List Value} {v : Value} {ps : List FieldType} {rt : Option FieldType} {a : Addr} (C : Cx p s m meth c Z own nm bytes maxL ret) (X : St p l e R s m A below meth c Z T h cells slots)
    (w1 : (Jvm.Cond.methodLink own index y).before a0 Z = true) (w2 : (Jvm.Cond.declares y).before a0 Z = true) (nf : NotFace s y) (w3 : (Jvm.Cond.selects K0 y z).before a0 Z = true) (w4 : (Jvm.Cond.instanceMethod z).before a0 Z = true) (hy : y.cls ≠ "java/lang/invoke/MethodHandle" ∧ y.cls ≠ "java/lang/invoke/VarHandle") (Ex : Exa Z h a K0)
    (hK : Pay l R p e below s A z 3 W' 0 0 Z (.ref a :: argsL).toArray h (fun v' h' => v' = some v ∧ h' = h)) (pd : parseMethodDescriptor y.desc = some ⟨ps, rt⟩) (hlen : argsL.length = ps.length) (hsz : Ls.size = maxL) (stk : List Value) (hst : stk = argsL.reverse ++ .ref a :: st) (hW : (st.map fun v => v.category).sum ≤ W') (d : Dc bytes pc (.invokevirtual index) 3 pc') (hc : cells ≤ R.cells) (hs : slots ≤ R.slots)
    (K : ∀ T', St p l e R s m A below meth c Z T' h cells slots → Goes p e below W T' (mkF m pc' Ls (v :: st))) : Goes p e below W T (mkF m pc Ls stk) :=
  g_virtual C X w1 w2 nf w3 w4 hy Ex hK pd hlen hsz stk hst hW d hc hs fun T' h' v' hQ X' => by obtain ⟨rfl, rfl⟩ := hQ; exact K T' X'
theorem g_interfaceP {index count : Nat} {y z : MethodName} {K0 : String} {W' : Nat} {argsL : List Value} {v : Value} {ps : List FieldType} {rt : Option FieldType} {a : Addr} (C : Cx p s m meth c Z own nm bytes maxL ret) (X : St p l e R s m A below meth c Z T h cells slots)
    (w1 : (Jvm.Cond.methodLink own index y).before a0 Z = true) (w2 : (Jvm.Cond.declares y).before a0 Z = true) (w5 : (Jvm.Cond.interfaceMethod y.cls y.cls y.name y.desc).before A s = true) (w3 : (Jvm.Cond.selects K0 y z).before a0 Z = true) (w4 : (Jvm.Cond.instanceMethod z).before a0 Z = true) (w6 : (Jvm.Cond.publicMethod z).before a0 Z = true) (w7 : (Jvm.Cond.unhidden K0 y.name y.desc).before A s = true) (w8 : (Jvm.Cond.castable K0 y.cls).before a0 Z = true)
    (hy : y.cls ≠ "java/lang/invoke/MethodHandle" ∧ y.cls ≠ "java/lang/invoke/VarHandle") (Ex : Exa Z h a K0)
    (hK : Pay l R p e below s A z 5 W' 0 0 Z (.ref a :: argsL).toArray h (fun v' h' => v' = some v ∧ h' = h)) (pd : parseMethodDescriptor y.desc = some ⟨ps, rt⟩) (hlen : argsL.length = ps.length) (hsz : Ls.size = maxL) (stk : List Value) (hst : stk = argsL.reverse ++ .ref a :: st) (hW : (st.map fun v => v.category).sum ≤ W') (d : Dc bytes pc (.invokeinterface index count) 5 pc') (hc : cells ≤ R.cells) (hs : slots ≤ R.slots)
    (K : ∀ T', St p l e R s m A below meth c Z T' h cells slots → Goes p e below W T' (mkF m pc' Ls (v :: st))) : Goes p e below W T (mkF m pc Ls stk) :=
  g_interface C X w1 w2 w5 w3 w4 w6 w7 w8 hy Ex hK pd hlen hsz stk hst hW d hc hs fun T' h' v' hQ X' => by obtain ⟨rfl, rfl⟩ := hQ; exact K T' X'
theorem g_initO {index : Nat} {a : Addr} (C : Cx p s m meth c Z own nm bytes maxL ret) (X : St p l e R s m A below meth c Z T h cells slots) (w1 : (Jvm.Cond.methodLink own index Lib.objectInit).before a0 Z = true) (w2 : (Jvm.Cond.instanceMethod Lib.objectInit).before a0 Z = true) (w3 : (Jvm.Cond.code Lib.objectInit ⟨#[0xb1]⟩ 1 none).before a0 Z = true) (hsz : Ls.size = maxL) (d : Dc bytes pc (.invokespecial index) 3 pc') (hf : 1 ≤ R.frames) (W' : Nat) (hW : (st.map fun v => v.category).sum ≤ W') (hl : W' + 12 ≤ R.locals)
    (K : ∀ T', St p l e R s m A below meth c Z T' h cells slots → Goes p e below W T' (mkF m pc' Ls st)) : Goes p e below W T (mkF m pc Ls (.ref a :: st)) := by
  obtain ⟨d, rfl⟩ := d
  obtain ⟨L0, Y, eT, N, E⟩ := X
  obtain ⟨T', Y', e', q⟩ := initO Y C.hx C.hZ C.hown w1 w2 w3 eT (g := mkF m pc Ls (.ref a :: st)) rfl (hsz.trans C.hml.symm) rfl (hb C.hby d) hf (W := W') (by show 2 * 0 + _ ≤ _; omega) hl
  exact Goes.via q (K T' ⟨L0, Y', e', N, E⟩)
theorem end_of {k n : Nat} {Q : Option Value → Heap → Prop} {v : Option Value} {L : List Loc} {fs : List Frame} (N : Fr Z.heap.size L) (E : Ext Z.heap T.heap) (hW : s.WarmedH (T.setFrames fs).vm) (hS : s.sameButNew ({ T.setFrames fs with vm := s.vm } : State) L cells slots) (hc : cells ≤ k) (hs : slots ≤ n) (hQ : Q v T.heap) : EndW Z s k n Q (.returned v) (T.setFrames fs) :=
  ⟨v, L, rfl, ⟨N, E, hQ⟩, ⟨_, rfl⟩, hW, hS.mono hc hs⟩
theorem g_retI {k n : Nat} {Q : Option Value → Heap → Prop} {z : Int32} (C : Cx p s m meth c Z own nm bytes maxL (some .int)) (X : St p l e R s m A below meth c Z T h cells slots) (d : Dc bytes pc .ireturn 1 pc') (hc : cells ≤ k) (hs : slots ≤ n) (hQ : Q (some (.int z)) h) : Goes p e below (EndW Z s k n Q) T (mkF m pc Ls (.int z :: st)) := by
  obtain ⟨L0, Y, rfl, N, E⟩ := X
  have hlk := C.hlk
  obtain ⟨fs, hr, hrun, hended, hW, hS⟩ := Y.leave (v := some (.int z)) (fun h => by rw [C.hret] at h; cases h) hlk
  exact ⟨_, _, retOut Y C.hx C.hret rfl (Or.inl ⟨rfl, Or.inl rfl, z, rfl⟩) (hb C.hby d.1) hr, hrun, hended, end_of N E hW hS hc hs hQ⟩
theorem g_retN {k n : Nat} {Q : Option Value → Heap → Prop} {z : Int32} {t : FieldType} (C : Cx p s m meth c Z own nm bytes maxL (some t)) (X : St p l e R s m A below meth c Z T h cells slots) (ht : t = .boolean ∨ t = .byte ∨ t = .char ∨ t = .short) (d : Dc bytes pc .ireturn 1 pc') (z' : Int32) (hz : nar t z = z') (hc : cells ≤ k) (hs : slots ≤ n) (hQ : Q (some (.int z')) h) : Goes p e below (EndW Z s k n Q) T (mkF m pc Ls (.int z :: st)) := by
  obtain ⟨L0, Y, rfl, N, E⟩ := X
  have hlk := C.hlk
  obtain ⟨fs, hr, hrun, hended, hW, hS⟩ := Y.leave (v := some (.int z')) (fun h => by rw [C.hret] at h; cases h) hlk
  rw [← hz] at hr
  exact ⟨_, _, retN Y C.hx C.hret ht (hb C.hby d.1) hr, hrun, hended, end_of N E hW hS hc hs hQ⟩
theorem g_retJ {k n : Nat} {Q : Option Value → Heap → Prop} {z : Int64} (C : Cx p s m meth c Z own nm bytes maxL (some .long)) (X : St p l e R s m A below meth c Z T h cells slots) (d : Dc bytes pc .lreturn 1 pc') (hc : cells ≤ k) (hs : slots ≤ n) (hQ : Q (some (.long z)) h) : Goes p e below (EndW Z s k n Q) T (mkF m pc Ls (.long z :: st)) := by
  obtain ⟨L0, Y, rfl, N, E⟩ := X
  have hlk := C.hlk
  obtain ⟨fs, hr, hrun, hended, hW, hS⟩ := Y.leave (v := some (.long z)) (fun h => by rw [C.hret] at h; cases h) hlk
  exact ⟨_, _, retOut Y C.hx C.hret rfl (Or.inr (Or.inl ⟨rfl, rfl, z, rfl⟩)) (hb C.hby d.1) hr, hrun, hended, end_of N E hW hS hc hs hQ⟩
theorem g_retA {k n : Nat} {Q : Option Value → Heap → Prop} {z : Value} {t : FieldType} (C : Cx p s m meth c Z own nm bytes maxL (some t)) (X : St p l e R s m A below meth c Z T h cells slots) (ht : t.isReference = true) (hz : z.isRef = true) (d : Dc bytes pc .areturn 1 pc') (hc : cells ≤ k) (hs : slots ≤ n) (hQ : Q (some z) h) : Goes p e below (EndW Z s k n Q) T (mkF m pc Ls (z :: st)) := by
  obtain ⟨L0, Y, rfl, N, E⟩ := X
  have hlk := C.hlk
  have hn : narrow t z = z := by cases t <;> first | rfl | (simp [FieldType.isReference] at ht; done) | (cases z <;> simp [Value.isRef] at hz <;> rfl)
  obtain ⟨fs, hr, hrun, hended, hW, hS⟩ := Y.leave (v := some z) (fun h => by rw [C.hret] at h; cases h) hlk
  exact ⟨_, _, retOut Y C.hx C.hret hn (Or.inr (Or.inr (Or.inr (Or.inr ⟨rfl, ht, hz⟩)))) (hb C.hby d.1) hr, hrun, hended, end_of N E hW hS hc hs hQ⟩
theorem g_retV {k n : Nat} {Q : Option Value → Heap → Prop} (C : Cx p s m meth c Z own nm bytes maxL none) (X : St p l e R s m A below meth c Z T h cells slots) (d : Dc bytes pc .return_ 1 pc') (hc : cells ≤ k) (hs : slots ≤ n) (hQ : Q none h) : Goes p e below (EndW Z s k n Q) T (mkF m pc Ls []) := by
  obtain ⟨L0, Y, rfl, N, E⟩ := X
  have hlk := C.hlk
  obtain ⟨fs, hr, hrun, hended, hW, hS⟩ := Y.leave (v := none) (fun _ => rfl) hlk
  exact ⟨_, _, Y.returnOut C.hx C.hret (hb C.hby d.1) hr, hrun, hended, end_of N E hW hS hc hs hQ⟩
end OwnKit
/-! from the case's words -/
theorem wd {a0 : Array Value} {Z : State} (hw : ∀ d ∈ tables_1, d.before a0 Z = true) (i : Nat) {d : Jvm.Cond} (h : tables_1[i]? = some d) : d.before a0 Z = true := hw d (List.mem_of_getElem? h)
theorem eqI_v {args : Array Value} {first s : State} {o : Option Outcome} {idx : List Nat} {t : Term} {k : Int32} (h : (Jvm.Cond.eq t (.int k)).value args first o s idx = some true) : t.eval args first o idx s = some (.int k) := by
  simp only [Cond.value, Term.eval] at h
  cases ht : t.eval args first o idx s with
  | none => simp [ht] at h
  | some x => cases x <;> simp [ht] at h ⊢; exact h
theorem eqJ_v {args : Array Value} {first s : State} {o : Option Outcome} {idx : List Nat} {t : Term} {k : Int64} (h : (Jvm.Cond.eq t (.long k)).value args first o s idx = some true) : t.eval args first o idx s = some (.long k) := by
  simp only [Cond.value, Term.eval] at h
  cases ht : t.eval args first o idx s with
  | none => simp [ht] at h
  | some x => cases x <;> simp [ht] at h ⊢; exact h
theorem eqR_v {args : Array Value} {first s : State} {o : Option Outcome} {idx : List Nat} {t u : Term} {a : Addr} (h : (Jvm.Cond.eq t u).value args first o s idx = some true) (hu : u.eval args first o idx s = some (.ref a)) : t.eval args first o idx s = some (.ref a) := by
  simp only [Cond.value, hu] at h
  cases ht : t.eval args first o idx s with
  | none => simp [ht] at h
  | some x => cases x <;> simp [ht] at h ⊢; exact h
theorem arr_start {args : Array Value} {Z : State} {t : Term} {a : Addr} {cl : Cell} {ty : FieldType} {n : Int32} {vs : List Value} (dv : Value) (hf : Fit Z) (A : Arr Z Z.heap a cl ty) (ev : t.eval args Z none [] Z = some (.ref a)) (hl : (Term.length t).eval args Z none [] Z = some (.int n)) (hn : ¬ n < 0) (hv : n.toNatClampNeg = vs.length)
    (H : HasL cl 0 vs) : Arv Z Z.heap a cl.cls ty n vs dv := by
  obtain ⟨a', c', e1, e2, e4⟩ := Term.length_spec hl
  cases ev.symm.trans e1
  cases A.1.symm.trans (State.arrayAt?_spec e2).1
  have e3 : cl.slots.size < 2 ^ 31 := by
    by_cases q : cl.slots.size < 2147483648
    · exact q
    · exfalso; simp [Term.eval, ev, e2, q] at hl
  exact Arv.start hf A e3 (Value.int.inj e4.symm) hn hv H
theorem elem_start {args : Array Value} {Z : State} {t : Term} {a : Addr} {cl : Cell} {ty : FieldType} {j : Int32} {v : Value} (A : Arr Z Z.heap a cl ty) (ev : t.eval args Z none [] Z = some (.ref a)) (h : (Term.elem t (.int j)).eval args Z none [] Z = some v) : cl.slots[j.toNatClampNeg]? = some v := (elem_in h ev (Term.int_eval j) A.1).2
theorem own_ch (x : Int32) : Value.int (nar .char ((x &&& (255 : Int32)).toUInt32.toUInt16.toUInt32.toInt32)) = .int (x &&& (255 : Int32)) := by
  show Value.int (((x &&& (255 : Int32)).toUInt32.toUInt16.toUInt32.toInt32).toUInt32.toUInt16.toUInt32.toInt32) = _
  rw [i2c_mask, i2c_mask]
theorem nz_v {args : Array Value} {Z : State} {t : Term} {z : Int32} (ev : t.eval args Z none [] Z = some (.int z)) (h : (Jvm.Cond.not (.eq t (.int 0))).value args Z none Z [] = some true) : ¬ z = 0 := by
  intro e; subst e
  have q := not_v h
  simp [Cond.value, ev, Term.eval] at q
theorem fld_of {args : Array Value} {Z : State} {t : Term} {a : Addr} {C n d : String} {v : Value} (ht : t.eval args Z none [] Z = some (.ref a)) (h : (Term.field t C n d).eval args Z none [] Z = some v) : Fld Z Z.heap a C n d v := Fld.start (by rw [← fld_at (args := args) (first := Z) (o := none) (idx := []) ht]; exact h)
section OwnDbl
open Jvm.FP Jvm.Free.Fl
variable {p : Program} {l : Launch} {e : Env} {R : Room} {s : State} {m : MethodId} {A : Array Value} {below : List Frame} {meth : Method} {c : Code} {T : State} {cells slots : Nat} {Z : State} {a0 : Array Value} {h : Heap} {own nm : String} {bytes : ByteArray} {maxL : Nat} {ret : Option FieldType} {W : Outcome → State → Prop} {pc pc' tgt : Nat} {Ls : Array Slot} {st : List Value}
theorem g_dload {k : Nat} {v : UInt64} (C : Cx p s m meth c Z own nm bytes maxL ret) (X : St p l e R s m A below meth c Z T h cells slots) (d : Dc bytes pc (.dload k) 2 pc') (hl : Ls[k]? = some (.val (.double v))) (K : Goes p e below W T (mkF m pc' Ls (.double v :: st))) : Goes p e below W T (mkF m pc Ls st) := by
  obtain ⟨d, rfl⟩ := d
  exact Goes.via (fun _ k => XS.dload X.here C.hx rfl (hb C.hby d) hl k) K
theorem g_dloadN {k : Fin 4} {v : UInt64} (C : Cx p s m meth c Z own nm bytes maxL ret) (X : St p l e R s m A below meth c Z T h cells slots) (d : Dc bytes pc (.dload_n k) 1 pc') (hl : Ls[k.val]? = some (.val (.double v))) (K : Goes p e below W T (mkF m pc' Ls (.double v :: st))) : Goes p e below W T (mkF m pc Ls st) := by
  obtain ⟨d, rfl⟩ := d
  exact Goes.via (fun _ k => XS.dloadN X.here C.hx rfl (hb C.hby d) hl k) K
theorem g_dstore {k : Nat} {x : UInt64} {l' : Array Slot} (C : Cx p s m meth c Z own nm bytes maxL ret) (X : St p l e R s m A below meth c Z T h cells slots) (d : Dc bytes pc (.dstore k) 2 pc') (hl : storeLocals Ls k (.double x) = some l') (K : Goes p e below W T (mkF m pc' l' st)) : Goes p e below W T (mkF m pc Ls (.double x :: st)) := by
  obtain ⟨d, rfl⟩ := d
  exact Goes.via (fun _ k => XS.dstore X.here C.hx rfl (hb C.hby d) rfl hl k) K
theorem g_dstoreN {k : Fin 4} {x : UInt64} {l' : Array Slot} (C : Cx p s m meth c Z own nm bytes maxL ret) (X : St p l e R s m A below meth c Z T h cells slots) (d : Dc bytes pc (.dstore_n k) 1 pc') (hl : storeLocals Ls k.val (.double x) = some l') (K : Goes p e below W T (mkF m pc' l' st)) : Goes p e below W T (mkF m pc Ls (.double x :: st)) := by
  obtain ⟨d, rfl⟩ := d
  exact Goes.via (fun _ k => XS.dstoreN X.here C.hx rfl (hb C.hby d) rfl hl k) K
theorem g_dconst0 (C : Cx p s m meth c Z own nm bytes maxL ret) (X : St p l e R s m A below meth c Z T h cells slots) (d : Dc bytes pc (.dconst 0) 1 pc') (K : Goes p e below W T (mkF m pc' Ls (.double 0 :: st))) : Goes p e below W T (mkF m pc Ls st) := by
  obtain ⟨d, rfl⟩ := d
  exact Goes.via (fun _ k => XS.dconst0 (v := 0) X.here C.hx rfl (hb C.hby d) (by decide +kernel) k) K
theorem g_i2d {x : Int32} (C : Cx p s m meth c Z own nm bytes maxL ret) (X : St p l e R s m A below meth c Z T h cells slots) (d : Dc bytes pc .i2d 1 pc') (K : Goes p e below W T (mkF m pc' Ls (.double (FP.i2d x) :: st))) : Goes p e below W T (mkF m pc Ls (.int x :: st)) := by
  obtain ⟨d, rfl⟩ := d
  exact Goes.via (fun _ k => XS.i2dS X.here C.hx rfl (hb C.hby d) rfl rfl k) K
theorem g_l2d {x : Int64} (C : Cx p s m meth c Z own nm bytes maxL ret) (X : St p l e R s m A below meth c Z T h cells slots) (d : Dc bytes pc .l2d 1 pc') (K : Goes p e below W T (mkF m pc' Ls (.double (FP.l2d x) :: st))) : Goes p e below W T (mkF m pc Ls (.long x :: st)) := by
  obtain ⟨d, rfl⟩ := d
  exact Goes.via (fun _ k => XS.l2dS X.here C.hx rfl (hb C.hby d) rfl rfl k) K
theorem g_dadd {x y : UInt64} (v : UInt64) (C : Cx p s m meth c Z own nm bytes maxL ret) (X : St p l e R s m A below meth c Z T h cells slots) (d : Dc bytes pc .dadd 1 pc') (hn : NoNaN64 (FP.dadd x y)) (hv : FP.dadd x y = v) (K : Goes p e below W T (mkF m pc' Ls (.double v :: st))) : Goes p e below W T (mkF m pc Ls (.double y :: .double x :: st)) := by
  obtain ⟨d, rfl⟩ := d
  exact Goes.via (fun _ k => XS.daddS X.here C.hx rfl (hb C.hby d) rfl hn hv k) K
theorem g_dmul {x y : UInt64} (v : UInt64) (C : Cx p s m meth c Z own nm bytes maxL ret) (X : St p l e R s m A below meth c Z T h cells slots) (d : Dc bytes pc .dmul 1 pc') (hn : NoNaN64 (FP.dmul x y)) (hv : FP.dmul x y = v) (K : Goes p e below W T (mkF m pc' Ls (.double v :: st))) : Goes p e below W T (mkF m pc Ls (.double y :: .double x :: st)) := by
  obtain ⟨d, rfl⟩ := d
  exact Goes.via (fun _ k => XS.dmulS X.here C.hx rfl (hb C.hby d) rfl hn hv k) K
theorem g_dcmp {o : CmpOp} {x y : UInt64} (v : Int32) (C : Cx p s m meth c Z own nm bytes maxL ret) (X : St p l e R s m A below meth c Z T h cells slots) (d : Dc bytes pc (.dcmp o) 1 pc') (hv : cmpValue (FP.dcmp x y) o = v) (K : Goes p e below W T (mkF m pc' Ls (.int v :: st))) : Goes p e below W T (mkF m pc Ls (.double y :: .double x :: st)) := by
  obtain ⟨d, rfl⟩ := d
  exact Goes.via (fun _ k => XS.dcmpS X.here C.hx rfl (hb C.hby d) rfl hv k) K
theorem g_daload {a : Addr} {k : ClassId} {n j : Int32} {vs : List Value} {dv : Value} {v : UInt64} (C : Cx p s m meth c Z own nm bytes maxL ret) (X : St p l e R s m A below meth c Z T h cells slots) (F : Arv Z h a k .double n vs dv) (d : Dc bytes pc .daload 1 pc') (hj : ¬ j < 0) (hj' : j < n) (hv : vs.getD j.toNatClampNeg dv = .double v) (K : Goes p e below W T (mkF m pc' Ls (.double v :: st))) : Goes p e below W T (mkF m pc Ls (.int j :: .ref a :: st)) := by
  obtain ⟨d, rfl⟩ := d
  obtain ⟨L0, Y, eT, N, E⟩ := X
  obtain ⟨cl, Ar, -, hS, hN, hH, -⟩ := F
  have hin := in_of hS hj hj'
  exact Goes.via (Y.daload C.hx (j := j) (v := .double v) (by rw [eT]; exact Ar.1) (State.isArrayOf_alike C.hZ.alike Ar.2.1) Ar.2.2 hin (hH.at hin hv) (g := mkF m pc Ls (.int j :: .ref a :: st)) rfl rfl (hb C.hby d)) K
theorem g_dastore {a : Addr} {k : ClassId} {n j : Int32} {vs : List Value} {dv : Value} {x : UInt64} (C : Cx p s m meth c Z own nm bytes maxL ret) (X : St p l e R s m A below meth c Z T h cells slots) (F : Arv Z h a k .double n vs dv) (hnew : Z.heap.size ≤ a) (d : Dc bytes pc .dastore 1 pc') (hj : ¬ j < 0) (hj' : j < n) (hi : j.toNatClampNeg < vs.length) (y : Value) (hy : Value.double x = y)
    (K : ∀ T' h', St p l e R s m A below meth c Z T' h' cells slots → Wr h h' a j.toNatClampNeg y → Arv Z h' a k .double n (vs.set j.toNatClampNeg y) dv → Goes p e below W T' (mkF m pc' Ls st)) : Goes p e below W T (mkF m pc Ls (.double x :: .int j :: .ref a :: st)) := by
  subst hy
  obtain ⟨d, rfl⟩ := d
  obtain ⟨L0, Y, eT, N, E⟩ := X
  obtain ⟨cl, Ar, q1, hS, hN, hH, hG⟩ := F
  have hin := in_of hS hj hj'
  obtain ⟨T', h', Y', e', W', q⟩ := stD Y C.hx C.hZ eT Ar hin (g := mkF m pc Ls (.double x :: .int j :: .ref a :: st)) rfl rfl (hb C.hby d)
  exact Goes.via q (K T' h' ⟨_, Y', e', Fr.snoc Y' N hnew, ext_wr E W' hnew⟩ W' (Arv.set Ar q1 hS hN hH hG rfl W' _ rfl hi))
theorem g_retD {k n : Nat} {Q : Option Value → Heap → Prop} {z : UInt64} (C : Cx p s m meth c Z own nm bytes maxL (some .double)) (X : St p l e R s m A below meth c Z T h cells slots) (d : Dc bytes pc .dreturn 1 pc') (hc : cells ≤ k) (hs : slots ≤ n) (hQ : Q (some (.double z)) h) : Goes p e below (EndW Z s k n Q) T (mkF m pc Ls (.double z :: st)) := by
  obtain ⟨L0, Y, rfl, N, E⟩ := X
  have hlk := C.hlk
  obtain ⟨fs, hr, hrun, hended, hW, hS⟩ := Y.leave (v := some (.double z)) (fun h => by rw [C.hret] at h; cases h) hlk
  exact ⟨_, _, retOut Y C.hx C.hret rfl (Or.inr (Or.inr (Or.inl ⟨rfl, rfl, z, rfl⟩))) (hb C.hby d.1) hr, hrun, hended, end_of N E hW hS hc hs hQ⟩
theorem own_no0 : NoNaN64 0 := by decide +kernel
theorem own_mulF {x y : UInt64} (hx : Mag64 1056 x) (hy : Mag64 1056 y) : Fin64 (FP.dmul x y) := (dmul_mag hx hy (by decide) (by decide)).fin (by decide)
end OwnDbl
def Bd (K : Int) (x : Int64) : Prop := -K ≤ x.toInt ∧ x.toInt ≤ K
theorem own_mulb {A B a b : Int} (a1 : -A ≤ a) (a2 : a ≤ A) (b1 : -B ≤ b) (b2 : b ≤ B) : -(A * B) ≤ a * b ∧ a * b ≤ A * B := by
  have h1 := Int.mul_nonneg (show 0 ≤ A - a by omega) (show 0 ≤ B - b by omega)
  have h2 := Int.mul_nonneg (show 0 ≤ A + a by omega) (show 0 ≤ B + b by omega)
  have h3 := Int.mul_nonneg (show 0 ≤ A - a by omega) (show 0 ≤ B + b by omega)
  have h4 := Int.mul_nonneg (show 0 ≤ A + a by omega) (show 0 ≤ B - b by omega)
  simp only [Int.sub_mul, Int.add_mul, Int.mul_sub, Int.mul_add] at h1 h2 h3 h4
  generalize A * B = P at *
  generalize A * b = Q at *
  generalize a * B = R at *
  generalize a * b = S at *
  omega
theorem own_bd {S A B : Int} {s a b : Int64} (K : Int) (hs : Bd S s) (ha : Bd A a) (hb : Bd B b) (hK : S + A * B ≤ K) (hbig : K < 4611686018427387904) : Bd K (s + a * b) := by
  obtain ⟨m1, m2⟩ := own_mulb ha.1 ha.2 hb.1 hb.2
  have h1 := c_lmul a b
  have h2 := rng64 (a * b)
  have h3 := c_ladd s (a * b)
  have h4 := rng64 (s + a * b)
  obtain ⟨s1, s2⟩ := hs
  generalize a.toInt * b.toInt = P at *
  generalize A * B = Q at *
  have h5 : (a * b).toInt = P := by omega
  unfold Bd
  omega
theorem own_fma {S A B : Int} {s a b : Int64} (hs : Bd S s) (ha : Bd A a) (hb : Bd B b) (hS : S < 9007199254740992) (hA : A < 9007199254740992) (hB : B < 9007199254740992) (hAB : A * B < 9007199254740992) : FP.dadd (FP.l2d s) (FP.dmul (FP.l2d a) (FP.l2d b)) = FP.l2d (s + a * b) := by
  obtain ⟨m1, m2⟩ := own_mulb ha.1 ha.2 hb.1 hb.2
  have Bs : B53 s := ⟨by have := hs.1; omega, by have := hs.2; omega⟩
  have Ba : B53 a := ⟨by have := ha.1; omega, by have := ha.2; omega⟩
  have Bb : B53 b := ⟨by have := hb.1; omega, by have := hb.2; omega⟩
  have h1 := c_lmul a b
  have h2 := rng64 (a * b)
  have h5 : (a * b).toInt = a.toInt * b.toInt := by
    generalize a.toInt * b.toInt = P at *
    generalize A * B = Q at *
    omega
  have Bab : B53 (a * b) := by
    unfold B53
    rw [h5]
    generalize a.toInt * b.toInt = P at *
    generalize A * B = Q at *
    omega
  by_cases hz : a = 0 ∨ b = 0
  · have e : a * b = 0 := by rcases hz with rfl | rfl <;> simp
    rw [dmul_z Ba Bb hz, e]
    split
    · have q := Core.dadd_zeroNeg (a := FP.l2d s) (fin64_core.mp (l2d_fin s)).ne_nan
      rw [Int64.add_zero]
      exact q
    · exact dadd_w Bs ⟨by decide, by decide⟩
  · have hz' : ¬ a = 0 ∧ ¬ b = 0 := ⟨fun q => hz (Or.inl q), fun q => hz (Or.inr q)⟩
    rw [dmul_w Ba Bb hz'.1 hz'.2 (by rw [← h5]; exact h2.1) (by rw [← h5]; exact h2.2)]
    exact dadd_w Bs Bab
theorem own_nnm (a b : Int64) : NoNaN64 (FP.dmul (FP.l2d a) (FP.l2d b)) := ((dmul_mag (l2d_mag a) (l2d_mag b) (by decide) (by decide)).fin (by decide)).noNaN
theorem own_b0 : Bd 0 (0 : Int64) := ⟨by decide, by decide⟩
def own_t1 (a b : Int64) : Int64 := 0 + a * b
def own_t2 (a b a' b' : Int64) : Int64 := own_t1 a b + a' * b'
def own_t3 (a b a' b' a'' b'' : Int64) : Int64 := own_t2 a b a' b' + a'' * b''
theorem own_f0 {A B : Int} {a b : Int64} (ha : Bd A a) (hb : Bd B b) (hA : A < 9007199254740992) (hB : B < 9007199254740992) (hAB : A * B < 9007199254740992) : FP.dadd 0 (FP.dmul (FP.l2d a) (FP.l2d b)) = FP.l2d (own_t1 a b) := by
  have := own_fma own_b0 ha hb (by decide) hA hB hAB
  rw [l2d_zero] at this
  exact this
def own_en (a0 a1 a2 d0 d1 d2 d3 d4 d5 d6 d7 d8 c0 c1 c2 : Int64) : Int64 := ((((a0 * d0) + (a1 * d3)) + (a2 * d6)) * c0 + (((a0 * d1) + (a1 * d4)) + (a2 * d7)) * c1) + (((a0 * d2) + (a1 * d5)) + (a2 * d8)) * c2
theorem own_bil (a0 a1 a2 d0 d1 d2 d3 d4 d5 d6 d7 d8 c0 c1 c2 : Int64) : own_t3 a0 (own_t3 d0 c0 d1 c1 d2 c2) a1 (own_t3 d3 c0 d4 c1 d5 c2) a2 (own_t3 d6 c0 d7 c1 d8 c2) = own_en a0 a1 a2 d0 d1 d2 d3 d4 d5 d6 d7 d8 c0 c1 c2 := by
  simp only [own_t3, own_t2, own_t1, own_en, Int64.zero_add, Int64.mul_add, Int64.add_mul, Int64.mul_assoc]
  ac_rfl
theorem own_i2l (x : Int32) : Bd 2147483648 x.toInt64 := by
  have := rng32 x
  unfold Bd
  rw [c_i2l]
  omega
theorem own_fld (x : Int64) : Bd 512 ((x &&& (1023 : Int64)) - (512 : Int64)) := by
  have h1 := c_maskL x 1023 10 (by decide) (by decide)
  have h2 := c_lsub (x &&& 1023) 512
  have h3 := rng64 ((x &&& 1023) - 512)
  unfold Bd
  simp only [Int64.reduceToInt] at *
  omega
theorem pn_0 : plainName "com/example/strutwork/strutwork/AreaElementAddStiffnessPinLaw" = true := by first | (simp [plainName, overriddenIn]; done) | decide +kernel
theorem ef_rfld (m : MethodId) (x : Int64) (k : Int32) : entryFrame m #[(.long x), (.int k)] 3 = mkF m 0 #[.val (.long x), .second, .val (.int k)] [] := by first | (simp [entryFrame, mkF, argsToLocals, Value.category]; done) | rfl
theorem d1_0 : Dc method_2_code 0 (.lload_n 0) 1 1 := ⟨by decide +kernel, rfl⟩
theorem d1_1 : Dc method_2_code 1 (.bipush 10) 2 3 := ⟨by decide +kernel, rfl⟩
theorem d1_3 : Dc method_2_code 3 (.iload_n 2) 1 4 := ⟨by decide +kernel, rfl⟩
theorem d1_4 : Dc method_2_code 4 (.imul) 1 5 := ⟨by decide +kernel, rfl⟩
theorem d1_5 : Dc method_2_code 5 (.lushr) 1 6 := ⟨by decide +kernel, rfl⟩
theorem d1_6 : Dc method_2_code 6 (.ldc2_w 7) 3 9 := ⟨by decide +kernel, rfl⟩
theorem d1_9 : Dc method_2_code 9 (.land) 1 10 := ⟨by decide +kernel, rfl⟩
theorem d1_10 : Dc method_2_code 10 (.ldc2_w 9) 3 13 := ⟨by decide +kernel, rfl⟩
theorem d1_13 : Dc method_2_code 13 (.lsub) 1 14 := ⟨by decide +kernel, rfl⟩
theorem d1_14 : Dc method_2_code 14 (.lreturn) 1 15 := ⟨by decide +kernel, rfl⟩
theorem rfld (l : Launch) {Z : State} {a0 : Array Value} (hw : ∀ d ∈ tables_1, d.before a0 Z = true) {h : Heap} (hE : Ext Z.heap h) (x : Int64) (k : Int32)   :
    Con l (⟨"com/example/strutwork/strutwork/AreaElementAddStiffnessPinLaw", "field", "(JI)J"⟩ : MethodName) method_2_code 3 (some .long) [] ({ frames := 0, cells := 0, slots := 0, locals := 0 } : Room) Z #[(.long x), (.int k)] h (fun v' h' => ∃ y : Int64, v' = some (.long y) ∧ Bd 512 y ∧ h' = h) := by
  refine con_of (plainFor_of_name pn_0) hE (fun m => ef_rfld m x k) ?_
  intro p e s m below meth c T0 C X0
  have C : Cx p s m meth c Z "com/example/strutwork/strutwork/AreaElementAddStiffnessPinLaw" "field" method_2_code 3 (some .long) := C
  show Goes p e below _ T0 (mkF m 0 #[.val (.long x), .second, .val (.int k)] [])
  refine g_lloadN C X0 d1_0 rfl (g_bipush 10 C X0 d1_1 rfl (g_iloadN C X0 d1_3 rfl (g_imul C X0 d1_4 (g_lushr C X0 d1_5 (g_ldcJ C X0 (wd hw 5 rfl) d1_6 (g_land C X0 d1_9 (g_ldcJ C X0 (wd hw 6 rfl) d1_10 (g_lsub C X0 d1_13 ?_))))))))
  exact g_retJ C X0 d1_14 (by decide) (by decide) ⟨_, rfl, own_fld _, rfl⟩
theorem pn_1 : plainName "com/example/strutwork/strutwork/AreaElement" = true := by first | (simp [plainName, overriddenIn]; done) | decide +kernel
theorem ef_rmul (m : MethodId) (el : Addr) (sr : Addr) : entryFrame m #[(.ref el), (.ref sr), (.int 2)] 10 = mkF m 0 #[.val (.ref el), .val (.ref sr), .val (.int 2), .unset, .unset, .unset, .unset, .unset, .unset, .unset] [] := by first | (simp [entryFrame, mkF, argsToLocals, Value.category]; done) | rfl
theorem d3_0 : Dc prog_2_method_12_code 0 (.aload_n 0) 1 1 := ⟨by decide +kernel, rfl⟩
theorem d3_1 : Dc prog_2_method_12_code 1 (.arraylength) 1 2 := ⟨by decide +kernel, rfl⟩
theorem d3_2 : Dc prog_2_method_12_code 2 (.iconst 3) 1 3 := ⟨by decide +kernel, rfl⟩
theorem d3_3 : Dc prog_2_method_12_code 3 (.idiv) 1 4 := ⟨by decide +kernel, rfl⟩
theorem d3_4 : Dc prog_2_method_12_code 4 (.istore_n 3) 1 5 := ⟨by decide +kernel, rfl⟩
theorem d3_5 : Dc prog_2_method_12_code 5 (.iconst 3) 1 6 := ⟨by decide +kernel, rfl⟩
theorem d3_6 : Dc prog_2_method_12_code 6 (.iload_n 2) 1 7 := ⟨by decide +kernel, rfl⟩
theorem d3_7 : Dc prog_2_method_12_code 7 (.imul) 1 8 := ⟨by decide +kernel, rfl⟩
theorem d3_8 : Dc prog_2_method_12_code 8 (.newarray .double) 2 10 := ⟨by decide +kernel, rfl⟩
theorem d3_10 : Dc prog_2_method_12_code 10 (.astore 4) 2 12 := ⟨by decide +kernel, rfl⟩
theorem d3_12 : Dc prog_2_method_12_code 12 (.iconst 0) 1 13 := ⟨by decide +kernel, rfl⟩
theorem d3_13 : Dc prog_2_method_12_code 13 (.istore 5) 2 15 := ⟨by decide +kernel, rfl⟩
theorem d3_15 : Dc prog_2_method_12_code 15 (.iload 5) 2 17 := ⟨by decide +kernel, rfl⟩
theorem d3_17 : Dc prog_2_method_12_code 17 (.iconst 3) 1 18 := ⟨by decide +kernel, rfl⟩
theorem d3_18 : Dj prog_2_method_12_code 18 (.if_icmp .ge 78) 78 3 21 96 := ⟨by decide +kernel, rfl, by decide, by decide⟩
theorem d3_21 : Dc prog_2_method_12_code 21 (.iconst 0) 1 22 := ⟨by decide +kernel, rfl⟩
theorem d3_22 : Dc prog_2_method_12_code 22 (.istore 6) 2 24 := ⟨by decide +kernel, rfl⟩
theorem d3_24 : Dc prog_2_method_12_code 24 (.iload 6) 2 26 := ⟨by decide +kernel, rfl⟩
theorem d3_26 : Dc prog_2_method_12_code 26 (.iload_n 2) 1 27 := ⟨by decide +kernel, rfl⟩
theorem d3_27 : Dj prog_2_method_12_code 27 (.if_icmp .ge 63) 63 3 30 90 := ⟨by decide +kernel, rfl, by decide, by decide⟩
theorem d3_30 : Dc prog_2_method_12_code 30 (.dconst 0) 1 31 := ⟨by decide +kernel, rfl⟩
theorem d3_31 : Dc prog_2_method_12_code 31 (.dstore 7) 2 33 := ⟨by decide +kernel, rfl⟩
theorem d3_33 : Dc prog_2_method_12_code 33 (.iconst 0) 1 34 := ⟨by decide +kernel, rfl⟩
theorem d3_34 : Dc prog_2_method_12_code 34 (.istore 9) 2 36 := ⟨by decide +kernel, rfl⟩
theorem d3_36 : Dc prog_2_method_12_code 36 (.iload 9) 2 38 := ⟨by decide +kernel, rfl⟩
theorem d3_38 : Dc prog_2_method_12_code 38 (.iload_n 3) 1 39 := ⟨by decide +kernel, rfl⟩
theorem d3_39 : Dj prog_2_method_12_code 39 (.if_icmp .ge 33) 33 3 42 72 := ⟨by decide +kernel, rfl, by decide, by decide⟩
theorem d3_42 : Dc prog_2_method_12_code 42 (.dload 7) 2 44 := ⟨by decide +kernel, rfl⟩
theorem d3_44 : Dc prog_2_method_12_code 44 (.aload_n 0) 1 45 := ⟨by decide +kernel, rfl⟩
theorem d3_45 : Dc prog_2_method_12_code 45 (.iload 5) 2 47 := ⟨by decide +kernel, rfl⟩
theorem d3_47 : Dc prog_2_method_12_code 47 (.iload_n 3) 1 48 := ⟨by decide +kernel, rfl⟩
theorem d3_48 : Dc prog_2_method_12_code 48 (.imul) 1 49 := ⟨by decide +kernel, rfl⟩
theorem d3_49 : Dc prog_2_method_12_code 49 (.iload 9) 2 51 := ⟨by decide +kernel, rfl⟩
theorem d3_51 : Dc prog_2_method_12_code 51 (.iadd) 1 52 := ⟨by decide +kernel, rfl⟩
theorem d3_52 : Dc prog_2_method_12_code 52 (.daload) 1 53 := ⟨by decide +kernel, rfl⟩
theorem d3_53 : Dc prog_2_method_12_code 53 (.aload_n 1) 1 54 := ⟨by decide +kernel, rfl⟩
theorem d3_54 : Dc prog_2_method_12_code 54 (.iload 9) 2 56 := ⟨by decide +kernel, rfl⟩
theorem d3_56 : Dc prog_2_method_12_code 56 (.iload_n 2) 1 57 := ⟨by decide +kernel, rfl⟩
theorem d3_57 : Dc prog_2_method_12_code 57 (.imul) 1 58 := ⟨by decide +kernel, rfl⟩
theorem d3_58 : Dc prog_2_method_12_code 58 (.iload 6) 2 60 := ⟨by decide +kernel, rfl⟩
theorem d3_60 : Dc prog_2_method_12_code 60 (.iadd) 1 61 := ⟨by decide +kernel, rfl⟩
theorem d3_61 : Dc prog_2_method_12_code 61 (.daload) 1 62 := ⟨by decide +kernel, rfl⟩
theorem d3_62 : Dc prog_2_method_12_code 62 (.dmul) 1 63 := ⟨by decide +kernel, rfl⟩
theorem d3_63 : Dc prog_2_method_12_code 63 (.dadd) 1 64 := ⟨by decide +kernel, rfl⟩
theorem d3_64 : Dc prog_2_method_12_code 64 (.dstore 7) 2 66 := ⟨by decide +kernel, rfl⟩
theorem d3_66 : Dc prog_2_method_12_code 66 (.iinc 9 1) 3 69 := ⟨by decide +kernel, rfl⟩
theorem d3_69 : Dj prog_2_method_12_code 69 (.goto (-33)) (-33) 3 72 36 := ⟨by decide +kernel, rfl, by decide, by decide⟩
theorem d3_72 : Dc prog_2_method_12_code 72 (.aload 4) 2 74 := ⟨by decide +kernel, rfl⟩
theorem d3_74 : Dc prog_2_method_12_code 74 (.iload 5) 2 76 := ⟨by decide +kernel, rfl⟩
theorem d3_76 : Dc prog_2_method_12_code 76 (.iload_n 2) 1 77 := ⟨by decide +kernel, rfl⟩
theorem d3_77 : Dc prog_2_method_12_code 77 (.imul) 1 78 := ⟨by decide +kernel, rfl⟩
theorem d3_78 : Dc prog_2_method_12_code 78 (.iload 6) 2 80 := ⟨by decide +kernel, rfl⟩
theorem d3_80 : Dc prog_2_method_12_code 80 (.iadd) 1 81 := ⟨by decide +kernel, rfl⟩
theorem d3_81 : Dc prog_2_method_12_code 81 (.dload 7) 2 83 := ⟨by decide +kernel, rfl⟩
theorem d3_83 : Dc prog_2_method_12_code 83 (.dastore) 1 84 := ⟨by decide +kernel, rfl⟩
theorem d3_84 : Dc prog_2_method_12_code 84 (.iinc 6 1) 3 87 := ⟨by decide +kernel, rfl⟩
theorem d3_87 : Dj prog_2_method_12_code 87 (.goto (-63)) (-63) 3 90 24 := ⟨by decide +kernel, rfl, by decide, by decide⟩
theorem d3_90 : Dc prog_2_method_12_code 90 (.iinc 5 1) 3 93 := ⟨by decide +kernel, rfl⟩
theorem d3_93 : Dj prog_2_method_12_code 93 (.goto (-78)) (-78) 3 96 15 := ⟨by decide +kernel, rfl, by decide, by decide⟩
theorem d3_96 : Dc prog_2_method_12_code 96 (.aload 4) 2 98 := ⟨by decide +kernel, rfl⟩
theorem d3_98 : Dc prog_2_method_12_code 98 (.areturn) 1 99 := ⟨by decide +kernel, rfl⟩
theorem rmul (l : Launch) {Z : State} {a0 : Array Value} (hw : ∀ d ∈ tables_1, d.before a0 Z = true) {h : Heap} (hE : Ext Z.heap h) (el : Addr) (sr : Addr) (ke ks : ClassId) (d0 d1 d2 d3 d4 d5 d6 d7 d8 y0 y1 y2 y3 y4 y5 : Int64) (hE_ : Arv Z h el ke .double 9 [(.double (FP.l2d d0)), (.double (FP.l2d d1)), (.double (FP.l2d d2)), (.double (FP.l2d d3)), (.double (FP.l2d d4)), (.double (FP.l2d d5)), (.double (FP.l2d d6)), (.double (FP.l2d d7)), (.double (FP.l2d d8))] (.double 0)) (hS : Arv Z h sr ks .double 6 [(.double (FP.l2d y0)), (.double (FP.l2d y1)), (.double (FP.l2d y2)), (.double (FP.l2d y3)), (.double (FP.l2d y4)), (.double (FP.l2d y5))] (.double 0)) (bd_d0 : Bd 512 d0) (bd_d1 : Bd 512 d1) (bd_d2 : Bd 512 d2) (bd_d3 : Bd 512 d3) (bd_d4 : Bd 512 d4) (bd_d5 : Bd 512 d5) (bd_d6 : Bd 512 d6) (bd_d7 : Bd 512 d7) (bd_d8 : Bd 512 d8) (bd_y0 : Bd 512 y0) (bd_y1 : Bd 512 y1) (bd_y2 : Bd 512 y2) (bd_y3 : Bd 512 y3) (bd_y4 : Bd 512 y4) (bd_y5 : Bd 512 y5) :
    Con l (⟨"com/example/strutwork/strutwork/AreaElement", "multiply", "([D[DI)[D"⟩ : MethodName) prog_2_method_12_code 10 (some (.array .double)) [] ({ frames := 0, cells := 1, slots := 6, locals := 0 } : Room) Z #[(.ref el), (.ref sr), (.int 2)] h (fun v' h' => ∃ b kb, v' = some (.ref b) ∧ Z.heap.size ≤ b ∧ h.size ≤ b ∧ Ext h h' ∧ Arv Z h' b kb .double 6 [(.double (FP.l2d (own_t3 d0 y0 d1 y2 d2 y4))), (.double (FP.l2d (own_t3 d0 y1 d1 y3 d2 y5))), (.double (FP.l2d (own_t3 d3 y0 d4 y2 d5 y4))), (.double (FP.l2d (own_t3 d3 y1 d4 y3 d5 y5))), (.double (FP.l2d (own_t3 d6 y0 d7 y2 d8 y4))), (.double (FP.l2d (own_t3 d6 y1 d7 y3 d8 y5)))] (.double 0)) := by
  refine con_of (plainFor_of_name pn_1) hE (fun m => ef_rmul m el sr) ?_
  intro p e s m below meth c T0 C X0
  have C : Cx p s m meth c Z "com/example/strutwork/strutwork/AreaElement" "multiply" prog_2_method_12_code 10 (some (.array .double)) := C
  show Goes p e below _ T0 (mkF m 0 #[.val (.ref el), .val (.ref sr), .val (.int 2), .unset, .unset, .unset, .unset, .unset, .unset, .unset] [])
  refine g_aloadN C X0 d3_0 rfl rfl (g_arraylength C X0 hE_ d3_1 (g_iconst 3 C X0 d3_2 rfl (g_idiv C X0 d3_3 (by decide) (g_istoreN C X0 d3_4 (l' := #[.val (.ref el), .val (.ref sr), .val (.int 2), .val (.int 3), .unset, .unset, .unset, .unset, .unset, .unset]) rfl (g_iconst 3 C X0 d3_5 rfl (g_iloadN C X0 d3_6 rfl (g_imul C X0 d3_7 (g_newarray C X0 (wd hw 7 rfl) d3_8 (by decide) 6 6 (by decide) (by decide) (by decide) (by decide) (fun T1 h1 b1 k_b1 g_b1 n_b1 X1 E1 V1 => ?_)))))))))
  have lt2 : el < b1 := by rw [g_b1]; exact Arv.lt hE_
  have lt3 : sr < b1 := by rw [g_b1]; exact Arv.lt hS
  have V_b1 : Arv Z h1 b1 k_b1 .double (6 : Int32) [(.double 0), (.double 0), (.double 0), (.double 0), (.double 0), (.double 0)] (.double 0) := V1
  refine g_astore C X1 d3_10 rfl (l' := #[.val (.ref el), .val (.ref sr), .val (.int 2), .val (.int 3), .val (.ref b1), .unset, .unset, .unset, .unset, .unset]) rfl (g_iconst 0 C X1 d3_12 rfl (g_istore C X1 d3_13 (l' := #[.val (.ref el), .val (.ref sr), .val (.int 2), .val (.int 3), .val (.ref b1), .val (.int 0), .unset, .unset, .unset, .unset]) rfl (g_iload C X1 d3_15 rfl (g_iconst 3 C X1 d3_17 rfl (g_icmpn (hI_ge _ _) C X1 d3_18 (fun q => absurd (by decide) q) (fun _ => ?_))))))
  refine g_iconst 0 C X1 d3_21 rfl (g_istore C X1 d3_22 (l' := #[.val (.ref el), .val (.ref sr), .val (.int 2), .val (.int 3), .val (.ref b1), .val (.int 0), .val (.int 0), .unset, .unset, .unset]) rfl (g_iload C X1 d3_24 rfl (g_iloadN C X1 d3_26 rfl (g_icmpn (hI_ge _ _) C X1 d3_27 (fun q => absurd (by decide) q) (fun _ => ?_)))))
  refine g_dconst0 C X1 d3_30 (g_dstore C X1 d3_31 (l' := #[.val (.ref el), .val (.ref sr), .val (.int 2), .val (.int 3), .val (.ref b1), .val (.int 0), .val (.int 0), .val (.double 0), .second, .unset]) rfl (g_iconst 0 C X1 d3_33 rfl (g_istore C X1 d3_34 (l' := #[.val (.ref el), .val (.ref sr), .val (.int 2), .val (.int 3), .val (.ref b1), .val (.int 0), .val (.int 0), .val (.double 0), .second, .val (.int 0)]) rfl (g_iload C X1 d3_36 rfl (g_iloadN C X1 d3_38 rfl (g_icmpn (hI_ge _ _) C X1 d3_39 (fun q => absurd (by decide) q) (fun _ => ?_)))))))
  refine g_dload C X1 d3_42 rfl (g_aloadN C X1 d3_44 rfl rfl (g_iload C X1 d3_45 rfl (g_iloadN C X1 d3_47 rfl (g_imul C X1 d3_48 (g_iload C X1 d3_49 rfl (g_iadd C X1 d3_51 ?_))))))
  have f4 := (Arv.ext hE_ E1)
  refine g_daload C X1 f4 d3_52 (by decide) (by decide) rfl (g_aloadN C X1 d3_53 rfl rfl (g_iload C X1 d3_54 rfl (g_iloadN C X1 d3_56 rfl (g_imul C X1 d3_57 (g_iload C X1 d3_58 rfl (g_iadd C X1 d3_60 ?_))))))
  have f5 := (Arv.ext hS E1)
  refine g_daload C X1 f5 d3_61 (by decide) (by decide) rfl (g_dmul (FP.dmul (FP.l2d d0) (FP.l2d y0)) C X1 d3_62 (own_nnm _ _) rfl ?_)
  have bd6 : Bd 262144 (own_t1 d0 y0) := own_bd 262144 own_b0 bd_d0 bd_y0 (by decide) (by decide)
  have F6 : _ = FP.l2d (own_t1 d0 y0) := (own_f0 bd_d0 bd_y0 (by decide) (by decide) (by decide))
  refine g_dadd (FP.l2d (own_t1 d0 y0)) C X1 d3_63 (nn_w F6) F6 (g_dstore C X1 d3_64 (l' := #[.val (.ref el), .val (.ref sr), .val (.int 2), .val (.int 3), .val (.ref b1), .val (.int 0), .val (.int 0), .val (.double (FP.l2d (own_t1 d0 y0))), .second, .val (.int 0)]) rfl (g_iinc 1 C X1 d3_66 rfl rfl (l' := #[.val (.ref el), .val (.ref sr), .val (.int 2), .val (.int 3), .val (.ref b1), .val (.int 0), .val (.int 0), .val (.double (FP.l2d (own_t1 d0 y0))), .second, .val (.int 1)]) rfl (g_goto C X1 d3_69 (g_iload C X1 d3_36 rfl (g_iloadN C X1 d3_38 rfl (g_icmpn (hI_ge _ _) C X1 d3_39 (fun q => absurd (by decide) q) (fun _ => ?_)))))))
  refine g_dload C X1 d3_42 rfl (g_aloadN C X1 d3_44 rfl rfl (g_iload C X1 d3_45 rfl (g_iloadN C X1 d3_47 rfl (g_imul C X1 d3_48 (g_iload C X1 d3_49 rfl (g_iadd C X1 d3_51 (g_daload C X1 f4 d3_52 (by decide) (by decide) rfl (g_aloadN C X1 d3_53 rfl rfl (g_iload C X1 d3_54 rfl (g_iloadN C X1 d3_56 rfl (g_imul C X1 d3_57 ?_)))))))))))
  refine g_iload C X1 d3_58 rfl (g_iadd C X1 d3_60 (g_daload C X1 f5 d3_61 (by decide) (by decide) rfl (g_dmul (FP.dmul (FP.l2d d1) (FP.l2d y2)) C X1 d3_62 (own_nnm _ _) rfl ?_)))
  have bd7 : Bd 524288 (own_t2 d0 y0 d1 y2) := own_bd 524288 bd6 bd_d1 bd_y2 (by decide) (by decide)
  have F7 : _ = FP.l2d (own_t2 d0 y0 d1 y2) := (own_fma bd6 bd_d1 bd_y2 (by decide) (by decide) (by decide) (by decide))
  refine g_dadd (FP.l2d (own_t2 d0 y0 d1 y2)) C X1 d3_63 (nn_w F7) F7 (g_dstore C X1 d3_64 (l' := #[.val (.ref el), .val (.ref sr), .val (.int 2), .val (.int 3), .val (.ref b1), .val (.int 0), .val (.int 0), .val (.double (FP.l2d (own_t2 d0 y0 d1 y2))), .second, .val (.int 1)]) rfl (g_iinc 1 C X1 d3_66 rfl rfl (l' := #[.val (.ref el), .val (.ref sr), .val (.int 2), .val (.int 3), .val (.ref b1), .val (.int 0), .val (.int 0), .val (.double (FP.l2d (own_t2 d0 y0 d1 y2))), .second, .val (.int 2)]) rfl (g_goto C X1 d3_69 (g_iload C X1 d3_36 rfl (g_iloadN C X1 d3_38 rfl (g_icmpn (hI_ge _ _) C X1 d3_39 (fun q => absurd (by decide) q) (fun _ => ?_)))))))
  refine g_dload C X1 d3_42 rfl (g_aloadN C X1 d3_44 rfl rfl (g_iload C X1 d3_45 rfl (g_iloadN C X1 d3_47 rfl (g_imul C X1 d3_48 (g_iload C X1 d3_49 rfl (g_iadd C X1 d3_51 (g_daload C X1 f4 d3_52 (by decide) (by decide) rfl (g_aloadN C X1 d3_53 rfl rfl (g_iload C X1 d3_54 rfl (g_iloadN C X1 d3_56 rfl (g_imul C X1 d3_57 ?_)))))))))))
  refine g_iload C X1 d3_58 rfl (g_iadd C X1 d3_60 (g_daload C X1 f5 d3_61 (by decide) (by decide) rfl (g_dmul (FP.dmul (FP.l2d d2) (FP.l2d y4)) C X1 d3_62 (own_nnm _ _) rfl ?_)))
  have bd8 : Bd 786432 (own_t3 d0 y0 d1 y2 d2 y4) := own_bd 786432 bd7 bd_d2 bd_y4 (by decide) (by decide)
  have F8 : _ = FP.l2d (own_t3 d0 y0 d1 y2 d2 y4) := (own_fma bd7 bd_d2 bd_y4 (by decide) (by decide) (by decide) (by decide))
  refine g_dadd (FP.l2d (own_t3 d0 y0 d1 y2 d2 y4)) C X1 d3_63 (nn_w F8) F8 (g_dstore C X1 d3_64 (l' := #[.val (.ref el), .val (.ref sr), .val (.int 2), .val (.int 3), .val (.ref b1), .val (.int 0), .val (.int 0), .val (.double (FP.l2d (own_t3 d0 y0 d1 y2 d2 y4))), .second, .val (.int 2)]) rfl (g_iinc 1 C X1 d3_66 rfl rfl (l' := #[.val (.ref el), .val (.ref sr), .val (.int 2), .val (.int 3), .val (.ref b1), .val (.int 0), .val (.int 0), .val (.double (FP.l2d (own_t3 d0 y0 d1 y2 d2 y4))), .second, .val (.int 3)]) rfl (g_goto C X1 d3_69 (g_iload C X1 d3_36 rfl (g_iloadN C X1 d3_38 rfl (g_icmpn (hI_ge _ _) C X1 d3_39 (fun _ => ?_) (fun q => absurd q (by decide))))))))
  refine g_aload C X1 d3_72 rfl rfl (g_iload C X1 d3_74 rfl (g_iloadN C X1 d3_76 rfl (g_imul C X1 d3_77 (g_iload C X1 d3_78 rfl (g_iadd C X1 d3_80 (g_dload C X1 d3_81 rfl (g_dastore C X1 V_b1 n_b1 d3_83 (by decide) (by decide) (Nat.le_of_ble_eq_true rfl) (.double (FP.l2d (own_t3 d0 y0 d1 y2 d2 y4))) rfl (fun T9 h9 X9 W9 V9 => ?_))))))))
  have V9_b1 : Arv Z h9 b1 k_b1 .double (6 : Int32) [(.double (FP.l2d (own_t3 d0 y0 d1 y2 d2 y4))), (.double 0), (.double 0), (.double 0), (.double 0), (.double 0)] (.double 0) := V9
  refine g_iinc 1 C X9 d3_84 rfl rfl (l' := #[.val (.ref el), .val (.ref sr), .val (.int 2), .val (.int 3), .val (.ref b1), .val (.int 0), .val (.int 1), .val (.double (FP.l2d (own_t3 d0 y0 d1 y2 d2 y4))), .second, .val (.int 3)]) rfl (g_goto C X9 d3_87 (g_iload C X9 d3_24 rfl (g_iloadN C X9 d3_26 rfl (g_icmpn (hI_ge _ _) C X9 d3_27 (fun q => absurd (by decide) q) (fun _ => ?_)))))
  refine g_dconst0 C X9 d3_30 (g_dstore C X9 d3_31 (l' := #[.val (.ref el), .val (.ref sr), .val (.int 2), .val (.int 3), .val (.ref b1), .val (.int 0), .val (.int 1), .val (.double 0), .second, .val (.int 3)]) rfl (g_iconst 0 C X9 d3_33 rfl (g_istore C X9 d3_34 (l' := #[.val (.ref el), .val (.ref sr), .val (.int 2), .val (.int 3), .val (.ref b1), .val (.int 0), .val (.int 1), .val (.double 0), .second, .val (.int 0)]) rfl (g_iload C X9 d3_36 rfl (g_iloadN C X9 d3_38 rfl (g_icmpn (hI_ge _ _) C X9 d3_39 (fun q => absurd (by decide) q) (fun _ => ?_)))))))
  refine g_dload C X9 d3_42 rfl (g_aloadN C X9 d3_44 rfl rfl (g_iload C X9 d3_45 rfl (g_iloadN C X9 d3_47 rfl (g_imul C X9 d3_48 (g_iload C X9 d3_49 rfl (g_iadd C X9 d3_51 ?_))))))
  have f10 := (Arv.other f4 W9 (Nat.ne_of_lt lt2))
  refine g_daload C X9 f10 d3_52 (by decide) (by decide) rfl (g_aloadN C X9 d3_53 rfl rfl (g_iload C X9 d3_54 rfl (g_iloadN C X9 d3_56 rfl (g_imul C X9 d3_57 (g_iload C X9 d3_58 rfl (g_iadd C X9 d3_60 ?_))))))
  have f11 := (Arv.other f5 W9 (Nat.ne_of_lt lt3))
  refine g_daload C X9 f11 d3_61 (by decide) (by decide) rfl (g_dmul (FP.dmul (FP.l2d d0) (FP.l2d y1)) C X9 d3_62 (own_nnm _ _) rfl ?_)
  have bd12 : Bd 262144 (own_t1 d0 y1) := own_bd 262144 own_b0 bd_d0 bd_y1 (by decide) (by decide)
  have F12 : _ = FP.l2d (own_t1 d0 y1) := (own_f0 bd_d0 bd_y1 (by decide) (by decide) (by decide))
  refine g_dadd (FP.l2d (own_t1 d0 y1)) C X9 d3_63 (nn_w F12) F12 (g_dstore C X9 d3_64 (l' := #[.val (.ref el), .val (.ref sr), .val (.int 2), .val (.int 3), .val (.ref b1), .val (.int 0), .val (.int 1), .val (.double (FP.l2d (own_t1 d0 y1))), .second, .val (.int 0)]) rfl (g_iinc 1 C X9 d3_66 rfl rfl (l' := #[.val (.ref el), .val (.ref sr), .val (.int 2), .val (.int 3), .val (.ref b1), .val (.int 0), .val (.int 1), .val (.double (FP.l2d (own_t1 d0 y1))), .second, .val (.int 1)]) rfl (g_goto C X9 d3_69 (g_iload C X9 d3_36 rfl (g_iloadN C X9 d3_38 rfl (g_icmpn (hI_ge _ _) C X9 d3_39 (fun q => absurd (by decide) q) (fun _ => ?_)))))))
  refine g_dload C X9 d3_42 rfl (g_aloadN C X9 d3_44 rfl rfl (g_iload C X9 d3_45 rfl (g_iloadN C X9 d3_47 rfl (g_imul C X9 d3_48 (g_iload C X9 d3_49 rfl (g_iadd C X9 d3_51 (g_daload C X9 f10 d3_52 (by decide) (by decide) rfl (g_aloadN C X9 d3_53 rfl rfl (g_iload C X9 d3_54 rfl (g_iloadN C X9 d3_56 rfl (g_imul C X9 d3_57 ?_)))))))))))
  refine g_iload C X9 d3_58 rfl (g_iadd C X9 d3_60 (g_daload C X9 f11 d3_61 (by decide) (by decide) rfl (g_dmul (FP.dmul (FP.l2d d1) (FP.l2d y3)) C X9 d3_62 (own_nnm _ _) rfl ?_)))
  have bd13 : Bd 524288 (own_t2 d0 y1 d1 y3) := own_bd 524288 bd12 bd_d1 bd_y3 (by decide) (by decide)
  have F13 : _ = FP.l2d (own_t2 d0 y1 d1 y3) := (own_fma bd12 bd_d1 bd_y3 (by decide) (by decide) (by decide) (by decide))
  refine g_dadd (FP.l2d (own_t2 d0 y1 d1 y3)) C X9 d3_63 (nn_w F13) F13 (g_dstore C X9 d3_64 (l' := #[.val (.ref el), .val (.ref sr), .val (.int 2), .val (.int 3), .val (.ref b1), .val (.int 0), .val (.int 1), .val (.double (FP.l2d (own_t2 d0 y1 d1 y3))), .second, .val (.int 1)]) rfl (g_iinc 1 C X9 d3_66 rfl rfl (l' := #[.val (.ref el), .val (.ref sr), .val (.int 2), .val (.int 3), .val (.ref b1), .val (.int 0), .val (.int 1), .val (.double (FP.l2d (own_t2 d0 y1 d1 y3))), .second, .val (.int 2)]) rfl (g_goto C X9 d3_69 (g_iload C X9 d3_36 rfl (g_iloadN C X9 d3_38 rfl (g_icmpn (hI_ge _ _) C X9 d3_39 (fun q => absurd (by decide) q) (fun _ => ?_)))))))
  refine g_dload C X9 d3_42 rfl (g_aloadN C X9 d3_44 rfl rfl (g_iload C X9 d3_45 rfl (g_iloadN C X9 d3_47 rfl (g_imul C X9 d3_48 (g_iload C X9 d3_49 rfl (g_iadd C X9 d3_51 (g_daload C X9 f10 d3_52 (by decide) (by decide) rfl (g_aloadN C X9 d3_53 rfl rfl (g_iload C X9 d3_54 rfl (g_iloadN C X9 d3_56 rfl (g_imul C X9 d3_57 ?_)))))))))))
  refine g_iload C X9 d3_58 rfl (g_iadd C X9 d3_60 (g_daload C X9 f11 d3_61 (by decide) (by decide) rfl (g_dmul (FP.dmul (FP.l2d d2) (FP.l2d y5)) C X9 d3_62 (own_nnm _ _) rfl ?_)))
  have bd14 : Bd 786432 (own_t3 d0 y1 d1 y3 d2 y5) := own_bd 786432 bd13 bd_d2 bd_y5 (by decide) (by decide)
  have F14 : _ = FP.l2d (own_t3 d0 y1 d1 y3 d2 y5) := (own_fma bd13 bd_d2 bd_y5 (by decide) (by decide) (by decide) (by decide))
  refine g_dadd (FP.l2d (own_t3 d0 y1 d1 y3 d2 y5)) C X9 d3_63 (nn_w F14) F14 (g_dstore C X9 d3_64 (l' := #[.val (.ref el), .val (.ref sr), .val (.int 2), .val (.int 3), .val (.ref b1), .val (.int 0), .val (.int 1), .val (.double (FP.l2d (own_t3 d0 y1 d1 y3 d2 y5))), .second, .val (.int 2)]) rfl (g_iinc 1 C X9 d3_66 rfl rfl (l' := #[.val (.ref el), .val (.ref sr), .val (.int 2), .val (.int 3), .val (.ref b1), .val (.int 0), .val (.int 1), .val (.double (FP.l2d (own_t3 d0 y1 d1 y3 d2 y5))), .second, .val (.int 3)]) rfl (g_goto C X9 d3_69 (g_iload C X9 d3_36 rfl (g_iloadN C X9 d3_38 rfl (g_icmpn (hI_ge _ _) C X9 d3_39 (fun _ => ?_) (fun q => absurd q (by decide))))))))
  refine g_aload C X9 d3_72 rfl rfl (g_iload C X9 d3_74 rfl (g_iloadN C X9 d3_76 rfl (g_imul C X9 d3_77 (g_iload C X9 d3_78 rfl (g_iadd C X9 d3_80 (g_dload C X9 d3_81 rfl (g_dastore C X9 V9_b1 n_b1 d3_83 (by decide) (by decide) (Nat.le_of_ble_eq_true rfl) (.double (FP.l2d (own_t3 d0 y1 d1 y3 d2 y5))) rfl (fun T15 h15 X15 W15 V15 => ?_))))))))
  have V15_b1 : Arv Z h15 b1 k_b1 .double (6 : Int32) [(.double (FP.l2d (own_t3 d0 y0 d1 y2 d2 y4))), (.double (FP.l2d (own_t3 d0 y1 d1 y3 d2 y5))), (.double 0), (.double 0), (.double 0), (.double 0)] (.double 0) := V15
  refine g_iinc 1 C X15 d3_84 rfl rfl (l' := #[.val (.ref el), .val (.ref sr), .val (.int 2), .val (.int 3), .val (.ref b1), .val (.int 0), .val (.int 2), .val (.double (FP.l2d (own_t3 d0 y1 d1 y3 d2 y5))), .second, .val (.int 3)]) rfl (g_goto C X15 d3_87 (g_iload C X15 d3_24 rfl (g_iloadN C X15 d3_26 rfl (g_icmpn (hI_ge _ _) C X15 d3_27 (fun _ => ?_) (fun q => absurd q (by decide))))))
  refine g_iinc 1 C X15 d3_90 rfl rfl (l' := #[.val (.ref el), .val (.ref sr), .val (.int 2), .val (.int 3), .val (.ref b1), .val (.int 1), .val (.int 2), .val (.double (FP.l2d (own_t3 d0 y1 d1 y3 d2 y5))), .second, .val (.int 3)]) rfl (g_goto C X15 d3_93 (g_iload C X15 d3_15 rfl (g_iconst 3 C X15 d3_17 rfl (g_icmpn (hI_ge _ _) C X15 d3_18 (fun q => absurd (by decide) q) (fun _ => ?_)))))
  refine g_iconst 0 C X15 d3_21 rfl (g_istore C X15 d3_22 (l' := #[.val (.ref el), .val (.ref sr), .val (.int 2), .val (.int 3), .val (.ref b1), .val (.int 1), .val (.int 0), .val (.double (FP.l2d (own_t3 d0 y1 d1 y3 d2 y5))), .second, .val (.int 3)]) rfl (g_iload C X15 d3_24 rfl (g_iloadN C X15 d3_26 rfl (g_icmpn (hI_ge _ _) C X15 d3_27 (fun q => absurd (by decide) q) (fun _ => ?_)))))
  refine g_dconst0 C X15 d3_30 (g_dstore C X15 d3_31 (l' := #[.val (.ref el), .val (.ref sr), .val (.int 2), .val (.int 3), .val (.ref b1), .val (.int 1), .val (.int 0), .val (.double 0), .second, .val (.int 3)]) rfl (g_iconst 0 C X15 d3_33 rfl (g_istore C X15 d3_34 (l' := #[.val (.ref el), .val (.ref sr), .val (.int 2), .val (.int 3), .val (.ref b1), .val (.int 1), .val (.int 0), .val (.double 0), .second, .val (.int 0)]) rfl (g_iload C X15 d3_36 rfl (g_iloadN C X15 d3_38 rfl (g_icmpn (hI_ge _ _) C X15 d3_39 (fun q => absurd (by decide) q) (fun _ => ?_)))))))
  refine g_dload C X15 d3_42 rfl (g_aloadN C X15 d3_44 rfl rfl (g_iload C X15 d3_45 rfl (g_iloadN C X15 d3_47 rfl (g_imul C X15 d3_48 (g_iload C X15 d3_49 rfl (g_iadd C X15 d3_51 ?_))))))
  have f16 := (Arv.other f10 W15 (Nat.ne_of_lt lt2))
  refine g_daload C X15 f16 d3_52 (by decide) (by decide) rfl (g_aloadN C X15 d3_53 rfl rfl (g_iload C X15 d3_54 rfl (g_iloadN C X15 d3_56 rfl (g_imul C X15 d3_57 (g_iload C X15 d3_58 rfl (g_iadd C X15 d3_60 ?_))))))
  have f17 := (Arv.other f11 W15 (Nat.ne_of_lt lt3))
  refine g_daload C X15 f17 d3_61 (by decide) (by decide) rfl (g_dmul (FP.dmul (FP.l2d d3) (FP.l2d y0)) C X15 d3_62 (own_nnm _ _) rfl ?_)
  have bd18 : Bd 262144 (own_t1 d3 y0) := own_bd 262144 own_b0 bd_d3 bd_y0 (by decide) (by decide)
  have F18 : _ = FP.l2d (own_t1 d3 y0) := (own_f0 bd_d3 bd_y0 (by decide) (by decide) (by decide))
  refine g_dadd (FP.l2d (own_t1 d3 y0)) C X15 d3_63 (nn_w F18) F18 (g_dstore C X15 d3_64 (l' := #[.val (.ref el), .val (.ref sr), .val (.int 2), .val (.int 3), .val (.ref b1), .val (.int 1), .val (.int 0), .val (.double (FP.l2d (own_t1 d3 y0))), .second, .val (.int 0)]) rfl (g_iinc 1 C X15 d3_66 rfl rfl (l' := #[.val (.ref el), .val (.ref sr), .val (.int 2), .val (.int 3), .val (.ref b1), .val (.int 1), .val (.int 0), .val (.double (FP.l2d (own_t1 d3 y0))), .second, .val (.int 1)]) rfl (g_goto C X15 d3_69 (g_iload C X15 d3_36 rfl (g_iloadN C X15 d3_38 rfl (g_icmpn (hI_ge _ _) C X15 d3_39 (fun q => absurd (by decide) q) (fun _ => ?_)))))))
  refine g_dload C X15 d3_42 rfl (g_aloadN C X15 d3_44 rfl rfl (g_iload C X15 d3_45 rfl (g_iloadN C X15 d3_47 rfl (g_imul C X15 d3_48 (g_iload C X15 d3_49 rfl (g_iadd C X15 d3_51 (g_daload C X15 f16 d3_52 (by decide) (by decide) rfl (g_aloadN C X15 d3_53 rfl rfl (g_iload C X15 d3_54 rfl (g_iloadN C X15 d3_56 rfl (g_imul C X15 d3_57 ?_)))))))))))
  refine g_iload C X15 d3_58 rfl (g_iadd C X15 d3_60 (g_daload C X15 f17 d3_61 (by decide) (by decide) rfl (g_dmul (FP.dmul (FP.l2d d4) (FP.l2d y2)) C X15 d3_62 (own_nnm _ _) rfl ?_)))
  have bd19 : Bd 524288 (own_t2 d3 y0 d4 y2) := own_bd 524288 bd18 bd_d4 bd_y2 (by decide) (by decide)
  have F19 : _ = FP.l2d (own_t2 d3 y0 d4 y2) := (own_fma bd18 bd_d4 bd_y2 (by decide) (by decide) (by decide) (by decide))
  refine g_dadd (FP.l2d (own_t2 d3 y0 d4 y2)) C X15 d3_63 (nn_w F19) F19 (g_dstore C X15 d3_64 (l' := #[.val (.ref el), .val (.ref sr), .val (.int 2), .val (.int 3), .val (.ref b1), .val (.int 1), .val (.int 0), .val (.double (FP.l2d (own_t2 d3 y0 d4 y2))), .second, .val (.int 1)]) rfl (g_iinc 1 C X15 d3_66 rfl rfl (l' := #[.val (.ref el), .val (.ref sr), .val (.int 2), .val (.int 3), .val (.ref b1), .val (.int 1), .val (.int 0), .val (.double (FP.l2d (own_t2 d3 y0 d4 y2))), .second, .val (.int 2)]) rfl (g_goto C X15 d3_69 (g_iload C X15 d3_36 rfl (g_iloadN C X15 d3_38 rfl (g_icmpn (hI_ge _ _) C X15 d3_39 (fun q => absurd (by decide) q) (fun _ => ?_)))))))
  refine g_dload C X15 d3_42 rfl (g_aloadN C X15 d3_44 rfl rfl (g_iload C X15 d3_45 rfl (g_iloadN C X15 d3_47 rfl (g_imul C X15 d3_48 (g_iload C X15 d3_49 rfl (g_iadd C X15 d3_51 (g_daload C X15 f16 d3_52 (by decide) (by decide) rfl (g_aloadN C X15 d3_53 rfl rfl (g_iload C X15 d3_54 rfl (g_iloadN C X15 d3_56 rfl (g_imul C X15 d3_57 ?_)))))))))))
  refine g_iload C X15 d3_58 rfl (g_iadd C X15 d3_60 (g_daload C X15 f17 d3_61 (by decide) (by decide) rfl (g_dmul (FP.dmul (FP.l2d d5) (FP.l2d y4)) C X15 d3_62 (own_nnm _ _) rfl ?_)))
  have bd20 : Bd 786432 (own_t3 d3 y0 d4 y2 d5 y4) := own_bd 786432 bd19 bd_d5 bd_y4 (by decide) (by decide)
  have F20 : _ = FP.l2d (own_t3 d3 y0 d4 y2 d5 y4) := (own_fma bd19 bd_d5 bd_y4 (by decide) (by decide) (by decide) (by decide))
  refine g_dadd (FP.l2d (own_t3 d3 y0 d4 y2 d5 y4)) C X15 d3_63 (nn_w F20) F20 (g_dstore C X15 d3_64 (l' := #[.val (.ref el), .val (.ref sr), .val (.int 2), .val (.int 3), .val (.ref b1), .val (.int 1), .val (.int 0), .val (.double (FP.l2d (own_t3 d3 y0 d4 y2 d5 y4))), .second, .val (.int 2)]) rfl (g_iinc 1 C X15 d3_66 rfl rfl (l' := #[.val (.ref el), .val (.ref sr), .val (.int 2), .val (.int 3), .val (.ref b1), .val (.int 1), .val (.int 0), .val (.double (FP.l2d (own_t3 d3 y0 d4 y2 d5 y4))), .second, .val (.int 3)]) rfl (g_goto C X15 d3_69 (g_iload C X15 d3_36 rfl (g_iloadN C X15 d3_38 rfl (g_icmpn (hI_ge _ _) C X15 d3_39 (fun _ => ?_) (fun q => absurd q (by decide))))))))
  refine g_aload C X15 d3_72 rfl rfl (g_iload C X15 d3_74 rfl (g_iloadN C X15 d3_76 rfl (g_imul C X15 d3_77 (g_iload C X15 d3_78 rfl (g_iadd C X15 d3_80 (g_dload C X15 d3_81 rfl (g_dastore C X15 V15_b1 n_b1 d3_83 (by decide) (by decide) (Nat.le_of_ble_eq_true rfl) (.double (FP.l2d (own_t3 d3 y0 d4 y2 d5 y4))) rfl (fun T21 h21 X21 W21 V21 => ?_))))))))
  have V21_b1 : Arv Z h21 b1 k_b1 .double (6 : Int32) [(.double (FP.l2d (own_t3 d0 y0 d1 y2 d2 y4))), (.double (FP.l2d (own_t3 d0 y1 d1 y3 d2 y5))), (.double (FP.l2d (own_t3 d3 y0 d4 y2 d5 y4))), (.double 0), (.double 0), (.double 0)] (.double 0) := V21
  refine g_iinc 1 C X21 d3_84 rfl rfl (l' := #[.val (.ref el), .val (.ref sr), .val (.int 2), .val (.int 3), .val (.ref b1), .val (.int 1), .val (.int 1), .val (.double (FP.l2d (own_t3 d3 y0 d4 y2 d5 y4))), .second, .val (.int 3)]) rfl (g_goto C X21 d3_87 (g_iload C X21 d3_24 rfl (g_iloadN C X21 d3_26 rfl (g_icmpn (hI_ge _ _) C X21 d3_27 (fun q => absurd (by decide) q) (fun _ => ?_)))))
  refine g_dconst0 C X21 d3_30 (g_dstore C X21 d3_31 (l' := #[.val (.ref el), .val (.ref sr), .val (.int 2), .val (.int 3), .val (.ref b1), .val (.int 1), .val (.int 1), .val (.double 0), .second, .val (.int 3)]) rfl (g_iconst 0 C X21 d3_33 rfl (g_istore C X21 d3_34 (l' := #[.val (.ref el), .val (.ref sr), .val (.int 2), .val (.int 3), .val (.ref b1), .val (.int 1), .val (.int 1), .val (.double 0), .second, .val (.int 0)]) rfl (g_iload C X21 d3_36 rfl (g_iloadN C X21 d3_38 rfl (g_icmpn (hI_ge _ _) C X21 d3_39 (fun q => absurd (by decide) q) (fun _ => ?_)))))))
  refine g_dload C X21 d3_42 rfl (g_aloadN C X21 d3_44 rfl rfl (g_iload C X21 d3_45 rfl (g_iloadN C X21 d3_47 rfl (g_imul C X21 d3_48 (g_iload C X21 d3_49 rfl (g_iadd C X21 d3_51 ?_))))))
  have f22 := (Arv.other f16 W21 (Nat.ne_of_lt lt2))
  refine g_daload C X21 f22 d3_52 (by decide) (by decide) rfl (g_aloadN C X21 d3_53 rfl rfl (g_iload C X21 d3_54 rfl (g_iloadN C X21 d3_56 rfl (g_imul C X21 d3_57 (g_iload C X21 d3_58 rfl (g_iadd C X21 d3_60 ?_))))))
  have f23 := (Arv.other f17 W21 (Nat.ne_of_lt lt3))
  refine g_daload C X21 f23 d3_61 (by decide) (by decide) rfl (g_dmul (FP.dmul (FP.l2d d3) (FP.l2d y1)) C X21 d3_62 (own_nnm _ _) rfl ?_)
  have bd24 : Bd 262144 (own_t1 d3 y1) := own_bd 262144 own_b0 bd_d3 bd_y1 (by decide) (by decide)
  have F24 : _ = FP.l2d (own_t1 d3 y1) := (own_f0 bd_d3 bd_y1 (by decide) (by decide) (by decide))
  refine g_dadd (FP.l2d (own_t1 d3 y1)) C X21 d3_63 (nn_w F24) F24 (g_dstore C X21 d3_64 (l' := #[.val (.ref el), .val (.ref sr), .val (.int 2), .val (.int 3), .val (.ref b1), .val (.int 1), .val (.int 1), .val (.double (FP.l2d (own_t1 d3 y1))), .second, .val (.int 0)]) rfl (g_iinc 1 C X21 d3_66 rfl rfl (l' := #[.val (.ref el), .val (.ref sr), .val (.int 2), .val (.int 3), .val (.ref b1), .val (.int 1), .val (.int 1), .val (.double (FP.l2d (own_t1 d3 y1))), .second, .val (.int 1)]) rfl (g_goto C X21 d3_69 (g_iload C X21 d3_36 rfl (g_iloadN C X21 d3_38 rfl (g_icmpn (hI_ge _ _) C X21 d3_39 (fun q => absurd (by decide) q) (fun _ => ?_)))))))
  refine g_dload C X21 d3_42 rfl (g_aloadN C X21 d3_44 rfl rfl (g_iload C X21 d3_45 rfl (g_iloadN C X21 d3_47 rfl (g_imul C X21 d3_48 (g_iload C X21 d3_49 rfl (g_iadd C X21 d3_51 (g_daload C X21 f22 d3_52 (by decide) (by decide) rfl (g_aloadN C X21 d3_53 rfl rfl (g_iload C X21 d3_54 rfl (g_iloadN C X21 d3_56 rfl (g_imul C X21 d3_57 ?_)))))))))))
  refine g_iload C X21 d3_58 rfl (g_iadd C X21 d3_60 (g_daload C X21 f23 d3_61 (by decide) (by decide) rfl (g_dmul (FP.dmul (FP.l2d d4) (FP.l2d y3)) C X21 d3_62 (own_nnm _ _) rfl ?_)))
  have bd25 : Bd 524288 (own_t2 d3 y1 d4 y3) := own_bd 524288 bd24 bd_d4 bd_y3 (by decide) (by decide)
  have F25 : _ = FP.l2d (own_t2 d3 y1 d4 y3) := (own_fma bd24 bd_d4 bd_y3 (by decide) (by decide) (by decide) (by decide))
  refine g_dadd (FP.l2d (own_t2 d3 y1 d4 y3)) C X21 d3_63 (nn_w F25) F25 (g_dstore C X21 d3_64 (l' := #[.val (.ref el), .val (.ref sr), .val (.int 2), .val (.int 3), .val (.ref b1), .val (.int 1), .val (.int 1), .val (.double (FP.l2d (own_t2 d3 y1 d4 y3))), .second, .val (.int 1)]) rfl (g_iinc 1 C X21 d3_66 rfl rfl (l' := #[.val (.ref el), .val (.ref sr), .val (.int 2), .val (.int 3), .val (.ref b1), .val (.int 1), .val (.int 1), .val (.double (FP.l2d (own_t2 d3 y1 d4 y3))), .second, .val (.int 2)]) rfl (g_goto C X21 d3_69 (g_iload C X21 d3_36 rfl (g_iloadN C X21 d3_38 rfl (g_icmpn (hI_ge _ _) C X21 d3_39 (fun q => absurd (by decide) q) (fun _ => ?_)))))))
  refine g_dload C X21 d3_42 rfl (g_aloadN C X21 d3_44 rfl rfl (g_iload C X21 d3_45 rfl (g_iloadN C X21 d3_47 rfl (g_imul C X21 d3_48 (g_iload C X21 d3_49 rfl (g_iadd C X21 d3_51 (g_daload C X21 f22 d3_52 (by decide) (by decide) rfl (g_aloadN C X21 d3_53 rfl rfl (g_iload C X21 d3_54 rfl (g_iloadN C X21 d3_56 rfl (g_imul C X21 d3_57 ?_)))))))))))
  refine g_iload C X21 d3_58 rfl (g_iadd C X21 d3_60 (g_daload C X21 f23 d3_61 (by decide) (by decide) rfl (g_dmul (FP.dmul (FP.l2d d5) (FP.l2d y5)) C X21 d3_62 (own_nnm _ _) rfl ?_)))
  have bd26 : Bd 786432 (own_t3 d3 y1 d4 y3 d5 y5) := own_bd 786432 bd25 bd_d5 bd_y5 (by decide) (by decide)
  have F26 : _ = FP.l2d (own_t3 d3 y1 d4 y3 d5 y5) := (own_fma bd25 bd_d5 bd_y5 (by decide) (by decide) (by decide) (by decide))
  refine g_dadd (FP.l2d (own_t3 d3 y1 d4 y3 d5 y5)) C X21 d3_63 (nn_w F26) F26 (g_dstore C X21 d3_64 (l' := #[.val (.ref el), .val (.ref sr), .val (.int 2), .val (.int 3), .val (.ref b1), .val (.int 1), .val (.int 1), .val (.double (FP.l2d (own_t3 d3 y1 d4 y3 d5 y5))), .second, .val (.int 2)]) rfl (g_iinc 1 C X21 d3_66 rfl rfl (l' := #[.val (.ref el), .val (.ref sr), .val (.int 2), .val (.int 3), .val (.ref b1), .val (.int 1), .val (.int 1), .val (.double (FP.l2d (own_t3 d3 y1 d4 y3 d5 y5))), .second, .val (.int 3)]) rfl (g_goto C X21 d3_69 (g_iload C X21 d3_36 rfl (g_iloadN C X21 d3_38 rfl (g_icmpn (hI_ge _ _) C X21 d3_39 (fun _ => ?_) (fun q => absurd q (by decide))))))))
  refine g_aload C X21 d3_72 rfl rfl (g_iload C X21 d3_74 rfl (g_iloadN C X21 d3_76 rfl (g_imul C X21 d3_77 (g_iload C X21 d3_78 rfl (g_iadd C X21 d3_80 (g_dload C X21 d3_81 rfl (g_dastore C X21 V21_b1 n_b1 d3_83 (by decide) (by decide) (Nat.le_of_ble_eq_true rfl) (.double (FP.l2d (own_t3 d3 y1 d4 y3 d5 y5))) rfl (fun T27 h27 X27 W27 V27 => ?_))))))))
  have V27_b1 : Arv Z h27 b1 k_b1 .double (6 : Int32) [(.double (FP.l2d (own_t3 d0 y0 d1 y2 d2 y4))), (.double (FP.l2d (own_t3 d0 y1 d1 y3 d2 y5))), (.double (FP.l2d (own_t3 d3 y0 d4 y2 d5 y4))), (.double (FP.l2d (own_t3 d3 y1 d4 y3 d5 y5))), (.double 0), (.double 0)] (.double 0) := V27
  refine g_iinc 1 C X27 d3_84 rfl rfl (l' := #[.val (.ref el), .val (.ref sr), .val (.int 2), .val (.int 3), .val (.ref b1), .val (.int 1), .val (.int 2), .val (.double (FP.l2d (own_t3 d3 y1 d4 y3 d5 y5))), .second, .val (.int 3)]) rfl (g_goto C X27 d3_87 (g_iload C X27 d3_24 rfl (g_iloadN C X27 d3_26 rfl (g_icmpn (hI_ge _ _) C X27 d3_27 (fun _ => ?_) (fun q => absurd q (by decide))))))
  refine g_iinc 1 C X27 d3_90 rfl rfl (l' := #[.val (.ref el), .val (.ref sr), .val (.int 2), .val (.int 3), .val (.ref b1), .val (.int 2), .val (.int 2), .val (.double (FP.l2d (own_t3 d3 y1 d4 y3 d5 y5))), .second, .val (.int 3)]) rfl (g_goto C X27 d3_93 (g_iload C X27 d3_15 rfl (g_iconst 3 C X27 d3_17 rfl (g_icmpn (hI_ge _ _) C X27 d3_18 (fun q => absurd (by decide) q) (fun _ => ?_)))))
  refine g_iconst 0 C X27 d3_21 rfl (g_istore C X27 d3_22 (l' := #[.val (.ref el), .val (.ref sr), .val (.int 2), .val (.int 3), .val (.ref b1), .val (.int 2), .val (.int 0), .val (.double (FP.l2d (own_t3 d3 y1 d4 y3 d5 y5))), .second, .val (.int 3)]) rfl (g_iload C X27 d3_24 rfl (g_iloadN C X27 d3_26 rfl (g_icmpn (hI_ge _ _) C X27 d3_27 (fun q => absurd (by decide) q) (fun _ => ?_)))))
  refine g_dconst0 C X27 d3_30 (g_dstore C X27 d3_31 (l' := #[.val (.ref el), .val (.ref sr), .val (.int 2), .val (.int 3), .val (.ref b1), .val (.int 2), .val (.int 0), .val (.double 0), .second, .val (.int 3)]) rfl (g_iconst 0 C X27 d3_33 rfl (g_istore C X27 d3_34 (l' := #[.val (.ref el), .val (.ref sr), .val (.int 2), .val (.int 3), .val (.ref b1), .val (.int 2), .val (.int 0), .val (.double 0), .second, .val (.int 0)]) rfl (g_iload C X27 d3_36 rfl (g_iloadN C X27 d3_38 rfl (g_icmpn (hI_ge _ _) C X27 d3_39 (fun q => absurd (by decide) q) (fun _ => ?_)))))))
  refine g_dload C X27 d3_42 rfl (g_aloadN C X27 d3_44 rfl rfl (g_iload C X27 d3_45 rfl (g_iloadN C X27 d3_47 rfl (g_imul C X27 d3_48 (g_iload C X27 d3_49 rfl (g_iadd C X27 d3_51 ?_))))))
  have f28 := (Arv.other f22 W27 (Nat.ne_of_lt lt2))
  refine g_daload C X27 f28 d3_52 (by decide) (by decide) rfl (g_aloadN C X27 d3_53 rfl rfl (g_iload C X27 d3_54 rfl (g_iloadN C X27 d3_56 rfl (g_imul C X27 d3_57 (g_iload C X27 d3_58 rfl (g_iadd C X27 d3_60 ?_))))))
  have f29 := (Arv.other f23 W27 (Nat.ne_of_lt lt3))
  refine g_daload C X27 f29 d3_61 (by decide) (by decide) rfl (g_dmul (FP.dmul (FP.l2d d6) (FP.l2d y0)) C X27 d3_62 (own_nnm _ _) rfl ?_)
  have bd30 : Bd 262144 (own_t1 d6 y0) := own_bd 262144 own_b0 bd_d6 bd_y0 (by decide) (by decide)
  have F30 : _ = FP.l2d (own_t1 d6 y0) := (own_f0 bd_d6 bd_y0 (by decide) (by decide) (by decide))
  refine g_dadd (FP.l2d (own_t1 d6 y0)) C X27 d3_63 (nn_w F30) F30 (g_dstore C X27 d3_64 (l' := #[.val (.ref el), .val (.ref sr), .val (.int 2), .val (.int 3), .val (.ref b1), .val (.int 2), .val (.int 0), .val (.double (FP.l2d (own_t1 d6 y0))), .second, .val (.int 0)]) rfl (g_iinc 1 C X27 d3_66 rfl rfl (l' := #[.val (.ref el), .val (.ref sr), .val (.int 2), .val (.int 3), .val (.ref b1), .val (.int 2), .val (.int 0), .val (.double (FP.l2d (own_t1 d6 y0))), .second, .val (.int 1)]) rfl (g_goto C X27 d3_69 (g_iload C X27 d3_36 rfl (g_iloadN C X27 d3_38 rfl (g_icmpn (hI_ge _ _) C X27 d3_39 (fun q => absurd (by decide) q) (fun _ => ?_)))))))
  refine g_dload C X27 d3_42 rfl (g_aloadN C X27 d3_44 rfl rfl (g_iload C X27 d3_45 rfl (g_iloadN C X27 d3_47 rfl (g_imul C X27 d3_48 (g_iload C X27 d3_49 rfl (g_iadd C X27 d3_51 (g_daload C X27 f28 d3_52 (by decide) (by decide) rfl (g_aloadN C X27 d3_53 rfl rfl (g_iload C X27 d3_54 rfl (g_iloadN C X27 d3_56 rfl (g_imul C X27 d3_57 ?_)))))))))))
  refine g_iload C X27 d3_58 rfl (g_iadd C X27 d3_60 (g_daload C X27 f29 d3_61 (by decide) (by decide) rfl (g_dmul (FP.dmul (FP.l2d d7) (FP.l2d y2)) C X27 d3_62 (own_nnm _ _) rfl ?_)))
  have bd31 : Bd 524288 (own_t2 d6 y0 d7 y2) := own_bd 524288 bd30 bd_d7 bd_y2 (by decide) (by decide)
  have F31 : _ = FP.l2d (own_t2 d6 y0 d7 y2) := (own_fma bd30 bd_d7 bd_y2 (by decide) (by decide) (by decide) (by decide))
  refine g_dadd (FP.l2d (own_t2 d6 y0 d7 y2)) C X27 d3_63 (nn_w F31) F31 (g_dstore C X27 d3_64 (l' := #[.val (.ref el), .val (.ref sr), .val (.int 2), .val (.int 3), .val (.ref b1), .val (.int 2), .val (.int 0), .val (.double (FP.l2d (own_t2 d6 y0 d7 y2))), .second, .val (.int 1)]) rfl (g_iinc 1 C X27 d3_66 rfl rfl (l' := #[.val (.ref el), .val (.ref sr), .val (.int 2), .val (.int 3), .val (.ref b1), .val (.int 2), .val (.int 0), .val (.double (FP.l2d (own_t2 d6 y0 d7 y2))), .second, .val (.int 2)]) rfl (g_goto C X27 d3_69 (g_iload C X27 d3_36 rfl (g_iloadN C X27 d3_38 rfl (g_icmpn (hI_ge _ _) C X27 d3_39 (fun q => absurd (by decide) q) (fun _ => ?_)))))))
  refine g_dload C X27 d3_42 rfl (g_aloadN C X27 d3_44 rfl rfl (g_iload C X27 d3_45 rfl (g_iloadN C X27 d3_47 rfl (g_imul C X27 d3_48 (g_iload C X27 d3_49 rfl (g_iadd C X27 d3_51 (g_daload C X27 f28 d3_52 (by decide) (by decide) rfl (g_aloadN C X27 d3_53 rfl rfl (g_iload C X27 d3_54 rfl (g_iloadN C X27 d3_56 rfl (g_imul C X27 d3_57 ?_)))))))))))
  refine g_iload C X27 d3_58 rfl (g_iadd C X27 d3_60 (g_daload C X27 f29 d3_61 (by decide) (by decide) rfl (g_dmul (FP.dmul (FP.l2d d8) (FP.l2d y4)) C X27 d3_62 (own_nnm _ _) rfl ?_)))
  have bd32 : Bd 786432 (own_t3 d6 y0 d7 y2 d8 y4) := own_bd 786432 bd31 bd_d8 bd_y4 (by decide) (by decide)
  have F32 : _ = FP.l2d (own_t3 d6 y0 d7 y2 d8 y4) := (own_fma bd31 bd_d8 bd_y4 (by decide) (by decide) (by decide) (by decide))
  refine g_dadd (FP.l2d (own_t3 d6 y0 d7 y2 d8 y4)) C X27 d3_63 (nn_w F32) F32 (g_dstore C X27 d3_64 (l' := #[.val (.ref el), .val (.ref sr), .val (.int 2), .val (.int 3), .val (.ref b1), .val (.int 2), .val (.int 0), .val (.double (FP.l2d (own_t3 d6 y0 d7 y2 d8 y4))), .second, .val (.int 2)]) rfl (g_iinc 1 C X27 d3_66 rfl rfl (l' := #[.val (.ref el), .val (.ref sr), .val (.int 2), .val (.int 3), .val (.ref b1), .val (.int 2), .val (.int 0), .val (.double (FP.l2d (own_t3 d6 y0 d7 y2 d8 y4))), .second, .val (.int 3)]) rfl (g_goto C X27 d3_69 (g_iload C X27 d3_36 rfl (g_iloadN C X27 d3_38 rfl (g_icmpn (hI_ge _ _) C X27 d3_39 (fun _ => ?_) (fun q => absurd q (by decide))))))))
  refine g_aload C X27 d3_72 rfl rfl (g_iload C X27 d3_74 rfl (g_iloadN C X27 d3_76 rfl (g_imul C X27 d3_77 (g_iload C X27 d3_78 rfl (g_iadd C X27 d3_80 (g_dload C X27 d3_81 rfl (g_dastore C X27 V27_b1 n_b1 d3_83 (by decide) (by decide) (Nat.le_of_ble_eq_true rfl) (.double (FP.l2d (own_t3 d6 y0 d7 y2 d8 y4))) rfl (fun T33 h33 X33 W33 V33 => ?_))))))))
  have V33_b1 : Arv Z h33 b1 k_b1 .double (6 : Int32) [(.double (FP.l2d (own_t3 d0 y0 d1 y2 d2 y4))), (.double (FP.l2d (own_t3 d0 y1 d1 y3 d2 y5))), (.double (FP.l2d (own_t3 d3 y0 d4 y2 d5 y4))), (.double (FP.l2d (own_t3 d3 y1 d4 y3 d5 y5))), (.double (FP.l2d (own_t3 d6 y0 d7 y2 d8 y4))), (.double 0)] (.double 0) := V33
  refine g_iinc 1 C X33 d3_84 rfl rfl (l' := #[.val (.ref el), .val (.ref sr), .val (.int 2), .val (.int 3), .val (.ref b1), .val (.int 2), .val (.int 1), .val (.double (FP.l2d (own_t3 d6 y0 d7 y2 d8 y4))), .second, .val (.int 3)]) rfl (g_goto C X33 d3_87 (g_iload C X33 d3_24 rfl (g_iloadN C X33 d3_26 rfl (g_icmpn (hI_ge _ _) C X33 d3_27 (fun q => absurd (by decide) q) (fun _ => ?_)))))
  refine g_dconst0 C X33 d3_30 (g_dstore C X33 d3_31 (l' := #[.val (.ref el), .val (.ref sr), .val (.int 2), .val (.int 3), .val (.ref b1), .val (.int 2), .val (.int 1), .val (.double 0), .second, .val (.int 3)]) rfl (g_iconst 0 C X33 d3_33 rfl (g_istore C X33 d3_34 (l' := #[.val (.ref el), .val (.ref sr), .val (.int 2), .val (.int 3), .val (.ref b1), .val (.int 2), .val (.int 1), .val (.double 0), .second, .val (.int 0)]) rfl (g_iload C X33 d3_36 rfl (g_iloadN C X33 d3_38 rfl (g_icmpn (hI_ge _ _) C X33 d3_39 (fun q => absurd (by decide) q) (fun _ => ?_)))))))
  refine g_dload C X33 d3_42 rfl (g_aloadN C X33 d3_44 rfl rfl (g_iload C X33 d3_45 rfl (g_iloadN C X33 d3_47 rfl (g_imul C X33 d3_48 (g_iload C X33 d3_49 rfl (g_iadd C X33 d3_51 ?_))))))
  have f34 := (Arv.other f28 W33 (Nat.ne_of_lt lt2))
  refine g_daload C X33 f34 d3_52 (by decide) (by decide) rfl (g_aloadN C X33 d3_53 rfl rfl (g_iload C X33 d3_54 rfl (g_iloadN C X33 d3_56 rfl (g_imul C X33 d3_57 (g_iload C X33 d3_58 rfl (g_iadd C X33 d3_60 ?_))))))
  have f35 := (Arv.other f29 W33 (Nat.ne_of_lt lt3))
  refine g_daload C X33 f35 d3_61 (by decide) (by decide) rfl (g_dmul (FP.dmul (FP.l2d d6) (FP.l2d y1)) C X33 d3_62 (own_nnm _ _) rfl ?_)
  have bd36 : Bd 262144 (own_t1 d6 y1) := own_bd 262144 own_b0 bd_d6 bd_y1 (by decide) (by decide)
  have F36 : _ = FP.l2d (own_t1 d6 y1) := (own_f0 bd_d6 bd_y1 (by decide) (by decide) (by decide))
  refine g_dadd (FP.l2d (own_t1 d6 y1)) C X33 d3_63 (nn_w F36) F36 (g_dstore C X33 d3_64 (l' := #[.val (.ref el), .val (.ref sr), .val (.int 2), .val (.int 3), .val (.ref b1), .val (.int 2), .val (.int 1), .val (.double (FP.l2d (own_t1 d6 y1))), .second, .val (.int 0)]) rfl (g_iinc 1 C X33 d3_66 rfl rfl (l' := #[.val (.ref el), .val (.ref sr), .val (.int 2), .val (.int 3), .val (.ref b1), .val (.int 2), .val (.int 1), .val (.double (FP.l2d (own_t1 d6 y1))), .second, .val (.int 1)]) rfl (g_goto C X33 d3_69 (g_iload C X33 d3_36 rfl (g_iloadN C X33 d3_38 rfl (g_icmpn (hI_ge _ _) C X33 d3_39 (fun q => absurd (by decide) q) (fun _ => ?_)))))))
  refine g_dload C X33 d3_42 rfl (g_aloadN C X33 d3_44 rfl rfl (g_iload C X33 d3_45 rfl (g_iloadN C X33 d3_47 rfl (g_imul C X33 d3_48 (g_iload C X33 d3_49 rfl (g_iadd C X33 d3_51 (g_daload C X33 f34 d3_52 (by decide) (by decide) rfl (g_aloadN C X33 d3_53 rfl rfl (g_iload C X33 d3_54 rfl (g_iloadN C X33 d3_56 rfl (g_imul C X33 d3_57 ?_)))))))))))
  refine g_iload C X33 d3_58 rfl (g_iadd C X33 d3_60 (g_daload C X33 f35 d3_61 (by decide) (by decide) rfl (g_dmul (FP.dmul (FP.l2d d7) (FP.l2d y3)) C X33 d3_62 (own_nnm _ _) rfl ?_)))
  have bd37 : Bd 524288 (own_t2 d6 y1 d7 y3) := own_bd 524288 bd36 bd_d7 bd_y3 (by decide) (by decide)
  have F37 : _ = FP.l2d (own_t2 d6 y1 d7 y3) := (own_fma bd36 bd_d7 bd_y3 (by decide) (by decide) (by decide) (by decide))
  refine g_dadd (FP.l2d (own_t2 d6 y1 d7 y3)) C X33 d3_63 (nn_w F37) F37 (g_dstore C X33 d3_64 (l' := #[.val (.ref el), .val (.ref sr), .val (.int 2), .val (.int 3), .val (.ref b1), .val (.int 2), .val (.int 1), .val (.double (FP.l2d (own_t2 d6 y1 d7 y3))), .second, .val (.int 1)]) rfl (g_iinc 1 C X33 d3_66 rfl rfl (l' := #[.val (.ref el), .val (.ref sr), .val (.int 2), .val (.int 3), .val (.ref b1), .val (.int 2), .val (.int 1), .val (.double (FP.l2d (own_t2 d6 y1 d7 y3))), .second, .val (.int 2)]) rfl (g_goto C X33 d3_69 (g_iload C X33 d3_36 rfl (g_iloadN C X33 d3_38 rfl (g_icmpn (hI_ge _ _) C X33 d3_39 (fun q => absurd (by decide) q) (fun _ => ?_)))))))
  refine g_dload C X33 d3_42 rfl (g_aloadN C X33 d3_44 rfl rfl (g_iload C X33 d3_45 rfl (g_iloadN C X33 d3_47 rfl (g_imul C X33 d3_48 (g_iload C X33 d3_49 rfl (g_iadd C X33 d3_51 (g_daload C X33 f34 d3_52 (by decide) (by decide) rfl (g_aloadN C X33 d3_53 rfl rfl (g_iload C X33 d3_54 rfl (g_iloadN C X33 d3_56 rfl (g_imul C X33 d3_57 ?_)))))))))))
  refine g_iload C X33 d3_58 rfl (g_iadd C X33 d3_60 (g_daload C X33 f35 d3_61 (by decide) (by decide) rfl (g_dmul (FP.dmul (FP.l2d d8) (FP.l2d y5)) C X33 d3_62 (own_nnm _ _) rfl ?_)))
  have bd38 : Bd 786432 (own_t3 d6 y1 d7 y3 d8 y5) := own_bd 786432 bd37 bd_d8 bd_y5 (by decide) (by decide)
  have F38 : _ = FP.l2d (own_t3 d6 y1 d7 y3 d8 y5) := (own_fma bd37 bd_d8 bd_y5 (by decide) (by decide) (by decide) (by decide))
  refine g_dadd (FP.l2d (own_t3 d6 y1 d7 y3 d8 y5)) C X33 d3_63 (nn_w F38) F38 (g_dstore C X33 d3_64 (l' := #[.val (.ref el), .val (.ref sr), .val (.int 2), .val (.int 3), .val (.ref b1), .val (.int 2), .val (.int 1), .val (.double (FP.l2d (own_t3 d6 y1 d7 y3 d8 y5))), .second, .val (.int 2)]) rfl (g_iinc 1 C X33 d3_66 rfl rfl (l' := #[.val (.ref el), .val (.ref sr), .val (.int 2), .val (.int 3), .val (.ref b1), .val (.int 2), .val (.int 1), .val (.double (FP.l2d (own_t3 d6 y1 d7 y3 d8 y5))), .second, .val (.int 3)]) rfl (g_goto C X33 d3_69 (g_iload C X33 d3_36 rfl (g_iloadN C X33 d3_38 rfl (g_icmpn (hI_ge _ _) C X33 d3_39 (fun _ => ?_) (fun q => absurd q (by decide))))))))
  refine g_aload C X33 d3_72 rfl rfl (g_iload C X33 d3_74 rfl (g_iloadN C X33 d3_76 rfl (g_imul C X33 d3_77 (g_iload C X33 d3_78 rfl (g_iadd C X33 d3_80 (g_dload C X33 d3_81 rfl (g_dastore C X33 V33_b1 n_b1 d3_83 (by decide) (by decide) (Nat.le_of_ble_eq_true rfl) (.double (FP.l2d (own_t3 d6 y1 d7 y3 d8 y5))) rfl (fun T39 h39 X39 W39 V39 => ?_))))))))
  have V39_b1 : Arv Z h39 b1 k_b1 .double (6 : Int32) [(.double (FP.l2d (own_t3 d0 y0 d1 y2 d2 y4))), (.double (FP.l2d (own_t3 d0 y1 d1 y3 d2 y5))), (.double (FP.l2d (own_t3 d3 y0 d4 y2 d5 y4))), (.double (FP.l2d (own_t3 d3 y1 d4 y3 d5 y5))), (.double (FP.l2d (own_t3 d6 y0 d7 y2 d8 y4))), (.double (FP.l2d (own_t3 d6 y1 d7 y3 d8 y5)))] (.double 0) := V39
  refine g_iinc 1 C X39 d3_84 rfl rfl (l' := #[.val (.ref el), .val (.ref sr), .val (.int 2), .val (.int 3), .val (.ref b1), .val (.int 2), .val (.int 2), .val (.double (FP.l2d (own_t3 d6 y1 d7 y3 d8 y5))), .second, .val (.int 3)]) rfl (g_goto C X39 d3_87 (g_iload C X39 d3_24 rfl (g_iloadN C X39 d3_26 rfl (g_icmpn (hI_ge _ _) C X39 d3_27 (fun _ => ?_) (fun q => absurd q (by decide))))))
  refine g_iinc 1 C X39 d3_90 rfl rfl (l' := #[.val (.ref el), .val (.ref sr), .val (.int 2), .val (.int 3), .val (.ref b1), .val (.int 3), .val (.int 2), .val (.double (FP.l2d (own_t3 d6 y1 d7 y3 d8 y5))), .second, .val (.int 3)]) rfl (g_goto C X39 d3_93 (g_iload C X39 d3_15 rfl (g_iconst 3 C X39 d3_17 rfl (g_icmpn (hI_ge _ _) C X39 d3_18 (fun _ => ?_) (fun q => absurd q (by decide))))))
  refine g_aload C X39 d3_96 rfl rfl ?_
  have sz40 : h.size ≤ b1 := by rw [g_b1]; exact (Keep.refl h []).1
  have kp41 := (Keep.refl h []).ext E1
  have kp42 := kp41.wr W9 (Or.inr sz40)
  have kp43 := kp42.wr W15 (Or.inr sz40)
  have kp44 := kp43.wr W21 (Or.inr sz40)
  have kp45 := kp44.wr W27 (Or.inr sz40)
  have kp46 := kp45.wr W33 (Or.inr sz40)
  have kp47 := kp46.wr W39 (Or.inr sz40)
  exact g_retA C X39 rfl rfl d3_98 (by decide) (by decide) ⟨b1, k_b1, rfl, n_b1, sz40, keep_ext kp47, V39_b1⟩
theorem ef_radd (m : MethodId) (mx : Addr) (sr : Addr) (el : Addr) (fd : UInt64) : entryFrame m #[(.ref mx), (.ref sr), (.ref el), (.double fd)] 12 = mkF m 0 #[.val (.ref mx), .val (.ref sr), .val (.ref el), .val (.double fd), .second, .unset, .unset, .unset, .unset, .unset, .unset, .unset] [] := by first | (simp [entryFrame, mkF, argsToLocals, Value.category]; done) | rfl
theorem d2_0 : Dc prog_2_method_11_code 0 (.aload_n 1) 1 1 := ⟨by decide +kernel, rfl⟩
theorem d2_1 : Dc prog_2_method_11_code 1 (.arraylength) 1 2 := ⟨by decide +kernel, rfl⟩
theorem d2_2 : Dc prog_2_method_11_code 2 (.iconst 3) 1 3 := ⟨by decide +kernel, rfl⟩
theorem d2_3 : Dc prog_2_method_11_code 3 (.idiv) 1 4 := ⟨by decide +kernel, rfl⟩
theorem d2_4 : Dc prog_2_method_11_code 4 (.istore 5) 2 6 := ⟨by decide +kernel, rfl⟩
theorem d2_6 : Dc prog_2_method_11_code 6 (.aload_n 2) 1 7 := ⟨by decide +kernel, rfl⟩
theorem d2_7 : Dc prog_2_method_11_code 7 (.aload_n 1) 1 8 := ⟨by decide +kernel, rfl⟩
theorem d2_8 : Dc prog_2_method_11_code 8 (.iload 5) 2 10 := ⟨by decide +kernel, rfl⟩
theorem d2_10 : Dc prog_2_method_11_code 10 (.invokestatic 168) 3 13 := ⟨by decide +kernel, rfl⟩
theorem pd_0 : parseMethodDescriptor "([D[DI)[D" = some ⟨[(.array .double), (.array .double), .int], some (.array .double)⟩ := by decide +kernel
theorem d2_13 : Dc prog_2_method_11_code 13 (.astore 6) 2 15 := ⟨by decide +kernel, rfl⟩
theorem d2_15 : Dc prog_2_method_11_code 15 (.iconst 0) 1 16 := ⟨by decide +kernel, rfl⟩
theorem d2_16 : Dc prog_2_method_11_code 16 (.istore 7) 2 18 := ⟨by decide +kernel, rfl⟩
theorem d2_18 : Dc prog_2_method_11_code 18 (.iload 7) 2 20 := ⟨by decide +kernel, rfl⟩
theorem d2_20 : Dc prog_2_method_11_code 20 (.iload 5) 2 22 := ⟨by decide +kernel, rfl⟩
theorem d2_22 : Dj prog_2_method_11_code 22 (.if_icmp .ge 87) 87 3 25 109 := ⟨by decide +kernel, rfl, by decide, by decide⟩
theorem d2_25 : Dc prog_2_method_11_code 25 (.iconst 0) 1 26 := ⟨by decide +kernel, rfl⟩
theorem d2_26 : Dc prog_2_method_11_code 26 (.istore 8) 2 28 := ⟨by decide +kernel, rfl⟩
theorem d2_28 : Dc prog_2_method_11_code 28 (.iload 8) 2 30 := ⟨by decide +kernel, rfl⟩
theorem d2_30 : Dc prog_2_method_11_code 30 (.iload 5) 2 32 := ⟨by decide +kernel, rfl⟩
theorem d2_32 : Dj prog_2_method_11_code 32 (.if_icmp .ge 71) 71 3 35 103 := ⟨by decide +kernel, rfl, by decide, by decide⟩
theorem d2_35 : Dc prog_2_method_11_code 35 (.dconst 0) 1 36 := ⟨by decide +kernel, rfl⟩
theorem d2_36 : Dc prog_2_method_11_code 36 (.dstore 9) 2 38 := ⟨by decide +kernel, rfl⟩
theorem d2_38 : Dc prog_2_method_11_code 38 (.iconst 0) 1 39 := ⟨by decide +kernel, rfl⟩
theorem d2_39 : Dc prog_2_method_11_code 39 (.istore 11) 2 41 := ⟨by decide +kernel, rfl⟩
theorem d2_41 : Dc prog_2_method_11_code 41 (.iload 11) 2 43 := ⟨by decide +kernel, rfl⟩
theorem d2_43 : Dc prog_2_method_11_code 43 (.iconst 3) 1 44 := ⟨by decide +kernel, rfl⟩
theorem d2_44 : Dj prog_2_method_11_code 44 (.if_icmp .ge 36) 36 3 47 80 := ⟨by decide +kernel, rfl, by decide, by decide⟩
theorem d2_47 : Dc prog_2_method_11_code 47 (.dload 9) 2 49 := ⟨by decide +kernel, rfl⟩
theorem d2_49 : Dc prog_2_method_11_code 49 (.aload_n 1) 1 50 := ⟨by decide +kernel, rfl⟩
theorem d2_50 : Dc prog_2_method_11_code 50 (.iload 11) 2 52 := ⟨by decide +kernel, rfl⟩
theorem d2_52 : Dc prog_2_method_11_code 52 (.iload 5) 2 54 := ⟨by decide +kernel, rfl⟩
theorem d2_54 : Dc prog_2_method_11_code 54 (.imul) 1 55 := ⟨by decide +kernel, rfl⟩
theorem d2_55 : Dc prog_2_method_11_code 55 (.iload 7) 2 57 := ⟨by decide +kernel, rfl⟩
theorem d2_57 : Dc prog_2_method_11_code 57 (.iadd) 1 58 := ⟨by decide +kernel, rfl⟩
theorem d2_58 : Dc prog_2_method_11_code 58 (.daload) 1 59 := ⟨by decide +kernel, rfl⟩
theorem d2_59 : Dc prog_2_method_11_code 59 (.aload 6) 2 61 := ⟨by decide +kernel, rfl⟩
theorem d2_61 : Dc prog_2_method_11_code 61 (.iload 11) 2 63 := ⟨by decide +kernel, rfl⟩
theorem d2_63 : Dc prog_2_method_11_code 63 (.iload 5) 2 65 := ⟨by decide +kernel, rfl⟩
theorem d2_65 : Dc prog_2_method_11_code 65 (.imul) 1 66 := ⟨by decide +kernel, rfl⟩
theorem d2_66 : Dc prog_2_method_11_code 66 (.iload 8) 2 68 := ⟨by decide +kernel, rfl⟩
theorem d2_68 : Dc prog_2_method_11_code 68 (.iadd) 1 69 := ⟨by decide +kernel, rfl⟩
theorem d2_69 : Dc prog_2_method_11_code 69 (.daload) 1 70 := ⟨by decide +kernel, rfl⟩
theorem d2_70 : Dc prog_2_method_11_code 70 (.dmul) 1 71 := ⟨by decide +kernel, rfl⟩
theorem d2_71 : Dc prog_2_method_11_code 71 (.dadd) 1 72 := ⟨by decide +kernel, rfl⟩
theorem d2_72 : Dc prog_2_method_11_code 72 (.dstore 9) 2 74 := ⟨by decide +kernel, rfl⟩
theorem d2_74 : Dc prog_2_method_11_code 74 (.iinc 11 1) 3 77 := ⟨by decide +kernel, rfl⟩
theorem d2_77 : Dj prog_2_method_11_code 77 (.goto (-36)) (-36) 3 80 41 := ⟨by decide +kernel, rfl, by decide, by decide⟩
theorem d2_80 : Dc prog_2_method_11_code 80 (.aload_n 0) 1 81 := ⟨by decide +kernel, rfl⟩
theorem d2_81 : Dc prog_2_method_11_code 81 (.iload 7) 2 83 := ⟨by decide +kernel, rfl⟩
theorem d2_83 : Dc prog_2_method_11_code 83 (.iload 5) 2 85 := ⟨by decide +kernel, rfl⟩
theorem d2_85 : Dc prog_2_method_11_code 85 (.imul) 1 86 := ⟨by decide +kernel, rfl⟩
theorem d2_86 : Dc prog_2_method_11_code 86 (.iload 8) 2 88 := ⟨by decide +kernel, rfl⟩
theorem d2_88 : Dc prog_2_method_11_code 88 (.iadd) 1 89 := ⟨by decide +kernel, rfl⟩
theorem d2_89 : Dc prog_2_method_11_code 89 (.dup2) 1 90 := ⟨by decide +kernel, rfl⟩
theorem d2_90 : Dc prog_2_method_11_code 90 (.daload) 1 91 := ⟨by decide +kernel, rfl⟩
theorem d2_91 : Dc prog_2_method_11_code 91 (.dload_n 3) 1 92 := ⟨by decide +kernel, rfl⟩
theorem d2_92 : Dc prog_2_method_11_code 92 (.dload 9) 2 94 := ⟨by decide +kernel, rfl⟩
theorem d2_94 : Dc prog_2_method_11_code 94 (.dmul) 1 95 := ⟨by decide +kernel, rfl⟩
theorem d2_95 : Dc prog_2_method_11_code 95 (.dadd) 1 96 := ⟨by decide +kernel, rfl⟩
theorem d2_96 : Dc prog_2_method_11_code 96 (.dastore) 1 97 := ⟨by decide +kernel, rfl⟩
theorem d2_97 : Dc prog_2_method_11_code 97 (.iinc 8 1) 3 100 := ⟨by decide +kernel, rfl⟩
theorem d2_100 : Dj prog_2_method_11_code 100 (.goto (-72)) (-72) 3 103 28 := ⟨by decide +kernel, rfl, by decide, by decide⟩
theorem d2_103 : Dc prog_2_method_11_code 103 (.iinc 7 1) 3 106 := ⟨by decide +kernel, rfl⟩
theorem d2_106 : Dj prog_2_method_11_code 106 (.goto (-88)) (-88) 3 109 18 := ⟨by decide +kernel, rfl, by decide, by decide⟩
theorem d2_109 : Dc prog_2_method_11_code 109 (.return_) 1 110 := ⟨by decide +kernel, rfl⟩
theorem radd (l : Launch) {Z : State} {a0 : Array Value} (hw : ∀ d ∈ tables_1, d.before a0 Z = true) {h : Heap} (hE : Ext Z.heap h) (mx : Addr) (sr : Addr) (el : Addr) (fd : UInt64) (f : Int64) (km : ClassId) (m0 m1 m2 m3 : Int64) (ke ks : ClassId) (d0 d1 d2 d3 d4 d5 d6 d7 d8 y0 y1 y2 y3 y4 y5 : Int64) (hfd : fd = FP.l2d f) (bd_f : Bd 512 f) (hM : Arv Z h mx km .double 4 [(.double (FP.l2d m0)), (.double (FP.l2d m1)), (.double (FP.l2d m2)), (.double (FP.l2d m3))] (.double 0)) (hn : Z.heap.size ≤ mx) (ne1 : mx ≠ sr) (ne2 : mx ≠ el) (bd_m0 : Bd 2147483648 m0) (bd_m1 : Bd 2147483648 m1) (bd_m2 : Bd 2147483648 m2) (bd_m3 : Bd 2147483648 m3) (hE_ : Arv Z h el ke .double 9 [(.double (FP.l2d d0)), (.double (FP.l2d d1)), (.double (FP.l2d d2)), (.double (FP.l2d d3)), (.double (FP.l2d d4)), (.double (FP.l2d d5)), (.double (FP.l2d d6)), (.double (FP.l2d d7)), (.double (FP.l2d d8))] (.double 0)) (hS : Arv Z h sr ks .double 6 [(.double (FP.l2d y0)), (.double (FP.l2d y1)), (.double (FP.l2d y2)), (.double (FP.l2d y3)), (.double (FP.l2d y4)), (.double (FP.l2d y5))] (.double 0)) (bd_d0 : Bd 512 d0) (bd_d1 : Bd 512 d1) (bd_d2 : Bd 512 d2) (bd_d3 : Bd 512 d3) (bd_d4 : Bd 512 d4) (bd_d5 : Bd 512 d5) (bd_d6 : Bd 512 d6) (bd_d7 : Bd 512 d7) (bd_d8 : Bd 512 d8) (bd_y0 : Bd 512 y0) (bd_y1 : Bd 512 y1) (bd_y2 : Bd 512 y2) (bd_y3 : Bd 512 y3) (bd_y4 : Bd 512 y4) (bd_y5 : Bd 512 y5) :
    Con l (⟨"com/example/strutwork/strutwork/AreaElement", "addStiffness", "([D[D[DD)V"⟩ : MethodName) prog_2_method_11_code 12 none [] ({ frames := 1, cells := 1, slots := 6, locals := 21 } : Room) Z #[(.ref mx), (.ref sr), (.ref el), (.double fd)] h (fun v' h' => v' = none ∧ Keep h h' [mx] ∧ Arv Z h' mx km .double 4 [(.double (FP.l2d (m0 + f * (own_t3 y0 (own_t3 d0 y0 d1 y2 d2 y4) y2 (own_t3 d3 y0 d4 y2 d5 y4) y4 (own_t3 d6 y0 d7 y2 d8 y4))))), (.double (FP.l2d (m1 + f * (own_t3 y0 (own_t3 d0 y1 d1 y3 d2 y5) y2 (own_t3 d3 y1 d4 y3 d5 y5) y4 (own_t3 d6 y1 d7 y3 d8 y5))))), (.double (FP.l2d (m2 + f * (own_t3 y1 (own_t3 d0 y0 d1 y2 d2 y4) y3 (own_t3 d3 y0 d4 y2 d5 y4) y5 (own_t3 d6 y0 d7 y2 d8 y4))))), (.double (FP.l2d (m3 + f * (own_t3 y1 (own_t3 d0 y1 d1 y3 d2 y5) y3 (own_t3 d3 y1 d4 y3 d5 y5) y5 (own_t3 d6 y1 d7 y3 d8 y5)))))] (.double 0)) := by
  refine con_of (plainFor_of_name pn_1) hE (fun m => ef_radd m mx sr el fd) ?_
  intro p e s m below meth c T0 C X0
  have C : Cx p s m meth c Z "com/example/strutwork/strutwork/AreaElement" "addStiffness" prog_2_method_11_code 12 none := C
  show Goes p e below _ T0 (mkF m 0 #[.val (.ref mx), .val (.ref sr), .val (.ref el), .val (.double fd), .second, .unset, .unset, .unset, .unset, .unset, .unset, .unset] [])
  subst hfd
  have bs_0_0 : Bd 786432 (own_t3 d0 y0 d1 y2 d2 y4) := own_bd 786432 (own_bd 524288 (own_bd 262144 own_b0 bd_d0 bd_y0 (by decide) (by decide)) bd_d1 bd_y2 (by decide) (by decide)) bd_d2 bd_y4 (by decide) (by decide)
  have bs_0_1 : Bd 786432 (own_t3 d0 y1 d1 y3 d2 y5) := own_bd 786432 (own_bd 524288 (own_bd 262144 own_b0 bd_d0 bd_y1 (by decide) (by decide)) bd_d1 bd_y3 (by decide) (by decide)) bd_d2 bd_y5 (by decide) (by decide)
  have bs_1_0 : Bd 786432 (own_t3 d3 y0 d4 y2 d5 y4) := own_bd 786432 (own_bd 524288 (own_bd 262144 own_b0 bd_d3 bd_y0 (by decide) (by decide)) bd_d4 bd_y2 (by decide) (by decide)) bd_d5 bd_y4 (by decide) (by decide)
  have bs_1_1 : Bd 786432 (own_t3 d3 y1 d4 y3 d5 y5) := own_bd 786432 (own_bd 524288 (own_bd 262144 own_b0 bd_d3 bd_y1 (by decide) (by decide)) bd_d4 bd_y3 (by decide) (by decide)) bd_d5 bd_y5 (by decide) (by decide)
  have bs_2_0 : Bd 786432 (own_t3 d6 y0 d7 y2 d8 y4) := own_bd 786432 (own_bd 524288 (own_bd 262144 own_b0 bd_d6 bd_y0 (by decide) (by decide)) bd_d7 bd_y2 (by decide) (by decide)) bd_d8 bd_y4 (by decide) (by decide)
  have bs_2_1 : Bd 786432 (own_t3 d6 y1 d7 y3 d8 y5) := own_bd 786432 (own_bd 524288 (own_bd 262144 own_b0 bd_d6 bd_y1 (by decide) (by decide)) bd_d7 bd_y3 (by decide) (by decide)) bd_d8 bd_y5 (by decide) (by decide)
  show Goes p e below _ T0 (mkF m 0 #[.val (.ref mx), .val (.ref sr), .val (.ref el), .val (.double (FP.l2d f)), .second, .unset, .unset, .unset, .unset, .unset, .unset, .unset] [])
  refine g_aloadN C X0 d2_0 rfl rfl (g_arraylength C X0 hS d2_1 (g_iconst 3 C X0 d2_2 rfl (g_idiv C X0 d2_3 (by decide) (g_istore C X0 d2_4 (l' := #[.val (.ref mx), .val (.ref sr), .val (.ref el), .val (.double (FP.l2d f)), .second, .val (.int 2), .unset, .unset, .unset, .unset, .unset, .unset]) rfl (g_aloadN C X0 d2_6 rfl rfl (g_aloadN C X0 d2_7 rfl rfl (g_iload C X0 d2_8 rfl (g_static (argsL := [(.ref el), (.ref sr), (.int 2)]) (st := []) C X0 (wd hw 12 rfl) (wd hw 13 rfl) (wd hw 10 rfl) (wd hw 14 rfl) (by decide) (pay_of (W' := 0) (rmul l hw X0.ext el sr ke ks d0 d1 d2 d3 d4 d5 d6 d7 d8 y0 y1 y2 y3 y4 y5 hE_ hS bd_d0 bd_d1 bd_d2 bd_d3 bd_d4 bd_d5 bd_d6 bd_d7 bd_d8 bd_y0 bd_y1 bd_y2 bd_y3 bd_y4 bd_y5) C.hZ (wd hw 14 rfl) (wd hw 10 rfl) (by decide) (by decide)) pd_0 rfl rfl _ rfl (Nat.le_of_eq rfl) d2_10 (by decide) (by decide) (fun T48 h48 v48 q48 X48 => ?_)))))))))
  obtain ⟨b48_, kb48, rfl, n_b48_, g_b48_, E48, V48⟩ := q48
  have lt49 : mx < b48_ := Nat.lt_of_lt_of_le (Arv.lt hM) g_b48_
  have lt50 : sr < b48_ := Nat.lt_of_lt_of_le (Arv.lt hS) g_b48_
  have lt51 : el < b48_ := Nat.lt_of_lt_of_le (Arv.lt hE_) g_b48_
  show Goes p e below _ T48 (mkF m 13 #[.val (.ref mx), .val (.ref sr), .val (.ref el), .val (.double (FP.l2d f)), .second, .val (.int 2), .unset, .unset, .unset, .unset, .unset, .unset] [(.ref b48_)])
  refine g_astore C X48 d2_13 rfl (l' := #[.val (.ref mx), .val (.ref sr), .val (.ref el), .val (.double (FP.l2d f)), .second, .val (.int 2), .val (.ref b48_), .unset, .unset, .unset, .unset, .unset]) rfl (g_iconst 0 C X48 d2_15 rfl (g_istore C X48 d2_16 (l' := #[.val (.ref mx), .val (.ref sr), .val (.ref el), .val (.double (FP.l2d f)), .second, .val (.int 2), .val (.ref b48_), .val (.int 0), .unset, .unset, .unset, .unset]) rfl (g_iload C X48 d2_18 rfl (g_iload C X48 d2_20 rfl (g_icmpn (hI_ge _ _) C X48 d2_22 (fun q => absurd (by decide) q) (fun _ => ?_))))))
  refine g_iconst 0 C X48 d2_25 rfl (g_istore C X48 d2_26 (l' := #[.val (.ref mx), .val (.ref sr), .val (.ref el), .val (.double (FP.l2d f)), .second, .val (.int 2), .val (.ref b48_), .val (.int 0), .val (.int 0), .unset, .unset, .unset]) rfl (g_iload C X48 d2_28 rfl (g_iload C X48 d2_30 rfl (g_icmpn (hI_ge _ _) C X48 d2_32 (fun q => absurd (by decide) q) (fun _ => ?_)))))
  refine g_dconst0 C X48 d2_35 (g_dstore C X48 d2_36 (l' := #[.val (.ref mx), .val (.ref sr), .val (.ref el), .val (.double (FP.l2d f)), .second, .val (.int 2), .val (.ref b48_), .val (.int 0), .val (.int 0), .val (.double 0), .second, .unset]) rfl (g_iconst 0 C X48 d2_38 rfl (g_istore C X48 d2_39 (l' := #[.val (.ref mx), .val (.ref sr), .val (.ref el), .val (.double (FP.l2d f)), .second, .val (.int 2), .val (.ref b48_), .val (.int 0), .val (.int 0), .val (.double 0), .second, .val (.int 0)]) rfl (g_iload C X48 d2_41 rfl (g_iconst 3 C X48 d2_43 rfl (g_icmpn (hI_ge _ _) C X48 d2_44 (fun q => absurd (by decide) q) (fun _ => ?_)))))))
  refine g_dload C X48 d2_47 rfl (g_aloadN C X48 d2_49 rfl rfl (g_iload C X48 d2_50 rfl (g_iload C X48 d2_52 rfl (g_imul C X48 d2_54 (g_iload C X48 d2_55 rfl (g_iadd C X48 d2_57 ?_))))))
  have f52 := (Arv.ext hS E48)
  refine g_daload C X48 f52 d2_58 (by decide) (by decide) rfl (g_aload C X48 d2_59 rfl rfl (g_iload C X48 d2_61 rfl (g_iload C X48 d2_63 rfl (g_imul C X48 d2_65 (g_iload C X48 d2_66 rfl (g_iadd C X48 d2_68 (g_daload C X48 V48 d2_69 (by decide) (by decide) rfl (g_dmul (FP.dmul (FP.l2d y0) (FP.l2d (own_t3 d0 y0 d1 y2 d2 y4))) C X48 d2_70 (own_nnm _ _) rfl ?_))))))))
  have bd53 : Bd 402653184 (own_t1 y0 (own_t3 d0 y0 d1 y2 d2 y4)) := own_bd 402653184 own_b0 bd_y0 bs_0_0 (by decide) (by decide)
  have F53 : _ = FP.l2d (own_t1 y0 (own_t3 d0 y0 d1 y2 d2 y4)) := (own_f0 bd_y0 bs_0_0 (by decide) (by decide) (by decide))
  refine g_dadd (FP.l2d (own_t1 y0 (own_t3 d0 y0 d1 y2 d2 y4))) C X48 d2_71 (nn_w F53) F53 (g_dstore C X48 d2_72 (l' := #[.val (.ref mx), .val (.ref sr), .val (.ref el), .val (.double (FP.l2d f)), .second, .val (.int 2), .val (.ref b48_), .val (.int 0), .val (.int 0), .val (.double (FP.l2d (own_t1 y0 (own_t3 d0 y0 d1 y2 d2 y4)))), .second, .val (.int 0)]) rfl (g_iinc 1 C X48 d2_74 rfl rfl (l' := #[.val (.ref mx), .val (.ref sr), .val (.ref el), .val (.double (FP.l2d f)), .second, .val (.int 2), .val (.ref b48_), .val (.int 0), .val (.int 0), .val (.double (FP.l2d (own_t1 y0 (own_t3 d0 y0 d1 y2 d2 y4)))), .second, .val (.int 1)]) rfl (g_goto C X48 d2_77 (g_iload C X48 d2_41 rfl (g_iconst 3 C X48 d2_43 rfl (g_icmpn (hI_ge _ _) C X48 d2_44 (fun q => absurd (by decide) q) (fun _ => ?_)))))))
  refine g_dload C X48 d2_47 rfl (g_aloadN C X48 d2_49 rfl rfl (g_iload C X48 d2_50 rfl (g_iload C X48 d2_52 rfl (g_imul C X48 d2_54 (g_iload C X48 d2_55 rfl (g_iadd C X48 d2_57 (g_daload C X48 f52 d2_58 (by decide) (by decide) rfl (g_aload C X48 d2_59 rfl rfl (g_iload C X48 d2_61 rfl (g_iload C X48 d2_63 rfl (g_imul C X48 d2_65 ?_)))))))))))
  refine g_iload C X48 d2_66 rfl (g_iadd C X48 d2_68 (g_daload C X48 V48 d2_69 (by decide) (by decide) rfl (g_dmul (FP.dmul (FP.l2d y2) (FP.l2d (own_t3 d3 y0 d4 y2 d5 y4))) C X48 d2_70 (own_nnm _ _) rfl ?_)))
  have bd54 : Bd 805306368 (own_t2 y0 (own_t3 d0 y0 d1 y2 d2 y4) y2 (own_t3 d3 y0 d4 y2 d5 y4)) := own_bd 805306368 bd53 bd_y2 bs_1_0 (by decide) (by decide)
  have F54 : _ = FP.l2d (own_t2 y0 (own_t3 d0 y0 d1 y2 d2 y4) y2 (own_t3 d3 y0 d4 y2 d5 y4)) := (own_fma bd53 bd_y2 bs_1_0 (by decide) (by decide) (by decide) (by decide))
  refine g_dadd (FP.l2d (own_t2 y0 (own_t3 d0 y0 d1 y2 d2 y4) y2 (own_t3 d3 y0 d4 y2 d5 y4))) C X48 d2_71 (nn_w F54) F54 (g_dstore C X48 d2_72 (l' := #[.val (.ref mx), .val (.ref sr), .val (.ref el), .val (.double (FP.l2d f)), .second, .val (.int 2), .val (.ref b48_), .val (.int 0), .val (.int 0), .val (.double (FP.l2d (own_t2 y0 (own_t3 d0 y0 d1 y2 d2 y4) y2 (own_t3 d3 y0 d4 y2 d5 y4)))), .second, .val (.int 1)]) rfl (g_iinc 1 C X48 d2_74 rfl rfl (l' := #[.val (.ref mx), .val (.ref sr), .val (.ref el), .val (.double (FP.l2d f)), .second, .val (.int 2), .val (.ref b48_), .val (.int 0), .val (.int 0), .val (.double (FP.l2d (own_t2 y0 (own_t3 d0 y0 d1 y2 d2 y4) y2 (own_t3 d3 y0 d4 y2 d5 y4)))), .second, .val (.int 2)]) rfl (g_goto C X48 d2_77 (g_iload C X48 d2_41 rfl (g_iconst 3 C X48 d2_43 rfl (g_icmpn (hI_ge _ _) C X48 d2_44 (fun q => absurd (by decide) q) (fun _ => ?_)))))))
  refine g_dload C X48 d2_47 rfl (g_aloadN C X48 d2_49 rfl rfl (g_iload C X48 d2_50 rfl (g_iload C X48 d2_52 rfl (g_imul C X48 d2_54 (g_iload C X48 d2_55 rfl (g_iadd C X48 d2_57 (g_daload C X48 f52 d2_58 (by decide) (by decide) rfl (g_aload C X48 d2_59 rfl rfl (g_iload C X48 d2_61 rfl (g_iload C X48 d2_63 rfl (g_imul C X48 d2_65 ?_)))))))))))
  refine g_iload C X48 d2_66 rfl (g_iadd C X48 d2_68 (g_daload C X48 V48 d2_69 (by decide) (by decide) rfl (g_dmul (FP.dmul (FP.l2d y4) (FP.l2d (own_t3 d6 y0 d7 y2 d8 y4))) C X48 d2_70 (own_nnm _ _) rfl ?_)))
  have bd55 : Bd 1207959552 (own_t3 y0 (own_t3 d0 y0 d1 y2 d2 y4) y2 (own_t3 d3 y0 d4 y2 d5 y4) y4 (own_t3 d6 y0 d7 y2 d8 y4)) := own_bd 1207959552 bd54 bd_y4 bs_2_0 (by decide) (by decide)
  have F55 : _ = FP.l2d (own_t3 y0 (own_t3 d0 y0 d1 y2 d2 y4) y2 (own_t3 d3 y0 d4 y2 d5 y4) y4 (own_t3 d6 y0 d7 y2 d8 y4)) := (own_fma bd54 bd_y4 bs_2_0 (by decide) (by decide) (by decide) (by decide))
  refine g_dadd (FP.l2d (own_t3 y0 (own_t3 d0 y0 d1 y2 d2 y4) y2 (own_t3 d3 y0 d4 y2 d5 y4) y4 (own_t3 d6 y0 d7 y2 d8 y4))) C X48 d2_71 (nn_w F55) F55 (g_dstore C X48 d2_72 (l' := #[.val (.ref mx), .val (.ref sr), .val (.ref el), .val (.double (FP.l2d f)), .second, .val (.int 2), .val (.ref b48_), .val (.int 0), .val (.int 0), .val (.double (FP.l2d (own_t3 y0 (own_t3 d0 y0 d1 y2 d2 y4) y2 (own_t3 d3 y0 d4 y2 d5 y4) y4 (own_t3 d6 y0 d7 y2 d8 y4)))), .second, .val (.int 2)]) rfl (g_iinc 1 C X48 d2_74 rfl rfl (l' := #[.val (.ref mx), .val (.ref sr), .val (.ref el), .val (.double (FP.l2d f)), .second, .val (.int 2), .val (.ref b48_), .val (.int 0), .val (.int 0), .val (.double (FP.l2d (own_t3 y0 (own_t3 d0 y0 d1 y2 d2 y4) y2 (own_t3 d3 y0 d4 y2 d5 y4) y4 (own_t3 d6 y0 d7 y2 d8 y4)))), .second, .val (.int 3)]) rfl (g_goto C X48 d2_77 (g_iload C X48 d2_41 rfl (g_iconst 3 C X48 d2_43 rfl (g_icmpn (hI_ge _ _) C X48 d2_44 (fun _ => ?_) (fun q => absurd q (by decide))))))))
  refine g_aloadN C X48 d2_80 rfl rfl (g_iload C X48 d2_81 rfl (g_iload C X48 d2_83 rfl (g_imul C X48 d2_85 (g_iload C X48 d2_86 rfl (g_iadd C X48 d2_88 (g_dup2 C X48 d2_89 rfl rfl ?_))))))
  have f56 := (Arv.ext hM E48)
  refine g_daload C X48 f56 d2_90 (by decide) (by decide) rfl (g_dloadN C X48 d2_91 rfl (g_dload C X48 d2_92 rfl (g_dmul (FP.dmul (FP.l2d f) (FP.l2d (own_t3 y0 (own_t3 d0 y0 d1 y2 d2 y4) y2 (own_t3 d3 y0 d4 y2 d5 y4) y4 (own_t3 d6 y0 d7 y2 d8 y4)))) C X48 d2_94 (own_nnm _ _) rfl ?_)))
  have bd57 : Bd 620622774272 (m0 + f * (own_t3 y0 (own_t3 d0 y0 d1 y2 d2 y4) y2 (own_t3 d3 y0 d4 y2 d5 y4) y4 (own_t3 d6 y0 d7 y2 d8 y4))) := own_bd 620622774272 bd_m0 bd_f bd55 (by decide) (by decide)
  have F57 : _ = FP.l2d (m0 + f * (own_t3 y0 (own_t3 d0 y0 d1 y2 d2 y4) y2 (own_t3 d3 y0 d4 y2 d5 y4) y4 (own_t3 d6 y0 d7 y2 d8 y4))) := (own_fma bd_m0 bd_f bd55 (by decide) (by decide) (by decide) (by decide))
  refine g_dadd (FP.l2d (m0 + f * (own_t3 y0 (own_t3 d0 y0 d1 y2 d2 y4) y2 (own_t3 d3 y0 d4 y2 d5 y4) y4 (own_t3 d6 y0 d7 y2 d8 y4)))) C X48 d2_95 (nn_w F57) F57 (g_dastore C X48 f56 hn d2_96 (by decide) (by decide) (Nat.le_of_ble_eq_true rfl) (.double (FP.l2d (m0 + f * (own_t3 y0 (own_t3 d0 y0 d1 y2 d2 y4) y2 (own_t3 d3 y0 d4 y2 d5 y4) y4 (own_t3 d6 y0 d7 y2 d8 y4))))) rfl (fun T58 h58 X58 W58 V58 => ?_))
  have V58_mx : Arv Z h58 mx km .double (4 : Int32) [(.double (FP.l2d (m0 + f * (own_t3 y0 (own_t3 d0 y0 d1 y2 d2 y4) y2 (own_t3 d3 y0 d4 y2 d5 y4) y4 (own_t3 d6 y0 d7 y2 d8 y4))))), (.double (FP.l2d m1)), (.double (FP.l2d m2)), (.double (FP.l2d m3))] (.double 0) := V58
  refine g_iinc 1 C X58 d2_97 rfl rfl (l' := #[.val (.ref mx), .val (.ref sr), .val (.ref el), .val (.double (FP.l2d f)), .second, .val (.int 2), .val (.ref b48_), .val (.int 0), .val (.int 1), .val (.double (FP.l2d (own_t3 y0 (own_t3 d0 y0 d1 y2 d2 y4) y2 (own_t3 d3 y0 d4 y2 d5 y4) y4 (own_t3 d6 y0 d7 y2 d8 y4)))), .second, .val (.int 3)]) rfl (g_goto C X58 d2_100 (g_iload C X58 d2_28 rfl (g_iload C X58 d2_30 rfl (g_icmpn (hI_ge _ _) C X58 d2_32 (fun q => absurd (by decide) q) (fun _ => ?_)))))
  refine g_dconst0 C X58 d2_35 (g_dstore C X58 d2_36 (l' := #[.val (.ref mx), .val (.ref sr), .val (.ref el), .val (.double (FP.l2d f)), .second, .val (.int 2), .val (.ref b48_), .val (.int 0), .val (.int 1), .val (.double 0), .second, .val (.int 3)]) rfl (g_iconst 0 C X58 d2_38 rfl (g_istore C X58 d2_39 (l' := #[.val (.ref mx), .val (.ref sr), .val (.ref el), .val (.double (FP.l2d f)), .second, .val (.int 2), .val (.ref b48_), .val (.int 0), .val (.int 1), .val (.double 0), .second, .val (.int 0)]) rfl (g_iload C X58 d2_41 rfl (g_iconst 3 C X58 d2_43 rfl (g_icmpn (hI_ge _ _) C X58 d2_44 (fun q => absurd (by decide) q) (fun _ => ?_)))))))
  refine g_dload C X58 d2_47 rfl (g_aloadN C X58 d2_49 rfl rfl (g_iload C X58 d2_50 rfl (g_iload C X58 d2_52 rfl (g_imul C X58 d2_54 (g_iload C X58 d2_55 rfl (g_iadd C X58 d2_57 ?_))))))
  have f59 := (Arv.other f52 W58 (Ne.symm ne1))
  refine g_daload C X58 f59 d2_58 (by decide) (by decide) rfl (g_aload C X58 d2_59 rfl rfl (g_iload C X58 d2_61 rfl (g_iload C X58 d2_63 rfl (g_imul C X58 d2_65 (g_iload C X58 d2_66 rfl (g_iadd C X58 d2_68 ?_))))))
  have f60 := (Arv.other V48 W58 (Nat.ne_of_gt lt49))
  refine g_daload C X58 f60 d2_69 (by decide) (by decide) rfl (g_dmul (FP.dmul (FP.l2d y0) (FP.l2d (own_t3 d0 y1 d1 y3 d2 y5))) C X58 d2_70 (own_nnm _ _) rfl ?_)
  have bd61 : Bd 402653184 (own_t1 y0 (own_t3 d0 y1 d1 y3 d2 y5)) := own_bd 402653184 own_b0 bd_y0 bs_0_1 (by decide) (by decide)
  have F61 : _ = FP.l2d (own_t1 y0 (own_t3 d0 y1 d1 y3 d2 y5)) := (own_f0 bd_y0 bs_0_1 (by decide) (by decide) (by decide))
  refine g_dadd (FP.l2d (own_t1 y0 (own_t3 d0 y1 d1 y3 d2 y5))) C X58 d2_71 (nn_w F61) F61 (g_dstore C X58 d2_72 (l' := #[.val (.ref mx), .val (.ref sr), .val (.ref el), .val (.double (FP.l2d f)), .second, .val (.int 2), .val (.ref b48_), .val (.int 0), .val (.int 1), .val (.double (FP.l2d (own_t1 y0 (own_t3 d0 y1 d1 y3 d2 y5)))), .second, .val (.int 0)]) rfl (g_iinc 1 C X58 d2_74 rfl rfl (l' := #[.val (.ref mx), .val (.ref sr), .val (.ref el), .val (.double (FP.l2d f)), .second, .val (.int 2), .val (.ref b48_), .val (.int 0), .val (.int 1), .val (.double (FP.l2d (own_t1 y0 (own_t3 d0 y1 d1 y3 d2 y5)))), .second, .val (.int 1)]) rfl (g_goto C X58 d2_77 (g_iload C X58 d2_41 rfl (g_iconst 3 C X58 d2_43 rfl (g_icmpn (hI_ge _ _) C X58 d2_44 (fun q => absurd (by decide) q) (fun _ => ?_)))))))
  refine g_dload C X58 d2_47 rfl (g_aloadN C X58 d2_49 rfl rfl (g_iload C X58 d2_50 rfl (g_iload C X58 d2_52 rfl (g_imul C X58 d2_54 (g_iload C X58 d2_55 rfl (g_iadd C X58 d2_57 (g_daload C X58 f59 d2_58 (by decide) (by decide) rfl (g_aload C X58 d2_59 rfl rfl (g_iload C X58 d2_61 rfl (g_iload C X58 d2_63 rfl (g_imul C X58 d2_65 ?_)))))))))))
  refine g_iload C X58 d2_66 rfl (g_iadd C X58 d2_68 (g_daload C X58 f60 d2_69 (by decide) (by decide) rfl (g_dmul (FP.dmul (FP.l2d y2) (FP.l2d (own_t3 d3 y1 d4 y3 d5 y5))) C X58 d2_70 (own_nnm _ _) rfl ?_)))
  have bd62 : Bd 805306368 (own_t2 y0 (own_t3 d0 y1 d1 y3 d2 y5) y2 (own_t3 d3 y1 d4 y3 d5 y5)) := own_bd 805306368 bd61 bd_y2 bs_1_1 (by decide) (by decide)
  have F62 : _ = FP.l2d (own_t2 y0 (own_t3 d0 y1 d1 y3 d2 y5) y2 (own_t3 d3 y1 d4 y3 d5 y5)) := (own_fma bd61 bd_y2 bs_1_1 (by decide) (by decide) (by decide) (by decide))
  refine g_dadd (FP.l2d (own_t2 y0 (own_t3 d0 y1 d1 y3 d2 y5) y2 (own_t3 d3 y1 d4 y3 d5 y5))) C X58 d2_71 (nn_w F62) F62 (g_dstore C X58 d2_72 (l' := #[.val (.ref mx), .val (.ref sr), .val (.ref el), .val (.double (FP.l2d f)), .second, .val (.int 2), .val (.ref b48_), .val (.int 0), .val (.int 1), .val (.double (FP.l2d (own_t2 y0 (own_t3 d0 y1 d1 y3 d2 y5) y2 (own_t3 d3 y1 d4 y3 d5 y5)))), .second, .val (.int 1)]) rfl (g_iinc 1 C X58 d2_74 rfl rfl (l' := #[.val (.ref mx), .val (.ref sr), .val (.ref el), .val (.double (FP.l2d f)), .second, .val (.int 2), .val (.ref b48_), .val (.int 0), .val (.int 1), .val (.double (FP.l2d (own_t2 y0 (own_t3 d0 y1 d1 y3 d2 y5) y2 (own_t3 d3 y1 d4 y3 d5 y5)))), .second, .val (.int 2)]) rfl (g_goto C X58 d2_77 (g_iload C X58 d2_41 rfl (g_iconst 3 C X58 d2_43 rfl (g_icmpn (hI_ge _ _) C X58 d2_44 (fun q => absurd (by decide) q) (fun _ => ?_)))))))
  refine g_dload C X58 d2_47 rfl (g_aloadN C X58 d2_49 rfl rfl (g_iload C X58 d2_50 rfl (g_iload C X58 d2_52 rfl (g_imul C X58 d2_54 (g_iload C X58 d2_55 rfl (g_iadd C X58 d2_57 (g_daload C X58 f59 d2_58 (by decide) (by decide) rfl (g_aload C X58 d2_59 rfl rfl (g_iload C X58 d2_61 rfl (g_iload C X58 d2_63 rfl (g_imul C X58 d2_65 ?_)))))))))))
  refine g_iload C X58 d2_66 rfl (g_iadd C X58 d2_68 (g_daload C X58 f60 d2_69 (by decide) (by decide) rfl (g_dmul (FP.dmul (FP.l2d y4) (FP.l2d (own_t3 d6 y1 d7 y3 d8 y5))) C X58 d2_70 (own_nnm _ _) rfl ?_)))
  have bd63 : Bd 1207959552 (own_t3 y0 (own_t3 d0 y1 d1 y3 d2 y5) y2 (own_t3 d3 y1 d4 y3 d5 y5) y4 (own_t3 d6 y1 d7 y3 d8 y5)) := own_bd 1207959552 bd62 bd_y4 bs_2_1 (by decide) (by decide)
  have F63 : _ = FP.l2d (own_t3 y0 (own_t3 d0 y1 d1 y3 d2 y5) y2 (own_t3 d3 y1 d4 y3 d5 y5) y4 (own_t3 d6 y1 d7 y3 d8 y5)) := (own_fma bd62 bd_y4 bs_2_1 (by decide) (by decide) (by decide) (by decide))
  refine g_dadd (FP.l2d (own_t3 y0 (own_t3 d0 y1 d1 y3 d2 y5) y2 (own_t3 d3 y1 d4 y3 d5 y5) y4 (own_t3 d6 y1 d7 y3 d8 y5))) C X58 d2_71 (nn_w F63) F63 (g_dstore C X58 d2_72 (l' := #[.val (.ref mx), .val (.ref sr), .val (.ref el), .val (.double (FP.l2d f)), .second, .val (.int 2), .val (.ref b48_), .val (.int 0), .val (.int 1), .val (.double (FP.l2d (own_t3 y0 (own_t3 d0 y1 d1 y3 d2 y5) y2 (own_t3 d3 y1 d4 y3 d5 y5) y4 (own_t3 d6 y1 d7 y3 d8 y5)))), .second, .val (.int 2)]) rfl (g_iinc 1 C X58 d2_74 rfl rfl (l' := #[.val (.ref mx), .val (.ref sr), .val (.ref el), .val (.double (FP.l2d f)), .second, .val (.int 2), .val (.ref b48_), .val (.int 0), .val (.int 1), .val (.double (FP.l2d (own_t3 y0 (own_t3 d0 y1 d1 y3 d2 y5) y2 (own_t3 d3 y1 d4 y3 d5 y5) y4 (own_t3 d6 y1 d7 y3 d8 y5)))), .second, .val (.int 3)]) rfl (g_goto C X58 d2_77 (g_iload C X58 d2_41 rfl (g_iconst 3 C X58 d2_43 rfl (g_icmpn (hI_ge _ _) C X58 d2_44 (fun _ => ?_) (fun q => absurd q (by decide))))))))
  refine g_aloadN C X58 d2_80 rfl rfl (g_iload C X58 d2_81 rfl (g_iload C X58 d2_83 rfl (g_imul C X58 d2_85 (g_iload C X58 d2_86 rfl (g_iadd C X58 d2_88 (g_dup2 C X58 d2_89 rfl rfl (g_daload C X58 V58_mx d2_90 (by decide) (by decide) rfl (g_dloadN C X58 d2_91 rfl (g_dload C X58 d2_92 rfl (g_dmul (FP.dmul (FP.l2d f) (FP.l2d (own_t3 y0 (own_t3 d0 y1 d1 y3 d2 y5) y2 (own_t3 d3 y1 d4 y3 d5 y5) y4 (own_t3 d6 y1 d7 y3 d8 y5)))) C X58 d2_94 (own_nnm _ _) rfl ?_))))))))))
  have bd64 : Bd 620622774272 (m1 + f * (own_t3 y0 (own_t3 d0 y1 d1 y3 d2 y5) y2 (own_t3 d3 y1 d4 y3 d5 y5) y4 (own_t3 d6 y1 d7 y3 d8 y5))) := own_bd 620622774272 bd_m1 bd_f bd63 (by decide) (by decide)
  have F64 : _ = FP.l2d (m1 + f * (own_t3 y0 (own_t3 d0 y1 d1 y3 d2 y5) y2 (own_t3 d3 y1 d4 y3 d5 y5) y4 (own_t3 d6 y1 d7 y3 d8 y5))) := (own_fma bd_m1 bd_f bd63 (by decide) (by decide) (by decide) (by decide))
  refine g_dadd (FP.l2d (m1 + f * (own_t3 y0 (own_t3 d0 y1 d1 y3 d2 y5) y2 (own_t3 d3 y1 d4 y3 d5 y5) y4 (own_t3 d6 y1 d7 y3 d8 y5)))) C X58 d2_95 (nn_w F64) F64 (g_dastore C X58 V58_mx hn d2_96 (by decide) (by decide) (Nat.le_of_ble_eq_true rfl) (.double (FP.l2d (m1 + f * (own_t3 y0 (own_t3 d0 y1 d1 y3 d2 y5) y2 (own_t3 d3 y1 d4 y3 d5 y5) y4 (own_t3 d6 y1 d7 y3 d8 y5))))) rfl (fun T65 h65 X65 W65 V65 => ?_))
  have V65_mx : Arv Z h65 mx km .double (4 : Int32) [(.double (FP.l2d (m0 + f * (own_t3 y0 (own_t3 d0 y0 d1 y2 d2 y4) y2 (own_t3 d3 y0 d4 y2 d5 y4) y4 (own_t3 d6 y0 d7 y2 d8 y4))))), (.double (FP.l2d (m1 + f * (own_t3 y0 (own_t3 d0 y1 d1 y3 d2 y5) y2 (own_t3 d3 y1 d4 y3 d5 y5) y4 (own_t3 d6 y1 d7 y3 d8 y5))))), (.double (FP.l2d m2)), (.double (FP.l2d m3))] (.double 0) := V65
  refine g_iinc 1 C X65 d2_97 rfl rfl (l' := #[.val (.ref mx), .val (.ref sr), .val (.ref el), .val (.double (FP.l2d f)), .second, .val (.int 2), .val (.ref b48_), .val (.int 0), .val (.int 2), .val (.double (FP.l2d (own_t3 y0 (own_t3 d0 y1 d1 y3 d2 y5) y2 (own_t3 d3 y1 d4 y3 d5 y5) y4 (own_t3 d6 y1 d7 y3 d8 y5)))), .second, .val (.int 3)]) rfl (g_goto C X65 d2_100 (g_iload C X65 d2_28 rfl (g_iload C X65 d2_30 rfl (g_icmpn (hI_ge _ _) C X65 d2_32 (fun _ => ?_) (fun q => absurd q (by decide))))))
  refine g_iinc 1 C X65 d2_103 rfl rfl (l' := #[.val (.ref mx), .val (.ref sr), .val (.ref el), .val (.double (FP.l2d f)), .second, .val (.int 2), .val (.ref b48_), .val (.int 1), .val (.int 2), .val (.double (FP.l2d (own_t3 y0 (own_t3 d0 y1 d1 y3 d2 y5) y2 (own_t3 d3 y1 d4 y3 d5 y5) y4 (own_t3 d6 y1 d7 y3 d8 y5)))), .second, .val (.int 3)]) rfl (g_goto C X65 d2_106 (g_iload C X65 d2_18 rfl (g_iload C X65 d2_20 rfl (g_icmpn (hI_ge _ _) C X65 d2_22 (fun q => absurd (by decide) q) (fun _ => ?_)))))
  refine g_iconst 0 C X65 d2_25 rfl (g_istore C X65 d2_26 (l' := #[.val (.ref mx), .val (.ref sr), .val (.ref el), .val (.double (FP.l2d f)), .second, .val (.int 2), .val (.ref b48_), .val (.int 1), .val (.int 0), .val (.double (FP.l2d (own_t3 y0 (own_t3 d0 y1 d1 y3 d2 y5) y2 (own_t3 d3 y1 d4 y3 d5 y5) y4 (own_t3 d6 y1 d7 y3 d8 y5)))), .second, .val (.int 3)]) rfl (g_iload C X65 d2_28 rfl (g_iload C X65 d2_30 rfl (g_icmpn (hI_ge _ _) C X65 d2_32 (fun q => absurd (by decide) q) (fun _ => ?_)))))
  refine g_dconst0 C X65 d2_35 (g_dstore C X65 d2_36 (l' := #[.val (.ref mx), .val (.ref sr), .val (.ref el), .val (.double (FP.l2d f)), .second, .val (.int 2), .val (.ref b48_), .val (.int 1), .val (.int 0), .val (.double 0), .second, .val (.int 3)]) rfl (g_iconst 0 C X65 d2_38 rfl (g_istore C X65 d2_39 (l' := #[.val (.ref mx), .val (.ref sr), .val (.ref el), .val (.double (FP.l2d f)), .second, .val (.int 2), .val (.ref b48_), .val (.int 1), .val (.int 0), .val (.double 0), .second, .val (.int 0)]) rfl (g_iload C X65 d2_41 rfl (g_iconst 3 C X65 d2_43 rfl (g_icmpn (hI_ge _ _) C X65 d2_44 (fun q => absurd (by decide) q) (fun _ => ?_)))))))
  refine g_dload C X65 d2_47 rfl (g_aloadN C X65 d2_49 rfl rfl (g_iload C X65 d2_50 rfl (g_iload C X65 d2_52 rfl (g_imul C X65 d2_54 (g_iload C X65 d2_55 rfl (g_iadd C X65 d2_57 ?_))))))
  have f66 := (Arv.other f59 W65 (Ne.symm ne1))
  refine g_daload C X65 f66 d2_58 (by decide) (by decide) rfl (g_aload C X65 d2_59 rfl rfl (g_iload C X65 d2_61 rfl (g_iload C X65 d2_63 rfl (g_imul C X65 d2_65 (g_iload C X65 d2_66 rfl (g_iadd C X65 d2_68 ?_))))))
  have f67 := (Arv.other f60 W65 (Nat.ne_of_gt lt49))
  refine g_daload C X65 f67 d2_69 (by decide) (by decide) rfl (g_dmul (FP.dmul (FP.l2d y1) (FP.l2d (own_t3 d0 y0 d1 y2 d2 y4))) C X65 d2_70 (own_nnm _ _) rfl ?_)
  have bd68 : Bd 402653184 (own_t1 y1 (own_t3 d0 y0 d1 y2 d2 y4)) := own_bd 402653184 own_b0 bd_y1 bs_0_0 (by decide) (by decide)
  have F68 : _ = FP.l2d (own_t1 y1 (own_t3 d0 y0 d1 y2 d2 y4)) := (own_f0 bd_y1 bs_0_0 (by decide) (by decide) (by decide))
  refine g_dadd (FP.l2d (own_t1 y1 (own_t3 d0 y0 d1 y2 d2 y4))) C X65 d2_71 (nn_w F68) F68 (g_dstore C X65 d2_72 (l' := #[.val (.ref mx), .val (.ref sr), .val (.ref el), .val (.double (FP.l2d f)), .second, .val (.int 2), .val (.ref b48_), .val (.int 1), .val (.int 0), .val (.double (FP.l2d (own_t1 y1 (own_t3 d0 y0 d1 y2 d2 y4)))), .second, .val (.int 0)]) rfl (g_iinc 1 C X65 d2_74 rfl rfl (l' := #[.val (.ref mx), .val (.ref sr), .val (.ref el), .val (.double (FP.l2d f)), .second, .val (.int 2), .val (.ref b48_), .val (.int 1), .val (.int 0), .val (.double (FP.l2d (own_t1 y1 (own_t3 d0 y0 d1 y2 d2 y4)))), .second, .val (.int 1)]) rfl (g_goto C X65 d2_77 (g_iload C X65 d2_41 rfl (g_iconst 3 C X65 d2_43 rfl (g_icmpn (hI_ge _ _) C X65 d2_44 (fun q => absurd (by decide) q) (fun _ => ?_)))))))
  refine g_dload C X65 d2_47 rfl (g_aloadN C X65 d2_49 rfl rfl (g_iload C X65 d2_50 rfl (g_iload C X65 d2_52 rfl (g_imul C X65 d2_54 (g_iload C X65 d2_55 rfl (g_iadd C X65 d2_57 (g_daload C X65 f66 d2_58 (by decide) (by decide) rfl (g_aload C X65 d2_59 rfl rfl (g_iload C X65 d2_61 rfl (g_iload C X65 d2_63 rfl (g_imul C X65 d2_65 ?_)))))))))))
  refine g_iload C X65 d2_66 rfl (g_iadd C X65 d2_68 (g_daload C X65 f67 d2_69 (by decide) (by decide) rfl (g_dmul (FP.dmul (FP.l2d y3) (FP.l2d (own_t3 d3 y0 d4 y2 d5 y4))) C X65 d2_70 (own_nnm _ _) rfl ?_)))
  have bd69 : Bd 805306368 (own_t2 y1 (own_t3 d0 y0 d1 y2 d2 y4) y3 (own_t3 d3 y0 d4 y2 d5 y4)) := own_bd 805306368 bd68 bd_y3 bs_1_0 (by decide) (by decide)
  have F69 : _ = FP.l2d (own_t2 y1 (own_t3 d0 y0 d1 y2 d2 y4) y3 (own_t3 d3 y0 d4 y2 d5 y4)) := (own_fma bd68 bd_y3 bs_1_0 (by decide) (by decide) (by decide) (by decide))
  refine g_dadd (FP.l2d (own_t2 y1 (own_t3 d0 y0 d1 y2 d2 y4) y3 (own_t3 d3 y0 d4 y2 d5 y4))) C X65 d2_71 (nn_w F69) F69 (g_dstore C X65 d2_72 (l' := #[.val (.ref mx), .val (.ref sr), .val (.ref el), .val (.double (FP.l2d f)), .second, .val (.int 2), .val (.ref b48_), .val (.int 1), .val (.int 0), .val (.double (FP.l2d (own_t2 y1 (own_t3 d0 y0 d1 y2 d2 y4) y3 (own_t3 d3 y0 d4 y2 d5 y4)))), .second, .val (.int 1)]) rfl (g_iinc 1 C X65 d2_74 rfl rfl (l' := #[.val (.ref mx), .val (.ref sr), .val (.ref el), .val (.double (FP.l2d f)), .second, .val (.int 2), .val (.ref b48_), .val (.int 1), .val (.int 0), .val (.double (FP.l2d (own_t2 y1 (own_t3 d0 y0 d1 y2 d2 y4) y3 (own_t3 d3 y0 d4 y2 d5 y4)))), .second, .val (.int 2)]) rfl (g_goto C X65 d2_77 (g_iload C X65 d2_41 rfl (g_iconst 3 C X65 d2_43 rfl (g_icmpn (hI_ge _ _) C X65 d2_44 (fun q => absurd (by decide) q) (fun _ => ?_)))))))
  refine g_dload C X65 d2_47 rfl (g_aloadN C X65 d2_49 rfl rfl (g_iload C X65 d2_50 rfl (g_iload C X65 d2_52 rfl (g_imul C X65 d2_54 (g_iload C X65 d2_55 rfl (g_iadd C X65 d2_57 (g_daload C X65 f66 d2_58 (by decide) (by decide) rfl (g_aload C X65 d2_59 rfl rfl (g_iload C X65 d2_61 rfl (g_iload C X65 d2_63 rfl (g_imul C X65 d2_65 ?_)))))))))))
  refine g_iload C X65 d2_66 rfl (g_iadd C X65 d2_68 (g_daload C X65 f67 d2_69 (by decide) (by decide) rfl (g_dmul (FP.dmul (FP.l2d y5) (FP.l2d (own_t3 d6 y0 d7 y2 d8 y4))) C X65 d2_70 (own_nnm _ _) rfl ?_)))
  have bd70 : Bd 1207959552 (own_t3 y1 (own_t3 d0 y0 d1 y2 d2 y4) y3 (own_t3 d3 y0 d4 y2 d5 y4) y5 (own_t3 d6 y0 d7 y2 d8 y4)) := own_bd 1207959552 bd69 bd_y5 bs_2_0 (by decide) (by decide)
  have F70 : _ = FP.l2d (own_t3 y1 (own_t3 d0 y0 d1 y2 d2 y4) y3 (own_t3 d3 y0 d4 y2 d5 y4) y5 (own_t3 d6 y0 d7 y2 d8 y4)) := (own_fma bd69 bd_y5 bs_2_0 (by decide) (by decide) (by decide) (by decide))
  refine g_dadd (FP.l2d (own_t3 y1 (own_t3 d0 y0 d1 y2 d2 y4) y3 (own_t3 d3 y0 d4 y2 d5 y4) y5 (own_t3 d6 y0 d7 y2 d8 y4))) C X65 d2_71 (nn_w F70) F70 (g_dstore C X65 d2_72 (l' := #[.val (.ref mx), .val (.ref sr), .val (.ref el), .val (.double (FP.l2d f)), .second, .val (.int 2), .val (.ref b48_), .val (.int 1), .val (.int 0), .val (.double (FP.l2d (own_t3 y1 (own_t3 d0 y0 d1 y2 d2 y4) y3 (own_t3 d3 y0 d4 y2 d5 y4) y5 (own_t3 d6 y0 d7 y2 d8 y4)))), .second, .val (.int 2)]) rfl (g_iinc 1 C X65 d2_74 rfl rfl (l' := #[.val (.ref mx), .val (.ref sr), .val (.ref el), .val (.double (FP.l2d f)), .second, .val (.int 2), .val (.ref b48_), .val (.int 1), .val (.int 0), .val (.double (FP.l2d (own_t3 y1 (own_t3 d0 y0 d1 y2 d2 y4) y3 (own_t3 d3 y0 d4 y2 d5 y4) y5 (own_t3 d6 y0 d7 y2 d8 y4)))), .second, .val (.int 3)]) rfl (g_goto C X65 d2_77 (g_iload C X65 d2_41 rfl (g_iconst 3 C X65 d2_43 rfl (g_icmpn (hI_ge _ _) C X65 d2_44 (fun _ => ?_) (fun q => absurd q (by decide))))))))
  refine g_aloadN C X65 d2_80 rfl rfl (g_iload C X65 d2_81 rfl (g_iload C X65 d2_83 rfl (g_imul C X65 d2_85 (g_iload C X65 d2_86 rfl (g_iadd C X65 d2_88 (g_dup2 C X65 d2_89 rfl rfl (g_daload C X65 V65_mx d2_90 (by decide) (by decide) rfl (g_dloadN C X65 d2_91 rfl (g_dload C X65 d2_92 rfl (g_dmul (FP.dmul (FP.l2d f) (FP.l2d (own_t3 y1 (own_t3 d0 y0 d1 y2 d2 y4) y3 (own_t3 d3 y0 d4 y2 d5 y4) y5 (own_t3 d6 y0 d7 y2 d8 y4)))) C X65 d2_94 (own_nnm _ _) rfl ?_))))))))))
  have bd71 : Bd 620622774272 (m2 + f * (own_t3 y1 (own_t3 d0 y0 d1 y2 d2 y4) y3 (own_t3 d3 y0 d4 y2 d5 y4) y5 (own_t3 d6 y0 d7 y2 d8 y4))) := own_bd 620622774272 bd_m2 bd_f bd70 (by decide) (by decide)
  have F71 : _ = FP.l2d (m2 + f * (own_t3 y1 (own_t3 d0 y0 d1 y2 d2 y4) y3 (own_t3 d3 y0 d4 y2 d5 y4) y5 (own_t3 d6 y0 d7 y2 d8 y4))) := (own_fma bd_m2 bd_f bd70 (by decide) (by decide) (by decide) (by decide))
  refine g_dadd (FP.l2d (m2 + f * (own_t3 y1 (own_t3 d0 y0 d1 y2 d2 y4) y3 (own_t3 d3 y0 d4 y2 d5 y4) y5 (own_t3 d6 y0 d7 y2 d8 y4)))) C X65 d2_95 (nn_w F71) F71 (g_dastore C X65 V65_mx hn d2_96 (by decide) (by decide) (Nat.le_of_ble_eq_true rfl) (.double (FP.l2d (m2 + f * (own_t3 y1 (own_t3 d0 y0 d1 y2 d2 y4) y3 (own_t3 d3 y0 d4 y2 d5 y4) y5 (own_t3 d6 y0 d7 y2 d8 y4))))) rfl (fun T72 h72 X72 W72 V72 => ?_))
  have V72_mx : Arv Z h72 mx km .double (4 : Int32) [(.double (FP.l2d (m0 + f * (own_t3 y0 (own_t3 d0 y0 d1 y2 d2 y4) y2 (own_t3 d3 y0 d4 y2 d5 y4) y4 (own_t3 d6 y0 d7 y2 d8 y4))))), (.double (FP.l2d (m1 + f * (own_t3 y0 (own_t3 d0 y1 d1 y3 d2 y5) y2 (own_t3 d3 y1 d4 y3 d5 y5) y4 (own_t3 d6 y1 d7 y3 d8 y5))))), (.double (FP.l2d (m2 + f * (own_t3 y1 (own_t3 d0 y0 d1 y2 d2 y4) y3 (own_t3 d3 y0 d4 y2 d5 y4) y5 (own_t3 d6 y0 d7 y2 d8 y4))))), (.double (FP.l2d m3))] (.double 0) := V72
  refine g_iinc 1 C X72 d2_97 rfl rfl (l' := #[.val (.ref mx), .val (.ref sr), .val (.ref el), .val (.double (FP.l2d f)), .second, .val (.int 2), .val (.ref b48_), .val (.int 1), .val (.int 1), .val (.double (FP.l2d (own_t3 y1 (own_t3 d0 y0 d1 y2 d2 y4) y3 (own_t3 d3 y0 d4 y2 d5 y4) y5 (own_t3 d6 y0 d7 y2 d8 y4)))), .second, .val (.int 3)]) rfl (g_goto C X72 d2_100 (g_iload C X72 d2_28 rfl (g_iload C X72 d2_30 rfl (g_icmpn (hI_ge _ _) C X72 d2_32 (fun q => absurd (by decide) q) (fun _ => ?_)))))
  refine g_dconst0 C X72 d2_35 (g_dstore C X72 d2_36 (l' := #[.val (.ref mx), .val (.ref sr), .val (.ref el), .val (.double (FP.l2d f)), .second, .val (.int 2), .val (.ref b48_), .val (.int 1), .val (.int 1), .val (.double 0), .second, .val (.int 3)]) rfl (g_iconst 0 C X72 d2_38 rfl (g_istore C X72 d2_39 (l' := #[.val (.ref mx), .val (.ref sr), .val (.ref el), .val (.double (FP.l2d f)), .second, .val (.int 2), .val (.ref b48_), .val (.int 1), .val (.int 1), .val (.double 0), .second, .val (.int 0)]) rfl (g_iload C X72 d2_41 rfl (g_iconst 3 C X72 d2_43 rfl (g_icmpn (hI_ge _ _) C X72 d2_44 (fun q => absurd (by decide) q) (fun _ => ?_)))))))
  refine g_dload C X72 d2_47 rfl (g_aloadN C X72 d2_49 rfl rfl (g_iload C X72 d2_50 rfl (g_iload C X72 d2_52 rfl (g_imul C X72 d2_54 (g_iload C X72 d2_55 rfl (g_iadd C X72 d2_57 ?_))))))
  have f73 := (Arv.other f66 W72 (Ne.symm ne1))
  refine g_daload C X72 f73 d2_58 (by decide) (by decide) rfl (g_aload C X72 d2_59 rfl rfl (g_iload C X72 d2_61 rfl (g_iload C X72 d2_63 rfl (g_imul C X72 d2_65 (g_iload C X72 d2_66 rfl (g_iadd C X72 d2_68 ?_))))))
  have f74 := (Arv.other f67 W72 (Nat.ne_of_gt lt49))
  refine g_daload C X72 f74 d2_69 (by decide) (by decide) rfl (g_dmul (FP.dmul (FP.l2d y1) (FP.l2d (own_t3 d0 y1 d1 y3 d2 y5))) C X72 d2_70 (own_nnm _ _) rfl ?_)
  have bd75 : Bd 402653184 (own_t1 y1 (own_t3 d0 y1 d1 y3 d2 y5)) := own_bd 402653184 own_b0 bd_y1 bs_0_1 (by decide) (by decide)
  have F75 : _ = FP.l2d (own_t1 y1 (own_t3 d0 y1 d1 y3 d2 y5)) := (own_f0 bd_y1 bs_0_1 (by decide) (by decide) (by decide))
  refine g_dadd (FP.l2d (own_t1 y1 (own_t3 d0 y1 d1 y3 d2 y5))) C X72 d2_71 (nn_w F75) F75 (g_dstore C X72 d2_72 (l' := #[.val (.ref mx), .val (.ref sr), .val (.ref el), .val (.double (FP.l2d f)), .second, .val (.int 2), .val (.ref b48_), .val (.int 1), .val (.int 1), .val (.double (FP.l2d (own_t1 y1 (own_t3 d0 y1 d1 y3 d2 y5)))), .second, .val (.int 0)]) rfl (g_iinc 1 C X72 d2_74 rfl rfl (l' := #[.val (.ref mx), .val (.ref sr), .val (.ref el), .val (.double (FP.l2d f)), .second, .val (.int 2), .val (.ref b48_), .val (.int 1), .val (.int 1), .val (.double (FP.l2d (own_t1 y1 (own_t3 d0 y1 d1 y3 d2 y5)))), .second, .val (.int 1)]) rfl (g_goto C X72 d2_77 (g_iload C X72 d2_41 rfl (g_iconst 3 C X72 d2_43 rfl (g_icmpn (hI_ge _ _) C X72 d2_44 (fun q => absurd (by decide) q) (fun _ => ?_)))))))
  refine g_dload C X72 d2_47 rfl (g_aloadN C X72 d2_49 rfl rfl (g_iload C X72 d2_50 rfl (g_iload C X72 d2_52 rfl (g_imul C X72 d2_54 (g_iload C X72 d2_55 rfl (g_iadd C X72 d2_57 (g_daload C X72 f73 d2_58 (by decide) (by decide) rfl (g_aload C X72 d2_59 rfl rfl (g_iload C X72 d2_61 rfl (g_iload C X72 d2_63 rfl (g_imul C X72 d2_65 ?_)))))))))))
  refine g_iload C X72 d2_66 rfl (g_iadd C X72 d2_68 (g_daload C X72 f74 d2_69 (by decide) (by decide) rfl (g_dmul (FP.dmul (FP.l2d y3) (FP.l2d (own_t3 d3 y1 d4 y3 d5 y5))) C X72 d2_70 (own_nnm _ _) rfl ?_)))
  have bd76 : Bd 805306368 (own_t2 y1 (own_t3 d0 y1 d1 y3 d2 y5) y3 (own_t3 d3 y1 d4 y3 d5 y5)) := own_bd 805306368 bd75 bd_y3 bs_1_1 (by decide) (by decide)
  have F76 : _ = FP.l2d (own_t2 y1 (own_t3 d0 y1 d1 y3 d2 y5) y3 (own_t3 d3 y1 d4 y3 d5 y5)) := (own_fma bd75 bd_y3 bs_1_1 (by decide) (by decide) (by decide) (by decide))
  refine g_dadd (FP.l2d (own_t2 y1 (own_t3 d0 y1 d1 y3 d2 y5) y3 (own_t3 d3 y1 d4 y3 d5 y5))) C X72 d2_71 (nn_w F76) F76 (g_dstore C X72 d2_72 (l' := #[.val (.ref mx), .val (.ref sr), .val (.ref el), .val (.double (FP.l2d f)), .second, .val (.int 2), .val (.ref b48_), .val (.int 1), .val (.int 1), .val (.double (FP.l2d (own_t2 y1 (own_t3 d0 y1 d1 y3 d2 y5) y3 (own_t3 d3 y1 d4 y3 d5 y5)))), .second, .val (.int 1)]) rfl (g_iinc 1 C X72 d2_74 rfl rfl (l' := #[.val (.ref mx), .val (.ref sr), .val (.ref el), .val (.double (FP.l2d f)), .second, .val (.int 2), .val (.ref b48_), .val (.int 1), .val (.int 1), .val (.double (FP.l2d (own_t2 y1 (own_t3 d0 y1 d1 y3 d2 y5) y3 (own_t3 d3 y1 d4 y3 d5 y5)))), .second, .val (.int 2)]) rfl (g_goto C X72 d2_77 (g_iload C X72 d2_41 rfl (g_iconst 3 C X72 d2_43 rfl (g_icmpn (hI_ge _ _) C X72 d2_44 (fun q => absurd (by decide) q) (fun _ => ?_)))))))
  refine g_dload C X72 d2_47 rfl (g_aloadN C X72 d2_49 rfl rfl (g_iload C X72 d2_50 rfl (g_iload C X72 d2_52 rfl (g_imul C X72 d2_54 (g_iload C X72 d2_55 rfl (g_iadd C X72 d2_57 (g_daload C X72 f73 d2_58 (by decide) (by decide) rfl (g_aload C X72 d2_59 rfl rfl (g_iload C X72 d2_61 rfl (g_iload C X72 d2_63 rfl (g_imul C X72 d2_65 ?_)))))))))))
  refine g_iload C X72 d2_66 rfl (g_iadd C X72 d2_68 (g_daload C X72 f74 d2_69 (by decide) (by decide) rfl (g_dmul (FP.dmul (FP.l2d y5) (FP.l2d (own_t3 d6 y1 d7 y3 d8 y5))) C X72 d2_70 (own_nnm _ _) rfl ?_)))
  have bd77 : Bd 1207959552 (own_t3 y1 (own_t3 d0 y1 d1 y3 d2 y5) y3 (own_t3 d3 y1 d4 y3 d5 y5) y5 (own_t3 d6 y1 d7 y3 d8 y5)) := own_bd 1207959552 bd76 bd_y5 bs_2_1 (by decide) (by decide)
  have F77 : _ = FP.l2d (own_t3 y1 (own_t3 d0 y1 d1 y3 d2 y5) y3 (own_t3 d3 y1 d4 y3 d5 y5) y5 (own_t3 d6 y1 d7 y3 d8 y5)) := (own_fma bd76 bd_y5 bs_2_1 (by decide) (by decide) (by decide) (by decide))
  refine g_dadd (FP.l2d (own_t3 y1 (own_t3 d0 y1 d1 y3 d2 y5) y3 (own_t3 d3 y1 d4 y3 d5 y5) y5 (own_t3 d6 y1 d7 y3 d8 y5))) C X72 d2_71 (nn_w F77) F77 (g_dstore C X72 d2_72 (l' := #[.val (.ref mx), .val (.ref sr), .val (.ref el), .val (.double (FP.l2d f)), .second, .val (.int 2), .val (.ref b48_), .val (.int 1), .val (.int 1), .val (.double (FP.l2d (own_t3 y1 (own_t3 d0 y1 d1 y3 d2 y5) y3 (own_t3 d3 y1 d4 y3 d5 y5) y5 (own_t3 d6 y1 d7 y3 d8 y5)))), .second, .val (.int 2)]) rfl (g_iinc 1 C X72 d2_74 rfl rfl (l' := #[.val (.ref mx), .val (.ref sr), .val (.ref el), .val (.double (FP.l2d f)), .second, .val (.int 2), .val (.ref b48_), .val (.int 1), .val (.int 1), .val (.double (FP.l2d (own_t3 y1 (own_t3 d0 y1 d1 y3 d2 y5) y3 (own_t3 d3 y1 d4 y3 d5 y5) y5 (own_t3 d6 y1 d7 y3 d8 y5)))), .second, .val (.int 3)]) rfl (g_goto C X72 d2_77 (g_iload C X72 d2_41 rfl (g_iconst 3 C X72 d2_43 rfl (g_icmpn (hI_ge _ _) C X72 d2_44 (fun _ => ?_) (fun q => absurd q (by decide))))))))
  refine g_aloadN C X72 d2_80 rfl rfl (g_iload C X72 d2_81 rfl (g_iload C X72 d2_83 rfl (g_imul C X72 d2_85 (g_iload C X72 d2_86 rfl (g_iadd C X72 d2_88 (g_dup2 C X72 d2_89 rfl rfl (g_daload C X72 V72_mx d2_90 (by decide) (by decide) rfl (g_dloadN C X72 d2_91 rfl (g_dload C X72 d2_92 rfl (g_dmul (FP.dmul (FP.l2d f) (FP.l2d (own_t3 y1 (own_t3 d0 y1 d1 y3 d2 y5) y3 (own_t3 d3 y1 d4 y3 d5 y5) y5 (own_t3 d6 y1 d7 y3 d8 y5)))) C X72 d2_94 (own_nnm _ _) rfl ?_))))))))))
  have bd78 : Bd 620622774272 (m3 + f * (own_t3 y1 (own_t3 d0 y1 d1 y3 d2 y5) y3 (own_t3 d3 y1 d4 y3 d5 y5) y5 (own_t3 d6 y1 d7 y3 d8 y5))) := own_bd 620622774272 bd_m3 bd_f bd77 (by decide) (by decide)
  have F78 : _ = FP.l2d (m3 + f * (own_t3 y1 (own_t3 d0 y1 d1 y3 d2 y5) y3 (own_t3 d3 y1 d4 y3 d5 y5) y5 (own_t3 d6 y1 d7 y3 d8 y5))) := (own_fma bd_m3 bd_f bd77 (by decide) (by decide) (by decide) (by decide))
  refine g_dadd (FP.l2d (m3 + f * (own_t3 y1 (own_t3 d0 y1 d1 y3 d2 y5) y3 (own_t3 d3 y1 d4 y3 d5 y5) y5 (own_t3 d6 y1 d7 y3 d8 y5)))) C X72 d2_95 (nn_w F78) F78 (g_dastore C X72 V72_mx hn d2_96 (by decide) (by decide) (Nat.le_of_ble_eq_true rfl) (.double (FP.l2d (m3 + f * (own_t3 y1 (own_t3 d0 y1 d1 y3 d2 y5) y3 (own_t3 d3 y1 d4 y3 d5 y5) y5 (own_t3 d6 y1 d7 y3 d8 y5))))) rfl (fun T79 h79 X79 W79 V79 => ?_))
  have V79_mx : Arv Z h79 mx km .double (4 : Int32) [(.double (FP.l2d (m0 + f * (own_t3 y0 (own_t3 d0 y0 d1 y2 d2 y4) y2 (own_t3 d3 y0 d4 y2 d5 y4) y4 (own_t3 d6 y0 d7 y2 d8 y4))))), (.double (FP.l2d (m1 + f * (own_t3 y0 (own_t3 d0 y1 d1 y3 d2 y5) y2 (own_t3 d3 y1 d4 y3 d5 y5) y4 (own_t3 d6 y1 d7 y3 d8 y5))))), (.double (FP.l2d (m2 + f * (own_t3 y1 (own_t3 d0 y0 d1 y2 d2 y4) y3 (own_t3 d3 y0 d4 y2 d5 y4) y5 (own_t3 d6 y0 d7 y2 d8 y4))))), (.double (FP.l2d (m3 + f * (own_t3 y1 (own_t3 d0 y1 d1 y3 d2 y5) y3 (own_t3 d3 y1 d4 y3 d5 y5) y5 (own_t3 d6 y1 d7 y3 d8 y5)))))] (.double 0) := V79
  refine g_iinc 1 C X79 d2_97 rfl rfl (l' := #[.val (.ref mx), .val (.ref sr), .val (.ref el), .val (.double (FP.l2d f)), .second, .val (.int 2), .val (.ref b48_), .val (.int 1), .val (.int 2), .val (.double (FP.l2d (own_t3 y1 (own_t3 d0 y1 d1 y3 d2 y5) y3 (own_t3 d3 y1 d4 y3 d5 y5) y5 (own_t3 d6 y1 d7 y3 d8 y5)))), .second, .val (.int 3)]) rfl (g_goto C X79 d2_100 (g_iload C X79 d2_28 rfl (g_iload C X79 d2_30 rfl (g_icmpn (hI_ge _ _) C X79 d2_32 (fun _ => ?_) (fun q => absurd q (by decide))))))
  refine g_iinc 1 C X79 d2_103 rfl rfl (l' := #[.val (.ref mx), .val (.ref sr), .val (.ref el), .val (.double (FP.l2d f)), .second, .val (.int 2), .val (.ref b48_), .val (.int 2), .val (.int 2), .val (.double (FP.l2d (own_t3 y1 (own_t3 d0 y1 d1 y3 d2 y5) y3 (own_t3 d3 y1 d4 y3 d5 y5) y5 (own_t3 d6 y1 d7 y3 d8 y5)))), .second, .val (.int 3)]) rfl (g_goto C X79 d2_106 (g_iload C X79 d2_18 rfl (g_iload C X79 d2_20 rfl (g_icmpn (hI_ge _ _) C X79 d2_22 (fun _ => ?_) (fun q => absurd q (by decide))))))
  have kp80 := (Keep.refl h [mx]).ext E48
  have kp81 := kp80.wr W58 (Or.inl (by simp))
  have kp82 := kp81.wr W65 (Or.inl (by simp))
  have kp83 := kp82.wr W72 (Or.inl (by simp))
  have kp84 := kp83.wr W79 (Or.inl (by simp))
  exact g_retV C X79 d2_109 (by decide) (by decide) ⟨rfl, kp84, V79_mx⟩
theorem ef_ren00 (m : MethodId) (pb : Addr) (pd : Addr) : entryFrame m #[(.ref pb), (.ref pd), (.int 0), (.int 0)] 22 = mkF m 0 #[.val (.ref pb), .val (.ref pd), .val (.int 0), .val (.int 0), .unset, .unset, .unset, .unset, .unset, .unset, .unset, .unset, .unset, .unset, .unset, .unset, .unset, .unset, .unset, .unset, .unset, .unset] [] := by first | (simp [entryFrame, mkF, argsToLocals, Value.category]; done) | rfl
theorem d4_0 : Dc method_3_code 0 (.aload_n 0) 1 1 := ⟨by decide +kernel, rfl⟩
theorem d4_1 : Dc method_3_code 1 (.iload_n 2) 1 2 := ⟨by decide +kernel, rfl⟩
theorem d4_2 : Dc method_3_code 2 (.laload) 1 3 := ⟨by decide +kernel, rfl⟩
theorem d4_3 : Dc method_3_code 3 (.lstore 4) 2 5 := ⟨by decide +kernel, rfl⟩
theorem d4_5 : Dc method_3_code 5 (.aload_n 0) 1 6 := ⟨by decide +kernel, rfl⟩
theorem d4_6 : Dc method_3_code 6 (.iconst 2) 1 7 := ⟨by decide +kernel, rfl⟩
theorem d4_7 : Dc method_3_code 7 (.iload_n 2) 1 8 := ⟨by decide +kernel, rfl⟩
theorem d4_8 : Dc method_3_code 8 (.iadd) 1 9 := ⟨by decide +kernel, rfl⟩
theorem d4_9 : Dc method_3_code 9 (.laload) 1 10 := ⟨by decide +kernel, rfl⟩
theorem d4_10 : Dc method_3_code 10 (.lstore 6) 2 12 := ⟨by decide +kernel, rfl⟩
theorem d4_12 : Dc method_3_code 12 (.aload_n 0) 1 13 := ⟨by decide +kernel, rfl⟩
theorem d4_13 : Dc method_3_code 13 (.iconst 4) 1 14 := ⟨by decide +kernel, rfl⟩
theorem d4_14 : Dc method_3_code 14 (.iload_n 2) 1 15 := ⟨by decide +kernel, rfl⟩
theorem d4_15 : Dc method_3_code 15 (.iadd) 1 16 := ⟨by decide +kernel, rfl⟩
theorem d4_16 : Dc method_3_code 16 (.laload) 1 17 := ⟨by decide +kernel, rfl⟩
theorem d4_17 : Dc method_3_code 17 (.lstore 8) 2 19 := ⟨by decide +kernel, rfl⟩
theorem d4_19 : Dc method_3_code 19 (.aload_n 0) 1 20 := ⟨by decide +kernel, rfl⟩
theorem d4_20 : Dc method_3_code 20 (.iload_n 3) 1 21 := ⟨by decide +kernel, rfl⟩
theorem d4_21 : Dc method_3_code 21 (.laload) 1 22 := ⟨by decide +kernel, rfl⟩
theorem d4_22 : Dc method_3_code 22 (.lstore 10) 2 24 := ⟨by decide +kernel, rfl⟩
theorem d4_24 : Dc method_3_code 24 (.aload_n 0) 1 25 := ⟨by decide +kernel, rfl⟩
theorem d4_25 : Dc method_3_code 25 (.iconst 2) 1 26 := ⟨by decide +kernel, rfl⟩
theorem d4_26 : Dc method_3_code 26 (.iload_n 3) 1 27 := ⟨by decide +kernel, rfl⟩
theorem d4_27 : Dc method_3_code 27 (.iadd) 1 28 := ⟨by decide +kernel, rfl⟩
theorem d4_28 : Dc method_3_code 28 (.laload) 1 29 := ⟨by decide +kernel, rfl⟩
theorem d4_29 : Dc method_3_code 29 (.lstore 12) 2 31 := ⟨by decide +kernel, rfl⟩
theorem d4_31 : Dc method_3_code 31 (.aload_n 0) 1 32 := ⟨by decide +kernel, rfl⟩
theorem d4_32 : Dc method_3_code 32 (.iconst 4) 1 33 := ⟨by decide +kernel, rfl⟩
theorem d4_33 : Dc method_3_code 33 (.iload_n 3) 1 34 := ⟨by decide +kernel, rfl⟩
theorem d4_34 : Dc method_3_code 34 (.iadd) 1 35 := ⟨by decide +kernel, rfl⟩
theorem d4_35 : Dc method_3_code 35 (.laload) 1 36 := ⟨by decide +kernel, rfl⟩
theorem d4_36 : Dc method_3_code 36 (.lstore 14) 2 38 := ⟨by decide +kernel, rfl⟩
theorem d4_38 : Dc method_3_code 38 (.lload 4) 2 40 := ⟨by decide +kernel, rfl⟩
theorem d4_40 : Dc method_3_code 40 (.aload_n 1) 1 41 := ⟨by decide +kernel, rfl⟩
theorem d4_41 : Dc method_3_code 41 (.iconst 0) 1 42 := ⟨by decide +kernel, rfl⟩
theorem d4_42 : Dc method_3_code 42 (.laload) 1 43 := ⟨by decide +kernel, rfl⟩
theorem d4_43 : Dc method_3_code 43 (.lmul) 1 44 := ⟨by decide +kernel, rfl⟩
theorem d4_44 : Dc method_3_code 44 (.lload 6) 2 46 := ⟨by decide +kernel, rfl⟩
theorem d4_46 : Dc method_3_code 46 (.aload_n 1) 1 47 := ⟨by decide +kernel, rfl⟩
theorem d4_47 : Dc method_3_code 47 (.iconst 3) 1 48 := ⟨by decide +kernel, rfl⟩
theorem d4_48 : Dc method_3_code 48 (.laload) 1 49 := ⟨by decide +kernel, rfl⟩
theorem d4_49 : Dc method_3_code 49 (.lmul) 1 50 := ⟨by decide +kernel, rfl⟩
theorem d4_50 : Dc method_3_code 50 (.ladd) 1 51 := ⟨by decide +kernel, rfl⟩
theorem d4_51 : Dc method_3_code 51 (.lload 8) 2 53 := ⟨by decide +kernel, rfl⟩
theorem d4_53 : Dc method_3_code 53 (.aload_n 1) 1 54 := ⟨by decide +kernel, rfl⟩
theorem d4_54 : Dc method_3_code 54 (.bipush 6) 2 56 := ⟨by decide +kernel, rfl⟩
theorem d4_56 : Dc method_3_code 56 (.laload) 1 57 := ⟨by decide +kernel, rfl⟩
theorem d4_57 : Dc method_3_code 57 (.lmul) 1 58 := ⟨by decide +kernel, rfl⟩
theorem d4_58 : Dc method_3_code 58 (.ladd) 1 59 := ⟨by decide +kernel, rfl⟩
theorem d4_59 : Dc method_3_code 59 (.lstore 16) 2 61 := ⟨by decide +kernel, rfl⟩
theorem d4_61 : Dc method_3_code 61 (.lload 4) 2 63 := ⟨by decide +kernel, rfl⟩
theorem d4_63 : Dc method_3_code 63 (.aload_n 1) 1 64 := ⟨by decide +kernel, rfl⟩
theorem d4_64 : Dc method_3_code 64 (.iconst 1) 1 65 := ⟨by decide +kernel, rfl⟩
theorem d4_65 : Dc method_3_code 65 (.laload) 1 66 := ⟨by decide +kernel, rfl⟩
theorem d4_66 : Dc method_3_code 66 (.lmul) 1 67 := ⟨by decide +kernel, rfl⟩
theorem d4_67 : Dc method_3_code 67 (.lload 6) 2 69 := ⟨by decide +kernel, rfl⟩
theorem d4_69 : Dc method_3_code 69 (.aload_n 1) 1 70 := ⟨by decide +kernel, rfl⟩
theorem d4_70 : Dc method_3_code 70 (.iconst 4) 1 71 := ⟨by decide +kernel, rfl⟩
theorem d4_71 : Dc method_3_code 71 (.laload) 1 72 := ⟨by decide +kernel, rfl⟩
theorem d4_72 : Dc method_3_code 72 (.lmul) 1 73 := ⟨by decide +kernel, rfl⟩
theorem d4_73 : Dc method_3_code 73 (.ladd) 1 74 := ⟨by decide +kernel, rfl⟩
theorem d4_74 : Dc method_3_code 74 (.lload 8) 2 76 := ⟨by decide +kernel, rfl⟩
theorem d4_76 : Dc method_3_code 76 (.aload_n 1) 1 77 := ⟨by decide +kernel, rfl⟩
theorem d4_77 : Dc method_3_code 77 (.bipush 7) 2 79 := ⟨by decide +kernel, rfl⟩
theorem d4_79 : Dc method_3_code 79 (.laload) 1 80 := ⟨by decide +kernel, rfl⟩
theorem d4_80 : Dc method_3_code 80 (.lmul) 1 81 := ⟨by decide +kernel, rfl⟩
theorem d4_81 : Dc method_3_code 81 (.ladd) 1 82 := ⟨by decide +kernel, rfl⟩
theorem d4_82 : Dc method_3_code 82 (.lstore 18) 2 84 := ⟨by decide +kernel, rfl⟩
theorem d4_84 : Dc method_3_code 84 (.lload 4) 2 86 := ⟨by decide +kernel, rfl⟩
theorem d4_86 : Dc method_3_code 86 (.aload_n 1) 1 87 := ⟨by decide +kernel, rfl⟩
theorem d4_87 : Dc method_3_code 87 (.iconst 2) 1 88 := ⟨by decide +kernel, rfl⟩
theorem d4_88 : Dc method_3_code 88 (.laload) 1 89 := ⟨by decide +kernel, rfl⟩
theorem d4_89 : Dc method_3_code 89 (.lmul) 1 90 := ⟨by decide +kernel, rfl⟩
theorem d4_90 : Dc method_3_code 90 (.lload 6) 2 92 := ⟨by decide +kernel, rfl⟩
theorem d4_92 : Dc method_3_code 92 (.aload_n 1) 1 93 := ⟨by decide +kernel, rfl⟩
theorem d4_93 : Dc method_3_code 93 (.iconst 5) 1 94 := ⟨by decide +kernel, rfl⟩
theorem d4_94 : Dc method_3_code 94 (.laload) 1 95 := ⟨by decide +kernel, rfl⟩
theorem d4_95 : Dc method_3_code 95 (.lmul) 1 96 := ⟨by decide +kernel, rfl⟩
theorem d4_96 : Dc method_3_code 96 (.ladd) 1 97 := ⟨by decide +kernel, rfl⟩
theorem d4_97 : Dc method_3_code 97 (.lload 8) 2 99 := ⟨by decide +kernel, rfl⟩
theorem d4_99 : Dc method_3_code 99 (.aload_n 1) 1 100 := ⟨by decide +kernel, rfl⟩
theorem d4_100 : Dc method_3_code 100 (.bipush 8) 2 102 := ⟨by decide +kernel, rfl⟩
theorem d4_102 : Dc method_3_code 102 (.laload) 1 103 := ⟨by decide +kernel, rfl⟩
theorem d4_103 : Dc method_3_code 103 (.lmul) 1 104 := ⟨by decide +kernel, rfl⟩
theorem d4_104 : Dc method_3_code 104 (.ladd) 1 105 := ⟨by decide +kernel, rfl⟩
theorem d4_105 : Dc method_3_code 105 (.lstore 20) 2 107 := ⟨by decide +kernel, rfl⟩
theorem d4_107 : Dc method_3_code 107 (.lload 16) 2 109 := ⟨by decide +kernel, rfl⟩
theorem d4_109 : Dc method_3_code 109 (.lload 10) 2 111 := ⟨by decide +kernel, rfl⟩
theorem d4_111 : Dc method_3_code 111 (.lmul) 1 112 := ⟨by decide +kernel, rfl⟩
theorem d4_112 : Dc method_3_code 112 (.lload 18) 2 114 := ⟨by decide +kernel, rfl⟩
theorem d4_114 : Dc method_3_code 114 (.lload 12) 2 116 := ⟨by decide +kernel, rfl⟩
theorem d4_116 : Dc method_3_code 116 (.lmul) 1 117 := ⟨by decide +kernel, rfl⟩
theorem d4_117 : Dc method_3_code 117 (.ladd) 1 118 := ⟨by decide +kernel, rfl⟩
theorem d4_118 : Dc method_3_code 118 (.lload 20) 2 120 := ⟨by decide +kernel, rfl⟩
theorem d4_120 : Dc method_3_code 120 (.lload 14) 2 122 := ⟨by decide +kernel, rfl⟩
theorem d4_122 : Dc method_3_code 122 (.lmul) 1 123 := ⟨by decide +kernel, rfl⟩
theorem d4_123 : Dc method_3_code 123 (.ladd) 1 124 := ⟨by decide +kernel, rfl⟩
theorem d4_124 : Dc method_3_code 124 (.lreturn) 1 125 := ⟨by decide +kernel, rfl⟩
theorem ren00 (l : Launch) {Z : State} {a0 : Array Value} (hw : ∀ d ∈ tables_1, d.before a0 Z = true) {h : Heap} (hE : Ext Z.heap h) (pb : Addr) (pd : Addr) (kb kd : ClassId) (y0 y1 y2 y3 y4 y5 d0 d1 d2 d3 d4 d5 d6 d7 d8 : Int64) (hB : Arv Z h pb kb .long 6 [(.long y0), (.long y1), (.long y2), (.long y3), (.long y4), (.long y5)] (.long 0)) (hD : Arv Z h pd kd .long 9 [(.long d0), (.long d1), (.long d2), (.long d3), (.long d4), (.long d5), (.long d6), (.long d7), (.long d8)] (.long 0)) :
    Con l (⟨"com/example/strutwork/strutwork/AreaElementAddStiffnessPinLaw", "entry", "([J[JII)J"⟩ : MethodName) method_3_code 22 (some .long) [] ({ frames := 0, cells := 0, slots := 0, locals := 0 } : Room) Z #[(.ref pb), (.ref pd), (.int 0), (.int 0)] h (fun v' h' => v' = some (.long (own_en y0 y2 y4 d0 d1 d2 d3 d4 d5 d6 d7 d8 y0 y2 y4)) ∧ h' = h) := by
  refine con_of (plainFor_of_name pn_0) hE (fun m => ef_ren00 m pb pd) ?_
  intro p e s m below meth c T0 C X0
  have C : Cx p s m meth c Z "com/example/strutwork/strutwork/AreaElementAddStiffnessPinLaw" "entry" method_3_code 22 (some .long) := C
  show Goes p e below _ T0 (mkF m 0 #[.val (.ref pb), .val (.ref pd), .val (.int 0), .val (.int 0), .unset, .unset, .unset, .unset, .unset, .unset, .unset, .unset, .unset, .unset, .unset, .unset, .unset, .unset, .unset, .unset, .unset, .unset] [])
  refine g_aloadN C X0 d4_0 rfl rfl (g_iloadN C X0 d4_1 rfl (g_laload C X0 hB d4_2 (by decide) (by decide) rfl (g_lstore C X0 d4_3 (l' := #[.val (.ref pb), .val (.ref pd), .val (.int 0), .val (.int 0), .val (.long y0), .second, .unset, .unset, .unset, .unset, .unset, .unset, .unset, .unset, .unset, .unset, .unset, .unset, .unset, .unset, .unset, .unset]) rfl (g_aloadN C X0 d4_5 rfl rfl (g_iconst 2 C X0 d4_6 rfl (g_iloadN C X0 d4_7 rfl (g_iadd C X0 d4_8 (g_laload C X0 hB d4_9 (by decide) (by decide) rfl (g_lstore C X0 d4_10 (l' := #[.val (.ref pb), .val (.ref pd), .val (.int 0), .val (.int 0), .val (.long y0), .second, .val (.long y2), .second, .unset, .unset, .unset, .unset, .unset, .unset, .unset, .unset, .unset, .unset, .unset, .unset, .unset, .unset]) rfl (g_aloadN C X0 d4_12 rfl rfl (g_iconst 4 C X0 d4_13 rfl ?_)))))))))))
  refine g_iloadN C X0 d4_14 rfl (g_iadd C X0 d4_15 (g_laload C X0 hB d4_16 (by decide) (by decide) rfl (g_lstore C X0 d4_17 (l' := #[.val (.ref pb), .val (.ref pd), .val (.int 0), .val (.int 0), .val (.long y0), .second, .val (.long y2), .second, .val (.long y4), .second, .unset, .unset, .unset, .unset, .unset, .unset, .unset, .unset, .unset, .unset, .unset, .unset]) rfl (g_aloadN C X0 d4_19 rfl rfl (g_iloadN C X0 d4_20 rfl (g_laload C X0 hB d4_21 (by decide) (by decide) rfl (g_lstore C X0 d4_22 (l' := #[.val (.ref pb), .val (.ref pd), .val (.int 0), .val (.int 0), .val (.long y0), .second, .val (.long y2), .second, .val (.long y4), .second, .val (.long y0), .second, .unset, .unset, .unset, .unset, .unset, .unset, .unset, .unset, .unset, .unset]) rfl (g_aloadN C X0 d4_24 rfl rfl (g_iconst 2 C X0 d4_25 rfl (g_iloadN C X0 d4_26 rfl (g_iadd C X0 d4_27 ?_)))))))))))
  refine g_laload C X0 hB d4_28 (by decide) (by decide) rfl (g_lstore C X0 d4_29 (l' := #[.val (.ref pb), .val (.ref pd), .val (.int 0), .val (.int 0), .val (.long y0), .second, .val (.long y2), .second, .val (.long y4), .second, .val (.long y0), .second, .val (.long y2), .second, .unset, .unset, .unset, .unset, .unset, .unset, .unset, .unset]) rfl (g_aloadN C X0 d4_31 rfl rfl (g_iconst 4 C X0 d4_32 rfl (g_iloadN C X0 d4_33 rfl (g_iadd C X0 d4_34 (g_laload C X0 hB d4_35 (by decide) (by decide) rfl (g_lstore C X0 d4_36 (l' := #[.val (.ref pb), .val (.ref pd), .val (.int 0), .val (.int 0), .val (.long y0), .second, .val (.long y2), .second, .val (.long y4), .second, .val (.long y0), .second, .val (.long y2), .second, .val (.long y4), .second, .unset, .unset, .unset, .unset, .unset, .unset]) rfl (g_lload C X0 d4_38 rfl (g_aloadN C X0 d4_40 rfl rfl (g_iconst 0 C X0 d4_41 rfl (g_laload C X0 hD d4_42 (by decide) (by decide) rfl ?_)))))))))))
  refine g_lmul C X0 d4_43 (g_lload C X0 d4_44 rfl (g_aloadN C X0 d4_46 rfl rfl (g_iconst 3 C X0 d4_47 rfl (g_laload C X0 hD d4_48 (by decide) (by decide) rfl (g_lmul C X0 d4_49 (g_ladd C X0 d4_50 (g_lload C X0 d4_51 rfl (g_aloadN C X0 d4_53 rfl rfl (g_bipush 6 C X0 d4_54 rfl (g_laload C X0 hD d4_56 (by decide) (by decide) rfl (g_lmul C X0 d4_57 ?_)))))))))))
  refine g_ladd C X0 d4_58 (g_lstore C X0 d4_59 (l' := #[.val (.ref pb), .val (.ref pd), .val (.int 0), .val (.int 0), .val (.long y0), .second, .val (.long y2), .second, .val (.long y4), .second, .val (.long y0), .second, .val (.long y2), .second, .val (.long y4), .second, .val (.long (((y0 * d0) + (y2 * d3)) + (y4 * d6))), .second, .unset, .unset, .unset, .unset]) rfl (g_lload C X0 d4_61 rfl (g_aloadN C X0 d4_63 rfl rfl (g_iconst 1 C X0 d4_64 rfl (g_laload C X0 hD d4_65 (by decide) (by decide) rfl (g_lmul C X0 d4_66 (g_lload C X0 d4_67 rfl (g_aloadN C X0 d4_69 rfl rfl (g_iconst 4 C X0 d4_70 rfl (g_laload C X0 hD d4_71 (by decide) (by decide) rfl (g_lmul C X0 d4_72 ?_)))))))))))
  refine g_ladd C X0 d4_73 (g_lload C X0 d4_74 rfl (g_aloadN C X0 d4_76 rfl rfl (g_bipush 7 C X0 d4_77 rfl (g_laload C X0 hD d4_79 (by decide) (by decide) rfl (g_lmul C X0 d4_80 (g_ladd C X0 d4_81 (g_lstore C X0 d4_82 (l' := #[.val (.ref pb), .val (.ref pd), .val (.int 0), .val (.int 0), .val (.long y0), .second, .val (.long y2), .second, .val (.long y4), .second, .val (.long y0), .second, .val (.long y2), .second, .val (.long y4), .second, .val (.long (((y0 * d0) + (y2 * d3)) + (y4 * d6))), .second, .val (.long (((y0 * d1) + (y2 * d4)) + (y4 * d7))), .second, .unset, .unset]) rfl (g_lload C X0 d4_84 rfl (g_aloadN C X0 d4_86 rfl rfl (g_iconst 2 C X0 d4_87 rfl (g_laload C X0 hD d4_88 (by decide) (by decide) rfl ?_)))))))))))
  refine g_lmul C X0 d4_89 (g_lload C X0 d4_90 rfl (g_aloadN C X0 d4_92 rfl rfl (g_iconst 5 C X0 d4_93 rfl (g_laload C X0 hD d4_94 (by decide) (by decide) rfl (g_lmul C X0 d4_95 (g_ladd C X0 d4_96 (g_lload C X0 d4_97 rfl (g_aloadN C X0 d4_99 rfl rfl (g_bipush 8 C X0 d4_100 rfl (g_laload C X0 hD d4_102 (by decide) (by decide) rfl (g_lmul C X0 d4_103 ?_)))))))))))
  refine g_ladd C X0 d4_104 (g_lstore C X0 d4_105 (l' := #[.val (.ref pb), .val (.ref pd), .val (.int 0), .val (.int 0), .val (.long y0), .second, .val (.long y2), .second, .val (.long y4), .second, .val (.long y0), .second, .val (.long y2), .second, .val (.long y4), .second, .val (.long (((y0 * d0) + (y2 * d3)) + (y4 * d6))), .second, .val (.long (((y0 * d1) + (y2 * d4)) + (y4 * d7))), .second, .val (.long (((y0 * d2) + (y2 * d5)) + (y4 * d8))), .second]) rfl (g_lload C X0 d4_107 rfl (g_lload C X0 d4_109 rfl (g_lmul C X0 d4_111 (g_lload C X0 d4_112 rfl (g_lload C X0 d4_114 rfl (g_lmul C X0 d4_116 (g_ladd C X0 d4_117 (g_lload C X0 d4_118 rfl (g_lload C X0 d4_120 rfl (g_lmul C X0 d4_122 ?_)))))))))))
  refine g_ladd C X0 d4_123 ?_
  exact g_retJ C X0 d4_124 (by decide) (by decide) ⟨rfl, rfl⟩
theorem ef_ren01 (m : MethodId) (pb : Addr) (pd : Addr) : entryFrame m #[(.ref pb), (.ref pd), (.int 0), (.int 1)] 22 = mkF m 0 #[.val (.ref pb), .val (.ref pd), .val (.int 0), .val (.int 1), .unset, .unset, .unset, .unset, .unset, .unset, .unset, .unset, .unset, .unset, .unset, .unset, .unset, .unset, .unset, .unset, .unset, .unset] [] := by first | (simp [entryFrame, mkF, argsToLocals, Value.category]; done) | rfl
theorem ren01 (l : Launch) {Z : State} {a0 : Array Value} (hw : ∀ d ∈ tables_1, d.before a0 Z = true) {h : Heap} (hE : Ext Z.heap h) (pb : Addr) (pd : Addr) (kb kd : ClassId) (y0 y1 y2 y3 y4 y5 d0 d1 d2 d3 d4 d5 d6 d7 d8 : Int64) (hB : Arv Z h pb kb .long 6 [(.long y0), (.long y1), (.long y2), (.long y3), (.long y4), (.long y5)] (.long 0)) (hD : Arv Z h pd kd .long 9 [(.long d0), (.long d1), (.long d2), (.long d3), (.long d4), (.long d5), (.long d6), (.long d7), (.long d8)] (.long 0)) :
    Con l (⟨"com/example/strutwork/strutwork/AreaElementAddStiffnessPinLaw", "entry", "([J[JII)J"⟩ : MethodName) method_3_code 22 (some .long) [] ({ frames := 0, cells := 0, slots := 0, locals := 0 } : Room) Z #[(.ref pb), (.ref pd), (.int 0), (.int 1)] h (fun v' h' => v' = some (.long (own_en y0 y2 y4 d0 d1 d2 d3 d4 d5 d6 d7 d8 y1 y3 y5)) ∧ h' = h) := by
  refine con_of (plainFor_of_name pn_0) hE (fun m => ef_ren01 m pb pd) ?_
  intro p e s m below meth c T0 C X0
  have C : Cx p s m meth c Z "com/example/strutwork/strutwork/AreaElementAddStiffnessPinLaw" "entry" method_3_code 22 (some .long) := C
  show Goes p e below _ T0 (mkF m 0 #[.val (.ref pb), .val (.ref pd), .val (.int 0), .val (.int 1), .unset, .unset, .unset, .unset, .unset, .unset, .unset, .unset, .unset, .unset, .unset, .unset, .unset, .unset, .unset, .unset, .unset, .unset] [])
  refine g_aloadN C X0 d4_0 rfl rfl (g_iloadN C X0 d4_1 rfl (g_laload C X0 hB d4_2 (by decide) (by decide) rfl (g_lstore C X0 d4_3 (l' := #[.val (.ref pb), .val (.ref pd), .val (.int 0), .val (.int 1), .val (.long y0), .second, .unset, .unset, .unset, .unset, .unset, .unset, .unset, .unset, .unset, .unset, .unset, .unset, .unset, .unset, .unset, .unset]) rfl (g_aloadN C X0 d4_5 rfl rfl (g_iconst 2 C X0 d4_6 rfl (g_iloadN C X0 d4_7 rfl (g_iadd C X0 d4_8 (g_laload C X0 hB d4_9 (by decide) (by decide) rfl (g_lstore C X0 d4_10 (l' := #[.val (.ref pb), .val (.ref pd), .val (.int 0), .val (.int 1), .val (.long y0), .second, .val (.long y2), .second, .unset, .unset, .unset, .unset, .unset, .unset, .unset, .unset, .unset, .unset, .unset, .unset, .unset, .unset]) rfl (g_aloadN C X0 d4_12 rfl rfl (g_iconst 4 C X0 d4_13 rfl ?_)))))))))))
  refine g_iloadN C X0 d4_14 rfl (g_iadd C X0 d4_15 (g_laload C X0 hB d4_16 (by decide) (by decide) rfl (g_lstore C X0 d4_17 (l' := #[.val (.ref pb), .val (.ref pd), .val (.int 0), .val (.int 1), .val (.long y0), .second, .val (.long y2), .second, .val (.long y4), .second, .unset, .unset, .unset, .unset, .unset, .unset, .unset, .unset, .unset, .unset, .unset, .unset]) rfl (g_aloadN C X0 d4_19 rfl rfl (g_iloadN C X0 d4_20 rfl (g_laload C X0 hB d4_21 (by decide) (by decide) rfl (g_lstore C X0 d4_22 (l' := #[.val (.ref pb), .val (.ref pd), .val (.int 0), .val (.int 1), .val (.long y0), .second, .val (.long y2), .second, .val (.long y4), .second, .val (.long y1), .second, .unset, .unset, .unset, .unset, .unset, .unset, .unset, .unset, .unset, .unset]) rfl (g_aloadN C X0 d4_24 rfl rfl (g_iconst 2 C X0 d4_25 rfl (g_iloadN C X0 d4_26 rfl (g_iadd C X0 d4_27 ?_)))))))))))
  refine g_laload C X0 hB d4_28 (by decide) (by decide) rfl (g_lstore C X0 d4_29 (l' := #[.val (.ref pb), .val (.ref pd), .val (.int 0), .val (.int 1), .val (.long y0), .second, .val (.long y2), .second, .val (.long y4), .second, .val (.long y1), .second, .val (.long y3), .second, .unset, .unset, .unset, .unset, .unset, .unset, .unset, .unset]) rfl (g_aloadN C X0 d4_31 rfl rfl (g_iconst 4 C X0 d4_32 rfl (g_iloadN C X0 d4_33 rfl (g_iadd C X0 d4_34 (g_laload C X0 hB d4_35 (by decide) (by decide) rfl (g_lstore C X0 d4_36 (l' := #[.val (.ref pb), .val (.ref pd), .val (.int 0), .val (.int 1), .val (.long y0), .second, .val (.long y2), .second, .val (.long y4), .second, .val (.long y1), .second, .val (.long y3), .second, .val (.long y5), .second, .unset, .unset, .unset, .unset, .unset, .unset]) rfl (g_lload C X0 d4_38 rfl (g_aloadN C X0 d4_40 rfl rfl (g_iconst 0 C X0 d4_41 rfl (g_laload C X0 hD d4_42 (by decide) (by decide) rfl ?_)))))))))))
  refine g_lmul C X0 d4_43 (g_lload C X0 d4_44 rfl (g_aloadN C X0 d4_46 rfl rfl (g_iconst 3 C X0 d4_47 rfl (g_laload C X0 hD d4_48 (by decide) (by decide) rfl (g_lmul C X0 d4_49 (g_ladd C X0 d4_50 (g_lload C X0 d4_51 rfl (g_aloadN C X0 d4_53 rfl rfl (g_bipush 6 C X0 d4_54 rfl (g_laload C X0 hD d4_56 (by decide) (by decide) rfl (g_lmul C X0 d4_57 ?_)))))))))))
  refine g_ladd C X0 d4_58 (g_lstore C X0 d4_59 (l' := #[.val (.ref pb), .val (.ref pd), .val (.int 0), .val (.int 1), .val (.long y0), .second, .val (.long y2), .second, .val (.long y4), .second, .val (.long y1), .second, .val (.long y3), .second, .val (.long y5), .second, .val (.long (((y0 * d0) + (y2 * d3)) + (y4 * d6))), .second, .unset, .unset, .unset, .unset]) rfl (g_lload C X0 d4_61 rfl (g_aloadN C X0 d4_63 rfl rfl (g_iconst 1 C X0 d4_64 rfl (g_laload C X0 hD d4_65 (by decide) (by decide) rfl (g_lmul C X0 d4_66 (g_lload C X0 d4_67 rfl (g_aloadN C X0 d4_69 rfl rfl (g_iconst 4 C X0 d4_70 rfl (g_laload C X0 hD d4_71 (by decide) (by decide) rfl (g_lmul C X0 d4_72 ?_)))))))))))
  refine g_ladd C X0 d4_73 (g_lload C X0 d4_74 rfl (g_aloadN C X0 d4_76 rfl rfl (g_bipush 7 C X0 d4_77 rfl (g_laload C X0 hD d4_79 (by decide) (by decide) rfl (g_lmul C X0 d4_80 (g_ladd C X0 d4_81 (g_lstore C X0 d4_82 (l' := #[.val (.ref pb), .val (.ref pd), .val (.int 0), .val (.int 1), .val (.long y0), .second, .val (.long y2), .second, .val (.long y4), .second, .val (.long y1), .second, .val (.long y3), .second, .val (.long y5), .second, .val (.long (((y0 * d0) + (y2 * d3)) + (y4 * d6))), .second, .val (.long (((y0 * d1) + (y2 * d4)) + (y4 * d7))), .second, .unset, .unset]) rfl (g_lload C X0 d4_84 rfl (g_aloadN C X0 d4_86 rfl rfl (g_iconst 2 C X0 d4_87 rfl (g_laload C X0 hD d4_88 (by decide) (by decide) rfl ?_)))))))))))
  refine g_lmul C X0 d4_89 (g_lload C X0 d4_90 rfl (g_aloadN C X0 d4_92 rfl rfl (g_iconst 5 C X0 d4_93 rfl (g_laload C X0 hD d4_94 (by decide) (by decide) rfl (g_lmul C X0 d4_95 (g_ladd C X0 d4_96 (g_lload C X0 d4_97 rfl (g_aloadN C X0 d4_99 rfl rfl (g_bipush 8 C X0 d4_100 rfl (g_laload C X0 hD d4_102 (by decide) (by decide) rfl (g_lmul C X0 d4_103 ?_)))))))))))
  refine g_ladd C X0 d4_104 (g_lstore C X0 d4_105 (l' := #[.val (.ref pb), .val (.ref pd), .val (.int 0), .val (.int 1), .val (.long y0), .second, .val (.long y2), .second, .val (.long y4), .second, .val (.long y1), .second, .val (.long y3), .second, .val (.long y5), .second, .val (.long (((y0 * d0) + (y2 * d3)) + (y4 * d6))), .second, .val (.long (((y0 * d1) + (y2 * d4)) + (y4 * d7))), .second, .val (.long (((y0 * d2) + (y2 * d5)) + (y4 * d8))), .second]) rfl (g_lload C X0 d4_107 rfl (g_lload C X0 d4_109 rfl (g_lmul C X0 d4_111 (g_lload C X0 d4_112 rfl (g_lload C X0 d4_114 rfl (g_lmul C X0 d4_116 (g_ladd C X0 d4_117 (g_lload C X0 d4_118 rfl (g_lload C X0 d4_120 rfl (g_lmul C X0 d4_122 ?_)))))))))))
  refine g_ladd C X0 d4_123 ?_
  exact g_retJ C X0 d4_124 (by decide) (by decide) ⟨rfl, rfl⟩
theorem ef_ren10 (m : MethodId) (pb : Addr) (pd : Addr) : entryFrame m #[(.ref pb), (.ref pd), (.int 1), (.int 0)] 22 = mkF m 0 #[.val (.ref pb), .val (.ref pd), .val (.int 1), .val (.int 0), .unset, .unset, .unset, .unset, .unset, .unset, .unset, .unset, .unset, .unset, .unset, .unset, .unset, .unset, .unset, .unset, .unset, .unset] [] := by first | (simp [entryFrame, mkF, argsToLocals, Value.category]; done) | rfl
theorem ren10 (l : Launch) {Z : State} {a0 : Array Value} (hw : ∀ d ∈ tables_1, d.before a0 Z = true) {h : Heap} (hE : Ext Z.heap h) (pb : Addr) (pd : Addr) (kb kd : ClassId) (y0 y1 y2 y3 y4 y5 d0 d1 d2 d3 d4 d5 d6 d7 d8 : Int64) (hB : Arv Z h pb kb .long 6 [(.long y0), (.long y1), (.long y2), (.long y3), (.long y4), (.long y5)] (.long 0)) (hD : Arv Z h pd kd .long 9 [(.long d0), (.long d1), (.long d2), (.long d3), (.long d4), (.long d5), (.long d6), (.long d7), (.long d8)] (.long 0)) :
    Con l (⟨"com/example/strutwork/strutwork/AreaElementAddStiffnessPinLaw", "entry", "([J[JII)J"⟩ : MethodName) method_3_code 22 (some .long) [] ({ frames := 0, cells := 0, slots := 0, locals := 0 } : Room) Z #[(.ref pb), (.ref pd), (.int 1), (.int 0)] h (fun v' h' => v' = some (.long (own_en y1 y3 y5 d0 d1 d2 d3 d4 d5 d6 d7 d8 y0 y2 y4)) ∧ h' = h) := by
  refine con_of (plainFor_of_name pn_0) hE (fun m => ef_ren10 m pb pd) ?_
  intro p e s m below meth c T0 C X0
  have C : Cx p s m meth c Z "com/example/strutwork/strutwork/AreaElementAddStiffnessPinLaw" "entry" method_3_code 22 (some .long) := C
  show Goes p e below _ T0 (mkF m 0 #[.val (.ref pb), .val (.ref pd), .val (.int 1), .val (.int 0), .unset, .unset, .unset, .unset, .unset, .unset, .unset, .unset, .unset, .unset, .unset, .unset, .unset, .unset, .unset, .unset, .unset, .unset] [])
  refine g_aloadN C X0 d4_0 rfl rfl (g_iloadN C X0 d4_1 rfl (g_laload C X0 hB d4_2 (by decide) (by decide) rfl (g_lstore C X0 d4_3 (l' := #[.val (.ref pb), .val (.ref pd), .val (.int 1), .val (.int 0), .val (.long y1), .second, .unset, .unset, .unset, .unset, .unset, .unset, .unset, .unset, .unset, .unset, .unset, .unset, .unset, .unset, .unset, .unset]) rfl (g_aloadN C X0 d4_5 rfl rfl (g_iconst 2 C X0 d4_6 rfl (g_iloadN C X0 d4_7 rfl (g_iadd C X0 d4_8 (g_laload C X0 hB d4_9 (by decide) (by decide) rfl (g_lstore C X0 d4_10 (l' := #[.val (.ref pb), .val (.ref pd), .val (.int 1), .val (.int 0), .val (.long y1), .second, .val (.long y3), .second, .unset, .unset, .unset, .unset, .unset, .unset, .unset, .unset, .unset, .unset, .unset, .unset, .unset, .unset]) rfl (g_aloadN C X0 d4_12 rfl rfl (g_iconst 4 C X0 d4_13 rfl ?_)))))))))))
  refine g_iloadN C X0 d4_14 rfl (g_iadd C X0 d4_15 (g_laload C X0 hB d4_16 (by decide) (by decide) rfl (g_lstore C X0 d4_17 (l' := #[.val (.ref pb), .val (.ref pd), .val (.int 1), .val (.int 0), .val (.long y1), .second, .val (.long y3), .second, .val (.long y5), .second, .unset, .unset, .unset, .unset, .unset, .unset, .unset, .unset, .unset, .unset, .unset, .unset]) rfl (g_aloadN C X0 d4_19 rfl rfl (g_iloadN C X0 d4_20 rfl (g_laload C X0 hB d4_21 (by decide) (by decide) rfl (g_lstore C X0 d4_22 (l' := #[.val (.ref pb), .val (.ref pd), .val (.int 1), .val (.int 0), .val (.long y1), .second, .val (.long y3), .second, .val (.long y5), .second, .val (.long y0), .second, .unset, .unset, .unset, .unset, .unset, .unset, .unset, .unset, .unset, .unset]) rfl (g_aloadN C X0 d4_24 rfl rfl (g_iconst 2 C X0 d4_25 rfl (g_iloadN C X0 d4_26 rfl (g_iadd C X0 d4_27 ?_)))))))))))
  refine g_laload C X0 hB d4_28 (by decide) (by decide) rfl (g_lstore C X0 d4_29 (l' := #[.val (.ref pb), .val (.ref pd), .val (.int 1), .val (.int 0), .val (.long y1), .second, .val (.long y3), .second, .val (.long y5), .second, .val (.long y0), .second, .val (.long y2), .second, .unset, .unset, .unset, .unset, .unset, .unset, .unset, .unset]) rfl (g_aloadN C X0 d4_31 rfl rfl (g_iconst 4 C X0 d4_32 rfl (g_iloadN C X0 d4_33 rfl (g_iadd C X0 d4_34 (g_laload C X0 hB d4_35 (by decide) (by decide) rfl (g_lstore C X0 d4_36 (l' := #[.val (.ref pb), .val (.ref pd), .val (.int 1), .val (.int 0), .val (.long y1), .second, .val (.long y3), .second, .val (.long y5), .second, .val (.long y0), .second, .val (.long y2), .second, .val (.long y4), .second, .unset, .unset, .unset, .unset, .unset, .unset]) rfl (g_lload C X0 d4_38 rfl (g_aloadN C X0 d4_40 rfl rfl (g_iconst 0 C X0 d4_41 rfl (g_laload C X0 hD d4_42 (by decide) (by decide) rfl ?_)))))))))))
  refine g_lmul C X0 d4_43 (g_lload C X0 d4_44 rfl (g_aloadN C X0 d4_46 rfl rfl (g_iconst 3 C X0 d4_47 rfl (g_laload C X0 hD d4_48 (by decide) (by decide) rfl (g_lmul C X0 d4_49 (g_ladd C X0 d4_50 (g_lload C X0 d4_51 rfl (g_aloadN C X0 d4_53 rfl rfl (g_bipush 6 C X0 d4_54 rfl (g_laload C X0 hD d4_56 (by decide) (by decide) rfl (g_lmul C X0 d4_57 ?_)))))))))))
  refine g_ladd C X0 d4_58 (g_lstore C X0 d4_59 (l' := #[.val (.ref pb), .val (.ref pd), .val (.int 1), .val (.int 0), .val (.long y1), .second, .val (.long y3), .second, .val (.long y5), .second, .val (.long y0), .second, .val (.long y2), .second, .val (.long y4), .second, .val (.long (((y1 * d0) + (y3 * d3)) + (y5 * d6))), .second, .unset, .unset, .unset, .unset]) rfl (g_lload C X0 d4_61 rfl (g_aloadN C X0 d4_63 rfl rfl (g_iconst 1 C X0 d4_64 rfl (g_laload C X0 hD d4_65 (by decide) (by decide) rfl (g_lmul C X0 d4_66 (g_lload C X0 d4_67 rfl (g_aloadN C X0 d4_69 rfl rfl (g_iconst 4 C X0 d4_70 rfl (g_laload C X0 hD d4_71 (by decide) (by decide) rfl (g_lmul C X0 d4_72 ?_)))))))))))
  refine g_ladd C X0 d4_73 (g_lload C X0 d4_74 rfl (g_aloadN C X0 d4_76 rfl rfl (g_bipush 7 C X0 d4_77 rfl (g_laload C X0 hD d4_79 (by decide) (by decide) rfl (g_lmul C X0 d4_80 (g_ladd C X0 d4_81 (g_lstore C X0 d4_82 (l' := #[.val (.ref pb), .val (.ref pd), .val (.int 1), .val (.int 0), .val (.long y1), .second, .val (.long y3), .second, .val (.long y5), .second, .val (.long y0), .second, .val (.long y2), .second, .val (.long y4), .second, .val (.long (((y1 * d0) + (y3 * d3)) + (y5 * d6))), .second, .val (.long (((y1 * d1) + (y3 * d4)) + (y5 * d7))), .second, .unset, .unset]) rfl (g_lload C X0 d4_84 rfl (g_aloadN C X0 d4_86 rfl rfl (g_iconst 2 C X0 d4_87 rfl (g_laload C X0 hD d4_88 (by decide) (by decide) rfl ?_)))))))))))
  refine g_lmul C X0 d4_89 (g_lload C X0 d4_90 rfl (g_aloadN C X0 d4_92 rfl rfl (g_iconst 5 C X0 d4_93 rfl (g_laload C X0 hD d4_94 (by decide) (by decide) rfl (g_lmul C X0 d4_95 (g_ladd C X0 d4_96 (g_lload C X0 d4_97 rfl (g_aloadN C X0 d4_99 rfl rfl (g_bipush 8 C X0 d4_100 rfl (g_laload C X0 hD d4_102 (by decide) (by decide) rfl (g_lmul C X0 d4_103 ?_)))))))))))
  refine g_ladd C X0 d4_104 (g_lstore C X0 d4_105 (l' := #[.val (.ref pb), .val (.ref pd), .val (.int 1), .val (.int 0), .val (.long y1), .second, .val (.long y3), .second, .val (.long y5), .second, .val (.long y0), .second, .val (.long y2), .second, .val (.long y4), .second, .val (.long (((y1 * d0) + (y3 * d3)) + (y5 * d6))), .second, .val (.long (((y1 * d1) + (y3 * d4)) + (y5 * d7))), .second, .val (.long (((y1 * d2) + (y3 * d5)) + (y5 * d8))), .second]) rfl (g_lload C X0 d4_107 rfl (g_lload C X0 d4_109 rfl (g_lmul C X0 d4_111 (g_lload C X0 d4_112 rfl (g_lload C X0 d4_114 rfl (g_lmul C X0 d4_116 (g_ladd C X0 d4_117 (g_lload C X0 d4_118 rfl (g_lload C X0 d4_120 rfl (g_lmul C X0 d4_122 ?_)))))))))))
  refine g_ladd C X0 d4_123 ?_
  exact g_retJ C X0 d4_124 (by decide) (by decide) ⟨rfl, rfl⟩
theorem ef_ren11 (m : MethodId) (pb : Addr) (pd : Addr) : entryFrame m #[(.ref pb), (.ref pd), (.int 1), (.int 1)] 22 = mkF m 0 #[.val (.ref pb), .val (.ref pd), .val (.int 1), .val (.int 1), .unset, .unset, .unset, .unset, .unset, .unset, .unset, .unset, .unset, .unset, .unset, .unset, .unset, .unset, .unset, .unset, .unset, .unset] [] := by first | (simp [entryFrame, mkF, argsToLocals, Value.category]; done) | rfl
theorem ren11 (l : Launch) {Z : State} {a0 : Array Value} (hw : ∀ d ∈ tables_1, d.before a0 Z = true) {h : Heap} (hE : Ext Z.heap h) (pb : Addr) (pd : Addr) (kb kd : ClassId) (y0 y1 y2 y3 y4 y5 d0 d1 d2 d3 d4 d5 d6 d7 d8 : Int64) (hB : Arv Z h pb kb .long 6 [(.long y0), (.long y1), (.long y2), (.long y3), (.long y4), (.long y5)] (.long 0)) (hD : Arv Z h pd kd .long 9 [(.long d0), (.long d1), (.long d2), (.long d3), (.long d4), (.long d5), (.long d6), (.long d7), (.long d8)] (.long 0)) :
    Con l (⟨"com/example/strutwork/strutwork/AreaElementAddStiffnessPinLaw", "entry", "([J[JII)J"⟩ : MethodName) method_3_code 22 (some .long) [] ({ frames := 0, cells := 0, slots := 0, locals := 0 } : Room) Z #[(.ref pb), (.ref pd), (.int 1), (.int 1)] h (fun v' h' => v' = some (.long (own_en y1 y3 y5 d0 d1 d2 d3 d4 d5 d6 d7 d8 y1 y3 y5)) ∧ h' = h) := by
  refine con_of (plainFor_of_name pn_0) hE (fun m => ef_ren11 m pb pd) ?_
  intro p e s m below meth c T0 C X0
  have C : Cx p s m meth c Z "com/example/strutwork/strutwork/AreaElementAddStiffnessPinLaw" "entry" method_3_code 22 (some .long) := C
  show Goes p e below _ T0 (mkF m 0 #[.val (.ref pb), .val (.ref pd), .val (.int 1), .val (.int 1), .unset, .unset, .unset, .unset, .unset, .unset, .unset, .unset, .unset, .unset, .unset, .unset, .unset, .unset, .unset, .unset, .unset, .unset] [])
  refine g_aloadN C X0 d4_0 rfl rfl (g_iloadN C X0 d4_1 rfl (g_laload C X0 hB d4_2 (by decide) (by decide) rfl (g_lstore C X0 d4_3 (l' := #[.val (.ref pb), .val (.ref pd), .val (.int 1), .val (.int 1), .val (.long y1), .second, .unset, .unset, .unset, .unset, .unset, .unset, .unset, .unset, .unset, .unset, .unset, .unset, .unset, .unset, .unset, .unset]) rfl (g_aloadN C X0 d4_5 rfl rfl (g_iconst 2 C X0 d4_6 rfl (g_iloadN C X0 d4_7 rfl (g_iadd C X0 d4_8 (g_laload C X0 hB d4_9 (by decide) (by decide) rfl (g_lstore C X0 d4_10 (l' := #[.val (.ref pb), .val (.ref pd), .val (.int 1), .val (.int 1), .val (.long y1), .second, .val (.long y3), .second, .unset, .unset, .unset, .unset, .unset, .unset, .unset, .unset, .unset, .unset, .unset, .unset, .unset, .unset]) rfl (g_aloadN C X0 d4_12 rfl rfl (g_iconst 4 C X0 d4_13 rfl ?_)))))))))))
  refine g_iloadN C X0 d4_14 rfl (g_iadd C X0 d4_15 (g_laload C X0 hB d4_16 (by decide) (by decide) rfl (g_lstore C X0 d4_17 (l' := #[.val (.ref pb), .val (.ref pd), .val (.int 1), .val (.int 1), .val (.long y1), .second, .val (.long y3), .second, .val (.long y5), .second, .unset, .unset, .unset, .unset, .unset, .unset, .unset, .unset, .unset, .unset, .unset, .unset]) rfl (g_aloadN C X0 d4_19 rfl rfl (g_iloadN C X0 d4_20 rfl (g_laload C X0 hB d4_21 (by decide) (by decide) rfl (g_lstore C X0 d4_22 (l' := #[.val (.ref pb), .val (.ref pd), .val (.int 1), .val (.int 1), .val (.long y1), .second, .val (.long y3), .second, .val (.long y5), .second, .val (.long y1), .second, .unset, .unset, .unset, .unset, .unset, .unset, .unset, .unset, .unset, .unset]) rfl (g_aloadN C X0 d4_24 rfl rfl (g_iconst 2 C X0 d4_25 rfl (g_iloadN C X0 d4_26 rfl (g_iadd C X0 d4_27 ?_)))))))))))
  refine g_laload C X0 hB d4_28 (by decide) (by decide) rfl (g_lstore C X0 d4_29 (l' := #[.val (.ref pb), .val (.ref pd), .val (.int 1), .val (.int 1), .val (.long y1), .second, .val (.long y3), .second, .val (.long y5), .second, .val (.long y1), .second, .val (.long y3), .second, .unset, .unset, .unset, .unset, .unset, .unset, .unset, .unset]) rfl (g_aloadN C X0 d4_31 rfl rfl (g_iconst 4 C X0 d4_32 rfl (g_iloadN C X0 d4_33 rfl (g_iadd C X0 d4_34 (g_laload C X0 hB d4_35 (by decide) (by decide) rfl (g_lstore C X0 d4_36 (l' := #[.val (.ref pb), .val (.ref pd), .val (.int 1), .val (.int 1), .val (.long y1), .second, .val (.long y3), .second, .val (.long y5), .second, .val (.long y1), .second, .val (.long y3), .second, .val (.long y5), .second, .unset, .unset, .unset, .unset, .unset, .unset]) rfl (g_lload C X0 d4_38 rfl (g_aloadN C X0 d4_40 rfl rfl (g_iconst 0 C X0 d4_41 rfl (g_laload C X0 hD d4_42 (by decide) (by decide) rfl ?_)))))))))))
  refine g_lmul C X0 d4_43 (g_lload C X0 d4_44 rfl (g_aloadN C X0 d4_46 rfl rfl (g_iconst 3 C X0 d4_47 rfl (g_laload C X0 hD d4_48 (by decide) (by decide) rfl (g_lmul C X0 d4_49 (g_ladd C X0 d4_50 (g_lload C X0 d4_51 rfl (g_aloadN C X0 d4_53 rfl rfl (g_bipush 6 C X0 d4_54 rfl (g_laload C X0 hD d4_56 (by decide) (by decide) rfl (g_lmul C X0 d4_57 ?_)))))))))))
  refine g_ladd C X0 d4_58 (g_lstore C X0 d4_59 (l' := #[.val (.ref pb), .val (.ref pd), .val (.int 1), .val (.int 1), .val (.long y1), .second, .val (.long y3), .second, .val (.long y5), .second, .val (.long y1), .second, .val (.long y3), .second, .val (.long y5), .second, .val (.long (((y1 * d0) + (y3 * d3)) + (y5 * d6))), .second, .unset, .unset, .unset, .unset]) rfl (g_lload C X0 d4_61 rfl (g_aloadN C X0 d4_63 rfl rfl (g_iconst 1 C X0 d4_64 rfl (g_laload C X0 hD d4_65 (by decide) (by decide) rfl (g_lmul C X0 d4_66 (g_lload C X0 d4_67 rfl (g_aloadN C X0 d4_69 rfl rfl (g_iconst 4 C X0 d4_70 rfl (g_laload C X0 hD d4_71 (by decide) (by decide) rfl (g_lmul C X0 d4_72 ?_)))))))))))
  refine g_ladd C X0 d4_73 (g_lload C X0 d4_74 rfl (g_aloadN C X0 d4_76 rfl rfl (g_bipush 7 C X0 d4_77 rfl (g_laload C X0 hD d4_79 (by decide) (by decide) rfl (g_lmul C X0 d4_80 (g_ladd C X0 d4_81 (g_lstore C X0 d4_82 (l' := #[.val (.ref pb), .val (.ref pd), .val (.int 1), .val (.int 1), .val (.long y1), .second, .val (.long y3), .second, .val (.long y5), .second, .val (.long y1), .second, .val (.long y3), .second, .val (.long y5), .second, .val (.long (((y1 * d0) + (y3 * d3)) + (y5 * d6))), .second, .val (.long (((y1 * d1) + (y3 * d4)) + (y5 * d7))), .second, .unset, .unset]) rfl (g_lload C X0 d4_84 rfl (g_aloadN C X0 d4_86 rfl rfl (g_iconst 2 C X0 d4_87 rfl (g_laload C X0 hD d4_88 (by decide) (by decide) rfl ?_)))))))))))
  refine g_lmul C X0 d4_89 (g_lload C X0 d4_90 rfl (g_aloadN C X0 d4_92 rfl rfl (g_iconst 5 C X0 d4_93 rfl (g_laload C X0 hD d4_94 (by decide) (by decide) rfl (g_lmul C X0 d4_95 (g_ladd C X0 d4_96 (g_lload C X0 d4_97 rfl (g_aloadN C X0 d4_99 rfl rfl (g_bipush 8 C X0 d4_100 rfl (g_laload C X0 hD d4_102 (by decide) (by decide) rfl (g_lmul C X0 d4_103 ?_)))))))))))
  refine g_ladd C X0 d4_104 (g_lstore C X0 d4_105 (l' := #[.val (.ref pb), .val (.ref pd), .val (.int 1), .val (.int 1), .val (.long y1), .second, .val (.long y3), .second, .val (.long y5), .second, .val (.long y1), .second, .val (.long y3), .second, .val (.long y5), .second, .val (.long (((y1 * d0) + (y3 * d3)) + (y5 * d6))), .second, .val (.long (((y1 * d1) + (y3 * d4)) + (y5 * d7))), .second, .val (.long (((y1 * d2) + (y3 * d5)) + (y5 * d8))), .second]) rfl (g_lload C X0 d4_107 rfl (g_lload C X0 d4_109 rfl (g_lmul C X0 d4_111 (g_lload C X0 d4_112 rfl (g_lload C X0 d4_114 rfl (g_lmul C X0 d4_116 (g_ladd C X0 d4_117 (g_lload C X0 d4_118 rfl (g_lload C X0 d4_120 rfl (g_lmul C X0 d4_122 ?_)))))))))))
  refine g_ladd C X0 d4_123 ?_
  exact g_retJ C X0 d4_124 (by decide) (by decide) ⟨rfl, rfl⟩
theorem ef_rm0 (m : MethodId) (p0 : Int64) (p1 : Int64) (p2 : Int64) (p3 : Int32) (p4 : Int32) : entryFrame m #[(.long p0), (.long p1), (.long p2), (.int p3), (.int p4)] maxLocals = mkF m 0 #[.val (.long p0), .second, .val (.long p1), .second, .val (.long p2), .second, .val (.int p3), .val (.int p4), .unset, .unset, .unset, .unset, .unset, .unset, .unset, .unset, .unset, .unset, .unset, .unset, .unset, .unset, .unset, .unset, .unset, .unset, .unset] [] := by first | (simp [entryFrame, mkF, argsToLocals, Value.category, maxLocals]; done) | rfl
theorem d0_0 : Dc code 0 (.bipush 6) 2 2 := ⟨at_0, rfl⟩
theorem d0_2 : Dc code 2 (.newarray .long) 2 4 := ⟨at_2, rfl⟩
theorem d0_4 : Dc code 4 (.astore 8) 2 6 := ⟨at_4, rfl⟩
theorem d0_6 : Dc code 6 (.aload 8) 2 8 := ⟨at_6, rfl⟩
theorem d0_8 : Dc code 8 (.iconst 0) 1 9 := ⟨at_8, rfl⟩
theorem d0_9 : Dc code 9 (.lload_n 0) 1 10 := ⟨at_9, rfl⟩
theorem d0_10 : Dc code 10 (.iconst 0) 1 11 := ⟨at_10, rfl⟩
theorem d0_11 : Dc code 11 (.invokestatic 11) 3 14 := ⟨at_11, rfl⟩
theorem pd_1 : parseMethodDescriptor "(JI)J" = some ⟨[.long, .int], some .long⟩ := by decide +kernel
theorem d0_14 : Dc code 14 (.lastore) 1 15 := ⟨at_14, rfl⟩
theorem d0_15 : Dc code 15 (.aload 8) 2 17 := ⟨at_15, rfl⟩
theorem d0_17 : Dc code 17 (.iconst 1) 1 18 := ⟨at_17, rfl⟩
theorem d0_18 : Dc code 18 (.lload_n 0) 1 19 := ⟨at_18, rfl⟩
theorem d0_19 : Dc code 19 (.iconst 1) 1 20 := ⟨at_19, rfl⟩
theorem d0_20 : Dc code 20 (.invokestatic 11) 3 23 := ⟨at_20, rfl⟩
theorem d0_23 : Dc code 23 (.lastore) 1 24 := ⟨at_23, rfl⟩
theorem d0_24 : Dc code 24 (.aload 8) 2 26 := ⟨at_24, rfl⟩
theorem d0_26 : Dc code 26 (.iconst 2) 1 27 := ⟨at_26, rfl⟩
theorem d0_27 : Dc code 27 (.lload_n 0) 1 28 := ⟨at_27, rfl⟩
theorem d0_28 : Dc code 28 (.iconst 2) 1 29 := ⟨at_28, rfl⟩
theorem d0_29 : Dc code 29 (.invokestatic 11) 3 32 := ⟨at_29, rfl⟩
theorem d0_32 : Dc code 32 (.lastore) 1 33 := ⟨at_32, rfl⟩
theorem d0_33 : Dc code 33 (.aload 8) 2 35 := ⟨at_33, rfl⟩
theorem d0_35 : Dc code 35 (.iconst 3) 1 36 := ⟨at_35, rfl⟩
theorem d0_36 : Dc code 36 (.lload_n 0) 1 37 := ⟨at_36, rfl⟩
theorem d0_37 : Dc code 37 (.iconst 3) 1 38 := ⟨at_37, rfl⟩
theorem d0_38 : Dc code 38 (.invokestatic 11) 3 41 := ⟨at_38, rfl⟩
theorem d0_41 : Dc code 41 (.lastore) 1 42 := ⟨at_41, rfl⟩
theorem d0_42 : Dc code 42 (.aload 8) 2 44 := ⟨at_42, rfl⟩
theorem d0_44 : Dc code 44 (.iconst 4) 1 45 := ⟨at_44, rfl⟩
theorem d0_45 : Dc code 45 (.lload_n 0) 1 46 := ⟨at_45, rfl⟩
theorem d0_46 : Dc code 46 (.iconst 4) 1 47 := ⟨at_46, rfl⟩
theorem d0_47 : Dc code 47 (.invokestatic 11) 3 50 := ⟨at_47, rfl⟩
theorem d0_50 : Dc code 50 (.lastore) 1 51 := ⟨at_50, rfl⟩
theorem d0_51 : Dc code 51 (.aload 8) 2 53 := ⟨at_51, rfl⟩
theorem d0_53 : Dc code 53 (.iconst 5) 1 54 := ⟨at_53, rfl⟩
theorem d0_54 : Dc code 54 (.lload_n 0) 1 55 := ⟨at_54, rfl⟩
theorem d0_55 : Dc code 55 (.iconst 5) 1 56 := ⟨at_55, rfl⟩
theorem d0_56 : Dc code 56 (.invokestatic 11) 3 59 := ⟨at_56, rfl⟩
theorem d0_59 : Dc code 59 (.lastore) 1 60 := ⟨at_59, rfl⟩
theorem d0_60 : Dc code 60 (.bipush 9) 2 62 := ⟨at_60, rfl⟩
theorem d0_62 : Dc code 62 (.newarray .long) 2 64 := ⟨at_62, rfl⟩
theorem d0_64 : Dc code 64 (.astore 9) 2 66 := ⟨at_64, rfl⟩
theorem d0_66 : Dc code 66 (.aload 9) 2 68 := ⟨at_66, rfl⟩
theorem d0_68 : Dc code 68 (.iconst 0) 1 69 := ⟨at_68, rfl⟩
theorem d0_69 : Dc code 69 (.lload_n 2) 1 70 := ⟨at_69, rfl⟩
theorem d0_70 : Dc code 70 (.iconst 0) 1 71 := ⟨at_70, rfl⟩
theorem d0_71 : Dc code 71 (.invokestatic 11) 3 74 := ⟨at_71, rfl⟩
theorem d0_74 : Dc code 74 (.lastore) 1 75 := ⟨at_74, rfl⟩
theorem d0_75 : Dc code 75 (.aload 9) 2 77 := ⟨at_75, rfl⟩
theorem d0_77 : Dc code 77 (.iconst 1) 1 78 := ⟨at_77, rfl⟩
theorem d0_78 : Dc code 78 (.lload_n 2) 1 79 := ⟨at_78, rfl⟩
theorem d0_79 : Dc code 79 (.iconst 1) 1 80 := ⟨at_79, rfl⟩
theorem d0_80 : Dc code 80 (.invokestatic 11) 3 83 := ⟨at_80, rfl⟩
theorem d0_83 : Dc code 83 (.lastore) 1 84 := ⟨at_83, rfl⟩
theorem d0_84 : Dc code 84 (.aload 9) 2 86 := ⟨at_84, rfl⟩
theorem d0_86 : Dc code 86 (.iconst 2) 1 87 := ⟨at_86, rfl⟩
theorem d0_87 : Dc code 87 (.lload_n 2) 1 88 := ⟨at_87, rfl⟩
theorem d0_88 : Dc code 88 (.iconst 2) 1 89 := ⟨at_88, rfl⟩
theorem d0_89 : Dc code 89 (.invokestatic 11) 3 92 := ⟨at_89, rfl⟩
theorem d0_92 : Dc code 92 (.lastore) 1 93 := ⟨at_92, rfl⟩
theorem d0_93 : Dc code 93 (.aload 9) 2 95 := ⟨at_93, rfl⟩
theorem d0_95 : Dc code 95 (.iconst 3) 1 96 := ⟨at_95, rfl⟩
theorem d0_96 : Dc code 96 (.lload_n 2) 1 97 := ⟨at_96, rfl⟩
theorem d0_97 : Dc code 97 (.iconst 3) 1 98 := ⟨at_97, rfl⟩
theorem d0_98 : Dc code 98 (.invokestatic 11) 3 101 := ⟨at_98, rfl⟩
theorem d0_101 : Dc code 101 (.lastore) 1 102 := ⟨at_101, rfl⟩
theorem d0_102 : Dc code 102 (.aload 9) 2 104 := ⟨at_102, rfl⟩
theorem d0_104 : Dc code 104 (.iconst 4) 1 105 := ⟨at_104, rfl⟩
theorem d0_105 : Dc code 105 (.lload_n 2) 1 106 := ⟨at_105, rfl⟩
theorem d0_106 : Dc code 106 (.iconst 4) 1 107 := ⟨at_106, rfl⟩
theorem d0_107 : Dc code 107 (.invokestatic 11) 3 110 := ⟨at_107, rfl⟩
theorem d0_110 : Dc code 110 (.lastore) 1 111 := ⟨at_110, rfl⟩
theorem d0_111 : Dc code 111 (.aload 9) 2 113 := ⟨at_111, rfl⟩
theorem d0_113 : Dc code 113 (.iconst 5) 1 114 := ⟨at_113, rfl⟩
theorem d0_114 : Dc code 114 (.lload_n 2) 1 115 := ⟨at_114, rfl⟩
theorem d0_115 : Dc code 115 (.iconst 5) 1 116 := ⟨at_115, rfl⟩
theorem d0_116 : Dc code 116 (.invokestatic 11) 3 119 := ⟨at_116, rfl⟩
theorem d0_119 : Dc code 119 (.lastore) 1 120 := ⟨at_119, rfl⟩
theorem d0_120 : Dc code 120 (.aload 9) 2 122 := ⟨at_120, rfl⟩
theorem d0_122 : Dc code 122 (.bipush 6) 2 124 := ⟨at_122, rfl⟩
theorem d0_124 : Dc code 124 (.lload 4) 2 126 := ⟨at_124, rfl⟩
theorem d0_126 : Dc code 126 (.iconst 0) 1 127 := ⟨at_126, rfl⟩
theorem d0_127 : Dc code 127 (.invokestatic 11) 3 130 := ⟨at_127, rfl⟩
theorem d0_130 : Dc code 130 (.lastore) 1 131 := ⟨at_130, rfl⟩
theorem d0_131 : Dc code 131 (.aload 9) 2 133 := ⟨at_131, rfl⟩
theorem d0_133 : Dc code 133 (.bipush 7) 2 135 := ⟨at_133, rfl⟩
theorem d0_135 : Dc code 135 (.lload 4) 2 137 := ⟨at_135, rfl⟩
theorem d0_137 : Dc code 137 (.iconst 1) 1 138 := ⟨at_137, rfl⟩
theorem d0_138 : Dc code 138 (.invokestatic 11) 3 141 := ⟨at_138, rfl⟩
theorem d0_141 : Dc code 141 (.lastore) 1 142 := ⟨at_141, rfl⟩
theorem d0_142 : Dc code 142 (.aload 9) 2 144 := ⟨at_142, rfl⟩
theorem d0_144 : Dc code 144 (.bipush 8) 2 146 := ⟨at_144, rfl⟩
theorem d0_146 : Dc code 146 (.lload 4) 2 148 := ⟨at_146, rfl⟩
theorem d0_148 : Dc code 148 (.iconst 2) 1 149 := ⟨at_148, rfl⟩
theorem d0_149 : Dc code 149 (.invokestatic 11) 3 152 := ⟨at_149, rfl⟩
theorem d0_152 : Dc code 152 (.lastore) 1 153 := ⟨at_152, rfl⟩
theorem d0_153 : Dc code 153 (.lload 4) 2 155 := ⟨at_153, rfl⟩
theorem d0_155 : Dc code 155 (.iconst 3) 1 156 := ⟨at_155, rfl⟩
theorem d0_156 : Dc code 156 (.invokestatic 11) 3 159 := ⟨at_156, rfl⟩
theorem d0_159 : Dc code 159 (.lstore 10) 2 161 := ⟨at_159, rfl⟩
theorem d0_161 : Dc code 161 (.lload 4) 2 163 := ⟨at_161, rfl⟩
theorem d0_163 : Dc code 163 (.iconst 4) 1 164 := ⟨at_163, rfl⟩
theorem d0_164 : Dc code 164 (.invokestatic 11) 3 167 := ⟨at_164, rfl⟩
theorem d0_167 : Dc code 167 (.lstore 12) 2 169 := ⟨at_167, rfl⟩
theorem d0_169 : Dc code 169 (.lload 4) 2 171 := ⟨at_169, rfl⟩
theorem d0_171 : Dc code 171 (.iconst 5) 1 172 := ⟨at_171, rfl⟩
theorem d0_172 : Dc code 172 (.invokestatic 11) 3 175 := ⟨at_172, rfl⟩
theorem d0_175 : Dc code 175 (.lstore 14) 2 177 := ⟨at_175, rfl⟩
theorem d0_177 : Dc code 177 (.bipush 6) 2 179 := ⟨at_177, rfl⟩
theorem d0_179 : Dc code 179 (.newarray .double) 2 181 := ⟨at_179, rfl⟩
theorem d0_181 : Dc code 181 (.dup) 1 182 := ⟨at_181, rfl⟩
theorem d0_182 : Dc code 182 (.iconst 0) 1 183 := ⟨at_182, rfl⟩
theorem d0_183 : Dc code 183 (.aload 8) 2 185 := ⟨at_183, rfl⟩
theorem d0_185 : Dc code 185 (.iconst 0) 1 186 := ⟨at_185, rfl⟩
theorem d0_186 : Dc code 186 (.laload) 1 187 := ⟨at_186, rfl⟩
theorem d0_187 : Dc code 187 (.l2d) 1 188 := ⟨at_187, rfl⟩
theorem d0_188 : Dc code 188 (.dastore) 1 189 := ⟨at_188, rfl⟩
theorem d0_189 : Dc code 189 (.dup) 1 190 := ⟨at_189, rfl⟩
theorem d0_190 : Dc code 190 (.iconst 1) 1 191 := ⟨at_190, rfl⟩
theorem d0_191 : Dc code 191 (.aload 8) 2 193 := ⟨at_191, rfl⟩
theorem d0_193 : Dc code 193 (.iconst 1) 1 194 := ⟨at_193, rfl⟩
theorem d0_194 : Dc code 194 (.laload) 1 195 := ⟨at_194, rfl⟩
theorem d0_195 : Dc code 195 (.l2d) 1 196 := ⟨at_195, rfl⟩
theorem d0_196 : Dc code 196 (.dastore) 1 197 := ⟨at_196, rfl⟩
theorem d0_197 : Dc code 197 (.dup) 1 198 := ⟨at_197, rfl⟩
theorem d0_198 : Dc code 198 (.iconst 2) 1 199 := ⟨at_198, rfl⟩
theorem d0_199 : Dc code 199 (.aload 8) 2 201 := ⟨at_199, rfl⟩
theorem d0_201 : Dc code 201 (.iconst 2) 1 202 := ⟨at_201, rfl⟩
theorem d0_202 : Dc code 202 (.laload) 1 203 := ⟨at_202, rfl⟩
theorem d0_203 : Dc code 203 (.l2d) 1 204 := ⟨at_203, rfl⟩
theorem d0_204 : Dc code 204 (.dastore) 1 205 := ⟨at_204, rfl⟩
theorem d0_205 : Dc code 205 (.dup) 1 206 := ⟨at_205, rfl⟩
theorem d0_206 : Dc code 206 (.iconst 3) 1 207 := ⟨at_206, rfl⟩
theorem d0_207 : Dc code 207 (.aload 8) 2 209 := ⟨at_207, rfl⟩
theorem d0_209 : Dc code 209 (.iconst 3) 1 210 := ⟨at_209, rfl⟩
theorem d0_210 : Dc code 210 (.laload) 1 211 := ⟨at_210, rfl⟩
theorem d0_211 : Dc code 211 (.l2d) 1 212 := ⟨at_211, rfl⟩
theorem d0_212 : Dc code 212 (.dastore) 1 213 := ⟨at_212, rfl⟩
theorem d0_213 : Dc code 213 (.dup) 1 214 := ⟨at_213, rfl⟩
theorem d0_214 : Dc code 214 (.iconst 4) 1 215 := ⟨at_214, rfl⟩
theorem d0_215 : Dc code 215 (.aload 8) 2 217 := ⟨at_215, rfl⟩
theorem d0_217 : Dc code 217 (.iconst 4) 1 218 := ⟨at_217, rfl⟩
theorem d0_218 : Dc code 218 (.laload) 1 219 := ⟨at_218, rfl⟩
theorem d0_219 : Dc code 219 (.l2d) 1 220 := ⟨at_219, rfl⟩
theorem d0_220 : Dc code 220 (.dastore) 1 221 := ⟨at_220, rfl⟩
theorem d0_221 : Dc code 221 (.dup) 1 222 := ⟨at_221, rfl⟩
theorem d0_222 : Dc code 222 (.iconst 5) 1 223 := ⟨at_222, rfl⟩
theorem d0_223 : Dc code 223 (.aload 8) 2 225 := ⟨at_223, rfl⟩
theorem d0_225 : Dc code 225 (.iconst 5) 1 226 := ⟨at_225, rfl⟩
theorem d0_226 : Dc code 226 (.laload) 1 227 := ⟨at_226, rfl⟩
theorem d0_227 : Dc code 227 (.l2d) 1 228 := ⟨at_227, rfl⟩
theorem d0_228 : Dc code 228 (.dastore) 1 229 := ⟨at_228, rfl⟩
theorem d0_229 : Dc code 229 (.astore 16) 2 231 := ⟨at_229, rfl⟩
theorem d0_231 : Dc code 231 (.bipush 9) 2 233 := ⟨at_231, rfl⟩
theorem d0_233 : Dc code 233 (.newarray .double) 2 235 := ⟨at_233, rfl⟩
theorem d0_235 : Dc code 235 (.dup) 1 236 := ⟨at_235, rfl⟩
theorem d0_236 : Dc code 236 (.iconst 0) 1 237 := ⟨at_236, rfl⟩
theorem d0_237 : Dc code 237 (.aload 9) 2 239 := ⟨at_237, rfl⟩
theorem d0_239 : Dc code 239 (.iconst 0) 1 240 := ⟨at_239, rfl⟩
theorem d0_240 : Dc code 240 (.laload) 1 241 := ⟨at_240, rfl⟩
theorem d0_241 : Dc code 241 (.l2d) 1 242 := ⟨at_241, rfl⟩
theorem d0_242 : Dc code 242 (.dastore) 1 243 := ⟨at_242, rfl⟩
theorem d0_243 : Dc code 243 (.dup) 1 244 := ⟨at_243, rfl⟩
theorem d0_244 : Dc code 244 (.iconst 1) 1 245 := ⟨at_244, rfl⟩
theorem d0_245 : Dc code 245 (.aload 9) 2 247 := ⟨at_245, rfl⟩
theorem d0_247 : Dc code 247 (.iconst 1) 1 248 := ⟨at_247, rfl⟩
theorem d0_248 : Dc code 248 (.laload) 1 249 := ⟨at_248, rfl⟩
theorem d0_249 : Dc code 249 (.l2d) 1 250 := ⟨at_249, rfl⟩
theorem d0_250 : Dc code 250 (.dastore) 1 251 := ⟨at_250, rfl⟩
theorem d0_251 : Dc code 251 (.dup) 1 252 := ⟨at_251, rfl⟩
theorem d0_252 : Dc code 252 (.iconst 2) 1 253 := ⟨at_252, rfl⟩
theorem d0_253 : Dc code 253 (.aload 9) 2 255 := ⟨at_253, rfl⟩
theorem d0_255 : Dc code 255 (.iconst 2) 1 256 := ⟨at_255, rfl⟩
theorem d0_256 : Dc code 256 (.laload) 1 257 := ⟨at_256, rfl⟩
theorem d0_257 : Dc code 257 (.l2d) 1 258 := ⟨at_257, rfl⟩
theorem d0_258 : Dc code 258 (.dastore) 1 259 := ⟨at_258, rfl⟩
theorem d0_259 : Dc code 259 (.dup) 1 260 := ⟨at_259, rfl⟩
theorem d0_260 : Dc code 260 (.iconst 3) 1 261 := ⟨at_260, rfl⟩
theorem d0_261 : Dc code 261 (.aload 9) 2 263 := ⟨at_261, rfl⟩
theorem d0_263 : Dc code 263 (.iconst 3) 1 264 := ⟨at_263, rfl⟩
theorem d0_264 : Dc code 264 (.laload) 1 265 := ⟨at_264, rfl⟩
theorem d0_265 : Dc code 265 (.l2d) 1 266 := ⟨at_265, rfl⟩
theorem d0_266 : Dc code 266 (.dastore) 1 267 := ⟨at_266, rfl⟩
theorem d0_267 : Dc code 267 (.dup) 1 268 := ⟨at_267, rfl⟩
theorem d0_268 : Dc code 268 (.iconst 4) 1 269 := ⟨at_268, rfl⟩
theorem d0_269 : Dc code 269 (.aload 9) 2 271 := ⟨at_269, rfl⟩
theorem d0_271 : Dc code 271 (.iconst 4) 1 272 := ⟨at_271, rfl⟩
theorem d0_272 : Dc code 272 (.laload) 1 273 := ⟨at_272, rfl⟩
theorem d0_273 : Dc code 273 (.l2d) 1 274 := ⟨at_273, rfl⟩
theorem d0_274 : Dc code 274 (.dastore) 1 275 := ⟨at_274, rfl⟩
theorem d0_275 : Dc code 275 (.dup) 1 276 := ⟨at_275, rfl⟩
theorem d0_276 : Dc code 276 (.iconst 5) 1 277 := ⟨at_276, rfl⟩
theorem d0_277 : Dc code 277 (.aload 9) 2 279 := ⟨at_277, rfl⟩
theorem d0_279 : Dc code 279 (.iconst 5) 1 280 := ⟨at_279, rfl⟩
theorem d0_280 : Dc code 280 (.laload) 1 281 := ⟨at_280, rfl⟩
theorem d0_281 : Dc code 281 (.l2d) 1 282 := ⟨at_281, rfl⟩
theorem d0_282 : Dc code 282 (.dastore) 1 283 := ⟨at_282, rfl⟩
theorem d0_283 : Dc code 283 (.dup) 1 284 := ⟨at_283, rfl⟩
theorem d0_284 : Dc code 284 (.bipush 6) 2 286 := ⟨at_284, rfl⟩
theorem d0_286 : Dc code 286 (.aload 9) 2 288 := ⟨at_286, rfl⟩
theorem d0_288 : Dc code 288 (.bipush 6) 2 290 := ⟨at_288, rfl⟩
theorem d0_290 : Dc code 290 (.laload) 1 291 := ⟨at_290, rfl⟩
theorem d0_291 : Dc code 291 (.l2d) 1 292 := ⟨at_291, rfl⟩
theorem d0_292 : Dc code 292 (.dastore) 1 293 := ⟨at_292, rfl⟩
theorem d0_293 : Dc code 293 (.dup) 1 294 := ⟨at_293, rfl⟩
theorem d0_294 : Dc code 294 (.bipush 7) 2 296 := ⟨at_294, rfl⟩
theorem d0_296 : Dc code 296 (.aload 9) 2 298 := ⟨at_296, rfl⟩
theorem d0_298 : Dc code 298 (.bipush 7) 2 300 := ⟨at_298, rfl⟩
theorem d0_300 : Dc code 300 (.laload) 1 301 := ⟨at_300, rfl⟩
theorem d0_301 : Dc code 301 (.l2d) 1 302 := ⟨at_301, rfl⟩
theorem d0_302 : Dc code 302 (.dastore) 1 303 := ⟨at_302, rfl⟩
theorem d0_303 : Dc code 303 (.dup) 1 304 := ⟨at_303, rfl⟩
theorem d0_304 : Dc code 304 (.bipush 8) 2 306 := ⟨at_304, rfl⟩
theorem d0_306 : Dc code 306 (.aload 9) 2 308 := ⟨at_306, rfl⟩
theorem d0_308 : Dc code 308 (.bipush 8) 2 310 := ⟨at_308, rfl⟩
theorem d0_310 : Dc code 310 (.laload) 1 311 := ⟨at_310, rfl⟩
theorem d0_311 : Dc code 311 (.l2d) 1 312 := ⟨at_311, rfl⟩
theorem d0_312 : Dc code 312 (.dastore) 1 313 := ⟨at_312, rfl⟩
theorem d0_313 : Dc code 313 (.astore 17) 2 315 := ⟨at_313, rfl⟩
theorem d0_315 : Dc code 315 (.iconst 4) 1 316 := ⟨at_315, rfl⟩
theorem d0_316 : Dc code 316 (.newarray .double) 2 318 := ⟨at_316, rfl⟩
theorem d0_318 : Dc code 318 (.dup) 1 319 := ⟨at_318, rfl⟩
theorem d0_319 : Dc code 319 (.iconst 0) 1 320 := ⟨at_319, rfl⟩
theorem d0_320 : Dc code 320 (.lload 12) 2 322 := ⟨at_320, rfl⟩
theorem d0_322 : Dc code 322 (.l2d) 1 323 := ⟨at_322, rfl⟩
theorem d0_323 : Dc code 323 (.dastore) 1 324 := ⟨at_323, rfl⟩
theorem d0_324 : Dc code 324 (.dup) 1 325 := ⟨at_324, rfl⟩
theorem d0_325 : Dc code 325 (.iconst 1) 1 326 := ⟨at_325, rfl⟩
theorem d0_326 : Dc code 326 (.lload 14) 2 328 := ⟨at_326, rfl⟩
theorem d0_328 : Dc code 328 (.l2d) 1 329 := ⟨at_328, rfl⟩
theorem d0_329 : Dc code 329 (.dastore) 1 330 := ⟨at_329, rfl⟩
theorem d0_330 : Dc code 330 (.dup) 1 331 := ⟨at_330, rfl⟩
theorem d0_331 : Dc code 331 (.iconst 2) 1 332 := ⟨at_331, rfl⟩
theorem d0_332 : Dc code 332 (.iload 6) 2 334 := ⟨at_332, rfl⟩
theorem d0_334 : Dc code 334 (.i2d) 1 335 := ⟨at_334, rfl⟩
theorem d0_335 : Dc code 335 (.dastore) 1 336 := ⟨at_335, rfl⟩
theorem d0_336 : Dc code 336 (.dup) 1 337 := ⟨at_336, rfl⟩
theorem d0_337 : Dc code 337 (.iconst 3) 1 338 := ⟨at_337, rfl⟩
theorem d0_338 : Dc code 338 (.iload 7) 2 340 := ⟨at_338, rfl⟩
theorem d0_340 : Dc code 340 (.i2d) 1 341 := ⟨at_340, rfl⟩
theorem d0_341 : Dc code 341 (.dastore) 1 342 := ⟨at_341, rfl⟩
theorem d0_342 : Dc code 342 (.astore 18) 2 344 := ⟨at_342, rfl⟩
theorem d0_344 : Dc code 344 (.aload 18) 2 346 := ⟨at_344, rfl⟩
theorem d0_346 : Dc code 346 (.aload 16) 2 348 := ⟨at_346, rfl⟩
theorem d0_348 : Dc code 348 (.aload 17) 2 350 := ⟨at_348, rfl⟩
theorem d0_350 : Dc code 350 (.lload 10) 2 352 := ⟨at_350, rfl⟩
theorem d0_352 : Dc code 352 (.l2d) 1 353 := ⟨at_352, rfl⟩
theorem d0_353 : Dc code 353 (.invokestatic 17) 3 356 := ⟨at_353, rfl⟩
theorem pd_2 : parseMethodDescriptor "([D[D[DD)V" = some ⟨[(.array .double), (.array .double), (.array .double), .double], none⟩ := by decide +kernel
theorem d0_356 : Dc code 356 (.lload 12) 2 358 := ⟨at_356, rfl⟩
theorem d0_358 : Dc code 358 (.lload 10) 2 360 := ⟨at_358, rfl⟩
theorem d0_360 : Dc code 360 (.aload 8) 2 362 := ⟨at_360, rfl⟩
theorem d0_362 : Dc code 362 (.aload 9) 2 364 := ⟨at_362, rfl⟩
theorem d0_364 : Dc code 364 (.iconst 0) 1 365 := ⟨at_364, rfl⟩
theorem d0_365 : Dc code 365 (.iconst 0) 1 366 := ⟨at_365, rfl⟩
theorem d0_366 : Dc code 366 (.invokestatic 23) 3 369 := ⟨at_366, rfl⟩
theorem pd_3 : parseMethodDescriptor "([J[JII)J" = some ⟨[(.array .long), (.array .long), .int, .int], some .long⟩ := by decide +kernel
theorem d0_369 : Dc code 369 (.lmul) 1 370 := ⟨at_369, rfl⟩
theorem d0_370 : Dc code 370 (.ladd) 1 371 := ⟨at_370, rfl⟩
theorem d0_371 : Dc code 371 (.lstore 19) 2 373 := ⟨at_371, rfl⟩
theorem d0_373 : Dc code 373 (.lload 14) 2 375 := ⟨at_373, rfl⟩
theorem d0_375 : Dc code 375 (.lload 10) 2 377 := ⟨at_375, rfl⟩
theorem d0_377 : Dc code 377 (.aload 8) 2 379 := ⟨at_377, rfl⟩
theorem d0_379 : Dc code 379 (.aload 9) 2 381 := ⟨at_379, rfl⟩
theorem d0_381 : Dc code 381 (.iconst 0) 1 382 := ⟨at_381, rfl⟩
theorem d0_382 : Dc code 382 (.iconst 1) 1 383 := ⟨at_382, rfl⟩
theorem d0_383 : Dc code 383 (.invokestatic 23) 3 386 := ⟨at_383, rfl⟩
theorem d0_386 : Dc code 386 (.lmul) 1 387 := ⟨at_386, rfl⟩
theorem d0_387 : Dc code 387 (.ladd) 1 388 := ⟨at_387, rfl⟩
theorem d0_388 : Dc code 388 (.lstore 21) 2 390 := ⟨at_388, rfl⟩
theorem d0_390 : Dc code 390 (.iload 6) 2 392 := ⟨at_390, rfl⟩
theorem d0_392 : Dc code 392 (.i2l) 1 393 := ⟨at_392, rfl⟩
theorem d0_393 : Dc code 393 (.lload 10) 2 395 := ⟨at_393, rfl⟩
theorem d0_395 : Dc code 395 (.aload 8) 2 397 := ⟨at_395, rfl⟩
theorem d0_397 : Dc code 397 (.aload 9) 2 399 := ⟨at_397, rfl⟩
theorem d0_399 : Dc code 399 (.iconst 1) 1 400 := ⟨at_399, rfl⟩
theorem d0_400 : Dc code 400 (.iconst 0) 1 401 := ⟨at_400, rfl⟩
theorem d0_401 : Dc code 401 (.invokestatic 23) 3 404 := ⟨at_401, rfl⟩
theorem d0_404 : Dc code 404 (.lmul) 1 405 := ⟨at_404, rfl⟩
theorem d0_405 : Dc code 405 (.ladd) 1 406 := ⟨at_405, rfl⟩
theorem d0_406 : Dc code 406 (.lstore 23) 2 408 := ⟨at_406, rfl⟩
theorem d0_408 : Dc code 408 (.iload 7) 2 410 := ⟨at_408, rfl⟩
theorem d0_410 : Dc code 410 (.i2l) 1 411 := ⟨at_410, rfl⟩
theorem d0_411 : Dc code 411 (.lload 10) 2 413 := ⟨at_411, rfl⟩
theorem d0_413 : Dc code 413 (.aload 8) 2 415 := ⟨at_413, rfl⟩
theorem d0_415 : Dc code 415 (.aload 9) 2 417 := ⟨at_415, rfl⟩
theorem d0_417 : Dc code 417 (.iconst 1) 1 418 := ⟨at_417, rfl⟩
theorem d0_418 : Dc code 418 (.iconst 1) 1 419 := ⟨at_418, rfl⟩
theorem d0_419 : Dc code 419 (.invokestatic 23) 3 422 := ⟨at_419, rfl⟩
theorem d0_422 : Dc code 422 (.lmul) 1 423 := ⟨at_422, rfl⟩
theorem d0_423 : Dc code 423 (.ladd) 1 424 := ⟨at_423, rfl⟩
theorem d0_424 : Dc code 424 (.lstore 25) 2 426 := ⟨at_424, rfl⟩
theorem d0_426 : Dc code 426 (.aload 18) 2 428 := ⟨at_426, rfl⟩
theorem d0_428 : Dc code 428 (.iconst 0) 1 429 := ⟨at_428, rfl⟩
theorem d0_429 : Dc code 429 (.daload) 1 430 := ⟨at_429, rfl⟩
theorem d0_430 : Dc code 430 (.lload 19) 2 432 := ⟨at_430, rfl⟩
theorem d0_432 : Dc code 432 (.l2d) 1 433 := ⟨at_432, rfl⟩
theorem d0_433 : Dc code 433 (.dcmp .l) 1 434 := ⟨at_433, rfl⟩
theorem d0_434 : Dj code 434 (.ifCond .ne 40) 40 3 437 474 := ⟨at_434, rfl, by decide, by decide⟩
theorem d0_437 : Dc code 437 (.aload 18) 2 439 := ⟨at_437, rfl⟩
theorem d0_439 : Dc code 439 (.iconst 1) 1 440 := ⟨at_439, rfl⟩
theorem d0_440 : Dc code 440 (.daload) 1 441 := ⟨at_440, rfl⟩
theorem d0_441 : Dc code 441 (.lload 21) 2 443 := ⟨at_441, rfl⟩
theorem d0_443 : Dc code 443 (.l2d) 1 444 := ⟨at_443, rfl⟩
theorem d0_444 : Dc code 444 (.dcmp .l) 1 445 := ⟨at_444, rfl⟩
theorem d0_445 : Dj code 445 (.ifCond .ne 29) 29 3 448 474 := ⟨at_445, rfl, by decide, by decide⟩
theorem d0_448 : Dc code 448 (.aload 18) 2 450 := ⟨at_448, rfl⟩
theorem d0_450 : Dc code 450 (.iconst 2) 1 451 := ⟨at_450, rfl⟩
theorem d0_451 : Dc code 451 (.daload) 1 452 := ⟨at_451, rfl⟩
theorem d0_452 : Dc code 452 (.lload 23) 2 454 := ⟨at_452, rfl⟩
theorem d0_454 : Dc code 454 (.l2d) 1 455 := ⟨at_454, rfl⟩
theorem d0_455 : Dc code 455 (.dcmp .l) 1 456 := ⟨at_455, rfl⟩
theorem d0_456 : Dj code 456 (.ifCond .ne 18) 18 3 459 474 := ⟨at_456, rfl, by decide, by decide⟩
theorem d0_459 : Dc code 459 (.aload 18) 2 461 := ⟨at_459, rfl⟩
theorem d0_461 : Dc code 461 (.iconst 3) 1 462 := ⟨at_461, rfl⟩
theorem d0_462 : Dc code 462 (.daload) 1 463 := ⟨at_462, rfl⟩
theorem d0_463 : Dc code 463 (.lload 25) 2 465 := ⟨at_463, rfl⟩
theorem d0_465 : Dc code 465 (.l2d) 1 466 := ⟨at_465, rfl⟩
theorem d0_466 : Dc code 466 (.dcmp .l) 1 467 := ⟨at_466, rfl⟩
theorem d0_467 : Dj code 467 (.ifCond .ne 7) 7 3 470 474 := ⟨at_467, rfl, by decide, by decide⟩
theorem d0_470 : Dc code 470 (.iconst 1) 1 471 := ⟨at_470, rfl⟩
theorem d0_471 : Dj code 471 (.goto 4) 4 3 474 475 := ⟨at_471, rfl, by decide, by decide⟩
theorem d0_475 : Dc code 475 (.ireturn) 1 476 := ⟨at_475, rfl⟩
theorem rm0 (l : Launch) {Z : State} {a0 : Array Value} (hw : ∀ d ∈ tables_1, d.before a0 Z = true) {h : Heap} (hE : Ext Z.heap h) (p0 : Int64) (p1 : Int64) (p2 : Int64) (p3 : Int32) (p4 : Int32)   :
    Con l x code maxLocals ret tables_1 room_1 Z #[(.long p0), (.long p1), (.long p2), (.int p3), (.int p4)] h (fun v' h' => v' = some (.int 1)) := by
  refine con_of (plainFor_of_name pn_0) hE (fun m => ef_rm0 m p0 p1 p2 p3 p4) ?_
  intro p e s m below meth c T0 C X0
  have C : Cx p s m meth c Z "com/example/strutwork/strutwork/AreaElementAddStiffnessPinLaw" "law" code maxLocals ret := C
  show Goes p e below _ T0 (mkF m 0 #[.val (.long p0), .second, .val (.long p1), .second, .val (.long p2), .second, .val (.int p3), .val (.int p4), .unset, .unset, .unset, .unset, .unset, .unset, .unset, .unset, .unset, .unset, .unset, .unset, .unset, .unset, .unset, .unset, .unset, .unset, .unset] [])
  refine g_bipush 6 C X0 d0_0 rfl (g_newarray C X0 (wd hw 0 rfl) d0_2 (by decide) 6 6 (by decide) (by decide) (by decide) (by decide) (fun T85 h85 b85 k_b85 g_b85 n_b85 X85 E85 V85 => ?_))
  have V_b85 : Arv Z h85 b85 k_b85 .long (6 : Int32) [(.long 0), (.long 0), (.long 0), (.long 0), (.long 0), (.long 0)] (.long 0) := V85
  refine g_astore C X85 d0_4 rfl (l' := #[.val (.long p0), .second, .val (.long p1), .second, .val (.long p2), .second, .val (.int p3), .val (.int p4), .val (.ref b85), .unset, .unset, .unset, .unset, .unset, .unset, .unset, .unset, .unset, .unset, .unset, .unset, .unset, .unset, .unset, .unset, .unset, .unset]) rfl (g_aload C X85 d0_6 rfl rfl (g_iconst 0 C X85 d0_8 rfl (g_lloadN C X85 d0_9 rfl (g_iconst 0 C X85 d0_10 rfl (g_static (argsL := [(.long p0), (.int 0)]) (st := [(.int 0), (.ref b85)]) C X85 (wd hw 1 rfl) (wd hw 2 rfl) (wd hw 3 rfl) (wd hw 4 rfl) (by decide) (pay_of (W' := 2) (rfld l hw X85.ext p0 (0 : Int32)) C.hZ (wd hw 4 rfl) (wd hw 3 rfl) (by decide) (by decide)) pd_1 rfl rfl _ rfl (Nat.le_of_eq rfl) d0_11 (by decide) (by decide) (fun T86 h86 v86 q86 X86 => ?_))))))
  obtain ⟨y0, rfl, bd_y0, e86⟩ := q86
  subst e86
  show Goes p e below _ T86 (mkF m 14 #[.val (.long p0), .second, .val (.long p1), .second, .val (.long p2), .second, .val (.int p3), .val (.int p4), .val (.ref b85), .unset, .unset, .unset, .unset, .unset, .unset, .unset, .unset, .unset, .unset, .unset, .unset, .unset, .unset, .unset, .unset, .unset, .unset] [(.long y0), (.int 0), (.ref b85)])
  refine g_lastore C X86 V_b85 n_b85 d0_14 (by decide) (by decide) (Nat.le_of_ble_eq_true rfl) (.long y0) rfl (fun T87 h87 X87 W87 V87 => ?_)
  have V87_b85 : Arv Z h87 b85 k_b85 .long (6 : Int32) [(.long y0), (.long 0), (.long 0), (.long 0), (.long 0), (.long 0)] (.long 0) := V87
  refine g_aload C X87 d0_15 rfl rfl (g_iconst 1 C X87 d0_17 rfl (g_lloadN C X87 d0_18 rfl (g_iconst 1 C X87 d0_19 rfl (g_static (argsL := [(.long p0), (.int 1)]) (st := [(.int 1), (.ref b85)]) C X87 (wd hw 1 rfl) (wd hw 2 rfl) (wd hw 3 rfl) (wd hw 4 rfl) (by decide) (pay_of (W' := 2) (rfld l hw X87.ext p0 (1 : Int32)) C.hZ (wd hw 4 rfl) (wd hw 3 rfl) (by decide) (by decide)) pd_1 rfl rfl _ rfl (Nat.le_of_eq rfl) d0_20 (by decide) (by decide) (fun T88 h88 v88 q88 X88 => ?_)))))
  obtain ⟨y1, rfl, bd_y1, e88⟩ := q88
  subst e88
  show Goes p e below _ T88 (mkF m 23 #[.val (.long p0), .second, .val (.long p1), .second, .val (.long p2), .second, .val (.int p3), .val (.int p4), .val (.ref b85), .unset, .unset, .unset, .unset, .unset, .unset, .unset, .unset, .unset, .unset, .unset, .unset, .unset, .unset, .unset, .unset, .unset, .unset] [(.long y1), (.int 1), (.ref b85)])
  refine g_lastore C X88 V87_b85 n_b85 d0_23 (by decide) (by decide) (Nat.le_of_ble_eq_true rfl) (.long y1) rfl (fun T89 h89 X89 W89 V89 => ?_)
  have V89_b85 : Arv Z h89 b85 k_b85 .long (6 : Int32) [(.long y0), (.long y1), (.long 0), (.long 0), (.long 0), (.long 0)] (.long 0) := V89
  refine g_aload C X89 d0_24 rfl rfl (g_iconst 2 C X89 d0_26 rfl (g_lloadN C X89 d0_27 rfl (g_iconst 2 C X89 d0_28 rfl (g_static (argsL := [(.long p0), (.int 2)]) (st := [(.int 2), (.ref b85)]) C X89 (wd hw 1 rfl) (wd hw 2 rfl) (wd hw 3 rfl) (wd hw 4 rfl) (by decide) (pay_of (W' := 2) (rfld l hw X89.ext p0 (2 : Int32)) C.hZ (wd hw 4 rfl) (wd hw 3 rfl) (by decide) (by decide)) pd_1 rfl rfl _ rfl (Nat.le_of_eq rfl) d0_29 (by decide) (by decide) (fun T90 h90 v90 q90 X90 => ?_)))))
  obtain ⟨y2, rfl, bd_y2, e90⟩ := q90
  subst e90
  show Goes p e below _ T90 (mkF m 32 #[.val (.long p0), .second, .val (.long p1), .second, .val (.long p2), .second, .val (.int p3), .val (.int p4), .val (.ref b85), .unset, .unset, .unset, .unset, .unset, .unset, .unset, .unset, .unset, .unset, .unset, .unset, .unset, .unset, .unset, .unset, .unset, .unset] [(.long y2), (.int 2), (.ref b85)])
  refine g_lastore C X90 V89_b85 n_b85 d0_32 (by decide) (by decide) (Nat.le_of_ble_eq_true rfl) (.long y2) rfl (fun T91 h91 X91 W91 V91 => ?_)
  have V91_b85 : Arv Z h91 b85 k_b85 .long (6 : Int32) [(.long y0), (.long y1), (.long y2), (.long 0), (.long 0), (.long 0)] (.long 0) := V91
  refine g_aload C X91 d0_33 rfl rfl (g_iconst 3 C X91 d0_35 rfl (g_lloadN C X91 d0_36 rfl (g_iconst 3 C X91 d0_37 rfl (g_static (argsL := [(.long p0), (.int 3)]) (st := [(.int 3), (.ref b85)]) C X91 (wd hw 1 rfl) (wd hw 2 rfl) (wd hw 3 rfl) (wd hw 4 rfl) (by decide) (pay_of (W' := 2) (rfld l hw X91.ext p0 (3 : Int32)) C.hZ (wd hw 4 rfl) (wd hw 3 rfl) (by decide) (by decide)) pd_1 rfl rfl _ rfl (Nat.le_of_eq rfl) d0_38 (by decide) (by decide) (fun T92 h92 v92 q92 X92 => ?_)))))
  obtain ⟨y3, rfl, bd_y3, e92⟩ := q92
  subst e92
  show Goes p e below _ T92 (mkF m 41 #[.val (.long p0), .second, .val (.long p1), .second, .val (.long p2), .second, .val (.int p3), .val (.int p4), .val (.ref b85), .unset, .unset, .unset, .unset, .unset, .unset, .unset, .unset, .unset, .unset, .unset, .unset, .unset, .unset, .unset, .unset, .unset, .unset] [(.long y3), (.int 3), (.ref b85)])
  refine g_lastore C X92 V91_b85 n_b85 d0_41 (by decide) (by decide) (Nat.le_of_ble_eq_true rfl) (.long y3) rfl (fun T93 h93 X93 W93 V93 => ?_)
  have V93_b85 : Arv Z h93 b85 k_b85 .long (6 : Int32) [(.long y0), (.long y1), (.long y2), (.long y3), (.long 0), (.long 0)] (.long 0) := V93
  refine g_aload C X93 d0_42 rfl rfl (g_iconst 4 C X93 d0_44 rfl (g_lloadN C X93 d0_45 rfl (g_iconst 4 C X93 d0_46 rfl (g_static (argsL := [(.long p0), (.int 4)]) (st := [(.int 4), (.ref b85)]) C X93 (wd hw 1 rfl) (wd hw 2 rfl) (wd hw 3 rfl) (wd hw 4 rfl) (by decide) (pay_of (W' := 2) (rfld l hw X93.ext p0 (4 : Int32)) C.hZ (wd hw 4 rfl) (wd hw 3 rfl) (by decide) (by decide)) pd_1 rfl rfl _ rfl (Nat.le_of_eq rfl) d0_47 (by decide) (by decide) (fun T94 h94 v94 q94 X94 => ?_)))))
  obtain ⟨y4, rfl, bd_y4, e94⟩ := q94
  subst e94
  show Goes p e below _ T94 (mkF m 50 #[.val (.long p0), .second, .val (.long p1), .second, .val (.long p2), .second, .val (.int p3), .val (.int p4), .val (.ref b85), .unset, .unset, .unset, .unset, .unset, .unset, .unset, .unset, .unset, .unset, .unset, .unset, .unset, .unset, .unset, .unset, .unset, .unset] [(.long y4), (.int 4), (.ref b85)])
  refine g_lastore C X94 V93_b85 n_b85 d0_50 (by decide) (by decide) (Nat.le_of_ble_eq_true rfl) (.long y4) rfl (fun T95 h95 X95 W95 V95 => ?_)
  have V95_b85 : Arv Z h95 b85 k_b85 .long (6 : Int32) [(.long y0), (.long y1), (.long y2), (.long y3), (.long y4), (.long 0)] (.long 0) := V95
  refine g_aload C X95 d0_51 rfl rfl (g_iconst 5 C X95 d0_53 rfl (g_lloadN C X95 d0_54 rfl (g_iconst 5 C X95 d0_55 rfl (g_static (argsL := [(.long p0), (.int 5)]) (st := [(.int 5), (.ref b85)]) C X95 (wd hw 1 rfl) (wd hw 2 rfl) (wd hw 3 rfl) (wd hw 4 rfl) (by decide) (pay_of (W' := 2) (rfld l hw X95.ext p0 (5 : Int32)) C.hZ (wd hw 4 rfl) (wd hw 3 rfl) (by decide) (by decide)) pd_1 rfl rfl _ rfl (Nat.le_of_eq rfl) d0_56 (by decide) (by decide) (fun T96 h96 v96 q96 X96 => ?_)))))
  obtain ⟨y5, rfl, bd_y5, e96⟩ := q96
  subst e96
  show Goes p e below _ T96 (mkF m 59 #[.val (.long p0), .second, .val (.long p1), .second, .val (.long p2), .second, .val (.int p3), .val (.int p4), .val (.ref b85), .unset, .unset, .unset, .unset, .unset, .unset, .unset, .unset, .unset, .unset, .unset, .unset, .unset, .unset, .unset, .unset, .unset, .unset] [(.long y5), (.int 5), (.ref b85)])
  refine g_lastore C X96 V95_b85 n_b85 d0_59 (by decide) (by decide) (Nat.le_of_ble_eq_true rfl) (.long y5) rfl (fun T97 h97 X97 W97 V97 => ?_)
  have V97_b85 : Arv Z h97 b85 k_b85 .long (6 : Int32) [(.long y0), (.long y1), (.long y2), (.long y3), (.long y4), (.long y5)] (.long 0) := V97
  refine g_bipush 9 C X97 d0_60 rfl (g_newarray C X97 (wd hw 0 rfl) d0_62 (by decide) 9 9 (by decide) (by decide) (by decide) (by decide) (fun T98 h98 b98 k_b98 g_b98 n_b98 X98 E98 V98 => ?_))
  have lt99 : b85 < b98 := by rw [g_b98]; exact Arv.lt V97_b85
  have V_b98 : Arv Z h98 b98 k_b98 .long (9 : Int32) [(.long 0), (.long 0), (.long 0), (.long 0), (.long 0), (.long 0), (.long 0), (.long 0), (.long 0)] (.long 0) := V98
  refine g_astore C X98 d0_64 rfl (l' := #[.val (.long p0), .second, .val (.long p1), .second, .val (.long p2), .second, .val (.int p3), .val (.int p4), .val (.ref b85), .val (.ref b98), .unset, .unset, .unset, .unset, .unset, .unset, .unset, .unset, .unset, .unset, .unset, .unset, .unset, .unset, .unset, .unset, .unset]) rfl (g_aload C X98 d0_66 rfl rfl (g_iconst 0 C X98 d0_68 rfl (g_lloadN C X98 d0_69 rfl (g_iconst 0 C X98 d0_70 rfl (g_static (argsL := [(.long p1), (.int 0)]) (st := [(.int 0), (.ref b98)]) C X98 (wd hw 1 rfl) (wd hw 2 rfl) (wd hw 3 rfl) (wd hw 4 rfl) (by decide) (pay_of (W' := 2) (rfld l hw X98.ext p1 (0 : Int32)) C.hZ (wd hw 4 rfl) (wd hw 3 rfl) (by decide) (by decide)) pd_1 rfl rfl _ rfl (Nat.le_of_eq rfl) d0_71 (by decide) (by decide) (fun T100 h100 v100 q100 X100 => ?_))))))
  obtain ⟨d0, rfl, bd_d0, e100⟩ := q100
  subst e100
  show Goes p e below _ T100 (mkF m 74 #[.val (.long p0), .second, .val (.long p1), .second, .val (.long p2), .second, .val (.int p3), .val (.int p4), .val (.ref b85), .val (.ref b98), .unset, .unset, .unset, .unset, .unset, .unset, .unset, .unset, .unset, .unset, .unset, .unset, .unset, .unset, .unset, .unset, .unset] [(.long d0), (.int 0), (.ref b98)])
  refine g_lastore C X100 V_b98 n_b98 d0_74 (by decide) (by decide) (Nat.le_of_ble_eq_true rfl) (.long d0) rfl (fun T101 h101 X101 W101 V101 => ?_)
  have V101_b98 : Arv Z h101 b98 k_b98 .long (9 : Int32) [(.long d0), (.long 0), (.long 0), (.long 0), (.long 0), (.long 0), (.long 0), (.long 0), (.long 0)] (.long 0) := V101
  refine g_aload C X101 d0_75 rfl rfl (g_iconst 1 C X101 d0_77 rfl (g_lloadN C X101 d0_78 rfl (g_iconst 1 C X101 d0_79 rfl (g_static (argsL := [(.long p1), (.int 1)]) (st := [(.int 1), (.ref b98)]) C X101 (wd hw 1 rfl) (wd hw 2 rfl) (wd hw 3 rfl) (wd hw 4 rfl) (by decide) (pay_of (W' := 2) (rfld l hw X101.ext p1 (1 : Int32)) C.hZ (wd hw 4 rfl) (wd hw 3 rfl) (by decide) (by decide)) pd_1 rfl rfl _ rfl (Nat.le_of_eq rfl) d0_80 (by decide) (by decide) (fun T102 h102 v102 q102 X102 => ?_)))))
  obtain ⟨d1, rfl, bd_d1, e102⟩ := q102
  subst e102
  show Goes p e below _ T102 (mkF m 83 #[.val (.long p0), .second, .val (.long p1), .second, .val (.long p2), .second, .val (.int p3), .val (.int p4), .val (.ref b85), .val (.ref b98), .unset, .unset, .unset, .unset, .unset, .unset, .unset, .unset, .unset, .unset, .unset, .unset, .unset, .unset, .unset, .unset, .unset] [(.long d1), (.int 1), (.ref b98)])
  refine g_lastore C X102 V101_b98 n_b98 d0_83 (by decide) (by decide) (Nat.le_of_ble_eq_true rfl) (.long d1) rfl (fun T103 h103 X103 W103 V103 => ?_)
  have V103_b98 : Arv Z h103 b98 k_b98 .long (9 : Int32) [(.long d0), (.long d1), (.long 0), (.long 0), (.long 0), (.long 0), (.long 0), (.long 0), (.long 0)] (.long 0) := V103
  refine g_aload C X103 d0_84 rfl rfl (g_iconst 2 C X103 d0_86 rfl (g_lloadN C X103 d0_87 rfl (g_iconst 2 C X103 d0_88 rfl (g_static (argsL := [(.long p1), (.int 2)]) (st := [(.int 2), (.ref b98)]) C X103 (wd hw 1 rfl) (wd hw 2 rfl) (wd hw 3 rfl) (wd hw 4 rfl) (by decide) (pay_of (W' := 2) (rfld l hw X103.ext p1 (2 : Int32)) C.hZ (wd hw 4 rfl) (wd hw 3 rfl) (by decide) (by decide)) pd_1 rfl rfl _ rfl (Nat.le_of_eq rfl) d0_89 (by decide) (by decide) (fun T104 h104 v104 q104 X104 => ?_)))))
  obtain ⟨d2, rfl, bd_d2, e104⟩ := q104
  subst e104
  show Goes p e below _ T104 (mkF m 92 #[.val (.long p0), .second, .val (.long p1), .second, .val (.long p2), .second, .val (.int p3), .val (.int p4), .val (.ref b85), .val (.ref b98), .unset, .unset, .unset, .unset, .unset, .unset, .unset, .unset, .unset, .unset, .unset, .unset, .unset, .unset, .unset, .unset, .unset] [(.long d2), (.int 2), (.ref b98)])
  refine g_lastore C X104 V103_b98 n_b98 d0_92 (by decide) (by decide) (Nat.le_of_ble_eq_true rfl) (.long d2) rfl (fun T105 h105 X105 W105 V105 => ?_)
  have V105_b98 : Arv Z h105 b98 k_b98 .long (9 : Int32) [(.long d0), (.long d1), (.long d2), (.long 0), (.long 0), (.long 0), (.long 0), (.long 0), (.long 0)] (.long 0) := V105
  refine g_aload C X105 d0_93 rfl rfl (g_iconst 3 C X105 d0_95 rfl (g_lloadN C X105 d0_96 rfl (g_iconst 3 C X105 d0_97 rfl (g_static (argsL := [(.long p1), (.int 3)]) (st := [(.int 3), (.ref b98)]) C X105 (wd hw 1 rfl) (wd hw 2 rfl) (wd hw 3 rfl) (wd hw 4 rfl) (by decide) (pay_of (W' := 2) (rfld l hw X105.ext p1 (3 : Int32)) C.hZ (wd hw 4 rfl) (wd hw 3 rfl) (by decide) (by decide)) pd_1 rfl rfl _ rfl (Nat.le_of_eq rfl) d0_98 (by decide) (by decide) (fun T106 h106 v106 q106 X106 => ?_)))))
  obtain ⟨d3, rfl, bd_d3, e106⟩ := q106
  subst e106
  show Goes p e below _ T106 (mkF m 101 #[.val (.long p0), .second, .val (.long p1), .second, .val (.long p2), .second, .val (.int p3), .val (.int p4), .val (.ref b85), .val (.ref b98), .unset, .unset, .unset, .unset, .unset, .unset, .unset, .unset, .unset, .unset, .unset, .unset, .unset, .unset, .unset, .unset, .unset] [(.long d3), (.int 3), (.ref b98)])
  refine g_lastore C X106 V105_b98 n_b98 d0_101 (by decide) (by decide) (Nat.le_of_ble_eq_true rfl) (.long d3) rfl (fun T107 h107 X107 W107 V107 => ?_)
  have V107_b98 : Arv Z h107 b98 k_b98 .long (9 : Int32) [(.long d0), (.long d1), (.long d2), (.long d3), (.long 0), (.long 0), (.long 0), (.long 0), (.long 0)] (.long 0) := V107
  refine g_aload C X107 d0_102 rfl rfl (g_iconst 4 C X107 d0_104 rfl (g_lloadN C X107 d0_105 rfl (g_iconst 4 C X107 d0_106 rfl (g_static (argsL := [(.long p1), (.int 4)]) (st := [(.int 4), (.ref b98)]) C X107 (wd hw 1 rfl) (wd hw 2 rfl) (wd hw 3 rfl) (wd hw 4 rfl) (by decide) (pay_of (W' := 2) (rfld l hw X107.ext p1 (4 : Int32)) C.hZ (wd hw 4 rfl) (wd hw 3 rfl) (by decide) (by decide)) pd_1 rfl rfl _ rfl (Nat.le_of_eq rfl) d0_107 (by decide) (by decide) (fun T108 h108 v108 q108 X108 => ?_)))))
  obtain ⟨d4, rfl, bd_d4, e108⟩ := q108
  subst e108
  show Goes p e below _ T108 (mkF m 110 #[.val (.long p0), .second, .val (.long p1), .second, .val (.long p2), .second, .val (.int p3), .val (.int p4), .val (.ref b85), .val (.ref b98), .unset, .unset, .unset, .unset, .unset, .unset, .unset, .unset, .unset, .unset, .unset, .unset, .unset, .unset, .unset, .unset, .unset] [(.long d4), (.int 4), (.ref b98)])
  refine g_lastore C X108 V107_b98 n_b98 d0_110 (by decide) (by decide) (Nat.le_of_ble_eq_true rfl) (.long d4) rfl (fun T109 h109 X109 W109 V109 => ?_)
  have V109_b98 : Arv Z h109 b98 k_b98 .long (9 : Int32) [(.long d0), (.long d1), (.long d2), (.long d3), (.long d4), (.long 0), (.long 0), (.long 0), (.long 0)] (.long 0) := V109
  refine g_aload C X109 d0_111 rfl rfl (g_iconst 5 C X109 d0_113 rfl (g_lloadN C X109 d0_114 rfl (g_iconst 5 C X109 d0_115 rfl (g_static (argsL := [(.long p1), (.int 5)]) (st := [(.int 5), (.ref b98)]) C X109 (wd hw 1 rfl) (wd hw 2 rfl) (wd hw 3 rfl) (wd hw 4 rfl) (by decide) (pay_of (W' := 2) (rfld l hw X109.ext p1 (5 : Int32)) C.hZ (wd hw 4 rfl) (wd hw 3 rfl) (by decide) (by decide)) pd_1 rfl rfl _ rfl (Nat.le_of_eq rfl) d0_116 (by decide) (by decide) (fun T110 h110 v110 q110 X110 => ?_)))))
  obtain ⟨d5, rfl, bd_d5, e110⟩ := q110
  subst e110
  show Goes p e below _ T110 (mkF m 119 #[.val (.long p0), .second, .val (.long p1), .second, .val (.long p2), .second, .val (.int p3), .val (.int p4), .val (.ref b85), .val (.ref b98), .unset, .unset, .unset, .unset, .unset, .unset, .unset, .unset, .unset, .unset, .unset, .unset, .unset, .unset, .unset, .unset, .unset] [(.long d5), (.int 5), (.ref b98)])
  refine g_lastore C X110 V109_b98 n_b98 d0_119 (by decide) (by decide) (Nat.le_of_ble_eq_true rfl) (.long d5) rfl (fun T111 h111 X111 W111 V111 => ?_)
  have V111_b98 : Arv Z h111 b98 k_b98 .long (9 : Int32) [(.long d0), (.long d1), (.long d2), (.long d3), (.long d4), (.long d5), (.long 0), (.long 0), (.long 0)] (.long 0) := V111
  refine g_aload C X111 d0_120 rfl rfl (g_bipush 6 C X111 d0_122 rfl (g_lload C X111 d0_124 rfl (g_iconst 0 C X111 d0_126 rfl (g_static (argsL := [(.long p2), (.int 0)]) (st := [(.int 6), (.ref b98)]) C X111 (wd hw 1 rfl) (wd hw 2 rfl) (wd hw 3 rfl) (wd hw 4 rfl) (by decide) (pay_of (W' := 2) (rfld l hw X111.ext p2 (0 : Int32)) C.hZ (wd hw 4 rfl) (wd hw 3 rfl) (by decide) (by decide)) pd_1 rfl rfl _ rfl (Nat.le_of_eq rfl) d0_127 (by decide) (by decide) (fun T112 h112 v112 q112 X112 => ?_)))))
  obtain ⟨d6, rfl, bd_d6, e112⟩ := q112
  subst e112
  show Goes p e below _ T112 (mkF m 130 #[.val (.long p0), .second, .val (.long p1), .second, .val (.long p2), .second, .val (.int p3), .val (.int p4), .val (.ref b85), .val (.ref b98), .unset, .unset, .unset, .unset, .unset, .unset, .unset, .unset, .unset, .unset, .unset, .unset, .unset, .unset, .unset, .unset, .unset] [(.long d6), (.int 6), (.ref b98)])
  refine g_lastore C X112 V111_b98 n_b98 d0_130 (by decide) (by decide) (Nat.le_of_ble_eq_true rfl) (.long d6) rfl (fun T113 h113 X113 W113 V113 => ?_)
  have V113_b98 : Arv Z h113 b98 k_b98 .long (9 : Int32) [(.long d0), (.long d1), (.long d2), (.long d3), (.long d4), (.long d5), (.long d6), (.long 0), (.long 0)] (.long 0) := V113
  refine g_aload C X113 d0_131 rfl rfl (g_bipush 7 C X113 d0_133 rfl (g_lload C X113 d0_135 rfl (g_iconst 1 C X113 d0_137 rfl (g_static (argsL := [(.long p2), (.int 1)]) (st := [(.int 7), (.ref b98)]) C X113 (wd hw 1 rfl) (wd hw 2 rfl) (wd hw 3 rfl) (wd hw 4 rfl) (by decide) (pay_of (W' := 2) (rfld l hw X113.ext p2 (1 : Int32)) C.hZ (wd hw 4 rfl) (wd hw 3 rfl) (by decide) (by decide)) pd_1 rfl rfl _ rfl (Nat.le_of_eq rfl) d0_138 (by decide) (by decide) (fun T114 h114 v114 q114 X114 => ?_)))))
  obtain ⟨d7, rfl, bd_d7, e114⟩ := q114
  subst e114
  show Goes p e below _ T114 (mkF m 141 #[.val (.long p0), .second, .val (.long p1), .second, .val (.long p2), .second, .val (.int p3), .val (.int p4), .val (.ref b85), .val (.ref b98), .unset, .unset, .unset, .unset, .unset, .unset, .unset, .unset, .unset, .unset, .unset, .unset, .unset, .unset, .unset, .unset, .unset] [(.long d7), (.int 7), (.ref b98)])
  refine g_lastore C X114 V113_b98 n_b98 d0_141 (by decide) (by decide) (Nat.le_of_ble_eq_true rfl) (.long d7) rfl (fun T115 h115 X115 W115 V115 => ?_)
  have V115_b98 : Arv Z h115 b98 k_b98 .long (9 : Int32) [(.long d0), (.long d1), (.long d2), (.long d3), (.long d4), (.long d5), (.long d6), (.long d7), (.long 0)] (.long 0) := V115
  refine g_aload C X115 d0_142 rfl rfl (g_bipush 8 C X115 d0_144 rfl (g_lload C X115 d0_146 rfl (g_iconst 2 C X115 d0_148 rfl (g_static (argsL := [(.long p2), (.int 2)]) (st := [(.int 8), (.ref b98)]) C X115 (wd hw 1 rfl) (wd hw 2 rfl) (wd hw 3 rfl) (wd hw 4 rfl) (by decide) (pay_of (W' := 2) (rfld l hw X115.ext p2 (2 : Int32)) C.hZ (wd hw 4 rfl) (wd hw 3 rfl) (by decide) (by decide)) pd_1 rfl rfl _ rfl (Nat.le_of_eq rfl) d0_149 (by decide) (by decide) (fun T116 h116 v116 q116 X116 => ?_)))))
  obtain ⟨d8, rfl, bd_d8, e116⟩ := q116
  subst e116
  show Goes p e below _ T116 (mkF m 152 #[.val (.long p0), .second, .val (.long p1), .second, .val (.long p2), .second, .val (.int p3), .val (.int p4), .val (.ref b85), .val (.ref b98), .unset, .unset, .unset, .unset, .unset, .unset, .unset, .unset, .unset, .unset, .unset, .unset, .unset, .unset, .unset, .unset, .unset] [(.long d8), (.int 8), (.ref b98)])
  refine g_lastore C X116 V115_b98 n_b98 d0_152 (by decide) (by decide) (Nat.le_of_ble_eq_true rfl) (.long d8) rfl (fun T117 h117 X117 W117 V117 => ?_)
  have V117_b98 : Arv Z h117 b98 k_b98 .long (9 : Int32) [(.long d0), (.long d1), (.long d2), (.long d3), (.long d4), (.long d5), (.long d6), (.long d7), (.long d8)] (.long 0) := V117
  refine g_lload C X117 d0_153 rfl (g_iconst 3 C X117 d0_155 rfl (g_static (argsL := [(.long p2), (.int 3)]) (st := []) C X117 (wd hw 1 rfl) (wd hw 2 rfl) (wd hw 3 rfl) (wd hw 4 rfl) (by decide) (pay_of (W' := 0) (rfld l hw X117.ext p2 (3 : Int32)) C.hZ (wd hw 4 rfl) (wd hw 3 rfl) (by decide) (by decide)) pd_1 rfl rfl _ rfl (Nat.le_of_eq rfl) d0_156 (by decide) (by decide) (fun T118 h118 v118 q118 X118 => ?_)))
  obtain ⟨f, rfl, bd_f, e118⟩ := q118
  subst e118
  show Goes p e below _ T118 (mkF m 159 #[.val (.long p0), .second, .val (.long p1), .second, .val (.long p2), .second, .val (.int p3), .val (.int p4), .val (.ref b85), .val (.ref b98), .unset, .unset, .unset, .unset, .unset, .unset, .unset, .unset, .unset, .unset, .unset, .unset, .unset, .unset, .unset, .unset, .unset] [(.long f)])
  refine g_lstore C X118 d0_159 (l' := #[.val (.long p0), .second, .val (.long p1), .second, .val (.long p2), .second, .val (.int p3), .val (.int p4), .val (.ref b85), .val (.ref b98), .val (.long f), .second, .unset, .unset, .unset, .unset, .unset, .unset, .unset, .unset, .unset, .unset, .unset, .unset, .unset, .unset, .unset]) rfl (g_lload C X118 d0_161 rfl (g_iconst 4 C X118 d0_163 rfl (g_static (argsL := [(.long p2), (.int 4)]) (st := []) C X118 (wd hw 1 rfl) (wd hw 2 rfl) (wd hw 3 rfl) (wd hw 4 rfl) (by decide) (pay_of (W' := 0) (rfld l hw X118.ext p2 (4 : Int32)) C.hZ (wd hw 4 rfl) (wd hw 3 rfl) (by decide) (by decide)) pd_1 rfl rfl _ rfl (Nat.le_of_eq rfl) d0_164 (by decide) (by decide) (fun T119 h119 v119 q119 X119 => ?_))))
  obtain ⟨m0, rfl, bd_m0, e119⟩ := q119
  subst e119
  show Goes p e below _ T119 (mkF m 167 #[.val (.long p0), .second, .val (.long p1), .second, .val (.long p2), .second, .val (.int p3), .val (.int p4), .val (.ref b85), .val (.ref b98), .val (.long f), .second, .unset, .unset, .unset, .unset, .unset, .unset, .unset, .unset, .unset, .unset, .unset, .unset, .unset, .unset, .unset] [(.long m0)])
  refine g_lstore C X119 d0_167 (l' := #[.val (.long p0), .second, .val (.long p1), .second, .val (.long p2), .second, .val (.int p3), .val (.int p4), .val (.ref b85), .val (.ref b98), .val (.long f), .second, .val (.long m0), .second, .unset, .unset, .unset, .unset, .unset, .unset, .unset, .unset, .unset, .unset, .unset, .unset, .unset]) rfl (g_lload C X119 d0_169 rfl (g_iconst 5 C X119 d0_171 rfl (g_static (argsL := [(.long p2), (.int 5)]) (st := []) C X119 (wd hw 1 rfl) (wd hw 2 rfl) (wd hw 3 rfl) (wd hw 4 rfl) (by decide) (pay_of (W' := 0) (rfld l hw X119.ext p2 (5 : Int32)) C.hZ (wd hw 4 rfl) (wd hw 3 rfl) (by decide) (by decide)) pd_1 rfl rfl _ rfl (Nat.le_of_eq rfl) d0_172 (by decide) (by decide) (fun T120 h120 v120 q120 X120 => ?_))))
  obtain ⟨m1, rfl, bd_m1, e120⟩ := q120
  subst e120
  show Goes p e below _ T120 (mkF m 175 #[.val (.long p0), .second, .val (.long p1), .second, .val (.long p2), .second, .val (.int p3), .val (.int p4), .val (.ref b85), .val (.ref b98), .val (.long f), .second, .val (.long m0), .second, .unset, .unset, .unset, .unset, .unset, .unset, .unset, .unset, .unset, .unset, .unset, .unset, .unset] [(.long m1)])
  refine g_lstore C X120 d0_175 (l' := #[.val (.long p0), .second, .val (.long p1), .second, .val (.long p2), .second, .val (.int p3), .val (.int p4), .val (.ref b85), .val (.ref b98), .val (.long f), .second, .val (.long m0), .second, .val (.long m1), .second, .unset, .unset, .unset, .unset, .unset, .unset, .unset, .unset, .unset, .unset, .unset]) rfl (g_bipush 6 C X120 d0_177 rfl (g_newarray C X120 (wd hw 7 rfl) d0_179 (by decide) 6 6 (by decide) (by decide) (by decide) (by decide) (fun T121 h121 b121 k_b121 g_b121 n_b121 X121 E121 V121 => ?_)))
  have f122 := (Arv.other (Arv.other (Arv.other (Arv.other (Arv.other (Arv.other (Arv.other (Arv.other (Arv.other (Arv.ext V97_b85 E98) W101 (Nat.ne_of_lt lt99)) W103 (Nat.ne_of_lt lt99)) W105 (Nat.ne_of_lt lt99)) W107 (Nat.ne_of_lt lt99)) W109 (Nat.ne_of_lt lt99)) W111 (Nat.ne_of_lt lt99)) W113 (Nat.ne_of_lt lt99)) W115 (Nat.ne_of_lt lt99)) W117 (Nat.ne_of_lt lt99))
  have lt123 : b85 < b121 := by rw [g_b121]; exact Arv.lt f122
  have lt124 : b98 < b121 := by rw [g_b121]; exact Arv.lt V117_b98
  have V_b121 : Arv Z h121 b121 k_b121 .double (6 : Int32) [(.double 0), (.double 0), (.double 0), (.double 0), (.double 0), (.double 0)] (.double 0) := V121
  refine g_dup C X121 d0_181 rfl (g_iconst 0 C X121 d0_182 rfl (g_aload C X121 d0_183 rfl rfl (g_iconst 0 C X121 d0_185 rfl ?_)))
  have f125 := (Arv.ext f122 E121)
  refine g_laload C X121 f125 d0_186 (by decide) (by decide) rfl (g_l2d C X121 d0_187 (g_dastore C X121 V_b121 n_b121 d0_188 (by decide) (by decide) (Nat.le_of_ble_eq_true rfl) (.double (FP.l2d y0)) rfl (fun T126 h126 X126 W126 V126 => ?_)))
  have V126_b121 : Arv Z h126 b121 k_b121 .double (6 : Int32) [(.double (FP.l2d y0)), (.double 0), (.double 0), (.double 0), (.double 0), (.double 0)] (.double 0) := V126
  refine g_dup C X126 d0_189 rfl (g_iconst 1 C X126 d0_190 rfl (g_aload C X126 d0_191 rfl rfl (g_iconst 1 C X126 d0_193 rfl ?_)))
  have f127 := (Arv.other f125 W126 (Nat.ne_of_lt lt123))
  refine g_laload C X126 f127 d0_194 (by decide) (by decide) rfl (g_l2d C X126 d0_195 (g_dastore C X126 V126_b121 n_b121 d0_196 (by decide) (by decide) (Nat.le_of_ble_eq_true rfl) (.double (FP.l2d y1)) rfl (fun T128 h128 X128 W128 V128 => ?_)))
  have V128_b121 : Arv Z h128 b121 k_b121 .double (6 : Int32) [(.double (FP.l2d y0)), (.double (FP.l2d y1)), (.double 0), (.double 0), (.double 0), (.double 0)] (.double 0) := V128
  refine g_dup C X128 d0_197 rfl (g_iconst 2 C X128 d0_198 rfl (g_aload C X128 d0_199 rfl rfl (g_iconst 2 C X128 d0_201 rfl ?_)))
  have f129 := (Arv.other f127 W128 (Nat.ne_of_lt lt123))
  refine g_laload C X128 f129 d0_202 (by decide) (by decide) rfl (g_l2d C X128 d0_203 (g_dastore C X128 V128_b121 n_b121 d0_204 (by decide) (by decide) (Nat.le_of_ble_eq_true rfl) (.double (FP.l2d y2)) rfl (fun T130 h130 X130 W130 V130 => ?_)))
  have V130_b121 : Arv Z h130 b121 k_b121 .double (6 : Int32) [(.double (FP.l2d y0)), (.double (FP.l2d y1)), (.double (FP.l2d y2)), (.double 0), (.double 0), (.double 0)] (.double 0) := V130
  refine g_dup C X130 d0_205 rfl (g_iconst 3 C X130 d0_206 rfl (g_aload C X130 d0_207 rfl rfl (g_iconst 3 C X130 d0_209 rfl ?_)))
  have f131 := (Arv.other f129 W130 (Nat.ne_of_lt lt123))
  refine g_laload C X130 f131 d0_210 (by decide) (by decide) rfl (g_l2d C X130 d0_211 (g_dastore C X130 V130_b121 n_b121 d0_212 (by decide) (by decide) (Nat.le_of_ble_eq_true rfl) (.double (FP.l2d y3)) rfl (fun T132 h132 X132 W132 V132 => ?_)))
  have V132_b121 : Arv Z h132 b121 k_b121 .double (6 : Int32) [(.double (FP.l2d y0)), (.double (FP.l2d y1)), (.double (FP.l2d y2)), (.double (FP.l2d y3)), (.double 0), (.double 0)] (.double 0) := V132
  refine g_dup C X132 d0_213 rfl (g_iconst 4 C X132 d0_214 rfl (g_aload C X132 d0_215 rfl rfl (g_iconst 4 C X132 d0_217 rfl ?_)))
  have f133 := (Arv.other f131 W132 (Nat.ne_of_lt lt123))
  refine g_laload C X132 f133 d0_218 (by decide) (by decide) rfl (g_l2d C X132 d0_219 (g_dastore C X132 V132_b121 n_b121 d0_220 (by decide) (by decide) (Nat.le_of_ble_eq_true rfl) (.double (FP.l2d y4)) rfl (fun T134 h134 X134 W134 V134 => ?_)))
  have V134_b121 : Arv Z h134 b121 k_b121 .double (6 : Int32) [(.double (FP.l2d y0)), (.double (FP.l2d y1)), (.double (FP.l2d y2)), (.double (FP.l2d y3)), (.double (FP.l2d y4)), (.double 0)] (.double 0) := V134
  refine g_dup C X134 d0_221 rfl (g_iconst 5 C X134 d0_222 rfl (g_aload C X134 d0_223 rfl rfl (g_iconst 5 C X134 d0_225 rfl ?_)))
  have f135 := (Arv.other f133 W134 (Nat.ne_of_lt lt123))
  refine g_laload C X134 f135 d0_226 (by decide) (by decide) rfl (g_l2d C X134 d0_227 (g_dastore C X134 V134_b121 n_b121 d0_228 (by decide) (by decide) (Nat.le_of_ble_eq_true rfl) (.double (FP.l2d y5)) rfl (fun T136 h136 X136 W136 V136 => ?_)))
  have V136_b121 : Arv Z h136 b121 k_b121 .double (6 : Int32) [(.double (FP.l2d y0)), (.double (FP.l2d y1)), (.double (FP.l2d y2)), (.double (FP.l2d y3)), (.double (FP.l2d y4)), (.double (FP.l2d y5))] (.double 0) := V136
  refine g_astore C X136 d0_229 rfl (l' := #[.val (.long p0), .second, .val (.long p1), .second, .val (.long p2), .second, .val (.int p3), .val (.int p4), .val (.ref b85), .val (.ref b98), .val (.long f), .second, .val (.long m0), .second, .val (.long m1), .second, .val (.ref b121), .unset, .unset, .unset, .unset, .unset, .unset, .unset, .unset, .unset, .unset]) rfl (g_bipush 9 C X136 d0_231 rfl (g_newarray C X136 (wd hw 7 rfl) d0_233 (by decide) 9 9 (by decide) (by decide) (by decide) (by decide) (fun T137 h137 b137 k_b137 g_b137 n_b137 X137 E137 V137 => ?_)))
  have f138 := (Arv.other f135 W136 (Nat.ne_of_lt lt123))
  have lt139 : b85 < b137 := by rw [g_b137]; exact Arv.lt f138
  have f140 := (Arv.other (Arv.other (Arv.other (Arv.other (Arv.other (Arv.other (Arv.ext V117_b98 E121) W126 (Nat.ne_of_lt lt124)) W128 (Nat.ne_of_lt lt124)) W130 (Nat.ne_of_lt lt124)) W132 (Nat.ne_of_lt lt124)) W134 (Nat.ne_of_lt lt124)) W136 (Nat.ne_of_lt lt124))
  have lt141 : b98 < b137 := by rw [g_b137]; exact Arv.lt f140
  have lt142 : b121 < b137 := by rw [g_b137]; exact Arv.lt V136_b121
  have V_b137 : Arv Z h137 b137 k_b137 .double (9 : Int32) [(.double 0), (.double 0), (.double 0), (.double 0), (.double 0), (.double 0), (.double 0), (.double 0), (.double 0)] (.double 0) := V137
  refine g_dup C X137 d0_235 rfl (g_iconst 0 C X137 d0_236 rfl (g_aload C X137 d0_237 rfl rfl (g_iconst 0 C X137 d0_239 rfl ?_)))
  have f143 := (Arv.ext f140 E137)
  refine g_laload C X137 f143 d0_240 (by decide) (by decide) rfl (g_l2d C X137 d0_241 (g_dastore C X137 V_b137 n_b137 d0_242 (by decide) (by decide) (Nat.le_of_ble_eq_true rfl) (.double (FP.l2d d0)) rfl (fun T144 h144 X144 W144 V144 => ?_)))
  have V144_b137 : Arv Z h144 b137 k_b137 .double (9 : Int32) [(.double (FP.l2d d0)), (.double 0), (.double 0), (.double 0), (.double 0), (.double 0), (.double 0), (.double 0), (.double 0)] (.double 0) := V144
  refine g_dup C X144 d0_243 rfl (g_iconst 1 C X144 d0_244 rfl (g_aload C X144 d0_245 rfl rfl (g_iconst 1 C X144 d0_247 rfl ?_)))
  have f145 := (Arv.other f143 W144 (Nat.ne_of_lt lt141))
  refine g_laload C X144 f145 d0_248 (by decide) (by decide) rfl (g_l2d C X144 d0_249 (g_dastore C X144 V144_b137 n_b137 d0_250 (by decide) (by decide) (Nat.le_of_ble_eq_true rfl) (.double (FP.l2d d1)) rfl (fun T146 h146 X146 W146 V146 => ?_)))
  have V146_b137 : Arv Z h146 b137 k_b137 .double (9 : Int32) [(.double (FP.l2d d0)), (.double (FP.l2d d1)), (.double 0), (.double 0), (.double 0), (.double 0), (.double 0), (.double 0), (.double 0)] (.double 0) := V146
  refine g_dup C X146 d0_251 rfl (g_iconst 2 C X146 d0_252 rfl (g_aload C X146 d0_253 rfl rfl (g_iconst 2 C X146 d0_255 rfl ?_)))
  have f147 := (Arv.other f145 W146 (Nat.ne_of_lt lt141))
  refine g_laload C X146 f147 d0_256 (by decide) (by decide) rfl (g_l2d C X146 d0_257 (g_dastore C X146 V146_b137 n_b137 d0_258 (by decide) (by decide) (Nat.le_of_ble_eq_true rfl) (.double (FP.l2d d2)) rfl (fun T148 h148 X148 W148 V148 => ?_)))
  have V148_b137 : Arv Z h148 b137 k_b137 .double (9 : Int32) [(.double (FP.l2d d0)), (.double (FP.l2d d1)), (.double (FP.l2d d2)), (.double 0), (.double 0), (.double 0), (.double 0), (.double 0), (.double 0)] (.double 0) := V148
  refine g_dup C X148 d0_259 rfl (g_iconst 3 C X148 d0_260 rfl (g_aload C X148 d0_261 rfl rfl (g_iconst 3 C X148 d0_263 rfl ?_)))
  have f149 := (Arv.other f147 W148 (Nat.ne_of_lt lt141))
  refine g_laload C X148 f149 d0_264 (by decide) (by decide) rfl (g_l2d C X148 d0_265 (g_dastore C X148 V148_b137 n_b137 d0_266 (by decide) (by decide) (Nat.le_of_ble_eq_true rfl) (.double (FP.l2d d3)) rfl (fun T150 h150 X150 W150 V150 => ?_)))
  have V150_b137 : Arv Z h150 b137 k_b137 .double (9 : Int32) [(.double (FP.l2d d0)), (.double (FP.l2d d1)), (.double (FP.l2d d2)), (.double (FP.l2d d3)), (.double 0), (.double 0), (.double 0), (.double 0), (.double 0)] (.double 0) := V150
  refine g_dup C X150 d0_267 rfl (g_iconst 4 C X150 d0_268 rfl (g_aload C X150 d0_269 rfl rfl (g_iconst 4 C X150 d0_271 rfl ?_)))
  have f151 := (Arv.other f149 W150 (Nat.ne_of_lt lt141))
  refine g_laload C X150 f151 d0_272 (by decide) (by decide) rfl (g_l2d C X150 d0_273 (g_dastore C X150 V150_b137 n_b137 d0_274 (by decide) (by decide) (Nat.le_of_ble_eq_true rfl) (.double (FP.l2d d4)) rfl (fun T152 h152 X152 W152 V152 => ?_)))
  have V152_b137 : Arv Z h152 b137 k_b137 .double (9 : Int32) [(.double (FP.l2d d0)), (.double (FP.l2d d1)), (.double (FP.l2d d2)), (.double (FP.l2d d3)), (.double (FP.l2d d4)), (.double 0), (.double 0), (.double 0), (.double 0)] (.double 0) := V152
  refine g_dup C X152 d0_275 rfl (g_iconst 5 C X152 d0_276 rfl (g_aload C X152 d0_277 rfl rfl (g_iconst 5 C X152 d0_279 rfl ?_)))
  have f153 := (Arv.other f151 W152 (Nat.ne_of_lt lt141))
  refine g_laload C X152 f153 d0_280 (by decide) (by decide) rfl (g_l2d C X152 d0_281 (g_dastore C X152 V152_b137 n_b137 d0_282 (by decide) (by decide) (Nat.le_of_ble_eq_true rfl) (.double (FP.l2d d5)) rfl (fun T154 h154 X154 W154 V154 => ?_)))
  have V154_b137 : Arv Z h154 b137 k_b137 .double (9 : Int32) [(.double (FP.l2d d0)), (.double (FP.l2d d1)), (.double (FP.l2d d2)), (.double (FP.l2d d3)), (.double (FP.l2d d4)), (.double (FP.l2d d5)), (.double 0), (.double 0), (.double 0)] (.double 0) := V154
  refine g_dup C X154 d0_283 rfl (g_bipush 6 C X154 d0_284 rfl (g_aload C X154 d0_286 rfl rfl (g_bipush 6 C X154 d0_288 rfl ?_)))
  have f155 := (Arv.other f153 W154 (Nat.ne_of_lt lt141))
  refine g_laload C X154 f155 d0_290 (by decide) (by decide) rfl (g_l2d C X154 d0_291 (g_dastore C X154 V154_b137 n_b137 d0_292 (by decide) (by decide) (Nat.le_of_ble_eq_true rfl) (.double (FP.l2d d6)) rfl (fun T156 h156 X156 W156 V156 => ?_)))
  have V156_b137 : Arv Z h156 b137 k_b137 .double (9 : Int32) [(.double (FP.l2d d0)), (.double (FP.l2d d1)), (.double (FP.l2d d2)), (.double (FP.l2d d3)), (.double (FP.l2d d4)), (.double (FP.l2d d5)), (.double (FP.l2d d6)), (.double 0), (.double 0)] (.double 0) := V156
  refine g_dup C X156 d0_293 rfl (g_bipush 7 C X156 d0_294 rfl (g_aload C X156 d0_296 rfl rfl (g_bipush 7 C X156 d0_298 rfl ?_)))
  have f157 := (Arv.other f155 W156 (Nat.ne_of_lt lt141))
  refine g_laload C X156 f157 d0_300 (by decide) (by decide) rfl (g_l2d C X156 d0_301 (g_dastore C X156 V156_b137 n_b137 d0_302 (by decide) (by decide) (Nat.le_of_ble_eq_true rfl) (.double (FP.l2d d7)) rfl (fun T158 h158 X158 W158 V158 => ?_)))
  have V158_b137 : Arv Z h158 b137 k_b137 .double (9 : Int32) [(.double (FP.l2d d0)), (.double (FP.l2d d1)), (.double (FP.l2d d2)), (.double (FP.l2d d3)), (.double (FP.l2d d4)), (.double (FP.l2d d5)), (.double (FP.l2d d6)), (.double (FP.l2d d7)), (.double 0)] (.double 0) := V158
  refine g_dup C X158 d0_303 rfl (g_bipush 8 C X158 d0_304 rfl (g_aload C X158 d0_306 rfl rfl (g_bipush 8 C X158 d0_308 rfl ?_)))
  have f159 := (Arv.other f157 W158 (Nat.ne_of_lt lt141))
  refine g_laload C X158 f159 d0_310 (by decide) (by decide) rfl (g_l2d C X158 d0_311 (g_dastore C X158 V158_b137 n_b137 d0_312 (by decide) (by decide) (Nat.le_of_ble_eq_true rfl) (.double (FP.l2d d8)) rfl (fun T160 h160 X160 W160 V160 => ?_)))
  have V160_b137 : Arv Z h160 b137 k_b137 .double (9 : Int32) [(.double (FP.l2d d0)), (.double (FP.l2d d1)), (.double (FP.l2d d2)), (.double (FP.l2d d3)), (.double (FP.l2d d4)), (.double (FP.l2d d5)), (.double (FP.l2d d6)), (.double (FP.l2d d7)), (.double (FP.l2d d8))] (.double 0) := V160
  refine g_astore C X160 d0_313 rfl (l' := #[.val (.long p0), .second, .val (.long p1), .second, .val (.long p2), .second, .val (.int p3), .val (.int p4), .val (.ref b85), .val (.ref b98), .val (.long f), .second, .val (.long m0), .second, .val (.long m1), .second, .val (.ref b121), .val (.ref b137), .unset, .unset, .unset, .unset, .unset, .unset, .unset, .unset, .unset]) rfl (g_iconst 4 C X160 d0_315 rfl (g_newarray C X160 (wd hw 7 rfl) d0_316 (by decide) 4 4 (by decide) (by decide) (by decide) (by decide) (fun T161 h161 b161 k_b161 g_b161 n_b161 X161 E161 V161 => ?_)))
  have f162 := (Arv.other (Arv.other (Arv.other (Arv.other (Arv.other (Arv.other (Arv.other (Arv.other (Arv.other (Arv.ext f138 E137) W144 (Nat.ne_of_lt lt139)) W146 (Nat.ne_of_lt lt139)) W148 (Nat.ne_of_lt lt139)) W150 (Nat.ne_of_lt lt139)) W152 (Nat.ne_of_lt lt139)) W154 (Nat.ne_of_lt lt139)) W156 (Nat.ne_of_lt lt139)) W158 (Nat.ne_of_lt lt139)) W160 (Nat.ne_of_lt lt139))
  have lt163 : b85 < b161 := by rw [g_b161]; exact Arv.lt f162
  have f164 := (Arv.other f159 W160 (Nat.ne_of_lt lt141))
  have lt165 : b98 < b161 := by rw [g_b161]; exact Arv.lt f164
  have f166 := (Arv.other (Arv.other (Arv.other (Arv.other (Arv.other (Arv.other (Arv.other (Arv.other (Arv.other (Arv.ext V136_b121 E137) W144 (Nat.ne_of_lt lt142)) W146 (Nat.ne_of_lt lt142)) W148 (Nat.ne_of_lt lt142)) W150 (Nat.ne_of_lt lt142)) W152 (Nat.ne_of_lt lt142)) W154 (Nat.ne_of_lt lt142)) W156 (Nat.ne_of_lt lt142)) W158 (Nat.ne_of_lt lt142)) W160 (Nat.ne_of_lt lt142))
  have lt167 : b121 < b161 := by rw [g_b161]; exact Arv.lt f166
  have lt168 : b137 < b161 := by rw [g_b161]; exact Arv.lt V160_b137
  have V_b161 : Arv Z h161 b161 k_b161 .double (4 : Int32) [(.double 0), (.double 0), (.double 0), (.double 0)] (.double 0) := V161
  refine g_dup C X161 d0_318 rfl (g_iconst 0 C X161 d0_319 rfl (g_lload C X161 d0_320 rfl (g_l2d C X161 d0_322 (g_dastore C X161 V_b161 n_b161 d0_323 (by decide) (by decide) (Nat.le_of_ble_eq_true rfl) (.double (FP.l2d m0)) rfl (fun T169 h169 X169 W169 V169 => ?_)))))
  have V169_b161 : Arv Z h169 b161 k_b161 .double (4 : Int32) [(.double (FP.l2d m0)), (.double 0), (.double 0), (.double 0)] (.double 0) := V169
  refine g_dup C X169 d0_324 rfl (g_iconst 1 C X169 d0_325 rfl (g_lload C X169 d0_326 rfl (g_l2d C X169 d0_328 (g_dastore C X169 V169_b161 n_b161 d0_329 (by decide) (by decide) (Nat.le_of_ble_eq_true rfl) (.double (FP.l2d m1)) rfl (fun T170 h170 X170 W170 V170 => ?_)))))
  have V170_b161 : Arv Z h170 b161 k_b161 .double (4 : Int32) [(.double (FP.l2d m0)), (.double (FP.l2d m1)), (.double 0), (.double 0)] (.double 0) := V170
  refine g_dup C X170 d0_330 rfl (g_iconst 2 C X170 d0_331 rfl (g_iload C X170 d0_332 rfl (g_i2d C X170 d0_334 (g_dastore C X170 V170_b161 n_b161 d0_335 (by decide) (by decide) (Nat.le_of_ble_eq_true rfl) (.double (FP.l2d p3.toInt64)) (congrArg Value.double (i2d_w _)) (fun T171 h171 X171 W171 V171 => ?_)))))
  have V171_b161 : Arv Z h171 b161 k_b161 .double (4 : Int32) [(.double (FP.l2d m0)), (.double (FP.l2d m1)), (.double (FP.l2d p3.toInt64)), (.double 0)] (.double 0) := V171
  refine g_dup C X171 d0_336 rfl (g_iconst 3 C X171 d0_337 rfl (g_iload C X171 d0_338 rfl (g_i2d C X171 d0_340 (g_dastore C X171 V171_b161 n_b161 d0_341 (by decide) (by decide) (Nat.le_of_ble_eq_true rfl) (.double (FP.l2d p4.toInt64)) (congrArg Value.double (i2d_w _)) (fun T172 h172 X172 W172 V172 => ?_)))))
  have V172_b161 : Arv Z h172 b161 k_b161 .double (4 : Int32) [(.double (FP.l2d m0)), (.double (FP.l2d m1)), (.double (FP.l2d p3.toInt64)), (.double (FP.l2d p4.toInt64))] (.double 0) := V172
  refine g_astore C X172 d0_342 rfl (l' := #[.val (.long p0), .second, .val (.long p1), .second, .val (.long p2), .second, .val (.int p3), .val (.int p4), .val (.ref b85), .val (.ref b98), .val (.long f), .second, .val (.long m0), .second, .val (.long m1), .second, .val (.ref b121), .val (.ref b137), .val (.ref b161), .unset, .unset, .unset, .unset, .unset, .unset, .unset, .unset]) rfl (g_aload C X172 d0_344 rfl rfl (g_aload C X172 d0_346 rfl rfl (g_aload C X172 d0_348 rfl rfl (g_lload C X172 d0_350 rfl (g_l2d C X172 d0_352 ?_)))))
  have f173 := (Arv.other (Arv.other (Arv.other (Arv.other (Arv.ext V160_b137 E161) W169 (Nat.ne_of_lt lt168)) W170 (Nat.ne_of_lt lt168)) W171 (Nat.ne_of_lt lt168)) W172 (Nat.ne_of_lt lt168))
  have f174 := (Arv.other (Arv.other (Arv.other (Arv.other (Arv.ext f166 E161) W169 (Nat.ne_of_lt lt167)) W170 (Nat.ne_of_lt lt167)) W171 (Nat.ne_of_lt lt167)) W172 (Nat.ne_of_lt lt167))
  refine g_static (argsL := [(.ref b161), (.ref b121), (.ref b137), (.double (FP.l2d f))]) (st := []) C X172 (wd hw 8 rfl) (wd hw 9 rfl) (wd hw 10 rfl) (wd hw 11 rfl) (by decide) (pay_of (W' := 0) (radd l hw X172.ext b161 b121 b137 (FP.l2d f) f k_b161 (m0) (m1) (p3.toInt64) (p4.toInt64) k_b137 k_b121 d0 d1 d2 d3 d4 d5 d6 d7 d8 y0 y1 y2 y3 y4 y5 rfl bd_f V172_b161 n_b161 (Nat.ne_of_gt lt167) (Nat.ne_of_gt lt168) (show Bd 2147483648 m0 from ⟨Int.le_trans (by decide) bd_m0.1, Int.le_trans bd_m0.2 (by decide)⟩) (show Bd 2147483648 m1 from ⟨Int.le_trans (by decide) bd_m1.1, Int.le_trans bd_m1.2 (by decide)⟩) (show Bd 2147483648 p3.toInt64 from (own_i2l p3)) (show Bd 2147483648 p4.toInt64 from (own_i2l p4)) f173 f174 bd_d0 bd_d1 bd_d2 bd_d3 bd_d4 bd_d5 bd_d6 bd_d7 bd_d8 bd_y0 bd_y1 bd_y2 bd_y3 bd_y4 bd_y5) C.hZ (wd hw 11 rfl) (wd hw 10 rfl) (by decide) (by decide)) pd_2 rfl rfl _ rfl (Nat.le_of_eq rfl) d0_353 (by decide) (by decide) (fun T175 h175 v175 q175 X175 => ?_)
  obtain ⟨rfl, K175, V175⟩ := q175
  show Goes p e below _ T175 (mkF m 356 #[.val (.long p0), .second, .val (.long p1), .second, .val (.long p2), .second, .val (.int p3), .val (.int p4), .val (.ref b85), .val (.ref b98), .val (.long f), .second, .val (.long m0), .second, .val (.long m1), .second, .val (.ref b121), .val (.ref b137), .val (.ref b161), .unset, .unset, .unset, .unset, .unset, .unset, .unset, .unset] [])
  refine g_lload C X175 d0_356 rfl (g_lload C X175 d0_358 rfl (g_aload C X175 d0_360 rfl rfl (g_aload C X175 d0_362 rfl rfl (g_iconst 0 C X175 d0_364 rfl (g_iconst 0 C X175 d0_365 rfl ?_)))))
  have f176 := (Arv.keep (Arv.other (Arv.other (Arv.other (Arv.other (Arv.ext f162 E161) W169 (Nat.ne_of_lt lt163)) W170 (Nat.ne_of_lt lt163)) W171 (Nat.ne_of_lt lt163)) W172 (Nat.ne_of_lt lt163)) K175 (ninS (Nat.ne_of_lt lt163) nin0))
  have f177 := (Arv.keep (Arv.other (Arv.other (Arv.other (Arv.other (Arv.ext f164 E161) W169 (Nat.ne_of_lt lt165)) W170 (Nat.ne_of_lt lt165)) W171 (Nat.ne_of_lt lt165)) W172 (Nat.ne_of_lt lt165)) K175 (ninS (Nat.ne_of_lt lt165) nin0))
  refine g_staticP (argsL := [(.ref b85), (.ref b98), (.int 0), (.int 0)]) (st := [(.long f), (.long m0)]) C X175 (wd hw 15 rfl) (wd hw 16 rfl) (wd hw 3 rfl) (wd hw 17 rfl) (by decide) (pay_of (W' := 4) (ren00 l hw X175.ext b85 b98 k_b85 k_b98 y0 y1 y2 y3 y4 y5 d0 d1 d2 d3 d4 d5 d6 d7 d8 f176 f177) C.hZ (wd hw 17 rfl) (wd hw 3 rfl) (by decide) (by decide)) pd_3 rfl rfl _ rfl (Nat.le_of_eq rfl) d0_366 (by decide) (by decide) (fun T178 X178 => ?_)
  refine g_lmul C X178 d0_369 (g_ladd C X178 d0_370 (g_lstore C X178 d0_371 (l' := #[.val (.long p0), .second, .val (.long p1), .second, .val (.long p2), .second, .val (.int p3), .val (.int p4), .val (.ref b85), .val (.ref b98), .val (.long f), .second, .val (.long m0), .second, .val (.long m1), .second, .val (.ref b121), .val (.ref b137), .val (.ref b161), .val (.long (m0 + (f * (own_en y0 y2 y4 d0 d1 d2 d3 d4 d5 d6 d7 d8 y0 y2 y4)))), .second, .unset, .unset, .unset, .unset, .unset, .unset]) rfl (g_lload C X178 d0_373 rfl (g_lload C X178 d0_375 rfl (g_aload C X178 d0_377 rfl rfl (g_aload C X178 d0_379 rfl rfl (g_iconst 0 C X178 d0_381 rfl (g_iconst 1 C X178 d0_382 rfl (g_staticP (argsL := [(.ref b85), (.ref b98), (.int 0), (.int 1)]) (st := [(.long f), (.long m1)]) C X178 (wd hw 15 rfl) (wd hw 16 rfl) (wd hw 3 rfl) (wd hw 17 rfl) (by decide) (pay_of (W' := 4) (ren01 l hw X178.ext b85 b98 k_b85 k_b98 y0 y1 y2 y3 y4 y5 d0 d1 d2 d3 d4 d5 d6 d7 d8 f176 f177) C.hZ (wd hw 17 rfl) (wd hw 3 rfl) (by decide) (by decide)) pd_3 rfl rfl _ rfl (Nat.le_of_eq rfl) d0_383 (by decide) (by decide) (fun T179 X179 => ?_))))))))))
  refine g_lmul C X179 d0_386 (g_ladd C X179 d0_387 (g_lstore C X179 d0_388 (l' := #[.val (.long p0), .second, .val (.long p1), .second, .val (.long p2), .second, .val (.int p3), .val (.int p4), .val (.ref b85), .val (.ref b98), .val (.long f), .second, .val (.long m0), .second, .val (.long m1), .second, .val (.ref b121), .val (.ref b137), .val (.ref b161), .val (.long (m0 + (f * (own_en y0 y2 y4 d0 d1 d2 d3 d4 d5 d6 d7 d8 y0 y2 y4)))), .second, .val (.long (m1 + (f * (own_en y0 y2 y4 d0 d1 d2 d3 d4 d5 d6 d7 d8 y1 y3 y5)))), .second, .unset, .unset, .unset, .unset]) rfl (g_iload C X179 d0_390 rfl (g_i2l C X179 d0_392 (g_lload C X179 d0_393 rfl (g_aload C X179 d0_395 rfl rfl (g_aload C X179 d0_397 rfl rfl (g_iconst 1 C X179 d0_399 rfl (g_iconst 0 C X179 d0_400 rfl (g_staticP (argsL := [(.ref b85), (.ref b98), (.int 1), (.int 0)]) (st := [(.long f), (.long (p3.toInt64))]) C X179 (wd hw 15 rfl) (wd hw 16 rfl) (wd hw 3 rfl) (wd hw 17 rfl) (by decide) (pay_of (W' := 4) (ren10 l hw X179.ext b85 b98 k_b85 k_b98 y0 y1 y2 y3 y4 y5 d0 d1 d2 d3 d4 d5 d6 d7 d8 f176 f177) C.hZ (wd hw 17 rfl) (wd hw 3 rfl) (by decide) (by decide)) pd_3 rfl rfl _ rfl (Nat.le_of_eq rfl) d0_401 (by decide) (by decide) (fun T180 X180 => ?_)))))))))))
  refine g_lmul C X180 d0_404 (g_ladd C X180 d0_405 (g_lstore C X180 d0_406 (l' := #[.val (.long p0), .second, .val (.long p1), .second, .val (.long p2), .second, .val (.int p3), .val (.int p4), .val (.ref b85), .val (.ref b98), .val (.long f), .second, .val (.long m0), .second, .val (.long m1), .second, .val (.ref b121), .val (.ref b137), .val (.ref b161), .val (.long (m0 + (f * (own_en y0 y2 y4 d0 d1 d2 d3 d4 d5 d6 d7 d8 y0 y2 y4)))), .second, .val (.long (m1 + (f * (own_en y0 y2 y4 d0 d1 d2 d3 d4 d5 d6 d7 d8 y1 y3 y5)))), .second, .val (.long ((p3.toInt64) + (f * (own_en y1 y3 y5 d0 d1 d2 d3 d4 d5 d6 d7 d8 y0 y2 y4)))), .second, .unset, .unset]) rfl (g_iload C X180 d0_408 rfl (g_i2l C X180 d0_410 (g_lload C X180 d0_411 rfl (g_aload C X180 d0_413 rfl rfl (g_aload C X180 d0_415 rfl rfl (g_iconst 1 C X180 d0_417 rfl (g_iconst 1 C X180 d0_418 rfl (g_staticP (argsL := [(.ref b85), (.ref b98), (.int 1), (.int 1)]) (st := [(.long f), (.long (p4.toInt64))]) C X180 (wd hw 15 rfl) (wd hw 16 rfl) (wd hw 3 rfl) (wd hw 17 rfl) (by decide) (pay_of (W' := 4) (ren11 l hw X180.ext b85 b98 k_b85 k_b98 y0 y1 y2 y3 y4 y5 d0 d1 d2 d3 d4 d5 d6 d7 d8 f176 f177) C.hZ (wd hw 17 rfl) (wd hw 3 rfl) (by decide) (by decide)) pd_3 rfl rfl _ rfl (Nat.le_of_eq rfl) d0_419 (by decide) (by decide) (fun T181 X181 => ?_)))))))))))
  refine g_lmul C X181 d0_422 (g_ladd C X181 d0_423 (g_lstore C X181 d0_424 (l' := #[.val (.long p0), .second, .val (.long p1), .second, .val (.long p2), .second, .val (.int p3), .val (.int p4), .val (.ref b85), .val (.ref b98), .val (.long f), .second, .val (.long m0), .second, .val (.long m1), .second, .val (.ref b121), .val (.ref b137), .val (.ref b161), .val (.long (m0 + (f * (own_en y0 y2 y4 d0 d1 d2 d3 d4 d5 d6 d7 d8 y0 y2 y4)))), .second, .val (.long (m1 + (f * (own_en y0 y2 y4 d0 d1 d2 d3 d4 d5 d6 d7 d8 y1 y3 y5)))), .second, .val (.long ((p3.toInt64) + (f * (own_en y1 y3 y5 d0 d1 d2 d3 d4 d5 d6 d7 d8 y0 y2 y4)))), .second, .val (.long ((p4.toInt64) + (f * (own_en y1 y3 y5 d0 d1 d2 d3 d4 d5 d6 d7 d8 y1 y3 y5)))), .second]) rfl (g_aload C X181 d0_426 rfl rfl (g_iconst 0 C X181 d0_428 rfl (g_daload C X181 V175 d0_429 (by decide) (by decide) rfl (g_lload C X181 d0_430 rfl (g_l2d C X181 d0_432 (g_dcmp (0 : Int32) C X181 d0_433 (dcmpV_eq (congrArg FP.l2d (by rw [own_bil])) (l2d_fin _).noNaN _) (g_ifn (h0_ne _) C X181 d0_434 (fun q => absurd (by decide) q) (fun _ => ?_))))))))))
  refine g_aload C X181 d0_437 rfl rfl (g_iconst 1 C X181 d0_439 rfl (g_daload C X181 V175 d0_440 (by decide) (by decide) rfl (g_lload C X181 d0_441 rfl (g_l2d C X181 d0_443 (g_dcmp (0 : Int32) C X181 d0_444 (dcmpV_eq (congrArg FP.l2d (by rw [own_bil])) (l2d_fin _).noNaN _) (g_ifn (h0_ne _) C X181 d0_445 (fun q => absurd (by decide) q) (fun _ => ?_)))))))
  refine g_aload C X181 d0_448 rfl rfl (g_iconst 2 C X181 d0_450 rfl (g_daload C X181 V175 d0_451 (by decide) (by decide) rfl (g_lload C X181 d0_452 rfl (g_l2d C X181 d0_454 (g_dcmp (0 : Int32) C X181 d0_455 (dcmpV_eq (congrArg FP.l2d (by rw [own_bil])) (l2d_fin _).noNaN _) (g_ifn (h0_ne _) C X181 d0_456 (fun q => absurd (by decide) q) (fun _ => ?_)))))))
  refine g_aload C X181 d0_459 rfl rfl (g_iconst 3 C X181 d0_461 rfl (g_daload C X181 V175 d0_462 (by decide) (by decide) rfl (g_lload C X181 d0_463 rfl (g_l2d C X181 d0_465 (g_dcmp (0 : Int32) C X181 d0_466 (dcmpV_eq (congrArg FP.l2d (by rw [own_bil])) (l2d_fin _).noNaN _) (g_ifn (h0_ne _) C X181 d0_467 (fun q => absurd (by decide) q) (fun _ => ?_)))))))
  refine g_iconst 1 C X181 d0_470 rfl (g_goto C X181 d0_471 ?_)
  exact g_retN C X181 (by simp) d0_475 (1 : Int32) rfl (by decide) (by decide) rfl
theorem comes_1 {Post : Tables → Env → Array Value → State → Outcome → State → Prop} (hpost : ∀ tb e args s v u, (limb_1_1.after args s (.returned v) u = true ∧ limb_1_2.after args s (.returned v) u = true ∧ True) → FrameEnd s (.returned v) u (Jvm.fieldLocs frame_1_writes args s ++ Jvm.arrayLocs frame_1_arrays args s ++ Jvm.staticLocs frame_1_statics s) 24 192 → Post tb e args s (.returned v) u) :
    ArmFor flags0 classFile x code maxLocals ret World_1 tables_1 room_1 Calls_1 rest_1 Pre_1 Post := by
  intro l hfl _ _ p e ha hc hk s m args below hf hA hF happ hP
  obtain ⟨hcalls, hrest, hpre⟩ := hP
  obtain ⟨-, -, -, hnamed, -, -, -, hat⟩ := (Spec.applies_iff hf).mp happ
  obtain ⟨hg, hn⟩ := and_e (Cond.before_iff.mp (show (Jvm.Cond.and given_1 narrow_1).before args s = true from hpre))
  obtain ⟨hcount, hg⟩ := and_e hg
  obtain ⟨ha0, hg⟩ := and_e hg
  obtain ⟨ha1, hg⟩ := and_e hg
  obtain ⟨ha2, hg⟩ := and_e hg
  obtain ⟨ha3, hg⟩ := and_e hg
  have ha4 := hg
  obtain ⟨w0, w1, w2, w3, w4, rfl⟩ : ∃ w0 w1 w2 w3 w4 : Value, args = #[w0, w1, w2, w3, w4] := by
    have hs : args.size = 5 := by simpa [Cond.value, given_1] using hcount
    obtain ⟨L⟩ := args
    match L, hs with
    | [w0, w1, w2, w3, w4], _ => exact ⟨w0, w1, w2, w3, w4, rfl⟩
  have hw := fun d (hd : d ∈ tables_1) => atoms_spec (ws := Jvm.Cond.code x code maxLocals ret :: tables_1) hat d (List.mem_cons_of_mem _ hd)
  have hfit : Fit s := fun {y c} hc i hi => by
    obtain ⟨ha, rfl⟩ := Array.getElem?_eq_some_iff.mp hc
    have q := List.all_eq_true.mp ((Array.all_eq_true_iff_forall_mem.mp hF) _ (Array.getElem_mem ha)) i (List.mem_range.mpr hi)
    simpa [Array.getElem?_eq_getElem hi] using q
  obtain ⟨i0, ei0⟩ := isL_v ha0
  obtain rfl : w0 = (.long i0) := Option.some.inj ei0
  obtain ⟨i1, ei1⟩ := isL_v ha1
  obtain rfl : w1 = (.long i1) := Option.some.inj ei1
  obtain ⟨i2, ei2⟩ := isL_v ha2
  obtain rfl : w2 = (.long i2) := Option.some.inj ei2
  obtain ⟨i3, ei3⟩ := is_v ha3
  obtain rfl : w3 = (.int i3) := Option.some.inj ei3
  obtain ⟨i4, ei4⟩ := is_v ha4
  obtain rfl : w4 = (.int i4) := Option.some.inj ei4
  obtain ⟨n, o, h1, h2, h3, _, L, rfl, ⟨N, _, rfl⟩, hq⟩ := rm0 l (Z := s) hw ⟨Nat.le_refl _, fun _ _ q => q⟩ i0 i1 i2 i3 i4  p e ha hc hk s m _ below hf ((Spec.applies_iff_loose hf).mp happ).1 ⟨rfl, State.Warmed39.refl s, rfl⟩ trivial
  exact ⟨n, _, h1, h2, h3, hpost _ _ _ _ _ _ ⟨Cond.after_iff.mpr rfl, Cond.after_iff.mpr (eq_i res_at (Term.int_eval (1)) rfl), trivial⟩ ⟨hq.1, hq.2.1, (hq.2.2.sift fun y hy => Or.inr (N y hy)).mono (by decide) (by decide)⟩⟩
theorem main_1_1 : Claimed_1_1 := comes_1 fun _ _ _ _ _ _ h hF => ⟨h.1, hF⟩
theorem main_1_2 : Claimed_1_2 := comes_1 fun _ _ _ _ _ _ h hF => ⟨h.2.1, hF⟩
end Jvm.Pilot.@@N@@
namespace Jvm.Pilot.@@N@@
open Jvm Jvm.ClassFile Sem Op Lib Jvm.Free Jvm.Stand Jvm.Pilot.@@N@@.Jvm.D
/-! MADE BY PROGRAM (witnessworld.py) out of the Statement's table words and the real class files: 12 classes; the members and pool entries that the words name. The judged class is class 1, her method 3. -/
namespace start1
open Jvm.ClassFile
def u (s : String) : CpInfo := .utf8 (stringToUtf16 s)
/-- a pool by its gaps: so many unusable entries, then the entry; so many at the end -/
def gap : Nat → List CpInfo → List CpInfo
  | 0, r => r
  | n + 1, r => .unusable :: gap n r
def poolList (es : List (Nat × CpInfo)) (last : Nat) : List CpInfo := es.foldr (fun e r => gap e.1 (e.2 :: r)) (gap last [])
def pool (es : List (Nat × CpInfo)) (last : Nat) : Array CpInfo := ⟨poolList es last⟩
def fileOf (pool : Array CpInfo) (this : Nat) (attrs : Array Attribute := #[]) (ms : Array MethodInfo := #[]) (fl : Nat := 33) (sup : Nat := 0) (ifs : Array Nat := #[]) (fds : Array FieldInfo := #[]) : ClassFile where
  minorVersion := 0
  majorVersion := 65
  constantPool := pool
  accessFlags := fl
  thisClass := this
  superClass := sup
  interfaces := ifs
  fields := fds
  methods := ms
  attributes := attrs
def plain (name : String) (sup : Option ClassId) : Class where
  name := name
  kind := .ordinary
  loader := none
  accessFlags := 33
  super := sup
  interfaces := #[]
  cf := none
  fields := #[]
  methods := #[]
  instanceTypes := #[]
  staticTypes := #[]
  resolved := #[]
  callSites := []
  init := .initialized
  statics := none
  mirror := none

def pool0 : Array CpInfo := pool [(5, u "<init>"), (0, u "()V"), (1, .class_ 10), (1, u "java/lang/Object")] 113

def k0m0 : Method := { name := "<init>", desc := "()V", sig := { parameters := [], returnType := none }, accessFlags := 1, code := none }
/-- java/lang/Object -/
def k0 : Class := { plain "java/lang/Object" none with
  accessFlags := 33
  interfaces := #[]
  cf := some (fileOf pool0 8 #[] #[{ accessFlags := 1, nameIndex := 5, descriptorIndex := 6, attributes := #[] }] 33 0 #[] #[])
  fields := #[]
  methods := #[k0m0]
  instanceTypes := #[]
  staticTypes := #[]
  resolved := Array.replicate 124 none
  statics := none }

def pool1 : Array CpInfo := pool [(2, .class_ 4), (1, u "java/lang/Object"), (0, u "<init>"), (0, u "()V"), (0, .long 1023), (1, .long 512), (1, .methodref 12 13), (0, .class_ 14), (0, .nameAndType 15 16), (0, u "com/example/strutwork/strutwork/AreaElementAddStiffnessPinLaw"), (0, u "field"), (0, u "(JI)J"), (0, .methodref 18 19), (0, .class_ 20), (0, .nameAndType 21 22), (0, u "com/example/strutwork/strutwork/AreaElement"), (0, u "addStiffness"), (0, u "([D[D[DD)V"), (0, .methodref 12 24), (0, .nameAndType 25 26), (0, u "entry"), (0, u "([J[JII)J"), (2, u "law"), (0, u "(JJJII)Z")] 7

def k1m0 : Method := { name := "<init>", desc := "()V", sig := { parameters := [], returnType := none }, accessFlags := 2, code := none }
def k1c1 : Code := { maxStack := 4, maxLocals := 3, code := method_2_code, exceptionTable := #[], attributes := #[] }
def k1m1 : Method := { name := "field", desc := "(JI)J", sig := { parameters := [.long, .int], returnType := some .long }, accessFlags := 10, code := some k1c1 }
def k1c2 : Code := { maxStack := 6, maxLocals := 22, code := method_3_code, exceptionTable := #[], attributes := #[] }
def k1m2 : Method := { name := "entry", desc := "([J[JII)J", sig := { parameters := [(.array .long), (.array .long), .int, .int], returnType := some .long }, accessFlags := 10, code := some k1c2 }
def k1c3 : Code := { maxStack := 8, maxLocals := 27, code := code, exceptionTable := #[], attributes := #[] }
def k1m3 : Method := { name := "law", desc := "(JJJII)Z", sig := { parameters := [.long, .long, .long, .int, .int], returnType := some .boolean }, accessFlags := 9, code := some k1c3 }
/-- com/example/strutwork/strutwork/AreaElementAddStiffnessPinLaw -/
def k1 : Class := { plain "com/example/strutwork/strutwork/AreaElementAddStiffnessPinLaw" (some 0) with
  accessFlags := 49
  interfaces := #[]
  cf := some (fileOf pool1 12 #[] #[{ accessFlags := 2, nameIndex := 5, descriptorIndex := 6, attributes := #[] }, { accessFlags := 10, nameIndex := 15, descriptorIndex := 16, attributes := #[] }, { accessFlags := 10, nameIndex := 25, descriptorIndex := 26, attributes := #[] }, { accessFlags := 9, nameIndex := 29, descriptorIndex := 30, attributes := #[] }] 49 2 #[] #[])
  fields := #[]
  methods := #[k1m0, k1m1, k1m2, k1m3]
  instanceTypes := #[]
  staticTypes := #[]
  resolved := Array.replicate 38 none
  statics := none }

def pool2 : Array CpInfo := pool [(2, .class_ 4), (1, u "java/lang/Object"), (3, .class_ 10), (1, u "com/example/strutwork/strutwork/Element"), (0, u "id"), (0, u "I"), (8, u "nodes"), (0, u "Ljava/util/List;"), (2, u "material"), (0, u "Lcom/example/strutwork/strutwork/Material;"), (2, u "section"), (0, u "Lcom/example/strutwork/strutwork/Section;")] 89

/-- com/example/strutwork/strutwork/Element -/
def k2 : Class := { plain "com/example/strutwork/strutwork/Element" (some 0) with
  accessFlags := 1057
  interfaces := #[]
  cf := some (fileOf pool2 8 #[] #[] 1057 2 #[] #[{ accessFlags := 18, nameIndex := 11, descriptorIndex := 12, attributes := #[] }, { accessFlags := 18, nameIndex := 21, descriptorIndex := 22, attributes := #[] }, { accessFlags := 18, nameIndex := 25, descriptorIndex := 26, attributes := #[] }, { accessFlags := 18, nameIndex := 29, descriptorIndex := 30, attributes := #[] }])
  fields := #[{ name := "id", type := .int, accessFlags := 18, slot := 0, constantValue := 0 }, { name := "nodes", type := (.object "java/util/List"), accessFlags := 18, slot := 1, constantValue := 0 }, { name := "material", type := (.object "com/example/strutwork/strutwork/Material"), accessFlags := 18, slot := 2, constantValue := 0 }, { name := "section", type := (.object "com/example/strutwork/strutwork/Section"), accessFlags := 18, slot := 3, constantValue := 0 }]
  methods := #[]
  instanceTypes := #[.int, (.object "java/util/List"), (.object "com/example/strutwork/strutwork/Material"), (.object "com/example/strutwork/strutwork/Section")]
  staticTypes := #[]
  resolved := Array.replicate 120 none
  statics := none }

def pool3 : Array CpInfo := pool [(2, .class_ 4), (1, u "com/example/strutwork/strutwork/Element"), (3, .class_ 10), (1, u "com/example/strutwork/strutwork/AreaElement"), (0, u "type"), (0, u "Lcom/example/strutwork/strutwork/ElementType;"), (2, u "shape"), (0, u "Lcom/example/strutwork/strutwork/Shape;"), (114, .class_ 132), (0, u "com/example/strutwork/strutwork/AreaElement$Gradients"), (35, .methodref 8 169), (0, .nameAndType 170 171), (0, u "multiply"), (0, u "([D[DI)[D"), (6, u "COMPONENTS"), (0, u "I"), (2, u "SINE_TOLERANCE"), (0, u "D"), (25, u "addStiffness"), (0, u "([D[D[DD)V")] 30

def k3c0 : Code := { maxStack := 8, maxLocals := 12, code := prog_2_method_11_code, exceptionTable := #[], attributes := #[] }
def k3m0 : Method := { name := "addStiffness", desc := "([D[D[DD)V", sig := { parameters := [(.array .double), (.array .double), (.array .double), .double], returnType := none }, accessFlags := 8, code := some k3c0 }
def k3c1 : Code := { maxStack := 7, maxLocals := 10, code := prog_2_method_12_code, exceptionTable := #[], attributes := #[] }
def k3m1 : Method := { name := "multiply", desc := "([D[DI)[D", sig := { parameters := [(.array .double), (.array .double), .int], returnType := some (.array .double) }, accessFlags := 8, code := some k3c1 }
/-- com/example/strutwork/strutwork/AreaElement -/
def k3 : Class := { plain "com/example/strutwork/strutwork/AreaElement" (some 2) with
  accessFlags := 1056
  interfaces := #[]
  cf := some (fileOf pool3 8 #[.nestMembers #[131]] #[{ accessFlags := 8, nameIndex := 209, descriptorIndex := 210, attributes := #[] }, { accessFlags := 8, nameIndex := 170, descriptorIndex := 171, attributes := #[] }] 1056 2 #[] #[{ accessFlags := 24, nameIndex := 178, descriptorIndex := 179, attributes := #[] }, { accessFlags := 26, nameIndex := 182, descriptorIndex := 183, attributes := #[] }, { accessFlags := 18, nameIndex := 11, descriptorIndex := 12, attributes := #[] }, { accessFlags := 18, nameIndex := 15, descriptorIndex := 16, attributes := #[] }])
  fields := #[{ name := "COMPONENTS", type := .int, accessFlags := 24, slot := 0, constantValue := 0 }, { name := "SINE_TOLERANCE", type := .double, accessFlags := 26, slot := 1, constantValue := 0 }, { name := "type", type := (.object "com/example/strutwork/strutwork/ElementType"), accessFlags := 18, slot := 4, constantValue := 0 }, { name := "shape", type := (.object "com/example/strutwork/strutwork/Shape"), accessFlags := 18, slot := 5, constantValue := 0 }]
  methods := #[k3m0, k3m1]
  instanceTypes := #[.int, (.object "java/util/List"), (.object "com/example/strutwork/strutwork/Material"), (.object "com/example/strutwork/strutwork/Section"), (.object "com/example/strutwork/strutwork/ElementType"), (.object "com/example/strutwork/strutwork/Shape")]
  staticTypes := #[.int, .double]
  resolved := Array.replicate 241 none
  statics := none }

def pool4 : Array CpInfo := pool [(1, u "java/lang/Cloneable"), (0, .class_ 1), (0, u "java/lang/Object"), (0, .class_ 3)] 3

/-- java/lang/Cloneable -/
def k4 : Class := { plain "java/lang/Cloneable" (some 0) with
  accessFlags := 1537
  interfaces := #[]
  cf := some (fileOf pool4 2 #[] #[] 1537 4 #[] #[])
  fields := #[]
  methods := #[]
  instanceTypes := #[]
  staticTypes := #[]
  resolved := Array.replicate 8 none
  statics := none }

def pool5 : Array CpInfo := pool [(1, u "java/io/Serializable"), (0, .class_ 1), (0, u "java/lang/Object"), (0, .class_ 3)] 3

/-- java/io/Serializable -/
def k5 : Class := { plain "java/io/Serializable" (some 0) with
  accessFlags := 1537
  interfaces := #[]
  cf := some (fileOf pool5 2 #[] #[] 1537 4 #[] #[])
  fields := #[]
  methods := #[]
  instanceTypes := #[]
  staticTypes := #[]
  resolved := Array.replicate 8 none
  statics := none }

/-- the primitive byte -/
def k6 : Class := { plain "byte" none with kind := .primitive 'B', accessFlags := 0x411 }
/-- [B -/
def k7 : Class := { plain "[B" (some 0) with kind := .array 6 .byte, interfaces := #[4, 5], accessFlags := 1041 }

/-- the primitive int -/
def k8 : Class := { plain "int" none with kind := .primitive 'I', accessFlags := 0x411 }
/-- [I -/
def k9 : Class := { plain "[I" (some 0) with kind := .array 8 .int, interfaces := #[4, 5], accessFlags := 1041 }

/-- the primitive long -/
def k10 : Class := { plain "long" none with kind := .primitive 'J', accessFlags := 0x411 }
/-- [J -/
def k11 : Class := { plain "[J" (some 0) with kind := .array 10 .long, interfaces := #[4, 5], accessFlags := 1041 }

def k12 : Class := { plain "double" none with kind := .primitive 'D', accessFlags := 0x411 }
def k13 : Class := { plain "[D" (some 0) with kind := .array 12 .double, interfaces := #[4, 5], accessFlags := 1041 }
def heap : Heap := #[]
def classes : Array Class := #[k0, k1, k2, k3, k4, k5, k6, k7, k8, k9, k10, k11, k12, k13]
def interned : List (Array UInt16 × Addr) := []
def slotsUsed : Nat := 0
def theMethod : MethodId := ⟨1, 3⟩
def args0 : Array Value := #[.long 5, .long 6, .long 7, .int 7, .int 3]
def aboutOver (below : List Frame) : State where
  vm := { classes := classes, interned := interned.toArray }
  heap := heap
  slotsUsed := slotsUsed
  threads := #[{ frames := .invoking theMethod args0 :: below }]
def below0 : List Frame := [.native { method := ⟨0, 0⟩, args := #[] }]
def about1 : State := aboutOver below0
def p0 : Program := .bare "" "" ""
def e0 : Env := launch0.env 0 0 0
theorem w_frames : about1.frames = Frame.invoking theMethod args0 :: below0 := rfl
set_option maxRecDepth 65536 in
theorem w_args : argsFit about1.vm theMethod args0 = true := by decide +kernel
set_option maxRecDepth 65536 in
theorem w_heap : heapFits about1 = true := by decide +kernel
set_option maxRecDepth 65536 in
theorem w_runnable : about1.curStatus? = some .runnable := by decide +kernel
set_option maxRecDepth 65536 in
theorem w_alone : about1.alone = true := by decide +kernel
set_option maxRecDepth 65536 in
theorem w_named : about1.methodNamed? x = some theMethod := by decide +kernel
set_option maxRecDepth 65536 in
theorem w_hears : about1.hears theMethod below0 = true := by decide +kernel
set_option maxRecDepth 65536 in
theorem w_ripe : about1.ripe theMethod args0 below0 = true := by decide +kernel
theorem w_running : about1.status = .running := rfl
set_option maxRecDepth 65536 in
theorem w_room : about1.hasRoom e0.platform room_1 = true :=
  launch0.hasRoom_least _ room_1 (by decide +kernel) (by decide +kernel) (by decide +kernel) (by decide +kernel) (by decide +kernel) (by decide +kernel)
theorem allAtoms_all (ts : List Jvm.Cond) (a : Array Jvm.Value) (st : Jvm.State) : (allAtoms ts).before a st = ts.all (fun c => c.before a st) := by
  induction ts with
  | nil => rfl
  | cons c t ih =>
    show (Jvm.Cond.and c (allAtoms t)).before a st = _
    rw [Jvm.Cond.before_and, ih, List.all_cons]
def words1 : List Jvm.Cond := Jvm.Cond.code x code maxLocals ret :: tables_1
/-- a 'code' word, met by the world's own term for the bytes: nothing is compared byte by byte -/
theorem code_word {y : MethodName} {bytes : ByteArray} {mx : Nat} {rt : Option FieldType} {a : Array Value} {s : State} {m : MethodId} {meth : Method} {c : Code} (h1 : s.methodNamed? y = some m) (h2 : s.vm.method? m = some meth) (h3 : meth.code = some c) (h4 : c.code = bytes)
    (h5 : (c.maxLocals == mx && c.exceptionTable.isEmpty && decide (c.maxStack ≤ mostOperands) && decide (meth.sig.returnType = rt) && !meth.locks && decide (parseMethodDescriptor y.desc = some meth.sig)) = true) : (Jvm.Cond.code y bytes mx rt).before a s = true := by
  simp only [Bool.and_eq_true, beq_iff_eq, Bool.not_eq_true', decide_eq_true_eq] at h5
  obtain ⟨⟨⟨⟨⟨g1, g2⟩, g3⟩, g4⟩, g5⟩, g6⟩ := h5
  simp [Cond.before, Cond.holds, Cond.value, h1, h2, h3, h4, g1, g2, g3, g4, g5, g6]
def isCode : Jvm.Cond → Bool
  | .code _ _ _ _ => true
  | _ => false
theorem all_split {L : List Jvm.Cond} {P : Jvm.Cond → Bool} (h1 : L.all (fun c => isCode c || P c) = true) (h2 : ∀ c ∈ L.filter isCode, P c = true) : L.all P = true := by
  refine List.all_eq_true.mpr fun c hc => ?_
  have h := List.all_eq_true.mp h1 c hc
  rcases Bool.eq_false_or_eq_true (isCode c) with hi | hi
  · exact h2 c (List.mem_filter.mpr ⟨hc, hi⟩)
  · simpa [hi] using h
set_option maxRecDepth 65536 in
theorem w_c0 : (Jvm.Cond.code x code maxLocals ret).before args0 about1 = true := code_word (m := ⟨1, 3⟩) (meth := k1m3) (c := k1c3) (by decide +kernel) rfl rfl rfl (by decide +kernel)
set_option maxRecDepth 65536 in
theorem w_c1 : (Jvm.Cond.code ({ cls := "com/example/strutwork/strutwork/AreaElementAddStiffnessPinLaw", name := "field", desc := "(JI)J" } : Jvm.MethodName) method_2_code (3 : Nat) (Option.some Jvm.ClassFile.FieldType.long)).before args0 about1 = true := code_word (m := ⟨1, 1⟩) (meth := k1m1) (c := k1c1) (by decide +kernel) rfl rfl rfl (by decide +kernel)
set_option maxRecDepth 65536 in
theorem w_c2 : (Jvm.Cond.code ({ cls := "com/example/strutwork/strutwork/AreaElement", name := "addStiffness", desc := "([D[D[DD)V" } : Jvm.MethodName) prog_2_method_11_code (12 : Nat) (Option.none : Option Jvm.ClassFile.FieldType)).before args0 about1 = true := code_word (m := ⟨3, 0⟩) (meth := k3m0) (c := k3c0) (by decide +kernel) rfl rfl rfl (by decide +kernel)
set_option maxRecDepth 65536 in
theorem w_c3 : (Jvm.Cond.code ({ cls := "com/example/strutwork/strutwork/AreaElement", name := "multiply", desc := "([D[DI)[D" } : Jvm.MethodName) prog_2_method_12_code (10 : Nat) (Option.some (Jvm.ClassFile.FieldType.array Jvm.ClassFile.FieldType.double))).before args0 about1 = true := code_word (m := ⟨3, 1⟩) (meth := k3m1) (c := k3c1) (by decide +kernel) rfl rfl rfl (by decide +kernel)
set_option maxRecDepth 65536 in
theorem w_c4 : (Jvm.Cond.code ({ cls := "com/example/strutwork/strutwork/AreaElementAddStiffnessPinLaw", name := "entry", desc := "([J[JII)J" } : Jvm.MethodName) method_3_code (22 : Nat) (Option.some Jvm.ClassFile.FieldType.long)).before args0 about1 = true := code_word (m := ⟨1, 2⟩) (meth := k1m2) (c := k1c2) (by decide +kernel) rfl rfl rfl (by decide +kernel)
def codes1 : List Jvm.Cond := [Jvm.Cond.code x code maxLocals ret, Jvm.Cond.code ({ cls := "com/example/strutwork/strutwork/AreaElementAddStiffnessPinLaw", name := "field", desc := "(JI)J" } : Jvm.MethodName) method_2_code (3 : Nat) (Option.some Jvm.ClassFile.FieldType.long), Jvm.Cond.code ({ cls := "com/example/strutwork/strutwork/AreaElement", name := "addStiffness", desc := "([D[D[DD)V" } : Jvm.MethodName) prog_2_method_11_code (12 : Nat) (Option.none : Option Jvm.ClassFile.FieldType), Jvm.Cond.code ({ cls := "com/example/strutwork/strutwork/AreaElement", name := "multiply", desc := "([D[DI)[D" } : Jvm.MethodName) prog_2_method_12_code (10 : Nat) (Option.some (Jvm.ClassFile.FieldType.array Jvm.ClassFile.FieldType.double)), Jvm.Cond.code ({ cls := "com/example/strutwork/strutwork/AreaElementAddStiffnessPinLaw", name := "entry", desc := "([J[JII)J" } : Jvm.MethodName) method_3_code (22 : Nat) (Option.some Jvm.ClassFile.FieldType.long)]
set_option maxRecDepth 65536 in
theorem codes_eq : words1.filter isCode = codes1 := rfl
theorem w_codes : ∀ c ∈ words1.filter isCode, c.before args0 about1 = true := by
  rw [codes_eq]
  intro c hc
  simp only [codes1, List.mem_cons, List.not_mem_nil, or_false] at hc
  rcases hc with rfl | rfl | rfl | rfl | rfl
  · exact w_c0
  · exact w_c1
  · exact w_c2
  · exact w_c3
  · exact w_c4
set_option maxRecDepth 65536 in
theorem w_t1 : words1.all (fun c => isCode c || c.before args0 about1) = true := by decide +kernel
theorem w_tables : (allAtoms (Jvm.Cond.code x code maxLocals ret :: tables_1)).before args0 about1 = true := by
  rw [allAtoms_all]
  show words1.all (fun c => c.before args0 about1) = true
  refine all_split ?_ w_codes
  rw [w_t1]
set_option maxRecDepth 65536 in
theorem w_case : (Jvm.Cond.and given_1 narrow_1).before args0 about1 = true := by decide +kernel
theorem w_applies : (headSpec (Jvm.Cond.code x code maxLocals ret :: tables_1) room_1).applies x e0.platform about1 = true :=
  (Spec.applies_iff w_frames).mpr ⟨w_running, w_runnable, w_alone, w_named, w_hears, w_ripe, w_room, w_tables⟩
theorem atStart : AtStart classFile x code maxLocals ret World_1 tables_1 room_1 Calls_1 rest_1 Pre_1 launch0 p0 e0 about1 theMethod args0 below0 :=
  ⟨lists_1, trivial, launch0.admits_env _ _ _, launch0.least_env, fairChoices_fair.cas, fairChoices_fair.clock, w_frames, w_args, w_heap, w_applies, trivial, trivial, w_case⟩
end start1
theorem witness_1 : WitnessClaimed_1 := ⟨start1.p0, start1.e0, start1.about1, start1.theMethod, start1.args0, start1.below0, start1.atStart⟩
end Jvm.Pilot.@@N@@
