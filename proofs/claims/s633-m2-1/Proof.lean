import JvmDerived
import JvmDerived.Pilot.@@N@@Statement
import JvmDerived.Pilot.@@N@@Code
set_option linter.unusedVariables false
set_option linter.unusedSimpArgs false
set_option maxRecDepth 65536
set_option maxHeartbeats 40000000
namespace Jvm.Pilot.@@N@@
open Jvm Jvm.ClassFile Sem Op Lib Jvm.Free Jvm.Stand Jvm.LawKit Jvm.RoadKit Bundle Jvm.Pilot.@@N@@.Jvm.D
section OwnKit
variable {p : Program} {l : Launch} {e : Env} {R : Room} {s : State} {m : MethodId} {A : Array Value} {below : List Frame} {meth : Method} {c : Code} {T : State} {cells slots : Nat} {Z : State} {a0 : Array Value} {h : Heap} {own nm : String} {bytes : ByteArray} {maxL : Nat} {ret : Option FieldType} {W : Outcome → State → Prop} {pc pc' tgt : Nat} {Ls : Array Slot} {st : List Value}
/-- the run from the frame g over T comes to an end at which W holds -/
def Goes (p : Program) (e : Env) (below : List Frame) (W : Outcome → State → Prop) (T : State) (g : JFrame) : Prop :=
  ∃ s₂ o, Steps p.tables e below (T.setTop g) s₂ ∧ s₂.status = .running ∧ Ended s₂ below o ∧ W o s₂
theorem Goes.via {T' : State} {g g' : JFrame} (h : ∀ t, Steps p.tables e below (T'.setTop g') t → Steps p.tables e below (T.setTop g) t) (k : Goes p e below W T' g') : Goes p e below W T g := by
  obtain ⟨s₂, o, h1, h2⟩ := k; exact ⟨s₂, o, h _ h1, h2⟩
/-- what stays the same through a body -/
def Cx (p : Program) (s : State) (m : MethodId) (meth : Method) (c : Code) (Z : State) (own nm : String) (bytes : ByteArray) (maxL : Nat) (ret : Option FieldType) : Prop :=
  p.tables.exec = Jvm.exec ∧ Z.Warmed39 s.vm ∧ s.vm.findClass own = some m.cls ∧ c.code = bytes ∧ c.maxLocals = maxL ∧ meth.sig.returnType = ret ∧ meth.locks = false ∧ meth.name = nm
theorem Cx.hx (C : Cx p s m meth c Z own nm bytes maxL ret) : p.tables.exec = Jvm.exec := C.1
theorem Cx.hZ (C : Cx p s m meth c Z own nm bytes maxL ret) : Z.Warmed39 s.vm := C.2.1
theorem Cx.hown (C : Cx p s m meth c Z own nm bytes maxL ret) : s.vm.findClass own = some m.cls := C.2.2.1
theorem Cx.hby (C : Cx p s m meth c Z own nm bytes maxL ret) : c.code = bytes := C.2.2.2.1
theorem Cx.hml (C : Cx p s m meth c Z own nm bytes maxL ret) : c.maxLocals = maxL := C.2.2.2.2.1
theorem Cx.hret (C : Cx p s m meth c Z own nm bytes maxL ret) : meth.sig.returnType = ret := C.2.2.2.2.2.1
theorem Cx.hlk (C : Cx p s m meth c Z own nm bytes maxL ret) : meth.locks = false := C.2.2.2.2.2.2.1
theorem Cx.hnm (C : Cx p s m meth c Z own nm bytes maxL ret) : meth.name = nm := C.2.2.2.2.2.2.2
/-- where the walk stands: the heap is h; nothing that stood at Z was written; at most so many cells and slots were made -/
def St (p : Program) (l : Launch) (e : Env) (R : Room) (s : State) (m : MethodId) (A : Array Value) (below : List Frame) (meth : Method) (c : Code) (Z : State) (T : State) (h : Heap) (cells slots : Nat) : Prop :=
  ∃ locs, Stand p l e R s m A below meth c T locs cells slots ∧ T.heap = h ∧ Fr Z.heap.size locs ∧ Ext Z.heap h
theorem St.here (X : St p l e R s m A below meth c Z T h cells slots) : At T m c below := by obtain ⟨_, Y, _⟩ := X; exact Y.here
theorem St.ext (X : St p l e R s m A below meth c Z T h cells slots) : Ext Z.heap h := by obtain ⟨_, _, _, _, E⟩ := X; exact E
theorem St.more {cells' slots' : Nat} (X : St p l e R s m A below meth c Z T h cells slots) (h1 : cells ≤ cells') (h2 : slots ≤ slots') : St p l e R s m A below meth c Z T h cells' slots' := by
  obtain ⟨L, Y, r⟩ := X; exact ⟨L, Y.more h1 h2, r⟩
/-- the end of a body: Q of what it returned and of the heap -/
def EndW (Z s : State) (k n : Nat) (Q : Option Value → Heap → Prop) (o : Outcome) (u : State) : Prop :=
  ∃ v L, o = .returned v ∧ (Fr Z.heap.size L ∧ Ext Z.heap u.heap ∧ Q v u.heap) ∧ FrameEnd s o u L k n
/-- a body's contract: called with A at the heap h0, over tables warmer than Z's, it returns and leaves Q -/
def Con (l : Launch) (y : MethodName) (bytes : ByteArray) (maxL : Nat) (ret : Option FieldType) (ws : List Jvm.Cond) (rm : Room) (Z : State) (A : Array Value) (h0 : Heap) (Q : Option Value → Heap → Prop) : Prop :=
  MetFree l y (head1 (Jvm.Cond.code y bytes maxL ret :: ws) rm) (fun a U => a = A ∧ Z.Warmed39 U.vm ∧ U.heap = h0) (fun _ _ _ _ _ => True) (fun _ U o U' => EndW Z U rm.cells rm.slots Q o U')
theorem con_of {y : MethodName} {ws : List Jvm.Cond} {rm : Room} {h0 : Heap} {Q : Option Value → Heap → Prop} {Ls : Array Slot} (hp : plainFor y = true) (hE : Ext Z.heap h0) (hef : ∀ m, entryFrame m A maxL = mkF m 0 Ls [])
    (body : ∀ p e s m below meth c s₁, Cx p s m meth c Z y.cls y.name bytes maxL ret → St p l e rm s m A below meth c Z s₁ h0 0 0 → Goes p e below (EndW Z s rm.cells rm.slots Q) s₁ (mkF m 0 Ls [])) :
    Con l y bytes maxL ret ws rm Z A h0 Q := by
  refine MetFree.of_bodySF hp hisR ?_
  intro p e s m args below meth c s₁ Bd hml0 hP hK
  obtain ⟨rfl, hZ, hh⟩ := hP
  have X0 := Stand.of_body Bd
  have e0 : s₁.heap = h0 := by rw [← hh, Bd.state]; rfl
  have := body p e s m below meth c s₁ ⟨Bd.exec, hZ, findClass_of_methodNamed Bd.named, Bd.bytes, hml0, Bd.returns, Bd.notSynchronized, (name_of_methodNamed Bd.named Bd.method).1⟩ ⟨[], X0, e0, Fr.nil _, hE⟩
  rw [← hef m] at this
  exact this
/-- the instruction at pc, its length, the pc behind it -/
def Dc (b : ByteArray) (pc : Nat) (i : Instr) (n pc' : Nat) : Prop := decode b pc = .ok (i, n) ∧ pc + n = pc'
/-- a jump: besides, its target -/
def Dj (b : ByteArray) (pc : Nat) (i : Instr) (o : Int) (n pc' tgt : Nat) : Prop := decode b pc = .ok (i, n) ∧ pc + n = pc' ∧ 0 ≤ (pc : Int) + o ∧ ((pc : Int) + o).toNat = tgt
theorem g_goto {o : Int} (C : Cx p s m meth c Z own nm bytes maxL ret) (X : St p l e R s m A below meth c Z T h cells slots) (d : Dj bytes pc (.goto o) o 3 pc' tgt) (K : Goes p e below W T (mkF m tgt Ls st)) : Goes p e below W T (mkF m pc Ls st) :=
  Goes.via (fun _ k => XS.goto X.here C.hx rfl rfl (hb C.hby d.1) d.2.2.1 d.2.2.2 k) K
theorem g_if {cd : ClassFile.Cond} {o : Int} {x : Int32} {P : Prop} [Decidable P] (hP : ifCond.holds cd x = decide P) (C : Cx p s m meth c Z own nm bytes maxL ret) (X : St p l e R s m A below meth c Z T h cells slots) (d : Dj bytes pc (.ifCond cd o) o 3 pc' tgt) (K1 : P → Goes p e below W T (mkF m tgt Ls st)) (K2 : ¬ P → Goes p e below W T (mkF m pc' Ls st)) : Goes p e below W T (mkF m pc Ls (.int x :: st)) := by
  obtain ⟨d1, rfl, d3, d4⟩ := d
  by_cases q : P
  · exact Goes.via (fun _ k => XS.ifYes X.here C.hx rfl rfl (hb C.hby d1) rfl (hP.trans (decide_eq_true q)) d3 d4 k) (K1 q)
  · exact Goes.via (fun _ k => XS.ifNo X.here C.hx rfl (hb C.hby d1) rfl (hP.trans (decide_eq_false q)) k) (K2 q)
theorem g_icmp {cd : ClassFile.Cond} {o : Int} {x y : Int32} {P : Prop} [Decidable P] (hP : if_icmp.holds cd x y = decide P) (C : Cx p s m meth c Z own nm bytes maxL ret) (X : St p l e R s m A below meth c Z T h cells slots) (d : Dj bytes pc (.if_icmp cd o) o 3 pc' tgt) (K1 : P → Goes p e below W T (mkF m tgt Ls st)) (K2 : ¬ P → Goes p e below W T (mkF m pc' Ls st)) : Goes p e below W T (mkF m pc Ls (.int y :: .int x :: st)) := by
  obtain ⟨d1, rfl, d3, d4⟩ := d
  by_cases q : P
  · exact Goes.via (fun _ k => XS.icmpYes X.here C.hx rfl rfl (hb C.hby d1) rfl (hP.trans (decide_eq_true q)) d3 d4 k) (K1 q)
  · exact Goes.via (fun _ k => XS.icmpNo X.here C.hx rfl (hb C.hby d1) rfl (hP.trans (decide_eq_false q)) k) (K2 q)
theorem g_ifn {cd : ClassFile.Cond} {o : Int} {x : Int32} {P : Prop} [Decidable P] (hP : ifCond.holds cd x = !decide P) (C : Cx p s m meth c Z own nm bytes maxL ret) (X : St p l e R s m A below meth c Z T h cells slots) (d : Dj bytes pc (.ifCond cd o) o 3 pc' tgt) (K1 : ¬ P → Goes p e below W T (mkF m tgt Ls st)) (K2 : P → Goes p e below W T (mkF m pc' Ls st)) : Goes p e below W T (mkF m pc Ls (.int x :: st)) := by
  obtain ⟨d1, rfl, d3, d4⟩ := d
  by_cases q : P
  · exact Goes.via (fun _ k => XS.ifNo X.here C.hx rfl (hb C.hby d1) rfl (hP.trans (by simp [q])) k) (K2 q)
  · exact Goes.via (fun _ k => XS.ifYes X.here C.hx rfl rfl (hb C.hby d1) rfl (hP.trans (by simp [q])) d3 d4 k) (K1 q)
theorem g_icmpn {cd : ClassFile.Cond} {o : Int} {x y : Int32} {P : Prop} [Decidable P] (hP : if_icmp.holds cd x y = !decide P) (C : Cx p s m meth c Z own nm bytes maxL ret) (X : St p l e R s m A below meth c Z T h cells slots) (d : Dj bytes pc (.if_icmp cd o) o 3 pc' tgt) (K1 : ¬ P → Goes p e below W T (mkF m tgt Ls st)) (K2 : P → Goes p e below W T (mkF m pc' Ls st)) : Goes p e below W T (mkF m pc Ls (.int y :: .int x :: st)) := by
  obtain ⟨d1, rfl, d3, d4⟩ := d
  by_cases q : P
  · exact Goes.via (fun _ k => XS.icmpNo X.here C.hx rfl (hb C.hby d1) rfl (hP.trans (by simp [q])) k) (K2 q)
  · exact Goes.via (fun _ k => XS.icmpYes X.here C.hx rfl rfl (hb C.hby d1) rfl (hP.trans (by simp [q])) d3 d4 k) (K1 q)
theorem hI_eq (x y : Int32) : if_icmp.holds .eq x y = decide (x = y) := by
  by_cases q : x = y
  · rw [(teq q).1]; simp [q]
  · rw [(feq q).1]; simp [q]
theorem hI_ne (x y : Int32) : if_icmp.holds .ne x y = !decide (x = y) := by
  by_cases q : x = y
  · rw [(teq q).2]; simp [q]
  · rw [(feq q).2]; simp [q]
theorem hI_lt (x y : Int32) : if_icmp.holds .lt x y = decide (x < y) := by
  by_cases q : x < y
  · rw [(tlt q).1]; simp [q]
  · rw [(flt q).1]; simp [q]
theorem hI_ge (x y : Int32) : if_icmp.holds .ge x y = !decide (x < y) := by
  by_cases q : x < y
  · rw [(tlt q).2.1]; simp [q]
  · rw [(flt q).2.1]; simp [q]
theorem hI_gt (x y : Int32) : if_icmp.holds .gt x y = decide (y < x) := by
  by_cases q : y < x
  · rw [(tlt q).2.2.1]; simp [q]
  · rw [(flt q).2.2.1]; simp [q]
theorem hI_le (x y : Int32) : if_icmp.holds .le x y = !decide (y < x) := by
  by_cases q : y < x
  · rw [(tlt q).2.2.2]; simp [q]
  · rw [(flt q).2.2.2]; simp [q]
theorem h0_eq (x : Int32) : ifCond.holds .eq x = decide (x = 0) := (if0 _ _).trans (hI_eq x 0)
theorem h0_ne (x : Int32) : ifCond.holds .ne x = !decide (x = 0) := (if0 _ _).trans (hI_ne x 0)
theorem h0_lt (x : Int32) : ifCond.holds .lt x = decide (x < 0) := (if0 _ _).trans (hI_lt x 0)
theorem h0_ge (x : Int32) : ifCond.holds .ge x = !decide (x < 0) := (if0 _ _).trans (hI_ge x 0)
theorem h0_gt (x : Int32) : ifCond.holds .gt x = decide (0 < x) := (if0 _ _).trans (hI_gt x 0)
theorem h0_le (x : Int32) : ifCond.holds .le x = !decide (0 < x) := (if0 _ _).trans (hI_le x 0)
/-- a comparison of longs, then a branch on it: 'lcmp; if..' -/
theorem hL_eq (x y : Int64) : ifCond.holds .eq (lcmpW x y) = decide (x = y) := by rw [h0_eq]; exact decide_eq_decide.mpr (lw_eq x y)
theorem hL_ne (x y : Int64) : ifCond.holds .ne (lcmpW x y) = !decide (x = y) := by rw [h0_ne]; exact congrArg _ (decide_eq_decide.mpr (lw_eq x y))
theorem hL_lt (x y : Int64) : ifCond.holds .lt (lcmpW x y) = decide (x < y) := by rw [h0_lt]; exact decide_eq_decide.mpr (lw_lt x y)
theorem hL_ge (x y : Int64) : ifCond.holds .ge (lcmpW x y) = !decide (x < y) := by rw [h0_ge]; exact congrArg _ (decide_eq_decide.mpr (lw_lt x y))
theorem hL_gt (x y : Int64) : ifCond.holds .gt (lcmpW x y) = decide (y < x) := by rw [h0_gt]; exact decide_eq_decide.mpr (lw_gt x y)
theorem hL_le (x y : Int64) : ifCond.holds .le (lcmpW x y) = !decide (y < x) := by rw [h0_le]; exact congrArg _ (decide_eq_decide.mpr (lw_gt x y))
/-- two references compared; the values are references or null -/
theorem g_acmpeq {o : Int} {x y : Value} (C : Cx p s m meth c Z own nm bytes maxL ret) (X : St p l e R s m A below meth c Z T h cells slots) (d : Dj bytes pc (.if_acmp .eq o) o 3 pc' tgt) (h1 : x.isRef = true) (h2 : y.isRef = true) (K1 : x = y → Goes p e below W T (mkF m tgt Ls st)) (K2 : ¬ x = y → Goes p e below W T (mkF m pc' Ls st)) : Goes p e below W T (mkF m pc Ls (y :: x :: st)) := by
  obtain ⟨d1, rfl, d3, d4⟩ := d
  by_cases q : x = y
  · exact Goes.via (fun _ k => XT.acmpYes X.here C.hx rfl rfl (hb C.hby d1) rfl h1 h2 (XT.aa_eq_t q) d3 d4 k) (K1 q)
  · exact Goes.via (fun _ k => XT.acmpNo X.here C.hx rfl (hb C.hby d1) rfl h1 h2 (XT.aa_eq_f q) k) (K2 q)
theorem g_acmpne {o : Int} {x y : Value} (C : Cx p s m meth c Z own nm bytes maxL ret) (X : St p l e R s m A below meth c Z T h cells slots) (d : Dj bytes pc (.if_acmp .ne o) o 3 pc' tgt) (h1 : x.isRef = true) (h2 : y.isRef = true) (K1 : ¬ x = y → Goes p e below W T (mkF m tgt Ls st)) (K2 : x = y → Goes p e below W T (mkF m pc' Ls st)) : Goes p e below W T (mkF m pc Ls (y :: x :: st)) := by
  obtain ⟨d1, rfl, d3, d4⟩ := d
  by_cases q : x = y
  · exact Goes.via (fun _ k => XT.acmpNo X.here C.hx rfl (hb C.hby d1) rfl h1 h2 (XT.aa_ne_f q) k) (K2 q)
  · exact Goes.via (fun _ k => XT.acmpYes X.here C.hx rfl rfl (hb C.hby d1) rfl h1 h2 (XT.aa_ne_t q) d3 d4 k) (K1 q)
theorem g_ifnull {o : Int} {v : Value} (C : Cx p s m meth c Z own nm bytes maxL ret) (X : St p l e R s m A below meth c Z T h cells slots) (d : Dj bytes pc (.ifnull o) o 3 pc' tgt) (h1 : v.isRef = true) (K1 : v = .null → Goes p e below W T (mkF m tgt Ls st)) (K2 : ¬ v = .null → Goes p e below W T (mkF m pc' Ls st)) : Goes p e below W T (mkF m pc Ls (v :: st)) := by
  obtain ⟨d1, rfl, d3, d4⟩ := d
  by_cases q : v = .null
  · exact Goes.via (fun _ k => XT.nullYes X.here C.hx rfl rfl (hb C.hby d1) rfl q d3 d4 k) (K1 q)
  · exact Goes.via (fun _ k => XT.nullNo X.here C.hx rfl (hb C.hby d1) rfl h1 q k) (K2 q)
theorem g_ifnonnull {o : Int} {v : Value} (C : Cx p s m meth c Z own nm bytes maxL ret) (X : St p l e R s m A below meth c Z T h cells slots) (d : Dj bytes pc (.ifnonnull o) o 3 pc' tgt) (h1 : v.isRef = true) (K1 : ¬ v = .null → Goes p e below W T (mkF m tgt Ls st)) (K2 : v = .null → Goes p e below W T (mkF m pc' Ls st)) : Goes p e below W T (mkF m pc Ls (v :: st)) := by
  obtain ⟨d1, rfl, d3, d4⟩ := d
  by_cases q : v = .null
  · exact Goes.via (fun _ k => XT.nonnullNo X.here C.hx rfl (hb C.hby d1) rfl q k) (K2 q)
  · exact Goes.via (fun _ k => XT.nonnullYes X.here C.hx rfl rfl (hb C.hby d1) rfl h1 q d3 d4 k) (K1 q)
theorem g_iload {k : Nat} {v : Int32} (C : Cx p s m meth c Z own nm bytes maxL ret) (X : St p l e R s m A below meth c Z T h cells slots) (d : Dc bytes pc (.iload k) 2 pc') (hl : Ls[k]? = some (.val (.int v))) (K : Goes p e below W T (mkF m pc' Ls (.int v :: st))) : Goes p e below W T (mkF m pc Ls st) := by
  obtain ⟨d, rfl⟩ := d
  exact Goes.via (fun _ k => XS.iload X.here C.hx rfl (hb C.hby d) hl k) K
theorem g_iloadN {k : Fin 4} {v : Int32} (C : Cx p s m meth c Z own nm bytes maxL ret) (X : St p l e R s m A below meth c Z T h cells slots) (d : Dc bytes pc (.iload_n k) 1 pc') (hl : Ls[k.val]? = some (.val (.int v))) (K : Goes p e below W T (mkF m pc' Ls (.int v :: st))) : Goes p e below W T (mkF m pc Ls st) := by
  obtain ⟨d, rfl⟩ := d
  exact Goes.via (fun _ k => XS.iloadN X.here C.hx rfl (hb C.hby d) hl k) K
theorem g_lload {k : Nat} {v : Int64} (C : Cx p s m meth c Z own nm bytes maxL ret) (X : St p l e R s m A below meth c Z T h cells slots) (d : Dc bytes pc (.lload k) 2 pc') (hl : Ls[k]? = some (.val (.long v))) (K : Goes p e below W T (mkF m pc' Ls (.long v :: st))) : Goes p e below W T (mkF m pc Ls st) := by
  obtain ⟨d, rfl⟩ := d
  exact Goes.via (fun _ k => XT.lload X.here C.hx rfl (hb C.hby d) hl k) K
theorem g_lloadN {k : Fin 4} {v : Int64} (C : Cx p s m meth c Z own nm bytes maxL ret) (X : St p l e R s m A below meth c Z T h cells slots) (d : Dc bytes pc (.lload_n k) 1 pc') (hl : Ls[k.val]? = some (.val (.long v))) (K : Goes p e below W T (mkF m pc' Ls (.long v :: st))) : Goes p e below W T (mkF m pc Ls st) := by
  obtain ⟨d, rfl⟩ := d
  exact Goes.via (fun _ k => XT.lloadN X.here C.hx rfl (hb C.hby d) hl k) K
theorem g_aload {k : Nat} {v : Value} (C : Cx p s m meth c Z own nm bytes maxL ret) (X : St p l e R s m A below meth c Z T h cells slots) (d : Dc bytes pc (.aload k) 2 pc') (hl : Ls[k]? = some (.val v)) (hv : v.isRef = true) (K : Goes p e below W T (mkF m pc' Ls (v :: st))) : Goes p e below W T (mkF m pc Ls st) := by
  obtain ⟨d, rfl⟩ := d
  exact Goes.via (fun _ k => XS.aload X.here C.hx rfl (hb C.hby d) hl hv k) K
theorem g_aloadN {k : Fin 4} {v : Value} (C : Cx p s m meth c Z own nm bytes maxL ret) (X : St p l e R s m A below meth c Z T h cells slots) (d : Dc bytes pc (.aload_n k) 1 pc') (hl : Ls[k.val]? = some (.val v)) (hv : v.isRef = true) (K : Goes p e below W T (mkF m pc' Ls (v :: st))) : Goes p e below W T (mkF m pc Ls st) := by
  obtain ⟨d, rfl⟩ := d
  exact Goes.via (fun _ k => XS.aloadN X.here C.hx rfl (hb C.hby d) hl hv k) K
theorem g_istore {k : Nat} {x : Int32} {l' : Array Slot} (C : Cx p s m meth c Z own nm bytes maxL ret) (X : St p l e R s m A below meth c Z T h cells slots) (d : Dc bytes pc (.istore k) 2 pc') (hl : storeLocals Ls k (.int x) = some l') (K : Goes p e below W T (mkF m pc' l' st)) : Goes p e below W T (mkF m pc Ls (.int x :: st)) := by
  obtain ⟨d, rfl⟩ := d
  exact Goes.via (fun _ k => XS.istore X.here C.hx rfl (hb C.hby d) rfl hl k) K
theorem g_istoreN {k : Fin 4} {x : Int32} {l' : Array Slot} (C : Cx p s m meth c Z own nm bytes maxL ret) (X : St p l e R s m A below meth c Z T h cells slots) (d : Dc bytes pc (.istore_n k) 1 pc') (hl : storeLocals Ls k.val (.int x) = some l') (K : Goes p e below W T (mkF m pc' l' st)) : Goes p e below W T (mkF m pc Ls (.int x :: st)) := by
  obtain ⟨d, rfl⟩ := d
  exact Goes.via (fun _ k => XS.istoreN X.here C.hx rfl (hb C.hby d) rfl hl k) K
theorem g_lstore {k : Nat} {x : Int64} {l' : Array Slot} (C : Cx p s m meth c Z own nm bytes maxL ret) (X : St p l e R s m A below meth c Z T h cells slots) (d : Dc bytes pc (.lstore k) 2 pc') (hl : storeLocals Ls k (.long x) = some l') (K : Goes p e below W T (mkF m pc' l' st)) : Goes p e below W T (mkF m pc Ls (.long x :: st)) := by
  obtain ⟨d, rfl⟩ := d
  exact Goes.via (fun _ k => XT.lstore X.here C.hx rfl (hb C.hby d) rfl hl k) K
theorem g_lstoreN {k : Fin 4} {x : Int64} {l' : Array Slot} (C : Cx p s m meth c Z own nm bytes maxL ret) (X : St p l e R s m A below meth c Z T h cells slots) (d : Dc bytes pc (.lstore_n k) 1 pc') (hl : storeLocals Ls k.val (.long x) = some l') (K : Goes p e below W T (mkF m pc' l' st)) : Goes p e below W T (mkF m pc Ls (.long x :: st)) := by
  obtain ⟨d, rfl⟩ := d
  exact Goes.via (fun _ k => XT.lstoreN X.here C.hx rfl (hb C.hby d) rfl hl k) K
theorem g_astore {k : Nat} {x : Value} {l' : Array Slot} (C : Cx p s m meth c Z own nm bytes maxL ret) (X : St p l e R s m A below meth c Z T h cells slots) (d : Dc bytes pc (.astore k) 2 pc') (hv : x.isRef = true) (hl : storeLocals Ls k x = some l') (K : Goes p e below W T (mkF m pc' l' st)) : Goes p e below W T (mkF m pc Ls (x :: st)) := by
  obtain ⟨d, rfl⟩ := d
  exact Goes.via (fun _ k => XS.astore X.here C.hx rfl (hb C.hby d) rfl hv hl k) K
theorem g_astoreN {k : Fin 4} {x : Value} {l' : Array Slot} (C : Cx p s m meth c Z own nm bytes maxL ret) (X : St p l e R s m A below meth c Z T h cells slots) (d : Dc bytes pc (.astore_n k) 1 pc') (hv : x.isRef = true) (hl : storeLocals Ls k.val x = some l') (K : Goes p e below W T (mkF m pc' l' st)) : Goes p e below W T (mkF m pc Ls (x :: st)) := by
  obtain ⟨d, rfl⟩ := d
  exact Goes.via (fun _ k => XS.astoreN X.here C.hx rfl (hb C.hby d) rfl hv hl k) K
theorem g_iconst {i : Int} (v : Int32) (C : Cx p s m meth c Z own nm bytes maxL ret) (X : St p l e R s m A below meth c Z T h cells slots) (d : Dc bytes pc (.iconst i) 1 pc') (hv : Int32.ofInt i = v) (K : Goes p e below W T (mkF m pc' Ls (.int v :: st))) : Goes p e below W T (mkF m pc Ls st) := by
  obtain ⟨d, rfl⟩ := d
  exact Goes.via (fun _ k => XT.iconstV X.here C.hx rfl v (hb C.hby d) hv k) K
theorem g_bipush {i : Int} (v : Int32) (C : Cx p s m meth c Z own nm bytes maxL ret) (X : St p l e R s m A below meth c Z T h cells slots) (d : Dc bytes pc (.bipush i) 2 pc') (hv : (Int8.ofInt i).toInt32 = v) (K : Goes p e below W T (mkF m pc' Ls (.int v :: st))) : Goes p e below W T (mkF m pc Ls st) := by
  obtain ⟨d, rfl⟩ := d
  exact Goes.via (fun _ k => XT.bipushV X.here C.hx rfl v (hb C.hby d) hv k) K
theorem g_sipush {i : Int} (v : Int32) (C : Cx p s m meth c Z own nm bytes maxL ret) (X : St p l e R s m A below meth c Z T h cells slots) (d : Dc bytes pc (.sipush i) 3 pc') (hv : (Int16.ofInt i).toInt32 = v) (K : Goes p e below W T (mkF m pc' Ls (.int v :: st))) : Goes p e below W T (mkF m pc Ls st) := by
  obtain ⟨d, rfl⟩ := d
  exact Goes.via (fun _ k => XT.sipushV X.here C.hx rfl v (hb C.hby d) hv k) K
theorem g_lconst {k : Fin 2} (v : Int64) (C : Cx p s m meth c Z own nm bytes maxL ret) (X : St p l e R s m A below meth c Z T h cells slots) (d : Dc bytes pc (.lconst k) 1 pc') (hv : Int64.ofNat k = v) (K : Goes p e below W T (mkF m pc' Ls (.long v :: st))) : Goes p e below W T (mkF m pc Ls st) := by
  obtain ⟨d, rfl⟩ := d
  exact Goes.via (fun _ k => XT.lconstV X.here C.hx rfl v (hb C.hby d) hv k) K
theorem g_iinc {k : Nat} {i : Int} {x : Int32} {l' : Array Slot} (v : Int32) (C : Cx p s m meth c Z own nm bytes maxL ret) (X : St p l e R s m A below meth c Z T h cells slots) (d : Dc bytes pc (.iinc k i) 3 pc') (hv : Int32.ofInt i = v) (hl : Ls[k]? = some (.val (.int x))) (hl' : storeLocals Ls k (.int (x + v)) = some l') (K : Goes p e below W T (mkF m pc' l' st)) : Goes p e below W T (mkF m pc Ls st) := by
  obtain ⟨d, rfl⟩ := d
  exact Goes.via (fun _ k => XT.iincV X.here C.hx rfl v (hb C.hby d) hv hl hl' k) K
theorem g_aconst_null  (C : Cx p s m meth c Z own nm bytes maxL ret) (X : St p l e R s m A below meth c Z T h cells slots) (d : Dc bytes pc (.aconst_null) 1 pc')  (K : Goes p e below W T (mkF m pc' Ls (.null :: st))) : Goes p e below W T (mkF m pc Ls st) := by
  obtain ⟨d, rfl⟩ := d
  exact Goes.via (fun _ k => XS.aconstNull X.here C.hx rfl (hb C.hby d)  k) K
theorem g_iadd {x y : Int32} (C : Cx p s m meth c Z own nm bytes maxL ret) (X : St p l e R s m A below meth c Z T h cells slots) (d : Dc bytes pc (.iadd) 1 pc')  (K : Goes p e below W T (mkF m pc' Ls (.int (x + y) :: st))) : Goes p e below W T (mkF m pc Ls (.int y :: .int x :: st)) := by
  obtain ⟨d, rfl⟩ := d
  exact Goes.via (fun _ k => XS.iadd X.here C.hx rfl (hb C.hby d) rfl k) K
theorem g_ladd {x y : Int64} (C : Cx p s m meth c Z own nm bytes maxL ret) (X : St p l e R s m A below meth c Z T h cells slots) (d : Dc bytes pc (.ladd) 1 pc')  (K : Goes p e below W T (mkF m pc' Ls (.long (x + y) :: st))) : Goes p e below W T (mkF m pc Ls (.long y :: .long x :: st)) := by
  obtain ⟨d, rfl⟩ := d
  exact Goes.via (fun _ k => XT.ladd X.here C.hx rfl (hb C.hby d) rfl k) K
theorem g_isub {x y : Int32} (C : Cx p s m meth c Z own nm bytes maxL ret) (X : St p l e R s m A below meth c Z T h cells slots) (d : Dc bytes pc (.isub) 1 pc')  (K : Goes p e below W T (mkF m pc' Ls (.int (x - y) :: st))) : Goes p e below W T (mkF m pc Ls (.int y :: .int x :: st)) := by
  obtain ⟨d, rfl⟩ := d
  exact Goes.via (fun _ k => XS.isub X.here C.hx rfl (hb C.hby d) rfl k) K
theorem g_lsub {x y : Int64} (C : Cx p s m meth c Z own nm bytes maxL ret) (X : St p l e R s m A below meth c Z T h cells slots) (d : Dc bytes pc (.lsub) 1 pc')  (K : Goes p e below W T (mkF m pc' Ls (.long (x - y) :: st))) : Goes p e below W T (mkF m pc Ls (.long y :: .long x :: st)) := by
  obtain ⟨d, rfl⟩ := d
  exact Goes.via (fun _ k => XT.lsub X.here C.hx rfl (hb C.hby d) rfl k) K
theorem g_imul {x y : Int32} (C : Cx p s m meth c Z own nm bytes maxL ret) (X : St p l e R s m A below meth c Z T h cells slots) (d : Dc bytes pc (.imul) 1 pc')  (K : Goes p e below W T (mkF m pc' Ls (.int (x * y) :: st))) : Goes p e below W T (mkF m pc Ls (.int y :: .int x :: st)) := by
  obtain ⟨d, rfl⟩ := d
  exact Goes.via (fun _ k => XS.imul X.here C.hx rfl (hb C.hby d) rfl k) K
theorem g_lmul {x y : Int64} (C : Cx p s m meth c Z own nm bytes maxL ret) (X : St p l e R s m A below meth c Z T h cells slots) (d : Dc bytes pc (.lmul) 1 pc')  (K : Goes p e below W T (mkF m pc' Ls (.long (x * y) :: st))) : Goes p e below W T (mkF m pc Ls (.long y :: .long x :: st)) := by
  obtain ⟨d, rfl⟩ := d
  exact Goes.via (fun _ k => XT.lmul X.here C.hx rfl (hb C.hby d) rfl k) K
theorem g_iand {x y : Int32} (C : Cx p s m meth c Z own nm bytes maxL ret) (X : St p l e R s m A below meth c Z T h cells slots) (d : Dc bytes pc (.iand) 1 pc')  (K : Goes p e below W T (mkF m pc' Ls (.int (x &&& y) :: st))) : Goes p e below W T (mkF m pc Ls (.int y :: .int x :: st)) := by
  obtain ⟨d, rfl⟩ := d
  exact Goes.via (fun _ k => XS.iand X.here C.hx rfl (hb C.hby d) rfl k) K
theorem g_land {x y : Int64} (C : Cx p s m meth c Z own nm bytes maxL ret) (X : St p l e R s m A below meth c Z T h cells slots) (d : Dc bytes pc (.land) 1 pc')  (K : Goes p e below W T (mkF m pc' Ls (.long (x &&& y) :: st))) : Goes p e below W T (mkF m pc Ls (.long y :: .long x :: st)) := by
  obtain ⟨d, rfl⟩ := d
  exact Goes.via (fun _ k => XT.land X.here C.hx rfl (hb C.hby d) rfl k) K
theorem g_ior {x y : Int32} (C : Cx p s m meth c Z own nm bytes maxL ret) (X : St p l e R s m A below meth c Z T h cells slots) (d : Dc bytes pc (.ior) 1 pc')  (K : Goes p e below W T (mkF m pc' Ls (.int (x ||| y) :: st))) : Goes p e below W T (mkF m pc Ls (.int y :: .int x :: st)) := by
  obtain ⟨d, rfl⟩ := d
  exact Goes.via (fun _ k => XT.ior X.here C.hx rfl (hb C.hby d) rfl k) K
theorem g_lor {x y : Int64} (C : Cx p s m meth c Z own nm bytes maxL ret) (X : St p l e R s m A below meth c Z T h cells slots) (d : Dc bytes pc (.lor) 1 pc')  (K : Goes p e below W T (mkF m pc' Ls (.long (x ||| y) :: st))) : Goes p e below W T (mkF m pc Ls (.long y :: .long x :: st)) := by
  obtain ⟨d, rfl⟩ := d
  exact Goes.via (fun _ k => XT.lor X.here C.hx rfl (hb C.hby d) rfl k) K
theorem g_ixor {x y : Int32} (C : Cx p s m meth c Z own nm bytes maxL ret) (X : St p l e R s m A below meth c Z T h cells slots) (d : Dc bytes pc (.ixor) 1 pc')  (K : Goes p e below W T (mkF m pc' Ls (.int (x ^^^ y) :: st))) : Goes p e below W T (mkF m pc Ls (.int y :: .int x :: st)) := by
  obtain ⟨d, rfl⟩ := d
  exact Goes.via (fun _ k => XT.ixor X.here C.hx rfl (hb C.hby d) rfl k) K
theorem g_lxor {x y : Int64} (C : Cx p s m meth c Z own nm bytes maxL ret) (X : St p l e R s m A below meth c Z T h cells slots) (d : Dc bytes pc (.lxor) 1 pc')  (K : Goes p e below W T (mkF m pc' Ls (.long (x ^^^ y) :: st))) : Goes p e below W T (mkF m pc Ls (.long y :: .long x :: st)) := by
  obtain ⟨d, rfl⟩ := d
  exact Goes.via (fun _ k => XT.lxor X.here C.hx rfl (hb C.hby d) rfl k) K
theorem g_idiv {x y : Int32} (C : Cx p s m meth c Z own nm bytes maxL ret) (X : St p l e R s m A below meth c Z T h cells slots) (d : Dc bytes pc (.idiv) 1 pc') (hy : y ≠ 0) (K : Goes p e below W T (mkF m pc' Ls (.int (x / y) :: st))) : Goes p e below W T (mkF m pc Ls (.int y :: .int x :: st)) := by
  obtain ⟨d, rfl⟩ := d
  exact Goes.via (fun _ k => XS.idiv X.here C.hx rfl (hb C.hby d) rfl hy k) K
theorem g_ldiv {x y : Int64} (C : Cx p s m meth c Z own nm bytes maxL ret) (X : St p l e R s m A below meth c Z T h cells slots) (d : Dc bytes pc (.ldiv) 1 pc') (hy : y ≠ 0) (K : Goes p e below W T (mkF m pc' Ls (.long (x / y) :: st))) : Goes p e below W T (mkF m pc Ls (.long y :: .long x :: st)) := by
  obtain ⟨d, rfl⟩ := d
  exact Goes.via (fun _ k => XT.ldiv X.here C.hx rfl (hb C.hby d) rfl hy k) K
theorem g_ineg {x : Int32} (C : Cx p s m meth c Z own nm bytes maxL ret) (X : St p l e R s m A below meth c Z T h cells slots) (d : Dc bytes pc (.ineg) 1 pc')  (K : Goes p e below W T (mkF m pc' Ls (.int (-x) :: st))) : Goes p e below W T (mkF m pc Ls (.int x :: st)) := by
  obtain ⟨d, rfl⟩ := d
  exact Goes.via (fun _ k => XS.ineg X.here C.hx rfl (hb C.hby d) rfl k) K
theorem g_lneg {x : Int64} (C : Cx p s m meth c Z own nm bytes maxL ret) (X : St p l e R s m A below meth c Z T h cells slots) (d : Dc bytes pc (.lneg) 1 pc')  (K : Goes p e below W T (mkF m pc' Ls (.long (-x) :: st))) : Goes p e below W T (mkF m pc Ls (.long x :: st)) := by
  obtain ⟨d, rfl⟩ := d
  exact Goes.via (fun _ k => XT.lneg X.here C.hx rfl (hb C.hby d) rfl k) K
theorem g_ishl {x y : Int32} (C : Cx p s m meth c Z own nm bytes maxL ret) (X : St p l e R s m A below meth c Z T h cells slots) (d : Dc bytes pc (.ishl) 1 pc')  (K : Goes p e below W T (mkF m pc' Ls (.int (x <<< (y &&& 31)) :: st))) : Goes p e below W T (mkF m pc Ls (.int y :: .int x :: st)) := by
  obtain ⟨d, rfl⟩ := d
  exact Goes.via (fun _ k => XT.ishl X.here C.hx rfl (hb C.hby d) rfl k) K
theorem g_ishr {x y : Int32} (C : Cx p s m meth c Z own nm bytes maxL ret) (X : St p l e R s m A below meth c Z T h cells slots) (d : Dc bytes pc (.ishr) 1 pc')  (K : Goes p e below W T (mkF m pc' Ls (.int (x >>> (y &&& 31)) :: st))) : Goes p e below W T (mkF m pc Ls (.int y :: .int x :: st)) := by
  obtain ⟨d, rfl⟩ := d
  exact Goes.via (fun _ k => XT.ishr X.here C.hx rfl (hb C.hby d) rfl k) K
theorem g_iushr {x y : Int32} (C : Cx p s m meth c Z own nm bytes maxL ret) (X : St p l e R s m A below meth c Z T h cells slots) (d : Dc bytes pc (.iushr) 1 pc')  (K : Goes p e below W T (mkF m pc' Ls (.int ((x.toUInt32 >>> (y &&& 31).toUInt32).toInt32) :: st))) : Goes p e below W T (mkF m pc Ls (.int y :: .int x :: st)) := by
  obtain ⟨d, rfl⟩ := d
  exact Goes.via (fun _ k => XT.iushr X.here C.hx rfl (hb C.hby d) rfl k) K
theorem g_lshl {x : Int64} {y : Int32} (C : Cx p s m meth c Z own nm bytes maxL ret) (X : St p l e R s m A below meth c Z T h cells slots) (d : Dc bytes pc (.lshl) 1 pc')  (K : Goes p e below W T (mkF m pc' Ls (.long (x <<< (y &&& 0x3f).toInt64) :: st))) : Goes p e below W T (mkF m pc Ls (.int y :: .long x :: st)) := by
  obtain ⟨d, rfl⟩ := d
  exact Goes.via (fun _ k => XS.lshl X.here C.hx rfl (hb C.hby d) rfl k) K
theorem g_lshr {x : Int64} {y : Int32} (C : Cx p s m meth c Z own nm bytes maxL ret) (X : St p l e R s m A below meth c Z T h cells slots) (d : Dc bytes pc (.lshr) 1 pc')  (K : Goes p e below W T (mkF m pc' Ls (.long (x >>> (y &&& 0x3f).toInt64) :: st))) : Goes p e below W T (mkF m pc Ls (.int y :: .long x :: st)) := by
  obtain ⟨d, rfl⟩ := d
  exact Goes.via (fun _ k => XS.lshr X.here C.hx rfl (hb C.hby d) rfl k) K
theorem g_lushr {x : Int64} {y : Int32} (C : Cx p s m meth c Z own nm bytes maxL ret) (X : St p l e R s m A below meth c Z T h cells slots) (d : Dc bytes pc (.lushr) 1 pc')  (K : Goes p e below W T (mkF m pc' Ls (.long ((x.toUInt64 >>> (y &&& 0x3f).toInt64.toUInt64).toInt64) :: st))) : Goes p e below W T (mkF m pc Ls (.int y :: .long x :: st)) := by
  obtain ⟨d, rfl⟩ := d
  exact Goes.via (fun _ k => XS.lushr X.here C.hx rfl (hb C.hby d) rfl k) K
theorem g_i2l {x : Int32} (C : Cx p s m meth c Z own nm bytes maxL ret) (X : St p l e R s m A below meth c Z T h cells slots) (d : Dc bytes pc (.i2l) 1 pc')  (K : Goes p e below W T (mkF m pc' Ls (.long x.toInt64 :: st))) : Goes p e below W T (mkF m pc Ls (.int x :: st)) := by
  obtain ⟨d, rfl⟩ := d
  exact Goes.via (fun _ k => XT.i2l X.here C.hx rfl (hb C.hby d) rfl k) K
theorem g_l2i {x : Int64} (C : Cx p s m meth c Z own nm bytes maxL ret) (X : St p l e R s m A below meth c Z T h cells slots) (d : Dc bytes pc (.l2i) 1 pc')  (K : Goes p e below W T (mkF m pc' Ls (.int x.toInt32 :: st))) : Goes p e below W T (mkF m pc Ls (.long x :: st)) := by
  obtain ⟨d, rfl⟩ := d
  exact Goes.via (fun _ k => XT.l2i X.here C.hx rfl (hb C.hby d) rfl k) K
theorem g_i2b {x : Int32} (C : Cx p s m meth c Z own nm bytes maxL ret) (X : St p l e R s m A below meth c Z T h cells slots) (d : Dc bytes pc (.i2b) 1 pc')  (K : Goes p e below W T (mkF m pc' Ls (.int x.toInt8.toInt32 :: st))) : Goes p e below W T (mkF m pc Ls (.int x :: st)) := by
  obtain ⟨d, rfl⟩ := d
  exact Goes.via (fun _ k => XT.i2b X.here C.hx rfl (hb C.hby d) rfl k) K
theorem g_i2s {x : Int32} (C : Cx p s m meth c Z own nm bytes maxL ret) (X : St p l e R s m A below meth c Z T h cells slots) (d : Dc bytes pc (.i2s) 1 pc')  (K : Goes p e below W T (mkF m pc' Ls (.int x.toInt16.toInt32 :: st))) : Goes p e below W T (mkF m pc Ls (.int x :: st)) := by
  obtain ⟨d, rfl⟩ := d
  exact Goes.via (fun _ k => XT.i2s X.here C.hx rfl (hb C.hby d) rfl k) K
theorem g_i2c {x : Int32} (C : Cx p s m meth c Z own nm bytes maxL ret) (X : St p l e R s m A below meth c Z T h cells slots) (d : Dc bytes pc (.i2c) 1 pc')  (K : Goes p e below W T (mkF m pc' Ls (.int x.toUInt32.toUInt16.toUInt32.toInt32 :: st))) : Goes p e below W T (mkF m pc Ls (.int x :: st)) := by
  obtain ⟨d, rfl⟩ := d
  exact Goes.via (fun _ k => XT.i2c X.here C.hx rfl (hb C.hby d) rfl k) K
theorem g_lcmp {x y : Int64} (C : Cx p s m meth c Z own nm bytes maxL ret) (X : St p l e R s m A below meth c Z T h cells slots) (d : Dc bytes pc (.lcmp) 1 pc')  (K : Goes p e below W T (mkF m pc' Ls (.int (lcmpW x y) :: st))) : Goes p e below W T (mkF m pc Ls (.long y :: .long x :: st)) := by
  obtain ⟨d, rfl⟩ := d
  exact Goes.via (fun _ k => XT.lcmp X.here C.hx rfl (hb C.hby d) rfl k) K
theorem g_pop {x : Value} (C : Cx p s m meth c Z own nm bytes maxL ret) (X : St p l e R s m A below meth c Z T h cells slots) (d : Dc bytes pc (.pop) 1 pc') (hc : x.category = 1) (K : Goes p e below W T (mkF m pc' Ls st)) : Goes p e below W T (mkF m pc Ls (x :: st)) := by
  obtain ⟨d, rfl⟩ := d
  exact Goes.via (fun _ k => XT.pop X.here C.hx rfl (hb C.hby d) rfl hc k) K
theorem g_dup {x : Value} (C : Cx p s m meth c Z own nm bytes maxL ret) (X : St p l e R s m A below meth c Z T h cells slots) (d : Dc bytes pc (.dup) 1 pc') (hc : x.category = 1) (K : Goes p e below W T (mkF m pc' Ls (x :: x :: st))) : Goes p e below W T (mkF m pc Ls (x :: st)) := by
  obtain ⟨d, rfl⟩ := d
  exact Goes.via (fun _ k => XS.dup X.here C.hx rfl (hb C.hby d) rfl hc k) K
theorem g_dup_x1 {x y : Value} (C : Cx p s m meth c Z own nm bytes maxL ret) (X : St p l e R s m A below meth c Z T h cells slots) (d : Dc bytes pc (.dup_x1) 1 pc') (hc : x.category = 1) (hc' : y.category = 1) (K : Goes p e below W T (mkF m pc' Ls (x :: y :: x :: st))) : Goes p e below W T (mkF m pc Ls (x :: y :: st)) := by
  obtain ⟨d, rfl⟩ := d
  exact Goes.via (fun _ k => XT.dupX1 X.here C.hx rfl (hb C.hby d) rfl hc hc' k) K
theorem g_dup2 {x y : Value} (C : Cx p s m meth c Z own nm bytes maxL ret) (X : St p l e R s m A below meth c Z T h cells slots) (d : Dc bytes pc (.dup2) 1 pc') (hc : x.category = 1) (hc' : y.category = 1) (K : Goes p e below W T (mkF m pc' Ls (x :: y :: x :: y :: st))) : Goes p e below W T (mkF m pc Ls (x :: y :: st)) := by
  obtain ⟨d, rfl⟩ := d
  exact Goes.via (fun _ k => XT.dup2 X.here C.hx rfl (hb C.hby d) rfl hc hc' k) K
theorem g_dup2L {x : Int64} (C : Cx p s m meth c Z own nm bytes maxL ret) (X : St p l e R s m A below meth c Z T h cells slots) (d : Dc bytes pc (.dup2) 1 pc')  (K : Goes p e below W T (mkF m pc' Ls (.long x :: .long x :: st))) : Goes p e below W T (mkF m pc Ls (.long x :: st)) := by
  obtain ⟨d, rfl⟩ := d
  exact Goes.via (fun _ k => XT.dup2L X.here C.hx rfl (hb C.hby d) rfl k) K
theorem g_irem {x y : Int32} (C : Cx p s m meth c Z own nm bytes maxL ret) (X : St p l e R s m A below meth c Z T h cells slots) (d : Dc bytes pc .irem 1 pc') (hy : y ≠ 0) (K : Goes p e below W T (mkF m pc' Ls (.int (x % y) :: st))) : Goes p e below W T (mkF m pc Ls (.int y :: .int x :: st)) := by
  obtain ⟨d, rfl⟩ := d
  obtain ⟨_, Y, _⟩ := X
  exact Goes.via (fun _ k => iremM Y C.hx rfl (hb C.hby d) rfl hy k) K
theorem g_lrem {x y : Int64} (C : Cx p s m meth c Z own nm bytes maxL ret) (X : St p l e R s m A below meth c Z T h cells slots) (d : Dc bytes pc .lrem 1 pc') (hy : y ≠ 0) (K : Goes p e below W T (mkF m pc' Ls (.long (x % y) :: st))) : Goes p e below W T (mkF m pc Ls (.long y :: .long x :: st)) := by
  obtain ⟨d, rfl⟩ := d
  rw [← lrem_mod] at K
  exact Goes.via (fun _ k => XT.lrem X.here C.hx rfl (hb C.hby d) rfl hy k) K
theorem g_ldcI {index : Nat} {v : Int32} (C : Cx p s m meth c Z own nm bytes maxL ret) (X : St p l e R s m A below meth c Z T h cells slots) (w : (Jvm.Cond.constant own index v).before a0 Z = true) (d : Dc bytes pc (.ldc index) 2 pc') (K : Goes p e below W T (mkF m pc' Ls (.int v :: st))) : Goes p e below W T (mkF m pc Ls st) := by
  obtain ⟨d, rfl⟩ := d
  obtain ⟨_, Y, _⟩ := X
  exact Goes.via (fun t k => Y.ldcInt C.hx C.hown (mvT C.hZ w) (g := mkF m pc Ls st) rfl (hb C.hby d) t k) K
theorem g_ldcwI {index : Nat} {v : Int32} (C : Cx p s m meth c Z own nm bytes maxL ret) (X : St p l e R s m A below meth c Z T h cells slots) (w : (Jvm.Cond.constant own index v).before a0 Z = true) (d : Dc bytes pc (.ldc_w index) 3 pc') (K : Goes p e below W T (mkF m pc' Ls (.int v :: st))) : Goes p e below W T (mkF m pc Ls st) := by
  obtain ⟨d, rfl⟩ := d
  obtain ⟨_, Y, _⟩ := X
  exact Goes.via (fun t k => Y.ldcWI C.hx C.hown (mvT C.hZ w) (g := mkF m pc Ls st) rfl (hb C.hby d) k) K
theorem g_ldcJ {index : Nat} {v : Int64} (C : Cx p s m meth c Z own nm bytes maxL ret) (X : St p l e R s m A below meth c Z T h cells slots) (w : (Jvm.Cond.constantLong own index v).before a0 Z = true) (d : Dc bytes pc (.ldc2_w index) 3 pc') (K : Goes p e below W T (mkF m pc' Ls (.long v :: st))) : Goes p e below W T (mkF m pc Ls st) := by
  obtain ⟨d, rfl⟩ := d
  obtain ⟨_, Y, _⟩ := X
  exact Goes.via (fun t k => Y.ldc2Long C.hx C.hown (mvT C.hZ w) (g := mkF m pc Ls st) rfl (hb C.hby d) t k) K
theorem g_getstatic {R0 O n dd host : String} {index : Nat} {v : Value} (C : Cx p s m meth c Z own nm bytes maxL ret) (X : St p l e R s m A below meth c Z T h cells slots) (w : (Jvm.Cond.fieldLink own index R0 n dd).before a0 Z = true ∨ (Jvm.Cond.fieldLinkNest own index R0 n dd host).before a0 Z = true) (via : Via Z R0 O n dd) (F : Sta Z Z.heap O n dd v) (d : Dc bytes pc (.getstatic index) 3 pc')
    (K : ∀ T', St p l e R s m A below meth c Z T' h cells slots → Goes p e below W T' (mkF m pc' Ls (v :: st))) : Goes p e below W T (mkF m pc Ls st) := by
  obtain ⟨d, rfl⟩ := d
  obtain ⟨L, Y, eT, N, E⟩ := X
  obtain ⟨T', Y', e', q⟩ := getS2 Y C.hx C.hZ C.hown w via eT (F.ext E) (g := mkF m pc Ls st) rfl (hb C.hby d)
  exact Goes.via q (K T' ⟨L, Y', e', N, E⟩)
theorem g_getfield {R0 O n dd host : String} {index : Nat} {a : Addr} {v : Value} (C : Cx p s m meth c Z own nm bytes maxL ret) (X : St p l e R s m A below meth c Z T h cells slots) (w : (Jvm.Cond.fieldLink own index R0 n dd).before a0 Z = true ∨ (Jvm.Cond.fieldLinkNest own index R0 n dd host).before a0 Z = true) (via : Via Z R0 O n dd) (F : Fld Z h a O n dd v) (d : Dc bytes pc (.getfield index) 3 pc')
    (K : ∀ T', St p l e R s m A below meth c Z T' h cells slots → Goes p e below W T' (mkF m pc' Ls (v :: st))) : Goes p e below W T (mkF m pc Ls (.ref a :: st)) := by
  obtain ⟨d, rfl⟩ := d
  obtain ⟨L, Y, eT, N, E⟩ := X
  obtain ⟨T', Y', e', q⟩ := getF Y C.hx C.hZ C.hown w via eT F (g := mkF m pc Ls (.ref a :: st)) rfl rfl (hb C.hby d)
  exact Goes.via q (K T' ⟨L, Y', e', N, E⟩)
theorem ext_wr {h h' : Heap} {a : Addr} {sl : Nat} {v : Value} (E : Ext Z.heap h) (w : Wr h h' a sl v) (q : Z.heap.size ≤ a) : Ext Z.heap h' := (Old.wr (Z := Z) (n0 := Z.heap.size) (h := h) ⟨rfl, E⟩ w q).2
theorem ext_keep {h h' : Heap} {ws : List Addr} (E : Ext Z.heap h) (w : Keep h h' ws) (q : ∀ x ∈ ws, Z.heap.size ≤ x) : Ext Z.heap h' := (Old.keep (Z := Z) (n0 := Z.heap.size) (h := h) ⟨rfl, E⟩ w q).2
theorem ext_trans {h h' : Heap} (E : Ext Z.heap h) (E' : Ext h h') : Ext Z.heap h' := ⟨Nat.le_trans E.1 E'.1, fun x c q => E'.2 x c (E.2 x c q)⟩
theorem g_putfield {R0 O n dd host K0 : String} {index kk : Nat} {ty : FieldType} {a : Addr} {v old : Value} (C : Cx p s m meth c Z own nm bytes maxL ret) (X : St p l e R s m A below meth c Z T h cells slots) (w : (Jvm.Cond.fieldLink own index R0 n dd).before a0 Z = true ∨ (Jvm.Cond.fieldLinkNest own index R0 n dd host).before a0 Z = true) (via : Via Z R0 O n dd)
    (F : Fld Z h a O n dd old) (Ex : Exa Z h a K0) (L : (Jvm.Cond.lays K0 O n dd).before a0 Z = true ∨ ((Jvm.Cond.laysFinal K0 O n dd).before a0 Z = true ∧ own = O ∧ nm = "<init>")) (wi : (Jvm.Cond.instantiable K0 kk).before a0 Z = true) (hty : parseFieldDescriptor dd = some ty) (hn : narrow ty v = v) (hf : fits ty v = true) (hnew : Z.heap.size ≤ a) (d : Dc bytes pc (.putfield index) 3 pc')
    (K : ∀ T' h', St p l e R s m A below meth c Z T' h' cells slots → Wr h h' a (RoadKit.slotOf Z O n dd) v → Goes p e below W T' (mkF m pc' Ls st)) : Goes p e below W T (mkF m pc Ls (v :: .ref a :: st)) := by
  obtain ⟨d, rfl⟩ := d
  obtain ⟨L0, Y, eT, N, E⟩ := X
  obtain ⟨T', h', Y', e', W', q⟩ := putF Y C.hx C.hZ C.hown w via eT F Ex (L.imp id fun z => ⟨z.1, z.2.1, C.hnm.trans z.2.2⟩) wi hty hn hf (g := mkF m pc Ls (v :: .ref a :: st)) rfl rfl (hb C.hby d)
  exact Goes.via q (K T' h' ⟨_, Y', e', Fr.snoc Y' N hnew, ext_wr E W' hnew⟩ W')
theorem g_new {K0 : String} {index n : Nat} (C : Cx p s m meth c Z own nm bytes maxL ret) (X : St p l e R s m A below meth c Z T h cells slots) (w : (Jvm.Cond.classLink own index K0).before a0 Z = true) (wi : (Jvm.Cond.instantiable K0 n).before a0 Z = true) (wz : (Jvm.Cond.initialized K0).before a0 Z = true) (d : Dc bytes pc (.new index) 3 pc') (hc : cells + 1 ≤ R.cells) (hl : slots + n ≤ R.slots)
    (K : ∀ T' h' b, b = h.size → Z.heap.size ≤ b → St p l e R s m A below meth c Z T' h' (cells + 1) (slots + n) → Ext h h' → Exa Z h' b K0 → (∀ {O f dd : String} {ty : FieldType}, Laid Z a0 K0 O f dd → parseFieldDescriptor dd = some ty → Fld Z h' b O f dd (defaultValue ty)) → (∃ cell : Cell, h'[b]? = some cell ∧ cell.vm = .none ∧ cell.monitor = {}) → Goes p e below W T' (mkF m pc' Ls (.ref b :: st))) : Goes p e below W T (mkF m pc Ls st) := by
  obtain ⟨d, rfl⟩ := d
  obtain ⟨L0, Y, eT, N, E⟩ := X
  obtain ⟨T', h', Y', e', E', A', D', M', q⟩ := newO Y C.hx C.hZ C.hown w wi wz eT (g := mkF m pc Ls st) rfl (hb C.hby d) hc hl
  exact Goes.via q (K T' h' _ rfl E.1 ⟨_, Y', e', N, ext_trans E E'⟩ E' A' D' M')
theorem g_newarray {aty : ArrayType} {n : Int32} (C : Cx p s m meth c Z own nm bytes maxL ret) (X : St p l e R s m A below meth c Z T h cells slots) (w : (Jvm.Cond.arrayClass (newarray.typeOf aty)).before a0 Z = true) (d : Dc bytes pc (.newarray aty) 2 pc') (hn : ¬ n < 0) (len cap : Nat) (hcap : n.toNatClampNeg ≤ cap) (hb' : cap * 8 ≤ 536870912) (hc : cells + 1 ≤ R.cells) (hl : slots + cap ≤ R.slots)
    (K : ∀ T' h' b k, b = h.size → Z.heap.size ≤ b → St p l e R s m A below meth c Z T' h' (cells + 1) (slots + cap) → Ext h h' → Arv Z h' b k (newarray.typeOf aty) n (List.replicate len (defaultValue (newarray.typeOf aty))) (defaultValue (newarray.typeOf aty)) → Goes p e below W T' (mkF m pc' Ls (.ref b :: st))) : Goes p e below W T (mkF m pc Ls (.int n :: st)) := by
  obtain ⟨d, rfl⟩ := d
  obtain ⟨L0, Y, eT, N, E⟩ := X
  obtain ⟨T', h', k, Y', e', E', A', q⟩ := newP Y C.hx C.hZ w eT (g := mkF m pc Ls (.int n :: st)) rfl (hb C.hby d) rfl hn hcap hb' hc hl
  exact Goes.via q (K T' h' _ k rfl E.1 ⟨_, Y', e', N, ext_trans E E'⟩ E' ((Arv.new A' hn).pad (pad_rep [] _ len)))
theorem g_checkcast {K0 : String} {index : Nat} {a : Addr} (C : Cx p s m meth c Z own nm bytes maxL ret) (X : St p l e R s m A below meth c Z T h cells slots) (w : (Jvm.Cond.classLink own index K0).before a0 Z = true) (F : Ins Z h a K0 true) (d : Dc bytes pc (.checkcast index) 3 pc')
    (K : ∀ T', St p l e R s m A below meth c Z T' h cells slots → Goes p e below W T' (mkF m pc' Ls (.ref a :: st))) : Goes p e below W T (mkF m pc Ls (.ref a :: st)) := by
  obtain ⟨d, rfl⟩ := d
  obtain ⟨L, Y, eT, N, E⟩ := X
  obtain ⟨T', Y', e', q⟩ := castY Y C.hx C.hZ C.hown w eT F (g := mkF m pc Ls (.ref a :: st)) rfl rfl (hb C.hby d)
  exact Goes.via q (K T' ⟨L, Y', e', N, E⟩)
theorem g_checkcastN {index : Nat} (C : Cx p s m meth c Z own nm bytes maxL ret) (X : St p l e R s m A below meth c Z T h cells slots) (d : Dc bytes pc (.checkcast index) 3 pc') (K : Goes p e below W T (mkF m pc' Ls (.null :: st))) : Goes p e below W T (mkF m pc Ls (.null :: st)) := by
  obtain ⟨d, rfl⟩ := d
  obtain ⟨L, Y, eT, N, E⟩ := X
  exact Goes.via (Y.checkcastNull C.hx (g := mkF m pc Ls (.null :: st)) rfl rfl (hb C.hby d)) K
theorem g_instanceY {K0 : String} {index : Nat} {a : Addr} (C : Cx p s m meth c Z own nm bytes maxL ret) (X : St p l e R s m A below meth c Z T h cells slots) (w : (Jvm.Cond.classLink own index K0).before a0 Z = true) (F : Ins Z h a K0 true) (d : Dc bytes pc (.instanceof index) 3 pc')
    (K : ∀ T', St p l e R s m A below meth c Z T' h cells slots → Goes p e below W T' (mkF m pc' Ls (.int 1 :: st))) : Goes p e below W T (mkF m pc Ls (.ref a :: st)) := by
  obtain ⟨d, rfl⟩ := d
  obtain ⟨L, Y, eT, N, E⟩ := X
  obtain ⟨T', Y', e', q⟩ := instY Y C.hx C.hZ C.hown w eT F (g := mkF m pc Ls (.ref a :: st)) rfl rfl (hb C.hby d)
  exact Goes.via q (K T' ⟨L, Y', e', N, E⟩)
theorem g_instanceN {index : Nat} (C : Cx p s m meth c Z own nm bytes maxL ret) (X : St p l e R s m A below meth c Z T h cells slots) (d : Dc bytes pc (.instanceof index) 3 pc') (K : Goes p e below W T (mkF m pc' Ls (.int 0 :: st))) : Goes p e below W T (mkF m pc Ls (.null :: st)) := by
  obtain ⟨d, rfl⟩ := d
  obtain ⟨L, Y, eT, N, E⟩ := X
  exact Goes.via (Y.instanceofNull C.hx (g := mkF m pc Ls (.null :: st)) rfl rfl (hb C.hby d)) K
theorem keep_ext {h h' : Heap} (K : Keep h h' []) : Ext h h' := ⟨K.1, fun x c q => K.2.1 x c q nin0⟩
theorem ext_keep0 {h h' : Heap} (E : Ext h h') (ws : List Addr) : Keep h h' ws := (Keep.refl h ws).ext E
/-- a place of an array -/
theorem in_of {n j : Int32} {c : Cell} (S : c.slots.size = n.toNatClampNeg) (hj : ¬ j < 0) (hj' : j < n) : ¬ (j < 0 ∨ c.slots.size ≤ j.toNatClampNeg) := inb_of S ⟨hj, hj'⟩
theorem g_arraylength {a : Addr} {k : ClassId} {ty : FieldType} {n : Int32} {vs : List Value} {dv : Value} (C : Cx p s m meth c Z own nm bytes maxL ret) (X : St p l e R s m A below meth c Z T h cells slots) (F : Arv Z h a k ty n vs dv) (d : Dc bytes pc .arraylength 1 pc') (K : Goes p e below W T (mkF m pc' Ls (.int n :: st))) : Goes p e below W T (mkF m pc Ls (.ref a :: st)) := by
  obtain ⟨d, rfl⟩ := d
  obtain ⟨L0, Y, eT, N, E⟩ := X
  obtain ⟨cl, Ar, -, hS, hN, -, -⟩ := F
  rw [← len_of hS hN] at K
  exact Goes.via (Y.arraylength C.hx (by rw [eT]; exact Ar.1) (State.isArrayOf_alike C.hZ.alike Ar.2.1) (g := mkF m pc Ls (.ref a :: st)) rfl rfl (hb C.hby d)) K
theorem g_iaload {a : Addr} {k : ClassId} {n j : Int32} {vs : List Value} {dv : Value} {v : Int32} (C : Cx p s m meth c Z own nm bytes maxL ret) (X : St p l e R s m A below meth c Z T h cells slots) (F : Arv Z h a k .int n vs dv) (d : Dc bytes pc .iaload 1 pc') (hj : ¬ j < 0) (hj' : j < n) (hv : vs.getD j.toNatClampNeg dv = .int v) (K : Goes p e below W T (mkF m pc' Ls (.int v :: st))) : Goes p e below W T (mkF m pc Ls (.int j :: .ref a :: st)) := by
  obtain ⟨d, rfl⟩ := d
  obtain ⟨L0, Y, eT, N, E⟩ := X
  obtain ⟨cl, Ar, -, hS, hN, hH, -⟩ := F
  have hin := in_of hS hj hj'
  exact Goes.via (Y.iaload C.hx (j := j) (v := .int v) (by rw [eT]; exact Ar.1) (State.isArrayOf_alike C.hZ.alike Ar.2.1) Ar.2.2 hin (hH.at hin hv) (g := mkF m pc Ls (.int j :: .ref a :: st)) rfl rfl (hb C.hby d)) K
theorem g_caload {a : Addr} {k : ClassId} {n j : Int32} {vs : List Value} {dv : Value} {v : Int32} (C : Cx p s m meth c Z own nm bytes maxL ret) (X : St p l e R s m A below meth c Z T h cells slots) (F : Arv Z h a k .char n vs dv) (d : Dc bytes pc .caload 1 pc') (hj : ¬ j < 0) (hj' : j < n) (hv : vs.getD j.toNatClampNeg dv = .int v) (K : Goes p e below W T (mkF m pc' Ls (.int v :: st))) : Goes p e below W T (mkF m pc Ls (.int j :: .ref a :: st)) := by
  obtain ⟨d, rfl⟩ := d
  obtain ⟨L0, Y, eT, N, E⟩ := X
  obtain ⟨cl, Ar, -, hS, hN, hH, -⟩ := F
  have hin := in_of hS hj hj'
  exact Goes.via (Y.caload C.hx (j := j) (v := .int v) (by rw [eT]; exact Ar.1) (State.isArrayOf_alike C.hZ.alike Ar.2.1) Ar.2.2 hin (hH.at hin hv) (g := mkF m pc Ls (.int j :: .ref a :: st)) rfl rfl (hb C.hby d)) K
theorem g_saload {a : Addr} {k : ClassId} {n j : Int32} {vs : List Value} {dv : Value} {v : Int32} (C : Cx p s m meth c Z own nm bytes maxL ret) (X : St p l e R s m A below meth c Z T h cells slots) (F : Arv Z h a k .short n vs dv) (d : Dc bytes pc .saload 1 pc') (hj : ¬ j < 0) (hj' : j < n) (hv : vs.getD j.toNatClampNeg dv = .int v) (K : Goes p e below W T (mkF m pc' Ls (.int v :: st))) : Goes p e below W T (mkF m pc Ls (.int j :: .ref a :: st)) := by
  obtain ⟨d, rfl⟩ := d
  obtain ⟨L0, Y, eT, N, E⟩ := X
  obtain ⟨cl, Ar, -, hS, hN, hH, -⟩ := F
  have hin := in_of hS hj hj'
  exact Goes.via (Y.saload C.hx (j := j) (v := .int v) (by rw [eT]; exact Ar.1) (State.isArrayOf_alike C.hZ.alike Ar.2.1) Ar.2.2 hin (hH.at hin hv) (g := mkF m pc Ls (.int j :: .ref a :: st)) rfl rfl (hb C.hby d)) K
theorem g_baload {a : Addr} {k : ClassId} {n j : Int32} {vs : List Value} {dv : Value} {v : Int32} (C : Cx p s m meth c Z own nm bytes maxL ret) (X : St p l e R s m A below meth c Z T h cells slots) (F : Arv Z h a k .byte n vs dv) (d : Dc bytes pc .baload 1 pc') (hj : ¬ j < 0) (hj' : j < n) (hv : vs.getD j.toNatClampNeg dv = .int v) (K : Goes p e below W T (mkF m pc' Ls (.int v :: st))) : Goes p e below W T (mkF m pc Ls (.int j :: .ref a :: st)) := by
  obtain ⟨d, rfl⟩ := d
  obtain ⟨L0, Y, eT, N, E⟩ := X
  obtain ⟨cl, Ar, -, hS, hN, hH, -⟩ := F
  have hin := in_of hS hj hj'
  exact Goes.via (Y.baloadBytes C.hx (j := j) (v := .int v) (by rw [eT]; exact Ar.1) (State.isArrayOf_alike C.hZ.alike Ar.2.1) Ar.2.2 hin (hH.at hin hv) (g := mkF m pc Ls (.int j :: .ref a :: st)) rfl rfl (hb C.hby d)) K
theorem g_laload {a : Addr} {k : ClassId} {n j : Int32} {vs : List Value} {dv : Value} {v : Int64} (C : Cx p s m meth c Z own nm bytes maxL ret) (X : St p l e R s m A below meth c Z T h cells slots) (F : Arv Z h a k .long n vs dv) (d : Dc bytes pc .laload 1 pc') (hj : ¬ j < 0) (hj' : j < n) (hv : vs.getD j.toNatClampNeg dv = .long v) (K : Goes p e below W T (mkF m pc' Ls (.long v :: st))) : Goes p e below W T (mkF m pc Ls (.int j :: .ref a :: st)) := by
  obtain ⟨d, rfl⟩ := d
  obtain ⟨L0, Y, eT, N, E⟩ := X
  obtain ⟨cl, Ar, -, hS, hN, hH, -⟩ := F
  have hin := in_of hS hj hj'
  exact Goes.via (Y.laload C.hx (j := j) (v := .long v) (by rw [eT]; exact Ar.1) (State.isArrayOf_alike C.hZ.alike Ar.2.1) Ar.2.2 hin (hH.at hin hv) (g := mkF m pc Ls (.int j :: .ref a :: st)) rfl rfl (hb C.hby d)) K
theorem g_aaload {a : Addr} {k : ClassId} {ty : FieldType} {n j : Int32} {vs : List Value} {dv v : Value} (C : Cx p s m meth c Z own nm bytes maxL ret) (X : St p l e R s m A below meth c Z T h cells slots) (F : Arv Z h a k ty n vs dv) (hty : ty.isReference = true) (d : Dc bytes pc .aaload 1 pc') (hj : ¬ j < 0) (hj' : j < n) (hv : vs.getD j.toNatClampNeg dv = v) (K : Goes p e below W T (mkF m pc' Ls (v :: st))) : Goes p e below W T (mkF m pc Ls (.int j :: .ref a :: st)) := by
  obtain ⟨d, rfl⟩ := d
  obtain ⟨L0, Y, eT, N, E⟩ := X
  obtain ⟨cl, Ar, -, hS, hN, hH, -⟩ := F
  have hin := in_of hS hj hj'
  exact Goes.via (Y.aaload C.hx (j := j) (v := v) (by rw [eT]; exact Ar.1) (State.isArrayOf_alike C.hZ.alike Ar.2.1) hty Ar.2.2 hin (hH.at hin hv) (g := mkF m pc Ls (.int j :: .ref a :: st)) rfl rfl (hb C.hby d)) K
theorem g_iastore {a : Addr} {k : ClassId} {n j : Int32} {vs : List Value} {dv : Value} {x : Int32} (C : Cx p s m meth c Z own nm bytes maxL ret) (X : St p l e R s m A below meth c Z T h cells slots) (F : Arv Z h a k .int n vs dv) (hnew : Z.heap.size ≤ a) (d : Dc bytes pc .iastore 1 pc') (hj : ¬ j < 0) (hj' : j < n) (hi : j.toNatClampNeg < vs.length) (y : Value) (hy : .int x = y)
    (K : ∀ T' h', St p l e R s m A below meth c Z T' h' cells slots → Wr h h' a j.toNatClampNeg y → Arv Z h' a k .int n (vs.set j.toNatClampNeg y) dv → Goes p e below W T' (mkF m pc' Ls st)) : Goes p e below W T (mkF m pc Ls (.int x :: .int j :: .ref a :: st)) := by
  subst hy
  obtain ⟨d, rfl⟩ := d
  obtain ⟨L0, Y, eT, N, E⟩ := X
  obtain ⟨cl, Ar, q1, hS, hN, hH, hG⟩ := F
  have hin := in_of hS hj hj'
  obtain ⟨T', h', Y', e', W', q⟩ := stI Y C.hx C.hZ eT Ar hin (g := mkF m pc Ls (.int x :: .int j :: .ref a :: st)) rfl rfl (hb C.hby d)
  exact Goes.via q (K T' h' ⟨_, Y', e', Fr.snoc Y' N hnew, ext_wr E W' hnew⟩ W' (Arv.set Ar q1 hS hN hH hG rfl W' _ rfl hi))
theorem g_castore {a : Addr} {k : ClassId} {n j : Int32} {vs : List Value} {dv : Value} {x : Int32} (C : Cx p s m meth c Z own nm bytes maxL ret) (X : St p l e R s m A below meth c Z T h cells slots) (F : Arv Z h a k .char n vs dv) (hnew : Z.heap.size ≤ a) (d : Dc bytes pc .castore 1 pc') (hj : ¬ j < 0) (hj' : j < n) (hi : j.toNatClampNeg < vs.length) (y : Value) (hy : .int (nar .char x) = y)
    (K : ∀ T' h', St p l e R s m A below meth c Z T' h' cells slots → Wr h h' a j.toNatClampNeg y → Arv Z h' a k .char n (vs.set j.toNatClampNeg y) dv → Goes p e below W T' (mkF m pc' Ls st)) : Goes p e below W T (mkF m pc Ls (.int x :: .int j :: .ref a :: st)) := by
  subst hy
  obtain ⟨d, rfl⟩ := d
  obtain ⟨L0, Y, eT, N, E⟩ := X
  obtain ⟨cl, Ar, q1, hS, hN, hH, hG⟩ := F
  have hin := in_of hS hj hj'
  obtain ⟨T', h', Y', e', W', q⟩ := stC Y C.hx C.hZ eT Ar hin (g := mkF m pc Ls (.int x :: .int j :: .ref a :: st)) rfl rfl (hb C.hby d)
  exact Goes.via q (K T' h' ⟨_, Y', e', Fr.snoc Y' N hnew, ext_wr E W' hnew⟩ W' (Arv.set Ar q1 hS hN hH hG (fits_nar_char _) W' _ rfl hi))
theorem g_sastore {a : Addr} {k : ClassId} {n j : Int32} {vs : List Value} {dv : Value} {x : Int32} (C : Cx p s m meth c Z own nm bytes maxL ret) (X : St p l e R s m A below meth c Z T h cells slots) (F : Arv Z h a k .short n vs dv) (hnew : Z.heap.size ≤ a) (d : Dc bytes pc .sastore 1 pc') (hj : ¬ j < 0) (hj' : j < n) (hi : j.toNatClampNeg < vs.length) (y : Value) (hy : .int (nar .short x) = y)
    (K : ∀ T' h', St p l e R s m A below meth c Z T' h' cells slots → Wr h h' a j.toNatClampNeg y → Arv Z h' a k .short n (vs.set j.toNatClampNeg y) dv → Goes p e below W T' (mkF m pc' Ls st)) : Goes p e below W T (mkF m pc Ls (.int x :: .int j :: .ref a :: st)) := by
  subst hy
  obtain ⟨d, rfl⟩ := d
  obtain ⟨L0, Y, eT, N, E⟩ := X
  obtain ⟨cl, Ar, q1, hS, hN, hH, hG⟩ := F
  have hin := in_of hS hj hj'
  obtain ⟨T', h', Y', e', W', q⟩ := stS Y C.hx C.hZ eT Ar hin (g := mkF m pc Ls (.int x :: .int j :: .ref a :: st)) rfl rfl (hb C.hby d)
  exact Goes.via q (K T' h' ⟨_, Y', e', Fr.snoc Y' N hnew, ext_wr E W' hnew⟩ W' (Arv.set Ar q1 hS hN hH hG (fits_nar_short _) W' _ rfl hi))
theorem g_bastore {a : Addr} {k : ClassId} {n j : Int32} {vs : List Value} {dv : Value} {x : Int32} (C : Cx p s m meth c Z own nm bytes maxL ret) (X : St p l e R s m A below meth c Z T h cells slots) (F : Arv Z h a k .byte n vs dv) (hnew : Z.heap.size ≤ a) (d : Dc bytes pc .bastore 1 pc') (hj : ¬ j < 0) (hj' : j < n) (hi : j.toNatClampNeg < vs.length) (y : Value) (hy : .int (nar .byte x) = y)
    (K : ∀ T' h', St p l e R s m A below meth c Z T' h' cells slots → Wr h h' a j.toNatClampNeg y → Arv Z h' a k .byte n (vs.set j.toNatClampNeg y) dv → Goes p e below W T' (mkF m pc' Ls st)) : Goes p e below W T (mkF m pc Ls (.int x :: .int j :: .ref a :: st)) := by
  subst hy
  obtain ⟨d, rfl⟩ := d
  obtain ⟨L0, Y, eT, N, E⟩ := X
  obtain ⟨cl, Ar, q1, hS, hN, hH, hG⟩ := F
  have hin := in_of hS hj hj'
  obtain ⟨T', h', Y', e', W', q⟩ := stB Y C.hx C.hZ eT Ar hin (g := mkF m pc Ls (.int x :: .int j :: .ref a :: st)) rfl rfl (hb C.hby d)
  exact Goes.via q (K T' h' ⟨_, Y', e', Fr.snoc Y' N hnew, ext_wr E W' hnew⟩ W' (Arv.set Ar q1 hS hN hH hG (fits_nar_byte _) W' _ rfl hi))
theorem g_lastore {a : Addr} {k : ClassId} {n j : Int32} {vs : List Value} {dv : Value} {x : Int64} (C : Cx p s m meth c Z own nm bytes maxL ret) (X : St p l e R s m A below meth c Z T h cells slots) (F : Arv Z h a k .long n vs dv) (hnew : Z.heap.size ≤ a) (d : Dc bytes pc .lastore 1 pc') (hj : ¬ j < 0) (hj' : j < n) (hi : j.toNatClampNeg < vs.length) (y : Value) (hy : .long x = y)
    (K : ∀ T' h', St p l e R s m A below meth c Z T' h' cells slots → Wr h h' a j.toNatClampNeg y → Arv Z h' a k .long n (vs.set j.toNatClampNeg y) dv → Goes p e below W T' (mkF m pc' Ls st)) : Goes p e below W T (mkF m pc Ls (.long x :: .int j :: .ref a :: st)) := by
  subst hy
  obtain ⟨d, rfl⟩ := d
  obtain ⟨L0, Y, eT, N, E⟩ := X
  obtain ⟨cl, Ar, q1, hS, hN, hH, hG⟩ := F
  have hin := in_of hS hj hj'
  obtain ⟨T', h', Y', e', W', q⟩ := stJ Y C.hx C.hZ eT Ar hin (g := mkF m pc Ls (.long x :: .int j :: .ref a :: st)) rfl rfl (hb C.hby d)
  exact Goes.via q (K T' h' ⟨_, Y', e', Fr.snoc Y' N hnew, ext_wr E W' hnew⟩ W' (Arv.set Ar q1 hS hN hH hG rfl W' _ rfl hi))
theorem st_back {T' : State} {h' : Heap} {k n : Nat} {B : Pt} {locs L : List Loc} (Y' : Stand p l e R s m A below meth c B.U B.locs B.cells B.slots) (hB : B.locs = locs ++ L ∧ B.cells = cells + k ∧ B.slots = slots + n) (N : Fr Z.heap.size locs) (N' : Fr Z.heap.size L) (E : Ext Z.heap B.U.heap) : St p l e R s m A below meth c Z B.U B.U.heap (cells + k) (slots + n) := by
  obtain ⟨b1, b2, b3⟩ := hB
  rw [b1, b2, b3] at Y'
  exact ⟨_, Y', rfl, N.app N', E⟩
theorem g_arraycopy {index : Nat} {a b : Addr} {k k' : ClassId} {ty : FieldType} {z z' sp dp nn : Int32} {vs vd : List Value} {dv dd : Value} (C : Cx p s m meth c Z own nm bytes maxL ret) (X : St p l e R s m A below meth c Z T h cells slots)
    (w1 : (Jvm.Cond.methodLink own index Jvm.Stand.acN).before a0 Z = true) (w2 : (Jvm.Cond.native Jvm.Stand.acN).before a0 Z = true) (w3 : (Jvm.Cond.static Jvm.Stand.acN).before a0 Z = true) (w4 : (Jvm.Cond.initialized "java/lang/System").before a0 Z = true)
    (F : Arv Z h a k ty z vs dv) (G : Arv Z h b k' ty z' vd dd) (hty : refKind ty = false) (h1 : ¬ sp < 0) (h2 : ¬ dp < 0) (h3 : ¬ nn < 0) (h4 : sp.toNatClampNeg + nn.toNatClampNeg ≤ z.toNatClampNeg) (h5 : dp.toNatClampNeg + nn.toNatClampNeg ≤ z'.toNatClampNeg)
    (us : List Value) (hus : us = (List.range nn.toNatClampNeg).map fun i => vs.getD (sp.toNatClampNeg + i) dv) (hl : dp.toNatClampNeg + nn.toNatClampNeg ≤ vd.length) (hnew : Z.heap.size ≤ b) (hsz : Ls.size = maxL) (d : Dc bytes pc (.invokestatic index) 3 pc') (hf : 1 ≤ R.frames) (W' : Nat) (hW : (st.map fun v => v.category).sum ≤ W') (hlo : W' + (nativeFrameWords "java/lang/System" "arraycopy" 5 + 11) ≤ R.locals)
    (K : ∀ T' h', St p l e R s m A below meth c Z T' h' cells slots → Keep h h' [b] → Arv Z h' b k' ty z' (vd.take dp.toNatClampNeg ++ us ++ vd.drop (dp.toNatClampNeg + nn.toNatClampNeg)) dd → Goes p e below W T' (mkF m pc' Ls st)) : Goes p e below W T (mkF m pc Ls (.int nn :: .int dp :: .ref b :: .int sp :: .ref a :: st)) := by
  obtain ⟨d, rfl⟩ := d
  obtain ⟨L0, Y, eT, N, E⟩ := X
  obtain ⟨T', h', L', Y', e', N', K', A', q⟩ := cpA Y C.hx C.hZ C.hown w1 w2 w3 w4 eT F G (Or.inl ⟨rfl, hty⟩) h1 h2 h3 h4 h5 hus hl N hnew (g := mkF m pc Ls (.int nn :: .int dp :: .ref b :: .int sp :: .ref a :: st)) rfl (hsz.trans C.hml.symm) rfl (hb C.hby d) hf (W := W') (by show 2 * 0 + _ ≤ _; omega) hlo
  exact Goes.via q (K T' h' ⟨L', Y', e', N', ext_keep E K' (allS hnew all0)⟩ K' A')
/-- a Back that serves a call: what a contract pays -/
def Pay (l : Launch) (R : Room) (p : Program) (e : Env) (below : List Frame) (s : State) (A : Array Value) (y : MethodName) (len W k n : Nat) (Z : State) (as' : Array Value) (h : Heap) (Q : Option Value → Heap → Prop) : Prop :=
  Back l R p e below s A y len W (fun P a => a = as' ∧ P.U.heap = h ∧ P.cells + k ≤ R.cells ∧ P.slots + n ≤ R.slots)
    (fun P _ v B => ∃ L, (Fr Z.heap.size L ∧ Ext Z.heap B.U.heap ∧ Q v B.U.heap) ∧ B.locs = P.locs ++ L ∧ B.cells = P.cells + k ∧ B.slots = P.slots + n)
theorem pay_of {y : MethodName} {bytes' : ByteArray} {maxL' len W' : Nat} {ret' : Option FieldType} {rm : Room} {as' : Array Value} {Q : Option Value → Heap → Prop} (hM : Con l y bytes' maxL' ret' [] rm Z as' h Q) (hZ : Z.Warmed39 s.vm) (wc : (Jvm.Cond.code y bytes' maxL' ret').before a0 Z = true) (wz : (Jvm.Cond.initialized y.cls).before a0 Z = true) (hf : rm.frames + 1 ≤ R.frames) (hl : W' + (maxL' + 11) + rm.locals ≤ R.locals) :
    Pay l R p e below s A y len W' rm.cells rm.slots Z as' h Q := backOf (Q := fun v h' L => Fr Z.heap.size L ∧ Ext Z.heap h' ∧ Q v h') hM hZ wc wz hf hl
theorem g_static {index k n : Nat} {y : MethodName} {bytes' : ByteArray} {maxL' W' : Nat} {ret' : Option FieldType} {argsL : List Value} {Q : Option Value → Heap → Prop} {ps : List FieldType} {rt : Option FieldType} (C : Cx p s m meth c Z own nm bytes maxL ret) (X : St p l e R s m A below meth c Z T h cells slots)
    (w1 : (Jvm.Cond.methodLink own index y).before a0 Z = true) (w2 : (Jvm.Cond.static y).before a0 Z = true) (w3 : (Jvm.Cond.initialized y.cls).before a0 Z = true) (w4 : (Jvm.Cond.code y bytes' maxL' ret').before a0 Z = true) (hy : y.cls ≠ "java/lang/invoke/MethodHandle" ∧ y.cls ≠ "java/lang/invoke/VarHandle")
    (hK : Pay l R p e below s A y 3 W' k n Z argsL.toArray h Q) (pd : parseMethodDescriptor y.desc = some ⟨ps, rt⟩) (hlen : argsL.length = ps.length) (hsz : Ls.size = maxL) (stk : List Value) (hst : stk = argsL.reverse ++ st) (hW : (st.map fun v => v.category).sum ≤ W') (d : Dc bytes pc (.invokestatic index) 3 pc') (hc : cells + k ≤ R.cells) (hs : slots + n ≤ R.slots)
    (K : ∀ T' h' v, Q v h' → St p l e R s m A below meth c Z T' h' (cells + k) (slots + n) → Goes p e below W T' (mkF m pc' Ls (v.toList ++ st))) : Goes p e below W T (mkF m pc Ls stk) := by
  obtain ⟨d, rfl⟩ := d
  obtain ⟨L0, Y, eT, N, E⟩ := X
  obtain ⟨v, vm₁, B, -, Y', ⟨L, ⟨N', E', hQ⟩, hB⟩, q⟩ := Jvm.LawKit.callS Y C.hx C.hown (mvT C.hZ w1) (mvT C.hZ w2) (mvT C.hZ w3) (mvT C.hZ w4) hy hK (g := mkF m pc Ls stk) rfl (hsz.trans C.hml.symm) (argsL := argsL) (rest := st) (lenOf pd hlen) hst (by show 2 * 0 + _ ≤ _; omega) (hb C.hby d) (fun _ _ => ⟨rfl, eT, hc, hs⟩)
  exact Goes.via q (K _ _ v hQ (st_back (T' := T) (h' := h) Y' hB N N' E'))
theorem g_special {index k n : Nat} {y : MethodName} {bytes' : ByteArray} {maxL' W' : Nat} {argsL : List Value} {Q : Option Value → Heap → Prop} {ps : List FieldType} {rt : Option FieldType} {a : Addr} (C : Cx p s m meth c Z own nm bytes maxL ret) (X : St p l e R s m A below meth c Z T h cells slots) (hi : y.name = "<init>")
    (w1 : (Jvm.Cond.methodLink own index y).before a0 Z = true) (w2 : (Jvm.Cond.instanceMethod y).before a0 Z = true) (w4 : (Jvm.Cond.code y bytes' maxL' none).before a0 Z = true) (hy : y.cls ≠ "java/lang/invoke/MethodHandle" ∧ y.cls ≠ "java/lang/invoke/VarHandle")
    (hK : Pay l R p e below s A y 3 W' k n Z (.ref a :: argsL).toArray h Q) (pd : parseMethodDescriptor y.desc = some ⟨ps, rt⟩) (hlen : argsL.length = ps.length) (hsz : Ls.size = maxL) (stk : List Value) (hst : stk = argsL.reverse ++ .ref a :: st) (hW : (st.map fun v => v.category).sum ≤ W') (d : Dc bytes pc (.invokespecial index) 3 pc') (hc : cells + k ≤ R.cells) (hs : slots + n ≤ R.slots)
    (K : ∀ T' h' v, Q v h' → St p l e R s m A below meth c Z T' h' (cells + k) (slots + n) → Goes p e below W T' (mkF m pc' Ls (v.toList ++ st))) : Goes p e below W T (mkF m pc Ls stk) := by
  obtain ⟨d, rfl⟩ := d
  obtain ⟨L0, Y, eT, N, E⟩ := X
  obtain ⟨v, vm₁, B, -, Y', ⟨L, ⟨N', E', hQ⟩, hB⟩, q⟩ := Y.specialBack C.hx (y := y) hi C.hown (mvT C.hZ w1) (mvT C.hZ w2) (mvT C.hZ w4) hy hK (g := mkF m pc Ls stk) rfl (hsz.trans C.hml.symm) (Steps.refl _) (a := a) (argsL := argsL) (rest := st) (lenOf pd hlen) hst (by show 2 * 0 + _ ≤ _; omega) (hb C.hby d) (fun _ _ => ⟨rfl, eT, hc, hs⟩)
  exact Goes.via (fun _ k => q.trans k) (K _ _ v hQ (st_back (T' := T) (h' := h) Y' hB N N' E'))
theorem g_virtual {index k n : Nat} {y z : MethodName} {K0 : String} {W' : Nat} {argsL : List Value} {Q : Option Value → Heap → Prop} {ps : List FieldType} {rt : Option FieldType} {a : Addr} (C : Cx p s m meth c Z own nm bytes maxL ret) (X : St p l e R s m A below meth c Z T h cells slots)
    (w1 : (Jvm.Cond.methodLink own index y).before a0 Z = true) (w2 : (Jvm.Cond.declares y).before a0 Z = true) (nf : NotFace s y) (w3 : (Jvm.Cond.selects K0 y z).before a0 Z = true) (w4 : (Jvm.Cond.instanceMethod z).before a0 Z = true) (hy : y.cls ≠ "java/lang/invoke/MethodHandle" ∧ y.cls ≠ "java/lang/invoke/VarHandle") (Ex : Exa Z h a K0)
    (hK : Pay l R p e below s A z 3 W' k n Z (.ref a :: argsL).toArray h Q) (pd : parseMethodDescriptor y.desc = some ⟨ps, rt⟩) (hlen : argsL.length = ps.length) (hsz : Ls.size = maxL) (stk : List Value) (hst : stk = argsL.reverse ++ .ref a :: st) (hW : (st.map fun v => v.category).sum ≤ W') (d : Dc bytes pc (.invokevirtual index) 3 pc') (hc : cells + k ≤ R.cells) (hs : slots + n ≤ R.slots)
    (K : ∀ T' h' v, Q v h' → St p l e R s m A below meth c Z T' h' (cells + k) (slots + n) → Goes p e below W T' (mkF m pc' Ls (v.toList ++ st))) : Goes p e below W T (mkF m pc Ls stk) := by
  obtain ⟨d, rfl⟩ := d
  obtain ⟨L0, Y, eT, N, E⟩ := X
  obtain ⟨cq, kq, qa, qb, qc⟩ := isOf C.hZ eT Ex
  obtain ⟨v, vm₁, B, -, Y', ⟨L, ⟨N', E', hQ⟩, hB⟩, q⟩ := Y.virtualBack C.hx (y := y) (z := z) C.hown (mvT C.hZ w1) (mvT C.hZ w2) nf (mvT C.hZ w3) (mvT C.hZ w4) hy hK qa qc (g := mkF m pc Ls stk) rfl (hsz.trans C.hml.symm) (Steps.refl _) (argsL := argsL) (rest := st) (lenOf pd hlen) hst (by show 2 * 0 + _ ≤ _; omega) (hb C.hby d) (fun _ _ => ⟨rfl, eT, hc, hs⟩)
  exact Goes.via (fun _ k => q.trans k) (K _ _ v hQ (st_back (T' := T) (h' := h) Y' hB N N' E'))
theorem nf_of {K0 : String} {y z : MethodName} (C : Cx p s m meth c Z own nm bytes maxL ret) (w3 : (Jvm.Cond.selects K0 y z).before a0 Z = true) (e : K0 = y.cls) (e' : z = y) : NotFace s y := by
  subst e e'; exact notFace_of_selects (args := #[]) (mvT C.hZ w3)
theorem g_interface {index count k n : Nat} {y z : MethodName} {K0 : String} {W' : Nat} {argsL : List Value} {Q : Option Value → Heap → Prop} {ps : List FieldType} {rt : Option FieldType} {a : Addr} (C : Cx p s m meth c Z own nm bytes maxL ret) (X : St p l e R s m A below meth c Z T h cells slots)
    (w1 : (Jvm.Cond.methodLink own index y).before a0 Z = true) (w2 : (Jvm.Cond.declares y).before a0 Z = true) (w5 : (Jvm.Cond.interfaceMethod y.cls y.cls y.name y.desc).before A s = true) (w3 : (Jvm.Cond.selects K0 y z).before a0 Z = true) (w4 : (Jvm.Cond.instanceMethod z).before a0 Z = true) (w6 : (Jvm.Cond.publicMethod z).before a0 Z = true) (w7 : (Jvm.Cond.unhidden K0 y.name y.desc).before A s = true) (w8 : (Jvm.Cond.castable K0 y.cls).before a0 Z = true)
    (hy : y.cls ≠ "java/lang/invoke/MethodHandle" ∧ y.cls ≠ "java/lang/invoke/VarHandle") (Ex : Exa Z h a K0)
    (hK : Pay l R p e below s A z 5 W' k n Z (.ref a :: argsL).toArray h Q) (pd : parseMethodDescriptor y.desc = some ⟨ps, rt⟩) (hlen : argsL.length = ps.length) (hsz : Ls.size = maxL) (stk : List Value) (hst : stk = argsL.reverse ++ .ref a :: st) (hW : (st.map fun v => v.category).sum ≤ W') (d : Dc bytes pc (.invokeinterface index count) 5 pc') (hc : cells + k ≤ R.cells) (hs : slots + n ≤ R.slots)
    (K : ∀ T' h' v, Q v h' → St p l e R s m A below meth c Z T' h' (cells + k) (slots + n) → Goes p e below W T' (mkF m pc' Ls (v.toList ++ st))) : Goes p e below W T (mkF m pc Ls stk) := by
  obtain ⟨d, rfl⟩ := d
  obtain ⟨L0, Y, eT, N, E⟩ := X
  obtain ⟨cq, kq, qa, qb, qc⟩ := isOf C.hZ eT Ex
  obtain ⟨v, vm₁, B, -, Y', ⟨L, ⟨N', E', hQ⟩, hB⟩, q⟩ := Y.interfaceBack C.hx (xi := y) (y := z) C.hown (mvT C.hZ w1) (mvT C.hZ w2) w5 (mvT C.hZ w3) (mvT C.hZ w4) (mvT C.hZ w6) w7 (mvT C.hZ w8) hy hK qa qb qc (g := mkF m pc Ls stk) rfl (hsz.trans C.hml.symm) (Steps.refl _) (argsL := argsL) (rest := st) (lenOf pd hlen) hst (by show 2 * 0 + _ ≤ _; omega) (hb C.hby d) (fun _ _ => ⟨rfl, eT, hc, hs⟩)
  exact Goes.via (fun _ k => q.trans k) (K _ _ v hQ (st_back (T' := T) (h' := h) Y' hB N N' E'))
theorem g_staticP {index : Nat} {y : MethodName} {bytes' : ByteArray} {maxL' W' : Nat} {ret' : Option FieldType} {argsL : List Value} {v : Value} {ps : List FieldType} {rt : Option FieldType} (C : Cx p s m meth c Z own nm bytes maxL ret) (X : St p l e R s m A below meth c Z T h cells slots)
    (w1 : (Jvm.Cond.methodLink own index y).before a0 Z = true) (w2 : (Jvm.Cond.static y).before a0 Z = true) (w3 : (Jvm.Cond.initialized y.cls).before a0 Z = true) (w4 : (Jvm.Cond.code y bytes' maxL' ret').before a0 Z = true) (hy : y.cls ≠ "java/lang/invoke/MethodHandle" ∧ y.cls ≠ "java/lang/invoke/VarHandle")
    (hK : Pay l R p e below s A y 3 W' 0 0 Z argsL.toArray h (fun v' h' => v' = some v ∧ h' = h)) (pd : parseMethodDescriptor y.desc = some ⟨ps, rt⟩) (hlen : argsL.length = ps.length) (hsz : Ls.size = maxL) (stk : List Value) (hst : stk = argsL.reverse ++ st) (hW : (st.map fun v => v.category).sum ≤ W') (d : Dc bytes pc (.invokestatic index) 3 pc') (hc : cells ≤ R.cells) (hs : slots ≤ R.slots)
    (K : ∀ T', St p l e R s m A below meth c Z T' h cells slots → Goes p e below W T' (mkF m pc' Ls (v :: st))) : Goes p e below W T (mkF m pc Ls stk) :=
  g_static C X w1 w2 w3 w4 hy hK pd hlen hsz stk hst hW d hc hs fun T' h' v' hQ X' => by obtain ⟨rfl, rfl⟩ := hQ; exact K T' X'
theorem g_specialP {index : Nat} {y : MethodName} {bytes' : ByteArray} {maxL' W' : Nat} {argsL : List Value} {ps : List FieldType} {rt : Option FieldType} {a : Addr} (C : Cx p s m meth c Z own nm bytes maxL ret) (X : St p l e R s m A below meth c Z T h cells slots) (hi : y.name = "<init>")
    (w1 : (Jvm.Cond.methodLink own index y).before a0 Z = true) (w2 : (Jvm.Cond.instanceMethod y).before a0 Z = true) (w4 : (Jvm.Cond.code y bytes' maxL' none).before a0 Z = true) (hy : y.cls ≠ "java/lang/invoke/MethodHandle" ∧ y.cls ≠ "java/lang/invoke/VarHandle")
    (hK : Pay l R p e below s A y 3 W' 0 0 Z (.ref a :: argsL).toArray h (fun v' h' => v' = none ∧ h' = h)) (pd : parseMethodDescriptor y.desc = some ⟨ps, rt⟩) (hlen : argsL.length = ps.length) (hsz : Ls.size = maxL) (stk : List Value) (hst : stk = argsL.reverse ++ .ref a :: st) (hW : (st.map fun v => v.category).sum ≤ W') (d : Dc bytes pc (.invokespecial index) 3 pc') (hc : cells ≤ R.cells) (hs : slots ≤ R.slots)
    (K : ∀ T', St p l e R s m A below meth c Z T' h cells slots → Goes p e below W T' (mkF m pc' Ls st)) : Goes p e below W T (mkF m pc Ls stk) :=
  g_special C X hi w1 w2 w4 hy hK pd hlen hsz stk hst hW d hc hs fun T' h' v' hQ X' => by obtain ⟨rfl, rfl⟩ := hQ; exact K T' X'
theorem g_virtualP {index : Nat} {y z : MethodName} {K0 : String} {W' : Nat} {argsL : List Value} {v : Value} {ps : List FieldType} {rt : Option FieldType} {a : Addr} (C : Cx p s m meth c Z own nm bytes maxL ret) (X : St p l e R s m A below meth c Z T h cells slots)
    (w1 : (Jvm.Cond.methodLink own index y).before a0 Z = true) (w2 : (Jvm.Cond.declares y).before a0 Z = true) (nf : NotFace s y) (w3 : (Jvm.Cond.selects K0 y z).before a0 Z = true) (w4 : (Jvm.Cond.instanceMethod z).before a0 Z = true) (hy : y.cls ≠ "java/lang/invoke/MethodHandle" ∧ y.cls ≠ "java/lang/invoke/VarHandle") (Ex : Exa Z h a K0)
    (hK : Pay l R p e below s A z 3 W' 0 0 Z (.ref a :: argsL).toArray h (fun v' h' => v' = some v ∧ h' = h)) (pd : parseMethodDescriptor y.desc = some ⟨ps, rt⟩) (hlen : argsL.length = ps.length) (hsz : Ls.size = maxL) (stk : List Value) (hst : stk = argsL.reverse ++ .ref a :: st) (hW : (st.map fun v => v.category).sum ≤ W') (d : Dc bytes pc (.invokevirtual index) 3 pc') (hc : cells ≤ R.cells) (hs : slots ≤ R.slots)
    (K : ∀ T', St p l e R s m A below meth c Z T' h cells slots → Goes p e below W T' (mkF m pc' Ls (v :: st))) : Goes p e below W T (mkF m pc Ls stk) :=
  g_virtual C X w1 w2 nf w3 w4 hy Ex hK pd hlen hsz stk hst hW d hc hs fun T' h' v' hQ X' => by obtain ⟨rfl, rfl⟩ := hQ; exact K T' X'
theorem g_interfaceP {index count : Nat} {y z : MethodName} {K0 : String} {W' : Nat} {argsL : List Value} {v : Value} {ps : List FieldType} {rt : Option FieldType} {a : Addr} (C : Cx p s m meth c Z own nm bytes maxL ret) (X : St p l e R s m A below meth c Z T h cells slots)
    (w1 : (Jvm.Cond.methodLink own index y).before a0 Z = true) (w2 : (Jvm.Cond.declares y).before a0 Z = true) (w5 : (Jvm.Cond.interfaceMethod y.cls y.cls y.name y.desc).before A s = true) (w3 : (Jvm.Cond.selects K0 y z).before a0 Z = true) (w4 : (Jvm.Cond.instanceMethod z).before a0 Z = true) (w6 : (Jvm.Cond.publicMethod z).before a0 Z = true) (w7 : (Jvm.Cond.unhidden K0 y.name y.desc).before A s = true) (w8 : (Jvm.Cond.castable K0 y.cls).before a0 Z = true)
    (hy : y.cls ≠ "java/lang/invoke/MethodHandle" ∧ y.cls ≠ "java/lang/invoke/VarHandle") (Ex : Exa Z h a K0)
    (hK : Pay l R p e below s A z 5 W' 0 0 Z (.ref a :: argsL).toArray h (fun v' h' => v' = some v ∧ h' = h)) (pd : parseMethodDescriptor y.desc = some ⟨ps, rt⟩) (hlen : argsL.length = ps.length) (hsz : Ls.size = maxL) (stk : List Value) (hst : stk = argsL.reverse ++ .ref a :: st) (hW : (st.map fun v => v.category).sum ≤ W') (d : Dc bytes pc (.invokeinterface index count) 5 pc') (hc : cells ≤ R.cells) (hs : slots ≤ R.slots)
    (K : ∀ T', St p l e R s m A below meth c Z T' h cells slots → Goes p e below W T' (mkF m pc' Ls (v :: st))) : Goes p e below W T (mkF m pc Ls stk) :=
  g_interface C X w1 w2 w5 w3 w4 w6 w7 w8 hy Ex hK pd hlen hsz stk hst hW d hc hs fun T' h' v' hQ X' => by obtain ⟨rfl, rfl⟩ := hQ; exact K T' X'
theorem g_initO {index : Nat} {a : Addr} (C : Cx p s m meth c Z own nm bytes maxL ret) (X : St p l e R s m A below meth c Z T h cells slots) (w1 : (Jvm.Cond.methodLink own index Lib.objectInit).before a0 Z = true) (w2 : (Jvm.Cond.instanceMethod Lib.objectInit).before a0 Z = true) (w3 : (Jvm.Cond.code Lib.objectInit ⟨#[0xb1]⟩ 1 none).before a0 Z = true) (hsz : Ls.size = maxL) (d : Dc bytes pc (.invokespecial index) 3 pc') (hf : 1 ≤ R.frames) (W' : Nat) (hW : (st.map fun v => v.category).sum ≤ W') (hl : W' + 12 ≤ R.locals)
    (K : ∀ T', St p l e R s m A below meth c Z T' h cells slots → Goes p e below W T' (mkF m pc' Ls st)) : Goes p e below W T (mkF m pc Ls (.ref a :: st)) := by
  obtain ⟨d, rfl⟩ := d
  obtain ⟨L0, Y, eT, N, E⟩ := X
  obtain ⟨T', Y', e', q⟩ := initO Y C.hx C.hZ C.hown w1 w2 w3 eT (g := mkF m pc Ls (.ref a :: st)) rfl (hsz.trans C.hml.symm) rfl (hb C.hby d) hf (W := W') (by show 2 * 0 + _ ≤ _; omega) hl
  exact Goes.via q (K T' ⟨L0, Y', e', N, E⟩)
theorem end_of {k n : Nat} {Q : Option Value → Heap → Prop} {v : Option Value} {L : List Loc} {fs : List Frame} (N : Fr Z.heap.size L) (E : Ext Z.heap T.heap) (hW : s.WarmedH (T.setFrames fs).vm) (hS : s.sameButNew ({ T.setFrames fs with vm := s.vm } : State) L cells slots) (hc : cells ≤ k) (hs : slots ≤ n) (hQ : Q v T.heap) : EndW Z s k n Q (.returned v) (T.setFrames fs) :=
  ⟨v, L, rfl, ⟨N, E, hQ⟩, ⟨_, rfl⟩, hW, hS.mono hc hs⟩
theorem g_retI {k n : Nat} {Q : Option Value → Heap → Prop} {z : Int32} (C : Cx p s m meth c Z own nm bytes maxL (some .int)) (X : St p l e R s m A below meth c Z T h cells slots) (d : Dc bytes pc .ireturn 1 pc') (hc : cells ≤ k) (hs : slots ≤ n) (hQ : Q (some (.int z)) h) : Goes p e below (EndW Z s k n Q) T (mkF m pc Ls (.int z :: st)) := by
  obtain ⟨L0, Y, rfl, N, E⟩ := X
  have hlk := C.hlk
  obtain ⟨fs, hr, hrun, hended, hW, hS⟩ := Y.leave (v := some (.int z)) (fun h => by rw [C.hret] at h; cases h) hlk
  exact ⟨_, _, retOut Y C.hx C.hret rfl (Or.inl ⟨rfl, Or.inl rfl, z, rfl⟩) (hb C.hby d.1) hr, hrun, hended, end_of N E hW hS hc hs hQ⟩
theorem g_retN {k n : Nat} {Q : Option Value → Heap → Prop} {z : Int32} {t : FieldType} (C : Cx p s m meth c Z own nm bytes maxL (some t)) (X : St p l e R s m A below meth c Z T h cells slots) (ht : t = .boolean ∨ t = .byte ∨ t = .char ∨ t = .short) (d : Dc bytes pc .ireturn 1 pc') (z' : Int32) (hz : nar t z = z') (hc : cells ≤ k) (hs : slots ≤ n) (hQ : Q (some (.int z')) h) : Goes p e below (EndW Z s k n Q) T (mkF m pc Ls (.int z :: st)) := by
  obtain ⟨L0, Y, rfl, N, E⟩ := X
  have hlk := C.hlk
  obtain ⟨fs, hr, hrun, hended, hW, hS⟩ := Y.leave (v := some (.int z')) (fun h => by rw [C.hret] at h; cases h) hlk
  rw [← hz] at hr
  exact ⟨_, _, retN Y C.hx C.hret ht (hb C.hby d.1) hr, hrun, hended, end_of N E hW hS hc hs hQ⟩
theorem g_retJ {k n : Nat} {Q : Option Value → Heap → Prop} {z : Int64} (C : Cx p s m meth c Z own nm bytes maxL (some .long)) (X : St p l e R s m A below meth c Z T h cells slots) (d : Dc bytes pc .lreturn 1 pc') (hc : cells ≤ k) (hs : slots ≤ n) (hQ : Q (some (.long z)) h) : Goes p e below (EndW Z s k n Q) T (mkF m pc Ls (.long z :: st)) := by
  obtain ⟨L0, Y, rfl, N, E⟩ := X
  have hlk := C.hlk
  obtain ⟨fs, hr, hrun, hended, hW, hS⟩ := Y.leave (v := some (.long z)) (fun h => by rw [C.hret] at h; cases h) hlk
  exact ⟨_, _, retOut Y C.hx C.hret rfl (Or.inr (Or.inl ⟨rfl, rfl, z, rfl⟩)) (hb C.hby d.1) hr, hrun, hended, end_of N E hW hS hc hs hQ⟩
theorem g_retA {k n : Nat} {Q : Option Value → Heap → Prop} {z : Value} {t : FieldType} (C : Cx p s m meth c Z own nm bytes maxL (some t)) (X : St p l e R s m A below meth c Z T h cells slots) (ht : t.isReference = true) (hz : z.isRef = true) (d : Dc bytes pc .areturn 1 pc') (hc : cells ≤ k) (hs : slots ≤ n) (hQ : Q (some z) h) : Goes p e below (EndW Z s k n Q) T (mkF m pc Ls (z :: st)) := by
  obtain ⟨L0, Y, rfl, N, E⟩ := X
  have hlk := C.hlk
  have hn : narrow t z = z := by cases t <;> first | rfl | (simp [FieldType.isReference] at ht; done) | (cases z <;> simp [Value.isRef] at hz <;> rfl)
  obtain ⟨fs, hr, hrun, hended, hW, hS⟩ := Y.leave (v := some z) (fun h => by rw [C.hret] at h; cases h) hlk
  exact ⟨_, _, retOut Y C.hx C.hret hn (Or.inr (Or.inr (Or.inr (Or.inr ⟨rfl, ht, hz⟩)))) (hb C.hby d.1) hr, hrun, hended, end_of N E hW hS hc hs hQ⟩
theorem g_retV {k n : Nat} {Q : Option Value → Heap → Prop} (C : Cx p s m meth c Z own nm bytes maxL none) (X : St p l e R s m A below meth c Z T h cells slots) (d : Dc bytes pc .return_ 1 pc') (hc : cells ≤ k) (hs : slots ≤ n) (hQ : Q none h) : Goes p e below (EndW Z s k n Q) T (mkF m pc Ls []) := by
  obtain ⟨L0, Y, rfl, N, E⟩ := X
  have hlk := C.hlk
  obtain ⟨fs, hr, hrun, hended, hW, hS⟩ := Y.leave (v := none) (fun _ => rfl) hlk
  exact ⟨_, _, Y.returnOut C.hx C.hret (hb C.hby d.1) hr, hrun, hended, end_of N E hW hS hc hs hQ⟩
end OwnKit
/-! from the case's words -/
theorem wd {a0 : Array Value} {Z : State} (hw : ∀ d ∈ tables_1, d.before a0 Z = true) (i : Nat) {d : Jvm.Cond} (h : tables_1[i]? = some d) : d.before a0 Z = true := hw d (List.mem_of_getElem? h)
theorem eqI_v {args : Array Value} {first s : State} {o : Option Outcome} {idx : List Nat} {t : Term} {k : Int32} (h : (Jvm.Cond.eq t (.int k)).value args first o s idx = some true) : t.eval args first o idx s = some (.int k) := by
  simp only [Cond.value, Term.eval] at h
  cases ht : t.eval args first o idx s with
  | none => simp [ht] at h
  | some x => cases x <;> simp [ht] at h ⊢; exact h
theorem eqJ_v {args : Array Value} {first s : State} {o : Option Outcome} {idx : List Nat} {t : Term} {k : Int64} (h : (Jvm.Cond.eq t (.long k)).value args first o s idx = some true) : t.eval args first o idx s = some (.long k) := by
  simp only [Cond.value, Term.eval] at h
  cases ht : t.eval args first o idx s with
  | none => simp [ht] at h
  | some x => cases x <;> simp [ht] at h ⊢; exact h
theorem eqR_v {args : Array Value} {first s : State} {o : Option Outcome} {idx : List Nat} {t u : Term} {a : Addr} (h : (Jvm.Cond.eq t u).value args first o s idx = some true) (hu : u.eval args first o idx s = some (.ref a)) : t.eval args first o idx s = some (.ref a) := by
  simp only [Cond.value, hu] at h
  cases ht : t.eval args first o idx s with
  | none => simp [ht] at h
  | some x => cases x <;> simp [ht] at h ⊢; exact h
theorem arr_start {args : Array Value} {Z : State} {t : Term} {a : Addr} {cl : Cell} {ty : FieldType} {n : Int32} {vs : List Value} (dv : Value) (hf : Fit Z) (A : Arr Z Z.heap a cl ty) (ev : t.eval args Z none [] Z = some (.ref a)) (hl : (Term.length t).eval args Z none [] Z = some (.int n)) (hn : ¬ n < 0) (hv : n.toNatClampNeg = vs.length)
    (H : HasL cl 0 vs) : Arv Z Z.heap a cl.cls ty n vs dv := by
  obtain ⟨a', c', e1, e2, e4⟩ := Term.length_spec hl
  cases ev.symm.trans e1
  cases A.1.symm.trans (State.arrayAt?_spec e2).1
  have e3 : cl.slots.size < 2 ^ 31 := by
    by_cases q : cl.slots.size < 2147483648
    · exact q
    · exfalso; simp [Term.eval, ev, e2, q] at hl
  exact Arv.start hf A e3 (Value.int.inj e4.symm) hn hv H
theorem elem_start {args : Array Value} {Z : State} {t : Term} {a : Addr} {cl : Cell} {ty : FieldType} {j : Int32} {v : Value} (A : Arr Z Z.heap a cl ty) (ev : t.eval args Z none [] Z = some (.ref a)) (h : (Term.elem t (.int j)).eval args Z none [] Z = some v) : cl.slots[j.toNatClampNeg]? = some v := (elem_in h ev (Term.int_eval j) A.1).2
theorem own_ch (x : Int32) : Value.int (nar .char ((x &&& (255 : Int32)).toUInt32.toUInt16.toUInt32.toInt32)) = .int (x &&& (255 : Int32)) := by
  show Value.int (((x &&& (255 : Int32)).toUInt32.toUInt16.toUInt32.toInt32).toUInt32.toUInt16.toUInt32.toInt32) = _
  rw [i2c_mask, i2c_mask]
theorem nz_v {args : Array Value} {Z : State} {t : Term} {z : Int32} (ev : t.eval args Z none [] Z = some (.int z)) (h : (Jvm.Cond.not (.eq t (.int 0))).value args Z none Z [] = some true) : ¬ z = 0 := by
  intro e; subst e
  have q := not_v h
  simp [Cond.value, ev, Term.eval] at q
theorem fld_of {args : Array Value} {Z : State} {t : Term} {a : Addr} {C n d : String} {v : Value} (ht : t.eval args Z none [] Z = some (.ref a)) (h : (Term.field t C n d).eval args Z none [] Z = some v) : Fld Z Z.heap a C n d v := Fld.start (by rw [← fld_at (args := args) (first := Z) (o := none) (idx := []) ht]; exact h)
section OwnClone
variable {p : Program} {l : Launch} {e : Env} {R : Room} {s : State} {m : MethodId} {A : Array Value} {below : List Frame} {meth : Method} {c : Code} {T : State} {cells slots : Nat} {Z : State} {a0 : Array Value} {h : Heap} {own nm : String} {bytes : ByteArray} {maxL : Nat} {ret : Option FieldType} {W : Outcome → State → Prop} {pc pc' tgt : Nat} {Ls : Array Slot} {st : List Value} {EL : List (String × Nat)} {vm0 : Vm}
theorem g_clone {ad : String} {index cap : Nat} {a : Addr} {k : ClassId} {ty : FieldType} {z : Int32} {vs : List Value} {dv : Value} (C : Cx p s m meth c Z own nm bytes maxL ret) (X : St p l e R s m A below meth c Z T h cells slots)
    (w1 : (Jvm.Cond.methodLink own index ⟨ad, "clone", "()Ljava/lang/Object;"⟩).before a0 Z = true) (w2 : (Jvm.Cond.sameMethod ad "java/lang/Object" "clone" "()Ljava/lang/Object;").before a0 Z = true) (w3 : (Jvm.Cond.native ⟨"java/lang/Object", "clone", "()Ljava/lang/Object;"⟩).before a0 Z = true)
    (w4 : (Jvm.Cond.instanceMethod ⟨"java/lang/Object", "clone", "()Ljava/lang/Object;"⟩).before a0 Z = true) (w5 : (Jvm.Cond.selects ad ⟨ad, "clone", "()Ljava/lang/Object;"⟩ ⟨"java/lang/Object", "clone", "()Ljava/lang/Object;"⟩).before a0 Z = true) (w6 : (Jvm.Cond.castable ad "java/lang/Cloneable").before a0 Z = true)
    (F : Arv Z h a k ty z vs dv) (E0 : Exa Z h a ad) (hsz : Ls.size = maxL) (d : Dc bytes pc (.invokevirtual index) 3 pc') (hf : 1 ≤ R.frames) (W' : Nat) (hW : (st.map fun v => v.category).sum ≤ W') (hl : W' + 14 ≤ R.locals) (hcap : z.toNatClampNeg ≤ cap) (hc : cells + 1 ≤ R.cells) (hs : slots + cap ≤ R.slots)
    (K : ∀ T' h' b, b = h.size → Z.heap.size ≤ b → St p l e R s m A below meth c Z T' h' (cells + 1) (slots + cap) → Ext h h' → Arv Z h' b k ty z vs dv → Exa Z h' b ad → Goes p e below W T' (mkF m pc' Ls (.ref b :: st))) : Goes p e below W T (mkF m pc Ls (.ref a :: st)) := by
  obtain ⟨d, rfl⟩ := d
  obtain ⟨L0, Y, eT, N, E⟩ := X
  obtain ⟨cl, Ar, q1, S, q3, H, G⟩ := F
  have FC : FitC Z cl := fitC_of Ar fun i hi v hv => by rw [H i hi] at hv; cases hv; exact G i hi
  obtain ⟨T', h', Y', e', ex, A', E', q⟩ := cloneA Y C.hx C.hZ C.hown w1 w2 w3 w4 w5 w6 eT Ar E0 FC (g := mkF m pc Ls (.ref a :: st)) rfl (hsz.trans C.hml.symm) rfl (hb C.hby d) hf (W := W') (by show 2 * 0 + _ ≤ _; omega) hl (by rw [S]; exact hcap) hc hs
  exact Goes.via q (K T' h' h.size rfl E.1 ⟨L0, Y', e', N, ext_trans E ex⟩ ex ⟨cloneOf cl, A', q1, S, q3, H, G⟩ E')
theorem g_staticPV {index : Nat} {y : MethodName} {bytes' : ByteArray} {maxL' W' : Nat} {ret' : Option FieldType} {argsL : List Value} {ps : List FieldType} {rt : Option FieldType} (C : Cx p s m meth c Z own nm bytes maxL ret) (X : St p l e R s m A below meth c Z T h cells slots)
    (w1 : (Jvm.Cond.methodLink own index y).before a0 Z = true) (w2 : (Jvm.Cond.static y).before a0 Z = true) (w3 : (Jvm.Cond.initialized y.cls).before a0 Z = true) (w4 : (Jvm.Cond.code y bytes' maxL' ret').before a0 Z = true) (hy : y.cls ≠ "java/lang/invoke/MethodHandle" ∧ y.cls ≠ "java/lang/invoke/VarHandle")
    (hK : Pay l R p e below s A y 3 W' 0 0 Z argsL.toArray h (fun v' h' => v' = none ∧ h' = h)) (pd : parseMethodDescriptor y.desc = some ⟨ps, rt⟩) (hlen : argsL.length = ps.length) (hsz : Ls.size = maxL) (stk : List Value) (hst : stk = argsL.reverse ++ st) (hW : (st.map fun v => v.category).sum ≤ W') (d : Dc bytes pc (.invokestatic index) 3 pc') (hc : cells ≤ R.cells) (hs : slots ≤ R.slots)
    (K : ∀ T', St p l e R s m A below meth c Z T' h cells slots → Goes p e below W T' (mkF m pc' Ls st)) : Goes p e below W T (mkF m pc Ls stk) :=
  g_static C X w1 w2 w3 w4 hy hK pd hlen hsz stk hst hW d hc hs fun T' h' v' hQ X' => by obtain ⟨rfl, rfl⟩ := hQ; exact K T' X'
theorem sel_private {y : MethodName} {K0 : String} {n : Nat} (hZ : Z.Warmed39 s.vm) (wi : (Jvm.Cond.instantiable K0 n).before a0 Z = true) (hK : K0 = y.cls) (wp : (Jvm.Cond.privateMethod y).before a0 Z = true) (w2 : (Jvm.Cond.instanceMethod y).before a0 Z = true) (hy : y.cls ≠ "java/lang/invoke/MethodHandle" ∧ y.cls ≠ "java/lang/invoke/VarHandle") : (Jvm.Cond.selects y.cls y y).before A s = true := by
  subst hK
  have w' : (Jvm.Cond.instantiable y.cls n).before A s = true := mvT hZ wi
  obtain ⟨c, k, h1, h2, -, h3, -⟩ := Cond.instantiable_spec w'
  have h4 : k.isInterface = false := by
    cases q : k.isInterface
    · rfl
    · rw [q] at h3; exact absurd h3 (by simp)
  exact selects_self_of_private h1 h2 h4 (Cond.privateMethod_at (args := A) (mvP hZ wp)) (mvT hZ w2) hy
theorem g_private {index k n : Nat} {y : MethodName} {bytes' : ByteArray} {maxL' W' : Nat} {ret' : Option FieldType} {argsL : List Value} {Q : Option Value → Heap → Prop} {ps : List FieldType} {rt : Option FieldType} {a : Addr} (C : Cx p s m meth c Z own nm bytes maxL ret) (X : St p l e R s m A below meth c Z T h cells slots)
    (w1 : (Jvm.Cond.methodLink own index y).before a0 Z = true) (w2 : (Jvm.Cond.instanceMethod y).before a0 Z = true) (hsel : (Jvm.Cond.selects y.cls y y).before A s = true) (wp : (Jvm.Cond.privateMethod y).before a0 Z = true) (w4 : (Jvm.Cond.code y bytes' maxL' ret').before a0 Z = true) (hy : y.cls ≠ "java/lang/invoke/MethodHandle" ∧ y.cls ≠ "java/lang/invoke/VarHandle") (Ex : Exa Z h a y.cls)
    (hK : Pay l R p e below s A y 3 W' k n Z (.ref a :: argsL).toArray h Q) (pd : parseMethodDescriptor y.desc = some ⟨ps, rt⟩) (hlen : argsL.length = ps.length) (hsz : Ls.size = maxL) (stk : List Value) (hst : stk = argsL.reverse ++ .ref a :: st) (hW : (st.map fun v => v.category).sum ≤ W') (d : Dc bytes pc (.invokevirtual index) 3 pc') (hc : cells + k ≤ R.cells) (hs : slots + n ≤ R.slots)
    (K : ∀ T' h' v, Q v h' → St p l e R s m A below meth c Z T' h' (cells + k) (slots + n) → Goes p e below W T' (mkF m pc' Ls (v.toList ++ st))) : Goes p e below W T (mkF m pc Ls stk) := by
  obtain ⟨d, rfl⟩ := d
  obtain ⟨L0, Y, eT, N, E⟩ := X
  obtain ⟨cell, kk, q1, -, -, q4, -⟩ := Ex
  obtain ⟨v, vm₁, B, -, Y', ⟨L, ⟨N', E', hQ⟩, hB⟩, q⟩ := Y.privateBack C.hx C.hown (mvT C.hZ w1) (mvT C.hZ w2) hsel (Cond.privateMethod_at (args := A) (mvP C.hZ wp)) (mvT C.hZ w4) hy hK (g := mkF m pc Ls stk) rfl (hsz.trans C.hml.symm) (Steps.refl _) (a := a) (cell := cell) (by rw [eT]; exact q1) (fun z hz => by rw [hz] at q4; cases q4) (argsL := argsL) (rest := st) (lenOf pd hlen) hst (by show 2 * 0 + _ ≤ _; omega) (hb C.hby d) (fun _ _ => ⟨rfl, eT, hc, hs⟩)
  exact Goes.via (fun _ k => q.trans k) (K _ _ v hQ (st_back (T' := T) (h' := h) Y' hB N N' E'))
theorem g_privateP {index : Nat} {y : MethodName} {bytes' : ByteArray} {maxL' W' : Nat} {ret' : Option FieldType} {argsL : List Value} {v : Value} {ps : List FieldType} {rt : Option FieldType} {a : Addr} (C : Cx p s m meth c Z own nm bytes maxL ret) (X : St p l e R s m A below meth c Z T h cells slots)
    (w1 : (Jvm.Cond.methodLink own index y).before a0 Z = true) (w2 : (Jvm.Cond.instanceMethod y).before a0 Z = true) (hsel : (Jvm.Cond.selects y.cls y y).before A s = true) (wp : (Jvm.Cond.privateMethod y).before a0 Z = true) (w4 : (Jvm.Cond.code y bytes' maxL' ret').before a0 Z = true) (hy : y.cls ≠ "java/lang/invoke/MethodHandle" ∧ y.cls ≠ "java/lang/invoke/VarHandle") (Ex : Exa Z h a y.cls)
    (hK : Pay l R p e below s A y 3 W' 0 0 Z (.ref a :: argsL).toArray h (fun v' h' => v' = some v ∧ h' = h)) (pd : parseMethodDescriptor y.desc = some ⟨ps, rt⟩) (hlen : argsL.length = ps.length) (hsz : Ls.size = maxL) (stk : List Value) (hst : stk = argsL.reverse ++ .ref a :: st) (hW : (st.map fun v => v.category).sum ≤ W') (d : Dc bytes pc (.invokevirtual index) 3 pc') (hc : cells ≤ R.cells) (hs : slots ≤ R.slots)
    (K : ∀ T', St p l e R s m A below meth c Z T' h cells slots → Goes p e below W T' (mkF m pc' Ls (v :: st))) : Goes p e below W T (mkF m pc Ls stk) :=
  g_private C X w1 w2 hsel wp w4 hy Ex hK pd hlen hsz stk hst hW d hc hs fun T' h' v' hQ X' => by obtain ⟨rfl, rfl⟩ := hQ; exact K T' X'
end OwnClone
theorem own_mvI {Z s : State} {a0 args : Array Value} {ref owner name desc : String} (hZ : Z.Warmed39 s.vm) (h : (Jvm.Cond.interfaceMethod ref owner name desc).before a0 Z = true) : (Jvm.Cond.interfaceMethod ref owner name desc).before args s = true := by
  obtain ⟨c, k, r, h1, h2, h3, h4, h5⟩ := Cond.interfaceMethod_spec h
  obtain ⟨k', e1, e2⟩ := hZ.alike.2.2 _ _ h2
  have f1 : s.vm.findClass ref = some c := by rw [hZ.alike.findClass]; exact h1
  have f4 : s.methodFound? ref name desc = some r := by
    have q : (Z.setVm s.vm).methodFound? ref name desc = Z.methodFound? ref name desc := State.methodFound?_setVm hZ.alike _ _ _
    exact (show s.methodFound? ref name desc = (Z.setVm s.vm).methodFound? ref name desc from rfl).trans (q.trans h4)
  have f5 : s.methodNamed? ⟨owner, name, desc⟩ = some r := by
    have q : (Z.setVm s.vm).methodNamed? ⟨owner, name, desc⟩ = Z.methodNamed? ⟨owner, name, desc⟩ := State.methodNamed?_setVm hZ.alike _
    exact (show s.methodNamed? ⟨owner, name, desc⟩ = (Z.setVm s.vm).methodNamed? ⟨owner, name, desc⟩ from rfl).trans (q.trans h5)
  have f3 : k'.isInterface = true := by rw [e2]; exact h3
  simp [Cond.before, Cond.holds, Cond.value, f1, f4, f5, e1, f3]
theorem own_linkFF {s : State} {args : Array Value} {cls : String} {x : MethodName} {index d c : Nat} {ck ok : Class} {me : Method} {mf : MethodId} (hd : s.vm.findClass cls = some d) (hc : s.vm.findClass x.cls = some c) (hck : s.vm.classes[c]? = some ck) (hvi : ck.isInterface = true) (hnone : ck.findMethod x.name x.desc = none)
    (hf : s.methodFound? x.cls x.name x.desc = some mf) (hok : s.vm.classes[mf.cls]? = some ok) (hm : ok.methods[mf.idx]? = some me) (hx : x.cls ≠ "java/lang/invoke/MethodHandle" ∧ x.cls ≠ "java/lang/invoke/VarHandle") (hn : x.name ≠ "clone") (h : (Jvm.Cond.methodLink cls index x).before args s = true) (pl : Platform) (hpl : pl.magicAccessors = ({} : Platform).magicAccessors) :
    ∃ ci, s.vm.MethodLinksFF pl d index ci c mf ∧ s.rightAt d index (.method mf) = true := by
  obtain ⟨k₀, hk₀, hname⟩ := Vm.findClass_spec hc
  cases hck.symm.trans hk₀
  have hpoly : ∀ y, signaturePolymorphic ck y = false := fun y => by simp [signaturePolymorphic, hname, hx.1, hx.2]
  have hmeth : s.vm.method? mf = some me := by simp [Vm.method?, hok, hm]
  have hff := State.faceFind_of_found hc hck hvi hpoly hnone hf
  simp only [Cond.before, Cond.holds, Cond.value, hd, hc] at h
  cases hme : s.memberEntry? cls index with
  | none => simp [hme] at h
  | some q =>
    obtain ⟨ci, via⟩ := q
    cases hcl : s.classLinks cls ci x.cls with
    | none => simp [hme, hcl, hf] at h
    | some linked =>
      cases hdk : s.vm.classes[d]? with
      | none => simp [hme, hcl, hdk, hf] at h
      | some dk =>
        simp only [hme, hcl, hdk, hck, hok, hmeth, hf, Option.bind_eq_bind, Option.bind_some, Option.pure_def, beq_iff_eq, bne_iff_ne, ne_eq, Option.some.injEq, Bool.and_eq_true, Option.isNone_iff_eq_none] at h
        obtain ⟨⟨⟨⟨⟨⟨⟨rfl, hnm⟩, hopen⟩, hvia⟩, -⟩, -⟩, hml⟩, hacc⟩ := h
        have hpa : s.vm.Plain me.accessFlags mf.cls ok c d dk := by
          rcases (Bool.or_eq_true _ _).mp hacc with h | h
          · simpa [Vm.Plain, plainAccess, or_assoc, and_assoc] using h
          · simp only [Bool.and_eq_true, beq_iff_eq] at h
            exact absurd h.1.2 hn
        rw [hvi] at hvia
        subst hvia
        obtain ⟨cr, hcr, hlinks⟩ := State.classLinks_spec hd hcl pl hpl
        cases hc.symm.trans hcr
        obtain ⟨cp, hcp, hnames⟩ := State.names_spec hnm
        obtain ⟨dk', cf, hdk', hcf, rfl⟩ := State.poolOf?_spec hd hcp
        cases hdk.symm.trans hdk'
        obtain ⟨ci', nt, hent, hnt, -⟩ := namesOf?_method hnames
        have hen : ci' = ci ∧ cf.constantPool[index]? = some (.interfaceMethodref ci nt) := by
          rcases hent with hent | hent
          · simp only [State.memberEntry?, hcp, Option.bind_eq_bind, Option.bind_some, hent, Option.some.injEq, Prod.mk.injEq] at hme
            exact absurd hme.2 (by simp)
          · simp only [State.memberEntry?, hcp, Option.bind_eq_bind, Option.bind_some, hent, Option.some.injEq, Prod.mk.injEq] at hme
            obtain ⟨rfl, -⟩ := hme
            exact ⟨rfl, hent⟩
        obtain ⟨rfl, hen⟩ := hen
        obtain ⟨dk1, cf1, name1, _, g1, g2, g3, g4, _⟩ := hlinks.here
        cases hdk.symm.trans g1
        cases hcf.symm.trans g2
        refine ⟨ci', ⟨dk, cf, nt, x.name, x.desc, ck, ok, me, hdk, hcf, hen, hnt, hlinks, fun he => ?_, hck, hvi, hpoly, hnone, hff, hok, hm, g3.trans hml.symm, hpa, State.openOr_spec hd hdk hopen⟩, ?_⟩
        · subst he
          simp [ConstantPool.className?, hen] at g4
        · simp [State.rightAt, hdk, hcf, hnames, hf]
section OwnIfUp
variable {p : Program} {l : Launch} {e : Env} {R : Room} {s : State} {m : MethodId} {A : Array Value} {below : List Frame} {meth : Method} {c : Code} {T : State} {cells slots : Nat} {Z : State} {a0 : Array Value} {h : Heap} {own nm : String} {bytes : ByteArray} {maxL : Nat} {ret : Option FieldType} {W : Outcome → State → Prop} {pc pc' tgt : Nat} {Ls : Array Slot} {st : List Value}
theorem g_interfaceUp {index count k n : Nat} {y z : MethodName} {K0 J : String} {W' : Nat} {argsL : List Value} {Q : Option Value → Heap → Prop} {ps : List FieldType} {rt : Option FieldType} {a : Addr} (C : Cx p s m meth c Z own nm bytes maxL ret) (X : St p l e R s m A below meth c Z T h cells slots)
    (w1 : (Jvm.Cond.methodLink own index y).before a0 Z = true) (w2 : (Jvm.Cond.declares ⟨J, y.name, y.desc⟩).before a0 Z = true) (w5 : (Jvm.Cond.interfaceMethod y.cls J y.name y.desc).before A s = true) (w3 : (Jvm.Cond.selects K0 y z).before a0 Z = true) (w4 : (Jvm.Cond.instanceMethod z).before a0 Z = true) (w6 : (Jvm.Cond.publicMethod z).before a0 Z = true) (w7 : (Jvm.Cond.unhidden K0 y.name y.desc).before A s = true) (w8 : (Jvm.Cond.castable K0 y.cls).before a0 Z = true)
    (hy : y.cls ≠ "java/lang/invoke/MethodHandle" ∧ y.cls ≠ "java/lang/invoke/VarHandle") (hj : y.cls ≠ J) (hcn : y.name ≠ "clone") (Ex : Exa Z h a K0)
    (hK : Pay l R p e below s A z 5 W' k n Z (.ref a :: argsL).toArray h Q) (pd : parseMethodDescriptor y.desc = some ⟨ps, rt⟩) (hlen : argsL.length = ps.length) (hsz : Ls.size = maxL) (stk : List Value) (hst : stk = argsL.reverse ++ .ref a :: st) (hW : (st.map fun v => v.category).sum ≤ W') (d : Dc bytes pc (.invokeinterface index count) 5 pc') (hc : cells + k ≤ R.cells) (hs : slots + n ≤ R.slots)
    (K : ∀ T' h' v, Q v h' → St p l e R s m A below meth c Z T' h' (cells + k) (slots + n) → Goes p e below W T' (mkF m pc' Ls (v.toList ++ st))) : Goes p e below W T (mkF m pc Ls stk) := by
  obtain ⟨d, rfl⟩ := d
  obtain ⟨L0, Y, eT, N, E⟩ := X
  obtain ⟨cq, kq, qa, qb, cell, qc1, rfl, qc3⟩ := isOf C.hZ eT Ex
  have hpl : e.platform.magicAccessors = ({} : Platform).magicAccessors := by rw [Y.admits.platform]
  obtain ⟨r0, r, hn, hrm, hst0, hsig⟩ := Cond.declares_spec (mvT C.hZ w2 : (Jvm.Cond.declares ⟨J, y.name, y.desc⟩).before A s = true)
  obtain ⟨cL, kL, r1, hcL, hkL, hiL, hfo, hn1⟩ := Cond.interfaceMethod_spec w5
  cases hn.symm.trans hn1
  obtain ⟨hnr, hdr⟩ := name_of_methodNamed hn hrm
  obtain ⟨ok, hok, hokn⟩ := className_of_methodNamed hn
  have hmO : ok.methods[r0.idx]? = some r := by simpa [Vm.method?, hok] using hrm
  obtain ⟨mk, me, hnd, hmm, -, hab⟩ := Cond.instanceMethod_spec (mvT C.hZ w4 : (Jvm.Cond.instanceMethod z).before A s = true)
  obtain ⟨c2, r2, m2, q1, q2, q3, q4, -⟩ := Cond.selects_spec (mvT C.hZ w3 : (Jvm.Cond.selects K0 y z).before A s = true)
  cases qa.symm.trans q1
  cases hfo.symm.trans q2
  cases hnd.symm.trans q3
  have hsel : selectMethod e.platform s.vm cell.cls r0 = .method mk := by rw [Launch.admits_selectMethod Y.admits]; exact q4
  have hpm := Cond.publicMethod_spec hnd hmm (mvT C.hZ w6 : (Jvm.Cond.publicMethod z).before A s = true)
  have hway : ((cell.cls :: s.vm.superclasses cell.cls).any fun k => (declaredIn s.vm r.name r.desc k).any fun (_, z) => z.isPrivate || z.isStatic) = false := by
    rw [hnr, hdr]; exact Cond.unhidden_spec qa w7
  obtain ⟨c3, t3, v1, v2, v3⟩ := Cond.castable_spec (mvT C.hZ w8 : (Jvm.Cond.castable K0 y.cls).before A s = true)
  cases qa.symm.trans v1
  cases hcL.symm.trans v2
  obtain ⟨kL', hkL', hnL⟩ := Vm.findClass_spec hcL
  cases hkL.symm.trans hkL'
  have hnone : kL.findMethod y.name y.desc = none := by
    cases hjj : kL.findMethod y.name y.desc with
    | none => rfl
    | some j =>
      exfalso
      have hsome : (kL.methods[j]?).isSome := by
        obtain ⟨hlt, -, -⟩ := Array.findIdx?_eq_some_iff_getElem.mp hjj
        simp [hlt]
      have h2 := State.methodFound?_declared hcL hkL (fun w => by simp [signaturePolymorphic, hnL, hy.1, hy.2]) hjj hsome
      rw [hfo] at h2
      have e2 : r0.cls = cL := by rw [Option.some.inj h2]
      rw [e2] at hok
      cases hkL.symm.trans hok
      exact hj (hnL.symm.trans hokn)
  obtain ⟨ci, hl, hri⟩ := own_linkFF (args := A) C.hown hcL hkL hiL hnone hfo hok hmO hy hcn (mvT C.hZ w1) e.platform hpl
  have hE : s.MethodEntryUp e T.vm m.cls index cL r0 ci := State.methodEntryFF Y.warmed hl hri
  obtain ⟨dk, cfile, nt, _, _, ck, _, _, hd, hcf, hcp, -, -, -, hck, hvia, -⟩ := hl.here
  cases hkL.symm.trans hck
  have al := hE.warmed.alike
  obtain ⟨dk₂, hdk₂, hres⟩ := hE.classReady
  obtain ⟨dk₃, hdk₃, hed⟩ := al.2.2 _ _ hd
  cases hdk₂.symm.trans hdk₃
  obtain ⟨ck₂, hck₂, hec⟩ := al.2.2 _ _ hck
  obtain ⟨kc₂, hkc₂, -⟩ := al.2.2 _ _ qb
  have Y1 := Y.noted hE.warmed
  have hps : r.sig.parameters.length = ps.length := by
    rw [show r.sig = ⟨ps, rt⟩ from Option.some.inj (hsig.symm.trans pd)]
  have hgo : ∀ target, (∀ acts, Steps p.tables e below (doInvoke e ((T.setVm (T.vm.calledUp m.cls ci index cL r0)).setTop { (mkF m pc Ls stk) with stack := st }) acts mk (.ref a :: argsL).toArray).1 target) → Steps p.tables e below (T.setTop (mkF m pc Ls stk)) target := by
    intro target hrest
    jvm_step Y.here [C.hx, hb C.hby d, invokeinterface.wp_coldFace (e := e) (s := T) (s₀ := s) (f := mkF m pc Ls stk) (count := count) Y.here.top Y.warmed hE hd hcf (Or.inr hcp) hck hvia,
      invokeinterface.wp_ready (e := e) (s := T.setVm (T.vm.calledUp m.cls ci index cL r0)) (f := mkF m pc Ls stk) (count := count) (r := r) (meth := me) (m := mk) (args := argsL) (rest := st) (cell := cell) (kcell := kc₂) (ck := dk₂) (nk := ck₂) (cf := cfile) (ci := ci) (nt := nt) (named := cL)
        Y.here.top hE.ready (by show (T.vm.calledUp m.cls ci index cL r0).method? r0 = some r; rw [al.method?]; exact hrm) hst0 (hlen.trans hps.symm) hst qc1 (fun q hq => by rw [hq] at qc3; cases qc3) hkc₂ hdk₂ (by rw [hed]; exact hcf) hcp hres hck₂ (by rw [hec]; exact hvia)
        (by show (T.vm.calledUp m.cls ci index cL r0).assignable cell.cls cL = true; rw [al.assignable]; exact v3)
        (by show selectMethod e.platform (T.vm.calledUp m.cls ci index cL r0) cell.cls r0 = .method mk; rw [al.selectMethod]; exact hsel)
        (by show (T.vm.calledUp m.cls ci index cL r0).method? mk = some me; rw [al.method?]; exact hmm)
        (Or.inr (Or.inr (by show ((cell.cls :: (T.vm.calledUp m.cls ci index cL r0).superclasses cell.cls).any fun k => (declaredIn (T.vm.calledUp m.cls ci index cL r0) r.name r.desc k).any fun (_, y) => y.isPrivate || y.isStatic) = false; simp only [al.superclasses, al.declaredIn]; exact hway)))
        (Or.inl hpm) hab]
    exact hrest
  obtain ⟨v, B, Y', ⟨L, ⟨N', E', hQ⟩, hB⟩, q⟩ := hK m meth c ⟨T.setVm (T.vm.calledUp m.cls ci index cL r0), L0, cells, slots⟩ { (mkF m pc Ls stk) with stack := st } (.invokeinterface index count) mk (.ref a :: argsL).toArray Y1 rfl (hsz.trans C.hml.symm) (hb C.hby d) (by show 2 * 0 + (st.map fun v => v.category).sum ≤ W'; omega) (Y1.named hnd) ⟨rfl, eT, hc, hs⟩
  exact Goes.via (fun _ k => (hgo _ fun acts => by rw [doInvoke_state]; exact Steps.refl _).trans (q.trans k)) (K _ _ v hQ (st_back (T' := T) (h' := h) Y' hB N N' E'))
end OwnIfUp

theorem own_hb {Z : State} {args : Array Value} {t : Term} {a : Addr} {c : Cell} (et : ∀ idx, t.eval args Z none idx Z = some (.ref a)) (A : Arr Z Z.heap a c (.object "java/lang/Integer")) (hl : (Term.length t).eval args Z none [] Z = some (.int 256))
    (h : (Jvm.Cond.all t (.and (.exactly (.elem t (.index 0)) "java/lang/Integer") (.eq (.field (.elem t (.index 0)) "java/lang/Integer" "value" "I") (.sub (.index 0) (.int 128))))).value args Z none Z [] = some true) :
    ∀ j : Int32, ¬ j < 0 → j < 256 → ∃ b : Addr, c.slots.toList.getD j.toNatClampNeg .null = .ref b ∧ Exa Z Z.heap b "java/lang/Integer" ∧ Fld Z Z.heap b "java/lang/Integer" "value" "I" (.int (j - 128)) := by
  obtain ⟨a', c', e1, e2, e4⟩ := Term.length_spec hl
  cases (et []).symm.trans e1
  cases A.1.symm.trans (State.arrayAt?_spec e2).1
  have e3 : c.slots.size < 2 ^ 31 := by
    by_cases q : c.slots.size < 2147483648
    · exact q
    · exfalso; simp [Term.eval, et, e2, q] at hl
  have e5 : c.slots.size.toInt32 = 256 := Value.int.inj e4.symm
  have B := Bxs.start (val := fun j => .int (j - 128)) et A e3 e5 (by decide) h fun X j nn hX => eqv_i (by simp [Term.eval]; exact (back32 nn).1) hX
  intro j h0 h1
  obtain ⟨b, q1, q2, q3⟩ := B.2.2.2 j (fun q => by
    rcases q with q | q
    · exact h0 q
    · rw [B.2.1] at q
      simp only [Int32.lt_iff_toInt_lt, Int32.toNatClampNeg, Int32.reduceToInt] at *
      omega)
  refine ⟨b, ?_, q2, q3⟩
  rw [List.getD_eq_getElem?_getD, Array.getElem?_toList, q1]
  rfl
theorem own_hasl {c : Cell} : ∀ (vs : List Value) (i : Nat), (∀ j, j < vs.length → c.slots[i + j]? = vs[j]?) → HasL c i vs
  | [], _, _ => trivial
  | v :: r, i, h => ⟨by have := h 0 (Nat.zero_lt_succ _); simpa using this, own_hasl r (i + 1) fun j hj => by have := h (j + 1) (Nat.succ_lt_succ hj); rw [show i + 1 + j = i + (j + 1) by omega]; simpa using this⟩
theorem own_arrx {args : Array Value} {Z : State} {t : Term} {a : Addr} {cl : Cell} {ty : FieldType} {n : Int32} (dv : Value) (hf : Fit Z) (A : Arr Z Z.heap a cl ty) (ev : t.eval args Z none [] Z = some (.ref a)) (hl : (Term.length t).eval args Z none [] Z = some (.int n)) (hn : ¬ n < 0) : Arv Z Z.heap a cl.cls ty n cl.slots.toList dv := by
  obtain ⟨a', c', e1, e2, e4⟩ := Term.length_spec hl
  cases ev.symm.trans e1
  cases A.1.symm.trans (State.arrayAt?_spec e2).1
  have e3 : cl.slots.size < 2 ^ 31 := by
    by_cases q : cl.slots.size < 2147483648
    · exact q
    · exfalso; simp [Term.eval, ev, e2, q] at hl
  have e5 : cl.slots.size.toInt32 = n := Value.int.inj e4.symm
  have S : cl.slots.size = n.toNatClampNeg := by rw [← e5]; simp only [Int32.toNatClampNeg, len_toInt e3]; rfl
  exact Arv.start hf A e3 e5 hn (by rw [← S]; simp) (own_hasl _ 0 fun j hj => by simp)
def own_mx (x y : Int32) : Int32 := if x < y then y else x
theorem ef_rMx (m : MethodId) (i : Int32) (k : Int32) : entryFrame m #[(.int i), (.int k)] 2 = mkF m 0 #[.val (.int i), .val (.int k)] [] := by first | (simp [entryFrame, mkF, argsToLocals, Value.category]; done) | rfl
theorem d3_0 : Dc jdk_29_method_65_code 0 (.iload_n 0) 1 1 := ⟨by decide +kernel, rfl⟩
theorem d3_1 : Dc jdk_29_method_65_code 1 (.iload_n 1) 1 2 := ⟨by decide +kernel, rfl⟩
theorem d3_2 : Dj jdk_29_method_65_code 2 (.if_icmp .lt 7) 7 3 5 9 := ⟨by decide +kernel, rfl, by decide, by decide⟩
theorem d3_9 : Dc jdk_29_method_65_code 9 (.iload_n 1) 1 10 := ⟨by decide +kernel, rfl⟩
theorem d3_10 : Dc jdk_29_method_65_code 10 (.ireturn) 1 11 := ⟨by decide +kernel, rfl⟩
theorem d3_5 : Dc jdk_29_method_65_code 5 (.iload_n 0) 1 6 := ⟨by decide +kernel, rfl⟩
theorem d3_6 : Dj jdk_29_method_65_code 6 (.goto 4) 4 3 9 10 := ⟨by decide +kernel, rfl, by decide, by decide⟩
theorem rMx (l : Launch) {Z : State} {a0 : Array Value} (hw : ∀ d ∈ tables_1, d.before a0 Z = true) {h : Heap} (hE : Ext Z.heap h) (i : Int32) (k : Int32)   :
    Con l (⟨"java/lang/Math", "max", "(II)I"⟩ : MethodName) jdk_29_method_65_code 2 (some .int) [] ({ frames := 0, cells := 0, slots := 0, locals := 0 } : Room) Z #[(.int i), (.int k)] h (fun v' h' => v' = some (.int (own_mx i k)) ∧ h' = h) := by
  refine con_of (Jvm.Free.JP.mathPlain rfl (by decide +kernel)) hE (fun m => ef_rMx m i k) ?_
  intro p e s m below meth c T0 C X0
  have C : Cx p s m meth c Z "java/lang/Math" "max" jdk_29_method_65_code 2 (some .int) := C
  show Goes p e below _ T0 (mkF m 0 #[.val (.int i), .val (.int k)] [])
  refine g_iloadN C X0 d3_0 rfl (g_iloadN C X0 d3_1 rfl (g_icmp (hI_lt _ _) C X0 d3_2 (fun c2_1 => ?_) (fun c2_1 => ?_)))
  · refine g_iloadN C X0 d3_9 rfl ?_
    exact g_retI C X0 d3_10 (by decide) (by decide) ⟨by unfold own_mx; rw [if_pos c2_1], rfl⟩
  · refine g_iloadN C X0 d3_5 rfl (g_goto C X0 d3_6 ?_)
    exact g_retI C X0 d3_10 (by decide) (by decide) ⟨by unfold own_mx; rw [if_neg c2_1], rfl⟩
theorem pn_0 : plainName "java/util/Arrays" = true := by first | (simp [plainName, overriddenIn]; done) | decide +kernel
theorem ef_rRk9 (m : MethodId)  : entryFrame m #[(.int 9), (.int 2), (.int 9)] 3 = mkF m 0 #[.val (.int 9), .val (.int 2), .val (.int 9)] [] := by first | (simp [entryFrame, mkF, argsToLocals, Value.category]; done) | rfl
theorem d9_0 : Dc jdk_65_method_30_code 0 (.iload_n 1) 1 1 := ⟨by decide +kernel, rfl⟩
theorem d9_1 : Dc jdk_65_method_30_code 1 (.iload_n 2) 1 2 := ⟨by decide +kernel, rfl⟩
theorem d9_2 : Dj jdk_65_method_30_code 2 (.if_icmp .le 44) 44 3 5 46 := ⟨by decide +kernel, rfl, by decide, by decide⟩
theorem d9_46 : Dc jdk_65_method_30_code 46 (.iload_n 1) 1 47 := ⟨by decide +kernel, rfl⟩
theorem d9_47 : Dj jdk_65_method_30_code 47 (.ifCond .ge 12) 12 3 50 59 := ⟨by decide +kernel, rfl, by decide, by decide⟩
theorem d9_59 : Dc jdk_65_method_30_code 59 (.iload_n 2) 1 60 := ⟨by decide +kernel, rfl⟩
theorem d9_60 : Dc jdk_65_method_30_code 60 (.iload_n 0) 1 61 := ⟨by decide +kernel, rfl⟩
theorem d9_61 : Dj jdk_65_method_30_code 61 (.if_icmp .le 12) 12 3 64 73 := ⟨by decide +kernel, rfl, by decide, by decide⟩
theorem d9_73 : Dc jdk_65_method_30_code 73 (.return_) 1 74 := ⟨by decide +kernel, rfl⟩
theorem rRk9 (l : Launch) {Z : State} {a0 : Array Value} (hw : ∀ d ∈ tables_1, d.before a0 Z = true) {h : Heap} (hE : Ext Z.heap h)    :
    Con l (⟨"java/util/Arrays", "rangeCheck", "(III)V"⟩ : MethodName) jdk_65_method_30_code 3 none [] ({ frames := 0, cells := 0, slots := 0, locals := 0 } : Room) Z #[(.int 9), (.int 2), (.int 9)] h (fun v' h' => v' = none ∧ h' = h) := by
  refine con_of (plainFor_of_name pn_0) hE (fun m => ef_rRk9 m ) ?_
  intro p e s m below meth c T0 C X0
  have C : Cx p s m meth c Z "java/util/Arrays" "rangeCheck" jdk_65_method_30_code 3 none := C
  show Goes p e below _ T0 (mkF m 0 #[.val (.int 9), .val (.int 2), .val (.int 9)] [])
  refine g_iloadN C X0 d9_0 rfl (g_iloadN C X0 d9_1 rfl (g_icmpn (hI_le _ _) C X0 d9_2 (fun _ => ?_) (fun q => absurd q (by decide))))
  refine g_iloadN C X0 d9_46 rfl (g_ifn (h0_ge _) C X0 d9_47 (fun _ => ?_) (fun q => absurd q (by decide)))
  refine g_iloadN C X0 d9_59 rfl (g_iloadN C X0 d9_60 rfl (g_icmpn (hI_le _ _) C X0 d9_61 (fun _ => ?_) (fun q => absurd q (by decide))))
  exact g_retV C X0 d9_73 (by decide) (by decide) ⟨rfl, rfl⟩
theorem ef_rRk15 (m : MethodId)  : entryFrame m #[(.int 15), (.int 2), (.int 3)] 3 = mkF m 0 #[.val (.int 15), .val (.int 2), .val (.int 3)] [] := by first | (simp [entryFrame, mkF, argsToLocals, Value.category]; done) | rfl
theorem rRk15 (l : Launch) {Z : State} {a0 : Array Value} (hw : ∀ d ∈ tables_1, d.before a0 Z = true) {h : Heap} (hE : Ext Z.heap h)    :
    Con l (⟨"java/util/Arrays", "rangeCheck", "(III)V"⟩ : MethodName) jdk_65_method_30_code 3 none [] ({ frames := 0, cells := 0, slots := 0, locals := 0 } : Room) Z #[(.int 15), (.int 2), (.int 3)] h (fun v' h' => v' = none ∧ h' = h) := by
  refine con_of (plainFor_of_name pn_0) hE (fun m => ef_rRk15 m ) ?_
  intro p e s m below meth c T0 C X0
  have C : Cx p s m meth c Z "java/util/Arrays" "rangeCheck" jdk_65_method_30_code 3 none := C
  show Goes p e below _ T0 (mkF m 0 #[.val (.int 15), .val (.int 2), .val (.int 3)] [])
  refine g_iloadN C X0 d9_0 rfl (g_iloadN C X0 d9_1 rfl (g_icmpn (hI_le _ _) C X0 d9_2 (fun _ => ?_) (fun q => absurd q (by decide))))
  refine g_iloadN C X0 d9_46 rfl (g_ifn (h0_ge _) C X0 d9_47 (fun _ => ?_) (fun q => absurd q (by decide)))
  refine g_iloadN C X0 d9_59 rfl (g_iloadN C X0 d9_60 rfl (g_icmpn (hI_le _ _) C X0 d9_61 (fun _ => ?_) (fun q => absurd q (by decide))))
  exact g_retV C X0 d9_73 (by decide) (by decide) ⟨rfl, rfl⟩
theorem ef_rAe (m : MethodId) (hd : Addr) (f : Addr) : entryFrame m #[(.ref hd), (.int 2), (.int 9), (.ref f), (.int 2), (.int 3)] 8 = mkF m 0 #[.val (.ref hd), .val (.int 2), .val (.int 9), .val (.ref f), .val (.int 2), .val (.int 3), .unset, .unset] [] := by first | (simp [entryFrame, mkF, argsToLocals, Value.category]; done) | rfl
theorem d8_0 : Dc jdk_65_method_90_code 0 (.aload_n 0) 1 1 := ⟨by decide +kernel, rfl⟩
theorem d8_1 : Dc jdk_65_method_90_code 1 (.arraylength) 1 2 := ⟨by decide +kernel, rfl⟩
theorem d8_2 : Dc jdk_65_method_90_code 2 (.iload_n 1) 1 3 := ⟨by decide +kernel, rfl⟩
theorem d8_3 : Dc jdk_65_method_90_code 3 (.iload_n 2) 1 4 := ⟨by decide +kernel, rfl⟩
theorem d8_4 : Dc jdk_65_method_90_code 4 (.invokestatic 13) 3 7 := ⟨by decide +kernel, rfl⟩
theorem pd_0 : parseMethodDescriptor "(III)V" = some ⟨[.int, .int, .int], none⟩ := by decide +kernel
theorem d8_7 : Dc jdk_65_method_90_code 7 (.aload_n 3) 1 8 := ⟨by decide +kernel, rfl⟩
theorem d8_8 : Dc jdk_65_method_90_code 8 (.arraylength) 1 9 := ⟨by decide +kernel, rfl⟩
theorem d8_9 : Dc jdk_65_method_90_code 9 (.iload 4) 2 11 := ⟨by decide +kernel, rfl⟩
theorem d8_11 : Dc jdk_65_method_90_code 11 (.iload 5) 2 13 := ⟨by decide +kernel, rfl⟩
theorem d8_13 : Dc jdk_65_method_90_code 13 (.invokestatic 13) 3 16 := ⟨by decide +kernel, rfl⟩
theorem d8_16 : Dc jdk_65_method_90_code 16 (.iload_n 2) 1 17 := ⟨by decide +kernel, rfl⟩
theorem d8_17 : Dc jdk_65_method_90_code 17 (.iload_n 1) 1 18 := ⟨by decide +kernel, rfl⟩
theorem d8_18 : Dc jdk_65_method_90_code 18 (.isub) 1 19 := ⟨by decide +kernel, rfl⟩
theorem d8_19 : Dc jdk_65_method_90_code 19 (.istore 6) 2 21 := ⟨by decide +kernel, rfl⟩
theorem d8_21 : Dc jdk_65_method_90_code 21 (.iload 5) 2 23 := ⟨by decide +kernel, rfl⟩
theorem d8_23 : Dc jdk_65_method_90_code 23 (.iload 4) 2 25 := ⟨by decide +kernel, rfl⟩
theorem d8_25 : Dc jdk_65_method_90_code 25 (.isub) 1 26 := ⟨by decide +kernel, rfl⟩
theorem d8_26 : Dc jdk_65_method_90_code 26 (.istore 7) 2 28 := ⟨by decide +kernel, rfl⟩
theorem d8_28 : Dc jdk_65_method_90_code 28 (.iload 6) 2 30 := ⟨by decide +kernel, rfl⟩
theorem d8_30 : Dc jdk_65_method_90_code 30 (.iload 7) 2 32 := ⟨by decide +kernel, rfl⟩
theorem d8_32 : Dj jdk_65_method_90_code 32 (.if_icmp .eq 5) 5 3 35 37 := ⟨by decide +kernel, rfl, by decide, by decide⟩
theorem d8_35 : Dc jdk_65_method_90_code 35 (.iconst 0) 1 36 := ⟨by decide +kernel, rfl⟩
theorem d8_36 : Dc jdk_65_method_90_code 36 (.ireturn) 1 37 := ⟨by decide +kernel, rfl⟩
theorem rAe (l : Launch) {Z : State} {a0 : Array Value} (hw : ∀ d ∈ tables_1, d.before a0 Z = true) {h : Heap} (hE : Ext Z.heap h) (hd : Addr) (f : Addr) (kh kf : ClassId) (vh : List Value) (VH : Arv Z h hd kh .byte 9 vh (.int 0)) (VF : Arv Z h f kf .byte 15 [(.int 56), (.int 61), (.int 65), (.int 1), (.int 57), (.int 61), (.int 48), (.int 1), (.int 49), (.int 48), (.int 61), (.int 48), (.int 57), (.int 52), (.int 1)] (.int (0 : Int32))) :
    Con l (⟨"java/util/Arrays", "equals", "([BII[BII)Z"⟩ : MethodName) jdk_65_method_90_code 8 (some .boolean) [] ({ frames := 1, cells := 0, slots := 0, locals := 24 } : Room) Z #[(.ref hd), (.int 2), (.int 9), (.ref f), (.int 2), (.int 3)] h (fun v' h' => v' = some (.int 0) ∧ h' = h) := by
  refine con_of (plainFor_of_name pn_0) hE (fun m => ef_rAe m hd f) ?_
  intro p e s m below meth c T0 C X0
  have C : Cx p s m meth c Z "java/util/Arrays" "equals" jdk_65_method_90_code 8 (some .boolean) := C
  show Goes p e below _ T0 (mkF m 0 #[.val (.ref hd), .val (.int 2), .val (.int 9), .val (.ref f), .val (.int 2), .val (.int 3), .unset, .unset] [])
  refine g_aloadN C X0 d8_0 rfl rfl (g_arraylength C X0 VH d8_1 (g_iloadN C X0 d8_2 rfl (g_iloadN C X0 d8_3 rfl (g_staticPV (argsL := [(.int 9), (.int 2), (.int 9)]) (st := []) C X0 (wd hw 48 rfl) (wd hw 49 rfl) (wd hw 46 rfl) (wd hw 50 rfl) (by decide) (pay_of (W' := 0) (rRk9 l hw X0.ext) C.hZ (wd hw 50 rfl) (wd hw 46 rfl) (by decide) (by decide)) pd_0 rfl rfl _ rfl (Nat.le_of_eq rfl) d8_4 (by decide) (by decide) (fun T2 X2 => ?_)))))
  refine g_aloadN C X2 d8_7 rfl rfl (g_arraylength C X2 VF d8_8 (g_iload C X2 d8_9 rfl (g_iload C X2 d8_11 rfl (g_staticPV (argsL := [(.int 15), (.int 2), (.int 3)]) (st := []) C X2 (wd hw 48 rfl) (wd hw 49 rfl) (wd hw 46 rfl) (wd hw 50 rfl) (by decide) (pay_of (W' := 0) (rRk15 l hw X2.ext) C.hZ (wd hw 50 rfl) (wd hw 46 rfl) (by decide) (by decide)) pd_0 rfl rfl _ rfl (Nat.le_of_eq rfl) d8_13 (by decide) (by decide) (fun T3 X3 => ?_)))))
  refine g_iloadN C X3 d8_16 rfl (g_iloadN C X3 d8_17 rfl (g_isub C X3 d8_18 (g_istore C X3 d8_19 (l' := #[.val (.ref hd), .val (.int 2), .val (.int 9), .val (.ref f), .val (.int 2), .val (.int 3), .val (.int 7), .unset]) rfl (g_iload C X3 d8_21 rfl (g_iload C X3 d8_23 rfl (g_isub C X3 d8_25 (g_istore C X3 d8_26 (l' := #[.val (.ref hd), .val (.int 2), .val (.int 9), .val (.ref f), .val (.int 2), .val (.int 3), .val (.int 7), .val (.int 1)]) rfl (g_iload C X3 d8_28 rfl (g_iload C X3 d8_30 rfl (g_icmp (hI_eq _ _) C X3 d8_32 (fun q => absurd q (by decide)) (fun _ => ?_)))))))))))
  refine g_iconst 0 C X3 d8_35 rfl ?_
  exact g_retN C X3 (by simp) d8_36 (0 : Int32) rfl (by decide) (by decide) ⟨rfl, rfl⟩
theorem pn_1 : plainName "com/example/halyard/halyard/fix/FixVersion" = true := by first | (simp [plainName, overriddenIn]; done) | decide +kernel
theorem ef_rOb (m : MethodId) (f : Addr) : entryFrame m #[(.ref f), (.int 2), (.int 3)] 7 = mkF m 0 #[.val (.ref f), .val (.int 2), .val (.int 3), .unset, .unset, .unset, .unset] [] := by first | (simp [entryFrame, mkF, argsToLocals, Value.category]; done) | rfl
theorem d7_0 : Dc prog_28_method_6_code 0 (.getstatic 53) 3 3 := ⟨by decide +kernel, rfl⟩
theorem d7_3 : Dc prog_28_method_6_code 3 (.astore_n 3) 1 4 := ⟨by decide +kernel, rfl⟩
theorem d7_4 : Dc prog_28_method_6_code 4 (.aload_n 3) 1 5 := ⟨by decide +kernel, rfl⟩
theorem d7_5 : Dc prog_28_method_6_code 5 (.arraylength) 1 6 := ⟨by decide +kernel, rfl⟩
theorem d7_6 : Dc prog_28_method_6_code 6 (.istore 4) 2 8 := ⟨by decide +kernel, rfl⟩
theorem d7_8 : Dc prog_28_method_6_code 8 (.iconst 0) 1 9 := ⟨by decide +kernel, rfl⟩
theorem d7_9 : Dc prog_28_method_6_code 9 (.istore 5) 2 11 := ⟨by decide +kernel, rfl⟩
theorem d7_11 : Dc prog_28_method_6_code 11 (.iload 5) 2 13 := ⟨by decide +kernel, rfl⟩
theorem d7_13 : Dc prog_28_method_6_code 13 (.iload 4) 2 15 := ⟨by decide +kernel, rfl⟩
theorem d7_15 : Dj prog_28_method_6_code 15 (.if_icmp .ge 39) 39 3 18 54 := ⟨by decide +kernel, rfl, by decide, by decide⟩
theorem d7_18 : Dc prog_28_method_6_code 18 (.aload_n 3) 1 19 := ⟨by decide +kernel, rfl⟩
theorem d7_19 : Dc prog_28_method_6_code 19 (.iload 5) 2 21 := ⟨by decide +kernel, rfl⟩
theorem d7_21 : Dc prog_28_method_6_code 21 (.aaload) 1 22 := ⟨by decide +kernel, rfl⟩
theorem d7_22 : Dc prog_28_method_6_code 22 (.astore 6) 2 24 := ⟨by decide +kernel, rfl⟩
theorem d7_24 : Dc prog_28_method_6_code 24 (.aload 6) 2 26 := ⟨by decide +kernel, rfl⟩
theorem d7_26 : Dc prog_28_method_6_code 26 (.getfield 49) 3 29 := ⟨by decide +kernel, rfl⟩
theorem d7_29 : Dc prog_28_method_6_code 29 (.iconst 2) 1 30 := ⟨by decide +kernel, rfl⟩
theorem d7_30 : Dc prog_28_method_6_code 30 (.aload 6) 2 32 := ⟨by decide +kernel, rfl⟩
theorem d7_32 : Dc prog_28_method_6_code 32 (.getfield 49) 3 35 := ⟨by decide +kernel, rfl⟩
theorem d7_35 : Dc prog_28_method_6_code 35 (.arraylength) 1 36 := ⟨by decide +kernel, rfl⟩
theorem d7_36 : Dc prog_28_method_6_code 36 (.aload_n 0) 1 37 := ⟨by decide +kernel, rfl⟩
theorem d7_37 : Dc prog_28_method_6_code 37 (.iload_n 1) 1 38 := ⟨by decide +kernel, rfl⟩
theorem d7_38 : Dc prog_28_method_6_code 38 (.iload_n 2) 1 39 := ⟨by decide +kernel, rfl⟩
theorem d7_39 : Dc prog_28_method_6_code 39 (.invokestatic 60) 3 42 := ⟨by decide +kernel, rfl⟩
theorem pd_1 : parseMethodDescriptor "([BII[BII)Z" = some ⟨[(.array .byte), .int, .int, (.array .byte), .int, .int], some .boolean⟩ := by decide +kernel
theorem d7_42 : Dj prog_28_method_6_code 42 (.ifCond .eq 6) 6 3 45 48 := ⟨by decide +kernel, rfl, by decide, by decide⟩
theorem d7_48 : Dc prog_28_method_6_code 48 (.iinc 5 1) 3 51 := ⟨by decide +kernel, rfl⟩
theorem d7_51 : Dj prog_28_method_6_code 51 (.goto (-40)) (-40) 3 54 11 := ⟨by decide +kernel, rfl, by decide, by decide⟩
theorem d7_54 : Dc prog_28_method_6_code 54 (.aconst_null) 1 55 := ⟨by decide +kernel, rfl⟩
theorem d7_55 : Dc prog_28_method_6_code 55 (.areturn) 1 56 := ⟨by decide +kernel, rfl⟩
theorem rOb (l : Launch) {Z : State} {a0 : Array Value} (hw : ∀ d ∈ tables_1, d.before a0 Z = true) {h : Heap} (hE : Ext Z.heap h) (f : Addr) (p_1 p_6 p_10 p_15 p_19 p_24 : Addr) (k_30 k_32 k_35 k_38 : ClassId) (vs_33 vs_36 vs_39 : List Value) (kf : ClassId) (S_3 : Sta Z Z.heap "com/example/halyard/halyard/fix/FixVersion" "VERSIONS" "[Lcom/example/halyard/halyard/fix/FixVersion;" (.ref p_1)) (S_8 : Sta Z Z.heap "com/example/halyard/halyard/fix/FixVersion" "FIX_4_2" "Lcom/example/halyard/halyard/fix/FixVersion;" (.ref p_6)) (E_9 : Exa Z Z.heap p_6 "com/example/halyard/halyard/fix/FixVersion") (F_12 : Fld Z Z.heap p_6 "com/example/halyard/halyard/fix/FixVersion" "head" "[B" (.ref p_10)) (S_17 : Sta Z Z.heap "com/example/halyard/halyard/fix/FixVersion" "FIX_4_4" "Lcom/example/halyard/halyard/fix/FixVersion;" (.ref p_15)) (E_18 : Exa Z Z.heap p_15 "com/example/halyard/halyard/fix/FixVersion") (F_21 : Fld Z Z.heap p_15 "com/example/halyard/halyard/fix/FixVersion" "head" "[B" (.ref p_19)) (S_26 : Sta Z Z.heap "com/example/halyard/halyard/fix/FixMessage" "CHECK_SUM_TAG" "[B" (.ref p_24)) (V_29 : Arv Z Z.heap p_1 k_30 (.object "com/example/halyard/halyard/fix/FixVersion") 2 [(.ref p_6), (.ref p_15)] .null) (V_31 : Arv Z Z.heap p_10 k_32 .byte 9 vs_33 (.int 0)) (V_34 : Arv Z Z.heap p_19 k_35 .byte 9 vs_36 (.int 0)) (V_37 : Arv Z Z.heap p_24 k_38 .byte 3 vs_39 (.int 0)) (VF : Arv Z h f kf .byte 15 [(.int 56), (.int 61), (.int 65), (.int 1), (.int 57), (.int 61), (.int 48), (.int 1), (.int 49), (.int 48), (.int 61), (.int 48), (.int 57), (.int 52), (.int 1)] (.int (0 : Int32))) :
    Con l (⟨"com/example/halyard/halyard/fix/FixVersion", "ofBeginString", "([BII)Lcom/example/halyard/halyard/fix/FixVersion;"⟩ : MethodName) prog_28_method_6_code 7 (some (.object "com/example/halyard/halyard/fix/FixVersion")) [] ({ frames := 2, cells := 0, slots := 0, locals := 48 } : Room) Z #[(.ref f), (.int 2), (.int 3)] h (fun v' h' => v' = some .null ∧ h' = h) := by
  refine con_of (plainFor_of_name pn_1) hE (fun m => ef_rOb m f) ?_
  intro p e s m below meth c T0 C X0
  have C : Cx p s m meth c Z "com/example/halyard/halyard/fix/FixVersion" "ofBeginString" prog_28_method_6_code 7 (some (.object "com/example/halyard/halyard/fix/FixVersion")) := C
  show Goes p e below _ T0 (mkF m 0 #[.val (.ref f), .val (.int 2), .val (.int 3), .unset, .unset, .unset, .unset] [])
  refine g_getstatic (host := "") C X0 (Or.inl (wd hw 39 rfl)) Via.refl S_3 d7_0 (fun T4 X4 => ?_)
  refine g_astoreN C X4 d7_3 rfl (l' := #[.val (.ref f), .val (.int 2), .val (.int 3), .val (.ref p_1), .unset, .unset, .unset]) rfl (g_aloadN C X4 d7_4 rfl rfl (g_arraylength C X4 (Arv.ext V_29 X4.ext) d7_5 (g_istore C X4 d7_6 (l' := #[.val (.ref f), .val (.int 2), .val (.int 3), .val (.ref p_1), .val (.int 2), .unset, .unset]) rfl (g_iconst 0 C X4 d7_8 rfl (g_istore C X4 d7_9 (l' := #[.val (.ref f), .val (.int 2), .val (.int 3), .val (.ref p_1), .val (.int 2), .val (.int 0), .unset]) rfl (g_iload C X4 d7_11 rfl (g_iload C X4 d7_13 rfl (g_icmpn (hI_ge _ _) C X4 d7_15 (fun q => absurd (by decide) q) (fun _ => ?_)))))))))
  refine g_aloadN C X4 d7_18 rfl rfl (g_iload C X4 d7_19 rfl (g_aaload C X4 (Arv.ext V_29 X4.ext) rfl d7_21 (by decide) (by decide) rfl (g_astore C X4 d7_22 rfl (l' := #[.val (.ref f), .val (.int 2), .val (.int 3), .val (.ref p_1), .val (.int 2), .val (.int 0), .val (.ref p_6)]) rfl (g_aload C X4 d7_24 rfl rfl (g_getfield (host := "") C X4 (Or.inl (wd hw 42 rfl)) Via.refl (Fld.ext X4.ext F_12) d7_26 (fun T5 X5 => ?_))))))
  refine g_iconst 2 C X5 d7_29 rfl (g_aload C X5 d7_30 rfl rfl (g_getfield (host := "") C X5 (Or.inl (wd hw 42 rfl)) Via.refl (Fld.ext X5.ext F_12) d7_32 (fun T6 X6 => ?_)))
  refine g_arraylength C X6 (Arv.ext V_31 X6.ext) d7_35 (g_aloadN C X6 d7_36 rfl rfl (g_iloadN C X6 d7_37 rfl (g_iloadN C X6 d7_38 rfl (g_staticP (argsL := [(.ref p_10), (.int 2), (.int 9), (.ref f), (.int 2), (.int 3)]) (st := []) C X6 (wd hw 44 rfl) (wd hw 45 rfl) (wd hw 46 rfl) (wd hw 47 rfl) (by decide) (pay_of (W' := 0) (rAe l hw X6.ext p_10 f k_32 kf _ (Arv.ext V_31 X6.ext) VF) C.hZ (wd hw 47 rfl) (wd hw 46 rfl) (by decide) (by decide)) pd_1 rfl rfl _ rfl (Nat.le_of_eq rfl) d7_39 (by decide) (by decide) (fun T7 X7 => ?_)))))
  refine g_if (h0_eq _) C X7 d7_42 (fun _ => ?_) (fun q => absurd (by decide) q)
  refine g_iinc 1 C X7 d7_48 rfl rfl (l' := #[.val (.ref f), .val (.int 2), .val (.int 3), .val (.ref p_1), .val (.int 2), .val (.int 1), .val (.ref p_6)]) rfl (g_goto C X7 d7_51 (g_iload C X7 d7_11 rfl (g_iload C X7 d7_13 rfl (g_icmpn (hI_ge _ _) C X7 d7_15 (fun q => absurd (by decide) q) (fun _ => ?_)))))
  refine g_aloadN C X7 d7_18 rfl rfl (g_iload C X7 d7_19 rfl (g_aaload C X7 (Arv.ext V_29 X7.ext) rfl d7_21 (by decide) (by decide) rfl (g_astore C X7 d7_22 rfl (l' := #[.val (.ref f), .val (.int 2), .val (.int 3), .val (.ref p_1), .val (.int 2), .val (.int 1), .val (.ref p_15)]) rfl (g_aload C X7 d7_24 rfl rfl (g_getfield (host := "") C X7 (Or.inl (wd hw 42 rfl)) Via.refl (Fld.ext X7.ext F_21) d7_26 (fun T8 X8 => ?_))))))
  refine g_iconst 2 C X8 d7_29 rfl (g_aload C X8 d7_30 rfl rfl (g_getfield (host := "") C X8 (Or.inl (wd hw 42 rfl)) Via.refl (Fld.ext X8.ext F_21) d7_32 (fun T9 X9 => ?_)))
  refine g_arraylength C X9 (Arv.ext V_34 X9.ext) d7_35 (g_aloadN C X9 d7_36 rfl rfl (g_iloadN C X9 d7_37 rfl (g_iloadN C X9 d7_38 rfl (g_staticP (argsL := [(.ref p_19), (.int 2), (.int 9), (.ref f), (.int 2), (.int 3)]) (st := []) C X9 (wd hw 44 rfl) (wd hw 45 rfl) (wd hw 46 rfl) (wd hw 47 rfl) (by decide) (pay_of (W' := 0) (rAe l hw X9.ext p_19 f k_35 kf _ (Arv.ext V_34 X9.ext) VF) C.hZ (wd hw 47 rfl) (wd hw 46 rfl) (by decide) (by decide)) pd_1 rfl rfl _ rfl (Nat.le_of_eq rfl) d7_39 (by decide) (by decide) (fun T10 X10 => ?_)))))
  refine g_if (h0_eq _) C X10 d7_42 (fun _ => ?_) (fun q => absurd (by decide) q)
  refine g_iinc 1 C X10 d7_48 rfl rfl (l' := #[.val (.ref f), .val (.int 2), .val (.int 3), .val (.ref p_1), .val (.int 2), .val (.int 2), .val (.ref p_15)]) rfl (g_goto C X10 d7_51 (g_iload C X10 d7_11 rfl (g_iload C X10 d7_13 rfl (g_icmpn (hI_ge _ _) C X10 d7_15 (fun _ => ?_) (fun q => absurd q (by decide))))))
  refine g_aconst_null C X10 d7_54 ?_
  exact g_retA C X10 rfl rfl d7_55 (by decide) (by decide) ⟨rfl, rfl⟩
theorem pn_2 : plainName "com/example/halyard/halyard/fix/FixMessage" = true := by first | (simp [plainName, overriddenIn]; done) | decide +kernel
theorem ef_rVia (m : MethodId) (m_ : Addr) : entryFrame m #[(.ref m_), (.int 1), (.int 0), (.int 1)] 7 = mkF m 0 #[.val (.ref m_), .val (.int 1), .val (.int 0), .val (.int 1), .unset, .unset, .unset] [] := by first | (simp [entryFrame, mkF, argsToLocals, Value.category]; done) | rfl
theorem d10_0 : Dc prog_27_method_6_code 0 (.aload_n 0) 1 1 := ⟨by decide +kernel, rfl⟩
theorem d10_1 : Dc prog_27_method_6_code 1 (.getfield 21) 3 4 := ⟨by decide +kernel, rfl⟩
theorem d10_4 : Dc prog_27_method_6_code 4 (.iload_n 1) 1 5 := ⟨by decide +kernel, rfl⟩
theorem d10_5 : Dc prog_27_method_6_code 5 (.iaload) 1 6 := ⟨by decide +kernel, rfl⟩
theorem d10_6 : Dc prog_27_method_6_code 6 (.istore 4) 2 8 := ⟨by decide +kernel, rfl⟩
theorem d10_8 : Dc prog_27_method_6_code 8 (.aload_n 0) 1 9 := ⟨by decide +kernel, rfl⟩
theorem d10_9 : Dc prog_27_method_6_code 9 (.getfield 24) 3 12 := ⟨by decide +kernel, rfl⟩
theorem d10_12 : Dc prog_27_method_6_code 12 (.iload_n 1) 1 13 := ⟨by decide +kernel, rfl⟩
theorem d10_13 : Dc prog_27_method_6_code 13 (.iaload) 1 14 := ⟨by decide +kernel, rfl⟩
theorem d10_14 : Dc prog_27_method_6_code 14 (.istore 5) 2 16 := ⟨by decide +kernel, rfl⟩
theorem d10_16 : Dc prog_27_method_6_code 16 (.iload_n 2) 1 17 := ⟨by decide +kernel, rfl⟩
theorem d10_17 : Dc prog_27_method_6_code 17 (.istore 6) 2 19 := ⟨by decide +kernel, rfl⟩
theorem d10_19 : Dc prog_27_method_6_code 19 (.iinc 5 (-1)) 3 22 := ⟨by decide +kernel, rfl⟩
theorem d10_22 : Dc prog_27_method_6_code 22 (.iload 5) 2 24 := ⟨by decide +kernel, rfl⟩
theorem d10_24 : Dc prog_27_method_6_code 24 (.iload 4) 2 26 := ⟨by decide +kernel, rfl⟩
theorem d10_26 : Dj prog_27_method_6_code 26 (.if_icmp .lt 21) 21 3 29 47 := ⟨by decide +kernel, rfl, by decide, by decide⟩
theorem d10_29 : Dc prog_27_method_6_code 29 (.aload_n 0) 1 30 := ⟨by decide +kernel, rfl⟩
theorem d10_30 : Dc prog_27_method_6_code 30 (.getfield 7) 3 33 := ⟨by decide +kernel, rfl⟩
theorem d10_33 : Dc prog_27_method_6_code 33 (.iload 5) 2 35 := ⟨by decide +kernel, rfl⟩
theorem d10_35 : Dc prog_27_method_6_code 35 (.baload) 1 36 := ⟨by decide +kernel, rfl⟩
theorem d10_36 : Dc prog_27_method_6_code 36 (.bipush 48) 2 38 := ⟨by decide +kernel, rfl⟩
theorem d10_38 : Dc prog_27_method_6_code 38 (.iload 6) 2 40 := ⟨by decide +kernel, rfl⟩
theorem d10_40 : Dc prog_27_method_6_code 40 (.bipush 10) 2 42 := ⟨by decide +kernel, rfl⟩
theorem d10_42 : Dc prog_27_method_6_code 42 (.irem) 1 43 := ⟨by decide +kernel, rfl⟩
theorem d10_43 : Dc prog_27_method_6_code 43 (.iadd) 1 44 := ⟨by decide +kernel, rfl⟩
theorem d10_44 : Dj prog_27_method_6_code 44 (.if_icmp .eq 5) 5 3 47 49 := ⟨by decide +kernel, rfl, by decide, by decide⟩
theorem d10_49 : Dc prog_27_method_6_code 49 (.iload 6) 2 51 := ⟨by decide +kernel, rfl⟩
theorem d10_51 : Dc prog_27_method_6_code 51 (.bipush 10) 2 53 := ⟨by decide +kernel, rfl⟩
theorem d10_53 : Dc prog_27_method_6_code 53 (.idiv) 1 54 := ⟨by decide +kernel, rfl⟩
theorem d10_54 : Dc prog_27_method_6_code 54 (.istore 6) 2 56 := ⟨by decide +kernel, rfl⟩
theorem d10_56 : Dc prog_27_method_6_code 56 (.iload 6) 2 58 := ⟨by decide +kernel, rfl⟩
theorem d10_58 : Dj prog_27_method_6_code 58 (.ifCond .gt (-39)) (-39) 3 61 19 := ⟨by decide +kernel, rfl, by decide, by decide⟩
theorem d10_61 : Dc prog_27_method_6_code 61 (.aload_n 0) 1 62 := ⟨by decide +kernel, rfl⟩
theorem d10_62 : Dc prog_27_method_6_code 62 (.getfield 24) 3 65 := ⟨by decide +kernel, rfl⟩
theorem d10_65 : Dc prog_27_method_6_code 65 (.iload_n 1) 1 66 := ⟨by decide +kernel, rfl⟩
theorem d10_66 : Dc prog_27_method_6_code 66 (.iaload) 1 67 := ⟨by decide +kernel, rfl⟩
theorem d10_67 : Dc prog_27_method_6_code 67 (.iload 5) 2 69 := ⟨by decide +kernel, rfl⟩
theorem d10_69 : Dc prog_27_method_6_code 69 (.isub) 1 70 := ⟨by decide +kernel, rfl⟩
theorem d10_70 : Dc prog_27_method_6_code 70 (.iload_n 3) 1 71 := ⟨by decide +kernel, rfl⟩
theorem d10_71 : Dj prog_27_method_6_code 71 (.if_icmp .lt (-52)) (-52) 3 74 19 := ⟨by decide +kernel, rfl, by decide, by decide⟩
theorem d10_74 : Dc prog_27_method_6_code 74 (.iload 5) 2 76 := ⟨by decide +kernel, rfl⟩
theorem d10_76 : Dc prog_27_method_6_code 76 (.iload 4) 2 78 := ⟨by decide +kernel, rfl⟩
theorem d10_78 : Dj prog_27_method_6_code 78 (.if_icmp .ne 7) 7 3 81 85 := ⟨by decide +kernel, rfl, by decide, by decide⟩
theorem d10_81 : Dc prog_27_method_6_code 81 (.iconst 1) 1 82 := ⟨by decide +kernel, rfl⟩
theorem d10_82 : Dj prog_27_method_6_code 82 (.goto 4) 4 3 85 86 := ⟨by decide +kernel, rfl, by decide, by decide⟩
theorem d10_86 : Dc prog_27_method_6_code 86 (.ireturn) 1 87 := ⟨by decide +kernel, rfl⟩
theorem rVia (l : Launch) {Z : State} {a0 : Array Value} (hw : ∀ d ∈ tables_1, d.before a0 Z = true) {h : Heap} (hE : Ext Z.heap h) (m_ : Addr) (f ta va ve : Addr) (kf k1 k2 k3 : ClassId) (EM : Exa Z h m_ "com/example/halyard/halyard/fix/FixMessage") (F_bytes : Fld Z h m_ "com/example/halyard/halyard/fix/FixMessage" "bytes" "[B" (.ref f)) (F_count : Fld Z h m_ "com/example/halyard/halyard/fix/FixMessage" "count" "I" (.int 3)) (F_tags : Fld Z h m_ "com/example/halyard/halyard/fix/FixMessage" "tags" "[I" (.ref ta)) (F_valueStarts : Fld Z h m_ "com/example/halyard/halyard/fix/FixMessage" "valueStarts" "[I" (.ref va)) (F_valueEnds : Fld Z h m_ "com/example/halyard/halyard/fix/FixMessage" "valueEnds" "[I" (.ref ve)) (VF : Arv Z h f kf .byte 15 [(.int 56), (.int 61), (.int 65), (.int 1), (.int 57), (.int 61), (.int 48), (.int 1), (.int 49), (.int 48), (.int 61), (.int 48), (.int 57), (.int 52), (.int 1)] (.int (0 : Int32))) (V1 : Arv Z h ta k1 .int 16 [(.int 8), (.int 9), (.int 10), (.int 0), (.int 0), (.int 0), (.int 0), (.int 0), (.int 0), (.int 0), (.int 0), (.int 0), (.int 0), (.int 0), (.int 0), (.int 0)] (.int (0 : Int32))) (V2 : Arv Z h va k2 .int 16 [(.int 2), (.int 6), (.int 11), (.int 0), (.int 0), (.int 0), (.int 0), (.int 0), (.int 0), (.int 0), (.int 0), (.int 0), (.int 0), (.int 0), (.int 0), (.int 0)] (.int (0 : Int32))) (V3 : Arv Z h ve k3 .int 16 [(.int 3), (.int 7), (.int 14), (.int 0), (.int 0), (.int 0), (.int 0), (.int 0), (.int 0), (.int 0), (.int 0), (.int 0), (.int 0), (.int 0), (.int 0), (.int 0)] (.int (0 : Int32))) :
    Con l (⟨"com/example/halyard/halyard/fix/FixMessage", "valueIs", "(III)Z"⟩ : MethodName) prog_27_method_6_code 7 (some .boolean) [] ({ frames := 0, cells := 0, slots := 0, locals := 0 } : Room) Z #[(.ref m_), (.int 1), (.int 0), (.int 1)] h (fun v' h' => v' = some (.int 1) ∧ h' = h) := by
  refine con_of (plainFor_of_name pn_2) hE (fun m => ef_rVia m m_) ?_
  intro p e s m below meth c T0 C X0
  have C : Cx p s m meth c Z "com/example/halyard/halyard/fix/FixMessage" "valueIs" prog_27_method_6_code 7 (some .boolean) := C
  show Goes p e below _ T0 (mkF m 0 #[.val (.ref m_), .val (.int 1), .val (.int 0), .val (.int 1), .unset, .unset, .unset] [])
  refine g_aloadN C X0 d10_0 rfl rfl (g_getfield (host := "") C X0 (Or.inl (wd hw 27 rfl)) Via.refl F_valueStarts d10_1 (fun T11 X11 => ?_))
  refine g_iloadN C X11 d10_4 rfl (g_iaload C X11 V2 d10_5 (by decide) (by decide) rfl (g_istore C X11 d10_6 (l' := #[.val (.ref m_), .val (.int 1), .val (.int 0), .val (.int 1), .val (.int 6), .unset, .unset]) rfl (g_aloadN C X11 d10_8 rfl rfl (g_getfield (host := "") C X11 (Or.inl (wd hw 29 rfl)) Via.refl F_valueEnds d10_9 (fun T12 X12 => ?_)))))
  refine g_iloadN C X12 d10_12 rfl (g_iaload C X12 V3 d10_13 (by decide) (by decide) rfl (g_istore C X12 d10_14 (l' := #[.val (.ref m_), .val (.int 1), .val (.int 0), .val (.int 1), .val (.int 6), .val (.int 7), .unset]) rfl (g_iloadN C X12 d10_16 rfl (g_istore C X12 d10_17 (l' := #[.val (.ref m_), .val (.int 1), .val (.int 0), .val (.int 1), .val (.int 6), .val (.int 7), .val (.int 0)]) rfl (g_iinc (-1) C X12 d10_19 rfl rfl (l' := #[.val (.ref m_), .val (.int 1), .val (.int 0), .val (.int 1), .val (.int 6), .val (.int 6), .val (.int 0)]) rfl (g_iload C X12 d10_22 rfl (g_iload C X12 d10_24 rfl (g_icmp (hI_lt _ _) C X12 d10_26 (fun q => absurd q (by decide)) (fun _ => ?_)))))))))
  refine g_aloadN C X12 d10_29 rfl rfl (g_getfield (host := "") C X12 (Or.inl (wd hw 21 rfl)) Via.refl F_bytes d10_30 (fun T13 X13 => ?_))
  refine g_iload C X13 d10_33 rfl (g_baload C X13 VF d10_35 (by decide) (by decide) rfl (g_bipush 48 C X13 d10_36 rfl (g_iload C X13 d10_38 rfl (g_bipush 10 C X13 d10_40 rfl (g_irem C X13 d10_42 (by decide) (g_iadd C X13 d10_43 (g_icmp (hI_eq _ _) C X13 d10_44 (fun _ => ?_) (fun q => absurd (by decide) q))))))))
  refine g_iload C X13 d10_49 rfl (g_bipush 10 C X13 d10_51 rfl (g_idiv C X13 d10_53 (by decide) (g_istore C X13 d10_54 (l' := #[.val (.ref m_), .val (.int 1), .val (.int 0), .val (.int 1), .val (.int 6), .val (.int 6), .val (.int 0)]) rfl (g_iload C X13 d10_56 rfl (g_if (h0_gt _) C X13 d10_58 (fun q => absurd q (by decide)) (fun _ => ?_))))))
  refine g_aloadN C X13 d10_61 rfl rfl (g_getfield (host := "") C X13 (Or.inl (wd hw 29 rfl)) Via.refl F_valueEnds d10_62 (fun T14 X14 => ?_))
  refine g_iloadN C X14 d10_65 rfl (g_iaload C X14 V3 d10_66 (by decide) (by decide) rfl (g_iload C X14 d10_67 rfl (g_isub C X14 d10_69 (g_iloadN C X14 d10_70 rfl (g_icmp (hI_lt _ _) C X14 d10_71 (fun q => absurd q (by decide)) (fun _ => ?_))))))
  refine g_iload C X14 d10_74 rfl (g_iload C X14 d10_76 rfl (g_icmpn (hI_ne _ _) C X14 d10_78 (fun q => absurd (by decide) q) (fun _ => ?_)))
  refine g_iconst 1 C X14 d10_81 rfl (g_goto C X14 d10_82 ?_)
  exact g_retN C X14 (by simp) d10_86 (1 : Int32) rfl (by decide) (by decide) ⟨rfl, rfl⟩
theorem ef_rVib (m : MethodId) (m_ : Addr) : entryFrame m #[(.ref m_), (.int 2), (.int 94), (.int 3)] 7 = mkF m 0 #[.val (.ref m_), .val (.int 2), .val (.int 94), .val (.int 3), .unset, .unset, .unset] [] := by first | (simp [entryFrame, mkF, argsToLocals, Value.category]; done) | rfl
theorem rVib (l : Launch) {Z : State} {a0 : Array Value} (hw : ∀ d ∈ tables_1, d.before a0 Z = true) {h : Heap} (hE : Ext Z.heap h) (m_ : Addr) (f ta va ve : Addr) (kf k1 k2 k3 : ClassId) (EM : Exa Z h m_ "com/example/halyard/halyard/fix/FixMessage") (F_bytes : Fld Z h m_ "com/example/halyard/halyard/fix/FixMessage" "bytes" "[B" (.ref f)) (F_count : Fld Z h m_ "com/example/halyard/halyard/fix/FixMessage" "count" "I" (.int 3)) (F_tags : Fld Z h m_ "com/example/halyard/halyard/fix/FixMessage" "tags" "[I" (.ref ta)) (F_valueStarts : Fld Z h m_ "com/example/halyard/halyard/fix/FixMessage" "valueStarts" "[I" (.ref va)) (F_valueEnds : Fld Z h m_ "com/example/halyard/halyard/fix/FixMessage" "valueEnds" "[I" (.ref ve)) (VF : Arv Z h f kf .byte 15 [(.int 56), (.int 61), (.int 65), (.int 1), (.int 57), (.int 61), (.int 48), (.int 1), (.int 49), (.int 48), (.int 61), (.int 48), (.int 57), (.int 52), (.int 1)] (.int (0 : Int32))) (V1 : Arv Z h ta k1 .int 16 [(.int 8), (.int 9), (.int 10), (.int 0), (.int 0), (.int 0), (.int 0), (.int 0), (.int 0), (.int 0), (.int 0), (.int 0), (.int 0), (.int 0), (.int 0), (.int 0)] (.int (0 : Int32))) (V2 : Arv Z h va k2 .int 16 [(.int 2), (.int 6), (.int 11), (.int 0), (.int 0), (.int 0), (.int 0), (.int 0), (.int 0), (.int 0), (.int 0), (.int 0), (.int 0), (.int 0), (.int 0), (.int 0)] (.int (0 : Int32))) (V3 : Arv Z h ve k3 .int 16 [(.int 3), (.int 7), (.int 14), (.int 0), (.int 0), (.int 0), (.int 0), (.int 0), (.int 0), (.int 0), (.int 0), (.int 0), (.int 0), (.int 0), (.int 0), (.int 0)] (.int (0 : Int32))) :
    Con l (⟨"com/example/halyard/halyard/fix/FixMessage", "valueIs", "(III)Z"⟩ : MethodName) prog_27_method_6_code 7 (some .boolean) [] ({ frames := 0, cells := 0, slots := 0, locals := 0 } : Room) Z #[(.ref m_), (.int 2), (.int 94), (.int 3)] h (fun v' h' => v' = some (.int 1) ∧ h' = h) := by
  refine con_of (plainFor_of_name pn_2) hE (fun m => ef_rVib m m_) ?_
  intro p e s m below meth c T0 C X0
  have C : Cx p s m meth c Z "com/example/halyard/halyard/fix/FixMessage" "valueIs" prog_27_method_6_code 7 (some .boolean) := C
  show Goes p e below _ T0 (mkF m 0 #[.val (.ref m_), .val (.int 2), .val (.int 94), .val (.int 3), .unset, .unset, .unset] [])
  refine g_aloadN C X0 d10_0 rfl rfl (g_getfield (host := "") C X0 (Or.inl (wd hw 27 rfl)) Via.refl F_valueStarts d10_1 (fun T15 X15 => ?_))
  refine g_iloadN C X15 d10_4 rfl (g_iaload C X15 V2 d10_5 (by decide) (by decide) rfl (g_istore C X15 d10_6 (l' := #[.val (.ref m_), .val (.int 2), .val (.int 94), .val (.int 3), .val (.int 11), .unset, .unset]) rfl (g_aloadN C X15 d10_8 rfl rfl (g_getfield (host := "") C X15 (Or.inl (wd hw 29 rfl)) Via.refl F_valueEnds d10_9 (fun T16 X16 => ?_)))))
  refine g_iloadN C X16 d10_12 rfl (g_iaload C X16 V3 d10_13 (by decide) (by decide) rfl (g_istore C X16 d10_14 (l' := #[.val (.ref m_), .val (.int 2), .val (.int 94), .val (.int 3), .val (.int 11), .val (.int 14), .unset]) rfl (g_iloadN C X16 d10_16 rfl (g_istore C X16 d10_17 (l' := #[.val (.ref m_), .val (.int 2), .val (.int 94), .val (.int 3), .val (.int 11), .val (.int 14), .val (.int 94)]) rfl (g_iinc (-1) C X16 d10_19 rfl rfl (l' := #[.val (.ref m_), .val (.int 2), .val (.int 94), .val (.int 3), .val (.int 11), .val (.int 13), .val (.int 94)]) rfl (g_iload C X16 d10_22 rfl (g_iload C X16 d10_24 rfl (g_icmp (hI_lt _ _) C X16 d10_26 (fun q => absurd q (by decide)) (fun _ => ?_)))))))))
  refine g_aloadN C X16 d10_29 rfl rfl (g_getfield (host := "") C X16 (Or.inl (wd hw 21 rfl)) Via.refl F_bytes d10_30 (fun T17 X17 => ?_))
  refine g_iload C X17 d10_33 rfl (g_baload C X17 VF d10_35 (by decide) (by decide) rfl (g_bipush 48 C X17 d10_36 rfl (g_iload C X17 d10_38 rfl (g_bipush 10 C X17 d10_40 rfl (g_irem C X17 d10_42 (by decide) (g_iadd C X17 d10_43 (g_icmp (hI_eq _ _) C X17 d10_44 (fun _ => ?_) (fun q => absurd (by decide) q))))))))
  refine g_iload C X17 d10_49 rfl (g_bipush 10 C X17 d10_51 rfl (g_idiv C X17 d10_53 (by decide) (g_istore C X17 d10_54 (l' := #[.val (.ref m_), .val (.int 2), .val (.int 94), .val (.int 3), .val (.int 11), .val (.int 13), .val (.int 9)]) rfl (g_iload C X17 d10_56 rfl (g_if (h0_gt _) C X17 d10_58 (fun _ => ?_) (fun q => absurd (by decide) q))))))
  refine g_iinc (-1) C X17 d10_19 rfl rfl (l' := #[.val (.ref m_), .val (.int 2), .val (.int 94), .val (.int 3), .val (.int 11), .val (.int 12), .val (.int 9)]) rfl (g_iload C X17 d10_22 rfl (g_iload C X17 d10_24 rfl (g_icmp (hI_lt _ _) C X17 d10_26 (fun q => absurd q (by decide)) (fun _ => ?_))))
  refine g_aloadN C X17 d10_29 rfl rfl (g_getfield (host := "") C X17 (Or.inl (wd hw 21 rfl)) Via.refl F_bytes d10_30 (fun T18 X18 => ?_))
  refine g_iload C X18 d10_33 rfl (g_baload C X18 VF d10_35 (by decide) (by decide) rfl (g_bipush 48 C X18 d10_36 rfl (g_iload C X18 d10_38 rfl (g_bipush 10 C X18 d10_40 rfl (g_irem C X18 d10_42 (by decide) (g_iadd C X18 d10_43 (g_icmp (hI_eq _ _) C X18 d10_44 (fun _ => ?_) (fun q => absurd (by decide) q))))))))
  refine g_iload C X18 d10_49 rfl (g_bipush 10 C X18 d10_51 rfl (g_idiv C X18 d10_53 (by decide) (g_istore C X18 d10_54 (l' := #[.val (.ref m_), .val (.int 2), .val (.int 94), .val (.int 3), .val (.int 11), .val (.int 12), .val (.int 0)]) rfl (g_iload C X18 d10_56 rfl (g_if (h0_gt _) C X18 d10_58 (fun q => absurd q (by decide)) (fun _ => ?_))))))
  refine g_aloadN C X18 d10_61 rfl rfl (g_getfield (host := "") C X18 (Or.inl (wd hw 29 rfl)) Via.refl F_valueEnds d10_62 (fun T19 X19 => ?_))
  refine g_iloadN C X19 d10_65 rfl (g_iaload C X19 V3 d10_66 (by decide) (by decide) rfl (g_iload C X19 d10_67 rfl (g_isub C X19 d10_69 (g_iloadN C X19 d10_70 rfl (g_icmp (hI_lt _ _) C X19 d10_71 (fun _ => ?_) (fun q => absurd (by decide) q))))))
  refine g_iinc (-1) C X19 d10_19 rfl rfl (l' := #[.val (.ref m_), .val (.int 2), .val (.int 94), .val (.int 3), .val (.int 11), .val (.int 11), .val (.int 0)]) rfl (g_iload C X19 d10_22 rfl (g_iload C X19 d10_24 rfl (g_icmp (hI_lt _ _) C X19 d10_26 (fun q => absurd q (by decide)) (fun _ => ?_))))
  refine g_aloadN C X19 d10_29 rfl rfl (g_getfield (host := "") C X19 (Or.inl (wd hw 21 rfl)) Via.refl F_bytes d10_30 (fun T20 X20 => ?_))
  refine g_iload C X20 d10_33 rfl (g_baload C X20 VF d10_35 (by decide) (by decide) rfl (g_bipush 48 C X20 d10_36 rfl (g_iload C X20 d10_38 rfl (g_bipush 10 C X20 d10_40 rfl (g_irem C X20 d10_42 (by decide) (g_iadd C X20 d10_43 (g_icmp (hI_eq _ _) C X20 d10_44 (fun _ => ?_) (fun q => absurd (by decide) q))))))))
  refine g_iload C X20 d10_49 rfl (g_bipush 10 C X20 d10_51 rfl (g_idiv C X20 d10_53 (by decide) (g_istore C X20 d10_54 (l' := #[.val (.ref m_), .val (.int 2), .val (.int 94), .val (.int 3), .val (.int 11), .val (.int 11), .val (.int 0)]) rfl (g_iload C X20 d10_56 rfl (g_if (h0_gt _) C X20 d10_58 (fun q => absurd q (by decide)) (fun _ => ?_))))))
  refine g_aloadN C X20 d10_61 rfl rfl (g_getfield (host := "") C X20 (Or.inl (wd hw 29 rfl)) Via.refl F_valueEnds d10_62 (fun T21 X21 => ?_))
  refine g_iloadN C X21 d10_65 rfl (g_iaload C X21 V3 d10_66 (by decide) (by decide) rfl (g_iload C X21 d10_67 rfl (g_isub C X21 d10_69 (g_iloadN C X21 d10_70 rfl (g_icmp (hI_lt _ _) C X21 d10_71 (fun q => absurd q (by decide)) (fun _ => ?_))))))
  refine g_iload C X21 d10_74 rfl (g_iload C X21 d10_76 rfl (g_icmpn (hI_ne _ _) C X21 d10_78 (fun q => absurd (by decide) q) (fun _ => ?_)))
  refine g_iconst 1 C X21 d10_81 rfl (g_goto C X21 d10_82 ?_)
  exact g_retN C X21 (by simp) d10_86 (1 : Int32) rfl (by decide) (by decide) ⟨rfl, rfl⟩
theorem ef_rSu (m : MethodId) (f : Addr) : entryFrame m #[(.ref f), (.int 8), (.int 15)] 5 = mkF m 0 #[.val (.ref f), .val (.int 8), .val (.int 15), .unset, .unset] [] := by first | (simp [entryFrame, mkF, argsToLocals, Value.category]; done) | rfl
theorem d11_0 : Dc prog_27_method_9_code 0 (.iconst 0) 1 1 := ⟨by decide +kernel, rfl⟩
theorem d11_1 : Dc prog_27_method_9_code 1 (.istore_n 3) 1 2 := ⟨by decide +kernel, rfl⟩
theorem d11_2 : Dc prog_27_method_9_code 2 (.iload_n 1) 1 3 := ⟨by decide +kernel, rfl⟩
theorem d11_3 : Dc prog_27_method_9_code 3 (.istore 4) 2 5 := ⟨by decide +kernel, rfl⟩
theorem d11_5 : Dc prog_27_method_9_code 5 (.iload 4) 2 7 := ⟨by decide +kernel, rfl⟩
theorem d11_7 : Dc prog_27_method_9_code 7 (.iload_n 2) 1 8 := ⟨by decide +kernel, rfl⟩
theorem d11_8 : Dj prog_27_method_9_code 8 (.if_icmp .ge 20) 20 3 11 28 := ⟨by decide +kernel, rfl, by decide, by decide⟩
theorem d11_11 : Dc prog_27_method_9_code 11 (.iload_n 3) 1 12 := ⟨by decide +kernel, rfl⟩
theorem d11_12 : Dc prog_27_method_9_code 12 (.aload_n 0) 1 13 := ⟨by decide +kernel, rfl⟩
theorem d11_13 : Dc prog_27_method_9_code 13 (.iload 4) 2 15 := ⟨by decide +kernel, rfl⟩
theorem d11_15 : Dc prog_27_method_9_code 15 (.baload) 1 16 := ⟨by decide +kernel, rfl⟩
theorem d11_16 : Dc prog_27_method_9_code 16 (.sipush 255) 3 19 := ⟨by decide +kernel, rfl⟩
theorem d11_19 : Dc prog_27_method_9_code 19 (.iand) 1 20 := ⟨by decide +kernel, rfl⟩
theorem d11_20 : Dc prog_27_method_9_code 20 (.iadd) 1 21 := ⟨by decide +kernel, rfl⟩
theorem d11_21 : Dc prog_27_method_9_code 21 (.istore_n 3) 1 22 := ⟨by decide +kernel, rfl⟩
theorem d11_22 : Dc prog_27_method_9_code 22 (.iinc 4 1) 3 25 := ⟨by decide +kernel, rfl⟩
theorem d11_25 : Dj prog_27_method_9_code 25 (.goto (-20)) (-20) 3 28 5 := ⟨by decide +kernel, rfl, by decide, by decide⟩
theorem d11_28 : Dc prog_27_method_9_code 28 (.iload_n 3) 1 29 := ⟨by decide +kernel, rfl⟩
theorem d11_29 : Dc prog_27_method_9_code 29 (.ireturn) 1 30 := ⟨by decide +kernel, rfl⟩
theorem rSu (l : Launch) {Z : State} {a0 : Array Value} (hw : ∀ d ∈ tables_1, d.before a0 Z = true) {h : Heap} (hE : Ext Z.heap h) (f : Addr) (kf : ClassId) (VF : Arv Z h f kf .byte 15 [(.int 56), (.int 61), (.int 65), (.int 1), (.int 57), (.int 61), (.int 48), (.int 1), (.int 49), (.int 48), (.int 61), (.int 48), (.int 57), (.int 52), (.int 1)] (.int (0 : Int32))) :
    Con l (⟨"com/example/halyard/halyard/fix/FixMessage", "sum", "([BII)I"⟩ : MethodName) prog_27_method_9_code 5 (some .int) [] ({ frames := 0, cells := 0, slots := 0, locals := 0 } : Room) Z #[(.ref f), (.int 8), (.int 15)] h (fun v' h' => v' = some (.int 316) ∧ h' = h) := by
  refine con_of (plainFor_of_name pn_2) hE (fun m => ef_rSu m f) ?_
  intro p e s m below meth c T0 C X0
  have C : Cx p s m meth c Z "com/example/halyard/halyard/fix/FixMessage" "sum" prog_27_method_9_code 5 (some .int) := C
  show Goes p e below _ T0 (mkF m 0 #[.val (.ref f), .val (.int 8), .val (.int 15), .unset, .unset] [])
  refine g_iconst 0 C X0 d11_0 rfl (g_istoreN C X0 d11_1 (l' := #[.val (.ref f), .val (.int 8), .val (.int 15), .val (.int 0), .unset]) rfl (g_iloadN C X0 d11_2 rfl (g_istore C X0 d11_3 (l' := #[.val (.ref f), .val (.int 8), .val (.int 15), .val (.int 0), .val (.int 8)]) rfl (g_iload C X0 d11_5 rfl (g_iloadN C X0 d11_7 rfl (g_icmpn (hI_ge _ _) C X0 d11_8 (fun q => absurd (by decide) q) (fun _ => ?_)))))))
  refine g_iloadN C X0 d11_11 rfl (g_aloadN C X0 d11_12 rfl rfl (g_iload C X0 d11_13 rfl (g_baload C X0 VF d11_15 (by decide) (by decide) rfl (g_sipush 255 C X0 d11_16 rfl (g_iand C X0 d11_19 (g_iadd C X0 d11_20 (g_istoreN C X0 d11_21 (l' := #[.val (.ref f), .val (.int 8), .val (.int 15), .val (.int 49), .val (.int 8)]) rfl (g_iinc 1 C X0 d11_22 rfl rfl (l' := #[.val (.ref f), .val (.int 8), .val (.int 15), .val (.int 49), .val (.int 9)]) rfl (g_goto C X0 d11_25 (g_iload C X0 d11_5 rfl (g_iloadN C X0 d11_7 rfl ?_)))))))))))
  refine g_icmpn (hI_ge _ _) C X0 d11_8 (fun q => absurd (by decide) q) (fun _ => ?_)
  refine g_iloadN C X0 d11_11 rfl (g_aloadN C X0 d11_12 rfl rfl (g_iload C X0 d11_13 rfl (g_baload C X0 VF d11_15 (by decide) (by decide) rfl (g_sipush 255 C X0 d11_16 rfl (g_iand C X0 d11_19 (g_iadd C X0 d11_20 (g_istoreN C X0 d11_21 (l' := #[.val (.ref f), .val (.int 8), .val (.int 15), .val (.int 97), .val (.int 9)]) rfl (g_iinc 1 C X0 d11_22 rfl rfl (l' := #[.val (.ref f), .val (.int 8), .val (.int 15), .val (.int 97), .val (.int 10)]) rfl (g_goto C X0 d11_25 (g_iload C X0 d11_5 rfl (g_iloadN C X0 d11_7 rfl ?_)))))))))))
  refine g_icmpn (hI_ge _ _) C X0 d11_8 (fun q => absurd (by decide) q) (fun _ => ?_)
  refine g_iloadN C X0 d11_11 rfl (g_aloadN C X0 d11_12 rfl rfl (g_iload C X0 d11_13 rfl (g_baload C X0 VF d11_15 (by decide) (by decide) rfl (g_sipush 255 C X0 d11_16 rfl (g_iand C X0 d11_19 (g_iadd C X0 d11_20 (g_istoreN C X0 d11_21 (l' := #[.val (.ref f), .val (.int 8), .val (.int 15), .val (.int 158), .val (.int 10)]) rfl (g_iinc 1 C X0 d11_22 rfl rfl (l' := #[.val (.ref f), .val (.int 8), .val (.int 15), .val (.int 158), .val (.int 11)]) rfl (g_goto C X0 d11_25 (g_iload C X0 d11_5 rfl (g_iloadN C X0 d11_7 rfl ?_)))))))))))
  refine g_icmpn (hI_ge _ _) C X0 d11_8 (fun q => absurd (by decide) q) (fun _ => ?_)
  refine g_iloadN C X0 d11_11 rfl (g_aloadN C X0 d11_12 rfl rfl (g_iload C X0 d11_13 rfl (g_baload C X0 VF d11_15 (by decide) (by decide) rfl (g_sipush 255 C X0 d11_16 rfl (g_iand C X0 d11_19 (g_iadd C X0 d11_20 (g_istoreN C X0 d11_21 (l' := #[.val (.ref f), .val (.int 8), .val (.int 15), .val (.int 206), .val (.int 11)]) rfl (g_iinc 1 C X0 d11_22 rfl rfl (l' := #[.val (.ref f), .val (.int 8), .val (.int 15), .val (.int 206), .val (.int 12)]) rfl (g_goto C X0 d11_25 (g_iload C X0 d11_5 rfl (g_iloadN C X0 d11_7 rfl ?_)))))))))))
  refine g_icmpn (hI_ge _ _) C X0 d11_8 (fun q => absurd (by decide) q) (fun _ => ?_)
  refine g_iloadN C X0 d11_11 rfl (g_aloadN C X0 d11_12 rfl rfl (g_iload C X0 d11_13 rfl (g_baload C X0 VF d11_15 (by decide) (by decide) rfl (g_sipush 255 C X0 d11_16 rfl (g_iand C X0 d11_19 (g_iadd C X0 d11_20 (g_istoreN C X0 d11_21 (l' := #[.val (.ref f), .val (.int 8), .val (.int 15), .val (.int 263), .val (.int 12)]) rfl (g_iinc 1 C X0 d11_22 rfl rfl (l' := #[.val (.ref f), .val (.int 8), .val (.int 15), .val (.int 263), .val (.int 13)]) rfl (g_goto C X0 d11_25 (g_iload C X0 d11_5 rfl (g_iloadN C X0 d11_7 rfl ?_)))))))))))
  refine g_icmpn (hI_ge _ _) C X0 d11_8 (fun q => absurd (by decide) q) (fun _ => ?_)
  refine g_iloadN C X0 d11_11 rfl (g_aloadN C X0 d11_12 rfl rfl (g_iload C X0 d11_13 rfl (g_baload C X0 VF d11_15 (by decide) (by decide) rfl (g_sipush 255 C X0 d11_16 rfl (g_iand C X0 d11_19 (g_iadd C X0 d11_20 (g_istoreN C X0 d11_21 (l' := #[.val (.ref f), .val (.int 8), .val (.int 15), .val (.int 315), .val (.int 13)]) rfl (g_iinc 1 C X0 d11_22 rfl rfl (l' := #[.val (.ref f), .val (.int 8), .val (.int 15), .val (.int 315), .val (.int 14)]) rfl (g_goto C X0 d11_25 (g_iload C X0 d11_5 rfl (g_iloadN C X0 d11_7 rfl ?_)))))))))))
  refine g_icmpn (hI_ge _ _) C X0 d11_8 (fun q => absurd (by decide) q) (fun _ => ?_)
  refine g_iloadN C X0 d11_11 rfl (g_aloadN C X0 d11_12 rfl rfl (g_iload C X0 d11_13 rfl (g_baload C X0 VF d11_15 (by decide) (by decide) rfl (g_sipush 255 C X0 d11_16 rfl (g_iand C X0 d11_19 (g_iadd C X0 d11_20 (g_istoreN C X0 d11_21 (l' := #[.val (.ref f), .val (.int 8), .val (.int 15), .val (.int 316), .val (.int 14)]) rfl (g_iinc 1 C X0 d11_22 rfl rfl (l' := #[.val (.ref f), .val (.int 8), .val (.int 15), .val (.int 316), .val (.int 15)]) rfl (g_goto C X0 d11_25 (g_iload C X0 d11_5 rfl (g_iloadN C X0 d11_7 rfl ?_)))))))))))
  refine g_icmpn (hI_ge _ _) C X0 d11_8 (fun _ => ?_) (fun q => absurd q (by decide))
  refine g_iloadN C X0 d11_28 rfl ?_
  exact g_retI C X0 d11_29 (by decide) (by decide) ⟨rfl, rfl⟩
theorem ef_rIx (m : MethodId) (m_ : Addr) : entryFrame m #[(.ref m_), (.int 35)] 3 = mkF m 0 #[.val (.ref m_), .val (.int 35), .unset] [] := by first | (simp [entryFrame, mkF, argsToLocals, Value.category]; done) | rfl
theorem d12_0 : Dc prog_27_method_14_code 0 (.iconst 0) 1 1 := ⟨by decide +kernel, rfl⟩
theorem d12_1 : Dc prog_27_method_14_code 1 (.istore_n 2) 1 2 := ⟨by decide +kernel, rfl⟩
theorem d12_2 : Dc prog_27_method_14_code 2 (.iload_n 2) 1 3 := ⟨by decide +kernel, rfl⟩
theorem d12_3 : Dc prog_27_method_14_code 3 (.aload_n 0) 1 4 := ⟨by decide +kernel, rfl⟩
theorem d12_4 : Dc prog_27_method_14_code 4 (.getfield 13) 3 7 := ⟨by decide +kernel, rfl⟩
theorem d12_7 : Dj prog_27_method_14_code 7 (.if_icmp .ge 21) 21 3 10 28 := ⟨by decide +kernel, rfl, by decide, by decide⟩
theorem d12_10 : Dc prog_27_method_14_code 10 (.aload_n 0) 1 11 := ⟨by decide +kernel, rfl⟩
theorem d12_11 : Dc prog_27_method_14_code 11 (.getfield 17) 3 14 := ⟨by decide +kernel, rfl⟩
theorem d12_14 : Dc prog_27_method_14_code 14 (.iload_n 2) 1 15 := ⟨by decide +kernel, rfl⟩
theorem d12_15 : Dc prog_27_method_14_code 15 (.iaload) 1 16 := ⟨by decide +kernel, rfl⟩
theorem d12_16 : Dc prog_27_method_14_code 16 (.iload_n 1) 1 17 := ⟨by decide +kernel, rfl⟩
theorem d12_17 : Dj prog_27_method_14_code 17 (.if_icmp .ne 5) 5 3 20 22 := ⟨by decide +kernel, rfl, by decide, by decide⟩
theorem d12_22 : Dc prog_27_method_14_code 22 (.iinc 2 1) 3 25 := ⟨by decide +kernel, rfl⟩
theorem d12_25 : Dj prog_27_method_14_code 25 (.goto (-23)) (-23) 3 28 2 := ⟨by decide +kernel, rfl, by decide, by decide⟩
theorem d12_28 : Dc prog_27_method_14_code 28 (.iconst (-1)) 1 29 := ⟨by decide +kernel, rfl⟩
theorem d12_29 : Dc prog_27_method_14_code 29 (.ireturn) 1 30 := ⟨by decide +kernel, rfl⟩
theorem rIx (l : Launch) {Z : State} {a0 : Array Value} (hw : ∀ d ∈ tables_1, d.before a0 Z = true) {h : Heap} (hE : Ext Z.heap h) (m_ : Addr) (f ta va ve : Addr) (kf k1 k2 k3 : ClassId) (EM : Exa Z h m_ "com/example/halyard/halyard/fix/FixMessage") (F_bytes : Fld Z h m_ "com/example/halyard/halyard/fix/FixMessage" "bytes" "[B" (.ref f)) (F_count : Fld Z h m_ "com/example/halyard/halyard/fix/FixMessage" "count" "I" (.int 3)) (F_tags : Fld Z h m_ "com/example/halyard/halyard/fix/FixMessage" "tags" "[I" (.ref ta)) (F_valueStarts : Fld Z h m_ "com/example/halyard/halyard/fix/FixMessage" "valueStarts" "[I" (.ref va)) (F_valueEnds : Fld Z h m_ "com/example/halyard/halyard/fix/FixMessage" "valueEnds" "[I" (.ref ve)) (VF : Arv Z h f kf .byte 15 [(.int 56), (.int 61), (.int 65), (.int 1), (.int 57), (.int 61), (.int 48), (.int 1), (.int 49), (.int 48), (.int 61), (.int 48), (.int 57), (.int 52), (.int 1)] (.int (0 : Int32))) (V1 : Arv Z h ta k1 .int 16 [(.int 8), (.int 9), (.int 10), (.int 0), (.int 0), (.int 0), (.int 0), (.int 0), (.int 0), (.int 0), (.int 0), (.int 0), (.int 0), (.int 0), (.int 0), (.int 0)] (.int (0 : Int32))) (V2 : Arv Z h va k2 .int 16 [(.int 2), (.int 6), (.int 11), (.int 0), (.int 0), (.int 0), (.int 0), (.int 0), (.int 0), (.int 0), (.int 0), (.int 0), (.int 0), (.int 0), (.int 0), (.int 0)] (.int (0 : Int32))) (V3 : Arv Z h ve k3 .int 16 [(.int 3), (.int 7), (.int 14), (.int 0), (.int 0), (.int 0), (.int 0), (.int 0), (.int 0), (.int 0), (.int 0), (.int 0), (.int 0), (.int 0), (.int 0), (.int 0)] (.int (0 : Int32))) :
    Con l (⟨"com/example/halyard/halyard/fix/FixMessage", "indexOf", "(I)I"⟩ : MethodName) prog_27_method_14_code 3 (some .int) [] ({ frames := 0, cells := 0, slots := 0, locals := 0 } : Room) Z #[(.ref m_), (.int 35)] h (fun v' h' => v' = some (.int (-1)) ∧ h' = h) := by
  refine con_of (plainFor_of_name pn_2) hE (fun m => ef_rIx m m_) ?_
  intro p e s m below meth c T0 C X0
  have C : Cx p s m meth c Z "com/example/halyard/halyard/fix/FixMessage" "indexOf" prog_27_method_14_code 3 (some .int) := C
  show Goes p e below _ T0 (mkF m 0 #[.val (.ref m_), .val (.int 35), .unset] [])
  refine g_iconst 0 C X0 d12_0 rfl (g_istoreN C X0 d12_1 (l' := #[.val (.ref m_), .val (.int 35), .val (.int 0)]) rfl (g_iloadN C X0 d12_2 rfl (g_aloadN C X0 d12_3 rfl rfl (g_getfield (host := "") C X0 (Or.inl (wd hw 23 rfl)) Via.refl F_count d12_4 (fun T22 X22 => ?_)))))
  refine g_icmpn (hI_ge _ _) C X22 d12_7 (fun q => absurd (by decide) q) (fun _ => ?_)
  refine g_aloadN C X22 d12_10 rfl rfl (g_getfield (host := "") C X22 (Or.inl (wd hw 25 rfl)) Via.refl F_tags d12_11 (fun T23 X23 => ?_))
  refine g_iloadN C X23 d12_14 rfl (g_iaload C X23 V1 d12_15 (by decide) (by decide) rfl (g_iloadN C X23 d12_16 rfl (g_icmpn (hI_ne _ _) C X23 d12_17 (fun _ => ?_) (fun q => absurd q (by decide)))))
  refine g_iinc 1 C X23 d12_22 rfl rfl (l' := #[.val (.ref m_), .val (.int 35), .val (.int 1)]) rfl (g_goto C X23 d12_25 (g_iloadN C X23 d12_2 rfl (g_aloadN C X23 d12_3 rfl rfl (g_getfield (host := "") C X23 (Or.inl (wd hw 23 rfl)) Via.refl F_count d12_4 (fun T24 X24 => ?_)))))
  refine g_icmpn (hI_ge _ _) C X24 d12_7 (fun q => absurd (by decide) q) (fun _ => ?_)
  refine g_aloadN C X24 d12_10 rfl rfl (g_getfield (host := "") C X24 (Or.inl (wd hw 25 rfl)) Via.refl F_tags d12_11 (fun T25 X25 => ?_))
  refine g_iloadN C X25 d12_14 rfl (g_iaload C X25 V1 d12_15 (by decide) (by decide) rfl (g_iloadN C X25 d12_16 rfl (g_icmpn (hI_ne _ _) C X25 d12_17 (fun _ => ?_) (fun q => absurd q (by decide)))))
  refine g_iinc 1 C X25 d12_22 rfl rfl (l' := #[.val (.ref m_), .val (.int 35), .val (.int 2)]) rfl (g_goto C X25 d12_25 (g_iloadN C X25 d12_2 rfl (g_aloadN C X25 d12_3 rfl rfl (g_getfield (host := "") C X25 (Or.inl (wd hw 23 rfl)) Via.refl F_count d12_4 (fun T26 X26 => ?_)))))
  refine g_icmpn (hI_ge _ _) C X26 d12_7 (fun q => absurd (by decide) q) (fun _ => ?_)
  refine g_aloadN C X26 d12_10 rfl rfl (g_getfield (host := "") C X26 (Or.inl (wd hw 25 rfl)) Via.refl F_tags d12_11 (fun T27 X27 => ?_))
  refine g_iloadN C X27 d12_14 rfl (g_iaload C X27 V1 d12_15 (by decide) (by decide) rfl (g_iloadN C X27 d12_16 rfl (g_icmpn (hI_ne _ _) C X27 d12_17 (fun _ => ?_) (fun q => absurd q (by decide)))))
  refine g_iinc 1 C X27 d12_22 rfl rfl (l' := #[.val (.ref m_), .val (.int 35), .val (.int 3)]) rfl (g_goto C X27 d12_25 (g_iloadN C X27 d12_2 rfl (g_aloadN C X27 d12_3 rfl rfl (g_getfield (host := "") C X27 (Or.inl (wd hw 23 rfl)) Via.refl F_count d12_4 (fun T28 X28 => ?_)))))
  refine g_icmpn (hI_ge _ _) C X28 d12_7 (fun _ => ?_) (fun q => absurd q (by decide))
  refine g_iconst (-1) C X28 d12_28 rfl ?_
  exact g_retI C X28 d12_29 (by decide) (by decide) ⟨rfl, rfl⟩
theorem ef_rCk (m : MethodId) (m_ : Addr) : entryFrame m #[(.ref m_), (.int 666), (.int 1)] 8 = mkF m 0 #[.val (.ref m_), .val (.int 666), .val (.int 1), .unset, .unset, .unset, .unset, .unset] [] := by first | (simp [entryFrame, mkF, argsToLocals, Value.category]; done) | rfl
theorem d6_0 : Dc prog_27_method_5_code 0 (.aload_n 0) 1 1 := ⟨by decide +kernel, rfl⟩
theorem d6_1 : Dc prog_27_method_5_code 1 (.getfield 13) 3 4 := ⟨by decide +kernel, rfl⟩
theorem d6_4 : Dj prog_27_method_5_code 4 (.ifCond .eq 14) 14 3 7 18 := ⟨by decide +kernel, rfl, by decide, by decide⟩
theorem d6_7 : Dc prog_27_method_5_code 7 (.aload_n 0) 1 8 := ⟨by decide +kernel, rfl⟩
theorem d6_8 : Dc prog_27_method_5_code 8 (.getfield 17) 3 11 := ⟨by decide +kernel, rfl⟩
theorem d6_11 : Dc prog_27_method_5_code 11 (.iconst 0) 1 12 := ⟨by decide +kernel, rfl⟩
theorem d6_12 : Dc prog_27_method_5_code 12 (.iaload) 1 13 := ⟨by decide +kernel, rfl⟩
theorem d6_13 : Dc prog_27_method_5_code 13 (.bipush 8) 2 15 := ⟨by decide +kernel, rfl⟩
theorem d6_15 : Dj prog_27_method_5_code 15 (.if_icmp .eq 13) 13 3 18 28 := ⟨by decide +kernel, rfl, by decide, by decide⟩
theorem d6_28 : Dc prog_27_method_5_code 28 (.aload_n 0) 1 29 := ⟨by decide +kernel, rfl⟩
theorem d6_29 : Dc prog_27_method_5_code 29 (.getfield 7) 3 32 := ⟨by decide +kernel, rfl⟩
theorem d6_32 : Dc prog_27_method_5_code 32 (.aload_n 0) 1 33 := ⟨by decide +kernel, rfl⟩
theorem d6_33 : Dc prog_27_method_5_code 33 (.getfield 21) 3 36 := ⟨by decide +kernel, rfl⟩
theorem d6_36 : Dc prog_27_method_5_code 36 (.iconst 0) 1 37 := ⟨by decide +kernel, rfl⟩
theorem d6_37 : Dc prog_27_method_5_code 37 (.iaload) 1 38 := ⟨by decide +kernel, rfl⟩
theorem d6_38 : Dc prog_27_method_5_code 38 (.aload_n 0) 1 39 := ⟨by decide +kernel, rfl⟩
theorem d6_39 : Dc prog_27_method_5_code 39 (.getfield 24) 3 42 := ⟨by decide +kernel, rfl⟩
theorem d6_42 : Dc prog_27_method_5_code 42 (.iconst 0) 1 43 := ⟨by decide +kernel, rfl⟩
theorem d6_43 : Dc prog_27_method_5_code 43 (.iaload) 1 44 := ⟨by decide +kernel, rfl⟩
theorem d6_44 : Dc prog_27_method_5_code 44 (.invokestatic 76) 3 47 := ⟨by decide +kernel, rfl⟩
theorem pd_2 : parseMethodDescriptor "([BII)Lcom/example/halyard/halyard/fix/FixVersion;" = some ⟨[(.array .byte), .int, .int], some (.object "com/example/halyard/halyard/fix/FixVersion")⟩ := by decide +kernel
theorem d6_47 : Dc prog_27_method_5_code 47 (.astore_n 3) 1 48 := ⟨by decide +kernel, rfl⟩
theorem d6_48 : Dc prog_27_method_5_code 48 (.aload_n 3) 1 49 := ⟨by decide +kernel, rfl⟩
theorem d6_49 : Dj prog_27_method_5_code 49 (.ifnonnull 25) 25 3 52 74 := ⟨by decide +kernel, rfl, by decide, by decide⟩
theorem d6_52 : Dc prog_27_method_5_code 52 (.iload_n 2) 1 53 := ⟨by decide +kernel, rfl⟩
theorem d6_53 : Dj prog_27_method_5_code 53 (.ifCond .ne 21) 21 3 56 74 := ⟨by decide +kernel, rfl, by decide, by decide⟩
theorem d6_74 : Dc prog_27_method_5_code 74 (.aload_n 0) 1 75 := ⟨by decide +kernel, rfl⟩
theorem d6_75 : Dc prog_27_method_5_code 75 (.getfield 13) 3 78 := ⟨by decide +kernel, rfl⟩
theorem d6_78 : Dc prog_27_method_5_code 78 (.iconst 2) 1 79 := ⟨by decide +kernel, rfl⟩
theorem d6_79 : Dj prog_27_method_5_code 79 (.if_icmp .lt 14) 14 3 82 93 := ⟨by decide +kernel, rfl, by decide, by decide⟩
theorem d6_82 : Dc prog_27_method_5_code 82 (.aload_n 0) 1 83 := ⟨by decide +kernel, rfl⟩
theorem d6_83 : Dc prog_27_method_5_code 83 (.getfield 17) 3 86 := ⟨by decide +kernel, rfl⟩
theorem d6_86 : Dc prog_27_method_5_code 86 (.iconst 1) 1 87 := ⟨by decide +kernel, rfl⟩
theorem d6_87 : Dc prog_27_method_5_code 87 (.iaload) 1 88 := ⟨by decide +kernel, rfl⟩
theorem d6_88 : Dc prog_27_method_5_code 88 (.bipush 9) 2 90 := ⟨by decide +kernel, rfl⟩
theorem d6_90 : Dj prog_27_method_5_code 90 (.if_icmp .eq 13) 13 3 93 103 := ⟨by decide +kernel, rfl, by decide, by decide⟩
theorem d6_103 : Dc prog_27_method_5_code 103 (.aload_n 0) 1 104 := ⟨by decide +kernel, rfl⟩
theorem d6_104 : Dc prog_27_method_5_code 104 (.getfield 13) 3 107 := ⟨by decide +kernel, rfl⟩
theorem d6_107 : Dc prog_27_method_5_code 107 (.iconst 1) 1 108 := ⟨by decide +kernel, rfl⟩
theorem d6_108 : Dc prog_27_method_5_code 108 (.isub) 1 109 := ⟨by decide +kernel, rfl⟩
theorem d6_109 : Dc prog_27_method_5_code 109 (.istore 4) 2 111 := ⟨by decide +kernel, rfl⟩
theorem d6_111 : Dc prog_27_method_5_code 111 (.iload 4) 2 113 := ⟨by decide +kernel, rfl⟩
theorem d6_113 : Dc prog_27_method_5_code 113 (.iconst 2) 1 114 := ⟨by decide +kernel, rfl⟩
theorem d6_114 : Dj prog_27_method_5_code 114 (.if_icmp .lt 15) 15 3 117 129 := ⟨by decide +kernel, rfl, by decide, by decide⟩
theorem d6_117 : Dc prog_27_method_5_code 117 (.aload_n 0) 1 118 := ⟨by decide +kernel, rfl⟩
theorem d6_118 : Dc prog_27_method_5_code 118 (.getfield 17) 3 121 := ⟨by decide +kernel, rfl⟩
theorem d6_121 : Dc prog_27_method_5_code 121 (.iload 4) 2 123 := ⟨by decide +kernel, rfl⟩
theorem d6_123 : Dc prog_27_method_5_code 123 (.iaload) 1 124 := ⟨by decide +kernel, rfl⟩
theorem d6_124 : Dc prog_27_method_5_code 124 (.bipush 10) 2 126 := ⟨by decide +kernel, rfl⟩
theorem d6_126 : Dj prog_27_method_5_code 126 (.if_icmp .eq 13) 13 3 129 139 := ⟨by decide +kernel, rfl, by decide, by decide⟩
theorem d6_139 : Dc prog_27_method_5_code 139 (.aload_n 0) 1 140 := ⟨by decide +kernel, rfl⟩
theorem d6_140 : Dc prog_27_method_5_code 140 (.getfield 21) 3 143 := ⟨by decide +kernel, rfl⟩
theorem d6_143 : Dc prog_27_method_5_code 143 (.iload 4) 2 145 := ⟨by decide +kernel, rfl⟩
theorem d6_145 : Dc prog_27_method_5_code 145 (.iaload) 1 146 := ⟨by decide +kernel, rfl⟩
theorem d6_146 : Dc prog_27_method_5_code 146 (.getstatic 90) 3 149 := ⟨by decide +kernel, rfl⟩
theorem d6_149 : Dc prog_27_method_5_code 149 (.arraylength) 1 150 := ⟨by decide +kernel, rfl⟩
theorem d6_150 : Dc prog_27_method_5_code 150 (.isub) 1 151 := ⟨by decide +kernel, rfl⟩
theorem d6_151 : Dc prog_27_method_5_code 151 (.istore 5) 2 153 := ⟨by decide +kernel, rfl⟩
theorem d6_153 : Dc prog_27_method_5_code 153 (.iload 5) 2 155 := ⟨by decide +kernel, rfl⟩
theorem d6_155 : Dc prog_27_method_5_code 155 (.aload_n 0) 1 156 := ⟨by decide +kernel, rfl⟩
theorem d6_156 : Dc prog_27_method_5_code 156 (.getfield 24) 3 159 := ⟨by decide +kernel, rfl⟩
theorem d6_159 : Dc prog_27_method_5_code 159 (.iconst 1) 1 160 := ⟨by decide +kernel, rfl⟩
theorem d6_160 : Dc prog_27_method_5_code 160 (.iaload) 1 161 := ⟨by decide +kernel, rfl⟩
theorem d6_161 : Dc prog_27_method_5_code 161 (.iconst 1) 1 162 := ⟨by decide +kernel, rfl⟩
theorem d6_162 : Dc prog_27_method_5_code 162 (.iadd) 1 163 := ⟨by decide +kernel, rfl⟩
theorem d6_163 : Dc prog_27_method_5_code 163 (.isub) 1 164 := ⟨by decide +kernel, rfl⟩
theorem d6_164 : Dc prog_27_method_5_code 164 (.istore 6) 2 166 := ⟨by decide +kernel, rfl⟩
theorem d6_166 : Dc prog_27_method_5_code 166 (.aload_n 0) 1 167 := ⟨by decide +kernel, rfl⟩
theorem d6_167 : Dc prog_27_method_5_code 167 (.iconst 1) 1 168 := ⟨by decide +kernel, rfl⟩
theorem d6_168 : Dc prog_27_method_5_code 168 (.iload 6) 2 170 := ⟨by decide +kernel, rfl⟩
theorem d6_170 : Dc prog_27_method_5_code 170 (.iconst 1) 1 171 := ⟨by decide +kernel, rfl⟩
theorem d6_171 : Dc prog_27_method_5_code 171 (.invokevirtual 93) 3 174 := ⟨by decide +kernel, rfl⟩
theorem pd_3 : parseMethodDescriptor "(III)Z" = some ⟨[.int, .int, .int], some .boolean⟩ := by decide +kernel
theorem d6_174 : Dj prog_27_method_5_code 174 (.ifCond .ne 23) 23 3 177 197 := ⟨by decide +kernel, rfl, by decide, by decide⟩
theorem d6_197 : Dc prog_27_method_5_code 197 (.aload_n 0) 1 198 := ⟨by decide +kernel, rfl⟩
theorem d6_198 : Dc prog_27_method_5_code 198 (.getfield 17) 3 201 := ⟨by decide +kernel, rfl⟩
theorem d6_201 : Dc prog_27_method_5_code 201 (.iconst 2) 1 202 := ⟨by decide +kernel, rfl⟩
theorem d6_202 : Dc prog_27_method_5_code 202 (.iaload) 1 203 := ⟨by decide +kernel, rfl⟩
theorem d6_203 : Dc prog_27_method_5_code 203 (.bipush 35) 2 205 := ⟨by decide +kernel, rfl⟩
theorem d6_205 : Dj prog_27_method_5_code 205 (.if_icmp .eq 17) 17 3 208 222 := ⟨by decide +kernel, rfl, by decide, by decide⟩
theorem d6_208 : Dc prog_27_method_5_code 208 (.iload_n 2) 1 209 := ⟨by decide +kernel, rfl⟩
theorem d6_209 : Dj prog_27_method_5_code 209 (.ifCond .ne 13) 13 3 212 222 := ⟨by decide +kernel, rfl, by decide, by decide⟩
theorem d6_222 : Dc prog_27_method_5_code 222 (.iload_n 1) 1 223 := ⟨by decide +kernel, rfl⟩
theorem d6_223 : Dc prog_27_method_5_code 223 (.aload_n 0) 1 224 := ⟨by decide +kernel, rfl⟩
theorem d6_224 : Dc prog_27_method_5_code 224 (.getfield 7) 3 227 := ⟨by decide +kernel, rfl⟩
theorem d6_227 : Dc prog_27_method_5_code 227 (.iload 5) 2 229 := ⟨by decide +kernel, rfl⟩
theorem d6_229 : Dc prog_27_method_5_code 229 (.aload_n 0) 1 230 := ⟨by decide +kernel, rfl⟩
theorem d6_230 : Dc prog_27_method_5_code 230 (.getfield 7) 3 233 := ⟨by decide +kernel, rfl⟩
theorem d6_233 : Dc prog_27_method_5_code 233 (.arraylength) 1 234 := ⟨by decide +kernel, rfl⟩
theorem d6_234 : Dc prog_27_method_5_code 234 (.invokestatic 102) 3 237 := ⟨by decide +kernel, rfl⟩
theorem pd_4 : parseMethodDescriptor "([BII)I" = some ⟨[(.array .byte), .int, .int], some .int⟩ := by decide +kernel
theorem d6_237 : Dc prog_27_method_5_code 237 (.isub) 1 238 := ⟨by decide +kernel, rfl⟩
theorem d6_238 : Dc prog_27_method_5_code 238 (.sipush 255) 3 241 := ⟨by decide +kernel, rfl⟩
theorem d6_241 : Dc prog_27_method_5_code 241 (.iand) 1 242 := ⟨by decide +kernel, rfl⟩
theorem d6_242 : Dc prog_27_method_5_code 242 (.istore 7) 2 244 := ⟨by decide +kernel, rfl⟩
theorem d6_244 : Dc prog_27_method_5_code 244 (.aload_n 0) 1 245 := ⟨by decide +kernel, rfl⟩
theorem d6_245 : Dc prog_27_method_5_code 245 (.iload 4) 2 247 := ⟨by decide +kernel, rfl⟩
theorem d6_247 : Dc prog_27_method_5_code 247 (.iload 7) 2 249 := ⟨by decide +kernel, rfl⟩
theorem d6_249 : Dc prog_27_method_5_code 249 (.iconst 3) 1 250 := ⟨by decide +kernel, rfl⟩
theorem d6_250 : Dc prog_27_method_5_code 250 (.invokevirtual 93) 3 253 := ⟨by decide +kernel, rfl⟩
theorem d6_253 : Dj prog_27_method_5_code 253 (.ifCond .ne 39) 39 3 256 292 := ⟨by decide +kernel, rfl, by decide, by decide⟩
theorem d6_292 : Dc prog_27_method_5_code 292 (.aload_n 3) 1 293 := ⟨by decide +kernel, rfl⟩
theorem d6_293 : Dc prog_27_method_5_code 293 (.areturn) 1 294 := ⟨by decide +kernel, rfl⟩
theorem rCk (l : Launch) {Z : State} {a0 : Array Value} (hw : ∀ d ∈ tables_1, d.before a0 Z = true) {h : Heap} (hE : Ext Z.heap h) (m_ : Addr) (p_1 p_6 p_10 p_15 p_19 p_24 : Addr) (k_30 k_32 k_35 k_38 : ClassId) (vs_33 vs_36 vs_39 : List Value) (f ta va ve : Addr) (kf k1 k2 k3 : ClassId) (S_3 : Sta Z Z.heap "com/example/halyard/halyard/fix/FixVersion" "VERSIONS" "[Lcom/example/halyard/halyard/fix/FixVersion;" (.ref p_1)) (S_8 : Sta Z Z.heap "com/example/halyard/halyard/fix/FixVersion" "FIX_4_2" "Lcom/example/halyard/halyard/fix/FixVersion;" (.ref p_6)) (E_9 : Exa Z Z.heap p_6 "com/example/halyard/halyard/fix/FixVersion") (F_12 : Fld Z Z.heap p_6 "com/example/halyard/halyard/fix/FixVersion" "head" "[B" (.ref p_10)) (S_17 : Sta Z Z.heap "com/example/halyard/halyard/fix/FixVersion" "FIX_4_4" "Lcom/example/halyard/halyard/fix/FixVersion;" (.ref p_15)) (E_18 : Exa Z Z.heap p_15 "com/example/halyard/halyard/fix/FixVersion") (F_21 : Fld Z Z.heap p_15 "com/example/halyard/halyard/fix/FixVersion" "head" "[B" (.ref p_19)) (S_26 : Sta Z Z.heap "com/example/halyard/halyard/fix/FixMessage" "CHECK_SUM_TAG" "[B" (.ref p_24)) (V_29 : Arv Z Z.heap p_1 k_30 (.object "com/example/halyard/halyard/fix/FixVersion") 2 [(.ref p_6), (.ref p_15)] .null) (V_31 : Arv Z Z.heap p_10 k_32 .byte 9 vs_33 (.int 0)) (V_34 : Arv Z Z.heap p_19 k_35 .byte 9 vs_36 (.int 0)) (V_37 : Arv Z Z.heap p_24 k_38 .byte 3 vs_39 (.int 0)) (EM : Exa Z h m_ "com/example/halyard/halyard/fix/FixMessage") (F_bytes : Fld Z h m_ "com/example/halyard/halyard/fix/FixMessage" "bytes" "[B" (.ref f)) (F_count : Fld Z h m_ "com/example/halyard/halyard/fix/FixMessage" "count" "I" (.int 3)) (F_tags : Fld Z h m_ "com/example/halyard/halyard/fix/FixMessage" "tags" "[I" (.ref ta)) (F_valueStarts : Fld Z h m_ "com/example/halyard/halyard/fix/FixMessage" "valueStarts" "[I" (.ref va)) (F_valueEnds : Fld Z h m_ "com/example/halyard/halyard/fix/FixMessage" "valueEnds" "[I" (.ref ve)) (VF : Arv Z h f kf .byte 15 [(.int 56), (.int 61), (.int 65), (.int 1), (.int 57), (.int 61), (.int 48), (.int 1), (.int 49), (.int 48), (.int 61), (.int 48), (.int 57), (.int 52), (.int 1)] (.int (0 : Int32))) (V1 : Arv Z h ta k1 .int 16 [(.int 8), (.int 9), (.int 10), (.int 0), (.int 0), (.int 0), (.int 0), (.int 0), (.int 0), (.int 0), (.int 0), (.int 0), (.int 0), (.int 0), (.int 0), (.int 0)] (.int (0 : Int32))) (V2 : Arv Z h va k2 .int 16 [(.int 2), (.int 6), (.int 11), (.int 0), (.int 0), (.int 0), (.int 0), (.int 0), (.int 0), (.int 0), (.int 0), (.int 0), (.int 0), (.int 0), (.int 0), (.int 0)] (.int (0 : Int32))) (V3 : Arv Z h ve k3 .int 16 [(.int 3), (.int 7), (.int 14), (.int 0), (.int 0), (.int 0), (.int 0), (.int 0), (.int 0), (.int 0), (.int 0), (.int 0), (.int 0), (.int 0), (.int 0), (.int 0)] (.int (0 : Int32))) :
    Con l (⟨"com/example/halyard/halyard/fix/FixMessage", "checkFraming", "(IZ)Lcom/example/halyard/halyard/fix/FixVersion;"⟩ : MethodName) prog_27_method_5_code 8 (some (.object "com/example/halyard/halyard/fix/FixVersion")) [] ({ frames := 3, cells := 0, slots := 0, locals := 72 } : Room) Z #[(.ref m_), (.int 666), (.int 1)] h (fun v' h' => v' = some .null ∧ h' = h) := by
  refine con_of (plainFor_of_name pn_2) hE (fun m => ef_rCk m m_) ?_
  intro p e s m below meth c T0 C X0
  have C : Cx p s m meth c Z "com/example/halyard/halyard/fix/FixMessage" "checkFraming" prog_27_method_5_code 8 (some (.object "com/example/halyard/halyard/fix/FixVersion")) := C
  show Goes p e below _ T0 (mkF m 0 #[.val (.ref m_), .val (.int 666), .val (.int 1), .unset, .unset, .unset, .unset, .unset] [])
  refine g_aloadN C X0 d6_0 rfl rfl (g_getfield (host := "") C X0 (Or.inl (wd hw 23 rfl)) Via.refl F_count d6_1 (fun T29 X29 => ?_))
  refine g_if (h0_eq _) C X29 d6_4 (fun q => absurd q (by decide)) (fun _ => ?_)
  refine g_aloadN C X29 d6_7 rfl rfl (g_getfield (host := "") C X29 (Or.inl (wd hw 25 rfl)) Via.refl F_tags d6_8 (fun T30 X30 => ?_))
  refine g_iconst 0 C X30 d6_11 rfl (g_iaload C X30 V1 d6_12 (by decide) (by decide) rfl (g_bipush 8 C X30 d6_13 rfl (g_icmp (hI_eq _ _) C X30 d6_15 (fun _ => ?_) (fun q => absurd (by decide) q))))
  refine g_aloadN C X30 d6_28 rfl rfl (g_getfield (host := "") C X30 (Or.inl (wd hw 21 rfl)) Via.refl F_bytes d6_29 (fun T31 X31 => ?_))
  refine g_aloadN C X31 d6_32 rfl rfl (g_getfield (host := "") C X31 (Or.inl (wd hw 27 rfl)) Via.refl F_valueStarts d6_33 (fun T32 X32 => ?_))
  refine g_iconst 0 C X32 d6_36 rfl (g_iaload C X32 V2 d6_37 (by decide) (by decide) rfl (g_aloadN C X32 d6_38 rfl rfl (g_getfield (host := "") C X32 (Or.inl (wd hw 29 rfl)) Via.refl F_valueEnds d6_39 (fun T33 X33 => ?_))))
  refine g_iconst 0 C X33 d6_42 rfl (g_iaload C X33 V3 d6_43 (by decide) (by decide) rfl (g_staticP (argsL := [(.ref f), (.int 2), (.int 3)]) (st := []) C X33 (wd hw 35 rfl) (wd hw 36 rfl) (wd hw 37 rfl) (wd hw 38 rfl) (by decide) (pay_of (W' := 0) (rOb l hw X33.ext f p_1 p_6 p_10 p_15 p_19 p_24 k_30 k_32 k_35 k_38 vs_33 vs_36 vs_39 kf S_3 S_8 E_9 F_12 S_17 E_18 F_21 S_26 V_29 V_31 V_34 V_37 VF) C.hZ (wd hw 38 rfl) (wd hw 37 rfl) (by decide) (by decide)) pd_2 rfl rfl _ rfl (Nat.le_of_eq rfl) d6_44 (by decide) (by decide) (fun T34 X34 => ?_)))
  refine g_astoreN C X34 d6_47 rfl (l' := #[.val (.ref m_), .val (.int 666), .val (.int 1), .val .null, .unset, .unset, .unset, .unset]) rfl (g_aloadN C X34 d6_48 rfl rfl (g_ifnonnull C X34 d6_49 rfl (fun q => absurd rfl q) (fun _ => ?_)))
  refine g_iloadN C X34 d6_52 rfl (g_ifn (h0_ne _) C X34 d6_53 (fun _ => ?_) (fun q => absurd q (by decide)))
  refine g_aloadN C X34 d6_74 rfl rfl (g_getfield (host := "") C X34 (Or.inl (wd hw 23 rfl)) Via.refl F_count d6_75 (fun T35 X35 => ?_))
  refine g_iconst 2 C X35 d6_78 rfl (g_icmp (hI_lt _ _) C X35 d6_79 (fun q => absurd q (by decide)) (fun _ => ?_))
  refine g_aloadN C X35 d6_82 rfl rfl (g_getfield (host := "") C X35 (Or.inl (wd hw 25 rfl)) Via.refl F_tags d6_83 (fun T36 X36 => ?_))
  refine g_iconst 1 C X36 d6_86 rfl (g_iaload C X36 V1 d6_87 (by decide) (by decide) rfl (g_bipush 9 C X36 d6_88 rfl (g_icmp (hI_eq _ _) C X36 d6_90 (fun _ => ?_) (fun q => absurd (by decide) q))))
  refine g_aloadN C X36 d6_103 rfl rfl (g_getfield (host := "") C X36 (Or.inl (wd hw 23 rfl)) Via.refl F_count d6_104 (fun T37 X37 => ?_))
  refine g_iconst 1 C X37 d6_107 rfl (g_isub C X37 d6_108 (g_istore C X37 d6_109 (l' := #[.val (.ref m_), .val (.int 666), .val (.int 1), .val .null, .val (.int 2), .unset, .unset, .unset]) rfl (g_iload C X37 d6_111 rfl (g_iconst 2 C X37 d6_113 rfl (g_icmp (hI_lt _ _) C X37 d6_114 (fun q => absurd q (by decide)) (fun _ => ?_))))))
  refine g_aloadN C X37 d6_117 rfl rfl (g_getfield (host := "") C X37 (Or.inl (wd hw 25 rfl)) Via.refl F_tags d6_118 (fun T38 X38 => ?_))
  refine g_iload C X38 d6_121 rfl (g_iaload C X38 V1 d6_123 (by decide) (by decide) rfl (g_bipush 10 C X38 d6_124 rfl (g_icmp (hI_eq _ _) C X38 d6_126 (fun _ => ?_) (fun q => absurd (by decide) q))))
  refine g_aloadN C X38 d6_139 rfl rfl (g_getfield (host := "") C X38 (Or.inl (wd hw 27 rfl)) Via.refl F_valueStarts d6_140 (fun T39 X39 => ?_))
  refine g_iload C X39 d6_143 rfl (g_iaload C X39 V2 d6_145 (by decide) (by decide) rfl (g_getstatic (host := "") C X39 (Or.inl (wd hw 52 rfl)) Via.refl S_26 d6_146 (fun T40 X40 => ?_)))
  refine g_arraylength C X40 (Arv.ext V_37 X40.ext) d6_149 (g_isub C X40 d6_150 (g_istore C X40 d6_151 (l' := #[.val (.ref m_), .val (.int 666), .val (.int 1), .val .null, .val (.int 2), .val (.int 8), .unset, .unset]) rfl (g_iload C X40 d6_153 rfl (g_aloadN C X40 d6_155 rfl rfl (g_getfield (host := "") C X40 (Or.inl (wd hw 29 rfl)) Via.refl F_valueEnds d6_156 (fun T41 X41 => ?_))))))
  refine g_iconst 1 C X41 d6_159 rfl (g_iaload C X41 V3 d6_160 (by decide) (by decide) rfl (g_iconst 1 C X41 d6_161 rfl (g_iadd C X41 d6_162 (g_isub C X41 d6_163 (g_istore C X41 d6_164 (l' := #[.val (.ref m_), .val (.int 666), .val (.int 1), .val .null, .val (.int 2), .val (.int 8), .val (.int 0), .unset]) rfl (g_aloadN C X41 d6_166 rfl rfl (g_iconst 1 C X41 d6_167 rfl (g_iload C X41 d6_168 rfl (g_iconst 1 C X41 d6_170 rfl (g_privateP (argsL := [(.int 1), (.int 0), (.int 1)]) (st := []) C X41 (wd hw 54 rfl) (wd hw 55 rfl) (sel_private C.hZ (wd hw 14 rfl) rfl (wd hw 56 rfl) (wd hw 55 rfl) (by decide)) (wd hw 56 rfl) (wd hw 57 rfl) (by decide) EM (pay_of (W' := 0) (rVia l hw X41.ext m_ f ta va ve kf k1 k2 k3 EM F_bytes F_count F_tags F_valueStarts F_valueEnds VF V1 V2 V3) C.hZ (wd hw 57 rfl) (wd hw 3 rfl) (by decide) (by decide)) pd_3 rfl rfl _ rfl (Nat.le_of_eq rfl) d6_171 (by decide) (by decide) (fun T42 X42 => ?_)))))))))))
  refine g_ifn (h0_ne _) C X42 d6_174 (fun _ => ?_) (fun q => absurd q (by decide))
  refine g_aloadN C X42 d6_197 rfl rfl (g_getfield (host := "") C X42 (Or.inl (wd hw 25 rfl)) Via.refl F_tags d6_198 (fun T43 X43 => ?_))
  refine g_iconst 2 C X43 d6_201 rfl (g_iaload C X43 V1 d6_202 (by decide) (by decide) rfl (g_bipush 35 C X43 d6_203 rfl (g_icmp (hI_eq _ _) C X43 d6_205 (fun q => absurd q (by decide)) (fun _ => ?_))))
  refine g_iloadN C X43 d6_208 rfl (g_ifn (h0_ne _) C X43 d6_209 (fun _ => ?_) (fun q => absurd q (by decide)))
  refine g_iloadN C X43 d6_222 rfl (g_aloadN C X43 d6_223 rfl rfl (g_getfield (host := "") C X43 (Or.inl (wd hw 21 rfl)) Via.refl F_bytes d6_224 (fun T44 X44 => ?_)))
  refine g_iload C X44 d6_227 rfl (g_aloadN C X44 d6_229 rfl rfl (g_getfield (host := "") C X44 (Or.inl (wd hw 21 rfl)) Via.refl F_bytes d6_230 (fun T45 X45 => ?_)))
  refine g_arraylength C X45 VF d6_233 (g_staticP (argsL := [(.ref f), (.int 8), (.int 15)]) (st := [(.int 666)]) C X45 (wd hw 58 rfl) (wd hw 59 rfl) (wd hw 3 rfl) (wd hw 60 rfl) (by decide) (pay_of (W' := 1) (rSu l hw X45.ext f kf VF) C.hZ (wd hw 60 rfl) (wd hw 3 rfl) (by decide) (by decide)) pd_4 rfl rfl _ rfl (Nat.le_of_eq rfl) d6_234 (by decide) (by decide) (fun T46 X46 => ?_))
  refine g_isub C X46 d6_237 (g_sipush 255 C X46 d6_238 rfl (g_iand C X46 d6_241 (g_istore C X46 d6_242 (l' := #[.val (.ref m_), .val (.int 666), .val (.int 1), .val .null, .val (.int 2), .val (.int 8), .val (.int 0), .val (.int 94)]) rfl (g_aloadN C X46 d6_244 rfl rfl (g_iload C X46 d6_245 rfl (g_iload C X46 d6_247 rfl (g_iconst 3 C X46 d6_249 rfl (g_privateP (argsL := [(.int 2), (.int 94), (.int 3)]) (st := []) C X46 (wd hw 54 rfl) (wd hw 55 rfl) (sel_private C.hZ (wd hw 14 rfl) rfl (wd hw 56 rfl) (wd hw 55 rfl) (by decide)) (wd hw 56 rfl) (wd hw 57 rfl) (by decide) EM (pay_of (W' := 0) (rVib l hw X46.ext m_ f ta va ve kf k1 k2 k3 EM F_bytes F_count F_tags F_valueStarts F_valueEnds VF V1 V2 V3) C.hZ (wd hw 57 rfl) (wd hw 3 rfl) (by decide) (by decide)) pd_3 rfl rfl _ rfl (Nat.le_of_eq rfl) d6_250 (by decide) (by decide) (fun T47 X47 => ?_)))))))))
  refine g_ifn (h0_ne _) C X47 d6_253 (fun _ => ?_) (fun q => absurd q (by decide))
  refine g_aloadN C X47 d6_292 rfl rfl ?_
  exact g_retA C X47 rfl rfl d6_293 (by decide) (by decide) ⟨rfl, rfl⟩
theorem ef_rFi (m : MethodId) (m_ : Addr) (f : Addr) (ta : Addr) (va : Addr) (ve : Addr) : entryFrame m #[(.ref m_), (.ref f), (.int 3), (.ref ta), (.ref va), (.ref ve), (.int 666), (.int 1)] 8 = mkF m 0 #[.val (.ref m_), .val (.ref f), .val (.int 3), .val (.ref ta), .val (.ref va), .val (.ref ve), .val (.int 666), .val (.int 1)] [] := by first | (simp [entryFrame, mkF, argsToLocals, Value.category]; done) | rfl
theorem d4_0 : Dc prog_27_method_1_code 0 (.aload_n 0) 1 1 := ⟨by decide +kernel, rfl⟩
theorem d4_1 : Dc prog_27_method_1_code 1 (.invokespecial 1) 3 4 := ⟨by decide +kernel, rfl⟩
theorem d4_4 : Dc prog_27_method_1_code 4 (.aload_n 0) 1 5 := ⟨by decide +kernel, rfl⟩
theorem d4_5 : Dc prog_27_method_1_code 5 (.aload_n 1) 1 6 := ⟨by decide +kernel, rfl⟩
theorem d4_6 : Dc prog_27_method_1_code 6 (.putfield 7) 3 9 := ⟨by decide +kernel, rfl⟩
theorem d4_9 : Dc prog_27_method_1_code 9 (.aload_n 0) 1 10 := ⟨by decide +kernel, rfl⟩
theorem d4_10 : Dc prog_27_method_1_code 10 (.iload_n 2) 1 11 := ⟨by decide +kernel, rfl⟩
theorem d4_11 : Dc prog_27_method_1_code 11 (.putfield 13) 3 14 := ⟨by decide +kernel, rfl⟩
theorem d4_14 : Dc prog_27_method_1_code 14 (.aload_n 0) 1 15 := ⟨by decide +kernel, rfl⟩
theorem d4_15 : Dc prog_27_method_1_code 15 (.aload_n 3) 1 16 := ⟨by decide +kernel, rfl⟩
theorem d4_16 : Dc prog_27_method_1_code 16 (.putfield 17) 3 19 := ⟨by decide +kernel, rfl⟩
theorem d4_19 : Dc prog_27_method_1_code 19 (.aload_n 0) 1 20 := ⟨by decide +kernel, rfl⟩
theorem d4_20 : Dc prog_27_method_1_code 20 (.aload 4) 2 22 := ⟨by decide +kernel, rfl⟩
theorem d4_22 : Dc prog_27_method_1_code 22 (.putfield 21) 3 25 := ⟨by decide +kernel, rfl⟩
theorem d4_25 : Dc prog_27_method_1_code 25 (.aload_n 0) 1 26 := ⟨by decide +kernel, rfl⟩
theorem d4_26 : Dc prog_27_method_1_code 26 (.aload 5) 2 28 := ⟨by decide +kernel, rfl⟩
theorem d4_28 : Dc prog_27_method_1_code 28 (.putfield 24) 3 31 := ⟨by decide +kernel, rfl⟩
theorem d4_31 : Dc prog_27_method_1_code 31 (.aload_n 0) 1 32 := ⟨by decide +kernel, rfl⟩
theorem d4_32 : Dc prog_27_method_1_code 32 (.aload_n 0) 1 33 := ⟨by decide +kernel, rfl⟩
theorem d4_33 : Dc prog_27_method_1_code 33 (.iload 6) 2 35 := ⟨by decide +kernel, rfl⟩
theorem d4_35 : Dc prog_27_method_1_code 35 (.iload 7) 2 37 := ⟨by decide +kernel, rfl⟩
theorem d4_37 : Dc prog_27_method_1_code 37 (.invokevirtual 27) 3 40 := ⟨by decide +kernel, rfl⟩
theorem pd_5 : parseMethodDescriptor "(IZ)Lcom/example/halyard/halyard/fix/FixVersion;" = some ⟨[.int, .boolean], some (.object "com/example/halyard/halyard/fix/FixVersion")⟩ := by decide +kernel
theorem d4_40 : Dc prog_27_method_1_code 40 (.putfield 31) 3 43 := ⟨by decide +kernel, rfl⟩
theorem d4_43 : Dc prog_27_method_1_code 43 (.aload_n 0) 1 44 := ⟨by decide +kernel, rfl⟩
theorem d4_44 : Dc prog_27_method_1_code 44 (.aload_n 0) 1 45 := ⟨by decide +kernel, rfl⟩
theorem d4_45 : Dc prog_27_method_1_code 45 (.bipush 35) 2 47 := ⟨by decide +kernel, rfl⟩
theorem d4_47 : Dc prog_27_method_1_code 47 (.invokevirtual 37) 3 50 := ⟨by decide +kernel, rfl⟩
theorem pd_6 : parseMethodDescriptor "(I)I" = some ⟨[.int], some .int⟩ := by decide +kernel
theorem d4_50 : Dc prog_27_method_1_code 50 (.putfield 41) 3 53 := ⟨by decide +kernel, rfl⟩
theorem d4_53 : Dc prog_27_method_1_code 53 (.return_) 1 54 := ⟨by decide +kernel, rfl⟩
theorem rFi (l : Launch) {Z : State} {a0 : Array Value} (hw : ∀ d ∈ tables_1, d.before a0 Z = true) {h : Heap} (hE : Ext Z.heap h) (m_ : Addr) (f : Addr) (ta : Addr) (va : Addr) (ve : Addr) (p_1 p_6 p_10 p_15 p_19 p_24 : Addr) (k_30 k_32 k_35 k_38 : ClassId) (vs_33 vs_36 vs_39 : List Value) (kf k1 k2 k3 : ClassId) (S_3 : Sta Z Z.heap "com/example/halyard/halyard/fix/FixVersion" "VERSIONS" "[Lcom/example/halyard/halyard/fix/FixVersion;" (.ref p_1)) (S_8 : Sta Z Z.heap "com/example/halyard/halyard/fix/FixVersion" "FIX_4_2" "Lcom/example/halyard/halyard/fix/FixVersion;" (.ref p_6)) (E_9 : Exa Z Z.heap p_6 "com/example/halyard/halyard/fix/FixVersion") (F_12 : Fld Z Z.heap p_6 "com/example/halyard/halyard/fix/FixVersion" "head" "[B" (.ref p_10)) (S_17 : Sta Z Z.heap "com/example/halyard/halyard/fix/FixVersion" "FIX_4_4" "Lcom/example/halyard/halyard/fix/FixVersion;" (.ref p_15)) (E_18 : Exa Z Z.heap p_15 "com/example/halyard/halyard/fix/FixVersion") (F_21 : Fld Z Z.heap p_15 "com/example/halyard/halyard/fix/FixVersion" "head" "[B" (.ref p_19)) (S_26 : Sta Z Z.heap "com/example/halyard/halyard/fix/FixMessage" "CHECK_SUM_TAG" "[B" (.ref p_24)) (V_29 : Arv Z Z.heap p_1 k_30 (.object "com/example/halyard/halyard/fix/FixVersion") 2 [(.ref p_6), (.ref p_15)] .null) (V_31 : Arv Z Z.heap p_10 k_32 .byte 9 vs_33 (.int 0)) (V_34 : Arv Z Z.heap p_19 k_35 .byte 9 vs_36 (.int 0)) (V_37 : Arv Z Z.heap p_24 k_38 .byte 3 vs_39 (.int 0)) (EM : Exa Z h m_ "com/example/halyard/halyard/fix/FixMessage") (F_bytes : Fld Z h m_ "com/example/halyard/halyard/fix/FixMessage" "bytes" "[B" .null) (F_count : Fld Z h m_ "com/example/halyard/halyard/fix/FixMessage" "count" "I" (.int 0)) (F_tags : Fld Z h m_ "com/example/halyard/halyard/fix/FixMessage" "tags" "[I" .null) (F_valueStarts : Fld Z h m_ "com/example/halyard/halyard/fix/FixMessage" "valueStarts" "[I" .null) (F_valueEnds : Fld Z h m_ "com/example/halyard/halyard/fix/FixMessage" "valueEnds" "[I" .null) (F_version : Fld Z h m_ "com/example/halyard/halyard/fix/FixMessage" "version" "Lcom/example/halyard/halyard/fix/FixVersion;" .null) (F_msgTypeAt : Fld Z h m_ "com/example/halyard/halyard/fix/FixMessage" "msgTypeAt" "I" (.int 0)) (VF : Arv Z h f kf .byte 15 [(.int 56), (.int 61), (.int 65), (.int 1), (.int 57), (.int 61), (.int 48), (.int 1), (.int 49), (.int 48), (.int 61), (.int 48), (.int 57), (.int 52), (.int 1)] (.int (0 : Int32))) (V1 : Arv Z h ta k1 .int 16 [(.int 8), (.int 9), (.int 10), (.int 0), (.int 0), (.int 0), (.int 0), (.int 0), (.int 0), (.int 0), (.int 0), (.int 0), (.int 0), (.int 0), (.int 0), (.int 0)] (.int (0 : Int32))) (V2 : Arv Z h va k2 .int 16 [(.int 2), (.int 6), (.int 11), (.int 0), (.int 0), (.int 0), (.int 0), (.int 0), (.int 0), (.int 0), (.int 0), (.int 0), (.int 0), (.int 0), (.int 0), (.int 0)] (.int (0 : Int32))) (V3 : Arv Z h ve k3 .int 16 [(.int 3), (.int 7), (.int 14), (.int 0), (.int 0), (.int 0), (.int 0), (.int 0), (.int 0), (.int 0), (.int 0), (.int 0), (.int 0), (.int 0), (.int 0), (.int 0)] (.int (0 : Int32))) (hn : Z.heap.size ≤ m_) (n0 : f ≠ m_) (n1 : ta ≠ m_) (n2 : va ≠ m_) (n3 : ve ≠ m_) :
    Con l (⟨"com/example/halyard/halyard/fix/FixMessage", "<init>", "([BI[I[I[IIZ)V"⟩ : MethodName) prog_27_method_1_code 8 none [] ({ frames := 4, cells := 0, slots := 0, locals := 96 } : Room) Z #[(.ref m_), (.ref f), (.int 3), (.ref ta), (.ref va), (.ref ve), (.int 666), (.int 1)] h (fun v' h' => v' = none ∧ Keep h h' [m_] ∧ Fld Z h' m_ "com/example/halyard/halyard/fix/FixMessage" "bytes" "[B" (.ref f)) := by
  refine con_of (plainFor_of_name pn_2) hE (fun m => ef_rFi m m_ f ta va ve) ?_
  intro p e s m below meth c T0 C X0
  have C : Cx p s m meth c Z "com/example/halyard/halyard/fix/FixMessage" "<init>" prog_27_method_1_code 8 none := C
  show Goes p e below _ T0 (mkF m 0 #[.val (.ref m_), .val (.ref f), .val (.int 3), .val (.ref ta), .val (.ref va), .val (.ref ve), .val (.int 666), .val (.int 1)] [])
  refine g_aloadN C X0 d4_0 rfl rfl (g_initO C X0 (wd hw 18 rfl) (wd hw 19 rfl) (wd hw 20 rfl) rfl d4_1 (by decide) 0 (Nat.le_of_eq rfl) (by decide) (fun T48 X48 => ?_))
  refine g_aloadN C X48 d4_4 rfl rfl (g_aloadN C X48 d4_5 rfl rfl (g_putfield (host := "") C X48 (Or.inl (wd hw 21 rfl)) Via.refl F_bytes EM (Or.inr ⟨(wd hw 22 rfl), rfl, rfl⟩) (wd hw 14 rfl) (ty := (.array .byte)) (by decide) rfl rfl hn d4_6 (fun T49 h49 X49 W49 => ?_)))
  have f49 := Fld.same W49 F_bytes
  refine g_aloadN C X49 d4_9 rfl rfl (g_iloadN C X49 d4_10 rfl ?_)
  have f50 := (Fld.other W49 F_count (Or.inr (slot_ne (Or.inr (wd hw 24 rfl)) (Or.inr (wd hw 22 rfl)) (by decide) (t := .int) (t' := (.array .byte)) (by decide) (by decide))))
  have f51 := (Exa.wr W49 EM)
  refine g_putfield (host := "") C X49 (Or.inl (wd hw 23 rfl)) Via.refl f50 f51 (Or.inr ⟨(wd hw 24 rfl), rfl, rfl⟩) (wd hw 14 rfl) (ty := .int) (by decide) rfl rfl hn d4_11 (fun T52 h52 X52 W52 => ?_)
  have f52 := Fld.same W52 f50
  refine g_aloadN C X52 d4_14 rfl rfl (g_aloadN C X52 d4_15 rfl rfl ?_)
  have f53 := (Fld.other W52 (Fld.other W49 F_tags (Or.inr (slot_ne (Or.inr (wd hw 26 rfl)) (Or.inr (wd hw 22 rfl)) (by decide) (t := (.array .int)) (t' := (.array .byte)) (by decide) (by decide)))) (Or.inr (slot_ne (Or.inr (wd hw 26 rfl)) (Or.inr (wd hw 24 rfl)) (by decide) (t := (.array .int)) (t' := .int) (by decide) (by decide))))
  have f54 := (Exa.wr W52 f51)
  refine g_putfield (host := "") C X52 (Or.inl (wd hw 25 rfl)) Via.refl f53 f54 (Or.inr ⟨(wd hw 26 rfl), rfl, rfl⟩) (wd hw 14 rfl) (ty := (.array .int)) (by decide) rfl rfl hn d4_16 (fun T55 h55 X55 W55 => ?_)
  have f55 := Fld.same W55 f53
  refine g_aloadN C X55 d4_19 rfl rfl (g_aload C X55 d4_20 rfl rfl ?_)
  have f56 := (Fld.other W55 (Fld.other W52 (Fld.other W49 F_valueStarts (Or.inr (slot_ne (Or.inr (wd hw 28 rfl)) (Or.inr (wd hw 22 rfl)) (by decide) (t := (.array .int)) (t' := (.array .byte)) (by decide) (by decide)))) (Or.inr (slot_ne (Or.inr (wd hw 28 rfl)) (Or.inr (wd hw 24 rfl)) (by decide) (t := (.array .int)) (t' := .int) (by decide) (by decide)))) (Or.inr (slot_ne (Or.inr (wd hw 28 rfl)) (Or.inr (wd hw 26 rfl)) (by decide) (t := (.array .int)) (t' := (.array .int)) (by decide) (by decide))))
  have f57 := (Exa.wr W55 f54)
  refine g_putfield (host := "") C X55 (Or.inl (wd hw 27 rfl)) Via.refl f56 f57 (Or.inr ⟨(wd hw 28 rfl), rfl, rfl⟩) (wd hw 14 rfl) (ty := (.array .int)) (by decide) rfl rfl hn d4_22 (fun T58 h58 X58 W58 => ?_)
  have f58 := Fld.same W58 f56
  refine g_aloadN C X58 d4_25 rfl rfl (g_aload C X58 d4_26 rfl rfl ?_)
  have f59 := (Fld.other W58 (Fld.other W55 (Fld.other W52 (Fld.other W49 F_valueEnds (Or.inr (slot_ne (Or.inr (wd hw 30 rfl)) (Or.inr (wd hw 22 rfl)) (by decide) (t := (.array .int)) (t' := (.array .byte)) (by decide) (by decide)))) (Or.inr (slot_ne (Or.inr (wd hw 30 rfl)) (Or.inr (wd hw 24 rfl)) (by decide) (t := (.array .int)) (t' := .int) (by decide) (by decide)))) (Or.inr (slot_ne (Or.inr (wd hw 30 rfl)) (Or.inr (wd hw 26 rfl)) (by decide) (t := (.array .int)) (t' := (.array .int)) (by decide) (by decide)))) (Or.inr (slot_ne (Or.inr (wd hw 30 rfl)) (Or.inr (wd hw 28 rfl)) (by decide) (t := (.array .int)) (t' := (.array .int)) (by decide) (by decide))))
  have f60 := (Exa.wr W58 f57)
  refine g_putfield (host := "") C X58 (Or.inl (wd hw 29 rfl)) Via.refl f59 f60 (Or.inr ⟨(wd hw 30 rfl), rfl, rfl⟩) (wd hw 14 rfl) (ty := (.array .int)) (by decide) rfl rfl hn d4_28 (fun T61 h61 X61 W61 => ?_)
  have f61 := Fld.same W61 f59
  refine g_aloadN C X61 d4_31 rfl rfl (g_aloadN C X61 d4_32 rfl rfl (g_iload C X61 d4_33 rfl (g_iload C X61 d4_35 rfl ?_)))
  have f62 := (Exa.wr W61 f60)
  have f63 := (Fld.other W61 (Fld.other W58 (Fld.other W55 (Fld.other W52 f49 (Or.inr (slot_ne (Or.inr (wd hw 22 rfl)) (Or.inr (wd hw 24 rfl)) (by decide) (t := (.array .byte)) (t' := .int) (by decide) (by decide)))) (Or.inr (slot_ne (Or.inr (wd hw 22 rfl)) (Or.inr (wd hw 26 rfl)) (by decide) (t := (.array .byte)) (t' := (.array .int)) (by decide) (by decide)))) (Or.inr (slot_ne (Or.inr (wd hw 22 rfl)) (Or.inr (wd hw 28 rfl)) (by decide) (t := (.array .byte)) (t' := (.array .int)) (by decide) (by decide)))) (Or.inr (slot_ne (Or.inr (wd hw 22 rfl)) (Or.inr (wd hw 30 rfl)) (by decide) (t := (.array .byte)) (t' := (.array .int)) (by decide) (by decide))))
  have f64 := (Fld.other W61 (Fld.other W58 (Fld.other W55 f52 (Or.inr (slot_ne (Or.inr (wd hw 24 rfl)) (Or.inr (wd hw 26 rfl)) (by decide) (t := .int) (t' := (.array .int)) (by decide) (by decide)))) (Or.inr (slot_ne (Or.inr (wd hw 24 rfl)) (Or.inr (wd hw 28 rfl)) (by decide) (t := .int) (t' := (.array .int)) (by decide) (by decide)))) (Or.inr (slot_ne (Or.inr (wd hw 24 rfl)) (Or.inr (wd hw 30 rfl)) (by decide) (t := .int) (t' := (.array .int)) (by decide) (by decide))))
  have f65 := (Fld.other W61 (Fld.other W58 f55 (Or.inr (slot_ne (Or.inr (wd hw 26 rfl)) (Or.inr (wd hw 28 rfl)) (by decide) (t := (.array .int)) (t' := (.array .int)) (by decide) (by decide)))) (Or.inr (slot_ne (Or.inr (wd hw 26 rfl)) (Or.inr (wd hw 30 rfl)) (by decide) (t := (.array .int)) (t' := (.array .int)) (by decide) (by decide))))
  have f66 := (Fld.other W61 f58 (Or.inr (slot_ne (Or.inr (wd hw 28 rfl)) (Or.inr (wd hw 30 rfl)) (by decide) (t := (.array .int)) (t' := (.array .int)) (by decide) (by decide))))
  have f67 := (Arv.other (Arv.other (Arv.other (Arv.other (Arv.other VF W49 n0) W52 n0) W55 n0) W58 n0) W61 n0)
  have f68 := (Arv.other (Arv.other (Arv.other (Arv.other (Arv.other V1 W49 n1) W52 n1) W55 n1) W58 n1) W61 n1)
  have f69 := (Arv.other (Arv.other (Arv.other (Arv.other (Arv.other V2 W49 n2) W52 n2) W55 n2) W58 n2) W61 n2)
  have f70 := (Arv.other (Arv.other (Arv.other (Arv.other (Arv.other V3 W49 n3) W52 n3) W55 n3) W58 n3) W61 n3)
  refine g_privateP (argsL := [(.int 666), (.int 1)]) (st := [(.ref m_)]) C X61 (wd hw 31 rfl) (wd hw 32 rfl) (sel_private C.hZ (wd hw 14 rfl) rfl (wd hw 33 rfl) (wd hw 32 rfl) (by decide)) (wd hw 33 rfl) (wd hw 34 rfl) (by decide) f62 (pay_of (W' := 1) (rCk l hw X61.ext m_ p_1 p_6 p_10 p_15 p_19 p_24 k_30 k_32 k_35 k_38 vs_33 vs_36 vs_39 f ta va ve kf k1 k2 k3 S_3 S_8 E_9 F_12 S_17 E_18 F_21 S_26 V_29 V_31 V_34 V_37 f62 f63 f64 f65 f66 f61 f67 f68 f69 f70) C.hZ (wd hw 34 rfl) (wd hw 3 rfl) (by decide) (by decide)) pd_5 rfl rfl _ rfl (Nat.le_of_eq rfl) d4_37 (by decide) (by decide) (fun T71 X71 => ?_)
  have f72 := (Fld.other W61 (Fld.other W58 (Fld.other W55 (Fld.other W52 (Fld.other W49 F_version (Or.inr (slot_ne (Or.inr (wd hw 62 rfl)) (Or.inr (wd hw 22 rfl)) (by decide) (t := (.object "com/example/halyard/halyard/fix/FixVersion")) (t' := (.array .byte)) (by decide) (by decide)))) (Or.inr (slot_ne (Or.inr (wd hw 62 rfl)) (Or.inr (wd hw 24 rfl)) (by decide) (t := (.object "com/example/halyard/halyard/fix/FixVersion")) (t' := .int) (by decide) (by decide)))) (Or.inr (slot_ne (Or.inr (wd hw 62 rfl)) (Or.inr (wd hw 26 rfl)) (by decide) (t := (.object "com/example/halyard/halyard/fix/FixVersion")) (t' := (.array .int)) (by decide) (by decide)))) (Or.inr (slot_ne (Or.inr (wd hw 62 rfl)) (Or.inr (wd hw 28 rfl)) (by decide) (t := (.object "com/example/halyard/halyard/fix/FixVersion")) (t' := (.array .int)) (by decide) (by decide)))) (Or.inr (slot_ne (Or.inr (wd hw 62 rfl)) (Or.inr (wd hw 30 rfl)) (by decide) (t := (.object "com/example/halyard/halyard/fix/FixVersion")) (t' := (.array .int)) (by decide) (by decide))))
  refine g_putfield (host := "") C X71 (Or.inl (wd hw 61 rfl)) Via.refl f72 f62 (Or.inr ⟨(wd hw 62 rfl), rfl, rfl⟩) (wd hw 14 rfl) (ty := (.object "com/example/halyard/halyard/fix/FixVersion")) (by decide) rfl rfl hn d4_40 (fun T73 h73 X73 W73 => ?_)
  have f73 := Fld.same W73 f72
  refine g_aloadN C X73 d4_43 rfl rfl (g_aloadN C X73 d4_44 rfl rfl (g_bipush 35 C X73 d4_45 rfl ?_))
  have f74 := (Exa.wr W73 f62)
  have f75 := (Fld.other W73 f63 (Or.inr (slot_ne (Or.inr (wd hw 22 rfl)) (Or.inr (wd hw 62 rfl)) (by decide) (t := (.array .byte)) (t' := (.object "com/example/halyard/halyard/fix/FixVersion")) (by decide) (by decide))))
  have f76 := (Fld.other W73 f64 (Or.inr (slot_ne (Or.inr (wd hw 24 rfl)) (Or.inr (wd hw 62 rfl)) (by decide) (t := .int) (t' := (.object "com/example/halyard/halyard/fix/FixVersion")) (by decide) (by decide))))
  have f77 := (Fld.other W73 f65 (Or.inr (slot_ne (Or.inr (wd hw 26 rfl)) (Or.inr (wd hw 62 rfl)) (by decide) (t := (.array .int)) (t' := (.object "com/example/halyard/halyard/fix/FixVersion")) (by decide) (by decide))))
  have f78 := (Fld.other W73 f66 (Or.inr (slot_ne (Or.inr (wd hw 28 rfl)) (Or.inr (wd hw 62 rfl)) (by decide) (t := (.array .int)) (t' := (.object "com/example/halyard/halyard/fix/FixVersion")) (by decide) (by decide))))
  have f79 := (Fld.other W73 f61 (Or.inr (slot_ne (Or.inr (wd hw 30 rfl)) (Or.inr (wd hw 62 rfl)) (by decide) (t := (.array .int)) (t' := (.object "com/example/halyard/halyard/fix/FixVersion")) (by decide) (by decide))))
  have f80 := (Arv.other f67 W73 n0)
  have f81 := (Arv.other f68 W73 n1)
  have f82 := (Arv.other f69 W73 n2)
  have f83 := (Arv.other f70 W73 n3)
  refine g_privateP (argsL := [(.int 35)]) (st := [(.ref m_)]) C X73 (wd hw 63 rfl) (wd hw 64 rfl) (sel_private C.hZ (wd hw 14 rfl) rfl (wd hw 65 rfl) (wd hw 64 rfl) (by decide)) (wd hw 65 rfl) (wd hw 66 rfl) (by decide) f74 (pay_of (W' := 1) (rIx l hw X73.ext m_ f ta va ve kf k1 k2 k3 f74 f75 f76 f77 f78 f79 f80 f81 f82 f83) C.hZ (wd hw 66 rfl) (wd hw 3 rfl) (by decide) (by decide)) pd_6 rfl rfl _ rfl (Nat.le_of_eq rfl) d4_47 (by decide) (by decide) (fun T84 X84 => ?_)
  have f85 := (Fld.other W73 (Fld.other W61 (Fld.other W58 (Fld.other W55 (Fld.other W52 (Fld.other W49 F_msgTypeAt (Or.inr (slot_ne (Or.inr (wd hw 68 rfl)) (Or.inr (wd hw 22 rfl)) (by decide) (t := .int) (t' := (.array .byte)) (by decide) (by decide)))) (Or.inr (slot_ne (Or.inr (wd hw 68 rfl)) (Or.inr (wd hw 24 rfl)) (by decide) (t := .int) (t' := .int) (by decide) (by decide)))) (Or.inr (slot_ne (Or.inr (wd hw 68 rfl)) (Or.inr (wd hw 26 rfl)) (by decide) (t := .int) (t' := (.array .int)) (by decide) (by decide)))) (Or.inr (slot_ne (Or.inr (wd hw 68 rfl)) (Or.inr (wd hw 28 rfl)) (by decide) (t := .int) (t' := (.array .int)) (by decide) (by decide)))) (Or.inr (slot_ne (Or.inr (wd hw 68 rfl)) (Or.inr (wd hw 30 rfl)) (by decide) (t := .int) (t' := (.array .int)) (by decide) (by decide)))) (Or.inr (slot_ne (Or.inr (wd hw 68 rfl)) (Or.inr (wd hw 62 rfl)) (by decide) (t := .int) (t' := (.object "com/example/halyard/halyard/fix/FixVersion")) (by decide) (by decide))))
  refine g_putfield (host := "") C X84 (Or.inl (wd hw 67 rfl)) Via.refl f85 f74 (Or.inr ⟨(wd hw 68 rfl), rfl, rfl⟩) (wd hw 14 rfl) (ty := .int) (by decide) rfl rfl hn d4_50 (fun T86 h86 X86 W86 => ?_)
  have f86 := Fld.same W86 f85
  have kp87 := (Keep.refl h [m_]).wr W49 (Or.inl (by simp))
  have kp88 := kp87.wr W52 (Or.inl (by simp))
  have kp89 := kp88.wr W55 (Or.inl (by simp))
  have kp90 := kp89.wr W58 (Or.inl (by simp))
  have kp91 := kp90.wr W61 (Or.inl (by simp))
  have kp92 := kp91.wr W73 (Or.inl (by simp))
  have kp93 := kp92.wr W86 (Or.inl (by simp))
  have f94 := (Fld.other W86 f75 (Or.inr (slot_ne (Or.inr (wd hw 22 rfl)) (Or.inr (wd hw 68 rfl)) (by decide) (t := (.array .byte)) (t' := .int) (by decide) (by decide))))
  exact g_retV C X86 d4_53 (by decide) (by decide) ⟨rfl, kp93, f94⟩
theorem ef_rPs (m : MethodId) (f : Addr) : entryFrame m #[(.ref f), (.int 1)] 14 = mkF m 0 #[.val (.ref f), .val (.int 1), .unset, .unset, .unset, .unset, .unset, .unset, .unset, .unset, .unset, .unset, .unset, .unset] [] := by first | (simp [entryFrame, mkF, argsToLocals, Value.category]; done) | rfl
theorem d2_0 : Dc prog_27_method_4_code 0 (.bipush 16) 2 2 := ⟨by decide +kernel, rfl⟩
theorem d2_2 : Dc prog_27_method_4_code 2 (.aload_n 0) 1 3 := ⟨by decide +kernel, rfl⟩
theorem d2_3 : Dc prog_27_method_4_code 3 (.arraylength) 1 4 := ⟨by decide +kernel, rfl⟩
theorem d2_4 : Dc prog_27_method_4_code 4 (.bipush 8) 2 6 := ⟨by decide +kernel, rfl⟩
theorem d2_6 : Dc prog_27_method_4_code 6 (.idiv) 1 7 := ⟨by decide +kernel, rfl⟩
theorem d2_7 : Dc prog_27_method_4_code 7 (.invokestatic 48) 3 10 := ⟨by decide +kernel, rfl⟩
theorem pd_7 : parseMethodDescriptor "(II)I" = some ⟨[.int, .int], some .int⟩ := by decide +kernel
theorem d2_10 : Dc prog_27_method_4_code 10 (.istore_n 2) 1 11 := ⟨by decide +kernel, rfl⟩
theorem d2_11 : Dc prog_27_method_4_code 11 (.iload_n 2) 1 12 := ⟨by decide +kernel, rfl⟩
theorem d2_12 : Dc prog_27_method_4_code 12 (.newarray .int) 2 14 := ⟨by decide +kernel, rfl⟩
theorem d2_14 : Dc prog_27_method_4_code 14 (.astore_n 3) 1 15 := ⟨by decide +kernel, rfl⟩
theorem d2_15 : Dc prog_27_method_4_code 15 (.iload_n 2) 1 16 := ⟨by decide +kernel, rfl⟩
theorem d2_16 : Dc prog_27_method_4_code 16 (.newarray .int) 2 18 := ⟨by decide +kernel, rfl⟩
theorem d2_18 : Dc prog_27_method_4_code 18 (.astore 4) 2 20 := ⟨by decide +kernel, rfl⟩
theorem d2_20 : Dc prog_27_method_4_code 20 (.iload_n 2) 1 21 := ⟨by decide +kernel, rfl⟩
theorem d2_21 : Dc prog_27_method_4_code 21 (.newarray .int) 2 23 := ⟨by decide +kernel, rfl⟩
theorem d2_23 : Dc prog_27_method_4_code 23 (.astore 5) 2 25 := ⟨by decide +kernel, rfl⟩
theorem d2_25 : Dc prog_27_method_4_code 25 (.iconst 0) 1 26 := ⟨by decide +kernel, rfl⟩
theorem d2_26 : Dc prog_27_method_4_code 26 (.istore 6) 2 28 := ⟨by decide +kernel, rfl⟩
theorem d2_28 : Dc prog_27_method_4_code 28 (.iconst 0) 1 29 := ⟨by decide +kernel, rfl⟩
theorem d2_29 : Dc prog_27_method_4_code 29 (.istore 7) 2 31 := ⟨by decide +kernel, rfl⟩
theorem d2_31 : Dc prog_27_method_4_code 31 (.aload_n 0) 1 32 := ⟨by decide +kernel, rfl⟩
theorem d2_32 : Dc prog_27_method_4_code 32 (.arraylength) 1 33 := ⟨by decide +kernel, rfl⟩
theorem d2_33 : Dc prog_27_method_4_code 33 (.istore 8) 2 35 := ⟨by decide +kernel, rfl⟩
theorem d2_35 : Dc prog_27_method_4_code 35 (.iconst 0) 1 36 := ⟨by decide +kernel, rfl⟩
theorem d2_36 : Dc prog_27_method_4_code 36 (.istore 9) 2 38 := ⟨by decide +kernel, rfl⟩
theorem d2_38 : Dc prog_27_method_4_code 38 (.iload 7) 2 40 := ⟨by decide +kernel, rfl⟩
theorem d2_40 : Dc prog_27_method_4_code 40 (.iload 8) 2 42 := ⟨by decide +kernel, rfl⟩
theorem d2_42 : Dj prog_27_method_4_code 42 (.if_icmp .ge 245) 245 3 45 287 := ⟨by decide +kernel, rfl, by decide, by decide⟩
theorem d2_45 : Dc prog_27_method_4_code 45 (.iload 7) 2 47 := ⟨by decide +kernel, rfl⟩
theorem d2_47 : Dc prog_27_method_4_code 47 (.istore 10) 2 49 := ⟨by decide +kernel, rfl⟩
theorem d2_49 : Dc prog_27_method_4_code 49 (.iconst 0) 1 50 := ⟨by decide +kernel, rfl⟩
theorem d2_50 : Dc prog_27_method_4_code 50 (.istore 11) 2 52 := ⟨by decide +kernel, rfl⟩
theorem d2_52 : Dc prog_27_method_4_code 52 (.iload 7) 2 54 := ⟨by decide +kernel, rfl⟩
theorem d2_54 : Dc prog_27_method_4_code 54 (.iload 8) 2 56 := ⟨by decide +kernel, rfl⟩
theorem d2_56 : Dj prog_27_method_4_code 56 (.if_icmp .ge 58) 58 3 59 114 := ⟨by decide +kernel, rfl, by decide, by decide⟩
theorem d2_59 : Dc prog_27_method_4_code 59 (.aload_n 0) 1 60 := ⟨by decide +kernel, rfl⟩
theorem d2_60 : Dc prog_27_method_4_code 60 (.iload 7) 2 62 := ⟨by decide +kernel, rfl⟩
theorem d2_62 : Dc prog_27_method_4_code 62 (.baload) 1 63 := ⟨by decide +kernel, rfl⟩
theorem d2_63 : Dc prog_27_method_4_code 63 (.dup) 1 64 := ⟨by decide +kernel, rfl⟩
theorem d2_64 : Dc prog_27_method_4_code 64 (.istore 12) 2 66 := ⟨by decide +kernel, rfl⟩
theorem d2_66 : Dc prog_27_method_4_code 66 (.bipush 48) 2 68 := ⟨by decide +kernel, rfl⟩
theorem d2_68 : Dj prog_27_method_4_code 68 (.if_icmp .lt 46) 46 3 71 114 := ⟨by decide +kernel, rfl, by decide, by decide⟩
theorem d2_71 : Dc prog_27_method_4_code 71 (.iload 12) 2 73 := ⟨by decide +kernel, rfl⟩
theorem d2_73 : Dc prog_27_method_4_code 73 (.bipush 57) 2 75 := ⟨by decide +kernel, rfl⟩
theorem d2_75 : Dj prog_27_method_4_code 75 (.if_icmp .gt 39) 39 3 78 114 := ⟨by decide +kernel, rfl, by decide, by decide⟩
theorem d2_78 : Dc prog_27_method_4_code 78 (.iload 7) 2 80 := ⟨by decide +kernel, rfl⟩
theorem d2_80 : Dc prog_27_method_4_code 80 (.iload 10) 2 82 := ⟨by decide +kernel, rfl⟩
theorem d2_82 : Dc prog_27_method_4_code 82 (.isub) 1 83 := ⟨by decide +kernel, rfl⟩
theorem d2_83 : Dc prog_27_method_4_code 83 (.bipush 9) 2 85 := ⟨by decide +kernel, rfl⟩
theorem d2_85 : Dj prog_27_method_4_code 85 (.if_icmp .ge 29) 29 3 88 114 := ⟨by decide +kernel, rfl, by decide, by decide⟩
theorem d2_88 : Dc prog_27_method_4_code 88 (.iload 11) 2 90 := ⟨by decide +kernel, rfl⟩
theorem d2_90 : Dc prog_27_method_4_code 90 (.bipush 10) 2 92 := ⟨by decide +kernel, rfl⟩
theorem d2_92 : Dc prog_27_method_4_code 92 (.imul) 1 93 := ⟨by decide +kernel, rfl⟩
theorem d2_93 : Dc prog_27_method_4_code 93 (.iload 12) 2 95 := ⟨by decide +kernel, rfl⟩
theorem d2_95 : Dc prog_27_method_4_code 95 (.iadd) 1 96 := ⟨by decide +kernel, rfl⟩
theorem d2_96 : Dc prog_27_method_4_code 96 (.bipush 48) 2 98 := ⟨by decide +kernel, rfl⟩
theorem d2_98 : Dc prog_27_method_4_code 98 (.isub) 1 99 := ⟨by decide +kernel, rfl⟩
theorem d2_99 : Dc prog_27_method_4_code 99 (.istore 11) 2 101 := ⟨by decide +kernel, rfl⟩
theorem d2_101 : Dc prog_27_method_4_code 101 (.iload 9) 2 103 := ⟨by decide +kernel, rfl⟩
theorem d2_103 : Dc prog_27_method_4_code 103 (.iload 12) 2 105 := ⟨by decide +kernel, rfl⟩
theorem d2_105 : Dc prog_27_method_4_code 105 (.iadd) 1 106 := ⟨by decide +kernel, rfl⟩
theorem d2_106 : Dc prog_27_method_4_code 106 (.istore 9) 2 108 := ⟨by decide +kernel, rfl⟩
theorem d2_108 : Dc prog_27_method_4_code 108 (.iinc 7 1) 3 111 := ⟨by decide +kernel, rfl⟩
theorem d2_111 : Dj prog_27_method_4_code 111 (.goto (-59)) (-59) 3 114 52 := ⟨by decide +kernel, rfl, by decide, by decide⟩
theorem d2_114 : Dc prog_27_method_4_code 114 (.iload 7) 2 116 := ⟨by decide +kernel, rfl⟩
theorem d2_116 : Dc prog_27_method_4_code 116 (.iload 10) 2 118 := ⟨by decide +kernel, rfl⟩
theorem d2_118 : Dj prog_27_method_4_code 118 (.if_icmp .eq 28) 28 3 121 146 := ⟨by decide +kernel, rfl, by decide, by decide⟩
theorem d2_121 : Dc prog_27_method_4_code 121 (.aload_n 0) 1 122 := ⟨by decide +kernel, rfl⟩
theorem d2_122 : Dc prog_27_method_4_code 122 (.iload 10) 2 124 := ⟨by decide +kernel, rfl⟩
theorem d2_124 : Dc prog_27_method_4_code 124 (.baload) 1 125 := ⟨by decide +kernel, rfl⟩
theorem d2_125 : Dc prog_27_method_4_code 125 (.bipush 48) 2 127 := ⟨by decide +kernel, rfl⟩
theorem d2_127 : Dj prog_27_method_4_code 127 (.if_icmp .eq 19) 19 3 130 146 := ⟨by decide +kernel, rfl, by decide, by decide⟩
theorem d2_130 : Dc prog_27_method_4_code 130 (.iload 7) 2 132 := ⟨by decide +kernel, rfl⟩
theorem d2_132 : Dc prog_27_method_4_code 132 (.iload 8) 2 134 := ⟨by decide +kernel, rfl⟩
theorem d2_134 : Dj prog_27_method_4_code 134 (.if_icmp .eq 12) 12 3 137 146 := ⟨by decide +kernel, rfl, by decide, by decide⟩
theorem d2_137 : Dc prog_27_method_4_code 137 (.aload_n 0) 1 138 := ⟨by decide +kernel, rfl⟩
theorem d2_138 : Dc prog_27_method_4_code 138 (.iload 7) 2 140 := ⟨by decide +kernel, rfl⟩
theorem d2_140 : Dc prog_27_method_4_code 140 (.baload) 1 141 := ⟨by decide +kernel, rfl⟩
theorem d2_141 : Dc prog_27_method_4_code 141 (.bipush 61) 2 143 := ⟨by decide +kernel, rfl⟩
theorem d2_143 : Dj prog_27_method_4_code 143 (.if_icmp .eq 18) 18 3 146 161 := ⟨by decide +kernel, rfl, by decide, by decide⟩
theorem d2_161 : Dc prog_27_method_4_code 161 (.iinc 9 61) 3 164 := ⟨by decide +kernel, rfl⟩
theorem d2_164 : Dc prog_27_method_4_code 164 (.iinc 7 1) 3 167 := ⟨by decide +kernel, rfl⟩
theorem d2_167 : Dc prog_27_method_4_code 167 (.iload 7) 2 169 := ⟨by decide +kernel, rfl⟩
theorem d2_169 : Dc prog_27_method_4_code 169 (.istore 13) 2 171 := ⟨by decide +kernel, rfl⟩
theorem d2_171 : Dc prog_27_method_4_code 171 (.iload 7) 2 173 := ⟨by decide +kernel, rfl⟩
theorem d2_173 : Dc prog_27_method_4_code 173 (.iload 8) 2 175 := ⟨by decide +kernel, rfl⟩
theorem d2_175 : Dj prog_27_method_4_code 175 (.if_icmp .ge 31) 31 3 178 206 := ⟨by decide +kernel, rfl, by decide, by decide⟩
theorem d2_178 : Dc prog_27_method_4_code 178 (.aload_n 0) 1 179 := ⟨by decide +kernel, rfl⟩
theorem d2_179 : Dc prog_27_method_4_code 179 (.iload 7) 2 181 := ⟨by decide +kernel, rfl⟩
theorem d2_181 : Dc prog_27_method_4_code 181 (.baload) 1 182 := ⟨by decide +kernel, rfl⟩
theorem d2_182 : Dc prog_27_method_4_code 182 (.dup) 1 183 := ⟨by decide +kernel, rfl⟩
theorem d2_183 : Dc prog_27_method_4_code 183 (.istore 12) 2 185 := ⟨by decide +kernel, rfl⟩
theorem d2_185 : Dc prog_27_method_4_code 185 (.iconst 1) 1 186 := ⟨by decide +kernel, rfl⟩
theorem d2_186 : Dj prog_27_method_4_code 186 (.if_icmp .eq 20) 20 3 189 206 := ⟨by decide +kernel, rfl, by decide, by decide⟩
theorem d2_189 : Dc prog_27_method_4_code 189 (.iload 9) 2 191 := ⟨by decide +kernel, rfl⟩
theorem d2_191 : Dc prog_27_method_4_code 191 (.iload 12) 2 193 := ⟨by decide +kernel, rfl⟩
theorem d2_193 : Dc prog_27_method_4_code 193 (.sipush 255) 3 196 := ⟨by decide +kernel, rfl⟩
theorem d2_196 : Dc prog_27_method_4_code 196 (.iand) 1 197 := ⟨by decide +kernel, rfl⟩
theorem d2_197 : Dc prog_27_method_4_code 197 (.iadd) 1 198 := ⟨by decide +kernel, rfl⟩
theorem d2_198 : Dc prog_27_method_4_code 198 (.istore 9) 2 200 := ⟨by decide +kernel, rfl⟩
theorem d2_200 : Dc prog_27_method_4_code 200 (.iinc 7 1) 3 203 := ⟨by decide +kernel, rfl⟩
theorem d2_203 : Dj prog_27_method_4_code 203 (.goto (-32)) (-32) 3 206 171 := ⟨by decide +kernel, rfl, by decide, by decide⟩
theorem d2_206 : Dc prog_27_method_4_code 206 (.iload 7) 2 208 := ⟨by decide +kernel, rfl⟩
theorem d2_208 : Dc prog_27_method_4_code 208 (.iload 8) 2 210 := ⟨by decide +kernel, rfl⟩
theorem d2_210 : Dj prog_27_method_4_code 210 (.if_icmp .ne 13) 13 3 213 223 := ⟨by decide +kernel, rfl, by decide, by decide⟩
theorem d2_223 : Dc prog_27_method_4_code 223 (.iinc 9 1) 3 226 := ⟨by decide +kernel, rfl⟩
theorem d2_226 : Dc prog_27_method_4_code 226 (.iload 6) 2 228 := ⟨by decide +kernel, rfl⟩
theorem d2_228 : Dc prog_27_method_4_code 228 (.iload_n 2) 1 229 := ⟨by decide +kernel, rfl⟩
theorem d2_229 : Dj prog_27_method_4_code 229 (.if_icmp .ne 29) 29 3 232 258 := ⟨by decide +kernel, rfl, by decide, by decide⟩
theorem d2_258 : Dc prog_27_method_4_code 258 (.aload_n 3) 1 259 := ⟨by decide +kernel, rfl⟩
theorem d2_259 : Dc prog_27_method_4_code 259 (.iload 6) 2 261 := ⟨by decide +kernel, rfl⟩
theorem d2_261 : Dc prog_27_method_4_code 261 (.iload 11) 2 263 := ⟨by decide +kernel, rfl⟩
theorem d2_263 : Dc prog_27_method_4_code 263 (.iastore) 1 264 := ⟨by decide +kernel, rfl⟩
theorem d2_264 : Dc prog_27_method_4_code 264 (.aload 4) 2 266 := ⟨by decide +kernel, rfl⟩
theorem d2_266 : Dc prog_27_method_4_code 266 (.iload 6) 2 268 := ⟨by decide +kernel, rfl⟩
theorem d2_268 : Dc prog_27_method_4_code 268 (.iload 13) 2 270 := ⟨by decide +kernel, rfl⟩
theorem d2_270 : Dc prog_27_method_4_code 270 (.iastore) 1 271 := ⟨by decide +kernel, rfl⟩
theorem d2_271 : Dc prog_27_method_4_code 271 (.aload 5) 2 273 := ⟨by decide +kernel, rfl⟩
theorem d2_273 : Dc prog_27_method_4_code 273 (.iload 6) 2 275 := ⟨by decide +kernel, rfl⟩
theorem d2_275 : Dc prog_27_method_4_code 275 (.iload 7) 2 277 := ⟨by decide +kernel, rfl⟩
theorem d2_277 : Dc prog_27_method_4_code 277 (.iastore) 1 278 := ⟨by decide +kernel, rfl⟩
theorem d2_278 : Dc prog_27_method_4_code 278 (.iinc 6 1) 3 281 := ⟨by decide +kernel, rfl⟩
theorem d2_281 : Dc prog_27_method_4_code 281 (.iinc 7 1) 3 284 := ⟨by decide +kernel, rfl⟩
theorem d2_284 : Dj prog_27_method_4_code 284 (.goto (-246)) (-246) 3 287 38 := ⟨by decide +kernel, rfl, by decide, by decide⟩
theorem d2_287 : Dc prog_27_method_4_code 287 (.new 8) 3 290 := ⟨by decide +kernel, rfl⟩
theorem d2_290 : Dc prog_27_method_4_code 290 (.dup) 1 291 := ⟨by decide +kernel, rfl⟩
theorem d2_291 : Dc prog_27_method_4_code 291 (.aload_n 0) 1 292 := ⟨by decide +kernel, rfl⟩
theorem d2_292 : Dc prog_27_method_4_code 292 (.iload 6) 2 294 := ⟨by decide +kernel, rfl⟩
theorem d2_294 : Dc prog_27_method_4_code 294 (.aload_n 3) 1 295 := ⟨by decide +kernel, rfl⟩
theorem d2_295 : Dc prog_27_method_4_code 295 (.aload 4) 2 297 := ⟨by decide +kernel, rfl⟩
theorem d2_297 : Dc prog_27_method_4_code 297 (.aload 5) 2 299 := ⟨by decide +kernel, rfl⟩
theorem d2_299 : Dc prog_27_method_4_code 299 (.iload 9) 2 301 := ⟨by decide +kernel, rfl⟩
theorem d2_301 : Dc prog_27_method_4_code 301 (.iload_n 1) 1 302 := ⟨by decide +kernel, rfl⟩
theorem d2_302 : Dc prog_27_method_4_code 302 (.invokespecial 71) 3 305 := ⟨by decide +kernel, rfl⟩
theorem pd_8 : parseMethodDescriptor "([BI[I[I[IIZ)V" = some ⟨[(.array .byte), .int, (.array .int), (.array .int), (.array .int), .int, .boolean], none⟩ := by decide +kernel
theorem d2_305 : Dc prog_27_method_4_code 305 (.areturn) 1 306 := ⟨by decide +kernel, rfl⟩
theorem rPs (l : Launch) {Z : State} {a0 : Array Value} (hw : ∀ d ∈ tables_1, d.before a0 Z = true) {h : Heap} (hE : Ext Z.heap h) (f : Addr) (p_1 p_6 p_10 p_15 p_19 p_24 : Addr) (k_30 k_32 k_35 k_38 : ClassId) (vs_33 vs_36 vs_39 : List Value) (kf : ClassId) (S_3 : Sta Z Z.heap "com/example/halyard/halyard/fix/FixVersion" "VERSIONS" "[Lcom/example/halyard/halyard/fix/FixVersion;" (.ref p_1)) (S_8 : Sta Z Z.heap "com/example/halyard/halyard/fix/FixVersion" "FIX_4_2" "Lcom/example/halyard/halyard/fix/FixVersion;" (.ref p_6)) (E_9 : Exa Z Z.heap p_6 "com/example/halyard/halyard/fix/FixVersion") (F_12 : Fld Z Z.heap p_6 "com/example/halyard/halyard/fix/FixVersion" "head" "[B" (.ref p_10)) (S_17 : Sta Z Z.heap "com/example/halyard/halyard/fix/FixVersion" "FIX_4_4" "Lcom/example/halyard/halyard/fix/FixVersion;" (.ref p_15)) (E_18 : Exa Z Z.heap p_15 "com/example/halyard/halyard/fix/FixVersion") (F_21 : Fld Z Z.heap p_15 "com/example/halyard/halyard/fix/FixVersion" "head" "[B" (.ref p_19)) (S_26 : Sta Z Z.heap "com/example/halyard/halyard/fix/FixMessage" "CHECK_SUM_TAG" "[B" (.ref p_24)) (V_29 : Arv Z Z.heap p_1 k_30 (.object "com/example/halyard/halyard/fix/FixVersion") 2 [(.ref p_6), (.ref p_15)] .null) (V_31 : Arv Z Z.heap p_10 k_32 .byte 9 vs_33 (.int 0)) (V_34 : Arv Z Z.heap p_19 k_35 .byte 9 vs_36 (.int 0)) (V_37 : Arv Z Z.heap p_24 k_38 .byte 3 vs_39 (.int 0)) (VF : Arv Z h f kf .byte 15 [(.int 56), (.int 61), (.int 65), (.int 1), (.int 57), (.int 61), (.int 48), (.int 1), (.int 49), (.int 48), (.int 61), (.int 48), (.int 57), (.int 52), (.int 1)] (.int (0 : Int32))) :
    Con l (⟨"com/example/halyard/halyard/fix/FixMessage", "parse", "([BZ)Lcom/example/halyard/halyard/fix/FixMessage;"⟩ : MethodName) prog_27_method_4_code 14 (some (.object "com/example/halyard/halyard/fix/FixMessage")) [] ({ frames := 5, cells := 4, slots := 55, locals := 120 } : Room) Z #[(.ref f), (.int 1)] h (fun v' h' => ∃ m_, v' = some (.ref m_) ∧ Z.heap.size ≤ m_ ∧ h.size ≤ m_ ∧ Ext h h' ∧ Exa Z h' m_ "com/example/halyard/halyard/fix/FixMessage" ∧ Fld Z h' m_ "com/example/halyard/halyard/fix/FixMessage" "bytes" "[B" (.ref f)) := by
  refine con_of (plainFor_of_name pn_2) hE (fun m => ef_rPs m f) ?_
  intro p e s m below meth c T0 C X0
  have C : Cx p s m meth c Z "com/example/halyard/halyard/fix/FixMessage" "parse" prog_27_method_4_code 14 (some (.object "com/example/halyard/halyard/fix/FixMessage")) := C
  show Goes p e below _ T0 (mkF m 0 #[.val (.ref f), .val (.int 1), .unset, .unset, .unset, .unset, .unset, .unset, .unset, .unset, .unset, .unset, .unset, .unset] [])
  refine g_bipush 16 C X0 d2_0 rfl (g_aloadN C X0 d2_2 rfl rfl (g_arraylength C X0 VF d2_3 (g_bipush 8 C X0 d2_4 rfl (g_idiv C X0 d2_6 (by decide) (g_staticP (argsL := [(.int 16), (.int 1)]) (st := []) C X0 (wd hw 8 rfl) (wd hw 9 rfl) (wd hw 10 rfl) (wd hw 11 rfl) (by decide) (pay_of (W' := 0) (rMx l hw X0.ext (16 : Int32) (1 : Int32)) C.hZ (wd hw 11 rfl) (wd hw 10 rfl) (by decide) (by decide)) pd_7 rfl rfl _ rfl (Nat.le_of_eq rfl) d2_7 (by decide) (by decide) (fun T95 X95 => ?_))))))
  refine g_istoreN C X95 d2_10 (l' := #[.val (.ref f), .val (.int 1), .val (.int 16), .unset, .unset, .unset, .unset, .unset, .unset, .unset, .unset, .unset, .unset, .unset]) rfl (g_iloadN C X95 d2_11 rfl (g_newarray C X95 (wd hw 12 rfl) d2_12 (by decide) 16 16 (by decide) (by decide) (by decide) (by decide) (fun T96 h96 b96 k_b96 g_b96 n_b96 X96 E96 V96 => ?_)))
  have lt97 : f < b96 := by rw [g_b96]; exact Arv.lt VF
  have V_b96 : Arv Z h96 b96 k_b96 .int (16 : Int32) [(.int 0), (.int 0), (.int 0), (.int 0), (.int 0), (.int 0), (.int 0), (.int 0), (.int 0), (.int 0), (.int 0), (.int 0), (.int 0), (.int 0), (.int 0), (.int 0)] (.int 0) := V96
  refine g_astoreN C X96 d2_14 rfl (l' := #[.val (.ref f), .val (.int 1), .val (.int 16), .val (.ref b96), .unset, .unset, .unset, .unset, .unset, .unset, .unset, .unset, .unset, .unset]) rfl (g_iloadN C X96 d2_15 rfl (g_newarray C X96 (wd hw 12 rfl) d2_16 (by decide) 16 16 (by decide) (by decide) (by decide) (by decide) (fun T98 h98 b98 k_b98 g_b98 n_b98 X98 E98 V98 => ?_)))
  have f99 := (Arv.ext VF E96)
  have lt100 : f < b98 := by rw [g_b98]; exact Arv.lt f99
  have lt101 : b96 < b98 := by rw [g_b98]; exact Arv.lt V_b96
  have V_b98 : Arv Z h98 b98 k_b98 .int (16 : Int32) [(.int 0), (.int 0), (.int 0), (.int 0), (.int 0), (.int 0), (.int 0), (.int 0), (.int 0), (.int 0), (.int 0), (.int 0), (.int 0), (.int 0), (.int 0), (.int 0)] (.int 0) := V98
  refine g_astore C X98 d2_18 rfl (l' := #[.val (.ref f), .val (.int 1), .val (.int 16), .val (.ref b96), .val (.ref b98), .unset, .unset, .unset, .unset, .unset, .unset, .unset, .unset, .unset]) rfl (g_iloadN C X98 d2_20 rfl (g_newarray C X98 (wd hw 12 rfl) d2_21 (by decide) 16 16 (by decide) (by decide) (by decide) (by decide) (fun T102 h102 b102 k_b102 g_b102 n_b102 X102 E102 V102 => ?_)))
  have f103 := (Arv.ext f99 E98)
  have lt104 : f < b102 := by rw [g_b102]; exact Arv.lt f103
  have f105 := (Arv.ext V_b96 E98)
  have lt106 : b96 < b102 := by rw [g_b102]; exact Arv.lt f105
  have lt107 : b98 < b102 := by rw [g_b102]; exact Arv.lt V_b98
  have V_b102 : Arv Z h102 b102 k_b102 .int (16 : Int32) [(.int 0), (.int 0), (.int 0), (.int 0), (.int 0), (.int 0), (.int 0), (.int 0), (.int 0), (.int 0), (.int 0), (.int 0), (.int 0), (.int 0), (.int 0), (.int 0)] (.int 0) := V102
  refine g_astore C X102 d2_23 rfl (l' := #[.val (.ref f), .val (.int 1), .val (.int 16), .val (.ref b96), .val (.ref b98), .val (.ref b102), .unset, .unset, .unset, .unset, .unset, .unset, .unset, .unset]) rfl (g_iconst 0 C X102 d2_25 rfl (g_istore C X102 d2_26 (l' := #[.val (.ref f), .val (.int 1), .val (.int 16), .val (.ref b96), .val (.ref b98), .val (.ref b102), .val (.int 0), .unset, .unset, .unset, .unset, .unset, .unset, .unset]) rfl (g_iconst 0 C X102 d2_28 rfl (g_istore C X102 d2_29 (l' := #[.val (.ref f), .val (.int 1), .val (.int 16), .val (.ref b96), .val (.ref b98), .val (.ref b102), .val (.int 0), .val (.int 0), .unset, .unset, .unset, .unset, .unset, .unset]) rfl (g_aloadN C X102 d2_31 rfl rfl ?_)))))
  have f108 := (Arv.ext f103 E102)
  refine g_arraylength C X102 f108 d2_32 (g_istore C X102 d2_33 (l' := #[.val (.ref f), .val (.int 1), .val (.int 16), .val (.ref b96), .val (.ref b98), .val (.ref b102), .val (.int 0), .val (.int 0), .val (.int 15), .unset, .unset, .unset, .unset, .unset]) rfl (g_iconst 0 C X102 d2_35 rfl (g_istore C X102 d2_36 (l' := #[.val (.ref f), .val (.int 1), .val (.int 16), .val (.ref b96), .val (.ref b98), .val (.ref b102), .val (.int 0), .val (.int 0), .val (.int 15), .val (.int 0), .unset, .unset, .unset, .unset]) rfl (g_iload C X102 d2_38 rfl (g_iload C X102 d2_40 rfl (g_icmpn (hI_ge _ _) C X102 d2_42 (fun q => absurd (by decide) q) (fun _ => ?_)))))))
  refine g_iload C X102 d2_45 rfl (g_istore C X102 d2_47 (l' := #[.val (.ref f), .val (.int 1), .val (.int 16), .val (.ref b96), .val (.ref b98), .val (.ref b102), .val (.int 0), .val (.int 0), .val (.int 15), .val (.int 0), .val (.int 0), .unset, .unset, .unset]) rfl (g_iconst 0 C X102 d2_49 rfl (g_istore C X102 d2_50 (l' := #[.val (.ref f), .val (.int 1), .val (.int 16), .val (.ref b96), .val (.ref b98), .val (.ref b102), .val (.int 0), .val (.int 0), .val (.int 15), .val (.int 0), .val (.int 0), .val (.int 0), .unset, .unset]) rfl (g_iload C X102 d2_52 rfl (g_iload C X102 d2_54 rfl (g_icmpn (hI_ge _ _) C X102 d2_56 (fun q => absurd (by decide) q) (fun _ => ?_)))))))
  refine g_aloadN C X102 d2_59 rfl rfl (g_iload C X102 d2_60 rfl (g_baload C X102 f108 d2_62 (by decide) (by decide) rfl (g_dup C X102 d2_63 rfl (g_istore C X102 d2_64 (l' := #[.val (.ref f), .val (.int 1), .val (.int 16), .val (.ref b96), .val (.ref b98), .val (.ref b102), .val (.int 0), .val (.int 0), .val (.int 15), .val (.int 0), .val (.int 0), .val (.int 0), .val (.int 56), .unset]) rfl (g_bipush 48 C X102 d2_66 rfl (g_icmp (hI_lt _ _) C X102 d2_68 (fun q => absurd q (by decide)) (fun _ => ?_)))))))
  refine g_iload C X102 d2_71 rfl (g_bipush 57 C X102 d2_73 rfl (g_icmp (hI_gt _ _) C X102 d2_75 (fun q => absurd q (by decide)) (fun _ => ?_)))
  refine g_iload C X102 d2_78 rfl (g_iload C X102 d2_80 rfl (g_isub C X102 d2_82 (g_bipush 9 C X102 d2_83 rfl (g_icmpn (hI_ge _ _) C X102 d2_85 (fun q => absurd (by decide) q) (fun _ => ?_)))))
  refine g_iload C X102 d2_88 rfl (g_bipush 10 C X102 d2_90 rfl (g_imul C X102 d2_92 (g_iload C X102 d2_93 rfl (g_iadd C X102 d2_95 (g_bipush 48 C X102 d2_96 rfl (g_isub C X102 d2_98 (g_istore C X102 d2_99 (l' := #[.val (.ref f), .val (.int 1), .val (.int 16), .val (.ref b96), .val (.ref b98), .val (.ref b102), .val (.int 0), .val (.int 0), .val (.int 15), .val (.int 0), .val (.int 0), .val (.int 8), .val (.int 56), .unset]) rfl (g_iload C X102 d2_101 rfl (g_iload C X102 d2_103 rfl (g_iadd C X102 d2_105 (g_istore C X102 d2_106 (l' := #[.val (.ref f), .val (.int 1), .val (.int 16), .val (.ref b96), .val (.ref b98), .val (.ref b102), .val (.int 0), .val (.int 0), .val (.int 15), .val (.int 56), .val (.int 0), .val (.int 8), .val (.int 56), .unset]) rfl ?_)))))))))))
  refine g_iinc 1 C X102 d2_108 rfl rfl (l' := #[.val (.ref f), .val (.int 1), .val (.int 16), .val (.ref b96), .val (.ref b98), .val (.ref b102), .val (.int 0), .val (.int 1), .val (.int 15), .val (.int 56), .val (.int 0), .val (.int 8), .val (.int 56), .unset]) rfl (g_goto C X102 d2_111 (g_iload C X102 d2_52 rfl (g_iload C X102 d2_54 rfl (g_icmpn (hI_ge _ _) C X102 d2_56 (fun q => absurd (by decide) q) (fun _ => ?_)))))
  refine g_aloadN C X102 d2_59 rfl rfl (g_iload C X102 d2_60 rfl (g_baload C X102 f108 d2_62 (by decide) (by decide) rfl (g_dup C X102 d2_63 rfl (g_istore C X102 d2_64 (l' := #[.val (.ref f), .val (.int 1), .val (.int 16), .val (.ref b96), .val (.ref b98), .val (.ref b102), .val (.int 0), .val (.int 1), .val (.int 15), .val (.int 56), .val (.int 0), .val (.int 8), .val (.int 61), .unset]) rfl (g_bipush 48 C X102 d2_66 rfl (g_icmp (hI_lt _ _) C X102 d2_68 (fun q => absurd q (by decide)) (fun _ => ?_)))))))
  refine g_iload C X102 d2_71 rfl (g_bipush 57 C X102 d2_73 rfl (g_icmp (hI_gt _ _) C X102 d2_75 (fun _ => ?_) (fun q => absurd (by decide) q)))
  refine g_iload C X102 d2_114 rfl (g_iload C X102 d2_116 rfl (g_icmp (hI_eq _ _) C X102 d2_118 (fun q => absurd q (by decide)) (fun _ => ?_)))
  refine g_aloadN C X102 d2_121 rfl rfl (g_iload C X102 d2_122 rfl (g_baload C X102 f108 d2_124 (by decide) (by decide) rfl (g_bipush 48 C X102 d2_125 rfl (g_icmp (hI_eq _ _) C X102 d2_127 (fun q => absurd q (by decide)) (fun _ => ?_)))))
  refine g_iload C X102 d2_130 rfl (g_iload C X102 d2_132 rfl (g_icmp (hI_eq _ _) C X102 d2_134 (fun q => absurd q (by decide)) (fun _ => ?_)))
  refine g_aloadN C X102 d2_137 rfl rfl (g_iload C X102 d2_138 rfl (g_baload C X102 f108 d2_140 (by decide) (by decide) rfl (g_bipush 61 C X102 d2_141 rfl (g_icmp (hI_eq _ _) C X102 d2_143 (fun _ => ?_) (fun q => absurd (by decide) q)))))
  refine g_iinc 61 C X102 d2_161 rfl rfl (l' := #[.val (.ref f), .val (.int 1), .val (.int 16), .val (.ref b96), .val (.ref b98), .val (.ref b102), .val (.int 0), .val (.int 1), .val (.int 15), .val (.int 117), .val (.int 0), .val (.int 8), .val (.int 61), .unset]) rfl (g_iinc 1 C X102 d2_164 rfl rfl (l' := #[.val (.ref f), .val (.int 1), .val (.int 16), .val (.ref b96), .val (.ref b98), .val (.ref b102), .val (.int 0), .val (.int 2), .val (.int 15), .val (.int 117), .val (.int 0), .val (.int 8), .val (.int 61), .unset]) rfl (g_iload C X102 d2_167 rfl (g_istore C X102 d2_169 (l' := #[.val (.ref f), .val (.int 1), .val (.int 16), .val (.ref b96), .val (.ref b98), .val (.ref b102), .val (.int 0), .val (.int 2), .val (.int 15), .val (.int 117), .val (.int 0), .val (.int 8), .val (.int 61), .val (.int 2)]) rfl (g_iload C X102 d2_171 rfl (g_iload C X102 d2_173 rfl (g_icmpn (hI_ge _ _) C X102 d2_175 (fun q => absurd (by decide) q) (fun _ => ?_)))))))
  refine g_aloadN C X102 d2_178 rfl rfl (g_iload C X102 d2_179 rfl (g_baload C X102 f108 d2_181 (by decide) (by decide) rfl (g_dup C X102 d2_182 rfl (g_istore C X102 d2_183 (l' := #[.val (.ref f), .val (.int 1), .val (.int 16), .val (.ref b96), .val (.ref b98), .val (.ref b102), .val (.int 0), .val (.int 2), .val (.int 15), .val (.int 117), .val (.int 0), .val (.int 8), .val (.int 65), .val (.int 2)]) rfl (g_iconst 1 C X102 d2_185 rfl (g_icmp (hI_eq _ _) C X102 d2_186 (fun q => absurd q (by decide)) (fun _ => ?_)))))))
  refine g_iload C X102 d2_189 rfl (g_iload C X102 d2_191 rfl (g_sipush 255 C X102 d2_193 rfl (g_iand C X102 d2_196 (g_iadd C X102 d2_197 (g_istore C X102 d2_198 (l' := #[.val (.ref f), .val (.int 1), .val (.int 16), .val (.ref b96), .val (.ref b98), .val (.ref b102), .val (.int 0), .val (.int 2), .val (.int 15), .val (.int 182), .val (.int 0), .val (.int 8), .val (.int 65), .val (.int 2)]) rfl (g_iinc 1 C X102 d2_200 rfl rfl (l' := #[.val (.ref f), .val (.int 1), .val (.int 16), .val (.ref b96), .val (.ref b98), .val (.ref b102), .val (.int 0), .val (.int 3), .val (.int 15), .val (.int 182), .val (.int 0), .val (.int 8), .val (.int 65), .val (.int 2)]) rfl (g_goto C X102 d2_203 (g_iload C X102 d2_171 rfl (g_iload C X102 d2_173 rfl (g_icmpn (hI_ge _ _) C X102 d2_175 (fun q => absurd (by decide) q) (fun _ => ?_)))))))))))
  refine g_aloadN C X102 d2_178 rfl rfl (g_iload C X102 d2_179 rfl (g_baload C X102 f108 d2_181 (by decide) (by decide) rfl (g_dup C X102 d2_182 rfl (g_istore C X102 d2_183 (l' := #[.val (.ref f), .val (.int 1), .val (.int 16), .val (.ref b96), .val (.ref b98), .val (.ref b102), .val (.int 0), .val (.int 3), .val (.int 15), .val (.int 182), .val (.int 0), .val (.int 8), .val (.int 1), .val (.int 2)]) rfl (g_iconst 1 C X102 d2_185 rfl (g_icmp (hI_eq _ _) C X102 d2_186 (fun _ => ?_) (fun q => absurd (by decide) q)))))))
  refine g_iload C X102 d2_206 rfl (g_iload C X102 d2_208 rfl (g_icmpn (hI_ne _ _) C X102 d2_210 (fun _ => ?_) (fun q => absurd q (by decide))))
  refine g_iinc 1 C X102 d2_223 rfl rfl (l' := #[.val (.ref f), .val (.int 1), .val (.int 16), .val (.ref b96), .val (.ref b98), .val (.ref b102), .val (.int 0), .val (.int 3), .val (.int 15), .val (.int 183), .val (.int 0), .val (.int 8), .val (.int 1), .val (.int 2)]) rfl (g_iload C X102 d2_226 rfl (g_iloadN C X102 d2_228 rfl (g_icmpn (hI_ne _ _) C X102 d2_229 (fun _ => ?_) (fun q => absurd q (by decide)))))
  refine g_aloadN C X102 d2_258 rfl rfl (g_iload C X102 d2_259 rfl (g_iload C X102 d2_261 rfl ?_))
  have f109 := (Arv.ext f105 E102)
  refine g_iastore C X102 f109 n_b96 d2_263 (by decide) (by decide) (Nat.le_of_ble_eq_true rfl) (.int 8) rfl (fun T110 h110 X110 W110 V110 => ?_)
  have V110_b96 : Arv Z h110 b96 k_b96 .int (16 : Int32) [(.int 8), (.int 0), (.int 0), (.int 0), (.int 0), (.int 0), (.int 0), (.int 0), (.int 0), (.int 0), (.int 0), (.int 0), (.int 0), (.int 0), (.int 0), (.int 0)] (.int 0) := V110
  refine g_aload C X110 d2_264 rfl rfl (g_iload C X110 d2_266 rfl (g_iload C X110 d2_268 rfl ?_))
  have f111 := (Arv.other (Arv.ext V_b98 E102) W110 (Nat.ne_of_gt lt101))
  refine g_iastore C X110 f111 n_b98 d2_270 (by decide) (by decide) (Nat.le_of_ble_eq_true rfl) (.int 2) rfl (fun T112 h112 X112 W112 V112 => ?_)
  have V112_b98 : Arv Z h112 b98 k_b98 .int (16 : Int32) [(.int 2), (.int 0), (.int 0), (.int 0), (.int 0), (.int 0), (.int 0), (.int 0), (.int 0), (.int 0), (.int 0), (.int 0), (.int 0), (.int 0), (.int 0), (.int 0)] (.int 0) := V112
  refine g_aload C X112 d2_271 rfl rfl (g_iload C X112 d2_273 rfl (g_iload C X112 d2_275 rfl ?_))
  have f113 := (Arv.other (Arv.other V_b102 W110 (Nat.ne_of_gt lt106)) W112 (Nat.ne_of_gt lt107))
  refine g_iastore C X112 f113 n_b102 d2_277 (by decide) (by decide) (Nat.le_of_ble_eq_true rfl) (.int 3) rfl (fun T114 h114 X114 W114 V114 => ?_)
  have V114_b102 : Arv Z h114 b102 k_b102 .int (16 : Int32) [(.int 3), (.int 0), (.int 0), (.int 0), (.int 0), (.int 0), (.int 0), (.int 0), (.int 0), (.int 0), (.int 0), (.int 0), (.int 0), (.int 0), (.int 0), (.int 0)] (.int 0) := V114
  refine g_iinc 1 C X114 d2_278 rfl rfl (l' := #[.val (.ref f), .val (.int 1), .val (.int 16), .val (.ref b96), .val (.ref b98), .val (.ref b102), .val (.int 1), .val (.int 3), .val (.int 15), .val (.int 183), .val (.int 0), .val (.int 8), .val (.int 1), .val (.int 2)]) rfl (g_iinc 1 C X114 d2_281 rfl rfl (l' := #[.val (.ref f), .val (.int 1), .val (.int 16), .val (.ref b96), .val (.ref b98), .val (.ref b102), .val (.int 1), .val (.int 4), .val (.int 15), .val (.int 183), .val (.int 0), .val (.int 8), .val (.int 1), .val (.int 2)]) rfl (g_goto C X114 d2_284 (g_iload C X114 d2_38 rfl (g_iload C X114 d2_40 rfl (g_icmpn (hI_ge _ _) C X114 d2_42 (fun q => absurd (by decide) q) (fun _ => ?_))))))
  refine g_iload C X114 d2_45 rfl (g_istore C X114 d2_47 (l' := #[.val (.ref f), .val (.int 1), .val (.int 16), .val (.ref b96), .val (.ref b98), .val (.ref b102), .val (.int 1), .val (.int 4), .val (.int 15), .val (.int 183), .val (.int 4), .val (.int 8), .val (.int 1), .val (.int 2)]) rfl (g_iconst 0 C X114 d2_49 rfl (g_istore C X114 d2_50 (l' := #[.val (.ref f), .val (.int 1), .val (.int 16), .val (.ref b96), .val (.ref b98), .val (.ref b102), .val (.int 1), .val (.int 4), .val (.int 15), .val (.int 183), .val (.int 4), .val (.int 0), .val (.int 1), .val (.int 2)]) rfl (g_iload C X114 d2_52 rfl (g_iload C X114 d2_54 rfl (g_icmpn (hI_ge _ _) C X114 d2_56 (fun q => absurd (by decide) q) (fun _ => ?_)))))))
  refine g_aloadN C X114 d2_59 rfl rfl (g_iload C X114 d2_60 rfl ?_)
  have f115 := (Arv.other (Arv.other (Arv.other f108 W110 (Nat.ne_of_lt lt97)) W112 (Nat.ne_of_lt lt100)) W114 (Nat.ne_of_lt lt104))
  refine g_baload C X114 f115 d2_62 (by decide) (by decide) rfl (g_dup C X114 d2_63 rfl (g_istore C X114 d2_64 (l' := #[.val (.ref f), .val (.int 1), .val (.int 16), .val (.ref b96), .val (.ref b98), .val (.ref b102), .val (.int 1), .val (.int 4), .val (.int 15), .val (.int 183), .val (.int 4), .val (.int 0), .val (.int 57), .val (.int 2)]) rfl (g_bipush 48 C X114 d2_66 rfl (g_icmp (hI_lt _ _) C X114 d2_68 (fun q => absurd q (by decide)) (fun _ => ?_)))))
  refine g_iload C X114 d2_71 rfl (g_bipush 57 C X114 d2_73 rfl (g_icmp (hI_gt _ _) C X114 d2_75 (fun q => absurd q (by decide)) (fun _ => ?_)))
  refine g_iload C X114 d2_78 rfl (g_iload C X114 d2_80 rfl (g_isub C X114 d2_82 (g_bipush 9 C X114 d2_83 rfl (g_icmpn (hI_ge _ _) C X114 d2_85 (fun q => absurd (by decide) q) (fun _ => ?_)))))
  refine g_iload C X114 d2_88 rfl (g_bipush 10 C X114 d2_90 rfl (g_imul C X114 d2_92 (g_iload C X114 d2_93 rfl (g_iadd C X114 d2_95 (g_bipush 48 C X114 d2_96 rfl (g_isub C X114 d2_98 (g_istore C X114 d2_99 (l' := #[.val (.ref f), .val (.int 1), .val (.int 16), .val (.ref b96), .val (.ref b98), .val (.ref b102), .val (.int 1), .val (.int 4), .val (.int 15), .val (.int 183), .val (.int 4), .val (.int 9), .val (.int 57), .val (.int 2)]) rfl (g_iload C X114 d2_101 rfl (g_iload C X114 d2_103 rfl (g_iadd C X114 d2_105 (g_istore C X114 d2_106 (l' := #[.val (.ref f), .val (.int 1), .val (.int 16), .val (.ref b96), .val (.ref b98), .val (.ref b102), .val (.int 1), .val (.int 4), .val (.int 15), .val (.int 240), .val (.int 4), .val (.int 9), .val (.int 57), .val (.int 2)]) rfl ?_)))))))))))
  refine g_iinc 1 C X114 d2_108 rfl rfl (l' := #[.val (.ref f), .val (.int 1), .val (.int 16), .val (.ref b96), .val (.ref b98), .val (.ref b102), .val (.int 1), .val (.int 5), .val (.int 15), .val (.int 240), .val (.int 4), .val (.int 9), .val (.int 57), .val (.int 2)]) rfl (g_goto C X114 d2_111 (g_iload C X114 d2_52 rfl (g_iload C X114 d2_54 rfl (g_icmpn (hI_ge _ _) C X114 d2_56 (fun q => absurd (by decide) q) (fun _ => ?_)))))
  refine g_aloadN C X114 d2_59 rfl rfl (g_iload C X114 d2_60 rfl (g_baload C X114 f115 d2_62 (by decide) (by decide) rfl (g_dup C X114 d2_63 rfl (g_istore C X114 d2_64 (l' := #[.val (.ref f), .val (.int 1), .val (.int 16), .val (.ref b96), .val (.ref b98), .val (.ref b102), .val (.int 1), .val (.int 5), .val (.int 15), .val (.int 240), .val (.int 4), .val (.int 9), .val (.int 61), .val (.int 2)]) rfl (g_bipush 48 C X114 d2_66 rfl (g_icmp (hI_lt _ _) C X114 d2_68 (fun q => absurd q (by decide)) (fun _ => ?_)))))))
  refine g_iload C X114 d2_71 rfl (g_bipush 57 C X114 d2_73 rfl (g_icmp (hI_gt _ _) C X114 d2_75 (fun _ => ?_) (fun q => absurd (by decide) q)))
  refine g_iload C X114 d2_114 rfl (g_iload C X114 d2_116 rfl (g_icmp (hI_eq _ _) C X114 d2_118 (fun q => absurd q (by decide)) (fun _ => ?_)))
  refine g_aloadN C X114 d2_121 rfl rfl (g_iload C X114 d2_122 rfl (g_baload C X114 f115 d2_124 (by decide) (by decide) rfl (g_bipush 48 C X114 d2_125 rfl (g_icmp (hI_eq _ _) C X114 d2_127 (fun q => absurd q (by decide)) (fun _ => ?_)))))
  refine g_iload C X114 d2_130 rfl (g_iload C X114 d2_132 rfl (g_icmp (hI_eq _ _) C X114 d2_134 (fun q => absurd q (by decide)) (fun _ => ?_)))
  refine g_aloadN C X114 d2_137 rfl rfl (g_iload C X114 d2_138 rfl (g_baload C X114 f115 d2_140 (by decide) (by decide) rfl (g_bipush 61 C X114 d2_141 rfl (g_icmp (hI_eq _ _) C X114 d2_143 (fun _ => ?_) (fun q => absurd (by decide) q)))))
  refine g_iinc 61 C X114 d2_161 rfl rfl (l' := #[.val (.ref f), .val (.int 1), .val (.int 16), .val (.ref b96), .val (.ref b98), .val (.ref b102), .val (.int 1), .val (.int 5), .val (.int 15), .val (.int 301), .val (.int 4), .val (.int 9), .val (.int 61), .val (.int 2)]) rfl (g_iinc 1 C X114 d2_164 rfl rfl (l' := #[.val (.ref f), .val (.int 1), .val (.int 16), .val (.ref b96), .val (.ref b98), .val (.ref b102), .val (.int 1), .val (.int 6), .val (.int 15), .val (.int 301), .val (.int 4), .val (.int 9), .val (.int 61), .val (.int 2)]) rfl (g_iload C X114 d2_167 rfl (g_istore C X114 d2_169 (l' := #[.val (.ref f), .val (.int 1), .val (.int 16), .val (.ref b96), .val (.ref b98), .val (.ref b102), .val (.int 1), .val (.int 6), .val (.int 15), .val (.int 301), .val (.int 4), .val (.int 9), .val (.int 61), .val (.int 6)]) rfl (g_iload C X114 d2_171 rfl (g_iload C X114 d2_173 rfl (g_icmpn (hI_ge _ _) C X114 d2_175 (fun q => absurd (by decide) q) (fun _ => ?_)))))))
  refine g_aloadN C X114 d2_178 rfl rfl (g_iload C X114 d2_179 rfl (g_baload C X114 f115 d2_181 (by decide) (by decide) rfl (g_dup C X114 d2_182 rfl (g_istore C X114 d2_183 (l' := #[.val (.ref f), .val (.int 1), .val (.int 16), .val (.ref b96), .val (.ref b98), .val (.ref b102), .val (.int 1), .val (.int 6), .val (.int 15), .val (.int 301), .val (.int 4), .val (.int 9), .val (.int 48), .val (.int 6)]) rfl (g_iconst 1 C X114 d2_185 rfl (g_icmp (hI_eq _ _) C X114 d2_186 (fun q => absurd q (by decide)) (fun _ => ?_)))))))
  refine g_iload C X114 d2_189 rfl (g_iload C X114 d2_191 rfl (g_sipush 255 C X114 d2_193 rfl (g_iand C X114 d2_196 (g_iadd C X114 d2_197 (g_istore C X114 d2_198 (l' := #[.val (.ref f), .val (.int 1), .val (.int 16), .val (.ref b96), .val (.ref b98), .val (.ref b102), .val (.int 1), .val (.int 6), .val (.int 15), .val (.int 349), .val (.int 4), .val (.int 9), .val (.int 48), .val (.int 6)]) rfl (g_iinc 1 C X114 d2_200 rfl rfl (l' := #[.val (.ref f), .val (.int 1), .val (.int 16), .val (.ref b96), .val (.ref b98), .val (.ref b102), .val (.int 1), .val (.int 7), .val (.int 15), .val (.int 349), .val (.int 4), .val (.int 9), .val (.int 48), .val (.int 6)]) rfl (g_goto C X114 d2_203 (g_iload C X114 d2_171 rfl (g_iload C X114 d2_173 rfl (g_icmpn (hI_ge _ _) C X114 d2_175 (fun q => absurd (by decide) q) (fun _ => ?_)))))))))))
  refine g_aloadN C X114 d2_178 rfl rfl (g_iload C X114 d2_179 rfl (g_baload C X114 f115 d2_181 (by decide) (by decide) rfl (g_dup C X114 d2_182 rfl (g_istore C X114 d2_183 (l' := #[.val (.ref f), .val (.int 1), .val (.int 16), .val (.ref b96), .val (.ref b98), .val (.ref b102), .val (.int 1), .val (.int 7), .val (.int 15), .val (.int 349), .val (.int 4), .val (.int 9), .val (.int 1), .val (.int 6)]) rfl (g_iconst 1 C X114 d2_185 rfl (g_icmp (hI_eq _ _) C X114 d2_186 (fun _ => ?_) (fun q => absurd (by decide) q)))))))
  refine g_iload C X114 d2_206 rfl (g_iload C X114 d2_208 rfl (g_icmpn (hI_ne _ _) C X114 d2_210 (fun _ => ?_) (fun q => absurd q (by decide))))
  refine g_iinc 1 C X114 d2_223 rfl rfl (l' := #[.val (.ref f), .val (.int 1), .val (.int 16), .val (.ref b96), .val (.ref b98), .val (.ref b102), .val (.int 1), .val (.int 7), .val (.int 15), .val (.int 350), .val (.int 4), .val (.int 9), .val (.int 1), .val (.int 6)]) rfl (g_iload C X114 d2_226 rfl (g_iloadN C X114 d2_228 rfl (g_icmpn (hI_ne _ _) C X114 d2_229 (fun _ => ?_) (fun q => absurd q (by decide)))))
  refine g_aloadN C X114 d2_258 rfl rfl (g_iload C X114 d2_259 rfl (g_iload C X114 d2_261 rfl ?_))
  have f116 := (Arv.other (Arv.other V110_b96 W112 (Nat.ne_of_lt lt101)) W114 (Nat.ne_of_lt lt106))
  refine g_iastore C X114 f116 n_b96 d2_263 (by decide) (by decide) (Nat.le_of_ble_eq_true rfl) (.int 9) rfl (fun T117 h117 X117 W117 V117 => ?_)
  have V117_b96 : Arv Z h117 b96 k_b96 .int (16 : Int32) [(.int 8), (.int 9), (.int 0), (.int 0), (.int 0), (.int 0), (.int 0), (.int 0), (.int 0), (.int 0), (.int 0), (.int 0), (.int 0), (.int 0), (.int 0), (.int 0)] (.int 0) := V117
  refine g_aload C X117 d2_264 rfl rfl (g_iload C X117 d2_266 rfl (g_iload C X117 d2_268 rfl ?_))
  have f118 := (Arv.other (Arv.other V112_b98 W114 (Nat.ne_of_lt lt107)) W117 (Nat.ne_of_gt lt101))
  refine g_iastore C X117 f118 n_b98 d2_270 (by decide) (by decide) (Nat.le_of_ble_eq_true rfl) (.int 6) rfl (fun T119 h119 X119 W119 V119 => ?_)
  have V119_b98 : Arv Z h119 b98 k_b98 .int (16 : Int32) [(.int 2), (.int 6), (.int 0), (.int 0), (.int 0), (.int 0), (.int 0), (.int 0), (.int 0), (.int 0), (.int 0), (.int 0), (.int 0), (.int 0), (.int 0), (.int 0)] (.int 0) := V119
  refine g_aload C X119 d2_271 rfl rfl (g_iload C X119 d2_273 rfl (g_iload C X119 d2_275 rfl ?_))
  have f120 := (Arv.other (Arv.other V114_b102 W117 (Nat.ne_of_gt lt106)) W119 (Nat.ne_of_gt lt107))
  refine g_iastore C X119 f120 n_b102 d2_277 (by decide) (by decide) (Nat.le_of_ble_eq_true rfl) (.int 7) rfl (fun T121 h121 X121 W121 V121 => ?_)
  have V121_b102 : Arv Z h121 b102 k_b102 .int (16 : Int32) [(.int 3), (.int 7), (.int 0), (.int 0), (.int 0), (.int 0), (.int 0), (.int 0), (.int 0), (.int 0), (.int 0), (.int 0), (.int 0), (.int 0), (.int 0), (.int 0)] (.int 0) := V121
  refine g_iinc 1 C X121 d2_278 rfl rfl (l' := #[.val (.ref f), .val (.int 1), .val (.int 16), .val (.ref b96), .val (.ref b98), .val (.ref b102), .val (.int 2), .val (.int 7), .val (.int 15), .val (.int 350), .val (.int 4), .val (.int 9), .val (.int 1), .val (.int 6)]) rfl (g_iinc 1 C X121 d2_281 rfl rfl (l' := #[.val (.ref f), .val (.int 1), .val (.int 16), .val (.ref b96), .val (.ref b98), .val (.ref b102), .val (.int 2), .val (.int 8), .val (.int 15), .val (.int 350), .val (.int 4), .val (.int 9), .val (.int 1), .val (.int 6)]) rfl (g_goto C X121 d2_284 (g_iload C X121 d2_38 rfl (g_iload C X121 d2_40 rfl (g_icmpn (hI_ge _ _) C X121 d2_42 (fun q => absurd (by decide) q) (fun _ => ?_))))))
  refine g_iload C X121 d2_45 rfl (g_istore C X121 d2_47 (l' := #[.val (.ref f), .val (.int 1), .val (.int 16), .val (.ref b96), .val (.ref b98), .val (.ref b102), .val (.int 2), .val (.int 8), .val (.int 15), .val (.int 350), .val (.int 8), .val (.int 9), .val (.int 1), .val (.int 6)]) rfl (g_iconst 0 C X121 d2_49 rfl (g_istore C X121 d2_50 (l' := #[.val (.ref f), .val (.int 1), .val (.int 16), .val (.ref b96), .val (.ref b98), .val (.ref b102), .val (.int 2), .val (.int 8), .val (.int 15), .val (.int 350), .val (.int 8), .val (.int 0), .val (.int 1), .val (.int 6)]) rfl (g_iload C X121 d2_52 rfl (g_iload C X121 d2_54 rfl (g_icmpn (hI_ge _ _) C X121 d2_56 (fun q => absurd (by decide) q) (fun _ => ?_)))))))
  refine g_aloadN C X121 d2_59 rfl rfl (g_iload C X121 d2_60 rfl ?_)
  have f122 := (Arv.other (Arv.other (Arv.other f115 W117 (Nat.ne_of_lt lt97)) W119 (Nat.ne_of_lt lt100)) W121 (Nat.ne_of_lt lt104))
  refine g_baload C X121 f122 d2_62 (by decide) (by decide) rfl (g_dup C X121 d2_63 rfl (g_istore C X121 d2_64 (l' := #[.val (.ref f), .val (.int 1), .val (.int 16), .val (.ref b96), .val (.ref b98), .val (.ref b102), .val (.int 2), .val (.int 8), .val (.int 15), .val (.int 350), .val (.int 8), .val (.int 0), .val (.int 49), .val (.int 6)]) rfl (g_bipush 48 C X121 d2_66 rfl (g_icmp (hI_lt _ _) C X121 d2_68 (fun q => absurd q (by decide)) (fun _ => ?_)))))
  refine g_iload C X121 d2_71 rfl (g_bipush 57 C X121 d2_73 rfl (g_icmp (hI_gt _ _) C X121 d2_75 (fun q => absurd q (by decide)) (fun _ => ?_)))
  refine g_iload C X121 d2_78 rfl (g_iload C X121 d2_80 rfl (g_isub C X121 d2_82 (g_bipush 9 C X121 d2_83 rfl (g_icmpn (hI_ge _ _) C X121 d2_85 (fun q => absurd (by decide) q) (fun _ => ?_)))))
  refine g_iload C X121 d2_88 rfl (g_bipush 10 C X121 d2_90 rfl (g_imul C X121 d2_92 (g_iload C X121 d2_93 rfl (g_iadd C X121 d2_95 (g_bipush 48 C X121 d2_96 rfl (g_isub C X121 d2_98 (g_istore C X121 d2_99 (l' := #[.val (.ref f), .val (.int 1), .val (.int 16), .val (.ref b96), .val (.ref b98), .val (.ref b102), .val (.int 2), .val (.int 8), .val (.int 15), .val (.int 350), .val (.int 8), .val (.int 1), .val (.int 49), .val (.int 6)]) rfl (g_iload C X121 d2_101 rfl (g_iload C X121 d2_103 rfl (g_iadd C X121 d2_105 (g_istore C X121 d2_106 (l' := #[.val (.ref f), .val (.int 1), .val (.int 16), .val (.ref b96), .val (.ref b98), .val (.ref b102), .val (.int 2), .val (.int 8), .val (.int 15), .val (.int 399), .val (.int 8), .val (.int 1), .val (.int 49), .val (.int 6)]) rfl ?_)))))))))))
  refine g_iinc 1 C X121 d2_108 rfl rfl (l' := #[.val (.ref f), .val (.int 1), .val (.int 16), .val (.ref b96), .val (.ref b98), .val (.ref b102), .val (.int 2), .val (.int 9), .val (.int 15), .val (.int 399), .val (.int 8), .val (.int 1), .val (.int 49), .val (.int 6)]) rfl (g_goto C X121 d2_111 (g_iload C X121 d2_52 rfl (g_iload C X121 d2_54 rfl (g_icmpn (hI_ge _ _) C X121 d2_56 (fun q => absurd (by decide) q) (fun _ => ?_)))))
  refine g_aloadN C X121 d2_59 rfl rfl (g_iload C X121 d2_60 rfl (g_baload C X121 f122 d2_62 (by decide) (by decide) rfl (g_dup C X121 d2_63 rfl (g_istore C X121 d2_64 (l' := #[.val (.ref f), .val (.int 1), .val (.int 16), .val (.ref b96), .val (.ref b98), .val (.ref b102), .val (.int 2), .val (.int 9), .val (.int 15), .val (.int 399), .val (.int 8), .val (.int 1), .val (.int 48), .val (.int 6)]) rfl (g_bipush 48 C X121 d2_66 rfl (g_icmp (hI_lt _ _) C X121 d2_68 (fun q => absurd q (by decide)) (fun _ => ?_)))))))
  refine g_iload C X121 d2_71 rfl (g_bipush 57 C X121 d2_73 rfl (g_icmp (hI_gt _ _) C X121 d2_75 (fun q => absurd q (by decide)) (fun _ => ?_)))
  refine g_iload C X121 d2_78 rfl (g_iload C X121 d2_80 rfl (g_isub C X121 d2_82 (g_bipush 9 C X121 d2_83 rfl (g_icmpn (hI_ge _ _) C X121 d2_85 (fun q => absurd (by decide) q) (fun _ => ?_)))))
  refine g_iload C X121 d2_88 rfl (g_bipush 10 C X121 d2_90 rfl (g_imul C X121 d2_92 (g_iload C X121 d2_93 rfl (g_iadd C X121 d2_95 (g_bipush 48 C X121 d2_96 rfl (g_isub C X121 d2_98 (g_istore C X121 d2_99 (l' := #[.val (.ref f), .val (.int 1), .val (.int 16), .val (.ref b96), .val (.ref b98), .val (.ref b102), .val (.int 2), .val (.int 9), .val (.int 15), .val (.int 399), .val (.int 8), .val (.int 10), .val (.int 48), .val (.int 6)]) rfl (g_iload C X121 d2_101 rfl (g_iload C X121 d2_103 rfl (g_iadd C X121 d2_105 (g_istore C X121 d2_106 (l' := #[.val (.ref f), .val (.int 1), .val (.int 16), .val (.ref b96), .val (.ref b98), .val (.ref b102), .val (.int 2), .val (.int 9), .val (.int 15), .val (.int 447), .val (.int 8), .val (.int 10), .val (.int 48), .val (.int 6)]) rfl ?_)))))))))))
  refine g_iinc 1 C X121 d2_108 rfl rfl (l' := #[.val (.ref f), .val (.int 1), .val (.int 16), .val (.ref b96), .val (.ref b98), .val (.ref b102), .val (.int 2), .val (.int 10), .val (.int 15), .val (.int 447), .val (.int 8), .val (.int 10), .val (.int 48), .val (.int 6)]) rfl (g_goto C X121 d2_111 (g_iload C X121 d2_52 rfl (g_iload C X121 d2_54 rfl (g_icmpn (hI_ge _ _) C X121 d2_56 (fun q => absurd (by decide) q) (fun _ => ?_)))))
  refine g_aloadN C X121 d2_59 rfl rfl (g_iload C X121 d2_60 rfl (g_baload C X121 f122 d2_62 (by decide) (by decide) rfl (g_dup C X121 d2_63 rfl (g_istore C X121 d2_64 (l' := #[.val (.ref f), .val (.int 1), .val (.int 16), .val (.ref b96), .val (.ref b98), .val (.ref b102), .val (.int 2), .val (.int 10), .val (.int 15), .val (.int 447), .val (.int 8), .val (.int 10), .val (.int 61), .val (.int 6)]) rfl (g_bipush 48 C X121 d2_66 rfl (g_icmp (hI_lt _ _) C X121 d2_68 (fun q => absurd q (by decide)) (fun _ => ?_)))))))
  refine g_iload C X121 d2_71 rfl (g_bipush 57 C X121 d2_73 rfl (g_icmp (hI_gt _ _) C X121 d2_75 (fun _ => ?_) (fun q => absurd (by decide) q)))
  refine g_iload C X121 d2_114 rfl (g_iload C X121 d2_116 rfl (g_icmp (hI_eq _ _) C X121 d2_118 (fun q => absurd q (by decide)) (fun _ => ?_)))
  refine g_aloadN C X121 d2_121 rfl rfl (g_iload C X121 d2_122 rfl (g_baload C X121 f122 d2_124 (by decide) (by decide) rfl (g_bipush 48 C X121 d2_125 rfl (g_icmp (hI_eq _ _) C X121 d2_127 (fun q => absurd q (by decide)) (fun _ => ?_)))))
  refine g_iload C X121 d2_130 rfl (g_iload C X121 d2_132 rfl (g_icmp (hI_eq _ _) C X121 d2_134 (fun q => absurd q (by decide)) (fun _ => ?_)))
  refine g_aloadN C X121 d2_137 rfl rfl (g_iload C X121 d2_138 rfl (g_baload C X121 f122 d2_140 (by decide) (by decide) rfl (g_bipush 61 C X121 d2_141 rfl (g_icmp (hI_eq _ _) C X121 d2_143 (fun _ => ?_) (fun q => absurd (by decide) q)))))
  refine g_iinc 61 C X121 d2_161 rfl rfl (l' := #[.val (.ref f), .val (.int 1), .val (.int 16), .val (.ref b96), .val (.ref b98), .val (.ref b102), .val (.int 2), .val (.int 10), .val (.int 15), .val (.int 508), .val (.int 8), .val (.int 10), .val (.int 61), .val (.int 6)]) rfl (g_iinc 1 C X121 d2_164 rfl rfl (l' := #[.val (.ref f), .val (.int 1), .val (.int 16), .val (.ref b96), .val (.ref b98), .val (.ref b102), .val (.int 2), .val (.int 11), .val (.int 15), .val (.int 508), .val (.int 8), .val (.int 10), .val (.int 61), .val (.int 6)]) rfl (g_iload C X121 d2_167 rfl (g_istore C X121 d2_169 (l' := #[.val (.ref f), .val (.int 1), .val (.int 16), .val (.ref b96), .val (.ref b98), .val (.ref b102), .val (.int 2), .val (.int 11), .val (.int 15), .val (.int 508), .val (.int 8), .val (.int 10), .val (.int 61), .val (.int 11)]) rfl (g_iload C X121 d2_171 rfl (g_iload C X121 d2_173 rfl (g_icmpn (hI_ge _ _) C X121 d2_175 (fun q => absurd (by decide) q) (fun _ => ?_)))))))
  refine g_aloadN C X121 d2_178 rfl rfl (g_iload C X121 d2_179 rfl (g_baload C X121 f122 d2_181 (by decide) (by decide) rfl (g_dup C X121 d2_182 rfl (g_istore C X121 d2_183 (l' := #[.val (.ref f), .val (.int 1), .val (.int 16), .val (.ref b96), .val (.ref b98), .val (.ref b102), .val (.int 2), .val (.int 11), .val (.int 15), .val (.int 508), .val (.int 8), .val (.int 10), .val (.int 48), .val (.int 11)]) rfl (g_iconst 1 C X121 d2_185 rfl (g_icmp (hI_eq _ _) C X121 d2_186 (fun q => absurd q (by decide)) (fun _ => ?_)))))))
  refine g_iload C X121 d2_189 rfl (g_iload C X121 d2_191 rfl (g_sipush 255 C X121 d2_193 rfl (g_iand C X121 d2_196 (g_iadd C X121 d2_197 (g_istore C X121 d2_198 (l' := #[.val (.ref f), .val (.int 1), .val (.int 16), .val (.ref b96), .val (.ref b98), .val (.ref b102), .val (.int 2), .val (.int 11), .val (.int 15), .val (.int 556), .val (.int 8), .val (.int 10), .val (.int 48), .val (.int 11)]) rfl (g_iinc 1 C X121 d2_200 rfl rfl (l' := #[.val (.ref f), .val (.int 1), .val (.int 16), .val (.ref b96), .val (.ref b98), .val (.ref b102), .val (.int 2), .val (.int 12), .val (.int 15), .val (.int 556), .val (.int 8), .val (.int 10), .val (.int 48), .val (.int 11)]) rfl (g_goto C X121 d2_203 (g_iload C X121 d2_171 rfl (g_iload C X121 d2_173 rfl (g_icmpn (hI_ge _ _) C X121 d2_175 (fun q => absurd (by decide) q) (fun _ => ?_)))))))))))
  refine g_aloadN C X121 d2_178 rfl rfl (g_iload C X121 d2_179 rfl (g_baload C X121 f122 d2_181 (by decide) (by decide) rfl (g_dup C X121 d2_182 rfl (g_istore C X121 d2_183 (l' := #[.val (.ref f), .val (.int 1), .val (.int 16), .val (.ref b96), .val (.ref b98), .val (.ref b102), .val (.int 2), .val (.int 12), .val (.int 15), .val (.int 556), .val (.int 8), .val (.int 10), .val (.int 57), .val (.int 11)]) rfl (g_iconst 1 C X121 d2_185 rfl (g_icmp (hI_eq _ _) C X121 d2_186 (fun q => absurd q (by decide)) (fun _ => ?_)))))))
  refine g_iload C X121 d2_189 rfl (g_iload C X121 d2_191 rfl (g_sipush 255 C X121 d2_193 rfl (g_iand C X121 d2_196 (g_iadd C X121 d2_197 (g_istore C X121 d2_198 (l' := #[.val (.ref f), .val (.int 1), .val (.int 16), .val (.ref b96), .val (.ref b98), .val (.ref b102), .val (.int 2), .val (.int 12), .val (.int 15), .val (.int 613), .val (.int 8), .val (.int 10), .val (.int 57), .val (.int 11)]) rfl (g_iinc 1 C X121 d2_200 rfl rfl (l' := #[.val (.ref f), .val (.int 1), .val (.int 16), .val (.ref b96), .val (.ref b98), .val (.ref b102), .val (.int 2), .val (.int 13), .val (.int 15), .val (.int 613), .val (.int 8), .val (.int 10), .val (.int 57), .val (.int 11)]) rfl (g_goto C X121 d2_203 (g_iload C X121 d2_171 rfl (g_iload C X121 d2_173 rfl (g_icmpn (hI_ge _ _) C X121 d2_175 (fun q => absurd (by decide) q) (fun _ => ?_)))))))))))
  refine g_aloadN C X121 d2_178 rfl rfl (g_iload C X121 d2_179 rfl (g_baload C X121 f122 d2_181 (by decide) (by decide) rfl (g_dup C X121 d2_182 rfl (g_istore C X121 d2_183 (l' := #[.val (.ref f), .val (.int 1), .val (.int 16), .val (.ref b96), .val (.ref b98), .val (.ref b102), .val (.int 2), .val (.int 13), .val (.int 15), .val (.int 613), .val (.int 8), .val (.int 10), .val (.int 52), .val (.int 11)]) rfl (g_iconst 1 C X121 d2_185 rfl (g_icmp (hI_eq _ _) C X121 d2_186 (fun q => absurd q (by decide)) (fun _ => ?_)))))))
  refine g_iload C X121 d2_189 rfl (g_iload C X121 d2_191 rfl (g_sipush 255 C X121 d2_193 rfl (g_iand C X121 d2_196 (g_iadd C X121 d2_197 (g_istore C X121 d2_198 (l' := #[.val (.ref f), .val (.int 1), .val (.int 16), .val (.ref b96), .val (.ref b98), .val (.ref b102), .val (.int 2), .val (.int 13), .val (.int 15), .val (.int 665), .val (.int 8), .val (.int 10), .val (.int 52), .val (.int 11)]) rfl (g_iinc 1 C X121 d2_200 rfl rfl (l' := #[.val (.ref f), .val (.int 1), .val (.int 16), .val (.ref b96), .val (.ref b98), .val (.ref b102), .val (.int 2), .val (.int 14), .val (.int 15), .val (.int 665), .val (.int 8), .val (.int 10), .val (.int 52), .val (.int 11)]) rfl (g_goto C X121 d2_203 (g_iload C X121 d2_171 rfl (g_iload C X121 d2_173 rfl (g_icmpn (hI_ge _ _) C X121 d2_175 (fun q => absurd (by decide) q) (fun _ => ?_)))))))))))
  refine g_aloadN C X121 d2_178 rfl rfl (g_iload C X121 d2_179 rfl (g_baload C X121 f122 d2_181 (by decide) (by decide) rfl (g_dup C X121 d2_182 rfl (g_istore C X121 d2_183 (l' := #[.val (.ref f), .val (.int 1), .val (.int 16), .val (.ref b96), .val (.ref b98), .val (.ref b102), .val (.int 2), .val (.int 14), .val (.int 15), .val (.int 665), .val (.int 8), .val (.int 10), .val (.int 1), .val (.int 11)]) rfl (g_iconst 1 C X121 d2_185 rfl (g_icmp (hI_eq _ _) C X121 d2_186 (fun _ => ?_) (fun q => absurd (by decide) q)))))))
  refine g_iload C X121 d2_206 rfl (g_iload C X121 d2_208 rfl (g_icmpn (hI_ne _ _) C X121 d2_210 (fun _ => ?_) (fun q => absurd q (by decide))))
  refine g_iinc 1 C X121 d2_223 rfl rfl (l' := #[.val (.ref f), .val (.int 1), .val (.int 16), .val (.ref b96), .val (.ref b98), .val (.ref b102), .val (.int 2), .val (.int 14), .val (.int 15), .val (.int 666), .val (.int 8), .val (.int 10), .val (.int 1), .val (.int 11)]) rfl (g_iload C X121 d2_226 rfl (g_iloadN C X121 d2_228 rfl (g_icmpn (hI_ne _ _) C X121 d2_229 (fun _ => ?_) (fun q => absurd q (by decide)))))
  refine g_aloadN C X121 d2_258 rfl rfl (g_iload C X121 d2_259 rfl (g_iload C X121 d2_261 rfl ?_))
  have f123 := (Arv.other (Arv.other V117_b96 W119 (Nat.ne_of_lt lt101)) W121 (Nat.ne_of_lt lt106))
  refine g_iastore C X121 f123 n_b96 d2_263 (by decide) (by decide) (Nat.le_of_ble_eq_true rfl) (.int 10) rfl (fun T124 h124 X124 W124 V124 => ?_)
  have V124_b96 : Arv Z h124 b96 k_b96 .int (16 : Int32) [(.int 8), (.int 9), (.int 10), (.int 0), (.int 0), (.int 0), (.int 0), (.int 0), (.int 0), (.int 0), (.int 0), (.int 0), (.int 0), (.int 0), (.int 0), (.int 0)] (.int 0) := V124
  refine g_aload C X124 d2_264 rfl rfl (g_iload C X124 d2_266 rfl (g_iload C X124 d2_268 rfl ?_))
  have f125 := (Arv.other (Arv.other V119_b98 W121 (Nat.ne_of_lt lt107)) W124 (Nat.ne_of_gt lt101))
  refine g_iastore C X124 f125 n_b98 d2_270 (by decide) (by decide) (Nat.le_of_ble_eq_true rfl) (.int 11) rfl (fun T126 h126 X126 W126 V126 => ?_)
  have V126_b98 : Arv Z h126 b98 k_b98 .int (16 : Int32) [(.int 2), (.int 6), (.int 11), (.int 0), (.int 0), (.int 0), (.int 0), (.int 0), (.int 0), (.int 0), (.int 0), (.int 0), (.int 0), (.int 0), (.int 0), (.int 0)] (.int 0) := V126
  refine g_aload C X126 d2_271 rfl rfl (g_iload C X126 d2_273 rfl (g_iload C X126 d2_275 rfl ?_))
  have f127 := (Arv.other (Arv.other V121_b102 W124 (Nat.ne_of_gt lt106)) W126 (Nat.ne_of_gt lt107))
  refine g_iastore C X126 f127 n_b102 d2_277 (by decide) (by decide) (Nat.le_of_ble_eq_true rfl) (.int 14) rfl (fun T128 h128 X128 W128 V128 => ?_)
  have V128_b102 : Arv Z h128 b102 k_b102 .int (16 : Int32) [(.int 3), (.int 7), (.int 14), (.int 0), (.int 0), (.int 0), (.int 0), (.int 0), (.int 0), (.int 0), (.int 0), (.int 0), (.int 0), (.int 0), (.int 0), (.int 0)] (.int 0) := V128
  refine g_iinc 1 C X128 d2_278 rfl rfl (l' := #[.val (.ref f), .val (.int 1), .val (.int 16), .val (.ref b96), .val (.ref b98), .val (.ref b102), .val (.int 3), .val (.int 14), .val (.int 15), .val (.int 666), .val (.int 8), .val (.int 10), .val (.int 1), .val (.int 11)]) rfl (g_iinc 1 C X128 d2_281 rfl rfl (l' := #[.val (.ref f), .val (.int 1), .val (.int 16), .val (.ref b96), .val (.ref b98), .val (.ref b102), .val (.int 3), .val (.int 15), .val (.int 15), .val (.int 666), .val (.int 8), .val (.int 10), .val (.int 1), .val (.int 11)]) rfl (g_goto C X128 d2_284 (g_iload C X128 d2_38 rfl (g_iload C X128 d2_40 rfl (g_icmpn (hI_ge _ _) C X128 d2_42 (fun _ => ?_) (fun q => absurd q (by decide)))))))
  refine g_new C X128 (wd hw 13 rfl) (wd hw 14 rfl) (wd hw 3 rfl) d2_287 (by decide) (by decide) (fun T129 h129 b129 g_b129 n_b129 X129 E129 A129 D129 M129 => ?_)
  have f130 := (Arv.other (Arv.other (Arv.other f122 W124 (Nat.ne_of_lt lt97)) W126 (Nat.ne_of_lt lt100)) W128 (Nat.ne_of_lt lt104))
  have lt131 : f < b129 := by rw [g_b129]; exact Arv.lt f130
  have f132 := (Arv.other (Arv.other V124_b96 W126 (Nat.ne_of_lt lt101)) W128 (Nat.ne_of_lt lt106))
  have lt133 : b96 < b129 := by rw [g_b129]; exact Arv.lt f132
  have f134 := (Arv.other V126_b98 W128 (Nat.ne_of_lt lt107))
  have lt135 : b98 < b129 := by rw [g_b129]; exact Arv.lt f134
  have lt136 : b102 < b129 := by rw [g_b129]; exact Arv.lt V128_b102
  have F_bytes_b129 : Fld Z h129 b129 "com/example/halyard/halyard/fix/FixMessage" "bytes" "[B" .null := D129 (Or.inr (wd hw 22 rfl)) (ty := (.array .byte)) (by decide)
  have F_count_b129 : Fld Z h129 b129 "com/example/halyard/halyard/fix/FixMessage" "count" "I" (.int 0) := D129 (Or.inr (wd hw 24 rfl)) (ty := .int) (by decide)
  have F_tags_b129 : Fld Z h129 b129 "com/example/halyard/halyard/fix/FixMessage" "tags" "[I" .null := D129 (Or.inr (wd hw 26 rfl)) (ty := (.array .int)) (by decide)
  have F_valueStarts_b129 : Fld Z h129 b129 "com/example/halyard/halyard/fix/FixMessage" "valueStarts" "[I" .null := D129 (Or.inr (wd hw 28 rfl)) (ty := (.array .int)) (by decide)
  have F_valueEnds_b129 : Fld Z h129 b129 "com/example/halyard/halyard/fix/FixMessage" "valueEnds" "[I" .null := D129 (Or.inr (wd hw 30 rfl)) (ty := (.array .int)) (by decide)
  have F_version_b129 : Fld Z h129 b129 "com/example/halyard/halyard/fix/FixMessage" "version" "Lcom/example/halyard/halyard/fix/FixVersion;" .null := D129 (Or.inr (wd hw 62 rfl)) (ty := (.object "com/example/halyard/halyard/fix/FixVersion")) (by decide)
  have F_msgTypeAt_b129 : Fld Z h129 b129 "com/example/halyard/halyard/fix/FixMessage" "msgTypeAt" "I" (.int 0) := D129 (Or.inr (wd hw 68 rfl)) (ty := .int) (by decide)
  refine g_dup C X129 d2_290 rfl (g_aloadN C X129 d2_291 rfl rfl (g_iload C X129 d2_292 rfl (g_aloadN C X129 d2_294 rfl rfl (g_aload C X129 d2_295 rfl rfl (g_aload C X129 d2_297 rfl rfl (g_iload C X129 d2_299 rfl (g_iloadN C X129 d2_301 rfl ?_)))))))
  have f137 := (Arv.ext f130 E129)
  have f138 := (Arv.ext f132 E129)
  have f139 := (Arv.ext f134 E129)
  have f140 := (Arv.ext V128_b102 E129)
  refine g_special (argsL := [(.ref f), (.int 3), (.ref b96), (.ref b98), (.ref b102), (.int 666), (.int 1)]) (st := [(.ref b129)]) C X129 rfl (wd hw 15 rfl) (wd hw 16 rfl) (wd hw 17 rfl) (by decide) (pay_of (W' := 1) (rFi l hw X129.ext b129 f b96 b98 b102 p_1 p_6 p_10 p_15 p_19 p_24 k_30 k_32 k_35 k_38 vs_33 vs_36 vs_39 kf k_b96 k_b98 k_b102 S_3 S_8 E_9 F_12 S_17 E_18 F_21 S_26 V_29 V_31 V_34 V_37 A129 F_bytes_b129 F_count_b129 F_tags_b129 F_valueStarts_b129 F_valueEnds_b129 F_version_b129 F_msgTypeAt_b129 f137 f138 f139 f140 n_b129 (Nat.ne_of_lt lt131) (Nat.ne_of_lt lt133) (Nat.ne_of_lt lt135) (Nat.ne_of_lt lt136)) C.hZ (wd hw 17 rfl) (wd hw 3 rfl) (by decide) (by decide)) pd_8 rfl rfl _ rfl (Nat.le_of_eq rfl) d2_302 (by decide) (by decide) (fun T141 h141 v141 q141 X141 => ?_)
  obtain ⟨rfl, K141, F141⟩ := q141
  show Goes p e below _ T141 (mkF m 305 #[.val (.ref f), .val (.int 1), .val (.int 16), .val (.ref b96), .val (.ref b98), .val (.ref b102), .val (.int 3), .val (.int 15), .val (.int 15), .val (.int 666), .val (.int 8), .val (.int 10), .val (.int 1), .val (.int 11)] [(.ref b129)])
  have sz142 : h.size ≤ b96 := by rw [g_b96]; exact (Keep.refl h []).1
  have kp143 := (Keep.refl h []).ext E96
  have sz144 : h.size ≤ b98 := by rw [g_b98]; exact kp143.1
  have kp145 := kp143.ext E98
  have sz146 : h.size ≤ b102 := by rw [g_b102]; exact kp145.1
  have kp147 := kp145.ext E102
  have kp148 := kp147.wr W110 (Or.inr sz142)
  have kp149 := kp148.wr W112 (Or.inr sz144)
  have kp150 := kp149.wr W114 (Or.inr sz146)
  have kp151 := kp150.wr W117 (Or.inr sz142)
  have kp152 := kp151.wr W119 (Or.inr sz144)
  have kp153 := kp152.wr W121 (Or.inr sz146)
  have kp154 := kp153.wr W124 (Or.inr sz142)
  have kp155 := kp154.wr W126 (Or.inr sz144)
  have kp156 := kp155.wr W128 (Or.inr sz146)
  have sz157 : h.size ≤ b129 := by rw [g_b129]; exact kp156.1
  have kp158 := kp156.ext E129
  have kp159 := kp158.trans K141 (allS (Or.inr sz157) all0)
  have f160 := (Exa.keep A129 K141)
  exact g_retA C X141 rfl rfl d2_305 (by decide) (by decide) ⟨b129, rfl, n_b129, sz157, keep_ext kp159, f160, F141⟩
theorem ef_rPg (m : MethodId) (f : Addr) : entryFrame m #[(.ref f)] 1 = mkF m 0 #[.val (.ref f)] [] := by first | (simp [entryFrame, mkF, argsToLocals, Value.category]; done) | rfl
theorem d1_0 : Dc prog_27_method_3_code 0 (.aload_n 0) 1 1 := ⟨by decide +kernel, rfl⟩
theorem d1_1 : Dc prog_27_method_3_code 1 (.iconst 1) 1 2 := ⟨by decide +kernel, rfl⟩
theorem d1_2 : Dc prog_27_method_3_code 2 (.invokestatic 44) 3 5 := ⟨by decide +kernel, rfl⟩
theorem pd_9 : parseMethodDescriptor "([BZ)Lcom/example/halyard/halyard/fix/FixMessage;" = some ⟨[(.array .byte), .boolean], some (.object "com/example/halyard/halyard/fix/FixMessage")⟩ := by decide +kernel
theorem d1_5 : Dc prog_27_method_3_code 5 (.areturn) 1 6 := ⟨by decide +kernel, rfl⟩
theorem rPg (l : Launch) {Z : State} {a0 : Array Value} (hw : ∀ d ∈ tables_1, d.before a0 Z = true) {h : Heap} (hE : Ext Z.heap h) (f : Addr) (p_1 p_6 p_10 p_15 p_19 p_24 : Addr) (k_30 k_32 k_35 k_38 : ClassId) (vs_33 vs_36 vs_39 : List Value) (kf : ClassId) (S_3 : Sta Z Z.heap "com/example/halyard/halyard/fix/FixVersion" "VERSIONS" "[Lcom/example/halyard/halyard/fix/FixVersion;" (.ref p_1)) (S_8 : Sta Z Z.heap "com/example/halyard/halyard/fix/FixVersion" "FIX_4_2" "Lcom/example/halyard/halyard/fix/FixVersion;" (.ref p_6)) (E_9 : Exa Z Z.heap p_6 "com/example/halyard/halyard/fix/FixVersion") (F_12 : Fld Z Z.heap p_6 "com/example/halyard/halyard/fix/FixVersion" "head" "[B" (.ref p_10)) (S_17 : Sta Z Z.heap "com/example/halyard/halyard/fix/FixVersion" "FIX_4_4" "Lcom/example/halyard/halyard/fix/FixVersion;" (.ref p_15)) (E_18 : Exa Z Z.heap p_15 "com/example/halyard/halyard/fix/FixVersion") (F_21 : Fld Z Z.heap p_15 "com/example/halyard/halyard/fix/FixVersion" "head" "[B" (.ref p_19)) (S_26 : Sta Z Z.heap "com/example/halyard/halyard/fix/FixMessage" "CHECK_SUM_TAG" "[B" (.ref p_24)) (V_29 : Arv Z Z.heap p_1 k_30 (.object "com/example/halyard/halyard/fix/FixVersion") 2 [(.ref p_6), (.ref p_15)] .null) (V_31 : Arv Z Z.heap p_10 k_32 .byte 9 vs_33 (.int 0)) (V_34 : Arv Z Z.heap p_19 k_35 .byte 9 vs_36 (.int 0)) (V_37 : Arv Z Z.heap p_24 k_38 .byte 3 vs_39 (.int 0)) (VF : Arv Z h f kf .byte 15 [(.int 56), (.int 61), (.int 65), (.int 1), (.int 57), (.int 61), (.int 48), (.int 1), (.int 49), (.int 48), (.int 61), (.int 48), (.int 57), (.int 52), (.int 1)] (.int (0 : Int32))) :
    Con l (⟨"com/example/halyard/halyard/fix/FixMessage", "parseUngarbled", "([B)Lcom/example/halyard/halyard/fix/FixMessage;"⟩ : MethodName) prog_27_method_3_code 1 (some (.object "com/example/halyard/halyard/fix/FixMessage")) [] ({ frames := 6, cells := 4, slots := 55, locals := 150 } : Room) Z #[(.ref f)] h (fun v' h' => ∃ m_, v' = some (.ref m_) ∧ Z.heap.size ≤ m_ ∧ h.size ≤ m_ ∧ Ext h h' ∧ Exa Z h' m_ "com/example/halyard/halyard/fix/FixMessage" ∧ Fld Z h' m_ "com/example/halyard/halyard/fix/FixMessage" "bytes" "[B" (.ref f)) := by
  refine con_of (plainFor_of_name pn_2) hE (fun m => ef_rPg m f) ?_
  intro p e s m below meth c T0 C X0
  have C : Cx p s m meth c Z "com/example/halyard/halyard/fix/FixMessage" "parseUngarbled" prog_27_method_3_code 1 (some (.object "com/example/halyard/halyard/fix/FixMessage")) := C
  show Goes p e below _ T0 (mkF m 0 #[.val (.ref f)] [])
  refine g_aloadN C X0 d1_0 rfl rfl (g_iconst 1 C X0 d1_1 rfl (g_static (argsL := [(.ref f), (.int 1)]) (st := []) C X0 (wd hw 5 rfl) (wd hw 6 rfl) (wd hw 3 rfl) (wd hw 7 rfl) (by decide) (pay_of (W' := 0) (rPs l hw X0.ext f p_1 p_6 p_10 p_15 p_19 p_24 k_30 k_32 k_35 k_38 vs_33 vs_36 vs_39 kf S_3 S_8 E_9 F_12 S_17 E_18 F_21 S_26 V_29 V_31 V_34 V_37 VF) C.hZ (wd hw 7 rfl) (wd hw 3 rfl) (by decide) (by decide)) pd_9 rfl rfl _ rfl (Nat.le_of_eq rfl) d1_2 (by decide) (by decide) (fun T161 h161 v161 q161 X161 => ?_)))
  obtain ⟨m161, rfl, A161⟩ := q161
  show Goes p e below _ T161 (mkF m 5 #[.val (.ref f)] [(.ref m161)])
  exact g_retA C X161 rfl rfl d1_5 (by decide) (by decide) ⟨m161, rfl, A161⟩
theorem own_128 (i : Int32) : (i + 128) - 128 = i := Int32.add_sub_cancel i 128
theorem own_ix {i : Int32} (h1 : ¬ i < (-128 : Int32)) (h2 : ¬ (127 : Int32) < i) : ¬ (i + 128) < 0 ∧ (i + 128) < 256 := by
  have h3 := c_iadd i 128
  have h4 := rng32 (i + 128)
  have h5 : (-128 : Int32).toInt = -128 := by decide
  simp only [Int32.lt_iff_toInt_lt, Int32.reduceToInt] at *
  omega
def own_cmp (x y : Int32) : Int32 := if x < y then -1 else if x = y then 0 else 1
def own_T : Prop := True
theorem pn_3 : plainName "java/lang/Number" = true := by first | (simp [plainName, overriddenIn]; done) | decide +kernel
theorem ef_rNu (m : MethodId) (a : Addr) : entryFrame m #[(.ref a)] 1 = mkF m 0 #[.val (.ref a)] [] := by first | (simp [entryFrame, mkF, argsToLocals, Value.category]; done) | rfl
theorem d35_0 : Dc jdk_18_method_1_code 0 (.aload_n 0) 1 1 := ⟨by decide +kernel, rfl⟩
theorem d35_1 : Dc jdk_18_method_1_code 1 (.invokespecial 1) 3 4 := ⟨by decide +kernel, rfl⟩
theorem d35_4 : Dc jdk_18_method_1_code 4 (.return_) 1 5 := ⟨by decide +kernel, rfl⟩
theorem rNu (l : Launch) {Z : State} {a0 : Array Value} (hw : ∀ d ∈ tables_1, d.before a0 Z = true) {h : Heap} (hE : Ext Z.heap h) (a : Addr)   :
    Con l (⟨"java/lang/Number", "<init>", "()V"⟩ : MethodName) jdk_18_method_1_code 1 none [] ({ frames := 1, cells := 0, slots := 0, locals := 12 } : Room) Z #[(.ref a)] h (fun v' h' => v' = none ∧ h' = h) := by
  refine con_of (plainFor_of_name pn_3) hE (fun m => ef_rNu m a) ?_
  intro p e s m below meth c T0 C X0
  have C : Cx p s m meth c Z "java/lang/Number" "<init>" jdk_18_method_1_code 1 none := C
  show Goes p e below _ T0 (mkF m 0 #[.val (.ref a)] [])
  refine g_aloadN C X0 d35_0 rfl rfl (g_initO C X0 (wd hw 244 rfl) (wd hw 19 rfl) (wd hw 20 rfl) rfl d35_1 (by decide) 0 (Nat.le_of_eq rfl) (by decide) (fun T162 X162 => ?_))
  exact g_retV C X162 d35_4 (by decide) (by decide) ⟨rfl, rfl⟩
theorem pn_4 : plainName "java/util/AbstractMap" = true := by first | (simp [plainName, overriddenIn]; done) | decide +kernel
theorem ef_rAm (m : MethodId) (a : Addr) : entryFrame m #[(.ref a)] 1 = mkF m 0 #[.val (.ref a)] [] := by first | (simp [entryFrame, mkF, argsToLocals, Value.category]; done) | rfl
theorem d15_0 : Dc jdk_71_method_1_code 0 (.aload_n 0) 1 1 := ⟨by decide +kernel, rfl⟩
theorem d15_1 : Dc jdk_71_method_1_code 1 (.invokespecial 1) 3 4 := ⟨by decide +kernel, rfl⟩
theorem d15_4 : Dc jdk_71_method_1_code 4 (.return_) 1 5 := ⟨by decide +kernel, rfl⟩
theorem rAm (l : Launch) {Z : State} {a0 : Array Value} (hw : ∀ d ∈ tables_1, d.before a0 Z = true) {h : Heap} (hE : Ext Z.heap h) (a : Addr)   :
    Con l (⟨"java/util/AbstractMap", "<init>", "()V"⟩ : MethodName) jdk_71_method_1_code 1 none [] ({ frames := 1, cells := 0, slots := 0, locals := 12 } : Room) Z #[(.ref a)] h (fun v' h' => v' = none ∧ h' = h) := by
  refine con_of (plainFor_of_name pn_4) hE (fun m => ef_rAm m a) ?_
  intro p e s m below meth c T0 C X0
  have C : Cx p s m meth c Z "java/util/AbstractMap" "<init>" jdk_71_method_1_code 1 none := C
  show Goes p e below _ T0 (mkF m 0 #[.val (.ref a)] [])
  refine g_aloadN C X0 d15_0 rfl rfl (g_initO C X0 (wd hw 88 rfl) (wd hw 19 rfl) (wd hw 20 rfl) rfl d15_1 (by decide) 0 (Nat.le_of_eq rfl) (by decide) (fun T163 X163 => ?_))
  exact g_retV C X163 d15_4 (by decide) (by decide) ⟨rfl, rfl⟩
theorem pn_5 : plainName "java/lang/Record" = true := by first | (simp [plainName, overriddenIn]; done) | decide +kernel
theorem ef_rRd (m : MethodId) (a : Addr) : entryFrame m #[(.ref a)] 1 = mkF m 0 #[.val (.ref a)] [] := by first | (simp [entryFrame, mkF, argsToLocals, Value.category]; done) | rfl
theorem d20_0 : Dc jdk_30_method_1_code 0 (.aload_n 0) 1 1 := ⟨by decide +kernel, rfl⟩
theorem d20_1 : Dc jdk_30_method_1_code 1 (.invokespecial 1) 3 4 := ⟨by decide +kernel, rfl⟩
theorem d20_4 : Dc jdk_30_method_1_code 4 (.return_) 1 5 := ⟨by decide +kernel, rfl⟩
theorem rRd (l : Launch) {Z : State} {a0 : Array Value} (hw : ∀ d ∈ tables_1, d.before a0 Z = true) {h : Heap} (hE : Ext Z.heap h) (a : Addr)   :
    Con l (⟨"java/lang/Record", "<init>", "()V"⟩ : MethodName) jdk_30_method_1_code 1 none [] ({ frames := 1, cells := 0, slots := 0, locals := 12 } : Room) Z #[(.ref a)] h (fun v' h' => v' = none ∧ h' = h) := by
  refine con_of (plainFor_of_name pn_5) hE (fun m => ef_rRd m a) ?_
  intro p e s m below meth c T0 C X0
  have C : Cx p s m meth c Z "java/lang/Record" "<init>" jdk_30_method_1_code 1 none := C
  show Goes p e below _ T0 (mkF m 0 #[.val (.ref a)] [])
  refine g_aloadN C X0 d20_0 rfl rfl (g_initO C X0 (wd hw 131 rfl) (wd hw 19 rfl) (wd hw 20 rfl) rfl d20_1 (by decide) 0 (Nat.le_of_eq rfl) (by decide) (fun T164 X164 => ?_))
  exact g_retV C X164 d20_4 (by decide) (by decide) ⟨rfl, rfl⟩
theorem pn_6 : plainName "java/lang/Integer" = true := by first | (simp [plainName, overriddenIn]; done) | decide +kernel
theorem ef_rIn (m : MethodId) (o : Addr) (i : Int32) : entryFrame m #[(.ref o), (.int i)] 2 = mkF m 0 #[.val (.ref o), .val (.int i)] [] := by first | (simp [entryFrame, mkF, argsToLocals, Value.category]; done) | rfl
theorem d34_0 : Dc jdk_33_method_23_code 0 (.aload_n 0) 1 1 := ⟨by decide +kernel, rfl⟩
theorem d34_1 : Dc jdk_33_method_23_code 1 (.invokespecial 202) 3 4 := ⟨by decide +kernel, rfl⟩
theorem pd_10 : parseMethodDescriptor "()V" = some ⟨[], none⟩ := by decide +kernel
theorem d34_4 : Dc jdk_33_method_23_code 4 (.aload_n 0) 1 5 := ⟨by decide +kernel, rfl⟩
theorem d34_5 : Dc jdk_33_method_23_code 5 (.iload_n 1) 1 6 := ⟨by decide +kernel, rfl⟩
theorem d34_6 : Dc jdk_33_method_23_code 6 (.putfield 205) 3 9 := ⟨by decide +kernel, rfl⟩
theorem d34_9 : Dc jdk_33_method_23_code 9 (.return_) 1 10 := ⟨by decide +kernel, rfl⟩
theorem rIn (l : Launch) {Z : State} {a0 : Array Value} (hw : ∀ d ∈ tables_1, d.before a0 Z = true) {h : Heap} (hE : Ext Z.heap h) (o : Addr) (i : Int32)  (E_o : Exa Z h o "java/lang/Integer") (F_o_value : Fld Z h o "java/lang/Integer" "value" "I" (.int 0)) (hn : Z.heap.size ≤ o) :
    Con l (⟨"java/lang/Integer", "<init>", "(I)V"⟩ : MethodName) jdk_33_method_23_code 2 none [] ({ frames := 2, cells := 0, slots := 0, locals := 26 } : Room) Z #[(.ref o), (.int i)] h (fun v' h' => v' = none ∧ Keep h h' [o] ∧ Exa Z h' o "java/lang/Integer" ∧ Fld Z h' o "java/lang/Integer" "value" "I" (.int i)) := by
  refine con_of (plainFor_of_name pn_6) hE (fun m => ef_rIn m o i) ?_
  intro p e s m below meth c T0 C X0
  have C : Cx p s m meth c Z "java/lang/Integer" "<init>" jdk_33_method_23_code 2 none := C
  show Goes p e below _ T0 (mkF m 0 #[.val (.ref o), .val (.int i)] [])
  refine g_aloadN C X0 d34_0 rfl rfl (g_specialP (argsL := []) (st := []) C X0 rfl (wd hw 238 rfl) (wd hw 239 rfl) (wd hw 243 rfl) (by decide) (pay_of (W' := 0) (rNu l hw X0.ext o) C.hZ (wd hw 243 rfl) (wd hw 242 rfl) (by decide) (by decide)) pd_10 rfl rfl _ rfl (Nat.le_of_eq rfl) d34_1 (by decide) (by decide) (fun T165 X165 => ?_))
  refine g_aloadN C X165 d34_4 rfl rfl (g_iloadN C X165 d34_5 rfl (g_putfield (host := "") C X165 (Or.inl (wd hw 179 rfl)) Via.refl F_o_value E_o (Or.inr ⟨(wd hw 180 rfl), rfl, rfl⟩) (wd hw 234 rfl) (ty := .int) (by decide) rfl rfl hn d34_6 (fun T166 h166 X166 W166 => ?_)))
  have f166 := Fld.same W166 F_o_value
  have kp167 := (Keep.refl h [o]).wr W166 (Or.inl (by simp))
  have f168 := (Exa.wr W166 E_o)
  exact g_retV C X166 d34_9 (by decide) (by decide) ⟨rfl, kp167, f168, f166⟩
theorem ef_rVa (m : MethodId) (i : Int32) : entryFrame m #[(.int i)] 1 = mkF m 0 #[.val (.int i)] [] := by first | (simp [entryFrame, mkF, argsToLocals, Value.category]; done) | rfl
theorem d18_0 : Dc jdk_33_method_22_code 0 (.iload_n 0) 1 1 := ⟨by decide +kernel, rfl⟩
theorem d18_1 : Dc jdk_33_method_22_code 1 (.bipush (-128)) 2 3 := ⟨by decide +kernel, rfl⟩
theorem d18_3 : Dj jdk_33_method_22_code 3 (.if_icmp .lt 20) 20 3 6 23 := ⟨by decide +kernel, rfl, by decide, by decide⟩
theorem d18_23 : Dc jdk_33_method_22_code 23 (.new 1) 3 26 := ⟨by decide +kernel, rfl⟩
theorem d18_26 : Dc jdk_33_method_22_code 26 (.dup) 1 27 := ⟨by decide +kernel, rfl⟩
theorem d18_27 : Dc jdk_33_method_22_code 27 (.iload_n 0) 1 28 := ⟨by decide +kernel, rfl⟩
theorem d18_28 : Dc jdk_33_method_22_code 28 (.invokespecial 199) 3 31 := ⟨by decide +kernel, rfl⟩
theorem pd_11 : parseMethodDescriptor "(I)V" = some ⟨[.int], none⟩ := by decide +kernel
theorem d18_31 : Dc jdk_33_method_22_code 31 (.areturn) 1 32 := ⟨by decide +kernel, rfl⟩
theorem d18_6 : Dc jdk_33_method_22_code 6 (.iload_n 0) 1 7 := ⟨by decide +kernel, rfl⟩
theorem d18_7 : Dc jdk_33_method_22_code 7 (.getstatic 191) 3 10 := ⟨by decide +kernel, rfl⟩
theorem d18_10 : Dj jdk_33_method_22_code 10 (.if_icmp .gt 13) 13 3 13 23 := ⟨by decide +kernel, rfl, by decide, by decide⟩
theorem d18_13 : Dc jdk_33_method_22_code 13 (.getstatic 195) 3 16 := ⟨by decide +kernel, rfl⟩
theorem d18_16 : Dc jdk_33_method_22_code 16 (.iload_n 0) 1 17 := ⟨by decide +kernel, rfl⟩
theorem d18_17 : Dc jdk_33_method_22_code 17 (.sipush 128) 3 20 := ⟨by decide +kernel, rfl⟩
theorem d18_20 : Dc jdk_33_method_22_code 20 (.iadd) 1 21 := ⟨by decide +kernel, rfl⟩
theorem d18_21 : Dc jdk_33_method_22_code 21 (.aaload) 1 22 := ⟨by decide +kernel, rfl⟩
theorem d18_22 : Dc jdk_33_method_22_code 22 (.areturn) 1 23 := ⟨by decide +kernel, rfl⟩
theorem rVa (l : Launch) {Z : State} {a0 : Array Value} (hw : ∀ d ∈ tables_1, d.before a0 Z = true) {h : Heap} (hE : Ext Z.heap h) (i : Int32) (ca : Addr) (kc : ClassId) (vc : List Value) (SH : Sta Z Z.heap "java/lang/Integer$IntegerCache" "high" "I" (.int (127 : Int32))) (SC : Sta Z Z.heap "java/lang/Integer$IntegerCache" "cache" "[Ljava/lang/Integer;" (.ref ca)) (VC : Arv Z Z.heap ca kc (.object "java/lang/Integer") 256 vc .null) (HB : ∀ j : Int32, ¬ j < 0 → j < 256 → ∃ b : Addr, vc.getD j.toNatClampNeg .null = .ref b ∧ Exa Z Z.heap b "java/lang/Integer" ∧ Fld Z Z.heap b "java/lang/Integer" "value" "I" (.int (j - 128))) :
    Con l (⟨"java/lang/Integer", "valueOf", "(I)Ljava/lang/Integer;"⟩ : MethodName) jdk_33_method_22_code 1 (some (.object "java/lang/Integer")) [] ({ frames := 3, cells := 1, slots := 1, locals := 72 } : Room) Z #[(.int i)] h (fun v' h' => ∃ b, v' = some (.ref b) ∧ Ext h h' ∧ Exa Z h' b "java/lang/Integer" ∧ Fld Z h' b "java/lang/Integer" "value" "I" (.int i)) := by
  refine con_of (plainFor_of_name pn_6) hE (fun m => ef_rVa m i) ?_
  intro p e s m below meth c T0 C X0
  have C : Cx p s m meth c Z "java/lang/Integer" "valueOf" jdk_33_method_22_code 1 (some (.object "java/lang/Integer")) := C
  show Goes p e below _ T0 (mkF m 0 #[.val (.int i)] [])
  refine g_iloadN C X0 d18_0 rfl (g_bipush (-128) C X0 d18_1 rfl (g_icmp (hI_lt _ _) C X0 d18_3 (fun c3_169 => ?_) (fun c3_169 => ?_)))
  · refine g_new C X0 (wd hw 172 rfl) (wd hw 234 rfl) (wd hw 115 rfl) d18_23 (by decide) (by decide) (fun T170 h170 b170 g_b170 n_b170 X170 E170 A170 D170 M170 => ?_)
    have F_value_b170 : Fld Z h170 b170 "java/lang/Integer" "value" "I" (.int 0) := D170 (Or.inr (wd hw 180 rfl)) (ty := .int) (by decide)
    refine g_dup C X170 d18_26 rfl (g_iloadN C X170 d18_27 rfl (g_special (argsL := [(.int i)]) (st := [(.ref b170)]) C X170 rfl (wd hw 235 rfl) (wd hw 236 rfl) (wd hw 237 rfl) (by decide) (pay_of (W' := 1) (rIn l hw X170.ext b170 i A170 F_value_b170 n_b170) C.hZ (wd hw 237 rfl) (wd hw 115 rfl) (by decide) (by decide)) pd_11 rfl rfl _ rfl (Nat.le_of_eq rfl) d18_28 (by decide) (by decide) (fun T171 h171 v171 q171 X171 => ?_)))
    obtain ⟨rfl, K171, E171, F171⟩ := q171
    show Goes p e below _ T171 (mkF m 31 #[.val (.int i)] [(.ref b170)])
    have sz172 : h.size ≤ b170 := by rw [g_b170]; exact (Keep.refl h []).1
    have kp173 := (Keep.refl h []).ext E170
    have kp174 := kp173.trans K171 (allS (Or.inr sz172) all0)
    exact g_retA C X171 rfl rfl d18_31 (by decide) (by decide) ⟨b170, rfl, keep_ext kp174, E171, F171⟩
  · refine g_iloadN C X0 d18_6 rfl (g_getstatic (host := "") C X0 (Or.inl (wd hw 117 rfl)) Via.refl SH d18_7 (fun T175 X175 => ?_))
    refine g_icmp (hI_gt _ _) C X175 d18_10 (fun c10_176 => ?_) (fun c10_176 => ?_)
    · refine g_new C X175 (wd hw 172 rfl) (wd hw 234 rfl) (wd hw 115 rfl) d18_23 (by decide) (by decide) (fun T177 h177 b177 g_b177 n_b177 X177 E177 A177 D177 M177 => ?_)
      have F_value_b177 : Fld Z h177 b177 "java/lang/Integer" "value" "I" (.int 0) := D177 (Or.inr (wd hw 180 rfl)) (ty := .int) (by decide)
      refine g_dup C X177 d18_26 rfl (g_iloadN C X177 d18_27 rfl (g_special (argsL := [(.int i)]) (st := [(.ref b177)]) C X177 rfl (wd hw 235 rfl) (wd hw 236 rfl) (wd hw 237 rfl) (by decide) (pay_of (W' := 1) (rIn l hw X177.ext b177 i A177 F_value_b177 n_b177) C.hZ (wd hw 237 rfl) (wd hw 115 rfl) (by decide) (by decide)) pd_11 rfl rfl _ rfl (Nat.le_of_eq rfl) d18_28 (by decide) (by decide) (fun T178 h178 v178 q178 X178 => ?_)))
      obtain ⟨rfl, K178, E178, F178⟩ := q178
      show Goes p e below _ T178 (mkF m 31 #[.val (.int i)] [(.ref b177)])
      have sz179 : h.size ≤ b177 := by rw [g_b177]; exact (Keep.refl h []).1
      have kp180 := (Keep.refl h []).ext E177
      have kp181 := kp180.trans K178 (allS (Or.inr sz179) all0)
      exact g_retA C X178 rfl rfl d18_31 (by decide) (by decide) ⟨b177, rfl, keep_ext kp181, E178, F178⟩
    · refine g_getstatic (host := "") C X175 (Or.inl (wd hw 119 rfl)) Via.refl SC d18_13 (fun T182 X182 => ?_)
      refine g_iloadN C X182 d18_16 rfl (g_sipush 128 C X182 d18_17 rfl (g_iadd C X182 d18_20 ?_))
      obtain ⟨bx, ebx, Ebx, Fbx⟩ := HB (i + 128) (own_ix c3_169 c10_176).1 (own_ix c3_169 c10_176).2
      rw [own_128] at Fbx
      refine g_aaload C X182 (Arv.ext VC X182.ext) rfl d18_21 (own_ix c3_169 c10_176).1 (own_ix c3_169 c10_176).2 ebx ?_
      exact g_retA C X182 rfl rfl d18_22 (by decide) (by decide) ⟨bx, rfl, keep_ext (Keep.refl h []), (Exa.ext X182.ext Ebx), (Fld.ext X182.ext Fbx)⟩
theorem ef_rIc (m : MethodId) (x : Int32) (y : Int32) : entryFrame m #[(.int x), (.int y)] 2 = mkF m 0 #[.val (.int x), .val (.int y)] [] := by first | (simp [entryFrame, mkF, argsToLocals, Value.category]; done) | rfl
theorem d27_0 : Dc jdk_33_method_40_code 0 (.iload_n 0) 1 1 := ⟨by decide +kernel, rfl⟩
theorem d27_1 : Dc jdk_33_method_40_code 1 (.iload_n 1) 1 2 := ⟨by decide +kernel, rfl⟩
theorem d27_2 : Dj jdk_33_method_40_code 2 (.if_icmp .ge 7) 7 3 5 9 := ⟨by decide +kernel, rfl, by decide, by decide⟩
theorem d27_9 : Dc jdk_33_method_40_code 9 (.iload_n 0) 1 10 := ⟨by decide +kernel, rfl⟩
theorem d27_10 : Dc jdk_33_method_40_code 10 (.iload_n 1) 1 11 := ⟨by decide +kernel, rfl⟩
theorem d27_11 : Dj jdk_33_method_40_code 11 (.if_icmp .ne 7) 7 3 14 18 := ⟨by decide +kernel, rfl, by decide, by decide⟩
theorem d27_18 : Dc jdk_33_method_40_code 18 (.iconst 1) 1 19 := ⟨by decide +kernel, rfl⟩
theorem d27_19 : Dc jdk_33_method_40_code 19 (.ireturn) 1 20 := ⟨by decide +kernel, rfl⟩
theorem d27_14 : Dc jdk_33_method_40_code 14 (.iconst 0) 1 15 := ⟨by decide +kernel, rfl⟩
theorem d27_15 : Dj jdk_33_method_40_code 15 (.goto 4) 4 3 18 19 := ⟨by decide +kernel, rfl, by decide, by decide⟩
theorem d27_5 : Dc jdk_33_method_40_code 5 (.iconst (-1)) 1 6 := ⟨by decide +kernel, rfl⟩
theorem d27_6 : Dj jdk_33_method_40_code 6 (.goto 13) 13 3 9 19 := ⟨by decide +kernel, rfl, by decide, by decide⟩
theorem rIc (l : Launch) {Z : State} {a0 : Array Value} (hw : ∀ d ∈ tables_1, d.before a0 Z = true) {h : Heap} (hE : Ext Z.heap h) (x : Int32) (y : Int32)   :
    Con l (⟨"java/lang/Integer", "compare", "(II)I"⟩ : MethodName) jdk_33_method_40_code 2 (some .int) [] ({ frames := 0, cells := 0, slots := 0, locals := 0 } : Room) Z #[(.int x), (.int y)] h (fun v' h' => v' = some (.int (own_cmp x y)) ∧ h' = h) := by
  refine con_of (plainFor_of_name pn_6) hE (fun m => ef_rIc m x y) ?_
  intro p e s m below meth c T0 C X0
  have C : Cx p s m meth c Z "java/lang/Integer" "compare" jdk_33_method_40_code 2 (some .int) := C
  show Goes p e below _ T0 (mkF m 0 #[.val (.int x), .val (.int y)] [])
  refine g_iloadN C X0 d27_0 rfl (g_iloadN C X0 d27_1 rfl (g_icmpn (hI_ge _ _) C X0 d27_2 (fun c2_183 => ?_) (fun c2_183 => ?_)))
  · refine g_iloadN C X0 d27_9 rfl (g_iloadN C X0 d27_10 rfl (g_icmpn (hI_ne _ _) C X0 d27_11 (fun c11_184 => ?_) (fun c11_184 => ?_)))
    · refine g_iconst 1 C X0 d27_18 rfl ?_
      exact g_retI C X0 d27_19 (by decide) (by decide) ⟨by unfold own_cmp; rw [if_neg c2_183, if_neg c11_184], rfl⟩
    · refine g_iconst 0 C X0 d27_14 rfl (g_goto C X0 d27_15 ?_)
      exact g_retI C X0 d27_19 (by decide) (by decide) ⟨by unfold own_cmp; rw [if_neg c2_183, if_pos c11_184], rfl⟩
  · refine g_iconst (-1) C X0 d27_5 rfl (g_goto C X0 d27_6 ?_)
    exact g_retI C X0 d27_19 (by decide) (by decide) ⟨by unfold own_cmp; rw [if_pos c2_183], rfl⟩
theorem ef_rCt1 (m : MethodId) (k1 : Addr) (k2 : Addr) : entryFrame m #[(.ref k1), (.ref k2)] 2 = mkF m 0 #[.val (.ref k1), .val (.ref k2)] [] := by first | (simp [entryFrame, mkF, argsToLocals, Value.category]; done) | rfl
theorem d26_0 : Dc jdk_33_method_39_code 0 (.aload_n 0) 1 1 := ⟨by decide +kernel, rfl⟩
theorem d26_1 : Dc jdk_33_method_39_code 1 (.getfield 205) 3 4 := ⟨by decide +kernel, rfl⟩
theorem d26_4 : Dc jdk_33_method_39_code 4 (.aload_n 1) 1 5 := ⟨by decide +kernel, rfl⟩
theorem d26_5 : Dc jdk_33_method_39_code 5 (.getfield 205) 3 8 := ⟨by decide +kernel, rfl⟩
theorem d26_8 : Dc jdk_33_method_39_code 8 (.invokestatic 259) 3 11 := ⟨by decide +kernel, rfl⟩
theorem d26_11 : Dc jdk_33_method_39_code 11 (.ireturn) 1 12 := ⟨by decide +kernel, rfl⟩
theorem rCt1 (l : Launch) {Z : State} {a0 : Array Value} (hw : ∀ d ∈ tables_1, d.before a0 Z = true) {h : Heap} (hE : Ext Z.heap h) (k1 : Addr) (k2 : Addr) (x y : Int32) (E_k1 : Exa Z h k1 "java/lang/Integer") (F_k1_value : Fld Z h k1 "java/lang/Integer" "value" "I" (.int x)) (E_k2 : Exa Z h k2 "java/lang/Integer") (F_k2_value : Fld Z h k2 "java/lang/Integer" "value" "I" (.int y)) :
    Con l (⟨"java/lang/Integer", "compareTo", "(Ljava/lang/Integer;)I"⟩ : MethodName) jdk_33_method_39_code 2 (some .int) [] ({ frames := 1, cells := 0, slots := 0, locals := 24 } : Room) Z #[(.ref k1), (.ref k2)] h (fun v' h' => v' = some (.int (own_cmp x y)) ∧ h' = h) := by
  refine con_of (plainFor_of_name pn_6) hE (fun m => ef_rCt1 m k1 k2) ?_
  intro p e s m below meth c T0 C X0
  have C : Cx p s m meth c Z "java/lang/Integer" "compareTo" jdk_33_method_39_code 2 (some .int) := C
  show Goes p e below _ T0 (mkF m 0 #[.val (.ref k1), .val (.ref k2)] [])
  refine g_aloadN C X0 d26_0 rfl rfl (g_getfield (host := "") C X0 (Or.inl (wd hw 179 rfl)) Via.refl F_k1_value d26_1 (fun T185 X185 => ?_))
  refine g_aloadN C X185 d26_4 rfl rfl (g_getfield (host := "") C X185 (Or.inl (wd hw 179 rfl)) Via.refl F_k2_value d26_5 (fun T186 X186 => ?_))
  refine g_staticP (argsL := [(.int x), (.int y)]) (st := []) C X186 (wd hw 181 rfl) (wd hw 182 rfl) (wd hw 115 rfl) (wd hw 183 rfl) (by decide) (pay_of (W' := 0) (rIc l hw X186.ext x y) C.hZ (wd hw 183 rfl) (wd hw 115 rfl) (by decide) (by decide)) pd_7 rfl rfl _ rfl (Nat.le_of_eq rfl) d26_8 (by decide) (by decide) (fun T187 X187 => ?_)
  exact g_retI C X187 d26_11 (by decide) (by decide) ⟨rfl, rfl⟩
theorem ef_rCt2 (m : MethodId) (k1 : Addr) (k2 : Addr) : entryFrame m #[(.ref k1), (.ref k2)] 2 = mkF m 0 #[.val (.ref k1), .val (.ref k2)] [] := by first | (simp [entryFrame, mkF, argsToLocals, Value.category]; done) | rfl
theorem d25_0 : Dc jdk_33_method_63_code 0 (.aload_n 0) 1 1 := ⟨by decide +kernel, rfl⟩
theorem d25_1 : Dc jdk_33_method_63_code 1 (.aload_n 1) 1 2 := ⟨by decide +kernel, rfl⟩
theorem d25_2 : Dc jdk_33_method_63_code 2 (.checkcast 1) 3 5 := ⟨by decide +kernel, rfl⟩
theorem d25_5 : Dc jdk_33_method_63_code 5 (.invokevirtual 284) 3 8 := ⟨by decide +kernel, rfl⟩
theorem pd_12 : parseMethodDescriptor "(Ljava/lang/Integer;)I" = some ⟨[(.object "java/lang/Integer")], some .int⟩ := by decide +kernel
theorem d25_8 : Dc jdk_33_method_63_code 8 (.ireturn) 1 9 := ⟨by decide +kernel, rfl⟩
theorem rCt2 (l : Launch) {Z : State} {a0 : Array Value} (hw : ∀ d ∈ tables_1, d.before a0 Z = true) {h : Heap} (hE : Ext Z.heap h) (k1 : Addr) (k2 : Addr) (x y : Int32) (E_k1 : Exa Z h k1 "java/lang/Integer") (F_k1_value : Fld Z h k1 "java/lang/Integer" "value" "I" (.int x)) (E_k2 : Exa Z h k2 "java/lang/Integer") (F_k2_value : Fld Z h k2 "java/lang/Integer" "value" "I" (.int y)) :
    Con l (⟨"java/lang/Integer", "compareTo", "(Ljava/lang/Object;)I"⟩ : MethodName) jdk_33_method_63_code 2 (some .int) [] ({ frames := 2, cells := 0, slots := 0, locals := 48 } : Room) Z #[(.ref k1), (.ref k2)] h (fun v' h' => v' = some (.int (own_cmp x y)) ∧ h' = h) := by
  refine con_of (plainFor_of_name pn_6) hE (fun m => ef_rCt2 m k1 k2) ?_
  intro p e s m below meth c T0 C X0
  have C : Cx p s m meth c Z "java/lang/Integer" "compareTo" jdk_33_method_63_code 2 (some .int) := C
  show Goes p e below _ T0 (mkF m 0 #[.val (.ref k1), .val (.ref k2)] [])
  refine g_aloadN C X0 d25_0 rfl rfl (g_aloadN C X0 d25_1 rfl rfl (g_checkcast C X0 (wd hw 172 rfl) (Ins.self E_k2) d25_2 (fun T188 X188 => ?_)))
  refine g_virtualP (argsL := [(.ref k2)]) (st := []) C X188 (wd hw 174 rfl) (wd hw 175 rfl) (nf_of C (wd hw 177 rfl) rfl rfl) (wd hw 177 rfl) (wd hw 176 rfl) (by decide) E_k1 (pay_of (W' := 0) (rCt1 l hw X188.ext k1 k2 x y E_k1 F_k1_value E_k2 F_k2_value) C.hZ (wd hw 178 rfl) (wd hw 115 rfl) (by decide) (by decide)) pd_12 rfl rfl _ rfl (Nat.le_of_eq rfl) d25_5 (by decide) (by decide) (fun T189 X189 => ?_)
  exact g_retI C X189 d25_8 (by decide) (by decide) ⟨rfl, rfl⟩
theorem pn_7 : plainName "java/util/TreeMap" = true := by first | (simp [plainName, overriddenIn]; done) | decide +kernel
theorem ef_rTc (m : MethodId) (tm : Addr) (k1 : Addr) : entryFrame m #[(.ref tm), (.ref k1), (.ref k1)] 3 = mkF m 0 #[.val (.ref tm), .val (.ref k1), .val (.ref k1)] [] := by first | (simp [entryFrame, mkF, argsToLocals, Value.category]; done) | rfl
theorem d24_0 : Dc jdk_2729_method_67_code 0 (.aload_n 0) 1 1 := ⟨by decide +kernel, rfl⟩
theorem d24_1 : Dc jdk_2729_method_67_code 1 (.getfield 16) 3 4 := ⟨by decide +kernel, rfl⟩
theorem d24_4 : Dj jdk_2729_method_67_code 4 (.ifnonnull 16) 16 3 7 20 := ⟨by decide +kernel, rfl, by decide, by decide⟩
theorem d24_7 : Dc jdk_2729_method_67_code 7 (.aload_n 1) 1 8 := ⟨by decide +kernel, rfl⟩
theorem d24_8 : Dc jdk_2729_method_67_code 8 (.checkcast 99) 3 11 := ⟨by decide +kernel, rfl⟩
theorem d24_11 : Dc jdk_2729_method_67_code 11 (.aload_n 2) 1 12 := ⟨by decide +kernel, rfl⟩
theorem d24_12 : Dc jdk_2729_method_67_code 12 (.invokeinterface 107 2) 5 17 := ⟨by decide +kernel, rfl⟩
theorem pd_13 : parseMethodDescriptor "(Ljava/lang/Object;)I" = some ⟨[(.object "java/lang/Object")], some .int⟩ := by decide +kernel
theorem d24_17 : Dj jdk_2729_method_67_code 17 (.goto 14) 14 3 20 31 := ⟨by decide +kernel, rfl, by decide, by decide⟩
theorem d24_31 : Dc jdk_2729_method_67_code 31 (.ireturn) 1 32 := ⟨by decide +kernel, rfl⟩
theorem rTc (l : Launch) {Z : State} {a0 : Array Value} (hw : ∀ d ∈ tables_1, d.before a0 Z = true) {h : Heap} (hE : Ext Z.heap h) (tm : Addr) (k1 : Addr) (x : Int32) (E_tm : Exa Z h tm "java/util/TreeMap") (F_tm_comparator : Fld Z h tm "java/util/TreeMap" "comparator" "Ljava/util/Comparator;" .null) (E_k1 : Exa Z h k1 "java/lang/Integer") (F_k1_value : Fld Z h k1 "java/lang/Integer" "value" "I" (.int x)) :
    Con l (⟨"java/util/TreeMap", "compare", "(Ljava/lang/Object;Ljava/lang/Object;)I"⟩ : MethodName) jdk_2729_method_67_code 3 (some .int) [] ({ frames := 3, cells := 0, slots := 0, locals := 72 } : Room) Z #[(.ref tm), (.ref k1), (.ref k1)] h (fun v' h' => v' = some (.int (own_cmp x x)) ∧ h' = h) := by
  refine con_of (plainFor_of_name pn_7) hE (fun m => ef_rTc m tm k1) ?_
  intro p e s m below meth c T0 C X0
  have C : Cx p s m meth c Z "java/util/TreeMap" "compare" jdk_2729_method_67_code 3 (some .int) := C
  show Goes p e below _ T0 (mkF m 0 #[.val (.ref tm), .val (.ref k1), .val (.ref k1)] [])
  refine g_aloadN C X0 d24_0 rfl rfl (g_getfield (host := "") C X0 (Or.inl (wd hw 93 rfl)) Via.refl F_tm_comparator d24_1 (fun T190 X190 => ?_))
  refine g_ifnonnull C X190 d24_4 rfl (fun q => absurd rfl q) (fun _ => ?_)
  refine g_aloadN C X190 d24_7 rfl rfl (g_checkcast C X190 (wd hw 162 rfl) (Ins.of_exa E_k1 (wd hw 163 rfl)) d24_8 (fun T191 X191 => ?_))
  refine g_aloadN C X191 d24_11 rfl rfl (g_interfaceP (argsL := [(.ref k1)]) (st := []) C X191 (wd hw 164 rfl) (wd hw 165 rfl) (mvT C.hZ (wd hw 166 rfl)) (wd hw 167 rfl) (wd hw 168 rfl) (wd hw 169 rfl) (mvT C.hZ (wd hw 170 rfl)) (wd hw 163 rfl) (by decide) E_k1 (pay_of (W' := 0) (rCt2 l hw X191.ext k1 k1 x x E_k1 F_k1_value E_k1 F_k1_value) C.hZ (wd hw 171 rfl) (wd hw 115 rfl) (by decide) (by decide)) pd_13 rfl rfl _ rfl (Nat.le_of_eq rfl) d24_12 (by decide) (by decide) (fun T192 X192 => ?_))
  refine g_goto C X192 d24_17 ?_
  exact g_retI C X192 d24_31 (by decide) (by decide) ⟨rfl, rfl⟩
theorem pn_8 : plainName "java/util/Objects" = true := by first | (simp [plainName, overriddenIn]; done) | decide +kernel
theorem ef_rReq (m : MethodId) (a : Addr) : entryFrame m #[(.ref a)] 1 = mkF m 0 #[.val (.ref a)] [] := by first | (simp [entryFrame, mkF, argsToLocals, Value.category]; done) | rfl
theorem d29_0 : Dc jdk_31_method_10_code 0 (.aload_n 0) 1 1 := ⟨by decide +kernel, rfl⟩
theorem d29_1 : Dj jdk_31_method_10_code 1 (.ifnonnull 11) 11 3 4 12 := ⟨by decide +kernel, rfl, by decide, by decide⟩
theorem d29_12 : Dc jdk_31_method_10_code 12 (.aload_n 0) 1 13 := ⟨by decide +kernel, rfl⟩
theorem d29_13 : Dc jdk_31_method_10_code 13 (.areturn) 1 14 := ⟨by decide +kernel, rfl⟩
theorem rReq (l : Launch) {Z : State} {a0 : Array Value} (hw : ∀ d ∈ tables_1, d.before a0 Z = true) {h : Heap} (hE : Ext Z.heap h) (a : Addr)   :
    Con l (⟨"java/util/Objects", "requireNonNull", "(Ljava/lang/Object;)Ljava/lang/Object;"⟩ : MethodName) jdk_31_method_10_code 1 (some (.object "java/lang/Object")) [] ({ frames := 0, cells := 0, slots := 0, locals := 0 } : Room) Z #[(.ref a)] h (fun v' h' => v' = some (.ref a) ∧ h' = h) := by
  refine con_of (plainFor_of_name pn_8) hE (fun m => ef_rReq m a) ?_
  intro p e s m below meth c T0 C X0
  have C : Cx p s m meth c Z "java/util/Objects" "requireNonNull" jdk_31_method_10_code 1 (some (.object "java/lang/Object")) := C
  show Goes p e below _ T0 (mkF m 0 #[.val (.ref a)] [])
  refine g_aloadN C X0 d29_0 rfl rfl (g_ifnonnull C X0 d29_1 rfl (fun _ => ?_) (fun q => absurd q nofun))
  refine g_aloadN C X0 d29_12 rfl rfl ?_
  exact g_retA C X0 rfl rfl d29_13 (by decide) (by decide) ⟨rfl, rfl⟩
theorem pn_9 : plainName "java/util/TreeMap$Entry" = true := by first | (simp [plainName, overriddenIn]; done) | decide +kernel
theorem ef_rEiN (m : MethodId) (en : Addr) (ky : Addr) (vl : Addr) : entryFrame m #[(.ref en), (.ref ky), (.ref vl), .null] 4 = mkF m 0 #[.val (.ref en), .val (.ref ky), .val (.ref vl), .val .null] [] := by first | (simp [entryFrame, mkF, argsToLocals, Value.category]; done) | rfl
theorem d28_0 : Dc jdk_2736_method_1_code 0 (.aload_n 0) 1 1 := ⟨by decide +kernel, rfl⟩
theorem d28_1 : Dc jdk_2736_method_1_code 1 (.invokespecial 3) 3 4 := ⟨by decide +kernel, rfl⟩
theorem d28_4 : Dc jdk_2736_method_1_code 4 (.aload_n 0) 1 5 := ⟨by decide +kernel, rfl⟩
theorem d28_5 : Dc jdk_2736_method_1_code 5 (.iconst 1) 1 6 := ⟨by decide +kernel, rfl⟩
theorem d28_6 : Dc jdk_2736_method_1_code 6 (.putfield 9) 3 9 := ⟨by decide +kernel, rfl⟩
theorem d28_9 : Dc jdk_2736_method_1_code 9 (.aload_n 0) 1 10 := ⟨by decide +kernel, rfl⟩
theorem d28_10 : Dc jdk_2736_method_1_code 10 (.aload_n 1) 1 11 := ⟨by decide +kernel, rfl⟩
theorem d28_11 : Dc jdk_2736_method_1_code 11 (.putfield 15) 3 14 := ⟨by decide +kernel, rfl⟩
theorem d28_14 : Dc jdk_2736_method_1_code 14 (.aload_n 0) 1 15 := ⟨by decide +kernel, rfl⟩
theorem d28_15 : Dc jdk_2736_method_1_code 15 (.aload_n 2) 1 16 := ⟨by decide +kernel, rfl⟩
theorem d28_16 : Dc jdk_2736_method_1_code 16 (.putfield 19) 3 19 := ⟨by decide +kernel, rfl⟩
theorem d28_19 : Dc jdk_2736_method_1_code 19 (.aload_n 0) 1 20 := ⟨by decide +kernel, rfl⟩
theorem d28_20 : Dc jdk_2736_method_1_code 20 (.aload_n 3) 1 21 := ⟨by decide +kernel, rfl⟩
theorem d28_21 : Dc jdk_2736_method_1_code 21 (.putfield 22) 3 24 := ⟨by decide +kernel, rfl⟩
theorem d28_24 : Dc jdk_2736_method_1_code 24 (.return_) 1 25 := ⟨by decide +kernel, rfl⟩
theorem rEiN (l : Launch) {Z : State} {a0 : Array Value} (hw : ∀ d ∈ tables_1, d.before a0 Z = true) {h : Heap} (hE : Ext Z.heap h) (en : Addr) (ky : Addr) (vl : Addr)  (E_en : Exa Z h en "java/util/TreeMap$Entry") (F_en_key : Fld Z h en "java/util/TreeMap$Entry" "key" "Ljava/lang/Object;" .null) (F_en_value : Fld Z h en "java/util/TreeMap$Entry" "value" "Ljava/lang/Object;" .null) (F_en_left : Fld Z h en "java/util/TreeMap$Entry" "left" "Ljava/util/TreeMap$Entry;" .null) (F_en_right : Fld Z h en "java/util/TreeMap$Entry" "right" "Ljava/util/TreeMap$Entry;" .null) (F_en_parent : Fld Z h en "java/util/TreeMap$Entry" "parent" "Ljava/util/TreeMap$Entry;" .null) (F_en_color : Fld Z h en "java/util/TreeMap$Entry" "color" "Z" (.int 0)) (hn : Z.heap.size ≤ en) :
    Con l (⟨"java/util/TreeMap$Entry", "<init>", "(Ljava/lang/Object;Ljava/lang/Object;Ljava/util/TreeMap$Entry;)V"⟩ : MethodName) jdk_2736_method_1_code 4 none [] ({ frames := 1, cells := 0, slots := 0, locals := 14 } : Room) Z #[(.ref en), (.ref ky), (.ref vl), .null] h (fun v' h' => v' = none ∧ Keep h h' [en] ∧ Exa Z h' en "java/util/TreeMap$Entry" ∧ Fld Z h' en "java/util/TreeMap$Entry" "key" "Ljava/lang/Object;" (.ref ky) ∧ Fld Z h' en "java/util/TreeMap$Entry" "value" "Ljava/lang/Object;" (.ref vl) ∧ Fld Z h' en "java/util/TreeMap$Entry" "left" "Ljava/util/TreeMap$Entry;" .null ∧ Fld Z h' en "java/util/TreeMap$Entry" "right" "Ljava/util/TreeMap$Entry;" .null ∧ Fld Z h' en "java/util/TreeMap$Entry" "parent" "Ljava/util/TreeMap$Entry;" .null ∧ Fld Z h' en "java/util/TreeMap$Entry" "color" "Z" (.int 1)) := by
  refine con_of (plainFor_of_name pn_9) hE (fun m => ef_rEiN m en ky vl) ?_
  intro p e s m below meth c T0 C X0
  have C : Cx p s m meth c Z "java/util/TreeMap$Entry" "<init>" jdk_2736_method_1_code 4 none := C
  show Goes p e below _ T0 (mkF m 0 #[.val (.ref en), .val (.ref ky), .val (.ref vl), .val .null] [])
  refine g_aloadN C X0 d28_0 rfl rfl (g_initO C X0 (wd hw 191 rfl) (wd hw 19 rfl) (wd hw 20 rfl) rfl d28_1 (by decide) 0 (Nat.le_of_eq rfl) (by decide) (fun T193 X193 => ?_))
  refine g_aloadN C X193 d28_4 rfl rfl (g_iconst 1 C X193 d28_5 rfl (g_putfield (host := "") C X193 (Or.inl (wd hw 192 rfl)) Via.refl F_en_color E_en (Or.inl (wd hw 193 rfl)) (wd hw 185 rfl) (ty := .boolean) (by decide) rfl rfl hn d28_6 (fun T194 h194 X194 W194 => ?_)))
  have f194 := Fld.same W194 F_en_color
  refine g_aloadN C X194 d28_9 rfl rfl (g_aloadN C X194 d28_10 rfl rfl ?_)
  have f195 := (Fld.other W194 F_en_key (Or.inr (slot_ne (Or.inl (wd hw 195 rfl)) (Or.inl (wd hw 193 rfl)) (by decide) (t := (.object "java/lang/Object")) (t' := .boolean) (by decide) (by decide))))
  have f196 := (Exa.wr W194 E_en)
  refine g_putfield (host := "") C X194 (Or.inl (wd hw 194 rfl)) Via.refl f195 f196 (Or.inl (wd hw 195 rfl)) (wd hw 185 rfl) (ty := (.object "java/lang/Object")) (by decide) rfl rfl hn d28_11 (fun T197 h197 X197 W197 => ?_)
  have f197 := Fld.same W197 f195
  refine g_aloadN C X197 d28_14 rfl rfl (g_aloadN C X197 d28_15 rfl rfl ?_)
  have f198 := (Fld.other W197 (Fld.other W194 F_en_value (Or.inr (slot_ne (Or.inl (wd hw 197 rfl)) (Or.inl (wd hw 193 rfl)) (by decide) (t := (.object "java/lang/Object")) (t' := .boolean) (by decide) (by decide)))) (Or.inr (slot_ne (Or.inl (wd hw 197 rfl)) (Or.inl (wd hw 195 rfl)) (by decide) (t := (.object "java/lang/Object")) (t' := (.object "java/lang/Object")) (by decide) (by decide))))
  have f199 := (Exa.wr W197 f196)
  refine g_putfield (host := "") C X197 (Or.inl (wd hw 196 rfl)) Via.refl f198 f199 (Or.inl (wd hw 197 rfl)) (wd hw 185 rfl) (ty := (.object "java/lang/Object")) (by decide) rfl rfl hn d28_16 (fun T200 h200 X200 W200 => ?_)
  have f200 := Fld.same W200 f198
  refine g_aloadN C X200 d28_19 rfl rfl (g_aloadN C X200 d28_20 rfl rfl ?_)
  have f201 := (Fld.other W200 (Fld.other W197 (Fld.other W194 F_en_parent (Or.inr (slot_ne (Or.inl (wd hw 199 rfl)) (Or.inl (wd hw 193 rfl)) (by decide) (t := (.object "java/util/TreeMap$Entry")) (t' := .boolean) (by decide) (by decide)))) (Or.inr (slot_ne (Or.inl (wd hw 199 rfl)) (Or.inl (wd hw 195 rfl)) (by decide) (t := (.object "java/util/TreeMap$Entry")) (t' := (.object "java/lang/Object")) (by decide) (by decide)))) (Or.inr (slot_ne (Or.inl (wd hw 199 rfl)) (Or.inl (wd hw 197 rfl)) (by decide) (t := (.object "java/util/TreeMap$Entry")) (t' := (.object "java/lang/Object")) (by decide) (by decide))))
  have f202 := (Exa.wr W200 f199)
  refine g_putfield (host := "") C X200 (Or.inl (wd hw 198 rfl)) Via.refl f201 f202 (Or.inl (wd hw 199 rfl)) (wd hw 185 rfl) (ty := (.object "java/util/TreeMap$Entry")) (by decide) rfl rfl hn d28_21 (fun T203 h203 X203 W203 => ?_)
  have f203 := Fld.same W203 f201
  have kp204 := (Keep.refl h [en]).wr W194 (Or.inl (by simp))
  have kp205 := kp204.wr W197 (Or.inl (by simp))
  have kp206 := kp205.wr W200 (Or.inl (by simp))
  have kp207 := kp206.wr W203 (Or.inl (by simp))
  have f208 := (Exa.wr W203 f202)
  have f209 := (Fld.other W203 (Fld.other W200 f197 (Or.inr (slot_ne (Or.inl (wd hw 195 rfl)) (Or.inl (wd hw 197 rfl)) (by decide) (t := (.object "java/lang/Object")) (t' := (.object "java/lang/Object")) (by decide) (by decide)))) (Or.inr (slot_ne (Or.inl (wd hw 195 rfl)) (Or.inl (wd hw 199 rfl)) (by decide) (t := (.object "java/lang/Object")) (t' := (.object "java/util/TreeMap$Entry")) (by decide) (by decide))))
  have f210 := (Fld.other W203 f200 (Or.inr (slot_ne (Or.inl (wd hw 197 rfl)) (Or.inl (wd hw 199 rfl)) (by decide) (t := (.object "java/lang/Object")) (t' := (.object "java/util/TreeMap$Entry")) (by decide) (by decide))))
  have f211 := (Fld.other W203 (Fld.other W200 (Fld.other W197 (Fld.other W194 F_en_left (Or.inr (slot_ne (Or.inl (wd hw 233 rfl)) (Or.inl (wd hw 193 rfl)) (by decide) (t := (.object "java/util/TreeMap$Entry")) (t' := .boolean) (by decide) (by decide)))) (Or.inr (slot_ne (Or.inl (wd hw 233 rfl)) (Or.inl (wd hw 195 rfl)) (by decide) (t := (.object "java/util/TreeMap$Entry")) (t' := (.object "java/lang/Object")) (by decide) (by decide)))) (Or.inr (slot_ne (Or.inl (wd hw 233 rfl)) (Or.inl (wd hw 197 rfl)) (by decide) (t := (.object "java/util/TreeMap$Entry")) (t' := (.object "java/lang/Object")) (by decide) (by decide)))) (Or.inr (slot_ne (Or.inl (wd hw 233 rfl)) (Or.inl (wd hw 199 rfl)) (by decide) (t := (.object "java/util/TreeMap$Entry")) (t' := (.object "java/util/TreeMap$Entry")) (by decide) (by decide))))
  have f212 := (Fld.other W203 (Fld.other W200 (Fld.other W197 (Fld.other W194 F_en_right (Or.inr (slot_ne (Or.inl (wd hw 206 rfl)) (Or.inl (wd hw 193 rfl)) (by decide) (t := (.object "java/util/TreeMap$Entry")) (t' := .boolean) (by decide) (by decide)))) (Or.inr (slot_ne (Or.inl (wd hw 206 rfl)) (Or.inl (wd hw 195 rfl)) (by decide) (t := (.object "java/util/TreeMap$Entry")) (t' := (.object "java/lang/Object")) (by decide) (by decide)))) (Or.inr (slot_ne (Or.inl (wd hw 206 rfl)) (Or.inl (wd hw 197 rfl)) (by decide) (t := (.object "java/util/TreeMap$Entry")) (t' := (.object "java/lang/Object")) (by decide) (by decide)))) (Or.inr (slot_ne (Or.inl (wd hw 206 rfl)) (Or.inl (wd hw 199 rfl)) (by decide) (t := (.object "java/util/TreeMap$Entry")) (t' := (.object "java/util/TreeMap$Entry")) (by decide) (by decide))))
  have f213 := (Fld.other W203 (Fld.other W200 (Fld.other W197 f194 (Or.inr (slot_ne (Or.inl (wd hw 193 rfl)) (Or.inl (wd hw 195 rfl)) (by decide) (t := .boolean) (t' := (.object "java/lang/Object")) (by decide) (by decide)))) (Or.inr (slot_ne (Or.inl (wd hw 193 rfl)) (Or.inl (wd hw 197 rfl)) (by decide) (t := .boolean) (t' := (.object "java/lang/Object")) (by decide) (by decide)))) (Or.inr (slot_ne (Or.inl (wd hw 193 rfl)) (Or.inl (wd hw 199 rfl)) (by decide) (t := .boolean) (t' := (.object "java/util/TreeMap$Entry")) (by decide) (by decide))))
  exact g_retV C X203 d28_24 (by decide) (by decide) ⟨rfl, kp207, f208, f209, f210, f211, f212, f203, f213⟩
theorem ef_rEiR (m : MethodId) (en : Addr) (ky : Addr) (vl : Addr) (pe : Addr) : entryFrame m #[(.ref en), (.ref ky), (.ref vl), (.ref pe)] 4 = mkF m 0 #[.val (.ref en), .val (.ref ky), .val (.ref vl), .val (.ref pe)] [] := by first | (simp [entryFrame, mkF, argsToLocals, Value.category]; done) | rfl
theorem rEiR (l : Launch) {Z : State} {a0 : Array Value} (hw : ∀ d ∈ tables_1, d.before a0 Z = true) {h : Heap} (hE : Ext Z.heap h) (en : Addr) (ky : Addr) (vl : Addr) (pe : Addr)  (E_en : Exa Z h en "java/util/TreeMap$Entry") (F_en_key : Fld Z h en "java/util/TreeMap$Entry" "key" "Ljava/lang/Object;" .null) (F_en_value : Fld Z h en "java/util/TreeMap$Entry" "value" "Ljava/lang/Object;" .null) (F_en_left : Fld Z h en "java/util/TreeMap$Entry" "left" "Ljava/util/TreeMap$Entry;" .null) (F_en_right : Fld Z h en "java/util/TreeMap$Entry" "right" "Ljava/util/TreeMap$Entry;" .null) (F_en_parent : Fld Z h en "java/util/TreeMap$Entry" "parent" "Ljava/util/TreeMap$Entry;" .null) (F_en_color : Fld Z h en "java/util/TreeMap$Entry" "color" "Z" (.int 0)) (hn : Z.heap.size ≤ en) :
    Con l (⟨"java/util/TreeMap$Entry", "<init>", "(Ljava/lang/Object;Ljava/lang/Object;Ljava/util/TreeMap$Entry;)V"⟩ : MethodName) jdk_2736_method_1_code 4 none [] ({ frames := 1, cells := 0, slots := 0, locals := 14 } : Room) Z #[(.ref en), (.ref ky), (.ref vl), (.ref pe)] h (fun v' h' => v' = none ∧ Keep h h' [en] ∧ Exa Z h' en "java/util/TreeMap$Entry" ∧ Fld Z h' en "java/util/TreeMap$Entry" "key" "Ljava/lang/Object;" (.ref ky) ∧ Fld Z h' en "java/util/TreeMap$Entry" "value" "Ljava/lang/Object;" (.ref vl) ∧ Fld Z h' en "java/util/TreeMap$Entry" "left" "Ljava/util/TreeMap$Entry;" .null ∧ Fld Z h' en "java/util/TreeMap$Entry" "right" "Ljava/util/TreeMap$Entry;" .null ∧ Fld Z h' en "java/util/TreeMap$Entry" "parent" "Ljava/util/TreeMap$Entry;" (.ref pe) ∧ Fld Z h' en "java/util/TreeMap$Entry" "color" "Z" (.int 1)) := by
  refine con_of (plainFor_of_name pn_9) hE (fun m => ef_rEiR m en ky vl pe) ?_
  intro p e s m below meth c T0 C X0
  have C : Cx p s m meth c Z "java/util/TreeMap$Entry" "<init>" jdk_2736_method_1_code 4 none := C
  show Goes p e below _ T0 (mkF m 0 #[.val (.ref en), .val (.ref ky), .val (.ref vl), .val (.ref pe)] [])
  refine g_aloadN C X0 d28_0 rfl rfl (g_initO C X0 (wd hw 191 rfl) (wd hw 19 rfl) (wd hw 20 rfl) rfl d28_1 (by decide) 0 (Nat.le_of_eq rfl) (by decide) (fun T214 X214 => ?_))
  refine g_aloadN C X214 d28_4 rfl rfl (g_iconst 1 C X214 d28_5 rfl (g_putfield (host := "") C X214 (Or.inl (wd hw 192 rfl)) Via.refl F_en_color E_en (Or.inl (wd hw 193 rfl)) (wd hw 185 rfl) (ty := .boolean) (by decide) rfl rfl hn d28_6 (fun T215 h215 X215 W215 => ?_)))
  have f215 := Fld.same W215 F_en_color
  refine g_aloadN C X215 d28_9 rfl rfl (g_aloadN C X215 d28_10 rfl rfl ?_)
  have f216 := (Fld.other W215 F_en_key (Or.inr (slot_ne (Or.inl (wd hw 195 rfl)) (Or.inl (wd hw 193 rfl)) (by decide) (t := (.object "java/lang/Object")) (t' := .boolean) (by decide) (by decide))))
  have f217 := (Exa.wr W215 E_en)
  refine g_putfield (host := "") C X215 (Or.inl (wd hw 194 rfl)) Via.refl f216 f217 (Or.inl (wd hw 195 rfl)) (wd hw 185 rfl) (ty := (.object "java/lang/Object")) (by decide) rfl rfl hn d28_11 (fun T218 h218 X218 W218 => ?_)
  have f218 := Fld.same W218 f216
  refine g_aloadN C X218 d28_14 rfl rfl (g_aloadN C X218 d28_15 rfl rfl ?_)
  have f219 := (Fld.other W218 (Fld.other W215 F_en_value (Or.inr (slot_ne (Or.inl (wd hw 197 rfl)) (Or.inl (wd hw 193 rfl)) (by decide) (t := (.object "java/lang/Object")) (t' := .boolean) (by decide) (by decide)))) (Or.inr (slot_ne (Or.inl (wd hw 197 rfl)) (Or.inl (wd hw 195 rfl)) (by decide) (t := (.object "java/lang/Object")) (t' := (.object "java/lang/Object")) (by decide) (by decide))))
  have f220 := (Exa.wr W218 f217)
  refine g_putfield (host := "") C X218 (Or.inl (wd hw 196 rfl)) Via.refl f219 f220 (Or.inl (wd hw 197 rfl)) (wd hw 185 rfl) (ty := (.object "java/lang/Object")) (by decide) rfl rfl hn d28_16 (fun T221 h221 X221 W221 => ?_)
  have f221 := Fld.same W221 f219
  refine g_aloadN C X221 d28_19 rfl rfl (g_aloadN C X221 d28_20 rfl rfl ?_)
  have f222 := (Fld.other W221 (Fld.other W218 (Fld.other W215 F_en_parent (Or.inr (slot_ne (Or.inl (wd hw 199 rfl)) (Or.inl (wd hw 193 rfl)) (by decide) (t := (.object "java/util/TreeMap$Entry")) (t' := .boolean) (by decide) (by decide)))) (Or.inr (slot_ne (Or.inl (wd hw 199 rfl)) (Or.inl (wd hw 195 rfl)) (by decide) (t := (.object "java/util/TreeMap$Entry")) (t' := (.object "java/lang/Object")) (by decide) (by decide)))) (Or.inr (slot_ne (Or.inl (wd hw 199 rfl)) (Or.inl (wd hw 197 rfl)) (by decide) (t := (.object "java/util/TreeMap$Entry")) (t' := (.object "java/lang/Object")) (by decide) (by decide))))
  have f223 := (Exa.wr W221 f220)
  refine g_putfield (host := "") C X221 (Or.inl (wd hw 198 rfl)) Via.refl f222 f223 (Or.inl (wd hw 199 rfl)) (wd hw 185 rfl) (ty := (.object "java/util/TreeMap$Entry")) (by decide) rfl rfl hn d28_21 (fun T224 h224 X224 W224 => ?_)
  have f224 := Fld.same W224 f222
  have kp225 := (Keep.refl h [en]).wr W215 (Or.inl (by simp))
  have kp226 := kp225.wr W218 (Or.inl (by simp))
  have kp227 := kp226.wr W221 (Or.inl (by simp))
  have kp228 := kp227.wr W224 (Or.inl (by simp))
  have f229 := (Exa.wr W224 f223)
  have f230 := (Fld.other W224 (Fld.other W221 f218 (Or.inr (slot_ne (Or.inl (wd hw 195 rfl)) (Or.inl (wd hw 197 rfl)) (by decide) (t := (.object "java/lang/Object")) (t' := (.object "java/lang/Object")) (by decide) (by decide)))) (Or.inr (slot_ne (Or.inl (wd hw 195 rfl)) (Or.inl (wd hw 199 rfl)) (by decide) (t := (.object "java/lang/Object")) (t' := (.object "java/util/TreeMap$Entry")) (by decide) (by decide))))
  have f231 := (Fld.other W224 f221 (Or.inr (slot_ne (Or.inl (wd hw 197 rfl)) (Or.inl (wd hw 199 rfl)) (by decide) (t := (.object "java/lang/Object")) (t' := (.object "java/util/TreeMap$Entry")) (by decide) (by decide))))
  have f232 := (Fld.other W224 (Fld.other W221 (Fld.other W218 (Fld.other W215 F_en_left (Or.inr (slot_ne (Or.inl (wd hw 233 rfl)) (Or.inl (wd hw 193 rfl)) (by decide) (t := (.object "java/util/TreeMap$Entry")) (t' := .boolean) (by decide) (by decide)))) (Or.inr (slot_ne (Or.inl (wd hw 233 rfl)) (Or.inl (wd hw 195 rfl)) (by decide) (t := (.object "java/util/TreeMap$Entry")) (t' := (.object "java/lang/Object")) (by decide) (by decide)))) (Or.inr (slot_ne (Or.inl (wd hw 233 rfl)) (Or.inl (wd hw 197 rfl)) (by decide) (t := (.object "java/util/TreeMap$Entry")) (t' := (.object "java/lang/Object")) (by decide) (by decide)))) (Or.inr (slot_ne (Or.inl (wd hw 233 rfl)) (Or.inl (wd hw 199 rfl)) (by decide) (t := (.object "java/util/TreeMap$Entry")) (t' := (.object "java/util/TreeMap$Entry")) (by decide) (by decide))))
  have f233 := (Fld.other W224 (Fld.other W221 (Fld.other W218 (Fld.other W215 F_en_right (Or.inr (slot_ne (Or.inl (wd hw 206 rfl)) (Or.inl (wd hw 193 rfl)) (by decide) (t := (.object "java/util/TreeMap$Entry")) (t' := .boolean) (by decide) (by decide)))) (Or.inr (slot_ne (Or.inl (wd hw 206 rfl)) (Or.inl (wd hw 195 rfl)) (by decide) (t := (.object "java/util/TreeMap$Entry")) (t' := (.object "java/lang/Object")) (by decide) (by decide)))) (Or.inr (slot_ne (Or.inl (wd hw 206 rfl)) (Or.inl (wd hw 197 rfl)) (by decide) (t := (.object "java/util/TreeMap$Entry")) (t' := (.object "java/lang/Object")) (by decide) (by decide)))) (Or.inr (slot_ne (Or.inl (wd hw 206 rfl)) (Or.inl (wd hw 199 rfl)) (by decide) (t := (.object "java/util/TreeMap$Entry")) (t' := (.object "java/util/TreeMap$Entry")) (by decide) (by decide))))
  have f234 := (Fld.other W224 (Fld.other W221 (Fld.other W218 f215 (Or.inr (slot_ne (Or.inl (wd hw 193 rfl)) (Or.inl (wd hw 195 rfl)) (by decide) (t := .boolean) (t' := (.object "java/lang/Object")) (by decide) (by decide)))) (Or.inr (slot_ne (Or.inl (wd hw 193 rfl)) (Or.inl (wd hw 197 rfl)) (by decide) (t := .boolean) (t' := (.object "java/lang/Object")) (by decide) (by decide)))) (Or.inr (slot_ne (Or.inl (wd hw 193 rfl)) (Or.inl (wd hw 199 rfl)) (by decide) (t := .boolean) (t' := (.object "java/util/TreeMap$Entry")) (by decide) (by decide))))
  exact g_retV C X224 d28_24 (by decide) (by decide) ⟨rfl, kp228, f229, f230, f231, f232, f233, f224, f234⟩
theorem ef_rA0 (m : MethodId) (tm : Addr) (ky : Addr) (vl : Addr) : entryFrame m #[(.ref tm), (.ref ky), (.ref vl)] 3 = mkF m 0 #[.val (.ref tm), .val (.ref ky), .val (.ref vl)] [] := by first | (simp [entryFrame, mkF, argsToLocals, Value.category]; done) | rfl
theorem d23_0 : Dc jdk_2729_method_30_code 0 (.aload_n 0) 1 1 := ⟨by decide +kernel, rfl⟩
theorem d23_1 : Dc jdk_2729_method_30_code 1 (.aload_n 1) 1 2 := ⟨by decide +kernel, rfl⟩
theorem d23_2 : Dc jdk_2729_method_30_code 2 (.aload_n 1) 1 3 := ⟨by decide +kernel, rfl⟩
theorem d23_3 : Dc jdk_2729_method_30_code 3 (.invokevirtual 123) 3 6 := ⟨by decide +kernel, rfl⟩
theorem pd_14 : parseMethodDescriptor "(Ljava/lang/Object;Ljava/lang/Object;)I" = some ⟨[(.object "java/lang/Object"), (.object "java/lang/Object")], some .int⟩ := by decide +kernel
theorem d23_6 : Dc jdk_2729_method_30_code 6 (.pop) 1 7 := ⟨by decide +kernel, rfl⟩
theorem d23_7 : Dc jdk_2729_method_30_code 7 (.aload_n 0) 1 8 := ⟨by decide +kernel, rfl⟩
theorem d23_8 : Dc jdk_2729_method_30_code 8 (.new 59) 3 11 := ⟨by decide +kernel, rfl⟩
theorem d23_11 : Dc jdk_2729_method_30_code 11 (.dup) 1 12 := ⟨by decide +kernel, rfl⟩
theorem d23_12 : Dc jdk_2729_method_30_code 12 (.aload_n 1) 1 13 := ⟨by decide +kernel, rfl⟩
theorem d23_13 : Dc jdk_2729_method_30_code 13 (.aload_n 2) 1 14 := ⟨by decide +kernel, rfl⟩
theorem d23_14 : Dc jdk_2729_method_30_code 14 (.aconst_null) 1 15 := ⟨by decide +kernel, rfl⟩
theorem d23_15 : Dc jdk_2729_method_30_code 15 (.invokespecial 167) 3 18 := ⟨by decide +kernel, rfl⟩
theorem pd_15 : parseMethodDescriptor "(Ljava/lang/Object;Ljava/lang/Object;Ljava/util/TreeMap$Entry;)V" = some ⟨[(.object "java/lang/Object"), (.object "java/lang/Object"), (.object "java/util/TreeMap$Entry")], none⟩ := by decide +kernel
theorem d23_18 : Dc jdk_2729_method_30_code 18 (.putfield 101) 3 21 := ⟨by decide +kernel, rfl⟩
theorem d23_21 : Dc jdk_2729_method_30_code 21 (.aload_n 0) 1 22 := ⟨by decide +kernel, rfl⟩
theorem d23_22 : Dc jdk_2729_method_30_code 22 (.iconst 1) 1 23 := ⟨by decide +kernel, rfl⟩
theorem d23_23 : Dc jdk_2729_method_30_code 23 (.putfield 7) 3 26 := ⟨by decide +kernel, rfl⟩
theorem d23_26 : Dc jdk_2729_method_30_code 26 (.aload_n 0) 1 27 := ⟨by decide +kernel, rfl⟩
theorem d23_27 : Dc jdk_2729_method_30_code 27 (.dup) 1 28 := ⟨by decide +kernel, rfl⟩
theorem d23_28 : Dc jdk_2729_method_30_code 28 (.getfield 13) 3 31 := ⟨by decide +kernel, rfl⟩
theorem d23_31 : Dc jdk_2729_method_30_code 31 (.iconst 1) 1 32 := ⟨by decide +kernel, rfl⟩
theorem d23_32 : Dc jdk_2729_method_30_code 32 (.iadd) 1 33 := ⟨by decide +kernel, rfl⟩
theorem d23_33 : Dc jdk_2729_method_30_code 33 (.putfield 13) 3 36 := ⟨by decide +kernel, rfl⟩
theorem d23_36 : Dc jdk_2729_method_30_code 36 (.return_) 1 37 := ⟨by decide +kernel, rfl⟩
theorem rA0 (l : Launch) {Z : State} {a0 : Array Value} (hw : ∀ d ∈ tables_1, d.before a0 Z = true) {h : Heap} (hE : Ext Z.heap h) (tm : Addr) (ky : Addr) (vl : Addr) (x : Int32) (E_tm : Exa Z h tm "java/util/TreeMap") (F_tm_comparator : Fld Z h tm "java/util/TreeMap" "comparator" "Ljava/util/Comparator;" .null) (F_tm_root : Fld Z h tm "java/util/TreeMap" "root" "Ljava/util/TreeMap$Entry;" .null) (F_tm_size : Fld Z h tm "java/util/TreeMap" "size" "I" (.int 0)) (F_tm_modCount : Fld Z h tm "java/util/TreeMap" "modCount" "I" (.int 0)) (E_ky : Exa Z h ky "java/lang/Integer") (F_ky_value : Fld Z h ky "java/lang/Integer" "value" "I" (.int x)) (hn : Z.heap.size ≤ tm) (ne1 : ky ≠ tm) :
    Con l (⟨"java/util/TreeMap", "addEntryToEmptyMap", "(Ljava/lang/Object;Ljava/lang/Object;)V"⟩ : MethodName) jdk_2729_method_30_code 3 none [] ({ frames := 4, cells := 1, slots := 6, locals := 96 } : Room) Z #[(.ref tm), (.ref ky), (.ref vl)] h (fun v' h' => v' = none ∧ Keep h h' [tm] ∧ (∃ en, Z.heap.size ≤ en ∧ h.size ≤ en ∧ Exa Z h' tm "java/util/TreeMap" ∧ Fld Z h' tm "java/util/TreeMap" "comparator" "Ljava/util/Comparator;" .null ∧ Fld Z h' tm "java/util/TreeMap" "root" "Ljava/util/TreeMap$Entry;" (.ref en) ∧ Fld Z h' tm "java/util/TreeMap" "size" "I" (.int 1) ∧ Fld Z h' tm "java/util/TreeMap" "modCount" "I" (.int 1) ∧ Exa Z h' en "java/util/TreeMap$Entry" ∧ Fld Z h' en "java/util/TreeMap$Entry" "key" "Ljava/lang/Object;" (.ref ky) ∧ Fld Z h' en "java/util/TreeMap$Entry" "value" "Ljava/lang/Object;" (.ref vl) ∧ Fld Z h' en "java/util/TreeMap$Entry" "left" "Ljava/util/TreeMap$Entry;" .null ∧ Fld Z h' en "java/util/TreeMap$Entry" "right" "Ljava/util/TreeMap$Entry;" .null ∧ Fld Z h' en "java/util/TreeMap$Entry" "parent" "Ljava/util/TreeMap$Entry;" .null ∧ Fld Z h' en "java/util/TreeMap$Entry" "color" "Z" (.int 1))) := by
  refine con_of (plainFor_of_name pn_7) hE (fun m => ef_rA0 m tm ky vl) ?_
  intro p e s m below meth c T0 C X0
  have C : Cx p s m meth c Z "java/util/TreeMap" "addEntryToEmptyMap" jdk_2729_method_30_code 3 none := C
  show Goes p e below _ T0 (mkF m 0 #[.val (.ref tm), .val (.ref ky), .val (.ref vl)] [])
  refine g_aloadN C X0 d23_0 rfl rfl (g_aloadN C X0 d23_1 rfl rfl (g_aloadN C X0 d23_2 rfl rfl (g_virtualP (argsL := [(.ref ky), (.ref ky)]) (st := []) C X0 (wd hw 157 rfl) (wd hw 158 rfl) (nf_of C (wd hw 160 rfl) rfl rfl) (wd hw 160 rfl) (wd hw 159 rfl) (by decide) E_tm (pay_of (W' := 0) (rTc l hw X0.ext tm ky x E_tm F_tm_comparator E_ky F_ky_value) C.hZ (wd hw 161 rfl) (wd hw 78 rfl) (by decide) (by decide)) pd_14 rfl rfl _ rfl (Nat.le_of_eq rfl) d23_3 (by decide) (by decide) (fun T235 X235 => ?_))))
  refine g_pop C X235 d23_6 rfl (g_aloadN C X235 d23_7 rfl rfl (g_new C X235 (wd hw 184 rfl) (wd hw 185 rfl) (wd hw 186 rfl) d23_8 (by decide) (by decide) (fun T236 h236 b236 g_b236 n_b236 X236 E236 A236 D236 M236 => ?_)))
  have lt237 : tm < b236 := by rw [g_b236]; exact Exa.lt E_tm
  have lt238 : ky < b236 := by rw [g_b236]; exact Exa.lt E_ky
  have F_color_b236 : Fld Z h236 b236 "java/util/TreeMap$Entry" "color" "Z" (.int 0) := D236 (Or.inl (wd hw 193 rfl)) (ty := .boolean) (by decide)
  have F_key_b236 : Fld Z h236 b236 "java/util/TreeMap$Entry" "key" "Ljava/lang/Object;" .null := D236 (Or.inl (wd hw 195 rfl)) (ty := (.object "java/lang/Object")) (by decide)
  have F_value_b236 : Fld Z h236 b236 "java/util/TreeMap$Entry" "value" "Ljava/lang/Object;" .null := D236 (Or.inl (wd hw 197 rfl)) (ty := (.object "java/lang/Object")) (by decide)
  have F_parent_b236 : Fld Z h236 b236 "java/util/TreeMap$Entry" "parent" "Ljava/util/TreeMap$Entry;" .null := D236 (Or.inl (wd hw 199 rfl)) (ty := (.object "java/util/TreeMap$Entry")) (by decide)
  have F_right_b236 : Fld Z h236 b236 "java/util/TreeMap$Entry" "right" "Ljava/util/TreeMap$Entry;" .null := D236 (Or.inl (wd hw 206 rfl)) (ty := (.object "java/util/TreeMap$Entry")) (by decide)
  have F_left_b236 : Fld Z h236 b236 "java/util/TreeMap$Entry" "left" "Ljava/util/TreeMap$Entry;" .null := D236 (Or.inl (wd hw 233 rfl)) (ty := (.object "java/util/TreeMap$Entry")) (by decide)
  refine g_dup C X236 d23_11 rfl (g_aloadN C X236 d23_12 rfl rfl (g_aloadN C X236 d23_13 rfl rfl (g_aconst_null C X236 d23_14 (g_special (argsL := [(.ref ky), (.ref vl), .null]) (st := [(.ref b236), (.ref tm)]) C X236 rfl (wd hw 187 rfl) (wd hw 188 rfl) (wd hw 190 rfl) (by decide) (pay_of (W' := 2) (rEiN l hw X236.ext b236 ky vl A236 F_key_b236 F_value_b236 F_left_b236 F_right_b236 F_parent_b236 F_color_b236 n_b236) C.hZ (wd hw 190 rfl) (wd hw 186 rfl) (by decide) (by decide)) pd_15 rfl rfl _ rfl (Nat.le_of_eq rfl) d23_15 (by decide) (by decide) (fun T239 h239 v239 q239 X239 => ?_)))))
  obtain ⟨rfl, K239, E239, F239_key, F239_value, F239_left, F239_right, F239_parent, F239_color⟩ := q239
  show Goes p e below _ T239 (mkF m 18 #[.val (.ref tm), .val (.ref ky), .val (.ref vl)] [(.ref b236), (.ref tm)])
  have f240 := (Fld.keep (Fld.ext E236 F_tm_root) K239 (ninS (Nat.ne_of_lt lt237) nin0))
  have f241 := (Exa.keep (Exa.ext E236 E_tm) K239)
  refine g_putfield (host := "") C X239 (Or.inl (wd hw 150 rfl)) Via.refl f240 f241 (Or.inl (wd hw 151 rfl)) (wd hw 77 rfl) (ty := (.object "java/util/TreeMap$Entry")) (by decide) rfl rfl hn d23_18 (fun T242 h242 X242 W242 => ?_)
  have f242 := Fld.same W242 f240
  refine g_aloadN C X242 d23_21 rfl rfl (g_iconst 1 C X242 d23_22 rfl ?_)
  have f243 := (Fld.other W242 (Fld.keep (Fld.ext E236 F_tm_size) K239 (ninS (Nat.ne_of_lt lt237) nin0)) (Or.inr (slot_ne (Or.inl (wd hw 90 rfl)) (Or.inl (wd hw 151 rfl)) (by decide) (t := .int) (t' := (.object "java/util/TreeMap$Entry")) (by decide) (by decide))))
  have f244 := (Exa.wr W242 f241)
  refine g_putfield (host := "") C X242 (Or.inl (wd hw 89 rfl)) Via.refl f243 f244 (Or.inl (wd hw 90 rfl)) (wd hw 77 rfl) (ty := .int) (by decide) rfl rfl hn d23_23 (fun T245 h245 X245 W245 => ?_)
  have f245 := Fld.same W245 f243
  refine g_aloadN C X245 d23_26 rfl rfl (g_dup C X245 d23_27 rfl ?_)
  have f246 := (Fld.other W245 (Fld.other W242 (Fld.keep (Fld.ext E236 F_tm_modCount) K239 (ninS (Nat.ne_of_lt lt237) nin0)) (Or.inr (slot_ne (Or.inl (wd hw 92 rfl)) (Or.inl (wd hw 151 rfl)) (by decide) (t := .int) (t' := (.object "java/util/TreeMap$Entry")) (by decide) (by decide)))) (Or.inr (slot_ne (Or.inl (wd hw 92 rfl)) (Or.inl (wd hw 90 rfl)) (by decide) (t := .int) (t' := .int) (by decide) (by decide))))
  refine g_getfield (host := "") C X245 (Or.inl (wd hw 91 rfl)) Via.refl f246 d23_28 (fun T247 X247 => ?_)
  refine g_iconst 1 C X247 d23_31 rfl (g_iadd C X247 d23_32 ?_)
  have f248 := (Exa.wr W245 f244)
  refine g_putfield (host := "") C X247 (Or.inl (wd hw 91 rfl)) Via.refl f246 f248 (Or.inl (wd hw 92 rfl)) (wd hw 77 rfl) (ty := .int) (by decide) rfl rfl hn d23_33 (fun T249 h249 X249 W249 => ?_)
  have f249 := Fld.same W249 f246
  have sz250 : h.size ≤ b236 := by rw [g_b236]; exact (Keep.refl h [tm]).1
  have kp251 := (Keep.refl h [tm]).ext E236
  have kp252 := kp251.trans K239 (allS (Or.inr sz250) all0)
  have kp253 := kp252.wr W242 (Or.inl (by simp))
  have kp254 := kp253.wr W245 (Or.inl (by simp))
  have kp255 := kp254.wr W249 (Or.inl (by simp))
  have f256 := (Exa.wr W249 f248)
  have f257 := (Fld.other W249 (Fld.other W245 (Fld.other W242 (Fld.keep (Fld.ext E236 F_tm_comparator) K239 (ninS (Nat.ne_of_lt lt237) nin0)) (Or.inr (slot_ne (Or.inr (wd hw 94 rfl)) (Or.inl (wd hw 151 rfl)) (by decide) (t := (.object "java/util/Comparator")) (t' := (.object "java/util/TreeMap$Entry")) (by decide) (by decide)))) (Or.inr (slot_ne (Or.inr (wd hw 94 rfl)) (Or.inl (wd hw 90 rfl)) (by decide) (t := (.object "java/util/Comparator")) (t' := .int) (by decide) (by decide)))) (Or.inr (slot_ne (Or.inr (wd hw 94 rfl)) (Or.inl (wd hw 92 rfl)) (by decide) (t := (.object "java/util/Comparator")) (t' := .int) (by decide) (by decide))))
  have f258 := (Fld.other W249 (Fld.other W245 f242 (Or.inr (slot_ne (Or.inl (wd hw 151 rfl)) (Or.inl (wd hw 90 rfl)) (by decide) (t := (.object "java/util/TreeMap$Entry")) (t' := .int) (by decide) (by decide)))) (Or.inr (slot_ne (Or.inl (wd hw 151 rfl)) (Or.inl (wd hw 92 rfl)) (by decide) (t := (.object "java/util/TreeMap$Entry")) (t' := .int) (by decide) (by decide))))
  have f259 := (Fld.other W249 f245 (Or.inr (slot_ne (Or.inl (wd hw 90 rfl)) (Or.inl (wd hw 92 rfl)) (by decide) (t := .int) (t' := .int) (by decide) (by decide))))
  have f260 := (Exa.wr W249 (Exa.wr W245 (Exa.wr W242 E239)))
  have f261 := (Fld.other W249 (Fld.other W245 (Fld.other W242 F239_key (Or.inl (Nat.ne_of_gt lt237))) (Or.inl (Nat.ne_of_gt lt237))) (Or.inl (Nat.ne_of_gt lt237)))
  have f262 := (Fld.other W249 (Fld.other W245 (Fld.other W242 F239_value (Or.inl (Nat.ne_of_gt lt237))) (Or.inl (Nat.ne_of_gt lt237))) (Or.inl (Nat.ne_of_gt lt237)))
  have f263 := (Fld.other W249 (Fld.other W245 (Fld.other W242 F239_left (Or.inl (Nat.ne_of_gt lt237))) (Or.inl (Nat.ne_of_gt lt237))) (Or.inl (Nat.ne_of_gt lt237)))
  have f264 := (Fld.other W249 (Fld.other W245 (Fld.other W242 F239_right (Or.inl (Nat.ne_of_gt lt237))) (Or.inl (Nat.ne_of_gt lt237))) (Or.inl (Nat.ne_of_gt lt237)))
  have f265 := (Fld.other W249 (Fld.other W245 (Fld.other W242 F239_parent (Or.inl (Nat.ne_of_gt lt237))) (Or.inl (Nat.ne_of_gt lt237))) (Or.inl (Nat.ne_of_gt lt237)))
  have f266 := (Fld.other W249 (Fld.other W245 (Fld.other W242 F239_color (Or.inl (Nat.ne_of_gt lt237))) (Or.inl (Nat.ne_of_gt lt237))) (Or.inl (Nat.ne_of_gt lt237)))
  exact g_retV C X249 d23_36 (by decide) (by decide) ⟨rfl, kp255, b236, n_b236, sz250, f256, f257, f258, f259, f249, f260, f261, f262, f263, f264, f265, f266⟩
theorem ef_rP0 (m : MethodId) (tm : Addr) (ky : Addr) (vl : Addr) : entryFrame m #[(.ref tm), (.ref ky), (.ref vl), (.int 0)] 10 = mkF m 0 #[.val (.ref tm), .val (.ref ky), .val (.ref vl), .val (.int 0), .unset, .unset, .unset, .unset, .unset, .unset] [] := by first | (simp [entryFrame, mkF, argsToLocals, Value.category]; done) | rfl
theorem d22_0 : Dc jdk_2729_method_31_code 0 (.aload_n 0) 1 1 := ⟨by decide +kernel, rfl⟩
theorem d22_1 : Dc jdk_2729_method_31_code 1 (.getfield 101) 3 4 := ⟨by decide +kernel, rfl⟩
theorem d22_4 : Dc jdk_2729_method_31_code 4 (.astore 4) 2 6 := ⟨by decide +kernel, rfl⟩
theorem d22_6 : Dc jdk_2729_method_31_code 6 (.aload 4) 2 8 := ⟨by decide +kernel, rfl⟩
theorem d22_8 : Dj jdk_2729_method_31_code 8 (.ifnonnull 11) 11 3 11 19 := ⟨by decide +kernel, rfl, by decide, by decide⟩
theorem d22_11 : Dc jdk_2729_method_31_code 11 (.aload_n 0) 1 12 := ⟨by decide +kernel, rfl⟩
theorem d22_12 : Dc jdk_2729_method_31_code 12 (.aload_n 1) 1 13 := ⟨by decide +kernel, rfl⟩
theorem d22_13 : Dc jdk_2729_method_31_code 13 (.aload_n 2) 1 14 := ⟨by decide +kernel, rfl⟩
theorem d22_14 : Dc jdk_2729_method_31_code 14 (.invokevirtual 135) 3 17 := ⟨by decide +kernel, rfl⟩
theorem pd_16 : parseMethodDescriptor "(Ljava/lang/Object;Ljava/lang/Object;)V" = some ⟨[(.object "java/lang/Object"), (.object "java/lang/Object")], none⟩ := by decide +kernel
theorem d22_17 : Dc jdk_2729_method_31_code 17 (.aconst_null) 1 18 := ⟨by decide +kernel, rfl⟩
theorem d22_18 : Dc jdk_2729_method_31_code 18 (.areturn) 1 19 := ⟨by decide +kernel, rfl⟩
theorem rP0 (l : Launch) {Z : State} {a0 : Array Value} (hw : ∀ d ∈ tables_1, d.before a0 Z = true) {h : Heap} (hE : Ext Z.heap h) (tm : Addr) (ky : Addr) (vl : Addr) (x : Int32) (E_tm : Exa Z h tm "java/util/TreeMap") (F_tm_comparator : Fld Z h tm "java/util/TreeMap" "comparator" "Ljava/util/Comparator;" .null) (F_tm_root : Fld Z h tm "java/util/TreeMap" "root" "Ljava/util/TreeMap$Entry;" .null) (F_tm_size : Fld Z h tm "java/util/TreeMap" "size" "I" (.int 0)) (F_tm_modCount : Fld Z h tm "java/util/TreeMap" "modCount" "I" (.int 0)) (E_ky : Exa Z h ky "java/lang/Integer") (F_ky_value : Fld Z h ky "java/lang/Integer" "value" "I" (.int x)) (hn : Z.heap.size ≤ tm) (ne1 : ky ≠ tm) :
    Con l (⟨"java/util/TreeMap", "put", "(Ljava/lang/Object;Ljava/lang/Object;Z)Ljava/lang/Object;"⟩ : MethodName) jdk_2729_method_31_code 10 (some (.object "java/lang/Object")) [] ({ frames := 5, cells := 1, slots := 6, locals := 120 } : Room) Z #[(.ref tm), (.ref ky), (.ref vl), (.int 0)] h (fun v' h' => v' = some .null ∧ Keep h h' [tm] ∧ (∃ en, Z.heap.size ≤ en ∧ h.size ≤ en ∧ Exa Z h' tm "java/util/TreeMap" ∧ Fld Z h' tm "java/util/TreeMap" "comparator" "Ljava/util/Comparator;" .null ∧ Fld Z h' tm "java/util/TreeMap" "root" "Ljava/util/TreeMap$Entry;" (.ref en) ∧ Fld Z h' tm "java/util/TreeMap" "size" "I" (.int 1) ∧ Fld Z h' tm "java/util/TreeMap" "modCount" "I" (.int 1) ∧ Exa Z h' en "java/util/TreeMap$Entry" ∧ Fld Z h' en "java/util/TreeMap$Entry" "key" "Ljava/lang/Object;" (.ref ky) ∧ Fld Z h' en "java/util/TreeMap$Entry" "value" "Ljava/lang/Object;" (.ref vl) ∧ Fld Z h' en "java/util/TreeMap$Entry" "left" "Ljava/util/TreeMap$Entry;" .null ∧ Fld Z h' en "java/util/TreeMap$Entry" "right" "Ljava/util/TreeMap$Entry;" .null ∧ Fld Z h' en "java/util/TreeMap$Entry" "parent" "Ljava/util/TreeMap$Entry;" .null ∧ Fld Z h' en "java/util/TreeMap$Entry" "color" "Z" (.int 1))) := by
  refine con_of (plainFor_of_name pn_7) hE (fun m => ef_rP0 m tm ky vl) ?_
  intro p e s m below meth c T0 C X0
  have C : Cx p s m meth c Z "java/util/TreeMap" "put" jdk_2729_method_31_code 10 (some (.object "java/lang/Object")) := C
  show Goes p e below _ T0 (mkF m 0 #[.val (.ref tm), .val (.ref ky), .val (.ref vl), .val (.int 0), .unset, .unset, .unset, .unset, .unset, .unset] [])
  refine g_aloadN C X0 d22_0 rfl rfl (g_getfield (host := "") C X0 (Or.inl (wd hw 150 rfl)) Via.refl F_tm_root d22_1 (fun T267 X267 => ?_))
  refine g_astore C X267 d22_4 rfl (l' := #[.val (.ref tm), .val (.ref ky), .val (.ref vl), .val (.int 0), .val .null, .unset, .unset, .unset, .unset, .unset]) rfl (g_aload C X267 d22_6 rfl rfl (g_ifnonnull C X267 d22_8 rfl (fun q => absurd rfl q) (fun _ => ?_)))
  refine g_aloadN C X267 d22_11 rfl rfl (g_aloadN C X267 d22_12 rfl rfl (g_aloadN C X267 d22_13 rfl rfl (g_private (argsL := [(.ref ky), (.ref vl)]) (st := []) C X267 (wd hw 152 rfl) (wd hw 153 rfl) (mvT C.hZ (wd hw 155 rfl)) (wd hw 154 rfl) (wd hw 156 rfl) (by decide) E_tm (pay_of (W' := 0) (rA0 l hw X267.ext tm ky vl x E_tm F_tm_comparator F_tm_root F_tm_size F_tm_modCount E_ky F_ky_value hn ne1) C.hZ (wd hw 156 rfl) (wd hw 78 rfl) (by decide) (by decide)) pd_16 rfl rfl _ rfl (Nat.le_of_eq rfl) d22_14 (by decide) (by decide) (fun T268 h268 v268 q268 X268 => ?_))))
  obtain ⟨rfl, A268⟩ := q268
  show Goes p e below _ T268 (mkF m 17 #[.val (.ref tm), .val (.ref ky), .val (.ref vl), .val (.int 0), .val .null, .unset, .unset, .unset, .unset, .unset] [])
  refine g_aconst_null C X268 d22_17 ?_
  exact g_retA C X268 rfl rfl d22_18 (by decide) (by decide) ⟨rfl, A268⟩
theorem ef_rQ0 (m : MethodId) (tm : Addr) (ky : Addr) (vl : Addr) : entryFrame m #[(.ref tm), (.ref ky), (.ref vl)] 3 = mkF m 0 #[.val (.ref tm), .val (.ref ky), .val (.ref vl)] [] := by first | (simp [entryFrame, mkF, argsToLocals, Value.category]; done) | rfl
theorem d21_0 : Dc jdk_2729_method_22_code 0 (.aload_n 0) 1 1 := ⟨by decide +kernel, rfl⟩
theorem d21_1 : Dc jdk_2729_method_22_code 1 (.aload_n 1) 1 2 := ⟨by decide +kernel, rfl⟩
theorem d21_2 : Dc jdk_2729_method_22_code 2 (.aload_n 2) 1 3 := ⟨by decide +kernel, rfl⟩
theorem d21_3 : Dc jdk_2729_method_22_code 3 (.iconst 0) 1 4 := ⟨by decide +kernel, rfl⟩
theorem d21_4 : Dc jdk_2729_method_22_code 4 (.invokevirtual 127) 3 7 := ⟨by decide +kernel, rfl⟩
theorem pd_17 : parseMethodDescriptor "(Ljava/lang/Object;Ljava/lang/Object;Z)Ljava/lang/Object;" = some ⟨[(.object "java/lang/Object"), (.object "java/lang/Object"), .boolean], some (.object "java/lang/Object")⟩ := by decide +kernel
theorem d21_7 : Dc jdk_2729_method_22_code 7 (.areturn) 1 8 := ⟨by decide +kernel, rfl⟩
theorem rQ0 (l : Launch) {Z : State} {a0 : Array Value} (hw : ∀ d ∈ tables_1, d.before a0 Z = true) {h : Heap} (hE : Ext Z.heap h) (tm : Addr) (ky : Addr) (vl : Addr) (x : Int32) (E_tm : Exa Z h tm "java/util/TreeMap") (F_tm_comparator : Fld Z h tm "java/util/TreeMap" "comparator" "Ljava/util/Comparator;" .null) (F_tm_root : Fld Z h tm "java/util/TreeMap" "root" "Ljava/util/TreeMap$Entry;" .null) (F_tm_size : Fld Z h tm "java/util/TreeMap" "size" "I" (.int 0)) (F_tm_modCount : Fld Z h tm "java/util/TreeMap" "modCount" "I" (.int 0)) (E_ky : Exa Z h ky "java/lang/Integer") (F_ky_value : Fld Z h ky "java/lang/Integer" "value" "I" (.int x)) (hn : Z.heap.size ≤ tm) (ne1 : ky ≠ tm) :
    Con l (⟨"java/util/TreeMap", "putIfAbsent", "(Ljava/lang/Object;Ljava/lang/Object;)Ljava/lang/Object;"⟩ : MethodName) jdk_2729_method_22_code 3 (some (.object "java/lang/Object")) [] ({ frames := 6, cells := 1, slots := 6, locals := 144 } : Room) Z #[(.ref tm), (.ref ky), (.ref vl)] h (fun v' h' => v' = some .null ∧ Keep h h' [tm] ∧ (∃ en, Z.heap.size ≤ en ∧ h.size ≤ en ∧ Exa Z h' tm "java/util/TreeMap" ∧ Fld Z h' tm "java/util/TreeMap" "comparator" "Ljava/util/Comparator;" .null ∧ Fld Z h' tm "java/util/TreeMap" "root" "Ljava/util/TreeMap$Entry;" (.ref en) ∧ Fld Z h' tm "java/util/TreeMap" "size" "I" (.int 1) ∧ Fld Z h' tm "java/util/TreeMap" "modCount" "I" (.int 1) ∧ Exa Z h' en "java/util/TreeMap$Entry" ∧ Fld Z h' en "java/util/TreeMap$Entry" "key" "Ljava/lang/Object;" (.ref ky) ∧ Fld Z h' en "java/util/TreeMap$Entry" "value" "Ljava/lang/Object;" (.ref vl) ∧ Fld Z h' en "java/util/TreeMap$Entry" "left" "Ljava/util/TreeMap$Entry;" .null ∧ Fld Z h' en "java/util/TreeMap$Entry" "right" "Ljava/util/TreeMap$Entry;" .null ∧ Fld Z h' en "java/util/TreeMap$Entry" "parent" "Ljava/util/TreeMap$Entry;" .null ∧ Fld Z h' en "java/util/TreeMap$Entry" "color" "Z" (.int 1))) := by
  refine con_of (plainFor_of_name pn_7) hE (fun m => ef_rQ0 m tm ky vl) ?_
  intro p e s m below meth c T0 C X0
  have C : Cx p s m meth c Z "java/util/TreeMap" "putIfAbsent" jdk_2729_method_22_code 3 (some (.object "java/lang/Object")) := C
  show Goes p e below _ T0 (mkF m 0 #[.val (.ref tm), .val (.ref ky), .val (.ref vl)] [])
  refine g_aloadN C X0 d21_0 rfl rfl (g_aloadN C X0 d21_1 rfl rfl (g_aloadN C X0 d21_2 rfl rfl (g_iconst 0 C X0 d21_3 rfl (g_private (argsL := [(.ref ky), (.ref vl), (.int 0)]) (st := []) C X0 (wd hw 145 rfl) (wd hw 146 rfl) (mvT C.hZ (wd hw 148 rfl)) (wd hw 147 rfl) (wd hw 149 rfl) (by decide) E_tm (pay_of (W' := 0) (rP0 l hw X0.ext tm ky vl x E_tm F_tm_comparator F_tm_root F_tm_size F_tm_modCount E_ky F_ky_value hn ne1) C.hZ (wd hw 149 rfl) (wd hw 78 rfl) (by decide) (by decide)) pd_17 rfl rfl _ rfl (Nat.le_of_eq rfl) d21_4 (by decide) (by decide) (fun T269 h269 v269 q269 X269 => ?_)))))
  obtain ⟨rfl, A269⟩ := q269
  show Goes p e below _ T269 (mkF m 7 #[.val (.ref tm), .val (.ref ky), .val (.ref vl)] [.null])
  exact g_retA C X269 rfl rfl d21_7 (by decide) (by decide) ⟨rfl, A269⟩
theorem ef_rFx (m : MethodId) (tm : Addr) (en : Addr) : entryFrame m #[(.ref tm), (.ref en)] 3 = mkF m 0 #[.val (.ref tm), .val (.ref en), .unset] [] := by first | (simp [entryFrame, mkF, argsToLocals, Value.category]; done) | rfl
theorem d31_0 : Dc jdk_2729_method_83_code 0 (.aload_n 1) 1 1 := ⟨by decide +kernel, rfl⟩
theorem d31_1 : Dc jdk_2729_method_83_code 1 (.iconst 0) 1 2 := ⟨by decide +kernel, rfl⟩
theorem d31_2 : Dc jdk_2729_method_83_code 2 (.putfield 290) 3 5 := ⟨by decide +kernel, rfl⟩
theorem d31_5 : Dc jdk_2729_method_83_code 5 (.aload_n 1) 1 6 := ⟨by decide +kernel, rfl⟩
theorem d31_6 : Dj jdk_2729_method_83_code 6 (.ifnull 252) 252 3 9 258 := ⟨by decide +kernel, rfl, by decide, by decide⟩
theorem d31_9 : Dc jdk_2729_method_83_code 9 (.aload_n 1) 1 10 := ⟨by decide +kernel, rfl⟩
theorem d31_10 : Dc jdk_2729_method_83_code 10 (.aload_n 0) 1 11 := ⟨by decide +kernel, rfl⟩
theorem d31_11 : Dc jdk_2729_method_83_code 11 (.getfield 101) 3 14 := ⟨by decide +kernel, rfl⟩
theorem d31_14 : Dj jdk_2729_method_83_code 14 (.if_acmp .eq 244) 244 3 17 258 := ⟨by decide +kernel, rfl, by decide, by decide⟩
theorem d31_17 : Dc jdk_2729_method_83_code 17 (.aload_n 1) 1 18 := ⟨by decide +kernel, rfl⟩
theorem d31_18 : Dc jdk_2729_method_83_code 18 (.getfield 124) 3 21 := ⟨by decide +kernel, rfl⟩
theorem d31_21 : Dc jdk_2729_method_83_code 21 (.getfield 290) 3 24 := ⟨by decide +kernel, rfl⟩
theorem d31_24 : Dj jdk_2729_method_83_code 24 (.ifCond .ne 234) 234 3 27 258 := ⟨by decide +kernel, rfl, by decide, by decide⟩
theorem d31_258 : Dc jdk_2729_method_83_code 258 (.aload_n 0) 1 259 := ⟨by decide +kernel, rfl⟩
theorem d31_259 : Dc jdk_2729_method_83_code 259 (.getfield 101) 3 262 := ⟨by decide +kernel, rfl⟩
theorem d31_262 : Dc jdk_2729_method_83_code 262 (.iconst 1) 1 263 := ⟨by decide +kernel, rfl⟩
theorem d31_263 : Dc jdk_2729_method_83_code 263 (.putfield 290) 3 266 := ⟨by decide +kernel, rfl⟩
theorem d31_266 : Dc jdk_2729_method_83_code 266 (.return_) 1 267 := ⟨by decide +kernel, rfl⟩
theorem rFx (l : Launch) {Z : State} {a0 : Array Value} (hw : ∀ d ∈ tables_1, d.before a0 Z = true) {h : Heap} (hE : Ext Z.heap h) (tm : Addr) (en : Addr) (pe : Addr) (E_tm : Exa Z h tm "java/util/TreeMap") (F_tm_comparator : Fld Z h tm "java/util/TreeMap" "comparator" "Ljava/util/Comparator;" .null) (F_tm_root : Fld Z h tm "java/util/TreeMap" "root" "Ljava/util/TreeMap$Entry;" (.ref pe)) (E_en : Exa Z h en "java/util/TreeMap$Entry") (F_en_parent : Fld Z h en "java/util/TreeMap$Entry" "parent" "Ljava/util/TreeMap$Entry;" (.ref pe)) (F_en_color : Fld Z h en "java/util/TreeMap$Entry" "color" "Z" (.int 1)) (E_pe : Exa Z h pe "java/util/TreeMap$Entry") (F_pe_color : Fld Z h pe "java/util/TreeMap$Entry" "color" "Z" (.int 1)) (hn : Z.heap.size ≤ tm) (hne : Z.heap.size ≤ en) (hnp : Z.heap.size ≤ pe) (n1 : en ≠ pe) (n2 : tm ≠ en) (n3 : tm ≠ pe) :
    Con l (⟨"java/util/TreeMap", "fixAfterInsertion", "(Ljava/util/TreeMap$Entry;)V"⟩ : MethodName) jdk_2729_method_83_code 3 none [] ({ frames := 0, cells := 0, slots := 0, locals := 0 } : Room) Z #[(.ref tm), (.ref en)] h (fun v' h' => v' = none ∧ Keep h h' [en, pe]) := by
  refine con_of (plainFor_of_name pn_7) hE (fun m => ef_rFx m tm en) ?_
  intro p e s m below meth c T0 C X0
  have C : Cx p s m meth c Z "java/util/TreeMap" "fixAfterInsertion" jdk_2729_method_83_code 3 none := C
  show Goes p e below _ T0 (mkF m 0 #[.val (.ref tm), .val (.ref en), .unset] [])
  refine g_aloadN C X0 d31_0 rfl rfl (g_iconst 0 C X0 d31_1 rfl (g_putfield (host := "") C X0 (Or.inl (wd hw 217 rfl)) Via.refl F_en_color E_en (Or.inl (wd hw 193 rfl)) (wd hw 185 rfl) (ty := .boolean) (by decide) rfl rfl hne d31_2 (fun T270 h270 X270 W270 => ?_)))
  have f270 := Fld.same W270 F_en_color
  refine g_aloadN C X270 d31_5 rfl rfl (g_ifnull C X270 d31_6 rfl (fun q => absurd q nofun) (fun _ => ?_))
  refine g_aloadN C X270 d31_9 rfl rfl (g_aloadN C X270 d31_10 rfl rfl ?_)
  have f271 := (Fld.other W270 F_tm_root (Or.inl n2))
  refine g_getfield (host := "") C X270 (Or.inl (wd hw 150 rfl)) Via.refl f271 d31_11 (fun T272 X272 => ?_)
  refine g_acmpeq C X272 d31_14 rfl rfl (fun q => absurd q (fun q => n1 (Value.ref.inj q))) (fun _ => ?_)
  refine g_aloadN C X272 d31_17 rfl rfl ?_
  have f273 := (Fld.other W270 F_en_parent (Or.inr (slot_ne (Or.inl (wd hw 199 rfl)) (Or.inl (wd hw 193 rfl)) (by decide) (t := (.object "java/util/TreeMap$Entry")) (t' := .boolean) (by decide) (by decide))))
  refine g_getfield (host := "") C X272 (Or.inl (wd hw 218 rfl)) Via.refl f273 d31_18 (fun T274 X274 => ?_)
  have f275 := (Fld.other W270 F_pe_color (Or.inl (Ne.symm n1)))
  refine g_getfield (host := "") C X274 (Or.inl (wd hw 217 rfl)) Via.refl f275 d31_21 (fun T276 X276 => ?_)
  refine g_ifn (h0_ne _) C X276 d31_24 (fun _ => ?_) (fun q => absurd q (by decide))
  refine g_aloadN C X276 d31_258 rfl rfl (g_getfield (host := "") C X276 (Or.inl (wd hw 150 rfl)) Via.refl f271 d31_259 (fun T277 X277 => ?_))
  refine g_iconst 1 C X277 d31_262 rfl ?_
  have f278 := (Exa.wr W270 E_pe)
  refine g_putfield (host := "") C X277 (Or.inl (wd hw 217 rfl)) Via.refl f275 f278 (Or.inl (wd hw 193 rfl)) (wd hw 185 rfl) (ty := .boolean) (by decide) rfl rfl hnp d31_263 (fun T279 h279 X279 W279 => ?_)
  have f279 := Fld.same W279 f275
  have kp280 := (Keep.refl h [en, pe]).wr W270 (Or.inl (by simp))
  have kp281 := kp280.wr W279 (Or.inl (by simp))
  exact g_retV C X279 d31_266 (by decide) (by decide) ⟨rfl, kp281⟩
theorem ef_rAd0 (m : MethodId) (tm : Addr) (ky : Addr) (vl : Addr) (pe : Addr) : entryFrame m #[(.ref tm), (.ref ky), (.ref vl), (.ref pe), (.int 0)] 6 = mkF m 0 #[.val (.ref tm), .val (.ref ky), .val (.ref vl), .val (.ref pe), .val (.int 0), .unset] [] := by first | (simp [entryFrame, mkF, argsToLocals, Value.category]; done) | rfl
theorem d30_0 : Dc jdk_2729_method_29_code 0 (.new 59) 3 3 := ⟨by decide +kernel, rfl⟩
theorem d30_3 : Dc jdk_2729_method_29_code 3 (.dup) 1 4 := ⟨by decide +kernel, rfl⟩
theorem d30_4 : Dc jdk_2729_method_29_code 4 (.aload_n 1) 1 5 := ⟨by decide +kernel, rfl⟩
theorem d30_5 : Dc jdk_2729_method_29_code 5 (.aload_n 2) 1 6 := ⟨by decide +kernel, rfl⟩
theorem d30_6 : Dc jdk_2729_method_29_code 6 (.aload_n 3) 1 7 := ⟨by decide +kernel, rfl⟩
theorem d30_7 : Dc jdk_2729_method_29_code 7 (.invokespecial 167) 3 10 := ⟨by decide +kernel, rfl⟩
theorem d30_10 : Dc jdk_2729_method_29_code 10 (.astore 5) 2 12 := ⟨by decide +kernel, rfl⟩
theorem d30_12 : Dc jdk_2729_method_29_code 12 (.iload 4) 2 14 := ⟨by decide +kernel, rfl⟩
theorem d30_14 : Dj jdk_2729_method_29_code 14 (.ifCond .eq 12) 12 3 17 26 := ⟨by decide +kernel, rfl, by decide, by decide⟩
theorem d30_26 : Dc jdk_2729_method_29_code 26 (.aload_n 3) 1 27 := ⟨by decide +kernel, rfl⟩
theorem d30_27 : Dc jdk_2729_method_29_code 27 (.aload 5) 2 29 := ⟨by decide +kernel, rfl⟩
theorem d30_29 : Dc jdk_2729_method_29_code 29 (.putfield 114) 3 32 := ⟨by decide +kernel, rfl⟩
theorem d30_32 : Dc jdk_2729_method_29_code 32 (.aload_n 0) 1 33 := ⟨by decide +kernel, rfl⟩
theorem d30_33 : Dc jdk_2729_method_29_code 33 (.aload 5) 2 35 := ⟨by decide +kernel, rfl⟩
theorem d30_35 : Dc jdk_2729_method_29_code 35 (.invokevirtual 170) 3 38 := ⟨by decide +kernel, rfl⟩
theorem pd_18 : parseMethodDescriptor "(Ljava/util/TreeMap$Entry;)V" = some ⟨[(.object "java/util/TreeMap$Entry")], none⟩ := by decide +kernel
theorem d30_38 : Dc jdk_2729_method_29_code 38 (.aload_n 0) 1 39 := ⟨by decide +kernel, rfl⟩
theorem d30_39 : Dc jdk_2729_method_29_code 39 (.dup) 1 40 := ⟨by decide +kernel, rfl⟩
theorem d30_40 : Dc jdk_2729_method_29_code 40 (.getfield 7) 3 43 := ⟨by decide +kernel, rfl⟩
theorem d30_43 : Dc jdk_2729_method_29_code 43 (.iconst 1) 1 44 := ⟨by decide +kernel, rfl⟩
theorem d30_44 : Dc jdk_2729_method_29_code 44 (.iadd) 1 45 := ⟨by decide +kernel, rfl⟩
theorem d30_45 : Dc jdk_2729_method_29_code 45 (.putfield 7) 3 48 := ⟨by decide +kernel, rfl⟩
theorem d30_48 : Dc jdk_2729_method_29_code 48 (.aload_n 0) 1 49 := ⟨by decide +kernel, rfl⟩
theorem d30_49 : Dc jdk_2729_method_29_code 49 (.dup) 1 50 := ⟨by decide +kernel, rfl⟩
theorem d30_50 : Dc jdk_2729_method_29_code 50 (.getfield 13) 3 53 := ⟨by decide +kernel, rfl⟩
theorem d30_53 : Dc jdk_2729_method_29_code 53 (.iconst 1) 1 54 := ⟨by decide +kernel, rfl⟩
theorem d30_54 : Dc jdk_2729_method_29_code 54 (.iadd) 1 55 := ⟨by decide +kernel, rfl⟩
theorem d30_55 : Dc jdk_2729_method_29_code 55 (.putfield 13) 3 58 := ⟨by decide +kernel, rfl⟩
theorem d30_58 : Dc jdk_2729_method_29_code 58 (.return_) 1 59 := ⟨by decide +kernel, rfl⟩
theorem rAd0 (l : Launch) {Z : State} {a0 : Array Value} (hw : ∀ d ∈ tables_1, d.before a0 Z = true) {h : Heap} (hE : Ext Z.heap h) (tm : Addr) (ky : Addr) (vl : Addr) (pe : Addr) (kp vp : Addr) (E_tm : Exa Z h tm "java/util/TreeMap") (F_tm_comparator : Fld Z h tm "java/util/TreeMap" "comparator" "Ljava/util/Comparator;" .null) (F_tm_root : Fld Z h tm "java/util/TreeMap" "root" "Ljava/util/TreeMap$Entry;" (.ref pe)) (F_tm_size : Fld Z h tm "java/util/TreeMap" "size" "I" (.int 1)) (F_tm_modCount : Fld Z h tm "java/util/TreeMap" "modCount" "I" (.int 1)) (E_pe : Exa Z h pe "java/util/TreeMap$Entry") (F_pe_key : Fld Z h pe "java/util/TreeMap$Entry" "key" "Ljava/lang/Object;" (.ref kp)) (F_pe_value : Fld Z h pe "java/util/TreeMap$Entry" "value" "Ljava/lang/Object;" (.ref vp)) (F_pe_left : Fld Z h pe "java/util/TreeMap$Entry" "left" "Ljava/util/TreeMap$Entry;" .null) (F_pe_right : Fld Z h pe "java/util/TreeMap$Entry" "right" "Ljava/util/TreeMap$Entry;" .null) (F_pe_parent : Fld Z h pe "java/util/TreeMap$Entry" "parent" "Ljava/util/TreeMap$Entry;" .null) (F_pe_color : Fld Z h pe "java/util/TreeMap$Entry" "color" "Z" (.int 1)) (hn : Z.heap.size ≤ tm) (hnp : Z.heap.size ≤ pe) (n3 : tm ≠ pe) :
    Con l (⟨"java/util/TreeMap", "addEntry", "(Ljava/lang/Object;Ljava/lang/Object;Ljava/util/TreeMap$Entry;Z)V"⟩ : MethodName) jdk_2729_method_29_code 6 none [] ({ frames := 2, cells := 1, slots := 6, locals := 48 } : Room) Z #[(.ref tm), (.ref ky), (.ref vl), (.ref pe), (.int 0)] h (fun v' h' => v' = none ∧ Keep h h' [tm, pe]) := by
  refine con_of (plainFor_of_name pn_7) hE (fun m => ef_rAd0 m tm ky vl pe) ?_
  intro p e s m below meth c T0 C X0
  have C : Cx p s m meth c Z "java/util/TreeMap" "addEntry" jdk_2729_method_29_code 6 none := C
  show Goes p e below _ T0 (mkF m 0 #[.val (.ref tm), .val (.ref ky), .val (.ref vl), .val (.ref pe), .val (.int 0), .unset] [])
  refine g_new C X0 (wd hw 184 rfl) (wd hw 185 rfl) (wd hw 186 rfl) d30_0 (by decide) (by decide) (fun T282 h282 b282 g_b282 n_b282 X282 E282 A282 D282 M282 => ?_)
  have lt283 : tm < b282 := by rw [g_b282]; exact Exa.lt E_tm
  have lt284 : pe < b282 := by rw [g_b282]; exact Exa.lt E_pe
  have F_color_b282 : Fld Z h282 b282 "java/util/TreeMap$Entry" "color" "Z" (.int 0) := D282 (Or.inl (wd hw 193 rfl)) (ty := .boolean) (by decide)
  have F_key_b282 : Fld Z h282 b282 "java/util/TreeMap$Entry" "key" "Ljava/lang/Object;" .null := D282 (Or.inl (wd hw 195 rfl)) (ty := (.object "java/lang/Object")) (by decide)
  have F_value_b282 : Fld Z h282 b282 "java/util/TreeMap$Entry" "value" "Ljava/lang/Object;" .null := D282 (Or.inl (wd hw 197 rfl)) (ty := (.object "java/lang/Object")) (by decide)
  have F_parent_b282 : Fld Z h282 b282 "java/util/TreeMap$Entry" "parent" "Ljava/util/TreeMap$Entry;" .null := D282 (Or.inl (wd hw 199 rfl)) (ty := (.object "java/util/TreeMap$Entry")) (by decide)
  have F_right_b282 : Fld Z h282 b282 "java/util/TreeMap$Entry" "right" "Ljava/util/TreeMap$Entry;" .null := D282 (Or.inl (wd hw 206 rfl)) (ty := (.object "java/util/TreeMap$Entry")) (by decide)
  have F_left_b282 : Fld Z h282 b282 "java/util/TreeMap$Entry" "left" "Ljava/util/TreeMap$Entry;" .null := D282 (Or.inl (wd hw 233 rfl)) (ty := (.object "java/util/TreeMap$Entry")) (by decide)
  refine g_dup C X282 d30_3 rfl (g_aloadN C X282 d30_4 rfl rfl (g_aloadN C X282 d30_5 rfl rfl (g_aloadN C X282 d30_6 rfl rfl (g_special (argsL := [(.ref ky), (.ref vl), (.ref pe)]) (st := [(.ref b282)]) C X282 rfl (wd hw 187 rfl) (wd hw 188 rfl) (wd hw 190 rfl) (by decide) (pay_of (W' := 1) (rEiR l hw X282.ext b282 ky vl pe A282 F_key_b282 F_value_b282 F_left_b282 F_right_b282 F_parent_b282 F_color_b282 n_b282) C.hZ (wd hw 190 rfl) (wd hw 186 rfl) (by decide) (by decide)) pd_15 rfl rfl _ rfl (Nat.le_of_eq rfl) d30_7 (by decide) (by decide) (fun T285 h285 v285 q285 X285 => ?_)))))
  obtain ⟨rfl, K285, E285, F285_key, F285_value, F285_left, F285_right, F285_parent, F285_color⟩ := q285
  show Goes p e below _ T285 (mkF m 10 #[.val (.ref tm), .val (.ref ky), .val (.ref vl), .val (.ref pe), .val (.int 0), .unset] [(.ref b282)])
  refine g_astore C X285 d30_10 rfl (l' := #[.val (.ref tm), .val (.ref ky), .val (.ref vl), .val (.ref pe), .val (.int 0), .val (.ref b282)]) rfl (g_iload C X285 d30_12 rfl (g_if (h0_eq _) C X285 d30_14 (fun _ => ?_) (fun q => absurd (by decide) q)))
  refine g_aloadN C X285 d30_26 rfl rfl (g_aload C X285 d30_27 rfl rfl ?_)
  have f286 := (Fld.keep (Fld.ext E282 F_pe_right) K285 (ninS (Nat.ne_of_lt lt284) nin0))
  have f287 := (Exa.keep (Exa.ext E282 E_pe) K285)
  refine g_putfield (host := "") C X285 (Or.inl (wd hw 205 rfl)) Via.refl f286 f287 (Or.inl (wd hw 206 rfl)) (wd hw 185 rfl) (ty := (.object "java/util/TreeMap$Entry")) (by decide) rfl rfl hnp d30_29 (fun T288 h288 X288 W288 => ?_)
  have f288 := Fld.same W288 f286
  refine g_aloadN C X288 d30_32 rfl rfl (g_aload C X288 d30_33 rfl rfl ?_)
  have f289 := (Exa.wr W288 (Exa.keep (Exa.ext E282 E_tm) K285))
  have f290 := (Fld.other W288 (Fld.keep (Fld.ext E282 F_tm_comparator) K285 (ninS (Nat.ne_of_lt lt283) nin0)) (Or.inl n3))
  have f291 := (Fld.other W288 (Fld.keep (Fld.ext E282 F_tm_root) K285 (ninS (Nat.ne_of_lt lt283) nin0)) (Or.inl n3))
  have f292 := (Exa.wr W288 E285)
  have f293 := (Fld.other W288 F285_parent (Or.inl (Nat.ne_of_gt lt284)))
  have f294 := (Fld.other W288 F285_color (Or.inl (Nat.ne_of_gt lt284)))
  have f295 := (Exa.wr W288 f287)
  have f296 := (Fld.other W288 (Fld.keep (Fld.ext E282 F_pe_color) K285 (ninS (Nat.ne_of_lt lt284) nin0)) (Or.inr (slot_ne (Or.inl (wd hw 193 rfl)) (Or.inl (wd hw 206 rfl)) (by decide) (t := .boolean) (t' := (.object "java/util/TreeMap$Entry")) (by decide) (by decide))))
  refine g_private (argsL := [(.ref b282)]) (st := []) C X288 (wd hw 212 rfl) (wd hw 213 rfl) (mvT C.hZ (wd hw 215 rfl)) (wd hw 214 rfl) (wd hw 216 rfl) (by decide) f289 (pay_of (W' := 0) (rFx l hw X288.ext tm b282 pe f289 f290 f291 f292 f293 f294 f295 f296 hn n_b282 hnp (Nat.ne_of_gt lt284) (Nat.ne_of_lt lt283) n3) C.hZ (wd hw 216 rfl) (wd hw 78 rfl) (by decide) (by decide)) pd_18 rfl rfl _ rfl (Nat.le_of_eq rfl) d30_35 (by decide) (by decide) (fun T297 h297 v297 q297 X297 => ?_)
  obtain ⟨rfl, K297⟩ := q297
  show Goes p e below _ T297 (mkF m 38 #[.val (.ref tm), .val (.ref ky), .val (.ref vl), .val (.ref pe), .val (.int 0), .val (.ref b282)] [])
  refine g_aloadN C X297 d30_38 rfl rfl (g_dup C X297 d30_39 rfl ?_)
  have f298 := (Fld.keep (Fld.other W288 (Fld.keep (Fld.ext E282 F_tm_size) K285 (ninS (Nat.ne_of_lt lt283) nin0)) (Or.inl n3)) K297 (ninS (Nat.ne_of_lt lt283) (ninS n3 nin0)))
  refine g_getfield (host := "") C X297 (Or.inl (wd hw 89 rfl)) Via.refl f298 d30_40 (fun T299 X299 => ?_)
  refine g_iconst 1 C X299 d30_43 rfl (g_iadd C X299 d30_44 ?_)
  have f300 := (Exa.keep f289 K297)
  refine g_putfield (host := "") C X299 (Or.inl (wd hw 89 rfl)) Via.refl f298 f300 (Or.inl (wd hw 90 rfl)) (wd hw 77 rfl) (ty := .int) (by decide) rfl rfl hn d30_45 (fun T301 h301 X301 W301 => ?_)
  have f301 := Fld.same W301 f298
  refine g_aloadN C X301 d30_48 rfl rfl (g_dup C X301 d30_49 rfl ?_)
  have f302 := (Fld.other W301 (Fld.keep (Fld.other W288 (Fld.keep (Fld.ext E282 F_tm_modCount) K285 (ninS (Nat.ne_of_lt lt283) nin0)) (Or.inl n3)) K297 (ninS (Nat.ne_of_lt lt283) (ninS n3 nin0))) (Or.inr (slot_ne (Or.inl (wd hw 92 rfl)) (Or.inl (wd hw 90 rfl)) (by decide) (t := .int) (t' := .int) (by decide) (by decide))))
  refine g_getfield (host := "") C X301 (Or.inl (wd hw 91 rfl)) Via.refl f302 d30_50 (fun T303 X303 => ?_)
  refine g_iconst 1 C X303 d30_53 rfl (g_iadd C X303 d30_54 ?_)
  have f304 := (Exa.wr W301 f300)
  refine g_putfield (host := "") C X303 (Or.inl (wd hw 91 rfl)) Via.refl f302 f304 (Or.inl (wd hw 92 rfl)) (wd hw 77 rfl) (ty := .int) (by decide) rfl rfl hn d30_55 (fun T305 h305 X305 W305 => ?_)
  have f305 := Fld.same W305 f302
  have sz306 : h.size ≤ b282 := by rw [g_b282]; exact (Keep.refl h [tm, pe]).1
  have kp307 := (Keep.refl h [tm, pe]).ext E282
  have kp308 := kp307.trans K285 (allS (Or.inr sz306) all0)
  have kp309 := kp308.wr W288 (Or.inl (by simp))
  have kp310 := kp309.trans K297 (allS (Or.inr sz306) (allS (Or.inl (by simp)) all0))
  have kp311 := kp310.wr W301 (Or.inl (by simp))
  have kp312 := kp311.wr W305 (Or.inl (by simp))
  exact g_retV C X305 d30_58 (by decide) (by decide) ⟨rfl, kp312⟩
theorem ef_rAd1 (m : MethodId) (tm : Addr) (ky : Addr) (vl : Addr) (pe : Addr) : entryFrame m #[(.ref tm), (.ref ky), (.ref vl), (.ref pe), (.int 1)] 6 = mkF m 0 #[.val (.ref tm), .val (.ref ky), .val (.ref vl), .val (.ref pe), .val (.int 1), .unset] [] := by first | (simp [entryFrame, mkF, argsToLocals, Value.category]; done) | rfl
theorem d30_17 : Dc jdk_2729_method_29_code 17 (.aload_n 3) 1 18 := ⟨by decide +kernel, rfl⟩
theorem d30_18 : Dc jdk_2729_method_29_code 18 (.aload 5) 2 20 := ⟨by decide +kernel, rfl⟩
theorem d30_20 : Dc jdk_2729_method_29_code 20 (.putfield 111) 3 23 := ⟨by decide +kernel, rfl⟩
theorem d30_23 : Dj jdk_2729_method_29_code 23 (.goto 9) 9 3 26 32 := ⟨by decide +kernel, rfl, by decide, by decide⟩
theorem rAd1 (l : Launch) {Z : State} {a0 : Array Value} (hw : ∀ d ∈ tables_1, d.before a0 Z = true) {h : Heap} (hE : Ext Z.heap h) (tm : Addr) (ky : Addr) (vl : Addr) (pe : Addr) (kp vp : Addr) (E_tm : Exa Z h tm "java/util/TreeMap") (F_tm_comparator : Fld Z h tm "java/util/TreeMap" "comparator" "Ljava/util/Comparator;" .null) (F_tm_root : Fld Z h tm "java/util/TreeMap" "root" "Ljava/util/TreeMap$Entry;" (.ref pe)) (F_tm_size : Fld Z h tm "java/util/TreeMap" "size" "I" (.int 1)) (F_tm_modCount : Fld Z h tm "java/util/TreeMap" "modCount" "I" (.int 1)) (E_pe : Exa Z h pe "java/util/TreeMap$Entry") (F_pe_key : Fld Z h pe "java/util/TreeMap$Entry" "key" "Ljava/lang/Object;" (.ref kp)) (F_pe_value : Fld Z h pe "java/util/TreeMap$Entry" "value" "Ljava/lang/Object;" (.ref vp)) (F_pe_left : Fld Z h pe "java/util/TreeMap$Entry" "left" "Ljava/util/TreeMap$Entry;" .null) (F_pe_right : Fld Z h pe "java/util/TreeMap$Entry" "right" "Ljava/util/TreeMap$Entry;" .null) (F_pe_parent : Fld Z h pe "java/util/TreeMap$Entry" "parent" "Ljava/util/TreeMap$Entry;" .null) (F_pe_color : Fld Z h pe "java/util/TreeMap$Entry" "color" "Z" (.int 1)) (hn : Z.heap.size ≤ tm) (hnp : Z.heap.size ≤ pe) (n3 : tm ≠ pe) :
    Con l (⟨"java/util/TreeMap", "addEntry", "(Ljava/lang/Object;Ljava/lang/Object;Ljava/util/TreeMap$Entry;Z)V"⟩ : MethodName) jdk_2729_method_29_code 6 none [] ({ frames := 2, cells := 1, slots := 6, locals := 48 } : Room) Z #[(.ref tm), (.ref ky), (.ref vl), (.ref pe), (.int 1)] h (fun v' h' => v' = none ∧ Keep h h' [tm, pe]) := by
  refine con_of (plainFor_of_name pn_7) hE (fun m => ef_rAd1 m tm ky vl pe) ?_
  intro p e s m below meth c T0 C X0
  have C : Cx p s m meth c Z "java/util/TreeMap" "addEntry" jdk_2729_method_29_code 6 none := C
  show Goes p e below _ T0 (mkF m 0 #[.val (.ref tm), .val (.ref ky), .val (.ref vl), .val (.ref pe), .val (.int 1), .unset] [])
  refine g_new C X0 (wd hw 184 rfl) (wd hw 185 rfl) (wd hw 186 rfl) d30_0 (by decide) (by decide) (fun T313 h313 b313 g_b313 n_b313 X313 E313 A313 D313 M313 => ?_)
  have lt314 : tm < b313 := by rw [g_b313]; exact Exa.lt E_tm
  have lt315 : pe < b313 := by rw [g_b313]; exact Exa.lt E_pe
  have F_color_b313 : Fld Z h313 b313 "java/util/TreeMap$Entry" "color" "Z" (.int 0) := D313 (Or.inl (wd hw 193 rfl)) (ty := .boolean) (by decide)
  have F_key_b313 : Fld Z h313 b313 "java/util/TreeMap$Entry" "key" "Ljava/lang/Object;" .null := D313 (Or.inl (wd hw 195 rfl)) (ty := (.object "java/lang/Object")) (by decide)
  have F_value_b313 : Fld Z h313 b313 "java/util/TreeMap$Entry" "value" "Ljava/lang/Object;" .null := D313 (Or.inl (wd hw 197 rfl)) (ty := (.object "java/lang/Object")) (by decide)
  have F_parent_b313 : Fld Z h313 b313 "java/util/TreeMap$Entry" "parent" "Ljava/util/TreeMap$Entry;" .null := D313 (Or.inl (wd hw 199 rfl)) (ty := (.object "java/util/TreeMap$Entry")) (by decide)
  have F_right_b313 : Fld Z h313 b313 "java/util/TreeMap$Entry" "right" "Ljava/util/TreeMap$Entry;" .null := D313 (Or.inl (wd hw 206 rfl)) (ty := (.object "java/util/TreeMap$Entry")) (by decide)
  have F_left_b313 : Fld Z h313 b313 "java/util/TreeMap$Entry" "left" "Ljava/util/TreeMap$Entry;" .null := D313 (Or.inl (wd hw 233 rfl)) (ty := (.object "java/util/TreeMap$Entry")) (by decide)
  refine g_dup C X313 d30_3 rfl (g_aloadN C X313 d30_4 rfl rfl (g_aloadN C X313 d30_5 rfl rfl (g_aloadN C X313 d30_6 rfl rfl (g_special (argsL := [(.ref ky), (.ref vl), (.ref pe)]) (st := [(.ref b313)]) C X313 rfl (wd hw 187 rfl) (wd hw 188 rfl) (wd hw 190 rfl) (by decide) (pay_of (W' := 1) (rEiR l hw X313.ext b313 ky vl pe A313 F_key_b313 F_value_b313 F_left_b313 F_right_b313 F_parent_b313 F_color_b313 n_b313) C.hZ (wd hw 190 rfl) (wd hw 186 rfl) (by decide) (by decide)) pd_15 rfl rfl _ rfl (Nat.le_of_eq rfl) d30_7 (by decide) (by decide) (fun T316 h316 v316 q316 X316 => ?_)))))
  obtain ⟨rfl, K316, E316, F316_key, F316_value, F316_left, F316_right, F316_parent, F316_color⟩ := q316
  show Goes p e below _ T316 (mkF m 10 #[.val (.ref tm), .val (.ref ky), .val (.ref vl), .val (.ref pe), .val (.int 1), .unset] [(.ref b313)])
  refine g_astore C X316 d30_10 rfl (l' := #[.val (.ref tm), .val (.ref ky), .val (.ref vl), .val (.ref pe), .val (.int 1), .val (.ref b313)]) rfl (g_iload C X316 d30_12 rfl (g_if (h0_eq _) C X316 d30_14 (fun q => absurd q (by decide)) (fun _ => ?_)))
  refine g_aloadN C X316 d30_17 rfl rfl (g_aload C X316 d30_18 rfl rfl ?_)
  have f317 := (Fld.keep (Fld.ext E313 F_pe_left) K316 (ninS (Nat.ne_of_lt lt315) nin0))
  have f318 := (Exa.keep (Exa.ext E313 E_pe) K316)
  refine g_putfield (host := "") C X316 (Or.inl (wd hw 232 rfl)) Via.refl f317 f318 (Or.inl (wd hw 233 rfl)) (wd hw 185 rfl) (ty := (.object "java/util/TreeMap$Entry")) (by decide) rfl rfl hnp d30_20 (fun T319 h319 X319 W319 => ?_)
  have f319 := Fld.same W319 f317
  refine g_goto C X319 d30_23 (g_aloadN C X319 d30_32 rfl rfl (g_aload C X319 d30_33 rfl rfl ?_))
  have f320 := (Exa.wr W319 (Exa.keep (Exa.ext E313 E_tm) K316))
  have f321 := (Fld.other W319 (Fld.keep (Fld.ext E313 F_tm_comparator) K316 (ninS (Nat.ne_of_lt lt314) nin0)) (Or.inl n3))
  have f322 := (Fld.other W319 (Fld.keep (Fld.ext E313 F_tm_root) K316 (ninS (Nat.ne_of_lt lt314) nin0)) (Or.inl n3))
  have f323 := (Exa.wr W319 E316)
  have f324 := (Fld.other W319 F316_parent (Or.inl (Nat.ne_of_gt lt315)))
  have f325 := (Fld.other W319 F316_color (Or.inl (Nat.ne_of_gt lt315)))
  have f326 := (Exa.wr W319 f318)
  have f327 := (Fld.other W319 (Fld.keep (Fld.ext E313 F_pe_color) K316 (ninS (Nat.ne_of_lt lt315) nin0)) (Or.inr (slot_ne (Or.inl (wd hw 193 rfl)) (Or.inl (wd hw 233 rfl)) (by decide) (t := .boolean) (t' := (.object "java/util/TreeMap$Entry")) (by decide) (by decide))))
  refine g_private (argsL := [(.ref b313)]) (st := []) C X319 (wd hw 212 rfl) (wd hw 213 rfl) (mvT C.hZ (wd hw 215 rfl)) (wd hw 214 rfl) (wd hw 216 rfl) (by decide) f320 (pay_of (W' := 0) (rFx l hw X319.ext tm b313 pe f320 f321 f322 f323 f324 f325 f326 f327 hn n_b313 hnp (Nat.ne_of_gt lt315) (Nat.ne_of_lt lt314) n3) C.hZ (wd hw 216 rfl) (wd hw 78 rfl) (by decide) (by decide)) pd_18 rfl rfl _ rfl (Nat.le_of_eq rfl) d30_35 (by decide) (by decide) (fun T328 h328 v328 q328 X328 => ?_)
  obtain ⟨rfl, K328⟩ := q328
  show Goes p e below _ T328 (mkF m 38 #[.val (.ref tm), .val (.ref ky), .val (.ref vl), .val (.ref pe), .val (.int 1), .val (.ref b313)] [])
  refine g_aloadN C X328 d30_38 rfl rfl (g_dup C X328 d30_39 rfl ?_)
  have f329 := (Fld.keep (Fld.other W319 (Fld.keep (Fld.ext E313 F_tm_size) K316 (ninS (Nat.ne_of_lt lt314) nin0)) (Or.inl n3)) K328 (ninS (Nat.ne_of_lt lt314) (ninS n3 nin0)))
  refine g_getfield (host := "") C X328 (Or.inl (wd hw 89 rfl)) Via.refl f329 d30_40 (fun T330 X330 => ?_)
  refine g_iconst 1 C X330 d30_43 rfl (g_iadd C X330 d30_44 ?_)
  have f331 := (Exa.keep f320 K328)
  refine g_putfield (host := "") C X330 (Or.inl (wd hw 89 rfl)) Via.refl f329 f331 (Or.inl (wd hw 90 rfl)) (wd hw 77 rfl) (ty := .int) (by decide) rfl rfl hn d30_45 (fun T332 h332 X332 W332 => ?_)
  have f332 := Fld.same W332 f329
  refine g_aloadN C X332 d30_48 rfl rfl (g_dup C X332 d30_49 rfl ?_)
  have f333 := (Fld.other W332 (Fld.keep (Fld.other W319 (Fld.keep (Fld.ext E313 F_tm_modCount) K316 (ninS (Nat.ne_of_lt lt314) nin0)) (Or.inl n3)) K328 (ninS (Nat.ne_of_lt lt314) (ninS n3 nin0))) (Or.inr (slot_ne (Or.inl (wd hw 92 rfl)) (Or.inl (wd hw 90 rfl)) (by decide) (t := .int) (t' := .int) (by decide) (by decide))))
  refine g_getfield (host := "") C X332 (Or.inl (wd hw 91 rfl)) Via.refl f333 d30_50 (fun T334 X334 => ?_)
  refine g_iconst 1 C X334 d30_53 rfl (g_iadd C X334 d30_54 ?_)
  have f335 := (Exa.wr W332 f331)
  refine g_putfield (host := "") C X334 (Or.inl (wd hw 91 rfl)) Via.refl f333 f335 (Or.inl (wd hw 92 rfl)) (wd hw 77 rfl) (ty := .int) (by decide) rfl rfl hn d30_55 (fun T336 h336 X336 W336 => ?_)
  have f336 := Fld.same W336 f333
  have sz337 : h.size ≤ b313 := by rw [g_b313]; exact (Keep.refl h [tm, pe]).1
  have kp338 := (Keep.refl h [tm, pe]).ext E313
  have kp339 := kp338.trans K316 (allS (Or.inr sz337) all0)
  have kp340 := kp339.wr W319 (Or.inl (by simp))
  have kp341 := kp340.trans K328 (allS (Or.inr sz337) (allS (Or.inl (by simp)) all0))
  have kp342 := kp341.wr W332 (Or.inl (by simp))
  have kp343 := kp342.wr W336 (Or.inl (by simp))
  exact g_retV C X336 d30_58 (by decide) (by decide) ⟨rfl, kp343⟩
theorem own_c_lt {x y : Int32} (h : x < y) : own_cmp x y < 0 := by unfold own_cmp; rw [if_pos h]; decide
theorem own_c_eq {x y : Int32} (h1 : ¬ x < y) (h : x = y) : own_cmp x y = 0 := by unfold own_cmp; rw [if_neg h1, if_pos h]
theorem own_c_gt {x y : Int32} (h1 : ¬ x < y) (h : ¬ x = y) : own_cmp x y = 1 := by unfold own_cmp; rw [if_neg h1, if_neg h]
theorem ef_rP1l (m : MethodId) (tm : Addr) (ky : Addr) (vl : Addr) : entryFrame m #[(.ref tm), (.ref ky), (.ref vl), (.int 0)] 10 = mkF m 0 #[.val (.ref tm), .val (.ref ky), .val (.ref vl), .val (.int 0), .unset, .unset, .unset, .unset, .unset, .unset] [] := by first | (simp [entryFrame, mkF, argsToLocals, Value.category]; done) | rfl
theorem d22_19 : Dc jdk_2729_method_31_code 19 (.aload_n 0) 1 20 := ⟨by decide +kernel, rfl⟩
theorem d22_20 : Dc jdk_2729_method_31_code 20 (.getfield 16) 3 23 := ⟨by decide +kernel, rfl⟩
theorem d22_23 : Dc jdk_2729_method_31_code 23 (.astore 7) 2 25 := ⟨by decide +kernel, rfl⟩
theorem d22_25 : Dc jdk_2729_method_31_code 25 (.aload 7) 2 27 := ⟨by decide +kernel, rfl⟩
theorem d22_27 : Dj jdk_2729_method_31_code 27 (.ifnull 85) 85 3 30 112 := ⟨by decide +kernel, rfl, by decide, by decide⟩
theorem d22_112 : Dc jdk_2729_method_31_code 112 (.aload_n 1) 1 113 := ⟨by decide +kernel, rfl⟩
theorem d22_113 : Dc jdk_2729_method_31_code 113 (.invokestatic 95) 3 116 := ⟨by decide +kernel, rfl⟩
theorem pd_19 : parseMethodDescriptor "(Ljava/lang/Object;)Ljava/lang/Object;" = some ⟨[(.object "java/lang/Object")], some (.object "java/lang/Object")⟩ := by decide +kernel
theorem d22_116 : Dc jdk_2729_method_31_code 116 (.pop) 1 117 := ⟨by decide +kernel, rfl⟩
theorem d22_117 : Dc jdk_2729_method_31_code 117 (.aload_n 1) 1 118 := ⟨by decide +kernel, rfl⟩
theorem d22_118 : Dc jdk_2729_method_31_code 118 (.checkcast 99) 3 121 := ⟨by decide +kernel, rfl⟩
theorem d22_121 : Dc jdk_2729_method_31_code 121 (.astore 8) 2 123 := ⟨by decide +kernel, rfl⟩
theorem d22_123 : Dc jdk_2729_method_31_code 123 (.aload 4) 2 125 := ⟨by decide +kernel, rfl⟩
theorem d22_125 : Dc jdk_2729_method_31_code 125 (.astore 6) 2 127 := ⟨by decide +kernel, rfl⟩
theorem d22_127 : Dc jdk_2729_method_31_code 127 (.aload 8) 2 129 := ⟨by decide +kernel, rfl⟩
theorem d22_129 : Dc jdk_2729_method_31_code 129 (.aload 4) 2 131 := ⟨by decide +kernel, rfl⟩
theorem d22_131 : Dc jdk_2729_method_31_code 131 (.getfield 105) 3 134 := ⟨by decide +kernel, rfl⟩
theorem d22_134 : Dc jdk_2729_method_31_code 134 (.invokeinterface 107 2) 5 139 := ⟨by decide +kernel, rfl⟩
theorem d22_139 : Dc jdk_2729_method_31_code 139 (.istore 5) 2 141 := ⟨by decide +kernel, rfl⟩
theorem d22_141 : Dc jdk_2729_method_31_code 141 (.iload 5) 2 143 := ⟨by decide +kernel, rfl⟩
theorem d22_143 : Dj jdk_2729_method_31_code 143 (.ifCond .ge 13) 13 3 146 156 := ⟨by decide +kernel, rfl, by decide, by decide⟩
theorem d22_146 : Dc jdk_2729_method_31_code 146 (.aload 4) 2 148 := ⟨by decide +kernel, rfl⟩
theorem d22_148 : Dc jdk_2729_method_31_code 148 (.getfield 111) 3 151 := ⟨by decide +kernel, rfl⟩
theorem d22_151 : Dc jdk_2729_method_31_code 151 (.astore 4) 2 153 := ⟨by decide +kernel, rfl⟩
theorem d22_153 : Dj jdk_2729_method_31_code 153 (.goto 43) 43 3 156 196 := ⟨by decide +kernel, rfl, by decide, by decide⟩
theorem d22_196 : Dc jdk_2729_method_31_code 196 (.aload 4) 2 198 := ⟨by decide +kernel, rfl⟩
theorem d22_198 : Dj jdk_2729_method_31_code 198 (.ifnonnull (-75)) (-75) 3 201 123 := ⟨by decide +kernel, rfl, by decide, by decide⟩
theorem d22_201 : Dc jdk_2729_method_31_code 201 (.aload_n 0) 1 202 := ⟨by decide +kernel, rfl⟩
theorem d22_202 : Dc jdk_2729_method_31_code 202 (.aload_n 1) 1 203 := ⟨by decide +kernel, rfl⟩
theorem d22_203 : Dc jdk_2729_method_31_code 203 (.aload_n 2) 1 204 := ⟨by decide +kernel, rfl⟩
theorem d22_204 : Dc jdk_2729_method_31_code 204 (.aload 6) 2 206 := ⟨by decide +kernel, rfl⟩
theorem d22_206 : Dc jdk_2729_method_31_code 206 (.iload 5) 2 208 := ⟨by decide +kernel, rfl⟩
theorem d22_208 : Dj jdk_2729_method_31_code 208 (.ifCond .ge 7) 7 3 211 215 := ⟨by decide +kernel, rfl, by decide, by decide⟩
theorem d22_211 : Dc jdk_2729_method_31_code 211 (.iconst 1) 1 212 := ⟨by decide +kernel, rfl⟩
theorem d22_212 : Dj jdk_2729_method_31_code 212 (.goto 4) 4 3 215 216 := ⟨by decide +kernel, rfl, by decide, by decide⟩
theorem d22_216 : Dc jdk_2729_method_31_code 216 (.invokevirtual 139) 3 219 := ⟨by decide +kernel, rfl⟩
theorem pd_20 : parseMethodDescriptor "(Ljava/lang/Object;Ljava/lang/Object;Ljava/util/TreeMap$Entry;Z)V" = some ⟨[(.object "java/lang/Object"), (.object "java/lang/Object"), (.object "java/util/TreeMap$Entry"), .boolean], none⟩ := by decide +kernel
theorem d22_219 : Dc jdk_2729_method_31_code 219 (.aconst_null) 1 220 := ⟨by decide +kernel, rfl⟩
theorem d22_220 : Dc jdk_2729_method_31_code 220 (.areturn) 1 221 := ⟨by decide +kernel, rfl⟩
theorem rP1l (l : Launch) {Z : State} {a0 : Array Value} (hw : ∀ d ∈ tables_1, d.before a0 Z = true) {h : Heap} (hE : Ext Z.heap h) (tm : Addr) (ky : Addr) (vl : Addr) (pe kp vp : Addr) (x y : Int32) (E_tm : Exa Z h tm "java/util/TreeMap") (F_tm_comparator : Fld Z h tm "java/util/TreeMap" "comparator" "Ljava/util/Comparator;" .null) (F_tm_root : Fld Z h tm "java/util/TreeMap" "root" "Ljava/util/TreeMap$Entry;" (.ref pe)) (F_tm_size : Fld Z h tm "java/util/TreeMap" "size" "I" (.int 1)) (F_tm_modCount : Fld Z h tm "java/util/TreeMap" "modCount" "I" (.int 1)) (E_pe : Exa Z h pe "java/util/TreeMap$Entry") (F_pe_key : Fld Z h pe "java/util/TreeMap$Entry" "key" "Ljava/lang/Object;" (.ref kp)) (F_pe_value : Fld Z h pe "java/util/TreeMap$Entry" "value" "Ljava/lang/Object;" (.ref vp)) (F_pe_left : Fld Z h pe "java/util/TreeMap$Entry" "left" "Ljava/util/TreeMap$Entry;" .null) (F_pe_right : Fld Z h pe "java/util/TreeMap$Entry" "right" "Ljava/util/TreeMap$Entry;" .null) (F_pe_parent : Fld Z h pe "java/util/TreeMap$Entry" "parent" "Ljava/util/TreeMap$Entry;" .null) (F_pe_color : Fld Z h pe "java/util/TreeMap$Entry" "color" "Z" (.int 1)) (hn : Z.heap.size ≤ tm) (hnp : Z.heap.size ≤ pe) (n3 : tm ≠ pe) (E_ky : Exa Z h ky "java/lang/Integer") (F_ky_value : Fld Z h ky "java/lang/Integer" "value" "I" (.int x)) (E_kp : Exa Z h kp "java/lang/Integer") (F_kp_value : Fld Z h kp "java/lang/Integer" "value" "I" (.int y)) (hv : x < y) :
    Con l (⟨"java/util/TreeMap", "put", "(Ljava/lang/Object;Ljava/lang/Object;Z)Ljava/lang/Object;"⟩ : MethodName) jdk_2729_method_31_code 10 (some (.object "java/lang/Object")) [] ({ frames := 4, cells := 1, slots := 6, locals := 96 } : Room) Z #[(.ref tm), (.ref ky), (.ref vl), (.int 0)] h (fun v' h' => v' = some .null ∧ Keep h h' [tm, pe]) := by
  refine con_of (plainFor_of_name pn_7) hE (fun m => ef_rP1l m tm ky vl) ?_
  intro p e s m below meth c T0 C X0
  have C : Cx p s m meth c Z "java/util/TreeMap" "put" jdk_2729_method_31_code 10 (some (.object "java/lang/Object")) := C
  show Goes p e below _ T0 (mkF m 0 #[.val (.ref tm), .val (.ref ky), .val (.ref vl), .val (.int 0), .unset, .unset, .unset, .unset, .unset, .unset] [])
  refine g_aloadN C X0 d22_0 rfl rfl (g_getfield (host := "") C X0 (Or.inl (wd hw 150 rfl)) Via.refl F_tm_root d22_1 (fun T344 X344 => ?_))
  refine g_astore C X344 d22_4 rfl (l' := #[.val (.ref tm), .val (.ref ky), .val (.ref vl), .val (.int 0), .val (.ref pe), .unset, .unset, .unset, .unset, .unset]) rfl (g_aload C X344 d22_6 rfl rfl (g_ifnonnull C X344 d22_8 rfl (fun _ => ?_) (fun q => absurd q nofun)))
  refine g_aloadN C X344 d22_19 rfl rfl (g_getfield (host := "") C X344 (Or.inl (wd hw 93 rfl)) Via.refl F_tm_comparator d22_20 (fun T345 X345 => ?_))
  refine g_astore C X345 d22_23 rfl (l' := #[.val (.ref tm), .val (.ref ky), .val (.ref vl), .val (.int 0), .val (.ref pe), .unset, .unset, .val .null, .unset, .unset]) rfl (g_aload C X345 d22_25 rfl rfl (g_ifnull C X345 d22_27 rfl (fun _ => ?_) (fun q => absurd rfl q)))
  refine g_aloadN C X345 d22_112 rfl rfl (g_staticP (argsL := [(.ref ky)]) (st := []) C X345 (wd hw 200 rfl) (wd hw 201 rfl) (wd hw 202 rfl) (wd hw 203 rfl) (by decide) (pay_of (W' := 0) (rReq l hw X345.ext ky) C.hZ (wd hw 203 rfl) (wd hw 202 rfl) (by decide) (by decide)) pd_19 rfl rfl _ rfl (Nat.le_of_eq rfl) d22_113 (by decide) (by decide) (fun T346 X346 => ?_))
  refine g_pop C X346 d22_116 rfl (g_aloadN C X346 d22_117 rfl rfl (g_checkcast C X346 (wd hw 162 rfl) (Ins.of_exa E_ky (wd hw 163 rfl)) d22_118 (fun T347 X347 => ?_)))
  refine g_astore C X347 d22_121 rfl (l' := #[.val (.ref tm), .val (.ref ky), .val (.ref vl), .val (.int 0), .val (.ref pe), .unset, .unset, .val .null, .val (.ref ky), .unset]) rfl (g_aload C X347 d22_123 rfl rfl (g_astore C X347 d22_125 rfl (l' := #[.val (.ref tm), .val (.ref ky), .val (.ref vl), .val (.int 0), .val (.ref pe), .unset, .val (.ref pe), .val .null, .val (.ref ky), .unset]) rfl (g_aload C X347 d22_127 rfl rfl (g_aload C X347 d22_129 rfl rfl (g_getfield (host := "") C X347 (Or.inl (wd hw 204 rfl)) Via.refl F_pe_key d22_131 (fun T348 X348 => ?_))))))
  refine g_interfaceP (argsL := [(.ref kp)]) (st := []) C X348 (wd hw 164 rfl) (wd hw 165 rfl) (mvT C.hZ (wd hw 166 rfl)) (wd hw 167 rfl) (wd hw 168 rfl) (wd hw 169 rfl) (mvT C.hZ (wd hw 170 rfl)) (wd hw 163 rfl) (by decide) E_ky (pay_of (W' := 0) (rCt2 l hw X348.ext ky kp x y E_ky F_ky_value E_kp F_kp_value) C.hZ (wd hw 171 rfl) (wd hw 115 rfl) (by decide) (by decide)) pd_13 rfl rfl _ rfl (Nat.le_of_eq rfl) d22_134 (by decide) (by decide) (fun T349 X349 => ?_)
  refine g_istore C X349 d22_139 (l' := #[.val (.ref tm), .val (.ref ky), .val (.ref vl), .val (.int 0), .val (.ref pe), .val (.int (own_cmp x y)), .val (.ref pe), .val .null, .val (.ref ky), .unset]) rfl (g_iload C X349 d22_141 rfl (g_ifn (h0_ge _) C X349 d22_143 (fun q => absurd (own_c_lt hv) q) (fun _ => ?_)))
  refine g_aload C X349 d22_146 rfl rfl (g_getfield (host := "") C X349 (Or.inl (wd hw 232 rfl)) Via.refl F_pe_left d22_148 (fun T350 X350 => ?_))
  refine g_astore C X350 d22_151 rfl (l' := #[.val (.ref tm), .val (.ref ky), .val (.ref vl), .val (.int 0), .val .null, .val (.int (own_cmp x y)), .val (.ref pe), .val .null, .val (.ref ky), .unset]) rfl (g_goto C X350 d22_153 (g_aload C X350 d22_196 rfl rfl (g_ifnonnull C X350 d22_198 rfl (fun q => absurd rfl q) (fun _ => ?_))))
  refine g_aloadN C X350 d22_201 rfl rfl (g_aloadN C X350 d22_202 rfl rfl (g_aloadN C X350 d22_203 rfl rfl (g_aload C X350 d22_204 rfl rfl (g_iload C X350 d22_206 rfl (g_ifn (h0_ge _) C X350 d22_208 (fun q => absurd (own_c_lt hv) q) (fun _ => ?_))))))
  refine g_iconst 1 C X350 d22_211 rfl (g_goto C X350 d22_212 (g_private (argsL := [(.ref ky), (.ref vl), (.ref pe), (.int 1)]) (st := []) C X350 (wd hw 207 rfl) (wd hw 208 rfl) (mvT C.hZ (wd hw 210 rfl)) (wd hw 209 rfl) (wd hw 211 rfl) (by decide) E_tm (pay_of (W' := 0) (rAd1 l hw X350.ext tm ky vl pe kp vp E_tm F_tm_comparator F_tm_root F_tm_size F_tm_modCount E_pe F_pe_key F_pe_value F_pe_left F_pe_right F_pe_parent F_pe_color hn hnp n3) C.hZ (wd hw 211 rfl) (wd hw 78 rfl) (by decide) (by decide)) pd_20 rfl rfl _ rfl (Nat.le_of_eq rfl) d22_216 (by decide) (by decide) (fun T351 h351 v351 q351 X351 => ?_)))
  obtain ⟨rfl, K351⟩ := q351
  show Goes p e below _ T351 (mkF m 219 #[.val (.ref tm), .val (.ref ky), .val (.ref vl), .val (.int 0), .val .null, .val (.int (own_cmp x y)), .val (.ref pe), .val .null, .val (.ref ky), .unset] [])
  refine g_aconst_null C X351 d22_219 ?_
  have kp352 := (Keep.refl h [tm, pe]).trans K351 (allS (Or.inl (by simp)) (allS (Or.inl (by simp)) all0))
  exact g_retA C X351 rfl rfl d22_220 (by decide) (by decide) ⟨rfl, kp352⟩
theorem ef_rQ1l (m : MethodId) (tm : Addr) (ky : Addr) (vl : Addr) : entryFrame m #[(.ref tm), (.ref ky), (.ref vl)] 3 = mkF m 0 #[.val (.ref tm), .val (.ref ky), .val (.ref vl)] [] := by first | (simp [entryFrame, mkF, argsToLocals, Value.category]; done) | rfl
theorem rQ1l (l : Launch) {Z : State} {a0 : Array Value} (hw : ∀ d ∈ tables_1, d.before a0 Z = true) {h : Heap} (hE : Ext Z.heap h) (tm : Addr) (ky : Addr) (vl : Addr) (pe kp vp : Addr) (x y : Int32) (E_tm : Exa Z h tm "java/util/TreeMap") (F_tm_comparator : Fld Z h tm "java/util/TreeMap" "comparator" "Ljava/util/Comparator;" .null) (F_tm_root : Fld Z h tm "java/util/TreeMap" "root" "Ljava/util/TreeMap$Entry;" (.ref pe)) (F_tm_size : Fld Z h tm "java/util/TreeMap" "size" "I" (.int 1)) (F_tm_modCount : Fld Z h tm "java/util/TreeMap" "modCount" "I" (.int 1)) (E_pe : Exa Z h pe "java/util/TreeMap$Entry") (F_pe_key : Fld Z h pe "java/util/TreeMap$Entry" "key" "Ljava/lang/Object;" (.ref kp)) (F_pe_value : Fld Z h pe "java/util/TreeMap$Entry" "value" "Ljava/lang/Object;" (.ref vp)) (F_pe_left : Fld Z h pe "java/util/TreeMap$Entry" "left" "Ljava/util/TreeMap$Entry;" .null) (F_pe_right : Fld Z h pe "java/util/TreeMap$Entry" "right" "Ljava/util/TreeMap$Entry;" .null) (F_pe_parent : Fld Z h pe "java/util/TreeMap$Entry" "parent" "Ljava/util/TreeMap$Entry;" .null) (F_pe_color : Fld Z h pe "java/util/TreeMap$Entry" "color" "Z" (.int 1)) (hn : Z.heap.size ≤ tm) (hnp : Z.heap.size ≤ pe) (n3 : tm ≠ pe) (E_ky : Exa Z h ky "java/lang/Integer") (F_ky_value : Fld Z h ky "java/lang/Integer" "value" "I" (.int x)) (E_kp : Exa Z h kp "java/lang/Integer") (F_kp_value : Fld Z h kp "java/lang/Integer" "value" "I" (.int y)) (hv : x < y) :
    Con l (⟨"java/util/TreeMap", "putIfAbsent", "(Ljava/lang/Object;Ljava/lang/Object;)Ljava/lang/Object;"⟩ : MethodName) jdk_2729_method_22_code 3 (some (.object "java/lang/Object")) [] ({ frames := 5, cells := 1, slots := 6, locals := 120 } : Room) Z #[(.ref tm), (.ref ky), (.ref vl)] h (fun v' h' => v' = some .null ∧ Keep h h' [tm, pe]) := by
  refine con_of (plainFor_of_name pn_7) hE (fun m => ef_rQ1l m tm ky vl) ?_
  intro p e s m below meth c T0 C X0
  have C : Cx p s m meth c Z "java/util/TreeMap" "putIfAbsent" jdk_2729_method_22_code 3 (some (.object "java/lang/Object")) := C
  show Goes p e below _ T0 (mkF m 0 #[.val (.ref tm), .val (.ref ky), .val (.ref vl)] [])
  refine g_aloadN C X0 d21_0 rfl rfl (g_aloadN C X0 d21_1 rfl rfl (g_aloadN C X0 d21_2 rfl rfl (g_iconst 0 C X0 d21_3 rfl (g_private (argsL := [(.ref ky), (.ref vl), (.int 0)]) (st := []) C X0 (wd hw 145 rfl) (wd hw 146 rfl) (mvT C.hZ (wd hw 148 rfl)) (wd hw 147 rfl) (wd hw 149 rfl) (by decide) E_tm (pay_of (W' := 0) (rP1l l hw X0.ext tm ky vl pe kp vp x y E_tm F_tm_comparator F_tm_root F_tm_size F_tm_modCount E_pe F_pe_key F_pe_value F_pe_left F_pe_right F_pe_parent F_pe_color hn hnp n3 E_ky F_ky_value E_kp F_kp_value hv) C.hZ (wd hw 149 rfl) (wd hw 78 rfl) (by decide) (by decide)) pd_17 rfl rfl _ rfl (Nat.le_of_eq rfl) d21_4 (by decide) (by decide) (fun T353 h353 v353 q353 X353 => ?_)))))
  obtain ⟨rfl, K353⟩ := q353
  show Goes p e below _ T353 (mkF m 7 #[.val (.ref tm), .val (.ref ky), .val (.ref vl)] [.null])
  exact g_retA C X353 rfl rfl d21_7 (by decide) (by decide) ⟨rfl, K353⟩
theorem ef_rP1e (m : MethodId) (tm : Addr) (ky : Addr) (vl : Addr) : entryFrame m #[(.ref tm), (.ref ky), (.ref vl), (.int 0)] 10 = mkF m 0 #[.val (.ref tm), .val (.ref ky), .val (.ref vl), .val (.int 0), .unset, .unset, .unset, .unset, .unset, .unset] [] := by first | (simp [entryFrame, mkF, argsToLocals, Value.category]; done) | rfl
theorem d22_156 : Dc jdk_2729_method_31_code 156 (.iload 5) 2 158 := ⟨by decide +kernel, rfl⟩
theorem d22_158 : Dj jdk_2729_method_31_code 158 (.ifCond .le 13) 13 3 161 171 := ⟨by decide +kernel, rfl, by decide, by decide⟩
theorem d22_171 : Dc jdk_2729_method_31_code 171 (.aload 4) 2 173 := ⟨by decide +kernel, rfl⟩
theorem d22_173 : Dc jdk_2729_method_31_code 173 (.getfield 58) 3 176 := ⟨by decide +kernel, rfl⟩
theorem d22_176 : Dc jdk_2729_method_31_code 176 (.astore 9) 2 178 := ⟨by decide +kernel, rfl⟩
theorem d22_178 : Dc jdk_2729_method_31_code 178 (.iload_n 3) 1 179 := ⟨by decide +kernel, rfl⟩
theorem d22_179 : Dj jdk_2729_method_31_code 179 (.ifCond .ne 8) 8 3 182 187 := ⟨by decide +kernel, rfl, by decide, by decide⟩
theorem d22_182 : Dc jdk_2729_method_31_code 182 (.aload 9) 2 184 := ⟨by decide +kernel, rfl⟩
theorem d22_184 : Dj jdk_2729_method_31_code 184 (.ifnonnull 9) 9 3 187 193 := ⟨by decide +kernel, rfl, by decide, by decide⟩
theorem d22_193 : Dc jdk_2729_method_31_code 193 (.aload 9) 2 195 := ⟨by decide +kernel, rfl⟩
theorem d22_195 : Dc jdk_2729_method_31_code 195 (.areturn) 1 196 := ⟨by decide +kernel, rfl⟩
theorem rP1e (l : Launch) {Z : State} {a0 : Array Value} (hw : ∀ d ∈ tables_1, d.before a0 Z = true) {h : Heap} (hE : Ext Z.heap h) (tm : Addr) (ky : Addr) (vl : Addr) (pe kp vp : Addr) (x y : Int32) (E_tm : Exa Z h tm "java/util/TreeMap") (F_tm_comparator : Fld Z h tm "java/util/TreeMap" "comparator" "Ljava/util/Comparator;" .null) (F_tm_root : Fld Z h tm "java/util/TreeMap" "root" "Ljava/util/TreeMap$Entry;" (.ref pe)) (F_tm_size : Fld Z h tm "java/util/TreeMap" "size" "I" (.int 1)) (F_tm_modCount : Fld Z h tm "java/util/TreeMap" "modCount" "I" (.int 1)) (E_pe : Exa Z h pe "java/util/TreeMap$Entry") (F_pe_key : Fld Z h pe "java/util/TreeMap$Entry" "key" "Ljava/lang/Object;" (.ref kp)) (F_pe_value : Fld Z h pe "java/util/TreeMap$Entry" "value" "Ljava/lang/Object;" (.ref vp)) (F_pe_left : Fld Z h pe "java/util/TreeMap$Entry" "left" "Ljava/util/TreeMap$Entry;" .null) (F_pe_right : Fld Z h pe "java/util/TreeMap$Entry" "right" "Ljava/util/TreeMap$Entry;" .null) (F_pe_parent : Fld Z h pe "java/util/TreeMap$Entry" "parent" "Ljava/util/TreeMap$Entry;" .null) (F_pe_color : Fld Z h pe "java/util/TreeMap$Entry" "color" "Z" (.int 1)) (hn : Z.heap.size ≤ tm) (hnp : Z.heap.size ≤ pe) (n3 : tm ≠ pe) (E_ky : Exa Z h ky "java/lang/Integer") (F_ky_value : Fld Z h ky "java/lang/Integer" "value" "I" (.int x)) (E_kp : Exa Z h kp "java/lang/Integer") (F_kp_value : Fld Z h kp "java/lang/Integer" "value" "I" (.int y)) (hv : ¬ x < y) (hv2 : x = y) :
    Con l (⟨"java/util/TreeMap", "put", "(Ljava/lang/Object;Ljava/lang/Object;Z)Ljava/lang/Object;"⟩ : MethodName) jdk_2729_method_31_code 10 (some (.object "java/lang/Object")) [] ({ frames := 4, cells := 1, slots := 6, locals := 96 } : Room) Z #[(.ref tm), (.ref ky), (.ref vl), (.int 0)] h (fun v' h' => v' = some (.ref vp) ∧ Keep h h' [tm, pe]) := by
  refine con_of (plainFor_of_name pn_7) hE (fun m => ef_rP1e m tm ky vl) ?_
  intro p e s m below meth c T0 C X0
  have C : Cx p s m meth c Z "java/util/TreeMap" "put" jdk_2729_method_31_code 10 (some (.object "java/lang/Object")) := C
  show Goes p e below _ T0 (mkF m 0 #[.val (.ref tm), .val (.ref ky), .val (.ref vl), .val (.int 0), .unset, .unset, .unset, .unset, .unset, .unset] [])
  refine g_aloadN C X0 d22_0 rfl rfl (g_getfield (host := "") C X0 (Or.inl (wd hw 150 rfl)) Via.refl F_tm_root d22_1 (fun T354 X354 => ?_))
  refine g_astore C X354 d22_4 rfl (l' := #[.val (.ref tm), .val (.ref ky), .val (.ref vl), .val (.int 0), .val (.ref pe), .unset, .unset, .unset, .unset, .unset]) rfl (g_aload C X354 d22_6 rfl rfl (g_ifnonnull C X354 d22_8 rfl (fun _ => ?_) (fun q => absurd q nofun)))
  refine g_aloadN C X354 d22_19 rfl rfl (g_getfield (host := "") C X354 (Or.inl (wd hw 93 rfl)) Via.refl F_tm_comparator d22_20 (fun T355 X355 => ?_))
  refine g_astore C X355 d22_23 rfl (l' := #[.val (.ref tm), .val (.ref ky), .val (.ref vl), .val (.int 0), .val (.ref pe), .unset, .unset, .val .null, .unset, .unset]) rfl (g_aload C X355 d22_25 rfl rfl (g_ifnull C X355 d22_27 rfl (fun _ => ?_) (fun q => absurd rfl q)))
  refine g_aloadN C X355 d22_112 rfl rfl (g_staticP (argsL := [(.ref ky)]) (st := []) C X355 (wd hw 200 rfl) (wd hw 201 rfl) (wd hw 202 rfl) (wd hw 203 rfl) (by decide) (pay_of (W' := 0) (rReq l hw X355.ext ky) C.hZ (wd hw 203 rfl) (wd hw 202 rfl) (by decide) (by decide)) pd_19 rfl rfl _ rfl (Nat.le_of_eq rfl) d22_113 (by decide) (by decide) (fun T356 X356 => ?_))
  refine g_pop C X356 d22_116 rfl (g_aloadN C X356 d22_117 rfl rfl (g_checkcast C X356 (wd hw 162 rfl) (Ins.of_exa E_ky (wd hw 163 rfl)) d22_118 (fun T357 X357 => ?_)))
  refine g_astore C X357 d22_121 rfl (l' := #[.val (.ref tm), .val (.ref ky), .val (.ref vl), .val (.int 0), .val (.ref pe), .unset, .unset, .val .null, .val (.ref ky), .unset]) rfl (g_aload C X357 d22_123 rfl rfl (g_astore C X357 d22_125 rfl (l' := #[.val (.ref tm), .val (.ref ky), .val (.ref vl), .val (.int 0), .val (.ref pe), .unset, .val (.ref pe), .val .null, .val (.ref ky), .unset]) rfl (g_aload C X357 d22_127 rfl rfl (g_aload C X357 d22_129 rfl rfl (g_getfield (host := "") C X357 (Or.inl (wd hw 204 rfl)) Via.refl F_pe_key d22_131 (fun T358 X358 => ?_))))))
  refine g_interfaceP (argsL := [(.ref kp)]) (st := []) C X358 (wd hw 164 rfl) (wd hw 165 rfl) (mvT C.hZ (wd hw 166 rfl)) (wd hw 167 rfl) (wd hw 168 rfl) (wd hw 169 rfl) (mvT C.hZ (wd hw 170 rfl)) (wd hw 163 rfl) (by decide) E_ky (pay_of (W' := 0) (rCt2 l hw X358.ext ky kp x y E_ky F_ky_value E_kp F_kp_value) C.hZ (wd hw 171 rfl) (wd hw 115 rfl) (by decide) (by decide)) pd_13 rfl rfl _ rfl (Nat.le_of_eq rfl) d22_134 (by decide) (by decide) (fun T359 X359 => ?_)
  refine g_istore C X359 d22_139 (l' := #[.val (.ref tm), .val (.ref ky), .val (.ref vl), .val (.int 0), .val (.ref pe), .val (.int (own_cmp x y)), .val (.ref pe), .val .null, .val (.ref ky), .unset]) rfl (g_iload C X359 d22_141 rfl (g_ifn (h0_ge _) C X359 d22_143 (fun _ => ?_) (fun q => absurd q (by rw [own_c_eq hv hv2]; decide))))
  refine g_iload C X359 d22_156 rfl (g_ifn (h0_le _) C X359 d22_158 (fun _ => ?_) (fun q => absurd q (by rw [own_c_eq hv hv2]; decide)))
  refine g_aload C X359 d22_171 rfl rfl (g_getfield (host := "") C X359 (Or.inl (wd hw 245 rfl)) Via.refl F_pe_value d22_173 (fun T360 X360 => ?_))
  refine g_astore C X360 d22_176 rfl (l' := #[.val (.ref tm), .val (.ref ky), .val (.ref vl), .val (.int 0), .val (.ref pe), .val (.int (own_cmp x y)), .val (.ref pe), .val .null, .val (.ref ky), .val (.ref vp)]) rfl (g_iloadN C X360 d22_178 rfl (g_ifn (h0_ne _) C X360 d22_179 (fun q => absurd (by decide) q) (fun _ => ?_)))
  refine g_aload C X360 d22_182 rfl rfl (g_ifnonnull C X360 d22_184 rfl (fun _ => ?_) (fun q => absurd q nofun))
  refine g_aload C X360 d22_193 rfl rfl ?_
  exact g_retA C X360 rfl rfl d22_195 (by decide) (by decide) ⟨rfl, (Keep.refl h [tm, pe])⟩
theorem ef_rQ1e (m : MethodId) (tm : Addr) (ky : Addr) (vl : Addr) : entryFrame m #[(.ref tm), (.ref ky), (.ref vl)] 3 = mkF m 0 #[.val (.ref tm), .val (.ref ky), .val (.ref vl)] [] := by first | (simp [entryFrame, mkF, argsToLocals, Value.category]; done) | rfl
theorem rQ1e (l : Launch) {Z : State} {a0 : Array Value} (hw : ∀ d ∈ tables_1, d.before a0 Z = true) {h : Heap} (hE : Ext Z.heap h) (tm : Addr) (ky : Addr) (vl : Addr) (pe kp vp : Addr) (x y : Int32) (E_tm : Exa Z h tm "java/util/TreeMap") (F_tm_comparator : Fld Z h tm "java/util/TreeMap" "comparator" "Ljava/util/Comparator;" .null) (F_tm_root : Fld Z h tm "java/util/TreeMap" "root" "Ljava/util/TreeMap$Entry;" (.ref pe)) (F_tm_size : Fld Z h tm "java/util/TreeMap" "size" "I" (.int 1)) (F_tm_modCount : Fld Z h tm "java/util/TreeMap" "modCount" "I" (.int 1)) (E_pe : Exa Z h pe "java/util/TreeMap$Entry") (F_pe_key : Fld Z h pe "java/util/TreeMap$Entry" "key" "Ljava/lang/Object;" (.ref kp)) (F_pe_value : Fld Z h pe "java/util/TreeMap$Entry" "value" "Ljava/lang/Object;" (.ref vp)) (F_pe_left : Fld Z h pe "java/util/TreeMap$Entry" "left" "Ljava/util/TreeMap$Entry;" .null) (F_pe_right : Fld Z h pe "java/util/TreeMap$Entry" "right" "Ljava/util/TreeMap$Entry;" .null) (F_pe_parent : Fld Z h pe "java/util/TreeMap$Entry" "parent" "Ljava/util/TreeMap$Entry;" .null) (F_pe_color : Fld Z h pe "java/util/TreeMap$Entry" "color" "Z" (.int 1)) (hn : Z.heap.size ≤ tm) (hnp : Z.heap.size ≤ pe) (n3 : tm ≠ pe) (E_ky : Exa Z h ky "java/lang/Integer") (F_ky_value : Fld Z h ky "java/lang/Integer" "value" "I" (.int x)) (E_kp : Exa Z h kp "java/lang/Integer") (F_kp_value : Fld Z h kp "java/lang/Integer" "value" "I" (.int y)) (hv : ¬ x < y) (hv2 : x = y) :
    Con l (⟨"java/util/TreeMap", "putIfAbsent", "(Ljava/lang/Object;Ljava/lang/Object;)Ljava/lang/Object;"⟩ : MethodName) jdk_2729_method_22_code 3 (some (.object "java/lang/Object")) [] ({ frames := 5, cells := 1, slots := 6, locals := 120 } : Room) Z #[(.ref tm), (.ref ky), (.ref vl)] h (fun v' h' => v' = some (.ref vp) ∧ Keep h h' [tm, pe]) := by
  refine con_of (plainFor_of_name pn_7) hE (fun m => ef_rQ1e m tm ky vl) ?_
  intro p e s m below meth c T0 C X0
  have C : Cx p s m meth c Z "java/util/TreeMap" "putIfAbsent" jdk_2729_method_22_code 3 (some (.object "java/lang/Object")) := C
  show Goes p e below _ T0 (mkF m 0 #[.val (.ref tm), .val (.ref ky), .val (.ref vl)] [])
  refine g_aloadN C X0 d21_0 rfl rfl (g_aloadN C X0 d21_1 rfl rfl (g_aloadN C X0 d21_2 rfl rfl (g_iconst 0 C X0 d21_3 rfl (g_private (argsL := [(.ref ky), (.ref vl), (.int 0)]) (st := []) C X0 (wd hw 145 rfl) (wd hw 146 rfl) (mvT C.hZ (wd hw 148 rfl)) (wd hw 147 rfl) (wd hw 149 rfl) (by decide) E_tm (pay_of (W' := 0) (rP1e l hw X0.ext tm ky vl pe kp vp x y E_tm F_tm_comparator F_tm_root F_tm_size F_tm_modCount E_pe F_pe_key F_pe_value F_pe_left F_pe_right F_pe_parent F_pe_color hn hnp n3 E_ky F_ky_value E_kp F_kp_value hv hv2) C.hZ (wd hw 149 rfl) (wd hw 78 rfl) (by decide) (by decide)) pd_17 rfl rfl _ rfl (Nat.le_of_eq rfl) d21_4 (by decide) (by decide) (fun T361 h361 v361 q361 X361 => ?_)))))
  obtain ⟨rfl, K361⟩ := q361
  show Goes p e below _ T361 (mkF m 7 #[.val (.ref tm), .val (.ref ky), .val (.ref vl)] [(.ref vp)])
  exact g_retA C X361 rfl rfl d21_7 (by decide) (by decide) ⟨rfl, K361⟩
theorem ef_rP1g (m : MethodId) (tm : Addr) (ky : Addr) (vl : Addr) : entryFrame m #[(.ref tm), (.ref ky), (.ref vl), (.int 0)] 10 = mkF m 0 #[.val (.ref tm), .val (.ref ky), .val (.ref vl), .val (.int 0), .unset, .unset, .unset, .unset, .unset, .unset] [] := by first | (simp [entryFrame, mkF, argsToLocals, Value.category]; done) | rfl
theorem d22_161 : Dc jdk_2729_method_31_code 161 (.aload 4) 2 163 := ⟨by decide +kernel, rfl⟩
theorem d22_163 : Dc jdk_2729_method_31_code 163 (.getfield 114) 3 166 := ⟨by decide +kernel, rfl⟩
theorem d22_166 : Dc jdk_2729_method_31_code 166 (.astore 4) 2 168 := ⟨by decide +kernel, rfl⟩
theorem d22_168 : Dj jdk_2729_method_31_code 168 (.goto 28) 28 3 171 196 := ⟨by decide +kernel, rfl, by decide, by decide⟩
theorem d22_215 : Dc jdk_2729_method_31_code 215 (.iconst 0) 1 216 := ⟨by decide +kernel, rfl⟩
theorem rP1g (l : Launch) {Z : State} {a0 : Array Value} (hw : ∀ d ∈ tables_1, d.before a0 Z = true) {h : Heap} (hE : Ext Z.heap h) (tm : Addr) (ky : Addr) (vl : Addr) (pe kp vp : Addr) (x y : Int32) (E_tm : Exa Z h tm "java/util/TreeMap") (F_tm_comparator : Fld Z h tm "java/util/TreeMap" "comparator" "Ljava/util/Comparator;" .null) (F_tm_root : Fld Z h tm "java/util/TreeMap" "root" "Ljava/util/TreeMap$Entry;" (.ref pe)) (F_tm_size : Fld Z h tm "java/util/TreeMap" "size" "I" (.int 1)) (F_tm_modCount : Fld Z h tm "java/util/TreeMap" "modCount" "I" (.int 1)) (E_pe : Exa Z h pe "java/util/TreeMap$Entry") (F_pe_key : Fld Z h pe "java/util/TreeMap$Entry" "key" "Ljava/lang/Object;" (.ref kp)) (F_pe_value : Fld Z h pe "java/util/TreeMap$Entry" "value" "Ljava/lang/Object;" (.ref vp)) (F_pe_left : Fld Z h pe "java/util/TreeMap$Entry" "left" "Ljava/util/TreeMap$Entry;" .null) (F_pe_right : Fld Z h pe "java/util/TreeMap$Entry" "right" "Ljava/util/TreeMap$Entry;" .null) (F_pe_parent : Fld Z h pe "java/util/TreeMap$Entry" "parent" "Ljava/util/TreeMap$Entry;" .null) (F_pe_color : Fld Z h pe "java/util/TreeMap$Entry" "color" "Z" (.int 1)) (hn : Z.heap.size ≤ tm) (hnp : Z.heap.size ≤ pe) (n3 : tm ≠ pe) (E_ky : Exa Z h ky "java/lang/Integer") (F_ky_value : Fld Z h ky "java/lang/Integer" "value" "I" (.int x)) (E_kp : Exa Z h kp "java/lang/Integer") (F_kp_value : Fld Z h kp "java/lang/Integer" "value" "I" (.int y)) (hv : ¬ x < y) (hv2 : ¬ x = y) :
    Con l (⟨"java/util/TreeMap", "put", "(Ljava/lang/Object;Ljava/lang/Object;Z)Ljava/lang/Object;"⟩ : MethodName) jdk_2729_method_31_code 10 (some (.object "java/lang/Object")) [] ({ frames := 4, cells := 1, slots := 6, locals := 96 } : Room) Z #[(.ref tm), (.ref ky), (.ref vl), (.int 0)] h (fun v' h' => v' = some .null ∧ Keep h h' [tm, pe]) := by
  refine con_of (plainFor_of_name pn_7) hE (fun m => ef_rP1g m tm ky vl) ?_
  intro p e s m below meth c T0 C X0
  have C : Cx p s m meth c Z "java/util/TreeMap" "put" jdk_2729_method_31_code 10 (some (.object "java/lang/Object")) := C
  show Goes p e below _ T0 (mkF m 0 #[.val (.ref tm), .val (.ref ky), .val (.ref vl), .val (.int 0), .unset, .unset, .unset, .unset, .unset, .unset] [])
  refine g_aloadN C X0 d22_0 rfl rfl (g_getfield (host := "") C X0 (Or.inl (wd hw 150 rfl)) Via.refl F_tm_root d22_1 (fun T362 X362 => ?_))
  refine g_astore C X362 d22_4 rfl (l' := #[.val (.ref tm), .val (.ref ky), .val (.ref vl), .val (.int 0), .val (.ref pe), .unset, .unset, .unset, .unset, .unset]) rfl (g_aload C X362 d22_6 rfl rfl (g_ifnonnull C X362 d22_8 rfl (fun _ => ?_) (fun q => absurd q nofun)))
  refine g_aloadN C X362 d22_19 rfl rfl (g_getfield (host := "") C X362 (Or.inl (wd hw 93 rfl)) Via.refl F_tm_comparator d22_20 (fun T363 X363 => ?_))
  refine g_astore C X363 d22_23 rfl (l' := #[.val (.ref tm), .val (.ref ky), .val (.ref vl), .val (.int 0), .val (.ref pe), .unset, .unset, .val .null, .unset, .unset]) rfl (g_aload C X363 d22_25 rfl rfl (g_ifnull C X363 d22_27 rfl (fun _ => ?_) (fun q => absurd rfl q)))
  refine g_aloadN C X363 d22_112 rfl rfl (g_staticP (argsL := [(.ref ky)]) (st := []) C X363 (wd hw 200 rfl) (wd hw 201 rfl) (wd hw 202 rfl) (wd hw 203 rfl) (by decide) (pay_of (W' := 0) (rReq l hw X363.ext ky) C.hZ (wd hw 203 rfl) (wd hw 202 rfl) (by decide) (by decide)) pd_19 rfl rfl _ rfl (Nat.le_of_eq rfl) d22_113 (by decide) (by decide) (fun T364 X364 => ?_))
  refine g_pop C X364 d22_116 rfl (g_aloadN C X364 d22_117 rfl rfl (g_checkcast C X364 (wd hw 162 rfl) (Ins.of_exa E_ky (wd hw 163 rfl)) d22_118 (fun T365 X365 => ?_)))
  refine g_astore C X365 d22_121 rfl (l' := #[.val (.ref tm), .val (.ref ky), .val (.ref vl), .val (.int 0), .val (.ref pe), .unset, .unset, .val .null, .val (.ref ky), .unset]) rfl (g_aload C X365 d22_123 rfl rfl (g_astore C X365 d22_125 rfl (l' := #[.val (.ref tm), .val (.ref ky), .val (.ref vl), .val (.int 0), .val (.ref pe), .unset, .val (.ref pe), .val .null, .val (.ref ky), .unset]) rfl (g_aload C X365 d22_127 rfl rfl (g_aload C X365 d22_129 rfl rfl (g_getfield (host := "") C X365 (Or.inl (wd hw 204 rfl)) Via.refl F_pe_key d22_131 (fun T366 X366 => ?_))))))
  refine g_interfaceP (argsL := [(.ref kp)]) (st := []) C X366 (wd hw 164 rfl) (wd hw 165 rfl) (mvT C.hZ (wd hw 166 rfl)) (wd hw 167 rfl) (wd hw 168 rfl) (wd hw 169 rfl) (mvT C.hZ (wd hw 170 rfl)) (wd hw 163 rfl) (by decide) E_ky (pay_of (W' := 0) (rCt2 l hw X366.ext ky kp x y E_ky F_ky_value E_kp F_kp_value) C.hZ (wd hw 171 rfl) (wd hw 115 rfl) (by decide) (by decide)) pd_13 rfl rfl _ rfl (Nat.le_of_eq rfl) d22_134 (by decide) (by decide) (fun T367 X367 => ?_)
  refine g_istore C X367 d22_139 (l' := #[.val (.ref tm), .val (.ref ky), .val (.ref vl), .val (.int 0), .val (.ref pe), .val (.int (own_cmp x y)), .val (.ref pe), .val .null, .val (.ref ky), .unset]) rfl (g_iload C X367 d22_141 rfl (g_ifn (h0_ge _) C X367 d22_143 (fun _ => ?_) (fun q => absurd q (by rw [own_c_gt hv hv2]; decide))))
  refine g_iload C X367 d22_156 rfl (g_ifn (h0_le _) C X367 d22_158 (fun q => absurd (by rw [own_c_gt hv hv2]; decide) q) (fun _ => ?_))
  refine g_aload C X367 d22_161 rfl rfl (g_getfield (host := "") C X367 (Or.inl (wd hw 205 rfl)) Via.refl F_pe_right d22_163 (fun T368 X368 => ?_))
  refine g_astore C X368 d22_166 rfl (l' := #[.val (.ref tm), .val (.ref ky), .val (.ref vl), .val (.int 0), .val .null, .val (.int (own_cmp x y)), .val (.ref pe), .val .null, .val (.ref ky), .unset]) rfl (g_goto C X368 d22_168 (g_aload C X368 d22_196 rfl rfl (g_ifnonnull C X368 d22_198 rfl (fun q => absurd rfl q) (fun _ => ?_))))
  refine g_aloadN C X368 d22_201 rfl rfl (g_aloadN C X368 d22_202 rfl rfl (g_aloadN C X368 d22_203 rfl rfl (g_aload C X368 d22_204 rfl rfl (g_iload C X368 d22_206 rfl (g_ifn (h0_ge _) C X368 d22_208 (fun _ => ?_) (fun q => absurd q (by rw [own_c_gt hv hv2]; decide)))))))
  refine g_iconst 0 C X368 d22_215 rfl (g_private (argsL := [(.ref ky), (.ref vl), (.ref pe), (.int 0)]) (st := []) C X368 (wd hw 207 rfl) (wd hw 208 rfl) (mvT C.hZ (wd hw 210 rfl)) (wd hw 209 rfl) (wd hw 211 rfl) (by decide) E_tm (pay_of (W' := 0) (rAd0 l hw X368.ext tm ky vl pe kp vp E_tm F_tm_comparator F_tm_root F_tm_size F_tm_modCount E_pe F_pe_key F_pe_value F_pe_left F_pe_right F_pe_parent F_pe_color hn hnp n3) C.hZ (wd hw 211 rfl) (wd hw 78 rfl) (by decide) (by decide)) pd_20 rfl rfl _ rfl (Nat.le_of_eq rfl) d22_216 (by decide) (by decide) (fun T369 h369 v369 q369 X369 => ?_))
  obtain ⟨rfl, K369⟩ := q369
  show Goes p e below _ T369 (mkF m 219 #[.val (.ref tm), .val (.ref ky), .val (.ref vl), .val (.int 0), .val .null, .val (.int (own_cmp x y)), .val (.ref pe), .val .null, .val (.ref ky), .unset] [])
  refine g_aconst_null C X369 d22_219 ?_
  have kp370 := (Keep.refl h [tm, pe]).trans K369 (allS (Or.inl (by simp)) (allS (Or.inl (by simp)) all0))
  exact g_retA C X369 rfl rfl d22_220 (by decide) (by decide) ⟨rfl, kp370⟩
theorem ef_rQ1g (m : MethodId) (tm : Addr) (ky : Addr) (vl : Addr) : entryFrame m #[(.ref tm), (.ref ky), (.ref vl)] 3 = mkF m 0 #[.val (.ref tm), .val (.ref ky), .val (.ref vl)] [] := by first | (simp [entryFrame, mkF, argsToLocals, Value.category]; done) | rfl
theorem rQ1g (l : Launch) {Z : State} {a0 : Array Value} (hw : ∀ d ∈ tables_1, d.before a0 Z = true) {h : Heap} (hE : Ext Z.heap h) (tm : Addr) (ky : Addr) (vl : Addr) (pe kp vp : Addr) (x y : Int32) (E_tm : Exa Z h tm "java/util/TreeMap") (F_tm_comparator : Fld Z h tm "java/util/TreeMap" "comparator" "Ljava/util/Comparator;" .null) (F_tm_root : Fld Z h tm "java/util/TreeMap" "root" "Ljava/util/TreeMap$Entry;" (.ref pe)) (F_tm_size : Fld Z h tm "java/util/TreeMap" "size" "I" (.int 1)) (F_tm_modCount : Fld Z h tm "java/util/TreeMap" "modCount" "I" (.int 1)) (E_pe : Exa Z h pe "java/util/TreeMap$Entry") (F_pe_key : Fld Z h pe "java/util/TreeMap$Entry" "key" "Ljava/lang/Object;" (.ref kp)) (F_pe_value : Fld Z h pe "java/util/TreeMap$Entry" "value" "Ljava/lang/Object;" (.ref vp)) (F_pe_left : Fld Z h pe "java/util/TreeMap$Entry" "left" "Ljava/util/TreeMap$Entry;" .null) (F_pe_right : Fld Z h pe "java/util/TreeMap$Entry" "right" "Ljava/util/TreeMap$Entry;" .null) (F_pe_parent : Fld Z h pe "java/util/TreeMap$Entry" "parent" "Ljava/util/TreeMap$Entry;" .null) (F_pe_color : Fld Z h pe "java/util/TreeMap$Entry" "color" "Z" (.int 1)) (hn : Z.heap.size ≤ tm) (hnp : Z.heap.size ≤ pe) (n3 : tm ≠ pe) (E_ky : Exa Z h ky "java/lang/Integer") (F_ky_value : Fld Z h ky "java/lang/Integer" "value" "I" (.int x)) (E_kp : Exa Z h kp "java/lang/Integer") (F_kp_value : Fld Z h kp "java/lang/Integer" "value" "I" (.int y)) (hv : ¬ x < y) (hv2 : ¬ x = y) :
    Con l (⟨"java/util/TreeMap", "putIfAbsent", "(Ljava/lang/Object;Ljava/lang/Object;)Ljava/lang/Object;"⟩ : MethodName) jdk_2729_method_22_code 3 (some (.object "java/lang/Object")) [] ({ frames := 5, cells := 1, slots := 6, locals := 120 } : Room) Z #[(.ref tm), (.ref ky), (.ref vl)] h (fun v' h' => v' = some .null ∧ Keep h h' [tm, pe]) := by
  refine con_of (plainFor_of_name pn_7) hE (fun m => ef_rQ1g m tm ky vl) ?_
  intro p e s m below meth c T0 C X0
  have C : Cx p s m meth c Z "java/util/TreeMap" "putIfAbsent" jdk_2729_method_22_code 3 (some (.object "java/lang/Object")) := C
  show Goes p e below _ T0 (mkF m 0 #[.val (.ref tm), .val (.ref ky), .val (.ref vl)] [])
  refine g_aloadN C X0 d21_0 rfl rfl (g_aloadN C X0 d21_1 rfl rfl (g_aloadN C X0 d21_2 rfl rfl (g_iconst 0 C X0 d21_3 rfl (g_private (argsL := [(.ref ky), (.ref vl), (.int 0)]) (st := []) C X0 (wd hw 145 rfl) (wd hw 146 rfl) (mvT C.hZ (wd hw 148 rfl)) (wd hw 147 rfl) (wd hw 149 rfl) (by decide) E_tm (pay_of (W' := 0) (rP1g l hw X0.ext tm ky vl pe kp vp x y E_tm F_tm_comparator F_tm_root F_tm_size F_tm_modCount E_pe F_pe_key F_pe_value F_pe_left F_pe_right F_pe_parent F_pe_color hn hnp n3 E_ky F_ky_value E_kp F_kp_value hv hv2) C.hZ (wd hw 149 rfl) (wd hw 78 rfl) (by decide) (by decide)) pd_17 rfl rfl _ rfl (Nat.le_of_eq rfl) d21_4 (by decide) (by decide) (fun T371 h371 v371 q371 X371 => ?_)))))
  obtain ⟨rfl, K371⟩ := q371
  show Goes p e below _ T371 (mkF m 7 #[.val (.ref tm), .val (.ref ky), .val (.ref vl)] [.null])
  exact g_retA C X371 rfl rfl d21_7 (by decide) (by decide) ⟨rfl, K371⟩
theorem own_exne {Z : State} {h : Heap} {a b : Addr} {C D : String} (A : Exa Z h a C) (B : Exa Z h b D) (hn : C ≠ D) : a ≠ b := fun e => by
  subst e
  obtain ⟨c1, k1, a1, a2, a3, -⟩ := A
  obtain ⟨c2, k2, b1, b2, b3, -⟩ := B
  cases a1.symm.trans b1
  obtain ⟨kk, q1, q2⟩ := Vm.findClass_spec a2
  obtain ⟨kk', r1, r2⟩ := Vm.findClass_spec b2
  cases q1.symm.trans r1
  exact hn (q2.symm.trans r2)
def own_gap (e q g : Int32) : Int32 := if q < e then (if g < e then 0 else 1) else 0
theorem ef_rTi (m : MethodId) (tm : Addr) : entryFrame m #[(.ref tm)] 1 = mkF m 0 #[.val (.ref tm)] [] := by first | (simp [entryFrame, mkF, argsToLocals, Value.category]; done) | rfl
theorem d14_0 : Dc jdk_2729_method_1_code 0 (.aload_n 0) 1 1 := ⟨by decide +kernel, rfl⟩
theorem d14_1 : Dc jdk_2729_method_1_code 1 (.invokespecial 1) 3 4 := ⟨by decide +kernel, rfl⟩
theorem d14_4 : Dc jdk_2729_method_1_code 4 (.aload_n 0) 1 5 := ⟨by decide +kernel, rfl⟩
theorem d14_5 : Dc jdk_2729_method_1_code 5 (.iconst 0) 1 6 := ⟨by decide +kernel, rfl⟩
theorem d14_6 : Dc jdk_2729_method_1_code 6 (.putfield 7) 3 9 := ⟨by decide +kernel, rfl⟩
theorem d14_9 : Dc jdk_2729_method_1_code 9 (.aload_n 0) 1 10 := ⟨by decide +kernel, rfl⟩
theorem d14_10 : Dc jdk_2729_method_1_code 10 (.iconst 0) 1 11 := ⟨by decide +kernel, rfl⟩
theorem d14_11 : Dc jdk_2729_method_1_code 11 (.putfield 13) 3 14 := ⟨by decide +kernel, rfl⟩
theorem d14_14 : Dc jdk_2729_method_1_code 14 (.aload_n 0) 1 15 := ⟨by decide +kernel, rfl⟩
theorem d14_15 : Dc jdk_2729_method_1_code 15 (.aconst_null) 1 16 := ⟨by decide +kernel, rfl⟩
theorem d14_16 : Dc jdk_2729_method_1_code 16 (.putfield 16) 3 19 := ⟨by decide +kernel, rfl⟩
theorem d14_19 : Dc jdk_2729_method_1_code 19 (.return_) 1 20 := ⟨by decide +kernel, rfl⟩
theorem rTi (l : Launch) {Z : State} {a0 : Array Value} (hw : ∀ d ∈ tables_1, d.before a0 Z = true) {h : Heap} (hE : Ext Z.heap h) (tm : Addr)  (E_tm : Exa Z h tm "java/util/TreeMap") (F_tm_comparator : Fld Z h tm "java/util/TreeMap" "comparator" "Ljava/util/Comparator;" .null) (F_tm_root : Fld Z h tm "java/util/TreeMap" "root" "Ljava/util/TreeMap$Entry;" .null) (F_tm_size : Fld Z h tm "java/util/TreeMap" "size" "I" (.int 0)) (F_tm_modCount : Fld Z h tm "java/util/TreeMap" "modCount" "I" (.int 0)) (hn : Z.heap.size ≤ tm) :
    Con l (⟨"java/util/TreeMap", "<init>", "()V"⟩ : MethodName) jdk_2729_method_1_code 1 none [] ({ frames := 2, cells := 0, slots := 0, locals := 48 } : Room) Z #[(.ref tm)] h (fun v' h' => v' = none ∧ Keep h h' [tm] ∧ Exa Z h' tm "java/util/TreeMap" ∧ Fld Z h' tm "java/util/TreeMap" "comparator" "Ljava/util/Comparator;" .null ∧ Fld Z h' tm "java/util/TreeMap" "root" "Ljava/util/TreeMap$Entry;" .null ∧ Fld Z h' tm "java/util/TreeMap" "size" "I" (.int 0) ∧ Fld Z h' tm "java/util/TreeMap" "modCount" "I" (.int 0)) := by
  refine con_of (plainFor_of_name pn_7) hE (fun m => ef_rTi m tm) ?_
  intro p e s m below meth c T0 C X0
  have C : Cx p s m meth c Z "java/util/TreeMap" "<init>" jdk_2729_method_1_code 1 none := C
  show Goes p e below _ T0 (mkF m 0 #[.val (.ref tm)] [])
  refine g_aloadN C X0 d14_0 rfl rfl (g_specialP (argsL := []) (st := []) C X0 rfl (wd hw 82 rfl) (wd hw 83 rfl) (wd hw 87 rfl) (by decide) (pay_of (W' := 0) (rAm l hw X0.ext tm) C.hZ (wd hw 87 rfl) (wd hw 86 rfl) (by decide) (by decide)) pd_10 rfl rfl _ rfl (Nat.le_of_eq rfl) d14_1 (by decide) (by decide) (fun T372 X372 => ?_))
  refine g_aloadN C X372 d14_4 rfl rfl (g_iconst 0 C X372 d14_5 rfl (g_putfield (host := "") C X372 (Or.inl (wd hw 89 rfl)) Via.refl F_tm_size E_tm (Or.inl (wd hw 90 rfl)) (wd hw 77 rfl) (ty := .int) (by decide) rfl rfl hn d14_6 (fun T373 h373 X373 W373 => ?_)))
  have f373 := Fld.same W373 F_tm_size
  refine g_aloadN C X373 d14_9 rfl rfl (g_iconst 0 C X373 d14_10 rfl ?_)
  have f374 := (Fld.other W373 F_tm_modCount (Or.inr (slot_ne (Or.inl (wd hw 92 rfl)) (Or.inl (wd hw 90 rfl)) (by decide) (t := .int) (t' := .int) (by decide) (by decide))))
  have f375 := (Exa.wr W373 E_tm)
  refine g_putfield (host := "") C X373 (Or.inl (wd hw 91 rfl)) Via.refl f374 f375 (Or.inl (wd hw 92 rfl)) (wd hw 77 rfl) (ty := .int) (by decide) rfl rfl hn d14_11 (fun T376 h376 X376 W376 => ?_)
  have f376 := Fld.same W376 f374
  refine g_aloadN C X376 d14_14 rfl rfl (g_aconst_null C X376 d14_15 ?_)
  have f377 := (Fld.other W376 (Fld.other W373 F_tm_comparator (Or.inr (slot_ne (Or.inr (wd hw 94 rfl)) (Or.inl (wd hw 90 rfl)) (by decide) (t := (.object "java/util/Comparator")) (t' := .int) (by decide) (by decide)))) (Or.inr (slot_ne (Or.inr (wd hw 94 rfl)) (Or.inl (wd hw 92 rfl)) (by decide) (t := (.object "java/util/Comparator")) (t' := .int) (by decide) (by decide))))
  have f378 := (Exa.wr W376 f375)
  refine g_putfield (host := "") C X376 (Or.inl (wd hw 93 rfl)) Via.refl f377 f378 (Or.inr ⟨(wd hw 94 rfl), rfl, rfl⟩) (wd hw 77 rfl) (ty := (.object "java/util/Comparator")) (by decide) rfl rfl hn d14_16 (fun T379 h379 X379 W379 => ?_)
  have f379 := Fld.same W379 f377
  have kp380 := (Keep.refl h [tm]).wr W373 (Or.inl (by simp))
  have kp381 := kp380.wr W376 (Or.inl (by simp))
  have kp382 := kp381.wr W379 (Or.inl (by simp))
  have f383 := (Exa.wr W379 f378)
  have f384 := (Fld.other W379 (Fld.other W376 (Fld.other W373 F_tm_root (Or.inr (slot_ne (Or.inl (wd hw 151 rfl)) (Or.inl (wd hw 90 rfl)) (by decide) (t := (.object "java/util/TreeMap$Entry")) (t' := .int) (by decide) (by decide)))) (Or.inr (slot_ne (Or.inl (wd hw 151 rfl)) (Or.inl (wd hw 92 rfl)) (by decide) (t := (.object "java/util/TreeMap$Entry")) (t' := .int) (by decide) (by decide)))) (Or.inr (slot_ne (Or.inl (wd hw 151 rfl)) (Or.inr (wd hw 94 rfl)) (by decide) (t := (.object "java/util/TreeMap$Entry")) (t' := (.object "java/util/Comparator")) (by decide) (by decide))))
  have f385 := (Fld.other W379 (Fld.other W376 f373 (Or.inr (slot_ne (Or.inl (wd hw 90 rfl)) (Or.inl (wd hw 92 rfl)) (by decide) (t := .int) (t' := .int) (by decide) (by decide)))) (Or.inr (slot_ne (Or.inl (wd hw 90 rfl)) (Or.inr (wd hw 94 rfl)) (by decide) (t := .int) (t' := (.object "java/util/Comparator")) (by decide) (by decide))))
  have f386 := (Fld.other W379 f376 (Or.inr (slot_ne (Or.inl (wd hw 92 rfl)) (Or.inr (wd hw 94 rfl)) (by decide) (t := .int) (t' := (.object "java/util/Comparator")) (by decide) (by decide))))
  exact g_retV C X379 d14_19 (by decide) (by decide) ⟨rfl, kp382, f383, f379, f384, f385, f386⟩
theorem pn_10 : plainName "com/example/halyard/halyard/gateway/HeldMessages" = true := by first | (simp [plainName, overriddenIn]; done) | decide +kernel
theorem ef_rHi (m : MethodId) (hm : Addr) : entryFrame m #[(.ref hm)] 1 = mkF m 0 #[.val (.ref hm)] [] := by first | (simp [entryFrame, mkF, argsToLocals, Value.category]; done) | rfl
theorem d13_0 : Dc prog_43_method_1_code 0 (.aload_n 0) 1 1 := ⟨by decide +kernel, rfl⟩
theorem d13_1 : Dc prog_43_method_1_code 1 (.invokespecial 1) 3 4 := ⟨by decide +kernel, rfl⟩
theorem d13_4 : Dc prog_43_method_1_code 4 (.aload_n 0) 1 5 := ⟨by decide +kernel, rfl⟩
theorem d13_5 : Dc prog_43_method_1_code 5 (.new 7) 3 8 := ⟨by decide +kernel, rfl⟩
theorem d13_8 : Dc prog_43_method_1_code 8 (.dup) 1 9 := ⟨by decide +kernel, rfl⟩
theorem d13_9 : Dc prog_43_method_1_code 9 (.invokespecial 9) 3 12 := ⟨by decide +kernel, rfl⟩
theorem d13_12 : Dc prog_43_method_1_code 12 (.putfield 10) 3 15 := ⟨by decide +kernel, rfl⟩
theorem d13_15 : Dc prog_43_method_1_code 15 (.return_) 1 16 := ⟨by decide +kernel, rfl⟩
theorem rHi (l : Launch) {Z : State} {a0 : Array Value} (hw : ∀ d ∈ tables_1, d.before a0 Z = true) {h : Heap} (hE : Ext Z.heap h) (hm : Addr)  (E_hm : Exa Z h hm "com/example/halyard/halyard/gateway/HeldMessages") (F_hm_held : Fld Z h hm "com/example/halyard/halyard/gateway/HeldMessages" "held" "Ljava/util/NavigableMap;" .null) (F_hm_highestCome : Fld Z h hm "com/example/halyard/halyard/gateway/HeldMessages" "highestCome" "I" (.int 0)) (F_hm_bytes : Fld Z h hm "com/example/halyard/halyard/gateway/HeldMessages" "bytes" "J" (.long 0)) (F_hm_askedThrough : Fld Z h hm "com/example/halyard/halyard/gateway/HeldMessages" "askedThrough" "I" (.int 0)) (hn : Z.heap.size ≤ hm) :
    Con l (⟨"com/example/halyard/halyard/gateway/HeldMessages", "<init>", "()V"⟩ : MethodName) prog_43_method_1_code 1 none [] ({ frames := 3, cells := 1, slots := 9, locals := 72 } : Room) Z #[(.ref hm)] h (fun v' h' => v' = none ∧ Keep h h' [hm] ∧ ∃ tm, Z.heap.size ≤ tm ∧ h.size ≤ tm ∧ Exa Z h' hm "com/example/halyard/halyard/gateway/HeldMessages" ∧ Fld Z h' hm "com/example/halyard/halyard/gateway/HeldMessages" "held" "Ljava/util/NavigableMap;" (.ref tm) ∧ Fld Z h' hm "com/example/halyard/halyard/gateway/HeldMessages" "highestCome" "I" (.int 0) ∧ Fld Z h' hm "com/example/halyard/halyard/gateway/HeldMessages" "bytes" "J" (.long 0) ∧ Fld Z h' hm "com/example/halyard/halyard/gateway/HeldMessages" "askedThrough" "I" (.int 0) ∧ Exa Z h' tm "java/util/TreeMap" ∧ Fld Z h' tm "java/util/TreeMap" "comparator" "Ljava/util/Comparator;" .null ∧ Fld Z h' tm "java/util/TreeMap" "root" "Ljava/util/TreeMap$Entry;" .null ∧ Fld Z h' tm "java/util/TreeMap" "size" "I" (.int 0) ∧ Fld Z h' tm "java/util/TreeMap" "modCount" "I" (.int 0)) := by
  refine con_of (plainFor_of_name pn_10) hE (fun m => ef_rHi m hm) ?_
  intro p e s m below meth c T0 C X0
  have C : Cx p s m meth c Z "com/example/halyard/halyard/gateway/HeldMessages" "<init>" prog_43_method_1_code 1 none := C
  show Goes p e below _ T0 (mkF m 0 #[.val (.ref hm)] [])
  refine g_aloadN C X0 d13_0 rfl rfl (g_initO C X0 (wd hw 75 rfl) (wd hw 19 rfl) (wd hw 20 rfl) rfl d13_1 (by decide) 0 (Nat.le_of_eq rfl) (by decide) (fun T387 X387 => ?_))
  refine g_aloadN C X387 d13_4 rfl rfl (g_new C X387 (wd hw 76 rfl) (wd hw 77 rfl) (wd hw 78 rfl) d13_5 (by decide) (by decide) (fun T388 h388 b388 g_b388 n_b388 X388 E388 A388 D388 M388 => ?_))
  have lt389 : hm < b388 := by rw [g_b388]; exact Exa.lt E_hm
  have F_size_b388 : Fld Z h388 b388 "java/util/TreeMap" "size" "I" (.int 0) := D388 (Or.inl (wd hw 90 rfl)) (ty := .int) (by decide)
  have F_modCount_b388 : Fld Z h388 b388 "java/util/TreeMap" "modCount" "I" (.int 0) := D388 (Or.inl (wd hw 92 rfl)) (ty := .int) (by decide)
  have F_comparator_b388 : Fld Z h388 b388 "java/util/TreeMap" "comparator" "Ljava/util/Comparator;" .null := D388 (Or.inr (wd hw 94 rfl)) (ty := (.object "java/util/Comparator")) (by decide)
  have F_root_b388 : Fld Z h388 b388 "java/util/TreeMap" "root" "Ljava/util/TreeMap$Entry;" .null := D388 (Or.inl (wd hw 151 rfl)) (ty := (.object "java/util/TreeMap$Entry")) (by decide)
  refine g_dup C X388 d13_8 rfl (g_special (argsL := []) (st := [(.ref b388), (.ref hm)]) C X388 rfl (wd hw 79 rfl) (wd hw 80 rfl) (wd hw 81 rfl) (by decide) (pay_of (W' := 2) (rTi l hw X388.ext b388 A388 F_comparator_b388 F_root_b388 F_size_b388 F_modCount_b388 n_b388) C.hZ (wd hw 81 rfl) (wd hw 78 rfl) (by decide) (by decide)) pd_10 rfl rfl _ rfl (Nat.le_of_eq rfl) d13_9 (by decide) (by decide) (fun T390 h390 v390 q390 X390 => ?_))
  obtain ⟨rfl, K390, E390, F390_comparator, F390_root, F390_size, F390_modCount⟩ := q390
  show Goes p e below _ T390 (mkF m 12 #[.val (.ref hm)] [(.ref b388), (.ref hm)])
  have f391 := (Fld.keep (Fld.ext E388 F_hm_held) K390 (ninS (Nat.ne_of_lt lt389) nin0))
  have f392 := (Exa.keep (Exa.ext E388 E_hm) K390)
  refine g_putfield (host := "") C X390 (Or.inl (wd hw 95 rfl)) Via.refl f391 f392 (Or.inr ⟨(wd hw 96 rfl), rfl, rfl⟩) (wd hw 70 rfl) (ty := (.object "java/util/NavigableMap")) (by decide) rfl rfl hn d13_12 (fun T393 h393 X393 W393 => ?_)
  have f393 := Fld.same W393 f391
  have sz394 : h.size ≤ b388 := by rw [g_b388]; exact (Keep.refl h [hm]).1
  have kp395 := (Keep.refl h [hm]).ext E388
  have kp396 := kp395.trans K390 (allS (Or.inr sz394) all0)
  have kp397 := kp396.wr W393 (Or.inl (by simp))
  have f398 := (Exa.wr W393 f392)
  have f399 := (Fld.other W393 (Fld.keep (Fld.ext E388 F_hm_highestCome) K390 (ninS (Nat.ne_of_lt lt389) nin0)) (Or.inr (slot_ne (Or.inl (wd hw 103 rfl)) (Or.inr (wd hw 96 rfl)) (by decide) (t := .int) (t' := (.object "java/util/NavigableMap")) (by decide) (by decide))))
  have f400 := (Fld.other W393 (Fld.keep (Fld.ext E388 F_hm_bytes) K390 (ninS (Nat.ne_of_lt lt389) nin0)) (Or.inr (slot_ne (Or.inl (wd hw 106 rfl)) (Or.inr (wd hw 96 rfl)) (by decide) (t := .long) (t' := (.object "java/util/NavigableMap")) (by decide) (by decide))))
  have f401 := (Fld.other W393 (Fld.keep (Fld.ext E388 F_hm_askedThrough) K390 (ninS (Nat.ne_of_lt lt389) nin0)) (Or.inr (slot_ne (Or.inl (wd hw 226 rfl)) (Or.inr (wd hw 96 rfl)) (by decide) (t := .int) (t' := (.object "java/util/NavigableMap")) (by decide) (by decide))))
  have f402 := (Exa.wr W393 E390)
  have f403 := (Fld.other W393 F390_comparator (Or.inl (Nat.ne_of_gt lt389)))
  have f404 := (Fld.other W393 F390_root (Or.inl (Nat.ne_of_gt lt389)))
  have f405 := (Fld.other W393 F390_size (Or.inl (Nat.ne_of_gt lt389)))
  have f406 := (Fld.other W393 F390_modCount (Or.inl (Nat.ne_of_gt lt389)))
  exact g_retV C X393 d13_15 (by decide) (by decide) ⟨rfl, kp397, b388, n_b388, sz394, f398, f393, f399, f400, f401, f402, f403, f404, f405, f406⟩
theorem pn_11 : plainName "com/example/halyard/halyard/gateway/HeldMessages$Held" = true := by first | (simp [plainName, overriddenIn]; done) | decide +kernel
theorem ef_rHe0 (m : MethodId) (hd : Addr) (m_ : Addr) : entryFrame m #[(.ref hd), (.ref m_), (.int 0)] 3 = mkF m 0 #[.val (.ref hd), .val (.ref m_), .val (.int 0)] [] := by first | (simp [entryFrame, mkF, argsToLocals, Value.category]; done) | rfl
theorem d19_0 : Dc prog_44_method_1_code 0 (.aload_n 0) 1 1 := ⟨by decide +kernel, rfl⟩
theorem d19_1 : Dc prog_44_method_1_code 1 (.invokespecial 1) 3 4 := ⟨by decide +kernel, rfl⟩
theorem d19_4 : Dc prog_44_method_1_code 4 (.aload_n 0) 1 5 := ⟨by decide +kernel, rfl⟩
theorem d19_5 : Dc prog_44_method_1_code 5 (.aload_n 1) 1 6 := ⟨by decide +kernel, rfl⟩
theorem d19_6 : Dc prog_44_method_1_code 6 (.putfield 7) 3 9 := ⟨by decide +kernel, rfl⟩
theorem d19_9 : Dc prog_44_method_1_code 9 (.aload_n 0) 1 10 := ⟨by decide +kernel, rfl⟩
theorem d19_10 : Dc prog_44_method_1_code 10 (.iload_n 2) 1 11 := ⟨by decide +kernel, rfl⟩
theorem d19_11 : Dc prog_44_method_1_code 11 (.putfield 13) 3 14 := ⟨by decide +kernel, rfl⟩
theorem d19_14 : Dc prog_44_method_1_code 14 (.return_) 1 15 := ⟨by decide +kernel, rfl⟩
theorem rHe0 (l : Launch) {Z : State} {a0 : Array Value} (hw : ∀ d ∈ tables_1, d.before a0 Z = true) {h : Heap} (hE : Ext Z.heap h) (hd : Addr) (m_ : Addr)  (E_hd : Exa Z h hd "com/example/halyard/halyard/gateway/HeldMessages$Held") (F_hd_message : Fld Z h hd "com/example/halyard/halyard/gateway/HeldMessages$Held" "message" "Lcom/example/halyard/halyard/fix/FixMessage;" .null) (F_hd_answered : Fld Z h hd "com/example/halyard/halyard/gateway/HeldMessages$Held" "answered" "Z" (.int 0)) (hn : Z.heap.size ≤ hd) :
    Con l (⟨"com/example/halyard/halyard/gateway/HeldMessages$Held", "<init>", "(Lcom/example/halyard/halyard/fix/FixMessage;Z)V"⟩ : MethodName) prog_44_method_1_code 3 none [] ({ frames := 2, cells := 0, slots := 0, locals := 48 } : Room) Z #[(.ref hd), (.ref m_), (.int 0)] h (fun v' h' => v' = none ∧ Keep h h' [hd]) := by
  refine con_of (plainFor_of_name pn_11) hE (fun m => ef_rHe0 m hd m_) ?_
  intro p e s m below meth c T0 C X0
  have C : Cx p s m meth c Z "com/example/halyard/halyard/gateway/HeldMessages$Held" "<init>" prog_44_method_1_code 3 none := C
  show Goes p e below _ T0 (mkF m 0 #[.val (.ref hd), .val (.ref m_), .val (.int 0)] [])
  refine g_aloadN C X0 d19_0 rfl rfl (g_specialP (argsL := []) (st := []) C X0 rfl (wd hw 126 rfl) (wd hw 127 rfl) (wd hw 130 rfl) (by decide) (pay_of (W' := 0) (rRd l hw X0.ext hd) C.hZ (wd hw 130 rfl) (wd hw 129 rfl) (by decide) (by decide)) pd_10 rfl rfl _ rfl (Nat.le_of_eq rfl) d19_1 (by decide) (by decide) (fun T407 X407 => ?_))
  refine g_aloadN C X407 d19_4 rfl rfl (g_aloadN C X407 d19_5 rfl rfl (g_putfield (host := "") C X407 (Or.inl (wd hw 132 rfl)) Via.refl F_hd_message E_hd (Or.inr ⟨(wd hw 133 rfl), rfl, rfl⟩) (wd hw 121 rfl) (ty := (.object "com/example/halyard/halyard/fix/FixMessage")) (by decide) rfl rfl hn d19_6 (fun T408 h408 X408 W408 => ?_)))
  have f408 := Fld.same W408 F_hd_message
  refine g_aloadN C X408 d19_9 rfl rfl (g_iloadN C X408 d19_10 rfl ?_)
  have f409 := (Fld.other W408 F_hd_answered (Or.inr (slot_ne (Or.inr (wd hw 135 rfl)) (Or.inr (wd hw 133 rfl)) (by decide) (t := .boolean) (t' := (.object "com/example/halyard/halyard/fix/FixMessage")) (by decide) (by decide))))
  have f410 := (Exa.wr W408 E_hd)
  refine g_putfield (host := "") C X408 (Or.inl (wd hw 134 rfl)) Via.refl f409 f410 (Or.inr ⟨(wd hw 135 rfl), rfl, rfl⟩) (wd hw 121 rfl) (ty := .boolean) (by decide) rfl rfl hn d19_11 (fun T411 h411 X411 W411 => ?_)
  have f411 := Fld.same W411 f409
  have kp412 := (Keep.refl h [hd]).wr W408 (Or.inl (by simp))
  have kp413 := kp412.wr W411 (Or.inl (by simp))
  exact g_retV C X411 d19_14 (by decide) (by decide) ⟨rfl, kp413⟩
theorem ef_rHe1 (m : MethodId) (hd : Addr) (m_ : Addr) : entryFrame m #[(.ref hd), (.ref m_), (.int 1)] 3 = mkF m 0 #[.val (.ref hd), .val (.ref m_), .val (.int 1)] [] := by first | (simp [entryFrame, mkF, argsToLocals, Value.category]; done) | rfl
theorem rHe1 (l : Launch) {Z : State} {a0 : Array Value} (hw : ∀ d ∈ tables_1, d.before a0 Z = true) {h : Heap} (hE : Ext Z.heap h) (hd : Addr) (m_ : Addr)  (E_hd : Exa Z h hd "com/example/halyard/halyard/gateway/HeldMessages$Held") (F_hd_message : Fld Z h hd "com/example/halyard/halyard/gateway/HeldMessages$Held" "message" "Lcom/example/halyard/halyard/fix/FixMessage;" .null) (F_hd_answered : Fld Z h hd "com/example/halyard/halyard/gateway/HeldMessages$Held" "answered" "Z" (.int 0)) (hn : Z.heap.size ≤ hd) :
    Con l (⟨"com/example/halyard/halyard/gateway/HeldMessages$Held", "<init>", "(Lcom/example/halyard/halyard/fix/FixMessage;Z)V"⟩ : MethodName) prog_44_method_1_code 3 none [] ({ frames := 2, cells := 0, slots := 0, locals := 48 } : Room) Z #[(.ref hd), (.ref m_), (.int 1)] h (fun v' h' => v' = none ∧ Keep h h' [hd]) := by
  refine con_of (plainFor_of_name pn_11) hE (fun m => ef_rHe1 m hd m_) ?_
  intro p e s m below meth c T0 C X0
  have C : Cx p s m meth c Z "com/example/halyard/halyard/gateway/HeldMessages$Held" "<init>" prog_44_method_1_code 3 none := C
  show Goes p e below _ T0 (mkF m 0 #[.val (.ref hd), .val (.ref m_), .val (.int 1)] [])
  refine g_aloadN C X0 d19_0 rfl rfl (g_specialP (argsL := []) (st := []) C X0 rfl (wd hw 126 rfl) (wd hw 127 rfl) (wd hw 130 rfl) (by decide) (pay_of (W' := 0) (rRd l hw X0.ext hd) C.hZ (wd hw 130 rfl) (wd hw 129 rfl) (by decide) (by decide)) pd_10 rfl rfl _ rfl (Nat.le_of_eq rfl) d19_1 (by decide) (by decide) (fun T414 X414 => ?_))
  refine g_aloadN C X414 d19_4 rfl rfl (g_aloadN C X414 d19_5 rfl rfl (g_putfield (host := "") C X414 (Or.inl (wd hw 132 rfl)) Via.refl F_hd_message E_hd (Or.inr ⟨(wd hw 133 rfl), rfl, rfl⟩) (wd hw 121 rfl) (ty := (.object "com/example/halyard/halyard/fix/FixMessage")) (by decide) rfl rfl hn d19_6 (fun T415 h415 X415 W415 => ?_)))
  have f415 := Fld.same W415 F_hd_message
  refine g_aloadN C X415 d19_9 rfl rfl (g_iloadN C X415 d19_10 rfl ?_)
  have f416 := (Fld.other W415 F_hd_answered (Or.inr (slot_ne (Or.inr (wd hw 135 rfl)) (Or.inr (wd hw 133 rfl)) (by decide) (t := .boolean) (t' := (.object "com/example/halyard/halyard/fix/FixMessage")) (by decide) (by decide))))
  have f417 := (Exa.wr W415 E_hd)
  refine g_putfield (host := "") C X415 (Or.inl (wd hw 134 rfl)) Via.refl f416 f417 (Or.inr ⟨(wd hw 135 rfl), rfl, rfl⟩) (wd hw 121 rfl) (ty := .boolean) (by decide) rfl rfl hn d19_11 (fun T418 h418 X418 W418 => ?_)
  have f418 := Fld.same W418 f416
  have kp419 := (Keep.refl h [hd]).wr W415 (Or.inl (by simp))
  have kp420 := kp419.wr W418 (Or.inl (by simp))
  exact g_retV C X418 d19_14 (by decide) (by decide) ⟨rfl, kp420⟩
theorem ef_rLg (m : MethodId) (m_ : Addr) : entryFrame m #[(.ref m_)] 1 = mkF m 0 #[.val (.ref m_)] [] := by first | (simp [entryFrame, mkF, argsToLocals, Value.category]; done) | rfl
theorem d17_0 : Dc prog_27_method_17_code 0 (.aload_n 0) 1 1 := ⟨by decide +kernel, rfl⟩
theorem d17_1 : Dc prog_27_method_17_code 1 (.getfield 7) 3 4 := ⟨by decide +kernel, rfl⟩
theorem d17_4 : Dc prog_27_method_17_code 4 (.arraylength) 1 5 := ⟨by decide +kernel, rfl⟩
theorem d17_5 : Dc prog_27_method_17_code 5 (.ireturn) 1 6 := ⟨by decide +kernel, rfl⟩
theorem rLg (l : Launch) {Z : State} {a0 : Array Value} (hw : ∀ d ∈ tables_1, d.before a0 Z = true) {h : Heap} (hE : Ext Z.heap h) (m_ : Addr) (f : Addr) (kf : ClassId) (E_m_ : Exa Z h m_ "com/example/halyard/halyard/fix/FixMessage") (F_m__bytes : Fld Z h m_ "com/example/halyard/halyard/fix/FixMessage" "bytes" "[B" (.ref f)) (VF : Arv Z h f kf .byte 15 [(.int 56), (.int 61), (.int 65), (.int 1), (.int 57), (.int 61), (.int 48), (.int 1), (.int 49), (.int 48), (.int 61), (.int 48), (.int 57), (.int 52), (.int 1)] (.int (0 : Int32))) :
    Con l (⟨"com/example/halyard/halyard/fix/FixMessage", "length", "()I"⟩ : MethodName) prog_27_method_17_code 1 (some .int) [] ({ frames := 0, cells := 0, slots := 0, locals := 0 } : Room) Z #[(.ref m_)] h (fun v' h' => v' = some (.int (15 : Int32)) ∧ h' = h) := by
  refine con_of (plainFor_of_name pn_2) hE (fun m => ef_rLg m m_) ?_
  intro p e s m below meth c T0 C X0
  have C : Cx p s m meth c Z "com/example/halyard/halyard/fix/FixMessage" "length" prog_27_method_17_code 1 (some .int) := C
  show Goes p e below _ T0 (mkF m 0 #[.val (.ref m_)] [])
  refine g_aloadN C X0 d17_0 rfl rfl (g_getfield (host := "") C X0 (Or.inl (wd hw 21 rfl)) Via.refl F_m__bytes d17_1 (fun T421 X421 => ?_))
  refine g_arraylength C X421 VF d17_4 ?_
  exact g_retI C X421 d17_5 (by decide) (by decide) ⟨rfl, rfl⟩
theorem ef_rH10 (m : MethodId) (hm : Addr) (x : Int32) (m_ : Addr) : entryFrame m #[(.ref hm), (.int x), (.ref m_), (.int 0)] 4 = mkF m 0 #[.val (.ref hm), .val (.int x), .val (.ref m_), .val (.int 0)] [] := by first | (simp [entryFrame, mkF, argsToLocals, Value.category]; done) | rfl
theorem d16_0 : Dc prog_43_method_2_code 0 (.aload_n 0) 1 1 := ⟨by decide +kernel, rfl⟩
theorem d16_1 : Dc prog_43_method_2_code 1 (.aload_n 0) 1 2 := ⟨by decide +kernel, rfl⟩
theorem d16_2 : Dc prog_43_method_2_code 2 (.getfield 16) 3 5 := ⟨by decide +kernel, rfl⟩
theorem d16_5 : Dc prog_43_method_2_code 5 (.iload_n 1) 1 6 := ⟨by decide +kernel, rfl⟩
theorem d16_6 : Dc prog_43_method_2_code 6 (.invokestatic 20) 3 9 := ⟨by decide +kernel, rfl⟩
theorem d16_9 : Dc prog_43_method_2_code 9 (.putfield 16) 3 12 := ⟨by decide +kernel, rfl⟩
theorem d16_12 : Dc prog_43_method_2_code 12 (.aload_n 0) 1 13 := ⟨by decide +kernel, rfl⟩
theorem d16_13 : Dc prog_43_method_2_code 13 (.getfield 26) 3 16 := ⟨by decide +kernel, rfl⟩
theorem d16_16 : Dc prog_43_method_2_code 16 (.aload_n 2) 1 17 := ⟨by decide +kernel, rfl⟩
theorem d16_17 : Dc prog_43_method_2_code 17 (.invokevirtual 30) 3 20 := ⟨by decide +kernel, rfl⟩
theorem pd_21 : parseMethodDescriptor "()I" = some ⟨[], some .int⟩ := by decide +kernel
theorem d16_20 : Dc prog_43_method_2_code 20 (.i2l) 1 21 := ⟨by decide +kernel, rfl⟩
theorem d16_21 : Dc prog_43_method_2_code 21 (.ladd) 1 22 := ⟨by decide +kernel, rfl⟩
theorem d16_22 : Dc prog_43_method_2_code 22 (.ldc2_w 36) 3 25 := ⟨by decide +kernel, rfl⟩
theorem d16_25 : Dc prog_43_method_2_code 25 (.lcmp) 1 26 := ⟨by decide +kernel, rfl⟩
theorem d16_26 : Dj prog_43_method_2_code 26 (.ifCond .le 20) 20 3 29 46 := ⟨by decide +kernel, rfl, by decide, by decide⟩
theorem d16_46 : Dc prog_43_method_2_code 46 (.aload_n 0) 1 47 := ⟨by decide +kernel, rfl⟩
theorem d16_47 : Dc prog_43_method_2_code 47 (.getfield 10) 3 50 := ⟨by decide +kernel, rfl⟩
theorem d16_50 : Dc prog_43_method_2_code 50 (.iload_n 1) 1 51 := ⟨by decide +kernel, rfl⟩
theorem d16_51 : Dc prog_43_method_2_code 51 (.invokestatic 44) 3 54 := ⟨by decide +kernel, rfl⟩
theorem pd_22 : parseMethodDescriptor "(I)Ljava/lang/Integer;" = some ⟨[.int], some (.object "java/lang/Integer")⟩ := by decide +kernel
theorem d16_54 : Dc prog_43_method_2_code 54 (.new 50) 3 57 := ⟨by decide +kernel, rfl⟩
theorem d16_57 : Dc prog_43_method_2_code 57 (.dup) 1 58 := ⟨by decide +kernel, rfl⟩
theorem d16_58 : Dc prog_43_method_2_code 58 (.aload_n 2) 1 59 := ⟨by decide +kernel, rfl⟩
theorem d16_59 : Dc prog_43_method_2_code 59 (.iload_n 3) 1 60 := ⟨by decide +kernel, rfl⟩
theorem d16_60 : Dc prog_43_method_2_code 60 (.invokespecial 52) 3 63 := ⟨by decide +kernel, rfl⟩
theorem pd_23 : parseMethodDescriptor "(Lcom/example/halyard/halyard/fix/FixMessage;Z)V" = some ⟨[(.object "com/example/halyard/halyard/fix/FixMessage"), .boolean], none⟩ := by decide +kernel
theorem d16_63 : Dc prog_43_method_2_code 63 (.invokeinterface 55 3) 5 68 := ⟨by decide +kernel, rfl⟩
theorem pd_24 : parseMethodDescriptor "(Ljava/lang/Object;Ljava/lang/Object;)Ljava/lang/Object;" = some ⟨[(.object "java/lang/Object"), (.object "java/lang/Object")], some (.object "java/lang/Object")⟩ := by decide +kernel
theorem d16_68 : Dj prog_43_method_2_code 68 (.ifnonnull 17) 17 3 71 85 := ⟨by decide +kernel, rfl, by decide, by decide⟩
theorem d16_71 : Dc prog_43_method_2_code 71 (.aload_n 0) 1 72 := ⟨by decide +kernel, rfl⟩
theorem d16_72 : Dc prog_43_method_2_code 72 (.dup) 1 73 := ⟨by decide +kernel, rfl⟩
theorem d16_73 : Dc prog_43_method_2_code 73 (.getfield 26) 3 76 := ⟨by decide +kernel, rfl⟩
theorem d16_76 : Dc prog_43_method_2_code 76 (.aload_n 2) 1 77 := ⟨by decide +kernel, rfl⟩
theorem d16_77 : Dc prog_43_method_2_code 77 (.invokevirtual 30) 3 80 := ⟨by decide +kernel, rfl⟩
theorem d16_80 : Dc prog_43_method_2_code 80 (.i2l) 1 81 := ⟨by decide +kernel, rfl⟩
theorem d16_81 : Dc prog_43_method_2_code 81 (.ladd) 1 82 := ⟨by decide +kernel, rfl⟩
theorem d16_82 : Dc prog_43_method_2_code 82 (.putfield 26) 3 85 := ⟨by decide +kernel, rfl⟩
theorem d16_85 : Dc prog_43_method_2_code 85 (.return_) 1 86 := ⟨by decide +kernel, rfl⟩
theorem rH10 (l : Launch) {Z : State} {a0 : Array Value} (hw : ∀ d ∈ tables_1, d.before a0 Z = true) {h : Heap} (hE : Ext Z.heap h) (hm : Addr) (x : Int32) (m_ : Addr) (f tm : Addr) (kf : ClassId) (c0 q0 : Int32) (ca : Addr) (kc : ClassId) (vc : List Value) (SH : Sta Z Z.heap "java/lang/Integer$IntegerCache" "high" "I" (.int (127 : Int32))) (SC : Sta Z Z.heap "java/lang/Integer$IntegerCache" "cache" "[Ljava/lang/Integer;" (.ref ca)) (VC : Arv Z Z.heap ca kc (.object "java/lang/Integer") 256 vc .null) (HB : ∀ j : Int32, ¬ j < 0 → j < 256 → ∃ b : Addr, vc.getD j.toNatClampNeg .null = .ref b ∧ Exa Z Z.heap b "java/lang/Integer" ∧ Fld Z Z.heap b "java/lang/Integer" "value" "I" (.int (j - 128))) (E_hm : Exa Z h hm "com/example/halyard/halyard/gateway/HeldMessages") (F_hm_held : Fld Z h hm "com/example/halyard/halyard/gateway/HeldMessages" "held" "Ljava/util/NavigableMap;" (.ref tm)) (F_hm_highestCome : Fld Z h hm "com/example/halyard/halyard/gateway/HeldMessages" "highestCome" "I" (.int c0)) (F_hm_bytes : Fld Z h hm "com/example/halyard/halyard/gateway/HeldMessages" "bytes" "J" (.long 0)) (F_hm_askedThrough : Fld Z h hm "com/example/halyard/halyard/gateway/HeldMessages" "askedThrough" "I" (.int q0)) (E_tm : Exa Z h tm "java/util/TreeMap") (F_tm_comparator : Fld Z h tm "java/util/TreeMap" "comparator" "Ljava/util/Comparator;" .null) (F_tm_root : Fld Z h tm "java/util/TreeMap" "root" "Ljava/util/TreeMap$Entry;" .null) (F_tm_size : Fld Z h tm "java/util/TreeMap" "size" "I" (.int 0)) (F_tm_modCount : Fld Z h tm "java/util/TreeMap" "modCount" "I" (.int 0)) (E_m_ : Exa Z h m_ "com/example/halyard/halyard/fix/FixMessage") (F_m__bytes : Fld Z h m_ "com/example/halyard/halyard/fix/FixMessage" "bytes" "[B" (.ref f)) (VF : Arv Z h f kf .byte 15 [(.int 56), (.int 61), (.int 65), (.int 1), (.int 57), (.int 61), (.int 48), (.int 1), (.int 49), (.int 48), (.int 61), (.int 48), (.int 57), (.int 52), (.int 1)] (.int (0 : Int32))) (hn : Z.heap.size ≤ hm) (hnt : Z.heap.size ≤ tm) (na : hm ≠ tm) (nb : m_ ≠ hm) (nc : m_ ≠ tm) (nd : f ≠ hm) (ne_ : f ≠ tm) :
    Con l (⟨"com/example/halyard/halyard/gateway/HeldMessages", "hold", "(ILcom/example/halyard/halyard/fix/FixMessage;Z)V"⟩ : MethodName) prog_43_method_2_code 4 none [] ({ frames := 7, cells := 3, slots := 9, locals := 168 } : Room) Z #[(.ref hm), (.int x), (.ref m_), (.int 0)] h (fun v' h' => v' = none ∧ Keep h h' [hm, tm] ∧ ∃ (en ky vl : Addr), Z.heap.size ≤ en ∧ h.size ≤ en ∧ Exa Z h' hm "com/example/halyard/halyard/gateway/HeldMessages" ∧ Fld Z h' hm "com/example/halyard/halyard/gateway/HeldMessages" "held" "Ljava/util/NavigableMap;" (.ref tm) ∧ Fld Z h' hm "com/example/halyard/halyard/gateway/HeldMessages" "highestCome" "I" (.int (own_mx c0 x)) ∧ Fld Z h' hm "com/example/halyard/halyard/gateway/HeldMessages" "bytes" "J" (.long 15) ∧ Fld Z h' hm "com/example/halyard/halyard/gateway/HeldMessages" "askedThrough" "I" (.int q0) ∧ Exa Z h' tm "java/util/TreeMap" ∧ Fld Z h' tm "java/util/TreeMap" "comparator" "Ljava/util/Comparator;" .null ∧ Fld Z h' tm "java/util/TreeMap" "root" "Ljava/util/TreeMap$Entry;" (.ref en) ∧ Fld Z h' tm "java/util/TreeMap" "size" "I" (.int 1) ∧ Fld Z h' tm "java/util/TreeMap" "modCount" "I" (.int 1) ∧ Exa Z h' en "java/util/TreeMap$Entry" ∧ Fld Z h' en "java/util/TreeMap$Entry" "key" "Ljava/lang/Object;" (.ref ky) ∧ Fld Z h' en "java/util/TreeMap$Entry" "value" "Ljava/lang/Object;" (.ref vl) ∧ Fld Z h' en "java/util/TreeMap$Entry" "left" "Ljava/util/TreeMap$Entry;" .null ∧ Fld Z h' en "java/util/TreeMap$Entry" "right" "Ljava/util/TreeMap$Entry;" .null ∧ Fld Z h' en "java/util/TreeMap$Entry" "parent" "Ljava/util/TreeMap$Entry;" .null ∧ Fld Z h' en "java/util/TreeMap$Entry" "color" "Z" (.int 1) ∧ Exa Z h' ky "java/lang/Integer" ∧ Fld Z h' ky "java/lang/Integer" "value" "I" (.int x)) := by
  refine con_of (plainFor_of_name pn_10) hE (fun m => ef_rH10 m hm x m_) ?_
  intro p e s m below meth c T0 C X0
  have C : Cx p s m meth c Z "com/example/halyard/halyard/gateway/HeldMessages" "hold" prog_43_method_2_code 4 none := C
  show Goes p e below _ T0 (mkF m 0 #[.val (.ref hm), .val (.int x), .val (.ref m_), .val (.int 0)] [])
  refine g_aloadN C X0 d16_0 rfl rfl (g_aloadN C X0 d16_1 rfl rfl (g_getfield (host := "") C X0 (Or.inl (wd hw 102 rfl)) Via.refl F_hm_highestCome d16_2 (fun T422 X422 => ?_)))
  refine g_iloadN C X422 d16_5 rfl (g_staticP (argsL := [(.int c0), (.int x)]) (st := [(.ref hm)]) C X422 (wd hw 104 rfl) (wd hw 9 rfl) (wd hw 10 rfl) (wd hw 11 rfl) (by decide) (pay_of (W' := 1) (rMx l hw X422.ext c0 x) C.hZ (wd hw 11 rfl) (wd hw 10 rfl) (by decide) (by decide)) pd_7 rfl rfl _ rfl (Nat.le_of_eq rfl) d16_6 (by decide) (by decide) (fun T423 X423 => ?_))
  refine g_putfield (host := "") C X423 (Or.inl (wd hw 102 rfl)) Via.refl F_hm_highestCome E_hm (Or.inl (wd hw 103 rfl)) (wd hw 70 rfl) (ty := .int) (by decide) rfl rfl hn d16_9 (fun T424 h424 X424 W424 => ?_)
  have f424 := Fld.same W424 F_hm_highestCome
  refine g_aloadN C X424 d16_12 rfl rfl ?_
  have f425 := (Fld.other W424 F_hm_bytes (Or.inr (slot_ne (Or.inl (wd hw 106 rfl)) (Or.inl (wd hw 103 rfl)) (by decide) (t := .long) (t' := .int) (by decide) (by decide))))
  refine g_getfield (host := "") C X424 (Or.inl (wd hw 105 rfl)) Via.refl f425 d16_13 (fun T426 X426 => ?_)
  refine g_aloadN C X426 d16_16 rfl rfl ?_
  have f427 := (Exa.wr W424 E_m_)
  have f428 := (Fld.other W424 F_m__bytes (Or.inl nb))
  have f429 := (Arv.other VF W424 nd)
  refine g_virtualP (argsL := []) (st := [(.long 0)]) C X426 (wd hw 107 rfl) (wd hw 108 rfl) (nf_of C (wd hw 110 rfl) rfl rfl) (wd hw 110 rfl) (wd hw 109 rfl) (by decide) f427 (pay_of (W' := 2) (rLg l hw X426.ext m_ f kf f427 f428 f429) C.hZ (wd hw 111 rfl) (wd hw 3 rfl) (by decide) (by decide)) pd_21 rfl rfl _ rfl (Nat.le_of_eq rfl) d16_17 (by decide) (by decide) (fun T430 X430 => ?_)
  refine g_i2l C X430 d16_20 (g_ladd C X430 d16_21 (g_ldcJ C X430 (wd hw 112 rfl) d16_22 (g_lcmp C X430 d16_25 (g_ifn (hL_le _ _) C X430 d16_26 (fun _ => ?_) (fun q => absurd q (by decide))))))
  refine g_aloadN C X430 d16_46 rfl rfl ?_
  have f431 := (Fld.other W424 F_hm_held (Or.inr (slot_ne (Or.inr (wd hw 96 rfl)) (Or.inl (wd hw 103 rfl)) (by decide) (t := (.object "java/util/NavigableMap")) (t' := .int) (by decide) (by decide))))
  refine g_getfield (host := "") C X430 (Or.inl (wd hw 95 rfl)) Via.refl f431 d16_47 (fun T432 X432 => ?_)
  refine g_iloadN C X432 d16_50 rfl (g_static (argsL := [(.int x)]) (st := [(.ref tm)]) C X432 (wd hw 113 rfl) (wd hw 114 rfl) (wd hw 115 rfl) (wd hw 116 rfl) (by decide) (pay_of (W' := 1) (rVa l hw X432.ext x ca kc vc SH SC VC HB) C.hZ (wd hw 116 rfl) (wd hw 115 rfl) (by decide) (by decide)) pd_22 rfl rfl _ rfl (Nat.le_of_eq rfl) d16_51 (by decide) (by decide) (fun T433 h433 v433 q433 X433 => ?_))
  obtain ⟨b433, rfl, E433, A433, F433⟩ := q433
  have f435 := (Exa.ext E433 (Exa.wr W424 E_hm))
  have nx434 : b433 ≠ hm := own_exne A433 f435 (by decide)
  have f437 := (Exa.ext E433 (Exa.wr W424 E_tm))
  have nx436 : b433 ≠ tm := own_exne A433 f437 (by decide)
  show Goes p e below _ T433 (mkF m 54 #[.val (.ref hm), .val (.int x), .val (.ref m_), .val (.int 0)] [(.ref b433), (.ref tm)])
  refine g_new C X433 (wd hw 120 rfl) (wd hw 121 rfl) (wd hw 122 rfl) d16_54 (by decide) (by decide) (fun T438 h438 b438 g_b438 n_b438 X438 E438 A438 D438 M438 => ?_)
  have lt439 : hm < b438 := by rw [g_b438]; exact Exa.lt f435
  have lt440 : tm < b438 := by rw [g_b438]; exact Exa.lt f437
  have f441 := (Exa.ext E433 f427)
  have lt442 : m_ < b438 := by rw [g_b438]; exact Exa.lt f441
  have f443 := (Arv.ext f429 E433)
  have lt444 : f < b438 := by rw [g_b438]; exact Arv.lt f443
  have lt445 : b433 < b438 := by rw [g_b438]; exact Exa.lt A433
  have F_message_b438 : Fld Z h438 b438 "com/example/halyard/halyard/gateway/HeldMessages$Held" "message" "Lcom/example/halyard/halyard/fix/FixMessage;" .null := D438 (Or.inr (wd hw 133 rfl)) (ty := (.object "com/example/halyard/halyard/fix/FixMessage")) (by decide)
  have F_answered_b438 : Fld Z h438 b438 "com/example/halyard/halyard/gateway/HeldMessages$Held" "answered" "Z" (.int 0) := D438 (Or.inr (wd hw 135 rfl)) (ty := .boolean) (by decide)
  refine g_dup C X438 d16_57 rfl (g_aloadN C X438 d16_58 rfl rfl (g_iloadN C X438 d16_59 rfl (g_special (argsL := [(.ref m_), (.int 0)]) (st := [(.ref b438), (.ref b433), (.ref tm)]) C X438 rfl (wd hw 123 rfl) (wd hw 124 rfl) (wd hw 125 rfl) (by decide) (pay_of (W' := 3) (rHe0 l hw X438.ext b438 m_ A438 F_message_b438 F_answered_b438 n_b438) C.hZ (wd hw 125 rfl) (wd hw 122 rfl) (by decide) (by decide)) pd_23 rfl rfl _ rfl (Nat.le_of_eq rfl) d16_60 (by decide) (by decide) (fun T446 h446 v446 q446 X446 => ?_))))
  obtain ⟨rfl, K446⟩ := q446
  show Goes p e below _ T446 (mkF m 63 #[.val (.ref hm), .val (.int x), .val (.ref m_), .val (.int 0)] [(.ref b438), (.ref b433), (.ref tm)])
  have kp447 := (Keep.refl h [hm, tm]).wr W424 (Or.inl (by simp))
  have kp448 := kp447.ext E433
  have sz449 : h.size ≤ b438 := by rw [g_b438]; exact kp448.1
  have kp450 := kp448.ext E438
  have kp451 := kp450.trans K446 (allS (Or.inr sz449) all0)
  have f452 := (Exa.keep (Exa.ext E438 f437) K446)
  have f453 := (Fld.keep (Fld.ext E438 (Fld.ext E433 (Fld.other W424 F_tm_comparator (Or.inl (Ne.symm na))))) K446 (ninS (Nat.ne_of_lt lt440) nin0))
  have f454 := (Fld.keep (Fld.ext E438 (Fld.ext E433 (Fld.other W424 F_tm_root (Or.inl (Ne.symm na))))) K446 (ninS (Nat.ne_of_lt lt440) nin0))
  have f455 := (Fld.keep (Fld.ext E438 (Fld.ext E433 (Fld.other W424 F_tm_size (Or.inl (Ne.symm na))))) K446 (ninS (Nat.ne_of_lt lt440) nin0))
  have f456 := (Fld.keep (Fld.ext E438 (Fld.ext E433 (Fld.other W424 F_tm_modCount (Or.inl (Ne.symm na))))) K446 (ninS (Nat.ne_of_lt lt440) nin0))
  have f457 := (Exa.keep (Exa.ext E438 A433) K446)
  have f458 := (Fld.keep (Fld.ext E438 F433) K446 (ninS (Nat.ne_of_lt lt445) nin0))
  refine g_interfaceUp (argsL := [(.ref b433), (.ref b438)]) (st := []) C X446 (wd hw 136 rfl) (wd hw 137 rfl) (own_mvI C.hZ (wd hw 138 rfl)) (wd hw 139 rfl) (wd hw 140 rfl) (wd hw 141 rfl) (mvT C.hZ (wd hw 142 rfl)) (wd hw 143 rfl) (by decide) (by decide) (by decide) f452 (pay_of (W' := 0) (rQ0 l hw X446.ext tm b433 b438 x f452 f453 f454 f455 f456 f457 f458 hnt nx436) C.hZ (wd hw 144 rfl) (wd hw 78 rfl) (by decide) (by decide)) pd_24 rfl rfl _ rfl (Nat.le_of_eq rfl) d16_63 (by decide) (by decide) (fun T459 h459 v459 q459 X459 => ?_)
  obtain ⟨rfl, K459, en, ge0, ge1, E459, T459_comparator, T459_root, T459_size, T459_modCount, G459, N459_key, N459_value, N459_left, N459_right, N459_parent, N459_color⟩ := q459
  have f461 := (Exa.keep (Exa.ext E438 f435) K446)
  have lt460 : hm < en := Nat.lt_of_lt_of_le (Exa.lt f461) ge1
  have lt462 : tm < en := Nat.lt_of_lt_of_le (Exa.lt f452) ge1
  have f464 := (Exa.keep (Exa.ext E438 f441) K446)
  have lt463 : m_ < en := Nat.lt_of_lt_of_le (Exa.lt f464) ge1
  have f466 := (Arv.keep (Arv.ext f443 E438) K446 (ninS (Nat.ne_of_lt lt444) nin0))
  have lt465 : f < en := Nat.lt_of_lt_of_le (Arv.lt f466) ge1
  have lt467 : b433 < en := Nat.lt_of_lt_of_le (Exa.lt f457) ge1
  have f469 := (Exa.keep A438 K446)
  have lt468 : b438 < en := Nat.lt_of_lt_of_le (Exa.lt f469) ge1
  show Goes p e below _ T459 (mkF m 68 #[.val (.ref hm), .val (.int x), .val (.ref m_), .val (.int 0)] [.null])
  have sz470 : h.size ≤ en := Nat.le_trans kp451.1 ge1
  refine g_ifnonnull C X459 d16_68 rfl (fun q => absurd rfl q) (fun _ => ?_)
  refine g_aloadN C X459 d16_71 rfl rfl (g_dup C X459 d16_72 rfl ?_)
  have f471 := (Fld.keep (Fld.keep (Fld.ext E438 (Fld.ext E433 f425)) K446 (ninS (Nat.ne_of_lt lt439) nin0)) K459 (ninS na nin0))
  refine g_getfield (host := "") C X459 (Or.inl (wd hw 105 rfl)) Via.refl f471 d16_73 (fun T472 X472 => ?_)
  refine g_aloadN C X472 d16_76 rfl rfl ?_
  have f473 := (Exa.keep f464 K459)
  have f474 := (Fld.keep (Fld.keep (Fld.ext E438 (Fld.ext E433 f428)) K446 (ninS (Nat.ne_of_lt lt442) nin0)) K459 (ninS nc nin0))
  have f475 := (Arv.keep f466 K459 (ninS ne_ nin0))
  refine g_virtualP (argsL := []) (st := [(.long 0), (.ref hm)]) C X472 (wd hw 107 rfl) (wd hw 108 rfl) (nf_of C (wd hw 110 rfl) rfl rfl) (wd hw 110 rfl) (wd hw 109 rfl) (by decide) f473 (pay_of (W' := 3) (rLg l hw X472.ext m_ f kf f473 f474 f475) C.hZ (wd hw 111 rfl) (wd hw 3 rfl) (by decide) (by decide)) pd_21 rfl rfl _ rfl (Nat.le_of_eq rfl) d16_77 (by decide) (by decide) (fun T476 X476 => ?_)
  refine g_i2l C X476 d16_80 (g_ladd C X476 d16_81 ?_)
  have f477 := (Exa.keep f461 K459)
  refine g_putfield (host := "") C X476 (Or.inl (wd hw 105 rfl)) Via.refl f471 f477 (Or.inl (wd hw 106 rfl)) (wd hw 70 rfl) (ty := .long) (by decide) rfl rfl hn d16_82 (fun T478 h478 X478 W478 => ?_)
  have f478 := Fld.same W478 f471
  have kp479 := (Keep.refl h [hm, tm]).wr W424 (Or.inl (by simp))
  have kp480 := kp479.ext E433
  have sz481 : h.size ≤ b438 := by rw [g_b438]; exact kp480.1
  have kp482 := kp480.ext E438
  have kp483 := kp482.trans K446 (allS (Or.inr sz481) all0)
  have kp484 := kp483.trans K459 (allS (Or.inl (by simp)) all0)
  have kp485 := kp484.wr W478 (Or.inl (by simp))
  have f486 := (Exa.wr W478 f477)
  have f487 := (Fld.other W478 (Fld.keep (Fld.keep (Fld.ext E438 (Fld.ext E433 f431)) K446 (ninS (Nat.ne_of_lt lt439) nin0)) K459 (ninS na nin0)) (Or.inr (slot_ne (Or.inr (wd hw 96 rfl)) (Or.inl (wd hw 106 rfl)) (by decide) (t := (.object "java/util/NavigableMap")) (t' := .long) (by decide) (by decide))))
  have f488 := (Fld.other W478 (Fld.keep (Fld.keep (Fld.ext E438 (Fld.ext E433 f424)) K446 (ninS (Nat.ne_of_lt lt439) nin0)) K459 (ninS na nin0)) (Or.inr (slot_ne (Or.inl (wd hw 103 rfl)) (Or.inl (wd hw 106 rfl)) (by decide) (t := .int) (t' := .long) (by decide) (by decide))))
  have f489 := (Fld.other W478 (Fld.keep (Fld.keep (Fld.ext E438 (Fld.ext E433 (Fld.other W424 F_hm_askedThrough (Or.inr (slot_ne (Or.inl (wd hw 226 rfl)) (Or.inl (wd hw 103 rfl)) (by decide) (t := .int) (t' := .int) (by decide) (by decide)))))) K446 (ninS (Nat.ne_of_lt lt439) nin0)) K459 (ninS na nin0)) (Or.inr (slot_ne (Or.inl (wd hw 226 rfl)) (Or.inl (wd hw 106 rfl)) (by decide) (t := .int) (t' := .long) (by decide) (by decide))))
  have f490 := (Exa.wr W478 E459)
  have f491 := (Fld.other W478 T459_comparator (Or.inl (Ne.symm na)))
  have f492 := (Fld.other W478 T459_root (Or.inl (Ne.symm na)))
  have f493 := (Fld.other W478 T459_size (Or.inl (Ne.symm na)))
  have f494 := (Fld.other W478 T459_modCount (Or.inl (Ne.symm na)))
  have f495 := (Exa.wr W478 G459)
  have f496 := (Fld.other W478 N459_key (Or.inl (Nat.ne_of_gt lt460)))
  have f497 := (Fld.other W478 N459_value (Or.inl (Nat.ne_of_gt lt460)))
  have f498 := (Fld.other W478 N459_left (Or.inl (Nat.ne_of_gt lt460)))
  have f499 := (Fld.other W478 N459_right (Or.inl (Nat.ne_of_gt lt460)))
  have f500 := (Fld.other W478 N459_parent (Or.inl (Nat.ne_of_gt lt460)))
  have f501 := (Fld.other W478 N459_color (Or.inl (Nat.ne_of_gt lt460)))
  have f502 := (Exa.wr W478 (Exa.keep f457 K459))
  have f503 := (Fld.other W478 (Fld.keep f458 K459 (ninS nx436 nin0)) (Or.inl nx434))
  exact g_retV C X478 d16_85 (by decide) (by decide) ⟨rfl, kp485, en, b433, b438, ge0, sz470, f486, f487, f488, f478, f489, f490, f491, f492, f493, f494, f495, f496, f497, f498, f499, f500, f501, f502, f503⟩
theorem ef_rH11 (m : MethodId) (hm : Addr) (x : Int32) (m_ : Addr) : entryFrame m #[(.ref hm), (.int x), (.ref m_), (.int 1)] 4 = mkF m 0 #[.val (.ref hm), .val (.int x), .val (.ref m_), .val (.int 1)] [] := by first | (simp [entryFrame, mkF, argsToLocals, Value.category]; done) | rfl
theorem rH11 (l : Launch) {Z : State} {a0 : Array Value} (hw : ∀ d ∈ tables_1, d.before a0 Z = true) {h : Heap} (hE : Ext Z.heap h) (hm : Addr) (x : Int32) (m_ : Addr) (f tm : Addr) (kf : ClassId) (c0 q0 : Int32) (ca : Addr) (kc : ClassId) (vc : List Value) (SH : Sta Z Z.heap "java/lang/Integer$IntegerCache" "high" "I" (.int (127 : Int32))) (SC : Sta Z Z.heap "java/lang/Integer$IntegerCache" "cache" "[Ljava/lang/Integer;" (.ref ca)) (VC : Arv Z Z.heap ca kc (.object "java/lang/Integer") 256 vc .null) (HB : ∀ j : Int32, ¬ j < 0 → j < 256 → ∃ b : Addr, vc.getD j.toNatClampNeg .null = .ref b ∧ Exa Z Z.heap b "java/lang/Integer" ∧ Fld Z Z.heap b "java/lang/Integer" "value" "I" (.int (j - 128))) (E_hm : Exa Z h hm "com/example/halyard/halyard/gateway/HeldMessages") (F_hm_held : Fld Z h hm "com/example/halyard/halyard/gateway/HeldMessages" "held" "Ljava/util/NavigableMap;" (.ref tm)) (F_hm_highestCome : Fld Z h hm "com/example/halyard/halyard/gateway/HeldMessages" "highestCome" "I" (.int c0)) (F_hm_bytes : Fld Z h hm "com/example/halyard/halyard/gateway/HeldMessages" "bytes" "J" (.long 0)) (F_hm_askedThrough : Fld Z h hm "com/example/halyard/halyard/gateway/HeldMessages" "askedThrough" "I" (.int q0)) (E_tm : Exa Z h tm "java/util/TreeMap") (F_tm_comparator : Fld Z h tm "java/util/TreeMap" "comparator" "Ljava/util/Comparator;" .null) (F_tm_root : Fld Z h tm "java/util/TreeMap" "root" "Ljava/util/TreeMap$Entry;" .null) (F_tm_size : Fld Z h tm "java/util/TreeMap" "size" "I" (.int 0)) (F_tm_modCount : Fld Z h tm "java/util/TreeMap" "modCount" "I" (.int 0)) (E_m_ : Exa Z h m_ "com/example/halyard/halyard/fix/FixMessage") (F_m__bytes : Fld Z h m_ "com/example/halyard/halyard/fix/FixMessage" "bytes" "[B" (.ref f)) (VF : Arv Z h f kf .byte 15 [(.int 56), (.int 61), (.int 65), (.int 1), (.int 57), (.int 61), (.int 48), (.int 1), (.int 49), (.int 48), (.int 61), (.int 48), (.int 57), (.int 52), (.int 1)] (.int (0 : Int32))) (hn : Z.heap.size ≤ hm) (hnt : Z.heap.size ≤ tm) (na : hm ≠ tm) (nb : m_ ≠ hm) (nc : m_ ≠ tm) (nd : f ≠ hm) (ne_ : f ≠ tm) :
    Con l (⟨"com/example/halyard/halyard/gateway/HeldMessages", "hold", "(ILcom/example/halyard/halyard/fix/FixMessage;Z)V"⟩ : MethodName) prog_43_method_2_code 4 none [] ({ frames := 7, cells := 3, slots := 9, locals := 168 } : Room) Z #[(.ref hm), (.int x), (.ref m_), (.int 1)] h (fun v' h' => v' = none ∧ Keep h h' [hm, tm] ∧ ∃ (en ky vl : Addr), Z.heap.size ≤ en ∧ h.size ≤ en ∧ Exa Z h' hm "com/example/halyard/halyard/gateway/HeldMessages" ∧ Fld Z h' hm "com/example/halyard/halyard/gateway/HeldMessages" "held" "Ljava/util/NavigableMap;" (.ref tm) ∧ Fld Z h' hm "com/example/halyard/halyard/gateway/HeldMessages" "highestCome" "I" (.int (own_mx c0 x)) ∧ Fld Z h' hm "com/example/halyard/halyard/gateway/HeldMessages" "bytes" "J" (.long 15) ∧ Fld Z h' hm "com/example/halyard/halyard/gateway/HeldMessages" "askedThrough" "I" (.int q0) ∧ Exa Z h' tm "java/util/TreeMap" ∧ Fld Z h' tm "java/util/TreeMap" "comparator" "Ljava/util/Comparator;" .null ∧ Fld Z h' tm "java/util/TreeMap" "root" "Ljava/util/TreeMap$Entry;" (.ref en) ∧ Fld Z h' tm "java/util/TreeMap" "size" "I" (.int 1) ∧ Fld Z h' tm "java/util/TreeMap" "modCount" "I" (.int 1) ∧ Exa Z h' en "java/util/TreeMap$Entry" ∧ Fld Z h' en "java/util/TreeMap$Entry" "key" "Ljava/lang/Object;" (.ref ky) ∧ Fld Z h' en "java/util/TreeMap$Entry" "value" "Ljava/lang/Object;" (.ref vl) ∧ Fld Z h' en "java/util/TreeMap$Entry" "left" "Ljava/util/TreeMap$Entry;" .null ∧ Fld Z h' en "java/util/TreeMap$Entry" "right" "Ljava/util/TreeMap$Entry;" .null ∧ Fld Z h' en "java/util/TreeMap$Entry" "parent" "Ljava/util/TreeMap$Entry;" .null ∧ Fld Z h' en "java/util/TreeMap$Entry" "color" "Z" (.int 1) ∧ Exa Z h' ky "java/lang/Integer" ∧ Fld Z h' ky "java/lang/Integer" "value" "I" (.int x)) := by
  refine con_of (plainFor_of_name pn_10) hE (fun m => ef_rH11 m hm x m_) ?_
  intro p e s m below meth c T0 C X0
  have C : Cx p s m meth c Z "com/example/halyard/halyard/gateway/HeldMessages" "hold" prog_43_method_2_code 4 none := C
  show Goes p e below _ T0 (mkF m 0 #[.val (.ref hm), .val (.int x), .val (.ref m_), .val (.int 1)] [])
  refine g_aloadN C X0 d16_0 rfl rfl (g_aloadN C X0 d16_1 rfl rfl (g_getfield (host := "") C X0 (Or.inl (wd hw 102 rfl)) Via.refl F_hm_highestCome d16_2 (fun T504 X504 => ?_)))
  refine g_iloadN C X504 d16_5 rfl (g_staticP (argsL := [(.int c0), (.int x)]) (st := [(.ref hm)]) C X504 (wd hw 104 rfl) (wd hw 9 rfl) (wd hw 10 rfl) (wd hw 11 rfl) (by decide) (pay_of (W' := 1) (rMx l hw X504.ext c0 x) C.hZ (wd hw 11 rfl) (wd hw 10 rfl) (by decide) (by decide)) pd_7 rfl rfl _ rfl (Nat.le_of_eq rfl) d16_6 (by decide) (by decide) (fun T505 X505 => ?_))
  refine g_putfield (host := "") C X505 (Or.inl (wd hw 102 rfl)) Via.refl F_hm_highestCome E_hm (Or.inl (wd hw 103 rfl)) (wd hw 70 rfl) (ty := .int) (by decide) rfl rfl hn d16_9 (fun T506 h506 X506 W506 => ?_)
  have f506 := Fld.same W506 F_hm_highestCome
  refine g_aloadN C X506 d16_12 rfl rfl ?_
  have f507 := (Fld.other W506 F_hm_bytes (Or.inr (slot_ne (Or.inl (wd hw 106 rfl)) (Or.inl (wd hw 103 rfl)) (by decide) (t := .long) (t' := .int) (by decide) (by decide))))
  refine g_getfield (host := "") C X506 (Or.inl (wd hw 105 rfl)) Via.refl f507 d16_13 (fun T508 X508 => ?_)
  refine g_aloadN C X508 d16_16 rfl rfl ?_
  have f509 := (Exa.wr W506 E_m_)
  have f510 := (Fld.other W506 F_m__bytes (Or.inl nb))
  have f511 := (Arv.other VF W506 nd)
  refine g_virtualP (argsL := []) (st := [(.long 0)]) C X508 (wd hw 107 rfl) (wd hw 108 rfl) (nf_of C (wd hw 110 rfl) rfl rfl) (wd hw 110 rfl) (wd hw 109 rfl) (by decide) f509 (pay_of (W' := 2) (rLg l hw X508.ext m_ f kf f509 f510 f511) C.hZ (wd hw 111 rfl) (wd hw 3 rfl) (by decide) (by decide)) pd_21 rfl rfl _ rfl (Nat.le_of_eq rfl) d16_17 (by decide) (by decide) (fun T512 X512 => ?_)
  refine g_i2l C X512 d16_20 (g_ladd C X512 d16_21 (g_ldcJ C X512 (wd hw 112 rfl) d16_22 (g_lcmp C X512 d16_25 (g_ifn (hL_le _ _) C X512 d16_26 (fun _ => ?_) (fun q => absurd q (by decide))))))
  refine g_aloadN C X512 d16_46 rfl rfl ?_
  have f513 := (Fld.other W506 F_hm_held (Or.inr (slot_ne (Or.inr (wd hw 96 rfl)) (Or.inl (wd hw 103 rfl)) (by decide) (t := (.object "java/util/NavigableMap")) (t' := .int) (by decide) (by decide))))
  refine g_getfield (host := "") C X512 (Or.inl (wd hw 95 rfl)) Via.refl f513 d16_47 (fun T514 X514 => ?_)
  refine g_iloadN C X514 d16_50 rfl (g_static (argsL := [(.int x)]) (st := [(.ref tm)]) C X514 (wd hw 113 rfl) (wd hw 114 rfl) (wd hw 115 rfl) (wd hw 116 rfl) (by decide) (pay_of (W' := 1) (rVa l hw X514.ext x ca kc vc SH SC VC HB) C.hZ (wd hw 116 rfl) (wd hw 115 rfl) (by decide) (by decide)) pd_22 rfl rfl _ rfl (Nat.le_of_eq rfl) d16_51 (by decide) (by decide) (fun T515 h515 v515 q515 X515 => ?_))
  obtain ⟨b515, rfl, E515, A515, F515⟩ := q515
  have f517 := (Exa.ext E515 (Exa.wr W506 E_hm))
  have nx516 : b515 ≠ hm := own_exne A515 f517 (by decide)
  have f519 := (Exa.ext E515 (Exa.wr W506 E_tm))
  have nx518 : b515 ≠ tm := own_exne A515 f519 (by decide)
  show Goes p e below _ T515 (mkF m 54 #[.val (.ref hm), .val (.int x), .val (.ref m_), .val (.int 1)] [(.ref b515), (.ref tm)])
  refine g_new C X515 (wd hw 120 rfl) (wd hw 121 rfl) (wd hw 122 rfl) d16_54 (by decide) (by decide) (fun T520 h520 b520 g_b520 n_b520 X520 E520 A520 D520 M520 => ?_)
  have lt521 : hm < b520 := by rw [g_b520]; exact Exa.lt f517
  have lt522 : tm < b520 := by rw [g_b520]; exact Exa.lt f519
  have f523 := (Exa.ext E515 f509)
  have lt524 : m_ < b520 := by rw [g_b520]; exact Exa.lt f523
  have f525 := (Arv.ext f511 E515)
  have lt526 : f < b520 := by rw [g_b520]; exact Arv.lt f525
  have lt527 : b515 < b520 := by rw [g_b520]; exact Exa.lt A515
  have F_message_b520 : Fld Z h520 b520 "com/example/halyard/halyard/gateway/HeldMessages$Held" "message" "Lcom/example/halyard/halyard/fix/FixMessage;" .null := D520 (Or.inr (wd hw 133 rfl)) (ty := (.object "com/example/halyard/halyard/fix/FixMessage")) (by decide)
  have F_answered_b520 : Fld Z h520 b520 "com/example/halyard/halyard/gateway/HeldMessages$Held" "answered" "Z" (.int 0) := D520 (Or.inr (wd hw 135 rfl)) (ty := .boolean) (by decide)
  refine g_dup C X520 d16_57 rfl (g_aloadN C X520 d16_58 rfl rfl (g_iloadN C X520 d16_59 rfl (g_special (argsL := [(.ref m_), (.int 1)]) (st := [(.ref b520), (.ref b515), (.ref tm)]) C X520 rfl (wd hw 123 rfl) (wd hw 124 rfl) (wd hw 125 rfl) (by decide) (pay_of (W' := 3) (rHe1 l hw X520.ext b520 m_ A520 F_message_b520 F_answered_b520 n_b520) C.hZ (wd hw 125 rfl) (wd hw 122 rfl) (by decide) (by decide)) pd_23 rfl rfl _ rfl (Nat.le_of_eq rfl) d16_60 (by decide) (by decide) (fun T528 h528 v528 q528 X528 => ?_))))
  obtain ⟨rfl, K528⟩ := q528
  show Goes p e below _ T528 (mkF m 63 #[.val (.ref hm), .val (.int x), .val (.ref m_), .val (.int 1)] [(.ref b520), (.ref b515), (.ref tm)])
  have kp529 := (Keep.refl h [hm, tm]).wr W506 (Or.inl (by simp))
  have kp530 := kp529.ext E515
  have sz531 : h.size ≤ b520 := by rw [g_b520]; exact kp530.1
  have kp532 := kp530.ext E520
  have kp533 := kp532.trans K528 (allS (Or.inr sz531) all0)
  have f534 := (Exa.keep (Exa.ext E520 f519) K528)
  have f535 := (Fld.keep (Fld.ext E520 (Fld.ext E515 (Fld.other W506 F_tm_comparator (Or.inl (Ne.symm na))))) K528 (ninS (Nat.ne_of_lt lt522) nin0))
  have f536 := (Fld.keep (Fld.ext E520 (Fld.ext E515 (Fld.other W506 F_tm_root (Or.inl (Ne.symm na))))) K528 (ninS (Nat.ne_of_lt lt522) nin0))
  have f537 := (Fld.keep (Fld.ext E520 (Fld.ext E515 (Fld.other W506 F_tm_size (Or.inl (Ne.symm na))))) K528 (ninS (Nat.ne_of_lt lt522) nin0))
  have f538 := (Fld.keep (Fld.ext E520 (Fld.ext E515 (Fld.other W506 F_tm_modCount (Or.inl (Ne.symm na))))) K528 (ninS (Nat.ne_of_lt lt522) nin0))
  have f539 := (Exa.keep (Exa.ext E520 A515) K528)
  have f540 := (Fld.keep (Fld.ext E520 F515) K528 (ninS (Nat.ne_of_lt lt527) nin0))
  refine g_interfaceUp (argsL := [(.ref b515), (.ref b520)]) (st := []) C X528 (wd hw 136 rfl) (wd hw 137 rfl) (own_mvI C.hZ (wd hw 138 rfl)) (wd hw 139 rfl) (wd hw 140 rfl) (wd hw 141 rfl) (mvT C.hZ (wd hw 142 rfl)) (wd hw 143 rfl) (by decide) (by decide) (by decide) f534 (pay_of (W' := 0) (rQ0 l hw X528.ext tm b515 b520 x f534 f535 f536 f537 f538 f539 f540 hnt nx518) C.hZ (wd hw 144 rfl) (wd hw 78 rfl) (by decide) (by decide)) pd_24 rfl rfl _ rfl (Nat.le_of_eq rfl) d16_63 (by decide) (by decide) (fun T541 h541 v541 q541 X541 => ?_)
  obtain ⟨rfl, K541, en, ge0, ge1, E541, T541_comparator, T541_root, T541_size, T541_modCount, G541, N541_key, N541_value, N541_left, N541_right, N541_parent, N541_color⟩ := q541
  have f543 := (Exa.keep (Exa.ext E520 f517) K528)
  have lt542 : hm < en := Nat.lt_of_lt_of_le (Exa.lt f543) ge1
  have lt544 : tm < en := Nat.lt_of_lt_of_le (Exa.lt f534) ge1
  have f546 := (Exa.keep (Exa.ext E520 f523) K528)
  have lt545 : m_ < en := Nat.lt_of_lt_of_le (Exa.lt f546) ge1
  have f548 := (Arv.keep (Arv.ext f525 E520) K528 (ninS (Nat.ne_of_lt lt526) nin0))
  have lt547 : f < en := Nat.lt_of_lt_of_le (Arv.lt f548) ge1
  have lt549 : b515 < en := Nat.lt_of_lt_of_le (Exa.lt f539) ge1
  have f551 := (Exa.keep A520 K528)
  have lt550 : b520 < en := Nat.lt_of_lt_of_le (Exa.lt f551) ge1
  show Goes p e below _ T541 (mkF m 68 #[.val (.ref hm), .val (.int x), .val (.ref m_), .val (.int 1)] [.null])
  have sz552 : h.size ≤ en := Nat.le_trans kp533.1 ge1
  refine g_ifnonnull C X541 d16_68 rfl (fun q => absurd rfl q) (fun _ => ?_)
  refine g_aloadN C X541 d16_71 rfl rfl (g_dup C X541 d16_72 rfl ?_)
  have f553 := (Fld.keep (Fld.keep (Fld.ext E520 (Fld.ext E515 f507)) K528 (ninS (Nat.ne_of_lt lt521) nin0)) K541 (ninS na nin0))
  refine g_getfield (host := "") C X541 (Or.inl (wd hw 105 rfl)) Via.refl f553 d16_73 (fun T554 X554 => ?_)
  refine g_aloadN C X554 d16_76 rfl rfl ?_
  have f555 := (Exa.keep f546 K541)
  have f556 := (Fld.keep (Fld.keep (Fld.ext E520 (Fld.ext E515 f510)) K528 (ninS (Nat.ne_of_lt lt524) nin0)) K541 (ninS nc nin0))
  have f557 := (Arv.keep f548 K541 (ninS ne_ nin0))
  refine g_virtualP (argsL := []) (st := [(.long 0), (.ref hm)]) C X554 (wd hw 107 rfl) (wd hw 108 rfl) (nf_of C (wd hw 110 rfl) rfl rfl) (wd hw 110 rfl) (wd hw 109 rfl) (by decide) f555 (pay_of (W' := 3) (rLg l hw X554.ext m_ f kf f555 f556 f557) C.hZ (wd hw 111 rfl) (wd hw 3 rfl) (by decide) (by decide)) pd_21 rfl rfl _ rfl (Nat.le_of_eq rfl) d16_77 (by decide) (by decide) (fun T558 X558 => ?_)
  refine g_i2l C X558 d16_80 (g_ladd C X558 d16_81 ?_)
  have f559 := (Exa.keep f543 K541)
  refine g_putfield (host := "") C X558 (Or.inl (wd hw 105 rfl)) Via.refl f553 f559 (Or.inl (wd hw 106 rfl)) (wd hw 70 rfl) (ty := .long) (by decide) rfl rfl hn d16_82 (fun T560 h560 X560 W560 => ?_)
  have f560 := Fld.same W560 f553
  have kp561 := (Keep.refl h [hm, tm]).wr W506 (Or.inl (by simp))
  have kp562 := kp561.ext E515
  have sz563 : h.size ≤ b520 := by rw [g_b520]; exact kp562.1
  have kp564 := kp562.ext E520
  have kp565 := kp564.trans K528 (allS (Or.inr sz563) all0)
  have kp566 := kp565.trans K541 (allS (Or.inl (by simp)) all0)
  have kp567 := kp566.wr W560 (Or.inl (by simp))
  have f568 := (Exa.wr W560 f559)
  have f569 := (Fld.other W560 (Fld.keep (Fld.keep (Fld.ext E520 (Fld.ext E515 f513)) K528 (ninS (Nat.ne_of_lt lt521) nin0)) K541 (ninS na nin0)) (Or.inr (slot_ne (Or.inr (wd hw 96 rfl)) (Or.inl (wd hw 106 rfl)) (by decide) (t := (.object "java/util/NavigableMap")) (t' := .long) (by decide) (by decide))))
  have f570 := (Fld.other W560 (Fld.keep (Fld.keep (Fld.ext E520 (Fld.ext E515 f506)) K528 (ninS (Nat.ne_of_lt lt521) nin0)) K541 (ninS na nin0)) (Or.inr (slot_ne (Or.inl (wd hw 103 rfl)) (Or.inl (wd hw 106 rfl)) (by decide) (t := .int) (t' := .long) (by decide) (by decide))))
  have f571 := (Fld.other W560 (Fld.keep (Fld.keep (Fld.ext E520 (Fld.ext E515 (Fld.other W506 F_hm_askedThrough (Or.inr (slot_ne (Or.inl (wd hw 226 rfl)) (Or.inl (wd hw 103 rfl)) (by decide) (t := .int) (t' := .int) (by decide) (by decide)))))) K528 (ninS (Nat.ne_of_lt lt521) nin0)) K541 (ninS na nin0)) (Or.inr (slot_ne (Or.inl (wd hw 226 rfl)) (Or.inl (wd hw 106 rfl)) (by decide) (t := .int) (t' := .long) (by decide) (by decide))))
  have f572 := (Exa.wr W560 E541)
  have f573 := (Fld.other W560 T541_comparator (Or.inl (Ne.symm na)))
  have f574 := (Fld.other W560 T541_root (Or.inl (Ne.symm na)))
  have f575 := (Fld.other W560 T541_size (Or.inl (Ne.symm na)))
  have f576 := (Fld.other W560 T541_modCount (Or.inl (Ne.symm na)))
  have f577 := (Exa.wr W560 G541)
  have f578 := (Fld.other W560 N541_key (Or.inl (Nat.ne_of_gt lt542)))
  have f579 := (Fld.other W560 N541_value (Or.inl (Nat.ne_of_gt lt542)))
  have f580 := (Fld.other W560 N541_left (Or.inl (Nat.ne_of_gt lt542)))
  have f581 := (Fld.other W560 N541_right (Or.inl (Nat.ne_of_gt lt542)))
  have f582 := (Fld.other W560 N541_parent (Or.inl (Nat.ne_of_gt lt542)))
  have f583 := (Fld.other W560 N541_color (Or.inl (Nat.ne_of_gt lt542)))
  have f584 := (Exa.wr W560 (Exa.keep f539 K541))
  have f585 := (Fld.other W560 (Fld.keep f540 K541 (ninS nx518 nin0)) (Or.inl nx516))
  exact g_retV C X560 d16_85 (by decide) (by decide) ⟨rfl, kp567, en, b515, b520, ge0, sz552, f568, f569, f570, f560, f571, f572, f573, f574, f575, f576, f577, f578, f579, f580, f581, f582, f583, f584, f585⟩
theorem ef_rH20 (m : MethodId) (hm : Addr) (x : Int32) (m_ : Addr) : entryFrame m #[(.ref hm), (.int x), (.ref m_), (.int 0)] 4 = mkF m 0 #[.val (.ref hm), .val (.int x), .val (.ref m_), .val (.int 0)] [] := by first | (simp [entryFrame, mkF, argsToLocals, Value.category]; done) | rfl
theorem rH20 (l : Launch) {Z : State} {a0 : Array Value} (hw : ∀ d ∈ tables_1, d.before a0 Z = true) {h : Heap} (hE : Ext Z.heap h) (hm : Addr) (x : Int32) (m_ : Addr) (f tm pe kp vp : Addr) (kf : ClassId) (c0 q0 y : Int32) (ca : Addr) (kc : ClassId) (vc : List Value) (SH : Sta Z Z.heap "java/lang/Integer$IntegerCache" "high" "I" (.int (127 : Int32))) (SC : Sta Z Z.heap "java/lang/Integer$IntegerCache" "cache" "[Ljava/lang/Integer;" (.ref ca)) (VC : Arv Z Z.heap ca kc (.object "java/lang/Integer") 256 vc .null) (HB : ∀ j : Int32, ¬ j < 0 → j < 256 → ∃ b : Addr, vc.getD j.toNatClampNeg .null = .ref b ∧ Exa Z Z.heap b "java/lang/Integer" ∧ Fld Z Z.heap b "java/lang/Integer" "value" "I" (.int (j - 128))) (E_hm : Exa Z h hm "com/example/halyard/halyard/gateway/HeldMessages") (F_hm_held : Fld Z h hm "com/example/halyard/halyard/gateway/HeldMessages" "held" "Ljava/util/NavigableMap;" (.ref tm)) (F_hm_highestCome : Fld Z h hm "com/example/halyard/halyard/gateway/HeldMessages" "highestCome" "I" (.int c0)) (F_hm_bytes : Fld Z h hm "com/example/halyard/halyard/gateway/HeldMessages" "bytes" "J" (.long 15)) (F_hm_askedThrough : Fld Z h hm "com/example/halyard/halyard/gateway/HeldMessages" "askedThrough" "I" (.int q0)) (E_tm : Exa Z h tm "java/util/TreeMap") (F_tm_comparator : Fld Z h tm "java/util/TreeMap" "comparator" "Ljava/util/Comparator;" .null) (F_tm_root : Fld Z h tm "java/util/TreeMap" "root" "Ljava/util/TreeMap$Entry;" (.ref pe)) (F_tm_size : Fld Z h tm "java/util/TreeMap" "size" "I" (.int 1)) (F_tm_modCount : Fld Z h tm "java/util/TreeMap" "modCount" "I" (.int 1)) (E_pe : Exa Z h pe "java/util/TreeMap$Entry") (F_pe_key : Fld Z h pe "java/util/TreeMap$Entry" "key" "Ljava/lang/Object;" (.ref kp)) (F_pe_value : Fld Z h pe "java/util/TreeMap$Entry" "value" "Ljava/lang/Object;" (.ref vp)) (F_pe_left : Fld Z h pe "java/util/TreeMap$Entry" "left" "Ljava/util/TreeMap$Entry;" .null) (F_pe_right : Fld Z h pe "java/util/TreeMap$Entry" "right" "Ljava/util/TreeMap$Entry;" .null) (F_pe_parent : Fld Z h pe "java/util/TreeMap$Entry" "parent" "Ljava/util/TreeMap$Entry;" .null) (F_pe_color : Fld Z h pe "java/util/TreeMap$Entry" "color" "Z" (.int 1)) (E_kp : Exa Z h kp "java/lang/Integer") (F_kp_value : Fld Z h kp "java/lang/Integer" "value" "I" (.int y)) (E_m_ : Exa Z h m_ "com/example/halyard/halyard/fix/FixMessage") (F_m__bytes : Fld Z h m_ "com/example/halyard/halyard/fix/FixMessage" "bytes" "[B" (.ref f)) (VF : Arv Z h f kf .byte 15 [(.int 56), (.int 61), (.int 65), (.int 1), (.int 57), (.int 61), (.int 48), (.int 1), (.int 49), (.int 48), (.int 61), (.int 48), (.int 57), (.int 52), (.int 1)] (.int (0 : Int32))) (hn : Z.heap.size ≤ hm) (hnt : Z.heap.size ≤ tm) (na : hm ≠ tm) (nb : m_ ≠ hm) (nc : m_ ≠ tm) (nd : f ≠ hm) (ne_ : f ≠ tm) (hnp : Z.heap.size ≤ pe) (nf : hm ≠ pe) (ng : tm ≠ pe) (nh : m_ ≠ pe) (ni : f ≠ pe) :
    Con l (⟨"com/example/halyard/halyard/gateway/HeldMessages", "hold", "(ILcom/example/halyard/halyard/fix/FixMessage;Z)V"⟩ : MethodName) prog_43_method_2_code 4 none [] ({ frames := 7, cells := 3, slots := 9, locals := 168 } : Room) Z #[(.ref hm), (.int x), (.ref m_), (.int 0)] h (fun v' h' => v' = none ∧ Keep h h' [hm, tm, pe] ∧ Exa Z h' hm "com/example/halyard/halyard/gateway/HeldMessages" ∧ Fld Z h' hm "com/example/halyard/halyard/gateway/HeldMessages" "highestCome" "I" (.int (own_mx c0 x)) ∧ Fld Z h' hm "com/example/halyard/halyard/gateway/HeldMessages" "askedThrough" "I" (.int q0)) := by
  refine con_of (plainFor_of_name pn_10) hE (fun m => ef_rH20 m hm x m_) ?_
  intro p e s m below meth c T0 C X0
  have C : Cx p s m meth c Z "com/example/halyard/halyard/gateway/HeldMessages" "hold" prog_43_method_2_code 4 none := C
  show Goes p e below _ T0 (mkF m 0 #[.val (.ref hm), .val (.int x), .val (.ref m_), .val (.int 0)] [])
  have nx586 : kp ≠ hm := own_exne E_kp E_hm (by decide)
  have nx587 : kp ≠ tm := own_exne E_kp E_tm (by decide)
  have nx588 : kp ≠ pe := own_exne E_kp E_pe (by decide)
  show Goes p e below _ T0 (mkF m 0 #[.val (.ref hm), .val (.int x), .val (.ref m_), .val (.int 0)] [])
  refine g_aloadN C X0 d16_0 rfl rfl (g_aloadN C X0 d16_1 rfl rfl (g_getfield (host := "") C X0 (Or.inl (wd hw 102 rfl)) Via.refl F_hm_highestCome d16_2 (fun T589 X589 => ?_)))
  refine g_iloadN C X589 d16_5 rfl (g_staticP (argsL := [(.int c0), (.int x)]) (st := [(.ref hm)]) C X589 (wd hw 104 rfl) (wd hw 9 rfl) (wd hw 10 rfl) (wd hw 11 rfl) (by decide) (pay_of (W' := 1) (rMx l hw X589.ext c0 x) C.hZ (wd hw 11 rfl) (wd hw 10 rfl) (by decide) (by decide)) pd_7 rfl rfl _ rfl (Nat.le_of_eq rfl) d16_6 (by decide) (by decide) (fun T590 X590 => ?_))
  refine g_putfield (host := "") C X590 (Or.inl (wd hw 102 rfl)) Via.refl F_hm_highestCome E_hm (Or.inl (wd hw 103 rfl)) (wd hw 70 rfl) (ty := .int) (by decide) rfl rfl hn d16_9 (fun T591 h591 X591 W591 => ?_)
  have f591 := Fld.same W591 F_hm_highestCome
  refine g_aloadN C X591 d16_12 rfl rfl ?_
  have f592 := (Fld.other W591 F_hm_bytes (Or.inr (slot_ne (Or.inl (wd hw 106 rfl)) (Or.inl (wd hw 103 rfl)) (by decide) (t := .long) (t' := .int) (by decide) (by decide))))
  refine g_getfield (host := "") C X591 (Or.inl (wd hw 105 rfl)) Via.refl f592 d16_13 (fun T593 X593 => ?_)
  refine g_aloadN C X593 d16_16 rfl rfl ?_
  have f594 := (Exa.wr W591 E_m_)
  have f595 := (Fld.other W591 F_m__bytes (Or.inl nb))
  have f596 := (Arv.other VF W591 nd)
  refine g_virtualP (argsL := []) (st := [(.long 15)]) C X593 (wd hw 107 rfl) (wd hw 108 rfl) (nf_of C (wd hw 110 rfl) rfl rfl) (wd hw 110 rfl) (wd hw 109 rfl) (by decide) f594 (pay_of (W' := 2) (rLg l hw X593.ext m_ f kf f594 f595 f596) C.hZ (wd hw 111 rfl) (wd hw 3 rfl) (by decide) (by decide)) pd_21 rfl rfl _ rfl (Nat.le_of_eq rfl) d16_17 (by decide) (by decide) (fun T597 X597 => ?_)
  refine g_i2l C X597 d16_20 (g_ladd C X597 d16_21 (g_ldcJ C X597 (wd hw 112 rfl) d16_22 (g_lcmp C X597 d16_25 (g_ifn (hL_le _ _) C X597 d16_26 (fun _ => ?_) (fun q => absurd q (by decide))))))
  refine g_aloadN C X597 d16_46 rfl rfl ?_
  have f598 := (Fld.other W591 F_hm_held (Or.inr (slot_ne (Or.inr (wd hw 96 rfl)) (Or.inl (wd hw 103 rfl)) (by decide) (t := (.object "java/util/NavigableMap")) (t' := .int) (by decide) (by decide))))
  refine g_getfield (host := "") C X597 (Or.inl (wd hw 95 rfl)) Via.refl f598 d16_47 (fun T599 X599 => ?_)
  refine g_iloadN C X599 d16_50 rfl (g_static (argsL := [(.int x)]) (st := [(.ref tm)]) C X599 (wd hw 113 rfl) (wd hw 114 rfl) (wd hw 115 rfl) (wd hw 116 rfl) (by decide) (pay_of (W' := 1) (rVa l hw X599.ext x ca kc vc SH SC VC HB) C.hZ (wd hw 116 rfl) (wd hw 115 rfl) (by decide) (by decide)) pd_22 rfl rfl _ rfl (Nat.le_of_eq rfl) d16_51 (by decide) (by decide) (fun T600 h600 v600 q600 X600 => ?_))
  obtain ⟨b600, rfl, E600, A600, F600⟩ := q600
  have f602 := (Exa.ext E600 (Exa.wr W591 E_hm))
  have nx601 : b600 ≠ hm := own_exne A600 f602 (by decide)
  have f604 := (Exa.ext E600 (Exa.wr W591 E_tm))
  have nx603 : b600 ≠ tm := own_exne A600 f604 (by decide)
  have f606 := (Exa.ext E600 (Exa.wr W591 E_pe))
  have nx605 : b600 ≠ pe := own_exne A600 f606 (by decide)
  show Goes p e below _ T600 (mkF m 54 #[.val (.ref hm), .val (.int x), .val (.ref m_), .val (.int 0)] [(.ref b600), (.ref tm)])
  refine g_new C X600 (wd hw 120 rfl) (wd hw 121 rfl) (wd hw 122 rfl) d16_54 (by decide) (by decide) (fun T607 h607 b607 g_b607 n_b607 X607 E607 A607 D607 M607 => ?_)
  have lt608 : hm < b607 := by rw [g_b607]; exact Exa.lt f602
  have lt609 : tm < b607 := by rw [g_b607]; exact Exa.lt f604
  have f610 := (Exa.ext E600 f594)
  have lt611 : m_ < b607 := by rw [g_b607]; exact Exa.lt f610
  have f612 := (Arv.ext f596 E600)
  have lt613 : f < b607 := by rw [g_b607]; exact Arv.lt f612
  have lt614 : pe < b607 := by rw [g_b607]; exact Exa.lt f606
  have f615 := (Exa.ext E600 (Exa.wr W591 E_kp))
  have lt616 : kp < b607 := by rw [g_b607]; exact Exa.lt f615
  have lt617 : b600 < b607 := by rw [g_b607]; exact Exa.lt A600
  have F_message_b607 : Fld Z h607 b607 "com/example/halyard/halyard/gateway/HeldMessages$Held" "message" "Lcom/example/halyard/halyard/fix/FixMessage;" .null := D607 (Or.inr (wd hw 133 rfl)) (ty := (.object "com/example/halyard/halyard/fix/FixMessage")) (by decide)
  have F_answered_b607 : Fld Z h607 b607 "com/example/halyard/halyard/gateway/HeldMessages$Held" "answered" "Z" (.int 0) := D607 (Or.inr (wd hw 135 rfl)) (ty := .boolean) (by decide)
  refine g_dup C X607 d16_57 rfl (g_aloadN C X607 d16_58 rfl rfl (g_iloadN C X607 d16_59 rfl (g_special (argsL := [(.ref m_), (.int 0)]) (st := [(.ref b607), (.ref b600), (.ref tm)]) C X607 rfl (wd hw 123 rfl) (wd hw 124 rfl) (wd hw 125 rfl) (by decide) (pay_of (W' := 3) (rHe0 l hw X607.ext b607 m_ A607 F_message_b607 F_answered_b607 n_b607) C.hZ (wd hw 125 rfl) (wd hw 122 rfl) (by decide) (by decide)) pd_23 rfl rfl _ rfl (Nat.le_of_eq rfl) d16_60 (by decide) (by decide) (fun T618 h618 v618 q618 X618 => ?_))))
  obtain ⟨rfl, K618⟩ := q618
  show Goes p e below _ T618 (mkF m 63 #[.val (.ref hm), .val (.int x), .val (.ref m_), .val (.int 0)] [(.ref b607), (.ref b600), (.ref tm)])
  by_cases hv619 : x < y
  · have f621 := (Exa.keep (Exa.ext E607 f604) K618)
    have f622 := (Fld.keep (Fld.ext E607 (Fld.ext E600 (Fld.other W591 F_tm_comparator (Or.inl (Ne.symm na))))) K618 (ninS (Nat.ne_of_lt lt609) nin0))
    have f623 := (Fld.keep (Fld.ext E607 (Fld.ext E600 (Fld.other W591 F_tm_root (Or.inl (Ne.symm na))))) K618 (ninS (Nat.ne_of_lt lt609) nin0))
    have f624 := (Fld.keep (Fld.ext E607 (Fld.ext E600 (Fld.other W591 F_tm_size (Or.inl (Ne.symm na))))) K618 (ninS (Nat.ne_of_lt lt609) nin0))
    have f625 := (Fld.keep (Fld.ext E607 (Fld.ext E600 (Fld.other W591 F_tm_modCount (Or.inl (Ne.symm na))))) K618 (ninS (Nat.ne_of_lt lt609) nin0))
    have f626 := (Exa.keep (Exa.ext E607 f606) K618)
    have f627 := (Fld.keep (Fld.ext E607 (Fld.ext E600 (Fld.other W591 F_pe_key (Or.inl (Ne.symm nf))))) K618 (ninS (Nat.ne_of_lt lt614) nin0))
    have f628 := (Fld.keep (Fld.ext E607 (Fld.ext E600 (Fld.other W591 F_pe_value (Or.inl (Ne.symm nf))))) K618 (ninS (Nat.ne_of_lt lt614) nin0))
    have f629 := (Fld.keep (Fld.ext E607 (Fld.ext E600 (Fld.other W591 F_pe_left (Or.inl (Ne.symm nf))))) K618 (ninS (Nat.ne_of_lt lt614) nin0))
    have f630 := (Fld.keep (Fld.ext E607 (Fld.ext E600 (Fld.other W591 F_pe_right (Or.inl (Ne.symm nf))))) K618 (ninS (Nat.ne_of_lt lt614) nin0))
    have f631 := (Fld.keep (Fld.ext E607 (Fld.ext E600 (Fld.other W591 F_pe_parent (Or.inl (Ne.symm nf))))) K618 (ninS (Nat.ne_of_lt lt614) nin0))
    have f632 := (Fld.keep (Fld.ext E607 (Fld.ext E600 (Fld.other W591 F_pe_color (Or.inl (Ne.symm nf))))) K618 (ninS (Nat.ne_of_lt lt614) nin0))
    have f633 := (Exa.keep (Exa.ext E607 A600) K618)
    have f634 := (Fld.keep (Fld.ext E607 F600) K618 (ninS (Nat.ne_of_lt lt617) nin0))
    have f635 := (Exa.keep (Exa.ext E607 f615) K618)
    have f636 := (Fld.keep (Fld.ext E607 (Fld.ext E600 (Fld.other W591 F_kp_value (Or.inl nx586)))) K618 (ninS (Nat.ne_of_lt lt616) nin0))
    refine g_interfaceUp (argsL := [(.ref b600), (.ref b607)]) (st := []) C X618 (wd hw 136 rfl) (wd hw 137 rfl) (own_mvI C.hZ (wd hw 138 rfl)) (wd hw 139 rfl) (wd hw 140 rfl) (wd hw 141 rfl) (mvT C.hZ (wd hw 142 rfl)) (wd hw 143 rfl) (by decide) (by decide) (by decide) f621 (pay_of (W' := 0) (rQ1l l hw X618.ext tm b600 b607 pe kp vp x y f621 f622 f623 f624 f625 f626 f627 f628 f629 f630 f631 f632 hnt hnp ng f633 f634 f635 f636 hv619) C.hZ (wd hw 144 rfl) (wd hw 78 rfl) (by decide) (by decide)) pd_24 rfl rfl _ rfl (Nat.le_of_eq rfl) d16_63 (by decide) (by decide) (fun T637 h637 v637 q637 X637 => ?_)
    obtain ⟨rfl, K637⟩ := q637
    show Goes p e below _ T637 (mkF m 68 #[.val (.ref hm), .val (.int x), .val (.ref m_), .val (.int 0)] [.null])
    refine g_ifnonnull C X637 d16_68 rfl (fun q => absurd rfl q) (fun _ => ?_)
    refine g_aloadN C X637 d16_71 rfl rfl (g_dup C X637 d16_72 rfl ?_)
    have f638 := (Fld.keep (Fld.keep (Fld.ext E607 (Fld.ext E600 f592)) K618 (ninS (Nat.ne_of_lt lt608) nin0)) K637 (ninS na (ninS nf nin0)))
    refine g_getfield (host := "") C X637 (Or.inl (wd hw 105 rfl)) Via.refl f638 d16_73 (fun T639 X639 => ?_)
    refine g_aloadN C X639 d16_76 rfl rfl ?_
    have f640 := (Exa.keep (Exa.keep (Exa.ext E607 f610) K618) K637)
    have f641 := (Fld.keep (Fld.keep (Fld.ext E607 (Fld.ext E600 f595)) K618 (ninS (Nat.ne_of_lt lt611) nin0)) K637 (ninS nc (ninS nh nin0)))
    have f642 := (Arv.keep (Arv.keep (Arv.ext f612 E607) K618 (ninS (Nat.ne_of_lt lt613) nin0)) K637 (ninS ne_ (ninS ni nin0)))
    refine g_virtualP (argsL := []) (st := [(.long 15), (.ref hm)]) C X639 (wd hw 107 rfl) (wd hw 108 rfl) (nf_of C (wd hw 110 rfl) rfl rfl) (wd hw 110 rfl) (wd hw 109 rfl) (by decide) f640 (pay_of (W' := 3) (rLg l hw X639.ext m_ f kf f640 f641 f642) C.hZ (wd hw 111 rfl) (wd hw 3 rfl) (by decide) (by decide)) pd_21 rfl rfl _ rfl (Nat.le_of_eq rfl) d16_77 (by decide) (by decide) (fun T643 X643 => ?_)
    refine g_i2l C X643 d16_80 (g_ladd C X643 d16_81 ?_)
    have f644 := (Exa.keep (Exa.keep (Exa.ext E607 f602) K618) K637)
    refine g_putfield (host := "") C X643 (Or.inl (wd hw 105 rfl)) Via.refl f638 f644 (Or.inl (wd hw 106 rfl)) (wd hw 70 rfl) (ty := .long) (by decide) rfl rfl hn d16_82 (fun T645 h645 X645 W645 => ?_)
    have f645 := Fld.same W645 f638
    have kp646 := (Keep.refl h [hm, tm, pe]).wr W591 (Or.inl (by simp))
    have kp647 := kp646.ext E600
    have sz648 : h.size ≤ b607 := by rw [g_b607]; exact kp647.1
    have kp649 := kp647.ext E607
    have kp650 := kp649.trans K618 (allS (Or.inr sz648) all0)
    have kp651 := kp650.trans K637 (allS (Or.inl (by simp)) (allS (Or.inl (by simp)) all0))
    have kp652 := kp651.wr W645 (Or.inl (by simp))
    have f653 := (Exa.wr W645 f644)
    have f654 := (Fld.other W645 (Fld.keep (Fld.keep (Fld.ext E607 (Fld.ext E600 f591)) K618 (ninS (Nat.ne_of_lt lt608) nin0)) K637 (ninS na (ninS nf nin0))) (Or.inr (slot_ne (Or.inl (wd hw 103 rfl)) (Or.inl (wd hw 106 rfl)) (by decide) (t := .int) (t' := .long) (by decide) (by decide))))
    have f655 := (Fld.other W645 (Fld.keep (Fld.keep (Fld.ext E607 (Fld.ext E600 (Fld.other W591 F_hm_askedThrough (Or.inr (slot_ne (Or.inl (wd hw 226 rfl)) (Or.inl (wd hw 103 rfl)) (by decide) (t := .int) (t' := .int) (by decide) (by decide)))))) K618 (ninS (Nat.ne_of_lt lt608) nin0)) K637 (ninS na (ninS nf nin0))) (Or.inr (slot_ne (Or.inl (wd hw 226 rfl)) (Or.inl (wd hw 106 rfl)) (by decide) (t := .int) (t' := .long) (by decide) (by decide))))
    exact g_retV C X645 d16_85 (by decide) (by decide) ⟨rfl, kp652, f653, f654, f655⟩
  · by_cases hw620 : x = y
    · have f656 := (Exa.keep (Exa.ext E607 f604) K618)
      have f657 := (Fld.keep (Fld.ext E607 (Fld.ext E600 (Fld.other W591 F_tm_comparator (Or.inl (Ne.symm na))))) K618 (ninS (Nat.ne_of_lt lt609) nin0))
      have f658 := (Fld.keep (Fld.ext E607 (Fld.ext E600 (Fld.other W591 F_tm_root (Or.inl (Ne.symm na))))) K618 (ninS (Nat.ne_of_lt lt609) nin0))
      have f659 := (Fld.keep (Fld.ext E607 (Fld.ext E600 (Fld.other W591 F_tm_size (Or.inl (Ne.symm na))))) K618 (ninS (Nat.ne_of_lt lt609) nin0))
      have f660 := (Fld.keep (Fld.ext E607 (Fld.ext E600 (Fld.other W591 F_tm_modCount (Or.inl (Ne.symm na))))) K618 (ninS (Nat.ne_of_lt lt609) nin0))
      have f661 := (Exa.keep (Exa.ext E607 f606) K618)
      have f662 := (Fld.keep (Fld.ext E607 (Fld.ext E600 (Fld.other W591 F_pe_key (Or.inl (Ne.symm nf))))) K618 (ninS (Nat.ne_of_lt lt614) nin0))
      have f663 := (Fld.keep (Fld.ext E607 (Fld.ext E600 (Fld.other W591 F_pe_value (Or.inl (Ne.symm nf))))) K618 (ninS (Nat.ne_of_lt lt614) nin0))
      have f664 := (Fld.keep (Fld.ext E607 (Fld.ext E600 (Fld.other W591 F_pe_left (Or.inl (Ne.symm nf))))) K618 (ninS (Nat.ne_of_lt lt614) nin0))
      have f665 := (Fld.keep (Fld.ext E607 (Fld.ext E600 (Fld.other W591 F_pe_right (Or.inl (Ne.symm nf))))) K618 (ninS (Nat.ne_of_lt lt614) nin0))
      have f666 := (Fld.keep (Fld.ext E607 (Fld.ext E600 (Fld.other W591 F_pe_parent (Or.inl (Ne.symm nf))))) K618 (ninS (Nat.ne_of_lt lt614) nin0))
      have f667 := (Fld.keep (Fld.ext E607 (Fld.ext E600 (Fld.other W591 F_pe_color (Or.inl (Ne.symm nf))))) K618 (ninS (Nat.ne_of_lt lt614) nin0))
      have f668 := (Exa.keep (Exa.ext E607 A600) K618)
      have f669 := (Fld.keep (Fld.ext E607 F600) K618 (ninS (Nat.ne_of_lt lt617) nin0))
      have f670 := (Exa.keep (Exa.ext E607 f615) K618)
      have f671 := (Fld.keep (Fld.ext E607 (Fld.ext E600 (Fld.other W591 F_kp_value (Or.inl nx586)))) K618 (ninS (Nat.ne_of_lt lt616) nin0))
      refine g_interfaceUp (argsL := [(.ref b600), (.ref b607)]) (st := []) C X618 (wd hw 136 rfl) (wd hw 137 rfl) (own_mvI C.hZ (wd hw 138 rfl)) (wd hw 139 rfl) (wd hw 140 rfl) (wd hw 141 rfl) (mvT C.hZ (wd hw 142 rfl)) (wd hw 143 rfl) (by decide) (by decide) (by decide) f656 (pay_of (W' := 0) (rQ1e l hw X618.ext tm b600 b607 pe kp vp x y f656 f657 f658 f659 f660 f661 f662 f663 f664 f665 f666 f667 hnt hnp ng f668 f669 f670 f671 hv619 hw620) C.hZ (wd hw 144 rfl) (wd hw 78 rfl) (by decide) (by decide)) pd_24 rfl rfl _ rfl (Nat.le_of_eq rfl) d16_63 (by decide) (by decide) (fun T672 h672 v672 q672 X672 => ?_)
      obtain ⟨rfl, K672⟩ := q672
      show Goes p e below _ T672 (mkF m 68 #[.val (.ref hm), .val (.int x), .val (.ref m_), .val (.int 0)] [(.ref vp)])
      refine g_ifnonnull C X672 d16_68 rfl (fun _ => ?_) (fun q => absurd q nofun)
      have kp673 := (Keep.refl h [hm, tm, pe]).wr W591 (Or.inl (by simp))
      have kp674 := kp673.ext E600
      have sz675 : h.size ≤ b607 := by rw [g_b607]; exact kp674.1
      have kp676 := kp674.ext E607
      have kp677 := kp676.trans K618 (allS (Or.inr sz675) all0)
      have kp678 := kp677.trans K672 (allS (Or.inl (by simp)) (allS (Or.inl (by simp)) all0))
      have f679 := (Exa.keep (Exa.keep (Exa.ext E607 f602) K618) K672)
      have f680 := (Fld.keep (Fld.keep (Fld.ext E607 (Fld.ext E600 f591)) K618 (ninS (Nat.ne_of_lt lt608) nin0)) K672 (ninS na (ninS nf nin0)))
      have f681 := (Fld.keep (Fld.keep (Fld.ext E607 (Fld.ext E600 (Fld.other W591 F_hm_askedThrough (Or.inr (slot_ne (Or.inl (wd hw 226 rfl)) (Or.inl (wd hw 103 rfl)) (by decide) (t := .int) (t' := .int) (by decide) (by decide)))))) K618 (ninS (Nat.ne_of_lt lt608) nin0)) K672 (ninS na (ninS nf nin0)))
      exact g_retV C X672 d16_85 (by decide) (by decide) ⟨rfl, kp678, f679, f680, f681⟩
    · have f682 := (Exa.keep (Exa.ext E607 f604) K618)
      have f683 := (Fld.keep (Fld.ext E607 (Fld.ext E600 (Fld.other W591 F_tm_comparator (Or.inl (Ne.symm na))))) K618 (ninS (Nat.ne_of_lt lt609) nin0))
      have f684 := (Fld.keep (Fld.ext E607 (Fld.ext E600 (Fld.other W591 F_tm_root (Or.inl (Ne.symm na))))) K618 (ninS (Nat.ne_of_lt lt609) nin0))
      have f685 := (Fld.keep (Fld.ext E607 (Fld.ext E600 (Fld.other W591 F_tm_size (Or.inl (Ne.symm na))))) K618 (ninS (Nat.ne_of_lt lt609) nin0))
      have f686 := (Fld.keep (Fld.ext E607 (Fld.ext E600 (Fld.other W591 F_tm_modCount (Or.inl (Ne.symm na))))) K618 (ninS (Nat.ne_of_lt lt609) nin0))
      have f687 := (Exa.keep (Exa.ext E607 f606) K618)
      have f688 := (Fld.keep (Fld.ext E607 (Fld.ext E600 (Fld.other W591 F_pe_key (Or.inl (Ne.symm nf))))) K618 (ninS (Nat.ne_of_lt lt614) nin0))
      have f689 := (Fld.keep (Fld.ext E607 (Fld.ext E600 (Fld.other W591 F_pe_value (Or.inl (Ne.symm nf))))) K618 (ninS (Nat.ne_of_lt lt614) nin0))
      have f690 := (Fld.keep (Fld.ext E607 (Fld.ext E600 (Fld.other W591 F_pe_left (Or.inl (Ne.symm nf))))) K618 (ninS (Nat.ne_of_lt lt614) nin0))
      have f691 := (Fld.keep (Fld.ext E607 (Fld.ext E600 (Fld.other W591 F_pe_right (Or.inl (Ne.symm nf))))) K618 (ninS (Nat.ne_of_lt lt614) nin0))
      have f692 := (Fld.keep (Fld.ext E607 (Fld.ext E600 (Fld.other W591 F_pe_parent (Or.inl (Ne.symm nf))))) K618 (ninS (Nat.ne_of_lt lt614) nin0))
      have f693 := (Fld.keep (Fld.ext E607 (Fld.ext E600 (Fld.other W591 F_pe_color (Or.inl (Ne.symm nf))))) K618 (ninS (Nat.ne_of_lt lt614) nin0))
      have f694 := (Exa.keep (Exa.ext E607 A600) K618)
      have f695 := (Fld.keep (Fld.ext E607 F600) K618 (ninS (Nat.ne_of_lt lt617) nin0))
      have f696 := (Exa.keep (Exa.ext E607 f615) K618)
      have f697 := (Fld.keep (Fld.ext E607 (Fld.ext E600 (Fld.other W591 F_kp_value (Or.inl nx586)))) K618 (ninS (Nat.ne_of_lt lt616) nin0))
      refine g_interfaceUp (argsL := [(.ref b600), (.ref b607)]) (st := []) C X618 (wd hw 136 rfl) (wd hw 137 rfl) (own_mvI C.hZ (wd hw 138 rfl)) (wd hw 139 rfl) (wd hw 140 rfl) (wd hw 141 rfl) (mvT C.hZ (wd hw 142 rfl)) (wd hw 143 rfl) (by decide) (by decide) (by decide) f682 (pay_of (W' := 0) (rQ1g l hw X618.ext tm b600 b607 pe kp vp x y f682 f683 f684 f685 f686 f687 f688 f689 f690 f691 f692 f693 hnt hnp ng f694 f695 f696 f697 hv619 hw620) C.hZ (wd hw 144 rfl) (wd hw 78 rfl) (by decide) (by decide)) pd_24 rfl rfl _ rfl (Nat.le_of_eq rfl) d16_63 (by decide) (by decide) (fun T698 h698 v698 q698 X698 => ?_)
      obtain ⟨rfl, K698⟩ := q698
      show Goes p e below _ T698 (mkF m 68 #[.val (.ref hm), .val (.int x), .val (.ref m_), .val (.int 0)] [.null])
      refine g_ifnonnull C X698 d16_68 rfl (fun q => absurd rfl q) (fun _ => ?_)
      refine g_aloadN C X698 d16_71 rfl rfl (g_dup C X698 d16_72 rfl ?_)
      have f699 := (Fld.keep (Fld.keep (Fld.ext E607 (Fld.ext E600 f592)) K618 (ninS (Nat.ne_of_lt lt608) nin0)) K698 (ninS na (ninS nf nin0)))
      refine g_getfield (host := "") C X698 (Or.inl (wd hw 105 rfl)) Via.refl f699 d16_73 (fun T700 X700 => ?_)
      refine g_aloadN C X700 d16_76 rfl rfl ?_
      have f701 := (Exa.keep (Exa.keep (Exa.ext E607 f610) K618) K698)
      have f702 := (Fld.keep (Fld.keep (Fld.ext E607 (Fld.ext E600 f595)) K618 (ninS (Nat.ne_of_lt lt611) nin0)) K698 (ninS nc (ninS nh nin0)))
      have f703 := (Arv.keep (Arv.keep (Arv.ext f612 E607) K618 (ninS (Nat.ne_of_lt lt613) nin0)) K698 (ninS ne_ (ninS ni nin0)))
      refine g_virtualP (argsL := []) (st := [(.long 15), (.ref hm)]) C X700 (wd hw 107 rfl) (wd hw 108 rfl) (nf_of C (wd hw 110 rfl) rfl rfl) (wd hw 110 rfl) (wd hw 109 rfl) (by decide) f701 (pay_of (W' := 3) (rLg l hw X700.ext m_ f kf f701 f702 f703) C.hZ (wd hw 111 rfl) (wd hw 3 rfl) (by decide) (by decide)) pd_21 rfl rfl _ rfl (Nat.le_of_eq rfl) d16_77 (by decide) (by decide) (fun T704 X704 => ?_)
      refine g_i2l C X704 d16_80 (g_ladd C X704 d16_81 ?_)
      have f705 := (Exa.keep (Exa.keep (Exa.ext E607 f602) K618) K698)
      refine g_putfield (host := "") C X704 (Or.inl (wd hw 105 rfl)) Via.refl f699 f705 (Or.inl (wd hw 106 rfl)) (wd hw 70 rfl) (ty := .long) (by decide) rfl rfl hn d16_82 (fun T706 h706 X706 W706 => ?_)
      have f706 := Fld.same W706 f699
      have kp707 := (Keep.refl h [hm, tm, pe]).wr W591 (Or.inl (by simp))
      have kp708 := kp707.ext E600
      have sz709 : h.size ≤ b607 := by rw [g_b607]; exact kp708.1
      have kp710 := kp708.ext E607
      have kp711 := kp710.trans K618 (allS (Or.inr sz709) all0)
      have kp712 := kp711.trans K698 (allS (Or.inl (by simp)) (allS (Or.inl (by simp)) all0))
      have kp713 := kp712.wr W706 (Or.inl (by simp))
      have f714 := (Exa.wr W706 f705)
      have f715 := (Fld.other W706 (Fld.keep (Fld.keep (Fld.ext E607 (Fld.ext E600 f591)) K618 (ninS (Nat.ne_of_lt lt608) nin0)) K698 (ninS na (ninS nf nin0))) (Or.inr (slot_ne (Or.inl (wd hw 103 rfl)) (Or.inl (wd hw 106 rfl)) (by decide) (t := .int) (t' := .long) (by decide) (by decide))))
      have f716 := (Fld.other W706 (Fld.keep (Fld.keep (Fld.ext E607 (Fld.ext E600 (Fld.other W591 F_hm_askedThrough (Or.inr (slot_ne (Or.inl (wd hw 226 rfl)) (Or.inl (wd hw 103 rfl)) (by decide) (t := .int) (t' := .int) (by decide) (by decide)))))) K618 (ninS (Nat.ne_of_lt lt608) nin0)) K698 (ninS na (ninS nf nin0))) (Or.inr (slot_ne (Or.inl (wd hw 226 rfl)) (Or.inl (wd hw 106 rfl)) (by decide) (t := .int) (t' := .long) (by decide) (by decide))))
      exact g_retV C X706 d16_85 (by decide) (by decide) ⟨rfl, kp713, f714, f715, f716⟩
theorem ef_rH21 (m : MethodId) (hm : Addr) (x : Int32) (m_ : Addr) : entryFrame m #[(.ref hm), (.int x), (.ref m_), (.int 1)] 4 = mkF m 0 #[.val (.ref hm), .val (.int x), .val (.ref m_), .val (.int 1)] [] := by first | (simp [entryFrame, mkF, argsToLocals, Value.category]; done) | rfl
theorem rH21 (l : Launch) {Z : State} {a0 : Array Value} (hw : ∀ d ∈ tables_1, d.before a0 Z = true) {h : Heap} (hE : Ext Z.heap h) (hm : Addr) (x : Int32) (m_ : Addr) (f tm pe kp vp : Addr) (kf : ClassId) (c0 q0 y : Int32) (ca : Addr) (kc : ClassId) (vc : List Value) (SH : Sta Z Z.heap "java/lang/Integer$IntegerCache" "high" "I" (.int (127 : Int32))) (SC : Sta Z Z.heap "java/lang/Integer$IntegerCache" "cache" "[Ljava/lang/Integer;" (.ref ca)) (VC : Arv Z Z.heap ca kc (.object "java/lang/Integer") 256 vc .null) (HB : ∀ j : Int32, ¬ j < 0 → j < 256 → ∃ b : Addr, vc.getD j.toNatClampNeg .null = .ref b ∧ Exa Z Z.heap b "java/lang/Integer" ∧ Fld Z Z.heap b "java/lang/Integer" "value" "I" (.int (j - 128))) (E_hm : Exa Z h hm "com/example/halyard/halyard/gateway/HeldMessages") (F_hm_held : Fld Z h hm "com/example/halyard/halyard/gateway/HeldMessages" "held" "Ljava/util/NavigableMap;" (.ref tm)) (F_hm_highestCome : Fld Z h hm "com/example/halyard/halyard/gateway/HeldMessages" "highestCome" "I" (.int c0)) (F_hm_bytes : Fld Z h hm "com/example/halyard/halyard/gateway/HeldMessages" "bytes" "J" (.long 15)) (F_hm_askedThrough : Fld Z h hm "com/example/halyard/halyard/gateway/HeldMessages" "askedThrough" "I" (.int q0)) (E_tm : Exa Z h tm "java/util/TreeMap") (F_tm_comparator : Fld Z h tm "java/util/TreeMap" "comparator" "Ljava/util/Comparator;" .null) (F_tm_root : Fld Z h tm "java/util/TreeMap" "root" "Ljava/util/TreeMap$Entry;" (.ref pe)) (F_tm_size : Fld Z h tm "java/util/TreeMap" "size" "I" (.int 1)) (F_tm_modCount : Fld Z h tm "java/util/TreeMap" "modCount" "I" (.int 1)) (E_pe : Exa Z h pe "java/util/TreeMap$Entry") (F_pe_key : Fld Z h pe "java/util/TreeMap$Entry" "key" "Ljava/lang/Object;" (.ref kp)) (F_pe_value : Fld Z h pe "java/util/TreeMap$Entry" "value" "Ljava/lang/Object;" (.ref vp)) (F_pe_left : Fld Z h pe "java/util/TreeMap$Entry" "left" "Ljava/util/TreeMap$Entry;" .null) (F_pe_right : Fld Z h pe "java/util/TreeMap$Entry" "right" "Ljava/util/TreeMap$Entry;" .null) (F_pe_parent : Fld Z h pe "java/util/TreeMap$Entry" "parent" "Ljava/util/TreeMap$Entry;" .null) (F_pe_color : Fld Z h pe "java/util/TreeMap$Entry" "color" "Z" (.int 1)) (E_kp : Exa Z h kp "java/lang/Integer") (F_kp_value : Fld Z h kp "java/lang/Integer" "value" "I" (.int y)) (E_m_ : Exa Z h m_ "com/example/halyard/halyard/fix/FixMessage") (F_m__bytes : Fld Z h m_ "com/example/halyard/halyard/fix/FixMessage" "bytes" "[B" (.ref f)) (VF : Arv Z h f kf .byte 15 [(.int 56), (.int 61), (.int 65), (.int 1), (.int 57), (.int 61), (.int 48), (.int 1), (.int 49), (.int 48), (.int 61), (.int 48), (.int 57), (.int 52), (.int 1)] (.int (0 : Int32))) (hn : Z.heap.size ≤ hm) (hnt : Z.heap.size ≤ tm) (na : hm ≠ tm) (nb : m_ ≠ hm) (nc : m_ ≠ tm) (nd : f ≠ hm) (ne_ : f ≠ tm) (hnp : Z.heap.size ≤ pe) (nf : hm ≠ pe) (ng : tm ≠ pe) (nh : m_ ≠ pe) (ni : f ≠ pe) :
    Con l (⟨"com/example/halyard/halyard/gateway/HeldMessages", "hold", "(ILcom/example/halyard/halyard/fix/FixMessage;Z)V"⟩ : MethodName) prog_43_method_2_code 4 none [] ({ frames := 7, cells := 3, slots := 9, locals := 168 } : Room) Z #[(.ref hm), (.int x), (.ref m_), (.int 1)] h (fun v' h' => v' = none ∧ Keep h h' [hm, tm, pe] ∧ Exa Z h' hm "com/example/halyard/halyard/gateway/HeldMessages" ∧ Fld Z h' hm "com/example/halyard/halyard/gateway/HeldMessages" "highestCome" "I" (.int (own_mx c0 x)) ∧ Fld Z h' hm "com/example/halyard/halyard/gateway/HeldMessages" "askedThrough" "I" (.int q0)) := by
  refine con_of (plainFor_of_name pn_10) hE (fun m => ef_rH21 m hm x m_) ?_
  intro p e s m below meth c T0 C X0
  have C : Cx p s m meth c Z "com/example/halyard/halyard/gateway/HeldMessages" "hold" prog_43_method_2_code 4 none := C
  show Goes p e below _ T0 (mkF m 0 #[.val (.ref hm), .val (.int x), .val (.ref m_), .val (.int 1)] [])
  have nx717 : kp ≠ hm := own_exne E_kp E_hm (by decide)
  have nx718 : kp ≠ tm := own_exne E_kp E_tm (by decide)
  have nx719 : kp ≠ pe := own_exne E_kp E_pe (by decide)
  show Goes p e below _ T0 (mkF m 0 #[.val (.ref hm), .val (.int x), .val (.ref m_), .val (.int 1)] [])
  refine g_aloadN C X0 d16_0 rfl rfl (g_aloadN C X0 d16_1 rfl rfl (g_getfield (host := "") C X0 (Or.inl (wd hw 102 rfl)) Via.refl F_hm_highestCome d16_2 (fun T720 X720 => ?_)))
  refine g_iloadN C X720 d16_5 rfl (g_staticP (argsL := [(.int c0), (.int x)]) (st := [(.ref hm)]) C X720 (wd hw 104 rfl) (wd hw 9 rfl) (wd hw 10 rfl) (wd hw 11 rfl) (by decide) (pay_of (W' := 1) (rMx l hw X720.ext c0 x) C.hZ (wd hw 11 rfl) (wd hw 10 rfl) (by decide) (by decide)) pd_7 rfl rfl _ rfl (Nat.le_of_eq rfl) d16_6 (by decide) (by decide) (fun T721 X721 => ?_))
  refine g_putfield (host := "") C X721 (Or.inl (wd hw 102 rfl)) Via.refl F_hm_highestCome E_hm (Or.inl (wd hw 103 rfl)) (wd hw 70 rfl) (ty := .int) (by decide) rfl rfl hn d16_9 (fun T722 h722 X722 W722 => ?_)
  have f722 := Fld.same W722 F_hm_highestCome
  refine g_aloadN C X722 d16_12 rfl rfl ?_
  have f723 := (Fld.other W722 F_hm_bytes (Or.inr (slot_ne (Or.inl (wd hw 106 rfl)) (Or.inl (wd hw 103 rfl)) (by decide) (t := .long) (t' := .int) (by decide) (by decide))))
  refine g_getfield (host := "") C X722 (Or.inl (wd hw 105 rfl)) Via.refl f723 d16_13 (fun T724 X724 => ?_)
  refine g_aloadN C X724 d16_16 rfl rfl ?_
  have f725 := (Exa.wr W722 E_m_)
  have f726 := (Fld.other W722 F_m__bytes (Or.inl nb))
  have f727 := (Arv.other VF W722 nd)
  refine g_virtualP (argsL := []) (st := [(.long 15)]) C X724 (wd hw 107 rfl) (wd hw 108 rfl) (nf_of C (wd hw 110 rfl) rfl rfl) (wd hw 110 rfl) (wd hw 109 rfl) (by decide) f725 (pay_of (W' := 2) (rLg l hw X724.ext m_ f kf f725 f726 f727) C.hZ (wd hw 111 rfl) (wd hw 3 rfl) (by decide) (by decide)) pd_21 rfl rfl _ rfl (Nat.le_of_eq rfl) d16_17 (by decide) (by decide) (fun T728 X728 => ?_)
  refine g_i2l C X728 d16_20 (g_ladd C X728 d16_21 (g_ldcJ C X728 (wd hw 112 rfl) d16_22 (g_lcmp C X728 d16_25 (g_ifn (hL_le _ _) C X728 d16_26 (fun _ => ?_) (fun q => absurd q (by decide))))))
  refine g_aloadN C X728 d16_46 rfl rfl ?_
  have f729 := (Fld.other W722 F_hm_held (Or.inr (slot_ne (Or.inr (wd hw 96 rfl)) (Or.inl (wd hw 103 rfl)) (by decide) (t := (.object "java/util/NavigableMap")) (t' := .int) (by decide) (by decide))))
  refine g_getfield (host := "") C X728 (Or.inl (wd hw 95 rfl)) Via.refl f729 d16_47 (fun T730 X730 => ?_)
  refine g_iloadN C X730 d16_50 rfl (g_static (argsL := [(.int x)]) (st := [(.ref tm)]) C X730 (wd hw 113 rfl) (wd hw 114 rfl) (wd hw 115 rfl) (wd hw 116 rfl) (by decide) (pay_of (W' := 1) (rVa l hw X730.ext x ca kc vc SH SC VC HB) C.hZ (wd hw 116 rfl) (wd hw 115 rfl) (by decide) (by decide)) pd_22 rfl rfl _ rfl (Nat.le_of_eq rfl) d16_51 (by decide) (by decide) (fun T731 h731 v731 q731 X731 => ?_))
  obtain ⟨b731, rfl, E731, A731, F731⟩ := q731
  have f733 := (Exa.ext E731 (Exa.wr W722 E_hm))
  have nx732 : b731 ≠ hm := own_exne A731 f733 (by decide)
  have f735 := (Exa.ext E731 (Exa.wr W722 E_tm))
  have nx734 : b731 ≠ tm := own_exne A731 f735 (by decide)
  have f737 := (Exa.ext E731 (Exa.wr W722 E_pe))
  have nx736 : b731 ≠ pe := own_exne A731 f737 (by decide)
  show Goes p e below _ T731 (mkF m 54 #[.val (.ref hm), .val (.int x), .val (.ref m_), .val (.int 1)] [(.ref b731), (.ref tm)])
  refine g_new C X731 (wd hw 120 rfl) (wd hw 121 rfl) (wd hw 122 rfl) d16_54 (by decide) (by decide) (fun T738 h738 b738 g_b738 n_b738 X738 E738 A738 D738 M738 => ?_)
  have lt739 : hm < b738 := by rw [g_b738]; exact Exa.lt f733
  have lt740 : tm < b738 := by rw [g_b738]; exact Exa.lt f735
  have f741 := (Exa.ext E731 f725)
  have lt742 : m_ < b738 := by rw [g_b738]; exact Exa.lt f741
  have f743 := (Arv.ext f727 E731)
  have lt744 : f < b738 := by rw [g_b738]; exact Arv.lt f743
  have lt745 : pe < b738 := by rw [g_b738]; exact Exa.lt f737
  have f746 := (Exa.ext E731 (Exa.wr W722 E_kp))
  have lt747 : kp < b738 := by rw [g_b738]; exact Exa.lt f746
  have lt748 : b731 < b738 := by rw [g_b738]; exact Exa.lt A731
  have F_message_b738 : Fld Z h738 b738 "com/example/halyard/halyard/gateway/HeldMessages$Held" "message" "Lcom/example/halyard/halyard/fix/FixMessage;" .null := D738 (Or.inr (wd hw 133 rfl)) (ty := (.object "com/example/halyard/halyard/fix/FixMessage")) (by decide)
  have F_answered_b738 : Fld Z h738 b738 "com/example/halyard/halyard/gateway/HeldMessages$Held" "answered" "Z" (.int 0) := D738 (Or.inr (wd hw 135 rfl)) (ty := .boolean) (by decide)
  refine g_dup C X738 d16_57 rfl (g_aloadN C X738 d16_58 rfl rfl (g_iloadN C X738 d16_59 rfl (g_special (argsL := [(.ref m_), (.int 1)]) (st := [(.ref b738), (.ref b731), (.ref tm)]) C X738 rfl (wd hw 123 rfl) (wd hw 124 rfl) (wd hw 125 rfl) (by decide) (pay_of (W' := 3) (rHe1 l hw X738.ext b738 m_ A738 F_message_b738 F_answered_b738 n_b738) C.hZ (wd hw 125 rfl) (wd hw 122 rfl) (by decide) (by decide)) pd_23 rfl rfl _ rfl (Nat.le_of_eq rfl) d16_60 (by decide) (by decide) (fun T749 h749 v749 q749 X749 => ?_))))
  obtain ⟨rfl, K749⟩ := q749
  show Goes p e below _ T749 (mkF m 63 #[.val (.ref hm), .val (.int x), .val (.ref m_), .val (.int 1)] [(.ref b738), (.ref b731), (.ref tm)])
  by_cases hv750 : x < y
  · have f752 := (Exa.keep (Exa.ext E738 f735) K749)
    have f753 := (Fld.keep (Fld.ext E738 (Fld.ext E731 (Fld.other W722 F_tm_comparator (Or.inl (Ne.symm na))))) K749 (ninS (Nat.ne_of_lt lt740) nin0))
    have f754 := (Fld.keep (Fld.ext E738 (Fld.ext E731 (Fld.other W722 F_tm_root (Or.inl (Ne.symm na))))) K749 (ninS (Nat.ne_of_lt lt740) nin0))
    have f755 := (Fld.keep (Fld.ext E738 (Fld.ext E731 (Fld.other W722 F_tm_size (Or.inl (Ne.symm na))))) K749 (ninS (Nat.ne_of_lt lt740) nin0))
    have f756 := (Fld.keep (Fld.ext E738 (Fld.ext E731 (Fld.other W722 F_tm_modCount (Or.inl (Ne.symm na))))) K749 (ninS (Nat.ne_of_lt lt740) nin0))
    have f757 := (Exa.keep (Exa.ext E738 f737) K749)
    have f758 := (Fld.keep (Fld.ext E738 (Fld.ext E731 (Fld.other W722 F_pe_key (Or.inl (Ne.symm nf))))) K749 (ninS (Nat.ne_of_lt lt745) nin0))
    have f759 := (Fld.keep (Fld.ext E738 (Fld.ext E731 (Fld.other W722 F_pe_value (Or.inl (Ne.symm nf))))) K749 (ninS (Nat.ne_of_lt lt745) nin0))
    have f760 := (Fld.keep (Fld.ext E738 (Fld.ext E731 (Fld.other W722 F_pe_left (Or.inl (Ne.symm nf))))) K749 (ninS (Nat.ne_of_lt lt745) nin0))
    have f761 := (Fld.keep (Fld.ext E738 (Fld.ext E731 (Fld.other W722 F_pe_right (Or.inl (Ne.symm nf))))) K749 (ninS (Nat.ne_of_lt lt745) nin0))
    have f762 := (Fld.keep (Fld.ext E738 (Fld.ext E731 (Fld.other W722 F_pe_parent (Or.inl (Ne.symm nf))))) K749 (ninS (Nat.ne_of_lt lt745) nin0))
    have f763 := (Fld.keep (Fld.ext E738 (Fld.ext E731 (Fld.other W722 F_pe_color (Or.inl (Ne.symm nf))))) K749 (ninS (Nat.ne_of_lt lt745) nin0))
    have f764 := (Exa.keep (Exa.ext E738 A731) K749)
    have f765 := (Fld.keep (Fld.ext E738 F731) K749 (ninS (Nat.ne_of_lt lt748) nin0))
    have f766 := (Exa.keep (Exa.ext E738 f746) K749)
    have f767 := (Fld.keep (Fld.ext E738 (Fld.ext E731 (Fld.other W722 F_kp_value (Or.inl nx717)))) K749 (ninS (Nat.ne_of_lt lt747) nin0))
    refine g_interfaceUp (argsL := [(.ref b731), (.ref b738)]) (st := []) C X749 (wd hw 136 rfl) (wd hw 137 rfl) (own_mvI C.hZ (wd hw 138 rfl)) (wd hw 139 rfl) (wd hw 140 rfl) (wd hw 141 rfl) (mvT C.hZ (wd hw 142 rfl)) (wd hw 143 rfl) (by decide) (by decide) (by decide) f752 (pay_of (W' := 0) (rQ1l l hw X749.ext tm b731 b738 pe kp vp x y f752 f753 f754 f755 f756 f757 f758 f759 f760 f761 f762 f763 hnt hnp ng f764 f765 f766 f767 hv750) C.hZ (wd hw 144 rfl) (wd hw 78 rfl) (by decide) (by decide)) pd_24 rfl rfl _ rfl (Nat.le_of_eq rfl) d16_63 (by decide) (by decide) (fun T768 h768 v768 q768 X768 => ?_)
    obtain ⟨rfl, K768⟩ := q768
    show Goes p e below _ T768 (mkF m 68 #[.val (.ref hm), .val (.int x), .val (.ref m_), .val (.int 1)] [.null])
    refine g_ifnonnull C X768 d16_68 rfl (fun q => absurd rfl q) (fun _ => ?_)
    refine g_aloadN C X768 d16_71 rfl rfl (g_dup C X768 d16_72 rfl ?_)
    have f769 := (Fld.keep (Fld.keep (Fld.ext E738 (Fld.ext E731 f723)) K749 (ninS (Nat.ne_of_lt lt739) nin0)) K768 (ninS na (ninS nf nin0)))
    refine g_getfield (host := "") C X768 (Or.inl (wd hw 105 rfl)) Via.refl f769 d16_73 (fun T770 X770 => ?_)
    refine g_aloadN C X770 d16_76 rfl rfl ?_
    have f771 := (Exa.keep (Exa.keep (Exa.ext E738 f741) K749) K768)
    have f772 := (Fld.keep (Fld.keep (Fld.ext E738 (Fld.ext E731 f726)) K749 (ninS (Nat.ne_of_lt lt742) nin0)) K768 (ninS nc (ninS nh nin0)))
    have f773 := (Arv.keep (Arv.keep (Arv.ext f743 E738) K749 (ninS (Nat.ne_of_lt lt744) nin0)) K768 (ninS ne_ (ninS ni nin0)))
    refine g_virtualP (argsL := []) (st := [(.long 15), (.ref hm)]) C X770 (wd hw 107 rfl) (wd hw 108 rfl) (nf_of C (wd hw 110 rfl) rfl rfl) (wd hw 110 rfl) (wd hw 109 rfl) (by decide) f771 (pay_of (W' := 3) (rLg l hw X770.ext m_ f kf f771 f772 f773) C.hZ (wd hw 111 rfl) (wd hw 3 rfl) (by decide) (by decide)) pd_21 rfl rfl _ rfl (Nat.le_of_eq rfl) d16_77 (by decide) (by decide) (fun T774 X774 => ?_)
    refine g_i2l C X774 d16_80 (g_ladd C X774 d16_81 ?_)
    have f775 := (Exa.keep (Exa.keep (Exa.ext E738 f733) K749) K768)
    refine g_putfield (host := "") C X774 (Or.inl (wd hw 105 rfl)) Via.refl f769 f775 (Or.inl (wd hw 106 rfl)) (wd hw 70 rfl) (ty := .long) (by decide) rfl rfl hn d16_82 (fun T776 h776 X776 W776 => ?_)
    have f776 := Fld.same W776 f769
    have kp777 := (Keep.refl h [hm, tm, pe]).wr W722 (Or.inl (by simp))
    have kp778 := kp777.ext E731
    have sz779 : h.size ≤ b738 := by rw [g_b738]; exact kp778.1
    have kp780 := kp778.ext E738
    have kp781 := kp780.trans K749 (allS (Or.inr sz779) all0)
    have kp782 := kp781.trans K768 (allS (Or.inl (by simp)) (allS (Or.inl (by simp)) all0))
    have kp783 := kp782.wr W776 (Or.inl (by simp))
    have f784 := (Exa.wr W776 f775)
    have f785 := (Fld.other W776 (Fld.keep (Fld.keep (Fld.ext E738 (Fld.ext E731 f722)) K749 (ninS (Nat.ne_of_lt lt739) nin0)) K768 (ninS na (ninS nf nin0))) (Or.inr (slot_ne (Or.inl (wd hw 103 rfl)) (Or.inl (wd hw 106 rfl)) (by decide) (t := .int) (t' := .long) (by decide) (by decide))))
    have f786 := (Fld.other W776 (Fld.keep (Fld.keep (Fld.ext E738 (Fld.ext E731 (Fld.other W722 F_hm_askedThrough (Or.inr (slot_ne (Or.inl (wd hw 226 rfl)) (Or.inl (wd hw 103 rfl)) (by decide) (t := .int) (t' := .int) (by decide) (by decide)))))) K749 (ninS (Nat.ne_of_lt lt739) nin0)) K768 (ninS na (ninS nf nin0))) (Or.inr (slot_ne (Or.inl (wd hw 226 rfl)) (Or.inl (wd hw 106 rfl)) (by decide) (t := .int) (t' := .long) (by decide) (by decide))))
    exact g_retV C X776 d16_85 (by decide) (by decide) ⟨rfl, kp783, f784, f785, f786⟩
  · by_cases hw751 : x = y
    · have f787 := (Exa.keep (Exa.ext E738 f735) K749)
      have f788 := (Fld.keep (Fld.ext E738 (Fld.ext E731 (Fld.other W722 F_tm_comparator (Or.inl (Ne.symm na))))) K749 (ninS (Nat.ne_of_lt lt740) nin0))
      have f789 := (Fld.keep (Fld.ext E738 (Fld.ext E731 (Fld.other W722 F_tm_root (Or.inl (Ne.symm na))))) K749 (ninS (Nat.ne_of_lt lt740) nin0))
      have f790 := (Fld.keep (Fld.ext E738 (Fld.ext E731 (Fld.other W722 F_tm_size (Or.inl (Ne.symm na))))) K749 (ninS (Nat.ne_of_lt lt740) nin0))
      have f791 := (Fld.keep (Fld.ext E738 (Fld.ext E731 (Fld.other W722 F_tm_modCount (Or.inl (Ne.symm na))))) K749 (ninS (Nat.ne_of_lt lt740) nin0))
      have f792 := (Exa.keep (Exa.ext E738 f737) K749)
      have f793 := (Fld.keep (Fld.ext E738 (Fld.ext E731 (Fld.other W722 F_pe_key (Or.inl (Ne.symm nf))))) K749 (ninS (Nat.ne_of_lt lt745) nin0))
      have f794 := (Fld.keep (Fld.ext E738 (Fld.ext E731 (Fld.other W722 F_pe_value (Or.inl (Ne.symm nf))))) K749 (ninS (Nat.ne_of_lt lt745) nin0))
      have f795 := (Fld.keep (Fld.ext E738 (Fld.ext E731 (Fld.other W722 F_pe_left (Or.inl (Ne.symm nf))))) K749 (ninS (Nat.ne_of_lt lt745) nin0))
      have f796 := (Fld.keep (Fld.ext E738 (Fld.ext E731 (Fld.other W722 F_pe_right (Or.inl (Ne.symm nf))))) K749 (ninS (Nat.ne_of_lt lt745) nin0))
      have f797 := (Fld.keep (Fld.ext E738 (Fld.ext E731 (Fld.other W722 F_pe_parent (Or.inl (Ne.symm nf))))) K749 (ninS (Nat.ne_of_lt lt745) nin0))
      have f798 := (Fld.keep (Fld.ext E738 (Fld.ext E731 (Fld.other W722 F_pe_color (Or.inl (Ne.symm nf))))) K749 (ninS (Nat.ne_of_lt lt745) nin0))
      have f799 := (Exa.keep (Exa.ext E738 A731) K749)
      have f800 := (Fld.keep (Fld.ext E738 F731) K749 (ninS (Nat.ne_of_lt lt748) nin0))
      have f801 := (Exa.keep (Exa.ext E738 f746) K749)
      have f802 := (Fld.keep (Fld.ext E738 (Fld.ext E731 (Fld.other W722 F_kp_value (Or.inl nx717)))) K749 (ninS (Nat.ne_of_lt lt747) nin0))
      refine g_interfaceUp (argsL := [(.ref b731), (.ref b738)]) (st := []) C X749 (wd hw 136 rfl) (wd hw 137 rfl) (own_mvI C.hZ (wd hw 138 rfl)) (wd hw 139 rfl) (wd hw 140 rfl) (wd hw 141 rfl) (mvT C.hZ (wd hw 142 rfl)) (wd hw 143 rfl) (by decide) (by decide) (by decide) f787 (pay_of (W' := 0) (rQ1e l hw X749.ext tm b731 b738 pe kp vp x y f787 f788 f789 f790 f791 f792 f793 f794 f795 f796 f797 f798 hnt hnp ng f799 f800 f801 f802 hv750 hw751) C.hZ (wd hw 144 rfl) (wd hw 78 rfl) (by decide) (by decide)) pd_24 rfl rfl _ rfl (Nat.le_of_eq rfl) d16_63 (by decide) (by decide) (fun T803 h803 v803 q803 X803 => ?_)
      obtain ⟨rfl, K803⟩ := q803
      show Goes p e below _ T803 (mkF m 68 #[.val (.ref hm), .val (.int x), .val (.ref m_), .val (.int 1)] [(.ref vp)])
      refine g_ifnonnull C X803 d16_68 rfl (fun _ => ?_) (fun q => absurd q nofun)
      have kp804 := (Keep.refl h [hm, tm, pe]).wr W722 (Or.inl (by simp))
      have kp805 := kp804.ext E731
      have sz806 : h.size ≤ b738 := by rw [g_b738]; exact kp805.1
      have kp807 := kp805.ext E738
      have kp808 := kp807.trans K749 (allS (Or.inr sz806) all0)
      have kp809 := kp808.trans K803 (allS (Or.inl (by simp)) (allS (Or.inl (by simp)) all0))
      have f810 := (Exa.keep (Exa.keep (Exa.ext E738 f733) K749) K803)
      have f811 := (Fld.keep (Fld.keep (Fld.ext E738 (Fld.ext E731 f722)) K749 (ninS (Nat.ne_of_lt lt739) nin0)) K803 (ninS na (ninS nf nin0)))
      have f812 := (Fld.keep (Fld.keep (Fld.ext E738 (Fld.ext E731 (Fld.other W722 F_hm_askedThrough (Or.inr (slot_ne (Or.inl (wd hw 226 rfl)) (Or.inl (wd hw 103 rfl)) (by decide) (t := .int) (t' := .int) (by decide) (by decide)))))) K749 (ninS (Nat.ne_of_lt lt739) nin0)) K803 (ninS na (ninS nf nin0)))
      exact g_retV C X803 d16_85 (by decide) (by decide) ⟨rfl, kp809, f810, f811, f812⟩
    · have f813 := (Exa.keep (Exa.ext E738 f735) K749)
      have f814 := (Fld.keep (Fld.ext E738 (Fld.ext E731 (Fld.other W722 F_tm_comparator (Or.inl (Ne.symm na))))) K749 (ninS (Nat.ne_of_lt lt740) nin0))
      have f815 := (Fld.keep (Fld.ext E738 (Fld.ext E731 (Fld.other W722 F_tm_root (Or.inl (Ne.symm na))))) K749 (ninS (Nat.ne_of_lt lt740) nin0))
      have f816 := (Fld.keep (Fld.ext E738 (Fld.ext E731 (Fld.other W722 F_tm_size (Or.inl (Ne.symm na))))) K749 (ninS (Nat.ne_of_lt lt740) nin0))
      have f817 := (Fld.keep (Fld.ext E738 (Fld.ext E731 (Fld.other W722 F_tm_modCount (Or.inl (Ne.symm na))))) K749 (ninS (Nat.ne_of_lt lt740) nin0))
      have f818 := (Exa.keep (Exa.ext E738 f737) K749)
      have f819 := (Fld.keep (Fld.ext E738 (Fld.ext E731 (Fld.other W722 F_pe_key (Or.inl (Ne.symm nf))))) K749 (ninS (Nat.ne_of_lt lt745) nin0))
      have f820 := (Fld.keep (Fld.ext E738 (Fld.ext E731 (Fld.other W722 F_pe_value (Or.inl (Ne.symm nf))))) K749 (ninS (Nat.ne_of_lt lt745) nin0))
      have f821 := (Fld.keep (Fld.ext E738 (Fld.ext E731 (Fld.other W722 F_pe_left (Or.inl (Ne.symm nf))))) K749 (ninS (Nat.ne_of_lt lt745) nin0))
      have f822 := (Fld.keep (Fld.ext E738 (Fld.ext E731 (Fld.other W722 F_pe_right (Or.inl (Ne.symm nf))))) K749 (ninS (Nat.ne_of_lt lt745) nin0))
      have f823 := (Fld.keep (Fld.ext E738 (Fld.ext E731 (Fld.other W722 F_pe_parent (Or.inl (Ne.symm nf))))) K749 (ninS (Nat.ne_of_lt lt745) nin0))
      have f824 := (Fld.keep (Fld.ext E738 (Fld.ext E731 (Fld.other W722 F_pe_color (Or.inl (Ne.symm nf))))) K749 (ninS (Nat.ne_of_lt lt745) nin0))
      have f825 := (Exa.keep (Exa.ext E738 A731) K749)
      have f826 := (Fld.keep (Fld.ext E738 F731) K749 (ninS (Nat.ne_of_lt lt748) nin0))
      have f827 := (Exa.keep (Exa.ext E738 f746) K749)
      have f828 := (Fld.keep (Fld.ext E738 (Fld.ext E731 (Fld.other W722 F_kp_value (Or.inl nx717)))) K749 (ninS (Nat.ne_of_lt lt747) nin0))
      refine g_interfaceUp (argsL := [(.ref b731), (.ref b738)]) (st := []) C X749 (wd hw 136 rfl) (wd hw 137 rfl) (own_mvI C.hZ (wd hw 138 rfl)) (wd hw 139 rfl) (wd hw 140 rfl) (wd hw 141 rfl) (mvT C.hZ (wd hw 142 rfl)) (wd hw 143 rfl) (by decide) (by decide) (by decide) f813 (pay_of (W' := 0) (rQ1g l hw X749.ext tm b731 b738 pe kp vp x y f813 f814 f815 f816 f817 f818 f819 f820 f821 f822 f823 f824 hnt hnp ng f825 f826 f827 f828 hv750 hw751) C.hZ (wd hw 144 rfl) (wd hw 78 rfl) (by decide) (by decide)) pd_24 rfl rfl _ rfl (Nat.le_of_eq rfl) d16_63 (by decide) (by decide) (fun T829 h829 v829 q829 X829 => ?_)
      obtain ⟨rfl, K829⟩ := q829
      show Goes p e below _ T829 (mkF m 68 #[.val (.ref hm), .val (.int x), .val (.ref m_), .val (.int 1)] [.null])
      refine g_ifnonnull C X829 d16_68 rfl (fun q => absurd rfl q) (fun _ => ?_)
      refine g_aloadN C X829 d16_71 rfl rfl (g_dup C X829 d16_72 rfl ?_)
      have f830 := (Fld.keep (Fld.keep (Fld.ext E738 (Fld.ext E731 f723)) K749 (ninS (Nat.ne_of_lt lt739) nin0)) K829 (ninS na (ninS nf nin0)))
      refine g_getfield (host := "") C X829 (Or.inl (wd hw 105 rfl)) Via.refl f830 d16_73 (fun T831 X831 => ?_)
      refine g_aloadN C X831 d16_76 rfl rfl ?_
      have f832 := (Exa.keep (Exa.keep (Exa.ext E738 f741) K749) K829)
      have f833 := (Fld.keep (Fld.keep (Fld.ext E738 (Fld.ext E731 f726)) K749 (ninS (Nat.ne_of_lt lt742) nin0)) K829 (ninS nc (ninS nh nin0)))
      have f834 := (Arv.keep (Arv.keep (Arv.ext f743 E738) K749 (ninS (Nat.ne_of_lt lt744) nin0)) K829 (ninS ne_ (ninS ni nin0)))
      refine g_virtualP (argsL := []) (st := [(.long 15), (.ref hm)]) C X831 (wd hw 107 rfl) (wd hw 108 rfl) (nf_of C (wd hw 110 rfl) rfl rfl) (wd hw 110 rfl) (wd hw 109 rfl) (by decide) f832 (pay_of (W' := 3) (rLg l hw X831.ext m_ f kf f832 f833 f834) C.hZ (wd hw 111 rfl) (wd hw 3 rfl) (by decide) (by decide)) pd_21 rfl rfl _ rfl (Nat.le_of_eq rfl) d16_77 (by decide) (by decide) (fun T835 X835 => ?_)
      refine g_i2l C X835 d16_80 (g_ladd C X835 d16_81 ?_)
      have f836 := (Exa.keep (Exa.keep (Exa.ext E738 f733) K749) K829)
      refine g_putfield (host := "") C X835 (Or.inl (wd hw 105 rfl)) Via.refl f830 f836 (Or.inl (wd hw 106 rfl)) (wd hw 70 rfl) (ty := .long) (by decide) rfl rfl hn d16_82 (fun T837 h837 X837 W837 => ?_)
      have f837 := Fld.same W837 f830
      have kp838 := (Keep.refl h [hm, tm, pe]).wr W722 (Or.inl (by simp))
      have kp839 := kp838.ext E731
      have sz840 : h.size ≤ b738 := by rw [g_b738]; exact kp839.1
      have kp841 := kp839.ext E738
      have kp842 := kp841.trans K749 (allS (Or.inr sz840) all0)
      have kp843 := kp842.trans K829 (allS (Or.inl (by simp)) (allS (Or.inl (by simp)) all0))
      have kp844 := kp843.wr W837 (Or.inl (by simp))
      have f845 := (Exa.wr W837 f836)
      have f846 := (Fld.other W837 (Fld.keep (Fld.keep (Fld.ext E738 (Fld.ext E731 f722)) K749 (ninS (Nat.ne_of_lt lt739) nin0)) K829 (ninS na (ninS nf nin0))) (Or.inr (slot_ne (Or.inl (wd hw 103 rfl)) (Or.inl (wd hw 106 rfl)) (by decide) (t := .int) (t' := .long) (by decide) (by decide))))
      have f847 := (Fld.other W837 (Fld.keep (Fld.keep (Fld.ext E738 (Fld.ext E731 (Fld.other W722 F_hm_askedThrough (Or.inr (slot_ne (Or.inl (wd hw 226 rfl)) (Or.inl (wd hw 103 rfl)) (by decide) (t := .int) (t' := .int) (by decide) (by decide)))))) K749 (ninS (Nat.ne_of_lt lt739) nin0)) K829 (ninS na (ninS nf nin0))) (Or.inr (slot_ne (Or.inl (wd hw 226 rfl)) (Or.inl (wd hw 106 rfl)) (by decide) (t := .int) (t' := .long) (by decide) (by decide))))
      exact g_retV C X837 d16_85 (by decide) (by decide) ⟨rfl, kp844, f845, f846, f847⟩
theorem ef_rAs (m : MethodId) (hm : Addr) : entryFrame m #[(.ref hm)] 1 = mkF m 0 #[.val (.ref hm)] [] := by first | (simp [entryFrame, mkF, argsToLocals, Value.category]; done) | rfl
theorem d33_0 : Dc prog_43_method_5_code 0 (.aload_n 0) 1 1 := ⟨by decide +kernel, rfl⟩
theorem d33_1 : Dc prog_43_method_5_code 1 (.aload_n 0) 1 2 := ⟨by decide +kernel, rfl⟩
theorem d33_2 : Dc prog_43_method_5_code 2 (.getfield 16) 3 5 := ⟨by decide +kernel, rfl⟩
theorem d33_5 : Dc prog_43_method_5_code 5 (.putfield 38) 3 8 := ⟨by decide +kernel, rfl⟩
theorem d33_8 : Dc prog_43_method_5_code 8 (.return_) 1 9 := ⟨by decide +kernel, rfl⟩
theorem rAs (l : Launch) {Z : State} {a0 : Array Value} (hw : ∀ d ∈ tables_1, d.before a0 Z = true) {h : Heap} (hE : Ext Z.heap h) (hm : Addr) (tm : Addr) (b0 : Int64) (c0 q0 : Int32) (E_hm : Exa Z h hm "com/example/halyard/halyard/gateway/HeldMessages") (F_hm_held : Fld Z h hm "com/example/halyard/halyard/gateway/HeldMessages" "held" "Ljava/util/NavigableMap;" (.ref tm)) (F_hm_highestCome : Fld Z h hm "com/example/halyard/halyard/gateway/HeldMessages" "highestCome" "I" (.int c0)) (F_hm_bytes : Fld Z h hm "com/example/halyard/halyard/gateway/HeldMessages" "bytes" "J" (.long b0)) (F_hm_askedThrough : Fld Z h hm "com/example/halyard/halyard/gateway/HeldMessages" "askedThrough" "I" (.int q0)) (hn : Z.heap.size ≤ hm) :
    Con l (⟨"com/example/halyard/halyard/gateway/HeldMessages", "askedForGap", "()V"⟩ : MethodName) prog_43_method_5_code 1 none [] ({ frames := 0, cells := 0, slots := 0, locals := 0 } : Room) Z #[(.ref hm)] h (fun v' h' => v' = none ∧ Keep h h' [hm] ∧ Exa Z h' hm "com/example/halyard/halyard/gateway/HeldMessages" ∧ Fld Z h' hm "com/example/halyard/halyard/gateway/HeldMessages" "held" "Ljava/util/NavigableMap;" (.ref tm) ∧ Fld Z h' hm "com/example/halyard/halyard/gateway/HeldMessages" "highestCome" "I" (.int c0) ∧ Fld Z h' hm "com/example/halyard/halyard/gateway/HeldMessages" "bytes" "J" (.long b0) ∧ Fld Z h' hm "com/example/halyard/halyard/gateway/HeldMessages" "askedThrough" "I" (.int c0)) := by
  refine con_of (plainFor_of_name pn_10) hE (fun m => ef_rAs m hm) ?_
  intro p e s m below meth c T0 C X0
  have C : Cx p s m meth c Z "com/example/halyard/halyard/gateway/HeldMessages" "askedForGap" prog_43_method_5_code 1 none := C
  show Goes p e below _ T0 (mkF m 0 #[.val (.ref hm)] [])
  refine g_aloadN C X0 d33_0 rfl rfl (g_aloadN C X0 d33_1 rfl rfl (g_getfield (host := "") C X0 (Or.inl (wd hw 102 rfl)) Via.refl F_hm_highestCome d33_2 (fun T848 X848 => ?_)))
  refine g_putfield (host := "") C X848 (Or.inl (wd hw 225 rfl)) Via.refl F_hm_askedThrough E_hm (Or.inl (wd hw 226 rfl)) (wd hw 70 rfl) (ty := .int) (by decide) rfl rfl hn d33_5 (fun T849 h849 X849 W849 => ?_)
  have f849 := Fld.same W849 F_hm_askedThrough
  have kp850 := (Keep.refl h [hm]).wr W849 (Or.inl (by simp))
  have f851 := (Exa.wr W849 E_hm)
  have f852 := (Fld.other W849 F_hm_held (Or.inr (slot_ne (Or.inr (wd hw 96 rfl)) (Or.inl (wd hw 226 rfl)) (by decide) (t := (.object "java/util/NavigableMap")) (t' := .int) (by decide) (by decide))))
  have f853 := (Fld.other W849 F_hm_highestCome (Or.inr (slot_ne (Or.inl (wd hw 103 rfl)) (Or.inl (wd hw 226 rfl)) (by decide) (t := .int) (t' := .int) (by decide) (by decide))))
  have f854 := (Fld.other W849 F_hm_bytes (Or.inr (slot_ne (Or.inl (wd hw 106 rfl)) (Or.inl (wd hw 226 rfl)) (by decide) (t := .long) (t' := .int) (by decide) (by decide))))
  exact g_retV C X849 d33_8 (by decide) (by decide) ⟨rfl, kp850, f851, f852, f853, f854, f849⟩
theorem ef_rAt (m : MethodId) (hm : Addr) : entryFrame m #[(.ref hm)] 1 = mkF m 0 #[.val (.ref hm)] [] := by first | (simp [entryFrame, mkF, argsToLocals, Value.category]; done) | rfl
theorem rAt (l : Launch) {Z : State} {a0 : Array Value} (hw : ∀ d ∈ tables_1, d.before a0 Z = true) {h : Heap} (hE : Ext Z.heap h) (hm : Addr) (c0 q0 : Int32) (E_hm : Exa Z h hm "com/example/halyard/halyard/gateway/HeldMessages") (F_hm_highestCome : Fld Z h hm "com/example/halyard/halyard/gateway/HeldMessages" "highestCome" "I" (.int c0)) (F_hm_askedThrough : Fld Z h hm "com/example/halyard/halyard/gateway/HeldMessages" "askedThrough" "I" (.int q0)) (hn : Z.heap.size ≤ hm) :
    Con l (⟨"com/example/halyard/halyard/gateway/HeldMessages", "askedForGap", "()V"⟩ : MethodName) prog_43_method_5_code 1 none [] ({ frames := 0, cells := 0, slots := 0, locals := 0 } : Room) Z #[(.ref hm)] h (fun v' h' => v' = none ∧ Keep h h' [hm] ∧ Exa Z h' hm "com/example/halyard/halyard/gateway/HeldMessages" ∧ Fld Z h' hm "com/example/halyard/halyard/gateway/HeldMessages" "highestCome" "I" (.int c0) ∧ Fld Z h' hm "com/example/halyard/halyard/gateway/HeldMessages" "askedThrough" "I" (.int c0)) := by
  refine con_of (plainFor_of_name pn_10) hE (fun m => ef_rAt m hm) ?_
  intro p e s m below meth c T0 C X0
  have C : Cx p s m meth c Z "com/example/halyard/halyard/gateway/HeldMessages" "askedForGap" prog_43_method_5_code 1 none := C
  show Goes p e below _ T0 (mkF m 0 #[.val (.ref hm)] [])
  refine g_aloadN C X0 d33_0 rfl rfl (g_aloadN C X0 d33_1 rfl rfl (g_getfield (host := "") C X0 (Or.inl (wd hw 102 rfl)) Via.refl F_hm_highestCome d33_2 (fun T855 X855 => ?_)))
  refine g_putfield (host := "") C X855 (Or.inl (wd hw 225 rfl)) Via.refl F_hm_askedThrough E_hm (Or.inl (wd hw 226 rfl)) (wd hw 70 rfl) (ty := .int) (by decide) rfl rfl hn d33_5 (fun T856 h856 X856 W856 => ?_)
  have f856 := Fld.same W856 F_hm_askedThrough
  have kp857 := (Keep.refl h [hm]).wr W856 (Or.inl (by simp))
  have f858 := (Exa.wr W856 E_hm)
  have f859 := (Fld.other W856 F_hm_highestCome (Or.inr (slot_ne (Or.inl (wd hw 103 rfl)) (Or.inl (wd hw 226 rfl)) (by decide) (t := .int) (t' := .int) (by decide) (by decide))))
  exact g_retV C X856 d33_8 (by decide) (by decide) ⟨rfl, kp857, f858, f859, f856⟩
theorem ef_rGp (m : MethodId) (hm : Addr) (x : Int32) : entryFrame m #[(.ref hm), (.int x)] 2 = mkF m 0 #[.val (.ref hm), .val (.int x)] [] := by first | (simp [entryFrame, mkF, argsToLocals, Value.category]; done) | rfl
theorem d32_0 : Dc prog_43_method_4_code 0 (.iload_n 1) 1 1 := ⟨by decide +kernel, rfl⟩
theorem d32_1 : Dc prog_43_method_4_code 1 (.aload_n 0) 1 2 := ⟨by decide +kernel, rfl⟩
theorem d32_2 : Dc prog_43_method_4_code 2 (.getfield 38) 3 5 := ⟨by decide +kernel, rfl⟩
theorem d32_5 : Dj prog_43_method_4_code 5 (.if_icmp .le 15) 15 3 8 20 := ⟨by decide +kernel, rfl, by decide, by decide⟩
theorem d32_20 : Dc prog_43_method_4_code 20 (.iconst 0) 1 21 := ⟨by decide +kernel, rfl⟩
theorem d32_21 : Dc prog_43_method_4_code 21 (.ireturn) 1 22 := ⟨by decide +kernel, rfl⟩
theorem d32_8 : Dc prog_43_method_4_code 8 (.iload_n 1) 1 9 := ⟨by decide +kernel, rfl⟩
theorem d32_9 : Dc prog_43_method_4_code 9 (.aload_n 0) 1 10 := ⟨by decide +kernel, rfl⟩
theorem d32_10 : Dc prog_43_method_4_code 10 (.getfield 16) 3 13 := ⟨by decide +kernel, rfl⟩
theorem d32_13 : Dj prog_43_method_4_code 13 (.if_icmp .gt 7) 7 3 16 20 := ⟨by decide +kernel, rfl, by decide, by decide⟩
theorem d32_16 : Dc prog_43_method_4_code 16 (.iconst 1) 1 17 := ⟨by decide +kernel, rfl⟩
theorem d32_17 : Dj prog_43_method_4_code 17 (.goto 4) 4 3 20 21 := ⟨by decide +kernel, rfl, by decide, by decide⟩
theorem rGp (l : Launch) {Z : State} {a0 : Array Value} (hw : ∀ d ∈ tables_1, d.before a0 Z = true) {h : Heap} (hE : Ext Z.heap h) (hm : Addr) (x : Int32) (c0 q0 : Int32) (E_hm : Exa Z h hm "com/example/halyard/halyard/gateway/HeldMessages") (F_hm_highestCome : Fld Z h hm "com/example/halyard/halyard/gateway/HeldMessages" "highestCome" "I" (.int c0)) (F_hm_askedThrough : Fld Z h hm "com/example/halyard/halyard/gateway/HeldMessages" "askedThrough" "I" (.int q0)) :
    Con l (⟨"com/example/halyard/halyard/gateway/HeldMessages", "gapNotAskedFor", "(I)Z"⟩ : MethodName) prog_43_method_4_code 2 (some .boolean) [] ({ frames := 0, cells := 0, slots := 0, locals := 0 } : Room) Z #[(.ref hm), (.int x)] h (fun v' h' => v' = some (.int (own_gap x q0 c0)) ∧ h' = h) := by
  refine con_of (plainFor_of_name pn_10) hE (fun m => ef_rGp m hm x) ?_
  intro p e s m below meth c T0 C X0
  have C : Cx p s m meth c Z "com/example/halyard/halyard/gateway/HeldMessages" "gapNotAskedFor" prog_43_method_4_code 2 (some .boolean) := C
  show Goes p e below _ T0 (mkF m 0 #[.val (.ref hm), .val (.int x)] [])
  refine g_iloadN C X0 d32_0 rfl (g_aloadN C X0 d32_1 rfl rfl (g_getfield (host := "") C X0 (Or.inl (wd hw 225 rfl)) Via.refl F_hm_askedThrough d32_2 (fun T860 X860 => ?_)))
  refine g_icmpn (hI_le _ _) C X860 d32_5 (fun c5_861 => ?_) (fun c5_861 => ?_)
  · refine g_iconst 0 C X860 d32_20 rfl ?_
    exact g_retN C X860 (by simp) d32_21 (0 : Int32) rfl (by decide) (by decide) ⟨by unfold own_gap; rw [if_neg c5_861], rfl⟩
  · refine g_iloadN C X860 d32_8 rfl (g_aloadN C X860 d32_9 rfl rfl (g_getfield (host := "") C X860 (Or.inl (wd hw 102 rfl)) Via.refl F_hm_highestCome d32_10 (fun T862 X862 => ?_)))
    refine g_icmp (hI_gt _ _) C X862 d32_13 (fun c13_863 => ?_) (fun c13_863 => ?_)
    · refine g_iconst 0 C X862 d32_20 rfl ?_
      exact g_retN C X862 (by simp) d32_21 (0 : Int32) rfl (by decide) (by decide) ⟨by unfold own_gap; rw [if_pos c5_861, if_pos c13_863], rfl⟩
    · refine g_iconst 1 C X862 d32_16 rfl (g_goto C X862 d32_17 ?_)
      exact g_retN C X862 (by simp) d32_21 (1 : Int32) rfl (by decide) (by decide) ⟨by unfold own_gap; rw [if_pos c5_861, if_neg c13_863], rfl⟩
theorem pn_12 : plainName "com/example/halyard/halyard/gateway/HeldMessagesGapNotAskedForPinLaw" = true := by first | (simp [plainName, overriddenIn]; done) | decide +kernel
theorem ef_rm0 (m : MethodId) (p0 : Int32) (p1 : Int32) (p2 : Int32) (p3 : Int32) : entryFrame m #[(.int p0), (.int p1), (.int p2), (.int p3)] maxLocals = mkF m 0 #[.val (.int p0), .val (.int p1), .val (.int p2), .val (.int p3), .unset, .unset, .unset, .unset, .unset, .unset, .unset, .unset, .unset, .unset] [] := by first | (simp [entryFrame, mkF, argsToLocals, Value.category, maxLocals]; done) | rfl
theorem d0_0 : Dc code 0 (.bipush 15) 2 2 := ⟨at_0, rfl⟩
theorem d0_2 : Dc code 2 (.newarray .byte) 2 4 := ⟨at_2, rfl⟩
theorem d0_4 : Dc code 4 (.dup) 1 5 := ⟨at_4, rfl⟩
theorem d0_5 : Dc code 5 (.iconst 0) 1 6 := ⟨at_5, rfl⟩
theorem d0_6 : Dc code 6 (.bipush 56) 2 8 := ⟨at_6, rfl⟩
theorem d0_8 : Dc code 8 (.bastore) 1 9 := ⟨at_8, rfl⟩
theorem d0_9 : Dc code 9 (.dup) 1 10 := ⟨at_9, rfl⟩
theorem d0_10 : Dc code 10 (.iconst 1) 1 11 := ⟨at_10, rfl⟩
theorem d0_11 : Dc code 11 (.bipush 61) 2 13 := ⟨at_11, rfl⟩
theorem d0_13 : Dc code 13 (.bastore) 1 14 := ⟨at_13, rfl⟩
theorem d0_14 : Dc code 14 (.dup) 1 15 := ⟨at_14, rfl⟩
theorem d0_15 : Dc code 15 (.iconst 2) 1 16 := ⟨at_15, rfl⟩
theorem d0_16 : Dc code 16 (.bipush 65) 2 18 := ⟨at_16, rfl⟩
theorem d0_18 : Dc code 18 (.bastore) 1 19 := ⟨at_18, rfl⟩
theorem d0_19 : Dc code 19 (.dup) 1 20 := ⟨at_19, rfl⟩
theorem d0_20 : Dc code 20 (.iconst 3) 1 21 := ⟨at_20, rfl⟩
theorem d0_21 : Dc code 21 (.iconst 1) 1 22 := ⟨at_21, rfl⟩
theorem d0_22 : Dc code 22 (.bastore) 1 23 := ⟨at_22, rfl⟩
theorem d0_23 : Dc code 23 (.dup) 1 24 := ⟨at_23, rfl⟩
theorem d0_24 : Dc code 24 (.iconst 4) 1 25 := ⟨at_24, rfl⟩
theorem d0_25 : Dc code 25 (.bipush 57) 2 27 := ⟨at_25, rfl⟩
theorem d0_27 : Dc code 27 (.bastore) 1 28 := ⟨at_27, rfl⟩
theorem d0_28 : Dc code 28 (.dup) 1 29 := ⟨at_28, rfl⟩
theorem d0_29 : Dc code 29 (.iconst 5) 1 30 := ⟨at_29, rfl⟩
theorem d0_30 : Dc code 30 (.bipush 61) 2 32 := ⟨at_30, rfl⟩
theorem d0_32 : Dc code 32 (.bastore) 1 33 := ⟨at_32, rfl⟩
theorem d0_33 : Dc code 33 (.dup) 1 34 := ⟨at_33, rfl⟩
theorem d0_34 : Dc code 34 (.bipush 6) 2 36 := ⟨at_34, rfl⟩
theorem d0_36 : Dc code 36 (.bipush 48) 2 38 := ⟨at_36, rfl⟩
theorem d0_38 : Dc code 38 (.bastore) 1 39 := ⟨at_38, rfl⟩
theorem d0_39 : Dc code 39 (.dup) 1 40 := ⟨at_39, rfl⟩
theorem d0_40 : Dc code 40 (.bipush 7) 2 42 := ⟨at_40, rfl⟩
theorem d0_42 : Dc code 42 (.iconst 1) 1 43 := ⟨at_42, rfl⟩
theorem d0_43 : Dc code 43 (.bastore) 1 44 := ⟨at_43, rfl⟩
theorem d0_44 : Dc code 44 (.dup) 1 45 := ⟨at_44, rfl⟩
theorem d0_45 : Dc code 45 (.bipush 8) 2 47 := ⟨at_45, rfl⟩
theorem d0_47 : Dc code 47 (.bipush 49) 2 49 := ⟨at_47, rfl⟩
theorem d0_49 : Dc code 49 (.bastore) 1 50 := ⟨at_49, rfl⟩
theorem d0_50 : Dc code 50 (.dup) 1 51 := ⟨at_50, rfl⟩
theorem d0_51 : Dc code 51 (.bipush 9) 2 53 := ⟨at_51, rfl⟩
theorem d0_53 : Dc code 53 (.bipush 48) 2 55 := ⟨at_53, rfl⟩
theorem d0_55 : Dc code 55 (.bastore) 1 56 := ⟨at_55, rfl⟩
theorem d0_56 : Dc code 56 (.dup) 1 57 := ⟨at_56, rfl⟩
theorem d0_57 : Dc code 57 (.bipush 10) 2 59 := ⟨at_57, rfl⟩
theorem d0_59 : Dc code 59 (.bipush 61) 2 61 := ⟨at_59, rfl⟩
theorem d0_61 : Dc code 61 (.bastore) 1 62 := ⟨at_61, rfl⟩
theorem d0_62 : Dc code 62 (.dup) 1 63 := ⟨at_62, rfl⟩
theorem d0_63 : Dc code 63 (.bipush 11) 2 65 := ⟨at_63, rfl⟩
theorem d0_65 : Dc code 65 (.bipush 48) 2 67 := ⟨at_65, rfl⟩
theorem d0_67 : Dc code 67 (.bastore) 1 68 := ⟨at_67, rfl⟩
theorem d0_68 : Dc code 68 (.dup) 1 69 := ⟨at_68, rfl⟩
theorem d0_69 : Dc code 69 (.bipush 12) 2 71 := ⟨at_69, rfl⟩
theorem d0_71 : Dc code 71 (.bipush 57) 2 73 := ⟨at_71, rfl⟩
theorem d0_73 : Dc code 73 (.bastore) 1 74 := ⟨at_73, rfl⟩
theorem d0_74 : Dc code 74 (.dup) 1 75 := ⟨at_74, rfl⟩
theorem d0_75 : Dc code 75 (.bipush 13) 2 77 := ⟨at_75, rfl⟩
theorem d0_77 : Dc code 77 (.bipush 52) 2 79 := ⟨at_77, rfl⟩
theorem d0_79 : Dc code 79 (.bastore) 1 80 := ⟨at_79, rfl⟩
theorem d0_80 : Dc code 80 (.dup) 1 81 := ⟨at_80, rfl⟩
theorem d0_81 : Dc code 81 (.bipush 14) 2 83 := ⟨at_81, rfl⟩
theorem d0_83 : Dc code 83 (.iconst 1) 1 84 := ⟨at_83, rfl⟩
theorem d0_84 : Dc code 84 (.bastore) 1 85 := ⟨at_84, rfl⟩
theorem d0_85 : Dc code 85 (.astore 4) 2 87 := ⟨at_85, rfl⟩
theorem d0_87 : Dc code 87 (.aload 4) 2 89 := ⟨at_87, rfl⟩
theorem d0_89 : Dc code 89 (.invokestatic 7) 3 92 := ⟨at_89, rfl⟩
theorem pd_25 : parseMethodDescriptor "([B)Lcom/example/halyard/halyard/fix/FixMessage;" = some ⟨[(.array .byte)], some (.object "com/example/halyard/halyard/fix/FixMessage")⟩ := by decide +kernel
theorem d0_92 : Dc code 92 (.astore 5) 2 94 := ⟨at_92, rfl⟩
theorem d0_94 : Dc code 94 (.iload_n 3) 1 95 := ⟨at_94, rfl⟩
theorem d0_95 : Dc code 95 (.iconst 1) 1 96 := ⟨at_95, rfl⟩
theorem d0_96 : Dc code 96 (.iand) 1 97 := ⟨at_96, rfl⟩
theorem d0_97 : Dj code 97 (.ifCond .eq 7) 7 3 100 104 := ⟨at_97, rfl, by decide, by decide⟩
theorem d0_104 : Dc code 104 (.iconst 0) 1 105 := ⟨at_104, rfl⟩
theorem d0_105 : Dc code 105 (.istore 6) 2 107 := ⟨at_105, rfl⟩
theorem d0_107 : Dc code 107 (.iload_n 3) 1 108 := ⟨at_107, rfl⟩
theorem d0_108 : Dc code 108 (.iconst 2) 1 109 := ⟨at_108, rfl⟩
theorem d0_109 : Dc code 109 (.iand) 1 110 := ⟨at_109, rfl⟩
theorem d0_110 : Dj code 110 (.ifCond .eq 7) 7 3 113 117 := ⟨at_110, rfl, by decide, by decide⟩
theorem d0_117 : Dc code 117 (.iconst 0) 1 118 := ⟨at_117, rfl⟩
theorem d0_118 : Dc code 118 (.istore 7) 2 120 := ⟨at_118, rfl⟩
theorem d0_120 : Dc code 120 (.iload_n 3) 1 121 := ⟨at_120, rfl⟩
theorem d0_121 : Dc code 121 (.iconst 4) 1 122 := ⟨at_121, rfl⟩
theorem d0_122 : Dc code 122 (.iand) 1 123 := ⟨at_122, rfl⟩
theorem d0_123 : Dj code 123 (.ifCond .eq 7) 7 3 126 130 := ⟨at_123, rfl, by decide, by decide⟩
theorem d0_130 : Dc code 130 (.iconst 0) 1 131 := ⟨at_130, rfl⟩
theorem d0_131 : Dc code 131 (.istore 8) 2 133 := ⟨at_131, rfl⟩
theorem d0_133 : Dc code 133 (.new 13) 3 136 := ⟨at_133, rfl⟩
theorem d0_136 : Dc code 136 (.dup) 1 137 := ⟨at_136, rfl⟩
theorem d0_137 : Dc code 137 (.invokespecial 15) 3 140 := ⟨at_137, rfl⟩
theorem d0_140 : Dc code 140 (.astore 9) 2 142 := ⟨at_140, rfl⟩
theorem d0_142 : Dc code 142 (.aload 9) 2 144 := ⟨at_142, rfl⟩
theorem d0_144 : Dc code 144 (.iload_n 0) 1 145 := ⟨at_144, rfl⟩
theorem d0_145 : Dc code 145 (.aload 5) 2 147 := ⟨at_145, rfl⟩
theorem d0_147 : Dc code 147 (.iload 6) 2 149 := ⟨at_147, rfl⟩
theorem d0_149 : Dc code 149 (.invokevirtual 16) 3 152 := ⟨at_149, rfl⟩
theorem pd_26 : parseMethodDescriptor "(ILcom/example/halyard/halyard/fix/FixMessage;Z)V" = some ⟨[.int, (.object "com/example/halyard/halyard/fix/FixMessage"), .boolean], none⟩ := by decide +kernel
theorem d0_152 : Dc code 152 (.iload 7) 2 154 := ⟨at_152, rfl⟩
theorem d0_154 : Dj code 154 (.ifCond .eq 8) 8 3 157 162 := ⟨at_154, rfl, by decide, by decide⟩
theorem d0_162 : Dc code 162 (.aload 9) 2 164 := ⟨at_162, rfl⟩
theorem d0_164 : Dc code 164 (.iload_n 1) 1 165 := ⟨at_164, rfl⟩
theorem d0_165 : Dc code 165 (.aload 5) 2 167 := ⟨at_165, rfl⟩
theorem d0_167 : Dc code 167 (.iload 6) 2 169 := ⟨at_167, rfl⟩
theorem d0_169 : Dj code 169 (.ifCond .ne 7) 7 3 172 176 := ⟨at_169, rfl, by decide, by decide⟩
theorem d0_172 : Dc code 172 (.iconst 1) 1 173 := ⟨at_172, rfl⟩
theorem d0_173 : Dj code 173 (.goto 4) 4 3 176 177 := ⟨at_173, rfl, by decide, by decide⟩
theorem d0_177 : Dc code 177 (.invokevirtual 16) 3 180 := ⟨at_177, rfl⟩
theorem d0_180 : Dc code 180 (.iload 8) 2 182 := ⟨at_180, rfl⟩
theorem d0_182 : Dj code 182 (.ifCond .eq 8) 8 3 185 190 := ⟨at_182, rfl, by decide, by decide⟩
theorem d0_190 : Dc code 190 (.iconst 0) 1 191 := ⟨at_190, rfl⟩
theorem d0_191 : Dc code 191 (.iload_n 0) 1 192 := ⟨at_191, rfl⟩
theorem d0_192 : Dc code 192 (.invokestatic 23) 3 195 := ⟨at_192, rfl⟩
theorem d0_195 : Dc code 195 (.istore 10) 2 197 := ⟨at_195, rfl⟩
theorem d0_197 : Dc code 197 (.iload 10) 2 199 := ⟨at_197, rfl⟩
theorem d0_199 : Dc code 199 (.iload_n 1) 1 200 := ⟨at_199, rfl⟩
theorem d0_200 : Dc code 200 (.invokestatic 23) 3 203 := ⟨at_200, rfl⟩
theorem d0_203 : Dc code 203 (.istore 11) 2 205 := ⟨at_203, rfl⟩
theorem d0_205 : Dc code 205 (.iload 8) 2 207 := ⟨at_205, rfl⟩
theorem d0_207 : Dj code 207 (.ifCond .eq 8) 8 3 210 215 := ⟨at_207, rfl, by decide, by decide⟩
theorem d0_215 : Dc code 215 (.iload 7) 2 217 := ⟨at_215, rfl⟩
theorem d0_217 : Dj code 217 (.ifCond .eq 8) 8 3 220 225 := ⟨at_217, rfl, by decide, by decide⟩
theorem d0_225 : Dc code 225 (.iconst 0) 1 226 := ⟨at_225, rfl⟩
theorem d0_226 : Dc code 226 (.istore 12) 2 228 := ⟨at_226, rfl⟩
theorem d0_228 : Dc code 228 (.iload_n 2) 1 229 := ⟨at_228, rfl⟩
theorem d0_229 : Dc code 229 (.iload 12) 2 231 := ⟨at_229, rfl⟩
theorem d0_231 : Dj code 231 (.if_icmp .le 13) 13 3 234 244 := ⟨at_231, rfl, by decide, by decide⟩
theorem d0_244 : Dc code 244 (.iconst 0) 1 245 := ⟨at_244, rfl⟩
theorem d0_245 : Dc code 245 (.istore 13) 2 247 := ⟨at_245, rfl⟩
theorem d0_247 : Dc code 247 (.aload 9) 2 249 := ⟨at_247, rfl⟩
theorem d0_249 : Dc code 249 (.iload_n 2) 1 250 := ⟨at_249, rfl⟩
theorem d0_250 : Dc code 250 (.invokevirtual 29) 3 253 := ⟨at_250, rfl⟩
theorem pd_27 : parseMethodDescriptor "(I)Z" = some ⟨[.int], some .boolean⟩ := by decide +kernel
theorem d0_253 : Dc code 253 (.iload 13) 2 255 := ⟨at_253, rfl⟩
theorem d0_255 : Dj code 255 (.if_icmp .ne 7) 7 3 258 262 := ⟨at_255, rfl, by decide, by decide⟩
theorem d0_258 : Dc code 258 (.iconst 1) 1 259 := ⟨at_258, rfl⟩
theorem d0_259 : Dj code 259 (.goto 4) 4 3 262 263 := ⟨at_259, rfl, by decide, by decide⟩
theorem d0_263 : Dc code 263 (.ireturn) 1 264 := ⟨at_263, rfl⟩
theorem d0_234 : Dc code 234 (.iload_n 2) 1 235 := ⟨at_234, rfl⟩
theorem d0_235 : Dc code 235 (.iload 11) 2 237 := ⟨at_235, rfl⟩
theorem d0_237 : Dj code 237 (.if_icmp .gt 7) 7 3 240 244 := ⟨at_237, rfl, by decide, by decide⟩
theorem d0_240 : Dc code 240 (.iconst 1) 1 241 := ⟨at_240, rfl⟩
theorem d0_241 : Dj code 241 (.goto 4) 4 3 244 245 := ⟨at_241, rfl, by decide, by decide⟩
theorem d0_126 : Dc code 126 (.iconst 1) 1 127 := ⟨at_126, rfl⟩
theorem d0_127 : Dj code 127 (.goto 4) 4 3 130 131 := ⟨at_127, rfl, by decide, by decide⟩
theorem d0_185 : Dc code 185 (.aload 9) 2 187 := ⟨at_185, rfl⟩
theorem d0_187 : Dc code 187 (.invokevirtual 20) 3 190 := ⟨at_187, rfl⟩
theorem d0_210 : Dc code 210 (.iload 11) 2 212 := ⟨at_210, rfl⟩
theorem d0_212 : Dj code 212 (.goto 14) 14 3 215 226 := ⟨at_212, rfl, by decide, by decide⟩
theorem d0_113 : Dc code 113 (.iconst 1) 1 114 := ⟨at_113, rfl⟩
theorem d0_114 : Dj code 114 (.goto 4) 4 3 117 118 := ⟨at_114, rfl, by decide, by decide⟩
theorem d0_157 : Dc code 157 (.aload 9) 2 159 := ⟨at_157, rfl⟩
theorem d0_159 : Dc code 159 (.invokevirtual 20) 3 162 := ⟨at_159, rfl⟩
theorem d0_220 : Dc code 220 (.iload 10) 2 222 := ⟨at_220, rfl⟩
theorem d0_222 : Dj code 222 (.goto 4) 4 3 225 226 := ⟨at_222, rfl, by decide, by decide⟩
theorem d0_100 : Dc code 100 (.iconst 1) 1 101 := ⟨at_100, rfl⟩
theorem d0_101 : Dj code 101 (.goto 4) 4 3 104 105 := ⟨at_101, rfl, by decide, by decide⟩
theorem d0_176 : Dc code 176 (.iconst 0) 1 177 := ⟨at_176, rfl⟩
theorem rm0 (l : Launch) {Z : State} {a0 : Array Value} (hw : ∀ d ∈ tables_1, d.before a0 Z = true) {h : Heap} (hE : Ext Z.heap h) (p0 : Int32) (p1 : Int32) (p2 : Int32) (p3 : Int32) (p_1 p_6 p_10 p_15 p_19 p_24 : Addr) (k_30 k_32 k_35 k_38 : ClassId) (vs_33 vs_36 vs_39 : List Value) (ca : Addr) (kc : ClassId) (vc : List Value) (S_3 : Sta Z Z.heap "com/example/halyard/halyard/fix/FixVersion" "VERSIONS" "[Lcom/example/halyard/halyard/fix/FixVersion;" (.ref p_1)) (S_8 : Sta Z Z.heap "com/example/halyard/halyard/fix/FixVersion" "FIX_4_2" "Lcom/example/halyard/halyard/fix/FixVersion;" (.ref p_6)) (E_9 : Exa Z Z.heap p_6 "com/example/halyard/halyard/fix/FixVersion") (F_12 : Fld Z Z.heap p_6 "com/example/halyard/halyard/fix/FixVersion" "head" "[B" (.ref p_10)) (S_17 : Sta Z Z.heap "com/example/halyard/halyard/fix/FixVersion" "FIX_4_4" "Lcom/example/halyard/halyard/fix/FixVersion;" (.ref p_15)) (E_18 : Exa Z Z.heap p_15 "com/example/halyard/halyard/fix/FixVersion") (F_21 : Fld Z Z.heap p_15 "com/example/halyard/halyard/fix/FixVersion" "head" "[B" (.ref p_19)) (S_26 : Sta Z Z.heap "com/example/halyard/halyard/fix/FixMessage" "CHECK_SUM_TAG" "[B" (.ref p_24)) (V_29 : Arv Z Z.heap p_1 k_30 (.object "com/example/halyard/halyard/fix/FixVersion") 2 [(.ref p_6), (.ref p_15)] .null) (V_31 : Arv Z Z.heap p_10 k_32 .byte 9 vs_33 (.int 0)) (V_34 : Arv Z Z.heap p_19 k_35 .byte 9 vs_36 (.int 0)) (V_37 : Arv Z Z.heap p_24 k_38 .byte 3 vs_39 (.int 0)) (SH : Sta Z Z.heap "java/lang/Integer$IntegerCache" "high" "I" (.int (127 : Int32))) (SC : Sta Z Z.heap "java/lang/Integer$IntegerCache" "cache" "[Ljava/lang/Integer;" (.ref ca)) (VC : Arv Z Z.heap ca kc (.object "java/lang/Integer") 256 vc .null) (HB : ∀ j : Int32, ¬ j < 0 → j < 256 → ∃ b : Addr, vc.getD j.toNatClampNeg .null = .ref b ∧ Exa Z Z.heap b "java/lang/Integer" ∧ Fld Z Z.heap b "java/lang/Integer" "value" "I" (.int (j - 128))) :
    Con l x code maxLocals ret tables_1 room_1 Z #[(.int p0), (.int p1), (.int p2), (.int p3)] h (fun v' h' => v' = some (.int 1)) := by
  refine con_of (plainFor_of_name pn_12) hE (fun m => ef_rm0 m p0 p1 p2 p3) ?_
  intro p e s m below meth c T0 C X0
  have C : Cx p s m meth c Z "com/example/halyard/halyard/gateway/HeldMessagesGapNotAskedForPinLaw" "law" code maxLocals ret := C
  show Goes p e below _ T0 (mkF m 0 #[.val (.int p0), .val (.int p1), .val (.int p2), .val (.int p3), .unset, .unset, .unset, .unset, .unset, .unset, .unset, .unset, .unset, .unset] [])
  refine g_bipush 15 C X0 d0_0 rfl (g_newarray C X0 (wd hw 0 rfl) d0_2 (by decide) 15 15 (by decide) (by decide) (by decide) (by decide) (fun T864 h864 b864 k_b864 g_b864 n_b864 X864 E864 V864 => ?_))
  have V_b864 : Arv Z h864 b864 k_b864 .byte (15 : Int32) [(.int 0), (.int 0), (.int 0), (.int 0), (.int 0), (.int 0), (.int 0), (.int 0), (.int 0), (.int 0), (.int 0), (.int 0), (.int 0), (.int 0), (.int 0)] (.int 0) := V864
  refine g_dup C X864 d0_4 rfl (g_iconst 0 C X864 d0_5 rfl (g_bipush 56 C X864 d0_6 rfl (g_bastore C X864 V_b864 n_b864 d0_8 (by decide) (by decide) (Nat.le_of_ble_eq_true rfl) (.int 56) rfl (fun T865 h865 X865 W865 V865 => ?_))))
  have V865_b864 : Arv Z h865 b864 k_b864 .byte (15 : Int32) [(.int 56), (.int 0), (.int 0), (.int 0), (.int 0), (.int 0), (.int 0), (.int 0), (.int 0), (.int 0), (.int 0), (.int 0), (.int 0), (.int 0), (.int 0)] (.int 0) := V865
  refine g_dup C X865 d0_9 rfl (g_iconst 1 C X865 d0_10 rfl (g_bipush 61 C X865 d0_11 rfl (g_bastore C X865 V865_b864 n_b864 d0_13 (by decide) (by decide) (Nat.le_of_ble_eq_true rfl) (.int 61) rfl (fun T866 h866 X866 W866 V866 => ?_))))
  have V866_b864 : Arv Z h866 b864 k_b864 .byte (15 : Int32) [(.int 56), (.int 61), (.int 0), (.int 0), (.int 0), (.int 0), (.int 0), (.int 0), (.int 0), (.int 0), (.int 0), (.int 0), (.int 0), (.int 0), (.int 0)] (.int 0) := V866
  refine g_dup C X866 d0_14 rfl (g_iconst 2 C X866 d0_15 rfl (g_bipush 65 C X866 d0_16 rfl (g_bastore C X866 V866_b864 n_b864 d0_18 (by decide) (by decide) (Nat.le_of_ble_eq_true rfl) (.int 65) rfl (fun T867 h867 X867 W867 V867 => ?_))))
  have V867_b864 : Arv Z h867 b864 k_b864 .byte (15 : Int32) [(.int 56), (.int 61), (.int 65), (.int 0), (.int 0), (.int 0), (.int 0), (.int 0), (.int 0), (.int 0), (.int 0), (.int 0), (.int 0), (.int 0), (.int 0)] (.int 0) := V867
  refine g_dup C X867 d0_19 rfl (g_iconst 3 C X867 d0_20 rfl (g_iconst 1 C X867 d0_21 rfl (g_bastore C X867 V867_b864 n_b864 d0_22 (by decide) (by decide) (Nat.le_of_ble_eq_true rfl) (.int 1) rfl (fun T868 h868 X868 W868 V868 => ?_))))
  have V868_b864 : Arv Z h868 b864 k_b864 .byte (15 : Int32) [(.int 56), (.int 61), (.int 65), (.int 1), (.int 0), (.int 0), (.int 0), (.int 0), (.int 0), (.int 0), (.int 0), (.int 0), (.int 0), (.int 0), (.int 0)] (.int 0) := V868
  refine g_dup C X868 d0_23 rfl (g_iconst 4 C X868 d0_24 rfl (g_bipush 57 C X868 d0_25 rfl (g_bastore C X868 V868_b864 n_b864 d0_27 (by decide) (by decide) (Nat.le_of_ble_eq_true rfl) (.int 57) rfl (fun T869 h869 X869 W869 V869 => ?_))))
  have V869_b864 : Arv Z h869 b864 k_b864 .byte (15 : Int32) [(.int 56), (.int 61), (.int 65), (.int 1), (.int 57), (.int 0), (.int 0), (.int 0), (.int 0), (.int 0), (.int 0), (.int 0), (.int 0), (.int 0), (.int 0)] (.int 0) := V869
  refine g_dup C X869 d0_28 rfl (g_iconst 5 C X869 d0_29 rfl (g_bipush 61 C X869 d0_30 rfl (g_bastore C X869 V869_b864 n_b864 d0_32 (by decide) (by decide) (Nat.le_of_ble_eq_true rfl) (.int 61) rfl (fun T870 h870 X870 W870 V870 => ?_))))
  have V870_b864 : Arv Z h870 b864 k_b864 .byte (15 : Int32) [(.int 56), (.int 61), (.int 65), (.int 1), (.int 57), (.int 61), (.int 0), (.int 0), (.int 0), (.int 0), (.int 0), (.int 0), (.int 0), (.int 0), (.int 0)] (.int 0) := V870
  refine g_dup C X870 d0_33 rfl (g_bipush 6 C X870 d0_34 rfl (g_bipush 48 C X870 d0_36 rfl (g_bastore C X870 V870_b864 n_b864 d0_38 (by decide) (by decide) (Nat.le_of_ble_eq_true rfl) (.int 48) rfl (fun T871 h871 X871 W871 V871 => ?_))))
  have V871_b864 : Arv Z h871 b864 k_b864 .byte (15 : Int32) [(.int 56), (.int 61), (.int 65), (.int 1), (.int 57), (.int 61), (.int 48), (.int 0), (.int 0), (.int 0), (.int 0), (.int 0), (.int 0), (.int 0), (.int 0)] (.int 0) := V871
  refine g_dup C X871 d0_39 rfl (g_bipush 7 C X871 d0_40 rfl (g_iconst 1 C X871 d0_42 rfl (g_bastore C X871 V871_b864 n_b864 d0_43 (by decide) (by decide) (Nat.le_of_ble_eq_true rfl) (.int 1) rfl (fun T872 h872 X872 W872 V872 => ?_))))
  have V872_b864 : Arv Z h872 b864 k_b864 .byte (15 : Int32) [(.int 56), (.int 61), (.int 65), (.int 1), (.int 57), (.int 61), (.int 48), (.int 1), (.int 0), (.int 0), (.int 0), (.int 0), (.int 0), (.int 0), (.int 0)] (.int 0) := V872
  refine g_dup C X872 d0_44 rfl (g_bipush 8 C X872 d0_45 rfl (g_bipush 49 C X872 d0_47 rfl (g_bastore C X872 V872_b864 n_b864 d0_49 (by decide) (by decide) (Nat.le_of_ble_eq_true rfl) (.int 49) rfl (fun T873 h873 X873 W873 V873 => ?_))))
  have V873_b864 : Arv Z h873 b864 k_b864 .byte (15 : Int32) [(.int 56), (.int 61), (.int 65), (.int 1), (.int 57), (.int 61), (.int 48), (.int 1), (.int 49), (.int 0), (.int 0), (.int 0), (.int 0), (.int 0), (.int 0)] (.int 0) := V873
  refine g_dup C X873 d0_50 rfl (g_bipush 9 C X873 d0_51 rfl (g_bipush 48 C X873 d0_53 rfl (g_bastore C X873 V873_b864 n_b864 d0_55 (by decide) (by decide) (Nat.le_of_ble_eq_true rfl) (.int 48) rfl (fun T874 h874 X874 W874 V874 => ?_))))
  have V874_b864 : Arv Z h874 b864 k_b864 .byte (15 : Int32) [(.int 56), (.int 61), (.int 65), (.int 1), (.int 57), (.int 61), (.int 48), (.int 1), (.int 49), (.int 48), (.int 0), (.int 0), (.int 0), (.int 0), (.int 0)] (.int 0) := V874
  refine g_dup C X874 d0_56 rfl (g_bipush 10 C X874 d0_57 rfl (g_bipush 61 C X874 d0_59 rfl (g_bastore C X874 V874_b864 n_b864 d0_61 (by decide) (by decide) (Nat.le_of_ble_eq_true rfl) (.int 61) rfl (fun T875 h875 X875 W875 V875 => ?_))))
  have V875_b864 : Arv Z h875 b864 k_b864 .byte (15 : Int32) [(.int 56), (.int 61), (.int 65), (.int 1), (.int 57), (.int 61), (.int 48), (.int 1), (.int 49), (.int 48), (.int 61), (.int 0), (.int 0), (.int 0), (.int 0)] (.int 0) := V875
  refine g_dup C X875 d0_62 rfl (g_bipush 11 C X875 d0_63 rfl (g_bipush 48 C X875 d0_65 rfl (g_bastore C X875 V875_b864 n_b864 d0_67 (by decide) (by decide) (Nat.le_of_ble_eq_true rfl) (.int 48) rfl (fun T876 h876 X876 W876 V876 => ?_))))
  have V876_b864 : Arv Z h876 b864 k_b864 .byte (15 : Int32) [(.int 56), (.int 61), (.int 65), (.int 1), (.int 57), (.int 61), (.int 48), (.int 1), (.int 49), (.int 48), (.int 61), (.int 48), (.int 0), (.int 0), (.int 0)] (.int 0) := V876
  refine g_dup C X876 d0_68 rfl (g_bipush 12 C X876 d0_69 rfl (g_bipush 57 C X876 d0_71 rfl (g_bastore C X876 V876_b864 n_b864 d0_73 (by decide) (by decide) (Nat.le_of_ble_eq_true rfl) (.int 57) rfl (fun T877 h877 X877 W877 V877 => ?_))))
  have V877_b864 : Arv Z h877 b864 k_b864 .byte (15 : Int32) [(.int 56), (.int 61), (.int 65), (.int 1), (.int 57), (.int 61), (.int 48), (.int 1), (.int 49), (.int 48), (.int 61), (.int 48), (.int 57), (.int 0), (.int 0)] (.int 0) := V877
  refine g_dup C X877 d0_74 rfl (g_bipush 13 C X877 d0_75 rfl (g_bipush 52 C X877 d0_77 rfl (g_bastore C X877 V877_b864 n_b864 d0_79 (by decide) (by decide) (Nat.le_of_ble_eq_true rfl) (.int 52) rfl (fun T878 h878 X878 W878 V878 => ?_))))
  have V878_b864 : Arv Z h878 b864 k_b864 .byte (15 : Int32) [(.int 56), (.int 61), (.int 65), (.int 1), (.int 57), (.int 61), (.int 48), (.int 1), (.int 49), (.int 48), (.int 61), (.int 48), (.int 57), (.int 52), (.int 0)] (.int 0) := V878
  refine g_dup C X878 d0_80 rfl (g_bipush 14 C X878 d0_81 rfl (g_iconst 1 C X878 d0_83 rfl (g_bastore C X878 V878_b864 n_b864 d0_84 (by decide) (by decide) (Nat.le_of_ble_eq_true rfl) (.int 1) rfl (fun T879 h879 X879 W879 V879 => ?_))))
  have V879_b864 : Arv Z h879 b864 k_b864 .byte (15 : Int32) [(.int 56), (.int 61), (.int 65), (.int 1), (.int 57), (.int 61), (.int 48), (.int 1), (.int 49), (.int 48), (.int 61), (.int 48), (.int 57), (.int 52), (.int 1)] (.int 0) := V879
  refine g_astore C X879 d0_85 rfl (l' := #[.val (.int p0), .val (.int p1), .val (.int p2), .val (.int p3), .val (.ref b864), .unset, .unset, .unset, .unset, .unset, .unset, .unset, .unset, .unset]) rfl (g_aload C X879 d0_87 rfl rfl (g_static (argsL := [(.ref b864)]) (st := []) C X879 (wd hw 1 rfl) (wd hw 2 rfl) (wd hw 3 rfl) (wd hw 4 rfl) (by decide) (pay_of (W' := 0) (rPg l hw X879.ext b864 p_1 p_6 p_10 p_15 p_19 p_24 k_30 k_32 k_35 k_38 vs_33 vs_36 vs_39 k_b864 S_3 S_8 E_9 F_12 S_17 E_18 F_21 S_26 V_29 V_31 V_34 V_37 V879_b864) C.hZ (wd hw 4 rfl) (wd hw 3 rfl) (by decide) (by decide)) pd_25 rfl rfl _ rfl (Nat.le_of_eq rfl) d0_89 (by decide) (by decide) (fun T880 h880 v880 q880 X880 => ?_)))
  obtain ⟨m880, rfl, n_m880, g880, E880, A880, F880⟩ := q880
  have lt881 : b864 < m880 := Nat.lt_of_lt_of_le (Arv.lt V879_b864) g880
  show Goes p e below _ T880 (mkF m 92 #[.val (.int p0), .val (.int p1), .val (.int p2), .val (.int p3), .val (.ref b864), .unset, .unset, .unset, .unset, .unset, .unset, .unset, .unset, .unset] [(.ref m880)])
  refine g_astore C X880 d0_92 rfl (l' := #[.val (.int p0), .val (.int p1), .val (.int p2), .val (.int p3), .val (.ref b864), .val (.ref m880), .unset, .unset, .unset, .unset, .unset, .unset, .unset, .unset]) rfl (g_iloadN C X880 d0_94 rfl (g_iconst 1 C X880 d0_95 rfl (g_iand C X880 d0_96 (g_if (h0_eq _) C X880 d0_97 (fun c97_882 => ?_) (fun c97_882 => ?_)))))
  · refine g_iconst 0 C X880 d0_104 rfl (g_istore C X880 d0_105 (l' := #[.val (.int p0), .val (.int p1), .val (.int p2), .val (.int p3), .val (.ref b864), .val (.ref m880), .val (.int 0), .unset, .unset, .unset, .unset, .unset, .unset, .unset]) rfl (g_iloadN C X880 d0_107 rfl (g_iconst 2 C X880 d0_108 rfl (g_iand C X880 d0_109 (g_if (h0_eq _) C X880 d0_110 (fun c110_883 => ?_) (fun c110_883 => ?_))))))
    · refine g_iconst 0 C X880 d0_117 rfl (g_istore C X880 d0_118 (l' := #[.val (.int p0), .val (.int p1), .val (.int p2), .val (.int p3), .val (.ref b864), .val (.ref m880), .val (.int 0), .val (.int 0), .unset, .unset, .unset, .unset, .unset, .unset]) rfl (g_iloadN C X880 d0_120 rfl (g_iconst 4 C X880 d0_121 rfl (g_iand C X880 d0_122 (g_if (h0_eq _) C X880 d0_123 (fun c123_884 => ?_) (fun c123_884 => ?_))))))
      · refine g_iconst 0 C X880 d0_130 rfl (g_istore C X880 d0_131 (l' := #[.val (.int p0), .val (.int p1), .val (.int p2), .val (.int p3), .val (.ref b864), .val (.ref m880), .val (.int 0), .val (.int 0), .val (.int 0), .unset, .unset, .unset, .unset, .unset]) rfl (g_new C X880 (wd hw 69 rfl) (wd hw 70 rfl) (wd hw 71 rfl) d0_133 (by decide) (by decide) (fun T885 h885 b885 g_b885 n_b885 X885 E885 A885 D885 M885 => ?_)))
        have f886 := (Arv.ext V879_b864 E880)
        have lt887 : b864 < b885 := by rw [g_b885]; exact Arv.lt f886
        have lt888 : m880 < b885 := by rw [g_b885]; exact Exa.lt A880
        have F_held_b885 : Fld Z h885 b885 "com/example/halyard/halyard/gateway/HeldMessages" "held" "Ljava/util/NavigableMap;" .null := D885 (Or.inr (wd hw 96 rfl)) (ty := (.object "java/util/NavigableMap")) (by decide)
        have F_highestCome_b885 : Fld Z h885 b885 "com/example/halyard/halyard/gateway/HeldMessages" "highestCome" "I" (.int 0) := D885 (Or.inl (wd hw 103 rfl)) (ty := .int) (by decide)
        have F_bytes_b885 : Fld Z h885 b885 "com/example/halyard/halyard/gateway/HeldMessages" "bytes" "J" (.long 0) := D885 (Or.inl (wd hw 106 rfl)) (ty := .long) (by decide)
        have F_askedThrough_b885 : Fld Z h885 b885 "com/example/halyard/halyard/gateway/HeldMessages" "askedThrough" "I" (.int 0) := D885 (Or.inl (wd hw 226 rfl)) (ty := .int) (by decide)
        refine g_dup C X885 d0_136 rfl (g_special (argsL := []) (st := [(.ref b885)]) C X885 rfl (wd hw 72 rfl) (wd hw 73 rfl) (wd hw 74 rfl) (by decide) (pay_of (W' := 1) (rHi l hw X885.ext b885 A885 F_held_b885 F_highestCome_b885 F_bytes_b885 F_askedThrough_b885 n_b885) C.hZ (wd hw 74 rfl) (wd hw 71 rfl) (by decide) (by decide)) pd_10 rfl rfl _ rfl (Nat.le_of_eq rfl) d0_137 (by decide) (by decide) (fun T889 h889 v889 q889 X889 => ?_))
        obtain ⟨rfl, K889, tm, n_tm, g_tm, E889, H889_held, H889_highestCome, H889_bytes, H889_askedThrough, G889, T889_comparator, T889_root, T889_size, T889_modCount⟩ := q889
        have f891 := (Arv.ext f886 E885)
        have lt890 : b864 < tm := Nat.lt_of_lt_of_le (Arv.lt f891) g_tm
        have f893 := (Exa.ext E885 A880)
        have lt892 : m880 < tm := Nat.lt_of_lt_of_le (Exa.lt f893) g_tm
        have lt894 : b885 < tm := Nat.lt_of_lt_of_le (Exa.lt A885) g_tm
        show Goes p e below _ T889 (mkF m 140 #[.val (.int p0), .val (.int p1), .val (.int p2), .val (.int p3), .val (.ref b864), .val (.ref m880), .val (.int 0), .val (.int 0), .val (.int 0), .unset, .unset, .unset, .unset, .unset] [(.ref b885)])
        refine g_astore C X889 d0_140 rfl (l' := #[.val (.int p0), .val (.int p1), .val (.int p2), .val (.int p3), .val (.ref b864), .val (.ref m880), .val (.int 0), .val (.int 0), .val (.int 0), .val (.ref b885), .unset, .unset, .unset, .unset]) rfl (g_aload C X889 d0_142 rfl rfl (g_iloadN C X889 d0_144 rfl (g_aload C X889 d0_145 rfl rfl (g_iload C X889 d0_147 rfl ?_))))
        have f895 := (Exa.keep f893 K889)
        have f896 := (Fld.keep (Fld.ext E885 F880) K889 (ninS (Nat.ne_of_lt lt888) nin0))
        have f897 := (Arv.keep f891 K889 (ninS (Nat.ne_of_lt lt887) nin0))
        refine g_virtual (argsL := [(.int p0), (.ref m880), (.int 0)]) (st := []) C X889 (wd hw 97 rfl) (wd hw 98 rfl) (nf_of C (wd hw 100 rfl) rfl rfl) (wd hw 100 rfl) (wd hw 99 rfl) (by decide) E889 (pay_of (W' := 0) (rH10 l hw X889.ext b885 p0 m880 b864 tm k_b864 (0 : Int32) (0 : Int32) ca kc vc SH SC VC HB E889 H889_held H889_highestCome H889_bytes H889_askedThrough G889 T889_comparator T889_root T889_size T889_modCount f895 f896 f897 n_b885 n_tm (Nat.ne_of_lt lt894) (Nat.ne_of_lt lt888) (Nat.ne_of_lt lt892) (Nat.ne_of_lt lt887) (Nat.ne_of_lt lt890)) C.hZ (wd hw 101 rfl) (wd hw 71 rfl) (by decide) (by decide)) pd_26 rfl rfl _ rfl (Nat.le_of_eq rfl) d0_149 (by decide) (by decide) (fun T898 h898 v898 q898 X898 => ?_)
        obtain ⟨rfl, K898, pe, kp, vp, n_pe, g_pe, E898, H898_held, H898_highestCome, H898_bytes, H898_askedThrough, G898, T898_comparator, T898_root, T898_size, T898_modCount, N898, P898_key, P898_value, P898_left, P898_right, P898_parent, P898_color, I898, J898⟩ := q898
        have lt899 : b885 < pe := Nat.lt_of_lt_of_le (Exa.lt E889) g_pe
        have lt900 : tm < pe := Nat.lt_of_lt_of_le (Exa.lt G889) g_pe
        have lt901 : m880 < pe := Nat.lt_of_lt_of_le (Exa.lt f895) g_pe
        have lt902 : b864 < pe := Nat.lt_of_lt_of_le (Arv.lt f897) g_pe
        have nx903 : kp ≠ b885 := own_exne I898 E898 (by decide)
        show Goes p e below _ T898 (mkF m 152 #[.val (.int p0), .val (.int p1), .val (.int p2), .val (.int p3), .val (.ref b864), .val (.ref m880), .val (.int 0), .val (.int 0), .val (.int 0), .val (.ref b885), .unset, .unset, .unset, .unset] [])
        refine g_iload C X898 d0_152 rfl (g_if (h0_eq _) C X898 d0_154 (fun _ => ?_) (fun q => absurd (by decide) q))
        refine g_aload C X898 d0_162 rfl rfl (g_iloadN C X898 d0_164 rfl (g_aload C X898 d0_165 rfl rfl (g_iload C X898 d0_167 rfl (g_ifn (h0_ne _) C X898 d0_169 (fun q => absurd (by decide) q) (fun _ => ?_)))))
        refine g_iconst 1 C X898 d0_172 rfl (g_goto C X898 d0_173 ?_)
        have f904 := (Exa.keep f895 K898)
        have f905 := (Fld.keep f896 K898 (ninS (Nat.ne_of_lt lt888) (ninS (Nat.ne_of_lt lt892) nin0)))
        have f906 := (Arv.keep f897 K898 (ninS (Nat.ne_of_lt lt887) (ninS (Nat.ne_of_lt lt890) nin0)))
        refine g_virtual (argsL := [(.int p1), (.ref m880), (.int 1)]) (st := []) C X898 (wd hw 97 rfl) (wd hw 98 rfl) (nf_of C (wd hw 100 rfl) rfl rfl) (wd hw 100 rfl) (wd hw 99 rfl) (by decide) E898 (pay_of (W' := 0) (rH21 l hw X898.ext b885 p1 m880 b864 tm pe kp vp k_b864 (own_mx (0 : Int32) p0) (0 : Int32) p0 ca kc vc SH SC VC HB E898 H898_held H898_highestCome H898_bytes H898_askedThrough G898 T898_comparator T898_root T898_size T898_modCount N898 P898_key P898_value P898_left P898_right P898_parent P898_color I898 J898 f904 f905 f906 n_b885 n_tm (Nat.ne_of_lt lt894) (Nat.ne_of_lt lt888) (Nat.ne_of_lt lt892) (Nat.ne_of_lt lt887) (Nat.ne_of_lt lt890) n_pe (Nat.ne_of_lt lt899) (Nat.ne_of_lt lt900) (Nat.ne_of_lt lt901) (Nat.ne_of_lt lt902)) C.hZ (wd hw 101 rfl) (wd hw 71 rfl) (by decide) (by decide)) pd_26 rfl rfl _ rfl (Nat.le_of_eq rfl) d0_177 (by decide) (by decide) (fun T907 h907 v907 q907 X907 => ?_)
        obtain ⟨rfl, K907, E907, F907, G907⟩ := q907
        show Goes p e below _ T907 (mkF m 180 #[.val (.int p0), .val (.int p1), .val (.int p2), .val (.int p3), .val (.ref b864), .val (.ref m880), .val (.int 0), .val (.int 0), .val (.int 0), .val (.ref b885), .unset, .unset, .unset, .unset] [])
        refine g_iload C X907 d0_180 rfl (g_if (h0_eq _) C X907 d0_182 (fun _ => ?_) (fun q => absurd (by decide) q))
        refine g_iconst 0 C X907 d0_190 rfl (g_iloadN C X907 d0_191 rfl (g_staticP (argsL := [(.int 0), (.int p0)]) (st := []) C X907 (wd hw 219 rfl) (wd hw 9 rfl) (wd hw 10 rfl) (wd hw 11 rfl) (by decide) (pay_of (W' := 0) (rMx l hw X907.ext (0 : Int32) p0) C.hZ (wd hw 11 rfl) (wd hw 10 rfl) (by decide) (by decide)) pd_7 rfl rfl _ rfl (Nat.le_of_eq rfl) d0_192 (by decide) (by decide) (fun T908 X908 => ?_)))
        refine g_istore C X908 d0_195 (l' := #[.val (.int p0), .val (.int p1), .val (.int p2), .val (.int p3), .val (.ref b864), .val (.ref m880), .val (.int 0), .val (.int 0), .val (.int 0), .val (.ref b885), .val (.int (own_mx (0 : Int32) p0)), .unset, .unset, .unset]) rfl (g_iload C X908 d0_197 rfl (g_iloadN C X908 d0_199 rfl (g_staticP (argsL := [(.int (own_mx (0 : Int32) p0)), (.int p1)]) (st := []) C X908 (wd hw 219 rfl) (wd hw 9 rfl) (wd hw 10 rfl) (wd hw 11 rfl) (by decide) (pay_of (W' := 0) (rMx l hw X908.ext (own_mx (0 : Int32) p0) p1) C.hZ (wd hw 11 rfl) (wd hw 10 rfl) (by decide) (by decide)) pd_7 rfl rfl _ rfl (Nat.le_of_eq rfl) d0_200 (by decide) (by decide) (fun T909 X909 => ?_))))
        refine g_istore C X909 d0_203 (l' := #[.val (.int p0), .val (.int p1), .val (.int p2), .val (.int p3), .val (.ref b864), .val (.ref m880), .val (.int 0), .val (.int 0), .val (.int 0), .val (.ref b885), .val (.int (own_mx (0 : Int32) p0)), .val (.int (own_mx (own_mx (0 : Int32) p0) p1)), .unset, .unset]) rfl (g_iload C X909 d0_205 rfl (g_if (h0_eq _) C X909 d0_207 (fun _ => ?_) (fun q => absurd (by decide) q)))
        refine g_iload C X909 d0_215 rfl (g_if (h0_eq _) C X909 d0_217 (fun _ => ?_) (fun q => absurd (by decide) q))
        refine g_iconst 0 C X909 d0_225 rfl (g_istore C X909 d0_226 (l' := #[.val (.int p0), .val (.int p1), .val (.int p2), .val (.int p3), .val (.ref b864), .val (.ref m880), .val (.int 0), .val (.int 0), .val (.int 0), .val (.ref b885), .val (.int (own_mx (0 : Int32) p0)), .val (.int (own_mx (own_mx (0 : Int32) p0) p1)), .val (.int 0), .unset]) rfl (g_iloadN C X909 d0_228 rfl (g_iload C X909 d0_229 rfl (g_icmpn (hI_le _ _) C X909 d0_231 (fun c231_910 => ?_) (fun c231_910 => ?_)))))
        · refine g_iconst 0 C X909 d0_244 rfl (g_istore C X909 d0_245 (l' := #[.val (.int p0), .val (.int p1), .val (.int p2), .val (.int p3), .val (.ref b864), .val (.ref m880), .val (.int 0), .val (.int 0), .val (.int 0), .val (.ref b885), .val (.int (own_mx (0 : Int32) p0)), .val (.int (own_mx (own_mx (0 : Int32) p0) p1)), .val (.int 0), .val (.int 0)]) rfl (g_aload C X909 d0_247 rfl rfl (g_iloadN C X909 d0_249 rfl (g_virtualP (argsL := [(.int p2)]) (st := []) C X909 (wd hw 220 rfl) (wd hw 221 rfl) (nf_of C (wd hw 223 rfl) rfl rfl) (wd hw 223 rfl) (wd hw 222 rfl) (by decide) E907 (pay_of (W' := 0) (rGp l hw X909.ext b885 p2 (own_mx (own_mx (0 : Int32) p0) p1) (0 : Int32) E907 F907 G907) C.hZ (wd hw 224 rfl) (wd hw 71 rfl) (by decide) (by decide)) pd_27 rfl rfl _ rfl (Nat.le_of_eq rfl) d0_250 (by decide) (by decide) (fun T911 X911 => ?_)))))
          refine g_iload C X911 d0_253 rfl (g_icmpn (hI_ne _ _) C X911 d0_255 (fun q => absurd (by unfold own_gap; rw [if_neg c231_910]) q) (fun _ => ?_))
          refine g_iconst 1 C X911 d0_258 rfl (g_goto C X911 d0_259 ?_)
          exact g_retN C X911 (by simp) d0_263 (1 : Int32) rfl (by decide) (by decide) rfl
        · refine g_iloadN C X909 d0_234 rfl (g_iload C X909 d0_235 rfl (g_icmp (hI_gt _ _) C X909 d0_237 (fun c237_912 => ?_) (fun c237_912 => ?_)))
          · refine g_iconst 0 C X909 d0_244 rfl (g_istore C X909 d0_245 (l' := #[.val (.int p0), .val (.int p1), .val (.int p2), .val (.int p3), .val (.ref b864), .val (.ref m880), .val (.int 0), .val (.int 0), .val (.int 0), .val (.ref b885), .val (.int (own_mx (0 : Int32) p0)), .val (.int (own_mx (own_mx (0 : Int32) p0) p1)), .val (.int 0), .val (.int 0)]) rfl (g_aload C X909 d0_247 rfl rfl (g_iloadN C X909 d0_249 rfl (g_virtualP (argsL := [(.int p2)]) (st := []) C X909 (wd hw 220 rfl) (wd hw 221 rfl) (nf_of C (wd hw 223 rfl) rfl rfl) (wd hw 223 rfl) (wd hw 222 rfl) (by decide) E907 (pay_of (W' := 0) (rGp l hw X909.ext b885 p2 (own_mx (own_mx (0 : Int32) p0) p1) (0 : Int32) E907 F907 G907) C.hZ (wd hw 224 rfl) (wd hw 71 rfl) (by decide) (by decide)) pd_27 rfl rfl _ rfl (Nat.le_of_eq rfl) d0_250 (by decide) (by decide) (fun T913 X913 => ?_)))))
            refine g_iload C X913 d0_253 rfl (g_icmpn (hI_ne _ _) C X913 d0_255 (fun q => absurd (by unfold own_gap; rw [if_pos c231_910, if_pos c237_912]) q) (fun _ => ?_))
            refine g_iconst 1 C X913 d0_258 rfl (g_goto C X913 d0_259 ?_)
            exact g_retN C X913 (by simp) d0_263 (1 : Int32) rfl (by decide) (by decide) rfl
          · refine g_iconst 1 C X909 d0_240 rfl (g_goto C X909 d0_241 (g_istore C X909 d0_245 (l' := #[.val (.int p0), .val (.int p1), .val (.int p2), .val (.int p3), .val (.ref b864), .val (.ref m880), .val (.int 0), .val (.int 0), .val (.int 0), .val (.ref b885), .val (.int (own_mx (0 : Int32) p0)), .val (.int (own_mx (own_mx (0 : Int32) p0) p1)), .val (.int 0), .val (.int 1)]) rfl (g_aload C X909 d0_247 rfl rfl (g_iloadN C X909 d0_249 rfl (g_virtualP (argsL := [(.int p2)]) (st := []) C X909 (wd hw 220 rfl) (wd hw 221 rfl) (nf_of C (wd hw 223 rfl) rfl rfl) (wd hw 223 rfl) (wd hw 222 rfl) (by decide) E907 (pay_of (W' := 0) (rGp l hw X909.ext b885 p2 (own_mx (own_mx (0 : Int32) p0) p1) (0 : Int32) E907 F907 G907) C.hZ (wd hw 224 rfl) (wd hw 71 rfl) (by decide) (by decide)) pd_27 rfl rfl _ rfl (Nat.le_of_eq rfl) d0_250 (by decide) (by decide) (fun T914 X914 => ?_))))))
            refine g_iload C X914 d0_253 rfl (g_icmpn (hI_ne _ _) C X914 d0_255 (fun q => absurd (by unfold own_gap; rw [if_pos c231_910, if_neg c237_912]) q) (fun _ => ?_))
            refine g_iconst 1 C X914 d0_258 rfl (g_goto C X914 d0_259 ?_)
            exact g_retN C X914 (by simp) d0_263 (1 : Int32) rfl (by decide) (by decide) rfl
      · refine g_iconst 1 C X880 d0_126 rfl (g_goto C X880 d0_127 (g_istore C X880 d0_131 (l' := #[.val (.int p0), .val (.int p1), .val (.int p2), .val (.int p3), .val (.ref b864), .val (.ref m880), .val (.int 0), .val (.int 0), .val (.int 1), .unset, .unset, .unset, .unset, .unset]) rfl (g_new C X880 (wd hw 69 rfl) (wd hw 70 rfl) (wd hw 71 rfl) d0_133 (by decide) (by decide) (fun T915 h915 b915 g_b915 n_b915 X915 E915 A915 D915 M915 => ?_))))
        have f916 := (Arv.ext V879_b864 E880)
        have lt917 : b864 < b915 := by rw [g_b915]; exact Arv.lt f916
        have lt918 : m880 < b915 := by rw [g_b915]; exact Exa.lt A880
        have F_held_b915 : Fld Z h915 b915 "com/example/halyard/halyard/gateway/HeldMessages" "held" "Ljava/util/NavigableMap;" .null := D915 (Or.inr (wd hw 96 rfl)) (ty := (.object "java/util/NavigableMap")) (by decide)
        have F_highestCome_b915 : Fld Z h915 b915 "com/example/halyard/halyard/gateway/HeldMessages" "highestCome" "I" (.int 0) := D915 (Or.inl (wd hw 103 rfl)) (ty := .int) (by decide)
        have F_bytes_b915 : Fld Z h915 b915 "com/example/halyard/halyard/gateway/HeldMessages" "bytes" "J" (.long 0) := D915 (Or.inl (wd hw 106 rfl)) (ty := .long) (by decide)
        have F_askedThrough_b915 : Fld Z h915 b915 "com/example/halyard/halyard/gateway/HeldMessages" "askedThrough" "I" (.int 0) := D915 (Or.inl (wd hw 226 rfl)) (ty := .int) (by decide)
        refine g_dup C X915 d0_136 rfl (g_special (argsL := []) (st := [(.ref b915)]) C X915 rfl (wd hw 72 rfl) (wd hw 73 rfl) (wd hw 74 rfl) (by decide) (pay_of (W' := 1) (rHi l hw X915.ext b915 A915 F_held_b915 F_highestCome_b915 F_bytes_b915 F_askedThrough_b915 n_b915) C.hZ (wd hw 74 rfl) (wd hw 71 rfl) (by decide) (by decide)) pd_10 rfl rfl _ rfl (Nat.le_of_eq rfl) d0_137 (by decide) (by decide) (fun T919 h919 v919 q919 X919 => ?_))
        obtain ⟨rfl, K919, tm, n_tm, g_tm, E919, H919_held, H919_highestCome, H919_bytes, H919_askedThrough, G919, T919_comparator, T919_root, T919_size, T919_modCount⟩ := q919
        have f921 := (Arv.ext f916 E915)
        have lt920 : b864 < tm := Nat.lt_of_lt_of_le (Arv.lt f921) g_tm
        have f923 := (Exa.ext E915 A880)
        have lt922 : m880 < tm := Nat.lt_of_lt_of_le (Exa.lt f923) g_tm
        have lt924 : b915 < tm := Nat.lt_of_lt_of_le (Exa.lt A915) g_tm
        show Goes p e below _ T919 (mkF m 140 #[.val (.int p0), .val (.int p1), .val (.int p2), .val (.int p3), .val (.ref b864), .val (.ref m880), .val (.int 0), .val (.int 0), .val (.int 1), .unset, .unset, .unset, .unset, .unset] [(.ref b915)])
        refine g_astore C X919 d0_140 rfl (l' := #[.val (.int p0), .val (.int p1), .val (.int p2), .val (.int p3), .val (.ref b864), .val (.ref m880), .val (.int 0), .val (.int 0), .val (.int 1), .val (.ref b915), .unset, .unset, .unset, .unset]) rfl (g_aload C X919 d0_142 rfl rfl (g_iloadN C X919 d0_144 rfl (g_aload C X919 d0_145 rfl rfl (g_iload C X919 d0_147 rfl ?_))))
        have f925 := (Exa.keep f923 K919)
        have f926 := (Fld.keep (Fld.ext E915 F880) K919 (ninS (Nat.ne_of_lt lt918) nin0))
        have f927 := (Arv.keep f921 K919 (ninS (Nat.ne_of_lt lt917) nin0))
        refine g_virtual (argsL := [(.int p0), (.ref m880), (.int 0)]) (st := []) C X919 (wd hw 97 rfl) (wd hw 98 rfl) (nf_of C (wd hw 100 rfl) rfl rfl) (wd hw 100 rfl) (wd hw 99 rfl) (by decide) E919 (pay_of (W' := 0) (rH10 l hw X919.ext b915 p0 m880 b864 tm k_b864 (0 : Int32) (0 : Int32) ca kc vc SH SC VC HB E919 H919_held H919_highestCome H919_bytes H919_askedThrough G919 T919_comparator T919_root T919_size T919_modCount f925 f926 f927 n_b915 n_tm (Nat.ne_of_lt lt924) (Nat.ne_of_lt lt918) (Nat.ne_of_lt lt922) (Nat.ne_of_lt lt917) (Nat.ne_of_lt lt920)) C.hZ (wd hw 101 rfl) (wd hw 71 rfl) (by decide) (by decide)) pd_26 rfl rfl _ rfl (Nat.le_of_eq rfl) d0_149 (by decide) (by decide) (fun T928 h928 v928 q928 X928 => ?_)
        obtain ⟨rfl, K928, pe, kp, vp, n_pe, g_pe, E928, H928_held, H928_highestCome, H928_bytes, H928_askedThrough, G928, T928_comparator, T928_root, T928_size, T928_modCount, N928, P928_key, P928_value, P928_left, P928_right, P928_parent, P928_color, I928, J928⟩ := q928
        have lt929 : b915 < pe := Nat.lt_of_lt_of_le (Exa.lt E919) g_pe
        have lt930 : tm < pe := Nat.lt_of_lt_of_le (Exa.lt G919) g_pe
        have lt931 : m880 < pe := Nat.lt_of_lt_of_le (Exa.lt f925) g_pe
        have lt932 : b864 < pe := Nat.lt_of_lt_of_le (Arv.lt f927) g_pe
        have nx933 : kp ≠ b915 := own_exne I928 E928 (by decide)
        show Goes p e below _ T928 (mkF m 152 #[.val (.int p0), .val (.int p1), .val (.int p2), .val (.int p3), .val (.ref b864), .val (.ref m880), .val (.int 0), .val (.int 0), .val (.int 1), .val (.ref b915), .unset, .unset, .unset, .unset] [])
        refine g_iload C X928 d0_152 rfl (g_if (h0_eq _) C X928 d0_154 (fun _ => ?_) (fun q => absurd (by decide) q))
        refine g_aload C X928 d0_162 rfl rfl (g_iloadN C X928 d0_164 rfl (g_aload C X928 d0_165 rfl rfl (g_iload C X928 d0_167 rfl (g_ifn (h0_ne _) C X928 d0_169 (fun q => absurd (by decide) q) (fun _ => ?_)))))
        refine g_iconst 1 C X928 d0_172 rfl (g_goto C X928 d0_173 ?_)
        have f934 := (Exa.keep f925 K928)
        have f935 := (Fld.keep f926 K928 (ninS (Nat.ne_of_lt lt918) (ninS (Nat.ne_of_lt lt922) nin0)))
        have f936 := (Arv.keep f927 K928 (ninS (Nat.ne_of_lt lt917) (ninS (Nat.ne_of_lt lt920) nin0)))
        refine g_virtual (argsL := [(.int p1), (.ref m880), (.int 1)]) (st := []) C X928 (wd hw 97 rfl) (wd hw 98 rfl) (nf_of C (wd hw 100 rfl) rfl rfl) (wd hw 100 rfl) (wd hw 99 rfl) (by decide) E928 (pay_of (W' := 0) (rH21 l hw X928.ext b915 p1 m880 b864 tm pe kp vp k_b864 (own_mx (0 : Int32) p0) (0 : Int32) p0 ca kc vc SH SC VC HB E928 H928_held H928_highestCome H928_bytes H928_askedThrough G928 T928_comparator T928_root T928_size T928_modCount N928 P928_key P928_value P928_left P928_right P928_parent P928_color I928 J928 f934 f935 f936 n_b915 n_tm (Nat.ne_of_lt lt924) (Nat.ne_of_lt lt918) (Nat.ne_of_lt lt922) (Nat.ne_of_lt lt917) (Nat.ne_of_lt lt920) n_pe (Nat.ne_of_lt lt929) (Nat.ne_of_lt lt930) (Nat.ne_of_lt lt931) (Nat.ne_of_lt lt932)) C.hZ (wd hw 101 rfl) (wd hw 71 rfl) (by decide) (by decide)) pd_26 rfl rfl _ rfl (Nat.le_of_eq rfl) d0_177 (by decide) (by decide) (fun T937 h937 v937 q937 X937 => ?_)
        obtain ⟨rfl, K937, E937, F937, G937⟩ := q937
        show Goes p e below _ T937 (mkF m 180 #[.val (.int p0), .val (.int p1), .val (.int p2), .val (.int p3), .val (.ref b864), .val (.ref m880), .val (.int 0), .val (.int 0), .val (.int 1), .val (.ref b915), .unset, .unset, .unset, .unset] [])
        refine g_iload C X937 d0_180 rfl (g_if (h0_eq _) C X937 d0_182 (fun q => absurd q (by decide)) (fun _ => ?_))
        refine g_aload C X937 d0_185 rfl rfl (g_virtual (argsL := []) (st := []) C X937 (wd hw 227 rfl) (wd hw 228 rfl) (nf_of C (wd hw 230 rfl) rfl rfl) (wd hw 230 rfl) (wd hw 229 rfl) (by decide) E937 (pay_of (W' := 0) (rAt l hw X937.ext b915 (own_mx (own_mx (0 : Int32) p0) p1) (0 : Int32) E937 F937 G937 n_b915) C.hZ (wd hw 231 rfl) (wd hw 71 rfl) (by decide) (by decide)) pd_10 rfl rfl _ rfl (Nat.le_of_eq rfl) d0_187 (by decide) (by decide) (fun T938 h938 v938 q938 X938 => ?_))
        obtain ⟨rfl, K938, E938, H938_highestCome, H938_askedThrough⟩ := q938
        show Goes p e below _ T938 (mkF m 190 #[.val (.int p0), .val (.int p1), .val (.int p2), .val (.int p3), .val (.ref b864), .val (.ref m880), .val (.int 0), .val (.int 0), .val (.int 1), .val (.ref b915), .unset, .unset, .unset, .unset] [])
        refine g_iconst 0 C X938 d0_190 rfl (g_iloadN C X938 d0_191 rfl (g_staticP (argsL := [(.int 0), (.int p0)]) (st := []) C X938 (wd hw 219 rfl) (wd hw 9 rfl) (wd hw 10 rfl) (wd hw 11 rfl) (by decide) (pay_of (W' := 0) (rMx l hw X938.ext (0 : Int32) p0) C.hZ (wd hw 11 rfl) (wd hw 10 rfl) (by decide) (by decide)) pd_7 rfl rfl _ rfl (Nat.le_of_eq rfl) d0_192 (by decide) (by decide) (fun T939 X939 => ?_)))
        refine g_istore C X939 d0_195 (l' := #[.val (.int p0), .val (.int p1), .val (.int p2), .val (.int p3), .val (.ref b864), .val (.ref m880), .val (.int 0), .val (.int 0), .val (.int 1), .val (.ref b915), .val (.int (own_mx (0 : Int32) p0)), .unset, .unset, .unset]) rfl (g_iload C X939 d0_197 rfl (g_iloadN C X939 d0_199 rfl (g_staticP (argsL := [(.int (own_mx (0 : Int32) p0)), (.int p1)]) (st := []) C X939 (wd hw 219 rfl) (wd hw 9 rfl) (wd hw 10 rfl) (wd hw 11 rfl) (by decide) (pay_of (W' := 0) (rMx l hw X939.ext (own_mx (0 : Int32) p0) p1) C.hZ (wd hw 11 rfl) (wd hw 10 rfl) (by decide) (by decide)) pd_7 rfl rfl _ rfl (Nat.le_of_eq rfl) d0_200 (by decide) (by decide) (fun T940 X940 => ?_))))
        refine g_istore C X940 d0_203 (l' := #[.val (.int p0), .val (.int p1), .val (.int p2), .val (.int p3), .val (.ref b864), .val (.ref m880), .val (.int 0), .val (.int 0), .val (.int 1), .val (.ref b915), .val (.int (own_mx (0 : Int32) p0)), .val (.int (own_mx (own_mx (0 : Int32) p0) p1)), .unset, .unset]) rfl (g_iload C X940 d0_205 rfl (g_if (h0_eq _) C X940 d0_207 (fun q => absurd q (by decide)) (fun _ => ?_)))
        refine g_iload C X940 d0_210 rfl (g_goto C X940 d0_212 (g_istore C X940 d0_226 (l' := #[.val (.int p0), .val (.int p1), .val (.int p2), .val (.int p3), .val (.ref b864), .val (.ref m880), .val (.int 0), .val (.int 0), .val (.int 1), .val (.ref b915), .val (.int (own_mx (0 : Int32) p0)), .val (.int (own_mx (own_mx (0 : Int32) p0) p1)), .val (.int (own_mx (own_mx (0 : Int32) p0) p1)), .unset]) rfl (g_iloadN C X940 d0_228 rfl (g_iload C X940 d0_229 rfl (g_icmpn (hI_le _ _) C X940 d0_231 (fun c231_941 => ?_) (fun c231_941 => ?_))))))
        · refine g_iconst 0 C X940 d0_244 rfl (g_istore C X940 d0_245 (l' := #[.val (.int p0), .val (.int p1), .val (.int p2), .val (.int p3), .val (.ref b864), .val (.ref m880), .val (.int 0), .val (.int 0), .val (.int 1), .val (.ref b915), .val (.int (own_mx (0 : Int32) p0)), .val (.int (own_mx (own_mx (0 : Int32) p0) p1)), .val (.int (own_mx (own_mx (0 : Int32) p0) p1)), .val (.int 0)]) rfl (g_aload C X940 d0_247 rfl rfl (g_iloadN C X940 d0_249 rfl (g_virtualP (argsL := [(.int p2)]) (st := []) C X940 (wd hw 220 rfl) (wd hw 221 rfl) (nf_of C (wd hw 223 rfl) rfl rfl) (wd hw 223 rfl) (wd hw 222 rfl) (by decide) E938 (pay_of (W' := 0) (rGp l hw X940.ext b915 p2 (own_mx (own_mx (0 : Int32) p0) p1) (own_mx (own_mx (0 : Int32) p0) p1) E938 H938_highestCome H938_askedThrough) C.hZ (wd hw 224 rfl) (wd hw 71 rfl) (by decide) (by decide)) pd_27 rfl rfl _ rfl (Nat.le_of_eq rfl) d0_250 (by decide) (by decide) (fun T942 X942 => ?_)))))
          refine g_iload C X942 d0_253 rfl (g_icmpn (hI_ne _ _) C X942 d0_255 (fun q => absurd (by unfold own_gap; rw [if_neg c231_941]) q) (fun _ => ?_))
          refine g_iconst 1 C X942 d0_258 rfl (g_goto C X942 d0_259 ?_)
          exact g_retN C X942 (by simp) d0_263 (1 : Int32) rfl (by decide) (by decide) rfl
        · refine g_iloadN C X940 d0_234 rfl (g_iload C X940 d0_235 rfl (g_icmp (hI_gt _ _) C X940 d0_237 (fun _ => ?_) (fun q => absurd c231_941 q)))
          refine g_iconst 0 C X940 d0_244 rfl (g_istore C X940 d0_245 (l' := #[.val (.int p0), .val (.int p1), .val (.int p2), .val (.int p3), .val (.ref b864), .val (.ref m880), .val (.int 0), .val (.int 0), .val (.int 1), .val (.ref b915), .val (.int (own_mx (0 : Int32) p0)), .val (.int (own_mx (own_mx (0 : Int32) p0) p1)), .val (.int (own_mx (own_mx (0 : Int32) p0) p1)), .val (.int 0)]) rfl (g_aload C X940 d0_247 rfl rfl (g_iloadN C X940 d0_249 rfl (g_virtualP (argsL := [(.int p2)]) (st := []) C X940 (wd hw 220 rfl) (wd hw 221 rfl) (nf_of C (wd hw 223 rfl) rfl rfl) (wd hw 223 rfl) (wd hw 222 rfl) (by decide) E938 (pay_of (W' := 0) (rGp l hw X940.ext b915 p2 (own_mx (own_mx (0 : Int32) p0) p1) (own_mx (own_mx (0 : Int32) p0) p1) E938 H938_highestCome H938_askedThrough) C.hZ (wd hw 224 rfl) (wd hw 71 rfl) (by decide) (by decide)) pd_27 rfl rfl _ rfl (Nat.le_of_eq rfl) d0_250 (by decide) (by decide) (fun T943 X943 => ?_)))))
          refine g_iload C X943 d0_253 rfl (g_icmpn (hI_ne _ _) C X943 d0_255 (fun q => absurd (by unfold own_gap; rw [if_pos c231_941, if_pos c231_941]) q) (fun _ => ?_))
          refine g_iconst 1 C X943 d0_258 rfl (g_goto C X943 d0_259 ?_)
          exact g_retN C X943 (by simp) d0_263 (1 : Int32) rfl (by decide) (by decide) rfl
    · refine g_iconst 1 C X880 d0_113 rfl (g_goto C X880 d0_114 (g_istore C X880 d0_118 (l' := #[.val (.int p0), .val (.int p1), .val (.int p2), .val (.int p3), .val (.ref b864), .val (.ref m880), .val (.int 0), .val (.int 1), .unset, .unset, .unset, .unset, .unset, .unset]) rfl (g_iloadN C X880 d0_120 rfl (g_iconst 4 C X880 d0_121 rfl (g_iand C X880 d0_122 (g_if (h0_eq _) C X880 d0_123 (fun c123_944 => ?_) (fun c123_944 => ?_)))))))
      · refine g_iconst 0 C X880 d0_130 rfl (g_istore C X880 d0_131 (l' := #[.val (.int p0), .val (.int p1), .val (.int p2), .val (.int p3), .val (.ref b864), .val (.ref m880), .val (.int 0), .val (.int 1), .val (.int 0), .unset, .unset, .unset, .unset, .unset]) rfl (g_new C X880 (wd hw 69 rfl) (wd hw 70 rfl) (wd hw 71 rfl) d0_133 (by decide) (by decide) (fun T945 h945 b945 g_b945 n_b945 X945 E945 A945 D945 M945 => ?_)))
        have f946 := (Arv.ext V879_b864 E880)
        have lt947 : b864 < b945 := by rw [g_b945]; exact Arv.lt f946
        have lt948 : m880 < b945 := by rw [g_b945]; exact Exa.lt A880
        have F_held_b945 : Fld Z h945 b945 "com/example/halyard/halyard/gateway/HeldMessages" "held" "Ljava/util/NavigableMap;" .null := D945 (Or.inr (wd hw 96 rfl)) (ty := (.object "java/util/NavigableMap")) (by decide)
        have F_highestCome_b945 : Fld Z h945 b945 "com/example/halyard/halyard/gateway/HeldMessages" "highestCome" "I" (.int 0) := D945 (Or.inl (wd hw 103 rfl)) (ty := .int) (by decide)
        have F_bytes_b945 : Fld Z h945 b945 "com/example/halyard/halyard/gateway/HeldMessages" "bytes" "J" (.long 0) := D945 (Or.inl (wd hw 106 rfl)) (ty := .long) (by decide)
        have F_askedThrough_b945 : Fld Z h945 b945 "com/example/halyard/halyard/gateway/HeldMessages" "askedThrough" "I" (.int 0) := D945 (Or.inl (wd hw 226 rfl)) (ty := .int) (by decide)
        refine g_dup C X945 d0_136 rfl (g_special (argsL := []) (st := [(.ref b945)]) C X945 rfl (wd hw 72 rfl) (wd hw 73 rfl) (wd hw 74 rfl) (by decide) (pay_of (W' := 1) (rHi l hw X945.ext b945 A945 F_held_b945 F_highestCome_b945 F_bytes_b945 F_askedThrough_b945 n_b945) C.hZ (wd hw 74 rfl) (wd hw 71 rfl) (by decide) (by decide)) pd_10 rfl rfl _ rfl (Nat.le_of_eq rfl) d0_137 (by decide) (by decide) (fun T949 h949 v949 q949 X949 => ?_))
        obtain ⟨rfl, K949, tm, n_tm, g_tm, E949, H949_held, H949_highestCome, H949_bytes, H949_askedThrough, G949, T949_comparator, T949_root, T949_size, T949_modCount⟩ := q949
        have f951 := (Arv.ext f946 E945)
        have lt950 : b864 < tm := Nat.lt_of_lt_of_le (Arv.lt f951) g_tm
        have f953 := (Exa.ext E945 A880)
        have lt952 : m880 < tm := Nat.lt_of_lt_of_le (Exa.lt f953) g_tm
        have lt954 : b945 < tm := Nat.lt_of_lt_of_le (Exa.lt A945) g_tm
        show Goes p e below _ T949 (mkF m 140 #[.val (.int p0), .val (.int p1), .val (.int p2), .val (.int p3), .val (.ref b864), .val (.ref m880), .val (.int 0), .val (.int 1), .val (.int 0), .unset, .unset, .unset, .unset, .unset] [(.ref b945)])
        refine g_astore C X949 d0_140 rfl (l' := #[.val (.int p0), .val (.int p1), .val (.int p2), .val (.int p3), .val (.ref b864), .val (.ref m880), .val (.int 0), .val (.int 1), .val (.int 0), .val (.ref b945), .unset, .unset, .unset, .unset]) rfl (g_aload C X949 d0_142 rfl rfl (g_iloadN C X949 d0_144 rfl (g_aload C X949 d0_145 rfl rfl (g_iload C X949 d0_147 rfl ?_))))
        have f955 := (Exa.keep f953 K949)
        have f956 := (Fld.keep (Fld.ext E945 F880) K949 (ninS (Nat.ne_of_lt lt948) nin0))
        have f957 := (Arv.keep f951 K949 (ninS (Nat.ne_of_lt lt947) nin0))
        refine g_virtual (argsL := [(.int p0), (.ref m880), (.int 0)]) (st := []) C X949 (wd hw 97 rfl) (wd hw 98 rfl) (nf_of C (wd hw 100 rfl) rfl rfl) (wd hw 100 rfl) (wd hw 99 rfl) (by decide) E949 (pay_of (W' := 0) (rH10 l hw X949.ext b945 p0 m880 b864 tm k_b864 (0 : Int32) (0 : Int32) ca kc vc SH SC VC HB E949 H949_held H949_highestCome H949_bytes H949_askedThrough G949 T949_comparator T949_root T949_size T949_modCount f955 f956 f957 n_b945 n_tm (Nat.ne_of_lt lt954) (Nat.ne_of_lt lt948) (Nat.ne_of_lt lt952) (Nat.ne_of_lt lt947) (Nat.ne_of_lt lt950)) C.hZ (wd hw 101 rfl) (wd hw 71 rfl) (by decide) (by decide)) pd_26 rfl rfl _ rfl (Nat.le_of_eq rfl) d0_149 (by decide) (by decide) (fun T958 h958 v958 q958 X958 => ?_)
        obtain ⟨rfl, K958, pe, kp, vp, n_pe, g_pe, E958, H958_held, H958_highestCome, H958_bytes, H958_askedThrough, G958, T958_comparator, T958_root, T958_size, T958_modCount, N958, P958_key, P958_value, P958_left, P958_right, P958_parent, P958_color, I958, J958⟩ := q958
        have lt959 : b945 < pe := Nat.lt_of_lt_of_le (Exa.lt E949) g_pe
        have lt960 : tm < pe := Nat.lt_of_lt_of_le (Exa.lt G949) g_pe
        have lt961 : m880 < pe := Nat.lt_of_lt_of_le (Exa.lt f955) g_pe
        have lt962 : b864 < pe := Nat.lt_of_lt_of_le (Arv.lt f957) g_pe
        have nx963 : kp ≠ b945 := own_exne I958 E958 (by decide)
        show Goes p e below _ T958 (mkF m 152 #[.val (.int p0), .val (.int p1), .val (.int p2), .val (.int p3), .val (.ref b864), .val (.ref m880), .val (.int 0), .val (.int 1), .val (.int 0), .val (.ref b945), .unset, .unset, .unset, .unset] [])
        refine g_iload C X958 d0_152 rfl (g_if (h0_eq _) C X958 d0_154 (fun q => absurd q (by decide)) (fun _ => ?_))
        refine g_aload C X958 d0_157 rfl rfl (g_virtual (argsL := []) (st := []) C X958 (wd hw 227 rfl) (wd hw 228 rfl) (nf_of C (wd hw 230 rfl) rfl rfl) (wd hw 230 rfl) (wd hw 229 rfl) (by decide) E958 (pay_of (W' := 0) (rAs l hw X958.ext b945 tm (15 : Int64) (own_mx (0 : Int32) p0) (0 : Int32) E958 H958_held H958_highestCome H958_bytes H958_askedThrough n_b945) C.hZ (wd hw 231 rfl) (wd hw 71 rfl) (by decide) (by decide)) pd_10 rfl rfl _ rfl (Nat.le_of_eq rfl) d0_159 (by decide) (by decide) (fun T964 h964 v964 q964 X964 => ?_))
        obtain ⟨rfl, K964, E964, H964_held, H964_highestCome, H964_bytes, H964_askedThrough⟩ := q964
        show Goes p e below _ T964 (mkF m 162 #[.val (.int p0), .val (.int p1), .val (.int p2), .val (.int p3), .val (.ref b864), .val (.ref m880), .val (.int 0), .val (.int 1), .val (.int 0), .val (.ref b945), .unset, .unset, .unset, .unset] [])
        refine g_aload C X964 d0_162 rfl rfl (g_iloadN C X964 d0_164 rfl (g_aload C X964 d0_165 rfl rfl (g_iload C X964 d0_167 rfl (g_ifn (h0_ne _) C X964 d0_169 (fun q => absurd (by decide) q) (fun _ => ?_)))))
        refine g_iconst 1 C X964 d0_172 rfl (g_goto C X964 d0_173 ?_)
        have f965 := (Exa.keep G958 K964)
        have f966 := (Fld.keep T958_comparator K964 (ninS (Nat.ne_of_gt lt954) nin0))
        have f967 := (Fld.keep T958_root K964 (ninS (Nat.ne_of_gt lt954) nin0))
        have f968 := (Fld.keep T958_size K964 (ninS (Nat.ne_of_gt lt954) nin0))
        have f969 := (Fld.keep T958_modCount K964 (ninS (Nat.ne_of_gt lt954) nin0))
        have f970 := (Exa.keep N958 K964)
        have f971 := (Fld.keep P958_key K964 (ninS (Nat.ne_of_gt lt959) nin0))
        have f972 := (Fld.keep P958_value K964 (ninS (Nat.ne_of_gt lt959) nin0))
        have f973 := (Fld.keep P958_left K964 (ninS (Nat.ne_of_gt lt959) nin0))
        have f974 := (Fld.keep P958_right K964 (ninS (Nat.ne_of_gt lt959) nin0))
        have f975 := (Fld.keep P958_parent K964 (ninS (Nat.ne_of_gt lt959) nin0))
        have f976 := (Fld.keep P958_color K964 (ninS (Nat.ne_of_gt lt959) nin0))
        have f977 := (Exa.keep I958 K964)
        have f978 := (Fld.keep J958 K964 (ninS nx963 nin0))
        have f979 := (Exa.keep (Exa.keep f955 K958) K964)
        have f980 := (Fld.keep (Fld.keep f956 K958 (ninS (Nat.ne_of_lt lt948) (ninS (Nat.ne_of_lt lt952) nin0))) K964 (ninS (Nat.ne_of_lt lt948) nin0))
        have f981 := (Arv.keep (Arv.keep f957 K958 (ninS (Nat.ne_of_lt lt947) (ninS (Nat.ne_of_lt lt950) nin0))) K964 (ninS (Nat.ne_of_lt lt947) nin0))
        refine g_virtual (argsL := [(.int p1), (.ref m880), (.int 1)]) (st := []) C X964 (wd hw 97 rfl) (wd hw 98 rfl) (nf_of C (wd hw 100 rfl) rfl rfl) (wd hw 100 rfl) (wd hw 99 rfl) (by decide) E964 (pay_of (W' := 0) (rH21 l hw X964.ext b945 p1 m880 b864 tm pe kp vp k_b864 (own_mx (0 : Int32) p0) (own_mx (0 : Int32) p0) p0 ca kc vc SH SC VC HB E964 H964_held H964_highestCome H964_bytes H964_askedThrough f965 f966 f967 f968 f969 f970 f971 f972 f973 f974 f975 f976 f977 f978 f979 f980 f981 n_b945 n_tm (Nat.ne_of_lt lt954) (Nat.ne_of_lt lt948) (Nat.ne_of_lt lt952) (Nat.ne_of_lt lt947) (Nat.ne_of_lt lt950) n_pe (Nat.ne_of_lt lt959) (Nat.ne_of_lt lt960) (Nat.ne_of_lt lt961) (Nat.ne_of_lt lt962)) C.hZ (wd hw 101 rfl) (wd hw 71 rfl) (by decide) (by decide)) pd_26 rfl rfl _ rfl (Nat.le_of_eq rfl) d0_177 (by decide) (by decide) (fun T982 h982 v982 q982 X982 => ?_)
        obtain ⟨rfl, K982, E982, F982, G982⟩ := q982
        show Goes p e below _ T982 (mkF m 180 #[.val (.int p0), .val (.int p1), .val (.int p2), .val (.int p3), .val (.ref b864), .val (.ref m880), .val (.int 0), .val (.int 1), .val (.int 0), .val (.ref b945), .unset, .unset, .unset, .unset] [])
        refine g_iload C X982 d0_180 rfl (g_if (h0_eq _) C X982 d0_182 (fun _ => ?_) (fun q => absurd (by decide) q))
        refine g_iconst 0 C X982 d0_190 rfl (g_iloadN C X982 d0_191 rfl (g_staticP (argsL := [(.int 0), (.int p0)]) (st := []) C X982 (wd hw 219 rfl) (wd hw 9 rfl) (wd hw 10 rfl) (wd hw 11 rfl) (by decide) (pay_of (W' := 0) (rMx l hw X982.ext (0 : Int32) p0) C.hZ (wd hw 11 rfl) (wd hw 10 rfl) (by decide) (by decide)) pd_7 rfl rfl _ rfl (Nat.le_of_eq rfl) d0_192 (by decide) (by decide) (fun T983 X983 => ?_)))
        refine g_istore C X983 d0_195 (l' := #[.val (.int p0), .val (.int p1), .val (.int p2), .val (.int p3), .val (.ref b864), .val (.ref m880), .val (.int 0), .val (.int 1), .val (.int 0), .val (.ref b945), .val (.int (own_mx (0 : Int32) p0)), .unset, .unset, .unset]) rfl (g_iload C X983 d0_197 rfl (g_iloadN C X983 d0_199 rfl (g_staticP (argsL := [(.int (own_mx (0 : Int32) p0)), (.int p1)]) (st := []) C X983 (wd hw 219 rfl) (wd hw 9 rfl) (wd hw 10 rfl) (wd hw 11 rfl) (by decide) (pay_of (W' := 0) (rMx l hw X983.ext (own_mx (0 : Int32) p0) p1) C.hZ (wd hw 11 rfl) (wd hw 10 rfl) (by decide) (by decide)) pd_7 rfl rfl _ rfl (Nat.le_of_eq rfl) d0_200 (by decide) (by decide) (fun T984 X984 => ?_))))
        refine g_istore C X984 d0_203 (l' := #[.val (.int p0), .val (.int p1), .val (.int p2), .val (.int p3), .val (.ref b864), .val (.ref m880), .val (.int 0), .val (.int 1), .val (.int 0), .val (.ref b945), .val (.int (own_mx (0 : Int32) p0)), .val (.int (own_mx (own_mx (0 : Int32) p0) p1)), .unset, .unset]) rfl (g_iload C X984 d0_205 rfl (g_if (h0_eq _) C X984 d0_207 (fun _ => ?_) (fun q => absurd (by decide) q)))
        refine g_iload C X984 d0_215 rfl (g_if (h0_eq _) C X984 d0_217 (fun q => absurd q (by decide)) (fun _ => ?_))
        refine g_iload C X984 d0_220 rfl (g_goto C X984 d0_222 (g_istore C X984 d0_226 (l' := #[.val (.int p0), .val (.int p1), .val (.int p2), .val (.int p3), .val (.ref b864), .val (.ref m880), .val (.int 0), .val (.int 1), .val (.int 0), .val (.ref b945), .val (.int (own_mx (0 : Int32) p0)), .val (.int (own_mx (own_mx (0 : Int32) p0) p1)), .val (.int (own_mx (0 : Int32) p0)), .unset]) rfl (g_iloadN C X984 d0_228 rfl (g_iload C X984 d0_229 rfl (g_icmpn (hI_le _ _) C X984 d0_231 (fun c231_985 => ?_) (fun c231_985 => ?_))))))
        · refine g_iconst 0 C X984 d0_244 rfl (g_istore C X984 d0_245 (l' := #[.val (.int p0), .val (.int p1), .val (.int p2), .val (.int p3), .val (.ref b864), .val (.ref m880), .val (.int 0), .val (.int 1), .val (.int 0), .val (.ref b945), .val (.int (own_mx (0 : Int32) p0)), .val (.int (own_mx (own_mx (0 : Int32) p0) p1)), .val (.int (own_mx (0 : Int32) p0)), .val (.int 0)]) rfl (g_aload C X984 d0_247 rfl rfl (g_iloadN C X984 d0_249 rfl (g_virtualP (argsL := [(.int p2)]) (st := []) C X984 (wd hw 220 rfl) (wd hw 221 rfl) (nf_of C (wd hw 223 rfl) rfl rfl) (wd hw 223 rfl) (wd hw 222 rfl) (by decide) E982 (pay_of (W' := 0) (rGp l hw X984.ext b945 p2 (own_mx (own_mx (0 : Int32) p0) p1) (own_mx (0 : Int32) p0) E982 F982 G982) C.hZ (wd hw 224 rfl) (wd hw 71 rfl) (by decide) (by decide)) pd_27 rfl rfl _ rfl (Nat.le_of_eq rfl) d0_250 (by decide) (by decide) (fun T986 X986 => ?_)))))
          refine g_iload C X986 d0_253 rfl (g_icmpn (hI_ne _ _) C X986 d0_255 (fun q => absurd (by unfold own_gap; rw [if_neg c231_985]) q) (fun _ => ?_))
          refine g_iconst 1 C X986 d0_258 rfl (g_goto C X986 d0_259 ?_)
          exact g_retN C X986 (by simp) d0_263 (1 : Int32) rfl (by decide) (by decide) rfl
        · refine g_iloadN C X984 d0_234 rfl (g_iload C X984 d0_235 rfl (g_icmp (hI_gt _ _) C X984 d0_237 (fun c237_987 => ?_) (fun c237_987 => ?_)))
          · refine g_iconst 0 C X984 d0_244 rfl (g_istore C X984 d0_245 (l' := #[.val (.int p0), .val (.int p1), .val (.int p2), .val (.int p3), .val (.ref b864), .val (.ref m880), .val (.int 0), .val (.int 1), .val (.int 0), .val (.ref b945), .val (.int (own_mx (0 : Int32) p0)), .val (.int (own_mx (own_mx (0 : Int32) p0) p1)), .val (.int (own_mx (0 : Int32) p0)), .val (.int 0)]) rfl (g_aload C X984 d0_247 rfl rfl (g_iloadN C X984 d0_249 rfl (g_virtualP (argsL := [(.int p2)]) (st := []) C X984 (wd hw 220 rfl) (wd hw 221 rfl) (nf_of C (wd hw 223 rfl) rfl rfl) (wd hw 223 rfl) (wd hw 222 rfl) (by decide) E982 (pay_of (W' := 0) (rGp l hw X984.ext b945 p2 (own_mx (own_mx (0 : Int32) p0) p1) (own_mx (0 : Int32) p0) E982 F982 G982) C.hZ (wd hw 224 rfl) (wd hw 71 rfl) (by decide) (by decide)) pd_27 rfl rfl _ rfl (Nat.le_of_eq rfl) d0_250 (by decide) (by decide) (fun T988 X988 => ?_)))))
            refine g_iload C X988 d0_253 rfl (g_icmpn (hI_ne _ _) C X988 d0_255 (fun q => absurd (by unfold own_gap; rw [if_pos c231_985, if_pos c237_987]) q) (fun _ => ?_))
            refine g_iconst 1 C X988 d0_258 rfl (g_goto C X988 d0_259 ?_)
            exact g_retN C X988 (by simp) d0_263 (1 : Int32) rfl (by decide) (by decide) rfl
          · refine g_iconst 1 C X984 d0_240 rfl (g_goto C X984 d0_241 (g_istore C X984 d0_245 (l' := #[.val (.int p0), .val (.int p1), .val (.int p2), .val (.int p3), .val (.ref b864), .val (.ref m880), .val (.int 0), .val (.int 1), .val (.int 0), .val (.ref b945), .val (.int (own_mx (0 : Int32) p0)), .val (.int (own_mx (own_mx (0 : Int32) p0) p1)), .val (.int (own_mx (0 : Int32) p0)), .val (.int 1)]) rfl (g_aload C X984 d0_247 rfl rfl (g_iloadN C X984 d0_249 rfl (g_virtualP (argsL := [(.int p2)]) (st := []) C X984 (wd hw 220 rfl) (wd hw 221 rfl) (nf_of C (wd hw 223 rfl) rfl rfl) (wd hw 223 rfl) (wd hw 222 rfl) (by decide) E982 (pay_of (W' := 0) (rGp l hw X984.ext b945 p2 (own_mx (own_mx (0 : Int32) p0) p1) (own_mx (0 : Int32) p0) E982 F982 G982) C.hZ (wd hw 224 rfl) (wd hw 71 rfl) (by decide) (by decide)) pd_27 rfl rfl _ rfl (Nat.le_of_eq rfl) d0_250 (by decide) (by decide) (fun T989 X989 => ?_))))))
            refine g_iload C X989 d0_253 rfl (g_icmpn (hI_ne _ _) C X989 d0_255 (fun q => absurd (by unfold own_gap; rw [if_pos c231_985, if_neg c237_987]) q) (fun _ => ?_))
            refine g_iconst 1 C X989 d0_258 rfl (g_goto C X989 d0_259 ?_)
            exact g_retN C X989 (by simp) d0_263 (1 : Int32) rfl (by decide) (by decide) rfl
      · refine g_iconst 1 C X880 d0_126 rfl (g_goto C X880 d0_127 (g_istore C X880 d0_131 (l' := #[.val (.int p0), .val (.int p1), .val (.int p2), .val (.int p3), .val (.ref b864), .val (.ref m880), .val (.int 0), .val (.int 1), .val (.int 1), .unset, .unset, .unset, .unset, .unset]) rfl (g_new C X880 (wd hw 69 rfl) (wd hw 70 rfl) (wd hw 71 rfl) d0_133 (by decide) (by decide) (fun T990 h990 b990 g_b990 n_b990 X990 E990 A990 D990 M990 => ?_))))
        have f991 := (Arv.ext V879_b864 E880)
        have lt992 : b864 < b990 := by rw [g_b990]; exact Arv.lt f991
        have lt993 : m880 < b990 := by rw [g_b990]; exact Exa.lt A880
        have F_held_b990 : Fld Z h990 b990 "com/example/halyard/halyard/gateway/HeldMessages" "held" "Ljava/util/NavigableMap;" .null := D990 (Or.inr (wd hw 96 rfl)) (ty := (.object "java/util/NavigableMap")) (by decide)
        have F_highestCome_b990 : Fld Z h990 b990 "com/example/halyard/halyard/gateway/HeldMessages" "highestCome" "I" (.int 0) := D990 (Or.inl (wd hw 103 rfl)) (ty := .int) (by decide)
        have F_bytes_b990 : Fld Z h990 b990 "com/example/halyard/halyard/gateway/HeldMessages" "bytes" "J" (.long 0) := D990 (Or.inl (wd hw 106 rfl)) (ty := .long) (by decide)
        have F_askedThrough_b990 : Fld Z h990 b990 "com/example/halyard/halyard/gateway/HeldMessages" "askedThrough" "I" (.int 0) := D990 (Or.inl (wd hw 226 rfl)) (ty := .int) (by decide)
        refine g_dup C X990 d0_136 rfl (g_special (argsL := []) (st := [(.ref b990)]) C X990 rfl (wd hw 72 rfl) (wd hw 73 rfl) (wd hw 74 rfl) (by decide) (pay_of (W' := 1) (rHi l hw X990.ext b990 A990 F_held_b990 F_highestCome_b990 F_bytes_b990 F_askedThrough_b990 n_b990) C.hZ (wd hw 74 rfl) (wd hw 71 rfl) (by decide) (by decide)) pd_10 rfl rfl _ rfl (Nat.le_of_eq rfl) d0_137 (by decide) (by decide) (fun T994 h994 v994 q994 X994 => ?_))
        obtain ⟨rfl, K994, tm, n_tm, g_tm, E994, H994_held, H994_highestCome, H994_bytes, H994_askedThrough, G994, T994_comparator, T994_root, T994_size, T994_modCount⟩ := q994
        have f996 := (Arv.ext f991 E990)
        have lt995 : b864 < tm := Nat.lt_of_lt_of_le (Arv.lt f996) g_tm
        have f998 := (Exa.ext E990 A880)
        have lt997 : m880 < tm := Nat.lt_of_lt_of_le (Exa.lt f998) g_tm
        have lt999 : b990 < tm := Nat.lt_of_lt_of_le (Exa.lt A990) g_tm
        show Goes p e below _ T994 (mkF m 140 #[.val (.int p0), .val (.int p1), .val (.int p2), .val (.int p3), .val (.ref b864), .val (.ref m880), .val (.int 0), .val (.int 1), .val (.int 1), .unset, .unset, .unset, .unset, .unset] [(.ref b990)])
        refine g_astore C X994 d0_140 rfl (l' := #[.val (.int p0), .val (.int p1), .val (.int p2), .val (.int p3), .val (.ref b864), .val (.ref m880), .val (.int 0), .val (.int 1), .val (.int 1), .val (.ref b990), .unset, .unset, .unset, .unset]) rfl (g_aload C X994 d0_142 rfl rfl (g_iloadN C X994 d0_144 rfl (g_aload C X994 d0_145 rfl rfl (g_iload C X994 d0_147 rfl ?_))))
        have f1000 := (Exa.keep f998 K994)
        have f1001 := (Fld.keep (Fld.ext E990 F880) K994 (ninS (Nat.ne_of_lt lt993) nin0))
        have f1002 := (Arv.keep f996 K994 (ninS (Nat.ne_of_lt lt992) nin0))
        refine g_virtual (argsL := [(.int p0), (.ref m880), (.int 0)]) (st := []) C X994 (wd hw 97 rfl) (wd hw 98 rfl) (nf_of C (wd hw 100 rfl) rfl rfl) (wd hw 100 rfl) (wd hw 99 rfl) (by decide) E994 (pay_of (W' := 0) (rH10 l hw X994.ext b990 p0 m880 b864 tm k_b864 (0 : Int32) (0 : Int32) ca kc vc SH SC VC HB E994 H994_held H994_highestCome H994_bytes H994_askedThrough G994 T994_comparator T994_root T994_size T994_modCount f1000 f1001 f1002 n_b990 n_tm (Nat.ne_of_lt lt999) (Nat.ne_of_lt lt993) (Nat.ne_of_lt lt997) (Nat.ne_of_lt lt992) (Nat.ne_of_lt lt995)) C.hZ (wd hw 101 rfl) (wd hw 71 rfl) (by decide) (by decide)) pd_26 rfl rfl _ rfl (Nat.le_of_eq rfl) d0_149 (by decide) (by decide) (fun T1003 h1003 v1003 q1003 X1003 => ?_)
        obtain ⟨rfl, K1003, pe, kp, vp, n_pe, g_pe, E1003, H1003_held, H1003_highestCome, H1003_bytes, H1003_askedThrough, G1003, T1003_comparator, T1003_root, T1003_size, T1003_modCount, N1003, P1003_key, P1003_value, P1003_left, P1003_right, P1003_parent, P1003_color, I1003, J1003⟩ := q1003
        have lt1004 : b990 < pe := Nat.lt_of_lt_of_le (Exa.lt E994) g_pe
        have lt1005 : tm < pe := Nat.lt_of_lt_of_le (Exa.lt G994) g_pe
        have lt1006 : m880 < pe := Nat.lt_of_lt_of_le (Exa.lt f1000) g_pe
        have lt1007 : b864 < pe := Nat.lt_of_lt_of_le (Arv.lt f1002) g_pe
        have nx1008 : kp ≠ b990 := own_exne I1003 E1003 (by decide)
        show Goes p e below _ T1003 (mkF m 152 #[.val (.int p0), .val (.int p1), .val (.int p2), .val (.int p3), .val (.ref b864), .val (.ref m880), .val (.int 0), .val (.int 1), .val (.int 1), .val (.ref b990), .unset, .unset, .unset, .unset] [])
        refine g_iload C X1003 d0_152 rfl (g_if (h0_eq _) C X1003 d0_154 (fun q => absurd q (by decide)) (fun _ => ?_))
        refine g_aload C X1003 d0_157 rfl rfl (g_virtual (argsL := []) (st := []) C X1003 (wd hw 227 rfl) (wd hw 228 rfl) (nf_of C (wd hw 230 rfl) rfl rfl) (wd hw 230 rfl) (wd hw 229 rfl) (by decide) E1003 (pay_of (W' := 0) (rAs l hw X1003.ext b990 tm (15 : Int64) (own_mx (0 : Int32) p0) (0 : Int32) E1003 H1003_held H1003_highestCome H1003_bytes H1003_askedThrough n_b990) C.hZ (wd hw 231 rfl) (wd hw 71 rfl) (by decide) (by decide)) pd_10 rfl rfl _ rfl (Nat.le_of_eq rfl) d0_159 (by decide) (by decide) (fun T1009 h1009 v1009 q1009 X1009 => ?_))
        obtain ⟨rfl, K1009, E1009, H1009_held, H1009_highestCome, H1009_bytes, H1009_askedThrough⟩ := q1009
        show Goes p e below _ T1009 (mkF m 162 #[.val (.int p0), .val (.int p1), .val (.int p2), .val (.int p3), .val (.ref b864), .val (.ref m880), .val (.int 0), .val (.int 1), .val (.int 1), .val (.ref b990), .unset, .unset, .unset, .unset] [])
        refine g_aload C X1009 d0_162 rfl rfl (g_iloadN C X1009 d0_164 rfl (g_aload C X1009 d0_165 rfl rfl (g_iload C X1009 d0_167 rfl (g_ifn (h0_ne _) C X1009 d0_169 (fun q => absurd (by decide) q) (fun _ => ?_)))))
        refine g_iconst 1 C X1009 d0_172 rfl (g_goto C X1009 d0_173 ?_)
        have f1010 := (Exa.keep G1003 K1009)
        have f1011 := (Fld.keep T1003_comparator K1009 (ninS (Nat.ne_of_gt lt999) nin0))
        have f1012 := (Fld.keep T1003_root K1009 (ninS (Nat.ne_of_gt lt999) nin0))
        have f1013 := (Fld.keep T1003_size K1009 (ninS (Nat.ne_of_gt lt999) nin0))
        have f1014 := (Fld.keep T1003_modCount K1009 (ninS (Nat.ne_of_gt lt999) nin0))
        have f1015 := (Exa.keep N1003 K1009)
        have f1016 := (Fld.keep P1003_key K1009 (ninS (Nat.ne_of_gt lt1004) nin0))
        have f1017 := (Fld.keep P1003_value K1009 (ninS (Nat.ne_of_gt lt1004) nin0))
        have f1018 := (Fld.keep P1003_left K1009 (ninS (Nat.ne_of_gt lt1004) nin0))
        have f1019 := (Fld.keep P1003_right K1009 (ninS (Nat.ne_of_gt lt1004) nin0))
        have f1020 := (Fld.keep P1003_parent K1009 (ninS (Nat.ne_of_gt lt1004) nin0))
        have f1021 := (Fld.keep P1003_color K1009 (ninS (Nat.ne_of_gt lt1004) nin0))
        have f1022 := (Exa.keep I1003 K1009)
        have f1023 := (Fld.keep J1003 K1009 (ninS nx1008 nin0))
        have f1024 := (Exa.keep (Exa.keep f1000 K1003) K1009)
        have f1025 := (Fld.keep (Fld.keep f1001 K1003 (ninS (Nat.ne_of_lt lt993) (ninS (Nat.ne_of_lt lt997) nin0))) K1009 (ninS (Nat.ne_of_lt lt993) nin0))
        have f1026 := (Arv.keep (Arv.keep f1002 K1003 (ninS (Nat.ne_of_lt lt992) (ninS (Nat.ne_of_lt lt995) nin0))) K1009 (ninS (Nat.ne_of_lt lt992) nin0))
        refine g_virtual (argsL := [(.int p1), (.ref m880), (.int 1)]) (st := []) C X1009 (wd hw 97 rfl) (wd hw 98 rfl) (nf_of C (wd hw 100 rfl) rfl rfl) (wd hw 100 rfl) (wd hw 99 rfl) (by decide) E1009 (pay_of (W' := 0) (rH21 l hw X1009.ext b990 p1 m880 b864 tm pe kp vp k_b864 (own_mx (0 : Int32) p0) (own_mx (0 : Int32) p0) p0 ca kc vc SH SC VC HB E1009 H1009_held H1009_highestCome H1009_bytes H1009_askedThrough f1010 f1011 f1012 f1013 f1014 f1015 f1016 f1017 f1018 f1019 f1020 f1021 f1022 f1023 f1024 f1025 f1026 n_b990 n_tm (Nat.ne_of_lt lt999) (Nat.ne_of_lt lt993) (Nat.ne_of_lt lt997) (Nat.ne_of_lt lt992) (Nat.ne_of_lt lt995) n_pe (Nat.ne_of_lt lt1004) (Nat.ne_of_lt lt1005) (Nat.ne_of_lt lt1006) (Nat.ne_of_lt lt1007)) C.hZ (wd hw 101 rfl) (wd hw 71 rfl) (by decide) (by decide)) pd_26 rfl rfl _ rfl (Nat.le_of_eq rfl) d0_177 (by decide) (by decide) (fun T1027 h1027 v1027 q1027 X1027 => ?_)
        obtain ⟨rfl, K1027, E1027, F1027, G1027⟩ := q1027
        show Goes p e below _ T1027 (mkF m 180 #[.val (.int p0), .val (.int p1), .val (.int p2), .val (.int p3), .val (.ref b864), .val (.ref m880), .val (.int 0), .val (.int 1), .val (.int 1), .val (.ref b990), .unset, .unset, .unset, .unset] [])
        refine g_iload C X1027 d0_180 rfl (g_if (h0_eq _) C X1027 d0_182 (fun q => absurd q (by decide)) (fun _ => ?_))
        refine g_aload C X1027 d0_185 rfl rfl (g_virtual (argsL := []) (st := []) C X1027 (wd hw 227 rfl) (wd hw 228 rfl) (nf_of C (wd hw 230 rfl) rfl rfl) (wd hw 230 rfl) (wd hw 229 rfl) (by decide) E1027 (pay_of (W' := 0) (rAt l hw X1027.ext b990 (own_mx (own_mx (0 : Int32) p0) p1) (own_mx (0 : Int32) p0) E1027 F1027 G1027 n_b990) C.hZ (wd hw 231 rfl) (wd hw 71 rfl) (by decide) (by decide)) pd_10 rfl rfl _ rfl (Nat.le_of_eq rfl) d0_187 (by decide) (by decide) (fun T1028 h1028 v1028 q1028 X1028 => ?_))
        obtain ⟨rfl, K1028, E1028, H1028_highestCome, H1028_askedThrough⟩ := q1028
        show Goes p e below _ T1028 (mkF m 190 #[.val (.int p0), .val (.int p1), .val (.int p2), .val (.int p3), .val (.ref b864), .val (.ref m880), .val (.int 0), .val (.int 1), .val (.int 1), .val (.ref b990), .unset, .unset, .unset, .unset] [])
        refine g_iconst 0 C X1028 d0_190 rfl (g_iloadN C X1028 d0_191 rfl (g_staticP (argsL := [(.int 0), (.int p0)]) (st := []) C X1028 (wd hw 219 rfl) (wd hw 9 rfl) (wd hw 10 rfl) (wd hw 11 rfl) (by decide) (pay_of (W' := 0) (rMx l hw X1028.ext (0 : Int32) p0) C.hZ (wd hw 11 rfl) (wd hw 10 rfl) (by decide) (by decide)) pd_7 rfl rfl _ rfl (Nat.le_of_eq rfl) d0_192 (by decide) (by decide) (fun T1029 X1029 => ?_)))
        refine g_istore C X1029 d0_195 (l' := #[.val (.int p0), .val (.int p1), .val (.int p2), .val (.int p3), .val (.ref b864), .val (.ref m880), .val (.int 0), .val (.int 1), .val (.int 1), .val (.ref b990), .val (.int (own_mx (0 : Int32) p0)), .unset, .unset, .unset]) rfl (g_iload C X1029 d0_197 rfl (g_iloadN C X1029 d0_199 rfl (g_staticP (argsL := [(.int (own_mx (0 : Int32) p0)), (.int p1)]) (st := []) C X1029 (wd hw 219 rfl) (wd hw 9 rfl) (wd hw 10 rfl) (wd hw 11 rfl) (by decide) (pay_of (W' := 0) (rMx l hw X1029.ext (own_mx (0 : Int32) p0) p1) C.hZ (wd hw 11 rfl) (wd hw 10 rfl) (by decide) (by decide)) pd_7 rfl rfl _ rfl (Nat.le_of_eq rfl) d0_200 (by decide) (by decide) (fun T1030 X1030 => ?_))))
        refine g_istore C X1030 d0_203 (l' := #[.val (.int p0), .val (.int p1), .val (.int p2), .val (.int p3), .val (.ref b864), .val (.ref m880), .val (.int 0), .val (.int 1), .val (.int 1), .val (.ref b990), .val (.int (own_mx (0 : Int32) p0)), .val (.int (own_mx (own_mx (0 : Int32) p0) p1)), .unset, .unset]) rfl (g_iload C X1030 d0_205 rfl (g_if (h0_eq _) C X1030 d0_207 (fun q => absurd q (by decide)) (fun _ => ?_)))
        refine g_iload C X1030 d0_210 rfl (g_goto C X1030 d0_212 (g_istore C X1030 d0_226 (l' := #[.val (.int p0), .val (.int p1), .val (.int p2), .val (.int p3), .val (.ref b864), .val (.ref m880), .val (.int 0), .val (.int 1), .val (.int 1), .val (.ref b990), .val (.int (own_mx (0 : Int32) p0)), .val (.int (own_mx (own_mx (0 : Int32) p0) p1)), .val (.int (own_mx (own_mx (0 : Int32) p0) p1)), .unset]) rfl (g_iloadN C X1030 d0_228 rfl (g_iload C X1030 d0_229 rfl (g_icmpn (hI_le _ _) C X1030 d0_231 (fun c231_1031 => ?_) (fun c231_1031 => ?_))))))
        · refine g_iconst 0 C X1030 d0_244 rfl (g_istore C X1030 d0_245 (l' := #[.val (.int p0), .val (.int p1), .val (.int p2), .val (.int p3), .val (.ref b864), .val (.ref m880), .val (.int 0), .val (.int 1), .val (.int 1), .val (.ref b990), .val (.int (own_mx (0 : Int32) p0)), .val (.int (own_mx (own_mx (0 : Int32) p0) p1)), .val (.int (own_mx (own_mx (0 : Int32) p0) p1)), .val (.int 0)]) rfl (g_aload C X1030 d0_247 rfl rfl (g_iloadN C X1030 d0_249 rfl (g_virtualP (argsL := [(.int p2)]) (st := []) C X1030 (wd hw 220 rfl) (wd hw 221 rfl) (nf_of C (wd hw 223 rfl) rfl rfl) (wd hw 223 rfl) (wd hw 222 rfl) (by decide) E1028 (pay_of (W' := 0) (rGp l hw X1030.ext b990 p2 (own_mx (own_mx (0 : Int32) p0) p1) (own_mx (own_mx (0 : Int32) p0) p1) E1028 H1028_highestCome H1028_askedThrough) C.hZ (wd hw 224 rfl) (wd hw 71 rfl) (by decide) (by decide)) pd_27 rfl rfl _ rfl (Nat.le_of_eq rfl) d0_250 (by decide) (by decide) (fun T1032 X1032 => ?_)))))
          refine g_iload C X1032 d0_253 rfl (g_icmpn (hI_ne _ _) C X1032 d0_255 (fun q => absurd (by unfold own_gap; rw [if_neg c231_1031]) q) (fun _ => ?_))
          refine g_iconst 1 C X1032 d0_258 rfl (g_goto C X1032 d0_259 ?_)
          exact g_retN C X1032 (by simp) d0_263 (1 : Int32) rfl (by decide) (by decide) rfl
        · refine g_iloadN C X1030 d0_234 rfl (g_iload C X1030 d0_235 rfl (g_icmp (hI_gt _ _) C X1030 d0_237 (fun _ => ?_) (fun q => absurd c231_1031 q)))
          refine g_iconst 0 C X1030 d0_244 rfl (g_istore C X1030 d0_245 (l' := #[.val (.int p0), .val (.int p1), .val (.int p2), .val (.int p3), .val (.ref b864), .val (.ref m880), .val (.int 0), .val (.int 1), .val (.int 1), .val (.ref b990), .val (.int (own_mx (0 : Int32) p0)), .val (.int (own_mx (own_mx (0 : Int32) p0) p1)), .val (.int (own_mx (own_mx (0 : Int32) p0) p1)), .val (.int 0)]) rfl (g_aload C X1030 d0_247 rfl rfl (g_iloadN C X1030 d0_249 rfl (g_virtualP (argsL := [(.int p2)]) (st := []) C X1030 (wd hw 220 rfl) (wd hw 221 rfl) (nf_of C (wd hw 223 rfl) rfl rfl) (wd hw 223 rfl) (wd hw 222 rfl) (by decide) E1028 (pay_of (W' := 0) (rGp l hw X1030.ext b990 p2 (own_mx (own_mx (0 : Int32) p0) p1) (own_mx (own_mx (0 : Int32) p0) p1) E1028 H1028_highestCome H1028_askedThrough) C.hZ (wd hw 224 rfl) (wd hw 71 rfl) (by decide) (by decide)) pd_27 rfl rfl _ rfl (Nat.le_of_eq rfl) d0_250 (by decide) (by decide) (fun T1033 X1033 => ?_)))))
          refine g_iload C X1033 d0_253 rfl (g_icmpn (hI_ne _ _) C X1033 d0_255 (fun q => absurd (by unfold own_gap; rw [if_pos c231_1031, if_pos c231_1031]) q) (fun _ => ?_))
          refine g_iconst 1 C X1033 d0_258 rfl (g_goto C X1033 d0_259 ?_)
          exact g_retN C X1033 (by simp) d0_263 (1 : Int32) rfl (by decide) (by decide) rfl
  · refine g_iconst 1 C X880 d0_100 rfl (g_goto C X880 d0_101 (g_istore C X880 d0_105 (l' := #[.val (.int p0), .val (.int p1), .val (.int p2), .val (.int p3), .val (.ref b864), .val (.ref m880), .val (.int 1), .unset, .unset, .unset, .unset, .unset, .unset, .unset]) rfl (g_iloadN C X880 d0_107 rfl (g_iconst 2 C X880 d0_108 rfl (g_iand C X880 d0_109 (g_if (h0_eq _) C X880 d0_110 (fun c110_1034 => ?_) (fun c110_1034 => ?_)))))))
    · refine g_iconst 0 C X880 d0_117 rfl (g_istore C X880 d0_118 (l' := #[.val (.int p0), .val (.int p1), .val (.int p2), .val (.int p3), .val (.ref b864), .val (.ref m880), .val (.int 1), .val (.int 0), .unset, .unset, .unset, .unset, .unset, .unset]) rfl (g_iloadN C X880 d0_120 rfl (g_iconst 4 C X880 d0_121 rfl (g_iand C X880 d0_122 (g_if (h0_eq _) C X880 d0_123 (fun c123_1035 => ?_) (fun c123_1035 => ?_))))))
      · refine g_iconst 0 C X880 d0_130 rfl (g_istore C X880 d0_131 (l' := #[.val (.int p0), .val (.int p1), .val (.int p2), .val (.int p3), .val (.ref b864), .val (.ref m880), .val (.int 1), .val (.int 0), .val (.int 0), .unset, .unset, .unset, .unset, .unset]) rfl (g_new C X880 (wd hw 69 rfl) (wd hw 70 rfl) (wd hw 71 rfl) d0_133 (by decide) (by decide) (fun T1036 h1036 b1036 g_b1036 n_b1036 X1036 E1036 A1036 D1036 M1036 => ?_)))
        have f1037 := (Arv.ext V879_b864 E880)
        have lt1038 : b864 < b1036 := by rw [g_b1036]; exact Arv.lt f1037
        have lt1039 : m880 < b1036 := by rw [g_b1036]; exact Exa.lt A880
        have F_held_b1036 : Fld Z h1036 b1036 "com/example/halyard/halyard/gateway/HeldMessages" "held" "Ljava/util/NavigableMap;" .null := D1036 (Or.inr (wd hw 96 rfl)) (ty := (.object "java/util/NavigableMap")) (by decide)
        have F_highestCome_b1036 : Fld Z h1036 b1036 "com/example/halyard/halyard/gateway/HeldMessages" "highestCome" "I" (.int 0) := D1036 (Or.inl (wd hw 103 rfl)) (ty := .int) (by decide)
        have F_bytes_b1036 : Fld Z h1036 b1036 "com/example/halyard/halyard/gateway/HeldMessages" "bytes" "J" (.long 0) := D1036 (Or.inl (wd hw 106 rfl)) (ty := .long) (by decide)
        have F_askedThrough_b1036 : Fld Z h1036 b1036 "com/example/halyard/halyard/gateway/HeldMessages" "askedThrough" "I" (.int 0) := D1036 (Or.inl (wd hw 226 rfl)) (ty := .int) (by decide)
        refine g_dup C X1036 d0_136 rfl (g_special (argsL := []) (st := [(.ref b1036)]) C X1036 rfl (wd hw 72 rfl) (wd hw 73 rfl) (wd hw 74 rfl) (by decide) (pay_of (W' := 1) (rHi l hw X1036.ext b1036 A1036 F_held_b1036 F_highestCome_b1036 F_bytes_b1036 F_askedThrough_b1036 n_b1036) C.hZ (wd hw 74 rfl) (wd hw 71 rfl) (by decide) (by decide)) pd_10 rfl rfl _ rfl (Nat.le_of_eq rfl) d0_137 (by decide) (by decide) (fun T1040 h1040 v1040 q1040 X1040 => ?_))
        obtain ⟨rfl, K1040, tm, n_tm, g_tm, E1040, H1040_held, H1040_highestCome, H1040_bytes, H1040_askedThrough, G1040, T1040_comparator, T1040_root, T1040_size, T1040_modCount⟩ := q1040
        have f1042 := (Arv.ext f1037 E1036)
        have lt1041 : b864 < tm := Nat.lt_of_lt_of_le (Arv.lt f1042) g_tm
        have f1044 := (Exa.ext E1036 A880)
        have lt1043 : m880 < tm := Nat.lt_of_lt_of_le (Exa.lt f1044) g_tm
        have lt1045 : b1036 < tm := Nat.lt_of_lt_of_le (Exa.lt A1036) g_tm
        show Goes p e below _ T1040 (mkF m 140 #[.val (.int p0), .val (.int p1), .val (.int p2), .val (.int p3), .val (.ref b864), .val (.ref m880), .val (.int 1), .val (.int 0), .val (.int 0), .unset, .unset, .unset, .unset, .unset] [(.ref b1036)])
        refine g_astore C X1040 d0_140 rfl (l' := #[.val (.int p0), .val (.int p1), .val (.int p2), .val (.int p3), .val (.ref b864), .val (.ref m880), .val (.int 1), .val (.int 0), .val (.int 0), .val (.ref b1036), .unset, .unset, .unset, .unset]) rfl (g_aload C X1040 d0_142 rfl rfl (g_iloadN C X1040 d0_144 rfl (g_aload C X1040 d0_145 rfl rfl (g_iload C X1040 d0_147 rfl ?_))))
        have f1046 := (Exa.keep f1044 K1040)
        have f1047 := (Fld.keep (Fld.ext E1036 F880) K1040 (ninS (Nat.ne_of_lt lt1039) nin0))
        have f1048 := (Arv.keep f1042 K1040 (ninS (Nat.ne_of_lt lt1038) nin0))
        refine g_virtual (argsL := [(.int p0), (.ref m880), (.int 1)]) (st := []) C X1040 (wd hw 97 rfl) (wd hw 98 rfl) (nf_of C (wd hw 100 rfl) rfl rfl) (wd hw 100 rfl) (wd hw 99 rfl) (by decide) E1040 (pay_of (W' := 0) (rH11 l hw X1040.ext b1036 p0 m880 b864 tm k_b864 (0 : Int32) (0 : Int32) ca kc vc SH SC VC HB E1040 H1040_held H1040_highestCome H1040_bytes H1040_askedThrough G1040 T1040_comparator T1040_root T1040_size T1040_modCount f1046 f1047 f1048 n_b1036 n_tm (Nat.ne_of_lt lt1045) (Nat.ne_of_lt lt1039) (Nat.ne_of_lt lt1043) (Nat.ne_of_lt lt1038) (Nat.ne_of_lt lt1041)) C.hZ (wd hw 101 rfl) (wd hw 71 rfl) (by decide) (by decide)) pd_26 rfl rfl _ rfl (Nat.le_of_eq rfl) d0_149 (by decide) (by decide) (fun T1049 h1049 v1049 q1049 X1049 => ?_)
        obtain ⟨rfl, K1049, pe, kp, vp, n_pe, g_pe, E1049, H1049_held, H1049_highestCome, H1049_bytes, H1049_askedThrough, G1049, T1049_comparator, T1049_root, T1049_size, T1049_modCount, N1049, P1049_key, P1049_value, P1049_left, P1049_right, P1049_parent, P1049_color, I1049, J1049⟩ := q1049
        have lt1050 : b1036 < pe := Nat.lt_of_lt_of_le (Exa.lt E1040) g_pe
        have lt1051 : tm < pe := Nat.lt_of_lt_of_le (Exa.lt G1040) g_pe
        have lt1052 : m880 < pe := Nat.lt_of_lt_of_le (Exa.lt f1046) g_pe
        have lt1053 : b864 < pe := Nat.lt_of_lt_of_le (Arv.lt f1048) g_pe
        have nx1054 : kp ≠ b1036 := own_exne I1049 E1049 (by decide)
        show Goes p e below _ T1049 (mkF m 152 #[.val (.int p0), .val (.int p1), .val (.int p2), .val (.int p3), .val (.ref b864), .val (.ref m880), .val (.int 1), .val (.int 0), .val (.int 0), .val (.ref b1036), .unset, .unset, .unset, .unset] [])
        refine g_iload C X1049 d0_152 rfl (g_if (h0_eq _) C X1049 d0_154 (fun _ => ?_) (fun q => absurd (by decide) q))
        refine g_aload C X1049 d0_162 rfl rfl (g_iloadN C X1049 d0_164 rfl (g_aload C X1049 d0_165 rfl rfl (g_iload C X1049 d0_167 rfl (g_ifn (h0_ne _) C X1049 d0_169 (fun _ => ?_) (fun q => absurd q (by decide))))))
        refine g_iconst 0 C X1049 d0_176 rfl ?_
        have f1055 := (Exa.keep f1046 K1049)
        have f1056 := (Fld.keep f1047 K1049 (ninS (Nat.ne_of_lt lt1039) (ninS (Nat.ne_of_lt lt1043) nin0)))
        have f1057 := (Arv.keep f1048 K1049 (ninS (Nat.ne_of_lt lt1038) (ninS (Nat.ne_of_lt lt1041) nin0)))
        refine g_virtual (argsL := [(.int p1), (.ref m880), (.int 0)]) (st := []) C X1049 (wd hw 97 rfl) (wd hw 98 rfl) (nf_of C (wd hw 100 rfl) rfl rfl) (wd hw 100 rfl) (wd hw 99 rfl) (by decide) E1049 (pay_of (W' := 0) (rH20 l hw X1049.ext b1036 p1 m880 b864 tm pe kp vp k_b864 (own_mx (0 : Int32) p0) (0 : Int32) p0 ca kc vc SH SC VC HB E1049 H1049_held H1049_highestCome H1049_bytes H1049_askedThrough G1049 T1049_comparator T1049_root T1049_size T1049_modCount N1049 P1049_key P1049_value P1049_left P1049_right P1049_parent P1049_color I1049 J1049 f1055 f1056 f1057 n_b1036 n_tm (Nat.ne_of_lt lt1045) (Nat.ne_of_lt lt1039) (Nat.ne_of_lt lt1043) (Nat.ne_of_lt lt1038) (Nat.ne_of_lt lt1041) n_pe (Nat.ne_of_lt lt1050) (Nat.ne_of_lt lt1051) (Nat.ne_of_lt lt1052) (Nat.ne_of_lt lt1053)) C.hZ (wd hw 101 rfl) (wd hw 71 rfl) (by decide) (by decide)) pd_26 rfl rfl _ rfl (Nat.le_of_eq rfl) d0_177 (by decide) (by decide) (fun T1058 h1058 v1058 q1058 X1058 => ?_)
        obtain ⟨rfl, K1058, E1058, F1058, G1058⟩ := q1058
        show Goes p e below _ T1058 (mkF m 180 #[.val (.int p0), .val (.int p1), .val (.int p2), .val (.int p3), .val (.ref b864), .val (.ref m880), .val (.int 1), .val (.int 0), .val (.int 0), .val (.ref b1036), .unset, .unset, .unset, .unset] [])
        refine g_iload C X1058 d0_180 rfl (g_if (h0_eq _) C X1058 d0_182 (fun _ => ?_) (fun q => absurd (by decide) q))
        refine g_iconst 0 C X1058 d0_190 rfl (g_iloadN C X1058 d0_191 rfl (g_staticP (argsL := [(.int 0), (.int p0)]) (st := []) C X1058 (wd hw 219 rfl) (wd hw 9 rfl) (wd hw 10 rfl) (wd hw 11 rfl) (by decide) (pay_of (W' := 0) (rMx l hw X1058.ext (0 : Int32) p0) C.hZ (wd hw 11 rfl) (wd hw 10 rfl) (by decide) (by decide)) pd_7 rfl rfl _ rfl (Nat.le_of_eq rfl) d0_192 (by decide) (by decide) (fun T1059 X1059 => ?_)))
        refine g_istore C X1059 d0_195 (l' := #[.val (.int p0), .val (.int p1), .val (.int p2), .val (.int p3), .val (.ref b864), .val (.ref m880), .val (.int 1), .val (.int 0), .val (.int 0), .val (.ref b1036), .val (.int (own_mx (0 : Int32) p0)), .unset, .unset, .unset]) rfl (g_iload C X1059 d0_197 rfl (g_iloadN C X1059 d0_199 rfl (g_staticP (argsL := [(.int (own_mx (0 : Int32) p0)), (.int p1)]) (st := []) C X1059 (wd hw 219 rfl) (wd hw 9 rfl) (wd hw 10 rfl) (wd hw 11 rfl) (by decide) (pay_of (W' := 0) (rMx l hw X1059.ext (own_mx (0 : Int32) p0) p1) C.hZ (wd hw 11 rfl) (wd hw 10 rfl) (by decide) (by decide)) pd_7 rfl rfl _ rfl (Nat.le_of_eq rfl) d0_200 (by decide) (by decide) (fun T1060 X1060 => ?_))))
        refine g_istore C X1060 d0_203 (l' := #[.val (.int p0), .val (.int p1), .val (.int p2), .val (.int p3), .val (.ref b864), .val (.ref m880), .val (.int 1), .val (.int 0), .val (.int 0), .val (.ref b1036), .val (.int (own_mx (0 : Int32) p0)), .val (.int (own_mx (own_mx (0 : Int32) p0) p1)), .unset, .unset]) rfl (g_iload C X1060 d0_205 rfl (g_if (h0_eq _) C X1060 d0_207 (fun _ => ?_) (fun q => absurd (by decide) q)))
        refine g_iload C X1060 d0_215 rfl (g_if (h0_eq _) C X1060 d0_217 (fun _ => ?_) (fun q => absurd (by decide) q))
        refine g_iconst 0 C X1060 d0_225 rfl (g_istore C X1060 d0_226 (l' := #[.val (.int p0), .val (.int p1), .val (.int p2), .val (.int p3), .val (.ref b864), .val (.ref m880), .val (.int 1), .val (.int 0), .val (.int 0), .val (.ref b1036), .val (.int (own_mx (0 : Int32) p0)), .val (.int (own_mx (own_mx (0 : Int32) p0) p1)), .val (.int 0), .unset]) rfl (g_iloadN C X1060 d0_228 rfl (g_iload C X1060 d0_229 rfl (g_icmpn (hI_le _ _) C X1060 d0_231 (fun c231_1061 => ?_) (fun c231_1061 => ?_)))))
        · refine g_iconst 0 C X1060 d0_244 rfl (g_istore C X1060 d0_245 (l' := #[.val (.int p0), .val (.int p1), .val (.int p2), .val (.int p3), .val (.ref b864), .val (.ref m880), .val (.int 1), .val (.int 0), .val (.int 0), .val (.ref b1036), .val (.int (own_mx (0 : Int32) p0)), .val (.int (own_mx (own_mx (0 : Int32) p0) p1)), .val (.int 0), .val (.int 0)]) rfl (g_aload C X1060 d0_247 rfl rfl (g_iloadN C X1060 d0_249 rfl (g_virtualP (argsL := [(.int p2)]) (st := []) C X1060 (wd hw 220 rfl) (wd hw 221 rfl) (nf_of C (wd hw 223 rfl) rfl rfl) (wd hw 223 rfl) (wd hw 222 rfl) (by decide) E1058 (pay_of (W' := 0) (rGp l hw X1060.ext b1036 p2 (own_mx (own_mx (0 : Int32) p0) p1) (0 : Int32) E1058 F1058 G1058) C.hZ (wd hw 224 rfl) (wd hw 71 rfl) (by decide) (by decide)) pd_27 rfl rfl _ rfl (Nat.le_of_eq rfl) d0_250 (by decide) (by decide) (fun T1062 X1062 => ?_)))))
          refine g_iload C X1062 d0_253 rfl (g_icmpn (hI_ne _ _) C X1062 d0_255 (fun q => absurd (by unfold own_gap; rw [if_neg c231_1061]) q) (fun _ => ?_))
          refine g_iconst 1 C X1062 d0_258 rfl (g_goto C X1062 d0_259 ?_)
          exact g_retN C X1062 (by simp) d0_263 (1 : Int32) rfl (by decide) (by decide) rfl
        · refine g_iloadN C X1060 d0_234 rfl (g_iload C X1060 d0_235 rfl (g_icmp (hI_gt _ _) C X1060 d0_237 (fun c237_1063 => ?_) (fun c237_1063 => ?_)))
          · refine g_iconst 0 C X1060 d0_244 rfl (g_istore C X1060 d0_245 (l' := #[.val (.int p0), .val (.int p1), .val (.int p2), .val (.int p3), .val (.ref b864), .val (.ref m880), .val (.int 1), .val (.int 0), .val (.int 0), .val (.ref b1036), .val (.int (own_mx (0 : Int32) p0)), .val (.int (own_mx (own_mx (0 : Int32) p0) p1)), .val (.int 0), .val (.int 0)]) rfl (g_aload C X1060 d0_247 rfl rfl (g_iloadN C X1060 d0_249 rfl (g_virtualP (argsL := [(.int p2)]) (st := []) C X1060 (wd hw 220 rfl) (wd hw 221 rfl) (nf_of C (wd hw 223 rfl) rfl rfl) (wd hw 223 rfl) (wd hw 222 rfl) (by decide) E1058 (pay_of (W' := 0) (rGp l hw X1060.ext b1036 p2 (own_mx (own_mx (0 : Int32) p0) p1) (0 : Int32) E1058 F1058 G1058) C.hZ (wd hw 224 rfl) (wd hw 71 rfl) (by decide) (by decide)) pd_27 rfl rfl _ rfl (Nat.le_of_eq rfl) d0_250 (by decide) (by decide) (fun T1064 X1064 => ?_)))))
            refine g_iload C X1064 d0_253 rfl (g_icmpn (hI_ne _ _) C X1064 d0_255 (fun q => absurd (by unfold own_gap; rw [if_pos c231_1061, if_pos c237_1063]) q) (fun _ => ?_))
            refine g_iconst 1 C X1064 d0_258 rfl (g_goto C X1064 d0_259 ?_)
            exact g_retN C X1064 (by simp) d0_263 (1 : Int32) rfl (by decide) (by decide) rfl
          · refine g_iconst 1 C X1060 d0_240 rfl (g_goto C X1060 d0_241 (g_istore C X1060 d0_245 (l' := #[.val (.int p0), .val (.int p1), .val (.int p2), .val (.int p3), .val (.ref b864), .val (.ref m880), .val (.int 1), .val (.int 0), .val (.int 0), .val (.ref b1036), .val (.int (own_mx (0 : Int32) p0)), .val (.int (own_mx (own_mx (0 : Int32) p0) p1)), .val (.int 0), .val (.int 1)]) rfl (g_aload C X1060 d0_247 rfl rfl (g_iloadN C X1060 d0_249 rfl (g_virtualP (argsL := [(.int p2)]) (st := []) C X1060 (wd hw 220 rfl) (wd hw 221 rfl) (nf_of C (wd hw 223 rfl) rfl rfl) (wd hw 223 rfl) (wd hw 222 rfl) (by decide) E1058 (pay_of (W' := 0) (rGp l hw X1060.ext b1036 p2 (own_mx (own_mx (0 : Int32) p0) p1) (0 : Int32) E1058 F1058 G1058) C.hZ (wd hw 224 rfl) (wd hw 71 rfl) (by decide) (by decide)) pd_27 rfl rfl _ rfl (Nat.le_of_eq rfl) d0_250 (by decide) (by decide) (fun T1065 X1065 => ?_))))))
            refine g_iload C X1065 d0_253 rfl (g_icmpn (hI_ne _ _) C X1065 d0_255 (fun q => absurd (by unfold own_gap; rw [if_pos c231_1061, if_neg c237_1063]) q) (fun _ => ?_))
            refine g_iconst 1 C X1065 d0_258 rfl (g_goto C X1065 d0_259 ?_)
            exact g_retN C X1065 (by simp) d0_263 (1 : Int32) rfl (by decide) (by decide) rfl
      · refine g_iconst 1 C X880 d0_126 rfl (g_goto C X880 d0_127 (g_istore C X880 d0_131 (l' := #[.val (.int p0), .val (.int p1), .val (.int p2), .val (.int p3), .val (.ref b864), .val (.ref m880), .val (.int 1), .val (.int 0), .val (.int 1), .unset, .unset, .unset, .unset, .unset]) rfl (g_new C X880 (wd hw 69 rfl) (wd hw 70 rfl) (wd hw 71 rfl) d0_133 (by decide) (by decide) (fun T1066 h1066 b1066 g_b1066 n_b1066 X1066 E1066 A1066 D1066 M1066 => ?_))))
        have f1067 := (Arv.ext V879_b864 E880)
        have lt1068 : b864 < b1066 := by rw [g_b1066]; exact Arv.lt f1067
        have lt1069 : m880 < b1066 := by rw [g_b1066]; exact Exa.lt A880
        have F_held_b1066 : Fld Z h1066 b1066 "com/example/halyard/halyard/gateway/HeldMessages" "held" "Ljava/util/NavigableMap;" .null := D1066 (Or.inr (wd hw 96 rfl)) (ty := (.object "java/util/NavigableMap")) (by decide)
        have F_highestCome_b1066 : Fld Z h1066 b1066 "com/example/halyard/halyard/gateway/HeldMessages" "highestCome" "I" (.int 0) := D1066 (Or.inl (wd hw 103 rfl)) (ty := .int) (by decide)
        have F_bytes_b1066 : Fld Z h1066 b1066 "com/example/halyard/halyard/gateway/HeldMessages" "bytes" "J" (.long 0) := D1066 (Or.inl (wd hw 106 rfl)) (ty := .long) (by decide)
        have F_askedThrough_b1066 : Fld Z h1066 b1066 "com/example/halyard/halyard/gateway/HeldMessages" "askedThrough" "I" (.int 0) := D1066 (Or.inl (wd hw 226 rfl)) (ty := .int) (by decide)
        refine g_dup C X1066 d0_136 rfl (g_special (argsL := []) (st := [(.ref b1066)]) C X1066 rfl (wd hw 72 rfl) (wd hw 73 rfl) (wd hw 74 rfl) (by decide) (pay_of (W' := 1) (rHi l hw X1066.ext b1066 A1066 F_held_b1066 F_highestCome_b1066 F_bytes_b1066 F_askedThrough_b1066 n_b1066) C.hZ (wd hw 74 rfl) (wd hw 71 rfl) (by decide) (by decide)) pd_10 rfl rfl _ rfl (Nat.le_of_eq rfl) d0_137 (by decide) (by decide) (fun T1070 h1070 v1070 q1070 X1070 => ?_))
        obtain ⟨rfl, K1070, tm, n_tm, g_tm, E1070, H1070_held, H1070_highestCome, H1070_bytes, H1070_askedThrough, G1070, T1070_comparator, T1070_root, T1070_size, T1070_modCount⟩ := q1070
        have f1072 := (Arv.ext f1067 E1066)
        have lt1071 : b864 < tm := Nat.lt_of_lt_of_le (Arv.lt f1072) g_tm
        have f1074 := (Exa.ext E1066 A880)
        have lt1073 : m880 < tm := Nat.lt_of_lt_of_le (Exa.lt f1074) g_tm
        have lt1075 : b1066 < tm := Nat.lt_of_lt_of_le (Exa.lt A1066) g_tm
        show Goes p e below _ T1070 (mkF m 140 #[.val (.int p0), .val (.int p1), .val (.int p2), .val (.int p3), .val (.ref b864), .val (.ref m880), .val (.int 1), .val (.int 0), .val (.int 1), .unset, .unset, .unset, .unset, .unset] [(.ref b1066)])
        refine g_astore C X1070 d0_140 rfl (l' := #[.val (.int p0), .val (.int p1), .val (.int p2), .val (.int p3), .val (.ref b864), .val (.ref m880), .val (.int 1), .val (.int 0), .val (.int 1), .val (.ref b1066), .unset, .unset, .unset, .unset]) rfl (g_aload C X1070 d0_142 rfl rfl (g_iloadN C X1070 d0_144 rfl (g_aload C X1070 d0_145 rfl rfl (g_iload C X1070 d0_147 rfl ?_))))
        have f1076 := (Exa.keep f1074 K1070)
        have f1077 := (Fld.keep (Fld.ext E1066 F880) K1070 (ninS (Nat.ne_of_lt lt1069) nin0))
        have f1078 := (Arv.keep f1072 K1070 (ninS (Nat.ne_of_lt lt1068) nin0))
        refine g_virtual (argsL := [(.int p0), (.ref m880), (.int 1)]) (st := []) C X1070 (wd hw 97 rfl) (wd hw 98 rfl) (nf_of C (wd hw 100 rfl) rfl rfl) (wd hw 100 rfl) (wd hw 99 rfl) (by decide) E1070 (pay_of (W' := 0) (rH11 l hw X1070.ext b1066 p0 m880 b864 tm k_b864 (0 : Int32) (0 : Int32) ca kc vc SH SC VC HB E1070 H1070_held H1070_highestCome H1070_bytes H1070_askedThrough G1070 T1070_comparator T1070_root T1070_size T1070_modCount f1076 f1077 f1078 n_b1066 n_tm (Nat.ne_of_lt lt1075) (Nat.ne_of_lt lt1069) (Nat.ne_of_lt lt1073) (Nat.ne_of_lt lt1068) (Nat.ne_of_lt lt1071)) C.hZ (wd hw 101 rfl) (wd hw 71 rfl) (by decide) (by decide)) pd_26 rfl rfl _ rfl (Nat.le_of_eq rfl) d0_149 (by decide) (by decide) (fun T1079 h1079 v1079 q1079 X1079 => ?_)
        obtain ⟨rfl, K1079, pe, kp, vp, n_pe, g_pe, E1079, H1079_held, H1079_highestCome, H1079_bytes, H1079_askedThrough, G1079, T1079_comparator, T1079_root, T1079_size, T1079_modCount, N1079, P1079_key, P1079_value, P1079_left, P1079_right, P1079_parent, P1079_color, I1079, J1079⟩ := q1079
        have lt1080 : b1066 < pe := Nat.lt_of_lt_of_le (Exa.lt E1070) g_pe
        have lt1081 : tm < pe := Nat.lt_of_lt_of_le (Exa.lt G1070) g_pe
        have lt1082 : m880 < pe := Nat.lt_of_lt_of_le (Exa.lt f1076) g_pe
        have lt1083 : b864 < pe := Nat.lt_of_lt_of_le (Arv.lt f1078) g_pe
        have nx1084 : kp ≠ b1066 := own_exne I1079 E1079 (by decide)
        show Goes p e below _ T1079 (mkF m 152 #[.val (.int p0), .val (.int p1), .val (.int p2), .val (.int p3), .val (.ref b864), .val (.ref m880), .val (.int 1), .val (.int 0), .val (.int 1), .val (.ref b1066), .unset, .unset, .unset, .unset] [])
        refine g_iload C X1079 d0_152 rfl (g_if (h0_eq _) C X1079 d0_154 (fun _ => ?_) (fun q => absurd (by decide) q))
        refine g_aload C X1079 d0_162 rfl rfl (g_iloadN C X1079 d0_164 rfl (g_aload C X1079 d0_165 rfl rfl (g_iload C X1079 d0_167 rfl (g_ifn (h0_ne _) C X1079 d0_169 (fun _ => ?_) (fun q => absurd q (by decide))))))
        refine g_iconst 0 C X1079 d0_176 rfl ?_
        have f1085 := (Exa.keep f1076 K1079)
        have f1086 := (Fld.keep f1077 K1079 (ninS (Nat.ne_of_lt lt1069) (ninS (Nat.ne_of_lt lt1073) nin0)))
        have f1087 := (Arv.keep f1078 K1079 (ninS (Nat.ne_of_lt lt1068) (ninS (Nat.ne_of_lt lt1071) nin0)))
        refine g_virtual (argsL := [(.int p1), (.ref m880), (.int 0)]) (st := []) C X1079 (wd hw 97 rfl) (wd hw 98 rfl) (nf_of C (wd hw 100 rfl) rfl rfl) (wd hw 100 rfl) (wd hw 99 rfl) (by decide) E1079 (pay_of (W' := 0) (rH20 l hw X1079.ext b1066 p1 m880 b864 tm pe kp vp k_b864 (own_mx (0 : Int32) p0) (0 : Int32) p0 ca kc vc SH SC VC HB E1079 H1079_held H1079_highestCome H1079_bytes H1079_askedThrough G1079 T1079_comparator T1079_root T1079_size T1079_modCount N1079 P1079_key P1079_value P1079_left P1079_right P1079_parent P1079_color I1079 J1079 f1085 f1086 f1087 n_b1066 n_tm (Nat.ne_of_lt lt1075) (Nat.ne_of_lt lt1069) (Nat.ne_of_lt lt1073) (Nat.ne_of_lt lt1068) (Nat.ne_of_lt lt1071) n_pe (Nat.ne_of_lt lt1080) (Nat.ne_of_lt lt1081) (Nat.ne_of_lt lt1082) (Nat.ne_of_lt lt1083)) C.hZ (wd hw 101 rfl) (wd hw 71 rfl) (by decide) (by decide)) pd_26 rfl rfl _ rfl (Nat.le_of_eq rfl) d0_177 (by decide) (by decide) (fun T1088 h1088 v1088 q1088 X1088 => ?_)
        obtain ⟨rfl, K1088, E1088, F1088, G1088⟩ := q1088
        show Goes p e below _ T1088 (mkF m 180 #[.val (.int p0), .val (.int p1), .val (.int p2), .val (.int p3), .val (.ref b864), .val (.ref m880), .val (.int 1), .val (.int 0), .val (.int 1), .val (.ref b1066), .unset, .unset, .unset, .unset] [])
        refine g_iload C X1088 d0_180 rfl (g_if (h0_eq _) C X1088 d0_182 (fun q => absurd q (by decide)) (fun _ => ?_))
        refine g_aload C X1088 d0_185 rfl rfl (g_virtual (argsL := []) (st := []) C X1088 (wd hw 227 rfl) (wd hw 228 rfl) (nf_of C (wd hw 230 rfl) rfl rfl) (wd hw 230 rfl) (wd hw 229 rfl) (by decide) E1088 (pay_of (W' := 0) (rAt l hw X1088.ext b1066 (own_mx (own_mx (0 : Int32) p0) p1) (0 : Int32) E1088 F1088 G1088 n_b1066) C.hZ (wd hw 231 rfl) (wd hw 71 rfl) (by decide) (by decide)) pd_10 rfl rfl _ rfl (Nat.le_of_eq rfl) d0_187 (by decide) (by decide) (fun T1089 h1089 v1089 q1089 X1089 => ?_))
        obtain ⟨rfl, K1089, E1089, H1089_highestCome, H1089_askedThrough⟩ := q1089
        show Goes p e below _ T1089 (mkF m 190 #[.val (.int p0), .val (.int p1), .val (.int p2), .val (.int p3), .val (.ref b864), .val (.ref m880), .val (.int 1), .val (.int 0), .val (.int 1), .val (.ref b1066), .unset, .unset, .unset, .unset] [])
        refine g_iconst 0 C X1089 d0_190 rfl (g_iloadN C X1089 d0_191 rfl (g_staticP (argsL := [(.int 0), (.int p0)]) (st := []) C X1089 (wd hw 219 rfl) (wd hw 9 rfl) (wd hw 10 rfl) (wd hw 11 rfl) (by decide) (pay_of (W' := 0) (rMx l hw X1089.ext (0 : Int32) p0) C.hZ (wd hw 11 rfl) (wd hw 10 rfl) (by decide) (by decide)) pd_7 rfl rfl _ rfl (Nat.le_of_eq rfl) d0_192 (by decide) (by decide) (fun T1090 X1090 => ?_)))
        refine g_istore C X1090 d0_195 (l' := #[.val (.int p0), .val (.int p1), .val (.int p2), .val (.int p3), .val (.ref b864), .val (.ref m880), .val (.int 1), .val (.int 0), .val (.int 1), .val (.ref b1066), .val (.int (own_mx (0 : Int32) p0)), .unset, .unset, .unset]) rfl (g_iload C X1090 d0_197 rfl (g_iloadN C X1090 d0_199 rfl (g_staticP (argsL := [(.int (own_mx (0 : Int32) p0)), (.int p1)]) (st := []) C X1090 (wd hw 219 rfl) (wd hw 9 rfl) (wd hw 10 rfl) (wd hw 11 rfl) (by decide) (pay_of (W' := 0) (rMx l hw X1090.ext (own_mx (0 : Int32) p0) p1) C.hZ (wd hw 11 rfl) (wd hw 10 rfl) (by decide) (by decide)) pd_7 rfl rfl _ rfl (Nat.le_of_eq rfl) d0_200 (by decide) (by decide) (fun T1091 X1091 => ?_))))
        refine g_istore C X1091 d0_203 (l' := #[.val (.int p0), .val (.int p1), .val (.int p2), .val (.int p3), .val (.ref b864), .val (.ref m880), .val (.int 1), .val (.int 0), .val (.int 1), .val (.ref b1066), .val (.int (own_mx (0 : Int32) p0)), .val (.int (own_mx (own_mx (0 : Int32) p0) p1)), .unset, .unset]) rfl (g_iload C X1091 d0_205 rfl (g_if (h0_eq _) C X1091 d0_207 (fun q => absurd q (by decide)) (fun _ => ?_)))
        refine g_iload C X1091 d0_210 rfl (g_goto C X1091 d0_212 (g_istore C X1091 d0_226 (l' := #[.val (.int p0), .val (.int p1), .val (.int p2), .val (.int p3), .val (.ref b864), .val (.ref m880), .val (.int 1), .val (.int 0), .val (.int 1), .val (.ref b1066), .val (.int (own_mx (0 : Int32) p0)), .val (.int (own_mx (own_mx (0 : Int32) p0) p1)), .val (.int (own_mx (own_mx (0 : Int32) p0) p1)), .unset]) rfl (g_iloadN C X1091 d0_228 rfl (g_iload C X1091 d0_229 rfl (g_icmpn (hI_le _ _) C X1091 d0_231 (fun c231_1092 => ?_) (fun c231_1092 => ?_))))))
        · refine g_iconst 0 C X1091 d0_244 rfl (g_istore C X1091 d0_245 (l' := #[.val (.int p0), .val (.int p1), .val (.int p2), .val (.int p3), .val (.ref b864), .val (.ref m880), .val (.int 1), .val (.int 0), .val (.int 1), .val (.ref b1066), .val (.int (own_mx (0 : Int32) p0)), .val (.int (own_mx (own_mx (0 : Int32) p0) p1)), .val (.int (own_mx (own_mx (0 : Int32) p0) p1)), .val (.int 0)]) rfl (g_aload C X1091 d0_247 rfl rfl (g_iloadN C X1091 d0_249 rfl (g_virtualP (argsL := [(.int p2)]) (st := []) C X1091 (wd hw 220 rfl) (wd hw 221 rfl) (nf_of C (wd hw 223 rfl) rfl rfl) (wd hw 223 rfl) (wd hw 222 rfl) (by decide) E1089 (pay_of (W' := 0) (rGp l hw X1091.ext b1066 p2 (own_mx (own_mx (0 : Int32) p0) p1) (own_mx (own_mx (0 : Int32) p0) p1) E1089 H1089_highestCome H1089_askedThrough) C.hZ (wd hw 224 rfl) (wd hw 71 rfl) (by decide) (by decide)) pd_27 rfl rfl _ rfl (Nat.le_of_eq rfl) d0_250 (by decide) (by decide) (fun T1093 X1093 => ?_)))))
          refine g_iload C X1093 d0_253 rfl (g_icmpn (hI_ne _ _) C X1093 d0_255 (fun q => absurd (by unfold own_gap; rw [if_neg c231_1092]) q) (fun _ => ?_))
          refine g_iconst 1 C X1093 d0_258 rfl (g_goto C X1093 d0_259 ?_)
          exact g_retN C X1093 (by simp) d0_263 (1 : Int32) rfl (by decide) (by decide) rfl
        · refine g_iloadN C X1091 d0_234 rfl (g_iload C X1091 d0_235 rfl (g_icmp (hI_gt _ _) C X1091 d0_237 (fun _ => ?_) (fun q => absurd c231_1092 q)))
          refine g_iconst 0 C X1091 d0_244 rfl (g_istore C X1091 d0_245 (l' := #[.val (.int p0), .val (.int p1), .val (.int p2), .val (.int p3), .val (.ref b864), .val (.ref m880), .val (.int 1), .val (.int 0), .val (.int 1), .val (.ref b1066), .val (.int (own_mx (0 : Int32) p0)), .val (.int (own_mx (own_mx (0 : Int32) p0) p1)), .val (.int (own_mx (own_mx (0 : Int32) p0) p1)), .val (.int 0)]) rfl (g_aload C X1091 d0_247 rfl rfl (g_iloadN C X1091 d0_249 rfl (g_virtualP (argsL := [(.int p2)]) (st := []) C X1091 (wd hw 220 rfl) (wd hw 221 rfl) (nf_of C (wd hw 223 rfl) rfl rfl) (wd hw 223 rfl) (wd hw 222 rfl) (by decide) E1089 (pay_of (W' := 0) (rGp l hw X1091.ext b1066 p2 (own_mx (own_mx (0 : Int32) p0) p1) (own_mx (own_mx (0 : Int32) p0) p1) E1089 H1089_highestCome H1089_askedThrough) C.hZ (wd hw 224 rfl) (wd hw 71 rfl) (by decide) (by decide)) pd_27 rfl rfl _ rfl (Nat.le_of_eq rfl) d0_250 (by decide) (by decide) (fun T1094 X1094 => ?_)))))
          refine g_iload C X1094 d0_253 rfl (g_icmpn (hI_ne _ _) C X1094 d0_255 (fun q => absurd (by unfold own_gap; rw [if_pos c231_1092, if_pos c231_1092]) q) (fun _ => ?_))
          refine g_iconst 1 C X1094 d0_258 rfl (g_goto C X1094 d0_259 ?_)
          exact g_retN C X1094 (by simp) d0_263 (1 : Int32) rfl (by decide) (by decide) rfl
    · refine g_iconst 1 C X880 d0_113 rfl (g_goto C X880 d0_114 (g_istore C X880 d0_118 (l' := #[.val (.int p0), .val (.int p1), .val (.int p2), .val (.int p3), .val (.ref b864), .val (.ref m880), .val (.int 1), .val (.int 1), .unset, .unset, .unset, .unset, .unset, .unset]) rfl (g_iloadN C X880 d0_120 rfl (g_iconst 4 C X880 d0_121 rfl (g_iand C X880 d0_122 (g_if (h0_eq _) C X880 d0_123 (fun c123_1095 => ?_) (fun c123_1095 => ?_)))))))
      · refine g_iconst 0 C X880 d0_130 rfl (g_istore C X880 d0_131 (l' := #[.val (.int p0), .val (.int p1), .val (.int p2), .val (.int p3), .val (.ref b864), .val (.ref m880), .val (.int 1), .val (.int 1), .val (.int 0), .unset, .unset, .unset, .unset, .unset]) rfl (g_new C X880 (wd hw 69 rfl) (wd hw 70 rfl) (wd hw 71 rfl) d0_133 (by decide) (by decide) (fun T1096 h1096 b1096 g_b1096 n_b1096 X1096 E1096 A1096 D1096 M1096 => ?_)))
        have f1097 := (Arv.ext V879_b864 E880)
        have lt1098 : b864 < b1096 := by rw [g_b1096]; exact Arv.lt f1097
        have lt1099 : m880 < b1096 := by rw [g_b1096]; exact Exa.lt A880
        have F_held_b1096 : Fld Z h1096 b1096 "com/example/halyard/halyard/gateway/HeldMessages" "held" "Ljava/util/NavigableMap;" .null := D1096 (Or.inr (wd hw 96 rfl)) (ty := (.object "java/util/NavigableMap")) (by decide)
        have F_highestCome_b1096 : Fld Z h1096 b1096 "com/example/halyard/halyard/gateway/HeldMessages" "highestCome" "I" (.int 0) := D1096 (Or.inl (wd hw 103 rfl)) (ty := .int) (by decide)
        have F_bytes_b1096 : Fld Z h1096 b1096 "com/example/halyard/halyard/gateway/HeldMessages" "bytes" "J" (.long 0) := D1096 (Or.inl (wd hw 106 rfl)) (ty := .long) (by decide)
        have F_askedThrough_b1096 : Fld Z h1096 b1096 "com/example/halyard/halyard/gateway/HeldMessages" "askedThrough" "I" (.int 0) := D1096 (Or.inl (wd hw 226 rfl)) (ty := .int) (by decide)
        refine g_dup C X1096 d0_136 rfl (g_special (argsL := []) (st := [(.ref b1096)]) C X1096 rfl (wd hw 72 rfl) (wd hw 73 rfl) (wd hw 74 rfl) (by decide) (pay_of (W' := 1) (rHi l hw X1096.ext b1096 A1096 F_held_b1096 F_highestCome_b1096 F_bytes_b1096 F_askedThrough_b1096 n_b1096) C.hZ (wd hw 74 rfl) (wd hw 71 rfl) (by decide) (by decide)) pd_10 rfl rfl _ rfl (Nat.le_of_eq rfl) d0_137 (by decide) (by decide) (fun T1100 h1100 v1100 q1100 X1100 => ?_))
        obtain ⟨rfl, K1100, tm, n_tm, g_tm, E1100, H1100_held, H1100_highestCome, H1100_bytes, H1100_askedThrough, G1100, T1100_comparator, T1100_root, T1100_size, T1100_modCount⟩ := q1100
        have f1102 := (Arv.ext f1097 E1096)
        have lt1101 : b864 < tm := Nat.lt_of_lt_of_le (Arv.lt f1102) g_tm
        have f1104 := (Exa.ext E1096 A880)
        have lt1103 : m880 < tm := Nat.lt_of_lt_of_le (Exa.lt f1104) g_tm
        have lt1105 : b1096 < tm := Nat.lt_of_lt_of_le (Exa.lt A1096) g_tm
        show Goes p e below _ T1100 (mkF m 140 #[.val (.int p0), .val (.int p1), .val (.int p2), .val (.int p3), .val (.ref b864), .val (.ref m880), .val (.int 1), .val (.int 1), .val (.int 0), .unset, .unset, .unset, .unset, .unset] [(.ref b1096)])
        refine g_astore C X1100 d0_140 rfl (l' := #[.val (.int p0), .val (.int p1), .val (.int p2), .val (.int p3), .val (.ref b864), .val (.ref m880), .val (.int 1), .val (.int 1), .val (.int 0), .val (.ref b1096), .unset, .unset, .unset, .unset]) rfl (g_aload C X1100 d0_142 rfl rfl (g_iloadN C X1100 d0_144 rfl (g_aload C X1100 d0_145 rfl rfl (g_iload C X1100 d0_147 rfl ?_))))
        have f1106 := (Exa.keep f1104 K1100)
        have f1107 := (Fld.keep (Fld.ext E1096 F880) K1100 (ninS (Nat.ne_of_lt lt1099) nin0))
        have f1108 := (Arv.keep f1102 K1100 (ninS (Nat.ne_of_lt lt1098) nin0))
        refine g_virtual (argsL := [(.int p0), (.ref m880), (.int 1)]) (st := []) C X1100 (wd hw 97 rfl) (wd hw 98 rfl) (nf_of C (wd hw 100 rfl) rfl rfl) (wd hw 100 rfl) (wd hw 99 rfl) (by decide) E1100 (pay_of (W' := 0) (rH11 l hw X1100.ext b1096 p0 m880 b864 tm k_b864 (0 : Int32) (0 : Int32) ca kc vc SH SC VC HB E1100 H1100_held H1100_highestCome H1100_bytes H1100_askedThrough G1100 T1100_comparator T1100_root T1100_size T1100_modCount f1106 f1107 f1108 n_b1096 n_tm (Nat.ne_of_lt lt1105) (Nat.ne_of_lt lt1099) (Nat.ne_of_lt lt1103) (Nat.ne_of_lt lt1098) (Nat.ne_of_lt lt1101)) C.hZ (wd hw 101 rfl) (wd hw 71 rfl) (by decide) (by decide)) pd_26 rfl rfl _ rfl (Nat.le_of_eq rfl) d0_149 (by decide) (by decide) (fun T1109 h1109 v1109 q1109 X1109 => ?_)
        obtain ⟨rfl, K1109, pe, kp, vp, n_pe, g_pe, E1109, H1109_held, H1109_highestCome, H1109_bytes, H1109_askedThrough, G1109, T1109_comparator, T1109_root, T1109_size, T1109_modCount, N1109, P1109_key, P1109_value, P1109_left, P1109_right, P1109_parent, P1109_color, I1109, J1109⟩ := q1109
        have lt1110 : b1096 < pe := Nat.lt_of_lt_of_le (Exa.lt E1100) g_pe
        have lt1111 : tm < pe := Nat.lt_of_lt_of_le (Exa.lt G1100) g_pe
        have lt1112 : m880 < pe := Nat.lt_of_lt_of_le (Exa.lt f1106) g_pe
        have lt1113 : b864 < pe := Nat.lt_of_lt_of_le (Arv.lt f1108) g_pe
        have nx1114 : kp ≠ b1096 := own_exne I1109 E1109 (by decide)
        show Goes p e below _ T1109 (mkF m 152 #[.val (.int p0), .val (.int p1), .val (.int p2), .val (.int p3), .val (.ref b864), .val (.ref m880), .val (.int 1), .val (.int 1), .val (.int 0), .val (.ref b1096), .unset, .unset, .unset, .unset] [])
        refine g_iload C X1109 d0_152 rfl (g_if (h0_eq _) C X1109 d0_154 (fun q => absurd q (by decide)) (fun _ => ?_))
        refine g_aload C X1109 d0_157 rfl rfl (g_virtual (argsL := []) (st := []) C X1109 (wd hw 227 rfl) (wd hw 228 rfl) (nf_of C (wd hw 230 rfl) rfl rfl) (wd hw 230 rfl) (wd hw 229 rfl) (by decide) E1109 (pay_of (W' := 0) (rAs l hw X1109.ext b1096 tm (15 : Int64) (own_mx (0 : Int32) p0) (0 : Int32) E1109 H1109_held H1109_highestCome H1109_bytes H1109_askedThrough n_b1096) C.hZ (wd hw 231 rfl) (wd hw 71 rfl) (by decide) (by decide)) pd_10 rfl rfl _ rfl (Nat.le_of_eq rfl) d0_159 (by decide) (by decide) (fun T1115 h1115 v1115 q1115 X1115 => ?_))
        obtain ⟨rfl, K1115, E1115, H1115_held, H1115_highestCome, H1115_bytes, H1115_askedThrough⟩ := q1115
        show Goes p e below _ T1115 (mkF m 162 #[.val (.int p0), .val (.int p1), .val (.int p2), .val (.int p3), .val (.ref b864), .val (.ref m880), .val (.int 1), .val (.int 1), .val (.int 0), .val (.ref b1096), .unset, .unset, .unset, .unset] [])
        refine g_aload C X1115 d0_162 rfl rfl (g_iloadN C X1115 d0_164 rfl (g_aload C X1115 d0_165 rfl rfl (g_iload C X1115 d0_167 rfl (g_ifn (h0_ne _) C X1115 d0_169 (fun _ => ?_) (fun q => absurd q (by decide))))))
        refine g_iconst 0 C X1115 d0_176 rfl ?_
        have f1116 := (Exa.keep G1109 K1115)
        have f1117 := (Fld.keep T1109_comparator K1115 (ninS (Nat.ne_of_gt lt1105) nin0))
        have f1118 := (Fld.keep T1109_root K1115 (ninS (Nat.ne_of_gt lt1105) nin0))
        have f1119 := (Fld.keep T1109_size K1115 (ninS (Nat.ne_of_gt lt1105) nin0))
        have f1120 := (Fld.keep T1109_modCount K1115 (ninS (Nat.ne_of_gt lt1105) nin0))
        have f1121 := (Exa.keep N1109 K1115)
        have f1122 := (Fld.keep P1109_key K1115 (ninS (Nat.ne_of_gt lt1110) nin0))
        have f1123 := (Fld.keep P1109_value K1115 (ninS (Nat.ne_of_gt lt1110) nin0))
        have f1124 := (Fld.keep P1109_left K1115 (ninS (Nat.ne_of_gt lt1110) nin0))
        have f1125 := (Fld.keep P1109_right K1115 (ninS (Nat.ne_of_gt lt1110) nin0))
        have f1126 := (Fld.keep P1109_parent K1115 (ninS (Nat.ne_of_gt lt1110) nin0))
        have f1127 := (Fld.keep P1109_color K1115 (ninS (Nat.ne_of_gt lt1110) nin0))
        have f1128 := (Exa.keep I1109 K1115)
        have f1129 := (Fld.keep J1109 K1115 (ninS nx1114 nin0))
        have f1130 := (Exa.keep (Exa.keep f1106 K1109) K1115)
        have f1131 := (Fld.keep (Fld.keep f1107 K1109 (ninS (Nat.ne_of_lt lt1099) (ninS (Nat.ne_of_lt lt1103) nin0))) K1115 (ninS (Nat.ne_of_lt lt1099) nin0))
        have f1132 := (Arv.keep (Arv.keep f1108 K1109 (ninS (Nat.ne_of_lt lt1098) (ninS (Nat.ne_of_lt lt1101) nin0))) K1115 (ninS (Nat.ne_of_lt lt1098) nin0))
        refine g_virtual (argsL := [(.int p1), (.ref m880), (.int 0)]) (st := []) C X1115 (wd hw 97 rfl) (wd hw 98 rfl) (nf_of C (wd hw 100 rfl) rfl rfl) (wd hw 100 rfl) (wd hw 99 rfl) (by decide) E1115 (pay_of (W' := 0) (rH20 l hw X1115.ext b1096 p1 m880 b864 tm pe kp vp k_b864 (own_mx (0 : Int32) p0) (own_mx (0 : Int32) p0) p0 ca kc vc SH SC VC HB E1115 H1115_held H1115_highestCome H1115_bytes H1115_askedThrough f1116 f1117 f1118 f1119 f1120 f1121 f1122 f1123 f1124 f1125 f1126 f1127 f1128 f1129 f1130 f1131 f1132 n_b1096 n_tm (Nat.ne_of_lt lt1105) (Nat.ne_of_lt lt1099) (Nat.ne_of_lt lt1103) (Nat.ne_of_lt lt1098) (Nat.ne_of_lt lt1101) n_pe (Nat.ne_of_lt lt1110) (Nat.ne_of_lt lt1111) (Nat.ne_of_lt lt1112) (Nat.ne_of_lt lt1113)) C.hZ (wd hw 101 rfl) (wd hw 71 rfl) (by decide) (by decide)) pd_26 rfl rfl _ rfl (Nat.le_of_eq rfl) d0_177 (by decide) (by decide) (fun T1133 h1133 v1133 q1133 X1133 => ?_)
        obtain ⟨rfl, K1133, E1133, F1133, G1133⟩ := q1133
        show Goes p e below _ T1133 (mkF m 180 #[.val (.int p0), .val (.int p1), .val (.int p2), .val (.int p3), .val (.ref b864), .val (.ref m880), .val (.int 1), .val (.int 1), .val (.int 0), .val (.ref b1096), .unset, .unset, .unset, .unset] [])
        refine g_iload C X1133 d0_180 rfl (g_if (h0_eq _) C X1133 d0_182 (fun _ => ?_) (fun q => absurd (by decide) q))
        refine g_iconst 0 C X1133 d0_190 rfl (g_iloadN C X1133 d0_191 rfl (g_staticP (argsL := [(.int 0), (.int p0)]) (st := []) C X1133 (wd hw 219 rfl) (wd hw 9 rfl) (wd hw 10 rfl) (wd hw 11 rfl) (by decide) (pay_of (W' := 0) (rMx l hw X1133.ext (0 : Int32) p0) C.hZ (wd hw 11 rfl) (wd hw 10 rfl) (by decide) (by decide)) pd_7 rfl rfl _ rfl (Nat.le_of_eq rfl) d0_192 (by decide) (by decide) (fun T1134 X1134 => ?_)))
        refine g_istore C X1134 d0_195 (l' := #[.val (.int p0), .val (.int p1), .val (.int p2), .val (.int p3), .val (.ref b864), .val (.ref m880), .val (.int 1), .val (.int 1), .val (.int 0), .val (.ref b1096), .val (.int (own_mx (0 : Int32) p0)), .unset, .unset, .unset]) rfl (g_iload C X1134 d0_197 rfl (g_iloadN C X1134 d0_199 rfl (g_staticP (argsL := [(.int (own_mx (0 : Int32) p0)), (.int p1)]) (st := []) C X1134 (wd hw 219 rfl) (wd hw 9 rfl) (wd hw 10 rfl) (wd hw 11 rfl) (by decide) (pay_of (W' := 0) (rMx l hw X1134.ext (own_mx (0 : Int32) p0) p1) C.hZ (wd hw 11 rfl) (wd hw 10 rfl) (by decide) (by decide)) pd_7 rfl rfl _ rfl (Nat.le_of_eq rfl) d0_200 (by decide) (by decide) (fun T1135 X1135 => ?_))))
        refine g_istore C X1135 d0_203 (l' := #[.val (.int p0), .val (.int p1), .val (.int p2), .val (.int p3), .val (.ref b864), .val (.ref m880), .val (.int 1), .val (.int 1), .val (.int 0), .val (.ref b1096), .val (.int (own_mx (0 : Int32) p0)), .val (.int (own_mx (own_mx (0 : Int32) p0) p1)), .unset, .unset]) rfl (g_iload C X1135 d0_205 rfl (g_if (h0_eq _) C X1135 d0_207 (fun _ => ?_) (fun q => absurd (by decide) q)))
        refine g_iload C X1135 d0_215 rfl (g_if (h0_eq _) C X1135 d0_217 (fun q => absurd q (by decide)) (fun _ => ?_))
        refine g_iload C X1135 d0_220 rfl (g_goto C X1135 d0_222 (g_istore C X1135 d0_226 (l' := #[.val (.int p0), .val (.int p1), .val (.int p2), .val (.int p3), .val (.ref b864), .val (.ref m880), .val (.int 1), .val (.int 1), .val (.int 0), .val (.ref b1096), .val (.int (own_mx (0 : Int32) p0)), .val (.int (own_mx (own_mx (0 : Int32) p0) p1)), .val (.int (own_mx (0 : Int32) p0)), .unset]) rfl (g_iloadN C X1135 d0_228 rfl (g_iload C X1135 d0_229 rfl (g_icmpn (hI_le _ _) C X1135 d0_231 (fun c231_1136 => ?_) (fun c231_1136 => ?_))))))
        · refine g_iconst 0 C X1135 d0_244 rfl (g_istore C X1135 d0_245 (l' := #[.val (.int p0), .val (.int p1), .val (.int p2), .val (.int p3), .val (.ref b864), .val (.ref m880), .val (.int 1), .val (.int 1), .val (.int 0), .val (.ref b1096), .val (.int (own_mx (0 : Int32) p0)), .val (.int (own_mx (own_mx (0 : Int32) p0) p1)), .val (.int (own_mx (0 : Int32) p0)), .val (.int 0)]) rfl (g_aload C X1135 d0_247 rfl rfl (g_iloadN C X1135 d0_249 rfl (g_virtualP (argsL := [(.int p2)]) (st := []) C X1135 (wd hw 220 rfl) (wd hw 221 rfl) (nf_of C (wd hw 223 rfl) rfl rfl) (wd hw 223 rfl) (wd hw 222 rfl) (by decide) E1133 (pay_of (W' := 0) (rGp l hw X1135.ext b1096 p2 (own_mx (own_mx (0 : Int32) p0) p1) (own_mx (0 : Int32) p0) E1133 F1133 G1133) C.hZ (wd hw 224 rfl) (wd hw 71 rfl) (by decide) (by decide)) pd_27 rfl rfl _ rfl (Nat.le_of_eq rfl) d0_250 (by decide) (by decide) (fun T1137 X1137 => ?_)))))
          refine g_iload C X1137 d0_253 rfl (g_icmpn (hI_ne _ _) C X1137 d0_255 (fun q => absurd (by unfold own_gap; rw [if_neg c231_1136]) q) (fun _ => ?_))
          refine g_iconst 1 C X1137 d0_258 rfl (g_goto C X1137 d0_259 ?_)
          exact g_retN C X1137 (by simp) d0_263 (1 : Int32) rfl (by decide) (by decide) rfl
        · refine g_iloadN C X1135 d0_234 rfl (g_iload C X1135 d0_235 rfl (g_icmp (hI_gt _ _) C X1135 d0_237 (fun c237_1138 => ?_) (fun c237_1138 => ?_)))
          · refine g_iconst 0 C X1135 d0_244 rfl (g_istore C X1135 d0_245 (l' := #[.val (.int p0), .val (.int p1), .val (.int p2), .val (.int p3), .val (.ref b864), .val (.ref m880), .val (.int 1), .val (.int 1), .val (.int 0), .val (.ref b1096), .val (.int (own_mx (0 : Int32) p0)), .val (.int (own_mx (own_mx (0 : Int32) p0) p1)), .val (.int (own_mx (0 : Int32) p0)), .val (.int 0)]) rfl (g_aload C X1135 d0_247 rfl rfl (g_iloadN C X1135 d0_249 rfl (g_virtualP (argsL := [(.int p2)]) (st := []) C X1135 (wd hw 220 rfl) (wd hw 221 rfl) (nf_of C (wd hw 223 rfl) rfl rfl) (wd hw 223 rfl) (wd hw 222 rfl) (by decide) E1133 (pay_of (W' := 0) (rGp l hw X1135.ext b1096 p2 (own_mx (own_mx (0 : Int32) p0) p1) (own_mx (0 : Int32) p0) E1133 F1133 G1133) C.hZ (wd hw 224 rfl) (wd hw 71 rfl) (by decide) (by decide)) pd_27 rfl rfl _ rfl (Nat.le_of_eq rfl) d0_250 (by decide) (by decide) (fun T1139 X1139 => ?_)))))
            refine g_iload C X1139 d0_253 rfl (g_icmpn (hI_ne _ _) C X1139 d0_255 (fun q => absurd (by unfold own_gap; rw [if_pos c231_1136, if_pos c237_1138]) q) (fun _ => ?_))
            refine g_iconst 1 C X1139 d0_258 rfl (g_goto C X1139 d0_259 ?_)
            exact g_retN C X1139 (by simp) d0_263 (1 : Int32) rfl (by decide) (by decide) rfl
          · refine g_iconst 1 C X1135 d0_240 rfl (g_goto C X1135 d0_241 (g_istore C X1135 d0_245 (l' := #[.val (.int p0), .val (.int p1), .val (.int p2), .val (.int p3), .val (.ref b864), .val (.ref m880), .val (.int 1), .val (.int 1), .val (.int 0), .val (.ref b1096), .val (.int (own_mx (0 : Int32) p0)), .val (.int (own_mx (own_mx (0 : Int32) p0) p1)), .val (.int (own_mx (0 : Int32) p0)), .val (.int 1)]) rfl (g_aload C X1135 d0_247 rfl rfl (g_iloadN C X1135 d0_249 rfl (g_virtualP (argsL := [(.int p2)]) (st := []) C X1135 (wd hw 220 rfl) (wd hw 221 rfl) (nf_of C (wd hw 223 rfl) rfl rfl) (wd hw 223 rfl) (wd hw 222 rfl) (by decide) E1133 (pay_of (W' := 0) (rGp l hw X1135.ext b1096 p2 (own_mx (own_mx (0 : Int32) p0) p1) (own_mx (0 : Int32) p0) E1133 F1133 G1133) C.hZ (wd hw 224 rfl) (wd hw 71 rfl) (by decide) (by decide)) pd_27 rfl rfl _ rfl (Nat.le_of_eq rfl) d0_250 (by decide) (by decide) (fun T1140 X1140 => ?_))))))
            refine g_iload C X1140 d0_253 rfl (g_icmpn (hI_ne _ _) C X1140 d0_255 (fun q => absurd (by unfold own_gap; rw [if_pos c231_1136, if_neg c237_1138]) q) (fun _ => ?_))
            refine g_iconst 1 C X1140 d0_258 rfl (g_goto C X1140 d0_259 ?_)
            exact g_retN C X1140 (by simp) d0_263 (1 : Int32) rfl (by decide) (by decide) rfl
      · refine g_iconst 1 C X880 d0_126 rfl (g_goto C X880 d0_127 (g_istore C X880 d0_131 (l' := #[.val (.int p0), .val (.int p1), .val (.int p2), .val (.int p3), .val (.ref b864), .val (.ref m880), .val (.int 1), .val (.int 1), .val (.int 1), .unset, .unset, .unset, .unset, .unset]) rfl (g_new C X880 (wd hw 69 rfl) (wd hw 70 rfl) (wd hw 71 rfl) d0_133 (by decide) (by decide) (fun T1141 h1141 b1141 g_b1141 n_b1141 X1141 E1141 A1141 D1141 M1141 => ?_))))
        have f1142 := (Arv.ext V879_b864 E880)
        have lt1143 : b864 < b1141 := by rw [g_b1141]; exact Arv.lt f1142
        have lt1144 : m880 < b1141 := by rw [g_b1141]; exact Exa.lt A880
        have F_held_b1141 : Fld Z h1141 b1141 "com/example/halyard/halyard/gateway/HeldMessages" "held" "Ljava/util/NavigableMap;" .null := D1141 (Or.inr (wd hw 96 rfl)) (ty := (.object "java/util/NavigableMap")) (by decide)
        have F_highestCome_b1141 : Fld Z h1141 b1141 "com/example/halyard/halyard/gateway/HeldMessages" "highestCome" "I" (.int 0) := D1141 (Or.inl (wd hw 103 rfl)) (ty := .int) (by decide)
        have F_bytes_b1141 : Fld Z h1141 b1141 "com/example/halyard/halyard/gateway/HeldMessages" "bytes" "J" (.long 0) := D1141 (Or.inl (wd hw 106 rfl)) (ty := .long) (by decide)
        have F_askedThrough_b1141 : Fld Z h1141 b1141 "com/example/halyard/halyard/gateway/HeldMessages" "askedThrough" "I" (.int 0) := D1141 (Or.inl (wd hw 226 rfl)) (ty := .int) (by decide)
        refine g_dup C X1141 d0_136 rfl (g_special (argsL := []) (st := [(.ref b1141)]) C X1141 rfl (wd hw 72 rfl) (wd hw 73 rfl) (wd hw 74 rfl) (by decide) (pay_of (W' := 1) (rHi l hw X1141.ext b1141 A1141 F_held_b1141 F_highestCome_b1141 F_bytes_b1141 F_askedThrough_b1141 n_b1141) C.hZ (wd hw 74 rfl) (wd hw 71 rfl) (by decide) (by decide)) pd_10 rfl rfl _ rfl (Nat.le_of_eq rfl) d0_137 (by decide) (by decide) (fun T1145 h1145 v1145 q1145 X1145 => ?_))
        obtain ⟨rfl, K1145, tm, n_tm, g_tm, E1145, H1145_held, H1145_highestCome, H1145_bytes, H1145_askedThrough, G1145, T1145_comparator, T1145_root, T1145_size, T1145_modCount⟩ := q1145
        have f1147 := (Arv.ext f1142 E1141)
        have lt1146 : b864 < tm := Nat.lt_of_lt_of_le (Arv.lt f1147) g_tm
        have f1149 := (Exa.ext E1141 A880)
        have lt1148 : m880 < tm := Nat.lt_of_lt_of_le (Exa.lt f1149) g_tm
        have lt1150 : b1141 < tm := Nat.lt_of_lt_of_le (Exa.lt A1141) g_tm
        show Goes p e below _ T1145 (mkF m 140 #[.val (.int p0), .val (.int p1), .val (.int p2), .val (.int p3), .val (.ref b864), .val (.ref m880), .val (.int 1), .val (.int 1), .val (.int 1), .unset, .unset, .unset, .unset, .unset] [(.ref b1141)])
        refine g_astore C X1145 d0_140 rfl (l' := #[.val (.int p0), .val (.int p1), .val (.int p2), .val (.int p3), .val (.ref b864), .val (.ref m880), .val (.int 1), .val (.int 1), .val (.int 1), .val (.ref b1141), .unset, .unset, .unset, .unset]) rfl (g_aload C X1145 d0_142 rfl rfl (g_iloadN C X1145 d0_144 rfl (g_aload C X1145 d0_145 rfl rfl (g_iload C X1145 d0_147 rfl ?_))))
        have f1151 := (Exa.keep f1149 K1145)
        have f1152 := (Fld.keep (Fld.ext E1141 F880) K1145 (ninS (Nat.ne_of_lt lt1144) nin0))
        have f1153 := (Arv.keep f1147 K1145 (ninS (Nat.ne_of_lt lt1143) nin0))
        refine g_virtual (argsL := [(.int p0), (.ref m880), (.int 1)]) (st := []) C X1145 (wd hw 97 rfl) (wd hw 98 rfl) (nf_of C (wd hw 100 rfl) rfl rfl) (wd hw 100 rfl) (wd hw 99 rfl) (by decide) E1145 (pay_of (W' := 0) (rH11 l hw X1145.ext b1141 p0 m880 b864 tm k_b864 (0 : Int32) (0 : Int32) ca kc vc SH SC VC HB E1145 H1145_held H1145_highestCome H1145_bytes H1145_askedThrough G1145 T1145_comparator T1145_root T1145_size T1145_modCount f1151 f1152 f1153 n_b1141 n_tm (Nat.ne_of_lt lt1150) (Nat.ne_of_lt lt1144) (Nat.ne_of_lt lt1148) (Nat.ne_of_lt lt1143) (Nat.ne_of_lt lt1146)) C.hZ (wd hw 101 rfl) (wd hw 71 rfl) (by decide) (by decide)) pd_26 rfl rfl _ rfl (Nat.le_of_eq rfl) d0_149 (by decide) (by decide) (fun T1154 h1154 v1154 q1154 X1154 => ?_)
        obtain ⟨rfl, K1154, pe, kp, vp, n_pe, g_pe, E1154, H1154_held, H1154_highestCome, H1154_bytes, H1154_askedThrough, G1154, T1154_comparator, T1154_root, T1154_size, T1154_modCount, N1154, P1154_key, P1154_value, P1154_left, P1154_right, P1154_parent, P1154_color, I1154, J1154⟩ := q1154
        have lt1155 : b1141 < pe := Nat.lt_of_lt_of_le (Exa.lt E1145) g_pe
        have lt1156 : tm < pe := Nat.lt_of_lt_of_le (Exa.lt G1145) g_pe
        have lt1157 : m880 < pe := Nat.lt_of_lt_of_le (Exa.lt f1151) g_pe
        have lt1158 : b864 < pe := Nat.lt_of_lt_of_le (Arv.lt f1153) g_pe
        have nx1159 : kp ≠ b1141 := own_exne I1154 E1154 (by decide)
        show Goes p e below _ T1154 (mkF m 152 #[.val (.int p0), .val (.int p1), .val (.int p2), .val (.int p3), .val (.ref b864), .val (.ref m880), .val (.int 1), .val (.int 1), .val (.int 1), .val (.ref b1141), .unset, .unset, .unset, .unset] [])
        refine g_iload C X1154 d0_152 rfl (g_if (h0_eq _) C X1154 d0_154 (fun q => absurd q (by decide)) (fun _ => ?_))
        refine g_aload C X1154 d0_157 rfl rfl (g_virtual (argsL := []) (st := []) C X1154 (wd hw 227 rfl) (wd hw 228 rfl) (nf_of C (wd hw 230 rfl) rfl rfl) (wd hw 230 rfl) (wd hw 229 rfl) (by decide) E1154 (pay_of (W' := 0) (rAs l hw X1154.ext b1141 tm (15 : Int64) (own_mx (0 : Int32) p0) (0 : Int32) E1154 H1154_held H1154_highestCome H1154_bytes H1154_askedThrough n_b1141) C.hZ (wd hw 231 rfl) (wd hw 71 rfl) (by decide) (by decide)) pd_10 rfl rfl _ rfl (Nat.le_of_eq rfl) d0_159 (by decide) (by decide) (fun T1160 h1160 v1160 q1160 X1160 => ?_))
        obtain ⟨rfl, K1160, E1160, H1160_held, H1160_highestCome, H1160_bytes, H1160_askedThrough⟩ := q1160
        show Goes p e below _ T1160 (mkF m 162 #[.val (.int p0), .val (.int p1), .val (.int p2), .val (.int p3), .val (.ref b864), .val (.ref m880), .val (.int 1), .val (.int 1), .val (.int 1), .val (.ref b1141), .unset, .unset, .unset, .unset] [])
        refine g_aload C X1160 d0_162 rfl rfl (g_iloadN C X1160 d0_164 rfl (g_aload C X1160 d0_165 rfl rfl (g_iload C X1160 d0_167 rfl (g_ifn (h0_ne _) C X1160 d0_169 (fun _ => ?_) (fun q => absurd q (by decide))))))
        refine g_iconst 0 C X1160 d0_176 rfl ?_
        have f1161 := (Exa.keep G1154 K1160)
        have f1162 := (Fld.keep T1154_comparator K1160 (ninS (Nat.ne_of_gt lt1150) nin0))
        have f1163 := (Fld.keep T1154_root K1160 (ninS (Nat.ne_of_gt lt1150) nin0))
        have f1164 := (Fld.keep T1154_size K1160 (ninS (Nat.ne_of_gt lt1150) nin0))
        have f1165 := (Fld.keep T1154_modCount K1160 (ninS (Nat.ne_of_gt lt1150) nin0))
        have f1166 := (Exa.keep N1154 K1160)
        have f1167 := (Fld.keep P1154_key K1160 (ninS (Nat.ne_of_gt lt1155) nin0))
        have f1168 := (Fld.keep P1154_value K1160 (ninS (Nat.ne_of_gt lt1155) nin0))
        have f1169 := (Fld.keep P1154_left K1160 (ninS (Nat.ne_of_gt lt1155) nin0))
        have f1170 := (Fld.keep P1154_right K1160 (ninS (Nat.ne_of_gt lt1155) nin0))
        have f1171 := (Fld.keep P1154_parent K1160 (ninS (Nat.ne_of_gt lt1155) nin0))
        have f1172 := (Fld.keep P1154_color K1160 (ninS (Nat.ne_of_gt lt1155) nin0))
        have f1173 := (Exa.keep I1154 K1160)
        have f1174 := (Fld.keep J1154 K1160 (ninS nx1159 nin0))
        have f1175 := (Exa.keep (Exa.keep f1151 K1154) K1160)
        have f1176 := (Fld.keep (Fld.keep f1152 K1154 (ninS (Nat.ne_of_lt lt1144) (ninS (Nat.ne_of_lt lt1148) nin0))) K1160 (ninS (Nat.ne_of_lt lt1144) nin0))
        have f1177 := (Arv.keep (Arv.keep f1153 K1154 (ninS (Nat.ne_of_lt lt1143) (ninS (Nat.ne_of_lt lt1146) nin0))) K1160 (ninS (Nat.ne_of_lt lt1143) nin0))
        refine g_virtual (argsL := [(.int p1), (.ref m880), (.int 0)]) (st := []) C X1160 (wd hw 97 rfl) (wd hw 98 rfl) (nf_of C (wd hw 100 rfl) rfl rfl) (wd hw 100 rfl) (wd hw 99 rfl) (by decide) E1160 (pay_of (W' := 0) (rH20 l hw X1160.ext b1141 p1 m880 b864 tm pe kp vp k_b864 (own_mx (0 : Int32) p0) (own_mx (0 : Int32) p0) p0 ca kc vc SH SC VC HB E1160 H1160_held H1160_highestCome H1160_bytes H1160_askedThrough f1161 f1162 f1163 f1164 f1165 f1166 f1167 f1168 f1169 f1170 f1171 f1172 f1173 f1174 f1175 f1176 f1177 n_b1141 n_tm (Nat.ne_of_lt lt1150) (Nat.ne_of_lt lt1144) (Nat.ne_of_lt lt1148) (Nat.ne_of_lt lt1143) (Nat.ne_of_lt lt1146) n_pe (Nat.ne_of_lt lt1155) (Nat.ne_of_lt lt1156) (Nat.ne_of_lt lt1157) (Nat.ne_of_lt lt1158)) C.hZ (wd hw 101 rfl) (wd hw 71 rfl) (by decide) (by decide)) pd_26 rfl rfl _ rfl (Nat.le_of_eq rfl) d0_177 (by decide) (by decide) (fun T1178 h1178 v1178 q1178 X1178 => ?_)
        obtain ⟨rfl, K1178, E1178, F1178, G1178⟩ := q1178
        show Goes p e below _ T1178 (mkF m 180 #[.val (.int p0), .val (.int p1), .val (.int p2), .val (.int p3), .val (.ref b864), .val (.ref m880), .val (.int 1), .val (.int 1), .val (.int 1), .val (.ref b1141), .unset, .unset, .unset, .unset] [])
        refine g_iload C X1178 d0_180 rfl (g_if (h0_eq _) C X1178 d0_182 (fun q => absurd q (by decide)) (fun _ => ?_))
        refine g_aload C X1178 d0_185 rfl rfl (g_virtual (argsL := []) (st := []) C X1178 (wd hw 227 rfl) (wd hw 228 rfl) (nf_of C (wd hw 230 rfl) rfl rfl) (wd hw 230 rfl) (wd hw 229 rfl) (by decide) E1178 (pay_of (W' := 0) (rAt l hw X1178.ext b1141 (own_mx (own_mx (0 : Int32) p0) p1) (own_mx (0 : Int32) p0) E1178 F1178 G1178 n_b1141) C.hZ (wd hw 231 rfl) (wd hw 71 rfl) (by decide) (by decide)) pd_10 rfl rfl _ rfl (Nat.le_of_eq rfl) d0_187 (by decide) (by decide) (fun T1179 h1179 v1179 q1179 X1179 => ?_))
        obtain ⟨rfl, K1179, E1179, H1179_highestCome, H1179_askedThrough⟩ := q1179
        show Goes p e below _ T1179 (mkF m 190 #[.val (.int p0), .val (.int p1), .val (.int p2), .val (.int p3), .val (.ref b864), .val (.ref m880), .val (.int 1), .val (.int 1), .val (.int 1), .val (.ref b1141), .unset, .unset, .unset, .unset] [])
        refine g_iconst 0 C X1179 d0_190 rfl (g_iloadN C X1179 d0_191 rfl (g_staticP (argsL := [(.int 0), (.int p0)]) (st := []) C X1179 (wd hw 219 rfl) (wd hw 9 rfl) (wd hw 10 rfl) (wd hw 11 rfl) (by decide) (pay_of (W' := 0) (rMx l hw X1179.ext (0 : Int32) p0) C.hZ (wd hw 11 rfl) (wd hw 10 rfl) (by decide) (by decide)) pd_7 rfl rfl _ rfl (Nat.le_of_eq rfl) d0_192 (by decide) (by decide) (fun T1180 X1180 => ?_)))
        refine g_istore C X1180 d0_195 (l' := #[.val (.int p0), .val (.int p1), .val (.int p2), .val (.int p3), .val (.ref b864), .val (.ref m880), .val (.int 1), .val (.int 1), .val (.int 1), .val (.ref b1141), .val (.int (own_mx (0 : Int32) p0)), .unset, .unset, .unset]) rfl (g_iload C X1180 d0_197 rfl (g_iloadN C X1180 d0_199 rfl (g_staticP (argsL := [(.int (own_mx (0 : Int32) p0)), (.int p1)]) (st := []) C X1180 (wd hw 219 rfl) (wd hw 9 rfl) (wd hw 10 rfl) (wd hw 11 rfl) (by decide) (pay_of (W' := 0) (rMx l hw X1180.ext (own_mx (0 : Int32) p0) p1) C.hZ (wd hw 11 rfl) (wd hw 10 rfl) (by decide) (by decide)) pd_7 rfl rfl _ rfl (Nat.le_of_eq rfl) d0_200 (by decide) (by decide) (fun T1181 X1181 => ?_))))
        refine g_istore C X1181 d0_203 (l' := #[.val (.int p0), .val (.int p1), .val (.int p2), .val (.int p3), .val (.ref b864), .val (.ref m880), .val (.int 1), .val (.int 1), .val (.int 1), .val (.ref b1141), .val (.int (own_mx (0 : Int32) p0)), .val (.int (own_mx (own_mx (0 : Int32) p0) p1)), .unset, .unset]) rfl (g_iload C X1181 d0_205 rfl (g_if (h0_eq _) C X1181 d0_207 (fun q => absurd q (by decide)) (fun _ => ?_)))
        refine g_iload C X1181 d0_210 rfl (g_goto C X1181 d0_212 (g_istore C X1181 d0_226 (l' := #[.val (.int p0), .val (.int p1), .val (.int p2), .val (.int p3), .val (.ref b864), .val (.ref m880), .val (.int 1), .val (.int 1), .val (.int 1), .val (.ref b1141), .val (.int (own_mx (0 : Int32) p0)), .val (.int (own_mx (own_mx (0 : Int32) p0) p1)), .val (.int (own_mx (own_mx (0 : Int32) p0) p1)), .unset]) rfl (g_iloadN C X1181 d0_228 rfl (g_iload C X1181 d0_229 rfl (g_icmpn (hI_le _ _) C X1181 d0_231 (fun c231_1182 => ?_) (fun c231_1182 => ?_))))))
        · refine g_iconst 0 C X1181 d0_244 rfl (g_istore C X1181 d0_245 (l' := #[.val (.int p0), .val (.int p1), .val (.int p2), .val (.int p3), .val (.ref b864), .val (.ref m880), .val (.int 1), .val (.int 1), .val (.int 1), .val (.ref b1141), .val (.int (own_mx (0 : Int32) p0)), .val (.int (own_mx (own_mx (0 : Int32) p0) p1)), .val (.int (own_mx (own_mx (0 : Int32) p0) p1)), .val (.int 0)]) rfl (g_aload C X1181 d0_247 rfl rfl (g_iloadN C X1181 d0_249 rfl (g_virtualP (argsL := [(.int p2)]) (st := []) C X1181 (wd hw 220 rfl) (wd hw 221 rfl) (nf_of C (wd hw 223 rfl) rfl rfl) (wd hw 223 rfl) (wd hw 222 rfl) (by decide) E1179 (pay_of (W' := 0) (rGp l hw X1181.ext b1141 p2 (own_mx (own_mx (0 : Int32) p0) p1) (own_mx (own_mx (0 : Int32) p0) p1) E1179 H1179_highestCome H1179_askedThrough) C.hZ (wd hw 224 rfl) (wd hw 71 rfl) (by decide) (by decide)) pd_27 rfl rfl _ rfl (Nat.le_of_eq rfl) d0_250 (by decide) (by decide) (fun T1183 X1183 => ?_)))))
          refine g_iload C X1183 d0_253 rfl (g_icmpn (hI_ne _ _) C X1183 d0_255 (fun q => absurd (by unfold own_gap; rw [if_neg c231_1182]) q) (fun _ => ?_))
          refine g_iconst 1 C X1183 d0_258 rfl (g_goto C X1183 d0_259 ?_)
          exact g_retN C X1183 (by simp) d0_263 (1 : Int32) rfl (by decide) (by decide) rfl
        · refine g_iloadN C X1181 d0_234 rfl (g_iload C X1181 d0_235 rfl (g_icmp (hI_gt _ _) C X1181 d0_237 (fun _ => ?_) (fun q => absurd c231_1182 q)))
          refine g_iconst 0 C X1181 d0_244 rfl (g_istore C X1181 d0_245 (l' := #[.val (.int p0), .val (.int p1), .val (.int p2), .val (.int p3), .val (.ref b864), .val (.ref m880), .val (.int 1), .val (.int 1), .val (.int 1), .val (.ref b1141), .val (.int (own_mx (0 : Int32) p0)), .val (.int (own_mx (own_mx (0 : Int32) p0) p1)), .val (.int (own_mx (own_mx (0 : Int32) p0) p1)), .val (.int 0)]) rfl (g_aload C X1181 d0_247 rfl rfl (g_iloadN C X1181 d0_249 rfl (g_virtualP (argsL := [(.int p2)]) (st := []) C X1181 (wd hw 220 rfl) (wd hw 221 rfl) (nf_of C (wd hw 223 rfl) rfl rfl) (wd hw 223 rfl) (wd hw 222 rfl) (by decide) E1179 (pay_of (W' := 0) (rGp l hw X1181.ext b1141 p2 (own_mx (own_mx (0 : Int32) p0) p1) (own_mx (own_mx (0 : Int32) p0) p1) E1179 H1179_highestCome H1179_askedThrough) C.hZ (wd hw 224 rfl) (wd hw 71 rfl) (by decide) (by decide)) pd_27 rfl rfl _ rfl (Nat.le_of_eq rfl) d0_250 (by decide) (by decide) (fun T1184 X1184 => ?_)))))
          refine g_iload C X1184 d0_253 rfl (g_icmpn (hI_ne _ _) C X1184 d0_255 (fun q => absurd (by unfold own_gap; rw [if_pos c231_1182, if_pos c231_1182]) q) (fun _ => ?_))
          refine g_iconst 1 C X1184 d0_258 rfl (g_goto C X1184 d0_259 ?_)
          exact g_retN C X1184 (by simp) d0_263 (1 : Int32) rfl (by decide) (by decide) rfl
theorem comes_1 {Post : Tables → Env → Array Value → State → Outcome → State → Prop} (hpost : ∀ tb e args s v u, (limb_1_1.after args s (.returned v) u = true ∧ limb_1_2.after args s (.returned v) u = true ∧ True) → FrameEnd s (.returned v) u (Jvm.fieldLocs frame_1_writes args s ++ Jvm.arrayLocs frame_1_arrays args s ++ Jvm.staticLocs frame_1_statics s) 40 320 → Post tb e args s (.returned v) u) :
    ArmFor flags0 classFile x code maxLocals ret World_1 tables_1 room_1 Calls_1 rest_1 Pre_1 Post := by
  intro l hfl _ _ p e ha hc hk s m args below hf hA hF happ hP
  obtain ⟨hcalls, hrest, hpre⟩ := hP
  obtain ⟨-, -, -, hnamed, -, -, -, hat⟩ := (Spec.applies_iff hf).mp happ
  obtain ⟨hg, hn⟩ := and_e (Cond.before_iff.mp (show (Jvm.Cond.and given_1 narrow_1).before args s = true from hpre))
  obtain ⟨hcount, hg⟩ := and_e hg
  obtain ⟨ha0, hg⟩ := and_e hg
  obtain ⟨ha1, hg⟩ := and_e hg
  obtain ⟨ha2, hg⟩ := and_e hg
  have ha3 := hg
  obtain ⟨w0, w1, w2, w3, rfl⟩ : ∃ w0 w1 w2 w3 : Value, args = #[w0, w1, w2, w3] := by
    have hs : args.size = 4 := by simpa [Cond.value, given_1] using hcount
    obtain ⟨L⟩ := args
    match L, hs with
    | [w0, w1, w2, w3], _ => exact ⟨w0, w1, w2, w3, rfl⟩
  have hw := fun d (hd : d ∈ tables_1) => atoms_spec (ws := Jvm.Cond.code x code maxLocals ret :: tables_1) hat d (List.mem_cons_of_mem _ hd)
  have hfit : Fit s := fun {y c} hc i hi => by
    obtain ⟨ha, rfl⟩ := Array.getElem?_eq_some_iff.mp hc
    have q := List.all_eq_true.mp ((Array.all_eq_true_iff_forall_mem.mp hF) _ (Array.getElem_mem ha)) i (List.mem_range.mpr hi)
    simpa [Array.getElem?_eq_getElem hi] using q
  obtain ⟨hsets, hown0⟩ := atoms_of _ (rest_1_c_eq ▸ (show rest_1_c.before _ s = true from hrest))
  have hr0 := Cond.before_iff.mp hown0
  obtain ⟨i0, ei0⟩ := is_v ha0
  obtain rfl : w0 = (.int i0) := Option.some.inj ei0
  obtain ⟨i1, ei1⟩ := is_v ha1
  obtain rfl : w1 = (.int i1) := Option.some.inj ei1
  obtain ⟨i2, ei2⟩ := is_v ha2
  obtain rfl : w2 = (.int i2) := Option.some.inj ei2
  obtain ⟨i3, ei3⟩ := is_v ha3
  obtain rfl : w3 = (.int i3) := Option.some.inj ei3
  have SH := Sta.start (eqI_v (Cond.before_iff.mp (hsets _ (List.mem_of_getElem? (i := 3) rfl)))) (Or.inl (hsets _ (List.mem_of_getElem? (i := 1) rfl)))
  obtain ⟨ca, vca⟩ := exa_v (Cond.before_iff.mp (hsets _ (List.mem_of_getElem? (i := 5) rfl)))
  obtain ⟨cc, ACC⟩ := Arr.start vca (Cond.before_iff.mp (hsets _ (List.mem_of_getElem? (i := 4) rfl)))
  have VC := own_arrx .null hfit ACC vca (eqI_v (Cond.before_iff.mp (hsets _ (List.mem_of_getElem? (i := 6) rfl)))) (by decide)
  have SC := Sta.start vca (Or.inr ⟨(wd hw 118 rfl), (hsets _ (List.mem_of_getElem? (i := 2) rfl))⟩)
  have HB := own_hb (fun _ => vca) ACC (eqI_v (Cond.before_iff.mp (hsets _ (List.mem_of_getElem? (i := 6) rfl)))) (Cond.before_iff.mp (hsets _ (List.mem_of_getElem? (i := 7) rfl)))
  obtain ⟨n0, hn⟩ := and_e hn
  obtain ⟨n1, hn⟩ := and_e hn
  obtain ⟨n2, hn⟩ := and_e hn
  obtain ⟨n3, hn⟩ := and_e hn
  obtain ⟨n4, hn⟩ := and_e hn
  obtain ⟨n5, hn⟩ := and_e hn
  obtain ⟨n6, hn⟩ := and_e hn
  obtain ⟨n7, hn⟩ := and_e hn
  obtain ⟨n8, hn⟩ := and_e hn
  obtain ⟨n9, hn⟩ := and_e hn
  obtain ⟨n10, hn⟩ := and_e hn
  have n11 := hn
  obtain ⟨p_1, v_2⟩ := arr_v n0
  have S_3 := Sta.start v_2 (Or.inr ⟨(wd hw 37 rfl), (wd hw 40 rfl)⟩)
  obtain ⟨c_4, A_5⟩ := Arr.start v_2 n0
  obtain ⟨p_6, v_7⟩ := exa_v n2
  have S_8 := Sta.start v_7 (Or.inr ⟨(wd hw 37 rfl), (wd hw 41 rfl)⟩)
  have E_9 := Exa.start v_7 n2
  obtain ⟨p_10, v_11⟩ := arr_v n4
  have F_12 := fld_of v_7 v_11
  obtain ⟨c_13, A_14⟩ := Arr.start v_11 n4
  obtain ⟨p_15, v_16⟩ := exa_v n6
  have S_17 := Sta.start v_16 (Or.inr ⟨(wd hw 37 rfl), (wd hw 51 rfl)⟩)
  have E_18 := Exa.start v_16 n6
  obtain ⟨p_19, v_20⟩ := arr_v n8
  have F_21 := fld_of v_16 v_20
  obtain ⟨c_22, A_23⟩ := Arr.start v_20 n8
  obtain ⟨p_24, v_25⟩ := arr_v n10
  have S_26 := Sta.start v_25 (Or.inr ⟨(wd hw 3 rfl), (wd hw 53 rfl)⟩)
  obtain ⟨c_27, A_28⟩ := Arr.start v_25 n10
  have V_29 := arr_start (vs := [(.ref p_6), (.ref p_15)]) .null hfit A_5 v_2 (eqI_v n1) (by decide) rfl ⟨elem_start A_5 v_2 (eqR_v n3 v_7), elem_start A_5 v_2 (eqR_v n7 v_16), trivial⟩
  have V_31 := own_arrx (.int 0) hfit A_14 v_11 (eqI_v n5) (by decide)
  have V_34 := own_arrx (.int 0) hfit A_23 v_20 (eqI_v n9) (by decide)
  have V_37 := own_arrx (.int 0) hfit A_28 v_25 (eqI_v n11) (by decide)
  obtain ⟨n, o, h1, h2, h3, _, L, rfl, ⟨N, _, rfl⟩, hq⟩ := rm0 l (Z := s) hw ⟨Nat.le_refl _, fun _ _ q => q⟩ i0 i1 i2 i3 p_1 p_6 p_10 p_15 p_19 p_24 _ _ _ _ _ _ _ ca _ _ S_3 S_8 E_9 F_12 S_17 E_18 F_21 S_26 V_29 V_31 V_34 V_37 SH SC VC HB p e ha hc hk s m _ below hf ((Spec.applies_iff_loose hf).mp happ).1 ⟨rfl, State.Warmed39.refl s, rfl⟩ trivial
  exact ⟨n, _, h1, h2, h3, hpost _ _ _ _ _ _ ⟨Cond.after_iff.mpr rfl, Cond.after_iff.mpr (eq_i res_at (Term.int_eval (1)) rfl), trivial⟩ ⟨hq.1, hq.2.1, (hq.2.2.sift fun y hy => Or.inr (N y hy)).mono (by decide) (by decide)⟩⟩
theorem main_1_1 : Claimed_1_1 := comes_1 fun _ _ _ _ _ _ h hF => ⟨h.1, hF⟩
theorem main_1_2 : Claimed_1_2 := comes_1 fun _ _ _ _ _ _ h hF => ⟨h.2.1, hF⟩
end Jvm.Pilot.@@N@@
namespace Jvm.Pilot.@@N@@
open Jvm Jvm.ClassFile Sem Op Lib Jvm.Free Jvm.Stand Jvm.Pilot.@@N@@.Jvm.D
/-! MADE BY PROGRAM (witnessworld.py) out of the Statement's table words and the real class files: 33 classes; the members and pool entries that the words name. The judged class is class 1, her method 1. -/
namespace start1
open Jvm.ClassFile
def u (s : String) : CpInfo := .utf8 (stringToUtf16 s)
/-- a pool by its gaps: so many unusable entries, then the entry; so many at the end -/
def gap : Nat → List CpInfo → List CpInfo
  | 0, r => r
  | n + 1, r => .unusable :: gap n r
def poolList (es : List (Nat × CpInfo)) (last : Nat) : List CpInfo := es.foldr (fun e r => gap e.1 (e.2 :: r)) (gap last [])
def pool (es : List (Nat × CpInfo)) (last : Nat) : Array CpInfo := ⟨poolList es last⟩
def fileOf (pool : Array CpInfo) (this : Nat) (attrs : Array Attribute := #[]) (ms : Array MethodInfo := #[]) (fl : Nat := 33) (sup : Nat := 0) (ifs : Array Nat := #[]) (fds : Array FieldInfo := #[]) : ClassFile where
  minorVersion := 0
  majorVersion := 65
  constantPool := pool
  accessFlags := fl
  thisClass := this
  superClass := sup
  interfaces := ifs
  fields := fds
  methods := ms
  attributes := attrs
def plain (name : String) (sup : Option ClassId) : Class where
  name := name
  kind := .ordinary
  loader := none
  accessFlags := 33
  super := sup
  interfaces := #[]
  cf := none
  fields := #[]
  methods := #[]
  instanceTypes := #[]
  staticTypes := #[]
  resolved := #[]
  callSites := []
  init := .initialized
  statics := none
  mirror := none

def pool0 : Array CpInfo := pool [(5, u "<init>"), (0, u "()V"), (1, .class_ 10), (1, u "java/lang/Object")] 113

def k0c0 : Code := { maxStack := 0, maxLocals := 1, code := object_method_1_code, exceptionTable := #[], attributes := #[] }
def k0m0 : Method := { name := "<init>", desc := "()V", sig := { parameters := [], returnType := none }, accessFlags := 1, code := some k0c0 }
/-- java/lang/Object -/
def k0 : Class := { plain "java/lang/Object" none with
  accessFlags := 33
  interfaces := #[]
  cf := some (fileOf pool0 8 #[] #[{ accessFlags := 1, nameIndex := 5, descriptorIndex := 6, attributes := #[] }] 33 0 #[] #[])
  fields := #[]
  methods := #[k0m0]
  instanceTypes := #[]
  staticTypes := #[]
  resolved := Array.replicate 124 none
  statics := none }

def pool1 : Array CpInfo := pool [(2, .class_ 4), (0, .nameAndType 5 6), (0, u "java/lang/Object"), (0, u "<init>"), (0, u "()V"), (0, .methodref 8 9), (0, .class_ 10), (0, .nameAndType 11 12), (0, u "com/example/halyard/halyard/fix/FixMessage"), (0, u "parseUngarbled"), (0, u "([B)Lcom/example/halyard/halyard/fix/FixMessage;"), (0, .class_ 14), (0, u "com/example/halyard/halyard/gateway/HeldMessages"), (0, .methodref 13 3), (0, .methodref 13 17), (0, .nameAndType 18 19), (0, u "hold"), (0, u "(ILcom/example/halyard/halyard/fix/FixMessage;Z)V"), (0, .methodref 13 21), (0, .nameAndType 22 6), (0, u "askedForGap"), (0, .methodref 24 25), (0, .class_ 26), (0, .nameAndType 27 28), (0, u "java/lang/Math"), (0, u "max"), (0, u "(II)I"), (0, .methodref 13 30), (0, .nameAndType 31 32), (0, u "gapNotAskedFor"), (0, u "(I)Z"), (0, .class_ 34), (0, u "com/example/halyard/halyard/gateway/HeldMessagesGapNotAskedForPinLaw"), (2, u "law"), (0, u "(IIII)Z")] 8

def k1m0 : Method := { name := "<init>", desc := "()V", sig := { parameters := [], returnType := none }, accessFlags := 1, code := none }
def k1c1 : Code := { maxStack := 4, maxLocals := 14, code := code, exceptionTable := #[], attributes := #[] }
def k1m1 : Method := { name := "law", desc := "(IIII)Z", sig := { parameters := [.int, .int, .int, .int], returnType := some .boolean }, accessFlags := 9, code := some k1c1 }
/-- com/example/halyard/halyard/gateway/HeldMessagesGapNotAskedForPinLaw -/
def k1 : Class := { plain "com/example/halyard/halyard/gateway/HeldMessagesGapNotAskedForPinLaw" (some 0) with
  accessFlags := 49
  interfaces := #[]
  cf := some (fileOf pool1 33 #[] #[{ accessFlags := 1, nameIndex := 5, descriptorIndex := 6, attributes := #[] }, { accessFlags := 9, nameIndex := 37, descriptorIndex := 38, attributes := #[] }] 49 2 #[] #[])
  fields := #[]
  methods := #[k1m0, k1m1]
  instanceTypes := #[]
  staticTypes := #[]
  resolved := Array.replicate 47 none
  statics := none }

def pool2 : Array CpInfo := pool [(1, .methodref 2 3), (0, .class_ 4), (0, .nameAndType 5 6), (0, u "java/lang/Object"), (0, u "<init>"), (0, u "()V"), (0, .fieldref 8 9), (0, .class_ 10), (0, .nameAndType 11 12), (0, u "com/example/halyard/halyard/fix/FixMessage"), (0, u "bytes"), (0, u "[B"), (0, .fieldref 8 14), (0, .nameAndType 15 16), (0, u "count"), (0, u "I"), (0, .fieldref 8 18), (0, .nameAndType 19 20), (0, u "tags"), (0, u "[I"), (0, .fieldref 8 22), (0, .nameAndType 23 20), (0, u "valueStarts"), (0, .fieldref 8 25), (0, .nameAndType 26 20), (0, u "valueEnds"), (0, .methodref 8 28), (0, .nameAndType 29 30), (0, u "checkFraming"), (0, u "(IZ)Lcom/example/halyard/halyard/fix/FixVersion;"), (0, .fieldref 8 32), (0, .nameAndType 33 34), (0, u "version"), (0, u "Lcom/example/halyard/halyard/fix/FixVersion;"), (2, .methodref 8 38), (0, .nameAndType 39 40), (0, u "indexOf"), (0, u "(I)I"), (0, .fieldref 8 42), (0, .nameAndType 43 16), (0, u "msgTypeAt"), (0, .methodref 8 45), (0, .nameAndType 46 47), (0, u "parse"), (0, u "([BZ)Lcom/example/halyard/halyard/fix/FixMessage;"), (0, .methodref 49 50), (0, .class_ 51), (0, .nameAndType 52 53), (0, u "java/lang/Math"), (0, u "max"), (0, u "(II)I"), (17, .methodref 8 72), (0, .nameAndType 5 73), (0, u "([BI[I[I[IIZ)V"), (2, .methodref 77 78), (0, .class_ 79), (0, .nameAndType 80 81), (0, u "com/example/halyard/halyard/fix/FixVersion"), (0, u "ofBeginString"), (0, u "([BII)Lcom/example/halyard/halyard/fix/FixVersion;"), (8, .fieldref 8 91), (0, .nameAndType 92 12), (0, u "CHECK_SUM_TAG"), (0, .methodref 8 94), (0, .nameAndType 95 96), (0, u "valueIs"), (0, u "(III)Z"), (5, .methodref 8 103), (0, .nameAndType 104 105), (0, u "sum"), (0, u "([BII)I"), (35, u "length"), (0, u "()I"), (76, u "parseUngarbled"), (0, u "([B)Lcom/example/halyard/halyard/fix/FixMessage;"), (22, u "MAX_SIZE"), (2, u "SOH"), (0, u "B"), (1, u "MASK"), (0, u "Ljava/lang/String;"), (0, u "CHECK_SUM_DIGITS"), (1, u "MAX_TAG_DIGITS")] 73

def k2c0 : Code := { maxStack := 4, maxLocals := 8, code := prog_27_method_1_code, exceptionTable := #[], attributes := #[] }
def k2m0 : Method := { name := "<init>", desc := "([BI[I[I[IIZ)V", sig := { parameters := [(.array .byte), .int, (.array .int), (.array .int), (.array .int), .int, .boolean], returnType := none }, accessFlags := 2, code := some k2c0 }
def k2c1 : Code := { maxStack := 2, maxLocals := 1, code := prog_27_method_3_code, exceptionTable := #[], attributes := #[] }
def k2m1 : Method := { name := "parseUngarbled", desc := "([B)Lcom/example/halyard/halyard/fix/FixMessage;", sig := { parameters := [(.array .byte)], returnType := some (.object "com/example/halyard/halyard/fix/FixMessage") }, accessFlags := 9, code := some k2c1 }
def k2c2 : Code := { maxStack := 9, maxLocals := 14, code := prog_27_method_4_code, exceptionTable := #[], attributes := #[] }
def k2m2 : Method := { name := "parse", desc := "([BZ)Lcom/example/halyard/halyard/fix/FixMessage;", sig := { parameters := [(.array .byte), .boolean], returnType := some (.object "com/example/halyard/halyard/fix/FixMessage") }, accessFlags := 10, code := some k2c2 }
def k2c3 : Code := { maxStack := 8, maxLocals := 8, code := prog_27_method_5_code, exceptionTable := #[], attributes := #[] }
def k2m3 : Method := { name := "checkFraming", desc := "(IZ)Lcom/example/halyard/halyard/fix/FixVersion;", sig := { parameters := [.int, .boolean], returnType := some (.object "com/example/halyard/halyard/fix/FixVersion") }, accessFlags := 2, code := some k2c3 }
def k2c4 : Code := { maxStack := 4, maxLocals := 7, code := prog_27_method_6_code, exceptionTable := #[], attributes := #[] }
def k2m4 : Method := { name := "valueIs", desc := "(III)Z", sig := { parameters := [.int, .int, .int], returnType := some .boolean }, accessFlags := 2, code := some k2c4 }
def k2c5 : Code := { maxStack := 3, maxLocals := 5, code := prog_27_method_9_code, exceptionTable := #[], attributes := #[] }
def k2m5 : Method := { name := "sum", desc := "([BII)I", sig := { parameters := [(.array .byte), .int, .int], returnType := some .int }, accessFlags := 10, code := some k2c5 }
def k2c6 : Code := { maxStack := 2, maxLocals := 3, code := prog_27_method_14_code, exceptionTable := #[], attributes := #[] }
def k2m6 : Method := { name := "indexOf", desc := "(I)I", sig := { parameters := [.int], returnType := some .int }, accessFlags := 2, code := some k2c6 }
def k2c7 : Code := { maxStack := 1, maxLocals := 1, code := prog_27_method_17_code, exceptionTable := #[], attributes := #[] }
def k2m7 : Method := { name := "length", desc := "()I", sig := { parameters := [], returnType := some .int }, accessFlags := 1, code := some k2c7 }
/-- com/example/halyard/halyard/fix/FixMessage -/
def k2 : Class := { plain "com/example/halyard/halyard/fix/FixMessage" (some 0) with
  accessFlags := 49
  interfaces := #[]
  cf := some (fileOf pool2 8 #[] #[{ accessFlags := 2, nameIndex := 5, descriptorIndex := 73, attributes := #[] }, { accessFlags := 9, nameIndex := 219, descriptorIndex := 220, attributes := #[] }, { accessFlags := 10, nameIndex := 46, descriptorIndex := 47, attributes := #[] }, { accessFlags := 2, nameIndex := 29, descriptorIndex := 30, attributes := #[] }, { accessFlags := 2, nameIndex := 95, descriptorIndex := 96, attributes := #[] }, { accessFlags := 10, nameIndex := 104, descriptorIndex := 105, attributes := #[] }, { accessFlags := 2, nameIndex := 39, descriptorIndex := 40, attributes := #[] }, { accessFlags := 1, nameIndex := 141, descriptorIndex := 142, attributes := #[] }] 49 2 #[] #[{ accessFlags := 25, nameIndex := 243, descriptorIndex := 16, attributes := #[] }, { accessFlags := 25, nameIndex := 246, descriptorIndex := 247, attributes := #[] }, { accessFlags := 25, nameIndex := 249, descriptorIndex := 250, attributes := #[] }, { accessFlags := 24, nameIndex := 92, descriptorIndex := 12, attributes := #[] }, { accessFlags := 24, nameIndex := 251, descriptorIndex := 16, attributes := #[] }, { accessFlags := 26, nameIndex := 253, descriptorIndex := 16, attributes := #[] }, { accessFlags := 18, nameIndex := 11, descriptorIndex := 12, attributes := #[] }, { accessFlags := 18, nameIndex := 33, descriptorIndex := 34, attributes := #[] }, { accessFlags := 18, nameIndex := 15, descriptorIndex := 16, attributes := #[] }, { accessFlags := 18, nameIndex := 19, descriptorIndex := 20, attributes := #[] }, { accessFlags := 18, nameIndex := 23, descriptorIndex := 20, attributes := #[] }, { accessFlags := 18, nameIndex := 26, descriptorIndex := 20, attributes := #[] }, { accessFlags := 18, nameIndex := 43, descriptorIndex := 16, attributes := #[] }])
  fields := #[{ name := "MAX_SIZE", type := .int, accessFlags := 25, slot := 0, constantValue := 0 }, { name := "SOH", type := .byte, accessFlags := 25, slot := 1, constantValue := 0 }, { name := "MASK", type := (.object "java/lang/String"), accessFlags := 25, slot := 2, constantValue := 0 }, { name := "CHECK_SUM_TAG", type := (.array .byte), accessFlags := 24, slot := 3, constantValue := 0 }, { name := "CHECK_SUM_DIGITS", type := .int, accessFlags := 24, slot := 4, constantValue := 0 }, { name := "MAX_TAG_DIGITS", type := .int, accessFlags := 26, slot := 5, constantValue := 0 }, { name := "bytes", type := (.array .byte), accessFlags := 18, slot := 0, constantValue := 0 }, { name := "version", type := (.object "com/example/halyard/halyard/fix/FixVersion"), accessFlags := 18, slot := 1, constantValue := 0 }, { name := "count", type := .int, accessFlags := 18, slot := 2, constantValue := 0 }, { name := "tags", type := (.array .int), accessFlags := 18, slot := 3, constantValue := 0 }, { name := "valueStarts", type := (.array .int), accessFlags := 18, slot := 4, constantValue := 0 }, { name := "valueEnds", type := (.array .int), accessFlags := 18, slot := 5, constantValue := 0 }, { name := "msgTypeAt", type := .int, accessFlags := 18, slot := 6, constantValue := 0 }]
  methods := #[k2m0, k2m1, k2m2, k2m3, k2m4, k2m5, k2m6, k2m7]
  instanceTypes := #[(.array .byte), (.object "com/example/halyard/halyard/fix/FixVersion"), .int, (.array .int), (.array .int), (.array .int), .int]
  staticTypes := #[.int, .byte, (.object "java/lang/String"), (.array .byte), .int, .int]
  resolved := Array.replicate 327 none
  statics := some 0 }

def pool3 : Array CpInfo := pool [(1, .class_ 2), (0, u "java/lang/Math"), (1, .class_ 6), (1, u "java/lang/Object"), (0, u "<init>"), (0, u "()V"), (89, .class_ 100), (1, u "java/lang/Math$RandomNumberGeneratorHolder"), (71, u "negativeZeroFloatBits"), (0, u "J"), (2, u "negativeZeroDoubleBits"), (21, u "max"), (46, u "$assertionsDisabled"), (0, u "Z"), (88, u "(II)I"), (2, u "twoToTheDoubleScaleDown"), (0, u "D"), (4, u "twoToTheDoubleScaleUp"), (9, u "E"), (3, u "PI"), (2, u "TAU"), (2, u "DEGREES_TO_RADIANS"), (0, u "RADIANS_TO_DEGREES")] 94

def k3m0 : Method := { name := "<init>", desc := "()V", sig := { parameters := [], returnType := none }, accessFlags := 2, code := none }
def k3c1 : Code := { maxStack := 2, maxLocals := 2, code := jdk_29_method_65_code, exceptionTable := #[], attributes := #[] }
def k3m1 : Method := { name := "max", desc := "(II)I", sig := { parameters := [.int, .int], returnType := some .int }, accessFlags := 9, code := some k3c1 }
/-- java/lang/Math -/
def k3 : Class := { plain "java/lang/Math" (some 0) with
  accessFlags := 49
  interfaces := #[]
  cf := some (fileOf pool3 1 #[.nestMembers #[98]] #[{ accessFlags := 2, nameIndex := 7, descriptorIndex := 8, attributes := #[] }, { accessFlags := 9, nameIndex := 198, descriptorIndex := 335, attributes := #[] }] 49 4 #[] #[{ accessFlags := 25, nameIndex := 354, descriptorIndex := 339, attributes := #[] }, { accessFlags := 25, nameIndex := 358, descriptorIndex := 339, attributes := #[] }, { accessFlags := 25, nameIndex := 361, descriptorIndex := 339, attributes := #[] }, { accessFlags := 26, nameIndex := 364, descriptorIndex := 339, attributes := #[] }, { accessFlags := 26, nameIndex := 365, descriptorIndex := 339, attributes := #[] }, { accessFlags := 26, nameIndex := 172, descriptorIndex := 173, attributes := #[] }, { accessFlags := 26, nameIndex := 176, descriptorIndex := 173, attributes := #[] }, { accessFlags := 8, nameIndex := 344, descriptorIndex := 339, attributes := #[] }, { accessFlags := 8, nameIndex := 338, descriptorIndex := 339, attributes := #[] }, { accessFlags := 4120, nameIndex := 245, descriptorIndex := 246, attributes := #[] }])
  fields := #[{ name := "E", type := .double, accessFlags := 25, slot := 0, constantValue := 0 }, { name := "PI", type := .double, accessFlags := 25, slot := 1, constantValue := 0 }, { name := "TAU", type := .double, accessFlags := 25, slot := 2, constantValue := 0 }, { name := "DEGREES_TO_RADIANS", type := .double, accessFlags := 26, slot := 3, constantValue := 0 }, { name := "RADIANS_TO_DEGREES", type := .double, accessFlags := 26, slot := 4, constantValue := 0 }, { name := "negativeZeroFloatBits", type := .long, accessFlags := 26, slot := 5, constantValue := 0 }, { name := "negativeZeroDoubleBits", type := .long, accessFlags := 26, slot := 6, constantValue := 0 }, { name := "twoToTheDoubleScaleUp", type := .double, accessFlags := 8, slot := 7, constantValue := 0 }, { name := "twoToTheDoubleScaleDown", type := .double, accessFlags := 8, slot := 8, constantValue := 0 }, { name := "$assertionsDisabled", type := .boolean, accessFlags := 4120, slot := 9, constantValue := 0 }]
  methods := #[k3m0, k3m1]
  instanceTypes := #[]
  staticTypes := #[.double, .double, .double, .double, .double, .long, .long, .double, .double, .boolean]
  resolved := Array.replicate 460 none
  statics := none }

def pool4 : Array CpInfo := pool [(1, .class_ 2), (0, u "java/lang/constant/Constable"), (0, .class_ 4), (0, u "java/lang/Object")] 6

/-- java/lang/constant/Constable -/
def k4 : Class := { plain "java/lang/constant/Constable" (some 0) with
  accessFlags := 1537
  interfaces := #[]
  cf := some (fileOf pool4 1 #[] #[] 1537 3 #[] #[])
  fields := #[]
  methods := #[]
  instanceTypes := #[]
  staticTypes := #[]
  resolved := Array.replicate 11 none
  statics := none }

def pool5 : Array CpInfo := pool [(1, .class_ 2), (0, u "java/lang/Comparable"), (0, .class_ 4), (0, u "java/lang/Object"), (0, u "compareTo"), (0, u "(Ljava/lang/Object;)I")] 5

def k5m0 : Method := { name := "compareTo", desc := "(Ljava/lang/Object;)I", sig := { parameters := [(.object "java/lang/Object")], returnType := some .int }, accessFlags := 1025, code := none }
/-- java/lang/Comparable -/
def k5 : Class := { plain "java/lang/Comparable" (some 0) with
  accessFlags := 1537
  interfaces := #[]
  cf := some (fileOf pool5 1 #[] #[{ accessFlags := 1025, nameIndex := 5, descriptorIndex := 6, attributes := #[] }] 1537 3 #[] #[])
  fields := #[]
  methods := #[k5m0]
  instanceTypes := #[]
  staticTypes := #[]
  resolved := Array.replicate 12 none
  statics := none }

def pool6 : Array CpInfo := pool [(1, .class_ 2), (0, u "java/io/Serializable"), (0, .class_ 4), (0, u "java/lang/Object")] 2

/-- java/io/Serializable -/
def k6 : Class := { plain "java/io/Serializable" (some 0) with
  accessFlags := 1537
  interfaces := #[]
  cf := some (fileOf pool6 1 #[] #[] 1537 3 #[] #[])
  fields := #[]
  methods := #[]
  instanceTypes := #[]
  staticTypes := #[]
  resolved := Array.replicate 7 none
  statics := none }

def pool7 : Array CpInfo := pool [(2, .class_ 4), (1, u "java/lang/Enum"), (0, u "name"), (0, u "Ljava/lang/String;"), (2, u "ordinal"), (0, u "I"), (1, .class_ 14), (1, u "java/lang/Object"), (4, u "hash"), (86, .class_ 108), (1, u "java/lang/Enum$EnumDesc"), (2, .class_ 112), (0, u "java/lang/constant/Constable"), (0, .class_ 114), (0, u "java/lang/Comparable"), (0, .class_ 116), (0, u "java/io/Serializable")] 87

/-- java/lang/Enum -/
def k7 : Class := { plain "java/lang/Enum" (some 0) with
  accessFlags := 1057
  interfaces := #[4, 5, 6]
  cf := some (fileOf pool7 2 #[.nestMembers #[106]] #[] 1057 12 #[111, 113, 115] #[{ accessFlags := 18, nameIndex := 5, descriptorIndex := 6, attributes := #[] }, { accessFlags := 18, nameIndex := 9, descriptorIndex := 10, attributes := #[] }, { accessFlags := 2, nameIndex := 19, descriptorIndex := 10, attributes := #[] }])
  fields := #[{ name := "name", type := (.object "java/lang/String"), accessFlags := 18, slot := 0, constantValue := 0 }, { name := "ordinal", type := .int, accessFlags := 18, slot := 1, constantValue := 0 }, { name := "hash", type := .int, accessFlags := 2, slot := 2, constantValue := 0 }]
  methods := #[]
  instanceTypes := #[(.object "java/lang/String"), .int, .int]
  staticTypes := #[]
  resolved := Array.replicate 204 none
  statics := none }

def pool8 : Array CpInfo := pool [(1, .class_ 2), (0, u "com/example/halyard/halyard/fix/FixVersion"), (2, u "FIX_4_2"), (0, u "Lcom/example/halyard/halyard/fix/FixVersion;"), (2, u "FIX_4_4"), (2, u "$VALUES"), (0, u "[Lcom/example/halyard/halyard/fix/FixVersion;"), (6, .class_ 22), (1, u "java/lang/Enum"), (8, u "beginString"), (0, u "Ljava/lang/String;"), (16, .fieldref 1 50), (0, .nameAndType 51 52), (0, u "head"), (0, u "[B"), (0, .fieldref 1 54), (0, .nameAndType 55 13), (0, u "VERSIONS"), (2, u "equals"), (1, .methodref 61 62), (0, .class_ 63), (0, .nameAndType 58 64), (0, u "java/util/Arrays"), (0, u "([BII[BII)Z"), (23, u "ofBeginString"), (1, u "([BII)Lcom/example/halyard/halyard/fix/FixVersion;")] 21

def k8c0 : Code := { maxStack := 6, maxLocals := 7, code := prog_28_method_6_code, exceptionTable := #[], attributes := #[] }
def k8m0 : Method := { name := "ofBeginString", desc := "([BII)Lcom/example/halyard/halyard/fix/FixVersion;", sig := { parameters := [(.array .byte), .int, .int], returnType := some (.object "com/example/halyard/halyard/fix/FixVersion") }, accessFlags := 8, code := some k8c0 }
/-- com/example/halyard/halyard/fix/FixVersion -/
def k8 : Class := { plain "com/example/halyard/halyard/fix/FixVersion" (some 7) with
  accessFlags := 16433
  interfaces := #[]
  cf := some (fileOf pool8 1 #[] #[{ accessFlags := 8, nameIndex := 88, descriptorIndex := 90, attributes := #[] }] 16433 20 #[] #[{ accessFlags := 16409, nameIndex := 5, descriptorIndex := 6, attributes := #[] }, { accessFlags := 16409, nameIndex := 9, descriptorIndex := 6, attributes := #[] }, { accessFlags := 26, nameIndex := 55, descriptorIndex := 13, attributes := #[] }, { accessFlags := 18, nameIndex := 31, descriptorIndex := 32, attributes := #[] }, { accessFlags := 18, nameIndex := 51, descriptorIndex := 52, attributes := #[] }, { accessFlags := 4122, nameIndex := 12, descriptorIndex := 13, attributes := #[] }])
  fields := #[{ name := "FIX_4_2", type := (.object "com/example/halyard/halyard/fix/FixVersion"), accessFlags := 16409, slot := 0, constantValue := 0 }, { name := "FIX_4_4", type := (.object "com/example/halyard/halyard/fix/FixVersion"), accessFlags := 16409, slot := 1, constantValue := 0 }, { name := "VERSIONS", type := (.array (.object "com/example/halyard/halyard/fix/FixVersion")), accessFlags := 26, slot := 2, constantValue := 0 }, { name := "beginString", type := (.object "java/lang/String"), accessFlags := 18, slot := 3, constantValue := 0 }, { name := "head", type := (.array .byte), accessFlags := 18, slot := 4, constantValue := 0 }, { name := "$VALUES", type := (.array (.object "com/example/halyard/halyard/fix/FixVersion")), accessFlags := 4122, slot := 3, constantValue := 0 }]
  methods := #[k8m0]
  instanceTypes := #[(.object "java/lang/String"), .int, .int, (.object "java/lang/String"), (.array .byte)]
  staticTypes := #[(.object "com/example/halyard/halyard/fix/FixVersion"), (.object "com/example/halyard/halyard/fix/FixVersion"), (.array (.object "com/example/halyard/halyard/fix/FixVersion")), (.array (.object "com/example/halyard/halyard/fix/FixVersion"))]
  resolved := Array.replicate 112 none
  statics := some 1 }

def pool9 : Array CpInfo := pool [(2, .class_ 4), (1, u "java/lang/Object"), (0, u "<init>"), (0, u "()V"), (6, .methodref 14 15), (0, .class_ 16), (0, .nameAndType 17 18), (0, u "java/util/Arrays"), (0, u "rangeCheck"), (0, u "(III)V"), (55, .class_ 76), (1, u "java/util/Arrays$NaturalOrder"), (36, .class_ 115), (1, u "java/util/Arrays$LegacyMergeSort"), (1, u "Z"), (180, u "equals"), (76, .class_ 376), (0, u "java/util/Arrays$ArrayList"), (68, u "$assertionsDisabled"), (269, u "MIN_ARRAY_SORT_GRAN"), (0, u "I"), (2, u "INSERTIONSORT_THRESHOLD"), (111, u "([BII[BII)Z"), (143, .class_ 976), (0, u "java/util/Arrays$ArrayItr")] 52

def k9m0 : Method := { name := "<init>", desc := "()V", sig := { parameters := [], returnType := none }, accessFlags := 2, code := none }
def k9c1 : Code := { maxStack := 4, maxLocals := 3, code := jdk_65_method_30_code, exceptionTable := #[], attributes := #[] }
def k9m1 : Method := { name := "rangeCheck", desc := "(III)V", sig := { parameters := [.int, .int, .int], returnType := none }, accessFlags := 8, code := some k9c1 }
def k9c2 : Code := { maxStack := 5, maxLocals := 8, code := jdk_65_method_90_code, exceptionTable := #[], attributes := #[] }
def k9m2 : Method := { name := "equals", desc := "([BII[BII)Z", sig := { parameters := [(.array .byte), .int, .int, (.array .byte), .int, .int], returnType := some .boolean }, accessFlags := 9, code := some k9c2 }
/-- java/util/Arrays -/
def k9 : Class := { plain "java/util/Arrays" (some 0) with
  accessFlags := 49
  interfaces := #[]
  cf := some (fileOf pool9 14 #[.nestMembers #[975, 375, 113, 74]] #[{ accessFlags := 2, nameIndex := 5, descriptorIndex := 6, attributes := #[] }, { accessFlags := 8, nameIndex := 17, descriptorIndex := 18, attributes := #[] }, { accessFlags := 9, nameIndex := 298, descriptorIndex := 831, attributes := #[] }] 49 2 #[] #[{ accessFlags := 26, nameIndex := 715, descriptorIndex := 716, attributes := #[] }, { accessFlags := 26, nameIndex := 719, descriptorIndex := 716, attributes := #[] }, { accessFlags := 4120, nameIndex := 445, descriptorIndex := 117, attributes := #[] }])
  fields := #[{ name := "MIN_ARRAY_SORT_GRAN", type := .int, accessFlags := 26, slot := 0, constantValue := 0 }, { name := "INSERTIONSORT_THRESHOLD", type := .int, accessFlags := 26, slot := 1, constantValue := 0 }, { name := "$assertionsDisabled", type := .boolean, accessFlags := 4120, slot := 2, constantValue := 0 }]
  methods := #[k9m0, k9m1, k9m2]
  instanceTypes := #[]
  staticTypes := #[.int, .int, .boolean]
  resolved := Array.replicate 1029 none
  statics := none }

def pool10 : Array CpInfo := pool [(1, .methodref 2 3), (0, .class_ 4), (0, .nameAndType 5 6), (0, u "java/lang/Object"), (0, u "<init>"), (0, u "()V"), (0, .class_ 8), (0, u "java/util/TreeMap"), (0, .methodref 7 3), (0, .fieldref 11 12), (0, .class_ 13), (0, .nameAndType 14 15), (0, u "com/example/halyard/halyard/gateway/HeldMessages"), (0, u "held"), (0, u "Ljava/util/NavigableMap;"), (0, .fieldref 11 17), (0, .nameAndType 18 19), (0, u "highestCome"), (0, u "I"), (0, .methodref 21 22), (0, .class_ 23), (0, .nameAndType 24 25), (0, u "java/lang/Math"), (0, u "max"), (0, u "(II)I"), (0, .fieldref 11 27), (0, .nameAndType 28 29), (0, u "bytes"), (0, u "J"), (0, .methodref 31 32), (0, .class_ 33), (0, .nameAndType 34 35), (0, u "com/example/halyard/halyard/fix/FixMessage"), (0, u "length"), (0, u "()I"), (0, .long 4194304), (1, .fieldref 11 39), (0, .nameAndType 40 19), (0, u "askedThrough"), (3, .methodref 45 46), (0, .class_ 47), (0, .nameAndType 48 49), (0, u "java/lang/Integer"), (0, u "valueOf"), (0, u "(I)Ljava/lang/Integer;"), (0, .class_ 51), (0, u "com/example/halyard/halyard/gateway/HeldMessages$Held"), (0, .methodref 50 53), (0, .nameAndType 5 54), (0, u "(Lcom/example/halyard/halyard/fix/FixMessage;Z)V"), (0, .interfaceMethodref 56 57), (0, .class_ 58), (0, .nameAndType 59 60), (0, u "java/util/NavigableMap"), (0, u "putIfAbsent"), (0, u "(Ljava/lang/Object;Ljava/lang/Object;)Ljava/lang/Object;"), (23, u "MAX_BYTES"), (6, u "hold"), (0, u "(ILcom/example/halyard/halyard/fix/FixMessage;Z)V"), (3, u "gapNotAskedFor"), (0, u "(I)Z"), (0, u "askedForGap")] 8

def k10c0 : Code := { maxStack := 3, maxLocals := 1, code := prog_43_method_1_code, exceptionTable := #[], attributes := #[] }
def k10m0 : Method := { name := "<init>", desc := "()V", sig := { parameters := [], returnType := none }, accessFlags := 0, code := some k10c0 }
def k10c1 : Code := { maxStack := 6, maxLocals := 4, code := prog_43_method_2_code, exceptionTable := #[], attributes := #[] }
def k10m1 : Method := { name := "hold", desc := "(ILcom/example/halyard/halyard/fix/FixMessage;Z)V", sig := { parameters := [.int, (.object "com/example/halyard/halyard/fix/FixMessage"), .boolean], returnType := none }, accessFlags := 0, code := some k10c1 }
def k10c2 : Code := { maxStack := 2, maxLocals := 2, code := prog_43_method_4_code, exceptionTable := #[], attributes := #[] }
def k10m2 : Method := { name := "gapNotAskedFor", desc := "(I)Z", sig := { parameters := [.int], returnType := some .boolean }, accessFlags := 0, code := some k10c2 }
def k10c3 : Code := { maxStack := 2, maxLocals := 1, code := prog_43_method_5_code, exceptionTable := #[], attributes := #[] }
def k10m3 : Method := { name := "askedForGap", desc := "()V", sig := { parameters := [], returnType := none }, accessFlags := 0, code := some k10c3 }
/-- com/example/halyard/halyard/gateway/HeldMessages -/
def k10 : Class := { plain "com/example/halyard/halyard/gateway/HeldMessages" (some 0) with
  accessFlags := 48
  interfaces := #[]
  cf := some (fileOf pool10 11 #[.nestMembers #[50]] #[{ accessFlags := 0, nameIndex := 5, descriptorIndex := 6, attributes := #[] }, { accessFlags := 0, nameIndex := 91, descriptorIndex := 92, attributes := #[] }, { accessFlags := 0, nameIndex := 96, descriptorIndex := 97, attributes := #[] }, { accessFlags := 0, nameIndex := 98, descriptorIndex := 6, attributes := #[] }] 48 2 #[] #[{ accessFlags := 24, nameIndex := 84, descriptorIndex := 19, attributes := #[] }, { accessFlags := 18, nameIndex := 14, descriptorIndex := 15, attributes := #[] }, { accessFlags := 2, nameIndex := 28, descriptorIndex := 29, attributes := #[] }, { accessFlags := 2, nameIndex := 18, descriptorIndex := 19, attributes := #[] }, { accessFlags := 2, nameIndex := 40, descriptorIndex := 19, attributes := #[] }])
  fields := #[{ name := "MAX_BYTES", type := .int, accessFlags := 24, slot := 0, constantValue := 0 }, { name := "held", type := (.object "java/util/NavigableMap"), accessFlags := 18, slot := 0, constantValue := 0 }, { name := "bytes", type := .long, accessFlags := 2, slot := 1, constantValue := 0 }, { name := "highestCome", type := .int, accessFlags := 2, slot := 2, constantValue := 0 }, { name := "askedThrough", type := .int, accessFlags := 2, slot := 3, constantValue := 0 }]
  methods := #[k10m0, k10m1, k10m2, k10m3]
  instanceTypes := #[(.object "java/util/NavigableMap"), .long, .int, .int]
  staticTypes := #[.int]
  resolved := Array.replicate 107 none
  statics := none }

def pool11 : Array CpInfo := pool [(2, .class_ 4), (1, u "java/util/Map"), (31, .class_ 37), (0, u "java/util/Map$Entry"), (25, u "(Ljava/lang/Object;Ljava/lang/Object;)Ljava/lang/Object;"), (29, .class_ 94), (0, u "java/lang/Object"), (77, u "putIfAbsent")] 90

def k11c0 : Code := { maxStack := 3, maxLocals := 4, code := ⟨#[0x2a, 0x2b, 0xb9, 0x00, 0x01, 0x02, 0x00, 0x4e, 0x2d, 0xc7, 0x00, 0x0c, 0x2a, 0x2b, 0x2c, 0xb9, 0x00, 0x43, 0x03, 0x00, 0x4e, 0x2d, 0xb0]⟩, exceptionTable := #[], attributes := #[] }
def k11m0 : Method := { name := "putIfAbsent", desc := "(Ljava/lang/Object;Ljava/lang/Object;)Ljava/lang/Object;", sig := { parameters := [(.object "java/lang/Object"), (.object "java/lang/Object")], returnType := some (.object "java/lang/Object") }, accessFlags := 1, code := some k11c0 }
/-- java/util/Map -/
def k11 : Class := { plain "java/util/Map" (some 0) with
  accessFlags := 1537
  interfaces := #[]
  cf := some (fileOf pool11 2 #[.nestMembers #[36]] #[{ accessFlags := 1, nameIndex := 172, descriptorIndex := 63, attributes := #[] }] 1537 93 #[] #[])
  fields := #[]
  methods := #[k11m0]
  instanceTypes := #[]
  staticTypes := #[]
  resolved := Array.replicate 263 none
  statics := none }

def pool12 : Array CpInfo := pool [(1, .methodref 2 3), (0, .class_ 4), (0, .nameAndType 5 6), (0, u "java/lang/Object"), (0, u "<init>"), (0, u "()V"), (1, .class_ 10), (1, u "java/util/AbstractMap"), (42, .class_ 54), (0, u "java/util/Map"), (9, u "keySet"), (0, u "Ljava/util/Set;"), (0, .class_ 67), (0, u "java/util/AbstractMap$1"), (5, u "values"), (0, u "Ljava/util/Collection;"), (0, .class_ 76), (0, u "java/util/AbstractMap$2"), (104, .class_ 182), (0, u "java/util/AbstractMap$ViewCollection"), (0, .class_ 184), (0, u "java/util/AbstractMap$SimpleImmutableEntry"), (0, .class_ 186), (0, u "java/util/AbstractMap$SimpleEntry"), (0, .class_ 188), (0, u "java/util/AbstractMap$2$1"), (0, .class_ 190), (0, u "java/util/AbstractMap$1$1")] 5

def k12c0 : Code := { maxStack := 1, maxLocals := 1, code := jdk_71_method_1_code, exceptionTable := #[], attributes := #[] }
def k12m0 : Method := { name := "<init>", desc := "()V", sig := { parameters := [], returnType := none }, accessFlags := 4, code := some k12c0 }
/-- java/util/AbstractMap -/
def k12 : Class := { plain "java/util/AbstractMap" (some 0) with
  accessFlags := 1057
  interfaces := #[11]
  cf := some (fileOf pool12 8 #[.nestMembers #[181, 183, 185, 75, 187, 66, 189]] #[{ accessFlags := 4, nameIndex := 5, descriptorIndex := 6, attributes := #[] }] 1057 2 #[53] #[{ accessFlags := 128, nameIndex := 64, descriptorIndex := 65, attributes := #[] }, { accessFlags := 128, nameIndex := 73, descriptorIndex := 74, attributes := #[] }])
  fields := #[{ name := "keySet", type := (.object "java/util/Set"), accessFlags := 128, slot := 0, constantValue := 0 }, { name := "values", type := (.object "java/util/Collection"), accessFlags := 128, slot := 1, constantValue := 0 }]
  methods := #[k12m0]
  instanceTypes := #[(.object "java/util/Set"), (.object "java/util/Collection")]
  staticTypes := #[]
  resolved := Array.replicate 196 none
  statics := none }

def pool13 : Array CpInfo := pool [(2, .class_ 4), (1, u "java/util/SequencedMap"), (38, .class_ 44), (0, u "java/util/SequencedMap$1SeqKeySet"), (3, .class_ 49), (0, u "java/util/SequencedMap$1SeqValues"), (1, .class_ 52), (0, u "java/util/SequencedMap$1SeqEntrySet"), (1, .class_ 55), (0, u "java/lang/Object"), (0, .class_ 57), (0, u "java/util/Map")] 48

/-- java/util/SequencedMap -/
def k13 : Class := { plain "java/util/SequencedMap" (some 0) with
  accessFlags := 1537
  interfaces := #[11]
  cf := some (fileOf pool13 2 #[.nestMembers #[51, 48, 43]] #[] 1537 54 #[56] #[])
  fields := #[]
  methods := #[]
  instanceTypes := #[]
  staticTypes := #[]
  resolved := Array.replicate 106 none
  statics := none }

def pool14 : Array CpInfo := pool [(14, .class_ 16), (1, u "java/util/SortedMap"), (2, .class_ 20), (0, u "java/lang/Object"), (0, .class_ 22), (0, u "java/util/SequencedMap")] 50

/-- java/util/SortedMap -/
def k14 : Class := { plain "java/util/SortedMap" (some 0) with
  accessFlags := 1537
  interfaces := #[13]
  cf := some (fileOf pool14 14 #[] #[] 1537 19 #[21] #[])
  fields := #[]
  methods := #[]
  instanceTypes := #[]
  staticTypes := #[]
  resolved := Array.replicate 73 none
  statics := none }

def pool15 : Array CpInfo := pool [(2, .class_ 4), (1, u "java/util/NavigableMap"), (5, .class_ 11), (0, u "java/lang/Object"), (0, .class_ 13), (0, u "java/util/SortedMap")] 53

/-- java/util/NavigableMap -/
def k15 : Class := { plain "java/util/NavigableMap" (some 0) with
  accessFlags := 1537
  interfaces := #[14]
  cf := some (fileOf pool15 2 #[] #[] 1537 10 #[12] #[])
  fields := #[]
  methods := #[]
  instanceTypes := #[]
  staticTypes := #[]
  resolved := Array.replicate 67 none
  statics := none }

def pool16 : Array CpInfo := pool [(1, .class_ 2), (0, u "java/lang/Cloneable"), (0, .class_ 4), (0, u "java/lang/Object")] 2

/-- java/lang/Cloneable -/
def k16 : Class := { plain "java/lang/Cloneable" (some 0) with
  accessFlags := 1537
  interfaces := #[]
  cf := some (fileOf pool16 1 #[] #[] 1537 3 #[] #[])
  fields := #[]
  methods := #[]
  instanceTypes := #[]
  staticTypes := #[]
  resolved := Array.replicate 7 none
  statics := none }

def pool17 : Array CpInfo := pool [(1, .methodref 2 3), (0, .class_ 4), (0, .nameAndType 5 6), (0, u "java/util/AbstractMap"), (0, u "<init>"), (0, u "()V"), (0, .fieldref 8 9), (0, .class_ 10), (0, .nameAndType 11 12), (0, u "java/util/TreeMap"), (0, u "size"), (0, u "I"), (0, .fieldref 8 14), (0, .nameAndType 15 12), (0, u "modCount"), (0, .fieldref 8 17), (0, .nameAndType 18 19), (0, u "comparator"), (0, u "Ljava/util/Comparator;"), (14, u "entrySet"), (23, .fieldref 59 60), (0, .class_ 61), (0, .nameAndType 62 63), (0, u "java/util/TreeMap$Entry"), (0, u "value"), (0, u "Ljava/lang/Object;"), (10, u "key"), (11, .class_ 88), (1, u "java/util/Objects"), (6, .methodref 86 96), (0, .nameAndType 97 98), (0, u "requireNonNull"), (0, u "(Ljava/lang/Object;)Ljava/lang/Object;"), (0, .class_ 100), (0, u "java/lang/Comparable"), (0, .fieldref 8 102), (0, .nameAndType 103 104), (0, u "root"), (0, u "Ljava/util/TreeMap$Entry;"), (0, .fieldref 59 106), (0, .nameAndType 74 63), (0, .interfaceMethodref 99 108), (0, .nameAndType 109 110), (0, u "compareTo"), (0, u "(Ljava/lang/Object;)I"), (0, .fieldref 59 112), (0, .nameAndType 113 104), (0, u "left"), (0, .fieldref 59 115), (0, .nameAndType 116 104), (0, u "right"), (2, .nameAndType 121 122), (1, u "compare"), (0, u "(Ljava/lang/Object;Ljava/lang/Object;)I"), (0, .methodref 8 119), (0, .fieldref 59 125), (0, .nameAndType 126 104), (0, u "parent"), (0, .methodref 8 128), (0, .nameAndType 129 130), (0, u "put"), (0, u "(Ljava/lang/Object;Ljava/lang/Object;Z)Ljava/lang/Object;"), (4, .methodref 8 136), (0, .nameAndType 137 138), (0, u "addEntryToEmptyMap"), (0, u "(Ljava/lang/Object;Ljava/lang/Object;)V"), (0, .methodref 8 140), (0, .nameAndType 141 142), (0, u "addEntry"), (0, u "(Ljava/lang/Object;Ljava/lang/Object;Ljava/util/TreeMap$Entry;Z)V"), (23, u "(Ljava/lang/Object;Ljava/lang/Object;)Ljava/lang/Object;"), (0, .methodref 59 168), (0, .nameAndType 5 169), (0, u "(Ljava/lang/Object;Ljava/lang/Object;Ljava/util/TreeMap$Entry;)V"), (0, .methodref 8 171), (0, .nameAndType 172 173), (0, u "fixAfterInsertion"), (0, u "(Ljava/util/TreeMap$Entry;)V"), (16, u "Ljava/util/TreeMap$EntrySet;"), (2, u "navigableKeySet"), (0, u "Ljava/util/TreeMap$KeySet;"), (2, u "descendingMap"), (0, u "Ljava/util/NavigableMap;"), (23, .class_ 223), (0, u "java/util/TreeMap$KeySet"), (7, .class_ 232), (0, u "java/util/NavigableMap"), (4, .class_ 238), (0, u "java/util/TreeMap$Values"), (3, .class_ 243), (0, u "java/util/TreeMap$EntrySet"), (1, .class_ 246), (0, u "java/util/TreeMap$DescendingSubMap"), (3, .class_ 251), (0, u "java/util/TreeMap$AscendingSubMap"), (17, .class_ 270), (0, u "java/util/TreeMap$KeyIterator"), (3, .class_ 275), (0, u "java/util/TreeMap$DescendingKeyIterator"), (14, .fieldref 59 291), (0, .nameAndType 292 293), (0, u "color"), (0, u "Z"), (94, .class_ 389), (0, u "java/util/TreeMap$NavigableSubMap"), (1, .class_ 392), (0, u "java/util/TreeMap$KeySpliterator"), (3, .class_ 397), (0, u "java/util/TreeMap$DescendingKeySpliterator"), (4, u "UNBOUNDED"), (0, .class_ 404), (0, u "java/lang/Cloneable"), (0, .class_ 406), (0, u "java/io/Serializable"), (6, u "RED"), (2, u "BLACK"), (1, u "serialVersionUID"), (0, u "J"), (46, u "putIfAbsent"), (167, .class_ 635), (0, u "java/util/TreeMap$EntrySpliterator"), (0, .class_ 637), (0, u "java/util/TreeMap$ValueSpliterator"), (0, .class_ 639), (0, u "java/util/TreeMap$TreeMapSpliterator"), (0, .class_ 641), (0, u "java/util/TreeMap$SubMap"), (0, .class_ 643), (0, u "java/util/TreeMap$DescendingSubMap$DescendingEntrySetView"), (0, .class_ 645), (0, u "java/util/TreeMap$AscendingSubMap$AscendingEntrySetView"), (0, .class_ 647), (0, u "java/util/TreeMap$NavigableSubMap$DescendingSubMapKeyIterator"), (0, .class_ 649), (0, u "java/util/TreeMap$NavigableSubMap$SubMapKeyIterator"), (0, .class_ 651), (0, u "java/util/TreeMap$NavigableSubMap$DescendingSubMapEntryIterator"), (0, .class_ 653), (0, u "java/util/TreeMap$NavigableSubMap$SubMapEntryIterator"), (0, .class_ 655), (0, u "java/util/TreeMap$NavigableSubMap$SubMapIterator"), (0, .class_ 657), (0, u "java/util/TreeMap$NavigableSubMap$EntrySetView"), (0, .class_ 659), (0, u "java/util/TreeMap$ValueIterator"), (0, .class_ 661), (0, u "java/util/TreeMap$EntryIterator"), (0, .class_ 663), (0, u "java/util/TreeMap$PrivateEntryIterator")] 28

def k17c0 : Code := { maxStack := 2, maxLocals := 1, code := jdk_2729_method_1_code, exceptionTable := #[], attributes := #[] }
def k17m0 : Method := { name := "<init>", desc := "()V", sig := { parameters := [], returnType := none }, accessFlags := 1, code := some k17c0 }
def k17c1 : Code := { maxStack := 4, maxLocals := 3, code := jdk_2729_method_22_code, exceptionTable := #[], attributes := #[] }
def k17m1 : Method := { name := "putIfAbsent", desc := "(Ljava/lang/Object;Ljava/lang/Object;)Ljava/lang/Object;", sig := { parameters := [(.object "java/lang/Object"), (.object "java/lang/Object")], returnType := some (.object "java/lang/Object") }, accessFlags := 1, code := some k17c1 }
def k17c2 : Code := { maxStack := 5, maxLocals := 6, code := jdk_2729_method_29_code, exceptionTable := #[], attributes := #[] }
def k17m2 : Method := { name := "addEntry", desc := "(Ljava/lang/Object;Ljava/lang/Object;Ljava/util/TreeMap$Entry;Z)V", sig := { parameters := [(.object "java/lang/Object"), (.object "java/lang/Object"), (.object "java/util/TreeMap$Entry"), .boolean], returnType := none }, accessFlags := 2, code := some k17c2 }
def k17c3 : Code := { maxStack := 6, maxLocals := 3, code := jdk_2729_method_30_code, exceptionTable := #[], attributes := #[] }
def k17m3 : Method := { name := "addEntryToEmptyMap", desc := "(Ljava/lang/Object;Ljava/lang/Object;)V", sig := { parameters := [(.object "java/lang/Object"), (.object "java/lang/Object")], returnType := none }, accessFlags := 2, code := some k17c3 }
def k17c4 : Code := { maxStack := 5, maxLocals := 10, code := jdk_2729_method_31_code, exceptionTable := #[], attributes := #[] }
def k17m4 : Method := { name := "put", desc := "(Ljava/lang/Object;Ljava/lang/Object;Z)Ljava/lang/Object;", sig := { parameters := [(.object "java/lang/Object"), (.object "java/lang/Object"), .boolean], returnType := some (.object "java/lang/Object") }, accessFlags := 2, code := some k17c4 }
def k17c5 : Code := { maxStack := 3, maxLocals := 3, code := jdk_2729_method_67_code, exceptionTable := #[], attributes := #[] }
def k17m5 : Method := { name := "compare", desc := "(Ljava/lang/Object;Ljava/lang/Object;)I", sig := { parameters := [(.object "java/lang/Object"), (.object "java/lang/Object")], returnType := some .int }, accessFlags := 16, code := some k17c5 }
def k17c6 : Code := { maxStack := 2, maxLocals := 3, code := jdk_2729_method_83_code, exceptionTable := #[], attributes := #[] }
def k17m6 : Method := { name := "fixAfterInsertion", desc := "(Ljava/util/TreeMap$Entry;)V", sig := { parameters := [(.object "java/util/TreeMap$Entry")], returnType := none }, accessFlags := 2, code := some k17c6 }
/-- java/util/TreeMap -/
def k17 : Class := { plain "java/util/TreeMap" (some 12) with
  accessFlags := 33
  interfaces := #[15, 16, 6]
  cf := some (fileOf pool17 8 #[.nestMembers #[634, 636, 396, 391, 638, 59, 640, 245, 642, 250, 644, 388, 646, 648, 650, 652, 654, 656, 274, 269, 658, 660, 662, 222, 242, 237]] #[{ accessFlags := 1, nameIndex := 5, descriptorIndex := 6, attributes := #[] }, { accessFlags := 1, nameIndex := 466, descriptorIndex := 166, attributes := #[] }, { accessFlags := 2, nameIndex := 141, descriptorIndex := 142, attributes := #[] }, { accessFlags := 2, nameIndex := 137, descriptorIndex := 138, attributes := #[] }, { accessFlags := 2, nameIndex := 129, descriptorIndex := 130, attributes := #[] }, { accessFlags := 16, nameIndex := 121, descriptorIndex := 122, attributes := #[] }, { accessFlags := 2, nameIndex := 172, descriptorIndex := 173, attributes := #[] }] 33 2 #[231, 403, 405] #[{ accessFlags := 18, nameIndex := 18, descriptorIndex := 19, attributes := #[] }, { accessFlags := 130, nameIndex := 103, descriptorIndex := 104, attributes := #[] }, { accessFlags := 130, nameIndex := 11, descriptorIndex := 12, attributes := #[] }, { accessFlags := 130, nameIndex := 15, descriptorIndex := 12, attributes := #[] }, { accessFlags := 130, nameIndex := 34, descriptorIndex := 190, attributes := #[] }, { accessFlags := 130, nameIndex := 193, descriptorIndex := 194, attributes := #[] }, { accessFlags := 130, nameIndex := 197, descriptorIndex := 198, attributes := #[] }, { accessFlags := 26, nameIndex := 402, descriptorIndex := 63, attributes := #[] }, { accessFlags := 26, nameIndex := 413, descriptorIndex := 293, attributes := #[] }, { accessFlags := 26, nameIndex := 416, descriptorIndex := 293, attributes := #[] }, { accessFlags := 26, nameIndex := 418, descriptorIndex := 419, attributes := #[] }])
  fields := #[{ name := "comparator", type := (.object "java/util/Comparator"), accessFlags := 18, slot := 2, constantValue := 0 }, { name := "root", type := (.object "java/util/TreeMap$Entry"), accessFlags := 130, slot := 3, constantValue := 0 }, { name := "size", type := .int, accessFlags := 130, slot := 4, constantValue := 0 }, { name := "modCount", type := .int, accessFlags := 130, slot := 5, constantValue := 0 }, { name := "entrySet", type := (.object "java/util/TreeMap$EntrySet"), accessFlags := 130, slot := 6, constantValue := 0 }, { name := "navigableKeySet", type := (.object "java/util/TreeMap$KeySet"), accessFlags := 130, slot := 7, constantValue := 0 }, { name := "descendingMap", type := (.object "java/util/NavigableMap"), accessFlags := 130, slot := 8, constantValue := 0 }, { name := "UNBOUNDED", type := (.object "java/lang/Object"), accessFlags := 26, slot := 0, constantValue := 0 }, { name := "RED", type := .boolean, accessFlags := 26, slot := 1, constantValue := 0 }, { name := "BLACK", type := .boolean, accessFlags := 26, slot := 2, constantValue := 0 }, { name := "serialVersionUID", type := .long, accessFlags := 26, slot := 3, constantValue := 0 }]
  methods := #[k17m0, k17m1, k17m2, k17m3, k17m4, k17m5, k17m6]
  instanceTypes := #[(.object "java/util/Set"), (.object "java/util/Collection"), (.object "java/util/Comparator"), (.object "java/util/TreeMap$Entry"), .int, .int, (.object "java/util/TreeMap$EntrySet"), (.object "java/util/TreeMap$KeySet"), (.object "java/util/NavigableMap")]
  staticTypes := #[(.object "java/lang/Object"), .boolean, .boolean, .long]
  resolved := Array.replicate 692 none
  statics := none }

def pool18 : Array CpInfo := pool [(1, .methodref 2 3), (0, .class_ 4), (0, .nameAndType 5 6), (0, u "java/lang/Object"), (0, u "<init>"), (0, u "()V"), (1, .class_ 10), (1, u "java/lang/Number"), (2, .class_ 14), (0, u "java/io/Serializable"), (0, u "serialVersionUID"), (0, u "J")] 20

def k18c0 : Code := { maxStack := 1, maxLocals := 1, code := jdk_18_method_1_code, exceptionTable := #[], attributes := #[] }
def k18m0 : Method := { name := "<init>", desc := "()V", sig := { parameters := [], returnType := none }, accessFlags := 1, code := some k18c0 }
/-- java/lang/Number -/
def k18 : Class := { plain "java/lang/Number" (some 0) with
  accessFlags := 1057
  interfaces := #[6]
  cf := some (fileOf pool18 8 #[] #[{ accessFlags := 1, nameIndex := 5, descriptorIndex := 6, attributes := #[] }] 1057 2 #[13] #[{ accessFlags := 26, nameIndex := 15, descriptorIndex := 16, attributes := #[] }])
  fields := #[{ name := "serialVersionUID", type := .long, accessFlags := 26, slot := 0, constantValue := 0 }]
  methods := #[k18m0]
  instanceTypes := #[]
  staticTypes := #[.long]
  resolved := Array.replicate 37 none
  statics := none }

def pool19 : Array CpInfo := pool [(1, .class_ 2), (0, u "java/lang/constant/ConstantDesc"), (0, .class_ 4), (0, u "java/lang/Object")] 32

/-- java/lang/constant/ConstantDesc -/
def k19 : Class := { plain "java/lang/constant/ConstantDesc" (some 0) with
  accessFlags := 1537
  interfaces := #[]
  cf := some (fileOf pool19 1 #[] #[] 1537 3 #[] #[])
  fields := #[]
  methods := #[]
  instanceTypes := #[]
  staticTypes := #[]
  resolved := Array.replicate 37 none
  statics := none }

def pool20 : Array CpInfo := pool [(1, .class_ 2), (0, u "java/lang/Integer"), (16, u "digits"), (0, u "[C"), (39, u "(II)I"), (6, u "<init>"), (17, u "DigitOnes"), (0, u "[B"), (2, u "DigitTens"), (10, .nameAndType 67 101), (0, u "()V"), (85, u "valueOf"), (0, u "(I)Ljava/lang/Integer;"), (0, .class_ 190), (0, u "java/lang/Integer$IntegerCache"), (0, .fieldref 189 192), (0, .nameAndType 193 194), (0, u "high"), (0, u "I"), (0, .fieldref 189 196), (0, .nameAndType 197 198), (0, u "cache"), (0, u "[Ljava/lang/Integer;"), (0, .methodref 1 200), (0, .nameAndType 67 201), (0, u "(I)V"), (0, .methodref 203 100), (0, .class_ 204), (0, u "java/lang/Number"), (0, .fieldref 1 206), (0, .nameAndType 207 194), (0, u "value"), (51, .methodref 1 260), (0, .nameAndType 261 60), (0, u "compare"), (22, .methodref 1 285), (0, .nameAndType 286 287), (0, u "compareTo"), (0, u "(Ljava/lang/Integer;)I"), (14, u "TYPE"), (0, u "Ljava/lang/Class;"), (0, .class_ 305), (0, u "java/lang/Comparable"), (0, .class_ 307), (0, u "java/lang/constant/Constable"), (0, .class_ 309), (0, u "java/lang/constant/ConstantDesc"), (0, u "MIN_VALUE"), (1, u "MAX_VALUE"), (3, u "SIZE"), (1, u "BYTES"), (1, u "serialVersionUID"), (0, u "J"), (113, u "(Ljava/lang/Object;)I")] 17

def k20c0 : Code := { maxStack := 3, maxLocals := 1, code := jdk_33_method_22_code, exceptionTable := #[], attributes := #[] }
def k20m0 : Method := { name := "valueOf", desc := "(I)Ljava/lang/Integer;", sig := { parameters := [.int], returnType := some (.object "java/lang/Integer") }, accessFlags := 9, code := some k20c0 }
def k20c1 : Code := { maxStack := 2, maxLocals := 2, code := jdk_33_method_23_code, exceptionTable := #[], attributes := #[] }
def k20m1 : Method := { name := "<init>", desc := "(I)V", sig := { parameters := [.int], returnType := none }, accessFlags := 1, code := some k20c1 }
def k20c2 : Code := { maxStack := 2, maxLocals := 2, code := jdk_33_method_39_code, exceptionTable := #[], attributes := #[] }
def k20m2 : Method := { name := "compareTo", desc := "(Ljava/lang/Integer;)I", sig := { parameters := [(.object "java/lang/Integer")], returnType := some .int }, accessFlags := 1, code := some k20c2 }
def k20c3 : Code := { maxStack := 2, maxLocals := 2, code := jdk_33_method_40_code, exceptionTable := #[], attributes := #[] }
def k20m3 : Method := { name := "compare", desc := "(II)I", sig := { parameters := [.int, .int], returnType := some .int }, accessFlags := 9, code := some k20c3 }
def k20c4 : Code := { maxStack := 2, maxLocals := 2, code := jdk_33_method_63_code, exceptionTable := #[], attributes := #[] }
def k20m4 : Method := { name := "compareTo", desc := "(Ljava/lang/Object;)I", sig := { parameters := [(.object "java/lang/Object")], returnType := some .int }, accessFlags := 4161, code := some k20c4 }
/-- java/lang/Integer -/
def k20 : Class := { plain "java/lang/Integer" (some 18) with
  accessFlags := 49
  interfaces := #[5, 4, 19]
  cf := some (fileOf pool20 1 #[.nestMembers #[189]] #[{ accessFlags := 9, nameIndex := 187, descriptorIndex := 188, attributes := #[] }, { accessFlags := 1, nameIndex := 67, descriptorIndex := 201, attributes := #[] }, { accessFlags := 1, nameIndex := 286, descriptorIndex := 287, attributes := #[] }, { accessFlags := 9, nameIndex := 261, descriptorIndex := 60, attributes := #[] }, { accessFlags := 4161, nameIndex := 286, descriptorIndex := 435, attributes := #[] }] 49 203 #[304, 306, 308] #[{ accessFlags := 25, nameIndex := 310, descriptorIndex := 194, attributes := #[] }, { accessFlags := 25, nameIndex := 312, descriptorIndex := 194, attributes := #[] }, { accessFlags := 25, nameIndex := 302, descriptorIndex := 303, attributes := #[] }, { accessFlags := 24, nameIndex := 19, descriptorIndex := 20, attributes := #[] }, { accessFlags := 24, nameIndex := 89, descriptorIndex := 86, attributes := #[] }, { accessFlags := 24, nameIndex := 85, descriptorIndex := 86, attributes := #[] }, { accessFlags := 18, nameIndex := 207, descriptorIndex := 194, attributes := #[] }, { accessFlags := 25, nameIndex := 316, descriptorIndex := 194, attributes := #[] }, { accessFlags := 25, nameIndex := 318, descriptorIndex := 194, attributes := #[] }, { accessFlags := 26, nameIndex := 320, descriptorIndex := 321, attributes := #[] }])
  fields := #[{ name := "MIN_VALUE", type := .int, accessFlags := 25, slot := 0, constantValue := 0 }, { name := "MAX_VALUE", type := .int, accessFlags := 25, slot := 1, constantValue := 0 }, { name := "TYPE", type := (.object "java/lang/Class"), accessFlags := 25, slot := 2, constantValue := 0 }, { name := "digits", type := (.array .char), accessFlags := 24, slot := 3, constantValue := 0 }, { name := "DigitTens", type := (.array .byte), accessFlags := 24, slot := 4, constantValue := 0 }, { name := "DigitOnes", type := (.array .byte), accessFlags := 24, slot := 5, constantValue := 0 }, { name := "value", type := .int, accessFlags := 18, slot := 0, constantValue := 0 }, { name := "SIZE", type := .int, accessFlags := 25, slot := 6, constantValue := 0 }, { name := "BYTES", type := .int, accessFlags := 25, slot := 7, constantValue := 0 }, { name := "serialVersionUID", type := .long, accessFlags := 26, slot := 8, constantValue := 0 }]
  methods := #[k20m0, k20m1, k20m2, k20m3, k20m4]
  instanceTypes := #[.int]
  staticTypes := #[.int, .int, (.object "java/lang/Class"), (.array .char), (.array .byte), (.array .byte), .int, .int, .long]
  resolved := Array.replicate 453 none
  statics := none }

def pool21 : Array CpInfo := pool [(2, .class_ 4), (1, u "java/lang/Object"), (0, u "<init>"), (0, u "()V"), (0, .class_ 8), (0, u "java/lang/Integer"), (7, .class_ 18), (1, u "java/lang/Integer$IntegerCache"), (0, u "$assertionsDisabled"), (0, u "Z"), (26, u "high"), (0, u "I"), (8, u "archivedCache"), (0, u "[Ljava/lang/Integer;"), (12, u "cache"), (0, u "low")] 27

def k21m0 : Method := { name := "<init>", desc := "()V", sig := { parameters := [], returnType := none }, accessFlags := 2, code := none }
/-- java/lang/Integer$IntegerCache -/
def k21 : Class := { plain "java/lang/Integer$IntegerCache" (some 0) with
  accessFlags := 48
  interfaces := #[]
  cf := some (fileOf pool21 16 #[.nestHost 7] #[{ accessFlags := 2, nameIndex := 5, descriptorIndex := 6, attributes := #[] }] 48 2 #[] #[{ accessFlags := 24, nameIndex := 72, descriptorIndex := 48, attributes := #[] }, { accessFlags := 24, nameIndex := 47, descriptorIndex := 48, attributes := #[] }, { accessFlags := 24, nameIndex := 71, descriptorIndex := 58, attributes := #[] }, { accessFlags := 8, nameIndex := 57, descriptorIndex := 58, attributes := #[] }, { accessFlags := 4120, nameIndex := 19, descriptorIndex := 20, attributes := #[] }])
  fields := #[{ name := "low", type := .int, accessFlags := 24, slot := 0, constantValue := 0 }, { name := "high", type := .int, accessFlags := 24, slot := 1, constantValue := 0 }, { name := "cache", type := (.array (.object "java/lang/Integer")), accessFlags := 24, slot := 2, constantValue := 0 }, { name := "archivedCache", type := (.array (.object "java/lang/Integer")), accessFlags := 8, slot := 3, constantValue := 0 }, { name := "$assertionsDisabled", type := .boolean, accessFlags := 4120, slot := 4, constantValue := 0 }]
  methods := #[k21m0]
  instanceTypes := #[]
  staticTypes := #[.int, .int, (.array (.object "java/lang/Integer")), (.array (.object "java/lang/Integer")), .boolean]
  resolved := Array.replicate 100 none
  statics := some 2 }

def pool22 : Array CpInfo := pool [(1, .methodref 2 3), (0, .class_ 4), (0, .nameAndType 5 6), (0, u "java/lang/Object"), (0, u "<init>"), (0, u "()V"), (0, .class_ 8), (0, u "java/lang/Record")] 13

def k22c0 : Code := { maxStack := 1, maxLocals := 1, code := jdk_30_method_1_code, exceptionTable := #[], attributes := #[] }
def k22m0 : Method := { name := "<init>", desc := "()V", sig := { parameters := [], returnType := none }, accessFlags := 4, code := some k22c0 }
/-- java/lang/Record -/
def k22 : Class := { plain "java/lang/Record" (some 0) with
  accessFlags := 1057
  interfaces := #[]
  cf := some (fileOf pool22 7 #[] #[{ accessFlags := 4, nameIndex := 5, descriptorIndex := 6, attributes := #[] }] 1057 2 #[] #[])
  fields := #[]
  methods := #[k22m0]
  instanceTypes := #[]
  staticTypes := #[]
  resolved := Array.replicate 22 none
  statics := none }

def pool23 : Array CpInfo := pool [(1, .methodref 2 3), (0, .class_ 4), (0, .nameAndType 5 6), (0, u "java/lang/Record"), (0, u "<init>"), (0, u "()V"), (0, .fieldref 8 9), (0, .class_ 10), (0, .nameAndType 11 12), (0, u "com/example/halyard/halyard/gateway/HeldMessages$Held"), (0, u "message"), (0, u "Lcom/example/halyard/halyard/fix/FixMessage;"), (0, .fieldref 8 14), (0, .nameAndType 15 16), (0, u "answered"), (0, u "Z"), (12, u "(Lcom/example/halyard/halyard/fix/FixMessage;Z)V"), (11, .class_ 42), (0, u "com/example/halyard/halyard/gateway/HeldMessages")] 20

def k23c0 : Code := { maxStack := 2, maxLocals := 3, code := prog_44_method_1_code, exceptionTable := #[], attributes := #[] }
def k23m0 : Method := { name := "<init>", desc := "(Lcom/example/halyard/halyard/fix/FixMessage;Z)V", sig := { parameters := [(.object "com/example/halyard/halyard/fix/FixMessage"), .boolean], returnType := none }, accessFlags := 0, code := some k23c0 }
/-- com/example/halyard/halyard/gateway/HeldMessages$Held -/
def k23 : Class := { plain "com/example/halyard/halyard/gateway/HeldMessages$Held" (some 22) with
  accessFlags := 48
  interfaces := #[]
  cf := some (fileOf pool23 8 #[.nestHost 41] #[{ accessFlags := 0, nameIndex := 5, descriptorIndex := 29, attributes := #[] }] 48 2 #[] #[{ accessFlags := 18, nameIndex := 11, descriptorIndex := 12, attributes := #[] }, { accessFlags := 18, nameIndex := 15, descriptorIndex := 16, attributes := #[] }])
  fields := #[{ name := "message", type := (.object "com/example/halyard/halyard/fix/FixMessage"), accessFlags := 18, slot := 0, constantValue := 0 }, { name := "answered", type := .boolean, accessFlags := 18, slot := 1, constantValue := 0 }]
  methods := #[k23m0]
  instanceTypes := #[(.object "com/example/halyard/halyard/fix/FixMessage"), .boolean]
  staticTypes := #[]
  resolved := Array.replicate 63 none
  statics := none }

def pool24 : Array CpInfo := pool [(23, .class_ 25), (1, u "java/util/Map$Entry"), (6, .class_ 34), (1, u "java/util/Map"), (34, .class_ 70), (0, u "java/lang/Object")] 107

/-- java/util/Map$Entry -/
def k24 : Class := { plain "java/util/Map$Entry" (some 0) with
  accessFlags := 1537
  interfaces := #[]
  cf := some (fileOf pool24 23 #[.nestHost 32] #[] 1537 69 #[] #[])
  fields := #[]
  methods := #[]
  instanceTypes := #[]
  staticTypes := #[]
  resolved := Array.replicate 178 none
  statics := none }

def pool25 : Array CpInfo := pool [(1, .class_ 2), (0, u "java/util/TreeMap"), (0, .methodref 4 5), (0, .class_ 6), (0, .nameAndType 7 8), (0, u "java/lang/Object"), (0, u "<init>"), (0, u "()V"), (0, .fieldref 10 11), (0, .class_ 12), (0, .nameAndType 13 14), (0, u "java/util/TreeMap$Entry"), (0, u "color"), (0, u "Z"), (0, .fieldref 10 16), (0, .nameAndType 17 18), (0, u "key"), (0, u "Ljava/lang/Object;"), (0, .fieldref 10 20), (0, .nameAndType 21 18), (0, u "value"), (0, .fieldref 10 23), (0, .nameAndType 24 25), (0, u "parent"), (0, u "Ljava/util/TreeMap$Entry;"), (0, .class_ 27), (0, u "java/util/Map$Entry"), (34, u "left"), (1, u "right"), (0, u "(Ljava/lang/Object;Ljava/lang/Object;Ljava/util/TreeMap$Entry;)V")] 30

def k25c0 : Code := { maxStack := 2, maxLocals := 4, code := jdk_2736_method_1_code, exceptionTable := #[], attributes := #[] }
def k25m0 : Method := { name := "<init>", desc := "(Ljava/lang/Object;Ljava/lang/Object;Ljava/util/TreeMap$Entry;)V", sig := { parameters := [(.object "java/lang/Object"), (.object "java/lang/Object"), (.object "java/util/TreeMap$Entry")], returnType := none }, accessFlags := 0, code := some k25c0 }
/-- java/util/TreeMap$Entry -/
def k25 : Class := { plain "java/util/TreeMap$Entry" (some 0) with
  accessFlags := 48
  interfaces := #[24]
  cf := some (fileOf pool25 10 #[.nestHost 1] #[{ accessFlags := 0, nameIndex := 7, descriptorIndex := 65, attributes := #[] }] 48 4 #[26] #[{ accessFlags := 0, nameIndex := 17, descriptorIndex := 18, attributes := #[] }, { accessFlags := 0, nameIndex := 21, descriptorIndex := 18, attributes := #[] }, { accessFlags := 0, nameIndex := 62, descriptorIndex := 25, attributes := #[] }, { accessFlags := 0, nameIndex := 64, descriptorIndex := 25, attributes := #[] }, { accessFlags := 0, nameIndex := 24, descriptorIndex := 25, attributes := #[] }, { accessFlags := 0, nameIndex := 13, descriptorIndex := 14, attributes := #[] }])
  fields := #[{ name := "key", type := (.object "java/lang/Object"), accessFlags := 0, slot := 0, constantValue := 0 }, { name := "value", type := (.object "java/lang/Object"), accessFlags := 0, slot := 1, constantValue := 0 }, { name := "left", type := (.object "java/util/TreeMap$Entry"), accessFlags := 0, slot := 2, constantValue := 0 }, { name := "right", type := (.object "java/util/TreeMap$Entry"), accessFlags := 0, slot := 3, constantValue := 0 }, { name := "parent", type := (.object "java/util/TreeMap$Entry"), accessFlags := 0, slot := 4, constantValue := 0 }, { name := "color", type := .boolean, accessFlags := 0, slot := 5, constantValue := 0 }]
  methods := #[k25m0]
  instanceTypes := #[(.object "java/lang/Object"), (.object "java/lang/Object"), (.object "java/util/TreeMap$Entry"), (.object "java/util/TreeMap$Entry"), (.object "java/util/TreeMap$Entry"), .boolean]
  staticTypes := #[]
  resolved := Array.replicate 96 none
  statics := none }

def pool26 : Array CpInfo := pool [(2, .class_ 4), (1, u "java/lang/Object"), (0, u "<init>"), (0, u "()V"), (35, .class_ 44), (1, u "java/util/Objects"), (0, u "requireNonNull"), (0, u "(Ljava/lang/Object;)Ljava/lang/Object;")] 137

def k26m0 : Method := { name := "<init>", desc := "()V", sig := { parameters := [], returnType := none }, accessFlags := 2, code := none }
def k26c1 : Code := { maxStack := 2, maxLocals := 1, code := jdk_31_method_10_code, exceptionTable := #[], attributes := #[] }
def k26m1 : Method := { name := "requireNonNull", desc := "(Ljava/lang/Object;)Ljava/lang/Object;", sig := { parameters := [(.object "java/lang/Object")], returnType := some (.object "java/lang/Object") }, accessFlags := 9, code := some k26c1 }
/-- java/util/Objects -/
def k26 : Class := { plain "java/util/Objects" (some 0) with
  accessFlags := 49
  interfaces := #[]
  cf := some (fileOf pool26 42 #[] #[{ accessFlags := 2, nameIndex := 5, descriptorIndex := 6, attributes := #[] }, { accessFlags := 9, nameIndex := 45, descriptorIndex := 46, attributes := #[] }] 49 2 #[] #[])
  fields := #[]
  methods := #[k26m0, k26m1]
  instanceTypes := #[]
  staticTypes := #[]
  resolved := Array.replicate 184 none
  statics := none }

/-- the primitive byte -/
def k27 : Class := { plain "byte" none with kind := .primitive 'B', accessFlags := 0x411 }
/-- [B -/
def k28 : Class := { plain "[B" (some 0) with kind := .array 27 .byte, interfaces := #[16, 6], accessFlags := 1041 }

/-- the primitive int -/
def k29 : Class := { plain "int" none with kind := .primitive 'I', accessFlags := 0x411 }
/-- [I -/
def k30 : Class := { plain "[I" (some 0) with kind := .array 29 .int, interfaces := #[16, 6], accessFlags := 1041 }

/-- [Lcom/example/halyard/halyard/fix/FixVersion; -/
def k31 : Class := { plain "[Lcom/example/halyard/halyard/fix/FixVersion;" (some 0) with kind := .array 8 (.object "com/example/halyard/halyard/fix/FixVersion"), interfaces := #[16, 6], accessFlags := 1041 }

/-- [Ljava/lang/Integer; -/
def k32 : Class := { plain "[Ljava/lang/Integer;" (some 0) with kind := .array 20 (.object "java/lang/Integer"), interfaces := #[16, 6], accessFlags := 1041 }

def heap : Heap := #[{ cls := 2, slots := #[.int 0, .int 0, .null, .ref 265, .int 0, .int 0], vm := .statics 2 },
  { cls := 8, slots := #[.ref 262, .ref 263, .ref 264, .null], vm := .statics 8 },
  { cls := 21, slots := #[.int 0, .int 127, .ref 259, .null, .int 0], vm := .statics 21 },
  { cls := 20, slots := #[.int (-128)], vm := .none },
  { cls := 20, slots := #[.int (-127)], vm := .none },
  { cls := 20, slots := #[.int (-126)], vm := .none },
  { cls := 20, slots := #[.int (-125)], vm := .none },
  { cls := 20, slots := #[.int (-124)], vm := .none },
  { cls := 20, slots := #[.int (-123)], vm := .none },
  { cls := 20, slots := #[.int (-122)], vm := .none },
  { cls := 20, slots := #[.int (-121)], vm := .none },
  { cls := 20, slots := #[.int (-120)], vm := .none },
  { cls := 20, slots := #[.int (-119)], vm := .none },
  { cls := 20, slots := #[.int (-118)], vm := .none },
  { cls := 20, slots := #[.int (-117)], vm := .none },
  { cls := 20, slots := #[.int (-116)], vm := .none },
  { cls := 20, slots := #[.int (-115)], vm := .none },
  { cls := 20, slots := #[.int (-114)], vm := .none },
  { cls := 20, slots := #[.int (-113)], vm := .none },
  { cls := 20, slots := #[.int (-112)], vm := .none },
  { cls := 20, slots := #[.int (-111)], vm := .none },
  { cls := 20, slots := #[.int (-110)], vm := .none },
  { cls := 20, slots := #[.int (-109)], vm := .none },
  { cls := 20, slots := #[.int (-108)], vm := .none },
  { cls := 20, slots := #[.int (-107)], vm := .none },
  { cls := 20, slots := #[.int (-106)], vm := .none },
  { cls := 20, slots := #[.int (-105)], vm := .none },
  { cls := 20, slots := #[.int (-104)], vm := .none },
  { cls := 20, slots := #[.int (-103)], vm := .none },
  { cls := 20, slots := #[.int (-102)], vm := .none },
  { cls := 20, slots := #[.int (-101)], vm := .none },
  { cls := 20, slots := #[.int (-100)], vm := .none },
  { cls := 20, slots := #[.int (-99)], vm := .none },
  { cls := 20, slots := #[.int (-98)], vm := .none },
  { cls := 20, slots := #[.int (-97)], vm := .none },
  { cls := 20, slots := #[.int (-96)], vm := .none },
  { cls := 20, slots := #[.int (-95)], vm := .none },
  { cls := 20, slots := #[.int (-94)], vm := .none },
  { cls := 20, slots := #[.int (-93)], vm := .none },
  { cls := 20, slots := #[.int (-92)], vm := .none },
  { cls := 20, slots := #[.int (-91)], vm := .none },
  { cls := 20, slots := #[.int (-90)], vm := .none },
  { cls := 20, slots := #[.int (-89)], vm := .none },
  { cls := 20, slots := #[.int (-88)], vm := .none },
  { cls := 20, slots := #[.int (-87)], vm := .none },
  { cls := 20, slots := #[.int (-86)], vm := .none },
  { cls := 20, slots := #[.int (-85)], vm := .none },
  { cls := 20, slots := #[.int (-84)], vm := .none },
  { cls := 20, slots := #[.int (-83)], vm := .none },
  { cls := 20, slots := #[.int (-82)], vm := .none },
  { cls := 20, slots := #[.int (-81)], vm := .none },
  { cls := 20, slots := #[.int (-80)], vm := .none },
  { cls := 20, slots := #[.int (-79)], vm := .none },
  { cls := 20, slots := #[.int (-78)], vm := .none },
  { cls := 20, slots := #[.int (-77)], vm := .none },
  { cls := 20, slots := #[.int (-76)], vm := .none },
  { cls := 20, slots := #[.int (-75)], vm := .none },
  { cls := 20, slots := #[.int (-74)], vm := .none },
  { cls := 20, slots := #[.int (-73)], vm := .none },
  { cls := 20, slots := #[.int (-72)], vm := .none },
  { cls := 20, slots := #[.int (-71)], vm := .none },
  { cls := 20, slots := #[.int (-70)], vm := .none },
  { cls := 20, slots := #[.int (-69)], vm := .none },
  { cls := 20, slots := #[.int (-68)], vm := .none },
  { cls := 20, slots := #[.int (-67)], vm := .none },
  { cls := 20, slots := #[.int (-66)], vm := .none },
  { cls := 20, slots := #[.int (-65)], vm := .none },
  { cls := 20, slots := #[.int (-64)], vm := .none },
  { cls := 20, slots := #[.int (-63)], vm := .none },
  { cls := 20, slots := #[.int (-62)], vm := .none },
  { cls := 20, slots := #[.int (-61)], vm := .none },
  { cls := 20, slots := #[.int (-60)], vm := .none },
  { cls := 20, slots := #[.int (-59)], vm := .none },
  { cls := 20, slots := #[.int (-58)], vm := .none },
  { cls := 20, slots := #[.int (-57)], vm := .none },
  { cls := 20, slots := #[.int (-56)], vm := .none },
  { cls := 20, slots := #[.int (-55)], vm := .none },
  { cls := 20, slots := #[.int (-54)], vm := .none },
  { cls := 20, slots := #[.int (-53)], vm := .none },
  { cls := 20, slots := #[.int (-52)], vm := .none },
  { cls := 20, slots := #[.int (-51)], vm := .none },
  { cls := 20, slots := #[.int (-50)], vm := .none },
  { cls := 20, slots := #[.int (-49)], vm := .none },
  { cls := 20, slots := #[.int (-48)], vm := .none },
  { cls := 20, slots := #[.int (-47)], vm := .none },
  { cls := 20, slots := #[.int (-46)], vm := .none },
  { cls := 20, slots := #[.int (-45)], vm := .none },
  { cls := 20, slots := #[.int (-44)], vm := .none },
  { cls := 20, slots := #[.int (-43)], vm := .none },
  { cls := 20, slots := #[.int (-42)], vm := .none },
  { cls := 20, slots := #[.int (-41)], vm := .none },
  { cls := 20, slots := #[.int (-40)], vm := .none },
  { cls := 20, slots := #[.int (-39)], vm := .none },
  { cls := 20, slots := #[.int (-38)], vm := .none },
  { cls := 20, slots := #[.int (-37)], vm := .none },
  { cls := 20, slots := #[.int (-36)], vm := .none },
  { cls := 20, slots := #[.int (-35)], vm := .none },
  { cls := 20, slots := #[.int (-34)], vm := .none },
  { cls := 20, slots := #[.int (-33)], vm := .none },
  { cls := 20, slots := #[.int (-32)], vm := .none },
  { cls := 20, slots := #[.int (-31)], vm := .none },
  { cls := 20, slots := #[.int (-30)], vm := .none },
  { cls := 20, slots := #[.int (-29)], vm := .none },
  { cls := 20, slots := #[.int (-28)], vm := .none },
  { cls := 20, slots := #[.int (-27)], vm := .none },
  { cls := 20, slots := #[.int (-26)], vm := .none },
  { cls := 20, slots := #[.int (-25)], vm := .none },
  { cls := 20, slots := #[.int (-24)], vm := .none },
  { cls := 20, slots := #[.int (-23)], vm := .none },
  { cls := 20, slots := #[.int (-22)], vm := .none },
  { cls := 20, slots := #[.int (-21)], vm := .none },
  { cls := 20, slots := #[.int (-20)], vm := .none },
  { cls := 20, slots := #[.int (-19)], vm := .none },
  { cls := 20, slots := #[.int (-18)], vm := .none },
  { cls := 20, slots := #[.int (-17)], vm := .none },
  { cls := 20, slots := #[.int (-16)], vm := .none },
  { cls := 20, slots := #[.int (-15)], vm := .none },
  { cls := 20, slots := #[.int (-14)], vm := .none },
  { cls := 20, slots := #[.int (-13)], vm := .none },
  { cls := 20, slots := #[.int (-12)], vm := .none },
  { cls := 20, slots := #[.int (-11)], vm := .none },
  { cls := 20, slots := #[.int (-10)], vm := .none },
  { cls := 20, slots := #[.int (-9)], vm := .none },
  { cls := 20, slots := #[.int (-8)], vm := .none },
  { cls := 20, slots := #[.int (-7)], vm := .none },
  { cls := 20, slots := #[.int (-6)], vm := .none },
  { cls := 20, slots := #[.int (-5)], vm := .none },
  { cls := 20, slots := #[.int (-4)], vm := .none },
  { cls := 20, slots := #[.int (-3)], vm := .none },
  { cls := 20, slots := #[.int (-2)], vm := .none },
  { cls := 20, slots := #[.int (-1)], vm := .none },
  { cls := 20, slots := #[.int 0], vm := .none },
  { cls := 20, slots := #[.int 1], vm := .none },
  { cls := 20, slots := #[.int 2], vm := .none },
  { cls := 20, slots := #[.int 3], vm := .none },
  { cls := 20, slots := #[.int 4], vm := .none },
  { cls := 20, slots := #[.int 5], vm := .none },
  { cls := 20, slots := #[.int 6], vm := .none },
  { cls := 20, slots := #[.int 7], vm := .none },
  { cls := 20, slots := #[.int 8], vm := .none },
  { cls := 20, slots := #[.int 9], vm := .none },
  { cls := 20, slots := #[.int 10], vm := .none },
  { cls := 20, slots := #[.int 11], vm := .none },
  { cls := 20, slots := #[.int 12], vm := .none },
  { cls := 20, slots := #[.int 13], vm := .none },
  { cls := 20, slots := #[.int 14], vm := .none },
  { cls := 20, slots := #[.int 15], vm := .none },
  { cls := 20, slots := #[.int 16], vm := .none },
  { cls := 20, slots := #[.int 17], vm := .none },
  { cls := 20, slots := #[.int 18], vm := .none },
  { cls := 20, slots := #[.int 19], vm := .none },
  { cls := 20, slots := #[.int 20], vm := .none },
  { cls := 20, slots := #[.int 21], vm := .none },
  { cls := 20, slots := #[.int 22], vm := .none },
  { cls := 20, slots := #[.int 23], vm := .none },
  { cls := 20, slots := #[.int 24], vm := .none },
  { cls := 20, slots := #[.int 25], vm := .none },
  { cls := 20, slots := #[.int 26], vm := .none },
  { cls := 20, slots := #[.int 27], vm := .none },
  { cls := 20, slots := #[.int 28], vm := .none },
  { cls := 20, slots := #[.int 29], vm := .none },
  { cls := 20, slots := #[.int 30], vm := .none },
  { cls := 20, slots := #[.int 31], vm := .none },
  { cls := 20, slots := #[.int 32], vm := .none },
  { cls := 20, slots := #[.int 33], vm := .none },
  { cls := 20, slots := #[.int 34], vm := .none },
  { cls := 20, slots := #[.int 35], vm := .none },
  { cls := 20, slots := #[.int 36], vm := .none },
  { cls := 20, slots := #[.int 37], vm := .none },
  { cls := 20, slots := #[.int 38], vm := .none },
  { cls := 20, slots := #[.int 39], vm := .none },
  { cls := 20, slots := #[.int 40], vm := .none },
  { cls := 20, slots := #[.int 41], vm := .none },
  { cls := 20, slots := #[.int 42], vm := .none },
  { cls := 20, slots := #[.int 43], vm := .none },
  { cls := 20, slots := #[.int 44], vm := .none },
  { cls := 20, slots := #[.int 45], vm := .none },
  { cls := 20, slots := #[.int 46], vm := .none },
  { cls := 20, slots := #[.int 47], vm := .none },
  { cls := 20, slots := #[.int 48], vm := .none },
  { cls := 20, slots := #[.int 49], vm := .none },
  { cls := 20, slots := #[.int 50], vm := .none },
  { cls := 20, slots := #[.int 51], vm := .none },
  { cls := 20, slots := #[.int 52], vm := .none },
  { cls := 20, slots := #[.int 53], vm := .none },
  { cls := 20, slots := #[.int 54], vm := .none },
  { cls := 20, slots := #[.int 55], vm := .none },
  { cls := 20, slots := #[.int 56], vm := .none },
  { cls := 20, slots := #[.int 57], vm := .none },
  { cls := 20, slots := #[.int 58], vm := .none },
  { cls := 20, slots := #[.int 59], vm := .none },
  { cls := 20, slots := #[.int 60], vm := .none },
  { cls := 20, slots := #[.int 61], vm := .none },
  { cls := 20, slots := #[.int 62], vm := .none },
  { cls := 20, slots := #[.int 63], vm := .none },
  { cls := 20, slots := #[.int 64], vm := .none },
  { cls := 20, slots := #[.int 65], vm := .none },
  { cls := 20, slots := #[.int 66], vm := .none },
  { cls := 20, slots := #[.int 67], vm := .none },
  { cls := 20, slots := #[.int 68], vm := .none },
  { cls := 20, slots := #[.int 69], vm := .none },
  { cls := 20, slots := #[.int 70], vm := .none },
  { cls := 20, slots := #[.int 71], vm := .none },
  { cls := 20, slots := #[.int 72], vm := .none },
  { cls := 20, slots := #[.int 73], vm := .none },
  { cls := 20, slots := #[.int 74], vm := .none },
  { cls := 20, slots := #[.int 75], vm := .none },
  { cls := 20, slots := #[.int 76], vm := .none },
  { cls := 20, slots := #[.int 77], vm := .none },
  { cls := 20, slots := #[.int 78], vm := .none },
  { cls := 20, slots := #[.int 79], vm := .none },
  { cls := 20, slots := #[.int 80], vm := .none },
  { cls := 20, slots := #[.int 81], vm := .none },
  { cls := 20, slots := #[.int 82], vm := .none },
  { cls := 20, slots := #[.int 83], vm := .none },
  { cls := 20, slots := #[.int 84], vm := .none },
  { cls := 20, slots := #[.int 85], vm := .none },
  { cls := 20, slots := #[.int 86], vm := .none },
  { cls := 20, slots := #[.int 87], vm := .none },
  { cls := 20, slots := #[.int 88], vm := .none },
  { cls := 20, slots := #[.int 89], vm := .none },
  { cls := 20, slots := #[.int 90], vm := .none },
  { cls := 20, slots := #[.int 91], vm := .none },
  { cls := 20, slots := #[.int 92], vm := .none },
  { cls := 20, slots := #[.int 93], vm := .none },
  { cls := 20, slots := #[.int 94], vm := .none },
  { cls := 20, slots := #[.int 95], vm := .none },
  { cls := 20, slots := #[.int 96], vm := .none },
  { cls := 20, slots := #[.int 97], vm := .none },
  { cls := 20, slots := #[.int 98], vm := .none },
  { cls := 20, slots := #[.int 99], vm := .none },
  { cls := 20, slots := #[.int 100], vm := .none },
  { cls := 20, slots := #[.int 101], vm := .none },
  { cls := 20, slots := #[.int 102], vm := .none },
  { cls := 20, slots := #[.int 103], vm := .none },
  { cls := 20, slots := #[.int 104], vm := .none },
  { cls := 20, slots := #[.int 105], vm := .none },
  { cls := 20, slots := #[.int 106], vm := .none },
  { cls := 20, slots := #[.int 107], vm := .none },
  { cls := 20, slots := #[.int 108], vm := .none },
  { cls := 20, slots := #[.int 109], vm := .none },
  { cls := 20, slots := #[.int 110], vm := .none },
  { cls := 20, slots := #[.int 111], vm := .none },
  { cls := 20, slots := #[.int 112], vm := .none },
  { cls := 20, slots := #[.int 113], vm := .none },
  { cls := 20, slots := #[.int 114], vm := .none },
  { cls := 20, slots := #[.int 115], vm := .none },
  { cls := 20, slots := #[.int 116], vm := .none },
  { cls := 20, slots := #[.int 117], vm := .none },
  { cls := 20, slots := #[.int 118], vm := .none },
  { cls := 20, slots := #[.int 119], vm := .none },
  { cls := 20, slots := #[.int 120], vm := .none },
  { cls := 20, slots := #[.int 121], vm := .none },
  { cls := 20, slots := #[.int 122], vm := .none },
  { cls := 20, slots := #[.int 123], vm := .none },
  { cls := 20, slots := #[.int 124], vm := .none },
  { cls := 20, slots := #[.int 125], vm := .none },
  { cls := 20, slots := #[.int 126], vm := .none },
  { cls := 20, slots := #[.int 127], vm := .none },
  { cls := 32, slots := #[.ref 3, .ref 4, .ref 5, .ref 6, .ref 7, .ref 8, .ref 9, .ref 10, .ref 11, .ref 12, .ref 13, .ref 14, .ref 15, .ref 16, .ref 17, .ref 18, .ref 19, .ref 20, .ref 21, .ref 22, .ref 23, .ref 24, .ref 25, .ref 26, .ref 27, .ref 28, .ref 29, .ref 30, .ref 31, .ref 32, .ref 33, .ref 34, .ref 35, .ref 36, .ref 37, .ref 38, .ref 39, .ref 40, .ref 41, .ref 42, .ref 43, .ref 44, .ref 45, .ref 46, .ref 47, .ref 48, .ref 49, .ref 50, .ref 51, .ref 52, .ref 53, .ref 54, .ref 55, .ref 56, .ref 57, .ref 58, .ref 59, .ref 60, .ref 61, .ref 62, .ref 63, .ref 64, .ref 65, .ref 66, .ref 67, .ref 68, .ref 69, .ref 70, .ref 71, .ref 72, .ref 73, .ref 74, .ref 75, .ref 76, .ref 77, .ref 78, .ref 79, .ref 80, .ref 81, .ref 82, .ref 83, .ref 84, .ref 85, .ref 86, .ref 87, .ref 88, .ref 89, .ref 90, .ref 91, .ref 92, .ref 93, .ref 94, .ref 95, .ref 96, .ref 97, .ref 98, .ref 99, .ref 100, .ref 101, .ref 102, .ref 103, .ref 104, .ref 105, .ref 106, .ref 107, .ref 108, .ref 109, .ref 110, .ref 111, .ref 112, .ref 113, .ref 114, .ref 115, .ref 116, .ref 117, .ref 118, .ref 119, .ref 120, .ref 121, .ref 122, .ref 123, .ref 124, .ref 125, .ref 126, .ref 127, .ref 128, .ref 129, .ref 130, .ref 131, .ref 132, .ref 133, .ref 134, .ref 135, .ref 136, .ref 137, .ref 138, .ref 139, .ref 140, .ref 141, .ref 142, .ref 143, .ref 144, .ref 145, .ref 146, .ref 147, .ref 148, .ref 149, .ref 150, .ref 151, .ref 152, .ref 153, .ref 154, .ref 155, .ref 156, .ref 157, .ref 158, .ref 159, .ref 160, .ref 161, .ref 162, .ref 163, .ref 164, .ref 165, .ref 166, .ref 167, .ref 168, .ref 169, .ref 170, .ref 171, .ref 172, .ref 173, .ref 174, .ref 175, .ref 176, .ref 177, .ref 178, .ref 179, .ref 180, .ref 181, .ref 182, .ref 183, .ref 184, .ref 185, .ref 186, .ref 187, .ref 188, .ref 189, .ref 190, .ref 191, .ref 192, .ref 193, .ref 194, .ref 195, .ref 196, .ref 197, .ref 198, .ref 199, .ref 200, .ref 201, .ref 202, .ref 203, .ref 204, .ref 205, .ref 206, .ref 207, .ref 208, .ref 209, .ref 210, .ref 211, .ref 212, .ref 213, .ref 214, .ref 215, .ref 216, .ref 217, .ref 218, .ref 219, .ref 220, .ref 221, .ref 222, .ref 223, .ref 224, .ref 225, .ref 226, .ref 227, .ref 228, .ref 229, .ref 230, .ref 231, .ref 232, .ref 233, .ref 234, .ref 235, .ref 236, .ref 237, .ref 238, .ref 239, .ref 240, .ref 241, .ref 242, .ref 243, .ref 244, .ref 245, .ref 246, .ref 247, .ref 248, .ref 249, .ref 250, .ref 251, .ref 252, .ref 253, .ref 254, .ref 255, .ref 256, .ref 257, .ref 258], vm := .none },
  { cls := 28, slots := #[.int 0, .int 0, .int 0, .int 0, .int 0, .int 0, .int 0, .int 0, .int 0], vm := .none },
  { cls := 28, slots := #[.int 0, .int 0, .int 0, .int 0, .int 0, .int 0, .int 0, .int 0, .int 0], vm := .none },
  { cls := 8, slots := #[.null, .int 0, .int 0, .null, .ref 260], vm := .none },
  { cls := 8, slots := #[.null, .int 1, .int 0, .null, .ref 261], vm := .none },
  { cls := 31, slots := #[.ref 262, .ref 263], vm := .none },
  { cls := 28, slots := #[.int 49, .int 48, .int 61], vm := .none }]
def classes : Array Class := #[k0, k1, k2, k3, k4, k5, k6, k7, k8, k9, k10, k11, k12, k13, k14, k15, k16, k17, k18, k19, k20, k21, k22, k23, k24, k25, k26, k27, k28, k29, k30, k31, k32]
def interned : List (Array UInt16 × Addr) := []
def slotsUsed : Nat := 560
def theMethod : MethodId := ⟨1, 1⟩
def args0 : Array Value := #[.int 5, .int 6, .int 7, .int 8]
def aboutOver (below : List Frame) : State where
  vm := { classes := classes, interned := interned.toArray }
  heap := heap
  slotsUsed := slotsUsed
  threads := #[{ frames := .invoking theMethod args0 :: below }]
def below0 : List Frame := [.native { method := ⟨0, 0⟩, args := #[] }]
def about1 : State := aboutOver below0
def p0 : Program := .bare "" "" ""
def e0 : Env := launch0.env 0 0 0
theorem w_frames : about1.frames = Frame.invoking theMethod args0 :: below0 := rfl
set_option maxRecDepth 65536 in
theorem w_args : argsFit about1.vm theMethod args0 = true := by decide +kernel
set_option maxRecDepth 65536 in
theorem w_heap : heapFits about1 = true := by decide +kernel
set_option maxRecDepth 65536 in
theorem w_runnable : about1.curStatus? = some .runnable := by decide +kernel
set_option maxRecDepth 65536 in
theorem w_alone : about1.alone = true := by decide +kernel
set_option maxRecDepth 65536 in
theorem w_named : about1.methodNamed? x = some theMethod := by decide +kernel
set_option maxRecDepth 65536 in
theorem w_hears : about1.hears theMethod below0 = true := by decide +kernel
set_option maxRecDepth 65536 in
theorem w_ripe : about1.ripe theMethod args0 below0 = true := by decide +kernel
theorem w_running : about1.status = .running := rfl
set_option maxRecDepth 65536 in
theorem w_room : about1.hasRoom e0.platform room_1 = true :=
  launch0.hasRoom_least _ room_1 (by decide +kernel) (by decide +kernel) (by decide +kernel) (by decide +kernel) (by decide +kernel) (by decide +kernel)
theorem allAtoms_all (ts : List Jvm.Cond) (a : Array Jvm.Value) (st : Jvm.State) : (allAtoms ts).before a st = ts.all (fun c => c.before a st) := by
  induction ts with
  | nil => rfl
  | cons c t ih =>
    show (Jvm.Cond.and c (allAtoms t)).before a st = _
    rw [Jvm.Cond.before_and, ih, List.all_cons]
def words1 : List Jvm.Cond := Jvm.Cond.code x code maxLocals ret :: tables_1
/-- a 'code' word, met by the world's own term for the bytes: nothing is compared byte by byte -/
theorem code_word {y : MethodName} {bytes : ByteArray} {mx : Nat} {rt : Option FieldType} {a : Array Value} {s : State} {m : MethodId} {meth : Method} {c : Code} (h1 : s.methodNamed? y = some m) (h2 : s.vm.method? m = some meth) (h3 : meth.code = some c) (h4 : c.code = bytes)
    (h5 : (c.maxLocals == mx && c.exceptionTable.isEmpty && decide (c.maxStack ≤ mostOperands) && decide (meth.sig.returnType = rt) && !meth.locks && decide (parseMethodDescriptor y.desc = some meth.sig)) = true) : (Jvm.Cond.code y bytes mx rt).before a s = true := by
  simp only [Bool.and_eq_true, beq_iff_eq, Bool.not_eq_true', decide_eq_true_eq] at h5
  obtain ⟨⟨⟨⟨⟨g1, g2⟩, g3⟩, g4⟩, g5⟩, g6⟩ := h5
  simp [Cond.before, Cond.holds, Cond.value, h1, h2, h3, h4, g1, g2, g3, g4, g5, g6]
def isCode : Jvm.Cond → Bool
  | .code _ _ _ _ => true
  | _ => false
theorem all_split {L : List Jvm.Cond} {P : Jvm.Cond → Bool} (h1 : L.all (fun c => isCode c || P c) = true) (h2 : ∀ c ∈ L.filter isCode, P c = true) : L.all P = true := by
  refine List.all_eq_true.mpr fun c hc => ?_
  have h := List.all_eq_true.mp h1 c hc
  rcases Bool.eq_false_or_eq_true (isCode c) with hi | hi
  · exact h2 c (List.mem_filter.mpr ⟨hc, hi⟩)
  · simpa [hi] using h
set_option maxRecDepth 65536 in
theorem w_c0 : (Jvm.Cond.code x code maxLocals ret).before args0 about1 = true := code_word (m := ⟨1, 1⟩) (meth := k1m1) (c := k1c1) (by decide +kernel) rfl rfl rfl (by decide +kernel)
set_option maxRecDepth 65536 in
theorem w_c1 : (Jvm.Cond.code ({ cls := "com/example/halyard/halyard/fix/FixMessage", name := "parseUngarbled", desc := "([B)Lcom/example/halyard/halyard/fix/FixMessage;" } : Jvm.MethodName) prog_27_method_3_code (1 : Nat) (Option.some (Jvm.ClassFile.FieldType.object "com/example/halyard/halyard/fix/FixMessage"))).before args0 about1 = true := code_word (m := ⟨2, 1⟩) (meth := k2m1) (c := k2c1) (by decide +kernel) rfl rfl rfl (by decide +kernel)
set_option maxRecDepth 65536 in
theorem w_c2 : (Jvm.Cond.code ({ cls := "com/example/halyard/halyard/fix/FixMessage", name := "parse", desc := "([BZ)Lcom/example/halyard/halyard/fix/FixMessage;" } : Jvm.MethodName) prog_27_method_4_code (14 : Nat) (Option.some (Jvm.ClassFile.FieldType.object "com/example/halyard/halyard/fix/FixMessage"))).before args0 about1 = true := code_word (m := ⟨2, 2⟩) (meth := k2m2) (c := k2c2) (by decide +kernel) rfl rfl rfl (by decide +kernel)
set_option maxRecDepth 65536 in
theorem w_c3 : (Jvm.Cond.code ({ cls := "java/lang/Math", name := "max", desc := "(II)I" } : Jvm.MethodName) jdk_29_method_65_code (2 : Nat) (Option.some Jvm.ClassFile.FieldType.int)).before args0 about1 = true := code_word (m := ⟨3, 1⟩) (meth := k3m1) (c := k3c1) (by decide +kernel) rfl rfl rfl (by decide +kernel)
set_option maxRecDepth 65536 in
theorem w_c4 : (Jvm.Cond.code ({ cls := "com/example/halyard/halyard/fix/FixMessage", name := "<init>", desc := "([BI[I[I[IIZ)V" } : Jvm.MethodName) prog_27_method_1_code (8 : Nat) (Option.none : Option Jvm.ClassFile.FieldType)).before args0 about1 = true := code_word (m := ⟨2, 0⟩) (meth := k2m0) (c := k2c0) (by decide +kernel) rfl rfl rfl (by decide +kernel)
set_option maxRecDepth 65536 in
theorem w_c5 : (Jvm.Cond.code ({ cls := "java/lang/Object", name := "<init>", desc := "()V" } : Jvm.MethodName) object_method_1_code (1 : Nat) (Option.none : Option Jvm.ClassFile.FieldType)).before args0 about1 = true := code_word (m := ⟨0, 0⟩) (meth := k0m0) (c := k0c0) (by decide +kernel) rfl rfl rfl (by decide +kernel)
set_option maxRecDepth 65536 in
theorem w_c6 : (Jvm.Cond.code ({ cls := "com/example/halyard/halyard/fix/FixMessage", name := "checkFraming", desc := "(IZ)Lcom/example/halyard/halyard/fix/FixVersion;" } : Jvm.MethodName) prog_27_method_5_code (8 : Nat) (Option.some (Jvm.ClassFile.FieldType.object "com/example/halyard/halyard/fix/FixVersion"))).before args0 about1 = true := code_word (m := ⟨2, 3⟩) (meth := k2m3) (c := k2c3) (by decide +kernel) rfl rfl rfl (by decide +kernel)
set_option maxRecDepth 65536 in
theorem w_c7 : (Jvm.Cond.code ({ cls := "com/example/halyard/halyard/fix/FixVersion", name := "ofBeginString", desc := "([BII)Lcom/example/halyard/halyard/fix/FixVersion;" } : Jvm.MethodName) prog_28_method_6_code (7 : Nat) (Option.some (Jvm.ClassFile.FieldType.object "com/example/halyard/halyard/fix/FixVersion"))).before args0 about1 = true := code_word (m := ⟨8, 0⟩) (meth := k8m0) (c := k8c0) (by decide +kernel) rfl rfl rfl (by decide +kernel)
set_option maxRecDepth 65536 in
theorem w_c8 : (Jvm.Cond.code ({ cls := "java/util/Arrays", name := "equals", desc := "([BII[BII)Z" } : Jvm.MethodName) jdk_65_method_90_code (8 : Nat) (Option.some Jvm.ClassFile.FieldType.boolean)).before args0 about1 = true := code_word (m := ⟨9, 2⟩) (meth := k9m2) (c := k9c2) (by decide +kernel) rfl rfl rfl (by decide +kernel)
set_option maxRecDepth 65536 in
theorem w_c9 : (Jvm.Cond.code ({ cls := "java/util/Arrays", name := "rangeCheck", desc := "(III)V" } : Jvm.MethodName) jdk_65_method_30_code (3 : Nat) (Option.none : Option Jvm.ClassFile.FieldType)).before args0 about1 = true := code_word (m := ⟨9, 1⟩) (meth := k9m1) (c := k9c1) (by decide +kernel) rfl rfl rfl (by decide +kernel)
set_option maxRecDepth 65536 in
theorem w_c10 : (Jvm.Cond.code ({ cls := "com/example/halyard/halyard/fix/FixMessage", name := "valueIs", desc := "(III)Z" } : Jvm.MethodName) prog_27_method_6_code (7 : Nat) (Option.some Jvm.ClassFile.FieldType.boolean)).before args0 about1 = true := code_word (m := ⟨2, 4⟩) (meth := k2m4) (c := k2c4) (by decide +kernel) rfl rfl rfl (by decide +kernel)
set_option maxRecDepth 65536 in
theorem w_c11 : (Jvm.Cond.code ({ cls := "com/example/halyard/halyard/fix/FixMessage", name := "sum", desc := "([BII)I" } : Jvm.MethodName) prog_27_method_9_code (5 : Nat) (Option.some Jvm.ClassFile.FieldType.int)).before args0 about1 = true := code_word (m := ⟨2, 5⟩) (meth := k2m5) (c := k2c5) (by decide +kernel) rfl rfl rfl (by decide +kernel)
set_option maxRecDepth 65536 in
theorem w_c12 : (Jvm.Cond.code ({ cls := "com/example/halyard/halyard/fix/FixMessage", name := "indexOf", desc := "(I)I" } : Jvm.MethodName) prog_27_method_14_code (3 : Nat) (Option.some Jvm.ClassFile.FieldType.int)).before args0 about1 = true := code_word (m := ⟨2, 6⟩) (meth := k2m6) (c := k2c6) (by decide +kernel) rfl rfl rfl (by decide +kernel)
set_option maxRecDepth 65536 in
theorem w_c13 : (Jvm.Cond.code ({ cls := "com/example/halyard/halyard/gateway/HeldMessages", name := "<init>", desc := "()V" } : Jvm.MethodName) prog_43_method_1_code (1 : Nat) (Option.none : Option Jvm.ClassFile.FieldType)).before args0 about1 = true := code_word (m := ⟨10, 0⟩) (meth := k10m0) (c := k10c0) (by decide +kernel) rfl rfl rfl (by decide +kernel)
set_option maxRecDepth 65536 in
theorem w_c14 : (Jvm.Cond.code ({ cls := "java/util/TreeMap", name := "<init>", desc := "()V" } : Jvm.MethodName) jdk_2729_method_1_code (1 : Nat) (Option.none : Option Jvm.ClassFile.FieldType)).before args0 about1 = true := code_word (m := ⟨17, 0⟩) (meth := k17m0) (c := k17c0) (by decide +kernel) rfl rfl rfl (by decide +kernel)
set_option maxRecDepth 65536 in
theorem w_c15 : (Jvm.Cond.code ({ cls := "java/util/AbstractMap", name := "<init>", desc := "()V" } : Jvm.MethodName) jdk_71_method_1_code (1 : Nat) (Option.none : Option Jvm.ClassFile.FieldType)).before args0 about1 = true := code_word (m := ⟨12, 0⟩) (meth := k12m0) (c := k12c0) (by decide +kernel) rfl rfl rfl (by decide +kernel)
set_option maxRecDepth 65536 in
theorem w_c16 : (Jvm.Cond.code ({ cls := "com/example/halyard/halyard/gateway/HeldMessages", name := "hold", desc := "(ILcom/example/halyard/halyard/fix/FixMessage;Z)V" } : Jvm.MethodName) prog_43_method_2_code (4 : Nat) (Option.none : Option Jvm.ClassFile.FieldType)).before args0 about1 = true := code_word (m := ⟨10, 1⟩) (meth := k10m1) (c := k10c1) (by decide +kernel) rfl rfl rfl (by decide +kernel)
set_option maxRecDepth 65536 in
theorem w_c17 : (Jvm.Cond.code ({ cls := "com/example/halyard/halyard/fix/FixMessage", name := "length", desc := "()I" } : Jvm.MethodName) prog_27_method_17_code (1 : Nat) (Option.some Jvm.ClassFile.FieldType.int)).before args0 about1 = true := code_word (m := ⟨2, 7⟩) (meth := k2m7) (c := k2c7) (by decide +kernel) rfl rfl rfl (by decide +kernel)
set_option maxRecDepth 65536 in
theorem w_c18 : (Jvm.Cond.code ({ cls := "java/lang/Integer", name := "valueOf", desc := "(I)Ljava/lang/Integer;" } : Jvm.MethodName) jdk_33_method_22_code (1 : Nat) (Option.some (Jvm.ClassFile.FieldType.object "java/lang/Integer"))).before args0 about1 = true := code_word (m := ⟨20, 0⟩) (meth := k20m0) (c := k20c0) (by decide +kernel) rfl rfl rfl (by decide +kernel)
set_option maxRecDepth 65536 in
theorem w_c19 : (Jvm.Cond.code ({ cls := "com/example/halyard/halyard/gateway/HeldMessages$Held", name := "<init>", desc := "(Lcom/example/halyard/halyard/fix/FixMessage;Z)V" } : Jvm.MethodName) prog_44_method_1_code (3 : Nat) (Option.none : Option Jvm.ClassFile.FieldType)).before args0 about1 = true := code_word (m := ⟨23, 0⟩) (meth := k23m0) (c := k23c0) (by decide +kernel) rfl rfl rfl (by decide +kernel)
set_option maxRecDepth 65536 in
theorem w_c20 : (Jvm.Cond.code ({ cls := "java/lang/Record", name := "<init>", desc := "()V" } : Jvm.MethodName) jdk_30_method_1_code (1 : Nat) (Option.none : Option Jvm.ClassFile.FieldType)).before args0 about1 = true := code_word (m := ⟨22, 0⟩) (meth := k22m0) (c := k22c0) (by decide +kernel) rfl rfl rfl (by decide +kernel)
set_option maxRecDepth 65536 in
theorem w_c21 : (Jvm.Cond.code ({ cls := "java/util/TreeMap", name := "putIfAbsent", desc := "(Ljava/lang/Object;Ljava/lang/Object;)Ljava/lang/Object;" } : Jvm.MethodName) jdk_2729_method_22_code (3 : Nat) (Option.some (Jvm.ClassFile.FieldType.object "java/lang/Object"))).before args0 about1 = true := code_word (m := ⟨17, 1⟩) (meth := k17m1) (c := k17c1) (by decide +kernel) rfl rfl rfl (by decide +kernel)
set_option maxRecDepth 65536 in
theorem w_c22 : (Jvm.Cond.code ({ cls := "java/util/TreeMap", name := "put", desc := "(Ljava/lang/Object;Ljava/lang/Object;Z)Ljava/lang/Object;" } : Jvm.MethodName) jdk_2729_method_31_code (10 : Nat) (Option.some (Jvm.ClassFile.FieldType.object "java/lang/Object"))).before args0 about1 = true := code_word (m := ⟨17, 4⟩) (meth := k17m4) (c := k17c4) (by decide +kernel) rfl rfl rfl (by decide +kernel)
set_option maxRecDepth 65536 in
theorem w_c23 : (Jvm.Cond.code ({ cls := "java/util/TreeMap", name := "addEntryToEmptyMap", desc := "(Ljava/lang/Object;Ljava/lang/Object;)V" } : Jvm.MethodName) jdk_2729_method_30_code (3 : Nat) (Option.none : Option Jvm.ClassFile.FieldType)).before args0 about1 = true := code_word (m := ⟨17, 3⟩) (meth := k17m3) (c := k17c3) (by decide +kernel) rfl rfl rfl (by decide +kernel)
set_option maxRecDepth 65536 in
theorem w_c24 : (Jvm.Cond.code ({ cls := "java/util/TreeMap", name := "compare", desc := "(Ljava/lang/Object;Ljava/lang/Object;)I" } : Jvm.MethodName) jdk_2729_method_67_code (3 : Nat) (Option.some Jvm.ClassFile.FieldType.int)).before args0 about1 = true := code_word (m := ⟨17, 5⟩) (meth := k17m5) (c := k17c5) (by decide +kernel) rfl rfl rfl (by decide +kernel)
set_option maxRecDepth 65536 in
theorem w_c25 : (Jvm.Cond.code ({ cls := "java/lang/Integer", name := "compareTo", desc := "(Ljava/lang/Object;)I" } : Jvm.MethodName) jdk_33_method_63_code (2 : Nat) (Option.some Jvm.ClassFile.FieldType.int)).before args0 about1 = true := code_word (m := ⟨20, 4⟩) (meth := k20m4) (c := k20c4) (by decide +kernel) rfl rfl rfl (by decide +kernel)
set_option maxRecDepth 65536 in
theorem w_c26 : (Jvm.Cond.code ({ cls := "java/lang/Integer", name := "compareTo", desc := "(Ljava/lang/Integer;)I" } : Jvm.MethodName) jdk_33_method_39_code (2 : Nat) (Option.some Jvm.ClassFile.FieldType.int)).before args0 about1 = true := code_word (m := ⟨20, 2⟩) (meth := k20m2) (c := k20c2) (by decide +kernel) rfl rfl rfl (by decide +kernel)
set_option maxRecDepth 65536 in
theorem w_c27 : (Jvm.Cond.code ({ cls := "java/lang/Integer", name := "compare", desc := "(II)I" } : Jvm.MethodName) jdk_33_method_40_code (2 : Nat) (Option.some Jvm.ClassFile.FieldType.int)).before args0 about1 = true := code_word (m := ⟨20, 3⟩) (meth := k20m3) (c := k20c3) (by decide +kernel) rfl rfl rfl (by decide +kernel)
set_option maxRecDepth 65536 in
theorem w_c28 : (Jvm.Cond.code ({ cls := "java/util/TreeMap$Entry", name := "<init>", desc := "(Ljava/lang/Object;Ljava/lang/Object;Ljava/util/TreeMap$Entry;)V" } : Jvm.MethodName) jdk_2736_method_1_code (4 : Nat) (Option.none : Option Jvm.ClassFile.FieldType)).before args0 about1 = true := code_word (m := ⟨25, 0⟩) (meth := k25m0) (c := k25c0) (by decide +kernel) rfl rfl rfl (by decide +kernel)
set_option maxRecDepth 65536 in
theorem w_c29 : (Jvm.Cond.code ({ cls := "java/util/Objects", name := "requireNonNull", desc := "(Ljava/lang/Object;)Ljava/lang/Object;" } : Jvm.MethodName) jdk_31_method_10_code (1 : Nat) (Option.some (Jvm.ClassFile.FieldType.object "java/lang/Object"))).before args0 about1 = true := code_word (m := ⟨26, 1⟩) (meth := k26m1) (c := k26c1) (by decide +kernel) rfl rfl rfl (by decide +kernel)
set_option maxRecDepth 65536 in
theorem w_c30 : (Jvm.Cond.code ({ cls := "java/util/TreeMap", name := "addEntry", desc := "(Ljava/lang/Object;Ljava/lang/Object;Ljava/util/TreeMap$Entry;Z)V" } : Jvm.MethodName) jdk_2729_method_29_code (6 : Nat) (Option.none : Option Jvm.ClassFile.FieldType)).before args0 about1 = true := code_word (m := ⟨17, 2⟩) (meth := k17m2) (c := k17c2) (by decide +kernel) rfl rfl rfl (by decide +kernel)
set_option maxRecDepth 65536 in
theorem w_c31 : (Jvm.Cond.code ({ cls := "java/util/TreeMap", name := "fixAfterInsertion", desc := "(Ljava/util/TreeMap$Entry;)V" } : Jvm.MethodName) jdk_2729_method_83_code (3 : Nat) (Option.none : Option Jvm.ClassFile.FieldType)).before args0 about1 = true := code_word (m := ⟨17, 6⟩) (meth := k17m6) (c := k17c6) (by decide +kernel) rfl rfl rfl (by decide +kernel)
set_option maxRecDepth 65536 in
theorem w_c32 : (Jvm.Cond.code ({ cls := "com/example/halyard/halyard/gateway/HeldMessages", name := "gapNotAskedFor", desc := "(I)Z" } : Jvm.MethodName) prog_43_method_4_code (2 : Nat) (Option.some Jvm.ClassFile.FieldType.boolean)).before args0 about1 = true := code_word (m := ⟨10, 2⟩) (meth := k10m2) (c := k10c2) (by decide +kernel) rfl rfl rfl (by decide +kernel)
set_option maxRecDepth 65536 in
theorem w_c33 : (Jvm.Cond.code ({ cls := "com/example/halyard/halyard/gateway/HeldMessages", name := "askedForGap", desc := "()V" } : Jvm.MethodName) prog_43_method_5_code (1 : Nat) (Option.none : Option Jvm.ClassFile.FieldType)).before args0 about1 = true := code_word (m := ⟨10, 3⟩) (meth := k10m3) (c := k10c3) (by decide +kernel) rfl rfl rfl (by decide +kernel)
set_option maxRecDepth 65536 in
theorem w_c34 : (Jvm.Cond.code ({ cls := "java/lang/Integer", name := "<init>", desc := "(I)V" } : Jvm.MethodName) jdk_33_method_23_code (2 : Nat) (Option.none : Option Jvm.ClassFile.FieldType)).before args0 about1 = true := code_word (m := ⟨20, 1⟩) (meth := k20m1) (c := k20c1) (by decide +kernel) rfl rfl rfl (by decide +kernel)
set_option maxRecDepth 65536 in
theorem w_c35 : (Jvm.Cond.code ({ cls := "java/lang/Number", name := "<init>", desc := "()V" } : Jvm.MethodName) jdk_18_method_1_code (1 : Nat) (Option.none : Option Jvm.ClassFile.FieldType)).before args0 about1 = true := code_word (m := ⟨18, 0⟩) (meth := k18m0) (c := k18c0) (by decide +kernel) rfl rfl rfl (by decide +kernel)
def codes1 : List Jvm.Cond := [Jvm.Cond.code x code maxLocals ret, Jvm.Cond.code ({ cls := "com/example/halyard/halyard/fix/FixMessage", name := "parseUngarbled", desc := "([B)Lcom/example/halyard/halyard/fix/FixMessage;" } : Jvm.MethodName) prog_27_method_3_code (1 : Nat) (Option.some (Jvm.ClassFile.FieldType.object "com/example/halyard/halyard/fix/FixMessage")), Jvm.Cond.code ({ cls := "com/example/halyard/halyard/fix/FixMessage", name := "parse", desc := "([BZ)Lcom/example/halyard/halyard/fix/FixMessage;" } : Jvm.MethodName) prog_27_method_4_code (14 : Nat) (Option.some (Jvm.ClassFile.FieldType.object "com/example/halyard/halyard/fix/FixMessage")), Jvm.Cond.code ({ cls := "java/lang/Math", name := "max", desc := "(II)I" } : Jvm.MethodName) jdk_29_method_65_code (2 : Nat) (Option.some Jvm.ClassFile.FieldType.int), Jvm.Cond.code ({ cls := "com/example/halyard/halyard/fix/FixMessage", name := "<init>", desc := "([BI[I[I[IIZ)V" } : Jvm.MethodName) prog_27_method_1_code (8 : Nat) (Option.none : Option Jvm.ClassFile.FieldType), Jvm.Cond.code ({ cls := "java/lang/Object", name := "<init>", desc := "()V" } : Jvm.MethodName) object_method_1_code (1 : Nat) (Option.none : Option Jvm.ClassFile.FieldType), Jvm.Cond.code ({ cls := "com/example/halyard/halyard/fix/FixMessage", name := "checkFraming", desc := "(IZ)Lcom/example/halyard/halyard/fix/FixVersion;" } : Jvm.MethodName) prog_27_method_5_code (8 : Nat) (Option.some (Jvm.ClassFile.FieldType.object "com/example/halyard/halyard/fix/FixVersion")), Jvm.Cond.code ({ cls := "com/example/halyard/halyard/fix/FixVersion", name := "ofBeginString", desc := "([BII)Lcom/example/halyard/halyard/fix/FixVersion;" } : Jvm.MethodName) prog_28_method_6_code (7 : Nat) (Option.some (Jvm.ClassFile.FieldType.object "com/example/halyard/halyard/fix/FixVersion")), Jvm.Cond.code ({ cls := "java/util/Arrays", name := "equals", desc := "([BII[BII)Z" } : Jvm.MethodName) jdk_65_method_90_code (8 : Nat) (Option.some Jvm.ClassFile.FieldType.boolean), Jvm.Cond.code ({ cls := "java/util/Arrays", name := "rangeCheck", desc := "(III)V" } : Jvm.MethodName) jdk_65_method_30_code (3 : Nat) (Option.none : Option Jvm.ClassFile.FieldType), Jvm.Cond.code ({ cls := "com/example/halyard/halyard/fix/FixMessage", name := "valueIs", desc := "(III)Z" } : Jvm.MethodName) prog_27_method_6_code (7 : Nat) (Option.some Jvm.ClassFile.FieldType.boolean), Jvm.Cond.code ({ cls := "com/example/halyard/halyard/fix/FixMessage", name := "sum", desc := "([BII)I" } : Jvm.MethodName) prog_27_method_9_code (5 : Nat) (Option.some Jvm.ClassFile.FieldType.int), Jvm.Cond.code ({ cls := "com/example/halyard/halyard/fix/FixMessage", name := "indexOf", desc := "(I)I" } : Jvm.MethodName) prog_27_method_14_code (3 : Nat) (Option.some Jvm.ClassFile.FieldType.int), Jvm.Cond.code ({ cls := "com/example/halyard/halyard/gateway/HeldMessages", name := "<init>", desc := "()V" } : Jvm.MethodName) prog_43_method_1_code (1 : Nat) (Option.none : Option Jvm.ClassFile.FieldType), Jvm.Cond.code ({ cls := "java/util/TreeMap", name := "<init>", desc := "()V" } : Jvm.MethodName) jdk_2729_method_1_code (1 : Nat) (Option.none : Option Jvm.ClassFile.FieldType), Jvm.Cond.code ({ cls := "java/util/AbstractMap", name := "<init>", desc := "()V" } : Jvm.MethodName) jdk_71_method_1_code (1 : Nat) (Option.none : Option Jvm.ClassFile.FieldType), Jvm.Cond.code ({ cls := "com/example/halyard/halyard/gateway/HeldMessages", name := "hold", desc := "(ILcom/example/halyard/halyard/fix/FixMessage;Z)V" } : Jvm.MethodName) prog_43_method_2_code (4 : Nat) (Option.none : Option Jvm.ClassFile.FieldType), Jvm.Cond.code ({ cls := "com/example/halyard/halyard/fix/FixMessage", name := "length", desc := "()I" } : Jvm.MethodName) prog_27_method_17_code (1 : Nat) (Option.some Jvm.ClassFile.FieldType.int), Jvm.Cond.code ({ cls := "java/lang/Integer", name := "valueOf", desc := "(I)Ljava/lang/Integer;" } : Jvm.MethodName) jdk_33_method_22_code (1 : Nat) (Option.some (Jvm.ClassFile.FieldType.object "java/lang/Integer")), Jvm.Cond.code ({ cls := "com/example/halyard/halyard/gateway/HeldMessages$Held", name := "<init>", desc := "(Lcom/example/halyard/halyard/fix/FixMessage;Z)V" } : Jvm.MethodName) prog_44_method_1_code (3 : Nat) (Option.none : Option Jvm.ClassFile.FieldType), Jvm.Cond.code ({ cls := "java/lang/Record", name := "<init>", desc := "()V" } : Jvm.MethodName) jdk_30_method_1_code (1 : Nat) (Option.none : Option Jvm.ClassFile.FieldType), Jvm.Cond.code ({ cls := "java/util/TreeMap", name := "putIfAbsent", desc := "(Ljava/lang/Object;Ljava/lang/Object;)Ljava/lang/Object;" } : Jvm.MethodName) jdk_2729_method_22_code (3 : Nat) (Option.some (Jvm.ClassFile.FieldType.object "java/lang/Object")), Jvm.Cond.code ({ cls := "java/util/TreeMap", name := "put", desc := "(Ljava/lang/Object;Ljava/lang/Object;Z)Ljava/lang/Object;" } : Jvm.MethodName) jdk_2729_method_31_code (10 : Nat) (Option.some (Jvm.ClassFile.FieldType.object "java/lang/Object")), Jvm.Cond.code ({ cls := "java/util/TreeMap", name := "addEntryToEmptyMap", desc := "(Ljava/lang/Object;Ljava/lang/Object;)V" } : Jvm.MethodName) jdk_2729_method_30_code (3 : Nat) (Option.none : Option Jvm.ClassFile.FieldType), Jvm.Cond.code ({ cls := "java/util/TreeMap", name := "compare", desc := "(Ljava/lang/Object;Ljava/lang/Object;)I" } : Jvm.MethodName) jdk_2729_method_67_code (3 : Nat) (Option.some Jvm.ClassFile.FieldType.int), Jvm.Cond.code ({ cls := "java/lang/Integer", name := "compareTo", desc := "(Ljava/lang/Object;)I" } : Jvm.MethodName) jdk_33_method_63_code (2 : Nat) (Option.some Jvm.ClassFile.FieldType.int), Jvm.Cond.code ({ cls := "java/lang/Integer", name := "compareTo", desc := "(Ljava/lang/Integer;)I" } : Jvm.MethodName) jdk_33_method_39_code (2 : Nat) (Option.some Jvm.ClassFile.FieldType.int), Jvm.Cond.code ({ cls := "java/lang/Integer", name := "compare", desc := "(II)I" } : Jvm.MethodName) jdk_33_method_40_code (2 : Nat) (Option.some Jvm.ClassFile.FieldType.int), Jvm.Cond.code ({ cls := "java/util/TreeMap$Entry", name := "<init>", desc := "(Ljava/lang/Object;Ljava/lang/Object;Ljava/util/TreeMap$Entry;)V" } : Jvm.MethodName) jdk_2736_method_1_code (4 : Nat) (Option.none : Option Jvm.ClassFile.FieldType), Jvm.Cond.code ({ cls := "java/util/Objects", name := "requireNonNull", desc := "(Ljava/lang/Object;)Ljava/lang/Object;" } : Jvm.MethodName) jdk_31_method_10_code (1 : Nat) (Option.some (Jvm.ClassFile.FieldType.object "java/lang/Object")), Jvm.Cond.code ({ cls := "java/util/TreeMap", name := "addEntry", desc := "(Ljava/lang/Object;Ljava/lang/Object;Ljava/util/TreeMap$Entry;Z)V" } : Jvm.MethodName) jdk_2729_method_29_code (6 : Nat) (Option.none : Option Jvm.ClassFile.FieldType), Jvm.Cond.code ({ cls := "java/util/TreeMap", name := "fixAfterInsertion", desc := "(Ljava/util/TreeMap$Entry;)V" } : Jvm.MethodName) jdk_2729_method_83_code (3 : Nat) (Option.none : Option Jvm.ClassFile.FieldType), Jvm.Cond.code ({ cls := "com/example/halyard/halyard/gateway/HeldMessages", name := "gapNotAskedFor", desc := "(I)Z" } : Jvm.MethodName) prog_43_method_4_code (2 : Nat) (Option.some Jvm.ClassFile.FieldType.boolean), Jvm.Cond.code ({ cls := "com/example/halyard/halyard/gateway/HeldMessages", name := "askedForGap", desc := "()V" } : Jvm.MethodName) prog_43_method_5_code (1 : Nat) (Option.none : Option Jvm.ClassFile.FieldType), Jvm.Cond.code ({ cls := "java/lang/Integer", name := "<init>", desc := "(I)V" } : Jvm.MethodName) jdk_33_method_23_code (2 : Nat) (Option.none : Option Jvm.ClassFile.FieldType), Jvm.Cond.code ({ cls := "java/lang/Number", name := "<init>", desc := "()V" } : Jvm.MethodName) jdk_18_method_1_code (1 : Nat) (Option.none : Option Jvm.ClassFile.FieldType)]
set_option maxRecDepth 65536 in
theorem codes_eq : words1.filter isCode = codes1 := rfl
theorem w_codes : ∀ c ∈ words1.filter isCode, c.before args0 about1 = true := by
  rw [codes_eq]
  intro c hc
  simp only [codes1, List.mem_cons, List.not_mem_nil, or_false] at hc
  rcases hc with rfl | rfl | rfl | rfl | rfl | rfl | rfl | rfl | rfl | rfl | rfl | rfl | rfl | rfl | rfl | rfl | rfl | rfl | rfl | rfl | rfl | rfl | rfl | rfl | rfl | rfl | rfl | rfl | rfl | rfl | rfl | rfl | rfl | rfl | rfl | rfl
  · exact w_c0
  · exact w_c1
  · exact w_c2
  · exact w_c3
  · exact w_c4
  · exact w_c5
  · exact w_c6
  · exact w_c7
  · exact w_c8
  · exact w_c9
  · exact w_c10
  · exact w_c11
  · exact w_c12
  · exact w_c13
  · exact w_c14
  · exact w_c15
  · exact w_c16
  · exact w_c17
  · exact w_c18
  · exact w_c19
  · exact w_c20
  · exact w_c21
  · exact w_c22
  · exact w_c23
  · exact w_c24
  · exact w_c25
  · exact w_c26
  · exact w_c27
  · exact w_c28
  · exact w_c29
  · exact w_c30
  · exact w_c31
  · exact w_c32
  · exact w_c33
  · exact w_c34
  · exact w_c35
set_option maxRecDepth 65536 in
theorem w_t1 : (words1.take 24).all (fun c => isCode c || c.before args0 about1) = true := by decide +kernel
set_option maxRecDepth 65536 in
theorem w_t2 : ((words1.drop 24).take 24).all (fun c => isCode c || c.before args0 about1) = true := by decide +kernel
set_option maxRecDepth 65536 in
theorem w_t3 : (((words1.drop 24).drop 24).take 24).all (fun c => isCode c || c.before args0 about1) = true := by decide +kernel
set_option maxRecDepth 65536 in
theorem w_t4 : ((((words1.drop 24).drop 24).drop 24).take 24).all (fun c => isCode c || c.before args0 about1) = true := by decide +kernel
set_option maxRecDepth 65536 in
theorem w_t5 : (((((words1.drop 24).drop 24).drop 24).drop 24).take 24).all (fun c => isCode c || c.before args0 about1) = true := by decide +kernel
set_option maxRecDepth 65536 in
theorem w_t6 : ((((((words1.drop 24).drop 24).drop 24).drop 24).drop 24).take 24).all (fun c => isCode c || c.before args0 about1) = true := by decide +kernel
set_option maxRecDepth 65536 in
theorem w_t7 : (((((((words1.drop 24).drop 24).drop 24).drop 24).drop 24).drop 24).take 24).all (fun c => isCode c || c.before args0 about1) = true := by decide +kernel
set_option maxRecDepth 65536 in
theorem w_t8 : ((((((((words1.drop 24).drop 24).drop 24).drop 24).drop 24).drop 24).drop 24).take 24).all (fun c => isCode c || c.before args0 about1) = true := by decide +kernel
set_option maxRecDepth 65536 in
theorem w_t9 : (((((((((words1.drop 24).drop 24).drop 24).drop 24).drop 24).drop 24).drop 24).drop 24).take 24).all (fun c => isCode c || c.before args0 about1) = true := by decide +kernel
set_option maxRecDepth 65536 in
theorem w_t10 : ((((((((((words1.drop 24).drop 24).drop 24).drop 24).drop 24).drop 24).drop 24).drop 24).drop 24).take 24).all (fun c => isCode c || c.before args0 about1) = true := by decide +kernel
set_option maxRecDepth 65536 in
theorem w_t11 : ((((((((((words1.drop 24).drop 24).drop 24).drop 24).drop 24).drop 24).drop 24).drop 24).drop 24).drop 24).all (fun c => isCode c || c.before args0 about1) = true := by decide +kernel
theorem w_tables : (allAtoms (Jvm.Cond.code x code maxLocals ret :: tables_1)).before args0 about1 = true := by
  rw [allAtoms_all]
  show words1.all (fun c => c.before args0 about1) = true
  refine all_split ?_ w_codes
  rw [← List.take_append_drop 24 words1, List.all_append, w_t1, ← List.take_append_drop 24 (words1.drop 24), List.all_append, w_t2, ← List.take_append_drop 24 ((words1.drop 24).drop 24), List.all_append, w_t3, ← List.take_append_drop 24 (((words1.drop 24).drop 24).drop 24), List.all_append, w_t4, ← List.take_append_drop 24 ((((words1.drop 24).drop 24).drop 24).drop 24), List.all_append, w_t5, ← List.take_append_drop 24 (((((words1.drop 24).drop 24).drop 24).drop 24).drop 24), List.all_append, w_t6, ← List.take_append_drop 24 ((((((words1.drop 24).drop 24).drop 24).drop 24).drop 24).drop 24), List.all_append, w_t7, ← List.take_append_drop 24 (((((((words1.drop 24).drop 24).drop 24).drop 24).drop 24).drop 24).drop 24), List.all_append, w_t8, ← List.take_append_drop 24 ((((((((words1.drop 24).drop 24).drop 24).drop 24).drop 24).drop 24).drop 24).drop 24), List.all_append, w_t9, ← List.take_append_drop 24 (((((((((words1.drop 24).drop 24).drop 24).drop 24).drop 24).drop 24).drop 24).drop 24).drop 24), List.all_append, w_t10, w_t11]
  rfl
set_option maxRecDepth 65536 in
theorem w_rest : rest_1_c.before args0 about1 = true := by decide +kernel
set_option maxRecDepth 65536 in
theorem w_case : (Jvm.Cond.and given_1 narrow_1).before args0 about1 = true := by decide +kernel
theorem w_applies : (headSpec (Jvm.Cond.code x code maxLocals ret :: tables_1) room_1).applies x e0.platform about1 = true :=
  (Spec.applies_iff w_frames).mpr ⟨w_running, w_runnable, w_alone, w_named, w_hears, w_ripe, w_room, w_tables⟩
theorem atStart : AtStart classFile x code maxLocals ret World_1 tables_1 room_1 Calls_1 rest_1 Pre_1 launch0 p0 e0 about1 theMethod args0 below0 :=
  ⟨lists_1, trivial, launch0.admits_env _ _ _, launch0.least_env, fairChoices_fair.cas, fairChoices_fair.clock, w_frames, w_args, w_heap, w_applies, trivial, w_rest, w_case⟩
end start1
theorem witness_1 : WitnessClaimed_1 := ⟨start1.p0, start1.e0, start1.about1, start1.theMethod, start1.args0, start1.below0, start1.atStart⟩
end Jvm.Pilot.@@N@@
